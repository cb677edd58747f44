import PyProof.Rows.All
import Wide.All
import OpenK.AllK
import Wide.FinOn
import Lean
import PySem.Challenge.RW_jp0056_01
set_option autoImplicit false
set_option Elab.async false
set_option maxRecDepth 100000
set_option maxHeartbeats 4000000
set_option linter.all false
set_option bootstrap.genMatcherCode false
set_option genSizeOf false
set_option tactic.hygienic false
open PySem PySem.W PyProof.Rows PySem.Calls
open _root_.List renaming mem_append_right->Aa,mem_append_left->Ah,length_append->Aj,mem_append->Ak,getElem?_eq_some_iff->Al,length_map->As,append_assoc->Ba,getElem?_map->Bg,mem_singleton->Bi,map_append->Bk,getElem?_eq_getElem->Bp,mem_map->Bq,length_singleton->Br,sublist_append_right->Bs,length_filter_le->By,Perm->Bz,mem_cons->Cj,map_cons->Ck,append_nil->Cr,mem_filter->Cw,mem_map_of_mem->Cz,sublist_append_of_sublist_right->Dc,getD_eq_getElem?_getD->Df,range'->Di,getElem?_eq_none->Du,length_range->Dy,map_map->Ei,range->Er,take_length->Es,perm_append_comm->Fa,nodup_cons->Fe,filter_append->Ff,mem_of_getElem?->Fj,perm_middle->Fl,mem_flatMap->Fm,take_left'->Fn,getElem?_append_left->Ft,nil_append->Fw,length_take->Fx,length_cons->Fy,all_eq_true->Fz,map_congr_left->Gk,filter_cons->Gq,flatMap_cons->Ha,getElem?_set_ne->Hg,getElem?_append_right->Hh,any_eq_true->Hi,find?_cons->Ho,cons_append->Hv,nodup_append->Ih,length->Ii,pairwise_cons->Io,cons->Ja,getElem?_set->Jc,filter_congr->Jd,count_append->Je,flatMap_append->Jl,length_range'->Kd,filter_map->Kl,count_cons->Kn,map_set->Kx,map_nil->Ky,ext_getElem?->La,pairwise_append->Lc,getElem?_range'->Ld,mem_range->Mc,getElem_range->Mm,contains_iff_mem->My,take_add_one->Nc,replicate->Ny,map_eq_nil_iff->Oo,map_take->Ox,any_cons->Oz,filter_nil->Ph,contains_cons->Ps,set_set->Qo,Sublist->Qp,size_toArray->Qs,sublist_cons_self->Qu
open _root_.PySem renaming Value->Ab,wpAny_bind->Af,Addr->Am,Expr->At,wpAny_pure->Ax,sizeLine_eq->Ay,Around->Az,Shared->Be,Heap->Cd,model->Ci,execs->Cs,wpAny->Cu,letOwnedTupleGo->Dr,eval->Dv,foldedSetIterable->Dx,wpAny_mono->Ec,Builtin->Ee,wpAny_holding->Ef,compareOp->El,wpAny_standAt->Ev,wpAny_newObj_type->Ez,BindsTo->Fg,cellsFrom->Fk,valueAt->Fq,Flow->Ga,Fin->Gi,sizeLine->Gn,letTemporaryGo->Gp,wpAny_field->Gu,mainGlobals->He,recursionLimit->Hf,codeAny_builtin->Hn,wpAny_callSpecial?_slot->Hw,pyIter->Ib,wpAny_loadPart_at->Ig,builtinLookup_eq_fast->Ik,getMethod->Il,builtinsNs->Im,call->Iq,assign->Ir,wpAny_of_eq->Iv,Program->Jm,codeAny_mono->Jn,subscripted->Jr,plainId_quiet->Jt,Stmt->Jy,GenState->Kb,closureFor->Kc,codeAny->Kg,rawInt->Ki,codeAny_call_builtin->Lb,Result->Le,wpAny_rule->Lf,Scope->Li,getAttr->Lk,stored->Lr,pyNext->Ls,treeTable->Ly,swapsWith->Lz,wpAny_call_entry->Md,starEach->Mq,typeLookup_type->Ms,importedModules->Mt,standAt->Mz,spliced->Na,IsRangeIter->Nb,exec->Ni,wpAny_call->No,wpAny_setField->Nu,wpAny_loadPart->Nv,firstArgMember->Nw,DictEntry->Og,wpAny_askSetting->Oi,World->Ok,Params->Ol,wpAny_isSubtype_exc->Om,binaryOp->Ou,wpAny_updateSeq->Pf,wpAny_loadPart'->Pg,truthy->Pl,slot_listiter_next->Pq,noteFrame->Pw,wpAny_seqItems->Qq
open _root_.Option renaming some->Ad,none->Ae,map_eq_some_iff->Db,some->Ep,bind_some->Me
open _root_.PySem.Heap renaming get?_push_of_some->An,get?_push_size->Bj,lt_size->Dw,get?_update_self->Dz,SameBut->Eu,ExtBut->Iw,size_push->Iy
open _root_.List.Perm renaming append_left->Bf,append_right->Eb
open _root_.PySem.Value renaming ref->Bx,none->Dq,int->Fs,type->Hd
open _root_.Nat renaming le_trans->Ca,le_refl->Cb,le_of_ble_eq_true->Ce,zero_le->Cg,lt_of_le_of_lt->Hr,lt_trans->Jo,succ_le_succ->Jx,ne_of_lt->Kw,le_of_lt->Ml,lt_or_ge->Oh,lt_of_lt_of_le->Pr,sub_self->Qn
open _root_.PySem.BindsTo renaming of_eq->Cm
open _root_.PySem.F renaming plainAttrs_list->Cv,type_list_append->Ds,slot_list_append->Dt,excBase_Exception->Gw,plain_extend_loop->Lm,plain_any_loop->Mn,plain_all_loop->Mo,called_tuple->Nz,slot_list_extend->Pb,plainAttrs_dict->Qe,plainAttrs_set->Qt
open _root_.Bool renaming and_eq_true->Dd,false_eq_true->Hs,not_eq_false'->Ke,eq_iff_iff->Ko,not_eq_true'->Nf
open _root_.Int renaming toNat_natCast->Dj
open _root_.PySem.Heap.SameBut renaming update->Dk
open _root_.Option.some renaming inj->Dl
open _root_.Pure renaming pure->Et
open _root_.Array renaming getElem?_eq_getElem->Fu,getElem?_eq_none->Mp,getElem?_eq_some_iff->Ob,any_toList->Oj
open _root_.PySem.Around renaming under_plainId->Gb,frames_deeper->Oa
open _root_.PyProof.Rows renaming subscriptTail->Gg
open _root_.PySem.W renaming envX->Gs,plainGet_of->Kt,handedIn->Lw,boot_heap->Of,instObj->Pd,specialIn->Pu,hasDictIn->Px,emptyDict->Pz
open _root_.PySem.Builtin.List renaming listExtendWith->Hy,listLengthHint->Jp,listSameRef->Lh,listTooLong->Pc,listItems->Qv
open _root_.List.cons renaming injEq->Ij,inj->Oy
open _root_.PySem.PyData renaming keyHash->Ix
open _root_.PySem.Sem renaming bind_eq_wrap'->Jb,onRaise_eq_wrap->Jk,wrap_wrap->Mv
open _root_.PySem.Obj renaming mapFields->Ju,mapSeq->Mk
open _root_.PySem.Str renaming ofString->Kv
open _root_.Ne renaming symm->Ll
open _root_.PySem.Builtin.Range renaming rangeSize->Mf,small->Op
open _root_.PySem.Data renaming seq->Qk
namespace Mine
def sy (a:Array Lean.Syntax):Lean.Syntax:=.node .none `Lean.Parser.Tactic.tacticSeq #[.node .none `Lean.Parser.Tactic.tacticSeq1Indented #[.node .none `null a]]
def aR:Lean.Syntax:=sy #[.node .none `Lean.Parser.Tactic.tacticRfl #[.atom .none "rfl"]]
def aD:Lean.Syntax:=sy #[.node .none `Lean.Parser.Tactic.decide #[.atom .none "decide",.node .none `Lean.Parser.Tactic.optConfig #[.node .none `null #[]]]]
def aI:Lean.Syntax:=sy #[.node .none `Lean.Parser.Tactic.intros #[.atom .none "intros",.node .none `null #[]],.atom .none ";",.node .none `Lean.Parser.Tactic.tacticRfl #[.atom .none "rfl"]]
def aU:Lean.Syntax:=sy #[.node .none `Lean.Parser.Tactic.intros #[.atom .none "intros",.node .none `null #[]],.atom .none ";",.node .none `Lean.Parser.Tactic.withUnfoldingAll #[.atom .none "with_unfolding_all",aR]]
def aP:Lean.Syntax:=sy #[.node .none `Lean.Parser.Tactic.exact #[.atom .none "exact",.node .none `Lean.Parser.Term.anonymousCtor #[.atom .none "⟨",.node .none `null #[.ident .none "rfl".toRawSubstring `rfl [],.atom .none ",",.ident .none "rfl".toRawSubstring `rfl []],.atom .none "⟩"]]]
noncomputable def topStmt (i:Nat):Jy:=PySem.Challenge.pw_jp0056_01.main.body.getD i (.Pass ⟨0,0,0,0⟩)
noncomputable def clsStmt (i j:Nat):Jy:=match topStmt i with|.ClassDef _ _ _ b _ _ _ _ _ _ _=>b.getD j (.Pass ⟨0,0,0,0⟩)|s=>s
noncomputable def fBody:Jy->List Jy|.FunctionDef _ _ b _ _ _ _ _ _ _=>b|_=>[]
noncomputable def fScope:Jy->Li|.FunctionDef _ _ _ _ _ _ sc _ _ _=>sc|_=>{kind:=.module,names:=[],isGenerator:=false,isCoroutine:=false}
noncomputable def fArgs:Jy->Arguments|.FunctionDef _ a _ _ _ _ _ _ _ _=>a|_=>⟨[],[],Ae,[],[],Ae,[]⟩
noncomputable def kT (l:List Ab):Obj:=⟨.type "tuple",Ae,.seq l.toArray 0,#[]⟩
noncomputable def kO (c:String) (d:Option Am) (l:List Ab):Obj:=⟨.type c,d,.fields l.toArray,#[]⟩
noncomputable def kD (P:Ol) (c:Ab) (n:Nat) (l:List (Str×Nat×Ab)):Obj:=⟨c,Ae,.dict (l.map λe=>⟨Ix P e.1,.str e.1 e.2.1,e.2.2⟩).toArray n,#[]⟩
noncomputable def kE (s:Str) (t:Nat) (v:Ab):Str×Nat×Ab:=(s,t,v)
noncomputable def kF (n q:Str) (st:Jy) (pm:Ab) (an:Option Am) (cd dV:Ab):Obj:=⟨.type "function",Ae,.func (fnX n q (fArgs st) (fBody st) (fScope st) [] dV .none .none pm an cd .none),#[]⟩
noncomputable def kK (n:Str) (b m:List Ab) (ns:Am) (q:Str) (sub:List Ab) (sl:List (Option Ab)):Obj:=⟨.type "type",Ae,.cls {name:=n,bases:=b,mro:=m,ns:=ns,qualname:=q,subclasses:=sub},sl.toArray⟩
noncomputable def kk0 (P:Ol):Frag:=[(2,kD P .none 4 [kE "type.__subclasses__.TypeError.0" 251 (.int 59 0),kE "type.__subclasses__.TypeError.n" 252 (.int 1 0),kE "type.__subclasses__.Exception.0" 310 (.int 100 0),kE "type.__subclasses__.Exception.n" 311 (.int 1 0)]),
 (3,kD P (.type "dict") 37 [kE "__name__" 165 (.str "law_jp0056_01" 815),kE "__doc__" 166 (.none),kE "__package__" 167 (.none),kE "__loader__" 168 (.builtin "__main__.__loader__#opaque"),kE "__spec__" 169 (.none),kE "__annotations__" 170 (.ref 6),kE "__builtins__" 171 (.ref 4),kE "__file__" 173 (.str "/claim/cut.py" 172),kE "__cached__" 174 (.none),kE "_wall" 193 (.ref 21),kE "_legacy_mergeOrderings" 206 (.ref 28),kE "_legacy_flatten" 216 (.ref 35),kE "_legacy_ro" 223 (.ref 42),kE "InconsistentResolutionOrderError" 254 (.ref 59),kE "_StaticMRO" 293 (.ref 86),kE "_UseLegacyRO" 313 (.ref 100),kE "C3" 482 (.ref 204),kE "_StrictC3" 515 (.ref 232),kE "ro" 529 (.ref 242),kE "SpecificationBase" 559 (.ref 259),kE "Specification" 657 (.ref 336),kE "InterfaceClass" 690 (.ref 364),kE "Declaration" 750 (.ref 414),kE "Implements" 768 (.ref 427),kE "classImplementsOnly" 777 (.ref 436),kE "classImplements" 790 (.ref 443),kE "classImplementsFirst" 799 (.ref 450),kE "_classImplements_ordered" 805 (.ref 458),kE "_normalizeargs" 814 (.ref 466),kE "_law_once" 825 (.ref 473),kE "_law_implied" 831 (.ref 478),kE "_law_near" 841 (.ref 485),kE "_law_declare" 847 (.ref 490),kE "_law_numbers" 853 (.ref 495),kE "_law_stands" 859 (.ref 500),kE "_law_told" 869 (.ref 507),kE "law" 875 (.ref 512)]),
 (20,kO "code" Ae [.str "_wall" 187,.str "_wall" 188,.str "/claim/cut.py" 189,.int 1 0,.int 1 0,.int 0 0,.int 0 0,.int 3 0,.ref 15,.bool true,.int 181 0,.ref 16,.none,.ref 17,.ref 18,.ref 19,.int 191 0,.int 1 0,.str "/claim/cut.py" 192]),
 (21,kF "_wall" "_wall" (topStmt 0) (.str "__main__" 164) Ae (.ref 20) (.none)),
 (27,kO "code" Ae [.str "_legacy_mergeOrderings" 196,.str "_legacy_mergeOrderings" 197,.str "/claim/cut.py" 198,.int 5 0,.int 1 0,.int 0 0,.int 0 0,.int 3 0,.ref 22,.bool true,.int 181 0,.ref 23,.none,.ref 24,.ref 25,.ref 26,.int 204 0,.int 5 0,.str "/claim/cut.py" 205]),
 (28,kF "_legacy_mergeOrderings" "_legacy_mergeOrderings" (topStmt 2) (.str "zope.interface.ro" 194) Ae (.ref 27) (.none)),
 (34,kO "code" Ae [.str "_legacy_flatten" 207,.str "_legacy_flatten" 208,.str "/claim/cut.py" 209,.int 14 0,.int 1 0,.int 0 0,.int 0 0,.int 3 0,.ref 29,.bool true,.int 181 0,.ref 30,.none,.ref 31,.ref 32,.ref 33,.int 214 0,.int 14 0,.str "/claim/cut.py" 215]),
 (35,kF "_legacy_flatten" "_legacy_flatten" (topStmt 3) (.str "zope.interface.ro" 194) Ae (.ref 34) (.none)),
 (41,kO "code" Ae [.str "_legacy_ro" 217,.str "_legacy_ro" 218,.str "/claim/cut.py" 219,.int 22 0,.int 1 0,.int 0 0,.int 0 0,.int 3 0,.ref 36,.bool true,.int 181 0,.ref 37,.none,.ref 38,.ref 39,.ref 40,.int 221 0,.int 22 0,.str "/claim/cut.py" 222]),
 (42,kF "_legacy_ro" "_legacy_ro" (topStmt 4) (.str "zope.interface.ro" 194) Ae (.ref 41) (.none)),
 (43,kT [.type "TypeError"]),
 (55,kO "code" Ae [.str "__init__" 236,.str "InconsistentResolutionOrderError.__init__" 237,.str "/claim/cut.py" 238,.int 26 0,.int 3 0,.int 0 0,.int 0 0,.int 3 0,.ref 50,.bool true,.int 181 0,.ref 51,.none,.ref 52,.ref 53,.ref 54,.int 242 0,.int 26 0,.str "/claim/cut.py" 243]),
 (56,kF "__init__" "InconsistentResolutionOrderError.__init__" (clsStmt 5 0) (.str "zope.interface.ro" 194) Ae (.ref 55) (.none)),
 (57,kT [.str "C" 245,.str "base_tree_remaining" 246]),
 (58,kD P (.type "dict") 3 [kE "__module__" 231 (.str "zope.interface.ro" 194),kE "__firstlineno__" 235 (.int 24 234),kE "__init__" 244 (.ref 56),kE "__static_attributes__" 247 (.ref 57),kE "__weakref__" 249 (.ref 60),kE "__doc__" 250 (.none)]),
 (59,kK "InconsistentResolutionOrderError" [.type "TypeError"] [.ref 59,.type "TypeError",.type "Exception",.type "BaseException",.type "object"] 58 "InconsistentResolutionOrderError" [] [Ad (.ref 43),Ae,Ad (.str "InconsistentResolutionOrderError" 224),Ad (.str "InconsistentResolutionOrderError" 232),Ad (.builtin "TypeError.__new__"),Ad (.bool true)]),
 (60,kO "getset_descriptor" Ae [.str "__weakref__" 248,.ref 59,.builtin "ExceptionGroup.__weakref__",.none]),
 (75,kO "code" Ae [.str "__init__" 268,.str "_StaticMRO.__init__" 269,.str "/claim/cut.py" 270,.int 32 0,.int 3 0,.int 0 0,.int 0 0,.int 3 0,.ref 70,.bool true,.int 181 0,.ref 71,.none,.ref 72,.ref 73,.ref 74,.int 274 0,.int 32 0,.str "/claim/cut.py" 275]),
 (76,kF "__init__" "_StaticMRO.__init__" (clsStmt 6 1) (.str "zope.interface.ro" 194) Ae (.ref 75) (.none)),
 (82,kO "code" Ae [.str "mro" 277,.str "_StaticMRO.mro" 278,.str "/claim/cut.py" 279,.int 36 0,.int 1 0,.int 0 0,.int 0 0,.int 3 0,.ref 77,.bool true,.int 181 0,.ref 78,.none,.ref 79,.ref 80,.ref 81,.int 281 0,.int 36 0,.str "/claim/cut.py" 282]),
 (83,kF "mro" "_StaticMRO.mro" (clsStmt 6 2) (.str "zope.interface.ro" 194) Ae (.ref 82) (.none)),
 (84,kT [.str "_mro" 284,.str "leaf" 285]),
 (85,kD P (.type "dict") 4 [kE "__module__" 262 (.str "zope.interface.ro" 194),kE "__firstlineno__" 266 (.int 29 265),kE "had_inconsistency" 267 (.none),kE "__init__" 276 (.ref 76),kE "mro" 283 (.ref 83),kE "__static_attributes__" 286 (.ref 84),kE "__dict__" 288 (.ref 87),kE "__weakref__" 290 (.ref 88),kE "__doc__" 291 (.none)]),
 (86,kK "_StaticMRO" [.type "object"] [.ref 86,.type "object"] 85 "_StaticMRO" [] [Ae,Ae,Ad (.str "_StaticMRO" 255),Ad (.str "_StaticMRO" 263),Ad (.builtin "object.__new__"),Ad (.bool true)]),
 (87,kO "getset_descriptor" Ae [.str "__dict__" 287,.ref 86,.builtin "function.__dict__",.builtin "function.__dict__#set"]),
 (88,kO "getset_descriptor" Ae [.str "__weakref__" 289,.ref 86,.builtin "ExceptionGroup.__weakref__",.none]),
 (91,kT [.type "Exception"]),
 (98,kT []),
 (99,kD P (.type "dict") 3 [kE "__module__" 301 (.str "zope.interface.ro" 194),kE "__firstlineno__" 305 (.int 38 304),kE "__static_attributes__" 306 (.ref 98),kE "__weakref__" 308 (.ref 101),kE "__doc__" 309 (.none)]),
 (100,kK "_UseLegacyRO" [.type "Exception"] [.ref 100,.type "Exception",.type "BaseException",.type "object"] 99 "_UseLegacyRO" [] [Ad (.ref 91),Ae,Ad (.str "_UseLegacyRO" 294),Ad (.str "_UseLegacyRO" 302),Ad (.builtin "Exception.__new__"),Ad (.bool true)]),
 (101,kO "getset_descriptor" Ae [.str "__weakref__" 307,.ref 100,.builtin "ExceptionGroup.__weakref__",.none]),
 (116,kO "code" Ae [.str "resolver" 326,.str "C3.resolver" 327,.str "/claim/cut.py" 328,.int 42 0,.int 3 0,.int 0 0,.int 0 0,.int 3 0,.ref 111,.bool true,.int 181 0,.ref 112,.none,.ref 113,.ref 114,.ref 115,.int 335 0,.int 42 0,.str "/claim/cut.py" 336]),
 (117,kF "resolver" "C3.resolver" (clsStmt 8 0) (.str "zope.interface.ro" 194) (Ad 120) (.ref 116) (.none)),
 (118,kD P (.type "dict") 5 [kE "__module__" 338 (.str "zope.interface.ro" 194),kE "__name__" 341 (.str "resolver" 340),kE "__qualname__" 344 (.str "C3.resolver" 343),kE "__doc__" 346 (.none),kE "__annotations__" 348 (.ref 120)]),
 (119,kO "staticmethod" (Ad 118) [.ref 117,.bool false]),
 (120,kD P (.type "dict") 0 []),
 (124,kO "code" Ae [.str "__init__" 353,.str "C3.__init__" 354,.str "/claim/cut.py" 355,.int 57 0,.int 3 0,.int 0 0,.int 0 0,.int 3 0,.ref 121,.bool true,.int 181 0,.ref 122,.none,.none,.none,.ref 123,.int 356 0,.int 57 0,.str "/claim/cut.py" 357]),
 (125,kF "__init__" "C3.__init__" (clsStmt 8 4) (.str "zope.interface.ro" 194) Ae (.ref 124) (.none)),
 (131,kO "code" Ae [.str "_same_kind" 359,.str "C3._same_kind" 360,.str "/claim/cut.py" 361,.int 71 0,.int 3 0,.int 0 0,.int 0 0,.int 3 0,.ref 126,.bool true,.int 181 0,.ref 127,.none,.ref 128,.ref 129,.ref 130,.int 365 0,.int 71 0,.str "/claim/cut.py" 366]),
 (132,kF "_same_kind" "C3._same_kind" (clsStmt 8 5) (.str "zope.interface.ro" 194) Ae (.ref 131) (.none))]
noncomputable def kk1 (P:Ol):Frag:=[(138,kO "code" Ae [.str "had_inconsistency" 368,.str "C3.had_inconsistency" 369,.str "/claim/cut.py" 370,.int 74 0,.int 1 0,.int 0 0,.int 0 0,.int 3 0,.ref 133,.bool true,.int 181 0,.ref 134,.none,.ref 135,.ref 136,.ref 137,.int 372 0,.int 74 0,.str "/claim/cut.py" 373]),
 (139,kF "had_inconsistency" "C3.had_inconsistency" (clsStmt 8 6) (.str "zope.interface.ro" 194) Ae (.ref 138) (.none)),
 (140,kO "property" Ae [.ref 139,.none,.none,.none,.str "had_inconsistency" 375,.bool false]),
 (146,kO "code" Ae [.str "legacy_ro" 376,.str "C3.legacy_ro" 377,.str "/claim/cut.py" 378,.int 78 0,.int 1 0,.int 0 0,.int 0 0,.int 3 0,.ref 141,.bool true,.int 181 0,.ref 142,.none,.ref 143,.ref 144,.ref 145,.int 380 0,.int 78 0,.str "/claim/cut.py" 381]),
 (147,kF "legacy_ro" "C3.legacy_ro" (clsStmt 8 7) (.str "zope.interface.ro" 194) Ae (.ref 146) (.none)),
 (148,kO "property" Ae [.ref 147,.none,.none,.none,.str "legacy_ro" 383,.bool false]),
 (154,kO "code" Ae [.str "_can_choose_base" 384,.str "C3._can_choose_base" 385,.str "/claim/cut.py" 386,.int 84 0,.int 2 0,.int 0 0,.int 0 0,.int 3 0,.ref 149,.bool true,.int 181 0,.ref 150,.none,.ref 151,.ref 152,.ref 153,.int 391 0,.int 84 0,.str "/claim/cut.py" 392]),
 (155,kF "_can_choose_base" "C3._can_choose_base" (clsStmt 8 8) (.str "zope.interface.ro" 194) (Ad 158) (.ref 154) (.none)),
 (156,kD P (.type "dict") 5 [kE "__module__" 394 (.str "zope.interface.ro" 194),kE "__name__" 397 (.str "_can_choose_base" 396),kE "__qualname__" 400 (.str "C3._can_choose_base" 399),kE "__doc__" 402 (.none),kE "__annotations__" 404 (.ref 158)]),
 (157,kO "staticmethod" (Ad 156) [.ref 155,.bool false]),
 (158,kD P (.type "dict") 0 []),
 (162,kO "code" Ae [.str "_nonempty_bases_ignoring" 406,.str "C3._nonempty_bases_ignoring" 407,.str "/claim/cut.py" 408,.int 94 0,.int 2 0,.int 0 0,.int 0 0,.int 3 0,.ref 159,.bool true,.int 181 0,.ref 160,.none,.none,.none,.ref 161,.int 409 0,.int 94 0,.str "/claim/cut.py" 410]),
 (163,kF "_nonempty_bases_ignoring" "C3._nonempty_bases_ignoring" (clsStmt 8 9) (.str "zope.interface.ro" 194) (Ad 166) (.ref 162) (.none)),
 (164,kD P (.type "dict") 5 [kE "__module__" 412 (.str "zope.interface.ro" 194),kE "__name__" 415 (.str "_nonempty_bases_ignoring" 414),kE "__qualname__" 418 (.str "C3._nonempty_bases_ignoring" 417),kE "__doc__" 420 (.none),kE "__annotations__" 422 (.ref 166)]),
 (165,kO "staticmethod" (Ad 164) [.ref 163,.bool false]),
 (166,kD P (.type "dict") 0 []),
 (172,kO "code" Ae [.str "_choose_next_base" 424,.str "C3._choose_next_base" 425,.str "/claim/cut.py" 426,.int 98 0,.int 2 0,.int 0 0,.int 0 0,.int 3 0,.ref 167,.bool true,.int 181 0,.ref 168,.none,.ref 169,.ref 170,.ref 171,.int 430 0,.int 98 0,.str "/claim/cut.py" 431]),
 (173,kF "_choose_next_base" "C3._choose_next_base" (clsStmt 8 10) (.str "zope.interface.ro" 194) Ae (.ref 172) (.none)),
 (179,kO "code" Ae [.str "_find_next_C3_base" 433,.str "C3._find_next_C3_base" 434,.str "/claim/cut.py" 435,.int 104 0,.int 2 0,.int 0 0,.int 0 0,.int 3 0,.ref 174,.bool true,.int 181 0,.ref 175,.none,.ref 176,.ref 177,.ref 178,.int 440 0,.int 104 0,.str "/claim/cut.py" 441]),
 (180,kF "_find_next_C3_base" "C3._find_next_C3_base" (clsStmt 8 11) (.str "zope.interface.ro" 194) Ae (.ref 179) (.none)),
 (186,kO "code" Ae [.str "_guess_next_base" 443,.str "C3._guess_next_base" 444,.str "/claim/cut.py" 445,.int 111 0,.int 2 0,.int 0 0,.int 0 0,.int 3 0,.ref 181,.bool true,.int 181 0,.ref 182,.none,.ref 183,.ref 184,.ref 185,.int 448 0,.int 111 0,.str "/claim/cut.py" 449]),
 (187,kF "_guess_next_base" "C3._guess_next_base" (clsStmt 8 12) (.str "zope.interface.ro" 194) Ae (.ref 186) (.none)),
 (193,kO "code" Ae [.str "_merge" 451,.str "C3._merge" 452,.str "/claim/cut.py" 453,.int 115 0,.int 1 0,.int 0 0,.int 0 0,.int 3 0,.ref 188,.bool true,.int 181 0,.ref 189,.none,.ref 190,.ref 191,.ref 192,.int 458 0,.int 115 0,.str "/claim/cut.py" 459]),
 (194,kF "_merge" "C3._merge" (clsStmt 8 13) (.str "zope.interface.ro" 194) Ae (.ref 193) (.none)),
 (200,kO "code" Ae [.str "mro" 461,.str "C3.mro" 462,.str "/claim/cut.py" 463,.int 130 0,.int 1 0,.int 0 0,.int 0 0,.int 3 0,.ref 195,.bool true,.int 181 0,.ref 196,.none,.ref 197,.ref 198,.ref 199,.int 465 0,.int 130 0,.str "/claim/cut.py" 466]),
 (201,kF "mro" "C3.mro" (clsStmt 8 14) (.str "zope.interface.ro" 194) Ae (.ref 200) (.none)),
 (202,kT [.str "_mro" 468,.str "_own_legacy" 469,.str "base_tree" 470,.str "bases_had_inconsistency" 471,.str "direct_inconsistency" 472,.str "leaf" 473,.str "memo" 474]),
 (203,kD P (.type "dict") 4 [kE "__module__" 321 (.str "zope.interface.ro" 194),kE "__firstlineno__" 325 (.int 40 324),kE "resolver" 349 (.ref 119),kE "_mro" 350 (.none),kE "_own_legacy" 351 (.none),kE "direct_inconsistency" 352 (.bool false),kE "__init__" 358 (.ref 125),kE "_same_kind" 367 (.ref 132),kE "had_inconsistency" 375 (.ref 140),kE "legacy_ro" 383 (.ref 148),kE "_can_choose_base" 405 (.ref 157),kE "_nonempty_bases_ignoring" 423 (.ref 165),kE "_choose_next_base" 432 (.ref 173),kE "_find_next_C3_base" 442 (.ref 180),kE "_guess_next_base" 450 (.ref 187),kE "_merge" 460 (.ref 194),kE "mro" 467 (.ref 201),kE "__static_attributes__" 475 (.ref 202),kE "__dict__" 477 (.ref 205),kE "__weakref__" 479 (.ref 206),kE "__doc__" 480 (.none)]),
 (204,kK "C3" [.type "object"] [.ref 204,.type "object"] 203 "C3" [.ref 232] [Ae,Ae,Ad (.str "C3" 314),Ad (.str "C3" 322),Ad (.builtin "object.__new__"),Ad (.bool true)]),
 (205,kO "getset_descriptor" Ae [.str "__dict__" 476,.ref 204,.builtin "function.__dict__",.builtin "function.__dict__#set"]),
 (206,kO "getset_descriptor" Ae [.str "__weakref__" 478,.ref 204,.builtin "ExceptionGroup.__weakref__",.none]),
 (209,kT [.ref 204]),
 (221,kO "code" Ae [.str "_same_kind" 495,.str "_StrictC3._same_kind" 496,.str "/claim/cut.py" 497,.int 136 0,.int 3 0,.int 0 0,.int 0 0,.int 3 0,.ref 216,.bool true,.int 181 0,.ref 217,.none,.ref 218,.ref 219,.ref 220,.int 501 0,.int 136 0,.str "/claim/cut.py" 502]),
 (222,kF "_same_kind" "_StrictC3._same_kind" (clsStmt 9 0) (.str "zope.interface.ro" 194) Ae (.ref 221) (.none)),
 (228,kO "code" Ae [.str "_guess_next_base" 504,.str "_StrictC3._guess_next_base" 505,.str "/claim/cut.py" 506,.int 139 0,.int 2 0,.int 0 0,.int 0 0,.int 3 0,.ref 223,.bool true,.int 181 0,.ref 224,.none,.ref 225,.ref 226,.ref 227,.int 509 0,.int 139 0,.str "/claim/cut.py" 510]),
 (229,kF "_guess_next_base" "_StrictC3._guess_next_base" (clsStmt 9 1) (.str "zope.interface.ro" 194) Ae (.ref 228) (.none)),
 (230,kT []),
 (231,kD P (.type "dict") 2 [kE "__module__" 490 (.str "zope.interface.ro" 194),kE "__firstlineno__" 494 (.int 134 493),kE "_same_kind" 503 (.ref 222),kE "_guess_next_base" 511 (.ref 229),kE "__static_attributes__" 512 (.ref 230),kE "__doc__" 513 (.none)]),
 (232,kK "_StrictC3" [.ref 204] [.ref 232,.ref 204,.type "object"] 231 "_StrictC3" [] [Ad (.ref 209),Ae,Ad (.str "_StrictC3" 483),Ad (.str "_StrictC3" 491),Ad (.builtin "object.__new__"),Ad (.bool true)]),
 (235,kT [.none,.none,.none,.none])]
noncomputable def kk2 (P:Ol):Frag:=[(241,kO "code" Ae [.str "ro" 516,.str "ro" 517,.str "/claim/cut.py" 518,.int 141 0,.int 5 0,.int 0 0,.int 0 0,.int 3 0,.ref 236,.bool true,.int 181 0,.ref 237,.none,.ref 238,.ref 239,.ref 240,.int 527 0,.int 141 0,.str "/claim/cut.py" 528]),
 (242,kF "ro" "ro" (topStmt 10) (.str "zope.interface.ro" 194) Ae (.ref 241) (.ref 235)),
 (255,kO "code" Ae [.str "isOrExtends" 544,.str "SpecificationBase.isOrExtends" 545,.str "/claim/cut.py" 546,.int 151 0,.int 2 0,.int 0 0,.int 0 0,.int 3 0,.ref 250,.bool true,.int 181 0,.ref 251,.none,.ref 252,.ref 253,.ref 254,.int 549 0,.int 151 0,.str "/claim/cut.py" 550]),
 (256,kF "isOrExtends" "SpecificationBase.isOrExtends" (clsStmt 12 0) (.str "zope.interface.interface" 530) Ae (.ref 255) (.none)),
 (257,kT []),
 (258,kD P (.type "dict") 4 [kE "__module__" 539 (.str "zope.interface.interface" 530),kE "__firstlineno__" 543 (.int 149 542),kE "isOrExtends" 551 (.ref 256),kE "__static_attributes__" 552 (.ref 257),kE "__dict__" 554 (.ref 260),kE "__weakref__" 556 (.ref 261),kE "__doc__" 557 (.none)]),
 (259,kK "SpecificationBase" [.type "object"] [.ref 259,.type "object"] 258 "SpecificationBase" [.ref 336] [Ae,Ae,Ad (.str "SpecificationBase" 532),Ad (.str "SpecificationBase" 540),Ad (.builtin "object.__new__"),Ad (.bool true)]),
 (260,kO "getset_descriptor" Ae [.str "__dict__" 553,.ref 259,.builtin "function.__dict__",.builtin "function.__dict__#set"]),
 (261,kO "getset_descriptor" Ae [.str "__weakref__" 555,.ref 259,.builtin "ExceptionGroup.__weakref__",.none]),
 (264,kT [.ref 259]),
 (271,kT []),
 (272,kT [.ref 271,.none]),
 (278,kO "code" Ae [.str "__init__" 572,.str "Specification.__init__" 573,.str "/claim/cut.py" 574,.int 155 0,.int 4 0,.int 0 0,.int 0 0,.int 3 0,.ref 273,.bool true,.int 181 0,.ref 274,.none,.ref 275,.ref 276,.ref 277,.int 579 0,.int 155 0,.str "/claim/cut.py" 580]),
 (279,kF "__init__" "Specification.__init__" (clsStmt 13 0) (.str "zope.interface.interface" 530) Ae (.ref 278) (.ref 272)),
 (285,kO "code" Ae [.str "dependents" 582,.str "Specification.dependents" 583,.str "/claim/cut.py" 584,.int 165 0,.int 1 0,.int 0 0,.int 0 0,.int 3 0,.ref 280,.bool true,.int 181 0,.ref 281,.none,.ref 282,.ref 283,.ref 284,.int 586 0,.int 165 0,.str "/claim/cut.py" 587]),
 (286,kF "dependents" "Specification.dependents" (clsStmt 13 1) (.str "zope.interface.interface" 530) Ae (.ref 285) (.none)),
 (287,kO "property" Ae [.ref 286,.none,.none,.none,.str "dependents" 589,.bool false]),
 (293,kO "code" Ae [.str "subscribe" 590,.str "Specification.subscribe" 591,.str "/claim/cut.py" 592,.int 169 0,.int 2 0,.int 0 0,.int 0 0,.int 3 0,.ref 288,.bool true,.int 181 0,.ref 289,.none,.ref 290,.ref 291,.ref 292,.int 595 0,.int 169 0,.str "/claim/cut.py" 596]),
 (294,kF "subscribe" "Specification.subscribe" (clsStmt 13 2) (.str "zope.interface.interface" 530) Ae (.ref 293) (.none)),
 (300,kO "code" Ae [.str "unsubscribe" 598,.str "Specification.unsubscribe" 599,.str "/claim/cut.py" 600,.int 172 0,.int 2 0,.int 0 0,.int 0 0,.int 3 0,.ref 295,.bool true,.int 181 0,.ref 296,.none,.ref 297,.ref 298,.ref 299,.int 604 0,.int 172 0,.str "/claim/cut.py" 605]),
 (301,kF "unsubscribe" "Specification.unsubscribe" (clsStmt 13 3) (.str "zope.interface.interface" 530) Ae (.ref 300) (.none)),
 (307,kO "code" Ae [.str "setBases" 607,.str "Specification.setBases" 608,.str "/claim/cut.py" 609,.int 181 0,.int 2 0,.int 0 0,.int 0 0,.int 3 0,.ref 302,.bool true,.int 181 0,.ref 303,.none,.ref 304,.ref 305,.ref 306,.int 613 0,.int 181 0,.str "/claim/cut.py" 614]),
 (308,kF "setBases" "Specification.setBases" (clsStmt 13 4) (.str "zope.interface.interface" 530) Ae (.ref 307) (.none)),
 (312,kO "code" Ae [.str "_calculate_sro" 616,.str "Specification._calculate_sro" 617,.str "/claim/cut.py" 618,.int 189 0,.int 1 0,.int 0 0,.int 0 0,.int 3 0,.ref 309,.bool true,.int 181 0,.ref 310,.none,.none,.none,.ref 311,.int 619 0,.int 189 0,.str "/claim/cut.py" 620]),
 (313,kF "_calculate_sro" "Specification._calculate_sro" (clsStmt 13 5) (.str "zope.interface.interface" 530) Ae (.ref 312) (.none)),
 (317,kO "code" Ae [.str "changed" 622,.str "Specification.changed" 623,.str "/claim/cut.py" 624,.int 197 0,.int 2 0,.int 0 0,.int 0 0,.int 3 0,.ref 314,.bool true,.int 181 0,.ref 315,.none,.none,.none,.ref 316,.int 625 0,.int 197 0,.str "/claim/cut.py" 626]),
 (318,kF "changed" "Specification.changed" (clsStmt 13 6) (.str "zope.interface.interface" 530) Ae (.ref 317) (.none)),
 (324,kO "code" Ae [.str "interfaces" 628,.str "Specification.interfaces" 629,.str "/claim/cut.py" 630,.int 208 0,.int 1 0,.int 0 0,.int 0 0,.int 35 0,.ref 319,.bool true,.int 181 0,.ref 320,.none,.ref 321,.ref 322,.ref 323,.int 635 0,.int 208 0,.str "/claim/cut.py" 636]),
 (325,kF "interfaces" "Specification.interfaces" (clsStmt 13 7) (.str "zope.interface.interface" 530) Ae (.ref 324) (.none)),
 (326,kT [.bool true]),
 (332,kO "code" Ae [.str "extends" 638,.str "Specification.extends" 639,.str "/claim/cut.py" 640,.int 216 0,.int 3 0,.int 0 0,.int 0 0,.int 3 0,.ref 327,.bool true,.int 181 0,.ref 328,.none,.ref 329,.ref 330,.ref 331,.int 644 0,.int 216 0,.str "/claim/cut.py" 645]),
 (333,kF "extends" "Specification.extends" (clsStmt 13 8) (.str "zope.interface.interface" 530) Ae (.ref 332) (.ref 326)),
 (334,kT [.str "_ROOT" 647,.str "_dependents" 648,.str "_implied" 649,.str "bases" 650,.str "iro" 651,.str "key" 652,.str "sro" 653]),
 (335,kD P (.type "dict") 2 [kE "__module__" 567 (.str "zope.interface.interface" 530),kE "__firstlineno__" 571 (.int 153 570),kE "__init__" 581 (.ref 279),kE "dependents" 589 (.ref 287),kE "subscribe" 597 (.ref 294),kE "unsubscribe" 606 (.ref 301),kE "setBases" 615 (.ref 308),kE "_calculate_sro" 621 (.ref 313),kE "changed" 627 (.ref 318),kE "interfaces" 637 (.ref 325),kE "extends" 646 (.ref 333),kE "__static_attributes__" 654 (.ref 334),kE "__doc__" 655 (.none)]),
 (336,kK "Specification" [.ref 259] [.ref 336,.ref 259,.type "object"] 335 "Specification" [.ref 364,.ref 414] [Ad (.ref 264),Ae,Ad (.str "Specification" 560),Ad (.str "Specification" 568),Ad (.builtin "object.__new__"),Ad (.bool true)]),
 (339,kT [.ref 336]),
 (346,kT []),
 (347,kT [.ref 346,.none]),
 (353,kO "code" Ae [.str "__init__" 670,.str "InterfaceClass.__init__" 671,.str "/claim/cut.py" 672,.int 220 0,.int 4 0,.int 0 0,.int 0 0,.int 3 0,.ref 348,.bool true,.int 181 0,.ref 349,.none,.ref 350,.ref 351,.ref 352,.int 677 0,.int 220 0,.str "/claim/cut.py" 678]),
 (354,kF "__init__" "InterfaceClass.__init__" (clsStmt 14 0) (.str "zope.interface.interface" 530) Ae (.ref 353) (.ref 347))]
noncomputable def kk3 (P:Ol):Frag:=[(360,kO "code" Ae [.str "interfaces" 680,.str "InterfaceClass.interfaces" 681,.str "/claim/cut.py" 682,.int 225 0,.int 1 0,.int 0 0,.int 0 0,.int 35 0,.ref 355,.bool true,.int 181 0,.ref 356,.none,.ref 357,.ref 358,.ref 359,.int 684 0,.int 225 0,.str "/claim/cut.py" 685]),
 (361,kF "interfaces" "InterfaceClass.interfaces" (clsStmt 14 1) (.str "zope.interface.interface" 530) Ae (.ref 360) (.none)),
 (362,kT []),
 (363,kD P (.type "dict") 2 [kE "__module__" 665 (.str "zope.interface.interface" 530),kE "__firstlineno__" 669 (.int 218 668),kE "__init__" 679 (.ref 354),kE "interfaces" 686 (.ref 361),kE "__static_attributes__" 687 (.ref 362),kE "__doc__" 688 (.none)]),
 (364,kK "InterfaceClass" [.ref 336] [.ref 364,.ref 336,.ref 259,.type "object"] 363 "InterfaceClass" [] [Ad (.ref 339),Ae,Ad (.str "InterfaceClass" 658),Ad (.str "InterfaceClass" 666),Ad (.builtin "object.__new__"),Ad (.bool true)]),
 (367,kT [.ref 336]),
 (374,kT []),
 (375,kT [.ref 374,.none]),
 (381,kO "code" Ae [.str "__init__" 705,.str "Declaration.__init__" 706,.str "/claim/cut.py" 707,.int 230 0,.int 4 0,.int 0 0,.int 0 0,.int 3 0,.ref 376,.bool true,.int 181 0,.ref 377,.none,.ref 378,.ref 379,.ref 380,.int 712 0,.int 230 0,.str "/claim/cut.py" 713]),
 (382,kF "__init__" "Declaration.__init__" (clsStmt 16 0) (.str "zope.interface.declarations" 691) Ae (.ref 381) (.ref 375)),
 (386,kO "code" Ae [.str "__contains__" 715,.str "Declaration.__contains__" 716,.str "/claim/cut.py" 717,.int 233 0,.int 2 0,.int 0 0,.int 0 0,.int 3 0,.ref 383,.bool true,.int 181 0,.ref 384,.none,.none,.none,.ref 385,.int 718 0,.int 233 0,.str "/claim/cut.py" 719]),
 (387,kF "__contains__" "Declaration.__contains__" (clsStmt 16 1) (.str "zope.interface.declarations" 691) Ae (.ref 386) (.none)),
 (393,kO "code" Ae [.str "__iter__" 721,.str "Declaration.__iter__" 722,.str "/claim/cut.py" 723,.int 236 0,.int 1 0,.int 0 0,.int 0 0,.int 3 0,.ref 388,.bool true,.int 181 0,.ref 389,.none,.ref 390,.ref 391,.ref 392,.int 725 0,.int 236 0,.str "/claim/cut.py" 726]),
 (394,kF "__iter__" "Declaration.__iter__" (clsStmt 16 2) (.str "zope.interface.declarations" 691) Ae (.ref 393) (.none)),
 (400,kO "code" Ae [.str "flattened" 728,.str "Declaration.flattened" 729,.str "/claim/cut.py" 730,.int 239 0,.int 1 0,.int 0 0,.int 0 0,.int 3 0,.ref 395,.bool true,.int 181 0,.ref 396,.none,.ref 397,.ref 398,.ref 399,.int 732 0,.int 239 0,.str "/claim/cut.py" 733]),
 (401,kF "flattened" "Declaration.flattened" (clsStmt 16 3) (.str "zope.interface.declarations" 691) Ae (.ref 400) (.none)),
 (405,kO "code" Ae [.str "__sub__" 735,.str "Declaration.__sub__" 736,.str "/claim/cut.py" 737,.int 242 0,.int 2 0,.int 0 0,.int 0 0,.int 3 0,.ref 402,.bool true,.int 181 0,.ref 403,.none,.none,.none,.ref 404,.int 738 0,.int 242 0,.str "/claim/cut.py" 739]),
 (406,kF "__sub__" "Declaration.__sub__" (clsStmt 16 4) (.str "zope.interface.declarations" 691) Ae (.ref 405) (.none)),
 (410,kO "code" Ae [.str "__add__" 741,.str "Declaration.__add__" 742,.str "/claim/cut.py" 743,.int 245 0,.int 2 0,.int 0 0,.int 0 0,.int 3 0,.ref 407,.bool true,.int 181 0,.ref 408,.none,.none,.none,.ref 409,.int 744 0,.int 245 0,.str "/claim/cut.py" 745]),
 (411,kF "__add__" "Declaration.__add__" (clsStmt 16 5) (.str "zope.interface.declarations" 691) Ae (.ref 410) (.none)),
 (412,kT []),
 (413,kD P (.type "dict") 2 [kE "__module__" 700 (.str "zope.interface.declarations" 691),kE "__firstlineno__" 704 (.int 228 703),kE "__init__" 714 (.ref 382),kE "__contains__" 720 (.ref 387),kE "__iter__" 727 (.ref 394),kE "flattened" 734 (.ref 401),kE "__sub__" 740 (.ref 406),kE "__add__" 746 (.ref 411),kE "__static_attributes__" 747 (.ref 412),kE "__doc__" 748 (.none)]),
 (414,kK "Declaration" [.ref 336] [.ref 414,.ref 336,.ref 259,.type "object"] 413 "Declaration" [.ref 427] [Ad (.ref 367),Ae,Ad (.str "Declaration" 693),Ad (.str "Declaration" 701),Ad (.builtin "object.__new__"),Ad (.bool true)]),
 (417,kT [.ref 414]),
 (424,kT []),
 (425,kT []),
 (426,kD P (.type "dict") 2 [kE "__module__" 758 (.str "zope.interface.declarations" 691),kE "__firstlineno__" 762 (.int 258 761),kE "inherit" 763 (.none),kE "declared" 764 (.ref 424),kE "__static_attributes__" 765 (.ref 425),kE "__doc__" 766 (.none)]),
 (427,kK "Implements" [.ref 414] [.ref 427,.ref 414,.ref 336,.ref 259,.type "object"] 426 "Implements" [] [Ad (.ref 417),Ae,Ad (.str "Implements" 751),Ad (.str "Implements" 759),Ad (.builtin "object.__new__"),Ad (.bool true)]),
 (435,kO "code" Ae [.str "classImplementsOnly" 769,.str "classImplementsOnly" 770,.str "/claim/cut.py" 771,.int 261 0,.int 1 0,.int 0 0,.int 0 0,.int 7 0,.ref 430,.bool true,.int 181 0,.ref 431,.none,.ref 432,.ref 433,.ref 434,.int 775 0,.int 261 0,.str "/claim/cut.py" 776]),
 (436,kF "classImplementsOnly" "classImplementsOnly" (topStmt 18) (.str "zope.interface.declarations" 691) Ae (.ref 435) (.none)),
 (442,kO "code" Ae [.str "classImplements" 778,.str "classImplements" 779,.str "/claim/cut.py" 780,.int 267 0,.int 1 0,.int 0 0,.int 0 0,.int 7 0,.ref 437,.bool true,.int 181 0,.ref 438,.none,.ref 439,.ref 440,.ref 441,.int 788 0,.int 267 0,.str "/claim/cut.py" 789]),
 (443,kF "classImplements" "classImplements" (topStmt 19) (.str "zope.interface.declarations" 691) Ae (.ref 442) (.none)),
 (449,kO "code" Ae [.str "classImplementsFirst" 791,.str "classImplementsFirst" 792,.str "/claim/cut.py" 793,.int 280 0,.int 2 0,.int 0 0,.int 0 0,.int 3 0,.ref 444,.bool true,.int 181 0,.ref 445,.none,.ref 446,.ref 447,.ref 448,.int 797 0,.int 280 0,.str "/claim/cut.py" 798]),
 (450,kF "classImplementsFirst" "classImplementsFirst" (topStmt 20) (.str "zope.interface.declarations" 691) Ae (.ref 449) (.none)),
 (451,kT []),
 (452,kT []),
 (453,kT [.ref 451,.ref 452]),
 (457,kO "code" Ae [.str "_classImplements_ordered" 800,.str "_classImplements_ordered" 801,.str "/claim/cut.py" 802,.int 283 0,.int 3 0,.int 0 0,.int 0 0,.int 3 0,.ref 454,.bool true,.int 181 0,.ref 455,.none,.none,.none,.ref 456,.int 803 0,.int 283 0,.str "/claim/cut.py" 804]),
 (458,kF "_classImplements_ordered" "_classImplements_ordered" (topStmt 21) (.str "zope.interface.declarations" 691) Ae (.ref 457) (.ref 453)),
 (459,kT [.none])]
noncomputable def kk4 (P:Ol):Frag:=[(465,kO "code" Ae [.str "_normalizeargs" 806,.str "_normalizeargs" 807,.str "/claim/cut.py" 808,.int 301 0,.int 2 0,.int 0 0,.int 0 0,.int 3 0,.ref 460,.bool true,.int 181 0,.ref 461,.none,.ref 462,.ref 463,.ref 464,.int 812 0,.int 301 0,.str "/claim/cut.py" 813]),
 (466,kF "_normalizeargs" "_normalizeargs" (topStmt 22) (.str "zope.interface.declarations" 691) Ae (.ref 465) (.ref 459)),
 (472,kO "code" Ae [.str "_law_once" 817,.str "_law_once" 818,.str "/claim/cut.py" 819,.int 311 0,.int 1 0,.int 0 0,.int 0 0,.int 3 0,.ref 467,.bool true,.int 181 0,.ref 468,.none,.ref 469,.ref 470,.ref 471,.int 823 0,.int 311 0,.str "/claim/cut.py" 824]),
 (473,kF "_law_once" "_law_once" (topStmt 24) (.str "law_jp0056_01" 815) Ae (.ref 472) (.none)),
 (477,kO "code" Ae [.str "_law_implied" 826,.str "_law_implied" 827,.str "/claim/cut.py" 828,.int 317 0,.int 2 0,.int 0 0,.int 0 0,.int 3 0,.ref 474,.bool true,.int 181 0,.ref 475,.none,.none,.none,.ref 476,.int 829 0,.int 317 0,.str "/claim/cut.py" 830]),
 (478,kF "_law_implied" "_law_implied" (topStmt 25) (.str "law_jp0056_01" 815) Ae (.ref 477) (.none)),
 (484,kO "code" Ae [.str "_law_near" 832,.str "_law_near" 833,.str "/claim/cut.py" 834,.int 322 0,.int 2 0,.int 0 0,.int 0 0,.int 3 0,.ref 479,.bool true,.int 181 0,.ref 480,.none,.ref 481,.ref 482,.ref 483,.int 839 0,.int 322 0,.str "/claim/cut.py" 840]),
 (485,kF "_law_near" "_law_near" (topStmt 26) (.str "law_jp0056_01" 815) Ae (.ref 484) (.none)),
 (489,kO "code" Ae [.str "_law_declare" 842,.str "_law_declare" 843,.str "/claim/cut.py" 844,.int 327 0,.int 4 0,.int 0 0,.int 0 0,.int 3 0,.ref 486,.bool true,.int 181 0,.ref 487,.none,.none,.none,.ref 488,.int 845 0,.int 327 0,.str "/claim/cut.py" 846]),
 (490,kF "_law_declare" "_law_declare" (topStmt 27) (.str "law_jp0056_01" 815) Ae (.ref 489) (.none)),
 (494,kO "code" Ae [.str "_law_numbers" 848,.str "_law_numbers" 849,.str "/claim/cut.py" 850,.int 337 0,.int 2 0,.int 0 0,.int 0 0,.int 3 0,.ref 491,.bool true,.int 181 0,.ref 492,.none,.none,.none,.ref 493,.int 851 0,.int 337 0,.str "/claim/cut.py" 852]),
 (495,kF "_law_numbers" "_law_numbers" (topStmt 28) (.str "law_jp0056_01" 815) Ae (.ref 494) (.none)),
 (499,kO "code" Ae [.str "_law_stands" 854,.str "_law_stands" 855,.str "/claim/cut.py" 856,.int 340 0,.int 2 0,.int 0 0,.int 0 0,.int 3 0,.ref 496,.bool true,.int 181 0,.ref 497,.none,.none,.none,.ref 498,.int 857 0,.int 340 0,.str "/claim/cut.py" 858]),
 (500,kF "_law_stands" "_law_stands" (topStmt 29) (.str "law_jp0056_01" 815) Ae (.ref 499) (.none)),
 (506,kO "code" Ae [.str "_law_told" 860,.str "_law_told" 861,.str "/claim/cut.py" 862,.int 354 0,.int 4 0,.int 0 0,.int 0 0,.int 3 0,.ref 501,.bool true,.int 181 0,.ref 502,.none,.ref 503,.ref 504,.ref 505,.int 867 0,.int 354 0,.str "/claim/cut.py" 868]),
 (507,kF "_law_told" "_law_told" (topStmt 30) (.str "law_jp0056_01" 815) Ae (.ref 506) (.none)),
 (511,kO "code" Ae [.str "law" 870,.str "law" 871,.str "/claim/cut.py" 872,.int 371 0,.int 1 0,.int 0 0,.int 0 0,.int 3 0,.ref 508,.bool true,.int 181 0,.ref 509,.none,.none,.none,.ref 510,.int 873 0,.int 371 0,.str "/claim/cut.py" 874]),
 (512,kF "law" "law" (topStmt 31) (.str "law_jp0056_01" 815) Ae (.ref 511) (.none))]
noncomputable def KK (P:Ol):Frag:=kk0 P++kk1 P++kk2 P++kk3 P++kk4 P
noncomputable def asK:List Am:=[2,3,20,21,27,28,34,35,41,42,43,55,56,57,58,59,60,75,76,82,83,84,85,86,87,88,91,98,99,100,101,116,117,118,119,120,124,125,131,132,138,139,140,146,147,148,154,155,156,157,158,162,163,164,165,166,172,173,179,180,186,187,193,194,200,201,202,203,204,205,206,209,221,222,228,229,230,231,232,235,241,242,255,256,257,258,259,260,261,264,271,272,278,279,285,286,287,293,294,300,301,307,308,312,313,317,318,324,325,326,332,333,334,335,336,339,346,347,353,354,360,361,362,363,364,367,374,375,381,382,386,387,393,394,400,401,405,406,410,411,412,413,414,417,424,425,426,427,435,436,442,443,449,450,451,452,453,457,458,459,465,466,472,473,477,478,484,485,489,490,494,495,499,500,506,507,511,512]
noncomputable def bodyB (pg:Jm):List Jy:=behindTheImports pg
noncomputable def envB (pg:Jm):Env:={scope:=pg.main.scope,locals:=mainNs,globals:=mainNs,cells:=[],code:=.ref 13,frame:=Ad 14}
noncomputable def cB (pg:Jm):Code:=.body (bodyB pg) (envB pg)
noncomputable def pos0:Pos:=⟨0,0,0,0⟩
noncomputable def mkT (l:List Obj):BT:=(l.zipIdx).foldl (λt p=>t.ins p.2 p.1) .nil
noncomputable def objs0 (P:Ol):List Obj:=[boot_o_0 P,boot_o_1 P,boot_o_2 P,boot_o_3 P,boot_o_4 P,boot_o_5 P,boot_o_6 P,boot_o_7 P,boot_o_8 P,boot_o_9 P,boot_o_10 P,
 ⟨.type "tuple",Ae,.seq #[] 0,#[]⟩,⟨.none,Ae,.fields #[],#[]⟩,
 ⟨.type "code",Ae,.fields #[.str "<module>" 182,.str "<module>" 183,.str "/claim/cut.py" 184,.int 1 0,.int 0 0,.int 0 0,.int 0 0,.int 0 0,.ref 11,.bool false,.int 181 0,.ref 12,.none,.none,.none,.none,.int 185 0,.int 1 0,.str "/claim/cut.py" 186],#[]⟩,
 ⟨.type "frame",Ae,.plain,#[Ad (.ref 13),Ad (.ref 3),Ad (.ref 3),Ae,Ad (.str "__main__" 164),Ae,Ad (.ref 0)]⟩]
noncomputable def Sb (w:Ok) (os:OsState):SharedT:=⟨mkT (objs0 w.params),15,{},#[],{},187,os⟩
noncomputable def runB (pg:Jm) (S0:Ok->OsState->SharedT) (w:Ok) (os:OsState):Option (Ga×SharedT×Code×Pos):=segRunT Ly pg w 11 (Ad (.ref 6)) 1 4600 (S0 w os) (piecesOf (bodyB pg) (envB pg) (cB pg) pos0 [topFrame pos0])
noncomputable def looseB:List Str:=["_wall","_legacy_mergeOrderings","_legacy_flatten","_legacy_ro","InconsistentResolutionOrderError","_StaticMRO","_UseLegacyRO","C3","_StrictC3","ro","SpecificationBase","Specification","InterfaceClass","Declaration","Implements","classImplementsOnly","classImplements","classImplementsFirst","_classImplements_ordered","_normalizeargs","_law_once","_law_implied","_law_near","_law_declare","_law_numbers","_law_stands","_law_told"]
noncomputable def qB (pg:Jm):Jm:={pg with main:={pg.main with body:=(pg.main.body.drop 31).take 1}}
noncomputable def preB (pg:Jm) (h0:Ol->Cd) (w:Ok) (os:OsState):Option (Be×Thread):=topGo Ly pg w 11 (Ad (.ref 6)) 12 ⟨h0 w.params,Array.mk [],boot_drawn,boot_toks,os⟩ (topStub pg)
noncomputable def obsB (s:Be):List (Option Obj)×List (Option Obj):=(asK.map s.heap.get?,[122,349].map s.heap.get?)
noncomputable def valB (K:Ol->Frag) (w:Ok):List (Option Obj)×List (Option Obj):=((K w.params).map λp=>Ad p.2,[122,349].map λ_=>Ad (tabObj #[]))
noncomputable def seenB (pg:Jm) (h0:Ol->Cd) (w:Ok) (s:Be):=((staticsOk (Mt pg.main.body) (h0 w.params) s.heap&&namesBound pg s.heap&&gensDone s&&laidKept (h0 w.params) s.heap),openSeen (qB pg) looseB (Mt pg.main.body) (λs=>xlAt (qB pg) [] s&&recOk [] s) true s,obsB s)
noncomputable def allBG (pg:Jm) (S0:Ok->OsState->SharedT) (h0:Ol->Cd) (w:Ok) (os:OsState):=(runB pg S0 w os).map λx=>(x.1,x.2.2.1,x.2.2.2,seenB pg h0 w x.2.1.abs)
noncomputable def goodBG (pg:Jm) (K:Ol->Frag) (w:Ok) (os:OsState):=Ad (Ga.next,cB pg,(⟨371,0,403,15⟩:Pos),true,openGood (qB pg) looseB,valB K w)
end Mine
lay_quick Mine.allBG
namespace Mine
theorem all_eqG:∀w os,allBG PySem.Challenge.pw_jp0056_01 Sb Of w os=goodBG PySem.Challenge.pw_jp0056_01 KK w os:=λw os=>(congrFun (congrFun (congrFun (congrFun (congrFun PySem.W.Fast.te30188487565981259 PySem.Challenge.pw_jp0056_01) Sb) Of) w) os).trans (by kernel_rfl)
noncomputable abbrev pwB:Jm:=PySem.Challenge.pw_jp0056_01
theorem pre_eq:∀w os,preB pwB Of w os=Ad ((Sb w os).abs,⟨denote Ly (cB pwB),cB pwB,pos0,[topFrame pos0]⟩):=λw os=>by kernel_rfl
theorem block_eq:∀w os,segRun Ly pwB w 11 (Ad (.ref 6)) 1 1 (Sb w os).abs (blockOf (bodyB pwB) (envB pwB) (cB pwB) pos0 [topFrame pos0])=Ad (.next,(Sb w os).abs,cB pwB,pos0):=λw os=>by kernel_rfl
theorem done_eq (w:Ok) (s:SharedT) (c:Code) (p:Pos):topRun Ly pwB w 11 (Ad (.ref 6)) 3 s.abs ⟨doneF .next,c,p,[topFrame pos0]⟩=Ad s.abs:=by kernel_rfl
theorem size_eq:∀w:Ok,((Of w.params).isNs He&&(Array.mk []:Array Kb).size==0,(Of w.params).objs.size,(Of w.params).nsMap He "__annotations__")=(true,11,Ad (.ref 6)):=λw=>by kernel_rfl
theorem open_eq:∀w:Ok,(fencedOpening Ly pwB w 8966).map (λs=>(s.heap,s.gens,s.drawn,s.toks))=Ad (Of w.params,Array.mk [],boot_drawn,boot_toks):=boot_open (by kernel_rfl) (by kernel_rfl) (λs=>by kernel_rfl)
noncomputable abbrev xtB (s:Be):Bool:=xlAt (qB pwB) [] s&&recOk [] s
theorem end_eq (w:Ok) (os:OsState):∃s:Be,topRun Ly pwB w 11 (Ad (.ref 6)) 4616 ⟨Of w.params,Array.mk [],boot_drawn,boot_toks,os⟩ (topStub pwB)=Ad s/\
  (staticsOk (Mt pwB.main.body) (Of w.params) s.heap&&namesBound pwB s.heap&&gensDone s&&laidKept (Of w.params) s.heap)=true/\openSeen (qB pwB) looseB (Mt pwB.main.body) xtB true s=openGood (qB pwB) looseB/\obsB s=valB KK w:=by
 obtain⟨⟨f,s,c,p⟩,e1,e2⟩:=Db.mp (all_eqG w os)
 have e3:f=.next:=congrArg (·.1) e2
 have e4:c=cB pwB:=congrArg (·.2.1) e2
 have e6:=congrArg (·.2.2.2.1) e2
 have e7:=congrArg (·.2.2.2.2.1) e2
 have e8:=congrArg (·.2.2.2.2.2) e2
 subst e3
 subst e4
 have a1:=piece_app (rest:=[]) (segRun_of e1) (piece_nil (done_eq w s _ p))
 rw [Cr]at a1
 exact⟨s.abs,go_top (pre_eq w os) (piece_block (block_eq w os) a1),e6,e7,e8⟩
theorem left_of {p q:Jm} {loose:List Str} {Xt:Be->Bool} {α:Type} {Yf:Be->α} {Ya:Ok->α} {N M m:Nat} {ann:Option Ab} {H:Ol->Cd} {gs:Array Kb} {d:Drawn} {k:Nat}
  (ho:∀w:Ok,(fencedOpening Ly p w N).map (λs=>(s.heap,s.gens,s.drawn,s.toks))=Ad (H w.params,gs,d,k))
  (hz:∀w:Ok,((H w.params).isNs He&&gs.size==0,(H w.params).objs.size,(H w.params).nsMap He "__annotations__")=(true,m,ann)) (le:M<=N)
  (he:∀w os,∃s:Be,topRun Ly p w m ann M ⟨H w.params,gs,d,k,os⟩ (topStub p)=Ad s/\(staticsOk (Mt p.main.body) (H w.params) s.heap&&namesBound p s.heap&&gensDone s&&laidKept (H w.params) s.heap)=true/\
   openSeen q loose (Mt p.main.body) Xt true s=openGood q loose/\Yf s=Ya w):LeftO p q loose Xt Yf Ya N:=λw=>by
 obtain⟨⟨h,gs',d',k',os⟩,e,e'⟩:=Db.mp (ho w)
 simp only [Prod.mk.injEq]at e'
 obtain⟨rfl,rfl,rfl,rfl⟩:=e'
 have z:=hz w
 simp only [Prod.mk.injEq]at z
 obtain⟨s,hr,h1,h2,h3⟩:=he w os
 have r:=topRun_mono (N - M) _ _ _ _ hr
 rw [Nat.add_sub_cancel' le]at r
 have t:topFrom Ly p w N ⟨H w.params,gs',d',k',os⟩=Ad s:=by
  unfold topFrom
  dsimp only
  rw [z.1,z.2.1,z.2.2,r]
  dsimp only [Me]
  rw [h1]
 show(((fencedOpening Ly p w N).bind (topFrom Ly p w N)).map _)=_
 rw [e,Me,t]
 exact congrArg Ad (Prod.ext h2 h3)
theorem leftB:LeftO pwB (qB pwB) looseB xtB obsB (valB KK) 8966:=left_of open_eq size_eq (by decide) end_eq
noncomputable def wellB (l:OpenLaw):Bool:=l.wellSaid
end Mine
lay_quick Mine.wellB
namespace Mine
theorem well_eq:PySem.Challenge.rw_jp0056_01.wellSaid=true:=(congrFun PySem.W.Fast.te6370747488270942289 PySem.Challenge.rw_jp0056_01).trans (by kernel_rfl)
noncomputable def dB:DefRec:=⟨"law",fArgs (topStmt 31),fBody (topStmt 31),fScope (topStmt 31),match topStmt 31 with|.FunctionDef _ _ _ _ _ _ _ _ _ p=>p|_=>⟨0,0,0,0⟩⟩
noncomputable abbrev hkB:Hook:=kmHook KK asK (λ_=>by kernel_rfl) [122,349]
noncomputable abbrev rB:OpenRow:=PySem.Challenge.rw_jp0056_01.row
theorem def_eq:defOf (qB pwB) rB.name=Ad (dB,[]):=by kernel_rfl
theorem prog_eq:rB.prog.theDef rB.name=Ad (dB.params,dB.body,dB.scope):=by kernel_rfl
theorem kw_eq:kwWritten? dB.params.kwonlyargs dB.params.kw_defaults=Ad []:=by kernel_rfl
theorem ok_eq:(chainsOk (qB pwB)&&opensWell rB.prog&&(frees rB.toRowW&&rB.within.isEmpty))=true:=by kernel_rfl
theorem hw_eq:rB.toRowW.promised:=⟨[.list [.int 3,.int 1]],by kernel_rfl,by kernel_rfl⟩
theorem bare_eq:rB.prog.bare:=⟨rfl,rfl,rfl,rfl,rfl,by kernel_rfl⟩
theorem head_of (Iq:WalkO (qB pwB) looseB (XL (qB pwB) []) (Hook.says hkB) rB.toRowW dB [] λf vs=>PySem.call f vs):PySem.Challenge.rw_jp0056_01.Holds:=
 holds_law well_eq λk1=>holds_open (r:=rB) (q:=qB pwB) (loose:=looseB) (Xt:=xtB) (XP:=XL (qB pwB) []) (Yf:=Hook.obs hkB) (Ya:=Hook.val hkB) (YP:=Hook.says hkB) (N:=8966) leftB (Hook.of hkB) (Hook.keeps hkB) (λs e=>xl_of s (Bool.and_eq_true_iff.mp e).1) XL.keeps def_eq prog_eq kw_eq (λs e=>recFacts_of (Bool.and_eq_true_iff.mp e).2) rfl k1 ok_eq bare_eq hw_eq Iq
noncomputable def cl:Ab->Ab
 |.int i _=>.int i 0
 |.float b _=>.float b 0
 |.str s _=>.str s 0
 |.bytes b _=>.bytes b 0
 |.none=>.none
 |.ellipsis=>.ellipsis
 |.notImplemented=>.notImplemented
 |.bool b=>.bool b
 |.type n=>.type n
 |.builtin i=>.builtin i
 |.ref a=>.ref a
theorem Ch {v:Ab} {a:Am} (h:cl v=.ref a):v=.ref a:=by cases v<;>simp [cl]at h ⊢ <;>exact h
@[simp] theorem Ack (a:Am):cl (.ref a)=.ref a:=rfl
@[simp] theorem Acl (i:Int) (t:Tok):cl (.int i t)=.int i 0:=rfl
@[simp] theorem Acj (i:Str) (t:Tok):cl (.str i t)=.str i 0:=rfl
@[simp] theorem Aca:cl .none=.none:=rfl
@[simp] theorem Acb (b:Bool):cl (.bool b)=.bool b:=rfl
theorem Fb {v:Ab} {i:Int} {t:Tok} (h:cl v=.int i t):∃u,v=.int i u:=by
 cases v<;>simp [cl]at h ⊢;exact h.1
theorem tB {v:Ab} {i:Str} {t:Tok} (h:cl v=.str i t):∃u,v=.str i u:=by
 cases v<;>simp [cl]at h ⊢;exact h.1
theorem Tw {v:Ab} (h:cl v=.none):v=.none:=by cases v<;>simp [cl]at h ⊢
theorem gC {v:Ab} {b:Bool} (h:cl v=.bool b):v=.bool b:=by cases v<;>simp [cl]at h ⊢ <;>exact h
theorem xG {v:Ab} {b:String} (h:cl v=.type b):v=.type b:=by cases v<;>simp [cl]at h ⊢ <;>exact h
theorem nF {v:Ab} {b:String} (h:cl v=.builtin b):v=.builtin b:=by cases v<;>simp [cl]at h ⊢ <;>exact h
class Xx (α:Type)where
 cln:α->α
noncomputable instance:Xx Ab:=⟨cl⟩
noncomputable instance:Xx Unit:=⟨id⟩
noncomputable instance:Xx Bool:=⟨id⟩
noncomputable instance:Xx (List Ab):=⟨List.map cl⟩
noncomputable instance:Xx (Ab×List Ab):=⟨λp=>(cl p.1,p.2.map cl)⟩
noncomputable instance:Xx (Option Ab):=⟨Option.map cl⟩
noncomputable def clF:Ga->Ga
 |.ret v=>.ret (cl v)
 |.next=>.next
 |.brk=>.brk
 |.cont=>.cont
noncomputable instance:Xx Ga:=⟨clF⟩
open Xx
inductive Ex where
 |obj (a:Am)
 |var (d:Am) (x:Str)
 |gen (g:Nat)
noncomputable def Ex.base:Ex->Bool×Nat
 |.obj a=>(true,a)
 |.var d _=>(true,d)
 |.gen g=>(false,g)
noncomputable def iE (h:Cd) (a:Am):Prop:=h.get? a=Ae/\3 < a
noncomputable def Ex.above (h:Cd):Ex->Prop
 |.obj a=>iE h a
 |.var d _=>iE h d
 |.gen _=>True
inductive CO where
 |list (vs:List Ab)
 |tup (vs:List Ab)
 |inst (C d:Am)
 |ns (m:List (Str×Option Ab))
 |fr (m:List (Str×Option Ab))
 |idict (es:List (Int×Ab))
 |sdict (es:List (Str×Ab))
 |iset (ks:List Int)
 |vview (d:Am)
 |rng (a b c:Int)
 |rev (l:Am) (i:Int)
 |liter (l:Am) (i:Nat)
 |titer (l:Am) (i:Nat)
 |riter (x left step:Int)
 |val (v:Option Ab)
 |cell (v:Option Ab)
 |raw (o:Obj)
 |gst (g:Kb)
noncomputable def CO.imm:CO->Bool
 |.tup _|.inst .. =>true
 |_=>false
noncomputable abbrev Av:=Ex×CO
structure Bm where
 prog:Jm
 vw:Jm
 w:Ok
 h₁:Cd
 os:OsState
 mg:Str->Option Ab
 mb:Str->Option Ab
 loose:List Str
 top:TopRead vw loose mg mb h₁
 kin:(KK w.params).In h₁
 tabs:∀P,P∈[122,349]->h₁.get? P=Ad (tabObj #[])
 bm:∃bm ob,mg "__builtins__" =Ad (.ref bm)/\bm≠Im/\h₁.get? bm=Ad ob/\ob.cls=.type "module" /\ob.dict=Ad Im/\ob.data=.plain
noncomputable abbrev Bm.K (Γ:Bm):Frag:=KK Γ.w.params
noncomputable def kQ (es:List Og) (x:Str):Option Ab:=(es.find? (·.key.isStr x)).map (·.val)
structure vT (m:List (Str×Option Ab)) (es:List Og):Prop where
 str:∀e∈es,∃s t,e.key=.str s t
 dup:(m.map (·.1)).Nodup
 size:es.length<=(m.filter λp=>p.2.isSome).length
 val:∀p∈m,(kQ es p.1).map cl=p.2
 out:∀x,x∉m.map (·.1)->kQ es x=Ae
noncomputable def Lq (Γ:Bm) (s:Be):Ex->CO->Prop
 |.var d x,.val ov=>∃M,s.heap.Ns d M/\(M x).map cl=ov
 |.obj a,.list vs=>∃ws n,s.heap.get? a=Ad (listOf ws n)/\ws.toList.map cl=vs
 |.obj a,.tup vs=>∃ws n,s.heap.get? a=Ad {cls:=.type "tuple",data:=.seq ws n}/\ws.toList.map cl=vs
 |.obj a,.inst C d=>s.heap.get? a=Ad (Pd C d)
 |.obj a,.ns m=>∃es n,s.heap.get? a=Ad (dictOf es n)/\vT m es
 |.obj a,.fr m=>∃M,s.heap.Ns a M/\(m.map (·.1)).Nodup/\∀p∈m,(M p.1).map cl=p.2
 |.obj a,.idict es=>∃kvs,s.heap.DictOf (intKind Γ.prog Γ.w) a kvs/\kvs.map (λp=>(p.1,cl p.2))=es
 |.obj a,.sdict es=>∃kvs,s.heap.DictOf (strKind Γ.prog Γ.w) a kvs/\kvs.map (λp=>(p.1,cl p.2))=es
 |.obj a,.iset ks=>∃S n,s.heap.SetOf (intKind Γ.prog Γ.w) a S n/\n<=ks.length/\∀k,S k=ks.contains k
 |.obj a,.vview d=>s.heap.IsValuesView a d
 |.obj r,.rng a b c=>∃t u v,PySem.IsRange s.heap r a b c t u v
 |.obj r,.rev l i=>PySem.Heap.IsRevIter s.heap r l i
 |.obj a,.liter l i=>s.heap.IsListIter a l i
 |.obj a,.titer l i=>s.heap.IsTupleIter a l i
 |.obj a,.riter x left step=>Nb s.heap a x left step
 |.obj a,.cell ov=>∃v,s.heap.IsCell a v/\v.map cl=ov
 |.obj a,.raw o=>s.heap.get? a=Ad o
 |.gen g,.gst gs=>s.gens[g]? =Ad gs
 |_,_=>False
noncomputable def Ul (p q:Av):Prop:=p.1.base≠q.1.base\/(p.2.imm=true/\q.2.imm=true)\/
 (∃d x y,p.1=.var d x/\q.1=.var d y/\x≠y)
theorem Ul.symm {p q:Av} (h:Ul p q):Ul q p:=by
 rcases h with h|⟨a,b⟩|⟨d,x,y,a,b,c⟩
 ·exact .inl (Ll h)
 ·exact .inr (.inl ⟨b,a⟩)
 ·exact .inr (.inr ⟨d,y,x,b,a,Ll c⟩)
structure Bc where
 W:List Av
 τ:List Av
noncomputable abbrev Bc.all (σ:Bc):List Av:=σ.W++σ.τ
structure yU (h:Cd):Prop where
 no:h.NoLimit
 tab:∀P,P∈[122,349]->∃ps,h.get? P=Ad (tabObj ps)/\TriplesOk ps.toList
structure Eg (Γ:Bm) (σ:Bc) (s:Be):Prop where
 old:OldK Γ.h₁ s.heap
 lim:yU s.heap
 stat:∀o,Γ.h₁.get? cStatics=Ad o->s.heap.get? cStatics=Ad o
 os:s.os=Γ.os
 bare:AllBare s.gens
 ents:∀p∈σ.all,Lq Γ s p.1 p.2/\p.1.above Γ.h₁
 sep:σ.all.Pairwise Ul
theorem uA (P:Ol):((KK P).all λp=>p.1==cStatics||p.2.cls != .none)=true:=by kernel_rfl
theorem bY {α β:Type} [BEq α] [LawfulBEq α] {a:α} {b:β}:∀{l:List (α×β)},l.lookup a=Ad b->(a,b)∈l
 |(x,y)::r,h=>by
  simp only [List.lookup_cons]at h
  cases e:a==x with
  |true=>rw [e]at h;cases h;rw [beq_iff_eq.mp e];exact .head _
  |false=>rw [e]at h;exact .tail _ (bY h)
theorem Eg.kin {Γ:Bm} {σ:Bc} {s:Be} (R:Eg Γ σ s):Γ.K.In s.heap:=λa o e=>by
 have:=Fz.mp (uA Γ.w.params) _ (bY e)
 simp only [Bool.or_eq_true,beq_iff_eq,bne_iff_ne]at this
 rcases this with h|h
 ·subst h;exact R.stat o (Γ.kin _ _ e)
 ·exact R.old.get_of_cls (Γ.kin a o e) h
theorem Lq.toks {Γ:Bm} {s:Be} {l:Ex} {c:CO} {n:Nat} (h:Lq Γ s l c):Lq Γ {s with toks:=n} l c:=by
 cases l<;>cases c<;>exact h
theorem Eg.toks {Γ:Bm} {σ:Bc} {s:Be} (R:Eg Γ σ s) (n:Nat):Eg Γ σ {s with toks:=n}:=
 ⟨R.old,R.lim,R.stat,R.os,R.bare,λp hp=>⟨(R.ents p hp).1.toks,(R.ents p hp).2⟩,R.sep⟩
inductive fL (Γ:Bm) {α:Type} (Q:α->Bc->Prop) (v:α) (s:Be):Prop
 |mk (σ':Bc) (R:Eg Γ σ' s) (q:Q v σ')
noncomputable def T (Γ:Bm) (A:Az) (σ:Bc) {α:Type} [Xx α] (t:Sem α) (Q:α->Bc->Prop):Prop:=
 ∀s,Eg Γ σ s->Cu (Ci Γ.prog Γ.w) A t (λv s'=>fL Γ Q (cln v) s') (λ_ _=>False) s
section
variable {Γ:Bm} {A:Az} {σ:Bc} {α β:Type} [Xx α] [Xx β]
theorem T.mono {t:Sem α} {Q Q':α->Bc->Prop} (h:T Γ A σ t Q) (k:∀v σ',Q v σ'->Q' v σ'):T Γ A σ t Q':=
 λs R=>Ec (h s R) (λ_ _ ⟨σ',R',q⟩=>⟨σ',R',k _ _ q⟩) λ_ _ x=>x
theorem T.bind {m:Sem α} {f:α->Sem β} {Q:β->Bc->Prop} (h:T Γ A σ m λc σ'=>∀v,cln v=c->T Γ A σ' (f v) Q):T Γ A σ (m>>=f) Q:=
 λs R=>Af (Ec (h s R) (λv _ ⟨_,R',q⟩=>q v rfl _ R') λ_ _ x=>x)
noncomputable def Av.le (σ' σ:Bc):Prop:=∀Γ s,Eg Γ σ s->Eg Γ σ' s
theorem T.conseq {σ':Bc} {t:Sem α} {Q:α->Bc->Prop} (e:Av.le σ' σ) (h:T Γ A σ' t Q):T Γ A σ t Q:=λs R=>h s (e Γ s R)
theorem Av.le_of_eq {σ σ':Bc} (e:σ'=σ):Av.le σ' σ:=e▸λ_ _ R=>R
theorem Av.le_refl (σ:Bc):Av.le σ σ:=λ_ _ R=>R
theorem Av.le_sub {W τ τ':List Av} (h:Qp τ' τ):Av.le ⟨W,τ'⟩ ⟨W,τ⟩:=λ_ _ R=>
 ⟨R.old,R.lim,R.stat,R.os,R.bare,λp hp=>R.ents p (by
  rcases Ak.mp hp with x|x
  ·exact Ah _ x
  ·exact Aa _ (h.subset x)),R.sep.sublist (Qp.append (Qp.refl _) h)⟩
theorem Av.le_perm {σ σ':Bc} (h:σ.all.Perm σ'.all):Av.le σ' σ:=λ_ _ R=>
 ⟨R.old,R.lim,R.stat,R.os,R.bare,λp hp=>R.ents p (h.symm.subset hp),h.pairwise R.sep Ul.symm⟩
theorem Av.le_trans {a b c:Bc} (x:Av.le a b) (y:Av.le b c):Av.le a c:=λΓ s R=>x Γ s (y Γ s R)
end
section
variable {Γ:Bm} {σ:Bc} {s s':Be}
theorem Zn {a b:Am} (h:((true,a):Bool×Nat)≠(true,b)):a≠b:=λe=>h (by rw [e])
theorem Lq.ext {b:Am} {l:Ex} {c:CO} (hx:Iw b s.heap s'.heap) (hg:s'.gens=s.gens) (hl:l.base≠(true,b)) (h:Lq Γ s l c):Lq Γ s' l c:=by
 cases l with
 |var d x=>
  cases c<;>first|exact h.elim|skip
  obtain⟨M,N,e⟩:=h
  exact⟨M,N.extBut hx (Zn hl),e⟩
 |gen g=>
  cases c<;>first|exact h.elim|skip
  show s'.gens[g]? =_
  rw [hg];exact h
 |obj a=>
  have ha:a≠b:=Zn hl
  cases c with
  |list vs=>obtain⟨ws,n,e,r⟩:=h;exact⟨ws,n,hx _ _ ha e,r⟩
  |tup vs=>obtain⟨ws,n,e,r⟩:=h;exact⟨ws,n,hx _ _ ha e,r⟩
  |inst C d=>exact hx _ _ ha h
  |ns m=>obtain⟨es,n,e,r⟩:=h;exact⟨es,n,hx _ _ ha e,r⟩
  |idict es=>obtain⟨kvs,⟨o,es,ep,ho,r⟩,q⟩:=h;exact⟨kvs,⟨o,es,ep,hx _ _ ha ho,r⟩,q⟩
  |sdict es=>obtain⟨kvs,⟨o,es,ep,ho,r⟩,q⟩:=h;exact⟨kvs,⟨o,es,ep,hx _ _ ha ho,r⟩,q⟩
  |iset ks=>obtain⟨S,n,⟨o,es,ep,t,ho,r⟩,q⟩:=h;exact⟨S,n,⟨o,es,ep,t,hx _ _ ha ho,r⟩,q⟩
  |vview d=>obtain⟨o,e,r⟩:=h;exact⟨o,hx _ _ ha e,r⟩
  |rng _ _ _=>obtain⟨t,u,v,e⟩:=h;exact⟨t,u,v,hx _ _ ha e⟩
  |rev l i=>obtain⟨o,e,r⟩:=h;exact⟨o,hx _ _ ha e,r⟩
  |fr m=>obtain⟨M,N,r⟩:=h;exact⟨M,N.extBut hx ha,r⟩
  |liter l i=>obtain⟨o,e,r⟩:=h;exact⟨o,hx _ _ ha e,r⟩
  |titer l i=>obtain⟨o,e,r⟩:=h;exact⟨o,hx _ _ ha e,r⟩
  |riter x y z=>exact hx _ _ ha h
  |cell ov=>obtain⟨v,⟨o,e,d⟩,r⟩:=h;exact⟨v,⟨o,hx _ _ ha e,d⟩,r⟩
  |raw o=>exact hx _ _ ha h
  |val _|gst _=>exact h.elim
theorem Lq.keeps {l:Ex} {c:CO} (hx:∀b o,s.heap.get? b=Ad o->s'.heap.get? b=Ad o) (hg:s'.gens=s.gens) (h:Lq Γ s l c):Lq Γ s' l c:=by
 cases l with
 |var d x=>
  cases c<;>first|exact h.elim|skip
  obtain⟨M,N,e⟩:=h
  exact⟨M,N.keeps hx,e⟩
 |gen g=>
  cases c<;>first|exact h.elim|skip
  show s'.gens[g]? =_
  rw [hg];exact h
 |obj a=>
  cases c with
  |list vs=>obtain⟨ws,n,e,r⟩:=h;exact⟨ws,n,hx _ _ e,r⟩
  |tup vs=>obtain⟨ws,n,e,r⟩:=h;exact⟨ws,n,hx _ _ e,r⟩
  |inst C d=>exact hx _ _ h
  |ns m=>obtain⟨es,n,e,r⟩:=h;exact⟨es,n,hx _ _ e,r⟩
  |idict es=>obtain⟨kvs,⟨o,es,ep,ho,r⟩,q⟩:=h;exact⟨kvs,⟨o,es,ep,hx _ _ ho,r⟩,q⟩
  |sdict es=>obtain⟨kvs,⟨o,es,ep,ho,r⟩,q⟩:=h;exact⟨kvs,⟨o,es,ep,hx _ _ ho,r⟩,q⟩
  |iset ks=>obtain⟨S,n,⟨o,es,ep,t,ho,r⟩,q⟩:=h;exact⟨S,n,⟨o,es,ep,t,hx _ _ ho,r⟩,q⟩
  |vview d=>obtain⟨o,e,r⟩:=h;exact⟨o,hx _ _ e,r⟩
  |rng _ _ _=>obtain⟨t,u,v,e⟩:=h;exact⟨t,u,v,hx _ _ e⟩
  |rev l i=>obtain⟨o,e,r⟩:=h;exact⟨o,hx _ _ e,r⟩
  |fr m=>obtain⟨M,N,r⟩:=h;exact⟨M,N.keeps hx,r⟩
  |liter l i=>obtain⟨o,e,r⟩:=h;exact⟨o,hx _ _ e,r⟩
  |titer l i=>obtain⟨o,e,r⟩:=h;exact⟨o,hx _ _ e,r⟩
  |riter x y z=>exact hx _ _ h
  |cell ov=>obtain⟨v,⟨o,e,d⟩,r⟩:=h;exact⟨v,⟨o,hx _ _ e,d⟩,r⟩
  |raw o=>exact hx _ _ h
  |val _|gst _=>exact h.elim
theorem Lq.lt {l:Ex} {c:CO} (h:Lq Γ s l c) {b:Am} (hb:l.base=(true,b)):b < s.heap.objs.size:=by
 cases l with
 |gen g=>cases hb
 |var d x=>
  cases hb
  cases c<;>first|exact h.elim|skip
  obtain⟨M,N,e⟩:=h
  exact N.lt
 |obj a=>
  cases hb
  cases c with
  |list vs=>obtain⟨ws,n,e,r⟩:=h;exact Dw e
  |tup vs=>obtain⟨ws,n,e,r⟩:=h;exact Dw e
  |inst C d=>exact Dw h
  |ns m=>obtain⟨es,n,e,r⟩:=h;exact Dw e
  |idict es=>obtain⟨kvs,⟨o,es,ep,ho,r⟩,q⟩:=h;exact Dw ho
  |sdict es=>obtain⟨kvs,⟨o,es,ep,ho,r⟩,q⟩:=h;exact Dw ho
  |iset ks=>obtain⟨S,n,⟨o,es,ep,t,ho,r⟩,q⟩:=h;exact Dw ho
  |vview d=>obtain⟨o,e,r⟩:=h;exact Dw e
  |rng _ _ _=>obtain⟨t,u,v,e⟩:=h;exact Dw e
  |rev l i=>obtain⟨o,e,r⟩:=h;exact Dw e
  |fr m=>obtain⟨M,N,r⟩:=h;exact N.lt
  |liter l i=>obtain⟨o,e,r⟩:=h;exact Dw e
  |titer l i=>obtain⟨o,e,r⟩:=h;exact Dw e
  |riter x y z=>exact Dw h
  |cell ov=>obtain⟨v,⟨o,e,d⟩,r⟩:=h;exact Dw e
  |raw o=>exact Dw h
  |val _|gst _=>exact h.elim
theorem bE {h₀ h h':Cd} (K:OldK h₀ h) {a:Am} (ha:h₀.get? a=Ae) (hs:Iw a h h'):OldK h₀ h':=by
 have ne:∀b o,h₀.get? b=Ad o->b≠a:=λb o e q=>by rw [q,ha]at e;cases e
 refine⟨λb o e=>?_,λb o e=>let⟨o',ho'⟩:=K.there b o e;⟨o',hs _ _ (ne b o e) ho'⟩⟩
 rcases K.old b o e with x|⟨t,hc,vs,more,hv,x⟩|⟨rfl,hc,⟨o',es,n,ho',r⟩,z⟩
 ·exact .inl (hs _ _ (ne b o e) x)
 ·exact .inr (.inl ⟨t,hc,vs,more,hv,hs _ _ (ne b o e) x⟩)
 ·have e1:=hs _ _ (ne _ o e) ho'
  exact .inr (.inr ⟨rfl,hc,⟨o',es,n,e1,r⟩,λkey=>by rw [OldK.staticOf_congr (e1.trans ho'.symm) key];exact z key⟩)
theorem yU.keeps {h h':Cd} (L:yU h) (hx:∀b o,h.get? b=Ad o->h'.get? b=Ad o):yU h':=⟨L.no.keeps hx,λP hP=>let⟨ps,e,t⟩:=L.tab P hP;⟨ps,hx _ _ e,t⟩⟩
theorem yU.extBut {h h':Cd} {a:Am} (L:yU h) (hx:Iw a h h') (ha:Γ.h₁.get? a=Ae) (hc:cStatics≠a):yU h':=⟨L.no.extBut hx hc,λP hP=>let⟨ps,e,t⟩:=L.tab P hP;⟨ps,hx _ _ (λq=>by have:=Γ.tabs P hP;rw [q,ha]at this;cases this) e,t⟩⟩
theorem Eg.grow (R:Eg Γ σ s) (hx:∀b o,s.heap.get? b=Ad o->s'.heap.get? b=Ad o) (hg:s'.gens=s.gens) (ho:s'.os=s.os):Eg Γ σ s':=
 ⟨R.old.step_keeps hx,R.lim.keeps hx,λo e=>hx _ _ (R.stat o e),ho.trans R.os,by rw [hg];exact R.bare,λp hp=>⟨(R.ents p hp).1.keeps hx hg,(R.ents p hp).2⟩,R.sep⟩
theorem Eg.above {p:Av} (R:Eg Γ σ s) (hp:p∈σ.all) {b:Am} (hb:p.1.base=(true,b)):Γ.h₁.get? b=Ae:=by
 have h:=(R.ents p hp).2
 obtain⟨l,c⟩:=p
 cases l with
 |obj a=>cases hb;exact h.1
 |var d x=>cases hb;exact h.1
 |gen g=>cases hb
theorem Eg.above3 {p:Av} (R:Eg Γ σ s) (hp:p∈σ.all) {b:Am} (hb:p.1.base=(true,b)):iE Γ.h₁ b:=by
 have h:=(R.ents p hp).2
 obtain⟨l,c⟩:=p
 cases l with
 |obj a=>cases hb;exact h
 |var d x=>cases hb;exact h
 |gen g=>cases hb
theorem Eg.cstat {b:Am} (hb:Γ.h₁.get? b=Ae):cStatics≠b:=λe=>by
 obtain⟨mc,⟨o,_,_,ho,_⟩,_⟩:=Γ.top.nolimit
 rw [e,hb]at ho;cases ho
theorem Vw {l₁ l₂:List Av} {p:Av} (h:(l₁++p::l₂).Pairwise Ul):∀q∈l₁++l₂,Ul p q:=by
 rw [Lc,Io]at h
 intro q hq
 rcases Ak.mp hq with x|x
 ·exact(h.2.2 q x p (.head _)).symm
 ·exact h.2.1.1 q x
theorem lC {l₁ l₂:List Av} {p p':Av} (h:(l₁++p::l₂).Pairwise Ul) (k:∀q∈l₁++l₂,Ul p' q):(l₁++p'::l₂).Pairwise Ul:=by
 rw [Lc,Io]at h ⊢
 refine⟨h.1,⟨λq hq=>k q (Aa _ hq),h.2.1.2⟩,λa ha b hb=>?_⟩
 rcases Cj.mp hb with rfl|hb
 ·exact(k a (Ah _ ha)).symm
 ·exact h.2.2 a ha b (.tail _ hb)
theorem Ul.of_mut {l:Ex} {c c':CO} {q:Av} (h:Ul (l,c) q) (hc:c.imm=false):Ul (l,c') q:=by
 rcases h with h|⟨a,_⟩|⟨d,x,y,a,b,e⟩
 ·exact .inl h
 ·rw [hc]at a;cases a
 ·exact .inr (.inr ⟨d,x,y,a,b,e⟩)
theorem Ul.base_ne {a:Am} {c:CO} {q:Av} (h:Ul (.obj a,c) q) (hc:c.imm=false):q.1.base≠(true,a):=by
 rcases h with h|⟨e,_⟩|⟨d,x,y,e,_⟩
 ·exact Ll h
 ·rw [hc]at e;cases e
 ·cases e
theorem Eg.change {l₁ l₂:List Av} {W W' τ τ':List Av} {a:Am} {c c':CO} (R:Eg Γ ⟨W,τ⟩ s) (e:W++τ=l₁++(.obj a,c)::l₂) (e':W'++τ'=l₁++(.obj a,c')::l₂) (hc:c.imm=false)
  (hx:Iw a s.heap s'.heap) (hg:s'.gens=s.gens) (ho:s'.os=s.os) (hn:Lq Γ s' (.obj a) c'):Eg Γ ⟨W',τ'⟩ s':=by
 have R':=R
 obtain⟨r1,r2,rs,r3,r4,r6,r7⟩:=R'
 have hm:((.obj a,c):Av)∈(⟨W,τ⟩:Bc).all:=by show _∈W++τ;rw [e];exact Aa _ (.head _)
 have ha:=R.above hm rfl
 have r7':(l₁++(.obj a,c)::l₂).Pairwise Ul:=e▸r7
 refine⟨bE r1 ha hx,r2.extBut hx ha (Eg.cstat ha),λo e=>hx _ _ (Eg.cstat ha) (rs o e),ho.trans r3,by rw [hg];exact r4,λp hp=>?_,?_⟩
 ·have hp:p∈l₁++(.obj a,c')::l₂:=e'▸hp
  have old:∀q∈l₁++l₂,Lq Γ s' q.1 q.2/\q.1.above Γ.h₁:=λq hq=>by
   have hq':q∈(⟨W,τ⟩:Bc).all:=by
    show q∈W++τ
    rw [e]
    rcases Ak.mp hq with x|x
    ·exact Ah _ x
    ·exact Aa _ (.tail _ x)
   exact⟨(r6 q hq').1.ext hx hg (Ul.base_ne (Vw r7' q hq) hc),(r6 q hq').2⟩
  rcases Ak.mp hp with x|x
  ·exact old p (Ah _ x)
  ·rcases Cj.mp x with rfl|x
   ·exact⟨hn,R.above3 hm rfl⟩
   ·exact old p (Aa _ x)
 ·show(W'++τ').Pairwise Ul
  rw [e']
  exact lC r7' λq hq=>(Vw r7' q hq).of_mut hc
theorem Jw {l:Ex} {c:CO} {n:Nat} (hl:l.base=(true,n)) (h:∀q∈σ.all,Lq Γ s q.1 q.2) (hn:s.heap.objs.size<=n):∀q∈σ.all,Ul (l,c) q:=λq hq=>by
 left
 show l.base≠q.1.base
 rw [hl]
 intro e
 exact Nat.lt_irrefl _ (Pr ((h q hq).lt e.symm) hn)
theorem Eg.add {W τ:List Av} {l:Ex} {c:CO} (R:Eg Γ ⟨W,τ⟩ s) (h:Lq Γ s l c) (ha:l.above Γ.h₁) (hs:∀q∈W++τ,Ul (l,c) q):Eg Γ ⟨W,(l,c)::τ⟩ s:=by
 refine⟨R.old,R.lim,R.stat,R.os,R.bare,λp hp=>?_,?_⟩
 ·rcases Ak.mp hp with x|x
  ·exact R.ents p (Ah _ x)
  ·rcases Cj.mp x with rfl|x
   ·exact⟨h,ha⟩
   ·exact R.ents p (Aa _ x)
 ·have:=R.sep
  show(W++(l,c)::τ).Pairwise Ul
  rw [Lc,Io]
  rw [Lc]at this
  refine⟨this.1,⟨λq hq=>hs q (Aa _ hq),this.2.1⟩,λa ha b hb=>?_⟩
  rcases Cj.mp hb with rfl|hb
  ·exact(hs a (Ah _ ha)).symm
  ·exact this.2.2 a ha b hb
theorem K3 (P:Ol):((KK P).lookup He).isSome=true:=by kernel_rfl
theorem Eg.freshAt (R:Eg Γ σ s) {c:Am} (h:s.heap.objs.size<=c):iE Γ.h₁ c:=by
 refine⟨?_,?_⟩
 ·cases q:Γ.h₁.get? c with
  |Ae=>rfl
  |Ad o=>obtain⟨o',e⟩:=R.old.there _ _ q;exact absurd (Dw e) (Nat.not_lt.mpr h)
 ·obtain⟨o,e⟩:=Option.isSome_iff_exists.mp (K3 Γ.w.params)
  have:He < s.heap.objs.size:=Dw (R.kin _ _ e)
  exact Pr this h
theorem Eg.freshTop (R:Eg Γ σ s):iE Γ.h₁ s.heap.objs.size:=R.freshAt (Cb _)
theorem Eg.push {W τ:List Av} {c:CO} (R:Eg Γ ⟨W,τ⟩ s) (hx:∀b o,s.heap.get? b=Ad o->s'.heap.get? b=Ad o) (hg:s'.gens=s.gens) (ho:s'.os=s.os)
  (h:Lq Γ s' (.obj s.heap.objs.size) c):Eg Γ ⟨W,(.obj s.heap.objs.size,c)::τ⟩ s':=
 (R.grow hx hg ho).add h (R.freshTop) (Jw (σ:=⟨W,τ⟩) (s:=s) rfl (λq hq=>(R.ents q hq).1) (Cb _))
end
section
inductive Ri:List Av->Ex->CO->CO->List Av->Prop
 |here {l c c' τ}:Ri ((l,c)::τ) l c c' ((l,c')::τ)
 |there {l c c' p τ τ'}:Ri τ l c c' τ'->Ri (p::τ) l c c' (p::τ')
theorem Ri.split {τ τ':List Av} {l:Ex} {c c':CO} (h:Ri τ l c c' τ'):∃l₁ l₂,τ=l₁++(l,c)::l₂/\τ'=l₁++(l,c')::l₂:=by
 induction h with
 |here=>exact⟨[],_,rfl,rfl⟩
 |there _ ih=>obtain⟨l₁,l₂,rfl,rfl⟩:=ih;exact⟨_::l₁,l₂,rfl,rfl⟩
theorem Ri.append {τ τ' ρ:List Av} {l:Ex} {c c':CO} (h:Ri τ l c c' τ'):Ri (τ++ρ) l c c' (τ'++ρ):=by
 induction h with
 |here=>exact .here
 |there _ ih=>exact .there ih
theorem Ri.prepend {τ τ':List Av} {l:Ex} {c c':CO} (h:Ri τ l c c' τ'):∀ρ:List Av,Ri (ρ++τ) l c c' (ρ++τ')
 |[]=>h
 |_::r=>.there (h.prepend r)
inductive Jf:Bc->Ex->CO->CO->Bc->Prop
 |tau {W τ τ' l c c'}:Ri τ l c c' τ'->Jf ⟨W,τ⟩ l c c' ⟨W,τ'⟩
 |wld {W W' τ l c c'}:Ri W l c c' W'->Jf ⟨W,τ⟩ l c c' ⟨W',τ⟩
theorem Jf.split {σ σ':Bc} {l:Ex} {c c':CO} (h:Jf σ l c c' σ'):∃l₁ l₂,σ.all=l₁++(l,c)::l₂/\σ'.all=l₁++(l,c')::l₂:=by
 cases h with
 | @tau W τ τ' _ _ _ h=>
  obtain⟨l₁,l₂,rfl,rfl⟩:=h.split
  exact⟨W++l₁,l₂,by simp [Bc.all],by simp [Bc.all]⟩
 | @wld W W' τ _ _ _ h=>
  obtain⟨l₁,l₂,rfl,rfl⟩:=h.split
  exact⟨l₁,l₂++τ,by simp [Bc.all],by simp [Bc.all]⟩
theorem Jf.mem {σ σ':Bc} {l:Ex} {c c':CO} (h:Jf σ l c c' σ'):(l,c)∈σ.all:=by
 obtain⟨l₁,l₂,e,_⟩:=h.split
 rw [e];exact Aa _ (.head _)
section
variable {Γ:Bm} {A:Az} {σ σ':Bc} {s s':Be} {env:Env}
theorem Eg.changeS {a:Am} {c c':CO} (R:Eg Γ σ s) (U:Jf σ (.obj a) c c' σ') (hc:c.imm=false)
  (hx:Iw a s.heap s'.heap) (hg:s'.gens=s.gens) (ho:s'.os=s.os) (hn:Lq Γ s' (.obj a) c'):Eg Γ σ' s':=by
 obtain⟨l₁,l₂,e,e'⟩:=U.split
 exact Eg.change (W:=σ.W) (τ:=σ.τ) R e e' hc hx hg ho hn
theorem pS {h:Cd} {d:Am} {M M':Str->Option Ab} (a:h.Ns d M) (b:h.Ns d M'):M=M':=by
 obtain⟨o,es,ep,e,q,_,r⟩:=a
 obtain⟨o',es',ep',e',q',_,r'⟩:=b
 rw [e]at e';cases e'
 rw [q]at q';cases q'
 funext x
 rw [<-r x,r' x]
theorem Eg.changeV {d:Am} {x:Str} {c:CO} {v:Ab} {M:Str->Option Ab} (R:Eg Γ σ s) (U:Jf σ (.var d x) c (.val (Ad (cl v))) σ')
  (hM:s.heap.Ns d M) (hx:Iw d s.heap s'.heap) (hN:s'.heap.Ns d (λy=>if y=x then Ad v else M y)) (hg:s'.gens=s.gens) (ho:s'.os=s.os):Eg Γ σ' s':=by
 obtain⟨l₁,l₂,e,e'⟩:=U.split
 have hm:=U.mem
 have ha:=R.above hm rfl
 have hc:c.imm=false:=by
  have:=(R.ents _ hm).1
  cases c<;>first|rfl|exact this.elim
 have r7:=R.sep
 rw [e]at r7
 refine⟨bE R.old ha hx,R.lim.extBut hx ha (Eg.cstat ha),λo e=>hx _ _ (Eg.cstat ha) (R.stat o e),ho.trans R.os,by rw [hg];exact R.bare,λp hp=>?_,?_⟩
 ·have hp:p∈l₁++(.var d x,.val (Ad (cl v)))::l₂:=e'▸hp
  have old:∀q∈l₁++l₂,Lq Γ s' q.1 q.2/\q.1.above Γ.h₁:=λq hq=>by
   have hq':q∈σ.all:=by
    rw [e]
    rcases Ak.mp hq with x|x
    ·exact Ah _ x
    ·exact Aa _ (.tail _ x)
   refine⟨?_,(R.ents q hq').2⟩
   have z:=(R.ents q hq').1
   rcases Vw r7 q hq with h|⟨h,_⟩|⟨d',y,y',h1,h2,h3⟩
   ·exact z.ext hx hg (Ll h)
   ·rw [hc]at h;cases h
   ·cases h1
    obtain⟨ql,qc⟩:=q
    dsimp only at h2
    subst h2
    cases qc<;>first|exact z.elim|skip
    obtain⟨M',N',e3⟩:=z
    rw [pS N' hM]at e3
    exact⟨_,hN,by rw [if_neg (Ll h3)];exact e3⟩
  rcases Ak.mp hp with x|x
  ·exact old p (Ah _ x)
  ·rcases Cj.mp x with rfl|x
   ·exact⟨⟨_,hN,by rw [if_pos rfl];rfl⟩,R.above3 hm rfl⟩
   ·exact old p (Aa _ x)
 ·rw [e']
  exact lC r7 λq hq=>(Vw r7 q hq).of_mut hc
theorem Ac {x:Str} {pos:Pos} {v:Ab} {Q:Ab->Bc->Prop} (hm:(.var env.locals x,.val (Ad v))∈σ.all) (h:Q v σ)
  (hk:autoParam (env.scope.kind=.function) aR) (hl:autoParam (env.kindOf x=Ad .local) aR) (hd:autoParam ((x==("__debug__" :Str))=false) aD):
  T Γ A σ (Dv (.Name x pos) env) Q:=λs R=>by
 obtain⟨M,N,e⟩:=(R.ents _ hm).1
 cases q:M x with
 |Ae=>rw [q]at e;cases e
 |Ad u=>
  rw [q]at e
  refine wpAny_Name (wpAny_loadName_local hk hl N q ⟨σ,R,?_⟩) hd
  have:cl u=v:=Dl e
  show Q (cl u) σ
  rw [this];exact h
theorem Aq {x:Str} {pos:Pos} {c:Am} {v:Ab} {Q:Ab->Bc->Prop} (hc:env.cells.lookup x=Ad c) (hm:(.obj c,.cell (Ad v))∈σ.all) (h:Q v σ)
  (hk:autoParam (env.scope.kind=.function) aR) (hl:autoParam (env.kindOf x=Ad .cell) aR) (hd:autoParam ((x==("__debug__" :Str))=false) aD):
  T Γ A σ (Dv (.Name x pos) env) Q:=λs R=>by
 obtain⟨u,e,eu⟩:=(R.ents _ hm).1
 cases u with
 |Ae=>cases eu
 |Ad u=>
  refine wpAny_Name (wpAny_loadName_cell hk hl hc e ⟨σ,R,?_⟩) hd
  have:cl u=v:=Dl eu
  show Q (cl u) σ
  rw [this];exact h
theorem Rh {x:Str} {ov:Option Ab} {v:Ab} {Q:Unit->Bc->Prop} (U:Jf σ (.var env.locals x) (.val ov) (.val (Ad (cl v))) σ') (h:Q () σ')
  (hk:autoParam (env.scope.kind=.function) aR) (hl:autoParam (env.kindOf x=Ad .local) aR):
  T Γ A σ (storeName env x v) Q:=λs R=>by
 obtain⟨M,N,e⟩:=(R.ents _ U.mem).1
 refine wpAny_storeName_local hl N (λh' hn hs=>⟨σ',Eg.changeV (s':={s with heap:=h',toks:=s.toks+1}) R U N hs.extBut hn rfl rfl,h⟩) ?_
 show(env.scope.kind==.class ||(env.scope.kind==.module&&_))=false
 rw [hk];rfl
theorem Xp {x:Str} {c:Am} {ov:Option Ab} {v:Ab} {Q:Unit->Bc->Prop} (hc:env.cells.lookup x=Ad c) (U:Jf σ (.obj c) (.cell ov) (.cell (Ad (cl v))) σ') (h:Q () σ')
  (hk:autoParam (env.scope.kind=.function) aR) (hl:autoParam (env.kindOf x=Ad .cell) aR):
  T Γ A σ (storeName env x v) Q:=λs R=>by
 obtain⟨u,e,eu⟩:=(R.ents _ U.mem).1
 refine wpAny_storeName_cell hk hl hc e λh' hv hs=>⟨σ',Eg.changeS (s':={s with heap:=h'}) R U rfl hs.extBut rfl rfl ⟨_,hv,rfl⟩,h⟩
end
end
section
section
variable {Γ:Bm} {A:Az} {σ σ':Bc} {s s':Be} {env:Env}
theorem T.elim {α:Type} [Xx α] {t:Sem α} {P:α->Bc->Prop} {Q:α->Be->Prop} {E:Ab->Be->Prop} (h:T Γ A σ t P) (R:Eg Γ σ s) (k:∀v s' σ',Eg Γ σ' s'->P (cln v) σ'->Q v s'):
  Cu (Ci Γ.prog Γ.w) A t Q E s:=Ec (h s R) (λv s' o=>o.casesOn λσ' R' p=>k v s' σ' R' p) λ_ _ x=>x.elim
theorem T.go {α:Type} [Xx α] {t:Sem α} {K:α->Be->Prop} {E:Ab->Be->Prop} (h:T Γ A σ t λv σ₁=>∀s',Eg Γ σ₁ s'->∀u,cln u=v->K u s') (R:Eg Γ σ s):Cu (Ci Γ.prog Γ.w) A t K E s:=
 h.elim R λv s' _ R' q=>q s' R' v rfl
theorem T.to {α:Type} [Xx α] {t:Sem α} {K:α->Be->Prop} {E:Ab->Be->Prop} (h:T Γ A σ t λ_ σ₁=>σ₁=σ') (R:Eg Γ σ s) (k:∀v s',Eg Γ σ' s'->K v s'):Cu (Ci Γ.prog Γ.w) A t K E s:=
 h.elim R λv s' _ R' e=>k v s' (e▸R')
theorem T.ref {t:Sem Ab} {a:Am} {K:Ab->Be->Prop} {E:Ab->Be->Prop} (h:T Γ A σ t λv σ₁=>v=.ref a/\σ₁=σ') (R:Eg Γ σ s) (k:∀s',Eg Γ σ' s'->K (.ref a) s'):Cu (Ci Γ.prog Γ.w) A t K E s:=
 h.elim R λv s' _ R' e=>by rw [Ch e.1];exact k s' (e.2▸R')
theorem T.one {α:Type} [Xx α] {t:Sem α} {c:α} {K:α->Be->Prop} {E:Ab->Be->Prop} (h:T Γ A σ t λv σ₁=>v=c/\σ₁=σ') (R:Eg Γ σ s) (k:∀v s',cln v=c->Eg Γ σ' s'->K v s'):Cu (Ci Γ.prog Γ.w) A t K E s:=
 h.elim R λv s' _ R' e=>k v s' e.1 (e.2▸R')
inductive kY (l:Ex) (k:Option Ab->CO) (Q:Ga->Bc->Prop) (c:Ab) (σ:Bc):Prop
 |mk (ov:Option Ab) (σ':Bc) (u:Jf σ l (k ov) (k (Ad c)) σ') (q:Q .next σ')
noncomputable abbrev PU (Q:Ga->Bc->Prop) (_:Unit):Bc->Prop:=Q .next
noncomputable abbrev PVU (Q:Ga->Bc->Prop) (_:Ab):Bc->Prop:=Q .next
noncomputable abbrev Aje (Q:Ga->Bc->Prop) (c:Ab):Bc->Prop:=Q (.ret c)
noncomputable abbrev Ajf (Q:Bool->Bc->Prop) (b:Bool):Bc->Prop:=Q (!b)
inductive PIf {α:Type} [Xx α] (Γ:Bm) (A:Az) (t e:Sem α) (Q:α->Bc->Prop) (b:Bool) (σ:Bc):Prop
 |mk (yes:b=true->T Γ A σ t Q) (no:b=false->T Γ A σ e Q)
inductive sH {α:Type} [Xx α] (Γ:Bm) (A:Az) (w w':Bool) (t:Sem α) (Q:α->Bc->Prop) (q:Bc->Prop) (b:Bool) (σ:Bc):Prop
 |mk (yes:b=w->T Γ A σ t Q) (no:b=w'->q σ)
inductive Agj (Q:Ga->Bc->Prop) (b:Bool) (σ:Bc):Prop
 |mk (e:b=true) (q:Q .next σ)
inductive Ahb (Q:Bool->Bc->Prop) (c:Ab) (σ:Bc):Prop
 |mk (b:Bool) (e:c=.bool b) (q:Q b σ)
noncomputable def P1 {α:Type} [Xx α] (Γ:Bm) (A:Az) (f:Ab->Sem α) (Q:α->Bc->Prop) (c:Ab) (σ:Bc):Prop:=∀v,cl v=c->T Γ A σ (f v) Q
noncomputable def P2 {α:Type} [Xx α] (Γ:Bm) (A:Az) (f:Ab->Ab->Sem α) (Q:α->Bc->Prop) (a b:Ab) (σ:Bc):Prop:=∀u v,cl u=a->cl v=b->T Γ A σ (f u v) Q
noncomputable def P3 {α:Type} [Xx α] (Γ:Bm) (A:Az) (f:Ab->Ab->Ab->Sem α) (Q:α->Bc->Prop) (a b c:Ab) (σ:Bc):Prop:=∀u v w,cl u=a->cl v=b->cl w=c->T Γ A σ (f u v w) Q
noncomputable def PR (Γ:Bm) (A:Az) (r:Sem Ab) (K:Ab->Ab->Bc->Prop) (a:Ab) (σ:Bc):Prop:=T Γ A σ r (K a)
noncomputable def PR2 (Γ:Bm) (A:Az) (r r':Sem Ab) (K:Ab->Ab->Ab->Bc->Prop) (a:Ab) (σ:Bc):Prop:=T Γ A σ r (λb=>PR Γ A r' (K a) b)
inductive Adi (k:List Ab->CO) (Q:Ab->Bc->Prop) (cs:List Ab) (σ:Bc):Prop
 |mk (hz:cs.length<=Gn) (h:∀a,Q (.ref a) ⟨σ.W,(.obj a,k cs)::σ.τ⟩)
noncomputable abbrev Agl (Q:List Ab->Bc->Prop) (c:Ab) (cs:List Ab):Bc->Prop:=Q (c::cs)
noncomputable def Ajd (Γ:Bm) (A:Az) (rest:List (Bool×Sem Ab)) (Q:List Ab->Bc->Prop) (c:Ab) (σ:Bc):Prop:=T Γ A σ (Na rest) (Agl Q c)
theorem Cq {Q:Ga->Bc->Prop} (h:Q .next σ):T Γ A σ (Cs [] env) Q:=λ_ R=>wpAny_execs_nil ⟨σ,R,h⟩
noncomputable def Fh (Γ:Bm) (A:Az) (env:Env) (rest:List Jy) (Q:Ga->Bc->Prop) (f:Ga) (σ':Bc):Prop:=match f with
 |.next=>T Γ A σ' (Cs rest env) Q
 |f=>Q f σ'
theorem Ao {st:Jy} {rest:List Jy} {Q:Ga->Bc->Prop} (h:T Γ A σ (Ni st env) (Fh Γ A env rest Q)):T Γ A σ (Cs (st::rest) env) Q:=λ_ R=>
 wpAny_execs_cons (h.elim R λf s' σ' R' q=>by cases f<;>first|exact q s' R'|exact⟨σ',R',q⟩)
theorem Bo {x:Str} {pos' pos:Pos} {value:At} {Q:Ga->Bc->Prop}
  (h:T Γ A σ (Dv value env) (kY (.var env.locals x) .val Q))
  (hk:autoParam (env.scope.kind=.function) aR) (hl:autoParam (env.kindOf x=Ad .local) aR)
  (hs:autoParam (Lz value (Ad (.Name x pos')) pos.line env=Et false) aR):T Γ A σ (Ni (.Assign [.Name x pos'] value pos) env) Q:=λ_ R=>
 wpAny_Assign_Name (h.elim R λv _ _ R₁ ⟨_,_,U,q⟩=>(Rh (Q:=λ_=>Q .next) U q hk hl).elim R₁ λ_ _ σ' R' q=>⟨σ',R',q⟩) hs
theorem Gh {x:Str} {c:Am} {pos' pos:Pos} {value:At} {Q:Ga->Bc->Prop} (hc:env.cells.lookup x=Ad c)
  (h:T Γ A σ (Dv value env) (kY (.obj c) .cell Q))
  (hk:autoParam (env.scope.kind=.function) aR) (hl:autoParam (env.kindOf x=Ad .cell) aR)
  (hs:autoParam (Lz value (Ad (.Name x pos')) pos.line env=Et false) aR):T Γ A σ (Ni (.Assign [.Name x pos'] value pos) env) Q:=λ_ R=>
 wpAny_Assign_Name (h.elim R λv _ _ R₁ ⟨_,_,U,q⟩=>(Xp (Q:=λ_=>Q .next) hc U q hk hl).elim R₁ λ_ _ σ' R' q=>⟨σ',R',q⟩) hs
theorem Fp {e:At} {pos:Pos} {Q:Ga->Bc->Prop} (h:T Γ A σ (Dv e env) (Aje Q)):T Γ A σ (Ni (.Return (Ad e) pos) env) Q:=λ_ R=>
 wpAny_Return_some (h.elim R λ_ _ σ' R' q=>⟨σ',R',q⟩)
theorem dT {pos:Pos} {Q:Ga->Bc->Prop} (h:Q (.ret .none) σ):T Γ A σ (Ni (.Return Ae pos) env) Q:=λ_ R=>wpAny_Return_none ⟨σ,R,h⟩
theorem xX {pos:Pos} {Q:Ga->Bc->Prop} (h:Q .brk σ):T Γ A σ (Ni (.Break pos) env) Q:=λ_ R=>wpAny_Break ⟨σ,R,h⟩
theorem cO {pos:Pos} {Q:Ga->Bc->Prop} (h:Q .cont σ):T Γ A σ (Ni (.Continue pos) env) Q:=λ_ R=>wpAny_Continue ⟨σ,R,h⟩
theorem Gf {e:At} {pos:Pos} {Q:Ga->Bc->Prop} (h:T Γ A σ (Dv e env) (PVU Q)) (hi:autoParam (interactive env=false) aR) (hs:autoParam (Lz e Ae pos.line env=Et false) aR):
  T Γ A σ (Ni (.Expr e pos) env) Q:=λ_ R=>wpAny_Expr_any (h.elim R λ_ _ σ' R' q=>⟨σ',R',q⟩) hi hs
theorem Hz {test:At} {body orelse:List Jy} {pos:Pos} {Q:Ga->Bc->Prop}
  (h:T Γ A σ (isTrue test env (Dv test env)) (PIf Γ A (Cs body env) (Cs orelse env) Q)):
  T Γ A σ (Ni (.If test body orelse pos) env) Q:=λ_ R=>
 wpAny_If (h.elim R λb s' σ' R' q=>by cases b with|true=>exact q.1 rfl s' R'|false=>exact q.2 rfl s' R')
theorem vO {test:At} {msg:Option At} {pos:Pos} {Q:Ga->Bc->Prop}
  (h:T Γ A σ (isTrue test env (Dv test env)) (Agj Q)):T Γ A σ (Ni (.Assert test msg pos) env) Q:=λ_ R=>
 wpAny_Assert_holds (h.elim R λ_ _ σ' R' q=>⟨q.1,σ',R',q.2⟩)
theorem Dn {o value:At} {attr:Str} {pos' pos:Pos} {Q:Ga->Bc->Prop}
  (h:T Γ A σ (Dv value env) (PR Γ A (Dv o env) (P2 Γ A (λv ov=>setAttr ov attr v) (PU Q))))
  (hs:autoParam (Lz value (Ad (.Attribute o attr pos')) pos.line env=Et false) aR):T Γ A σ (Ni (.Assign [.Attribute o attr pos'] value pos) env) Q:=λ_ R=>
 plainObj_wpAny_Assign_Attribute (h.elim R λv _ _ R₁ q₁=>q₁.elim R₁ λov _ _ R₂ q₂=>(q₂ v ov rfl rfl).elim R₂ λ_ _ σ' R' q=>⟨σ',R',q⟩) hs
theorem Lg {o i value:At} {pos' pos:Pos} {Q:Ga->Bc->Prop}
  (h:T Γ A σ (Dv value env) (PR2 Γ A (Dv o env) (Dv i env) (P3 Γ A (λv ov iv=>setItem ov iv v) (PU Q))))
  (hs:autoParam (Lz value (Ad (.Subscript o i pos')) pos.line env=Et false) aR):T Γ A σ (Ni (.Assign [.Subscript o i pos'] value pos) env) Q:=λ_ R=>
 wpAny_Assign_Subscript (h.elim R λv _ _ R₁ q₁=>q₁.elim R₁ λov _ _ R₂ q₂=>q₂.elim R₂ λiv _ _ R₃ q₃=>(q₃ v ov iv rfl rfl rfl).elim R₃ λ_ _ σ' R' q=>⟨σ',R',q⟩) hs
theorem nR {o i:At} {pos' pos:Pos} {Q:Ga->Bc->Prop}
  (h:T Γ A σ (Dv o env) (PR Γ A (Dv i env) (P2 Γ A delItem (PU Q)))):T Γ A σ (Ni (.Delete [.Subscript o i pos'] pos) env) Q:=λ_ R=>
 wpAny_Delete (wpAny_deleteEach_cons (wpAny_delete_Subscript (h.elim R λov _ _ R₂ q₂=>q₂.elim R₂ λiv _ _ R₃ q₃=>(q₃ ov iv rfl rfl).elim R₃ λ_ _ σ' R' q=>wpAny_deleteEach_nil ⟨σ',R',q⟩)))
theorem Dh {i:Int} {k:Nat} {pos:Pos} {Q:Ab->Bc->Prop} (h:Q (.int i 0) σ):T Γ A σ (Dv (.Constant (.int i) k pos) env) Q:=λ_ R=>wpAny_Constant_int ⟨σ,R.toks _,h⟩
theorem Kp {i:Str} {k:Nat} {pos:Pos} {Q:Ab->Bc->Prop} (h:Q (.str i 0) σ):T Γ A σ (Dv (.Constant (.str i) k pos) env) Q:=λ_ R=>Constant_str ⟨σ,R.toks _,h⟩
theorem Ka {k:Nat} {pos:Pos} {Q:Ab->Bc->Prop} (h:Q .none σ):T Γ A σ (Dv (.Constant .none k pos) env) Q:=λ_ R=>wpAny_Constant_none ⟨σ,R,h⟩
theorem Yg {b:Bool} {k:Nat} {pos:Pos} {Q:Ab->Bc->Prop} (h:Q (.bool b) σ):T Γ A σ (Dv (.Constant (.bool b) k pos) env) Q:=λ_ R=>wpAny_Constant_bool ⟨σ,R,h⟩
theorem En {l r:At} {op:Operator} {pos:Pos} {Q:Ab->Bc->Prop}
  (h:T Γ A σ (Dv l env) (PR Γ A (Dv r env) (P2 Γ A (Ou op) Q))):T Γ A σ (Dv (.BinOp l op r pos) env) Q:=λ_ R=>
 wpAny_BinOp (h.elim R λu _ _ R₁ q₁=>q₁.elim R₁ λv _ _ R₂ q₂=>(q₂ u v rfl rfl).elim R₂ λ_ _ σ' R' q=>⟨σ',R',q⟩)
theorem To {l r:At} {op:CmpOp} {pos:Pos} {Q:Ab->Bc->Prop}
  (h:T Γ A σ (Dv l env) (PR Γ A (Dv r env) (P2 Γ A (El op) Q)))
  (hm:autoParam (behindInMarks op r=false) aU):T Γ A σ (Dv (.Compare l [op] [r] pos) env) Q:=λ_ R=>
 wpAny_Compare1 (h.elim R λu _ _ R₁ q₁=>q₁.elim R₁ λv _ _ R₂ q₂=>(q₂ u v rfl rfl).elim R₂ λ_ _ σ' R' q=>⟨σ',R',q⟩) hm
theorem Au {l r:At} {op:CmpOp} {pos:Pos} {whole:Sem Ab} {Q:Bool->Bc->Prop}
  (h:T Γ A σ (Dv l env) (PR Γ A (Dv r env) (P2 Γ A (El op) (Ahb Q))))
  (hm:autoParam (behindInMarks op r=false) aU):T Γ A σ (isTrue (.Compare l [op] [r] pos) env whole) Q:=λ_ R=>
 wpAny_isTrue_Compare1 (h.elim R λu _ _ R₁ q₁=>q₁.elim R₁ λv _ _ R₂ q₂=>(q₂ u v rfl rfl).elim R₂ λw _ σ' R' ⟨b,e,q⟩=>by
  have:=gC e
  subst this
  exact wpAny_truthy_bool ⟨σ',R',q⟩) hm
theorem Nq {x:At} {pos:Pos} {whole:Sem Ab} {Q:Bool->Bc->Prop} (h:T Γ A σ (isTrue x env (Dv x env)) (Ajf Q)):T Γ A σ (isTrue (.UnaryOp .Not x pos) env whole) Q:=λ_ R=>
 wpAny_isTrue_Not (h.elim R λ_ _ σ' R' q=>⟨σ',R',q⟩)
theorem Eo {e:At} {whole:Sem Ab} {Q:Bool->Bc->Prop} (h:T Γ A σ whole (P1 Γ A Pl Q))
  (he:autoParam (isTrue e env whole=(do let v<-whole;Mz e.pos;holding [v] (Pl v))) aR):T Γ A σ (isTrue e env whole) Q:=λ_ R=>
 wpAny_isTrue_value (h.elim R λv _ _ R₁ q₁=>(q₁ v rfl).elim R₁ λ_ _ σ' R' q=>⟨σ',R',q⟩) he
theorem Ew {op:BoolOp} {values:List At} {pos:Pos} {whole:Sem Ab} {Q:Bool->Bc->Prop} (h:T Γ A σ (allTrue op values env) Q):T Γ A σ (isTrue (.BoolOp op values pos) env whole) Q:=λs R=>
 wpAny_isTrue_BoolOp (h s R)
theorem Tp {Q:Bool->Bc->Prop} (h:Q true σ):T Γ A σ (allTrue .And [] env) Q:=λ_ R=>wpAny_allTrue_And_nil ⟨σ,R,h⟩
theorem Xc {Q:Bool->Bc->Prop} (h:Q false σ):T Γ A σ (allTrue .Or [] env) Q:=λ_ R=>wpAny_allTrue_Or_nil ⟨σ,R,h⟩
theorem Fd {x:At} {rest:List At} {Q:Bool->Bc->Prop}
  (h:T Γ A σ (isTrue x env (Dv x env)) (sH Γ A true false (allTrue .And rest env) Q (Q false))):T Γ A σ (allTrue .And (x::rest) env) Q:=λ_ R=>
 wpAny_allTrue_And_cons (h.elim R λb s' σ' R' q=>by cases b with|true=>exact q.1 rfl s' R'|false=>exact⟨σ',R',q.2 rfl⟩)
theorem Qa {x:At} {rest:List At} {Q:Bool->Bc->Prop}
  (h:T Γ A σ (isTrue x env (Dv x env)) (sH Γ A false true (allTrue .Or rest env) Q (Q true))):T Γ A σ (allTrue .Or (x::rest) env) Q:=λ_ R=>
 wpAny_allTrue_Or_cons (h.elim R λb s' σ' R' q=>by cases b with|true=>exact⟨σ',R',q.2 rfl⟩|false=>exact q.1 rfl s' R')
theorem Qi {test body orelse:At} {pos:Pos} {Q:Ab->Bc->Prop}
  (h:T Γ A σ (isTrue test env (Dv test env)) (PIf Γ A (Dv body env) (Dv orelse env) Q)):T Γ A σ (Dv (.IfExp test body orelse pos) env) Q:=λ_ R=>
 wpAny_IfExp (h.elim R λb s' σ' R' q=>by cases b with|true=>exact q.1 rfl s' R'|false=>exact q.2 rfl s' R')
theorem Jg {value:At} {attr:Str} {pos:Pos} {Q:Ab->Bc->Prop}
  (h:T Γ A σ (Dv value env) (P1 Γ A (λo=>Lk o attr true) Q))
  (he:autoParam (Dv (.Attribute value attr pos) env=(do
   let o<-Dv value env
   Mz pos.atName
   let r<-holding [o] (Lk o attr true)
   Gp value o r
   Et r)) aU):T Γ A σ (Dv (.Attribute value attr pos) env) Q:=λ_ R=>
 Attribute_any_ (h.elim R λo _ _ R₁ q₁=>(q₁ o rfl).elim R₁ λ_ _ σ' R' q=>⟨σ',R',q⟩) he
theorem Bh {value slice:At} {pos:Pos} {Q:Ab->Bc->Prop}
  (h:T Γ A σ (Dv value env) (PR Γ A (Dv slice env) (P2 Γ A (Gg value slice) Q))):
  T Γ A σ (Dv (.Subscript value slice pos) env) Q:=λ_ R=>
 Subscript_ (h.elim R λo _ _ R₁ q₁=>q₁.elim R₁ λi _ _ R₂ q₂=>(q₂ o i rfl rfl).elim R₂ λ_ _ σ' R' q=>⟨σ',R',q⟩)
theorem Ar {Q:List Ab->Bc->Prop} (h:Q [] σ):T Γ A σ (Na []) Q:=λ_ R=>Ax ⟨σ,R,h⟩
theorem Ai {x:Sem Ab} {rest:List (Bool×Sem Ab)} {Q:List Ab->Bc->Prop}
  (h:T Γ A σ x (Ajd Γ A rest Q)):T Γ A σ (Na ((false,x)::rest)) Q:=λs R=>by
 have e:Na ((false,x)::rest)=(x>>=λv=>(Et [v]:Sem (List Ab))>>=λhere=>holding here (Na rest)>>=λr=>Et (here++r)):=rfl
 rw [e]
 exact Af (h.elim R λv s₁ σ₁ R₁ q₁=>Af (Ax (Af (Ef (q₁.elim R₁ λvs s₂ σ₂ R₂ q₂=>Ax ⟨σ₂,R₂,q₂⟩)))))
theorem rL {W τ:List Av} {vs:List Ab} {Q:Ab->Bc->Prop} (hz:vs.length<=Gn) (h:∀a,Q (.ref a) ⟨W,(.obj a,.list (vs.map cl))::τ⟩):T Γ A ⟨W,τ⟩ (newList vs) Q:=λs R=>
 Ez ⟨_,R.push (c:=.list (vs.map cl)) (s':={s with heap:=s.heap.push _}) (λ_ _ e=>An _ e) rfl rfl ⟨vs.toArray,0,Bj _ rfl,rfl⟩,h _⟩ (by show vs.toArray.size<=Gn;rw [Qs];exact hz)
theorem cK {W τ:List Av} {vs:List Ab} {Q:Ab->Bc->Prop} (hz:vs.length<=Gn) (h:∀a,Q (.ref a) ⟨W,(.obj a,.tup (vs.map cl))::τ⟩):T Γ A ⟨W,τ⟩ (newTuple vs) Q:=λs R=>
 Ez ⟨_,R.push (c:=.tup (vs.map cl)) (s':={s with heap:=s.heap.push _}) (λ_ _ e=>An _ e) rfl rfl ⟨vs.toArray,0,Bj _ rfl,rfl⟩,h _⟩ (by show vs.toArray.size<=Gn;rw [Qs];exact hz)
theorem Ic {elts:List At} {pos:Pos} {Q:Ab->Bc->Prop}
  (h:T Γ A σ (Na (backTo pos (Mq elts env))) (Adi .list Q)):T Γ A σ (Dv (.List elts pos) env) Q:=λs R=>
 List_ (h.elim R λvs s₁ σ₁ R₁ ⟨hz,q⟩=>rL (W:=σ₁.W) (τ:=σ₁.τ) (by simpa [cln]using hz) q s₁ R₁)
theorem Kr {elts:List At} {k:Nat} {pos:Pos} {Q:Ab->Bc->Prop}
  (h:T Γ A σ (Na (backTo pos (Mq elts env))) (Adi .tup Q)):T Γ A σ (Dv (.Tuple elts k pos) env) Q:=λs R=>
 Tuple_ (h.elim R λvs s₁ σ₁ R₁ ⟨hz,q⟩=>cK (W:=σ₁.W) (τ:=σ₁.τ) (by simpa [cln]using hz) q s₁ R₁)
end
end
section
section
variable {Γ:Bm} {A:Az} {σ σ':Bc} {s s':Be} {env:Env}
structure sI (Γ:Bm) (A:Az) (it:Am) (st:Nat->CO) (vs:List Ab) (G:Bc->Prop):Prop where
 item:∀i v σ,vs[i]? =Ad v->G σ->T Γ A ⟨σ.W,(.obj it,st i)::σ.τ⟩ (Ls (.ref it)) λr σ'=>r=Ad v/\σ'=⟨σ.W,(.obj it,st (i+1))::σ.τ⟩
 fin:∀σ,G σ->T Γ A ⟨σ.W,(.obj it,st vs.length)::σ.τ⟩ (Ls (.ref it)) λr σ'=>r=Ae/\σ'=σ
theorem Eh {W τ:List Av} {p q:Av} (h:p∈(⟨W,τ⟩:Bc).all):p∈(⟨W,q::τ⟩:Bc).all:=by
 rcases Ak.mp h with x|x
 ·exact Ah _ x
 ·exact Aa _ (.tail _ x)
theorem Bv {W τ:List Av} {q:Av}:q∈(⟨W,q::τ⟩:Bc).all:=Aa _ (.head _)
theorem aW {W τ:List Av} {l:Ex} {c c':CO}:Jf ⟨W,(l,c)::τ⟩ l c c' ⟨W,(l,c')::τ⟩:=.tau .here
theorem Eg.dropObj {W τ:List Av} {a:Am} {c:CO} (R:Eg Γ ⟨W,(.obj a,c)::τ⟩ s) (hc:c.imm=false) (hx:Iw a s.heap s'.heap) (hg:s'.gens=s.gens) (ho:s'.os=s.os):Eg Γ ⟨W,τ⟩ s':=by
 have ha:Γ.h₁.get? a=Ae:=R.above Bv rfl
 have r7:=R.sep
 have r7':(W++(Ex.obj a,c)::τ).Pairwise Ul:=r7
 refine⟨bE R.old ha hx,R.lim.extBut hx ha (Eg.cstat ha),λo e=>hx _ _ (Eg.cstat ha) (R.stat o e),ho.trans R.os,by rw [hg];exact R.bare,λq hq=>?_,?_⟩
 ·exact⟨(R.ents q (Eh hq)).1.ext hx hg (Ul.base_ne (Vw r7' q hq) hc),(R.ents q (Eh hq)).2⟩
 ·exact r7'.sublist (Qp.append (Qp.refl _) (Qu _ _))
theorem getElem?_map_cl {ws:Array Ab} {vs:List Ab} (h:ws.toList.map cl=vs) {i:Nat} {v:Ab} (hv:vs[i]? =Ad v):∃u,ws[i]? =Ad u/\cl u=v:=by
 subst h
 rw [Bg,Db]at hv
 obtain⟨u,hu,e⟩:=hv
 exact⟨u,by rw [<-Array.getElem?_toList];exact hu,e⟩
theorem getElem?_map_none {ws:Array Ab} {vs:List Ab} (h:ws.toList.map cl=vs):ws[vs.length]? =Ae:=by
 subst h;simp
theorem qV {it a:Am} {vs:List Ab} (hh:A.handled=Ae):sI Γ A it (.liter a) vs λσ=>(.obj a,.list vs)∈σ.all where
 item i v σ hv hm s R:=by
  obtain⟨ws,n,e,ew⟩:=(R.ents _ (Eh hm)).1
  obtain⟨u,hu,eu⟩:=getElem?_map_cl ew hv
  have hit:s.heap.IsListIter it a i:=(R.ents _ Bv).1
  refine wpAny_pyNext_list_item hit ⟨_,e,rfl,n,rfl⟩ hu λh' hi hs=>⟨_,Eg.changeS (s':={s with heap:=h'}) (c':=.liter a (i+1)) R aW rfl hs.extBut rfl rfl hi,?_,rfl⟩
  show Ad (cl u)=Ad v
  rw [eu]
 fin σ hm s R:=by
  obtain⟨ws,n,e,ew⟩:=(R.ents _ (Eh hm)).1
  have hit:s.heap.IsListIter it a vs.length:=(R.ents _ Bv).1
  refine wpAny_pyNext_list_end hh hit ⟨_,e,rfl,n,rfl⟩ (getElem?_map_none ew) λh' hx=>⟨σ,Eg.dropObj (s':={s with heap:=h'}) R rfl hx rfl rfl,rfl,rfl⟩
noncomputable def Fc (Γ:Bm) (σ:Bc) (a:Am) (vs:List Ab):Prop:=∀s,Eg Γ σ s->Lq Γ s (.obj a) (.tup vs)
theorem Fc.of_mem {a:Am} {vs:List Ab} (hm:(.obj a,.tup vs)∈σ.all):Fc Γ σ a vs:=λ_ R=>(R.ents _ hm).1
theorem Fc.le {a:Am} {vs:List Ab} (h:Fc Γ σ a vs) (e:Av.le σ σ'):Fc Γ σ' a vs:=λs R=>h s (e Γ s R)
theorem Fc.of_K {a:Am} {n:Nat} (h:Γ.K.lookup a=Ad {cls:=.type "tuple",data:=.seq #[] n}):Fc Γ σ a []:=λ_ R=>⟨#[],n,R.kin _ _ h,rfl⟩
theorem Fc.ext {a:Am} {vs:List Ab} {W τ ext:List Av} (h:Fc Γ ⟨W,τ⟩ a vs):Fc Γ ⟨W,ext++τ⟩ a vs:=h.le (Av.le_sub (Bs _ _))
theorem mT {it a:Am} {vs:List Ab} (hh:A.handled=Ae):sI Γ A it (.titer a) vs λσ=>Fc Γ σ a vs where
 item i v σ hv hm s R:=by
  obtain⟨ws,n,e,ew⟩:=hm s (Av.le_sub (Qu _ _) _ _ R)
  obtain⟨u,hu,eu⟩:=getElem?_map_cl ew hv
  have hit:s.heap.IsTupleIter it a i:=(R.ents _ Bv).1
  refine wpAny_pyNext_tuple_item hit ⟨_,e,rfl,n,rfl⟩ hu λh' hi hs=>⟨_,Eg.changeS (s':={s with heap:=h'}) (c':=.titer a (i+1)) R aW rfl hs.extBut rfl rfl hi,?_,rfl⟩
  show Ad (cl u)=Ad v
  rw [eu]
 fin σ hm s R:=by
  obtain⟨ws,n,e,ew⟩:=hm s (Av.le_sub (Qu _ _) _ _ R)
  have hit:s.heap.IsTupleIter it a vs.length:=(R.ents _ Bv).1
  refine wpAny_pyNext_tuple_end hh hit ⟨_,e,rfl,n,rfl⟩ (getElem?_map_none ew) λh' hx=>⟨σ,Eg.dropObj (s':={s with heap:=h'}) R rfl hx rfl rfl,rfl,rfl⟩
theorem Uy {W τ:List Av} {v:Ab} {a:Am} {vs:List Ab} {Q:Ab->Bc->Prop} (hv:cl v=.ref a) (hm:(.obj a,.list vs)∈(⟨W,τ⟩:Bc).all) (h:∀it,Q (.ref it) ⟨W,(.obj it,.liter a 0)::τ⟩):T Γ A ⟨W,τ⟩ (Ib v) Q:=λs R=>by
 have:=Ch hv
 subst this
 obtain⟨ws,n,e,ew⟩:=(R.ents _ hm).1
 exact wpAny_pyIter_list ⟨_,e,rfl,n,rfl⟩ ⟨_,R.push (c:=.liter a 0) (s':={s with heap:=s.heap.push _}) (λ_ _ e=>An _ e) rfl rfl ⟨_,Bj _ rfl,rfl,rfl⟩,h _⟩
theorem Em {W τ:List Av} {a:Am} {vs:List Ab} {Q:Ab->Bc->Prop} (hm:(.obj a,.list vs)∈(⟨W,τ⟩:Bc).all) (h:∀it,Q (.ref it) ⟨W,(.obj it,.liter a 0)::τ⟩):P1 Γ A Ib Q (.ref a) ⟨W,τ⟩:=λ_ hv=>Uy (hv:=hv) (hm:=hm) (h:=h)
theorem Qm {W τ:List Av} {v:Ab} {a:Am} {vs:List Ab} {Q:Ab->Bc->Prop} (hv:cl v=.ref a) (hm:Fc Γ ⟨W,τ⟩ a vs) (h:∀it,Q (.ref it) ⟨W,(.obj it,.titer a 0)::τ⟩):T Γ A ⟨W,τ⟩ (Ib v) Q:=λs R=>by
 have:=Ch hv
 subst this
 obtain⟨ws,n,e,ew⟩:=hm s R
 exact wpAny_pyIter_tuple ⟨_,e,rfl,n,rfl⟩ ⟨_,R.push (c:=.titer a 0) (s':={s with heap:=s.heap.push _}) (λ_ _ e=>An _ e) rfl rfl ⟨_,Bj _ rfl,rfl,rfl⟩,h _⟩
theorem Hl {W τ:List Av} {a:Am} {vs:List Ab} {Q:Ab->Bc->Prop} (hm:Fc Γ ⟨W,τ⟩ a vs) (h:∀it,Q (.ref it) ⟨W,(.obj it,.titer a 0)::τ⟩):P1 Γ A Ib Q (.ref a) ⟨W,τ⟩:=λ_ hv=>Qm (hv:=hv) (hm:=hm) (h:=h)
theorem Cx {x:Str} {pos:Pos} {u v:Ab} {ov:Option Ab} {Q:Unit->Bc->Prop} (hu:cl u=v) (U:Jf σ (.var env.locals x) (.val ov) (.val (Ad v)) σ') (h:Q () σ')
  (hk:autoParam (env.scope.kind=.function) aR) (hl:autoParam (env.kindOf x=Ad .local) aR):T Γ A σ (Ir (.Name x pos) env u) Q:=λs R=>by
 subst hu
 exact wpAny_assign_Name (Rh U h hk hl s R)
theorem Rg {x:Str} {pos:Pos} {u v:Ab} {c:Am} {ov:Option Ab} {Q:Unit->Bc->Prop} (hu:cl u=v) (hc:env.cells.lookup x=Ad c) (U:Jf σ (.obj c) (.cell ov) (.cell (Ad v)) σ') (h:Q () σ')
  (hk:autoParam (env.scope.kind=.function) aR) (hl:autoParam (env.kindOf x=Ad .cell) aR):T Γ A σ (Ir (.Name x pos) env u) Q:=λs R=>by
 subst hu
 exact wpAny_assign_Name (Xp hc U h hk hl s R)
end
end
section
structure Rm (A:Az) (n:Nat):Prop where
 depth:A.depth+3 * n < Hf
 units:A.units+20 * n < cLine
theorem Rm.le {A:Az} {m n:Nat} (h:Rm A n) (k:m<=n):Rm A m:=⟨by have:=h.depth;lia,by have:=h.units;lia⟩
theorem Rm.deeper {A:Az} {env:Env} {n:Nat} (h:Rm A (n+1)):Rm (A.deeper env) n:=
 ⟨by have:=h.depth;show A.depth+1+3 * n < _;lia,by have:=h.units;show A.units+3+20 * n < _;lia⟩
theorem Rm.in1 {A:Az} {n:Nat} (h:Rm A (n+1)):Rm A.in1 n:=
 ⟨by have:=h.depth;show A.depth+3 * n < _;lia,by have:=h.units;show A.units+1+20 * n < _;lia⟩
theorem Rm.room {A:Az} {n:Nat} (h:Rm A n):A.depth < Hf:=by have:=h.depth;lia
section
variable {Γ:Bm} {A:Az} {σ σ':Bc} {s s':Be} {env:Env}
theorem oN {ws:List Ab} (h:ws.map cl=[]):ws=[]:=Oo.mp h
inductive Ajh (ws:List Ab) (c:Ab) (r:List Ab):Prop
 |mk (w:Ab) (x:List Ab) (e:ws=w::x) (e1:cl w=c) (e2:x.map cl=r)
theorem aG {ws r:List Ab} {c:Ab} (h:ws.map cl=c::r):Ajh ws c r:=by
 cases ws with
 |nil=>cases h
 |cons w x=>exact⟨w,x,rfl,(Oy h).1,(Oy h).2⟩
inductive Ajl (ws:List Ab) (c:Ab):Prop
 |mk (w:Ab) (e:ws=[w]) (e1:cl w=c)
inductive Ajk (ws:List Ab) (c d:Ab):Prop
 |mk (w x:Ab) (e:ws=[w,x]) (e1:cl w=c) (e2:cl x=d)
inductive Ajj (ws:List Ab) (c d e:Ab):Prop
 |mk (w x y:Ab) (h:ws=[w,x,y]) (e1:cl w=c) (e2:cl x=d) (e3:cl y=e)
inductive Aji (ws:List Ab) (c d e f:Ab):Prop
 |mk (w x y z:Ab) (h:ws=[w,x,y,z]) (e1:cl w=c) (e2:cl x=d) (e3:cl y=e) (e4:cl z=f)
theorem Iz {ws:List Ab} {c:Ab} (h:ws.map cl=[c]):Ajl ws c:=by
 obtain⟨w,_,rfl,e,k⟩:=aG h
 exact⟨w,by rw [oN k],e⟩
theorem Kf {ws:List Ab} {c d:Ab} (h:ws.map cl=[c,d]):Ajk ws c d:=by
 obtain⟨w,_,rfl,e,k⟩:=aG h
 obtain⟨x,rfl,e'⟩:=Iz k
 exact⟨w,x,rfl,e,e'⟩
theorem Vd {ws:List Ab} {c d e:Ab} (h:ws.map cl=[c,d,e]):Ajj ws c d e:=by
 obtain⟨w,_,rfl,e,k⟩:=aG h
 obtain⟨x,y,rfl,e1,e2⟩:=Kf k
 exact⟨w,x,y,rfl,e,e1,e2⟩
theorem aH {ws:List Ab} {c d e f:Ab} (h:ws.map cl=[c,d,e,f]):Aji ws c d e f:=by
 obtain⟨w,_,rfl,e,k⟩:=aG h
 obtain⟨x,y,z,rfl,e1,e2,e3⟩:=Vd k
 exact⟨w,x,y,z,rfl,e,e1,e2,e3⟩
noncomputable def Hb (Γ:Bm) (fd:FuncData) (vs:List Ab) (kw:List (Str×Ab)) (bs:List (Str×Ab)):Prop:=
 ∀ws kws,ws.map cl=vs->kws.map (λp:Str×Ab=>(p.1,cl p.2))=kw->∃binds:List (Str×Ab),binds.map (λp=>(p.1,cl p.2))=bs/\∀s:Be,Γ.K.In s.heap->Fg s fd ⟨ws,kws⟩ binds
noncomputable def Jh (Q:Ab->Bc->Prop) (f:Ga) (σ':Bc):Prop:=∃σ'',Av.le σ'' σ'/\Q (match f with|.ret v=>v|_=>.none) σ''
noncomputable def Od (L:Am) (names:List Str) (bs:List (Str×Ab)):List Av:=names.map λx=>(.var L x,.val (bs.reverse.lookup x))
theorem Ov (x:Str):∀bs:List (Str×Ab),(bs.map λp=>(p.1,cl p.2)).lookup x=(bs.lookup x).map cl
 |[]=>rfl
 |(y,v)::r=>by
  simp only [Ck,List.lookup_cons]
  cases x==y with
  |true=>rfl
  |false=>exact Ov x r
theorem Tm {L:Am} {bs:List (Str×Ab)}:∀{names:List Str},names.Nodup->(Od L names bs).Pairwise Ul
 |[],_=>.nil
 |x::r,h=>by
  rw [Fe]at h
  refine .cons (λq hq=>?_) (Tm h.2)
  obtain⟨y,hy,rfl⟩:=Bq.mp hq
  exact .inr (.inr ⟨L,x,y,rfl,rfl,λe=>h.1 (e▸hy)⟩)
theorem Eg.adds {W τ:List Av} (R:Eg Γ ⟨W,τ⟩ s):∀l:List Av,(∀p∈l,Lq Γ s p.1 p.2/\p.1.above Γ.h₁/\∀q∈W++τ,Ul p q)->l.Pairwise Ul->Eg Γ ⟨W,l++τ⟩ s
 |[],_,_=>R
 |p::r,h,k=>by
  rw [Io]at k
  have R':=Eg.adds R r (λq hq=>h q (.tail _ hq)) k.2
  refine R'.add (h p (.head _)).1 (h p (.head _)).2.1 λq hq=>?_
  rcases Ak.mp hq with x|x
  ·exact(h p (.head _)).2.2 q (Ah _ x)
  ·rcases Ak.mp x with x|x
   ·exact k.1 q x
   ·exact(h p (.head _)).2.2 q (Aa _ x)
theorem Oe {α:Type} {M:Model} {t:Sem α} {Q:α->Be->Prop} {E:Ab->Be->Prop} (h:Cu M A t Q (λ_ _=>False) s):Cu M A t Q E s:=Ec h (λ_ _ x=>x) λ_ _ x=>x.elim
noncomputable def xY (Γ:Bm) (Q:Ab->Bc->Prop) (r:Le) (s':Be):Prop:=match r with
 |.ok (.ret v)=>fL Γ Q (cl v) s'
 |_=>False
noncomputable def TC (Γ:Bm) (A:Az) (σ:Bc) (f:Ab) (ws:List Ab) (kws:List (Str×Ab)) (Q:Ab->Bc->Prop):Prop:=
 ∀s,Eg Γ σ s->Kg (Ci Γ.prog Γ.w) A (.call f ⟨ws,kws⟩) (xY Γ Q) s
theorem TC.T {f:Ab} {ws:List Ab} {kws:List (Str×Ab)} {Q:Ab->Bc->Prop} (h:TC Γ A σ f ws kws Q):T Γ A σ (Iq f ws kws) Q:=λs R=>
 No (Jn (h s R) λr s' z=>by rcases r with e|(v|_|_|_)<;>first|exact z|exact z.elim)
theorem Pk {W τ:List Av} {f:Am} {oc:Ab} {od:Option Am} {osl:Array (Option Ab)} {name qual:Str} {params:Arguments} {body:List Jy} {scope:Li} {dV kV doc pm cdv ct:Ab} {an:Option Am} {vs:List Ab} {kw bs:List (Str×Ab)} {Q:Ab->Bc->Prop} (names:List Str)
  (ho:Γ.K.lookup f=Ad ⟨oc,od,.func (fnX name qual params body scope [] dV kV doc pm an cdv ct),osl⟩) (hcode:codeIn Γ.K cdv qual=true) (hd:A.depth < Hf) (hb:Hb Γ (fnX name qual params body scope [] dV kV doc pm an cdv ct) vs kw bs)
  (h:∀L,T Γ (A.deeper (Gs qual scope L f cdv [])) ⟨W,Od L names bs++τ⟩ (Cs body (Gs qual scope L f cdv [])) (Jh Q))
  (hcell:autoParam ((scope.names.all λx=>x.2 != .cell)=true) aR) (hloc:autoParam ((bs.all λx=>scope.names.lookup x.1==Ad .local)=true) aR) (hn:autoParam (names.Nodup) aD)
  (hco:autoParam (scope.isCoroutine=false) aR) (hgen:autoParam (scope.isGenerator=false) aR) (hk:autoParam (scope.kind=.function) aR):
  ∀ws kws,ws.map cl=vs->kws.map (λp:Str×Ab=>(p.1,cl p.2))=kw->TC Γ A ⟨W,τ⟩ (.ref f) ws kws Q:=λws kws hw hkw s R=>by
 obtain⟨binds,eb,hbind⟩:=hb ws kws hw hkw
 refine(codeAny_call_def (fd:=fnX name qual params body scope [] dV kV doc pm an cdv ct) (body:=body) (binds:=binds) hd (R.kin _ _ ho) rfl R.lim.no (codeRec_of R.kin hcode) rfl (hbind s R.kin) (λx hx=>?_) (λx hx=>?_) (λh₀ hns hk₀=>?_) hco hgen hk)
 ·have:=Fz.mp hcell x hx
  simpa using this
 ·have hx':(x.1,cl x.2)∈bs:=eb▸Cz hx
  have:=Fz.mp hloc _ hx'
  simpa using this
 have R₁:Eg Γ ⟨W,τ⟩ {s with heap:=h₀,toks:=s.toks+binds.length}:=R.grow hk₀ rfl rfl
 have R₂:=R₁.adds (Od s.heap.objs.size names bs) (λp hp=>?_) (Tm hn)
 ·refine Ec (h s.heap.objs.size _ R₂) (λfl s' zz=>?_) λ_ _ x=>x.elim
  obtain⟨σ',R',σ'',le,q⟩:=zz
  refine⟨σ'',le Γ s' R',?_⟩
  cases fl with
  |ret v=>exact q
  |next=>exact q
  |brk=>exact q
  |cont=>exact q
 ·obtain⟨x,hx,rfl⟩:=Bq.mp hp
  refine⟨⟨_,hns,?_⟩,R.freshTop,Jw (σ:=⟨W,τ⟩) (s:=s) rfl (λq hq=>(R.ents q hq).1) (Cb _)⟩
  rw [<-eb,<-List.map_reverse,Ov]
noncomputable def Qx (Γ:Bm) (f:Ab):Prop:=keepIn Γ.K f=true\/(∃i,f=.builtin i)\/∃n,f=.type n
theorem Qx.keeps {f':Ab} (h:Qx Γ f') (R:Γ.K.In s.heap):∃k,(k=Keeper.frame\/k=Keeper.machine\/k=Keeper.boundFrame)/\Looks (Ci Γ.prog Γ.w) s.heap (keeperOf f') k:=by
 rcases h with h|⟨i,rfl⟩|⟨n,rfl⟩
 ·obtain⟨k,a,b⟩:=looks_keep (M:=Ci Γ.prog Γ.w) h R
  exact⟨k,a.elim .inl λe=>.inr (.inl e),b⟩
 ·exact⟨.machine,.inr (.inl rfl),Looks.of_pure rfl⟩
 ·exact⟨.machine,.inr (.inl rfl),Looks.of_pure rfl⟩
end
end
section
section
variable {Γ:Bm} {A:Az} {σ σ':Bc} {s s':Be} {env:Env}
theorem Eg.nsOld {a:Am} {m:Str->Option Ab} (R:Eg Γ σ s) (N:Γ.h₁.Ns a m) (ha:a≠cStatics):s.heap.Ns a m:=by
 obtain⟨o',es,ep,e,d,r⟩:=N
 rcases R.old.old a o' e with x|⟨_,_,vs,_,h,_⟩|⟨h,_⟩
 ·exact⟨o',es,ep,x,d,r⟩
 ·rw [d]at h;cases h
 ·exact absurd h ha
theorem Bn {x:Str} {pos:Pos} {v:Ab} {Q:Ab->Bc->Prop} (e:nsIn Γ.K He x=Ad (Ad v)) (h:Q (cl v) σ)
  (hg:autoParam (env.globals=He) aR) (hk:autoParam (env.scope.kind=.function) aR) (hx:autoParam (env.kindOf x=Ad .globalImplicit) aR) (hd:autoParam ((x==("__debug__" :Str))=false) aD):T Γ A σ (Dv (.Name x pos) env) Q:=λs R=>
 Name_function_global hk hx (loadGlobal_global (by rw [hg];exact R.nsOld Γ.top.g (by decide)) (mg_of Γ.kin Γ.top.g e) ⟨σ,R,h⟩) hd
theorem Bd {x:Str} {pos:Pos} {v:Ab} {Q:Ab->Bc->Prop} (e:nsIn Γ.K He x=Ad Ae) (hv:bootBuiltins x=Ad v) (hn:x≠"__name__") (h:Q (cl v) σ)
  (hg:autoParam (env.globals=He) aR) (hb:autoParam (env.builtins=Im) aR) (hk:autoParam (env.scope.kind=.function) aR) (hx:autoParam (env.kindOf x=Ad .globalImplicit) aR) (hd:autoParam ((x==("__debug__" :Str))=false) aD):T Γ A σ (Dv (.Name x pos) env) Q:=λs R=>
 Name_function_global hk hx (loadGlobal_builtin (by rw [hg];exact R.nsOld Γ.top.g (by decide)) (mg_none_of Γ.kin Γ.top.g e) (by rw [hb];exact R.nsOld Γ.top.b (by decide)) ((Γ.top.builtins x hn).trans hv) ⟨σ,R,h⟩) hd
theorem Ys {f c:Ab} (h:Qx Γ c) (e:cl f=c):f=c:=by
 rcases h with h|⟨i,rfl⟩|⟨n,rfl⟩
 ·unfold keepIn at h
  split at h
  ·exact Ch e
  ·cases h
 ·exact nF e
 ·exact xG e
theorem Xk {M:Model} {E:Ab->Be->Prop} {f:Ab} {args:List (Bool×Sem Ab)} {Q:Args->Be->Prop} (hp:args.any (·.1)=false) (h:Cu M A (Na args) (λvs s'=>Q ⟨vs,[]⟩ s') E s):Cu M A (evalArgs f true args []) Q E s:=by
 match args,hp with
 |[],_=>
  unfold evalArgs
  show Cu M A (Na []>>=_) Q E s
  refine Af (Ec h (λvs s' h'=>Af (Ax ?_)) λ_ _ x=>x)
  refine Ef ?_
  exact Af (Ax (Af (Ax (Ax h'))))
 |(false,x)::rest,_=>exact evalArgs_plain h
theorem cP {f c:Ab} {first cf:List Ab} {pos:Pos} {args:List (Bool×Sem Ab)} {Q:Ab->Bc->Prop} (hc:Qx Γ c) (hf:cl f=c) (hfirst:first.map cl=cf) (hp:args.any (·.1)=false)
  (h:T Γ A σ (Na args) λvs σ₂=>∀ws,ws.map cl=cf++vs->T Γ A σ₂ (Iq c ws) Q):T Γ A σ (callWith pos f first args []) Q:=λs R=>by
 have e:=Ys hc hf
 subst e
 refine callWith_of (P:=λh=>Γ.K.In h) (by rw [hp];rfl) (λh X=>Qx.keeps (Γ:=Γ) (s:={heap:=h}) hc X) (Xk hp (h.elim R λvs s₂ σ₂ R₂ q=>⟨R₂.kin,?_⟩))
 exact(q (first++vs) (by rw [Bk,hfirst];rfl)).elim R₂ λ_ _ σ' R' q=>⟨σ',R',q⟩
noncomputable def kZ (Γ:Bm) (A:Az) (c:Ab) (Q:Ab->Bc->Prop) (vs:List Ab) (σ:Bc):Prop:=∀ws,ws.map cl=vs->T Γ A σ (Iq c ws) Q
noncomputable def Wn (Γ:Bm) (A:Az) (c:Ab) (first:List Ab) (Q:Ab->Bc->Prop) (vs:List Ab) (σ:Bc):Prop:=∀ws,ws.map cl=first++vs->T Γ A σ (Iq c ws) Q
inductive Aha (Γ:Bm) (A:Az) (args:List (Bool×Sem Ab)) (Q:Ab->Bc->Prop) (c:Ab) (σ:Bc):Prop
 |mk (hc:Qx Γ c) (h:T Γ A σ (Na args) (kZ Γ A c Q))
inductive Agk (Γ:Bm) (A:Az) (args:List (Bool×Sem Ab)) (Q:Ab->Bc->Prop) (fx:Ab×List Ab) (σ:Bc):Prop
 |mk (hc:Qx Γ fx.1) (h:T Γ A σ (Na args) (Wn Γ A fx.1 fx.2 Q))
theorem Wc {pos:Pos} {l:List (Bool×Sem Ab)}:(backTo pos l).any (·.1)=l.any (·.1):=by
 unfold backTo
 rw [List.any_map]
 rfl
theorem Cf {id:Str} {p pos:Pos} {args:List At} {Q:Ab->Bc->Prop}
  (h:T Γ A σ (Dv (.Name id p) env) (Aha Γ A (backTo pos (Mq args env)) Q))
  (hp:autoParam ((Mq args env).any (·.1)=false) aR):T Γ A σ (Dv (.Call (.Name id p) args [] pos) env) Q:=λs R=>
 wpAny_Call_ofName (h.elim R λf s₁ σ₁ R₁ q=>(cP (cf:=[]) q.1 rfl rfl (Wc.trans hp) q.2).elim R₁ λ_ _ σ' R' q=>⟨σ',R',q⟩)
theorem Fo {o:At} {name:Str} {apos pos:Pos} {args:List At} {pl:Sem Bool} {Q:Ab->Bc->Prop}
  (h:T Γ A σ (Dv o env) (P1 Γ A (λov=>Il ov name pl) (Agk Γ A (backTo pos (Mq args env)) Q)))
  (he:autoParam (Dv (.Call (.Attribute o name apos) args [] pos) env=(do
   let ov<-Dv o env
   Mz apos.atName
   let(f,first)<-holding [ov] (Il ov name pl)
   callWith pos f first (backTo pos (Mq args env)) (backToKw pos (keywordEach [] env)))) aR)
  (hp:autoParam ((Mq args env).any (·.1)=false) aR):T Γ A σ (Dv (.Call (.Attribute o name apos) args [] pos) env) Q:=λs R=>
 methodCall_KW (pl:=pl) (kws:=[]) (h.elim R λov s₁ σ₁ R₁ q₁=>(q₁ ov rfl).elim R₁ λfx s₂ σ₂ R₂ q₂=>(cP q₂.1 rfl rfl (Wc.trans hp) q₂.2).elim R₂ λ_ _ σ' R' q=>⟨σ',R',q⟩) he
theorem Za {T':String} {name:Str} {id:String} {pl:Sem Bool} {ov:Ab} {a:Am} {Q:Ab×List Ab->Bc->Prop} (pa:PlainAttrs T') (slot:Slot T' name id) (hty:typeOf (.builtin id)=Et (.type "method_descriptor"))
  (hov:cl ov=.ref a) (ht:∀s,Eg Γ σ s->∃o,s.heap.get? a=Ad o/\o.cls=.type T'/\o.dict=Ae) (h:Q (.builtin id,[.ref a]) σ):T Γ A σ (Il ov name pl) Q:=λs R=>by
 have:=Ch hov
 subst this
 obtain⟨o,ho,hc,hd⟩:=ht s R
 exact getMethod_builtin ⟨o,ho,hc⟩ pa slot hty (λb e=>by cases e;exact⟨o,ho,hd⟩) ⟨σ,R,h⟩
theorem De {T':String} {name:Str} {id:String} {pl:Sem Bool} {a:Am} {Q:Ab×List Ab->Bc->Prop} (pa:PlainAttrs T') (slot:Slot T' name id) (hty:typeOf (.builtin id)=Et (.type "method_descriptor")) (ht:∀s,Eg Γ σ s->∃o,s.heap.get? a=Ad o/\o.cls=.type T'/\o.dict=Ae) (h:Q (.builtin id,[.ref a]) σ):P1 Γ A (λo=>Il o name pl) Q (.ref a) σ:=λ_ hov=>Za (pa:=pa) (slot:=slot) (hty:=hty) (hov:=hov) (ht:=ht) (h:=h)
theorem It {a:Am} {vs:List Ab} (hm:(.obj a,.list vs)∈σ.all):∀s,Eg Γ σ s->∃o,s.heap.get? a=Ad o/\o.cls=.type "list" /\o.dict=Ae:=λs R=>
 let⟨_,_,e,_⟩:=(R.ents _ hm).1;⟨_,e,rfl,rfl⟩
theorem bN {a:Am} {vs:List Ab} {v:Ab} {ws:List Ab} {Q:Ab->Bc->Prop} (hw:ws.map cl=[.ref a,v]) (U:Jf σ (.obj a) (.list vs) (.list (vs++[v])) σ') (hz:vs.length<=Gn) (h:Q .none σ'):T Γ A σ (Iq (.builtin "list.append") ws) Q:=λs R=>by
 obtain⟨w₀,w₁,rfl,e0,e1⟩:=Kf hw
 have:=Ch e0
 subst this
 obtain⟨us,n,e,eu⟩:=(R.ents _ U.mem).1
 refine append_at (its:=us) (n:=n) e (λh' hs ho=>⟨σ',Eg.changeS (s':={s with heap:=h'}) R U rfl hs.extBut rfl rfl ⟨_,_,ho,?_⟩,h⟩) (by rw [<-Array.length_toList,<-As (f:=cl),eu];exact hz)
 rw [Array.toList_push,Bk,eu,Ck,e1];rfl
theorem Lx {a:Am} {vs:List Ab} {v:Ab} {Q:Ab->Bc->Prop} (U:Jf σ (.obj a) (.list vs) (.list (vs++[v])) σ') (hz:vs.length<=Gn) (h:Q .none σ'):Wn Γ A (.builtin "list.append") [.ref a] Q [v] σ:=λ_ hw=>bN (hw:=hw) (U:=U) (hz:=hz) (h:=h)
noncomputable def Aw (ns:List Int):List Ab:=ns.map λi=>.int i 0
theorem Ua {ws:List Ab} {ns:List Int} (h:ws.map cl=Aw ns):IntsAre ws ns:=by
 induction ns generalizing ws with
 |nil=>
  have:ws=[]:=by simpa [Aw]using h
  subst this;exact .nil
 |cons n r ih=>
  match ws,h with
  |w::ws,h=>
   simp only [Aw,Ck,Ij]at h
   obtain⟨u,rfl⟩:=Fb h.1
   exact IntsAre.cons _ _ (ih h.2)
theorem rS {u v:Ab} {k:Int} {a:Am} {ns:List Int} {Q:Ab->Bc->Prop} (hu:cl u=.int k 0) (hv:cl v=.ref a) (hm:(.obj a,.list (Aw ns))∈σ.all) (h:Q (.bool (ns.any (· ==k))) σ):T Γ A σ (El .In u v) Q:=λs R=>by
 obtain⟨t,rfl⟩:=Fb hu
 have:=Ch hv
 subst this
 obtain⟨us,n,e,eu⟩:=(R.ents _ hm).1
 exact in_list_ints (vs:=us.toList) ⟨_,e,rfl,n,rfl⟩ (Ua eu) ⟨σ,R,h⟩
theorem rZ {k:Int} {a:Am} {ns:List Int} {Q:Ab->Bc->Prop} (hm:(.obj a,.list (Aw ns))∈σ.all) (h:Q (.bool (ns.any (· ==k))) σ):P2 Γ A (El .In) Q (.int k 0) (.ref a) σ:=λ_ _ hu hv=>rS (hu:=hu) (hv:=hv) (hm:=hm) (h:=h)
theorem gN {u v:Ab} {k:Int} {a:Am} {ns:List Int} {Q:Ab->Bc->Prop} (hu:cl u=.int k 0) (hv:cl v=.ref a) (hm:(.obj a,.list (Aw ns))∈σ.all) (h:Q (.bool (!ns.any (· ==k))) σ):T Γ A σ (El .NotIn u v) Q:=λs R=>by
 obtain⟨t,rfl⟩:=Fb hu
 have:=Ch hv
 subst this
 obtain⟨us,n,e,eu⟩:=(R.ents _ hm).1
 exact notin_list_ints (vs:=us.toList) ⟨_,e,rfl,n,rfl⟩ (Ua eu) ⟨σ,R,h⟩
theorem Ue {k:Int} {a:Am} {ns:List Int} {Q:Ab->Bc->Prop} (hm:(.obj a,.list (Aw ns))∈σ.all) (h:Q (.bool (!ns.any (· ==k))) σ):P2 Γ A (El .NotIn) Q (.int k 0) (.ref a) σ:=λ_ _ hu hv=>gN (hu:=hu) (hv:=hv) (hm:=hm) (h:=h)
end
end
section
inductive Oq (x:Str) (v:Ab):List (Str×Option Ab)->List (Str×Option Ab)->Prop
 |here {ov r}:Oq x v ((x,ov)::r) ((x,Ad v)::r)
 |there {p r r'}:Oq x v r r'->Oq x v (p::r) (p::r')
theorem Oq.split {x:Str} {v:Ab} {m m':List (Str×Option Ab)} (h:Oq x v m m'):∃l₁ l₂ ov,m=l₁++(x,ov)::l₂/\m'=l₁++(x,Ad v)::l₂:=by
 induction h with
 |here=>exact⟨[],_,_,rfl,rfl⟩
 |there _ ih=>obtain⟨l₁,l₂,ov,rfl,rfl⟩:=ih;exact⟨_::l₁,l₂,ov,rfl,rfl⟩
theorem oK (x:Str) (hs:Int) (key v:Ab) (hk:∀y,key.isStr y=(x==y)) (y:Str):∀es:List Og,(∀e∈es,∃s t,e.key=.str s t)->kQ (putL x hs key v es) y=if x=y then Ad v else kQ es y
 |[],_=>by
  unfold kQ putL
  simp only [Ho,List.find?_nil,hk]
  by_cases h:x=y
  ·simp [h]
  ·have hb:(x==y)=false:=by simpa using h
   simp [hb,h]
 |e::r,hst=>by
  have ih:=oK x hs key v hk y r λe he=>hst e (.tail _ he)
  obtain⟨s,t,es⟩:=hst e (.head _)
  unfold putL
  by_cases h:e.key.isStr x=true
  ·rw [if_pos h]
   have hsx:s=x:=by rw [es]at h;simpa [Ab.isStr]using h
   unfold kQ
   simp only [Ho,es,Ab.isStr,hsx]
   by_cases hxy:x=y
   ·simp [hxy]
   ·have hb:(x==y)=false:=by simpa using hxy
    simp only [hb,if_neg hxy]
  ·rw [if_neg h]
   unfold kQ at ih ⊢
   simp only [Ho]
   cases hq:e.key.isStr y with
   |true=>
    have hsy:s=y:=by rw [es]at hq;simpa [Ab.isStr]using hq
    have hsx:s≠x:=by rw [es]at h;simpa [Ab.isStr]using h
    simp [show x≠y from λe=>hsx (by rw [hsy,e])]
   |false=>simpa using ih
theorem iM (x:Str) (hs:Int) (t:Tok) (v:Ab):∀es:List Og,(∀e∈es,∃s t,e.key=.str s t)->∀e∈putL x hs (.str x t) v es,∃s t,e.key=.str s t
 |[],_=>by
  intro e he
  simp only [putL,Bi]at he
  exact⟨x,t,by rw [he]⟩
 |e::r,hst=>by
  intro e' he
  unfold putL at he
  split at he
  ·rcases Cj.mp he with rfl|he
   ·exact hst e (.head _)
   ·exact hst e' (.tail _ he)
  ·rcases Cj.mp he with rfl|he
   ·exact hst _ (.head _)
   ·exact iM x hs t v r (λe he=>hst e (.tail _ he)) e' he
theorem Zj (x:Str) (hs:Int) (key v:Ab):∀es:List Og,(putL x hs key v es).length=if(kQ es x).isSome then es.length else es.length+1
 |[]=>rfl
 |e::r=>by
  have ih:=Zj x hs key v r
  unfold kQ at *
  unfold putL
  by_cases h:e.key.isStr x=true
  ·rw [if_pos h,Ho,h];simp
  ·rw [if_neg h,Ho,(by simpa using h:e.key.isStr x=false),Fy,ih]
   dsimp only
   split<;>rfl
theorem vT.keyed {m:List (Str×Option Ab)} {es:List Og} (N:vT m es):es.any (·.refKey)=false:=by
 rw [List.any_eq_false]
 intro e he
 obtain⟨s,t,q⟩:=N.str e he
 simp [Og.refKey,q]
theorem vT.get {m:List (Str×Option Ab)} {es:List Og} (N:vT m es) (x:Str):getL x es=Ad (kQ es x):=by
 unfold getL kQ
 cases h:es.find? (·.key.isStr x)with
 |Ad e=>rfl
 |Ae=>simp [N.keyed]
theorem vT.put {x:Str} {v u:Ab} {m m':List (Str×Option Ab)} {es:List Og} (N:vT m es) (hv:cl u=v) (U:Oq x v m m') (hs:Int) (t:Tok):vT m' (putL x hs (.str x t) u es):=by
 obtain⟨l₁,l₂,ov,rfl,rfl⟩:=U.split
 have hk:∀y,(Ab.str x t).isStr y=(x==y):=λy=>rfl
 have nv:=λy=>oK x hs (.str x t) u hk y es N.str
 have hx:(kQ es x).map cl=ov:=N.val (x,ov) (Aa _ (.head _))
 have dup:=N.dup
 have dup':(((l₁++(x,Ad v)::l₂)).map (·.1)).Nodup:=by simpa using dup
 refine⟨iM x hs t u es N.str,dup',?_,λp hp=>?_,λy hy=>?_⟩
 ·rw [Zj]
  have hz:=N.size
  simp only [Ff,Gq,Aj]at hz ⊢
  cases q:kQ es x with
  |Ad w=>
   rw [q]at hx
   subst hx
   simpa using hz
  |Ae=>
   rw [q]at hx
   subst hx
   simp at hz ⊢
   lia
 ·rw [nv]
  have hne:∀q∈l₁++l₂,q.1≠x:=by
   intro q hq e
   rw [Bk,Ck]at dup
   have:=(Ih.mp dup)
   rcases Ak.mp hq with h|h
   ·exact this.2.2 q.1 (Cz h) x (.head _) e
   ·have h2:=(Fe.mp this.2.1).1
    have h3:q.1∈l₂.map Prod.fst:=Cz h
    rw [e]at h3
    exact h2 h3
  have old:∀q∈l₁++l₂,(if x=q.1 then Ad u else kQ es q.1).map cl=q.2:=by
   intro q hq
   rw [if_neg (Ll (hne q hq))]
   apply N.val
   rcases Ak.mp hq with h|h
   ·exact Ah _ h
   ·exact Aa _ (.tail _ h)
  rcases Ak.mp hp with h|h
  ·exact old p (Ah _ h)
  ·rcases Cj.mp h with rfl|h
   ·simp [hv]
   ·exact old p (Aa _ h)
 ·rw [nv]
  rw [if_neg]
  ·exact N.out y (by simpa using hy)
  ·rintro rfl
   simp at hy
noncomputable def Zw (K:Frag) (C:Am) (name:Str):Bool:=plainGet K C name&&Px K C&&(match findIn K (.ref C) name with|Ad attr=>noGet K attr|Ae=>false)
noncomputable def gY (K:Frag) (C:Am) (name:Str) (a:Ab):Bool:=plainGet K C name&&Px K C&&findIn K (.ref C) name==Ad (Ad a)&&Pu K a "__get__" ==Ad Ae&&Lw a&&!copiedNames.contains name
noncomputable def Ss (K:Frag) (C:Am) (name:Str) (f:Am):Bool:=plainGet K C name&&findIn K (.ref C) name==Ad (Ad (.ref f))&&isFn K (.ref f)
noncomputable def eE (K:Frag) (C:Am) (name:Str) (p fget:Am):Bool:=plainGet K C name&&Px K C&&findIn K (.ref C) name==Ad (Ad (.ref p))&&Pu K (.ref p) "__get__" ==Ad (Ad (.builtin "property.__get__"))&&takesIn K (.ref p)==Ad true&&
 (match recIn K p "property" with|Ad (.ref f::_)=>f==fget|_=>false)
noncomputable def Vi (K:Frag) (C:Am) (name:Str):Bool:=findIn K (.ref C) "__setattr__" ==Ad (Ad (.builtin "object.__setattr__"))&&plainOver K C&&takerIn K C name==Ad Ae&&Px K C
section
variable {Γ:Bm} {A:Az} {σ σ':Bc} {s s':Be} {env:Env}
inductive Abf (s:Be) (x C d:Am) (m:List (Str×Option Ab)):Prop
 |mk (es:List Og) (n:Nat) (h1:vT m es) (h2:s.heap.get? d=Ad (dictOf es n)) (h3:InstAt s.heap x (Pd C d) C (Ad (dictOf es n)))
theorem Sw {x C d:Am} {m:List (Str×Option Ab)} (R:Eg Γ σ s) (hx:(.obj x,.inst C d)∈σ.all) (hd:(.obj d,.ns m)∈σ.all):Abf s x C d m:=by
 obtain⟨es,n,e,N⟩:=(R.ents _ hd).1
 exact⟨es,n,N,e,(R.ents _ hx).1,rfl,rfl,e⟩
theorem fB {u v:Ab} (h:cl u=v) (hv:Lw v=true):Lw u=true:=by
 subst h;cases u<;>exact hv
set_option tactic.hygienic true in
theorem Qz {x C d:Am} {name:Str} {ov v:Ab} {m:List (Str×Option Ab)} {expr:Bool} {Q:Ab->Bc->Prop} (ho:cl ov=.ref x) (hx:(.obj x,.inst C d)∈σ.all) (hd:(.obj d,.ns m)∈σ.all)
  (hk:Zw Γ.K C name=true) (hm:(name,Ad v)∈m) (h:Q v σ) (hv:autoParam (Lw v=true) aR):T Γ A σ (Lk ov name expr) Q:=λs R=>by
 have:=Ch ho
 subst this
 obtain⟨es,n,N,e,I⟩:=Sw R hx hd
 unfold Zw at hk
 simp only [Dd]at hk
 obtain⟨⟨k1,k2⟩,k3⟩:=hk
 have hval:=N.val _ hm
 cases q:kQ es name with
 |Ae=>rw [q]at hval;cases hval
 |Ad u=>
  rw [q]at hval
  have hu:cl u=v:=Dl hval
  split at k3
  ·rename_i attr ha
   refine get_value R.kin I (Kt k1).1 (findObj_own k2 ha k3 (by rw [lookIn_dict,N.get,q])) (fB hu hv) ⟨σ,R.toks _,?_⟩
   show Q (cl u) σ
   rw [hu];exact h
  ·cases k3
theorem Qc {x C d:Am} {name:Str} {v:Ab} {m:List (Str×Option Ab)} {expr:Bool} {Q:Ab->Bc->Prop} (hx:(.obj x,.inst C d)∈σ.all) (hd:(.obj d,.ns m)∈σ.all) (hk:Zw Γ.K C name=true) (hm:(name,Ad v)∈m) (h:Q v σ) (hv:autoParam (Lw v=true) aR):P1 Γ A (λo=>Lk o name expr) Q (.ref x) σ:=λ_ ho=>Qz (ho:=ho) (hx:=hx) (hd:=hd) (hk:=hk) (hm:=hm) (h:=h) (hv:=hv)
theorem Vh {x C d:Am} {name:Str} {ov a:Ab} {m:List (Str×Option Ab)} {expr:Bool} {Q:Ab->Bc->Prop} (ho:cl ov=.ref x) (hx:(.obj x,.inst C d)∈σ.all) (hd:(.obj d,.ns m)∈σ.all)
  (hk:gY Γ.K C name a=true) (hm:(name,Ae)∈m\/name∉m.map (·.1)) (h:Q (cl a) σ):T Γ A σ (Lk ov name expr) Q:=λs R=>by
 have:=Ch ho
 subst this
 obtain⟨es,n,N,e,I⟩:=Sw R hx hd
 unfold gY at hk
 simp only [Dd,beq_iff_eq,Nf]at hk
 obtain⟨⟨⟨⟨⟨k1,k2⟩,k3⟩,k4⟩,k5⟩,k6⟩:=hk
 have hno:kQ es name=Ae:=by
  rcases hm with hm|hm
  ·simpa using N.val _ hm
  ·exact N.out _ hm
 exact get_value R.kin I (Kt k1).1 (findObj_cls k2 k3 k4 k5 k6 (by rw [lookIn_dict,N.get,hno])) k5 ⟨σ,R.toks _,h⟩
theorem fK {x C d:Am} {name:Str} {a:Ab} {m:List (Str×Option Ab)} {expr:Bool} {Q:Ab->Bc->Prop} (hx:(.obj x,.inst C d)∈σ.all) (hd:(.obj d,.ns m)∈σ.all) (hk:gY Γ.K C name a=true) (hm:(name,Ae)∈m\/name∉m.map (·.1)) (h:Q (cl a) σ):P1 Γ A (λo=>Lk o name expr) Q (.ref x) σ:=λ_ ho=>Vh (ho:=ho) (hx:=hx) (hd:=hd) (hk:=hk) (hm:=hm) (h:=h)
theorem Uc {x C d f:Am} {name:Str} {ov:Ab} {m:List (Str×Option Ab)} {pl:Sem Bool} {Q:Ab×List Ab->Bc->Prop} (ho:cl ov=.ref x) (hx:(.obj x,.inst C d)∈σ.all) (hd:(.obj d,.ns m)∈σ.all)
  (hk:Ss Γ.K C name f=true) (hm:name∉m.map (·.1)) (h:Q (.ref f,[.ref x]) σ):T Γ A σ (Il ov name pl) Q:=λs R=>by
 have:=Ch ho
 subst this
 obtain⟨es,n,N,e,I⟩:=Sw R hx hd
 unfold Ss at hk
 simp only [Dd,beq_iff_eq]at hk
 obtain⟨⟨k1,k2⟩,k3⟩:=hk
 exact method_fn R.kin I (Kt k1).1 (Kt k1).2 k2 (beq_iff_eq.mp k3) (by show(lookIn name (dictOf es n)).map _=_;rw [lookIn_dict,N.get,N.out _ hm];rfl) ⟨σ,R,h⟩
theorem Pp {x C d f:Am} {name:Str} {m:List (Str×Option Ab)} {pl:Sem Bool} {Q:Ab×List Ab->Bc->Prop} (hx:(.obj x,.inst C d)∈σ.all) (hd:(.obj d,.ns m)∈σ.all) (hk:Ss Γ.K C name f=true) (hm:name∉m.map (·.1)) (h:Q (.ref f,[.ref x]) σ):P1 Γ A (λo=>Il o name pl) Q (.ref x) σ:=λ_ ho=>Uc (ho:=ho) (hx:=hx) (hd:=hd) (hk:=hk) (hm:=hm) (h:=h)
set_option tactic.hygienic true in
theorem cN {x C d p f:Am} {name:Str} {ov:Ab} {m:List (Str×Option Ab)} {expr:Bool} {Q:Ab->Bc->Prop} (ho:cl ov=.ref x) (hx:(.obj x,.inst C d)∈σ.all) (hd:(.obj d,.ns m)∈σ.all)
  (hk:eE Γ.K C name p f=true) (h:TC Γ A.in1 σ (.ref f) [.ref x] [] λv σ'=>Lw v=true/\Q v σ'):T Γ A σ (Lk ov name expr) Q:=λs R=>by
 have:=Ch ho
 subst this
 obtain⟨es,n,N,e,I⟩:=Sw R hx hd
 unfold eE at hk
 simp only [Dd,beq_iff_eq]at hk
 obtain⟨⟨⟨⟨⟨k1,k2⟩,k3⟩,k4⟩,k5⟩,k6⟩:=hk
 split at k6
 ·rename_i f' rest hr
  have:=beq_iff_eq.mp k6
  subst this
  refine get_bind R.kin I (Kt k1).1 (findObj_data (by obtain⟨cd,hc,_⟩:=any_some k2;rw [hc];rfl) k3 k4 k5) (Kt k1).2 (No (prop_get (s:={s with toks:=s.toks+1}) (R.kin) hr ?_))
  refine Jn (h _ (R.toks (s.toks+1))) λr s' z=>?_
  rcases r with e|(v|_|_|_)<;>try exact z.elim
  obtain⟨σ',R',q1,q2⟩:=z
  exact handed_on (fB rfl q1) ⟨σ',R',q2⟩
 ·cases k6
theorem cR {x C d p f:Am} {name:Str} {m:List (Str×Option Ab)} {expr:Bool} {Q:Ab->Bc->Prop} (hx:(.obj x,.inst C d)∈σ.all) (hd:(.obj d,.ns m)∈σ.all) (hk:eE Γ.K C name p f=true) (h:TC Γ A.in1 σ (.ref f) [.ref x] [] λv σ'=>Lw v=true/\Q v σ'):P1 Γ A (λo=>Lk o name expr) Q (.ref x) σ:=λ_ ho=>cN (ho:=ho) (hx:=hx) (hd:=hd) (hk:=hk) (h:=h)
theorem We {x C d:Am} {name:Str} {ov u v:Ab} {m m':List (Str×Option Ab)} {Q:Unit->Bc->Prop} (ho:cl ov=.ref x) (hu:cl u=v) (hx:(.obj x,.inst C d)∈σ.all)
  (U:Jf σ (.obj d) (.ns m) (.ns m') σ') (hm:Oq name v m m') (hk:Vi Γ.K C name=true) (h:Q () σ') (hz:m.length<=1000:=by exact Ce rfl):T Γ A σ (setAttr ov name u) Q:=λs R=>by
 have:=Ch ho
 subst this
 obtain⟨es,n,N,e,I⟩:=Sw R hx U.mem
 unfold Vi at hk
 simp only [Dd,beq_iff_eq]at hk
 obtain⟨⟨⟨k1,k2⟩,k3⟩,k4⟩:=hk
 refine set_plain R.kin I k1 ?_
 have R1:=R.toks (s.toks+1)
 have I1:InstAt ({s with toks:=s.toks+1}:Be).heap x (Pd C d) C (Ad (dictOf es n)):=I
 refine osa_open (s:={s with toks:=s.toks+1}) R.kin I1 k2 k3 λb=>?_
 obtain⟨cd,hc,hd'⟩:=any_some k4
 obtain⟨hx', -, -, -⟩:=I
 refine Af (Ax (Af (Af (Nv hx' (Af ((looks_clsIn R1.kin hc).here ?_))))))
 rw [hd']
 refine Ax (a:=Ad d) (Af (Ax (Af ?_)))
 unfold nsSet
 refine Af (Af (Oi (Ax (Af (wpAny_mkText (Af (Nv e ?_)))))))
 dsimp only
 have c:(!es.toArray.any (·.key.isStr name)&&es.toArray.any (·.refKey))=false:=by
  rw [<-Oj,<-Oj]
  show(!es.any _&&es.any _)=false
  rw [N.keyed,Bool.and_false]
 rw [aRefKeyMayBeTheName_at,c]
 have N':=N.put hu hm (Ix Γ.w.params name) (s.toks+1)
 have hf:=putName_dict name (Ix Γ.w.params name) (.str name (s.toks+1)) u es n
 have D':(s.heap.update d (Obj.putName name (Ix Γ.w.params name) (.str name (s.toks+1)) u)).get? d=Ad (dictOf (putL name (Ix Γ.w.params name) (.str name (s.toks+1)) u es) (putN name es n)):=by
  rw [<-hf]
  exact Dz _ e (by rw [hf];rfl)
 refine wpAny_updatePart e ?_
 refine Af (wpAny_lookBehind D' (pastItsLine_dict (by
  rw [Qs,Ay]
  have h1:=N'.size
  have h2:(m'.filter λp=>p.2.isSome).length<=m'.length:=By _ _
  have h3:m'.length=m.length:=by obtain⟨l₁,l₂,_,rfl,rfl⟩:=hm.split;simp
  lia)) ?_)
 exact Ax ⟨σ',Eg.changeS (s':={s with heap:=s.heap.update d _,toks:=s.toks+1+1}) R U rfl (Dk ..).extBut rfl rfl ⟨_,_,D',N'⟩,h⟩
theorem Gx {x C d:Am} {name:Str} {v:Ab} {m m':List (Str×Option Ab)} {Q:Unit->Bc->Prop} (hx:(.obj x,.inst C d)∈σ.all) (U:Jf σ (.obj d) (.ns m) (.ns m') σ') (hm:Oq name v m m') (hk:Vi Γ.K C name=true) (h:Q () σ') (hz:m.length<=1000:=by exact Ce rfl):P2 Γ A (λv o=>setAttr o name v) Q v (.ref x) σ:=λ_ _ hu ho=>We (ho:=ho) (hu:=hu) (hx:=hx) (U:=U) (hm:=hm) (hk:=hk) (h:=h) (hz:=hz)
theorem aM {C fI:Am} {W τ:List Av} {ws:List Ab} {kws:List (Str×Ab)} {Q:Ab->Bc->Prop} (m:List (Str×Option Ab)) (hm:makesIn Γ.K C=true) (hi:(findIn Γ.K (.ref C) "__init__" ==Ad (Ad (.ref fI))&&isFn Γ.K (.ref fI))=true)
  (hn:(m.map (·.1)).Nodup) (hv:∀p∈m,p.2=Ae)
  (h:∀x d,TC Γ (A.under (.builtin "type.__call__" ⟨.ref C::ws,kws⟩)) ⟨W,(.obj d,.ns m)::(.obj x,.inst C d)::τ⟩ (.ref fI) (.ref x::ws) kws λv σ'=>v=.none/\Q (.ref x) σ'):TC Γ A ⟨W,τ⟩ (.ref C) ws kws Q:=λs R=>by
 simp only [Dd,beq_iff_eq]at hi
 have R1:Eg Γ ⟨W,(.obj s.heap.objs.size,.ns m)::τ⟩ {s with heap:=s.heap.push Pz}:=
  R.push (λ_ _ e=>An _ e) rfl rfl ⟨[],0,Bj _ rfl,⟨λ_ he=>(by cases he),hn,Cg _,λp hp=>by rw [hv p hp];rfl,λ_ _=>rfl⟩⟩
 have R2:Eg Γ ⟨W,(.obj (s.heap.objs.size+1),.inst C s.heap.objs.size)::(.obj s.heap.objs.size,.ns m)::τ⟩ {s with heap:=(s.heap.push Pz).push (Pd C s.heap.objs.size)}:=by
  have:=R1.push (c:=.inst C s.heap.objs.size) (s':={s with heap:=(s.heap.push Pz).push (Pd C s.heap.objs.size)}) (λ_ _ e=>An _ e) rfl rfl (Bj _ rfl)
  rwa [show({s with heap:=s.heap.push Pz}:Be).heap.objs.size=s.heap.objs.size+1 from Iy ..]at this
 have R3:=Av.le_perm (σ':=⟨W,(.obj s.heap.objs.size,.ns m)::(.obj (s.heap.objs.size+1),.inst C s.heap.objs.size)::τ⟩) (Bf W (Bz.swap ..)) _ _ R2
 obtain⟨hh,g,d,t,os⟩:=s
 refine make_core (makes_of R.kin hm) (looks_findIn R.kin hi.1) (λself=>bind_fn R.kin self (beq_iff_eq.mp hi.2)) (.inl rfl) (Jn (h _ _ _ R3) λr s' z=>?_)
 rcases r with e|(v|_|_|_)<;>first|exact z.elim|skip
 obtain⟨σ',R',e,q⟩:=z
 exact⟨Tw e,σ',R',q⟩
end
end
section
theorem Ri.pre {τ τ' ρ:List Av} {l:Ex} {c c':CO} (h:Ri τ l c c' τ'):Ri (ρ++τ) l c c' (ρ++τ'):=h.prepend ρ
section
variable {Γ:Bm} {A:Az} {σ σ':Bc} {s s':Be} {env:Env}
noncomputable def Lj (Γ:Bm) (A:Az) (it:Am) (G:Bc->Prop):List Ab->List Av->Prop
 |[],ρ=>∀σ,G σ->T Γ A ⟨σ.W,ρ++σ.τ⟩ (Ls (.ref it)) λr σ'=>r=Ae/\σ'=σ
 |v::vs,ρ=>∀σ,G σ->T Γ A ⟨σ.W,ρ++σ.τ⟩ (Ls (.ref it)) λr σ'=>r=Ad v/\∃ρ',σ'=⟨σ.W,ρ'++σ.τ⟩/\(∀target u,T Γ A σ' (Dr target (.ref it) u) λ_ σ''=>σ''=σ')/\Lj Γ A it G vs ρ'
theorem Lj.stop {W τ ρ:List Av} {it:Am} {G:Bc->Prop} {K:Option Ab->Be->Prop} {E:Ab->Be->Prop} (Y:Lj Γ A it G [] ρ) (hG:G ⟨W,τ⟩) (R:Eg Γ ⟨W,ρ++τ⟩ s) (k:∀s',Eg Γ ⟨W,τ⟩ s'->K Ae s'):Cu (Ci Γ.prog Γ.w) A (Ls (.ref it)) K E s:=
 (Y ⟨W,τ⟩ hG).one R λv s' e R'=>by
  cases v with
  |Ae=>exact k s' R'
  |Ad _=>cases e
theorem Lj.more {W τ ρ:List Av} {it:Am} {G:Bc->Prop} {v:Ab} {vs:List Ab} {K:Option Ab->Be->Prop} {E:Ab->Be->Prop} (Y:Lj Γ A it G (v::vs) ρ) (hG:G ⟨W,τ⟩) (R:Eg Γ ⟨W,ρ++τ⟩ s)
  (k:∀u ρ' s',cl u=v->Eg Γ ⟨W,ρ'++τ⟩ s'->(∀target w,T Γ A ⟨W,ρ'++τ⟩ (Dr target (.ref it) w) λ_ σ''=>σ''=⟨W,ρ'++τ⟩)->Lj Γ A it G vs ρ'->K (Ad u) s'):Cu (Ci Γ.prog Γ.w) A (Ls (.ref it)) K E s:=
 (Y ⟨W,τ⟩ hG).elim R λv s' _ R' ⟨e,ρ',e',go,Y'⟩=>by
  subst e'
  cases v with
  |Ae=>cases e
  |Ad u=>exact k u ρ' s' (Dl e) R' go Y'
noncomputable def Vz:List String:=["enumerate","zip","dict_itemiterator","dict_reverseitemiterator","odict_iterator","itertools.zip_longest","itertools.pairwise"]
theorem Wx {M:Model} {r:Am} {o:Obj} {n:String} {target:At} {u:Ab} {Q:Unit->Be->Prop} {E:Ab->Be->Prop} (ho:s.heap.get? r=Ad o) (hc:o.cls=.type n) (hn:Vz.contains n=false) (h:Q () s):Cu M A (Dr target (.ref r) u) Q E s:=by
 have e:∀a,Cu M A (do
   let o<-load r
   match o.cls,o.data with
   |.type n,.fields vs=>
    if Vz.contains n&&vs[0]? ==Ad (Ki a)then
     rule "for.unpacks-the-owned-tuple"
     updateField r 0 .none
   |_,_=>Et ()) Q E s:=by
  intro a
  refine Af (wpAny_load ho ?_)
  rw [hc]
  cases o.data with
  |fields vs=>
   simp only [hn,Bool.false_and,Hs,if_false]
   exact Ax h
  |_=>exact Ax h
 cases target with
 |Tuple a b c=>
  cases u with
  |ref a=>exact e a
  |_=>exact Ax h
 |List a b=>
  cases u with
  |ref a=>exact e a
  |_=>exact Ax h
 |_=>exact Ax h
theorem sI.feed {it:Am} {st:Nat->CO} {vs:List Ab} {G:Bc->Prop} (Y:sI Γ A it st vs G) (hp:∀i s,Lq Γ s (.obj it) (st i)->∃o n,s.heap.get? it=Ad o/\o.cls=.type n/\Vz.contains n=false):∀(r:List Ab) (i:Nat),r=vs.drop i->i<=vs.length->Lj Γ A it G r [(.obj it,st i)]
 |[],i,e,hi=>λσ hG=>by
  have:i=vs.length:=Nat.le_antisymm hi (by simpa using(List.drop_eq_nil_iff.mp e.symm))
  subst this
  exact Y.fin σ hG
 |v::r,i,e,hi=>λσ hG=>by
  have hlt:i < vs.length:=by
   rcases Oh i vs.length with h|h
   ·exact h
   ·rw [List.drop_eq_nil_of_le h]at e;cases e
  rw [List.drop_eq_getElem_cons hlt,Ij]at e
  refine(Y.item i v σ (by rw [Bp hlt,e.1]) hG).mono λr' σ' ⟨h1,h2⟩=>⟨h1,_,h2,λtarget u=>by
   subst h2
   intro s R
   obtain⟨o,n,ho,hc,hn⟩:=hp (i+1) s (R.ents _ Bv).1
   exact Wx ho hc hn ⟨_,R,rfl⟩,Y.feed hp r (i+1) e.2 hlt⟩
theorem Ey {it a:Am} {vs:List Ab} (hh:A.handled=Ae):Lj Γ A it (λσ=>(.obj a,.list vs)∈σ.all) vs [(.obj it,.liter a 0)]:=(qV hh).feed (λi s ⟨o,ho,hc,_⟩=>⟨o,_,ho,hc,by decide⟩) vs 0 rfl (Cg _)
theorem Hj {it a:Am} {vs:List Ab} (hh:A.handled=Ae):Lj Γ A it (λσ=>Fc Γ σ a vs) vs [(.obj it,.titer a 0)]:=(mT hh).feed (λi s ⟨o,ho,hc,_⟩=>⟨o,_,ho,hc,by decide⟩) vs 0 rfl (Cg _)
noncomputable def PGo {α β:Type} [Xx β] (Γ:Bm) (A:Az) (t:Sem β) (Q:β->Bc->Prop) (_:α) (σ:Bc):Prop:=T Γ A σ t Q
inductive oC (ρ:List Av) (I:Bc->Prop) (σ:Bc):Prop
 |mk (W τ:List Av) (le:Av.le ⟨W,ρ++τ⟩ σ) (i:I ⟨W,τ⟩)
noncomputable def eF (Γ:Bm) (ρ:List Av) (I:Bc->Prop) (Q:Ga->Bc->Prop) (f:Ga) (σ':Bc):Prop:=match f with
 |.next|.cont=>oC ρ I σ'
 |.brk=>Q .next σ'
 |.ret v=>Q (.ret v) σ'
inductive tH (Γ:Bm) (A:Az) (it:Am) (G:Bc->Prop) (I:List Ab->Bc->Prop) (vs:List Ab) (n:Nat) (s:Be):Prop
 |mk (d r:List Ab) (ρ:List Av) (σ:Bc) (R:Eg Γ ⟨σ.W,ρ++σ.τ⟩ s) (Y:Lj Γ A it G r ρ) (i:I d σ) (e:d++r=vs) (hn:n=r.length)
theorem xS {it:Am} {vs:List Ab} {ρ:List Av} {G:Bc->Prop} (Y:Lj Γ A it G vs ρ) {target:At} {body orelse:List Jy} {Q:Ga->Bc->Prop} (I:List Ab->Bc->Prop)
  (h0:I [] σ) (hG:∀d σ,I d σ->G σ)
  (turn:∀d v r u ρ' σ,d++v::r=vs->cl u=v->I d σ->∀K:Ga->Bc->Prop,(∀f σ',eF Γ ρ' (I (d++[v])) Q f σ'->K f σ')->T Γ A ⟨σ.W,ρ'++σ.τ⟩ (Ir target env u) (PGo Γ A (Cs body env) K))
  (done:∀σ,I vs σ->T Γ A σ (Cs orelse env) Q) (R:Eg Γ ⟨σ.W,ρ++σ.τ⟩ s):
  Kg (Ci Γ.prog Γ.w) A (.forLoop target (.ref it) body orelse env) (λr s'=>match r with|.ok f=>fL Γ Q (cln f) s'|.error _=>False) s:=by
 refine codeAny_forLoop_any (tH Γ A it G I vs) ?_ vs.length ⟨[],vs,ρ,σ,R,Y,h0,rfl,rfl⟩
 rintro n s' ⟨d,r,ρ,σ',R',Y',hI,he,rfl⟩
 cases r with
 |nil=>
  rw [Cr]at he
  subst he
  exact Y'.stop (hG _ _ hI) R' λs₁ R₁=>(done σ' hI).elim R₁ λ_ _ σ₂ R₂ q=>⟨σ₂,R₂,q⟩
 |cons v r=>
  refine Y'.more (hG _ _ hI) R' λu ρ' s₁ eu R₁ go Y''=>(go target u).to R₁ λ_ s₉ R₉=>(turn d v r u ρ' σ' he eu hI _ (λ_ _ z=>z)).elim R₉ λ_ s₂ σ₂ R₂ q₂=>q₂.elim R₂ λf s₃ σ₃ R₃ q₃=>?_
  have nx:oC ρ' (I (d++[v])) σ₃->∃m,m < (v::r).length/\tH Γ A it G I vs m s₃:=
   λq=>q.casesOn λW τ le hI'=>⟨r.length,Nat.lt_succ_self _,d++[v],r,ρ',⟨W,τ⟩,le Γ s₃ R₃,Y'',hI',by rw [<-he,Ba];rfl,rfl⟩
  cases f with
  |next=>exact nx q₃
  |cont=>exact nx q₃
  |brk=>exact⟨σ₃,R₃,q₃⟩
  |ret v=>exact⟨σ₃,R₃,q₃⟩
structure iD (Γ:Bm) (A:Az) (c:Ab) (σ:Bc) (it:Am) (ρ:List Av) (G:Bc->Prop) (vs:List Ab) (W:List Av) (τ:List Av):Prop where
 c:c=.ref it
 s:σ=⟨W,ρ++τ⟩
 f:Lj Γ A it G vs ρ
inductive Adj (Γ:Bm) (A:Az) (env:Env) (target:At) (body orelse:List Jy) (Q:Ga->Bc->Prop) (ci:Ab) (σ:Bc):Prop
 |mk (it:Am) (ρ:List Av) (G:Bc->Prop) (vs:List Ab) (W τ:List Av) (g:iD Γ A ci σ it ρ G vs W τ) (I:List Ab->Bc->Prop) (h0:I [] ⟨W,τ⟩) (hG:∀d σ,I d σ->G σ)
  (turn:∀d v r u ρ' σ,d++v::r=vs->cl u=v->I d σ->∀K:Ga->Bc->Prop,(∀f σ',eF Γ ρ' (I (d++[v])) Q f σ'->K f σ')->T Γ A ⟨σ.W,ρ'++σ.τ⟩ (Ir target env u) (PGo Γ A (Cs body env) K)) (done:∀σ,I vs σ->T Γ A σ (Cs orelse env) Q)
theorem Qf {target iter:At} {body orelse:List Jy} {pos:Pos} {Q:Ga->Bc->Prop}
  (h:T Γ A σ (Dv iter env) (P1 Γ A Ib (Adj Γ A env target body orelse Q)))
  (hs:autoParam (∀x,Dx iter env x=Et x) aI):T Γ A σ (Ni (.For target iter body orelse pos) env) Q:=λs R=>by
 refine wpAny_For (h.elim R λv s₁ σ₁ R₁ q₁=>(q₁ v rfl).elim R₁ λu s₂ σ₂ R₂ q₂=>?_) hs
 obtain⟨it,ρ,G,vs,W,τ,⟨e,rfl,Y⟩,I,h0,hG,turn,done⟩:=q₂
 cases Ch e
 exact Jn (xS Y I h0 hG turn done R₂) λr s' z=>by cases r with|ok f=>exact z|error e=>exact z.elim
theorem eF.mono {ρ:List Av} {I I':Bc->Prop} {Q:Ga->Bc->Prop} {f:Ga} {σ:Bc} (h:eF Γ ρ I Q f σ) (k:∀σ,I σ->I' σ):eF Γ ρ I' Q f σ:=by
 have c:∀{σ},oC ρ I σ->oC ρ I' σ:=λz=>z.casesOn λW τ le i=>⟨W,τ,le,k _ i⟩
 cases f with
 |next=>exact c h
 |cont=>exact c h
 |brk=>exact h
 |ret v=>exact h
inductive Adk {β ι:Type} (w t:List β->ι->List Av) (J:List β->ι->Prop) (a:List β) (σ:Bc):Prop
 |mk (x:ι) (e:σ=⟨w a x,t a x⟩) (h:J a x)
inductive Akc {β ι:Type} (f:β->Ab) (js:List β) (w t:List β->ι->List Av) (J:List β->ι->Prop) (d:List Ab) (σ:Bc):Prop
 |mk (a b:List β) (e:js=a++b) (ed:d=a.map f) (h:Adk w t J a σ)
inductive Abe {β:Type} (f:β->Ab) (v:Ab) (r:List Ab) (b:List β):Prop
 |mk (j:β) (c:List β) (e:b=j::c) (ev:v=f j) (er:r=c.map f)
theorem oM {β:Type} {f:β->Ab} {js a b:List β} {d r:List Ab} {v:Ab} (e:js=a++b) (ed:d=a.map f) (he:d++v::r=js.map f):Abe f v r b:=by
 rw [e,ed,Bk]at he
 have q:=List.append_cancel_left he
 cases b with
 |nil=>cases q
 |cons j c=>exact⟨j,c,rfl,(Oy q).1,(Oy q).2⟩
inductive oD (Γ:Bm) (A:Az) (env:Env) (target:At) (body orelse:List Jy) (Q:Ga->Bc->Prop) (ci:Ab) (σ:Bc):Prop
 |mk {β ι:Type} (f:β->Ab) (js:List β) (it:Am) (ρ:List Av) (G:Bc->Prop) (w t:List β->ι->List Av) (J:List β->ι->Prop) (x:ι) (g:iD Γ A ci σ it ρ G (js.map f) (w [] x) (t [] x)) (h0:J [] x) (hG:∀a x,J a x->G ⟨w a x,t a x⟩)
  (turn:∀a j b u ρ' x,js=a++j::b->cl u=f j->J a x->∀K:Ga->Bc->Prop,(∀g σ',eF Γ ρ' (Adk w t J (a++[j])) Q g σ'->K g σ')->T Γ A ⟨w a x,ρ'++t a x⟩ (Ir target env u) (PGo Γ A (Cs body env) K))
  (done:∀x,J js x->T Γ A ⟨w js x,t js x⟩ (Cs orelse env) Q)
theorem oD.to {target:At} {body orelse:List Jy} {Q:Ga->Bc->Prop} {ci:Ab} (h:oD Γ A env target body orelse Q ci σ):Adj Γ A env target body orelse Q ci σ:=by
 obtain⟨f,js,it,ρ,G,w,t,J,x,g,h0,hG,turn,done⟩:=h
 refine⟨it,ρ,G,_,_,_,g,Akc f js w t J,⟨[],js,rfl,rfl,x,rfl,h0⟩,λd σ i=>?_,λd v r u ρ' σ he hu i K hK=>?_,λσ i=>?_⟩
 ·obtain⟨a,b,_,_,x,e,h⟩:=i
  rw [e]
  exact hG a x h
 ·obtain⟨a,b,e,ed,x,es,h⟩:=i
  obtain⟨j,c,eb,ev,_⟩:=oM e ed he
  rw [es]
  rw [eb]at e
  exact turn a j c u ρ' x e (hu.trans ev) h K λg σ' z=>hK g σ' (z.mono λσ q=>⟨a++[j],c,by rw [e,Ba];rfl,by rw [ed,ev,Bk];rfl,q⟩)
 ·obtain⟨a,b,e,ed,x,es,h⟩:=i
  have:b=[]:=by
   rw [e,Bk]at ed
   exact Oo.mp (List.append_right_eq_self.mp ed)
  rw [this,Cr]at e
  rw [es,<-e]
  rw [<-e]at h
  exact done x h
theorem Sh {target iter:At} {body orelse:List Jy} {pos:Pos} {Q:Ga->Bc->Prop}
  (h:T Γ A σ (Dv iter env) (P1 Γ A Ib (oD Γ A env target body orelse Q)))
  (hs:autoParam (∀x,Dx iter env x=Et x) aI):T Γ A σ (Ni (.For target iter body orelse pos) env) Q:=
 Qf (h.mono λ_ _ q v hv=>(q v hv).mono λ_ _=>oD.to) hs
theorem Dm {x:Str} {pos:Pos} {v:Ab} {m:List (Str×Option Ab)} {Q:Ab->Bc->Prop} (hm:(.obj env.locals,.fr m)∈σ.all) (hx:(x,Ad v)∈m) (h:Q v σ)
  (hk:autoParam (env.scope.kind=.function) aR) (hl:autoParam (env.kindOf x=Ad .local) aR) (hd:autoParam ((x==("__debug__" :Str))=false) aD):
  T Γ A σ (Dv (.Name x pos) env) Q:=λs R=>by
 obtain⟨M,N,_,e⟩:=(R.ents _ hm).1
 have e:=e _ hx
 cases q:M x with
 |Ae=>rw [q]at e;cases e
 |Ad u=>
  rw [q]at e
  refine wpAny_Name (wpAny_loadName_local hk hl N q ⟨σ,R,?_⟩) hd
  have:cl u=v:=Dl e
  show Q (cl u) σ
  rw [this];exact h
theorem Ta {x:Str} {pos:Pos} {u v:Ab} {m m':List (Str×Option Ab)} {Q:Unit->Bc->Prop} (hu:cl u=v) (hm:Oq x v m m') (U:Jf σ (.obj env.locals) (.fr m) (.fr m') σ') (h:Q () σ')
  (hk:autoParam (env.scope.kind=.function) aR) (hl:autoParam (env.kindOf x=Ad .local) aR):T Γ A σ (Ir (.Name x pos) env u) Q:=λs R=>by
 obtain⟨M,N,dup,e⟩:=(R.ents _ U.mem).1
 refine wpAny_assign_Name (wpAny_storeName_local hl N (λh' hn hs=>⟨σ',Eg.changeS (s':={s with heap:=h',toks:=s.toks+1}) R U rfl hs.extBut rfl rfl ⟨_,hn,?_,?_⟩,h⟩) ?_)
 ·obtain⟨l₁,l₂,ov,rfl,rfl⟩:=hm.split
  simpa using dup
 ·obtain⟨l₁,l₂,ov,rfl,rfl⟩:=hm.split
  intro p hp
  have hne:∀q∈l₁++l₂,q.1≠x:=by
   intro q hq e
   rw [Bk,Ck]at dup
   have:=(Ih.mp dup)
   rcases Ak.mp hq with h|h
   ·exact this.2.2 q.1 (Cz h) x (.head _) e
   ·have h2:=(Fe.mp this.2.1).1
    have h3:q.1∈l₂.map Prod.fst:=Cz h
    rw [e]at h3
    exact h2 h3
  have old:∀q∈l₁++l₂,(if q.1=x then Ad u else M q.1).map cl=q.2:=by
   intro q hq
   rw [if_neg (hne q hq)]
   apply e
   rcases Ak.mp hq with h|h
   ·exact Ah _ h
   ·exact Aa _ (.tail _ h)
  rcases Ak.mp hp with h|h
  ·exact old p (Ah _ h)
  ·rcases Cj.mp h with rfl|h
   ·simp [hu]
   ·exact old p (Aa _ h)
 ·show(env.scope.kind==.class ||(env.scope.kind==.module&&_))=false
  rw [hk];rfl
end
end
section
theorem jE (k:Str->Option NameKind) (x:Str):∀(bs:List (Str×Ab)) (m:Str->Option Ab),(bindL k bs m x).map cl=bindL k (bs.map λp=>(p.1,cl p.2)) (λy=>(m y).map cl) x
 |[],_=>rfl
 |(n,v)::r,m=>by
  unfold bindL
  rw [Ck,jE k x r]
  congr 1
  funext y
  split
  ·dsimp only;split<;>rfl
  ·rfl
theorem jF (k:Str->Option NameKind) (x:Str):∀(bs:List (Str×Ab)) (m:Str->Option Ab),(bindC k bs m x).map cl=bindC k (bs.map λp=>(p.1,cl p.2)) (λy=>(m y).map cl) x
 |[],_=>rfl
 |(n,v)::r,m=>by
  unfold bindC
  rw [Ck,jF k x r]
  congr 1
  funext y
  split
  ·rfl
  ·dsimp only;split<;>rfl
theorem Rx:∀(names:List (Str×NameKind)) (n n':Nat) (acc acc':List (Str×Am)),acc.map (·.1)=acc'.map (·.1)->(Fk n names acc).map (·.1)=(Fk n' names acc').map (·.1)
 |[],_,_,_,_,h=>h
 |(x,k)::r,n,n',acc,acc',h=>by
  unfold Fk
  split
  ·exact Rx r _ _ _ _ (by simp [h])
  ·exact Rx r _ _ _ _ h
theorem Vp {n:Str} {c:Am}:∀{l:List (Str×Am)},(l.map (·.1)).Nodup->(n,c)∈l->l.lookup n=Ad c
 |(y,d)::r,hn,h=>by
  rw [Ck,Fe]at hn
  rw [List.lookup_cons]
  rcases Cj.mp h with e|h2
  ·cases e;simp
  ·have:(n==y)=false:=by
    rw [beq_eq_false_iff_ne]
    intro e
    have h3:n∈r.map Prod.fst:=Cz (f:=Prod.fst) h2
    rw [e]at h3
    exact hn.1 h3
   rw [this]
   exact Vp hn.2 h2
noncomputable def Ut (cs:List (Str×Am)) (cm:Str->Option Ab):List Av:=cs.map λp=>(.obj p.2,.cell (cm p.1))
section
variable {Γ:Bm} {A:Az} {σ σ':Bc} {s s':Be} {env:Env}
theorem bL {cm:Str->Option Ab}:∀{cs:List (Str×Am)},(cs.Pairwise λx y=>x.2≠y.2)->(Ut cs cm).Pairwise Ul
 |[],_=>.nil
 |x::r,h=>by
  rw [Io]at h
  refine .cons (λq hq=>?_) (bL h.2)
  obtain⟨y,hy,rfl⟩:=Bq.mp hq
  exact .inl (by show((true,x.2):Bool×Nat)≠(true,y.2);intro e;exact h.1 y hy (Prod.mk.inj e).2)
set_option tactic.hygienic true in
theorem Wm {W τ:List Av} {f:Am} {oc:Ab} {od:Option Am} {osl:Array (Option Ab)} {name qual:Str} {params:Arguments} {body:List Jy} {scope:Li} {dV kV doc pm cdv ct:Ab} {an:Option Am} {vs:List Ab} {kw bs:List (Str×Ab)} {Q:Ab->Bc->Prop} (names:List Str)
  (ho:Γ.K.lookup f=Ad ⟨oc,od,.func (fnX name qual params body scope [] dV kV doc pm an cdv ct),osl⟩) (hcode:codeIn Γ.K cdv qual=true) (hd:A.depth < Hf) (hb:Hb Γ (fnX name qual params body scope [] dV kV doc pm an cdv ct) vs kw bs)
  (h:∀L,T Γ (A.deeper (Gs qual scope L f cdv (Fk (L+1) scope.names []))) ⟨W,Ut (Fk (L+1) scope.names []) (bindC (λx=>scope.names.lookup x) bs λ_=>Ae)++((names.map λx=>(.var L x,.val (bindL (λx=>scope.names.lookup x) bs (λ_=>Ae) x)))++τ)⟩ (Cs body (Gs qual scope L f cdv (Fk (L+1) scope.names []))) (Jh Q))
  (hloc:autoParam ((bs.all λx=>scope.names.lookup x.1==Ad .local||(scope.names.lookup x.1==Ad .cell&&scope.names.any (λy=>y.1==x.1&&y.2==.cell)))=true) aR) (hn:autoParam (names.Nodup) aD) (hcn:autoParam (((Fk 0 scope.names []).map (·.1)).Nodup) aD)
  (hco:autoParam (scope.isCoroutine=false) aR) (hgen:autoParam (scope.isGenerator=false) aR) (hk:autoParam (scope.kind=.function) aR):
  ∀ws kws,ws.map cl=vs->kws.map (λp:Str×Ab=>(p.1,cl p.2))=kw->TC Γ A ⟨W,τ⟩ (.ref f) ws kws Q:=λws kws hw hkw s R=>by
 obtain⟨binds,eb,hbind⟩:=hb ws kws hw hkw
 have cellThere:∀(x:Str) (names:List (Str×NameKind)) (n:Nat) (acc:List (Str×Am)),((acc.lookup x).isSome=true\/(names.any λy=>y.1==x&&y.2==.cell)=true)->((Fk n names acc).lookup x).isSome=true:=by
  intro x names
  induction names with
  |nil=>intro n acc h;rcases h with h|h;exact h;cases h
  |cons y r ih=>
   intro n acc h
   obtain⟨y,k⟩:=y
   unfold Fk
   have key:∀c:Am,(acc.lookup x).isSome=true\/y=x->(((y,c)::acc).lookup x).isSome=true:=by
    intro c h
    rw [List.lookup_cons]
    cases hq:x==y with
    |true=>rfl
    |false=>
     rcases h with h|h
     ·exact h
     ·subst h;simp at hq
   split
   ·rename_i hk
    refine ih _ _ ?_
    rcases h with h|h
    ·exact .inl (key _ (.inl h))
    ·rw [Oz,Bool.or_eq_true]at h
     rcases h with h|h
     ·simp only [Dd,beq_iff_eq]at h
      exact .inl (key _ (.inr h.1))
     ·exact .inr h
   ·rename_i hk
    refine ih _ _ ?_
    rcases h with h|h
    ·exact .inl h
    ·rw [Oz,Bool.or_eq_true]at h
     rcases h with h|h
     ·simp only [Dd,beq_iff_eq]at h
      exact absurd (beq_iff_eq.mpr h.2) hk
     ·exact .inr h
 refine codeAny_call_function (fd:=fnX name qual params body scope [] dV kV doc pm an cdv ct) (body:=body) hd (R.kin _ _ ho) rfl hco hgen rfl (codeRec_of R.kin hcode) (hbind s R.kin _ _ _ _ ?_)
 refine wpAny_newFunctionEnv_cells hk (λx hx=>?_) λenv' he s' X=>?_
 ·have hx':(x.1,cl x.2)∈bs:=eb▸Cz hx
  have h1:=Fz.mp hloc _ hx'
  simp only [Bool.or_eq_true,Dd,beq_iff_eq]at h1
  rcases h1 with h1|⟨h1,h2⟩
  ·exact .inl h1
  ·exact .inr ⟨h1,cellThere _ _ _ _ (.inr h2)⟩
 ·subst he
  have X':InCallC s s.heap.objs.size (bindL (λx=>scope.names.lookup x) binds λ_=>Ae) (Fk (s.heap.objs.size+1) scope.names []) (bindC (λx=>scope.names.lookup x) binds λ_=>Ae) s':=X
  obtain⟨⟨⟨h',tk,rfl⟩,ns,keep,fresh⟩,cell,apart,above⟩:=X'
  have R₁:Eg Γ ⟨W,τ⟩ {s with heap:=h',toks:=tk}:=R.grow keep rfl rfl
  have eL:∀x,(bindL (λx=>scope.names.lookup x) binds (λ_=>Ae) x).map cl=bindL (λx=>scope.names.lookup x) bs (λ_=>Ae) x:=λx=>by rw [jE,eb];rfl
  have eC:∀x,(bindC (λx=>scope.names.lookup x) binds (λ_=>Ae) x).map cl=bindC (λx=>scope.names.lookup x) bs (λ_=>Ae) x:=λx=>by rw [jF,eb];rfl
  have R₂:=R₁.adds (names.map λx=>(Ex.var s.heap.objs.size x,CO.val (bindL (λx=>scope.names.lookup x) bs (λ_=>Ae) x))) (λp hp=>?_) ?_
  ·have R₃:=R₂.adds (Ut (Fk (s.heap.objs.size+1) scope.names []) (bindC (λx=>scope.names.lookup x) bs λ_=>Ae)) (λp hp=>?_) (bL apart)
   ·refine⟨R₁.lim.no,codeAny_func (Ec (h s.heap.objs.size _ R₃) (λfl s' zz=>?_) λ_ _ x=>x.elim)⟩
    obtain⟨σ',R',σ'',le,q⟩:=zz
    refine⟨σ'',le Γ s' R',?_⟩
    cases fl with
    |ret v=>exact q
    |next=>exact q
    |brk=>exact q
    |cont=>exact q
   ·obtain⟨⟨n,c⟩,hx,rfl⟩:=Bq.mp hp
    have hlc:=above n c hx
    have hlt:s.heap.objs.size<=c:=Ml hlc
    have hl:(Fk (s.heap.objs.size+1) scope.names []).lookup n=Ad c:=Vp (by rw [Rx scope.names _ 0 [] [] rfl];exact hcn) hx
    refine⟨⟨_,cell _ _ hl,eC _⟩,R.freshAt hlt,λq hq=>?_⟩
    rcases Ak.mp hq with h1|h1
    ·exact Jw (σ:=⟨W,τ⟩) (s:=s) rfl (λq hq=>(R.ents q hq).1) hlt q (Ah _ h1)
    ·rcases Ak.mp h1 with h1|h1
     ·obtain⟨x,hx',rfl⟩:=Bq.mp h1
      exact .inl (by show((true,c):Bool×Nat)≠(true,s.heap.objs.size);intro e;exact Nat.ne_of_gt hlc (Prod.mk.inj e).2)
     ·exact Jw (σ:=⟨W,τ⟩) (s:=s) rfl (λq hq=>(R.ents q hq).1) hlt q (Aa _ h1)
  ·obtain⟨x,hx,rfl⟩:=Bq.mp hp
   exact⟨⟨_,ns,eL x⟩,R.freshTop,Jw (σ:=⟨W,τ⟩) (s:=s) rfl (λq hq=>(R.ents q hq).1) (Cb _)⟩
  ·have:∀{names:List Str},names.Nodup->(names.map λx=>((Ex.var s.heap.objs.size x,CO.val (bindL (λx=>scope.names.lookup x) bs (λ_=>Ae) x)):Av)).Pairwise Ul:=by
    intro names
    induction names with
    |nil=>intro _;exact .nil
    |cons x r ih=>
     intro hn
     rw [Fe]at hn
     refine .cons (λq hq=>?_) (ih hn.2)
     obtain⟨y,hy,rfl⟩:=Bq.mp hq
     exact .inr (.inr ⟨_,x,y,rfl,rfl,λe=>hn.1 (e▸hy)⟩)
   exact this hn
end
end
section
section
variable {Γ:Bm} {A:Az} {σ σ':Bc} {s s':Be} {env:Env}
theorem eU {M:Model} {E:Ab->Be->Prop} {scope:Li} {globals:Am} {cl₀:List (Str×Am)} {qual:Str} {func:Option Am} {code:Ab} {outer:Env} {bi:Am} {Q:Env->Be->Prop}
  (hQ:∀h',h'.Ns s.heap.objs.size (λ_=>Ae)->CellsOk h' (s.heap.objs.size+1) (Fk (s.heap.objs.size+1) scope.names [])->(∀b o,s.heap.get? b=Ad o->h'.get? b=Ad o)->
   Q {scope,locals:=s.heap.objs.size,globals,cells:=Fk (s.heap.objs.size+1) scope.names cl₀,qual,func,code:=outer.code,frame:=outer.frame,builtins:=outer.builtins} {s with heap:=h'}):
  Cu M A (newFunctionEnv scope globals cl₀ [] qual func code (Ad outer) bi) Q E s:=by
 simp only [newFunctionEnv,Option.isSome_some,if_true]
 refine Af (wpAny_alloc ?_)
 refine Af (wpAny_layCells _ (λname kind cells=>by cases hkc:kind==NameKind.cell<;>simp [hkc]) _ _ _ _ ?_)
 have ok:=cellsFrom_ok scope.names (s.heap.push {cls:=.type "dict",data:=.dict #[]}) (s.heap.objs.size+1) [] ⟨λ_ _ hm=>(nomatch hm),List.Pairwise.nil⟩ (by rw [Iy];exact Cb _)
 rw [Iy]at ok
 rw [show({s with heap:=s.heap.push {cls:=.type "dict",data:=.dict #[]}}:Be).heap.objs.size=s.heap.objs.size+1 from Iy ..]
 refine Af ?_
 rw [List.forIn_nil]
 refine Ax (Ax ?_)
 exact hQ _ ((Cd.Ns.new s.heap (.type "dict")).keeps (pushCells_keeps _ _)) ok λb o e=>pushCells_keeps _ _ b o (An _ e)
noncomputable abbrev Xa (ifs:List At) (env:Env):Sem Bool:=forIn ifs true λc r=>if r=true then do let ok<-isTrue c env (Dv c env);Et (ForInStep.yield ok)else Et (ForInStep.yield r)
theorem Qd {Q:Bool->Bc->Prop} (h:Q true σ):T Γ A σ (Xa [] env) Q:=λ_ R=>wpAny_tests_nil ⟨σ,R,h⟩
theorem Js {c:At} {Q:Bool->Bc->Prop} (h:T Γ A σ (isTrue c env (Dv c env)) Q):T Γ A σ (Xa [c] env) Q:=λs R=>wpAny_tests_one (h s R)
noncomputable abbrev Lp (scope:Li) (cl₀:List (Str×Am)) (C:Am) (env:Env):Env:=
 {scope:=relabel scope env,locals:=C,globals:=env.globals,cells:=Fk (C+1) scope.names cl₀,qual:=env.qual,func:=Ae,code:=env.code,frame:=env.frame,builtins:=env.builtins}
noncomputable def Vu (Γ:Bm) (A:Az) (it:Am) (ρ:List Av):Prop:=∀W τ,T Γ A ⟨W,ρ++τ⟩ (Ib (.ref it)) λc σ'=>c=.ref it/\σ'=⟨W,ρ++τ⟩
theorem Hc {it a:Am} {i:Nat}:Vu Γ A it [(.obj it,.liter a i)]:=λW τ s R=>wpAny_pyIter_listiter (R.ents _ Bv).1 ⟨_,R,rfl,rfl⟩
theorem Rc {it a:Am} {i:Nat}:Vu Γ A it [(.obj it,.titer a i)]:=λW τ s R=>wpAny_pyIter_tupleiter (R.ents _ Bv).1 ⟨_,R,rfl,rfl⟩
noncomputable abbrev Te (m:Option Ab->List (Str×Option Ab)) (cE:Am->Option Ab->List Av) (C:Am) (o:Option Ab) (r:List Av):List Av:=(.obj C,.fr (m o))::(cE C o++r)
inductive Vl (ρ:List Av) (E:Option Ab->List Av->List Av) (P:Bc->Prop) (σ:Bc):Prop
 |mk (W τ:List Av) (o:Option Ab) (le:Av.le ⟨W,ρ++E o τ⟩ σ) (i:P ⟨W,τ⟩)
noncomputable def Adh (ρ:List Av) (E:Option Ab->List Av->List Av) (J:List Ab->Bc->Prop) (ys:List Ab) (y:Ab) (σ:Bc):Prop:=Vl ρ E (J (ys++[y])) σ
inductive eH (Γ:Bm) (A:Az) (E:Am->Am->Option Ab->List Ab->List Av->List Av) (env':Am->Env) (ifs:List At) (elt:At) (K:Ab->Bc->Prop) (ci:Ab) (σ:Bc):Prop
 |mk (it:Am) (ρ:List Av) (G:Bc->Prop) (vs:List Ab) (W τ:List Av) (g:iD Γ A ci σ it ρ G vs W τ) (slf:Vu Γ A it ρ) (I:List Ab->List Ab->Bc->Prop) (h0:I [] [] ⟨W,τ⟩)
  (hG:∀d ys σ ext,I d ys σ->G ⟨σ.W,ext++σ.τ⟩) (hz:∀d ys σ,I d ys σ->ys.length<=Gn)
  (turn:∀C acc d v r ρ' ys σ,d++v::r=vs->I d ys σ->T Γ A ⟨σ.W,ρ'++E C acc (Ad v) ys σ.τ⟩ (Xa ifs (env' C)) (sH Γ A true false (Dv elt (env' C)) (Adh ρ' (λo τ=>E C acc o ys τ) (I (d++[v])) ys) (Vl ρ' (λo τ=>E C acc o ys τ) (I (d++[v]) ys))))
  (done:∀acc ys σ,I vs ys σ->K (.ref acc) ⟨σ.W,(.obj acc,.list ys)::σ.τ⟩)
theorem Vl.mono {ρ:List Av} {E:Option Ab->List Av->List Av} {P P':Bc->Prop} {σ:Bc} (h:Vl ρ E P σ) (k:∀σ,P σ->P' σ):Vl ρ E P' σ:=h.casesOn λW τ o le i=>⟨W,τ,o,le,k _ i⟩
inductive oF {β ι:Type} (w t:List β->ι->List Av) (ys:List β->ι->List Ab) (J:List β->ι->Prop) (a:List β) (vs:List Ab) (σ:Bc):Prop
 |mk (x:ι) (es:σ=⟨w a x,t a x⟩) (ev:vs=ys a x) (h:J a x)
inductive yP {β ι:Type} (f:β->Ab) (js:List β) (w t:List β->ι->List Av) (ys:List β->ι->List Ab) (J:List β->ι->Prop) (d vs:List Ab) (σ:Bc):Prop
 |mk (a b:List β) (e:js=a++b) (ed:d=a.map f) (h:oF w t ys J a vs σ)
inductive Yi (Γ:Bm) (A:Az) (E:Am->Am->Option Ab->List Ab->List Av->List Av) (env':Am->Env) (ifs:List At) (elt:At) (K:Ab->Bc->Prop) (ci:Ab) (σ:Bc):Prop
 |mk {β ι:Type} (f:β->Ab) (js:List β) (it:Am) (ρ:List Av) (G:Bc->Prop) (w t:List β->ι->List Av) (ys:List β->ι->List Ab) (J:List β->ι->Prop) (x:ι) (g:iD Γ A ci σ it ρ G (js.map f) (w [] x) (t [] x)) (slf:Vu Γ A it ρ) (h0:J [] x) (y0:ys [] x=[])
  (hG:∀a x ext,J a x->G ⟨w a x,ext++t a x⟩) (hz:∀a b x,js=a++b->J a x->(ys a x).length<=Gn)
  (turn:∀C acc a j b ρ' x,js=a++j::b->J a x->T Γ A ⟨w a x,ρ'++E C acc (Ad (f j)) (ys a x) (t a x)⟩ (Xa ifs (env' C)) (sH Γ A true false (Dv elt (env' C)) (λy=>Vl ρ' (λo τ=>E C acc o (ys a x) τ) (oF w t ys J (a++[j]) (ys a x++[y]))) (Vl ρ' (λo τ=>E C acc o (ys a x) τ) (oF w t ys J (a++[j]) (ys a x)))))
  (done:∀acc x,J js x->K (.ref acc) ⟨w js x,(.obj acc,.list (ys js x))::t js x⟩)
theorem Yi.to {E:Am->Am->Option Ab->List Ab->List Av->List Av} {env':Am->Env} {ifs:List At} {elt:At} {K:Ab->Bc->Prop} {ci:Ab} (h:Yi Γ A E env' ifs elt K ci σ):eH Γ A E env' ifs elt K ci σ:=by
 obtain⟨f,js,it,ρ,G,w,t,ys,J,x,g,slf,h0,y0,hG,hz,turn,done⟩:=h
 refine⟨it,ρ,G,_,_,_,g,slf,yP f js w t ys J,⟨[],js,rfl,rfl,x,rfl,y0.symm,h0⟩,λd vs σ ext i=>?_,λd vs σ i=>?_,λC acc d v r ρ' vs σ he i=>?_,λacc vs σ i=>?_⟩
 ·obtain⟨a,b,e,ed,x,es,ev,h⟩:=i
  rw [es]
  exact hG a x ext h
 ·obtain⟨a,b,e,ed,x,es,ev,h⟩:=i
  rw [ev]
  exact hz a b x e h
 ·obtain⟨a,b,e,ed,x,es,ev,h⟩:=i
  obtain⟨j,c,eb,ej,_⟩:=oM e ed he
  rw [eb]at e
  rw [es,ev,ej]
  have up:∀{vs' σ'},oF w t ys J (a++[j]) vs' σ'->yP f js w t ys J (d++[f j]) vs' σ':=λq=>⟨a++[j],c,by rw [e,Ba];rfl,by rw [ed,Bk];rfl,q⟩
  exact(turn C acc a j c ρ' x e h).mono λbb σ' q=>⟨λhb=>(q.1 hb).mono λy σ₂ p=>p.mono λ_=>up,λhb=>(q.2 hb).mono λ_=>up⟩
 ·obtain⟨a,b,e,ed,x,es,ev,h⟩:=i
  have:b=[]:=by
   rw [e,Bk]at ed
   exact Oo.mp (List.append_right_eq_self.mp ed)
  rw [this,Cr]at e
  rw [es,ev,<-e]
  rw [<-e]at h
  exact done acc x h
section
variable {m:Option Ab->List (Str×Option Ab)} {cE:Am->Option Ab->List Av} {scope:Li}
theorem oW {ρ W τ:List Av} (R:Eg Γ ⟨W,ρ++τ⟩ s) (hm:∀p∈m Ae,p.2=Ae) (hmn:((m Ae).map (·.1)).Nodup) (hc:∀C,cE C Ae=Ut (Fk (C+1) scope.names []) λ_=>Ae) {o:Obj} (ho:o={cls:=.type "list",data:=.seq #[]}) {C:Nat} (hC:(s.heap.push o).objs.size=C) {h₁:Cd}
  (ns:h₁.Ns C λ_=>Ae) (cells:CellsOk h₁ (C+1) (Fk (C+1) scope.names [])) (keep:∀b o',(s.heap.push o).get? b=Ad o'->h₁.get? b=Ad o'):Eg Γ ⟨W,ρ++Te m cE C Ae ((.obj s.heap.objs.size,.list [])::τ)⟩ {s with heap:=h₁}:=by
 subst ho
 have Ra:Eg Γ ⟨W,(.obj s.heap.objs.size,.list [])::(ρ++τ)⟩ {s with heap:=s.heap.push {cls:=.type "list",data:=.seq #[]}}:=
  R.push (c:=.list []) (s':={s with heap:=s.heap.push {cls:=.type "list",data:=.seq #[]}}) (λ_ _ e=>An _ e) rfl rfl ⟨#[],0,Bj _ rfl,rfl⟩
 have up:∀n,C<=n->(s.heap.push {cls:=.type "list",data:=.seq #[]}).objs.size<=n:=λn h=>by rw [hC];exact h
 have sep:∀l c n,Ex.base l=(true,n)->C<=n->∀q∈W++((.obj s.heap.objs.size,.list [])::(ρ++τ)),Ul (l,c) q:=λl c n hl hn=>Jw hl (λq hq=>(Ra.ents q hq).1) (up n hn)
 have Rb:=(Ra.grow (s':={s with heap:=h₁}) keep rfl rfl).adds (cE C Ae) (by
  rw [hc]
  intro p hp
  obtain⟨x,hx,rfl⟩:=Bq.mp hp
  have h:=cells.empty x.1 x.2 hx
  have hl:=Ca (Nat.le_succ _) h.2
  exact⟨⟨Ae,h.1,rfl⟩,Ra.freshAt (up _ hl),sep _ _ x.2 rfl hl⟩) (by rw [hc];exact bL cells.apart)
 refine Av.le_perm (Bf W ?_) _ _ (Rb.add (l:=.obj C) (c:=.fr (m Ae)) ⟨_,ns,hmn,λp hp=>(hm p hp).symm⟩ (Ra.freshAt (up _ (Cb _))) λq hq=>?_)
 ·have e1:(.obj C,.fr (m Ae))::(cE C Ae++(.obj s.heap.objs.size,.list [])::(ρ++τ))=((.obj C,.fr (m Ae))::(cE C Ae++[(.obj s.heap.objs.size,.list [])]))++(ρ++τ):=by simp
  have e2:Te m cE C Ae ((.obj s.heap.objs.size,.list [])::τ)=((.obj C,.fr (m Ae))::(cE C Ae++[(.obj s.heap.objs.size,.list [])]))++τ:=by simp
  rw [e1,e2,<-Ba,<-Ba]
  exact Eb _ Fa
 ·rcases Ak.mp hq with h1|h1
  ·exact sep _ _ C rfl (Cb _) q (Ah _ h1)
  ·rcases Ak.mp h1 with h1|h1
   ·rw [hc]at h1
    obtain⟨x,hx,rfl⟩:=Bq.mp h1
    exact .inl λe=>Kw (cells.empty x.1 x.2 hx).2 (Prod.mk.inj e).2
   ·exact sep _ _ C rfl (Cb _) q (Aa _ h1)
theorem vE {W τ ρ:List Av} {C acc:Am} {o:Option Ab} {ys:List Ab} {y:Ab} (hz:ys.length<=Gn) (R:Eg Γ ⟨W,ρ++Te m cE C o ((.obj acc,.list ys)::τ)⟩ s) {E:Ab->Be->Prop} {Q:Ab->Be->Prop}
  (k:∀v s',Eg Γ ⟨W,ρ++Te m cE C o ((.obj acc,.list (ys++[cl y]))::τ)⟩ s'->Q v s'):Cu (Ci Γ.prog Γ.w) A (Iq (.builtin "list.append") [.ref acc,y]) Q E s:=
 (bN (σ':=⟨W,ρ++Te m cE C o ((.obj acc,.list (ys++[cl y]))::τ)⟩) rfl (.tau (Ri.prepend (.there (Ri.prepend .here _)) _)) hz rfl).to R k
theorem jD {C:Am} {o:Option Ab} {W τ:List Av} {P:Be->Prop} (R:Eg Γ ⟨W,Te m cE C o τ⟩ s) (k:∀s',Eg Γ ⟨W,τ⟩ s'->P s'):∃m,s.heap.Ns C m/\∀h',Eu C s.heap h'->P {s with heap:=h'}:=by
 obtain⟨M,N,_,_⟩:=(R.ents _ Bv).1
 exact⟨M,N,λh' hs=>k _ (Av.le_sub (Bs _ _) _ _ (Eg.dropObj (s':={s with heap:=h'}) R rfl hs.extBut rfl rfl))⟩
inductive yQ (Γ:Bm) (A:Az) (m:Option Ab->List (Str×Option Ab)) (cE:Am->Option Ab->List Av) (C acc it:Am) (G:Bc->Prop) (I:List Ab->List Ab->Bc->Prop) (vs:List Ab) (n:Nat) (s:Be):Prop
 |mk (d r:List Ab) (ρ:List Av) (ys:List Ab) (o:Option Ab) (W τ:List Av) (R:Eg Γ ⟨W,ρ++Te m cE C o ((.obj acc,.list ys)::τ)⟩ s) (f:Lj Γ A it G r ρ) (i:I d ys ⟨W,τ⟩) (e:d++r=vs) (hn:n=r.length)
theorem Yr {x:Str} {xp pos:Pos} {elt iter:At} {ifs:List At} {cl₀:List (Str×Am)} {use:Option (Ab->Sem Unit)} {K Q:Ab->Bc->Prop} (m:Option Ab->List (Str×Option Ab)) (cE:Am->Option Ab->List Av)
  (h:T Γ A σ (Dv iter env) (P1 Γ A Ib (eH Γ A (λC acc o ys τ=>Te m cE C o ((.obj acc,.list ys)::τ)) (λC=>Lp scope cl₀ C env) ifs elt K)))
  (hu:∀C o acc W τ,K (.ref acc) ⟨W,τ⟩->match use with|Ae=>Q (.ref acc) ⟨W,τ⟩|Ad u=>T Γ A ⟨W,Te m cE C o τ⟩ (u (.ref acc)) λ_=>Vl [] (Te m cE C) (Q .none))
  (hm:∀p∈m Ae,p.2=Ae) (hmn:((m Ae).map (·.1)).Nodup) (hc:∀C,cE C Ae=Ut (Fk (C+1) scope.names []) λ_=>Ae)
  (tgt:∀C u o W ρ r,T Γ A ⟨W,ρ++Te m cE C o r⟩ (Ir (.Name x xp) (Lp scope cl₀ C env) u) λ_ σ=>σ=⟨W,ρ++Te m cE C (Ad (cl u)) r⟩)
  (hclos:Kc scope env=Et cl₀) (hkind:scope.kind=.function) (hnames:(scope.names.all λx=>x.2 != .local||scope.names.lookup x.1==Ad .local)=true)
  (hs:∀x,Dx iter env x=Et x) (ht:∀it v,Dr (.Name x xp) it v=Et ()):
  T Γ A σ (comprehension (.ListComp elt [⟨.Name x xp,iter,ifs,0⟩] scope pos) scope env (firstIterPos [⟨.Name x xp,iter,ifs,0⟩] pos) (newList []) false (Dv iter env) use) Q:=λs R=>by
 refine wpAny_comprehension_free (g:=⟨.Name x xp,iter,ifs,0⟩) (gs:=[]) rfl hs hclos hkind (λx hx hl=>?_) (h.elim R λv s₁ σ₁ R₁ q₁=>(q₁ v rfl).elim R₁ λu s₂ σ₂ R₂ q₂=>?_)
 ·have:=Fz.mp hnames x hx
  rw [hl]at this
  simpa using this
 cases q₂ with
 |mk it ρ G vs W τ g slf I h0 hG hz turn done=>
 cases Ch g.c
 cases g.s
 refine Ez (eU λh₁ ns cells keep=>?_)
 have Re:=oW (m:=m) (cE:=cE) R₂ hm hmn hc rfl rfl ns cells keep
 generalize hC:(s₂.heap.push _).objs.size=C at *
 generalize s₂.heap.objs.size=acc at *
 generalize ({s₂ with heap:=h₁}:Be)=s₃ at Re
 clear ns cells keep hC R₂
 have fin:∀o ys τ W s',I vs ys ⟨W,τ⟩->Eg Γ ⟨W,Te m cE C o ((.obj acc,.list ys)::τ)⟩ s'->
   compPost (Ci Γ.prog Γ.w) A (λ_ _=>False) use (λv s'=>fL Γ Q (cln v) s') (.ref acc) C (.ok .next) s':=by
  intro o ys τ W s' hI R'
  have dn:=hu C o acc _ _ (done acc ys ⟨W,τ⟩ hI)
  cases use with
  |Ae=>exact jD (P:=λs'=>fL Γ Q (cln (.ref acc)) s') R' λs'' R''=>⟨_,R'',dn⟩
  |Ad u=>exact dn.elim R' λ_ s₅ σ₅ R₅ q=>q.casesOn λW' τ' o' le i=>jD (P:=λs'=>fL Γ Q .none s') (le Γ s₅ R₅) λs'' R''=>⟨_,R'',i⟩
 have loop:∀s₃,Eg Γ ⟨W,ρ++Te m cE C Ae ((.obj acc,.list [])::τ)⟩ s₃->Kg (Ci Γ.prog Γ.w) A (.compLoop (.ListComp elt [⟨.Name x xp,iter,ifs,0⟩] scope pos) 0 (.ref it) (.ref acc) (Lp scope cl₀ C env))
   (compPost (Ci Γ.prog Γ.w) A (λ_ _=>False) use (λv s'=>fL Γ Q (cln v) s') (.ref acc) C) s₃:=by
  intro s₃ Re
  refine codeAny_compLoop_tests (yQ Γ A m cE C acc it G I vs) ?_ vs.length ⟨[],vs,ρ,[],Ae,W,τ,Re,g.f,h0,rfl,rfl⟩ (ht _)
  intro n s' ⟨d,r,ρ,ys,o,W,τ,R',Y',hI,he,hn⟩
  subst hn
  have hG':G ⟨W,Te m cE C o ((.obj acc,.list ys)::τ)⟩:=by
   have:=hG d ys _ ((.obj C,.fr (m o))::(cE C o++[(.obj acc,.list ys)])) hI
   simpa using this
  cases r with
  |nil=>exact Y'.stop hG' R' λs₁ R₁=>fin o ys τ W s₁ (by rw [<-he,Cr];exact hI) R₁
  |cons v r=>
   refine Y'.more hG' R' λu ρ' s₁ hu' R₁ _ Y''=>?_
   have nx:∀{s₃ ys' W τ o},Eg Γ ⟨W,ρ'++Te m cE C o ((.obj acc,.list ys')::τ)⟩ s₃->I (d++[v]) ys' ⟨W,τ⟩->∃k,k < (v::r).length/\yQ Γ A m cE C acc it G I vs k s₃:=
    λR hI=>⟨r.length,Nat.lt_succ_self _,d++[v],r,ρ',_,_,_,_,R,Y'',hI,by rw [<-he,Ba];rfl,rfl⟩
   refine(tgt C u o W ρ' _).to R₁ λ_ s₂ R₂=>?_
   rw [hu']at R₂
   refine(turn C acc d v r ρ' ys _ he hI).elim R₂ λb s₃ σ₃ R₃ q₃=>?_
   cases b with
   |false=>exact(q₃.2 rfl).casesOn λW τ o le i=>nx (le Γ s₃ R₃) i
   |true=>exact(q₃.1 rfl).elim R₃ λy s₄ σ₄ R₄ q₄=>q₄.casesOn λW τ o le i=>vE (hz _ _ _ hI) (le Γ s₄ R₄) λv s' R'=>nx R' i
 exact codeAny_compStart_list (loop s₃ Re) ((slf _ _).ref Re loop)
theorem rD {y:Str} {py:Pos} {Q:Ga->Bc->Prop} (hk:env.scope.kind=.function) (hl:env.kindOf y=Ad .local):∀C o acc W τ,kY (.var env.locals y) .val Q (.ref acc) ⟨W,τ⟩->match Ad (Ir (.Name y py) env)with|Ae=>(Q .next) ⟨W,τ⟩|Ad u=>T Γ A ⟨W,Te m cE C o τ⟩ (u (.ref acc)) λ_=>Vl [] (Te m cE C) (Q .next):=λC o acc W τ ⟨ov,σ',U,q⟩=>by
 refine Cx (v:=.ref acc) (ov:=ov) (σ':=⟨σ'.W,Te m cE C o σ'.τ⟩) rfl ?_ ⟨σ'.W,σ'.τ,o,Av.le_refl _,q⟩ hk hl
 cases U with
 |tau h=>exact .tau (.there (h.prepend _))
 |wld h=>exact .wld h
theorem qZ {y:Str} {py pos spos:Pos} {elt:At} {gs:List Comprehension} {Q:Ga->Bc->Prop} (hsw:Lz (.ListComp elt gs scope pos) (Ad (.Name y py)) spos.line env=Et true)
  (h:T Γ A σ (comprehension (.ListComp elt gs scope pos) scope env (firstIterPos gs pos) (newList []) (firstAsync gs) (firstIter gs env) (Ad (Ir (.Name y py) env))) (PVU Q)):T Γ A σ (Ni (.Assign [.Name y py] (.ListComp elt gs scope pos) spos) env) Q:=by
 rw [exec_Assign_Name_used _ _ _ _ hsw]
 exact λs R=>Af (Ev (Af (Af (h.elim R λv s' σ' R' q=>Ax (Ax ⟨σ',R',q⟩)))))
end
end
end
section
section
variable {K:Type} [DecidableEq K]
noncomputable def nU (p:K×Ab):K×Ab:=(p.1,cl p.2)
theorem Pn (k:K):∀kvs:List (K×Ab),(Fq kvs k).map cl=Fq (kvs.map nU) k
 |[]=>rfl
 |(a,v)::r=>by
  have ih:=Pn k r
  unfold Fq at ih ⊢
  simp only [Ck,Ho,nU]
  by_cases h:a=k
  ·simp [h]
  ·simpa [h,nU]using ih
theorem pH (k:K) (v:Ab) (kvs:List (K×Ab)):(Lr kvs k v).map nU=Lr (kvs.map nU) k (cl v):=by
 unfold Lr
 have e:(kvs.map nU).any (λkv=>decide (kv.1=k))=kvs.any λkv=>decide (kv.1=k):=by
  rw [List.any_map];rfl
 rw [e]
 split
 ·rw [Ei,Ei]
  apply Gk
  intro p _
  simp only [Function.comp,nU]
  split<;>simp [*]
 ·simp [nU]
theorem lL (k:K) (kvs:List (K×Ab)):(without kvs k).map nU=without (kvs.map nU) k:=by
 unfold without
 rw [Kl]
 rfl
end
section
variable {Γ:Bm} {A:Az} {σ σ':Bc} {s s':Be} {env:Env}
theorem Sa {d:Am} {es:List (Int×Ab)} (R:Eg Γ σ s) (hm:(.obj d,.idict es)∈σ.all):∃kvs,s.heap.DictOf (intKind Γ.prog Γ.w) d kvs/\kvs.map nU=es/\(d==sysModules)=false:=by
 obtain⟨kvs,h,e⟩:=(R.ents _ hm).1
 have h3:=(R.above3 hm (b:=d) rfl).2
 refine⟨kvs,h,e,?_⟩
 rw [beq_eq_false_iff_ne]
 rintro rfl
 exact absurd h3 (by decide)
theorem yC (Γ:Bm) (k:Int) (t:Tok):(intKind Γ.prog Γ.w).is k (.int k t)=true:=by simp [intKind,Ab.isInt]
theorem rT {u v:Ab} {k:Int} {d:Am} {es:List (Int×Ab)} {Q:Ab->Bc->Prop} (hu:cl u=.int k 0) (hv:cl v=.ref d) (hm:(.obj d,.idict es)∈σ.all) (h:Q (.bool (Fq es k).isSome) σ):T Γ A σ (El .In u v) Q:=λs R=>by
 obtain⟨t,rfl⟩:=Fb hu
 have:=Ch hv
 subst this
 obtain⟨kvs,D,rfl,lo⟩:=Sa R hm
 refine wpAny_in_of (yC Γ k t) lo D.mapOf ⟨σ,R.toks _,?_⟩
 rw [<-Pn,Option.isSome_map]at h
 exact h
theorem fJ {k:Int} {d:Am} {es:List (Int×Ab)} {Q:Ab->Bc->Prop} (hm:(.obj d,.idict es)∈σ.all) (h:Q (.bool (Fq es k).isSome) σ):P2 Γ A (El .In) Q (.int k 0) (.ref d) σ:=λ_ _ hu hv=>rT (hu:=hu) (hv:=hv) (hm:=hm) (h:=h)
theorem gO {u v:Ab} {k:Int} {d:Am} {es:List (Int×Ab)} {Q:Ab->Bc->Prop} (hu:cl u=.int k 0) (hv:cl v=.ref d) (hm:(.obj d,.idict es)∈σ.all) (h:Q (.bool (!(Fq es k).isSome)) σ):T Γ A σ (El .NotIn u v) Q:=λs R=>by
 obtain⟨t,rfl⟩:=Fb hu
 have:=Ch hv
 subst this
 obtain⟨kvs,D,rfl,lo⟩:=Sa R hm
 refine wpAny_notIn_of (yC Γ k t) lo D.mapOf ⟨σ,R.toks _,?_⟩
 rw [<-Pn,Option.isSome_map]at h
 exact h
theorem Xu {k:Int} {d:Am} {es:List (Int×Ab)} {Q:Ab->Bc->Prop} (hm:(.obj d,.idict es)∈σ.all) (h:Q (.bool (!(Fq es k).isSome)) σ):P2 Γ A (El .NotIn) Q (.int k 0) (.ref d) σ:=λ_ _ hu hv=>gO (hu:=hu) (hv:=hv) (hm:=hm) (h:=h)
theorem kL {value slice:At} {o i v:Ab} {k:Int} {d:Am} {es:List (Int×Ab)} {Q:Ab->Bc->Prop} (ho:cl o=.ref d) (hi:cl i=.int k 0) (hm:(.obj d,.idict es)∈σ.all) (hv:Fq es k=Ad v) (h:Q v σ)
  (hs:autoParam (∀t,Jr slice false (.ref d) (.int k t)=operate [.ref d,.int k t] (getItem (.ref d) (.int k t))) aU) (hg:autoParam (∀r,Gp value (.ref d) r=Et ()) aU):
  T Γ A σ (Gg value slice o i) Q:=λs R=>by
 obtain⟨t,rfl⟩:=Fb hi
 have:=Ch ho
 subst this
 obtain⟨kvs,D,rfl,lo⟩:=Sa R hm
 rw [<-Pn,Db]at hv
 obtain⟨u,hu,rfl⟩:=hv
 exact subscriptTail_builtin D.typeIs slot_dict_getitem.lookup (wpAny_getItem_of (yC Γ k t) D.mapOf hu ⟨σ,R.toks _,h⟩) (hs t) hg
theorem Td {value slice:At} {v:Ab} {k:Int} {d:Am} {es:List (Int×Ab)} {Q:Ab->Bc->Prop} (hm:(.obj d,.idict es)∈σ.all) (hv:Fq es k=Ad v) (h:Q v σ) (hs:autoParam (∀t,Jr slice false (.ref d) (.int k t)=operate [.ref d,.int k t] (getItem (.ref d) (.int k t))) aU) (hg:autoParam (∀r,Gp value (.ref d) r=Et ()) aU):P2 Γ A (Gg value slice) Q (.ref d) (.int k 0) σ:=λ_ _ ho hi=>kL (ho:=ho) (hi:=hi) (hm:=hm) (hv:=hv) (h:=h) (hs:=hs) (hg:=hg)
theorem Qr {o i u v:Ab} {k:Int} {d:Am} {es:List (Int×Ab)} {Q:Unit->Bc->Prop} (ho:cl o=.ref d) (hi:cl i=.int k 0) (hu:cl u=v) (U:Jf σ (.obj d) (.idict es) (.idict (Lr es k v)) σ') (hz:es.length<=Gn) (h:Q () σ'):
  T Γ A σ (setItem o i u) Q:=λs R=>by
 obtain⟨t,rfl⟩:=Fb hi
 have:=Ch ho
 subst this
 subst hu
 obtain⟨kvs,D,rfl,lo⟩:=Sa R U.mem
 exact wpAny_setItem_pairs (yC Γ k t) D (λh' D' hs=>⟨σ',Eg.changeS (s':={s with heap:=h',toks:=s.toks+1}) R U rfl hs.extBut rfl rfl ⟨_,D',pH k u kvs⟩,h⟩) (by simpa using hz)
theorem cZ {o i:Ab} {k:Int} {d:Am} {es:List (Int×Ab)} {Q:Unit->Bc->Prop} (ho:cl o=.ref d) (hi:cl i=.int k 0) (hv:(Fq es k).isSome=true) (U:Jf σ (.obj d) (.idict es) (.idict (without es k)) σ') (hz:es.length<=Gn) (h:Q () σ'):
  T Γ A σ (delItem o i) Q:=λs R=>by
 obtain⟨t,rfl⟩:=Fb hi
 have:=Ch ho
 subst this
 obtain⟨kvs,D,rfl,lo⟩:=Sa R U.mem
 rw [<-Pn,Option.isSome_map]at hv
 exact wpAny_delItem_slot D.typeIs (by decide) PySem.F.slot_dict_delitem (call_meetsIn PySem.F.slot_dict_delitem D.typeIs PySem.F.entry_dict_delitem (PySem.F.args_dict_delitem_2 _ _) (meets_dict_delitem_pairs (intKind Γ.prog Γ.w) d (yC Γ k t))
  ⟨kvs,D,by simpa using hz,hv,λh' D' hs=>⟨σ',Eg.changeS (s':={s with heap:=h',toks:=s.toks+1}) R U rfl hs.extBut rfl rfl ⟨_,D',lL k kvs⟩,h⟩⟩)
theorem bJ {a:Am} {es:List (Int×Ab)} (hm:(.obj a,.idict es)∈σ.all):∀s,Eg Γ σ s->∃o,s.heap.get? a=Ad o/\o.cls=.type "dict" /\o.dict=Ae:=λs R=>
 let⟨_,⟨o,_,_,e,c,_⟩,_⟩:=(R.ents _ hm).1;⟨o,e,c.1,c.2.1⟩
theorem kM {ws:List Ab} {k:Int} {d:Am} {dv:Ab} {es:List (Int×Ab)} {Q:Ab->Bc->Prop} (hw:ws.map cl=[.ref d,.int k 0,dv]) (hm:(.obj d,.idict es)∈σ.all) (h:Q ((Fq es k).getD dv) σ):T Γ A σ (Iq (.builtin "dict.get") ws) Q:=λs R=>by
 obtain⟨w₀,w₁,w₂,rfl,e0,e1,e2⟩:=Vd hw
 have:=Ch e0
 subst this
 obtain⟨t,rfl⟩:=Fb e1
 obtain⟨kvs,D,rfl,lo⟩:=Sa R hm
 subst e2
 refine call_meetsIn PySem.F.slot_dict_get D.typeIs PySem.F.entry_dict_get (PySem.F.args_dict_get_3 _ _ _) (meets_dict_get_default (intKind Γ.prog Γ.w) d (yC Γ k t) lo w₂) ⟨_,D.mapOf,σ,R.toks _,?_⟩
 rw [<-Pn]at h
 show Q (cl ((Fq kvs k).getD w₂)) σ
 cases q:Fq kvs k with
 |Ae=>rw [q]at h;exact h
 |Ad u=>rw [q]at h;exact h
theorem kP {k:Int} {d:Am} {dv:Ab} {es:List (Int×Ab)} {Q:Ab->Bc->Prop} (hm:(.obj d,.idict es)∈σ.all) (h:Q ((Fq es k).getD dv) σ):Wn Γ A (.builtin "dict.get") [.ref d] Q [.int k 0,dv] σ:=λ_ hw=>kM (hw:=hw) (hm:=hm) (h:=h)
theorem gS {ws:List Ab} {d:Am} {es:List (Int×Ab)} {Q:Ab->Bc->Prop} (hw:ws.map cl=[.ref d]) (U:Jf σ (.obj d) (.idict es) (.idict []) σ') (hz:es.length<=Gn) (h:Q .none σ'):T Γ A σ (Iq (.builtin "dict.clear") ws) Q:=λs R=>by
 obtain⟨w₀,rfl,e0⟩:=Iz hw
 have:=Ch e0
 subst this
 obtain⟨kvs,D,rfl,lo⟩:=Sa R U.mem
 exact call_meetsIn PySem.F.slot_dict_clear D.typeIs PySem.F.entry_dict_clear (PySem.F.args_dict_clear_1 _) (meets_dict_clear (intKind Γ.prog Γ.w) d)
  ⟨kvs,D,by simpa using hz,λh' D' hs=>⟨σ',Eg.changeS (s':={s with heap:=h'}) R U rfl hs.extBut rfl rfl ⟨_,D',rfl⟩,h⟩⟩
theorem gV {d:Am} {es:List (Int×Ab)} {Q:Ab->Bc->Prop} (U:Jf σ (.obj d) (.idict es) (.idict []) σ') (hz:es.length<=Gn) (h:Q .none σ'):Wn Γ A (.builtin "dict.clear") [.ref d] Q [] σ:=λ_ hw=>gS (hw:=hw) (U:=U) (hz:=hz) (h:=h)
theorem dY {W τ:List Av} {ws:List Ab} {d:Am} {es:List (Int×Ab)} {Q:Ab->Bc->Prop} (hw:ws.map cl=[.ref d]) (hm:(.obj d,.idict es)∈(⟨W,τ⟩:Bc).all) (h:∀v,Q (.ref v) ⟨W,(.obj v,.vview d)::τ⟩):T Γ A ⟨W,τ⟩ (Iq (.builtin "dict.values") ws) Q:=λs R=>by
 obtain⟨w₀,rfl,e0⟩:=Iz hw
 have:=Ch e0
 subst this
 obtain⟨kvs,D,rfl,lo⟩:=Sa R hm
 exact call_meetsIn PySem.F.slot_dict_values D.typeIs PySem.F.entry_dict_values (PySem.F.args_dict_values_1 _) (meets_dict_values (intKind Γ.prog Γ.w) d lo)
  ⟨⟨kvs,D⟩,_,R.push (c:=.vview d) (s':={s with heap:=s.heap.push _}) (λ_ _ e=>An _ e) rfl rfl ⟨_,Bj _ rfl,rfl,rfl⟩,h _⟩
theorem dZ {W τ:List Av} {d:Am} {es:List (Int×Ab)} {Q:Ab->Bc->Prop} (hm:(.obj d,.idict es)∈(⟨W,τ⟩:Bc).all) (h:∀v,Q (.ref v) ⟨W,(.obj v,.vview d)::τ⟩):Wn Γ A (.builtin "dict.values") [.ref d] Q [] ⟨W,τ⟩:=λ_ hw=>dY (hw:=hw) (hm:=hm) (h:=h)
theorem gR {value slice:At} {o i v:Ab} {k:Str} {d:Am} {es:List (Str×Ab)} {Q:Ab->Bc->Prop} (ho:cl o=.ref d) (hi:cl i=.str k 0) (hm:(.obj d,.sdict es)∈σ.all) (hv:Fq es k=Ad v) (h:Q v σ)
  (hs:autoParam (∀t,Jr slice false (.ref d) (.str k t)=operate [.ref d,.str k t] (getItem (.ref d) (.str k t))) aU) (hg:autoParam (∀r,Gp value (.ref d) r=Et ()) aU):
  T Γ A σ (Gg value slice o i) Q:=λs R=>by
 obtain⟨t,rfl⟩:=tB hi
 have:=Ch ho
 subst this
 obtain⟨kvs,D,e⟩:=(R.ents _ hm).1
 have e':kvs.map nU=es:=e
 subst e'
 rw [<-Pn,Db]at hv
 obtain⟨u,hu,rfl⟩:=hv
 exact subscriptTail_builtin D.typeIs slot_dict_getitem.lookup (wpAny_getItem_of (knd:=strKind Γ.prog Γ.w) (by simp [PySem.strKind,Ab.isStrOf]) D.mapOf hu ⟨σ,R.toks _,h⟩) (hs t) hg
theorem Ej {value slice:At} {v:Ab} {k:Str} {d:Am} {es:List (Str×Ab)} {Q:Ab->Bc->Prop} (hm:(.obj d,.sdict es)∈σ.all) (hv:Fq es k=Ad v) (h:Q v σ) (hs:autoParam (∀t,Jr slice false (.ref d) (.str k t)=operate [.ref d,.str k t] (getItem (.ref d) (.str k t))) aU) (hg:autoParam (∀r,Gp value (.ref d) r=Et ()) aU):P2 Γ A (Gg value slice) Q (.ref d) (.str k 0) σ:=λ_ _ ho hi=>gR (ho:=ho) (hi:=hi) (hm:=hm) (hv:=hv) (h:=h) (hs:=hs) (hg:=hg)
theorem fG {W τ:List Av} {Q:Ab->Bc->Prop} (h:∀a,Q (.ref a) ⟨W,(.obj a,.iset [])::τ⟩):∀ws,ws.map cl=[]->T Γ A ⟨W,τ⟩ (Iq (.type "set") ws) Q:=λws hw s R=>by
 have:=oN hw
 subst this
 refine call_set_0 λled=>⟨_,R.push (c:=.iset []) (s':={s with heap:=s.heap.push _}) (λ_ _ e=>An _ e) rfl rfl ?_,h _⟩
 refine⟨λ_=>false,0,⟨_,_,_,_,Bj _ rfl,⟨rfl,rfl,rfl⟩,rfl,λ_ he=>(by simp at he),λk=>(by simp),by decide,by cases led<;>decide,rfl⟩,Cb _,λ_=>rfl⟩
theorem fV {a:Am} {ks:List Int} (hm:(.obj a,.iset ks)∈σ.all):∀s,Eg Γ σ s->∃o,s.heap.get? a=Ad o/\o.cls=.type "set" /\o.dict=Ae:=λs R=>
 by obtain⟨_,_,⟨o,_,_,_,e,c,_⟩,_⟩:=(R.ents _ hm).1;exact⟨o,e,c.1,c.2.1⟩
theorem kH {u v:Ab} {k:Int} {a:Am} {ks:List Int} {Q:Ab->Bc->Prop} (hu:cl u=.int k 0) (hv:cl v=.ref a) (hm:(.obj a,.iset ks)∈σ.all) (h:Q (.bool (!ks.contains k)) σ):T Γ A σ (El .NotIn u v) Q:=λs R=>by
 obtain⟨t,rfl⟩:=Fb hu
 have:=Ch hv
 subst this
 obtain⟨S,n,D,_,e⟩:=(R.ents _ hm).1
 refine wpAny_notInSet_of (yC Γ k t) rfl D ⟨σ,R.toks _,?_⟩
 rw [e];exact h
theorem Uz {k:Int} {a:Am} {ks:List Int} {Q:Ab->Bc->Prop} (hm:(.obj a,.iset ks)∈σ.all) (h:Q (.bool (!ks.contains k)) σ):P2 Γ A (El .NotIn) Q (.int k 0) (.ref a) σ:=λ_ _ hu hv=>kH (hu:=hu) (hv:=hv) (hm:=hm) (h:=h)
theorem rK {ws:List Ab} {k:Int} {a:Am} {ks:List Int} {Q:Ab->Bc->Prop} (hw:ws.map cl=[.ref a,.int k 0]) (U:Jf σ (.obj a) (.iset ks) (.iset (ks++[k])) σ') (hz:ks.length+1 < scanBound) (h:Q .none σ'):T Γ A σ (Iq (.builtin "set.add") ws) Q:=λs R=>by
 obtain⟨w₀,w₁,rfl,e0,e1⟩:=Kf hw
 have:=Ch e0
 subst this
 obtain⟨t,rfl⟩:=Fb e1
 obtain⟨S,n,D,hn,e⟩:=(R.ents _ U.mem).1
 refine call_set_add (yC Γ k t) rfl D (by lia) λh' hs D'=>⟨σ',Eg.changeS (s':={s with heap:=h',toks:=s.toks+1}) R U rfl hs.extBut rfl rfl ⟨_,_,D',?_,λk'=>?_⟩,h⟩
 ·simp only [Aj,Fy,List.length_nil]
  split<;>lia
 ·rw [e]
  simp [Bool.or_comm,eq_comm]
theorem Yu {k:Int} {a:Am} {ks:List Int} {Q:Ab->Bc->Prop} (U:Jf σ (.obj a) (.iset ks) (.iset (ks++[k])) σ') (hz:ks.length+1 < scanBound) (h:Q .none σ'):Wn Γ A (.builtin "set.add") [.ref a] Q [.int k 0] σ:=λ_ hw=>rK (hw:=hw) (U:=U) (hz:=hz) (h:=h)
end
end
section
theorem Hk {ws:Array Ab} {vs:List Ab} (h:ws.toList.map cl=vs) {i:Nat} {v:Ab} (hv:vs[i]? =Ad v):∃u,ws[i]? =Ad u/\cl u=v:=getElem?_map_cl h hv
theorem Ct {ws:Array Ab} {vs:List Ab} (h:ws.toList.map cl=vs):ws.size=vs.length:=by subst h;simp
section
variable {Γ:Bm} {A:Az} {σ σ':Bc} {s s':Be} {env:Env}
noncomputable def dG (Γ:Bm) (σ:Bc) (a:Am) (vs:List Ab):Prop:=∀s,Eg Γ σ s->∃ws n,IsL s.heap a ws n/\ws.toList.map cl=vs
theorem dG.of_mem {a:Am} {vs:List Ab} (hm:(.obj a,.list vs)∈σ.all):dG Γ σ a vs:=λ_ R=>(R.ents _ hm).1
noncomputable def dF (Γ:Bm) (a:Am) (vs:List Ab):Prop:=∃ws n,Γ.h₁.get? a=Ad (listOf ws n)/\ws.toList.map cl=vs
theorem dF.has {a:Am} {vs:List Ab} (h:dF Γ a vs):dG Γ σ a vs:=λ_ R=>let⟨ws,n,e,k⟩:=h;⟨ws,n,R.old.get_of_cls e (λq=>nomatch q),k⟩
theorem Ie {a:Am} {vs:List Ab} (R:Eg Γ σ s) (hm:(.obj a,.list vs)∈σ.all):∃ws n,IsL s.heap a ws n/\ws.toList.map cl=vs:=(R.ents _ hm).1
theorem kJ {value slice:At} {o i v:Ab} {k:Int} {a:Am} {vs:List Ab} {Q:Ab->Bc->Prop} (ho:cl o=.ref a) (hi:cl i=.int k 0) (hm:dG Γ σ a vs) (h0:0<=k) (hf:k < 2 ^ 63) (hv:vs[k.toNat]? =Ad v) (h:Q v σ)
  (hs:autoParam (∀t,Jr slice false (.ref a) (.int k t)=operate [.ref a,.int k t] (getItem (.ref a) (.int k t))) aU) (hg:autoParam (∀r,Gp value (.ref a) r=Et ()) aU):
  T Γ A σ (Gg value slice o i) Q:=λs R=>by
 obtain⟨t,rfl⟩:=Fb hi
 have:=Ch ho
 subst this
 obtain⟨ws,n,L,e⟩:=hm s R
 obtain⟨u,hu,rfl⟩:=Hk e hv
 exact item_list L.isList h0 hf hu ⟨σ,R,h⟩ (hs t) hg
theorem Ud {value slice:At} {v:Ab} {k:Int} {a:Am} {vs:List Ab} {Q:Ab->Bc->Prop} (hm:dG Γ σ a vs) (h0:0<=k) (hf:k < 2 ^ 63) (hv:vs[k.toNat]? =Ad v) (h:Q v σ) (hs:autoParam (∀t,Jr slice false (.ref a) (.int k t)=operate [.ref a,.int k t] (getItem (.ref a) (.int k t))) aU) (hg:autoParam (∀r,Gp value (.ref a) r=Et ()) aU):P2 Γ A (Gg value slice) Q (.ref a) (.int k 0) σ:=λ_ _ ho hi=>kJ (ho:=ho) (hi:=hi) (hm:=hm) (h0:=h0) (hf:=hf) (hv:=hv) (h:=h) (hs:=hs) (hg:=hg)
theorem Cp {value slice:At} {v:Ab} {k:Int} {a:Am} {vs:List Ab} {Q:Ab->Bc->Prop} (hm:(.obj a,.list vs)∈σ.all) (h0:0<=k) (hf:k < 2 ^ 63) (hv:vs[k.toNat]? =Ad v) (h:Q v σ) (hs:autoParam (∀t,Jr slice false (.ref a) (.int k t)=operate [.ref a,.int k t] (getItem (.ref a) (.int k t))) aU) (hg:autoParam (∀r,Gp value (.ref a) r=Et ()) aU):P2 Γ A (Gg value slice) Q (.ref a) (.int k 0) σ:=Ud (.of_mem hm) h0 hf hv h hs hg
theorem Zb {value slice:At} {o i v:Ab} {a:Am} {vs:List Ab} {Q:Ab->Bc->Prop} (ho:cl o=.ref a) (hi:cl i=.int (-1) 0) (hm:(.obj a,.list (vs++[v]))∈σ.all) (hz:vs.length < 1000000) (h:Q v σ)
  (hs:autoParam (∀t,Jr slice false (.ref a) (.int (-1) t)=operate [.ref a,.int (-1) t] (getItem (.ref a) (.int (-1) t))) aU) (hg:autoParam (∀r,Gp value (.ref a) r=Et ()) aU):
  T Γ A σ (Gg value slice o i) Q:=λs R=>by
 obtain⟨t,rfl⟩:=Fb hi
 have:=Ch ho
 subst this
 obtain⟨ws,n,L,e⟩:=Ie R hm
 have hz':ws.size=vs.length+1:=by rw [Ct e];simp
 obtain⟨u,hu,rfl⟩:=Hk (i:=vs.length) (v:=v) e (by simp)
 refine subscriptTail_builtin L.isList.typeIs slot_list_getitem.lookup (wpAny_getItem_list_neg L.isList (by decide) (by lia) (by decide) (x:=u) ?_ ⟨σ,R,h⟩) (hs t) hg
 rw [<-hu]
 congr 1
 lia
theorem Zc {value slice:At} {v:Ab} {a:Am} {vs:List Ab} {Q:Ab->Bc->Prop} (hm:(.obj a,.list (vs++[v]))∈σ.all) (hz:vs.length < 1000000) (h:Q v σ) (hs:autoParam (∀t,Jr slice false (.ref a) (.int (-1) t)=operate [.ref a,.int (-1) t] (getItem (.ref a) (.int (-1) t))) aU) (hg:autoParam (∀r,Gp value (.ref a) r=Et ()) aU):P2 Γ A (Gg value slice) Q (.ref a) (.int (-1) 0) σ:=λ_ _ ho hi=>Zb (ho:=ho) (hi:=hi) (hm:=hm) (hz:=hz) (h:=h) (hs:=hs) (hg:=hg)
theorem nL {value slice:At} {o i v:Ab} {k:Int} {a:Am} {vs:List Ab} {Q:Ab->Bc->Prop} (ho:cl o=.ref a) (hi:cl i=.int k 0) (hm:Fc Γ σ a vs) (h0:0<=k) (hf:k < 2 ^ 63) (hv:vs[k.toNat]? =Ad v) (h:Q v σ)
  (hs:autoParam (∀t,Jr slice false (.ref a) (.int k t)=operate [.ref a,.int k t] (getItem (.ref a) (.int k t))) aU) (hg:autoParam (∀r,Gp value (.ref a) r=Et ()) aU):
  T Γ A σ (Gg value slice o i) Q:=λs R=>by
 obtain⟨t,rfl⟩:=Fb hi
 have:=Ch ho
 subst this
 obtain⟨ws,n,L,e⟩:=hm s R
 obtain⟨u,hu,rfl⟩:=Hk e hv
 have hlt:k.toNat < ws.size:=(Ob.mp hu).1
 have hj:seqIndex? k ws.size=Ad k.toNat:=by
  unfold seqIndex?
  have h1:¬k < 0:=by lia
  have h2:k < (ws.size:Int):=by lia
  simp [h1,h2]
  try lia
 exact item_tuple ⟨_,L,rfl,n,rfl⟩ (by lia) hf hj hu ⟨σ,R,h⟩ (hs t) hg
theorem Wf {value slice:At} {v:Ab} {k:Int} {a:Am} {vs:List Ab} {Q:Ab->Bc->Prop} (hm:Fc Γ σ a vs) (h0:0<=k) (hf:k < 2 ^ 63) (hv:vs[k.toNat]? =Ad v) (h:Q v σ) (hs:autoParam (∀t,Jr slice false (.ref a) (.int k t)=operate [.ref a,.int k t] (getItem (.ref a) (.int k t))) aU) (hg:autoParam (∀r,Gp value (.ref a) r=Et ()) aU):P2 Γ A (Gg value slice) Q (.ref a) (.int k 0) σ:=λ_ _ ho hi=>nL (ho:=ho) (hi:=hi) (hm:=hm) (h0:=h0) (hf:=hf) (hv:=hv) (h:=h) (hs:=hs) (hg:=hg)
theorem nJ {ws:List Ab} {a:Am} {vs:List Ab} {Q:Ab->Bc->Prop} (hw:ws.map cl=[.ref a]) (hm:dG Γ σ a vs) (hz:vs.length<=1000000) (h:Q (.int vs.length 0) σ):T Γ A σ (Iq (.builtin "len") ws) Q:=λs R=>by
 obtain⟨w₀,rfl,e0⟩:=Iz hw
 have:=Ch e0
 subst this
 obtain⟨us,n,L,e⟩:=hm s R
 have hz':=Ct e
 refine len_list L.isList (by lia) ⟨σ,R.toks _,?_⟩
 rw [hz'];exact h
theorem Yw {a:Am} {vs:List Ab} {Q:Ab->Bc->Prop} (hm:dG Γ σ a vs) (hz:vs.length<=1000000) (h:Q (.int vs.length 0) σ):kZ Γ A (.builtin "len") Q [.ref a] σ:=λ_ hw=>nJ (hw:=hw) (hm:=hm) (hz:=hz) (h:=h)
theorem Hq {a:Am} {vs:List Ab} {Q:Ab->Bc->Prop} (hm:(.obj a,.list vs)∈σ.all) (hz:vs.length<=1000000) (h:Q (.int vs.length 0) σ):kZ Γ A (.builtin "len") Q [.ref a] σ:=Yw (.of_mem hm) hz h
theorem rN {ws:List Ab} {a:Am} {vs:List Ab} {Q:Ab->Bc->Prop} (hw:ws.map cl=[.ref a]) (hm:Fc Γ σ a vs) (hz:vs.length<=1000000) (h:Q (.int vs.length 0) σ):T Γ A σ (Iq (.builtin "len") ws) Q:=λs R=>by
 obtain⟨w₀,rfl,e0⟩:=Iz hw
 have:=Ch e0
 subst this
 obtain⟨us,n,L,e⟩:=hm s R
 have hz':=Ct e
 refine PyProof.Rows.len_tuple ⟨_,L,rfl,n,rfl⟩ (by lia) ⟨σ,R.toks _,?_⟩
 rw [hz'];exact h
theorem rW {a:Am} {vs:List Ab} {Q:Ab->Bc->Prop} (hm:Fc Γ σ a vs) (hz:vs.length<=1000000) (h:Q (.int vs.length 0) σ):kZ Γ A (.builtin "len") Q [.ref a] σ:=λ_ hw=>rN (hw:=hw) (hm:=hm) (hz:=hz) (h:=h)
theorem Vr {v:Ab} {a:Am} {vs:List Ab} {Q:Bool->Bc->Prop} (hv:cl v=.ref a) (hm:dG Γ σ a vs) (hz:vs.length<=1000000) (h:Q (!vs.isEmpty) σ):T Γ A σ (Pl v) Q:=λs R=>by
 have:=Ch hv
 subst this
 obtain⟨us,n,L,e⟩:=hm s R
 have hz':=Ct e
 refine wpAny_truthy_list L.isList (by lia) ⟨σ,R.toks _,?_⟩
 have:us.isEmpty=vs.isEmpty:=by
  cases vs with
  |nil=>simp at hz';simp [hz']
  |cons x r=>
   have:us.size≠0:=by rw [hz'];simp
   simp [Array.isEmpty,this]
 show Q (!us.isEmpty) σ
 rw [this];exact h
theorem Xr {a:Am} {vs:List Ab} {Q:Bool->Bc->Prop} (hm:dG Γ σ a vs) (hz:vs.length<=1000000) (h:Q (!vs.isEmpty) σ):P1 Γ A Pl Q (.ref a) σ:=λ_ hv=>Vr (hv:=hv) (hm:=hm) (hz:=hz) (h:=h)
theorem Pa {a:Am} {vs:List Ab} {Q:Bool->Bc->Prop} (hm:(.obj a,.list vs)∈σ.all) (hz:vs.length<=1000000) (h:Q (!vs.isEmpty) σ):P1 Γ A Pl Q (.ref a) σ:=Xr (.of_mem hm) hz h
theorem Rf {v:Ab} {b:Bool} {Q:Bool->Bc->Prop} (hv:cl v=.bool b) (h:Q b σ):T Γ A σ (Pl v) Q:=λs R=>by
 have:=gC hv
 subst this
 exact wpAny_truthy_bool ⟨σ,R,h⟩
theorem Fi {b:Bool} {Q:Bool->Bc->Prop} (h:Q b σ):P1 Γ A Pl Q (.bool b) σ:=λ_ hv=>Rf (hv:=hv) (h:=h)
theorem dP {v:Ab} {Q:Bool->Bc->Prop} (hv:cl v=.none) (h:Q false σ):T Γ A σ (Pl v) Q:=λs R=>by
 have:=Tw hv
 subst this
 exact truthy_none ⟨σ,R,h⟩
theorem gM {v:Ab} {k:Int} {Q:Bool->Bc->Prop} (hv:cl v=.int k 0) (h:Q (k != 0) σ):T Γ A σ (Pl v) Q:=λs R=>by
 obtain⟨t,rfl⟩:=Fb hv
 exact PyProof.Rows.truthy_int ⟨σ,R,h⟩
theorem Xs {k:Int} {Q:Bool->Bc->Prop} (h:Q (k != 0) σ):P1 Γ A Pl Q (.int k 0) σ:=λ_ hv=>gM (hv:=hv) (h:=h)
theorem rR {ws:List Ab} {a:Am} {v:Ab} {vs:List Ab} {Q:Ab->Bc->Prop} (hw:ws.map cl=[.ref a,.int 0 0,v]) (U:Jf σ (.obj a) (.list vs) (.list (v::vs)) σ') (hz:vs.length<=Gn) (h:Q .none σ'):T Γ A σ (Iq (.builtin "list.insert") ws) Q:=λs R=>by
 obtain⟨w₀,w₁,w₂,rfl,e0,e1,e2⟩:=Vd hw
 have:=Ch e0
 subst this
 obtain⟨t,rfl⟩:=Fb e1
 obtain⟨us,n,L,e⟩:=Ie R U.mem
 have hz':=Ct e
 refine call_meets PySem.F.slot_list_insert ⟨_,L,rfl⟩ PySem.F.entry_list_insert (PySem.F.args_list_insert_3 _ _ _) (AutoSeq1.list_insert_list_int_val_1 a us n 0 t w₂ (by decide) (by lia))
  ⟨L,σ',Eg.changeS (s':={s with heap:=s.heap.update a _}) R U rfl (Dk ..).extBut rfl rfl ⟨_,_,L.update _,?_⟩,h⟩
 simp [e,e2]
theorem rY {a:Am} {v:Ab} {vs:List Ab} {Q:Ab->Bc->Prop} (U:Jf σ (.obj a) (.list vs) (.list (v::vs)) σ') (hz:vs.length<=Gn) (h:Q .none σ'):Wn Γ A (.builtin "list.insert") [.ref a] Q [.int 0 0,v] σ:=λ_ hw=>rR (hw:=hw) (U:=U) (hz:=hz) (h:=h)
theorem vL {ws:List Ab} {a b:Am} {vs us:List Ab} {Q:Ab->Bc->Prop} (hw:ws.map cl=[.ref a,.ref b]) (hb:(.obj b,.list us)∈σ.all) (U:Jf σ (.obj a) (.list vs) (.list (vs++us)) σ') (hz:vs.length+us.length<=1000000) (h:Q .none σ'):T Γ A σ (Iq (.builtin "list.extend") ws) Q:=λs R=>by
 obtain⟨w₀,w₁,rfl,e0,e1⟩:=Kf hw
 have:=Ch e0
 subst this
 have:=Ch e1
 subst this
 obtain⟨xs,n,L,e⟩:=Ie R U.mem
 obtain⟨ys,n2,L2,e2⟩:=Ie R hb
 have hz1:=Ct e
 have hz2:=Ct e2
 have hs:xs.size+ys.size<=Gn:=by rw [Ay];lia
 refine call_meets Pb ⟨_,L,rfl⟩ PySem.F.entry_list_extend (PySem.F.args_list_extend_2 _ _) (AutoSeq1.list_extend_list_list_0 a xs n b ys n2 (extend_door hs) (by lia) (by lia))
  ⟨L,L2,σ',Eg.changeS (s':={s with heap:=s.heap.update a _}) R U rfl (Dk ..).extBut rfl rfl ⟨_,_,L.update _,?_⟩,h⟩
 simp [e,e2]
theorem jJ {a b:Am} {vs us:List Ab} {Q:Ab->Bc->Prop} (hb:(.obj b,.list us)∈σ.all) (U:Jf σ (.obj a) (.list vs) (.list (vs++us)) σ') (hz:vs.length+us.length<=1000000) (h:Q .none σ'):Wn Γ A (.builtin "list.extend") [.ref a] Q [.ref b] σ:=λ_ hw=>vL (hw:=hw) (hb:=hb) (U:=U) (hz:=hz) (h:=h)
theorem Xe {W τ:List Av} {u v:Ab} {a b:Am} {vs us:List Ab} {Q:Ab->Bc->Prop} (hu:cl u=.ref a) (hv:cl v=.ref b) (ha:(.obj a,.list vs)∈(⟨W,τ⟩:Bc).all) (hb:(.obj b,.list us)∈(⟨W,τ⟩:Bc).all) (hz:vs.length+us.length<=1000000) (h:∀r,Q (.ref r) ⟨W,(.obj r,.list (vs++us))::τ⟩):
  T Γ A ⟨W,τ⟩ (Ou .Add u v) Q:=λs R=>by
 have:=Ch hu
 subst this
 have:=Ch hv
 subst this
 obtain⟨xs,n,L,e⟩:=Ie R ha
 obtain⟨ys,n2,L2,e2⟩:=Ie R hb
 have hz1:=Ct e
 have hz2:=Ct e2
 refine P.add_list L L2 ⟨_,R.push (c:=.list (vs++us)) (s':={s with heap:=s.heap.push _}) (λ_ _ e=>An _ e) rfl rfl ⟨_,0,Bj _ rfl,?_⟩,h _⟩ (by rw [Ay];lia)
 simp [e,e2]
theorem Xg {W τ:List Av} {a b:Am} {vs us:List Ab} {Q:Ab->Bc->Prop} (ha:(.obj a,.list vs)∈(⟨W,τ⟩:Bc).all) (hb:(.obj b,.list us)∈(⟨W,τ⟩:Bc).all) (hz:vs.length+us.length<=1000000) (h:∀r,Q (.ref r) ⟨W,(.obj r,.list (vs++us))::τ⟩):P2 Γ A (Ou .Add) Q (.ref a) (.ref b) ⟨W,τ⟩:=λ_ _ hu hv=>Xe (hu:=hu) (hv:=hv) (ha:=ha) (hb:=hb) (hz:=hz) (h:=h)
theorem Ow {W τ:List Av} {a:Am} {vs:List Ab} {Q:Ab->Bc->Prop} (hm:Fc Γ ⟨W,τ⟩ a vs) (hz:vs.length<=1000000) (h:∀r,Q (.ref r) ⟨W,(.obj r,.list vs)::τ⟩):∀ws,ws.map cl=[.ref a]->T Γ A ⟨W,τ⟩ (Iq (.type "list") ws) Q:=λws hw s R=>by
 obtain⟨w₀,rfl,e0⟩:=Iz hw
 have:=Ch e0
 subst this
 obtain⟨us,n,L,e⟩:=hm s R
 have hz':=Ct e
 exact call_list_seq a (.inr rfl) L rfl rfl (λh' c' keep hg=>⟨_,(R.grow (s':={s with heap:=h'}) keep rfl rfl).add (l:=.obj s.heap.objs.size) (c:=.list vs) ⟨us,c',hg,e⟩ R.freshTop (Jw (σ:=⟨W,τ⟩) (s:=s) rfl (λq hq=>(R.ents q hq).1) (Cb _)),h _⟩) (by rw [Ay];lia)
theorem Vc {W τ:List Av} {a:Am} {vs:List Ab} {Q:Ab->Bc->Prop} (hm:(.obj a,.list vs)∈(⟨W,τ⟩:Bc).all) (hz:vs.length<=1000000) (h:∀r,Q (.ref r) ⟨W,(.obj r,.list vs)::τ⟩):∀ws,ws.map cl=[.ref a]->T Γ A ⟨W,τ⟩ (Iq (.type "list") ws) Q:=λws hw s R=>by
 obtain⟨w₀,rfl,e0⟩:=Iz hw
 have:=Ch e0
 subst this
 obtain⟨us,n,L,e⟩:=Ie R hm
 have hz':=Ct e
 exact call_list_seq a (.inl rfl) L rfl rfl (λh' c' keep hg=>⟨_,(R.grow (s':={s with heap:=h'}) keep rfl rfl).add (l:=.obj s.heap.objs.size) (c:=.list vs) ⟨us,c',hg,e⟩ R.freshTop (Jw (σ:=⟨W,τ⟩) (s:=s) rfl (λq hq=>(R.ents q hq).1) (Cb _)),h _⟩) (by rw [Ay];lia)
theorem Fv {W τ:List Av} {a:Am} {vs:List Ab} {Q:Ab->Bc->Prop} (hm:(.obj a,.list vs)∈(⟨W,τ⟩:Bc).all) (hz:vs.length<=1000000) (h:∀r,Q (.ref r) ⟨W,(.obj r,.tup vs)::τ⟩):∀ws,ws.map cl=[.ref a]->T Γ A ⟨W,τ⟩ (Iq (.type "tuple") ws) Q:=λws hw s R=>by
 obtain⟨w₀,rfl,e0⟩:=Iz hw
 have:=Ch e0
 subst this
 obtain⟨us,n,L,e⟩:=Ie R hm
 have hz':=Ct e
 refine call_tuple_list L.isList (λh' keep=>?_) (by rw [Ay];lia)
 have R1:=R.grow (s':={s with heap:=h'}) keep rfl rfl
 exact⟨_,R1.push (c:=.tup vs) (s':={s with heap:=h'.push _}) (λ_ _ e=>An _ e) rfl rfl ⟨us,0,Bj _ rfl,e⟩,h _⟩
theorem Vb {a:Am} {vs:List Ab} {Q:Ab->Bc->Prop} (hm:Fc Γ σ a vs) (h:Q (.ref a) σ):∀ws,ws.map cl=[.ref a]->T Γ A σ (Iq (.type "tuple") ws) Q:=λws hw s R=>by
 obtain⟨w₀,rfl,e0⟩:=Iz hw
 have:=Ch e0
 subst this
 obtain⟨us,n,L,e⟩:=hm s R
 exact call_tuple_same ⟨_,L,rfl,n,rfl⟩ ⟨σ,R,h⟩
theorem rO {u v:Ab} {c:Ab} {Q:Ab->Bc->Prop} (hu:cl u=c) (hv:cl v=.none) (hc:plainIs c .none=true) (h:Q (.bool (c==.none)) σ):T Γ A σ (El .Is u v) Q:=λs R=>by
 have:=Tw hv
 subst this
 have e:(u==Dq)=(c==Dq):=by subst hu;cases u<;>rfl
 refine wpAny_is_plain ?_ ⟨σ,R,?_⟩
 ·subst hu;cases u<;>exact hc
 ·rw [e];exact h
theorem Qb {c:Ab} {Q:Ab->Bc->Prop} (hc:plainIs c .none=true) (h:Q (.bool (c==.none)) σ):P2 Γ A (El .Is) Q c .none σ:=λ_ _ hu hv=>rO (hu:=hu) (hv:=hv) (hc:=hc) (h:=h)
theorem Xq {u v:Ab} {c:Ab} {Q:Ab->Bc->Prop} (hu:cl u=c) (hv:cl v=.none) (hc:plainIs c .none=true) (h:Q (.bool (!(c==.none))) σ):T Γ A σ (El .IsNot u v) Q:=λs R=>by
 have:=Tw hv
 subst this
 have e:(u==Dq)=(c==Dq):=by subst hu;cases u<;>rfl
 refine wpAny_isNot_plain ?_ ⟨σ,R,?_⟩
 ·subst hu;cases u<;>exact hc
 ·rw [e];exact h
theorem Kz {c:Ab} {Q:Ab->Bc->Prop} (hc:plainIs c .none=true) (h:Q (.bool (!(c==.none))) σ):P2 Γ A (El .IsNot) Q c .none σ:=λ_ _ hu hv=>Xq (hu:=hu) (hv:=hv) (hc:=hc) (h:=h)
theorem vI {u v:Ab} {x y C d C' d':Am} {Q:Ab->Bc->Prop} (hu:cl u=.ref x) (hv:cl v=.ref y) (hx:(.obj x,.inst C d)∈σ.all) (hy:(.obj y,.inst C' d')∈σ.all) (h:Q (.bool (x==y)) σ):T Γ A σ (El .Is u v) Q:=λs R=>by
 have:=Ch hu
 subst this
 have:=Ch hv
 subst this
 by_cases e:x=y
 ·subst e
  rw [beq_self_eq_true]at h
  exact wpAny_is_ref_self ⟨σ,R,h⟩
 ·rw [beq_eq_false_iff_ne.mpr e]at h
  exact wpAny_is_ref_other e (R.ents _ hx).1 (R.ents _ hy).1 (by simp) ⟨σ,R,h⟩
theorem Xf {x y C d C' d':Am} {Q:Ab->Bc->Prop} (hx:(.obj x,.inst C d)∈σ.all) (hy:(.obj y,.inst C' d')∈σ.all) (h:Q (.bool (x==y)) σ):P2 Γ A (El .Is) Q (.ref x) (.ref y) σ:=λ_ _ hu hv=>vI (hu:=hu) (hv:=hv) (hx:=hx) (hy:=hy) (h:=h)
theorem Zr {u v:Ab} {x y C d C' d':Am} {Q:Ab->Bc->Prop} (hu:cl u=.ref x) (hv:cl v=.ref y) (hx:(.obj x,.inst C d)∈σ.all) (hy:(.obj y,.inst C' d')∈σ.all) (h:Q (.bool (!(x==y))) σ):T Γ A σ (El .IsNot u v) Q:=λs R=>by
 have:=Ch hu
 subst this
 have:=Ch hv
 subst this
 by_cases e:x=y
 ·subst e
  rw [beq_self_eq_true]at h
  exact wpAny_isNot_ref_self ⟨σ,R,h⟩
 ·rw [beq_eq_false_iff_ne.mpr e]at h
  exact wpAny_isNot_ref_other e (R.ents _ hx).1 (R.ents _ hy).1 (by simp) ⟨σ,R,h⟩
theorem Zt {x y C d C' d':Am} {Q:Ab->Bc->Prop} (hx:(.obj x,.inst C d)∈σ.all) (hy:(.obj y,.inst C' d')∈σ.all) (h:Q (.bool (!(x==y))) σ):P2 Γ A (El .IsNot) Q (.ref x) (.ref y) σ:=λ_ _ hu hv=>Zr (hu:=hu) (hv:=hv) (hx:=hx) (hy:=hy) (h:=h)
end
end
section
section
variable {Γ:Bm} {A:Az} {σ σ':Bc} {s s':Be} {env:Env}
theorem Zs {x:Str} {pos' pos:Pos} {op:Operator} {value:At} {old:Ab} {Q:Ga->Bc->Prop} (hm:(.var env.locals x,.val (Ad old))∈σ.all)
  (h:T Γ A σ (Dv value env) λc σ₁=>∀u v,cl u=old->cl v=c->T Γ A σ₁ (inplaceOp op u v) λr σ₂=>∃ov σ₃,Jf σ₂ (.var env.locals x) (.val ov) (.val (Ad r)) σ₃/\Q .next σ₃)
  (hk:autoParam (env.scope.kind=.function) aR) (hl:autoParam (env.kindOf x=Ad .local) aR):T Γ A σ (Ni (.AugAssign (.Name x pos') op value pos) env) Q:=λs R=>by
 obtain⟨M,N,e⟩:=(R.ents _ hm).1
 cases q:M x with
 |Ae=>rw [q]at e;cases e
 |Ad u=>
  rw [q]at e
  have eu:cl u=old:=Dl e
  refine wpAny_AugAssign_Name (wpAny_loadName_local hk hl N q (h.elim R λv _ _ R₁ q₁=>(q₁ u v eu rfl).elim R₁ λr _ _ R₂ ⟨_,_,U,q₂⟩=>(Rh (Q:=λ_=>Q .next) U q₂ hk hl).elim R₂ λ_ _ σ' R' q=>⟨σ',R',q⟩))
theorem oX {test:At} {body orelse:List Jy} {pos:Pos} {Q:Ga->Bc->Prop} (I:Nat->Bc->Prop) (n:Nat) (h0:I n σ)
  (turn:∀n σ,I n σ->T Γ A σ (isTrue test env (Dv test env)) λb σ₁=>
   (b=true->T Γ A σ₁ (Cs body env) λf σ₂=>match f with
    |.next|.cont=>∃m σ₃,m < n/\Av.le σ₃ σ₂/\I m σ₃
    |.brk=>Q .next σ₂
    |.ret v=>Q (.ret v) σ₂)/\(b=false->T Γ A σ₁ (Cs orelse env) Q)):T Γ A σ (Ni (.While test body orelse pos) env) Q:=λs R=>by
 refine wpAny_While (Jn (codeAny_whileLoop (R:=λr s'=>match r with|.ok f=>fL Γ Q (cln f) s'|.error _=>False) (λn s'=>fL Γ I n s') ?_ n ⟨σ,R,h0⟩) λr s' z=>by cases r with|ok f=>exact z|error e=>exact z.elim)
 rintro n s' ⟨σ',R',hI⟩
 refine Ec (turn n σ' hI s' R') (λb s₁ zz=>?_) λ_ _ x=>x.elim
 obtain⟨σ₁,R₁,q₁⟩:=zz
 cases b with
 |true=>
  refine Ec (q₁.1 rfl s₁ R₁) (λf s₂ zz=>?_) λ_ _ x=>x.elim
  obtain⟨σ₂,R₂,q₂⟩:=zz
  cases f with
  |next=>obtain⟨m,σ₃,hm,le,hI'⟩:=q₂;exact⟨m,hm,σ₃,le Γ s₂ R₂,hI'⟩
  |cont=>obtain⟨m,σ₃,hm,le,hI'⟩:=q₂;exact⟨m,hm,σ₃,le Γ s₂ R₂,hI'⟩
  |brk=>exact⟨σ₂,R₂,q₂⟩
  |ret v=>exact⟨σ₂,R₂,q₂⟩
 |false=>exact Ec (q₁.2 rfl s₁ R₁) (λf s₂ q=>q) λ_ _ x=>x.elim
theorem Agg {u v:Ab} {a b:Int} {Q:Ab->Bc->Prop} (hu:cl u=.int a 0) (hv:cl v=.int b 0) (h:Q (.int (a+b) 0) σ):T Γ A σ (Ou .Add u v) Q:=λs R=>by
 obtain⟨t,rfl⟩:=Fb hu
 obtain⟨t',rfl⟩:=Fb hv
 exact PyProof.Rows.add_int ⟨σ,R.toks _,h⟩
theorem Rl {a b:Int} {Q:Ab->Bc->Prop} (h:Q (.int (a+b) 0) σ):P2 Γ A (Ou .Add) Q (.int a 0) (.int b 0) σ:=λ_ _ hu hv=>Agg (hu:=hu) (hv:=hv) (h:=h)
theorem Aak {u v:Ab} {a b:Int} {Q:Ab->Bc->Prop} (hu:cl u=.int a 0) (hv:cl v=.int b 0) (h:Q (.int (a+b) 0) σ):T Γ A σ (inplaceOp .Add u v) Q:=λs R=>by
 obtain⟨t,rfl⟩:=Fb hu
 obtain⟨t',rfl⟩:=Fb hv
 exact PyProof.Rows.iadd_int ⟨σ,R.toks _,h⟩
theorem Aaj {u v:Ab} {a b:Int} {Q:Ab->Bc->Prop} (hu:cl u=.int a 0) (hv:cl v=.int b 0) (h:Q (.int (a - b) 0) σ):T Γ A σ (inplaceOp .Sub u v) Q:=λs R=>by
 obtain⟨t,rfl⟩:=Fb hu
 obtain⟨t',rfl⟩:=Fb hv
 exact PyProof.Rows.isub_int ⟨σ,R.toks _,h⟩
theorem Aga {u v:Ab} {a b:Int} {Q:Ab->Bc->Prop} (hu:cl u=.int a 0) (hv:cl v=.int b 0) (hb:b≠0) (h:Q (.int (a.fmod b) 0) σ):T Γ A σ (Ou .Mod u v) Q:=λs R=>by
 obtain⟨t,rfl⟩:=Fb hu
 obtain⟨t',rfl⟩:=Fb hv
 exact PyProof.Rows.mod_int hb ⟨σ,R.toks _,h⟩
theorem Vm {a b:Int} {Q:Ab->Bc->Prop} (hb:b≠0) (h:Q (.int (a.fmod b) 0) σ):P2 Γ A (Ou .Mod) Q (.int a 0) (.int b 0) σ:=λ_ _ hu hv=>Aga (hu:=hu) (hv:=hv) (hb:=hb) (h:=h)
theorem nQ {u v:Ab} {a b:Int} {Q:Ab->Bc->Prop} (hu:cl u=.int a 0) (hv:cl v=.int b 0) (hb:b≠0) (hs:b.natAbs < 1073741824) (h:Q (.int (a.fdiv b) 0) σ):T Γ A σ (Ou .FloorDiv u v) Q:=λs R=>by
 obtain⟨t,rfl⟩:=Fb hu
 obtain⟨t',rfl⟩:=Fb hv
 exact PyProof.Rows.floordiv_int hb ⟨σ,R.toks _,h⟩ (.inl (PyProof.noPylong_small hs))
theorem Nt {a b:Int} {Q:Ab->Bc->Prop} (hb:b≠0) (hs:b.natAbs < 1073741824) (h:Q (.int (a.fdiv b) 0) σ):P2 Γ A (Ou .FloorDiv) Q (.int a 0) (.int b 0) σ:=λ_ _ hu hv=>nQ (hu:=hu) (hv:=hv) (hb:=hb) (hs:=hs) (h:=h)
theorem Afj {u v:Ab} {a b:Int} {Q:Ab->Bc->Prop} (hu:cl u=.int a 0) (hv:cl v=.int b 0) (hb:0<=b) (hs:(Ee.Int.intBits a:Int) * b<=2 ^ 27) (h:Q (.int (a ^ b.toNat) 0) σ):T Γ A σ (Ou .Pow u v) Q:=λs R=>by
 obtain⟨t,rfl⟩:=Fb hu
 obtain⟨t',rfl⟩:=Fb hv
 exact PyProof.Rows.pow_int hb hs ⟨σ,R.toks _,h⟩
theorem sQ {a b:Int} {Q:Ab->Bc->Prop} (hb:0<=b) (hs:(Ee.Int.intBits a:Int) * b<=2 ^ 27) (h:Q (.int (a ^ b.toNat) 0) σ):P2 Γ A (Ou .Pow) Q (.int a 0) (.int b 0) σ:=λ_ _ hu hv=>Afj (hu:=hu) (hv:=hv) (hb:=hb) (hs:=hs) (h:=h)
theorem Aij {u v:Ab} {a b:Int} {Q:Ab->Bc->Prop} (hu:cl u=.int a 0) (hv:cl v=.int b 0) (h:Q (.bool (decide (a < b))) σ):T Γ A σ (El .Lt u v) Q:=λs R=>by
 obtain⟨t,rfl⟩:=Fb hu
 obtain⟨t',rfl⟩:=Fb hv
 exact PyProof.Rows.lt_int ⟨σ,R,h⟩
theorem vY {a b:Int} {Q:Ab->Bc->Prop} (h:Q (.bool (decide (a < b))) σ):P2 Γ A (El .Lt) Q (.int a 0) (.int b 0) σ:=λ_ _ hu hv=>Aij (hu:=hu) (hv:=hv) (h:=h)
theorem Aik {u v:Ab} {a b:Int} {Q:Ab->Bc->Prop} (hu:cl u=.int a 0) (hv:cl v=.int b 0) (h:Q (.bool (decide (b < a))) σ):T Γ A σ (El .Gt u v) Q:=λs R=>by
 obtain⟨t,rfl⟩:=Fb hu
 obtain⟨t',rfl⟩:=Fb hv
 exact PyProof.Rows.gt_int ⟨σ,R,h⟩
theorem Aea {a b:Int} {Q:Ab->Bc->Prop} (h:Q (.bool (decide (b < a))) σ):P2 Γ A (El .Gt) Q (.int a 0) (.int b 0) σ:=λ_ _ hu hv=>Aik (hu:=hu) (hv:=hv) (h:=h)
theorem Ail {u v:Ab} {a b:Int} {Q:Ab->Bc->Prop} (hu:cl u=.int a 0) (hv:cl v=.int b 0) (h:Q (.bool (a==b)) σ):T Γ A σ (El .Eq u v) Q:=λs R=>by
 obtain⟨t,rfl⟩:=Fb hu
 obtain⟨t',rfl⟩:=Fb hv
 exact PyProof.Rows.eq_int ⟨σ,R,h⟩
theorem Oc {a b:Int} {Q:Ab->Bc->Prop} (h:Q (.bool (a==b)) σ):P2 Γ A (El .Eq) Q (.int a 0) (.int b 0) σ:=λ_ _ hu hv=>Ail (hu:=hu) (hv:=hv) (h:=h)
theorem Aii {u v:Ab} {a b:Int} {Q:Ab->Bc->Prop} (hu:cl u=.int a 0) (hv:cl v=.int b 0) (h:Q (.bool (a != b)) σ):T Γ A σ (El .NotEq u v) Q:=λs R=>by
 obtain⟨t,rfl⟩:=Fb hu
 obtain⟨t',rfl⟩:=Fb hv
 exact PyProof.Rows.ne_int ⟨σ,R,h⟩
theorem Adl {a b:Int} {Q:Ab->Bc->Prop} (h:Q (.bool (a != b)) σ):P2 Γ A (El .NotEq) Q (.int a 0) (.int b 0) σ:=λ_ _ hu hv=>Aii (hu:=hu) (hv:=hv) (h:=h)
theorem dX {u v:Ab} {x a:Am} {vs:List Ab} {Q:Ab->Bc->Prop} (hu:cl u=.ref x) (hv:cl v=.ref a) (hm:Fc Γ σ a vs) (he:∀y∈vs,∃b,y=.ref b/\∀s,Eg Γ σ s->SeqAt.EqAt A.in1 s (.ref b) (.ref x) (b==x)) (h:Q (.bool (vs.any (· ==.ref x))) σ):T Γ A σ (El .In u v) Q:=λs R=>by
 have:=Ch hu
 subst this
 have:=Ch hv
 subst this
 obtain⟨us,n,L,e⟩:=hm s R
 refine SeqAt.in_tupleAt (λy=>y==.ref x) ⟨_,L,rfl,n,rfl⟩ (λy hy=>?_) ⟨σ,R,?_⟩
 ·have hy':cl y∈vs:=e▸Cz (Array.mem_toList_iff.mpr hy)
  obtain⟨b,hb,hq⟩:=he _ hy'
  have:=Ch hb
  subst this
  have hbx:((Bx b:Ab)==.ref x)=(b==x):=by
   by_cases q:b=x
   ·subst q;simp
   ·have h1:((Bx b:Ab)==.ref x)=false:=by rw [beq_eq_false_iff_ne];intro e;injection e with e;exact q e
    rw [h1,beq_eq_false_iff_ne.mpr q]
  have:=hq s R
  rw [<-hbx]at this
  exact this
 ·have:us.any (λy=>y==.ref x)=vs.any (· ==.ref x):=by
   rw [<-Oj,<-e,List.any_map]
   congr 1
   funext y
   cases y<;>rfl
  show Q (.bool (us.any λy=>y==.ref x)) σ
  rw [this];exact h
theorem Xn {a b:List Int} (h:a.length=b.length):(Er a.length).all (λj=>a[j]? ==b[j]?)=(a==b):=by
 rw [Ko,Fz,beq_iff_eq]
 constructor
 ·intro k
  apply La
  intro i
  rcases Oh i a.length with hi|hi
  ·simpa using k i (Mc.mpr hi)
  ·rw [Du hi,Du (h▸hi)]
 ·rintro rfl i _
  simp
theorem cY {x y:Am} {a b:List Int} (hu:A.units < cLine) (R:Eg Γ σ s) (hx:(.obj x,.list (Aw a))∈σ.all) (hy:(.obj y,.list (Aw b))∈σ.all):SeqAt.RcAt A s (.ref x) (.ref y) (a==b):=by
 obtain⟨xs,n,L,e⟩:=Ie R hx
 obtain⟨ys,n',L',e'⟩:=Ie R hy
 have z:xs.size=a.length:=by rw [Ct e];simp [Aw]
 have z':ys.size=b.length:=by rw [Ct e'];simp [Aw]
 by_cases hl:a.length=b.length
 ·have:=SeqAt.RcAt.lists (A:=A) (e:=λj=>a[j]? ==b[j]?) L.isList L'.isList (by lia) hu λj h1 h2=>?_
  ·rw [z,Xn hl]at this;exact this
  ·have g1:a[j]? =Ad (a[j]'(by lia)):=Bp _
   have g2:b[j]? =Ad (b[j]'(by lia)):=Bp _
   have c1:∃t,xs[j]=.int (a[j]'(by lia)) t:=by
    obtain⟨u,hu,he⟩:=Hk (i:=j) (v:=.int (a[j]'(by lia)) 0) e (by simp [Aw,g1])
    rw [Fu h1]at hu
    cases hu
    exact Fb he
   have c2:∃t,ys[j]=.int (b[j]'(by lia)) t:=by
    obtain⟨u,hu,he⟩:=Hk (i:=j) (v:=.int (b[j]'(by lia)) 0) e' (by simp [Aw,g2])
    rw [Fu h2]at hu
    cases hu
    exact Fb he
   obtain⟨t,c1⟩:=c1
   obtain⟨t',c2⟩:=c2
   rw [c1,c2,g1,g2]
   intro prog w E Q hq
   refine wpAny_eqBool_int ?_
   have:(Ad (a[j]'(by lia))==Ad (b[j]'(by lia)))=(a[j]'(by lia)==b[j]'(by lia)):=by simp
   rw [this]at hq;exact hq
 ·have hne:(a==b)=false:=by rw [beq_eq_false_iff_ne];rintro rfl;exact hl rfl
  rw [hne]
  exact SeqAt.RcAt.lists_lengths L.isList L'.isList (by rw [z,z'];simpa using hl) hu
theorem rU {u v:Ab} {x y:Am} {a b:List Int} {Q:Ab->Bc->Prop} (hA:A.units < cLine) (hu:cl u=.ref x) (hv:cl v=.ref y) (hx:(.obj x,.list (Aw a))∈σ.all) (hy:(.obj y,.list (Aw b))∈σ.all) (h:Q (.bool (a==b)) σ):T Γ A σ (El .Eq u v) Q:=λs R=>by
 have:=Ch hu
 subst this
 have:=Ch hv
 subst this
 exact cY hA R hx hy _ _ _ _ ⟨σ,R,h⟩
theorem sA {x y:Am} {a b:List Int} {Q:Ab->Bc->Prop} (hA:A.units < cLine) (hx:(.obj x,.list (Aw a))∈σ.all) (hy:(.obj y,.list (Aw b))∈σ.all) (h:Q (.bool (a==b)) σ):P2 Γ A (El .Eq) Q (.ref x) (.ref y) σ:=λ_ _ hu hv=>rU (hA:=hA) (hu:=hu) (hv:=hv) (hx:=hx) (hy:=hy) (h:=h)
end
end
section
noncomputable def yR (K:Frag) (C:Am):Bool:=findIn K (.ref C) "__eq__" ==Ad (Ad (.builtin "object.__eq__"))&&mroIn K C (.type "object")==Ad true
noncomputable def aV (K:Frag) (C D:Am):Bool:=C==D||subIn K (.ref D) (.ref C)==Ad false
noncomputable def yY (K:Frag) (C D:Am):Bool:=kin_not K C D&&plainGet K C "__class__" &&Px K C&&findIn K (.ref C) "__class__" ==Ad (Ad (.builtin "object.__class__"))&&Pu K (.builtin "object.__class__") "__get__" ==Ad (Ad (.builtin "getset_descriptor.__get__"))&&takesIn K (.builtin "object.__class__")==Ad true&&mroIn K C (.type "object")==Ad true
section
variable {Γ:Bm} {A:Az} {σ σ':Bc} {s s':Be} {env:Env}
set_option tactic.hygienic true in
theorem mZ {x y C C' d d':Am} (R:Eg Γ σ s) (hx:(.obj x,.inst C d)∈σ.all) (hy:(.obj y,.inst C' d')∈σ.all) (hxy:x≠y) (hu:A.units < cLine) (k1:yR Γ.K C=true) (k2:yR Γ.K C'=true) (k3:aV Γ.K C C'=true):SeqAt.EqAt A s (.ref x) (.ref y) false:=by
 refine SeqAt.EqAt.of_refs hxy λprog w E Q h=>?_
 have gx:s.heap.get? x=Ad (Pd C d):=(R.ents _ hx).1
 have gy:s.heap.get? y=Ad (Pd C' d'):=(R.ents _ hy).1
 have tx:Looks (Ci prog w) s.heap (typeOf (.ref x)) (.ref C):=(Looks.ld gx).andThen .now
 have ty:Looks (Ci prog w) s.heap (typeOf (.ref y)) (.ref C'):=(Looks.ld gy).andThen .now
 have tr:∀{a b C C' d d':Am} {Q:Option Ab->Be->Prop},s.heap.get? a=Ad (Pd C d)->s.heap.get? b=Ad (Pd C' d')->a≠b->yR Γ.K C=true->Q Ae s->Cu (Ci prog w) A (tryCompare (.ref a) "__eq__" (.ref b)) Q E s:=by
  intro a b C C' d d' Q ga gb hab hk hq
  have S:=F.cmp_object.eq
  have SB:bindSpecial (.builtin "object.__eq__") (.ref a)=Et (.builtin "object.__eq__",[.ref a]):=S.bind _
  simp only [yR,Dd,beq_iff_eq]at hk
  have ta:Looks (Ci prog w) s.heap (typeOf (.ref a)) (.ref C):=(Looks.ld ga).andThen .now
  have sub:Looks (Ci prog w) s.heap (isInstance (.ref a) (.type "object")) true:=ta.andThen (looks_mroIn R.kin hk.2)
  have hcall:Cu (Ci prog w) A (Iq (.builtin "object.__eq__") [.ref a,.ref b]) (λv s'=>v=.notImplemented/\s'=s) E s:=
   No (Lb S.plain F.cmpEntry_eq (@check_slot (Ci prog w) _ _ s "object.__eq__" "object" "__eq__" (.ref a) [.ref b] [] _ F.cmpKind_eq F.cmpSplit_eq sub (F.cmpArgs_eq _ _) (objEq_entry_other hab ga gb (by simp) ⟨rfl,rfl⟩)))
  unfold tryCompare
  simp only [callSpecialIfBound?,bindSpecialIfBound?]
  refine Af (Ef (Af (Af (Af (ta.here ((looks_findIn R.kin hk.1).here ?_))))))
  have fin:Cu (Ci prog w) A (Iq (.builtin "object.__eq__") ([.ref a]++[.ref b])>>=λv=>Et (Ad v)) (λr s'=>Cu (Ci prog w) A (match r with|Ad .notImplemented|Ae=>Et Ae|Ad v=>Et (Ad v)) Q E s') E s:=
   Af (Ec hcall (λv s' ⟨h1,h2⟩=>by subst h1;subst h2;exact Ax (Ax hq)) λ_ _ h'=>h')
  dsimp only
  refine Af (Oi (wpAny_ite ?_))
  split
  ·exact Af (Iv SB (Ax fin))
  ·exact wpAny_tryCatch (Af (Iv SB (Ax fin)))
 unfold richCompare
 simp only [oneThing_ref,cmpInfo_Eq]
 refine Ef (Af (wpAny_cRoomFor hu ?_))
 refine Af (tx.here (Af (ty.here ?_)))
 have last:Cu (Ci prog w) A (isSame (.ref x) (.ref y)>>=λb=>Et (Ab.bool b)) Q E s:=Af (wpAny_isSame_ref_other hxy gx gy (by simp) (Ax h))
 have rest:Cu (Ci prog w) A (tryCompare (.ref x) "__eq__" (.ref y)) (λr s'=>r=Ae/\s'=s) E s:=tr gx gy hxy k1 ⟨rfl,rfl⟩
 have rest2:Cu (Ci prog w) A (tryCompare (.ref y) "__eq__" (.ref x)) (λr s'=>r=Ae/\s'=s) E s:=tr gy gx (Ll hxy) k2 ⟨rfl,rfl⟩
 have tail:Cu (Ci prog w) A (do
   if let Ad v<-tryCompare (.ref x) "__eq__" (.ref y)then return v
   if !false then
    if let Ad v<-tryCompare (.ref y) "__eq__" (.ref x)then return v
   rule "compare.eq-identity";return .bool (<-isSame (.ref x) (.ref y))) Q E s:=by
  refine Af (Ec rest (λr s' zz=>?_) λ_ _ h'=>h')
  obtain⟨h1,h2⟩:=zz
  subst h1;subst h2
  refine Af (Ec rest2 (λr s' zz=>?_) λ_ _ h'=>h')
  obtain⟨h1,h2⟩:=zz
  subst h1;subst h2
  exact Af (Lf last)
 split
 ·rename_i q
  have e:subIn Γ.K (.ref C') (.ref C)=Ad false:=by
   rcases Bool.or_eq_true_iff.mp k3 with e|e
   ·rw [beq_iff_eq.mp e]at q;simp at q
   ·exact beq_iff_eq.mp e
  refine Af ((looks_subIn R.kin e).here ?_)
  simp only [Hs,if_false]
  exact tail
 ·refine Af (Ax ?_)
  simp only [Hs,if_false]
  exact tail
theorem rM {u v:Ab} {x y:Am} {a b:List Int} {Q:Ab->Bc->Prop} (hA:A.units < cLine) (hu:cl u=.ref x) (hv:cl v=.ref y) (hx:(.obj x,.list (Aw a))∈σ.all) (hy:(.obj y,.list (Aw b))∈σ.all) (h:Q (.bool (!(a==b))) σ):T Γ A σ (El .NotEq u v) Q:=λs R=>by
 have:=Ch hu
 subst this
 have:=Ch hv
 subst this
 obtain⟨xs,n,L,e⟩:=Ie R hx
 obtain⟨ys,n',L',e'⟩:=Ie R hy
 have z:xs.size=a.length:=by rw [Ct e];simp [Aw]
 have z':ys.size=b.length:=by rw [Ct e'];simp [Aw]
 by_cases hl:a.length=b.length
 ·have:=SeqAt.RcNeAt.lists (A:=A) (e:=λj=>a[j]? ==b[j]?) L.isList L'.isList (by lia) hA λj h1 h2=>?_
  ·rw [z,Xn hl]at this;exact this _ _ _ _ ⟨σ,R,h⟩
  ·have g1:a[j]? =Ad (a[j]'(by lia)):=Bp _
   have g2:b[j]? =Ad (b[j]'(by lia)):=Bp _
   have c1:∃t,xs[j]=.int (a[j]'(by lia)) t:=by
    obtain⟨u,hu,he⟩:=Hk (i:=j) (v:=.int (a[j]'(by lia)) 0) e (by simp [Aw,g1])
    rw [Fu h1]at hu
    cases hu
    exact Fb he
   have c2:∃t,ys[j]=.int (b[j]'(by lia)) t:=by
    obtain⟨u,hu,he⟩:=Hk (i:=j) (v:=.int (b[j]'(by lia)) 0) e' (by simp [Aw,g2])
    rw [Fu h2]at hu
    cases hu
    exact Fb he
   obtain⟨t,c1⟩:=c1
   obtain⟨t',c2⟩:=c2
   rw [c1,c2,g1,g2]
   intro prog w E Q hq
   refine wpAny_eqBool_int ?_
   have:(Ad (a[j]'(by lia))==Ad (b[j]'(by lia)))=(a[j]'(by lia)==b[j]'(by lia)):=by simp
   rw [this]at hq;exact hq
 ·have hne:(a==b)=false:=by rw [beq_eq_false_iff_ne];rintro rfl;exact hl rfl
  rw [hne]at h
  exact SeqAt.RcNeAt.lists_lengths L.isList L'.isList (by rw [z,z'];simpa using hl) hA _ _ _ _ ⟨σ,R,h⟩
theorem Yv {x y:Am} {a b:List Int} {Q:Ab->Bc->Prop} (hA:A.units < cLine) (hx:(.obj x,.list (Aw a))∈σ.all) (hy:(.obj y,.list (Aw b))∈σ.all) (h:Q (.bool (!(a==b))) σ):P2 Γ A (El .NotEq) Q (.ref x) (.ref y) σ:=λ_ _ hu hv=>rM (hA:=hA) (hu:=hu) (hv:=hv) (hx:=hx) (hy:=hy) (h:=h)
theorem Agc {ws:List Ab} {x C d D:Am} {Q:Ab->Bc->Prop} (hw:ws.map cl=[.ref x,.ref D]) (hx:(.obj x,.inst C d)∈σ.all) (hk:isIn Γ.K (.ref C) D=true) (h:Q (.bool true) σ):T Γ A σ (Iq (.builtin "isinstance") ws) Q:=λs R=>by
 obtain⟨w₀,w₁,rfl,e0,e1⟩:=Kf hw
 have:=Ch e0
 subst this
 have:=Ch e1
 subst this
 have gx:s.heap.get? x=Ad (Pd C d):=(R.ents _ hx).1
 exact isi_call R.kin (λM=>(Looks.ld gx).andThen .now) hk (by intro e;cases e) ⟨σ,R,h⟩
theorem Agb {ws:List Ab} {x C d D:Am} {m:List (Str×Option Ab)} {Q:Ab->Bc->Prop} (hw:ws.map cl=[.ref x,.ref D]) (hx:(.obj x,.inst C d)∈σ.all) (hd:(.obj d,.ns m)∈σ.all) (hk:yY Γ.K C D=true) (h:Q (.bool false) σ):T Γ A σ (Iq (.builtin "isinstance") ws) Q:=λs R=>by
 obtain⟨w₀,w₁,rfl,e0,e1⟩:=Kf hw
 have:=Ch e0
 subst this
 have:=Ch e1
 subst this
 obtain⟨es,n,N,e,I⟩:=Sw R hx hd
 simp only [yY,Dd,beq_iff_eq]at hk
 obtain⟨⟨⟨⟨⟨⟨k0,k1⟩,k2⟩,k3⟩,k4⟩,k5⟩,k6⟩:=hk
 exact kin_callC R.kin I k0 k1 k2 k3 k4 k5 k6 ⟨σ,R.toks _,h⟩
end
end
section
section
variable {Γ:Bm} {A:Az} {σ σ':Bc} {s s':Be} {env:Env}
theorem Sm {W τ:List Av} {n:Int} {Q:Ab->Bc->Prop} (h:∀r,Q (.ref r) ⟨W,(.obj r,.rng 0 n 1)::τ⟩):∀ws,ws.map cl=[.int n 0]->T Γ A ⟨W,τ⟩ (Iq (.type "range") ws) Q:=λws hw s R=>by
 obtain⟨w₀,rfl,e0⟩:=Iz hw
 obtain⟨t,rfl⟩:=Fb e0
 exact PySem.call_range_1 ⟨_,R.push (c:=.rng 0 n 1) (s':={s with heap:=s.heap.push _,toks:=s.toks+1+1}) (λ_ _ e=>An _ e) rfl rfl ⟨_,_,_,Bj _ rfl⟩,h _⟩
theorem vG {W τ:List Av} {a b c:Int} {Q:Ab->Bc->Prop} (hc:c≠0) (hs:c.natAbs < 1073741824) (h:∀r,Q (.ref r) ⟨W,(.obj r,.rng a b c)::τ⟩):∀ws,ws.map cl=[.int a 0,.int b 0,.int c 0]->T Γ A ⟨W,τ⟩ (Iq (.type "range") ws) Q:=λws hw s R=>by
 obtain⟨w₀,w₁,w₂,rfl,e0,e1,e2⟩:=Vd hw
 obtain⟨t,rfl⟩:=Fb e0
 obtain⟨u,rfl⟩:=Fb e1
 obtain⟨v,rfl⟩:=Fb e2
 exact PySem.call_range_3 hc ⟨_,R.push (c:=.rng a b c) (s':={s with heap:=s.heap.push _}) (λ_ _ e=>An _ e) rfl rfl ⟨_,_,_,Bj _ rfl⟩,h _⟩ (.inl (PyProof.noPylong_small hs))
noncomputable def Qj (x c:Int) (n:Nat):List Ab:=(Er n).map λi=>.int (x+(i:Nat) * c) 0
noncomputable def gW (x c:Int) (n:Nat) (i:Nat):CO:=.riter (x+(i:Nat) * c) ((n:Int) - (i:Nat)) c
theorem Xh {x c:Int} {n i:Nat} {v:Ab} (h:(Qj x c n)[i]? =Ad v):i < n/\v=.int (x+(i:Nat) * c) 0:=by
 unfold Qj at h
 rw [Bg,Db]at h
 obtain⟨j,hj,e⟩:=h
 obtain⟨hl,hv⟩:=Al.mp hj
 rw [Mm]at hv
 subst hv
 exact⟨by simpa using hl,e.symm⟩
theorem qU {it:Am} {x c:Int} {n:Nat} (hh:A.handled=Ae):sI Γ A it (gW x c n) (Qj x c n) λ_=>True where
 item i v σ hv _ s R:=by
  obtain⟨hi,rfl⟩:=Xh hv
  have hit:Nb s.heap it (x+(i:Nat) * c) ((n:Int) - (i:Nat)) c:=(R.ents _ Bv).1
  refine wpAny_pyNext_range_item hit (by lia) λh' hi' hs=>⟨_,Eg.changeS (s':={s with heap:=h',toks:=s.toks+1}) (c':=gW x c n (i+1)) R aW rfl hs.extBut rfl rfl ?_,rfl,rfl⟩
  show Nb h' it (x+((i+1:Nat):Int) * c) ((n:Int) - ((i+1:Nat):Int)) c
  have e1:x+((i+1:Nat):Int) * c=x+(i:Nat) * c+c:=by push_cast;rw [Int.add_mul];lia
  have e2:(n:Int) - ((i+1:Nat):Int)=(n:Int) - (i:Nat) - 1:=by lia
  rw [e1,e2];exact hi'
 fin σ _ s R:=by
  rw [show(Qj x c n).length=n by simp [Qj]]at R
  have hit:Nb s.heap it (x+(n:Nat) * c) ((n:Int) - (n:Nat)) c:=(R.ents _ Bv).1
  refine wpAny_pyNext_range_end hh hit (by lia) λh' hx=>⟨σ,Eg.dropObj (s':={s with heap:=h'}) R rfl hx rfl rfl,rfl,rfl⟩
theorem Py {it:Am} {x c:Int} {n:Nat} (hh:A.handled=Ae):Lj Γ A it (λ_=>True) (Qj x c n) [(.obj it,gW x c n 0)]:=(qU hh).feed (λi s h=>⟨_,_,h,rfl,by decide⟩) _ 0 rfl (Cg _)
theorem Ve {it:Am} {x c:Int} {n i:Nat}:Vu Γ A it [(.obj it,gW x c n i)]:=λW τ s R=>wpAny_pyIter_rangeiter (R.ents _ (Bv (q:=(.obj it,gW x c n i)))).1 ⟨_,R,rfl,rfl⟩
theorem nK {W τ:List Av} {v:Ab} {a:Am} {x b c:Int} {n:Nat} {Q:Ab->Bc->Prop} (hv:cl v=.ref a) (hm:(.obj a,.rng x b c)∈(⟨W,τ⟩:Bc).all) (hs:Op x b c=true) (hn:Mf x b c=n) (h:∀it,Q (.ref it) ⟨W,(.obj it,gW x c n 0)::τ⟩):T Γ A ⟨W,τ⟩ (Ib v) Q:=λs R=>by
 have:=Ch hv
 subst this
 obtain⟨t,u,w,e⟩:=(R.ents _ hm).1
 refine wpAny_pyIter_range e hs ⟨_,R.push (c:=gW x c n 0) (s':={s with heap:=s.heap.push _}) (λ_ _ e=>An _ e) rfl rfl ?_,h _⟩
 show Nb _ _ (x+((0:Nat):Int) * c) ((n:Int) - ((0:Nat):Int)) c
 rw [hn]
 simp only [Int.ofNat_zero,Int.zero_mul,Int.add_zero,Int.sub_zero,Int.natCast_zero]
 exact Bj _ rfl
theorem Nr {W τ:List Av} {a:Am} {x b c:Int} {n:Nat} {Q:Ab->Bc->Prop} (hm:(.obj a,.rng x b c)∈(⟨W,τ⟩:Bc).all) (hs:Op x b c=true) (hn:Mf x b c=n) (h:∀it,Q (.ref it) ⟨W,(.obj it,gW x c n 0)::τ⟩):P1 Γ A Ib Q (.ref a) ⟨W,τ⟩:=λ_ hv=>nK (hv:=hv) (hm:=hm) (hs:=hs) (hn:=hn) (h:=h)
theorem xT {ws:List Ab} {a:Am} {k:Int} {ns:List Int} {Q:Ab->Bc->Prop} (hw:ws.map cl=[.ref a,.int k 0]) (hm:(.obj a,.list (Aw ns))∈σ.all) (hz:ns.length<=1000000) (hk:k∈ns) (h:Q (.int (ns.idxOf k:Nat) 0) σ):T Γ A σ (Iq (.builtin "list.index") ws) Q:=λs R=>by
 obtain⟨w₀,w₁,rfl,e0,e1⟩:=Kf hw
 have:=Ch e0
 subst this
 obtain⟨t,rfl⟩:=Fb e1
 obtain⟨us,n,L,e⟩:=Ie R hm
 have hi:=Ua e
 have hlen:=Ct e
 have hl2:(Aw ns).length=ns.length:=by simp [Aw]
 have hj:ns.idxOf k < ns.length:=List.idxOf_lt_length_iff.mpr hk
 have get:∀m (hm:m < us.size),∃t,us[m]=.int (ns[m]'(by lia)) t:=by
  intro m hm
  obtain⟨u,hu,he⟩:=Hk (i:=m) (v:=.int (ns[m]'(by lia)) 0) e (by simp [Aw])
  rw [Fu hm]at hu
  cases hu
  exact Fb he
 refine call_meets PySem.F.slot_list_index ⟨_,L,rfl⟩ PySem.F.entry_list_index (PySem.F.args_list_index_2 _ _)
  (SeqAt.list_indexAt a us n Ae #[] (.int k t) (isInt k) (ns.idxOf k) (by lia) (by lia) ?_ ?_) ⟨L,λy hy=>(eq_isInt k t hi y (by simpa using hy)).at _ _,σ,R.toks _,h⟩
 ·obtain⟨t',e'⟩:=get (ns.idxOf k) (by lia)
  rw [e',List.getElem_idxOf]
  simp [isInt]
 ·intro m hm hlt
  obtain⟨t',e'⟩:=get m hm
  rw [e']
  have:ns[m]'(by lia)≠k:=by
   intro e3
   have h4:=List.not_of_lt_findIdx (xs:=ns) (p:=(· ==k)) (i:=m) hlt
   simp [e3]at h4
  simpa [isInt]using this
theorem xZ {a:Am} {k:Int} {ns:List Int} {Q:Ab->Bc->Prop} (hm:(.obj a,.list (Aw ns))∈σ.all) (hz:ns.length<=1000000) (hk:k∈ns) (h:Q (.int (ns.idxOf k:Nat) 0) σ):Wn Γ A (.builtin "list.index") [.ref a] Q [.int k 0] σ:=λ_ hw=>xT (hw:=hw) (hm:=hm) (hz:=hz) (hk:=hk) (h:=h)
theorem vF {W τ:List Av} {a:Am} {ns:List Int} {Q:Ab->Bc->Prop} (hm:(.obj a,.list (Aw ns))∈(⟨W,τ⟩:Bc).all) (hz:ns.length < 64) (h:∀r ns',ns'.Perm ns->ns'.Pairwise (· <= ·)->Q (.ref r) ⟨W,(.obj r,.list (Aw ns'))::τ⟩):∀ws,ws.map cl=[.ref a]->T Γ A ⟨W,τ⟩ (Iq (.builtin "sorted") ws) Q:=λws hw s R=>by
 obtain⟨w₀,rfl,e0⟩:=Iz hw
 have:=Ch e0
 subst this
 obtain⟨us,n,L,e⟩:=Ie R hm
 have hi:=Ua e
 have hlen:=Ct e
 have hl2:(Aw ns).length=ns.length:=by simp [Aw]
 refine sorted_ints (vs:=us.toList) L.isList hi (by simp;lia) λout ns' h1 h2 h3=>?_
 obtain⟨k,hk⟩:=sortedAll_at s.heap us.toList out
 have e':out.toList.map cl=Aw ns':=by
  have:∀{vs:List Ab} {ns:List Int},IntsAre vs ns->vs.map cl=Aw ns:=by
   intro vs ns h
   induction h with
   |nil=>rfl
   |cons _ _ _ ih=>simp [Aw]at ih ⊢;exact ih
  exact this h1
 have R1:=R.grow (s':={s with heap:=sortedAll s.heap us.toList out}) (λ_ _=>sortedAll_old) rfl rfl
 exact⟨_,R1.add (l:=.obj (s.heap.objs.size+1)) (c:=.list (Aw ns')) ⟨out,k,hk,e'⟩ (R.freshAt (Nat.le_succ _)) (Jw (σ:=⟨W,τ⟩) (s:=s) rfl (λq hq=>(R.ents q hq).1) (Nat.le_succ _)),h _ ns' h2 h3⟩
noncomputable def fT (c:Ab) (p:Option Int):Prop:=match p with|Ae=>c=.none|Ad i=>c=.int i 0
theorem fT.of {c u:Ab} {p:Option Int} (h:fT c p) (e:cl u=c):IsPart u p:=by
 subst e
 cases p with
 |Ae=>have:=Tw h;subst this;exact .none
 |Ad i=>obtain⟨t,rfl⟩:=Fb h;exact .int i t
noncomputable def Um (vs:List Ab) (lo hi:Option Int):List Ab:=(vs.drop (lo.elim 0 (clipAt vs.length))).take (hi.elim vs.length (clipAt vs.length) - lo.elim 0 (clipAt vs.length))
theorem Zo {Q:Ab->Bc->Prop} (h:Q .none σ):T Γ A σ (evalPart Ae env) Q:=λ_ R=>Ax ⟨σ,R,h⟩
theorem gD {value:At} {lower upper:Option At} {p pos:Pos} {Q:Ab->Bc->Prop}
  (h:T Γ A σ (Dv value env) λc σ₁=>T Γ A σ₁ (evalPart lower env) λl σ₂=>T Γ A σ₂ (evalPart upper env) λu σ₃=>∃a vs lo hi,c=.ref a/\dG Γ σ₃ a vs/\vs.length<=1000000/\fT l lo/\fT u hi/\
   ∀r,Q (.ref r) ⟨σ₃.W,(.obj r,.list (Um vs lo hi))::σ₃.τ⟩) (ht:autoParam (∀o r,Gp value o r=Et ()) aI):T Γ A σ (Dv (.Subscript value (.Slice lower upper Ae p) pos) env) Q:=λs R=>by
 refine wpAny_Subscript_list_slice (h.elim R λo s₁ σ₁ R₁ q₁=>q₁.elim R₁ λvl s₂ σ₂ R₂ q₂=>q₂.elim R₂ λvu s₃ σ₃ R₃ q₃=>?_) ht
 obtain⟨a,vs,lo,hi,e,hm,hz,pl,pu,q⟩:=q₃
 have:=Ch e
 subst this
 obtain⟨us,n,L,e⟩:=hm _ R₃
 have hlen:=Ct e
 refine⟨a,us,lo,hi,rfl,L.isList,by rw [Ay];lia,pl.of rfl,pu.of rfl,?_⟩
 have R4:=R₃.grow (s':={s₃ with heap:=s₃.heap.push {cls:=.type "slice",data:=.fields #[vl,vu,.none]}}) (λ_ _ e=>An _ e) rfl rfl
 have R5:=R4.push (W:=σ₃.W) (τ:=σ₃.τ) (c:=.list (Um vs lo hi)) (s':={s₃ with heap:=(s₃.heap.push {cls:=.type "slice",data:=.fields #[vl,vu,.none]}).push {cls:=.type "list",data:=.seq (slicePick us lo hi Ae)}}) (λ_ _ e=>An _ e) rfl rfl ⟨_,0,Bj _ rfl,by
  rw [slicePick_plain,List.toList_toArray,Ox,List.map_drop,e,hlen];rfl⟩
 rw [show({s₃ with heap:=s₃.heap.push {cls:=.type "slice",data:=.fields #[vl,vu,.none]}}:Be).heap.objs.size=s₃.heap.objs.size+1 from Iy ..]at R5
 exact⟨_,R5,q _⟩
theorem Xo {x y:Str} {px py pos:Pos} {k:Nat} {u v₁ v₂:Ab} {a:Am} {ov₁ ov₂:Option Ab} {σ₁ σ₂:Bc} {Q:Unit->Bc->Prop} (hh:A.handled=Ae) (hu:cl u=.ref a) (hm:Fc Γ σ a [v₁,v₂]) (U₁:Jf σ (.var env.locals x) (.val ov₁) (.val (Ad v₁)) σ₁) (U₂:Jf σ₁ (.var env.locals y) (.val ov₂) (.val (Ad v₂)) σ₂) (h:Q () σ₂)
  (hk:autoParam (env.scope.kind=.function) aR) (hx:autoParam (env.kindOf x=Ad .local) aR) (hy:autoParam (env.kindOf y=Ad .local) aR):T Γ A σ (Ir (.Tuple [.Name x px,.Name y py] k pos) env u) Q:=λs R=>by
 have:=Ch hu
 subst this
 obtain⟨us,n,L,e⟩:=hm s R
 obtain⟨us⟩:=us
 obtain⟨w₁,w₂,rfl,e1,e2⟩:=Kf e
 refine wpAny_assign_Tuple hh ⟨_,L,rfl,n,rfl⟩ rfl rfl λh' hx'=>?_
 have R1:=R.grow (s':={s with heap:=h'}) (λb o e=>hx' b o (Kw (Dw e)) e) rfl rfl
 show Cu _ _ (do holding [w₂] (Ir (.Name x px) env w₁);holding [] (Ir (.Name y py) env w₂);Et ()) _ _ _
 refine Af (Ef ((Cx (Q:=λ_ σ=>σ=σ₁) e1 U₁ rfl hk hx).elim R1 λ_ s₁ σ' R₁ e=>?_))
 subst e
 exact Af (Ef ((Cx e2 U₂ h hk hy).elim R₁ λ_ s₂ σ' R₂ e=>Ax ⟨_,R₂,e⟩))
end
end
noncomputable def sG (Γ:Bm) (a:Am):FuncData:=match Γ.K.lookup a with|Ad ⟨_,_,.func fd,_⟩=>fd|_=>default
noncomputable abbrev Kh (Γ:Bm) (a:Am) (q:Str) (st:Jy) (cd dV:Ab):FuncData:=
 fnX (sG Γ a).name q (fArgs st) (fBody st) (fScope st) [] dV .none (sG Γ a).doc (sG Γ a).pyModule (sG Γ a).annotations cd (sG Γ a).closureTuple
theorem zP (Γ:Bm):Γ.K.lookup 473=Ad ⟨.type "function",Ae,.func (Kh Γ 473 "_law_once" (topStmt 24) (.ref 472) .none),#[]⟩:=by kernel_rfl
section
section
variable {Γ:Bm} {A:Az} {σ σ':Bc} {s s':Be} {env:Env}
theorem T.have {α:Type} [Xx α] {t:Sem α} {Q:α->Bc->Prop} {φ:Prop} (hφ:∀s,Eg Γ σ s->φ) (h:φ->T Γ A σ t Q):T Γ A σ t Q:=λs R=>h (hφ s R) s R
end
structure Nd where
 me:Am
 d:Am
 dep:Am
 imp:Am
 C:Am
 key:Int
 root:Ab
 bt:Am
 bs:List Nat
 st:Am
 ss:List Nat
 iro:Ab
 deps:List (Int×Ab)
 imps:List (Int×Ab)
 decl:Option Ab
 inh:Option Ab
noncomputable def Ng (x:Nd):List (Str×Option Ab):=[("key",Ad (.int x.key 0)),("_ROOT",Ad x.root),("_dependents",Ad (.ref x.dep)),("bases",Ad (.ref x.bt)),("_implied",Ad (.ref x.imp)),("iro",Ad x.iro),("sro",Ad (.ref x.st)),("declared",x.decl),("inherit",x.inh)]
noncomputable def Nd.ents (x:Nd):List Av:=[(.obj x.d,.ns (Ng x)),(.obj x.dep,.idict x.deps),(.obj x.imp,.idict x.imps)]
noncomputable def Bl (G:List Nd):List Av:=G.flatMap Nd.ents
noncomputable def Gd (G:List Nd) (j:Nat):Am:=match G[j]?with|Ad x=>x.me|Ae=>0
noncomputable def Cy (G:List Nd) (j:Nat):Int:=match G[j]?with|Ad x=>x.key|Ae=>0
noncomputable def Ap (G:List Nd) (js:List Nat):List Ab:=js.map λj=>.ref (Gd G j)
theorem Bb (G:List Nd) (js:List Nat):(Ap G js).length=js.length:=by simp [Ap]
theorem iL {G:List Nd} {js:List Nat} {i:Nat} {v:Ab} (h:(Ap G js)[i]? =Ad v):∃j,js[i]? =Ad j/\v=.ref (Gd G j):=by
 unfold Ap at h
 rw [Bg,Db]at h
 obtain⟨j,hj,e⟩:=h
 exact⟨j,hj,e.symm⟩
inductive Ajb (G:List Nd) (js:List Nat) (d r:List Ab) (v:Ab):Prop
 |mk (a:List Nat) (j:Nat) (b:List Nat) (e1:js=a++j::b) (e2:d=Ap G a) (e3:v=.ref (Gd G j)) (e4:r=Ap G b)
theorem Np {G:List Nd} {js:List Nat} {d r:List Ab} {v:Ab} (h:d++v::r=Ap G js):Ajb G js d r v:=by
 induction d generalizing js with
 |nil=>
  match js,h with
  |j::b,h=>
   simp only [Fw,Ap,Ck,Ij]at h
   exact⟨[],j,b,rfl,rfl,h.1,h.2⟩
 |cons x d ih=>
  match js,h with
  |j::js,h=>
   simp only [Hv,Ap,Ck,Ij]at h
   obtain⟨a,j',b,e1,e2,e3,e4⟩:=ih (js:=js) h.2
   exact⟨j::a,j',b,by rw [e1];rfl,by rw [e2,h.1];rfl,e3,e4⟩
theorem Ks (G:List Nd) (a b:List Nat):Ap G (a++b)=Ap G a++Ap G b:=by simp [Ap]
theorem Sc (G:List Nd) (a:List Nat) (b:Nat):Ap G a++[.ref (Gd G b)]=Ap G (a++[b]):=by simp [Ap]
noncomputable def Vv (W:List Av) (bt:Am) (vs:List Ab):Prop:=(Ex.obj bt,CO.tup vs)∈W\/(bt=346/\vs=[])
structure NF (W:List Av) (G:List Nd):Prop where
 inst:∀(i:Nat) (x:Nd),G[i]? =Ad x->(.obj x.me,.inst x.C x.d)∈W
 ns:∀(i:Nat) (x:Nd),G[i]? =Ad x->(.obj x.d,.ns (Ng x))∈W
 dep:∀(i:Nat) (x:Nd),G[i]? =Ad x->(.obj x.dep,.idict x.deps)∈W
 imp:∀(i:Nat) (x:Nd),G[i]? =Ad x->(.obj x.imp,.idict x.imps)∈W
 bt:∀(i:Nat) (x:Nd),G[i]? =Ad x->Vv W x.bt (Ap G x.bs)
 st:∀(i:Nat) (x:Nd),G[i]? =Ad x->(.obj x.st,.tup (Ap G x.ss))∈W
 cls:∀(i:Nat) (x:Nd),G[i]? =Ad x->x.C=364\/x.C=427
structure Gr (G:List Nd):Prop where
 keys:(G.map (·.key)).Nodup
 bs:∀(i:Nat) (x:Nd),G[i]? =Ad x->x.bs.Nodup/\∀b∈x.bs,b < i
 ss:∀(i:Nat) (x:Nd),G[i]? =Ad x->x.ss.Nodup/\∀b∈x.ss,b < G.length
 few:G.length<=12
noncomputable def pB (G:List Nd):Prop:=∀(i j:Nat) (x y:Nd),G[i]? =Ad x->G[j]? =Ad y->x.me=y.me->i=j
theorem Dp {G:List Nd} {i:Nat} (h:i < G.length):∃x,G[i]? =Ad x:=⟨G[i],Bp h⟩
theorem Bu {G:List Nd} {i:Nat} {x:Nd} (h:G[i]? =Ad x):Gd G i=x.me:=by simp [Gd,h]
theorem Gj {G:List Nd} {i:Nat} {x:Nd} (h:G[i]? =Ad x):Cy G i=x.key:=by simp [Cy,h]
theorem pB.beq {G:List Nd} (J:pB G) {i j:Nat} (hi:i < G.length) (hj:j < G.length):(Gd G i==Gd G j)=(i==j):=by
 obtain⟨x,ex⟩:=Dp hi
 obtain⟨y,ey⟩:=Dp hj
 rw [Bu ex,Bu ey]
 by_cases h:i=j
 ·subst h;rw [ex]at ey;cases ey;simp
 ·rw [beq_eq_false_iff_ne.mpr h,beq_eq_false_iff_ne]
  exact λe=>h (J i j x y ex ey e)
theorem Gr.key_inj {G:List Nd} (g:Gr G) {i j:Nat} (hi:i < G.length) (hj:j < G.length) (e:Cy G i=Cy G j):i=j:=by
 obtain⟨x,ex⟩:=Dp hi
 obtain⟨y,ey⟩:=Dp hj
 rw [Gj ex,Gj ey]at e
 have h1:(G.map (·.key))[i]? =Ad x.key:=by simp [ex]
 have h2:(G.map (·.key))[j]? =Ad x.key:=by simp [ey,e]
 exact(List.getElem?_inj (by simpa using hi) g.keys).mp (h1.trans h2.symm)
section
variable {Γ:Bm} {A:Az} {σ σ':Bc} {s s':Be} {env:Env} {G:List Nd}
theorem Pj {W τ:List Av} {p:Av} (h:p∈W):p∈(⟨W,τ⟩:Bc).all:=Ah _ h
theorem Aej (Γ:Bm):Γ.K.lookup 346=Ad {cls:=.type "tuple",data:=.seq #[] 0}:=by kernel_rfl
theorem Vv.tup {W τ:List Av} {bt:Am} {vs:List Ab} (h:Vv W bt vs):Fc Γ ⟨W,τ⟩ bt vs:=by
 rcases h with h|⟨rfl,rfl⟩
 ·exact .of_mem (Pj h)
 ·exact .of_K (Aej Γ)
theorem Vv.more {X X':List Av} {bt:Am} {vs:List Ab} (h:Vv X bt vs) (k:∀e∈X,e∈X'):Vv X' bt vs:=h.imp (k _) id
theorem Vv.right {X X':List Av} {bt:Am} {vs:List Ab} (h:Vv X bt vs):Vv (X'++X) bt vs:=h.more λ_ he=>Aa _ he
noncomputable abbrev aQ (Γ:Bm) (name:Str):Prop:=Zw Γ.K 364 name=true/\Zw Γ.K 427 name=true
theorem aQ.of {name:Str} (k:aQ Γ name) {C:Am} (h:C=364\/C=427):Zw Γ.K C name=true:=by rcases h with rfl|rfl;exact k.1;exact k.2
theorem Mg (Γ:Bm):aQ Γ "key" :=⟨by kernel_rfl,by kernel_rfl⟩
theorem fP (Γ:Bm):aQ Γ "_ROOT" :=⟨by kernel_rfl,by kernel_rfl⟩
theorem nY (Γ:Bm):aQ Γ "_dependents" :=⟨by kernel_rfl,by kernel_rfl⟩
theorem Qg (Γ:Bm):aQ Γ "bases" :=⟨by kernel_rfl,by kernel_rfl⟩
theorem sM (Γ:Bm):aQ Γ "_implied" :=⟨by kernel_rfl,by kernel_rfl⟩
theorem Aed (Γ:Bm):aQ Γ "sro" :=⟨by kernel_rfl,by kernel_rfl⟩
theorem tE {name:Str} {W τ:List Av} {i:Nat} {x:Nd} {ov v:Ab} {expr:Bool} {Q:Ab->Bc->Prop} (nf:NF W G) (hi:G[i]? =Ad x) (ho:cl ov=.ref x.me) (k:aQ Γ name) (hm:(name,Ad v)∈Ng x) (h:Q v ⟨W,τ⟩) (hv:autoParam (Lw v=true) aR):
  T Γ A ⟨W,τ⟩ (Lk ov name expr) Q:=Qz ho (Pj (nf.inst i x hi)) (Pj (nf.ns i x hi)) (k.of (nf.cls i x hi)) hm h hv
theorem Abi {name:Str} {W τ:List Av} {i:Nat} {x:Nd} {v:Ab} {expr:Bool} {Q:Ab->Bc->Prop} (nf:NF W G) (hi:G[i]? =Ad x) (k:aQ Γ name) (hm:(name,Ad v)∈Ng x) (h:Q v ⟨W,τ⟩) (hv:autoParam (Lw v=true) aR):P1 Γ A (λo=>Lk o name expr) Q (.ref x.me) ⟨W,τ⟩:=λ_ ho=>tE (nf:=nf) (hi:=hi) (ho:=ho) (k:=k) (hm:=hm) (h:=h) (hv:=hv)
theorem Ek {name:Str} {W τ:List Av} {i:Nat} {x:Nd} {v:Ab} {e:At} {pos:Pos} {Q:Ab->Bc->Prop} (nf:NF W G) (hi:G[i]? =Ad x) (k:aQ Γ name) (hm:(name,Ad v)∈Ng x)
  (h:T Γ A σ (Dv e env) λc σ'=>c=.ref x.me/\σ'=⟨W,τ⟩) (q:Q v ⟨W,τ⟩) (hv:autoParam (Lw v=true) aR)
  (he:autoParam (Dv (.Attribute e name pos) env=(do
   let o<-Dv e env
   Mz pos.atName
   let r<-holding [o] (Lk o name true)
   Gp e o r
   Et r)) aU):T Γ A σ (Dv (.Attribute e name pos) env) Q:=
 Jg (h.mono λc σ' ⟨e1,e2⟩ o ho=>by subst e1;subst e2;exact tE nf hi ho k hm q hv) he
end
end
theorem jQ (C:Am) (rest:List Ab) (kw:List (Str×Ab)):(Code.builtin "type.__call__" ⟨.ref C::rest,kw⟩).weight=1:=by kernel_rfl
theorem lY (C:Am) (rest:List Ab) (kw:List (Str×Ab)):(Code.builtin "type.__call__" ⟨.ref C::rest,kw⟩).cUnits=1:=by kernel_rfl
theorem Rm.make {A:Az} {n:Nat} {C:Am} {rest:List Ab} {kw:List (Str×Ab)} (h:Rm A (n+1)):Rm (A.under (.builtin "type.__call__" ⟨.ref C::rest,kw⟩)) n:=
 ⟨by have:=h.depth;show A.depth+Code.weight _+_ < _;rw [jQ];lia,by have:=h.units;show A.units+Code.cUnits _+_ < _;rw [lY];lia⟩
theorem mL {α:Type} {l:List α} {p:α} (n:Nat) (h:l[n]? =Ad p):p∈l:=Fj h
theorem mI {W τ:List Av} {p:Av} (n:Nat) (h:τ[n]? =Ad p):p∈(⟨W,τ⟩:Bc).all:=Aa _ (Fj h)
theorem Ag {W τ:List Av} {p:Av} (h:List.Mem p τ):p∈(⟨W,τ⟩:Bc).all:=Aa _ h
theorem Bt {W ρ τ:List Av} {p:Av} (h:p∈(⟨W,τ⟩:Bc).all):p∈(⟨W,ρ++τ⟩:Bc).all:=by
 rcases Ak.mp h with x|x
 ·exact Ah _ x
 ·exact Aa _ (Aa _ x)
theorem fO {ρ τ:List Av} {p:Av} (h:List.Mem p τ):List.Mem p (ρ++τ):=Aa _ h
theorem Zd (p q:Av) (ρ τ:List Av):(p::q::(ρ++τ)).Perm (ρ++p::q::τ):=by
 have h1:=(Fl (a:=q) (l₁:=ρ) (l₂:=τ)).symm
 have h2:=(Fl (a:=p) (l₁:=ρ) (l₂:=q::τ)).symm
 exact(h1.cons p).trans h2
theorem bD (x p q:Av) (A B:List Av):(x::(A++p::q::B)).Perm (A++p::q::x::B):=by
 have:=(Fl (a:=x) (l₁:=A++[p,q]) (l₂:=B)).symm
 rw [Ba,Ba]at this
 exact this
noncomputable abbrev Tr:=List (Am×List Nat)
noncomputable abbrev Tr.vs (ps:Tr):List Ab:=ps.map λp=>.ref p.1
inductive Sr (G:List Nd) (σ:Bc) (a:Am) (ls:List (List Nat)):Prop
 |mk (ps:Tr) (m:(.obj a,.list ps.vs)∈σ.all) (e:ps.map (·.2)=ls) (r:∀p∈ps,(.obj p.1,.list (Ap G p.2))∈σ.all)
theorem Sr.sub {G:List Nd} {σ σ':Bc} {a:Am} {ls:List (List Nat)} (h:Sr G σ a ls) (k:∀p∈σ.all,p∈σ'.all):Sr G σ' a ls:=by
 obtain⟨ps,m,e,r⟩:=h
 exact⟨ps,k _ m,e,λp hp=>k _ (r p hp)⟩
theorem Sr.ext {G:List Nd} {W ρ τ:List Av} {a:Am} {ls:List (List Nat)} (h:Sr G ⟨W,τ⟩ a ls):Sr G ⟨W,ρ++τ⟩ a ls:=h.sub λ_=>Bt
theorem Sr.cons3 {G:List Nd} {W τ:List Av} {p q r:Av} {a:Am} {ls:List (List Nat)} (h:Sr G ⟨W,τ⟩ a ls):Sr G ⟨W,p::q::r::τ⟩ a ls:=h.ext (ρ:=[p,q,r])
theorem bU {acc:List Nat} {j:Nat} (h:acc.Nodup) (hj:j∉acc):(acc++[j]).Nodup:=
 Ih.mpr ⟨h,Fe.mpr ⟨List.not_mem_nil,List.nodup_nil⟩,λa ha b hb q=>hj (by rw [<-Bi.mp hb,<-q];exact ha)⟩
inductive Abh {α:Type} (l:List α):Prop
 |mk (k:α) (r:List α) (e:l=k::r)
theorem oT {α:Type} {l:List α} (h:l≠[]):Abh l:=by
 cases l with
 |nil=>exact absurd rfl h
 |cons k r=>exact⟨k,r,rfl⟩
theorem eR {G:List Nd} {l r:List Nat} {k:Nat} {z:Nd} (e:l=k::r) (hz:G[k]? =Ad z):(Ap G l)[(0:Int).toNat]? =Ad (.ref z.me):=by rw [e,<-Bu hz];rfl
theorem Fc.cons {Γ:Bm} {W τ:List Av} {p:Av} {a:Am} {vs:List Ab} (h:Fc Γ ⟨W,τ⟩ a vs):Fc Γ ⟨W,p::τ⟩ a vs:=h.ext (ext:=[p])
local macro_rules | `(tactic|walk_at "upd")=> `(tactic|(apply Jf.tau;repeat (first|with_reducible exact Ri.here|apply Ri.there|apply Ri.pre)))
local macro_rules | `(tactic|walk_at "mem")=> `(tactic|first|assumption|(refine Ag ?_;repeat (first|with_reducible exact List.Mem.head _|refine List.Mem.tail _ ?_|refine fO ?_)))
local macro_rules | `(tactic|walk_at "set")=> `(tactic|repeat (first|with_reducible exact Oq.here|apply Oq.there))
local macro_rules | `(tactic|walk_at "ns")=> `(tactic|repeat (first|with_reducible exact List.Mem.head _|refine List.Mem.tail _ ?_))
local macro_rules | `(tactic|walk_at "memo")=> `(tactic|repeat (first|with_reducible assumption|refine Eh ?_|refine Bt ?_))
section
noncomputable def Lv (acc:List Int):List Int->List Int
 |[]=>acc
 |x::r=>Lv (if acc.any (· ==x)then acc else acc++[x]) r
noncomputable def yW (ns:List Int):List Int:=Lv [] ns
theorem Rw (acc a:List Int):∀b,Lv acc (b++a)=Lv (Lv acc b) a
 |[]=>rfl
 |x::b=>Rw _ a b
theorem Uh (acc:List Int):∀ns,(Lv acc ns).length<=acc.length+ns.length
 |[]=>Cb _
 |x::r=>by
  refine Ca (Uh _ r) ?_
  split<;>simp<;>lia
theorem Ea (ns:List Int):(Aw ns).length=ns.length:=by simp [Aw]
theorem jS {ns:List Int} {i:Nat} {v:Ab} (h:(Aw ns)[i]? =Ad v):∃x,ns[i]? =Ad x/\v=.int x 0:=by
 unfold Aw at h
 rw [Bg,Db]at h
 obtain⟨x,hx,e⟩:=h
 exact⟨x,hx,e.symm⟩
section
variable {Γ:Bm} {A:Az}
theorem Un {W τ:List Av} {a:Am} {ns:List Int} {Q:Ab->Bc->Prop} (hA:Rm A 1) (hh:A.handled=Ae) (hm:(.obj a,.list (Aw ns))∈(⟨W,τ⟩:Bc).all) (hz:ns.length<=1000000)
  (h:∀r,Q (.ref r) ⟨W,(.obj r,.list (Aw (yW ns)))::τ⟩):∀ws,ws.map cl=[.ref a]->TC Γ A ⟨W,τ⟩ (.ref 473) ws [] Q:=λws hw=>by
 refine Pk (body:=fBody (topStmt 24)) (bs:=[("row",.ref a)]) ["row","found","one"] (zP Γ) (by kernel_rfl) hA.room ?_ (λL=>?_) (by rfl) (by rfl) (by decide) (by rfl) (by rfl) (by rfl) ws [] hw rfl
 ·intro ws kws hw hk
  obtain⟨w,rfl,e⟩:=Iz hw
  have:kws=[]:=by simpa using hk
  subst this
  exact⟨[("row",w)],by simp [e],λs _=>Cm (by rfl)⟩
 ·show T Γ _ ⟨W,(.var L "row",.val (Ad (.ref a)))::(.var L "found",.val Ae)::(.var L "one",.val Ae)::τ⟩ _ _
  refine Ao (Bo (Ic (Ar ⟨by decide,λr=>⟨_,_,by walk_at "upd",?_⟩⟩)))
  refine Ao (Qf (Ac (v:=.ref a) (by walk_at "mem") (Em (vs:=Aw ns) (by walk_at "memo") (λit=>?_))))
  refine⟨it,_,_,Aw ns,_,_,⟨rfl,rfl,Ey (vs:=Aw ns) hh⟩,λd σ=>∃o,σ=⟨W,(.obj r,.list (Aw (Lv [] (ns.take d.length))))::(.var L "row",.val (Ad (.ref a)))::(.var L "found",.val (Ad (.ref r)))::(.var L "one",.val o)::τ⟩,⟨_,rfl⟩,?_,?_,?_⟩
  ·rintro i σ ⟨o,rfl⟩
   walk_at "memo"
  ·rintro d v q u ρ σ he hu ⟨o,rfl⟩ Kq hK
   obtain⟨x,hx,rfl⟩:=jS (i:=d.length) (v:=v) (by rw [<-he];simp)
   refine Cx hu (by walk_at "upd") ?_
   have ht:ns.take (d++[Fs x 0]).length=ns.take d.length++[x]:=by rw [Aj,Br,Nc,hx];rfl
   have hl:(Aw (Lv [] (ns.take d.length))).length<=Gn:=by
    have:=Uh [] (ns.take d.length)
    rw [Ea,Ay]
    simp only [List.length_nil,Fx]at this
    lia
   refine Ao (Hz (Au (Ac (by walk_at "mem") (Ac (by walk_at "mem") (Ue (by walk_at "mem") ⟨_,rfl,λhb=>?_,λhb=>?_⟩)))))
   ·refine Ao (Gf (Fo (Ac (by walk_at "mem") (De Cv Dt Ds (It (by walk_at "mem")) ⟨.inr (.inl ⟨_,rfl⟩),Ai (Ac (by walk_at "mem") (Ar (Lx (by walk_at "upd") hl (Cq (Cq (hK .next _ ⟨_,_,Av.le_refl _,Ad (.int x 0),?_⟩))))))⟩))))
    rw [ht,Rw]
    simp only [Nf]at hb
    simp [Lv,hb,Aw]
   ·refine Cq (Cq (hK .next _ ⟨_,_,Av.le_refl _,Ad (.int x 0),?_⟩))
    rw [ht,Rw]
    simp only [Ke]at hb
    simp [Lv,hb]
  ·rintro σ ⟨o,rfl⟩
   refine Cq (Ao (Fp (Ac (by walk_at "mem") ⟨_,Av.le_sub ?_,h r⟩)))
   rw [Ea,Es]
   exact .cons_cons _ (.cons _ (.cons _ (.cons _ (.refl _))))
end
end
section
section
variable {Γ:Bm} {A:Az}
theorem qF (Γ:Bm):Γ.K.lookup 76=Ad ⟨.type "function",Ae,.func (Kh Γ 76 "_StaticMRO.__init__" (clsStmt 6 1) (.ref 75) .none),#[]⟩:=by kernel_rfl
theorem uB (Γ:Bm):Γ.K.lookup 83=Ad ⟨.type "function",Ae,.func (Kh Γ 83 "_StaticMRO.mro" (clsStmt 6 2) (.ref 82) .none),#[]⟩:=by kernel_rfl
noncomputable abbrev Adf:List (Str×Option Ab):=[("leaf",Ae),("_mro",Ae)]
noncomputable abbrev eD (b t:Am):List (Str×Option Ab):=[("leaf",Ad (.ref b)),("_mro",Ad (.ref t))]
theorem Hb.plain2 {fd:FuncData} {x y:Str} {v₁ v₂:Ab} (h:∀w₁ w₂ s,Fg s fd ⟨[w₁,w₂],[]⟩ [(x,w₁),(y,w₂)]):Hb Γ fd [v₁,v₂] [] [(x,v₁),(y,v₂)]:=by
 intro ws kws hw hk
 obtain⟨w₁,w₂,rfl,e1,e2⟩:=Kf hw
 have:kws=[]:=by simpa using hk
 subst this
 exact⟨_,by simp [e1,e2],λs _=>h _ _ s⟩
theorem Hb.plain1 {fd:FuncData} {x:Str} {v₁:Ab} (h:∀w₁ s,Fg s fd ⟨[w₁],[]⟩ [(x,w₁)]):Hb Γ fd [v₁] [] [(x,v₁)]:=by
 intro ws kws hw hk
 obtain⟨w₁,rfl,e1⟩:=Iz hw
 have:kws=[]:=by simpa using hk
 subst this
 exact⟨_,by simp [e1],λs _=>h _ s⟩
theorem Hb.plain3 {fd:FuncData} {x y z:Str} {v₁ v₂ v₃:Ab} (h:∀w₁ w₂ w₃ s,Fg s fd ⟨[w₁,w₂,w₃],[]⟩ [(x,w₁),(y,w₂),(z,w₃)]):Hb Γ fd [v₁,v₂,v₃] [] [(x,v₁),(y,v₂),(z,v₃)]:=by
 intro ws kws hw hk
 obtain⟨w₁,w₂,w₃,rfl,e1,e2,e3⟩:=Vd hw
 have:kws=[]:=by simpa using hk
 subst this
 exact⟨_,by simp [e1,e2,e3],λs _=>h _ _ _ s⟩
theorem uW {W τ:List Av} {b t:Am} {vs:List Ab} {Q:Ab->Bc->Prop} (hA:Rm A 2) (ht:Fc Γ ⟨W,τ⟩ t vs)
  (h:∀x d,Q (.ref x) ⟨W,(.obj d,.ns (eD b t))::(.obj x,.inst 86 d)::τ⟩):∀ws,ws.map cl=[.ref b,.ref t]->TC Γ A ⟨W,τ⟩ (.ref 86) ws [] Q:=λws hw=>by
 refine aM (fI:=76) Adf (by kernel_rfl) (by kernel_rfl) (by decide) (by decide) λx d=>?_
 have hA':Rm (A.under (.builtin "type.__call__" ⟨.ref 86::ws,[]⟩)) 1:=hA.make
 refine Pk (body:=fBody (clsStmt 6 1)) (bs:=[("self",.ref x),("C",.ref b),("mro",.ref t)]) ["self","C","mro"] (qF Γ) (by kernel_rfl) hA'.room (Hb.plain3 λ_ _ _ _=>Cm (by rfl)) (λL=>?_) (by rfl) (by rfl) (by decide) (by rfl) (by rfl) (by rfl) _ [] (by simp [hw]) rfl
 show T Γ _ ⟨W,(.var L "self",.val (Ad (.ref x)))::(.var L "C",.val (Ad (.ref b)))::(.var L "mro",.val (Ad (.ref t)))::(.obj d,.ns Adf)::(.obj x,.inst 86 d)::τ⟩ _ _
 refine Ao (Dn (Ac (by walk_at "mem") (Ac (by walk_at "mem") (Gx (by walk_at "mem") (by walk_at "upd") (by walk_at "set") (by kernel_rfl) ?_))))
 refine Ao (Dn (Cf (Bd (v:=.type "tuple") (by kernel_rfl) (by decide+kernel) (by decide) ⟨.inr (.inr ⟨_,rfl⟩),Ai (Ac (by walk_at "mem") (Ar (Vb (ht.ext (ext:=_::_::_::_::[_])) ?_)))⟩)))
 refine Ac (by walk_at "mem") (Gx (by walk_at "mem") (by walk_at "upd") (by walk_at "set") (by kernel_rfl) ?_)
 exact Cq ⟨_,Av.le_sub (.cons _ (.cons _ (.cons _ (.refl _)))),rfl,h x d⟩
end
end
section
section
variable {Γ:Bm} {A:Az} {G:List Nd}
theorem jA {W τ:List Av} {x d b t:Am} {vs:List Ab} {Q:Ab->Bc->Prop} (hA:Rm A 1) (hx:(.obj x,.inst 86 d)∈(⟨W,τ⟩:Bc).all) (hd:(.obj d,.ns (eD b t))∈(⟨W,τ⟩:Bc).all) (ht:Fc Γ ⟨W,τ⟩ t vs) (hz:vs.length<=1000)
  (h:∀r,Q (.ref r) ⟨W,(.obj r,.list vs)::τ⟩):∀ws,ws.map cl=[.ref x]->TC Γ A ⟨W,τ⟩ (.ref 83) ws [] Q:=λws hw=>by
 refine Pk (body:=fBody (clsStmt 6 2)) (bs:=[("self",.ref x)]) ["self"] (uB Γ) (by kernel_rfl) hA.room (Hb.plain1 λ_ _=>Cm (by rfl)) (λL=>?_) (by rfl) (by rfl) (by decide) (by rfl) (by rfl) (by rfl) ws [] hw rfl
 show T Γ _ ⟨W,(.var L "self",.val (Ad (.ref x)))::τ⟩ _ _
 refine Ao (Fp (Cf (Bd (v:=.type "list") (by kernel_rfl) (by decide+kernel) (by decide) ⟨.inr (.inr ⟨_,rfl⟩),Ai (Jg (Ac (v:=.ref x) (by walk_at "mem") λo ho=>
  Qz ho (v:=.ref t) (by walk_at "memo") (by walk_at "memo") (by kernel_rfl) (by walk_at "ns") (Ar (Ow (vs:=vs) (ht.ext (ext:=[_])) (by lia) λr=>?_))))⟩)))
 exact⟨_,Av.le_sub (.cons_cons _ (.cons _ (.refl _))),h r⟩
theorem Aei (Γ:Bm):Γ.K.lookup 155=Ad ⟨.type "function",Ae,.func (Kh Γ 155 "C3._can_choose_base" (clsStmt 8 8) (.ref 154) .none),#[]⟩:=by kernel_rfl
noncomputable abbrev kW (L me a:Am) (o₁ o₂:Option Ab) (τ:List Av):List Av:=(.var L "base",.val (Ad (.ref me)))::(.var L "base_tree_remaining",.val (Ad (.ref a)))::(.var L "bases",.val o₁)::(.var L "b",.val o₂)::τ
theorem Afe {W τ:List Av} {j:Nat} {x:Nd} {a:Am} {ls:List (List Nat)} {Q:Ab->Bc->Prop} (nf:NF W G) (hA:Rm A 1) (hh:A.handled=Ae) (hj:G[j]? =Ad x) (hT:Sr G ⟨W,τ⟩ a ls) (hl:∀l∈ls,l.length<=1000/\∀i∈l,i < G.length)
  (h:∀b,Q (.bool b) ⟨W,τ⟩):∀ws,ws.map cl=[.ref x.me,.ref a]->TC Γ A ⟨W,τ⟩ (.ref 155) ws [] Q:=λws hw=>by
 obtain⟨ps,hm,he,hr⟩:=hT
 refine Pk (body:=fBody (clsStmt 8 8)) (bs:=[("base",.ref x.me),("base_tree_remaining",.ref a)]) ["base","base_tree_remaining","bases","b"] (Aei Γ) (by kernel_rfl) hA.room (Hb.plain2 λ_ _ _=>Cm (by rfl)) (λL=>?_) (by rfl) (by rfl) (by decide) (by rfl) (by rfl) (by rfl) ws [] hw rfl
 show T Γ _ ⟨W,kW L x.me a Ae Ae τ⟩ _ _
 have fin:∀b o₁ o₂ ρ,Jh Q (.ret (.bool b)) ⟨W,ρ++kW L x.me a o₁ o₂ τ⟩:=λb o₁ o₂ ρ=>⟨_,Av.le_sub (Dc (.cons _ (.cons _ (.cons _ (.cons _ (.refl _)))))),h b⟩
 have up:∀{q ρ o₁ o₂},q∈(⟨W,τ⟩:Bc).all->q∈(⟨W,ρ++kW L x.me a o₁ o₂ τ⟩:Bc).all:=λ{q ρ o₁ o₂} hq=>Bt (Bt (ρ:=[_,_,_,_]) hq)
 refine Ao (Sh (Ac (v:=.ref a) (mI 1 rfl) (Em (vs:=ps.vs) (up (ρ:=[]) hm) λit=>?_)))
 refine⟨λp:Am×List Nat=>.ref p.1,ps,it,_,_,λ_ _=>W,λ_ z=>kW L x.me a z.1 z.2 τ,λ_ _=>True,(Ae,Ae),⟨rfl,rfl,Ey hh⟩,trivial,λ_ _ _=>up (ρ:=[]) hm,λd p r u ρ z e1 hu _ K hK=>?_,λz _=>Cq (Ao (Fp (Yg (fin _ _ _ []))))⟩
 have hp:p∈ps:=by rw [e1];exact Aa _ (.head _)
 obtain⟨hl1,hl2⟩:=hl p.2 (he▸Cz hp)
 have hm':=λρ o=>up (ρ:=ρ) (o₁:=Ad (.ref p.1)) (o₂:=o) (hr p hp)
 have nx:∀o₂,K .next ⟨W,ρ++kW L x.me a (Ad (.ref p.1)) o₂ τ⟩/\K .cont ⟨W,ρ++kW L x.me a (Ad (.ref p.1)) o₂ τ⟩:=λo₂=>⟨hK .next _ ⟨_,_,Av.le_refl _,(_,o₂),rfl,trivial⟩,hK .cont _ ⟨_,_,Av.le_refl _,(_,o₂),rfl,trivial⟩⟩
 refine Cx hu (.tau (.pre (.there (.there .here)))) ?_
 refine Ao (Hz (Ew (Qa (Nq (Eo (Ac (v:=.ref p.1) (Ag (Aa _ (mL 2 rfl))) (Pa (vs:=Ap G p.2) (hm' _ _) (by rw [Bb];lia) ⟨λhb=>?_,λ_=>⟨λ_=>Ao (cO (nx _).2),λh=>(by cases h)⟩⟩)))))))
 obtain⟨k,l,e⟩:=oT (l:=p.2) λe=>by rw [e]at hb;cases hb
 obtain⟨z',hz⟩:=Dp (hl2 k (e▸ .head _))
 refine Qa (Au (Bh (Ac (v:=.ref p.1) (Ag (Aa _ (mL 2 rfl))) (Dh (Cp (vs:=Ap G p.2) (v:=.ref z'.me) (hm' _ _) (by decide) (by decide) (eR e hz) (Ac (v:=.ref x.me) (Ag (Aa _ (.head _))) (Xf
  (Pj (nf.inst _ _ hz)) (Pj (nf.inst _ _ hj)) ⟨_,rfl,λhb=>?_,λ_=>⟨λ_=>Ao (cO (nx _).2),λh=>(by cases h)⟩⟩)))))))
 refine Xc ⟨λh=>(by cases h),λ_=>?_⟩
 refine Cq (Ao (Sh (Ac (v:=.ref p.1) (Ag (Aa _ (mL 2 rfl))) (Em (vs:=Ap G p.2) (hm' _ _) λit₂=>?_))))
 refine⟨λj=>.ref (Gd G j),p.2,it₂,_,_,λ_ _=>W,λ_ o=>ρ++kW L x.me a (Ad (.ref p.1)) o τ,λ_ _=>True,z.2,⟨rfl,rfl,Ey hh⟩,trivial,λ_ _ _=>hm' _ _,λd j' r u ρ₂ o e1 hu _ K2 hK2=>?_,λo _=>Cq (Cq (nx o).1)⟩
 obtain⟨q,hq⟩:=Dp (hl2 j' (by rw [e1];exact Aa _ (.head _)))
 rw [Bu hq]at hu
 refine Cx hu (.tau (.pre (.pre (.there (.there (.there .here)))))) ?_
 refine Ao (Hz (Au (Ac (v:=.ref q.me) (Ag (Aa _ (Aa _ (mL 3 rfl)))) (Ac (v:=.ref x.me) (Ag (Aa _ (Aa _ (.head _)))) (Xf (Pj (nf.inst _ _ hq)) (Pj (nf.inst _ _ hj)) ⟨_,rfl,λ_=>?_,λ_=>?_⟩)))))
 ·have:=fin false (Ad (.ref p.1)) (Ad (.ref q.me)) (ρ₂++ρ)
  rw [Ba]at this
  exact Ao (Fp (Yg (hK2 (.ret _) _ (hK (.ret _) _ this))))
 ·exact Cq (Cq (hK2 .next _ ⟨_,_,Av.le_refl _,Ad (.ref q.me),rfl,trivial⟩))
end
end
section
theorem gI {K:Frag} {C:Am} {od:Obj} {name:Str} {a g:Ab} (hh:Px K C=true) (ha:findIn K (.ref C) name=Ad (Ad a)) (hg:Pu K a "__get__" =Ad (Ad g)) (ht:takesIn K a=Ad false) (hc:copiedNames.contains name=false) (hl:lookIn name od=Ad Ae):
  findObj K C (Ad od) name=Ad (.bind g a):=by
 obtain⟨cd,hc',hd⟩:=any_some hh
 unfold findObj
 have ho:W.ownOf cd (Ad od) name=Ad Ae:=by unfold W.ownOf;rw [if_pos hd];exact hl
 rw [hc',Me,ha,Me]
 simp only [hg,ht,Me,ho,hc,Bool.false_and,Hs,if_false]
noncomputable def gZ (K:Frag) (C:Am) (name:Str) (p f:Am):Bool:=plainGet K C name&&Px K C&&findIn K (.ref C) name==Ad (Ad (.ref p))&&Pu K (.ref p) "__get__" ==Ad (Ad (.builtin "staticmethod.__get__"))&&takesIn K (.ref p)==Ad false&&!copiedNames.contains name&&
 (match recIn K p "staticmethod" with|Ad (.ref f'::_)=>f'==f|_=>false)&&(typeIn K (.ref p)).any λt=>t != .type "function" &&t != .type "method_descriptor" &&t != .type "wrapper_descriptor"
section
variable {Γ:Bm} {A:Az} {G:List Nd} {σ:Bc}
set_option tactic.hygienic true in
theorem nP {x C d p f:Am} {name:Str} {ov:Ab} {m:List (Str×Option Ab)} {pl:Sem Bool} {Q:Ab×List Ab->Bc->Prop} (ho:cl ov=.ref x) (hx:(.obj x,.inst C d)∈σ.all) (hd:(.obj d,.ns m)∈σ.all)
  (hk:gZ Γ.K C name p f=true) (hm:name∉m.map (·.1)) (h:Q (.ref f,[]) σ):T Γ A σ (Il ov name pl) Q:=λs R=>by
 have:=Ch ho
 subst this
 obtain⟨es,n,N,e,I⟩:=Sw R hx hd
 unfold gZ at hk
 simp only [Dd,beq_iff_eq,Nf]at hk
 obtain⟨⟨⟨⟨⟨⟨⟨k1,k2⟩,k3⟩,k4⟩,k5⟩,k6⟩,k7⟩,k8⟩:=hk
 split at k7
 ·rename_i f' rest hr
  have:=beq_iff_eq.mp k7
  subst this
  refine method_usual R.kin I (Kt k1).1 (Kt k1).2 k3 k8 ?_
  refine get_bind R.kin I (Kt k1).1 (gI k2 k3 k4 k5 k6 (by rw [lookIn_dict,N.get,N.out _ hm])) (Kt k1).2 (No (sm_get (s:={s with toks:=s.toks+1}) R.kin hr ?_))
  exact handed_on rfl ⟨σ,R.toks _,h⟩
 ·cases k7
theorem cQ {x C d p f:Am} {name:Str} {m:List (Str×Option Ab)} {pl:Sem Bool} {Q:Ab×List Ab->Bc->Prop} (hx:(.obj x,.inst C d)∈σ.all) (hd:(.obj d,.ns m)∈σ.all) (hk:gZ Γ.K C name p f=true) (hm:name∉m.map (·.1)) (h:Q (.ref f,[]) σ):P1 Γ A (λo=>Il o name pl) Q (.ref x) σ:=λ_ ho=>nP (ho:=ho) (hx:=hx) (hd:=hd) (hk:=hk) (hm:=hm) (h:=h)
structure Rs where
 leaf:Option Ab
 memo:Option Ab
 tree:Option Ab
 hadi:Option Ab
 mro:Option Ab
 dir:Option Ab
 own:Option Ab
noncomputable abbrev Rs.ns (r:Rs):List (Str×Option Ab):=[("leaf",r.leaf),("memo",r.memo),("base_tree",r.tree),("bases_had_inconsistency",r.hadi),("_mro",r.mro),("direct_inconsistency",r.dir),("_own_legacy",r.own)]
noncomputable def Tv:List Str:=["leaf","memo","base_tree","bases_had_inconsistency","_mro","direct_inconsistency","_own_legacy"]
theorem zW (Γ:Bm):Γ.K.lookup 180=Ad ⟨.type "function",Ae,.func (Kh Γ 180 "C3._find_next_C3_base" (clsStmt 8 11) (.ref 179) .none),#[]⟩:=by kernel_rfl
theorem mD (Γ:Bm):gZ Γ.K 204 "_can_choose_base" 157 155=true:=by kernel_rfl
noncomputable abbrev oB (L rx a:Am) (o₁ o₂:Option Ab) (τ:List Av):List Av:=(.var L "self",.val (Ad (.ref rx)))::(.var L "base_tree_remaining",.val (Ad (.ref a)))::(.var L "bases",.val o₁)::(.var L "base",.val o₂)::τ
theorem Aaf {W τ:List Av} {rx rd a:Am} {rs:Rs} {ls:List (List Nat)} {Q:Ab->Bc->Prop} (nf:NF W G) (hA:Rm A 2) (hh:A.handled=Ae) (hx:(.obj rx,.inst 204 rd)∈(⟨W,τ⟩:Bc).all) (hd:(.obj rd,.ns rs.ns)∈(⟨W,τ⟩:Bc).all)
  (hT:Sr G ⟨W,τ⟩ a ls) (hl:∀l∈ls,l≠[]/\l.length<=1000/\∀i∈l,i < G.length)
  (h:∀l∈ls,∀j r,l=j::r->Q (.ref (Gd G j)) ⟨W,τ⟩) (h0:Q .none ⟨W,τ⟩):∀ws,ws.map cl=[.ref rx,.ref a]->TC Γ A ⟨W,τ⟩ (.ref 180) ws [] Q:=λws hw=>by
 obtain⟨ps,hm,he,hr⟩:=id hT
 refine Pk (body:=fBody (clsStmt 8 11)) (bs:=[("self",.ref rx),("base_tree_remaining",.ref a)]) ["self","base_tree_remaining","bases","base"] (zW Γ) (by kernel_rfl) hA.room (Hb.plain2 λ_ _ _=>Cm (by rfl)) (λL=>?_) (by rfl) (by rfl) (by decide) (by rfl) (by rfl) (by rfl) ws [] hw rfl
 show T Γ _ ⟨W,oB L rx a Ae Ae τ⟩ _ _
 have fin:∀v,Q v ⟨W,τ⟩->∀o₁ o₂ ρ,Jh Q (.ret v) ⟨W,ρ++oB L rx a o₁ o₂ τ⟩:=λv hv o₁ o₂ ρ=>⟨_,Av.le_sub (Dc (.cons _ (.cons _ (.cons _ (.cons _ (.refl _)))))),hv⟩
 have up:∀{q ρ o₁ o₂},q∈(⟨W,τ⟩:Bc).all->q∈(⟨W,ρ++oB L rx a o₁ o₂ τ⟩:Bc).all:=λ{q ρ o₁ o₂} hq=>Bt (Bt (ρ:=[_,_,_,_]) hq)
 refine Ao (Sh (Ac (v:=.ref a) (mI 1 rfl) (Em (vs:=ps.vs) (up (ρ:=[]) hm) λit=>?_)))
 refine⟨λp:Am×List Nat=>.ref p.1,ps,it,_,_,λ_ _=>W,λ_ z=>oB L rx a z.1 z.2 τ,λ_ _=>True,(Ae,Ae),⟨rfl,rfl,Ey hh⟩,trivial,λ_ _ _=>up (ρ:=[]) hm,λd p r u ρ z e1 hu _ K hK=>?_,λz _=>Cq (Ao (Fp (Ka (fin _ h0 _ _ []))))⟩
 have hp:p∈ps:=by rw [e1];exact Aa _ (.head _)
 have hpl:p.2∈ls:=he▸Cz hp
 obtain⟨hl0,hl1,hl2⟩:=hl p.2 hpl
 have hm':=λo=>up (ρ:=ρ) (o₁:=Ad (.ref p.1)) (o₂:=o) (hr p hp)
 obtain⟨k,l,e⟩:=oT hl0
 obtain⟨z',hz⟩:=Dp (hl2 k (e▸ .head _))
 refine Cx hu (.tau (.pre (.there (.there .here)))) ?_
 refine Ao (Bo (Bh (Ac (v:=.ref p.1) (Ag (Aa _ (mL 2 rfl))) (Dh (Cp (vs:=Ap G p.2) (v:=.ref z'.me) (hm' _) (by decide) (by decide) (eR e hz) ⟨_,_,.tau (.pre (.there (.there (.there .here)))),?_⟩)))))
 refine Ao (Hz (Eo (Fo (Ac (v:=.ref rx) (Ag (Aa _ (.head _))) (cQ (up hx) (up hd) (mD Γ) (by show _∉Tv;decide) ⟨.inl (by kernel_rfl),Ai (Ac (v:=.ref z'.me) (Ag (Aa _ (mL 3 rfl))) (Ai (Ac (v:=.ref a) (Ag (Aa _ (mL 1 rfl))) (Ar λws hw=>
   (Afe nf hA.deeper hh hz (hT.sub λ_=>up) (λl hl'=>(hl l hl').2) (λb u hu=>Rf hu ⟨λ_=>?_,λ_=>?_⟩) ws hw).T))))⟩)))))
 ·exact Ao (Fp (Ac (v:=.ref z'.me) (Ag (Aa _ (mL 3 rfl))) (hK (.ret _) _ (fin _ (Bu hz▸h _ hpl k l e) _ _ _))))
 ·exact Cq (Cq (hK .next _ ⟨_,_,Av.le_refl _,(_,_),rfl,trivial⟩))
end
end
section
namespace FF
theorem yA:Manifest.owners.lookup "filter" =Ad Manifest.sig_filter:=by kernel_rfl
theorem Acf:Slot "filter" "__next__" "filter.__next__" :=
 .of (owner:="filter") (n:="__next__") (by rw [Ms,Ik];kernel_rfl) (by decide+kernel) (by decide+kernel) (by decide+kernel)
  (by first|exact .inl (by decide+kernel)|exact .inr (by decide+kernel)) (by rw [isSubtype_type];kernel_rfl)
theorem Acg:Slot "filter" "__iter__" "filter.__iter__" :=
 .of (owner:="filter") (n:="__iter__") (by rw [Ms,Ik];kernel_rfl) (by decide+kernel) (by decide+kernel) (by decide+kernel)
  (by first|exact .inl (by decide+kernel)|exact .inr (by decide+kernel)) (by rw [isSubtype_type];kernel_rfl)
theorem Abk:entryFor table "filter.__next__" =Ad Ee.«filter.__next__»:=entryFor_of_tree (by kernel_rfl)
theorem Abj:plainId "filter.__next__" =true:=by decide+kernel
theorem Ada (a:Ab):argsOk "filter.__next__" ⟨[a],[]⟩:=by unfold argsOk;kernel_rfl
theorem Adb (a:Ab):argsOk "filter.__iter__" ⟨[a],[]⟩:=by unfold argsOk;kernel_rfl
theorem Abl:entryFor table "filter.__iter__" =Ad Ee.«dict_keyiterator.__iter__»:=
 entryFor_alias (id':="dict_keyiterator.__iter__") (by kernel_rfl) (by first|rfl|decide+kernel|(unfold String.splitOn;simp+decide [String.splitOnAux])) (by decide+kernel) (by kernel_rfl)
theorem Aci:entryFor table "filter.__new__" =Ad Ee.«filter.__new__»:=entryFor_of_tree (by kernel_rfl)
theorem bW:mroOf (.type "filter")=Et [.type "filter",.type "object"]:=by rw [mroOf_type];kernel_rfl
theorem lZ:typeLookup (.type "filter") "__new__" =Et (Ad (.builtin "filter.__new__")):=by rw [Ms,Ik];kernel_rfl
theorem Ahg (a b:Ab):checkTypeCall "filter" ⟨[a,b],[]⟩=Et ():=by kernel_rfl
theorem Ahl (a b:Ab):checkBuiltinCall "filter.__new__" ⟨[.type "filter",a,b],[]⟩=Et ():=by kernel_rfl
theorem tJ:isSubtype (.type "filter") (.type "filter")=Et true:=by rw [isSubtype_type];kernel_rfl
theorem Akd:typeLookup (.type "filter") "__len__" =Et Ae:=by rw [Ms,Ik];kernel_rfl
theorem Ahk:typeLookup (.type "filter") "__length_hint__" =Et Ae:=by rw [Ms,Ik];kernel_rfl
theorem pK:Slot "filter" "__init__" "object.__init__" :=
 .of (owner:="object") (n:="__init__") (by rw [Ms,Ik];kernel_rfl) (by decide+kernel) (by decide+kernel) (by decide+kernel)
  (by first|exact .inl (by decide+kernel)|exact .inr (by decide+kernel)) (by rw [isSubtype_type];kernel_rfl)
theorem Ake:TypeCalled "filter" "filter.__new__" "object.__init__" :=
 ⟨by decide+kernel,by decide+kernel,⟨_,_,bW⟩,madeBy_type bW lZ (by decide+kernel),by decide+kernel,tJ,pK⟩
theorem Ach (obj a b:Ab):argsOk "object.__init__" ⟨[obj,a,b],[]⟩:=by unfold argsOk;kernel_rfl
end FF
open AutoSeq1 (Pg)
noncomputable abbrev Tf (it:Am):Obj:={cls:=.type "filter",data:=.fields #[.none,.ref it]}
theorem Yy (l:Am) (items:Array Ab) (n:Nat):
  Meets (Ee.«filter.__new__» ⟨[.type "filter",.none,.ref l],[]⟩) (λ_ R s=>IsL s.heap l items n/\
   R (.ok (.ret (.ref (s.heap.push {cls:=.type "list_iterator",data:=.fields #[.ref l,.int 0 0]}).objs.size)))
    {s with heap:=(s.heap.push {cls:=.type "list_iterator",data:=.fields #[.ref l,.int 0 0]}).push (Tf s.heap.objs.size)}):=
 .of_wp λprog w A R s h=>by
  obtain⟨hp,g,d,tk,os⟩:=s;obtain⟨hl,h⟩:=h
  have hsub:=FF.sub_self
  have hL:Cd.IsList (Be.heap ⟨hp,g,d,tk,os⟩) l items:=⟨_,hl,rfl,n,rfl⟩
  wp_walk using Pg hl,wpAny_pyIter_list hL
  exact⟨_,rfl,h⟩
section
variable {prog:Jm} {w:Ok} {A:Az} {E:Ab->Be->Prop} {s:Be}
theorem Xv {it l:Am} {i:Nat} {items:Array Ab} {x:Ab} {Q:Option Ab->Be->Prop} (hit:s.heap.IsListIter it l i) (hl:s.heap.IsList l items) (hx:items[i]? =Ad x)
  (hQ:∀h',h'.IsListIter it l (i+1)->Eu it s.heap h'->Q (Ad x) {s with heap:=h'}):Cu (Ci prog w) A (callSpecial? (.ref it) "__next__") Q E s:=by
 obtain⟨o,ho,hc,hd⟩:=id hit
 obtain⟨ol,hol,_,nl,hdl⟩:=hl
 refine Hw (name:=Kv "__next__") hit.typeIs Pq
  (Md Pq hit.typeIs entry_listiter_next ?_ (args_listiter_next _))
 show Cu _ _ (field (.ref it) 0>>=_) _ _ s
 refine Af (Gu ho hd (x:=.ref l) rfl ?_)
 show Cu _ _ (if(Bx l==Dq)=true then _ else _) _ _ s
 rw [if_neg (show¬((Bx l==Dq)=true)from Bool.false_ne_true)]
 show Cu _ _ (field (.ref it) 1>>=_) _ _ s
 refine Af (Gu ho hd (x:=.int i 0) rfl ?_)
 show Cu _ _ (seqItems? (.ref l)>>=_) _ _ s
 refine Af (Qq hol hdl ?_)
 simp only [Dj,hx]
 refine Af (Nu ho hd (by simp) (Ax ⟨x,rfl,hQ _ ?_ (Dk ..)⟩))
 exact⟨_,Dz _ ho (Obj.isFreed_of_fields (Obj.data_mapFields hd _)),(Obj.cls_mapFields ..).trans hc,by
  rw [Obj.data_mapFields hd];simp [Ki]⟩
theorem Yx {it l:Am} {i:Nat} {items:Array Ab} {Q:Option Ab->Be->Prop} (hh:A.handled=Ae)
  (hit:s.heap.IsListIter it l i) (hl:s.heap.IsList l items) (hx:items[i]? =Ae)
  (hE:∀h' e,Iw it s.heap h'->(∃o,h'.get? e=Ad o/\o.cls=.type "StopIteration")->E (.ref e) {s with heap:=h'}):Cu (Ci prog w) A (callSpecial? (.ref it) "__next__") Q E s:=by
 obtain⟨o,ho,hc,hd⟩:=id hit
 obtain⟨ol,hol,_,nl,hdl⟩:=hl
 refine Hw (name:=Kv "__next__") hit.typeIs Pq
  (Md Pq hit.typeIs entry_listiter_next ?_ (args_listiter_next _))
 show Cu _ _ (field (.ref it) 0>>=_) _ _ s
 refine Af (Gu ho hd (x:=.ref l) rfl ?_)
 show Cu _ _ (if(Bx l==Dq)=true then _ else _) _ _ s
 rw [if_neg (show¬((Bx l==Dq)=true)from Bool.false_ne_true)]
 show Cu _ _ (field (.ref it) 1>>=_) _ _ s
 refine Af (Gu ho hd (x:=.int i 0) rfl ?_)
 show Cu _ _ (seqItems? (.ref l)>>=_) _ _ s
 refine Af (Qq hol hdl ?_)
 simp only [Dj,hx]
 refine Af (Lf (Af (Nu ho hd (by simp) ?_)))
 show Cu _ _ (newExc (.type "StopIteration") []>>=_) _ _ _
 refine Af ?_
 simp only [newExc,newTuple]
 refine Af (Ez ?_ (by size_fits))
 refine Af (m:=Nw _ _) (Iv (a:=Dq) (by first|rfl|(simp only [Nw];rfl)) ?_)
 refine Ez ?_ (by size_fits)
 simp only [raiseNew]
 refine Af (wpAny_handled ?_)
 first|rw [show A.in1.handled=Ae from hh]|rw [hh]
 refine Af (Ax (wpAny_throw ?_))
 exact hE _ _ (((Dk ..).extBut.push _).push _) ⟨_,Bj _ rfl,rfl⟩
end
section
variable {Γ:Bm} {A:Az} {σ:Bc}
theorem vK {W τ:List Av} {l:Am} {vs:List Ab} {Q:Ab->Bc->Prop} (hm:(.obj l,.list vs)∈(⟨W,τ⟩:Bc).all) (h:∀f it,Q (.ref f) ⟨W,[(.obj f,.raw (Tf it)),(.obj it,.liter l 0)]++τ⟩):∀ws,ws.map cl=[.none,.ref l]->T Γ A ⟨W,τ⟩ (Iq (.type "filter") ws) Q:=λws hw s R=>by
 obtain⟨w₀,w₁,rfl,e0,e1⟩:=Kf hw
 have:=Tw e0
 subst this
 have:=Ch e1
 subst this
 obtain⟨us,n,L,e⟩:=Ie R hm
 refine callType_new FF.called (by decide) (FF.typeCall _ _) (FF.newCall _ _) (λobj=>FF.init_args obj _ _) FF.entry_new (Yy l us n) ⟨L,?_⟩
 have R1:=R.push (c:=.liter l 0) (s':={s with heap:=s.heap.push {cls:=.type "list_iterator",data:=.fields #[.ref l,.int 0 0]}}) (λ_ _ e=>An _ e) rfl rfl ⟨_,Bj _ rfl,rfl,rfl⟩
 have R2:=R1.push (c:=.raw (Tf s.heap.objs.size)) (s':={s with heap:=(s.heap.push {cls:=.type "list_iterator",data:=.fields #[.ref l,.int 0 0]}).push (Tf s.heap.objs.size)}) (λ_ _ e=>An _ e) rfl rfl (Bj _ rfl)
 exact⟨⟨_,Bj _ rfl,rfl⟩,_,R2,h _ _⟩
noncomputable abbrev yT:=List (Am×List Ab)
noncomputable def Ui (ps:yT):yT:=ps.filter λp=>!p.2.isEmpty
noncomputable def kR (f it l:Am) (i:Nat):List Av:=[(.obj f,.raw (Tf it)),(.obj it,.liter l i)]
theorem jT {W τ:List Av} {l f it:Am} {ps:yT} {R:Le->Be->Prop} (hh:A.handled=Ae) (hm:(.obj l,.list (ps.map λp=>.ref p.1))∈(⟨W,τ⟩:Bc).all) (hp:∀p∈ps,(.obj p.1,.list p.2)∈(⟨W,τ⟩:Bc).all/\p.2.length<=1000000):
  ∀(rest:yT) (i:Nat),rest=ps.drop i->i<=ps.length->∀s,Eg Γ ⟨W,kR f it l i++τ⟩ s->
  (∀p j s',Ui rest=p::Ui (ps.drop j)->j<=ps.length->Eg Γ ⟨W,kR f it l j++τ⟩ s'->R (.ok (.ret (.ref p.1))) s')->
  (Ui rest=[]->∀e s',(∃o,s'.heap.get? e=Ad o/\o.cls=.type "StopIteration")->Eg Γ ⟨W,τ⟩ s'->R (.error (.ref e)) s')->
  Cu (Ci Γ.prog Γ.w) A.in1 (Ee.«filter.__next__» ⟨[.ref f],[]⟩) (λfin s'=>match fin with|.done fl=>R (.ok fl) s'|.again c'=>c'.quiet=true/\Kg (Ci Γ.prog Γ.w) A c' R s') (λe s'=>R (.error e) s') s:=by
 intro rest
 induction rest with
 |nil=>
  intro i e hi s R0 _ he
  have hlen:i=ps.length:=Nat.le_antisymm hi (List.drop_eq_nil_iff.mp e.symm)
  have gf:s.heap.get? f=Ad (Tf it):=(R0.ents _ (Ag (.head _))).1
  have gi:s.heap.IsListIter it l i:=(R0.ents _ (Ag (.tail _ (.head _)))).1
  obtain⟨us,n,L,e2⟩:=Ie R0 (Bt hm)
  have hsz:=Ct e2
  unfold Ee.«filter.__next__»
  refine Af (Ax ?_)
  refine Af (Gu gf rfl (x:=.none) rfl ?_)
  refine Af (Gu gf rfl (x:=.ref it) rfl ?_)
  refine Af (Yx hh gi L.isList (by rw [Mp];rw [hsz];simp;lia) λh' e' hx ho=>?_)
  refine he rfl e' _ ho ?_
  have R1:Eg Γ ⟨W,(.obj it,.liter l i)::τ⟩ s:=Av.le_sub (.cons _ (.refl _)) _ _ R0
  exact Eg.dropObj (s':={s with heap:=h'}) R1 rfl hx rfl rfl
 |cons p r ih=>
  intro i e hi s R0 hs he
  have hlt:i < ps.length:=by
   rcases Oh i ps.length with h|h
   ·exact h
   ·rw [List.drop_eq_nil_of_le h]at e;cases e
  rw [List.drop_eq_getElem_cons hlt,Ij]at e
  obtain⟨e1,e3⟩:=e
  have hpm:p∈ps:=e1▸List.getElem_mem hlt
  have gf:s.heap.get? f=Ad (Tf it):=(R0.ents _ (Ag (.head _))).1
  have gi:s.heap.IsListIter it l i:=(R0.ents _ (Ag (.tail _ (.head _)))).1
  obtain⟨us,n,L,e2⟩:=Ie R0 (Bt hm)
  obtain⟨u,hu,eu⟩:=Hk (i:=i) (v:=.ref p.1) e2 (by rw [Bg,Bp hlt,<-e1];rfl)
  have:=Ch eu
  subst this
  unfold Ee.«filter.__next__»
  refine Af (Ax ?_)
  refine Af (Gu gf rfl (x:=.none) rfl ?_)
  refine Af (Gu gf rfl (x:=.ref it) rfl ?_)
  refine Af (Xv gi L.isList hu λh' hi' hsb=>?_)
  have R1:Eg Γ ⟨W,kR f it l (i+1)++τ⟩ {s with heap:=h'}:=Eg.changeS (s':={s with heap:=h'}) (c':=.liter l (i+1)) R0 (.tau (.there .here)) rfl hsb.extBut rfl rfl hi'
  have T1:=Vr (Γ:=Γ) (A:=A.in1) (σ:=⟨W,kR f it l (i+1)++τ⟩) (v:=.ref p.1) (a:=p.1) (vs:=p.2) (Q:=λb σ=>b=(!p.2.isEmpty)/\σ=⟨W,kR f it l (i+1)++τ⟩) rfl (.of_mem (Bt (hp p hpm).1)) (hp p hpm).2 ⟨rfl,rfl⟩
  refine Af (Ef ?_)
  rw [if_pos (by decide)]
  refine Af (Lf (Oe (T1.elim R1 λb s₂ σ₂ R₂ zz=>?_)))
  obtain⟨hb,hσ⟩:=zz
  subst hσ
  have hb':b=!p.2.isEmpty:=hb
  cases hq:p.2.isEmpty with
  |false=>
   rw [hq]at hb'
   rw [hb',if_pos (by decide)]
   refine Ax (hs p (i+1) s₂ ?_ hlt R₂)
   unfold Ui
   rw [Gq,if_pos (by simp [hq]),<-e3]
  |true=>
   rw [hq]at hb'
   rw [hb',if_neg (by decide)]
   have hn:Ui (p::r)=Ui r:=by unfold Ui;rw [Gq,if_neg (by simp [hq])]
   refine Ax ⟨Jt FF.plain_next _,Hn FF.entry_next ?_⟩
   rw [Gb FF.plain_next _]
   exact ih (i+1) e3 hlt s₂ R₂ (λq j s' h1 h2 h3=>hs q j s' (hn.trans h1) h2 h3) (λh1=>he (hn.trans h1))
theorem jW {W:List Av} {l f it:Am} {ps:yT} (hh:A.handled=Ae) (hz:∀p∈ps,p.2.length<=1000000):
  ∀(n i:Nat),ps.length - i=n->i<=ps.length->Lj Γ A f (λσ=>(.obj l,.list (ps.map λp=>.ref p.1))∈σ.all/\∀p∈ps,(.obj p.1,.list p.2)∈σ.all) ((Ui (ps.drop i)).map λp=>.ref p.1) (kR f it l i):=by
 have step:∀i,i<=ps.length->∀σ,(.obj l,.list (ps.map λp=>.ref p.1))∈σ.all/\(∀p∈ps,(.obj p.1,.list p.2)∈σ.all)->∀Q:Option Ab->Bc->Prop,
   (∀p j,Ui (ps.drop i)=p::Ui (ps.drop j)->j<=ps.length->Q (Ad (.ref p.1)) ⟨σ.W,kR f it l j++σ.τ⟩)->(Ui (ps.drop i)=[]->Q Ae σ)->T Γ A ⟨σ.W,kR f it l i++σ.τ⟩ (Ls (.ref f)) Q:=by
  intro i hi σ hG Q hs he s R
  have gf:s.heap.get? f=Ad (Tf it):=(R.ents _ (Ag (.head _))).1
  have hT:s.TypeIs (.ref f) "filter" :=⟨_,gf,rfl⟩
  unfold Ls
  let RR:Le->Be->Prop:=λr s'=>match r with
   |.ok (.ret v)=>fL Γ Q (Ad (cl v)) s'
   |.ok _=>False
   |.error e=>(∃a o,e=.ref a/\s'.heap.get? a=Ad o/\o.cls=.type "StopIteration")/\fL Γ Q Ae s'
  have main:Kg (Ci Γ.prog Γ.w) A (.call (.builtin "filter.__next__") ⟨[.ref f],[]⟩) RR s:=by
   refine Lb FF.slot_next.plain FF.entry_next (FF.slot_next.check _ _ _ _ _ _ _ _ hT (FF.args_next _) ?_)
   refine jT (R:=RR) hh hG.1 (λp hp=>⟨hG.2 p hp,hz p hp⟩) _ i rfl hi s R (λp j s' h1 h2 h3=>⟨_,h3,hs p j h1 h2⟩) λh1 e s' ⟨o,ho,hc⟩ h3=>⟨⟨e,o,rfl,ho,hc⟩,_,h3,he h1⟩
  refine Af (wpAny_attempt (Hw (name:=Kv "__next__") hT FF.slot_next (No (Jn main λr s' z=>?_))))
  rcases r with e|(v|_|_|_)
  ·obtain⟨⟨a,o,rfl,ho,hc⟩,z⟩:=z
   refine Af (wpAny_isInstance (T:="StopIteration") (b:=true) ⟨o,ho,hc⟩ isSubtype_stop ?_)
   exact Ax z
  all_goals first|exact False.elim z|exact Ax z
 intro n
 induction n using Nat.strongRecOn with
 |_ n ih=>
  intro i hn hi
  cases hq:Ui (ps.drop i)with
  |nil=>exact λσ hG=>step i hi σ hG _ (λp j h1 _=>by rw [hq]at h1;cases h1) λ_=>⟨rfl,rfl⟩
  |cons p r=>
   refine λσ hG=>step i hi σ hG _ (λp' j h1 h2=>?_) λh1=>by rw [hq]at h1;cases h1
   rw [hq,Ij]at h1
   obtain⟨rfl,h1⟩:=h1
   have hj:i < j:=by
    rcases Oh i j with h|h
    ·exact h
    ·exfalso
     have e1:(Ui (ps.drop i)).length<=(Ui (ps.drop j)).length:=by
      have:ps.drop i=(ps.drop j).drop (i - j):=by rw [List.drop_drop];congr 1;lia
      rw [this]
      exact((List.drop_sublist _ _).filter _).length_le
     rw [hq,<-h1,Fy]at e1
     lia
   refine⟨rfl,kR f it l j,rfl,λtarget u s R=>?_,?_⟩
   ·have gf:s.heap.get? f=Ad (Tf it):=(R.ents _ (Ag (.head _))).1
    exact Wx gf rfl (by decide) ⟨_,R,rfl⟩
   ·have:=ih (ps.length - j) (by lia) j rfl h2
    rw [<-h1]at this
    exact this
end
end
section
open AutoSeq1 (Pg)
section
variable {Γ:Bm} {A:Az} {σ:Bc}
theorem uS {W τ:List Av} {S it:Am} {res:Ab} {G:Bc->Prop} {R:Le->Be->Prop} (hG:∀ys,G ⟨W,(.obj S,.list ys)::τ⟩):∀(vs:List Ab) (ρ:List Av) (acc:List Ab) (s:Be),Lj Γ A.in1 it G vs ρ->acc.length+vs.length<=1000000->
  Eg Γ ⟨W,ρ++((.obj S,.list acc)::τ)⟩ s->(∀s',Eg Γ ⟨W,(.obj S,.list (acc++vs))::τ⟩ s'->R (.ok (.ret res)) s')->
  Kg (Ci Γ.prog Γ.w) A (.builtin "list.extend.loop" ⟨[.ref S,.ref it,res],[]⟩) R s:=by
 intro vs
 induction vs with
 |nil=>
  intro ρ acc s Y hz R0 hR
  refine Hn F.entry_extend_loop ?_
  rw [Gb Lm _]
  show Cu _ A.in1 (Ls (.ref it)>>=_) _ _ s
  exact Af (Y.stop (hG acc) R0 λs₁ R₁=>Ax (hR s₁ (by rw [Cr];exact R₁)))
 |cons v vs ih=>
  intro ρ acc s Y hz R0 hR
  refine Hn F.entry_extend_loop ?_
  rw [Gb Lm _]
  show Cu _ A.in1 (Ls (.ref it)>>=_) _ _ s
  refine Af (Y.more (hG acc) R0 λu ρ' s₁ eu R₁ _ Y'=>?_)
  ·obtain⟨us,n,L,e2⟩:=Ie R₁ (Ag (fO (.head _)):((.obj S,.list acc):Av)∈_)
   have hsz:=Ct e2
   show Cu _ A.in1 (updateSeq S (·.push u)>>=_) _ _ _
   refine Af ?_
   simp only [Fy]at hz
   refine Pf L rfl (Ax ⟨Jt Lm _,?_⟩) (by rw [hsz,Ay];lia) (by show(us.push u).size<=Gn+1;rw [Array.size_push,hsz,Ay];lia)
   have R2:Eg Γ ⟨W,ρ'++((.obj S,.list (acc++[v]))::τ)⟩ {s₁ with heap:=s₁.heap.update S (Mk (·.push u))}:=
    Eg.changeS (s':={s₁ with heap:=s₁.heap.update S (Mk (·.push u))}) R₁ (.tau (Ri.pre .here)) rfl (Dk ..).extBut rfl rfl ⟨_,_,L.update _,by simp [e2,eu]⟩
   refine ih ρ' (acc++[v]) _ Y' (by simp;lia) R2 λs' R'=>hR s' ?_
   rw [Ba]at R'
   exact R'
theorem jY {W τ:List Av} {S x:Am} {Tn:String} {res:Ab} {vs:List Ab} {R:Le->Be->Prop} {s:Be} (hne:S≠x) (h1:(Hd Tn==Hd "list")=false) (h2:(Hd Tn==Hd "tuple")=false)
  (hT:∀s,Eg Γ ⟨W,(.obj S,.list [])::τ⟩ s->s.TypeIs (.ref x) Tn) (hz:vs.length<=1000000)
  (hI:T Γ A.in1 ⟨W,(.obj S,.list [])::τ⟩ (Ib (.ref x)) λc σ'=>∃it ρ τ' G,c=.ref it/\σ'=⟨W,ρ++((.obj S,.list [])::τ')⟩/\Lj Γ A.in1 it G vs ρ/\(∀ys,G ⟨W,(.obj S,.list ys)::τ'⟩)/\
   (∀s,Eg Γ ⟨W,ρ++((.obj S,.list [])::τ')⟩ s->∀{Q:Bool->Be->Prop} {E:Ab->Be->Prop},(∀b,Q b s)->Cu (Ci Γ.prog Γ.w) A.in1 (Jp (.ref x)) Q E s)/\
   ∀s',Eg Γ ⟨W,(.obj S,.list vs)::τ'⟩ s'->R (.ok (.ret res)) s') (R0:Eg Γ ⟨W,(.obj S,.list [])::τ⟩ s):
  Cu (Ci Γ.prog Γ.w) A.in1 (Hy (.ref S) (.ref x) res)
   (λfin s'=>match fin with|.done f=>R (.ok f) s'|.again c'=>c'.quiet=true/\Kg (Ci Γ.prog Γ.w) A c' R s') (λe s'=>R (.error e) s') s:=by
 unfold Hy
 refine Af (wpAny_typeOf (hT s R0) ?_)
 have h0:Lh (.ref S) (.ref x)=false:=by simp [Lh,hne]
 simp only [h0,h1,h2,Bool.or_false,Hs,if_false]
 refine Af (Oe (Ec (hI s R0) (λv s₁ zz=>?_) λ_ _ x=>x))
 obtain⟨σ₁,R₁,it,ρ,τ',G,e,e',Y,hG,hint,fin⟩:=zz
 have:=Ch e
 subst this
 subst e'
 refine Af (Ef (hint s₁ R₁ λb=>?_))
 have loop:∀s₂,Eg Γ ⟨W,ρ++((.obj S,.list [])::τ')⟩ s₂->Kg (Ci Γ.prog Γ.w) A (.builtin "list.extend.loop" ⟨[.ref S,.ref it,res],[]⟩) R s₂:=λs₂ R₂=>
  uS hG vs ρ [] s₂ Y (by simpa using hz) R₂ fin
 split
 ·refine Af (Lf (Af ?_))
  obtain⟨us,n,L,e2⟩:=Ie R₁ (Ag (fO (.head _)):((.obj S,.list []):Av)∈_)
  have hus:us=#[]:=by
   have:=Ct e2
   exact Array.eq_empty_of_size_eq_zero (by simpa using this)
  subst hus
  show Cu _ A.in1 (updateSeq S (·.push .none)>>=λ_=>updateSeq S (·.pop)) _ _ _
  refine Af (Pf L rfl ?_)
  have hS₂:=Dz (Mk (·.push Dq)) L rfl
  refine Pf (hz:=by seq_fits) hS₂ rfl ?_
  have hS₃:=Dz (Mk (·.pop)) hS₂ rfl
  refine Ax ⟨Jt Lm _,loop _ ?_⟩
  exact Eg.changeS (s':={s₁ with heap:=(s₁.heap.update S (Mk (·.push Dq))).update S (Mk (·.pop))}) (c:=.list []) (c':=.list []) R₁ (.tau (Ri.pre .here)) rfl ((Dk ..).trans (Dk ..)).extBut rfl rfl ⟨_,_,hS₃,by simp⟩
 ·exact Ax ⟨Jt Lm _,loop _ R₁⟩
theorem kI {W τ:List Av} {x:Am} {Tn:String} {vs:List Ab} {Q:Ab->Bc->Prop} (h1:(Hd Tn==Hd "list")=false) (h2:(Hd Tn==Hd "tuple")=false)
  (hT:∀s,Eg Γ ⟨W,τ⟩ s->s.TypeIs (.ref x) Tn) (hz:vs.length<=1000000)
  (hI:∀S,S≠x->T Γ A.in1.in1 ⟨W,(.obj S,.list [])::τ⟩ (Ib (.ref x)) λc σ'=>∃it ρ τ' G,c=.ref it/\σ'=⟨W,ρ++((.obj S,.list [])::τ')⟩/\Lj Γ A.in1.in1 it G vs ρ/\(∀ys,G ⟨W,(.obj S,.list ys)::τ'⟩)/\
   (∀s,Eg Γ ⟨W,ρ++((.obj S,.list [])::τ')⟩ s->∀{Q:Bool->Be->Prop} {E:Ab->Be->Prop},(∀b,Q b s)->Cu (Ci Γ.prog Γ.w) A.in1.in1 (Jp (.ref x)) Q E s)/\
   Q (.ref S) ⟨W,(.obj S,.list vs)::τ'⟩):∀ws,ws.map cl=[.ref x]->T Γ A ⟨W,τ⟩ (Iq (.type "list") ws) Q:=λws hw s R=>by
 obtain⟨w₀,rfl,e0⟩:=Iz hw
 have:=Ch e0
 subst this
 have hne:s.heap.objs.size≠x:=λe=>by
  obtain⟨o,ho,_⟩:=hT s R
  exact Nat.lt_irrefl _ (e▸Dw ho)
 refine callType_codes (Q₁:=λobj s₁=>obj=.ref s.heap.objs.size/\s₁={s with heap:=s.heap.push {cls:=.type "list",data:=.seq #[]}}) F.called_list (F.typeCall_list_1 _) F.entry_list_init
  (code_list_new _ ⟨rfl,rfl⟩) λobj s₁ h₁=>?_
 obtain⟨rfl,rfl⟩:=h₁
 have hS:(s.heap.push {cls:=.type "list",data:=.seq #[]}).get? s.heap.objs.size=Ad {cls:=.type "list",data:=.seq #[]}:=Bj _ rfl
 refine⟨⟨_,hS,rfl⟩,F.args_list_init_2 _ _,?_⟩
 have R1:Eg Γ ⟨W,(.obj s.heap.objs.size,.list [])::τ⟩ {s with heap:=s.heap.push {cls:=.type "list",data:=.seq #[]}}:=R.push (c:=.list []) (s':={s with heap:=s.heap.push {cls:=.type "list",data:=.seq #[]}}) (λ_ _ e=>An _ e) rfl rfl ⟨#[],0,hS,rfl⟩
 show Cu _ A.in1.in1 (do let old<-Qv (.ref s.heap.objs.size);Ee.List.listUpdate (.ref s.heap.objs.size) (λ_=>#[]);letGo old.toList.reverse;Hy (.ref s.heap.objs.size) (.ref x) .none) _ _ _
 refine Af ?_
 unfold Qv
 refine Af (Qq hS rfl (Ax ?_))
 show Cu _ A.in1.in1 (updateSeq s.heap.objs.size (λ_=>#[])>>=λ_=>letGo (#[]:Array Ab).toList.reverse>>=λ_=>Hy (.ref s.heap.objs.size) (.ref x) .none) _ _ _
 refine Af (Pf hS rfl ?_)
 have hS₂:=Dz (Mk (λ_=>(#[]:Array Ab))) hS rfl
 have R2:Eg Γ ⟨W,(.obj s.heap.objs.size,.list [])::τ⟩ {s with heap:=(s.heap.push {cls:=.type "list",data:=.seq #[]}).update s.heap.objs.size (Mk (λ_=>#[]))}:=
  Eg.changeS (s':={s with heap:=(s.heap.push {cls:=.type "list",data:=.seq #[]}).update s.heap.objs.size (Mk (λ_=>#[]))}) (c:=.list []) (c':=.list []) R1 (.tau .here) rfl (Dk ..).extBut rfl rfl ⟨_,_,hS₂,rfl⟩
 refine Af (wpAny_letGo ?_)
 have:=jY (A:=A.in1) (res:=.none) (R:=wants (λr s₂=>r=.none/\fL Γ Q (.ref s.heap.objs.size) s₂) (λ_ _=>False)) hne h1 h2 (λs' R'=>hT s' (Av.le_sub (.cons _ (.refl _)) _ _ R')) hz
  ((hI s.heap.objs.size hne).mono λc σ' ⟨it,ρ,τ',G,a1,a2,a3,a4,a5,a6⟩=>⟨it,ρ,τ',G,a1,a2,a3,a4,a5,λs' R'=>⟨rfl,_,R',a6⟩⟩) R2
 exact this
end
end
section
section
variable {Γ:Bm} {A:Az} {σ:Bc} {env:Env}
noncomputable abbrev Tt (C acc:Am) (x:Str) (o:Option Ab) (ys:List Ab) (τ:List Av):List Av:=(.obj C,.fr [(x,o)])::(.obj acc,.list ys)::τ
theorem jC {x:Str} {xp:Pos} {scope:Li} {cl₀:List (Str×Am)} (hl:scope.kind=.function/\(Lp scope cl₀ 0 env).Kj x=Ad .local):∀C u o W ρ r,T Γ A ⟨W,ρ++Te (λo=>[(x,o)]) (λ_ _=>[]) C o r⟩ (Ir (.Name x xp) (Lp scope cl₀ C env) u) λ_ σ=>σ=⟨W,ρ++Te (λo=>[(x,o)]) (λ_ _=>[]) C (Ad (cl u)) r⟩:=
 λC u o W ρ r=>Ta (env:=Lp scope cl₀ C env) (m':=[(x,Ad (cl u))]) rfl .here (.tau (Ri.pre .here)) rfl hl.1 hl.2
theorem Tx {x:Str} {elt iter:At} {ifs:List At} {scope:Li} {pos xp:Pos} {cl₀:List (Str×Am)} {Q:Ab->Bc->Prop}
  (h:T Γ A σ (Dv iter env) (P1 Γ A Ib (eH Γ A (λC acc o ys τ=>Tt C acc x o ys τ) (λC=>Lp scope cl₀ C env) ifs elt Q)))
  (hcells:autoParam (∀C,Fk (C+1) scope.names []=[]) aI) (hl:autoParam (scope.kind=.function/\(Lp scope cl₀ 0 env).Kj x=Ad .local) aP)
  (hclos:autoParam (Kc scope env=Et cl₀) aR) (hkind:autoParam (scope.kind=.function) aR) (hnames:autoParam ((scope.names.all λx=>x.2 != .local||scope.names.lookup x.1==Ad .local)=true) aR)
  (hs:autoParam (∀x,Dx iter env x=Et x) aI) (ht:autoParam (∀it v,Dr (.Name x xp) it v=Et ()) aI):
  T Γ A σ (Dv (.ListComp elt [⟨.Name x xp,iter,ifs,0⟩] scope pos) env) Q:=by
 rw [eval_ListComp]
 exact Yr (use:=Ae) (λo=>[(x,o)]) (λ_ _=>[]) h (λ_ _ _ _ _ h=>h) (λp hp=>by cases Bi.mp hp;rfl) (Fe.mpr ⟨List.not_mem_nil,.nil⟩) (λC=>by rw [hcells];rfl) (jC hl) hclos hkind hnames hs ht
theorem Nx {x y:Str} {elt iter:At} {ifs:List At} {scope:Li} {py pos spos xp:Pos} {cl₀:List (Str×Am)} {Q:Ga->Bc->Prop}
  (h:T Γ A σ (Dv iter env) (P1 Γ A Ib (eH Γ A (λC acc o ys τ=>Tt C acc x o ys τ) (λC=>Lp scope cl₀ C env) ifs elt (kY (.var env.locals y) .val Q))))
  (hcells:autoParam (∀C,Fk (C+1) scope.names []=[]) aI) (hlx:autoParam (scope.kind=.function/\(Lp scope cl₀ 0 env).Kj x=Ad .local) aP)
  (hk:autoParam (env.scope.kind=.function) aR) (hl:autoParam (env.kindOf y=Ad .local) aR)
  (hsw:autoParam (Lz (.ListComp elt [⟨.Name x xp,iter,ifs,0⟩] scope pos) (Ad (.Name y py)) spos.line env=Et true) aR)
  (hclos:autoParam (Kc scope env=Et cl₀) aR) (hkind:autoParam (scope.kind=.function) aR) (hnames:autoParam ((scope.names.all λx=>x.2 != .local||scope.names.lookup x.1==Ad .local)=true) aR)
  (hs:autoParam (∀x,Dx iter env x=Et x) aI) (ht:autoParam (∀it v,Dr (.Name x xp) it v=Et ()) aI):
  T Γ A σ (Ni (.Assign [.Name y py] (.ListComp elt [⟨.Name x xp,iter,ifs,0⟩] scope pos) spos) env) Q:=
 qZ hsw (Yr (λo=>[(x,o)]) (λ_ _=>[]) h (rD hk hl) (λp hp=>by cases Bi.mp hp;rfl) (Fe.mpr ⟨List.not_mem_nil,.nil⟩) (λC=>by rw [hcells];rfl) (jC hlx) hclos hkind hnames hs ht)
theorem Wr {x:Str} {elt iter:At} {ifs:List At} {scope:Li} {pos xp:Pos} {cl₀:List (Str×Am)} {Q:Ab->Bc->Prop}
  (h:T Γ A σ (Dv iter env) (P1 Γ A Ib (Yi Γ A (λC acc o ys τ=>Tt C acc x o ys τ) (λC=>Lp scope cl₀ C env) ifs elt Q)))
  (hcells:autoParam (∀C,Fk (C+1) scope.names []=[]) aI) (hl:autoParam (scope.kind=.function/\(Lp scope cl₀ 0 env).Kj x=Ad .local) aP)
  (hclos:autoParam (Kc scope env=Et cl₀) aR) (hkind:autoParam (scope.kind=.function) aR) (hnames:autoParam ((scope.names.all λx=>x.2 != .local||scope.names.lookup x.1==Ad .local)=true) aR)
  (hs:autoParam (∀x,Dx iter env x=Et x) aI) (ht:autoParam (∀it v,Dr (.Name x xp) it v=Et ()) aI):
  T Γ A σ (Dv (.ListComp elt [⟨.Name x xp,iter,ifs,0⟩] scope pos) env) Q:=Tx (h.mono λc σ₁ q v hv=>(q v hv).mono λ_ _=>Yi.to) hcells hl hclos hkind hnames hs ht
theorem dA {x y:Str} {elt iter:At} {ifs:List At} {scope:Li} {py pos spos xp:Pos} {cl₀:List (Str×Am)} {Q:Ga->Bc->Prop}
  (h:T Γ A σ (Dv iter env) (P1 Γ A Ib (Yi Γ A (λC acc o ys τ=>Tt C acc x o ys τ) (λC=>Lp scope cl₀ C env) ifs elt (kY (.var env.locals y) .val Q))))
  (hcells:autoParam (∀C,Fk (C+1) scope.names []=[]) aI) (hlx:autoParam (scope.kind=.function/\(Lp scope cl₀ 0 env).Kj x=Ad .local) aP)
  (hk:autoParam (env.scope.kind=.function) aR) (hl:autoParam (env.kindOf y=Ad .local) aR)
  (hsw:autoParam (Lz (.ListComp elt [⟨.Name x xp,iter,ifs,0⟩] scope pos) (Ad (.Name y py)) spos.line env=Et true) aR)
  (hclos:autoParam (Kc scope env=Et cl₀) aR) (hkind:autoParam (scope.kind=.function) aR) (hnames:autoParam ((scope.names.all λx=>x.2 != .local||scope.names.lookup x.1==Ad .local)=true) aR)
  (hs:autoParam (∀x,Dx iter env x=Et x) aI) (ht:autoParam (∀it v,Dr (.Name x xp) it v=Et ()) aI):
  T Γ A σ (Ni (.Assign [.Name y py] (.ListComp elt [⟨.Name x xp,iter,ifs,0⟩] scope pos) spos) env) Q:=Nx (h.mono λc σ₁ q v hv=>(q v hv).mono λ_ _=>Yi.to) hcells hlx hk hl hsw hclos hkind hnames hs ht
end
end
section
section
variable {Γ:Bm} {A:Az} {G:List Nd} {σ:Bc}
theorem jV {s:Be} {f:Am} {Q:Bool->Be->Prop} {E:Ab->Be->Prop} {M:Model} (hT:s.TypeIs (.ref f) "filter") (h:∀b,Q b s):Cu M A (Jp (.ref f)) Q E s:=by
 unfold Jp
 refine Af (wpAny_specialOf hT FF.no_len ?_)
 show Cu _ A (specialOf (Bx f) (Kv "__length_hint__")>>=_) _ _ _
 refine Af (wpAny_specialOf hT FF.no_hint ?_)
 exact Ax (h _)
theorem jU {W τ:List Av} {f it l:Am} {i:Nat}:T Γ A ⟨W,kR f it l i++τ⟩ (Ib (.ref f)) λc σ'=>c=.ref f/\σ'=⟨W,kR f it l i++τ⟩:=λs R=>by
 have gf:s.heap.get? f=Ad (Tf it):=(R.ents _ (Ag (.head _))).1
 have hT:s.TypeIs (.ref f) "filter" :=⟨_,gf,rfl⟩
 refine wpAny_pyIter_slot hT FF.slot_iter (Md FF.slot_iter hT FF.entry_iter ?_ (FF.args_iter _))
 show Cu _ _ (ret (.ref f)) _ _ s
 exact Ax ⟨_,rfl,"filter",_,hT,FF.slot_next.lookup,_,R,rfl,rfl⟩
theorem dU {W τ:List Av} {f it l:Am} {ps:yT} {Q:Ab->Bc->Prop} (hh:A.handled=Ae) (hz:∀p∈ps,p.2.length<=1000000) (hn:ps.length<=1000000) (hm:(.obj l,.list (ps.map λp=>.ref p.1))∈(⟨W,τ⟩:Bc).all) (hp:∀p∈ps,(.obj p.1,.list p.2)∈(⟨W,τ⟩:Bc).all)
  (h:∀r,Q (.ref r) ⟨W,(.obj r,.list ((Ui ps).map λp=>.ref p.1))::τ⟩):∀ws,ws.map cl=[.ref f]->T Γ A ⟨W,kR f it l 0++τ⟩ (Iq (.type "list") ws) Q:=by
 have hT:∀s τ',Eg Γ ⟨W,kR f it l 0++τ'⟩ s->s.TypeIs (.ref f) "filter" :=λs τ' R=>⟨_,(R.ents _ (Ag (.head _))).1,rfl⟩
 refine kI (Tn:="filter") (vs:=(Ui ps).map λp=>.ref p.1) (by decide) (by decide) (λs R=>hT s τ R) ?_ λS hS=>?_
 ·rw [As];exact Ca (By _ _) hn
 ·have perm:Av.le ⟨W,kR f it l 0++((.obj S,.list [])::τ)⟩ ⟨W,(.obj S,.list [])::(kR f it l 0++τ)⟩:=Av.le_perm (Bf W Fl.symm)
  refine T.conseq perm (jU.mono λc σ' ⟨e1,e2⟩=>⟨f,kR f it l 0,τ,(λσ:Bc=>(.obj l,.list (ps.map λp=>.ref p.1))∈σ.all/\∀p∈ps,(.obj p.1,.list p.2)∈σ.all),e1,by rw [e2],?_,λys=>⟨Eh hm,λp hp'=>Eh (hp p hp')⟩,λs R Q E hq=>jV (hT s _ R) hq,h S⟩)
  have:=jW (Γ:=Γ) (A:=A.in1.in1) (W:=W) (l:=l) (f:=f) (it:=it) (ps:=ps) hh hz ps.length 0 (by lia) (Cg _)
  rwa [List.drop_zero]at this
noncomputable def eB (G:List Nd):Option Nat->Ab
 |Ae=>.none
 |Ad j=>.ref (Gd G j)
noncomputable def Ts (ig:Option Nat) (l:List Nat):List Nat:=l.filter λk=>decide (Ad k≠ig)
noncomputable def Vt (ig:Option Nat) (ls:List (List Nat)):List (List Nat):=(ls.map (Ts ig)).filter λl=>!l.isEmpty
theorem nM {W τ:List Av} {u v:Ab} {k:Nat} {ig:Option Nat} {Q:Ab->Bc->Prop} (nf:NF W G) (J:pB G) (hk:k < G.length) (hig:∀j,ig=Ad j->j < G.length) (hu:cl u=.ref (Gd G k)) (hv:cl v=eB G ig) (h:Q (.bool (decide (Ad k≠ig))) ⟨W,τ⟩):T Γ A ⟨W,τ⟩ (El .IsNot u v) Q:=by
 cases ig with
 |Ae=>exact Xq hu hv rfl h
 |Ad j=>
  have hj:=hig j rfl
  obtain⟨x,ex⟩:=Dp hk
  obtain⟨y,ey⟩:=Dp hj
  rw [Bu ex]at hu
  have hv':cl v=.ref y.me:=by rw [<-Bu ey];exact hv
  refine Zr hu hv' (Pj (nf.inst _ _ ex)) (Pj (nf.inst _ _ ey)) ?_
  have:=J.beq hk hj
  rw [Bu ex,Bu ey]at this
  rw [this]
  have e:(!(k==j))=decide (Ad k≠Ad j):=by by_cases h:k=j<;>simp [h]
  rw [e];exact h
theorem zQ (Γ:Bm):Γ.K.lookup 163=Ad ⟨.type "function",Ae,.func (Kh Γ 163 "C3._nonempty_bases_ignoring" (clsStmt 8 9) (.ref 162) .none),#[]⟩:=by kernel_rfl
noncomputable abbrev kS (L a:Am) (v:Ab) (τ:List Av):List Av:=(.obj (L+1),.cell (Ad v))::(.var L "base_tree",.val (Ad (.ref a)))::τ
theorem iJ (ig:Option Nat) (l:List Nat):(Ts ig l).length<=l.length:=By _ _
theorem tP {ig:Option Nat} {l:List Nat} {j:Nat} (h:decide (Ad j≠ig)=true):Ts ig (l++[j])=Ts ig l++[j]:=by
 unfold Ts
 rw [Ff,Gq,h]
 rfl
theorem wI {ig:Option Nat} {l:List Nat} {j:Nat} (h:decide (Ad j≠ig)=false):Ts ig (l++[j])=Ts ig l:=by
 unfold Ts
 rw [Ff,Gq,h]
 exact Cr _
noncomputable abbrev Tr.prs (G:List Nd) (ps:Tr):yT:=ps.map λp=>(p.1,Ap G p.2)
theorem Aab {W τ:List Av} {a:Am} {ig:Option Nat} {ls:List (List Nat)} {Q:Ab->Bc->Prop} (nf:NF W G) (J:pB G) (hA:Rm A 1) (hh:A.handled=Ae) (hT:Sr G ⟨W,τ⟩ a ls) (hl:∀l∈ls,l.length<=1000/\∀i∈l,i < G.length) (hn:ls.length<=1000) (hig:∀j,ig=Ad j->j < G.length)
  (h:∀r ρ,Sr G ⟨[],ρ⟩ r (Vt ig ls)->Q (.ref r) ⟨W,ρ++τ⟩):∀ws,ws.map cl=[.ref a,eB G ig]->TC Γ A ⟨W,τ⟩ (.ref 163) ws [] Q:=λws hw=>by
 obtain⟨ps,hm,he,hr⟩:=hT
 rw [<-he,As]at hn
 refine Wm (body:=fBody (clsStmt 8 9)) (bs:=[("base_tree",.ref a),("ignoring",eB G ig)]) ["base_tree"] (zQ Γ) (by kernel_rfl) hA.room (Hb.plain2 λ_ _ _=>Cm (by rfl)) (λL=>?_) (by rfl) (by decide) (by decide) (by rfl) (by rfl) (by rfl) ws [] hw rfl
 show T Γ (A.deeper (Gs "C3._nonempty_bases_ignoring" (fScope (clsStmt 8 9)) L 163 (.ref 162) [("ignoring",L+1)])) ⟨W,kS L a (eB G ig) τ⟩ (Cs _ (Gs "C3._nonempty_bases_ignoring" (fScope (clsStmt 8 9)) L 163 (.ref 162) [("ignoring",L+1)])) _
 have up:∀{q ρ},q∈(⟨W,τ⟩:Bc).all->q∈(⟨W,ρ++kS L a (eB G ig) τ⟩:Bc).all:=λ{q ρ} hq=>Bt (Bt (ρ:=[_,_]) hq)
 refine Ao (Fp (Cf (Bd (v:=.type "list") (by kernel_rfl) (by decide+kernel) (by decide) ⟨.inr (.inr ⟨_,rfl⟩),?_⟩)))
 refine Ai (Cf (Bd (v:=.type "filter") (by kernel_rfl) (by decide+kernel) (by decide) ⟨.inr (.inr ⟨_,rfl⟩),?_⟩))
 refine Ai (Ka (k:=0) (pos:=⟨0,0,0,0⟩) (Ai ?_))
 refine Wr (Ac (v:=.ref a) (mI 1 rfl) (Em (vs:=ps.vs) (up (ρ:=[]) hm) λit=>?_))
 refine⟨λp:Am×List Nat=>.ref p.1,ps,it,_,_,λ_ _=>W,λ_ z=>z.2++kS L a (eB G ig) τ,λ_ z=>Tr.vs z.1,λd z=>z.1.map (·.2)=d.map (λp=>Ts ig p.2)/\∀p∈z.1,(.obj p.1,.list (Ap G p.2))∈z.2,(([]:Tr),([]:List Av)),⟨rfl,rfl,Ey hh⟩,Hc,⟨rfl,λ_ h=>nomatch h⟩,rfl,
  λd z ext _=>Bt (up hm),λd r z e hJ=>?_,λC acc d p r ρ z e hJ=>?_,λacc z hJ=>?_⟩
 ·have e1:=congrArg Ii hJ.1
  rw [As,As]at e1
  rw [e,Aj]at hn
  rw [As,e1,Ay]
  lia
 ·have hp:p∈ps:=by rw [e];exact Aa _ (.head _)
  obtain⟨hl1,hl2⟩:=hl p.2 (he▸Cz hp)
  have hm':(.obj p.1,.list (Ap G p.2))∈(⟨W,ρ++Tt C acc "bases" (Ad (.ref p.1)) (Tr.vs z.1) (z.2++kS L a (eB G ig) τ)⟩:Bc).all:=Bt (Bt (ρ:=[_,_]) (up (hr p hp)))
  refine Qd ⟨λ_=>?_,λhb=>(by cases hb)⟩
  refine Wr (Dm (v:=.ref p.1) (Ag (Aa _ (.head _))) (.head _) (Em (vs:=Ap G p.2) hm' λit₂=>?_))
  refine⟨λj=>.ref (Gd G j),p.2,it₂,_,_,λ_ _=>W,λ_ _=>ρ++Tt C acc "bases" (Ad (.ref p.1)) (Tr.vs z.1) (z.2++kS L a (eB G ig) τ),λl _=>Ap G (Ts ig l),λ_ _=>True,(),⟨rfl,rfl,Ey hh⟩,Hc,trivial,rfl,λ_ _ ext _=>Bt hm',λl r _ e _=>?_,λC₂ acc₂ l j r ρ₂ _ e _=>?_,λacc₂ _ _=>?_⟩
  ·rw [e,Aj]at hl1
   have:=iJ ig l
   rw [Bb,Ay]
   lia
  ·have hj:=hl2 j (by rw [e];exact Aa _ (.head _))
   refine Js (Au (Dm (v:=.ref (Gd G j)) (Ag (Aa _ (.head _))) (.head _) (Aq (v:=eB G ig) rfl (Ag (Aa _ (.tail _ (.tail _ (Aa _ (.tail _ (.tail _ (Aa _ (.head _)))))))))
    λu v hu hv=>nM nf J hj hig hu hv ⟨_,rfl,λhb=>Dm (v:=.ref (Gd G j)) (Ag (Aa _ (.head _))) (.head _) ⟨_,_,_,Av.le_refl _,(),rfl,by rw [tP hb,Ks];rfl,trivial⟩,λhb=>⟨_,_,_,Av.le_refl _,(),rfl,by rw [wI hb],trivial⟩⟩)))
  ·refine⟨W,(.obj acc₂,.list (Ap G (Ts ig p.2)))::(z.2++kS L a (eB G ig) τ),Ad (.ref p.1),Av.le_perm (Bf W ?_),(z.1++[(acc₂,Ts ig p.2)],(.obj acc₂,.list (Ap G (Ts ig p.2)))::z.2),rfl,?_,?_,λq hq=>?_⟩
   ·exact bD _ _ _ _ _
   ·exact(Bk (l₁:=z.1) (l₂:=[(acc₂,Ts ig p.2)])).symm
   ·rw [Bk,Bk,hJ.1]
    rfl
   ·rcases Ak.mp hq with h|h
    ·exact .tail _ (hJ.2 q h)
    ·rw [Bi.mp h];exact .head _
 ·obtain⟨qs,ρ⟩:=z
  obtain⟨hq1,hq2⟩:=hJ
  refine Ar (vK (vs:=Tr.vs qs) Bv λf it'=>?_)
  have ev:Tr.vs qs=(Tr.prs G qs).map λp=>.ref p.1:=by
   rw [Ei]
   rfl
  have lq:∀q∈qs,q.2.length<=1000:=λq hq=>by
   have:q.2∈qs.map (·.2):=Cz hq
   rw [hq1]at this
   obtain⟨p,hp,e⟩:=Bq.mp this
   rw [<-e]
   exact Ca (iJ ig p.2) (hl p.2 (he▸Cz hp)).1
  have hlen:qs.length<=1000:=by
   have:=congrArg Ii hq1
   rw [As,As]at this
   rw [this];exact hn
  refine Ar (dU (ps:=Tr.prs G qs) hh (λp hp=>?_) (by rw [As];lia) (ev▸Bv) (λp hp=>?_) λr=>?_)
  ·obtain⟨q,hq,e⟩:=Bq.mp hp
   have:=lq q hq
   rw [<-e,Bb]
   lia
  ·obtain⟨q,hq,e⟩:=Bq.mp hp
   rw [<-e]
   exact Eh (Ag (Ah _ (hq2 q hq)))
  ·have hne:(Ui (Tr.prs G qs)).map (λp=>Bx p.1)=Tr.vs (qs.filter λq=>!q.2.isEmpty):=by
    unfold Ui
    rw [Kl,Ei]
    have:((λp:Am×List Ab=>!p.2.isEmpty)∘λp:Am×List Nat=>(p.1,Ap G p.2))=λq=>!q.2.isEmpty:=funext λq=>congrArg (!·) List.isEmpty_map
    rw [this]
    rfl
   rw [hne]
   refine⟨⟨W,((.obj r,.list (Tr.vs (qs.filter λq=>!q.2.isEmpty)))::(.obj acc,.list (Tr.vs qs))::(ρ++kS L a (eB G ig) []))++τ⟩,Av.le_of_eq (by rw [Hv,Hv,Ba];rfl),h r _ ⟨qs.filter λq=>!q.2.isEmpty,Ag (.head _),?_,λq hq=>?_⟩⟩
   ·unfold Vt
    rw [<-he,Ei]
    show _=List.filter _ (List.map (λp:Am×List Nat=>Ts ig p.2) ps)
    rw [<-hq1,Kl]
    rfl
   ·exact Ag (.tail _ (.tail _ (Ah _ (hq2 q (Cw.mp hq).1))))
end
end
section
theorem gG {l:List Av} {p q:Av} (h:l.Pairwise Ul) (hp:p∈l) (hq:q∈l) (e:¬p=q):Ul p q:=by
 induction h with
 |nil=>cases hp
 |cons ha _ ih=>
  rcases Cj.mp hp with h1|h1
  ·rcases Cj.mp hq with h2|h2
   ·exact absurd (h1.trans h2.symm) e
   ·rw [h1];exact ha q h2
  ·rcases Cj.mp hq with h2|h2
   ·rw [h2];exact(ha p h1).symm
   ·exact ih h1 h2
section
variable {Γ:Bm} {A:Az} {σ σ':Bc} {s s':Be} {env:Env}
theorem Lq.loc {l:Ex} {c:CO} (hx:∀a o,l.base=(true,a)->s.heap.get? a=Ad o->s'.heap.get? a=Ad o) (hg:s'.gens=s.gens) (h:Lq Γ s l c):Lq Γ s' l c:=by
 cases l with
 |var d x=>
  cases c<;>first|exact h.elim|skip
  obtain⟨M,⟨o,es,ep,ho,r⟩,e⟩:=h
  exact⟨M,⟨o,es,ep,hx _ _ rfl ho,r⟩,e⟩
 |gen g=>
  cases c<;>first|exact h.elim|skip
  show s'.gens[g]? =_
  rw [hg];exact h
 |obj a=>
  cases c with
  |list vs=>obtain⟨ws,n,e,r⟩:=h;exact⟨ws,n,hx _ _ rfl e,r⟩
  |tup vs=>obtain⟨ws,n,e,r⟩:=h;exact⟨ws,n,hx _ _ rfl e,r⟩
  |inst C d=>exact hx _ _ rfl h
  |ns m=>obtain⟨es,n,e,r⟩:=h;exact⟨es,n,hx _ _ rfl e,r⟩
  |idict es=>obtain⟨kvs,⟨o,es,ep,ho,r⟩,q⟩:=h;exact⟨kvs,⟨o,es,ep,hx _ _ rfl ho,r⟩,q⟩
  |sdict es=>obtain⟨kvs,⟨o,es,ep,ho,r⟩,q⟩:=h;exact⟨kvs,⟨o,es,ep,hx _ _ rfl ho,r⟩,q⟩
  |iset ks=>obtain⟨S,n,⟨o,es,ep,t,ho,r⟩,q⟩:=h;exact⟨S,n,⟨o,es,ep,t,hx _ _ rfl ho,r⟩,q⟩
  |vview d=>obtain⟨o,e,r⟩:=h;exact⟨o,hx _ _ rfl e,r⟩
  |rng _ _ _=>obtain⟨t,u,v,e⟩:=h;exact⟨t,u,v,hx _ _ rfl e⟩
  |rev l i=>obtain⟨o,e,r⟩:=h;exact⟨o,hx _ _ rfl e,r⟩
  |fr m=>obtain⟨M,⟨o,es,ep,ho,q⟩,r⟩:=h;exact⟨M,⟨o,es,ep,hx _ _ rfl ho,q⟩,r⟩
  |liter l i=>obtain⟨o,e,r⟩:=h;exact⟨o,hx _ _ rfl e,r⟩
  |titer l i=>obtain⟨o,e,r⟩:=h;exact⟨o,hx _ _ rfl e,r⟩
  |riter x y z=>exact hx _ _ rfl h
  |cell ov=>obtain⟨v,⟨o,e,d⟩,r⟩:=h;exact⟨v,⟨o,hx _ _ rfl e,d⟩,r⟩
  |raw o=>exact hx _ _ rfl h
  |val _|gst _=>exact h.elim
theorem lV {h₀ h h':Cd} (K:OldK h₀ h) (e:∀b o,h₀.get? b=Ad o->h'.get? b=h.get? b):OldK h₀ h':=by
 refine⟨λb o q=>?_,λb o q=>let⟨o',ho'⟩:=K.there b o q;⟨o',(e b o q).trans ho'⟩⟩
 rcases K.old b o q with x|⟨t,hc,vs,more,hv,x⟩|⟨rfl,hc,⟨o',es,n,ho',r⟩,z⟩
 ·exact .inl ((e b o q).trans x)
 ·exact .inr (.inl ⟨t,hc,vs,more,hv,(e b o q).trans x⟩)
 ·exact .inr (.inr ⟨rfl,hc,⟨o',es,n,(e _ _ q).trans ho',r⟩,λkey=>by rw [OldK.staticOf_congr (e _ _ q) key];exact z key⟩)
theorem Eg.slots {h':Cd} {fs:List Am} (R:Eg Γ σ s) (hs:Cd.SlotsOnly fs s.heap h') (hf:∀L∈fs,∃x c,(.var L x,.val c)∈σ.all):Eg Γ σ {s with heap:=h'}:=by
 obtain⟨s1,s2,s3⟩:=hs
 have new:∀L∈fs,Γ.h₁.get? L=Ae:=λL hL=>by
  obtain⟨x,c,hm⟩:=hf L hL
  exact R.above hm rfl
 have same:∀b o,Γ.h₁.get? b=Ad o->h'.get? b=s.heap.get? b:=λb o e=>s2 b λhb=>by rw [new b hb]at e;cases e
 have nc:cStatics∉fs:=λh=>by
  obtain⟨mc,⟨o,_,_,ho,_⟩,_⟩:=Γ.top.nolimit
  rw [new _ h]at ho;cases ho
 obtain⟨⟨mc,⟨o,es,ep,ho,r⟩,hl⟩,ht⟩:=R.lim
 refine⟨lV R.old same,⟨⟨mc,⟨o,es,ep,(s2 _ nc).trans ho,r⟩,hl⟩,λP hP=>let⟨ps,e,t⟩:=ht P hP;⟨ps,(s2 _ λq=>by have z:=Γ.tabs P hP;rw [new _ q]at z;cases z).trans e,t⟩⟩,λo e=>(s2 _ nc).trans (R.stat o e),R.os,R.bare,λp hp=>⟨?_,(R.ents p hp).2⟩,R.sep⟩
 have hp1:=(R.ents p hp).1
 by_cases hb:∃L∈fs,p.1.base=(true,L)
 ·obtain⟨L,hL,hb⟩:=hb
  obtain⟨x,c,hm⟩:=hf L hL
  have:p.1=.var L x/\p.2=.val c\/∃y,p.1=.var L y:=by
   by_cases e:p=(.var L x,.val c)
   ·left;rw [e];exact⟨rfl,rfl⟩
   ·have sp:Ul p (.var L x,.val c):=gG R.sep hp hm e
    rcases sp with h|⟨_,h⟩|⟨d,y,z,h1,h2,_⟩
    ·exact absurd hb h
    ·cases h
    ·right;cases h2;exact⟨y,h1⟩
  have:∃y,p.1=.var L y:=by
   rcases this with⟨h,_⟩|h
   ·exact⟨x,h⟩
   ·exact h
  obtain⟨y,hy⟩:=this
  obtain⟨l,c'⟩:=p
  dsimp only at hy
  subst hy
  cases c'<;>first|exact hp1.elim|skip
  obtain⟨M,⟨o,es,ep,ho,q⟩,e⟩:=hp1
  obtain⟨sl,hsl⟩:=s3 _ _ ho
  exact⟨M,⟨_,es,ep,hsl,q⟩,e⟩
 ·refine hp1.loc (s':={s with heap:=h'}) (λa o ha e=>(s2 a λh=>hb ⟨a,h,ha⟩).trans e) rfl
noncomputable def AF (A:Az) (σ:Bc):Prop:=∃l,A.frames=Ad l/\∀env∈l,env.scope.kind≠.module/\∃L x c,env.frame=Ad L/\(.var L x,.val c)∈σ.all
theorem AF.fun_ {l:List Env} (R:Eg Γ σ s) (h:∀env∈l,env.scope.kind≠.module/\∃L x c,env.frame=Ad L/\(.var L x,.val c)∈σ.all):s.heap.FunFrames {} l:=by
 induction l with
 |nil=>trivial
 |cons env r ih=>
  obtain⟨hk,L,x,c,hf,hm⟩:=h env (.head _)
  obtain⟨M,⟨o,es,ep,ho,hd,_⟩,_⟩:=(R.ents _ hm).1
  exact⟨hk,⟨L,o,hf,rfl,ho,λvs q=>by rw [hd]at q;cases q⟩,ih λe he=>h e (.tail _ he)⟩
theorem AF.push {W τ τ':List Av} {env:Env} {L:Am} {x:Str} {c:Option Ab} (h:AF A ⟨W,τ⟩) (hk:env.scope.kind=.function) (hf:env.frame=Ad L) (hm:(.var L x,.val c)∈(⟨W,τ'⟩:Bc).all) (hs:∀p∈τ,p∈τ'):AF (A.deeper env) ⟨W,τ'⟩:=by
 obtain⟨l,e,h⟩:=h
 refine⟨env::l,Oa e,λenv' he=>?_⟩
 rcases Cj.mp he with rfl|he
 ·exact⟨by rw [hk];decide,L,x,c,hf,hm⟩
 ·obtain⟨h1,L,x,c,h2,h3⟩:=h _ he
  refine⟨h1,L,x,c,h2,?_⟩
  rcases Ak.mp h3 with h|h
  ·exact Ah _ h
  ·exact Aa _ (hs _ h)
theorem fH {L:Am} {l:List Env} {Q:Ab->Bc->Prop} (hA:AF A σ) (hl:A.frames=Ad (env::l)) (hf:env.frame=Ad L) (h:Q (.ref L) σ):T Γ A σ (frameOf env) Q:=λs R=>by
 obtain⟨l',e,hA⟩:=hA
 rw [hl]at e
 cases e
 refine wpAny_frameOf_fun hl (AF.fun_ R hA) hf λh' hs=>⟨σ,R.slots hs λL' hL'=>?_,h⟩
 obtain⟨env',he,hf'⟩:=List.mem_filterMap.mp hL'
 obtain⟨_,L₂,x,c,h2,h3⟩:=hA env' he
 rw [hf']at h2
 cases h2
 exact⟨x,c,h3⟩
noncomputable abbrev Lo (t:Am) (T:Ab):Obj:={cls:=.ref 100,data:=.fields #[.ref t,T,.none,.none,.bool false,.none]}
noncomputable abbrev aE (ts:Array Ab):Obj:={cls:=.type "traceback",dict:=Ae,data:=.fields ts}
theorem gP {W τ:List Av} {L e t:Am} {l:List Env} {Q:Unit->Bc->Prop} (hA:AF A ⟨W,τ⟩) (hl:A.frames=Ad (env::l)) (hf:env.frame=Ad L)
  (h:∀T ts,ts[3]? =Ad (Ki L)->Q () ⟨W,(.obj T,.raw (aE ts))::(.obj e,.raw (Lo t (.ref T)))::τ⟩):T Γ A ⟨W,(.obj e,.raw (Lo t .none))::τ⟩ (Pw (.ref e) env) Q:=λs R=>by
 have he:s.heap.get? e=Ad (Lo t .none):=(R.ents _ Bv).1
 unfold Pw
 simp only [hf]
 refine Af (Gu he rfl (x:=.none) rfl ?_)
 rw [if_neg (by decide)]
 have hA':AF A ⟨W,(.obj e,.raw (Lo t .none))::τ⟩:=by
  obtain⟨l,e,h⟩:=hA
  exact⟨l,e,λenv he=>let⟨h1,L,x,c,h2,h3⟩:=h env he;⟨h1,L,x,c,h2,Eh h3⟩⟩
 refine Af (Ec (fH (Q:=λv σ=>v=.ref L/\σ=⟨W,(.obj e,.raw (Lo t .none))::τ⟩) hA' hl hf ⟨rfl,rfl⟩ s R) (λv s₁ zz=>?_) λ_ _ x=>x.elim)
 obtain⟨σ₁,R₁,e₁,e₂⟩:=zz
 have:=Ch e₁
 subst this
 subst e₂
 refine Af (wpAny_entryPlaceOf λpl hpl=>?_)
 unfold EntryCells.newEntry newFields
 refine Af (Ez ?_ (hpl.sizeOk5 _ _ _ _ _))
 have he₁:s₁.heap.get? e=Ad (Lo t .none):=(R₁.ents _ Bv).1
 refine Nu (An _ he₁) rfl (by show 1 < 6;decide) ?_
 have R₂:=R₁.push (c:=.raw (aE ([Dq,.ref L,.none,Ki L,.none]++(if pl.isEmpty then Ny 6 Dq else pl)).toArray)) (s':={s₁ with heap:=s₁.heap.push (aE ([Dq,.ref L,.none,Ki L,.none]++(if pl.isEmpty then Ny 6 Dq else pl)).toArray)}) (λ_ _ e=>An _ e) rfl rfl (Bj _ rfl)
 refine⟨_,Eg.changeS (c':=.raw (Lo t (.ref s₁.heap.objs.size))) (σ':=⟨W,(.obj s₁.heap.objs.size,.raw (aE ([Dq,.ref L,.none,Ki L,.none]++(if pl.isEmpty then Ny 6 Dq else pl)).toArray))::(.obj e,.raw (Lo t (.ref s₁.heap.objs.size)))::τ⟩) R₂ (.tau (.there .here)) rfl (Dk ..).extBut rfl rfl (Dz _ (An _ he₁) rfl),h _ _ rfl⟩
theorem Xd {W τ:List Av} {e t T:Am} {ts:Array Ab} {fl:Ab} {Q:Unit->Bc->Prop} (h3:ts[3]? =Ad fl)
  (h:∀ts,ts[3]? =Ad Dq->Q () ⟨W,(.obj T,.raw (aE ts))::(.obj e,.raw (Lo t (.ref T)))::τ⟩):Mine.T Γ A ⟨W,(.obj T,.raw (aE ts))::(.obj e,.raw (Lo t (.ref T)))::τ⟩ (setFlight (.ref e) Ae) Q:=λs R=>by
 have hT:s.heap.get? T=Ad (aE ts):=(R.ents _ Bv).1
 have he:s.heap.get? e=Ad (Lo t (.ref T)):=(R.ents _ (Eh Bv)).1
 have hsz:3 < ts.size:=(Ob.mp h3).1
 unfold setFlight
 refine Af (Gu he rfl (x:=.ref T) rfl ?_)
 rw [if_pos (show(Bx T != Dq)=true from by simp)]
 refine Nu hT rfl hsz ⟨_,Eg.changeS (s':={s with heap:=s.heap.update T (Ju (·.setIfInBounds 3 .none))}) (c':=.raw (aE (ts.setIfInBounds 3 .none))) R (.tau .here) rfl (Dk ..).extBut rfl rfl (Dz _ hT rfl),h _ ?_⟩
 simp [hsz]
theorem Zp {W τ:List Av} {L e t T:Am} {ts:Array Ab} {l:List Env} {Q:Unit->Bc->Prop} (hA:AF A ⟨W,τ⟩) (hl:A.frames=Ad (env::l)) (hf:env.frame=Ad L) (h3:ts[3]? =Ad Dq)
  (h:∀T ts,ts[3]? =Ad (Ki L)->Q () ⟨W,(.obj T,.raw (aE ts))::(.obj e,.raw (Lo t (.ref T)))::τ⟩):Mine.T Γ A ⟨W,(.obj T,.raw (aE ts))::(.obj e,.raw (Lo t (.ref T)))::τ⟩ (Pw (.ref e) env) Q:=λs R=>by
 have hT:s.heap.get? T=Ad (aE ts):=(R.ents _ Bv).1
 have he:s.heap.get? e=Ad (Lo t (.ref T)):=(R.ents _ (Eh Bv)).1
 have hsz:3 < ts.size:=(Ob.mp h3).1
 unfold Pw
 simp only [hf]
 refine Af (Gu he rfl (x:=.ref T) rfl ?_)
 rw [if_pos (show(Bx T != Dq)=true from by simp)]
 refine Af (Gu hT rfl h3 ?_)
 rw [if_neg (show¬((Dq==Ki L)=true)from by simp [Ki])]
 refine Af (Nu hT rfl hsz ?_)
 have R₁:Eg Γ ⟨W,(.obj e,.raw (Lo t (.ref T)))::τ⟩ {s with heap:=s.heap.update T (Ju (·.setIfInBounds 3 .none))}:=
  Av.le_sub (.cons _ (.refl _)) _ _ (Eg.changeS (s':={s with heap:=s.heap.update T (Ju (·.setIfInBounds 3 .none))}) (c':=.raw (aE (ts.setIfInBounds 3 .none))) R (.tau .here) rfl (Dk ..).extBut rfl rfl (Dz _ hT rfl))
 have hA':AF A ⟨W,(.obj e,.raw (Lo t (.ref T)))::τ⟩:=by
  obtain⟨l,e,h⟩:=hA
  exact⟨l,e,λenv he=>let⟨h1,L,x,c,h2,h3⟩:=h env he;⟨h1,L,x,c,h2,Eh h3⟩⟩
 refine Af (Ec (fH (Q:=λv σ=>v=.ref L/\σ=⟨W,(.obj e,.raw (Lo t (.ref T)))::τ⟩) hA' hl hf ⟨rfl,rfl⟩ _ R₁) (λv s₁ zz=>?_) λ_ _ x=>x.elim)
 obtain⟨σ₁,R₁,e₁,e₂⟩:=zz
 have:=Ch e₁
 subst this
 subst e₂
 refine Af (wpAny_entryPlaceOf λpl hpl=>?_)
 unfold EntryCells.newEntry newFields
 refine Af (Ez ?_ (hpl.sizeOk5 _ _ _ _ _))
 have he₁:s₁.heap.get? e=Ad (Lo t (.ref T)):=(R₁.ents _ Bv).1
 refine Nu (An _ he₁) rfl (by show 1 < 6;decide) ?_
 have R₂:=R₁.push (c:=.raw (aE ([Bx T,.ref L,.none,Ki L,.none]++(if pl.isEmpty then Ny 6 Dq else pl)).toArray)) (s':={s₁ with heap:=s₁.heap.push (aE ([Bx T,.ref L,.none,Ki L,.none]++(if pl.isEmpty then Ny 6 Dq else pl)).toArray)}) (λ_ _ e=>An _ e) rfl rfl (Bj _ rfl)
 refine⟨_,Eg.changeS (c':=.raw (Lo t (.ref s₁.heap.objs.size))) (σ':=⟨W,(.obj s₁.heap.objs.size,.raw (aE ([Bx T,.ref L,.none,Ki L,.none]++(if pl.isEmpty then Ny 6 Dq else pl)).toArray))::(.obj e,.raw (Lo t (.ref s₁.heap.objs.size)))::τ⟩) R₂ (.tau (.there .here)) rfl (Dk ..).extBut rfl rfl (Dz _ (An _ he₁) rfl),h _ _ rfl⟩
theorem dW {W τ:List Av} {L e t:Am} {l:List Env} {Q:Unit->Bc->Prop} (hA:AF A ⟨W,τ⟩) (hl:A.frames=Ad (env::l)) (hf:env.frame=Ad L)
  (h:∀T ts,ts[3]? =Ad Dq->Q () ⟨W,(.obj T,.raw (aE ts))::(.obj e,.raw (Lo t (.ref T)))::τ⟩):T Γ A ⟨W,(.obj e,.raw (Lo t .none))::τ⟩ (leaving env (.ref e)) Q:=
 .bind (gP hA hl hf λ_ _ h3 _ _=>Xd h3 (h _))
theorem gQ {W τ:List Av} {L e t T:Am} {ts:Array Ab} {l:List Env} {Q:Unit->Bc->Prop} (hA:AF A ⟨W,τ⟩) (hl:A.frames=Ad (env::l)) (hf:env.frame=Ad L) (h3:ts[3]? =Ad Dq)
  (h:∀T ts,ts[3]? =Ad Dq->Q () ⟨W,(.obj T,.raw (aE ts))::(.obj e,.raw (Lo t (.ref T)))::τ⟩):Mine.T Γ A ⟨W,(.obj T,.raw (aE ts))::(.obj e,.raw (Lo t (.ref T)))::τ⟩ (leaving env (.ref e)) Q:=
 .bind (Zp hA hl hf h3 λ_ _ h3 _ _=>Xd h3 (h _))
end
end
section
noncomputable abbrev vR (nm:Str) (C N:Am) (bs bm:List Ab) (k0 k2 k3:Ab) (newId:String):Obj:=excClassObj nm nm C N bs bm true [] [] false Ae Ae (Ad k0) Ae (Ad k2) (Ad k3) (Ad (.bool true)) newId
noncomputable abbrev iA:List Ab:=[.type "Exception",.type "BaseException",.type "object"]
theorem yG (Γ:Bm):Γ.K.lookup 100=Ad (vR "_UseLegacyRO" 100 99 [.type "Exception"] iA (.ref 91) (.str "_UseLegacyRO" 294) (.str "_UseLegacyRO" 302) "Exception.__new__"):=by kernel_rfl
theorem lF (Γ:Bm):nsOkIn Γ.K 99=true/\nsIn Γ.K 99 "__init__" =Ad Ae:=⟨by kernel_rfl,by kernel_rfl⟩
section
variable {prog:Jm} {w:Ok} {A:Az} {E:Ab->Be->Prop} {h:Cd} {g:Array Kb} {d:Drawn} {t:Nat} {os:OsState} {env:Env}
variable {nm:Str} {C N:Am} {bs bm bmB:List Ab} {k0 k2 k3:Ab} {B newId initId:String}
theorem Yz {dep:Int} {tk:Tok} {Q:Fin->Be->Prop} (hC:h.get? C=Ad (vR nm C N bs bm k0 k2 k3 newId))
  (hq:Q (.done (.ret (.bool true))) ⟨h,g,d,t,os⟩):Cu (Ci prog w) A (Ee.«issubclass.nested» ⟨[.ref C,.ref C,.int dep tk],[]⟩) Q E ⟨h,g,d,t,os⟩:=by
 have hcC:(Bx C::bm).contains (.ref C)=true:=by simp
 have hT:(⟨h,g,d,t,os⟩:Be).TypeIs (.ref C) "type" :=⟨_,hC,rfl⟩
 repeat (any_goals (first|assumption|with_reducible refine Ig hC ?_|(with_reducible refine Om hC ?_;rw [hcC])|wp_step))
noncomputable abbrev Uj (h:Cd) (C:Am) (rest:List Ab):Cd:=(h.push {cls:=.type "tuple",data:=.seq rest.toArray}).push {cls:=.ref C,data:=.fields #[.ref h.objs.size,.none,.none,.none,.bool false,.none]}
theorem iY {rest:List Ab}:(Uj h C rest).get? (h.objs.size+1)=Ad {cls:=.ref C,data:=.fields #[.ref h.objs.size,.none,.none,.none,.bool false,.none]}:=by heap_get
theorem Wa {rest:List Ab}:∀b o,h.get? b=Ad o->(Uj h C rest).get? b=Ad o:=λb o e=>An _ (An _ e)
theorem dJ (F:ExcBaseFacts B newId initId bmB) (T:OwnTail h bmB bm) {rest:List Ab} {Q:Gi->Be->Prop}
  (hC:h.get? C=Ad (vR nm C N bs bm k0 k2 k3 newId)) (hrest:rest.length<=Gn)
  (hI:Cu (Ci prog w) A (typeLookup (.ref C) "__init__") (λa s'=>∃f,a=Ad f/\Cu (Ci prog w) A (bindSpecial f (.ref (h.objs.size+1))) (λx s₂=>Cu (Ci prog w) A (Iq x.1 (x.2++rest) []) (λr s₃=>r=.none/\Q (.done (.ret (.ref (h.objs.size+1)))) s₃) E s₂) E s') E ⟨Uj h C rest,g,d,t,os⟩):
  Cu (Ci prog w) A (Ee.«type.__call__» ⟨.ref C::rest,[]⟩) Q E ⟨h,g,d,t,os⟩:=by
 repeat (first|with_reducible refine Ig hC ?_|with_reducible refine wpAny_madeBy_exc hC ?_|wp_step)
 refine codeAny_call_builtin_code (Code.quiet_builtin _ F.quiet) (wpAny_check_new_subT F T hC ?_)
 refine codeAny_exc_new_subT F T hC ?_ hrest
 show Cu _ _ _ _ _ _
 have hget:((h.push {cls:=.type "tuple",data:=.seq rest.toArray}).push
   {cls:=.ref C,data:=.fields #[.ref h.objs.size,.none,.none,.none,.bool false,.none]}).get? (h.objs.size+1)=Ad
   {cls:=.ref C,data:=.fields #[.ref h.objs.size,.none,.none,.none,.bool false,.none]}:=by heap_get
 have hC₁:=An {cls:=.ref C,data:=.fields #[.ref h.objs.size,.none,.none,.none,.bool false,.none]}
  (An {cls:=.type "tuple",data:=.seq rest.toArray} hC)
 have hcC:(Bx C::bm).contains (.ref C)=true:=by simp
 unfold isInstance
 repeat (first|with_reducible refine Ig hget ?_|(with_reducible refine Om hC₁ ?_;rw [hcC])|wp_step)
 refine Ec hI (λa s' zz=>?_) λ_ _ x=>x
 obtain⟨f,e,h⟩:=zz
 subst e
 refine Ef (Af (Ec h (λx s₂ h₂=>?_) λ_ _ x=>x))
 obtain⟨g',first⟩:=x
 refine Af (Ec h₂ (λr s₃ zz=>?_) λ_ _ x=>x)
 obtain⟨e,h₃⟩:=zz
 subst e
 refine Ax ?_
 show Cu _ _ (if(Dq != Dq)=true then _ else _) _ _ _
 rw [if_neg (by decide)]
 exact Ax h₃
theorem Zm (F:ExcBaseFacts B newId initId bmB) (T:OwnTail h bmB bm) {rest:List Ab} {Q:Ab->Be->Prop}
  (hC:h.get? C=Ad (vR nm C N bs bm k0 k2 k3 newId)) (hrest:rest.length<=Gn)
  (hI:Cu (Ci prog w) (A.under (.builtin "type.__call__" ⟨.ref C::rest,[]⟩)) (typeLookup (.ref C) "__init__") (λa s'=>∃f,a=Ad f/\Cu (Ci prog w) (A.under (.builtin "type.__call__" ⟨.ref C::rest,[]⟩)) (bindSpecial f (.ref (h.objs.size+1))) (λx s₂=>Cu (Ci prog w) (A.under (.builtin "type.__call__" ⟨.ref C::rest,[]⟩)) (Iq x.1 (x.2++rest) []) (λr s₃=>r=.none/\Q (.ref (h.objs.size+1)) s₃) (λ_ _=>False) s₂) (λ_ _=>False) s') (λ_ _=>False) ⟨Uj h C rest,g,d,t,os⟩):
  Cu (Ci prog w) A (Iq (.ref C) rest) Q E ⟨h,g,d,t,os⟩:=by
 have f1:=tc_lookup
 have f2:=tc_bind (.ref C)
 have hT:(⟨h,g,d,t,os⟩:Be).TypeIs (.ref C) "type" :=⟨_,hC,rfl⟩
 refine No (codeAny_of_tree ?_)
 show Cu _ _ (callAny (.ref C) _) _ _ _
 repeat (any_goals (first|assumption|with_reducible refine Ig hC ?_|wp_step))
 refine⟨rfl,?_⟩
 refine codeAny_call_builtin_at (Code.quiet_builtin _ (by decide+kernel)) entry_typeCall (wpAny_check_type_call_sub hC (dJ (E:=λe s'=>E e s') F T hC hrest ?_))
 refine Ec hI (λa s' ⟨f,e,h⟩=>⟨f,e,Ec h (λx s₂ h₂=>Ec h₂ (λr s₃ h₃=>h₃) λ_ _ x=>x.elim) λ_ _ x=>x.elim⟩) λ_ _ x=>x.elim
theorem cV {Q:Bool->Be->Prop} (hbase:bm.contains (.type "BaseException")=true) (hC:h.get? C=Ad (vR nm C N bs bm k0 k2 k3 newId)) (hq:Q true ⟨h,g,d,t,os⟩):Cu (Ci prog w) A (isExcClass (.ref C)) Q E ⟨h,g,d,t,os⟩:=by
 have hcB:(Bx C::bm).contains (.type "BaseException")=true:=by rw [Ps,hbase,Bool.or_true]
 unfold isExcClass
 repeat (any_goals (first|assumption|with_reducible refine Ig hC ?_|(with_reducible refine Om hC ?_;rw [hcB])|wp_step))
theorem mV {e:Am} {oe:Obj} {Q:Bool->Be->Prop} (hbase:bm.contains (.type "BaseException")=true) (hC:h.get? C=Ad (vR nm C N bs bm k0 k2 k3 newId)) (he:h.get? e=Ad oe) (hcls:oe.cls=.ref C) (hq:Q true ⟨h,g,d,t,os⟩):
  Cu (Ci prog w) A (isInstance (.ref e) (.type "BaseException")) Q E ⟨h,g,d,t,os⟩:=by
 have hcB:(Bx C::bm).contains (.type "BaseException")=true:=by rw [Ps,hbase,Bool.or_true]
 unfold isInstance
 repeat (any_goals (first|assumption|(with_reducible refine Ig he ?_;rw [hcls])|with_reducible refine Ig hC ?_|(with_reducible refine Om hC ?_;rw [hcB])|wp_step))
theorem mU {Q:Bool->Be->Prop} (hC:h.get? C=Ad (vR nm C N bs bm k0 k2 k3 newId)) (hq:Q true ⟨h,g,d,t,os⟩):Cu (Ci prog w) A (isType (.ref C)) Q E ⟨h,g,d,t,os⟩:=by
 unfold isType
 repeat (any_goals (first|assumption|with_reducible refine Ig hC ?_|wp_step))
theorem cW {Q:Ab->Be->Prop} (hC:h.get? C=Ad (vR nm C N bs bm k0 k2 k3 newId)) (hq:Q (.bool true) ⟨h,g,d,t,os⟩):Cu (Ci prog w) A (Iq (.builtin "issubclass") [.ref C,.ref C]) Q E ⟨h,g,d,t,os⟩:=
 call_issubclass (S:=λ_ R s=>(s.heap.get? C=Ad (vR nm C N bs bm k0 k2 k3 newId))/\R (.ok (.ret (.bool true))) s) (λ_ _ _ _ s hs=>issubclass_outer (by
  obtain⟨h',g',d',t',os'⟩:=s
  exact Yz hs.1 hs.2)) ⟨hC,hq⟩
end
section
variable {Γ:Bm} {A:Az} {E:Ab->Be->Prop} {σ:Bc} {s:Be} {env:Env}
theorem xP {W τ:List Av} {np pos:Pos} {Q:Ga->Be->Prop} (hh:A.handled=Ae) (R:Eg Γ ⟨W,τ⟩ s) (hE:∀e t s',Eg Γ ⟨W,(.obj e,.raw (Lo t .none))::τ⟩ s'->E (.ref e) s')
  (hk:env.scope.kind=.function) (hg:env.globals=He) (hx:env.kindOf "_UseLegacyRO" =Ad .globalImplicit):Cu (Ci Γ.prog Γ.w) A (Ni (.Raise (Ad (.Name "_UseLegacyRO" np)) Ae pos) env) Q E s:=by
 show Cu (Ci Γ.prog Γ.w) A (do Mz pos;raiseStmt env (Ad (do let v<-Dv (.Name "_UseLegacyRO" np) env;Mz pos;Et v)) Ae) Q E s
 refine Af (Ev ?_)
 unfold raiseStmt
 dsimp only
 refine Af (Af (Oe (Ec (Bn (Γ:=Γ) (A:=A) (σ:=⟨W,τ⟩) (v:=.ref 100) (Q:=λv σ=>v=.ref 100/\σ=⟨W,τ⟩) (by kernel_rfl) ⟨rfl,rfl⟩ hg hk hx (by decide) s R) (λv s₁ ⟨σ₁,R₁,e₁,e₂⟩=>Af (Ev (Ax ?_))) λ_ _ x=>x)))
 have:=Ch e₁
 subst this
 subst e₂
 have hC:=R₁.kin _ _ (yG Γ)
 have hN:s₁.heap.Ns 99 _:=.of_isNs (isNs_of_in R₁.kin (lF Γ).1)
 have hni:=nsMap_none_of_in R₁.kin (lF Γ).1 (lF Γ).2
 have TL:OwnTail s₁.heap iA iA:=.base
 have hbase:iA.contains (.type "BaseException")=true:=by decide+kernel
 have R₁':=R₁
 obtain⟨hp,g,d,tk,os⟩:=s₁
 refine Af (Ax ?_)
 dsimp only
 refine Af (Ef ?_)
 unfold excFromValue
 refine Af (cV hbase hC ?_)
 rw [if_pos rfl]
 have hC₁:(Uj hp 100 []).get? 100=_:=Wa _ _ hC
 have hn₁:=hN.keeps (Wa (h:=hp) (C:=100) (rest:=[]))
 have T₁:=TL.keeps (Wa (h:=hp) (C:=100) (rest:=[]))
 refine Af (Zm Gw TL hC (by decide) ?_)
 refine wpAny_typeLookup_tail hC₁ hn₁ T₁ Gw.mroIs Gw.init.lookup ?_
 rw [hni]
 refine⟨_,rfl,Iv (Gw.init.bind _) ?_⟩
 refine No (Lb Gw.init.plain Gw.initEntry (wpAny_check_init_subT Gw T₁ hC₁ iY rfl ?_))
 wp_walk
 refine⟨rfl,?_⟩
 have R2:=R₁'.push (c:=.raw {cls:=.type "tuple",data:=.seq #[]}) (s':=⟨hp.push {cls:=.type "tuple",data:=.seq #[]},g,d,tk,os⟩) (λ_ _ e=>An _ e) rfl rfl (Bj _ rfl)
 have R3:=R2.push (c:=.raw (Lo hp.objs.size .none)) (s':=⟨Uj hp 100 [],g,d,tk,os⟩) (λ_ _ e=>An _ e) rfl rfl (Bj _ rfl)
 rw [show({heap:=hp,gens:=g,drawn:=d,toks:=tk,os:=os}:Be).heap.objs.size=hp.objs.size from rfl]at *
 have R4:=R3.push (c:=.raw {cls:=.type "tuple",data:=.seq #[]}) (s':=⟨(Uj hp 100 []).push {cls:=.type "tuple",data:=.seq #[]},g,d,tk,os⟩) (λ_ _ e=>An _ e) rfl rfl (Bj _ rfl)
 have ge:((Uj hp 100 []).push {cls:=.type "tuple",data:=.seq #[]}).get? (hp.objs.size+1)=Ad (Lo hp.objs.size .none):=An _ iY
 have he:(((Uj hp 100 []).push {cls:=.type "tuple",data:=.seq #[]}).update (hp.objs.size+1) (Ju λx=>x.setIfInBounds 0 (.ref (Uj hp 100 []).objs.size))).get? (hp.objs.size+1)=Ad (Lo (Uj hp 100 []).objs.size .none):=Dz _ ge rfl
 have e1:(hp.push {cls:=Hd "tuple",data:=Qk ([]:List Ab).toArray}).objs.size=hp.objs.size+1:=Iy ..
 have R5:Eg Γ ⟨W,(.obj (hp.objs.size+1),.raw (Lo (Uj hp 100 []).objs.size .none))::τ⟩ ⟨((Uj hp 100 []).push {cls:=.type "tuple",data:=.seq #[]}).update (hp.objs.size+1) (Ju λx=>x.setIfInBounds 0 (.ref (Uj hp 100 []).objs.size)),g,d,tk,os⟩:=by
  rw [show((hp.push {cls:=Hd "tuple",data:=Qk ([]:List Ab).toArray}).objs.size)=hp.objs.size+1 from e1]at R4
  refine Av.le_sub (τ:=_) ?_ _ _ (Eg.changeS (a:=hp.objs.size+1) (c':=.raw (Lo (Uj hp 100 []).objs.size .none)) R4 (.tau (.there .here)) rfl (Dk ..).extBut rfl rfl he)
  exact .cons _ (.cons_cons _ (.cons _ (.refl _)))
 have hC₂:(((Uj hp 100 []).push {cls:=.type "tuple",data:=.seq #[]}).update (hp.objs.size+1) (Ju λx=>x.setIfInBounds 0 (.ref (Uj hp 100 []).objs.size))).get? 100=_:=
  (Cd.get?_update_other _ _ (Nat.ne_of_gt (Nat.lt_succ_of_lt (Dw hC)))).trans (An _ hC₁)
 refine Af (mV hbase hC₂ he rfl ?_)
 rw [if_neg (by decide)]
 refine Ax ?_
 refine Af (mU hC₂ ?_)
 rw [if_pos rfl]
 refine Af (Ef ?_)
 unfold raisedFor
 rw [if_neg (by decide)]
 refine Af (Af (Nv he (Ax (Af (cW hC₂ (Af (wpAny_truthy_bool ?_)))))))
 dsimp only
 rw [if_pos rfl]
 refine Ax ?_
 unfold setFlight raiseNew
 refine Af (Af (Gu (i:=1) (x:=Dq) he rfl rfl ?_))
 rw [if_neg (by decide)]
 refine Ax (Af (wpAny_handled ?_))
 rw [hh]
 exact Af (Ax (wpAny_throw (hE _ _ _ R5)))
end
end
section
open PySem.Builtin PySem.Builtin.ObjectAttr
open PySem.W (InstAt)
noncomputable def tA:List Ab:=[.ref 59,.type "TypeError",.type "Exception",.type "BaseException",.type "object"]
theorem lT (self:Ab):refuseLoop self "__setattr__" tA=Et ():=by
 show refuseLoop self "__setattr__" (.ref 59::_)=_
 rw [refuseLoop_ref]
 kernel_rfl
theorem fZ (Γ:Bm):(clsIn Γ.K 59).any (λcd=>cd.mro==tA&&cd.hasDict)=true:=by kernel_rfl
theorem oQ (Γ:Bm):findIn Γ.K (.ref 59) "__setattr__" =Ad (Ad (.builtin "object.__setattr__")):=by kernel_rfl
section
variable {Γ:Bm} {A:Az} {σ σ':Bc} {s:Be}
theorem oJ {ox:Obj} {od:Option Obj} {x:Am} {name:Str} {tk:Tok} {v:Ab} {R:Le->Be->Prop} (X:Γ.K.In s.heap) (I:InstAt s.heap x ox 59 od) (ht:takerIn Γ.K 59 name=Ad Ae)
  (h:∀b,Cu (Ci Γ.prog Γ.w) A.in1 (storeInOwnDict (.ref x) (.ref 59) (.str name tk) name v b)
   (λfin s'=>match fin with|.done f=>R (.ok f) s'|.again c'=>c'.quiet=true/\Kg (Ci Γ.prog Γ.w) A c' R s') (λe s'=>R (.error e) s') s):
  Kg (Ci Γ.prog Γ.w) A (.call (.builtin "object.__setattr__") ⟨[.ref x,.str name tk,v],[]⟩) R s:=by
 have SF:=PySem.F.store_object
 obtain⟨cd,hc,ho⟩:=any_some (fZ Γ)
 simp only [Dd,beq_iff_eq]at ho
 have sub:Looks (Ci Γ.prog Γ.w) s.heap (isInstance (.ref x) (.type "object")) true:=I.type.andThen (looks_mroIn X (by unfold mroIn;rw [hc,Me,ho.1];rfl))
 refine Lb SF.slot.plain SF.entry (@check_slot (Ci Γ.prog Γ.w) _ _ s "object.__setattr__" "object" "__setattr__" (.ref x) [.str name tk,v] [] _ SF.kind SF.split sub (SF.args (.ref x) (.str name tk) v) ?_)
 obtain⟨attr,ha,hr⟩:=Option.bind_eq_some_iff.mp ht
 have hm:Looks (Ci Γ.prog Γ.w) s.heap (mroOf (.ref 59)) cd.mro:=(looks_clsIn X hc).andThen .now
 have L3:Looks (Ci Γ.prog Γ.w) s.heap (storeTaker? attr) Ae:=by
  cases attr with
  |Ae=>exact .now
  |Ad a=>
   obtain⟨b,hb,e⟩:=Db.mp hr
   refine(looks_takesIn X hb).andThen ?_
   cases b
   ·exact .now
   ·cases e
 rw [osa_eq,refuse_eq]
 refine Af (Af (I.type.here (Af (hm.here ?_))))
 rw [ho.1,lT]
 refine Ax (Af (I.type.here (Af ((looks_findIn X ha).here (Af (L3.here ?_))))))
 exact h _
theorem iG {d:Am} {name:Str} {u v:Ab} {tk:Tok} {m m':List (Str×Option Ab)} {Q:Gi->Be->Prop} {E:Ab->Be->Prop} (R:Eg Γ σ s) (hu:cl u=v)
  (U:Jf σ (.obj d) (.ns m) (.ns m') σ') (hm:Oq name v m m') (hz:m.length<=1000) (h:∀s',Eg Γ σ' s'->Q (.done (.ret .none)) s'):Cu (Ci Γ.prog Γ.w) A (storeInDict d (.str name tk) name u) Q E s:=by
 obtain⟨es,n,e,N⟩:=(R.ents _ U.mem).1
 refine Af (Ax (Af ?_))
 unfold nsSet
 refine Af (Af (Oi (Ax (Af (wpAny_mkText (Af (Nv e ?_)))))))
 dsimp only
 have c:(!es.toArray.any (·.key.isStr name)&&es.toArray.any (·.refKey))=false:=by
  rw [<-Oj,<-Oj]
  show(!es.any _&&es.any _)=false
  rw [N.keyed,Bool.and_false]
 rw [aRefKeyMayBeTheName_at,c]
 have N':=N.put hu hm (Ix Γ.w.params name) s.toks
 have hf:=putName_dict name (Ix Γ.w.params name) (.str name s.toks) u es n
 have D':(s.heap.update d (Obj.putName name (Ix Γ.w.params name) (.str name s.toks) u)).get? d=Ad (dictOf (putL name (Ix Γ.w.params name) (.str name s.toks) u es) (putN name es n)):=by
  rw [<-hf]
  exact Dz _ e (by rw [hf];rfl)
 refine wpAny_updatePart e ?_
 refine Af (wpAny_lookBehind D' (pastItsLine_dict (by
  rw [Qs,Ay]
  have h1:=N'.size
  have h2:(m'.filter λp=>p.2.isSome).length<=m'.length:=By _ _
  have h3:m'.length=m.length:=by obtain⟨l₁,l₂,_,rfl,rfl⟩:=hm.split;simp
  lia)) ?_)
 exact Ax (h _ (Eg.changeS (s':={s with heap:=s.heap.update d _,toks:=s.toks+1}) R U rfl (Dk ..).extBut rfl rfl ⟨_,_,D',N'⟩))
noncomputable abbrev Wh (vs:Array Ab) (dd:Option Am):Obj:={cls:=.ref 59,dict:=dd,data:=.fields vs}
theorem nI {W τ:List Av} {x:Am} {vs:Array Ab} {name:Str} {ov u v:Ab} {m m':List (Str×Option Ab)} {Q:Unit->Bc->Prop} (ho:cl ov=.ref x) (hu:cl u=v) (hn:(m.map (·.1)).Nodup) (hv:∀p∈m,p.2=Ae) (hm:Oq name v m m') (hz:m.length<=1000)
  (ht:takerIn Γ.K 59 name=Ad Ae) (h:∀d,Q () ⟨W,(.obj d,.ns m')::(.obj x,.raw (Wh vs (Ad d)))::τ⟩):T Γ A ⟨W,(.obj x,.raw (Wh vs Ae))::τ⟩ (setAttr ov name u) Q:=λs R=>by
 have:=Ch ho
 subst this
 have hx:s.heap.get? x=Ad (Wh vs Ae):=(R.ents _ Bv).1
 have I:InstAt s.heap x (Wh vs Ae) 59 Ae:=⟨hx,rfl,rfl,trivial⟩
 refine set_plain R.kin I (oQ Γ) ?_
 have R1:=R.toks (s.toks+1)
 refine oJ (s:={s with toks:=s.toks+1}) R.kin I ht λb=>?_
 obtain⟨cd,hc,hd'⟩:=any_some (fZ Γ)
 simp only [Dd,beq_iff_eq]at hd'
 refine Af (Ax (Af ?_))
 refine Af (Nv hx (Af ((looks_clsIn R1.kin hc).here ?_)))
 rw [hd'.2]
 rw [if_neg (by decide)]
 show Cu _ _ (if(!true||!typeHasDict (Bx 59))=true then _ else _) _ _ _
 rw [if_neg (by decide)]
 show Cu _ _ (alloc {cls:=.type "dict",data:=.dict #[]}>>=λd=>update x (λo=>{o with dict:=Ad d})>>=λ_=>dictMade (.ref 59) x d) _ _ _
 have R2:Eg Γ ⟨W,(.obj s.heap.objs.size,.ns m)::(.obj x,.raw (Wh vs Ae))::τ⟩ {s with heap:=s.heap.push Pz,toks:=s.toks+1}:=
  R1.push (s':={s with heap:=s.heap.push Pz,toks:=s.toks+1}) (λ_ _ e=>An _ e) rfl rfl ⟨[],0,Bj _ rfl,⟨λ_ he=>(by cases he),hn,Cg _,λp hp=>by rw [hv p hp];rfl,λ_ _=>rfl⟩⟩
 have hx₂:(s.heap.push Pz).get? x=Ad (Wh vs Ae):=An _ hx
 refine Af (wpAny_alloc (Af (wpAny_update hx₂ (Ax ?_))))
 have R3:Eg Γ ⟨W,(.obj s.heap.objs.size,.ns m)::(.obj x,.raw (Wh vs (Ad s.heap.objs.size)))::τ⟩ {s with heap:=(s.heap.push Pz).update x λo=>{o with dict:=Ad s.heap.objs.size},toks:=s.toks+1}:=
  Eg.changeS (s':={s with heap:=(s.heap.push Pz).update x λo=>{o with dict:=Ad s.heap.objs.size},toks:=s.toks+1}) R2 (.tau (.there .here)) rfl (Dk ..).extBut rfl rfl (Dz _ hx₂ rfl)
 exact iG R3 hu (.tau .here) hm hz λs' R'=>⟨_,R',h _⟩
theorem nH {x d:Am} {vs:Array Ab} {name:Str} {ov u v:Ab} {m m':List (Str×Option Ab)} {Q:Unit->Bc->Prop} (ho:cl ov=.ref x) (hu:cl u=v) (hx:(.obj x,.raw (Wh vs (Ad d)))∈σ.all) (U:Jf σ (.obj d) (.ns m) (.ns m') σ') (hm:Oq name v m m') (hz:m.length<=1000)
  (ht:takerIn Γ.K 59 name=Ad Ae) (h:Q () σ'):T Γ A σ (setAttr ov name u) Q:=λs R=>by
 have:=Ch ho
 subst this
 have hx:s.heap.get? x=Ad (Wh vs (Ad d)):=(R.ents _ hx).1
 obtain⟨es,n,e,N⟩:=(R.ents _ U.mem).1
 have I:InstAt s.heap x (Wh vs (Ad d)) 59 (Ad (dictOf es n)):=⟨hx,rfl,rfl,e⟩
 refine set_plain R.kin I (oQ Γ) ?_
 have R1:=R.toks (s.toks+1)
 refine oJ (s:={s with toks:=s.toks+1}) R.kin I ht λb=>?_
 obtain⟨cd,hc,hd'⟩:=any_some (fZ Γ)
 simp only [Dd,beq_iff_eq]at hd'
 refine Af (Ax (Af ?_))
 refine Af (Nv hx (Af ((looks_clsIn R1.kin hc).here ?_)))
 rw [hd'.2]
 rw [if_neg (by decide)]
 refine Ax (a:=Ad d) ?_
 exact iG R1 hu U hm hz λs' R'=>⟨_,R',h⟩
end
end
section
theorem xB (Γ:Bm):Γ.K.lookup 59=Ad (vR "InconsistentResolutionOrderError" 59 58 [.type "TypeError"] [.type "TypeError",.type "Exception",.type "BaseException",.type "object"] (.ref 43) (.str "InconsistentResolutionOrderError" 224) (.str "InconsistentResolutionOrderError" 232) "TypeError.__new__"):=by kernel_rfl
theorem uJ (Γ:Bm):(findIn Γ.K (.ref 59) "__init__" ==Ad (Ad (.ref 56))&&isFn Γ.K (.ref 56))=true:=by kernel_rfl
theorem uK (Γ:Bm):Γ.K.lookup 56=Ad ⟨.type "function",Ae,.func (Kh Γ 56 "InconsistentResolutionOrderError.__init__" (clsStmt 5 0) (.ref 55) .none),#[]⟩:=by kernel_rfl
section
variable {Γ:Bm} {A:Az} {σ:Bc}
theorem Aec (a b c x:Av) (τ:List Av):(a::b::c::x::τ).Perm (x::a::b::c::τ):=Fl (l₁:=[a,b,c])
theorem vJ {W τ:List Av} {rx rd:Am} {rs:Rs} {lf tr:Ab} {Q:Ab->Bc->Prop} (hA:Rm A 2) (hx:(.obj rx,.inst 204 rd)∈(⟨W,τ⟩:Bc).all) (hd:(.obj rd,.ns rs.ns)∈(⟨W,τ⟩:Bc).all) (hl:rs.leaf=Ad lf) (hlf:Lw lf=true)
  (h:∀e,Q (.ref e) ⟨W,τ⟩):∀ws,ws.map cl=[.ref rx,tr]->T Γ A ⟨W,τ⟩ (Iq (.ref 59) ws) Q:=λws hw s R=>by
 have hlen:ws.length=2:=by have:=congrArg Ii hw;simpa using this
 have hC:=R.kin _ _ (xB Γ)
 have hi:=uJ Γ
 simp only [Dd,beq_iff_eq]at hi
 have R':=R
 obtain⟨hp,g,d,tk,os⟩:=s
 have R1:Eg Γ ⟨W,τ⟩ ⟨hp.push {cls:=.type "tuple",data:=.seq ws.toArray},g,d,tk,os⟩:=R.grow (s':=⟨hp.push {cls:=.type "tuple",data:=.seq ws.toArray},g,d,tk,os⟩) (λ_ _ e=>An _ e) rfl rfl
 have R2:=R1.push (c:=.raw (Wh #[.ref hp.objs.size,.none,.none,.none,.bool false,.none] Ae)) (s':=⟨Uj hp 59 ws,g,d,tk,os⟩) (λ_ _ e=>An _ e) rfl rfl (Bj _ rfl)
 have e1:(hp.push {cls:=Hd "tuple",data:=Qk ws.toArray}).objs.size=hp.objs.size+1:=Iy ..
 rw [show({heap:=hp.push {cls:=Hd "tuple",data:=Qk ws.toArray},gens:=g,drawn:=d,toks:=tk,os:=os}:Be).heap.objs.size=hp.objs.size+1 from e1]at R2
 refine Zm PySem.F.excBase_TypeError .base hC (by rw [hlen,Ay];decide) ?_
 have hA':Rm (A.under (.builtin "type.__call__" ⟨.ref 59::ws,[]⟩)) 1:=hA.make
 refine(looks_findIn R2.kin hi.1).here ⟨_,rfl,(bind_fn R2.kin _ (beq_iff_eq.mp hi.2)).here ?_⟩
 have main:TC Γ (A.under (.builtin "type.__call__" ⟨.ref 59::ws,[]⟩)) ⟨W,(.obj (hp.objs.size+1),.raw (Wh #[.ref hp.objs.size,.none,.none,.none,.bool false,.none] Ae))::τ⟩ (.ref 56) ([.ref (hp.objs.size+1)]++ws) [] λv σ'=>v=.none/\Q (.ref (hp.objs.size+1)) σ':=by
  generalize hp.objs.size+1=x
  generalize #[Bx hp.objs.size,.none,.none,.none,.bool false,.none]=vs
  refine Pk (body:=fBody (clsStmt 5 0)) (bs:=[("self",.ref x),("c3",.ref rx),("base_tree_remaining",tr)]) ["self","c3","base_tree_remaining"] (uK Γ) (by kernel_rfl) hA'.room (Hb.plain3 λ_ _ _ _=>Cm (by rfl)) (λL=>?_) (by rfl) (by rfl) (by decide) (by rfl) (by rfl) (by rfl) _ [] (by simp [hw]) rfl
  show T Γ _ ⟨W,(.var L "self",.val (Ad (.ref x)))::(.var L "c3",.val (Ad (.ref rx)))::(.var L "base_tree_remaining",.val (Ad tr))::(.obj x,.raw (Wh vs Ae))::τ⟩ _ _
  refine Ao (Dn (Jg (Ac (v:=.ref rx) (by walk_at "mem") λo ho=>Qz (v:=lf) ho (by walk_at "memo") (by walk_at "memo") (by kernel_rfl) (by rw [<-hl];exact .head _) (Ac (v:=.ref x) (by walk_at "mem") λv ov hv ho=>?_) hlf)))
  refine T.conseq (Av.le_perm (σ':=⟨W,(.obj x,.raw (Wh vs Ae))::(.var L "self",.val (Ad (.ref x)))::(.var L "c3",.val (Ad (.ref rx)))::(.var L "base_tree_remaining",.val (Ad tr))::τ⟩) (Bf W (Aec _ _ _ _ _))) ?_
  refine nI (m:=[("C",Ae),("base_tree_remaining",Ae)]) (m':=[("C",Ad lf),("base_tree_remaining",Ae)]) ho hv (by decide) (by decide) .here (by decide) (by kernel_rfl) λd=>?_
  refine Ao (Dn (Ac (v:=tr) (by walk_at "mem") (Ac (v:=.ref x) (by walk_at "mem") λv ov hv ho=>nH (m:=[("C",Ad lf),("base_tree_remaining",Ae)]) (m':=[("C",Ad lf),("base_tree_remaining",Ad tr)]) ho hv (by walk_at "mem") (.tau .here) (.there .here) (by simp) (by kernel_rfl) ?_)))
  exact Cq ⟨_,Av.le_sub (.cons _ (.cons _ (.cons _ (.cons _ (.cons _ (.refl _)))))),rfl,h x⟩
 refine Ec (main.T _ R2) (λr s' ⟨σ',R',e,q⟩=>⟨Tw e,σ',R',q⟩) λ_ _ x=>x
end
end
section
inductive zA (Γ:Bm) (E:Am->Bc->Prop) (e:Ab) (s:Be):Prop
 |mk (a:Am) (σ':Bc) (e:e=.ref a) (R:Eg Γ σ' s) (q:E a σ')
noncomputable def TX (Γ:Bm) (A:Az) (σ:Bc) {α:Type} [Xx α] (t:Sem α) (Q:α->Bc->Prop) (E:Am->Bc->Prop):Prop:=
 ∀s,Eg Γ σ s->Cu (Ci Γ.prog Γ.w) A t (λv s'=>fL Γ Q (cln v) s') (λe s'=>zA Γ E e s') s
noncomputable def vQ (Γ:Bm) (Q:Ab->Bc->Prop) (E:Am->Bc->Prop) (r:Le) (s':Be):Prop:=match r with
 |.ok (.ret v)=>fL Γ Q (cl v) s'
 |.ok _=>False
 |.error e=>zA Γ E e s'
noncomputable def TCX (Γ:Bm) (A:Az) (σ:Bc) (f:Ab) (ws:List Ab) (kws:List (Str×Ab)) (Q:Ab->Bc->Prop) (E:Am->Bc->Prop):Prop:=
 ∀s,Eg Γ σ s->Kg (Ci Γ.prog Γ.w) A (.call f ⟨ws,kws⟩) (vQ Γ Q E) s
section
variable {Γ:Bm} {A:Az} {σ σ':Bc} {s s':Be} {env:Env}
theorem TX.run {α:Type} [Xx α] {t:Sem α} {P:α->Bc->Prop} {E:Am->Bc->Prop} {K:α->Be->Prop} {F:Ab->Be->Prop} (h:TX Γ A σ t P E) (R:Eg Γ σ s) (k:∀v s' σ',Eg Γ σ' s'->P (cln v) σ'->K v s') (kx:∀a s' σ',Eg Γ σ' s'->E a σ'->F (.ref a) s'):Cu (Ci Γ.prog Γ.w) A t K F s:=
 Ec (h s R) (λv s' o=>o.casesOn λσ' R' p=>k v s' σ' R' p) λe s' o=>o.casesOn λa σ' e R' q=>e▸kx a s' σ' R' q
theorem TX.exc {α:Type} [Xx α] {t:Sem α} {P:α->Bc->Prop} {E E':Am->Bc->Prop} (h:TX Γ A σ t P E) (k:∀a s' σ',Eg Γ σ' s'->E a σ'->zA Γ E' (.ref a) s'):TX Γ A σ t P E':=λ_ R=>h.run R (λ_ _ σ' R' p=>⟨σ',R',p⟩) k
theorem TCX.X {f:Ab} {ws:List Ab} {kws:List (Str×Ab)} {Q:Ab->Bc->Prop} {E:Am->Bc->Prop} (h:TCX Γ A σ f ws kws Q E):TX Γ A σ (Iq f ws kws) Q E:=λs R=>
 No (Jn (h s R) λr s' z=>by rcases r with e|(v|_|_|_)<;>first|exact z|exact z.elim)
theorem T.X {α:Type} [Xx α] {t:Sem α} {Q:α->Bc->Prop} {E:Am->Bc->Prop} (h:T Γ A σ t Q):TX Γ A σ t Q E:=λs R=>Oe (h s R)
theorem Tz {st:Jy} {rest:List Jy} {Q:Ga->Bc->Prop} {E:Am->Bc->Prop} (h:TX Γ A σ (Ni st env) (λf σ'=>(f=.next->TX Γ A σ' (Cs rest env) Q E)/\(f≠.next->Q f σ')) E):TX Γ A σ (Cs (st::rest) env) Q E:=λs R=>
 wpAny_execs_cons (h.run R (λf s' σ' R' q=>by cases f<;>first|exact q.1 rfl s' R'|exact⟨σ',R',q.2 (by intro h;cases h)⟩) λa _ σ' R' q=>⟨a,σ',rfl,R',q⟩)
theorem Aba {Q:Ga->Bc->Prop} {E:Am->Bc->Prop} (h:Q .next σ):TX Γ A σ (Cs [] env) Q E:=(Cq h).X
theorem rV {e:At} {pos:Pos} {Q:Ga->Bc->Prop} {E:Am->Bc->Prop} (h:TX Γ A σ (Dv e env) (λc=>Q (.ret c)) E):TX Γ A σ (Ni (.Return (Ad e) pos) env) Q E:=λs R=>
 wpAny_Return_some (h.run R (λ_ _ σ' R' q=>⟨σ',R',q⟩) λa _ σ' R' q=>⟨a,σ',rfl,R',q⟩)
theorem vP {W τ:List Av} {np pos:Pos} {Q:Ga->Bc->Prop} {E:Am->Bc->Prop} (hh:A.handled=Ae) (h:∀e t,E e ⟨W,(.obj e,.raw (Lo t .none))::τ⟩)
  (hk:autoParam (env.scope.kind=.function) aR) (hg:autoParam (env.globals=He) aR) (hx:autoParam (env.kindOf "_UseLegacyRO" =Ad .globalImplicit) aR):TX Γ A ⟨W,τ⟩ (Ni (.Raise (Ad (.Name "_UseLegacyRO" np)) Ae pos) env) Q E:=λ_ R=>
 xP hh R (λe t _ R'=>⟨e,_,rfl,R',h e t⟩) hk hg hx
theorem kN {f c:Ab} {first cf:List Ab} {pos:Pos} {args:List (Bool×Sem Ab)} {Q:Ab->Bc->Prop} {E:Am->Bc->Prop} (hc:Qx Γ c) (hf:cl f=c) (hfirst:first.map cl=cf) (hp:args.any (·.1)=false)
  (h:T Γ A σ (Na args) λvs σ₂=>∀ws,ws.map cl=cf++vs->TX Γ A σ₂ (Iq c ws) Q E):TX Γ A σ (callWith pos f first args []) Q E:=λs R=>by
 have e:=Ys hc hf
 subst e
 refine callWith_of (P:=λh=>Γ.K.In h) (by rw [hp];rfl) (λh X=>Qx.keeps (Γ:=Γ) (s:={heap:=h}) hc X) (Xk hp (Oe (h.elim R λvs s₂ σ₂ R₂ q=>⟨R₂.kin,?_⟩)))
 exact q (first++vs) (by rw [Bk,hfirst];rfl) s₂ R₂
theorem oY {o:At} {name:Str} {apos pos:Pos} {args:List At} {pl:Sem Bool} {Q:Ab->Bc->Prop} {E:Am->Bc->Prop}
  (h:T Γ A σ (Dv o env) λco σ₁=>∀ov,cl ov=co->T Γ A σ₁ (Il ov name pl) λfx σ₂=>Qx Γ fx.1/\T Γ A σ₂ (Na (backTo pos (Mq args env))) λvs σ₃=>∀ws,ws.map cl=fx.2++vs->TX Γ A σ₃ (Iq fx.1 ws) Q E)
  (he:autoParam (Dv (.Call (.Attribute o name apos) args [] pos) env=(do
   let ov<-Dv o env
   Mz apos.atName
   let(f,first)<-holding [ov] (Il ov name pl)
   callWith pos f first (backTo pos (Mq args env)) (backToKw pos (keywordEach [] env)))) aR)
  (hp:autoParam ((Mq args env).any (·.1)=false) aR):TX Γ A σ (Dv (.Call (.Attribute o name apos) args [] pos) env) Q E:=λs R=>
 methodCall_KW (pl:=pl) (kws:=[]) (Oe (h.elim R λov s₁ σ₁ R₁ q₁=>Oe (((q₁ ov rfl).elim R₁ λfx s₂ σ₂ R₂ q₂=>kN q₂.1 rfl rfl (Wc.trans hp) q₂.2 s₂ R₂)))) he
theorem aC {x:Str} {pos' pos:Pos} {value:At} {Q:Ga->Bc->Prop} {E:Am->Bc->Prop}
  (h:TX Γ A σ (Dv value env) (kY (.var env.locals x) .val Q) E)
  (hk:autoParam (env.scope.kind=.function) aR) (hl:autoParam (env.kindOf x=Ad .local) aR)
  (hs:autoParam (Lz value (Ad (.Name x pos')) pos.line env=Et false) aR):TX Γ A σ (Ni (.Assign [.Name x pos'] value pos) env) Q E:=λs R=>
 wpAny_Assign_Name (h.run R (λv s' σ₁ R₁ q=>q.casesOn λ_ _ U q=>(Rh (Q:=λ_=>Q .next) U q hk hl).elim R₁ λ_ _ σ' R' q=>⟨σ',R',q⟩) λa _ σ' R' q=>⟨a,σ',rfl,R',q⟩) hs
theorem yL {W τ:List Av} {f:Am} {oc:Ab} {od:Option Am} {osl:Array (Option Ab)} {name qual:Str} {params:Arguments} {body:List Jy} {scope:Li} {dV kV doc pm cdv ct:Ab} {an:Option Am} {vs:List Ab} {kw bs:List (Str×Ab)} {Q:Ab->Bc->Prop} {E:Am->Bc->Prop} (names:List Str)
  (ho:Γ.K.lookup f=Ad ⟨oc,od,.func (fnX name qual params body scope [] dV kV doc pm an cdv ct),osl⟩) (hcode:codeIn Γ.K cdv qual=true) (hd:A.depth < Hf) (hb:Hb Γ (fnX name qual params body scope [] dV kV doc pm an cdv ct) vs kw bs)
  (h:∀L,TX Γ (A.deeper (Gs qual scope L f cdv [])) ⟨W,Od L names bs++τ⟩ (Cs body (Gs qual scope L f cdv [])) (Jh Q)
   λe σ'=>T Γ (A.deeper (Gs qual scope L f cdv [])) σ' (leaving (Gs qual scope L f cdv []) (.ref e)) λ_ σ''=>E e σ'')
  (hcell:autoParam ((scope.names.all λx=>x.2 != .cell)=true) aR) (hloc:autoParam ((bs.all λx=>scope.names.lookup x.1==Ad .local)=true) aR) (hn:autoParam (names.Nodup) aD)
  (hco:autoParam (scope.isCoroutine=false) aR) (hgen:autoParam (scope.isGenerator=false) aR) (hk:autoParam (scope.kind=.function) aR):
  ∀ws kws,ws.map cl=vs->kws.map (λp:Str×Ab=>(p.1,cl p.2))=kw->TCX Γ A ⟨W,τ⟩ (.ref f) ws kws Q E:=λws kws hw hkw s R=>by
 obtain⟨binds,eb,hbind⟩:=hb ws kws hw hkw
 refine(codeAny_call_def (fd:=fnX name qual params body scope [] dV kV doc pm an cdv ct) (body:=body) (binds:=binds) hd (R.kin _ _ ho) rfl R.lim.no (codeRec_of R.kin hcode) rfl (hbind s R.kin) (λx hx=>?_) (λx hx=>?_) (λh₀ hns hk₀=>?_) hco hgen hk)
 ·have:=Fz.mp hcell x hx
  simpa using this
 ·have hx':(x.1,cl x.2)∈bs:=eb▸Cz hx
  have:=Fz.mp hloc _ hx'
  simpa using this
 have R₁:Eg Γ ⟨W,τ⟩ {s with heap:=h₀,toks:=s.toks+binds.length}:=R.grow hk₀ rfl rfl
 have R₂:=R₁.adds (Od s.heap.objs.size names bs) (λp hp=>?_) (Tm hn)
 ·refine(h s.heap.objs.size).run R₂ (λfl s' σ' R' q=>?_) λa s' σ' R' q=>q.elim R' λ_ s'' σ'' R'' q'=>⟨a,σ'',rfl,R'',q'⟩
  obtain⟨σ'',le,q⟩:=q
  refine⟨σ'',le Γ s' R',?_⟩
  cases fl<;>exact q
 ·obtain⟨x,hx,rfl⟩:=Bq.mp hp
  refine⟨⟨_,hns,?_⟩,R.freshTop,Jw (σ:=⟨W,τ⟩) (s:=s) rfl (λq hq=>(R.ents q hq).1) (Cb _)⟩
  rw [<-eb,<-List.map_reverse,Ov]
end
end
section
inductive yO (W:List Av) (τ:Am->List Av) (e:Am) (σ':Bc):Prop
 |mk (t T:Am) (ts:Array Ab) (y:Am) (h3:ts[3]? =Ad Dq) (le:Av.le ⟨W,(.obj T,.raw (aE ts))::(.obj e,.raw (Lo t (.ref T)))::τ y⟩ σ')
theorem AF.upd {A:Az} {W τ τ':List Av} {d:Am} {c c':CO} (h:AF A ⟨W,τ⟩) (U:Ri τ (.obj d) c c' τ'):AF A ⟨W,τ'⟩:=by
 obtain⟨l₁,l₂,rfl,rfl⟩:=U.split
 obtain⟨l,e,h⟩:=h
 refine⟨l,e,λenv he=>?_⟩
 obtain⟨h1,L,x,c,h2,h3⟩:=h env he
 refine⟨h1,L,x,c,h2,?_⟩
 rcases Ak.mp h3 with h|h
 ·exact Ah _ h
 ·refine Aa _ ?_
  rcases Ak.mp h with h|h
  ·exact Ah _ h
  ·rcases Cj.mp h with h|h
   ·cases h
   ·exact Aa _ (.tail _ h)
theorem AF.app {A:Az} {W ρ τ:List Av} (h:AF A ⟨W,τ⟩):AF A ⟨W,ρ++τ⟩:=by
 obtain⟨l,e,h⟩:=h
 exact⟨l,e,λenv he=>let⟨h1,L,x,c,h2,h3⟩:=h env he;⟨h1,L,x,c,h2,Bt h3⟩⟩
theorem AF.w {A:Az} {W τ:List Av} (h:AF A ⟨[],τ⟩):AF A ⟨W,τ⟩:=by
 obtain⟨l,e,h⟩:=h
 refine⟨l,e,λenv he=>?_⟩
 obtain⟨h1,L,x,c,h2,h3⟩:=h env he
 exact⟨h1,L,x,c,h2,Aa _ h3⟩
theorem AF.cons {A:Az} {W τ:List Av} {p:Av} (h:AF A ⟨W,τ⟩):AF A ⟨W,p::τ⟩:=h.app (ρ:=[p])
noncomputable abbrev Rs.withDir (rs:Rs) (v:Ab):Rs:={rs with dir:=Ad v}
theorem xA (Γ:Bm):Γ.K.lookup 187=Ad ⟨.type "function",Ae,.func (Kh Γ 187 "C3._guess_next_base" (clsStmt 8 12) (.ref 186) .none),#[]⟩:=by kernel_rfl
theorem uM (Γ:Bm):Γ.K.lookup 173=Ad ⟨.type "function",Ae,.func (Kh Γ 173 "C3._choose_next_base" (clsStmt 8 10) (.ref 172) .none),#[]⟩:=by kernel_rfl
theorem qG (Γ:Bm):Vi Γ.K 204 "direct_inconsistency" =true:=by kernel_rfl
theorem qL (Γ:Bm):Ss Γ.K 204 "_guess_next_base" 187=true:=by kernel_rfl
theorem uF (Γ:Bm):Ss Γ.K 204 "_find_next_C3_base" 180=true:=by kernel_rfl
section
variable {Γ:Bm} {A:Az} {G:List Nd} {σ:Bc}
theorem xM {W τ:List Av} {τ':Ab->List Av} {rx rd a:Am} {rs:Rs} {lf:Ab} {Q:Ab->Bc->Prop} (hA:Rm A 3) (hh:A.handled=Ae) (hF:AF A ⟨W,τ⟩) (hx:(.obj rx,.inst 204 rd)∈(⟨W,τ⟩:Bc).all) (hl:rs.leaf=Ad lf) (hlf:Lw lf=true)
  (U:∀v,Ri τ (.obj rd) (.ns rs.ns) (.ns (rs.withDir v).ns) (τ' v)):∀ws,ws.map cl=[.ref rx,.ref a]->TCX Γ A ⟨W,τ⟩ (.ref 187) ws [] Q (yO W λy=>τ' (.ref y)):=λws hw=>by
 refine yL (body:=fBody (clsStmt 8 12)) (bs:=[("self",.ref rx),("base_tree_remaining",.ref a)]) ["self","base_tree_remaining"] (xA Γ) (by kernel_rfl) hA.room (Hb.plain2 λ_ _ _=>Cm (by rfl)) (λL=>?_) (by rfl) (by rfl) (by decide) (by rfl) (by rfl) (by rfl) ws [] hw rfl
 show TX Γ (A.deeper (Gs "C3._guess_next_base" (fScope (clsStmt 8 12)) L 187 (.ref 186) [])) ⟨W,(.var L "self",.val (Ad (.ref rx)))::(.var L "base_tree_remaining",.val (Ad (.ref a)))::τ⟩ (Cs _ (Gs "C3._guess_next_base" (fScope (clsStmt 8 12)) L 187 (.ref 186) [])) _ _
 have hd:(.obj rd,.ns rs.ns)∈(⟨W,τ⟩:Bc).all:=(Jf.tau (W:=W) (U .none)).mem
 refine Tz (T.X (Dn (Cf (Bn (v:=.ref 59) (by kernel_rfl) ⟨.inl (by kernel_rfl),?_⟩))))
 refine Ai (Ac (v:=.ref rx) (by walk_at "mem") (Ai (Ac (v:=.ref a) (by walk_at "mem") (Ar (vJ (rs:=rs) hA.deeper (by walk_at "memo") (by walk_at "memo") hl hlf λe=>?_)))))
 refine Ac (v:=.ref rx) (by walk_at "mem") (Gx (by walk_at "memo") (.tau (.there (.there (U (.ref e))))) (by walk_at "set") (qG Γ) ?_)
 refine⟨λ_=>?_,λh=>absurd rfl h⟩
 have hF':AF (A.deeper (Gs "C3._guess_next_base" (fScope (clsStmt 8 12)) L 187 (.ref 186) [])) ⟨W,(.var L "self",.val (Ad (.ref rx)))::(.var L "base_tree_remaining",.val (Ad (.ref a)))::τ' (.ref e)⟩:=
  (hF.upd (U (.ref e))).push rfl rfl (by walk_at "mem") λp hp=>.tail _ (.tail _ hp)
 obtain⟨l,el,_⟩:=hF
 refine Tz (vP hh λx t=>dW hF' (Oa el) rfl λT ts h3=>⟨t,T,ts,e,h3,Av.le_sub (.cons_cons _ (.cons_cons _ (.cons _ (.cons _ (.refl _)))))⟩)
theorem vB {W τ:List Av} {τ':Ab->List Av} {rx rd a:Am} {rs:Rs} {lf:Ab} {ls:List (List Nat)} {Q:Ab->Bc->Prop} (nf:NF W G) (hA:Rm A 4) (hh:A.handled=Ae) (hF:AF A ⟨W,τ⟩) (hx:(.obj rx,.inst 204 rd)∈(⟨W,τ⟩:Bc).all) (hlf0:rs.leaf=Ad lf) (hlf:Lw lf=true)
  (U:∀v,Ri τ (.obj rd) (.ns rs.ns) (.ns (rs.withDir v).ns) (τ' v)) (hT:Sr G ⟨W,τ⟩ a ls) (hl:∀l∈ls,l≠[]/\l.length<=1000/\∀i∈l,i < G.length)
  (h:∀l∈ls,∀j r,l=j::r->Q (.ref (Gd G j)) ⟨W,τ⟩):∀ws,ws.map cl=[.ref rx,.ref a]->TCX Γ A ⟨W,τ⟩ (.ref 173) ws [] Q (yO W λy=>τ' (.ref y)):=λws hw=>by
 refine yL (body:=fBody (clsStmt 8 10)) (bs:=[("self",.ref rx),("base_tree_remaining",.ref a)]) ["self","base_tree_remaining","base"] (uM Γ) (by kernel_rfl) hA.room (Hb.plain2 λ_ _ _=>Cm (by rfl)) (λL=>?_) (by rfl) (by rfl) (by decide) (by rfl) (by rfl) (by rfl) ws [] hw rfl
 show TX Γ (A.deeper (Gs "C3._choose_next_base" (fScope (clsStmt 8 10)) L 173 (.ref 172) [])) ⟨W,(.var L "self",.val (Ad (.ref rx)))::(.var L "base_tree_remaining",.val (Ad (.ref a)))::(.var L "base",.val Ae)::τ⟩ (Cs _ (Gs "C3._choose_next_base" (fScope (clsStmt 8 10)) L 173 (.ref 172) [])) _ _
 have hd:(.obj rd,.ns rs.ns)∈(⟨W,τ⟩:Bc).all:=(Jf.tau (W:=W) (U .none)).mem
 have hA':Rm (A.deeper (Gs "C3._choose_next_base" (fScope (clsStmt 8 10)) L 173 (.ref 172) [])) 3:=hA.deeper
 have fin:∀v,Q v ⟨W,τ⟩->∀o,Jh Q (.ret v) ⟨W,(.var L "self",.val (Ad (.ref rx)))::(.var L "base_tree_remaining",.val (Ad (.ref a)))::(.var L "base",.val o)::τ⟩:=λv hv o=>
  ⟨_,Av.le_sub (.cons _ (.cons _ (.cons _ (.refl _)))),hv⟩
 refine Tz (T.X (Bo (Fo (Ac (v:=.ref rx) (by walk_at "mem") (Pp (by walk_at "memo") (by walk_at "memo") (uF Γ) (by show _∉Tv;decide) ⟨.inl (by kernel_rfl),?_⟩)))))
 refine Ai (Ac (v:=.ref a) (by walk_at "mem") (Ar λws hw=>?_))
 refine(Aaf (rs:=rs) nf (hA'.le (by decide)) hh (by walk_at "memo") (by walk_at "memo") hT.cons3 hl (λl hl' j r e=>?_) ?_ ws hw).T
 ·have hj:j < G.length:=(hl l hl').2.2 j (by rw [e];exact .head _)
  obtain⟨z,hz⟩:=Dp hj
  refine⟨_,_,by walk_at "upd",λ_=>?_,λh=>absurd rfl h⟩
  refine Tz (T.X (Hz (Au (Ac (v:=.ref (Gd G j)) (by walk_at "mem") (Ka (Kz (by rfl) ⟨_,rfl,λ_=>?_,λh=>(by cases h)⟩))))))
  exact Ao (Fp (Ac (v:=.ref (Gd G j)) (by walk_at "mem") ⟨λh=>(by cases h),λ_=>fin _ (h l hl' j r e) _⟩))
 ·refine⟨_,_,by walk_at "upd",λ_=>?_,λh=>absurd rfl h⟩
  refine Tz (T.X (Hz (Au (Ac (v:=.none) (by walk_at "mem") (Ka (Kz (by rfl) ⟨_,rfl,λh=>(by cases h),λ_=>Cq ⟨λ_=>?_,λh=>absurd rfl h⟩⟩))))))
  refine Tz (rV (oY (Ac (v:=.ref rx) (by walk_at "mem") (Pp (by walk_at "memo") (by walk_at "memo") (qL Γ) (by show _∉Tv;decide) ⟨.inl (by kernel_rfl),?_⟩))))
  refine Ai (Ac (v:=.ref a) (by walk_at "mem") (Ar λws hw=>?_))
  have hF':AF (A.deeper (Gs "C3._choose_next_base" (fScope (clsStmt 8 10)) L 173 (.ref 172) [])) ⟨W,(.var L "self",.val (Ad (.ref rx)))::(.var L "base_tree_remaining",.val (Ad (.ref a)))::(.var L "base",.val (Ad .none))::τ⟩:=
   hF.push rfl rfl (by walk_at "mem") λp hp=>.tail _ (.tail _ (.tail _ hp))
  refine(xM (rs:=rs) hA' hh hF' (by walk_at "memo") hlf0 hlf (λv=>.there (.there (.there (U v)))) ws hw).X.exc λx s' σ' R' z=>?_
  obtain⟨t,T,ts,y,h3,le⟩:=z
  obtain⟨l,el,_⟩:=hF
  have hF₂:AF (A.deeper (Gs "C3._choose_next_base" (fScope (clsStmt 8 10)) L 173 (.ref 172) [])) ⟨W,(.var L "self",.val (Ad (.ref rx)))::(.var L "base_tree_remaining",.val (Ad (.ref a)))::(.var L "base",.val (Ad .none))::τ' (.ref y)⟩:=
   hF'.upd (.there (.there (.there (U _))))
  exact⟨x,_,rfl,le Γ s' R',gQ hF₂ (Oa el) rfl h3 λT ts h3=>⟨t,T,ts,y,h3,Av.le_sub (.cons_cons _ (.cons_cons _ (.cons _ (.cons _ (.cons _ (.refl _))))))⟩⟩
end
end
section
theorem dM:entryFor table "proto.unchain" =Ad Ee.«proto.unchain»:=entryFor_of_tree (by kernel_rfl)
theorem dK:plainId "proto.unchain" =true:=by decide+kernel
section
variable {prog:Jm} {w:Ok} {A:Az} {E:Ab->Be->Prop} {s:Be}
theorem Zy {it l ex t:Am} {T:Ab} {Q:Option Ab->Be->Prop} (hh:A.handled=Ad (.ref ex)) (hx:s.heap.get? ex=Ad (Lo t T)) (hit:s.heap.IsRevIter it l (-1))
  (hQ:∀h',Iw it s.heap h'->Q Ae {s with heap:=h'}):Cu (Ci prog w) A (Ls (.ref it)) Q E s:=by
 obtain⟨o,ho,hc,hd⟩:=id hit
 unfold Ls
 refine Af (wpAny_attempt (Hw (name:=Kv "__next__") hit.typeIs F.slot_lri_next
  (Md F.slot_lri_next hit.typeIs F.entry_lri_next ?_ (F.args_lri_next_1 _))))
 unfold Ee.«list_reverseiterator.__next__»
 refine Af (Iv (a:=(Bx it,[])) rfl ?_)
 try dsimp only
 refine Af (Gu ho hd (x:=Ki (-1)) rfl ?_)
 show Cu _ _ (if(-1:Int) < 0 then _ else _) _ _ s
 rw [if_pos (by decide)]
 refine Af (Lf ?_)
 first
 |show Cu _ _ (newExc (.type "StopIteration") []>>=_) _ _ _
 |(refine Af ?_;show Cu _ _ (newExc (.type "StopIteration") []>>=_) _ _ _)
 refine Af ?_
 simp only [newExc,newTuple]
 refine Af (Ez ?_ (by size_fits))
 refine Af (m:=Nw _ _) (Iv (a:=Dq) (by first|rfl|(simp only [Nw];rfl)) ?_)
 refine Ez ?_ (by size_fits)
 simp only [raiseNew]
 refine Af (wpAny_handled ?_)
 rw [show A.in1.handled=Ad (.ref ex)from hh]
 have hxp:(s.heap.push {cls:=Hd "tuple",data:=Qk #[]}).get? ex=Ad (Lo t T):=An _ hx
 have hne:ex≠(s.heap.push {cls:=Hd "tuple",data:=Qk #[]}).objs.size:=Kw (Dw hxp)
 show Cu _ _ (if(Bx ex != Bx (s.heap.push {cls:=Hd "tuple",data:=Qk #[]}).objs.size)=true then _ else _) _ _ _
 rw [if_pos (by rw [bne_iff_ne];intro e;exact hne (Bx.inj e))]
 refine Af (Ef (wpAny_runValue (Hn dM ?_)))
 rw [Gb dK _]
 show Cu _ _ (field (.ref ex) 2>>=_) _ _ _
 refine Af (Gu (An _ hxp) rfl (x:=.none) rfl ?_)
 rw [if_pos (by decide)]
 refine Ax ?_
 unfold updateField
 refine Af (Af (wpAny_load (Bj _ rfl) ?_))
 dsimp only
 rw [if_pos (by rw [Array.size_append];exact Pr (by decide:2 < 6) (Nat.le_add_right _ _))]
 refine wpAny_update (Bj _ rfl) (wpAny_throw ?_)
 refine Af (wpAny_isInstance (T:="StopIteration") (b:=true) ⟨_,Dz _ (Bj _ rfl) rfl,rfl⟩ isSubtype_stop ?_)
 refine Ax (hQ _ ?_)
 intro b o hb e
 have hlt:=Dw e
 have hb':(s.heap.push {cls:=Hd "tuple",data:=Qk #[]}).objs.size≠b:=by
  rw [Iy];exact Nat.ne_of_gt (Nat.lt_succ_of_lt hlt)
 refine(Cd.get?_update_other _ _ hb').trans ?_
 exact An _ (An _ e)
end
section
variable {Γ:Bm} {A:Az} {σ:Bc}
noncomputable def HS (A:Az) (σ:Bc):Prop:=∃ex t T,A.handled=Ad (.ref ex)/\(.obj ex,.raw (Lo t T))∈σ.all
theorem HS.app {A:Az} {W ρ τ:List Av} (h:HS A ⟨W,τ⟩):HS A ⟨W,ρ++τ⟩:=let⟨ex,t,T,a,b⟩:=h;⟨ex,t,T,a,Bt b⟩
theorem HS.cons {A:Az} {W τ:List Av} {p:Av} (h:HS A ⟨W,τ⟩):HS A ⟨W,p::τ⟩:=h.app (ρ:=[p])
theorem cJ {W τ:List Av} {l:Am} {vs:List Ab} {Q:Ab->Bc->Prop} (hm:(.obj l,.list vs)∈(⟨W,τ⟩:Bc).all) (h:∀it,Q (.ref it) ⟨W,(.obj it,.rev l ((vs.length:Int) - 1))::τ⟩):∀ws,ws.map cl=[.ref l]->T Γ A ⟨W,τ⟩ (Iq (.type "reversed") ws) Q:=λws hw s R=>by
 obtain⟨w₀,rfl,e0⟩:=Iz hw
 have:=Ch e0
 subst this
 obtain⟨us,n,L,e⟩:=Ie R hm
 have hsz:=Ct e
 refine call_reversed_list L.isList ?_
 rw [hsz]
 exact⟨_,R.push (c:=.rev l ((vs.length:Int) - 1)) (s':={s with heap:=s.heap.push (revObj l ((vs.length:Int) - 1))}) (λ_ _ e=>An _ e) rfl rfl ⟨_,Bj _ rfl,rfl,rfl⟩,h _⟩
theorem cM {W τ:List Av} {it l:Am} {i:Int} {v:Ab} {Q:Ab->Bc->Prop} (hv:cl v=.ref it) (h:Q (.ref it) ⟨W,(.obj it,.rev l i)::τ⟩):T Γ A ⟨W,(.obj it,.rev l i)::τ⟩ (Ib v) Q:=λs R=>by
 have:=Ch hv
 subst this
 exact wpAny_pyIter_revIter (R.ents _ (Bv (q:=(.obj it,.rev l i)))).1 ⟨_,R,h⟩
theorem bG {it l:Am} {vs:List Ab}:∀(n:Nat),n<=vs.length->Lj Γ A it (λσ=>(.obj l,.list vs)∈σ.all/\HS A σ) (vs.take n).reverse [(.obj it,.rev l ((n:Int) - 1))]
 |0,_=>λσ hG s R=>by
  obtain⟨hm,ex,t,T,hh,hx⟩:=hG
  have hx':s.heap.get? ex=Ad (Lo t T):=(R.ents _ (Bt (ρ:=[(.obj it,.rev l ((0:Nat) - 1:Int))]) hx)).1
  exact Zy hh hx' (R.ents _ Bv).1 λh' hx=>⟨_,Eg.dropObj (s':={s with heap:=h'}) R rfl hx rfl rfl,rfl,rfl⟩
 |n+1,hn=>by
  have hlt:n < vs.length:=hn
  rw [Nc,Bp hlt,Option.toList_some,List.reverse_append]
  intro σ hG s R
  obtain⟨us,m,L,e⟩:=Ie R (Eh hG.1)
  obtain⟨u,hu,eu⟩:=Hk (i:=n) (v:=vs[n]) e (Bp hlt)
  have R0:Eg Γ ⟨σ.W,(.obj it,.rev l (n:Int))::σ.τ⟩ s:=by
   have:=R
   rw [show((n+1:Nat):Int) - 1=(n:Int) by lia]at this
   exact this
  have hit:s.heap.IsRevIter it l (n:Int):=(R0.ents _ (Bv (q:=(.obj it,.rev l (n:Int))))).1
  refine wpAny_pyNext_rev_item hit L.isList hu λh' hi' hs=>⟨⟨σ.W,[(.obj it,.rev l ((n:Int) - 1))]++σ.τ⟩,Eg.changeS (s':={s with heap:=h'}) (c':=.rev l ((n:Int) - 1)) R0 (.tau .here) rfl hs.extBut rfl rfl hi',?_,[(.obj it,.rev l ((n:Int) - 1))],rfl,?_,bG n (Ml hn)⟩
  ·show Ad (cl u)=Ad vs[n]
   rw [eu]
  ·intro target u s R
   obtain⟨o,ho,hc,_⟩:=(R.ents _ (Bv (q:=(.obj it,.rev l ((n:Int) - 1))))).1
   exact Wx ho hc (by decide) ⟨_,R,rfl⟩
end
end
section
theorem rI (i n:Nat) (h:i<=n):sliceBounds (Ad (i:Int)) (Ad (i:Int)) Ae n=((i:Int),(i:Int),1):=by
 simp only [sliceBounds,Option.getD_none]
 have h1:¬((i:Int) < 0):=by lia
 simp only [h1,if_false,show(1:Int)>0 by decide,if_true]
 congr 1
 ·lia
 ·congr 1;lia
section
variable {Γ:Bm} {A:Az} {σ:Bc} {env:Env}
theorem aA {a b sl:Am} {vs ts:List Ab} {i:Nat} {vl vu:Ab} {σ':Bc} {Q:Unit->Bc->Prop} {s:Be} (R:Eg Γ σ s) (hl:cl vl=.int i 0) (hu:cl vu=.int i 0) (hs:s.heap.IsSliceOf sl vl vu .none)
  (ht:Fc Γ σ b ts) (hi:i<=vs.length) (hz:vs.length+ts.length<=1000000) (U:Jf σ (.obj a) (.list vs) (.list (vs.take i++ts++vs.drop i)) σ') (h:Q () σ'):
  Cu (Ci Γ.prog Γ.w) A (setItem (.ref a) (.ref sl) (.ref b)) (λ_ s'=>fL Γ Q () s') (λ_ _=>False) s:=by
 obtain⟨us,n,L,e⟩:=Ie R U.mem
 obtain⟨ws,n',Tb,eb⟩:=ht s R
 have hsz:=Ct e
 have hszb:=Ct eb
 obtain⟨os,hos,hcs,hds⟩:=id hs
 have hTs:s.TypeIs (.ref sl) "slice" :=⟨os,hos,hcs⟩
 have hTb:s.TypeIs (.ref b) "tuple" :=⟨_,Tb,rfl⟩
 have hab:a≠b:=λq=>by
  rw [q]at L
  have:=(Dl (L.symm.trans Tb))
  exact absurd (congrArg Obj.cls this) (by show¬(Hd "list" =Hd "tuple");decide)
 have pl:IsPart vl (Ad (i:Int)):=by obtain⟨t,rfl⟩:=Fb hl;exact .int _ t
 have pu:IsPart vu (Ad (i:Int)):=by obtain⟨t,rfl⟩:=Fb hu;exact .int _ t
 unfold setItem
 try with_reducible refine Ef ?_
 first|refine Af (Ax ?_)|skip
 refine Af (wpAny_sequenceKey L.isList.typeIs (by decide) ?_)
 refine Af (Hw (name:=Kv "__setitem__") L.isList.typeIs slot_list_setitem
  (Md slot_list_setitem L.isList.typeIs entry_list_setitem ?_ (args_list_setitem _ _ _)))
 show Cu _ _ (Ee.List.listSubscript? (.ref sl)>>=_) _ _ s
 refine Af ?_
 unfold Ee.List.listSubscript?
 refine Af (wpAny_specialOf hTs slice_no_index ?_)
 simp only [Option.isNone_none,if_true]
 refine Ax ?_
 show Cu _ _ (typeOf (.ref sl)>>=_) _ _ s
 refine Af (wpAny_typeOf hTs ?_)
 rw [if_neg (by decide)]
 rw [listSliceParts_eq]
 refine Af (Af (Gu hos hds (x:=.none) rfl (Af (wpAny_listPart .none ?_))))
 rw [if_neg (by decide)]
 refine Af (Gu hos hds (x:=vl) rfl (Af (wpAny_listPart pl ?_)))
 refine Af (Gu hos hds (x:=vu) rfl (Af (wpAny_listPart pu (Ax ?_))))
 have hne:¬(Lh (.ref a) (.ref b)=true):=by simp [Lh,hab]
 rw [if_neg hne]
 refine Af ?_
 unfold Ee.List.listAllItems Qv
 refine Af (wpAny_typeOf hTb ?_)
 rw [if_pos (by decide)]
 refine Af (Qq Tb rfl (Ax ?_))
 refine Af (Af (Qq L rfl (Ax ?_)))
 refine Af (Iv (sliceIndices_raw (Ad (i:Int)) (Ad (i:Int)) Ae us.size (by simp)) ?_)
 rw [rI i us.size (by rw [hsz];exact hi)]
 rw [if_pos (by rfl)]
 refine Af (Lf ?_)
 have hlong:¬(Pc (us.size+ws.size)=true):=by
  unfold Pc
  rw [hsz,hszb,decide_eq_true_iff,Ay];lia
 show Cu _ _ (if Pc (us.size+ws.size)=true then _ else _) _ _ _
 rw [if_neg hlong]
 show Cu _ _ (updateSeq a (λxs=>xs.extract 0 (i:Int).toNat++ws++xs.extract (max (i:Int) (i:Int)).toNat xs.size)>>=λ_=>letGo (us.extract (i:Int).toNat (max (i:Int) (i:Int)).toNat).toList.reverse>>=λ_=>ret .none) _ _ _
 rw [Int.max_self,Dj]
 refine Af (Pf L rfl (Af (wpAny_letGo (Ax ⟨_,rfl,Ax ?_⟩))) (by rw [hsz,Ay];lia) ?_)
 ·refine⟨_,Eg.changeS (s':={s with heap:=s.heap.update a (Mk (λxs=>xs.extract 0 i++ws++xs.extract i xs.size))}) R U rfl (Dk ..).extBut rfl rfl ⟨_,_,L.update _,?_⟩,h⟩
  rw [Array.toList_append,Array.toList_append,Bk,Bk,eb]
  congr 1
  ·congr 1
   rw [Array.toList_extract,List.extract_eq_take_drop,List.drop_zero,Nat.sub_zero,Ox,e]
  ·rw [Array.toList_extract,List.extract_eq_take_drop,Ox,List.map_drop,e]
   rw [List.take_of_length_le (by rw [List.length_drop,hsz];lia)]
 ·show(us.extract 0 i++ws++us.extract i us.size).size<=_
  simp only [Array.size_append,Array.size_extract]
  rw [hszb,hsz,Ay];lia
theorem aB {o value lo hi:At} {sp pos' pos:Pos} {Q:Ga->Bc->Prop}
  (h:T Γ A σ (Dv value env) λc σ₁=>T Γ A σ₁ (Dv o env) λco σ₂=>T Γ A σ₂ (Dv lo env) λl σ₃=>T Γ A σ₃ (Dv hi env) λu σ₄=>∃(a b:Am) (vs ts:List Ab) (i:Nat) (σ':Bc),c=.ref b/\co=.ref a/\l=.int i 0/\u=.int i 0/\Fc Γ σ₄ b ts/\i<=vs.length/\vs.length+ts.length<=1000000/\Jf σ₄ (.obj a) (.list vs) (.list (vs.take i++ts++vs.drop i)) σ'/\Q .next σ')
  (hs:autoParam (Lz value (Ad (.Subscript o (.Slice (Ad lo) (Ad hi) Ae sp) pos')) pos.line env=Et false) aR):T Γ A σ (Ni (.Assign [.Subscript o (.Slice (Ad lo) (Ad hi) Ae sp) pos'] value pos) env) Q:=λs R=>by
 refine wpAny_Assign_Subscript (h.elim R λv s₁ σ₁ R₁ q₁=>q₁.elim R₁ λov s₂ σ₂ R₂ q₂=>wpAny_Slice (q₂.elim R₂ λl s₃ σ₃ R₃ q₃=>q₃.elim R₃ λu s₄ σ₄ R₄ q₄=>?_)) hs
 obtain⟨a,b,vs,ts,i,σ',e1,e2,e3,e4,ht,hi',hz,U,q⟩:=q₄
 have:=Ch e1
 subst this
 have:=Ch e2
 subst this
 rw [evalPart_none]
 refine Ax ?_
 have R5:=R₄.grow (s':={s₄ with heap:=s₄.heap.push {cls:=.type "slice",data:=.fields #[l,u,.none]}}) (λ_ _ e=>An _ e) rfl rfl
 exact Ec (aA (Q:=λ_ σ=>Q .next σ) R5 e3 e4 (Cd.IsSliceOf.new ..) ht hi' hz U q) (λ_ _ ⟨σ',R',q⟩=>⟨σ',R',q⟩) λ_ _ x=>x
end
end
section
noncomputable def Ge (G:List Nd) (j:Nat):List Nat:=match G[j]?with|Ad x=>x.bs|Ae=>[]
theorem Qh {G:List Nd} {j:Nat} {x:Nd} (h:G[j]? =Ad x):Ge G j=x.bs:=by simp [Ge,h]
inductive Ia (G:List Nd):Nat->Nat->Prop
 |refl (j:Nat):Ia G j j
 |step {j b k:Nat}:b∈Ge G j->Ia G b k->Ia G j k
theorem Ia.cases' {G:List Nd} {j k:Nat}:Ia G j k↔k=j\/∃b∈Ge G j,Ia G b k:=by
 constructor
 ·intro h
  cases h with
  |refl=>exact .inl rfl
  |step h1 h2=>exact .inr ⟨_,h1,h2⟩
 ·rintro(rfl|⟨b,h1,h2⟩)
  ·exact .refl _
  ·exact .step h1 h2
set_option tactic.hygienic true in
theorem Gr.bs_lt {G:List Nd} (g:Gr G) {j b:Nat} (h:b∈Ge G j):b < j:=by
 unfold Ge at h
 split at h
 ·rename_i x hx;exact(g.bs _ _ hx).2 b h
 ·cases h
set_option tactic.hygienic true in
theorem Gr.bs_nodup {G:List Nd} (g:Gr G) (j:Nat):(Ge G j).Nodup:=by
 unfold Ge
 split
 ·rename_i x hx;exact(g.bs _ _ hx).1
 ·exact .nil
theorem Ia.le {G:List Nd} (g:Gr G) {j k:Nat} (h:Ia G j k):k<=j:=by
 induction h with
 |refl=>exact Cb _
 |step h1 _ ih=>exact Ca ih (Ml (g.bs_lt h1))
noncomputable def wt (l:List Nat):Nat:=(l.map λj=>2 ^ j).sum
theorem eJ (a b:List Nat):wt (a++b)=wt a+wt b:=by simp [wt]
theorem lB:∀l:List Nat,l.length<=wt l
 |[]=>Cb _
 |x::r=>by
  have:=lB r
  have h:1<=2 ^ x:=Nat.one_le_two_pow
  show r.length+1<=2 ^ x+wt r
  lia
theorem sK:∀(n:Nat) (l:List Nat),l.Nodup->(∀x∈l,x < n)->wt l < 2 ^ n
 |0,l,_,h=>by
  match l with
  |[]=>decide
  |x::r=>exact absurd (h x (.head _)) (Nat.not_lt_zero _)
 |n+1,l,hd,h=>by
  by_cases hn:n∈l
  ·have e:l.Perm (n::l.erase n):=List.perm_cons_erase hn
   have hw:wt l=2 ^ n+wt (l.erase n):=by
    have:=(e.map λj=>2 ^ j).sum_nat
    exact this
   have:=sK n (l.erase n) (hd.erase n) λx hx=>by
    have h1:=h x (List.mem_of_mem_erase hx)
    have h2:x≠n:=λq=>by
     rw [q]at hx
     exact(List.Nodup.mem_erase_iff hd).mp hx |>.1 rfl
    lia
   rw [hw,Nat.pow_succ];lia
  ·have:=sK n l hd λx hx=>by
    have h1:=h x hx
    have h2:x≠n:=λq=>hn (q▸hx)
    lia
   rw [Nat.pow_succ];lia
theorem Fh.go {Γ:Bm} {A:Az} {env:Env} {rest:List Jy} {Q:Ga->Bc->Prop} {σ:Bc} (h:T Γ A σ (Cs rest env) Q):Fh Γ A env rest Q .next σ:=h
theorem qQ (Γ:Bm):Γ.K.lookup 35=Ad ⟨.type "function",Ae,.func (Kh Γ 35 "_legacy_flatten" (topStmt 3) (.ref 34) .none),#[]⟩:=by kernel_rfl
section
variable {Γ:Bm} {A:Az} {G:List Nd} {σ:Bc}
structure pE (G:List Nd) (j:Nat) (pre rest:List Nat):Prop where
 lt:∀k∈pre++rest,k < G.length
 all:∀k,Ia G j k↔k∈pre\/∃r∈rest,Ia G r k
 wt:pre.length+wt rest<=2 ^ 12
theorem pE.start (g:Gr G) {j:Nat} (hj:j < G.length):pE G j [] [j]:=by
 refine⟨λk hk=>?_,λk=>?_,?_⟩
 ·simp at hk;lia
 ·simp
 ·have h12:j<=12:=by have:=g.few;lia
  have:=Nat.pow_le_pow_right (by decide:0 < 2) h12
  simpa [Mine.wt]using this
theorem pE.next (g:Gr G) {j r:Nat} {pre rest:List Nat} (f:pE G j pre (r::rest)):pE G j (pre++[r]) (Ge G r++rest)/\Mine.wt (Ge G r++rest) < Mine.wt (r::rest):=by
 have hr:r < G.length:=f.lt r (by simp)
 have hw:Mine.wt (Ge G r) < 2 ^ r:=sK r _ (g.bs_nodup r) λx hx=>g.bs_lt hx
 have e1:Mine.wt (r::rest)=2 ^ r+Mine.wt rest:=rfl
 refine⟨⟨λk hk=>?_,λk=>?_,?_⟩,by rw [eJ,e1];lia⟩
 ·rcases Ak.mp hk with h|h
  ·exact f.lt k ((Ak.mp h).elim (λh=>Ah _ h) λh=>Aa _ (by simp at h;simp [h]))
  ·rcases Ak.mp h with h|h
   ·have:=g.bs_lt h;lia
   ·exact f.lt k (Aa _ (.tail _ h))
 ·rw [f.all]
  constructor
  ·rintro(h|⟨q,hq,h⟩)
   ·exact .inl (Ah _ h)
   ·rcases Cj.mp hq with rfl|hq
    ·rcases Ia.cases'.mp h with rfl|⟨b,hb,h⟩
     ·exact .inl (by simp)
     ·exact .inr ⟨b,Ah _ hb,h⟩
    ·exact .inr ⟨q,Aa _ hq,h⟩
  ·rintro(h|⟨q,hq,h⟩)
   ·rcases Ak.mp h with h|h
    ·exact .inl h
    ·simp at h;subst h;exact .inr ⟨k,.head _,.refl _⟩
   ·rcases Ak.mp hq with hq|hq
    ·exact .inr ⟨r,.head _,.step hq h⟩
    ·exact .inr ⟨q,.tail _ hq,h⟩
 ·have:=f.wt
  rw [Aj,eJ,Br]
  rw [e1]at this;lia
theorem rF {W τ:List Av} {j:Nat} {Q:Ab->Bc->Prop} (nf:NF W G) (g:Gr G) (hA:Rm A 1) (hj:j < G.length)
  (h:∀r fl,(∀k∈fl,k < G.length)->(∀k,Ia G j k↔k∈fl)->fl.length<=2 ^ 12->Q (.ref r) ⟨W,(.obj r,.list (Ap G fl))::τ⟩):∀ws,ws.map cl=[.ref (Gd G j)]->TC Γ A ⟨W,τ⟩ (.ref 35) ws [] Q:=λws hw=>by
 refine Pk (body:=fBody (topStmt 3)) (bs:=[("begin",.ref (Gd G j))]) ["begin","result","i","ob"] (qQ Γ) (by kernel_rfl) hA.room (Hb.plain1 λ_ _=>Cm (by rfl)) (λL=>?_) (by rfl) (by rfl) (by decide) (by rfl) (by rfl) (by rfl) ws [] hw rfl
 show T Γ _ ⟨W,(.var L "begin",.val (Ad (.ref (Gd G j))))::(.var L "result",.val Ae)::(.var L "i",.val Ae)::(.var L "ob",.val Ae)::τ⟩ _ _
 refine Ao (Bo (Ic (Ai (Ac (v:=.ref (Gd G j)) (by walk_at "mem") (Ar ⟨by rw [Ay];exact Ce rfl,λa=>⟨_,_,by walk_at "upd",?_⟩⟩)))))
 refine Ao (Bo (Dh ⟨_,_,by walk_at "upd",?_⟩))
 refine Ao (oX (λn σ=>∃pre rest o,n=wt rest/\pE G j pre rest/\σ=⟨W,(.obj a,.list (Ap G (pre++rest)))::(.var L "begin",.val (Ad (.ref (Gd G j))))::(.var L "result",.val (Ad (.ref a)))::(.var L "i",.val (Ad (.int pre.length 0)))::(.var L "ob",.val o)::τ⟩) (wt [j]) ⟨[],[j],Ae,rfl,.start g hj,rfl⟩ ?_)
 rintro n _ ⟨pre,rest,o,rfl,f,rfl⟩
 have hlen:(Ap G (pre++rest)).length<=1000000:=by
  have h1:=f.wt
  have h2:=lB rest
  rw [Bb,Aj];lia
 refine Au (Ac (v:=.int pre.length 0) (by walk_at "mem") (Cf (Bd (v:=.builtin "len") (by kernel_rfl) (by decide+kernel) (by decide) ⟨.inr (.inl ⟨_,rfl⟩),Ai (Ac (v:=.ref a) (by walk_at "mem") (Ar (Hq (vs:=Ap G (pre++rest)) Bv hlen (vY ⟨_,rfl,λhb=>?_,λhb=>?_⟩))))⟩)))
 ·match rest,f with
  |[],_=>
   rw [Bb]at hb
   simp at hb
  |r::rest,f=>
   have hr:r < G.length:=f.lt r (by simp)
   obtain⟨x,ex⟩:=Dp hr
   have ebs:=Qh ex
   obtain⟨f',hlt⟩:=f.next g
   have hget:(Ap G (pre++r::rest))[pre.length]? =Ad (.ref x.me):=by
    rw [Ks,Hh (by rw [Bb];exact Cb _),Bb,Qn]
    show Ad (Bx (Gd G r))=_
    rw [Bu ex]
   have hp:pre.length<=2 ^ 12:=by have:=f.wt;lia
   refine Ao (Bo (Bh (Ac (v:=.ref a) (by walk_at "mem") (Ac (v:=.int pre.length 0) (by walk_at "mem") (Cp (vs:=Ap G (pre++r::rest)) (v:=.ref x.me) Bv (by lia) (by lia) (by rw [Dj];exact hget) ⟨_,_,by walk_at "upd",?_⟩)))))
   refine Fh.go ?_
   refine Ao ?_
   refine Zs (old:=.int pre.length 0) (Ag ?_) (Dh λu v hu hv=>Aak hu hv ⟨_,_,by walk_at "upd",?_⟩)
   ·walk_at "ns"
   refine Fh.go ?_
   refine Ao (aB (Ek nf ex (Qg Γ) (v:=.ref x.bt) (by walk_at "ns") (Ac (v:=.ref x.me) (by walk_at "mem") ⟨rfl,rfl⟩) ?_))
   refine Ac (v:=.ref a) (by walk_at "mem") (Ac (v:=.int ((pre.length:Int)+1) 0) (by walk_at "mem") (Ac (v:=.int ((pre.length:Int)+1) 0) (by walk_at "mem") ?_))
   refine⟨a,x.bt,Ap G (pre++r::rest),Ap G x.bs,pre.length+1,_,rfl,rfl,rfl,rfl,(nf.bt _ _ ex).tup,?_,?_,.tau .here,?_⟩
   ·rw [Bb,Aj,Fy];lia
   ·have h1:=f'.wt
    have h2:=lB (Ge G r++rest)
    rw [ebs]at h1 h2
    rw [Aj]at h1 h2
    rw [Bb,Bb,Aj,Fy]
    simp only [Br]at h1
    lia
   ·refine Fh.go ?_
    refine Cq ⟨_,_,hlt,Av.le_refl _,pre++[r],Ge G r++rest,Ad (.ref x.me),rfl,f',?_⟩
    have e1:(Ap G (pre++r::rest)).take (pre.length+1)++Ap G x.bs++(Ap G (pre++r::rest)).drop (pre.length+1)=Ap G (pre++[r]++(Ge G r++rest)):=by
     have e:pre++r::rest=(pre++[r])++rest:=by simp
     have hl:(Ap G (pre++[r])).length=pre.length+1:=by rw [Bb];simp
     rw [e,Ks,Fn hl,List.drop_left' hl,ebs]
     simp only [Ks,Ba]
    have e2:(pre.length:Int)+1=((pre++[r]).length:Int):=by simp
    rw [e1,e2]
 ·have hr:rest=[]:=by
   rw [Bb]at hb
   match rest,hb with
   |[],_=>rfl
   |r::rest,hb=>simp at hb;lia
  subst hr
  refine Cq (Ao (Fp (Ac (v:=.ref a) (by walk_at "mem") ⟨⟨W,(.obj a,.list (Ap G (pre++[])))::τ⟩,Av.le_sub (.cons_cons _ (.cons _ (.cons _ (.cons _ (.cons _ (.refl _)))))),?_⟩)))
  rw [Cr]
  refine h a pre (λk hk=>f.lt k (Ah _ hk)) (λk=>?_) (by have:=f.wt;lia)
  rw [f.all]
  simp
end
end
section
theorem uE (Γ:Bm):Γ.K.lookup 28=Ad ⟨.type "function",Ae,.func (Kh Γ 28 "_legacy_mergeOrderings" (topStmt 2) (.ref 27) .none),#[]⟩:=by kernel_rfl
theorem gF (G:List Nd) (l:List Nat):(Ap G l).reverse=Ap G l.reverse:=by simp [Ap]
section
variable {Γ:Bm} {A:Az} {G:List Nd} {σ:Bc}
theorem Tg (g:Gr G) {acc:List Nat} {k:Nat} (ha:∀i∈acc,i < G.length) (hk:k < G.length):(acc.map (Cy G)).contains (Cy G k)=acc.contains k:=by
 rw [Ko,My,My,Bq]
 constructor
 ·rintro⟨i,hi,e⟩
  rw [<-g.key_inj (ha i hi) hk e];exact hi
 ·exact λh=>⟨k,h,rfl⟩
theorem Go:∀(n:Nat) (l:List Nat),l.Nodup->(∀x∈l,x < n)->l.length<=n
 |0,l,_,h=>by
  match l with
  |[]=>decide
  |x::r=>exact absurd (h x (.head _)) (Nat.not_lt_zero _)
 |n+1,l,hd,h=>by
  by_cases hn:n∈l
  ·have:=Go n (l.erase n) (hd.erase n) λx hx=>by
    have h1:=h x (List.mem_of_mem_erase hx)
    have h2:x≠n:=λq=>by
     rw [q]at hx
     exact(List.Nodup.mem_erase_iff hd).mp hx |>.1 rfl
    lia
   have e:=List.length_erase_of_mem hn
   lia
  ·have:=Go n l hd λx hx=>by
    have h1:=h x hx
    have h2:x≠n:=λq=>hn (q▸hx)
    lia
   lia
structure MoS where
 ks:List Nat
 ids:List Nat
 o₁:Option Ab
 o₂:Option Ab
structure MoJ (S:Nat->Prop) (z:MoS):Prop where
 n:z.ks.Nodup
 s:∀k,k∈z.ks↔S k
 l:z.ids.length=z.ks.length
 i:∀k,k∈z.ids↔k∈z.ks
noncomputable abbrev moV (G:List Nd) (L a sn rs:Am) (z:MoS) (τ:List Av):List Av:=(.obj rs,.list (Ap G z.ks))::(.obj sn,.iset (z.ids.map (Cy G)))::(.var L "orderings",.val (Ad (.ref a)))::(.var L "seen",.val (Ad (.ref sn)))::(.var L "result",.val (Ad (.ref rs)))::(.var L "ordering",.val z.o₁)::(.var L "o",.val z.o₂)::τ
theorem pQ {b j:Am} {a c:List Am} (h:[b]=a++j::c):a=[]/\j=b:=by
 cases a with
 |nil=>exact⟨rfl,(Oy h).1.symm⟩
 |cons x r=>cases r<;>cases(Oy h).2
theorem uY {W τ:List Av} {a b:Am} {fl:List Nat} {Q:Ab->Bc->Prop} (nf:NF W G) (g:Gr G) (hA:Rm A 1) (hH:HS A ⟨W,τ⟩) (ha:(.obj a,.list [.ref b])∈(⟨W,τ⟩:Bc).all) (hb:(.obj b,.list (Ap G fl))∈(⟨W,τ⟩:Bc).all) (hl:∀k∈fl,k < G.length) (hz:fl.length<=2 ^ 12)
  (h:∀r ks,ks.Nodup->(∀k,k∈ks↔k∈fl)->Q (.ref r) ⟨W,(.obj r,.list (Ap G ks))::τ⟩):∀ws,ws.map cl=[.ref a]->TC Γ A ⟨W,τ⟩ (.ref 28) ws [] Q:=λws hw=>by
 refine Pk (body:=fBody (topStmt 2)) (bs:=[("orderings",.ref a)]) ["orderings","seen","result","ordering","o"] (uE Γ) (by kernel_rfl) hA.room (Hb.plain1 λ_ _=>Cm (by rfl)) (λL=>?_) (by rfl) (by rfl) (by decide) (by rfl) (by rfl) (by rfl) ws [] hw rfl
 show T Γ (A.deeper (Gs "_legacy_mergeOrderings" (fScope (topStmt 2)) L 28 (.ref 27) [])) ⟨W,(.var L "orderings",.val (Ad (.ref a)))::(.var L "seen",.val Ae)::(.var L "result",.val Ae)::(.var L "ordering",.val Ae)::(.var L "o",.val Ae)::τ⟩ _ _
 have hHd:HS (A.deeper (Gs "_legacy_mergeOrderings" (fScope (topStmt 2)) L 28 (.ref 27) [])) ⟨W,τ⟩:=hH
 generalize A.deeper (Gs "_legacy_mergeOrderings" (fScope (topStmt 2)) L 28 (.ref 27) [])=D at *
 refine Ao (Bo (Cf (Bd (v:=.type "set") (by kernel_rfl) (by decide+kernel) (by decide) ⟨.inr (.inr ⟨_,rfl⟩),Ar (fG λsn=>⟨_,_,by walk_at "upd",?_⟩)⟩)))
 refine Fh.go ?_
 refine Ao (Bo (Ic (Ar ⟨by rw [Ay];exact Cg _,λrs=>⟨_,_,by walk_at "upd",?_⟩⟩)))
 refine Fh.go ?_
 have up:∀{q} ρ z,q∈(⟨W,τ⟩:Bc).all->q∈(⟨W,ρ++moV G L a sn rs z τ⟩:Bc).all:=λρ z hq=>Bt (Bt (ρ:=[_,_,_,_,_,_,_]) hq)
 have uH:∀ρ z,HS D ⟨W,ρ++moV G L a sn rs z τ⟩:=λρ z=>(hHd.app (ρ:=[_,_,_,_,_,_,_])).app
 refine Ao (Sh (Cf (Bd (v:=.type "reversed") (by kernel_rfl) (by decide+kernel) (by decide) ⟨.inr (.inr ⟨_,rfl⟩),Ai (Ac (v:=.ref a) (by walk_at "mem") (Ar (cJ (vs:=[.ref b]) (up [] ⟨[],[],Ae,Ae⟩ ha) λit v hv=>cM hv ?_)))⟩)))
 refine⟨.ref,[b],it,_,_,λ_ _=>W,λ_ z=>moV G L a sn rs z τ,λd z=>MoJ (λk=>d≠[]/\k∈fl) z,⟨[],[],Ae,Ae⟩,⟨rfl,rfl,bG (vs:=[.ref b]) 1 (Cb 1)⟩,⟨.nil,λk=>⟨λh=>(nomatch h),λh=>absurd rfl h.1⟩,rfl,λk=>Iff.rfl⟩,λ_ z _=>⟨up [] z ha,uH [] z⟩,λd j r u ρ z e1 hu hz K hK=>?_,λz hz=>?_⟩
 ·obtain⟨hd,hj⟩:=pQ e1
  rw [hj]at hu
  refine Cx hu (by walk_at "upd") ?_
  refine Ao (Sh (Cf (Bd (v:=.type "reversed") (by kernel_rfl) (by decide+kernel) (by decide) ⟨.inr (.inr ⟨_,rfl⟩),Ai (Ac (v:=.ref b) (by walk_at "mem") (Ar (cJ (vs:=Ap G fl) (up ρ ⟨z.ks,z.ids,Ad (.ref b),z.o₂⟩ hb) λit₂ v hv=>cM hv ?_)))⟩)))
  have Y:=λit₂=>bG (Γ:=Γ) (A:=D) (it:=it₂) (l:=b) (vs:=Ap G fl) (Ap G fl).length (Cb _)
  rw [Es,gF]at Y
  refine⟨λj=>.ref (Gd G j),fl.reverse,it₂,_,_,λ_ _=>W,λ_ z=>ρ++moV G L a sn rs ⟨z.ks,z.ids,Ad (.ref b),z.o₂⟩ τ,λd z=>MoJ (λk=>k∈d) z,z,⟨rfl,rfl,Y it₂⟩,⟨hz.n,λk=>⟨λh=>absurd hd ((hz.s k).mp h).1,λh=>nomatch h⟩,hz.l,hz.i⟩,λ_ z _=>⟨up ρ _ hb,uH ρ _⟩,λdn j r u ρ₂ z e1 hu hz K2 hK2=>?_,λz hz=>?_⟩
  ·have hk5:∀k∈dn,k < G.length:=λk hk=>hl k (List.mem_reverse.mp (by rw [e1];exact Ah _ hk))
   have hj:j < G.length:=hl j (List.mem_reverse.mp (by rw [e1];exact Aa _ (.head _)))
   obtain⟨x,ex⟩:=Dp hj
   have ek:=Gj ex
   rw [Bu ex]at hu
   have hks:∀k∈z.ks,k < G.length:=λk hk=>hk5 k ((hz.s k).mp hk)
   have hlen:z.ks.length<=12:=Ca (Go _ _ hz.n hks) g.few
   have hc:=Tg g (λk hk=>hks k ((hz.i k).mp hk)) hj
   rw [ek]at hc
   refine Cx hu (by walk_at "upd") ?_
   refine Ao (Hz (Au (Ek nf ex (Mg Γ) (v:=.int x.key 0) (.head _) (Ac (v:=.ref x.me) (by walk_at "mem") ⟨rfl,rfl⟩) (Ac (v:=.ref sn) (by walk_at "mem") (Uz (ks:=z.ids.map (Cy G)) (by walk_at "mem") ⟨_,rfl,λhb=>?_,λhb=>?_⟩)))))
   ·rw [hc,Nf,List.contains_eq_mem,decide_eq_false_iff_not]at hb
    have hnk:j∉z.ks:=λh=>hb ((hz.i j).mpr h)
    refine Ao (Gf (Fo (Ac (v:=.ref sn) (by walk_at "mem") (De Qt PySem.F.slot_set_add PySem.F.type_set_add (fV (ks:=z.ids.map (Cy G)) (by walk_at "mem")) ⟨.inr (.inl ⟨_,rfl⟩),?_⟩))))
    refine Ai (Ek nf ex (Mg Γ) (v:=.int x.key 0) (.head _) (Ac (v:=.ref x.me) (by walk_at "mem") ⟨rfl,rfl⟩) (Ar (Yu (by walk_at "upd") (by rw [As,hz.l];exact Hr (Jx hlen) (by decide)) ?_)))
    refine Fh.go ?_
    refine Ao (Gf (Fo (Ac (v:=.ref rs) (by walk_at "mem") (De Cv PySem.F.slot_list_insert PySem.F.type_list_insert (It (vs:=Ap G z.ks) (by walk_at "mem")) ⟨.inr (.inl ⟨_,rfl⟩),?_⟩))))
    refine Ai (Dh (k:=0) (pos:=⟨0,0,0,0⟩) (Ai (Ac (v:=.ref x.me) (by walk_at "mem") (Ar (rY (by walk_at "upd") (by rw [Bb,Ay];lia) ?_)))))
    rw [show Bx x.me::Ap G z.ks=Ap G (j::z.ks) by rw [<-Bu ex];rfl,show z.ids.map (Cy G)++[x.key]=(z.ids++[j]).map (Cy G) by rw [Bk,<-ek];rfl]
    refine Fh.go (Cq (Fh.go (Cq (hK2 .next _ ⟨_,_,Av.le_refl _,⟨j::z.ks,z.ids++[j],Ae,Ad (.ref x.me)⟩,rfl,Fe.mpr ⟨hnk,hz.n⟩,λk=>?_,?_,λk=>?_⟩))))
    ·rw [Cj,Ak,hz.s,Bi,or_comm]
    ·rw [Aj,hz.l];rfl
    ·rw [Ak,hz.i,Bi]
     exact or_comm.trans Cj.symm
   ·rw [hc,Ke,List.contains_eq_mem,decide_eq_true_iff]at hb
    have hnk:j∈dn:=(hz.s j).mp ((hz.i j).mp hb)
    refine Cq (Fh.go (Cq (hK2 .next _ ⟨_,_,Av.le_refl _,⟨z.ks,z.ids,Ae,Ad (.ref x.me)⟩,rfl,hz.n,λk=>?_,hz.l,hz.i⟩)))
    rw [Ak,hz.s,Bi]
    exact⟨.inl,λh=>h.elim id λh=>h▸hnk⟩
  ·refine Cq (Fh.go (Cq (hK .next _ ⟨_,_,Av.le_refl _,⟨z.ks,z.ids,_,z.o₂⟩,rfl,hz.n,λk=>?_,hz.l,hz.i⟩)))
   rw [hz.s,List.mem_reverse]
   exact⟨λh=>⟨λe=>(by cases d<;>cases e),h⟩,And.right⟩
 ·refine Cq (Fh.go (Ao (Fp (Ac (v:=.ref rs) (by walk_at "mem") ⟨⟨W,(.obj rs,.list (Ap G z.ks))::τ⟩,Av.le_sub (.cons_cons _ (.cons _ (.cons _ (.cons _ (.cons _ (.cons _ (.cons _ (.refl _)))))))),h rs z.ks hz.n λk=>(hz.s k).trans ⟨And.right,λh=>⟨λe=>(nomatch e),h⟩⟩⟩))))
end
end
section
theorem Aee (Γ:Bm):Γ.K.lookup 42=Ad ⟨.type "function",Ae,.func (Kh Γ 42 "_legacy_ro" (topStmt 4) (.ref 41) .none),#[]⟩:=by kernel_rfl
theorem oR (Γ:Bm):Γ.K.lookup 147=Ad ⟨.type "function",Ae,.func (Kh Γ 147 "C3.legacy_ro" (clsStmt 8 7) (.ref 146) .none),#[]⟩:=by kernel_rfl
noncomputable abbrev Rs.withOwn (rs:Rs) (v:Ab):Rs:={rs with own:=Ad v}
section
variable {Γ:Bm} {A:Az} {G:List Nd} {σ:Bc}
theorem Afb {W τ:List Av} {j:Nat} {Q:Ab->Bc->Prop} (nf:NF W G) (g:Gr G) (hA:Rm A 2) (hH:HS A ⟨W,τ⟩) (hj:j < G.length)
  (h:∀r ks,ks.Nodup->(∀k,k∈ks↔Ia G j k)->Q (.ref r) ⟨W,(.obj r,.list (Ap G ks))::τ⟩):∀ws,ws.map cl=[.ref (Gd G j)]->TC Γ A ⟨W,τ⟩ (.ref 42) ws [] Q:=λws hw=>by
 refine Pk (body:=fBody (topStmt 4)) (bs:=[("ob",.ref (Gd G j))]) ["ob"] (Aee Γ) (by kernel_rfl) hA.room (Hb.plain1 λ_ _=>Cm (by rfl)) (λL=>?_) (by rfl) (by rfl) (by decide) (by rfl) (by rfl) (by rfl) ws [] hw rfl
 show T Γ _ ⟨W,(.var L "ob",.val (Ad (.ref (Gd G j))))::τ⟩ _ _
 refine Ao (Fp (Cf (Bn (v:=.ref 28) (by kernel_rfl) ⟨.inl (by kernel_rfl),?_⟩)))
 refine Ai (Ic (Ai (Cf (Bn (v:=.ref 35) (by kernel_rfl) ⟨.inl (by kernel_rfl),Ai (Ac (v:=.ref (Gd G j)) (by walk_at "mem") (Ar λws hw=>(rF nf g hA.deeper hj (λb fl hl hm hz=>?_) ws hw).T))⟩))))
 refine Ar ⟨by rw [Ay];exact Ce rfl,λa=>Ar λws hw=>?_⟩
 refine(uY (a:=a) (b:=b) nf g hA.deeper hH.cons.cons.cons Bv (Eh Bv) hl hz (λr ks hn hk=>?_) ws hw).T
 exact⟨⟨W,(.obj r,.list (Ap G ks))::τ⟩,Av.le_sub (.cons_cons _ (.cons _ (.cons _ (.cons _ (.refl _))))),h r ks hn λk=>(hk k).trans (hm k).symm⟩
theorem sW (g:Gr G) {j:Nat} (hj:j < G.length) {ks:List Nat} (hn:ks.Nodup) (hk:∀k,k∈ks↔Ia G j k):ks.length<=12:=
 Ca (Go _ _ hn λx hx=>Hr (((hk x).mp hx).le g) hj) g.few
theorem qI (Γ:Bm):gY Γ.K 204 "_own_legacy" .none=true:=by kernel_rfl
theorem Ym (Γ:Bm):Zw Γ.K 204 "_own_legacy" =true:=by kernel_rfl
theorem qH (Γ:Bm):Vi Γ.K 204 "_own_legacy" =true:=by kernel_rfl
theorem mP (Γ:Bm):Zw Γ.K 204 "leaf" =true:=by kernel_rfl
theorem cA (Γ:Bm):eE Γ.K 204 "legacy_ro" 148 147=true:=by kernel_rfl
theorem vA {W τ:List Av} {τ':Ab->List Av} {rx rd:Am} {rs:Rs} {j:Nat} {Q:Ab->Bc->Prop} (nf:NF W G) (g:Gr G) (hA:Rm A 3) (hH:HS A ⟨W,τ⟩) (hj:j < G.length) (hx:(.obj rx,.inst 204 rd)∈(⟨W,τ⟩:Bc).all) (hl:rs.leaf=Ad (.ref (Gd G j))) (ho:rs.own=Ae)
  (U:∀v,Ri τ (.obj rd) (.ns rs.ns) (.ns (rs.withOwn v).ns) (τ' v)) (hx':∀v,(.obj rx,.inst 204 rd)∈(⟨W,τ' v⟩:Bc).all)
  (h:∀r t ks,ks.Nodup->(∀k,k∈ks↔Ia G j k)->Q (.ref r) ⟨W,(.obj r,.list (Ap G ks))::(.obj t,.tup (Ap G ks))::τ' (.ref t)⟩):TC Γ A ⟨W,τ⟩ (.ref 147) [.ref rx] [] Q:=by
 have hd:(.obj rd,.ns rs.ns)∈(⟨W,τ⟩:Bc).all:=(Jf.tau (W:=W) (U .none)).mem
 refine Pk (body:=fBody (clsStmt 8 7)) (bs:=[("self",.ref rx)]) ["self"] (oR Γ) (by kernel_rfl) hA.room (Hb.plain1 λ_ _=>Cm (by rfl)) (λL=>?_) (by rfl) (by rfl) (by decide) (by rfl) (by rfl) (by rfl) _ [] rfl rfl
 show T Γ _ ⟨W,(.var L "self",.val (Ad (.ref rx)))::τ⟩ _ _
 refine Ao (Hz (Au (Jg (Ac (v:=.ref rx) (by walk_at "mem") (fK (a:=.none) (by walk_at "memo") (by walk_at "memo") (qI Γ) (.inl (by rw [<-ho];walk_at "ns")) (Ka (Qb (by rfl) ⟨_,rfl,λ_=>?_,λh=>(by cases h)⟩)))))))
 refine Ao (Dn (Cf (Bd (v:=.type "tuple") (by kernel_rfl) (by decide+kernel) (by decide) ⟨.inr (.inr ⟨_,rfl⟩),?_⟩)))
 refine Ai (Cf (Bn (v:=.ref 42) (by kernel_rfl) ⟨.inl (by kernel_rfl),?_⟩))
 refine Ai (Jg (Ac (v:=.ref rx) (by walk_at "mem") (Qc (v:=.ref (Gd G j)) (by walk_at "memo") (by walk_at "memo") (mP Γ) (by rw [<-hl];exact .head _) ?_)))
 refine Ar λws hw=>(Afb nf g hA.deeper hH.cons hj (λb ks hn hk=>?_) ws hw).T
 have hlen:=sW g hj hn hk
 refine Ar (Fv (vs:=Ap G ks) Bv (by rw [Bb];lia) λt=>?_)
 refine Ac (v:=.ref rx) (by walk_at "mem") (Gx (by walk_at "memo") (.tau (.there (.there (.there (U (.ref t)))))) (by walk_at "set") (qH Γ) ?_)
 refine Fh.go (Cq ?_)
 refine Fh.go ?_
 refine Ao (Fp (Cf (Bd (v:=.type "list") (by kernel_rfl) (by decide+kernel) (by decide) ⟨.inr (.inr ⟨_,rfl⟩),?_⟩)))
 have hd':(.obj rd,.ns (rs.withOwn (.ref t)).ns)∈(⟨W,τ' (.ref t)⟩:Bc).all:=by
  obtain⟨l₁,l₂,_,e⟩:=(U (.ref t)).split
  rw [e]
  exact Aa _ (Aa _ (.head _))
 have hx'':=hx' (.ref t)
 refine Ai (Jg (Ac (v:=.ref rx) (by walk_at "mem") (Qc (m:=(rs.withOwn (.ref t)).ns) (v:=.ref t) (by walk_at "memo") (by walk_at "memo") (Ym Γ) (by walk_at "ns") ?_)))
 refine Ar (Ow (vs:=Ap G ks) (.of_mem (by walk_at "mem")) (by rw [Bb];lia) λr=>?_)
 exact⟨⟨W,(.obj r,.list (Ap G ks))::(.obj t,.tup (Ap G ks))::τ' (.ref t)⟩,Av.le_sub (.cons_cons _ (.cons_cons _ (.cons _ (.cons _ (.refl _))))),h r t ks hn hk⟩
theorem uZ {W τ:List Av} {rx rd t:Am} {rs:Rs} {vs:List Ab} {Q:Ab->Bc->Prop} (hA:Rm A 1) (hx:(.obj rx,.inst 204 rd)∈(⟨W,τ⟩:Bc).all) (hd:(.obj rd,.ns rs.ns)∈(⟨W,τ⟩:Bc).all) (ho:rs.own=Ad (.ref t)) (ht:Fc Γ ⟨W,τ⟩ t vs) (hz:vs.length<=1000000)
  (h:∀r,Q (.ref r) ⟨W,(.obj r,.list vs)::τ⟩):TC Γ A ⟨W,τ⟩ (.ref 147) [.ref rx] [] Q:=by
 refine Pk (body:=fBody (clsStmt 8 7)) (bs:=[("self",.ref rx)]) ["self"] (oR Γ) (by kernel_rfl) hA.room (Hb.plain1 λ_ _=>Cm (by rfl)) (λL=>?_) (by rfl) (by rfl) (by decide) (by rfl) (by rfl) (by rfl) _ [] rfl rfl
 show T Γ _ ⟨W,(.var L "self",.val (Ad (.ref rx)))::τ⟩ _ _
 have hm:(("_own_legacy" :Str),Ad (Bx t))∈rs.ns:=by rw [<-ho];walk_at "ns"
 refine Ao (Hz (Au (Jg (Ac (v:=.ref rx) (by walk_at "mem") (Qc (v:=.ref t) (by walk_at "memo") (by walk_at "memo") (Ym Γ) hm (Ka (Qb (by rfl) ⟨_,rfl,λh=>(by cases h),λ_=>?_⟩)))))))
 refine Cq ?_
 refine Fh.go ?_
 refine Ao (Fp (Cf (Bd (v:=.type "list") (by kernel_rfl) (by decide+kernel) (by decide) ⟨.inr (.inr ⟨_,rfl⟩),?_⟩)))
 refine Ai (Jg (Ac (v:=.ref rx) (by walk_at "mem") (Qc (v:=.ref t) (by walk_at "memo") (by walk_at "memo") (Ym Γ) hm ?_)))
 refine Ar (Ow (vs:=vs) ht.cons hz λr=>?_)
 exact⟨⟨W,(.obj r,.list vs)::τ⟩,Av.le_sub (.cons_cons _ (.cons _ (.refl _))),h r⟩
end
end
section
section
variable {Γ:Bm} {A:Az} {σ:Bc} {env:Env}
inductive Aih (Γ:Bm) (A:Az) (K:Az->Bc->Prop) (e:Am) (σ':Bc):Prop
 |mk (t:Am) (T:Am) (ts:Array Ab) (W τ:List Av) (h3:ts[3]? =Ad Dq) (le:Av.le ⟨W,(.obj T,.raw (aE ts))::(.obj e,.raw (Lo t (.ref T)))::τ⟩ σ') (hA:AF A ⟨W,τ⟩) (q:∀T ts,K (A.mark (Ad (.ref e))) ⟨W,(.obj T,.raw (aE ts))::(.obj e,.raw (Lo t (.ref T)))::τ⟩)
theorem Afi {body orelse suite:List Jy} {b₀:Jy} {np hpos pos:Pos} {l:List Env} {L:Am} {Q:Ga->Bc->Prop} (hl:A.frames=Ad (env::l)) (hf:env.frame=Ad L)
  (h:TX Γ A σ (Cs body env) (λf σ'=>(f=.next->T Γ A σ' (Cs orelse env) Q)/\(f≠.next->Q f σ')) (Aih Γ A λA' σ'=>Mine.T Γ A' σ' (Cs (b₀::suite) env) Q))
  (hk:autoParam (env.scope.kind=.function) aR) (hg:autoParam (env.globals=He) aR) (hx:autoParam (env.kindOf "_UseLegacyRO" =Ad .globalImplicit) aR):
  T Γ A σ (Ni (.Try body [.ExceptHandler (Ad (.Name "_UseLegacyRO" np)) Ae (b₀::suite) hpos] orelse [] pos) env) Q:=λs R=>by
 refine wpAny_Try_except (h.run R (λf s' σ' R' q=>?_) λa s' σ' R' z=>?_)
 ·cases f with
  |next=>exact q.1 rfl s' R'
  |_=>exact⟨σ',R',q.2 (λh=>nomatch h)⟩
 obtain⟨t,T,ts,W,τ,h3,le,hA,q⟩:=z
 refine Mine.T.go (Zp hA hl hf h3 λT ts h3 s₁ R₁ _ _=>Mine.T.go (Xd h3 λts h3 s₂ R₂ _ _=>?_) R₁) (le Γ s' R')
 refine wpAny_handleBy_cons (codeAny_handlers_test ?_) (by intro q;cases q)
 refine Mine.T.go (Bn (A:=A.mark (Ad (.ref a))) (v:=.ref 100) (by kernel_rfl) (λs₃ R₃ v e=>?_) hg hk hx (by decide)) R₂
 rw [Ch e]
 refine wpAny_excMatches_sub_self (h:=s₃.heap) (g:=s₃.gens) (d:=s₃.drawn) (t:=s₃.toks) (os:=s₃.os) (R₃.kin _ _ (yG Γ)) (R₃.ents _ (Eh Bv)).1 rfl (by decide+kernel:iA.contains (.type "BaseException")=true) ?_
 rw [if_pos rfl]
 exact codeAny_handlers_suite (Mine.T.go (Xd h3 λts h3 s₄ R₄ _ _=>(q T ts).elim R₄ λf s₅ σ₅ R₅ q=>⟨σ₅,R₅,q⟩) R₃)
end
end
section
section
variable {Γ:Bm} {A:Az} {σ:Bc} {env:Env}
theorem dR {o:At} {attr:Str} {pos:Pos} {u c:Ab} {Q:Unit->Bc->Prop} (hu:cl u=c) (h:T Γ A σ (Dv o env) λco σ₂=>∀v ov,cl v=c->cl ov=co->T Γ A σ₂ (setAttr ov attr v) Q):T Γ A σ (Ir (.Attribute o attr pos) env u) Q:=λs R=>by
 rw [arm_assign_Attribute]
 refine Af (Ef (h.elim R λov s₁ σ₁ R₁ q=>Af (Ev (Af (Ef ((q u ov hu rfl).elim R₁ λ_ s₂ σ₂ R₂ q₂=>?_))))))
 exact wpAny_release ⟨σ₂,R₂,q₂⟩
theorem gT {t₁ t₂ value:At} {pos:Pos} {Q:Ga->Bc->Prop}
  (h:T Γ A σ (Dv value env) λc σ₁=>∀v,cl v=c->T Γ A σ₁ (Ir t₁ env v) λ_ σ₂=>T Γ A σ₂ (Ir t₂ env v) λ_=>Q .next)
  (he:autoParam ((assignEach [t₁,t₂] env).map (·.2)=[Ir t₁ env,Ir t₂ env]) aR)
  (hw:autoParam (swappedStores [t₁,t₂] value env=Et Ae) aR):T Γ A σ (Ni (.Assign [t₁,t₂] value pos) env) Q:=λs R=>
 wpAny_Assign_two (h.elim R λv s₁ σ₁ R₁ q=>(q v rfl).elim R₁ λ_ s₂ σ₂ R₂ q=>q.elim R₂ λ_ s₃ σ₃ R₃ q=>⟨σ₃,R₃,q⟩) he hw
end
theorem wT (Γ:Bm):Γ.K.lookup 194=Ad ⟨.type "function",Ae,.func (Kh Γ 194 "C3._merge" (clsStmt 8 13) (.ref 193) .none),#[]⟩:=by kernel_rfl
theorem mO (Γ:Bm):Ss Γ.K 204 "_choose_next_base" 173=true:=by kernel_rfl
theorem mC (Γ:Bm):gZ Γ.K 204 "_nonempty_bases_ignoring" 165 163=true:=by kernel_rfl
theorem Vg (Γ:Bm):Vi Γ.K 204 "_mro" =true:=by kernel_rfl
theorem mB (Γ:Bm):Zw Γ.K 204 "base_tree" =true:=by kernel_rfl
noncomputable abbrev Rs.withMro (rs:Rs) (v:Ab):Rs:={rs with mro:=Ad v}
structure yD (G:List Nd) (ls₀:List (List Nat)) (acc:List Nat) (ig:Option Nat) (ls:List (List Nat)):Prop where
 nodup:acc.Nodup
 lt:∀k∈acc,k < G.length
 apart:∀l∈Vt ig ls,∀k∈l,k∉acc
 all:∀k,(∃l∈ls₀,k∈l)↔k∈acc\/∃l∈Vt ig ls,k∈l
 bd:∀l∈ls,l.length<=1000/\∀i∈l,i < G.length
 ig:∀j,ig=Ad j->j < G.length
 few:ls.length<=1000
theorem Us {ig:Option Nat} {l:List Nat} {k:Nat}:k∈Ts ig l↔k∈l/\Ad k≠ig:=by
 unfold Ts;rw [Cw,decide_eq_true_iff]
theorem Wu {ig:Option Nat} {ls:List (List Nat)} {l:List Nat}:l∈Vt ig ls↔l≠[]/\∃m∈ls,Ts ig m=l:=by
 unfold Vt
 rw [Cw,Bq]
 constructor
 ·rintro⟨⟨m,hm,e⟩,h⟩;exact⟨by intro q;rw [q]at h;simp at h,m,hm,e⟩
 ·rintro⟨h,m,hm,e⟩;exact⟨⟨m,hm,e⟩,by cases l<;>simp at h ⊢⟩
theorem eQ {ig:Option Nat} {ls:List (List Nat)} {k:Nat}:(∃l∈Vt ig ls,k∈l)↔(∃l∈ls,k∈l)/\Ad k≠ig:=by
 constructor
 ·rintro⟨l,hl,hk⟩
  obtain⟨_,m,hm,rfl⟩:=Wu.mp hl
  exact⟨⟨m,hm,(Us.mp hk).1⟩,(Us.mp hk).2⟩
 ·rintro⟨⟨m,hm,hk⟩,h⟩
  have hk':=Us.mpr ⟨hk,h⟩
  exact⟨Ts ig m,Wu.mpr ⟨λq=>by rw [q]at hk';(cases hk'),m,hm,rfl⟩,hk'⟩
theorem yD.start {G:List Nd} {ls:List (List Nat)} (h:∀l∈ls,l.length<=1000/\∀i∈l,i < G.length) (hf:ls.length<=1000):yD G ls [] Ae ls:=
 ⟨.nil,λ_ h=>(by cases h),λ_ _ _ _ h=>(by cases h),λk=>(by rw [eQ];simp),h,λ_ h=>(by cases h),hf⟩
theorem yD.clean {G:List Nd} {ls₀ ls:List (List Nat)} {acc:List Nat} {ig:Option Nat} (m:yD G ls₀ acc ig ls):∀l∈Vt ig ls,l≠[]/\l.length<=1000/\∀i∈l,i < G.length:=λl hl=>by
 obtain⟨h0,m',hm,rfl⟩:=Wu.mp hl
 obtain⟨h1,h2⟩:=m.bd m' hm
 exact⟨h0,Ca (By _ _) h1,λi hi=>h2 i (Us.mp hi).1⟩
theorem yD.next {G:List Nd} {ls₀ ls:List (List Nat)} {acc:List Nat} {ig:Option Nat} (m:yD G ls₀ acc ig ls) {l:List Nat} {j:Nat} {r:List Nat} (hl:l∈Vt ig ls) (e:l=j::r):yD G ls₀ (acc++[j]) (Ad j) (Vt ig ls):=by
 have hj:j∈l:=by rw [e];exact .head _
 have hna:=m.apart l hl j hj
 have hlt:=(m.clean l hl).2.2 j hj
 refine⟨?_,λk hk=>?_,λl' hl' k hk hka=>?_,λk=>?_,λl hl=>(m.clean l hl).2,λi hi=>(by cases hi;exact hlt),?_⟩
 ·rw [Ih]
  exact⟨m.nodup,Fe.mpr ⟨by simp,.nil⟩,λa ha b hb=>by rw [Bi.mp hb];intro q;exact hna (q▸ha)⟩
 ·rcases Ak.mp hk with h|h
  ·exact m.lt k h
  ·rw [Bi.mp h];exact hlt
 ·obtain⟨_,m',hm,rfl⟩:=Wu.mp hl'
  obtain⟨h1,h2⟩:=Us.mp hk
  rcases Ak.mp hka with h|h
  ·exact m.apart m' hm k h1 h
  ·exact h2 (by rw [Bi.mp h])
 ·rw [m.all,eQ (ig:=Ad j),Ak,Bi]
  constructor
  ·rintro(h|h)
   ·exact .inl (.inl h)
   ·by_cases q:k=j
    ·exact .inl (.inr q)
    ·exact .inr ⟨h,λe=>q (Dl e)⟩
  ·rintro((h|h)|h)
   ·exact .inl h
   ·exact .inr ⟨l,hl,h▸hj⟩
   ·exact .inr h.1
 ·unfold Vt
  refine Ca (By _ _) ?_
  rw [As];exact m.few
end
section
theorem Rm.mark {A:Az} {n:Nat} {h:Option Ab} (r:Rm A n):Rm (A.mark h) n:=⟨r.depth,r.units⟩
section
variable {Γ:Bm} {A:Az} {G:List Nd} {σ:Bc}
noncomputable abbrev Ze (L:Am) (rx R b:Ab) (ig:Ab) (τ:List Av):List Av:=(.var L "self",.val (Ad rx))::(.var L "result",.val (Ad R))::(.var L "base_tree_remaining",.val (Ad b))::(.var L "base",.val (Ad ig))::τ
inductive Ahc (G:List Nd) (W:List Av) (L rx R:Am) (T0:List Av) (ls:List (List Nat)) (n:Nat) (σ:Bc):Prop
 |mk (acc:List Nat) (ig:Option Nat) (ls':List (List Nat)) (b:Am) (ρ:List Av) (hn:n=G.length - acc.length) (m:yD G ls acc ig ls') (e:σ=⟨W,ρ++((.obj R,.list (Ap G acc))::Ze L (.ref rx) (.ref R) (.ref b) (eB G ig) T0)⟩) (t:Sr G ⟨W,ρ++T0⟩ b ls')
theorem xI {W:List Av} {τ':Rs->List Av} {rx rd a:Am} {rs:Rs} {j:Nat} {ls:List (List Nat)} {Q:Ab->Bc->Prop} (nf:NF W G) (g:Gr G) (J:pB G) (hA:Rm A 6) (hh:A.handled=Ae) (hF:∀r,AF A ⟨W,τ' r⟩) (hx:∀r,(.obj rx,.inst 204 rd)∈(⟨W,τ' r⟩:Bc).all)
  (U:∀r₁ r₂:Rs,Ri (τ' r₁) (.obj rd) (.ns r₁.ns) (.ns r₂.ns) (τ' r₂)) (hl:rs.leaf=Ad (.ref (Gd G j))) (hj:j < G.length) (ho:rs.own=Ae) (ht:rs.tree=Ad (.ref a)) (hT:∀r,Sr G ⟨W,τ' r⟩ a ls) (hls:∀l∈ls,l.length<=1000/\∀i∈l,i < G.length) (hf:ls.length<=1000)
  (h:∀r ρ ks rs',ks.Nodup->(∀k∈ks,k < G.length)->((∀k,k∈ks↔∃l∈ls,k∈l)\/∀k,k∈ks↔Ia G j k)->(.obj r,.list (Ap G ks))∈(⟨W,ρ++τ' rs'⟩:Bc).all->Q (.ref r) ⟨W,ρ++τ' rs'⟩):∀ws,ws.map cl=[.ref rx]->TC Γ A ⟨W,τ' rs⟩ (.ref 194) ws [] Q:=λws hw=>by
 refine Pk (body:=fBody (clsStmt 8 13)) (bs:=[("self",.ref rx)]) ["self","result","base_tree_remaining","base"] (wT Γ) (by kernel_rfl) hA.room (Hb.plain1 λ_ _=>Cm (by rfl)) (λL=>?_) (by rfl) (by rfl) (by decide) (by rfl) (by rfl) (by rfl) ws [] hw rfl
 show T Γ (A.deeper (Gs "C3._merge" (fScope (clsStmt 8 13)) L 194 (.ref 193) [])) ⟨W,(.var L "self",.val (Ad (.ref rx)))::(.var L "result",.val Ae)::(.var L "base_tree_remaining",.val Ae)::(.var L "base",.val Ae)::τ' rs⟩ (Cs _ (Gs "C3._merge" (fScope (clsStmt 8 13)) L 194 (.ref 193) [])) _
 have hA':Rm (A.deeper (Gs "C3._merge" (fScope (clsStmt 8 13)) L 194 (.ref 193) [])) 5:=hA.deeper
 have hd:∀r:Rs,(.obj rd,.ns r.ns)∈(⟨W,τ' r⟩:Bc).all:=λr=>(Jf.tau (W:=W) (U r r)).mem
 have hd0:=hd rs
 have hx0:=hx rs
 refine Ao (gT (Ic (Ar ⟨by rw [Ay];exact Cg _,λR v hv=>?_⟩)))
 refine Cx hv (by walk_at "upd") (dR hv (Ac (v:=.ref rx) (by walk_at "mem") (Gx (by walk_at "memo") (.tau (.there (.there (.there (.there (.there (U rs (rs.withMro (.ref R))))))))) (by walk_at "set") (Vg Γ) ?_)))
 refine Fh.go ?_
 have hd1:=hd (rs.withMro (.ref R))
 have hx1:=hx (rs.withMro (.ref R))
 refine Ao (Bo (Jg (Ac (v:=.ref rx) (by walk_at "mem") (Qc (m:=(rs.withMro (.ref R)).ns) (v:=.ref a) (by walk_at "memo") (by walk_at "memo") (mB Γ) (by rw [<-ht];walk_at "ns") ⟨_,_,by walk_at "upd",?_⟩))))
 refine Fh.go ?_
 refine Ao (Bo (Ka ⟨_,_,by walk_at "upd",?_⟩))
 refine Fh.go ?_
 refine Ao (oX (Ahc G W L rx R (τ' (rs.withMro (.ref R))) ls) G.length ⟨[],Ae,ls,a,[],rfl,.start hls hf,rfl,hT _⟩ λn σ z=>?_)
 obtain⟨acc,ig,ls',b,ρ,hn,m,e,hTb₀⟩:=z
 rw [e]
 have hTb:Sr G ⟨W,ρ++((.obj R,.list (Ap G acc))::Ze L (.ref rx) (.ref R) (.ref b) (eB G ig) (τ' (rs.withMro (.ref R))))⟩ b ls':=hTb₀.sub λp hp=>(Ak.mp hp).elim (Ah _) λh=>Aa _ ((Ak.mp h).elim (Ah _) λh=>Aa _ (Aa [_,_,_,_,_] h))
 refine Eo (Dh (Xs ⟨λ_=>?_,λh=>(by cases h)⟩))
 refine Ao (Bo (Fo (Ac (v:=.ref rx) (by walk_at "mem") (cQ (by walk_at "memo") (by walk_at "memo") (mC Γ) (by show _∉Tv;decide) ⟨.inl (by kernel_rfl),?_⟩))))
 refine Ai (Ac (v:=.ref b) (by walk_at "mem") (Ai (Ac (v:=eB G ig) (by walk_at "mem") (Ar λws hw=>?_))))
 refine(Aab nf J (hA'.le (by decide)) hh hTb m.bd m.few m.ig (λb' ρ' hT'=>⟨_,_,by walk_at "upd",?_⟩) ws hw).T
 refine Fh.go ?_
 have hcl:=m.clean
 have hT2:Sr G ⟨W,ρ'++(ρ++((.obj R,.list (Ap G acc))::Ze L (.ref rx) (.ref R) (.ref b') (eB G ig) (τ' (rs.withMro (.ref R)))))⟩ b' (Vt ig ls'):=by
  exact hT'.sub λp hp=>Aa _ (Ah _ (Ak.mp hp |>.elim (λh=>by cases h) id))
 obtain⟨ps,t1,t2,_⟩:=id hT2
 have has:ps.length<=1000:=by
  rw [<-As (f:=(·.2)),t2]
  unfold Vt
  refine Ca (By _ _) ?_
  rw [As];exact m.few
 have fin:∀r' ks (ρ₂:List Av) rs' X,X=ρ₂++τ' rs'->ks.Nodup->(∀k∈ks,k < G.length)->((∀k,k∈ks↔∃l∈ls,k∈l)\/∀k,k∈ks↔Ia G j k)->(.obj r',.list (Ap G ks))∈X->Jh Q (.ret (.ref r')) ⟨W,X⟩:=λr' ks ρ₂ rs' X e h1 h2 h3 h4=>by
  subst e
  exact⟨_,Av.le_refl _,h r' ρ₂ ks rs' h1 h2 h3 (Aa _ h4)⟩
 refine Ao (Hz (Nq (Eo (Ac (v:=.ref b') (by walk_at "mem") (Pa (vs:=Tr.vs ps) t1 (by rw [As];lia) ⟨λhb=>?_,λhb=>?_⟩)))))
 ·have hnil:Vt ig ls'=[]:=by
   rw [<-t2]
   cases ps with
   |nil=>rfl
   |cons _ _=>cases(hb:false=true)
  refine Ao (Fp (Ac (v:=.ref R) (by walk_at "mem") ?_))
  refine fin R acc (ρ'++ρ++[(.obj R,.list (Ap G acc)),(.var L "self",.val (Ad (.ref rx))),(.var L "result",.val (Ad (.ref R))),(.var L "base_tree_remaining",.val (Ad (.ref b'))),(.var L "base",.val (Ad (eB G ig)))]) (rs.withMro (.ref R)) _ (by simp [Ze]) m.nodup m.lt (.inl λk=>?_) ?_
  ·have:=m.all k
   rw [hnil]at this
   simpa using this.symm
  ·exact Aa _ (Aa _ (.head _))
 ·refine Cq ?_
  refine Fh.go ?_
  obtain⟨l,el,_⟩:=id (hF rs)
  have hFw:∀rs':Rs,AF (A.deeper (Gs "C3._merge" (fScope (clsStmt 8 13)) L 194 (.ref 193) [])) ⟨W,ρ'++(ρ++((.obj R,.list (Ap G acc))::Ze L (.ref rx) (.ref R) (.ref b') (eB G ig) (τ' rs')))⟩:=λrs'=>
   (hF rs').push rfl rfl (L:=L) (x:="self") (c:=Ad (.ref rx)) (by walk_at "mem") λp hp=>Aa _ (Aa _ (.tail _ (.tail _ (.tail _ (.tail _ (.tail _ hp))))))
  refine Ao (Afi (Oa el) rfl ?_)
  refine Tz (aC (oY (Ac (v:=.ref rx) (by walk_at "mem") (Pp (by walk_at "memo") (by walk_at "memo") (mO Γ) (by show _∉Tv;decide) ⟨.inl (by kernel_rfl),?_⟩))))
  refine Ai (Ac (v:=.ref b') (by walk_at "mem") (Ar λws hw=>?_))
  refine(vB (rs:=rs.withMro (.ref R)) nf (hA'.le (by decide)) hh (hFw _) (by walk_at "memo") hl (by rfl)
   (λv=>.pre (.pre (.there (.there (.there (.there (.there (U (rs.withMro (.ref R)) ((rs.withMro (.ref R)).withDir v))))))))) hT2 hcl (λl' hl' k r e1=>?_) ws hw).X.exc λx s' σ' R' z=>?_
  ·refine⟨_,_,by walk_at "upd",λ_=>Aba ⟨λ_=>Cq ?_,λh=>absurd rfl h⟩,λh=>absurd rfl h⟩
   have hz:(Ap G acc).length<=Gn:=by
    have:=Go _ _ m.nodup m.lt
    have:=g.few
    rw [Bb,Ay];lia
   have mn:=m.next hl' e1
   refine Fh.go ?_
   refine Ao (Gf (Fo (Ac (v:=.ref R) (by walk_at "mem") (De Cv Dt Ds (It (vs:=Ap G acc) (by walk_at "mem")) ⟨.inr (.inl ⟨_,rfl⟩),?_⟩))))
   refine Ai (Ac (v:=.ref (Gd G k)) (by walk_at "mem") (Ar (Lx (by walk_at "upd") hz ?_)))
   refine Fh.go ?_
   have hlt:G.length - (acc++[k]).length < G.length - acc.length:=by
    have:=Go _ _ mn.nodup mn.lt
    rw [Aj,Br]at this ⊢
    lia
   refine Cq ⟨_,_,hn▸hlt,Av.le_refl _,acc++[k],Ad k,Vt ig ls',b',ρ'++ρ,rfl,mn,?_,?_⟩
   ·rw [Sc,Ba];rfl
   ·exact hT'.sub λp hp=>Aa _ (Ah _ (Ah _ (Ak.mp hp |>.elim (λh=>by cases h) id)))
  ·obtain⟨t,T,ts,y,h3,le⟩:=z
   refine⟨x,σ',rfl,R',t,T,ts,_,_,h3,le,hFw _,λT ts=>?_⟩
   have hd2:=hd ((rs.withMro (.ref R)).withDir (.ref y))
   have hx2:=hx ((rs.withMro (.ref R)).withDir (.ref y))
   have hHS:HS ((A.deeper (Gs "C3._merge" (fScope (clsStmt 8 13)) L 194 (.ref 193) [])).mark (Ad (.ref x))) ⟨W,(.obj T,.raw (aE ts))::(.obj x,.raw (Lo t (.ref T)))::(ρ'++(ρ++((.obj R,.list (Ap G acc))::Ze L (.ref rx) (.ref R) (.ref b') (eB G ig) (τ' ((rs.withMro (.ref R)).withDir (.ref y))))))⟩:=⟨x,t,.ref T,rfl,Eh Bv⟩
   have hA2:Rm (((A.deeper (Gs "C3._merge" (fScope (clsStmt 8 13)) L 194 (.ref 193) [])).mark (Ad (.ref x))).in1) 4:=hA'.mark.in1
   refine Ao (Dn (Jg (Ac (v:=.ref rx) (by walk_at "mem") (cR (by walk_at "memo") (by walk_at "memo") (cA Γ) ?_))))
   refine vA (rs:=(rs.withMro (.ref R)).withDir (.ref y)) (τ':=λv=>(.obj T,.raw (aE ts))::(.obj x,.raw (Lo t (.ref T)))::(ρ'++(ρ++((.obj R,.list (Ap G acc))::Ze L (.ref rx) (.ref R) (.ref b') (eB G ig) (τ' (((rs.withMro (.ref R)).withDir (.ref y)).withOwn v)))))) nf g (hA2.le (by decide)) hHS hj (by walk_at "memo") hl ho
    (λv=>.there (.there (.pre (.pre (.there (.there (.there (.there (.there (U _ (((rs.withMro (.ref R)).withDir (.ref y)).withOwn v))))))))))) (λv=>by have:=hx (((rs.withMro (.ref R)).withDir (.ref y)).withOwn v);walk_at "memo") λr1 t1 ks hn hk=>⟨rfl,?_⟩
   refine Ac (v:=.ref rx) (by walk_at "mem") (Gx (m:=(((rs.withMro (.ref R)).withDir (.ref y)).withOwn (.ref t1)).ns) (m':=((((rs.withMro (.ref R)).withDir (.ref y)).withOwn (.ref t1)).withMro (.ref r1)).ns) (by have:=hx (((rs.withMro (.ref R)).withDir (.ref y)).withOwn (.ref t1));walk_at "memo") (.tau (.there (.there (.there (.there (.pre (.pre (.there (.there (.there (.there (.there (U _ ((((rs.withMro (.ref R)).withDir (.ref y)).withOwn (.ref t1)).withMro (.ref r1))))))))))))))) (by walk_at "set") (Vg Γ) ?_)
   refine Fh.go ?_
   have hd3:=hd ((((rs.withMro (.ref R)).withDir (.ref y)).withOwn (.ref t1)).withMro (.ref r1))
   have hx3:=hx ((((rs.withMro (.ref R)).withDir (.ref y)).withOwn (.ref t1)).withMro (.ref r1))
   refine Ao (Fp (Jg (Ac (v:=.ref rx) (by walk_at "mem") (cR (by walk_at "memo") (by walk_at "memo") (cA Γ) ?_))))
   have hlen:=sW g hj hn hk
   refine uZ (rs:=(((rs.withMro (.ref R)).withDir (.ref y)).withOwn (.ref t1)).withMro (.ref r1)) (t:=t1) (vs:=Ap G ks) (hA2.le (by decide)) (by walk_at "memo") (by walk_at "memo") rfl (.of_mem (Eh Bv)) (by rw [Bb];lia) λr2=>⟨rfl,?_⟩
   refine fin r2 ks ((.obj r2,.list (Ap G ks))::(.obj r1,.list (Ap G ks))::(.obj t1,.tup (Ap G ks))::(.obj T,.raw (aE ts))::(.obj x,.raw (Lo t (.ref T)))::(ρ'++ρ++[(.obj R,.list (Ap G acc)),(.var L "self",.val (Ad (.ref rx))),(.var L "result",.val (Ad (.ref R))),(.var L "base_tree_remaining",.val (Ad (.ref b'))),(.var L "base",.val (Ad (eB G ig)))])) ((((rs.withMro (.ref R)).withDir (.ref y)).withOwn (.ref t1)).withMro (.ref r1)) _ (by simp [Ze]) hn (λk hk'=>Hr (((hk k).mp hk').le g) hj) (.inr hk) (.head _)
end
end
section
theorem sZ (Γ:Bm):Γ.K.lookup 201=Ad ⟨.type "function",Ae,.func (Kh Γ 201 "C3.mro" (clsStmt 8 14) (.ref 200) .none),#[]⟩:=by kernel_rfl
theorem qK (Γ:Bm):Ss Γ.K 204 "_merge" 194=true:=by kernel_rfl
theorem qJ (Γ:Bm):gY Γ.K 204 "_mro" .none=true:=by kernel_rfl
theorem Yn (Γ:Bm):Zw Γ.K 204 "_mro" =true:=by kernel_rfl
section
variable {Γ:Bm} {A:Az} {G:List Nd} {σ:Bc}
theorem Aad {W:List Av} {τ':Rs->List Av} {rx rd a:Am} {rs:Rs} {j:Nat} {ls:List (List Nat)} {Q:Ab->Bc->Prop} (nf:NF W G) (g:Gr G) (J:pB G) (hA:Rm A 7) (hh:A.handled=Ae) (hF:∀r,AF A ⟨W,τ' r⟩) (hx:∀r,(.obj rx,.inst 204 rd)∈(⟨W,τ' r⟩:Bc).all)
  (U:∀r₁ r₂:Rs,Ri (τ' r₁) (.obj rd) (.ns r₁.ns) (.ns r₂.ns) (τ' r₂)) (hm:rs.mro=Ae) (hl:rs.leaf=Ad (.ref (Gd G j))) (hj:j < G.length) (ho:rs.own=Ae) (ht:rs.tree=Ad (.ref a)) (hT:∀r,Sr G ⟨W,τ' r⟩ a ls) (hls:∀l∈ls,l.length<=1000/\∀i∈l,i < G.length) (hf:ls.length<=1000)
  (h:∀r ρ ks rs',ks.Nodup->(∀k∈ks,k < G.length)->((∀k,k∈ks↔∃l∈ls,k∈l)\/∀k,k∈ks↔Ia G j k)->Q (.ref r) ⟨W,(.obj r,.list (Ap G ks))::(ρ++τ' rs')⟩):∀ws,ws.map cl=[.ref rx]->TC Γ A ⟨W,τ' rs⟩ (.ref 201) ws [] Q:=λws hw=>by
 refine Pk (body:=fBody (clsStmt 8 14)) (bs:=[("self",.ref rx)]) ["self"] (sZ Γ) (by kernel_rfl) hA.room (Hb.plain1 λ_ _=>Cm (by rfl)) (λL=>?_) (by rfl) (by rfl) (by decide) (by rfl) (by rfl) (by rfl) ws [] hw rfl
 show T Γ (A.deeper (Gs "C3.mro" (fScope (clsStmt 8 14)) L 201 (.ref 200) [])) ⟨W,(.var L "self",.val (Ad (.ref rx)))::τ' rs⟩ (Cs _ (Gs "C3.mro" (fScope (clsStmt 8 14)) L 201 (.ref 200) [])) _
 have hA':Rm (A.deeper (Gs "C3.mro" (fScope (clsStmt 8 14)) L 201 (.ref 200) [])) 6:=hA.deeper
 have hd:∀r:Rs,(.obj rd,.ns r.ns)∈(⟨W,τ' r⟩:Bc).all:=λr=>(Jf.tau (W:=W) (U r r)).mem
 have hd0:=hd rs
 have hx0:=hx rs
 refine Ao (Hz (Au (Jg (Ac (v:=.ref rx) (by walk_at "mem") (fK (a:=.none) (by walk_at "memo") (by walk_at "memo") (qJ Γ) (.inl (by rw [<-hm];walk_at "ns")) (Ka (Qb (by rfl) ⟨_,rfl,λ_=>?_,λh=>(by cases h)⟩)))))))
 refine Ao (Dn (Cf (Bd (v:=.type "tuple") (by kernel_rfl) (by decide+kernel) (by decide) ⟨.inr (.inr ⟨_,rfl⟩),?_⟩)))
 refine Ai (Fo (Ac (v:=.ref rx) (by walk_at "mem") (Pp (by walk_at "memo") (by walk_at "memo") (qK Γ) (by show _∉Tv;decide) ⟨.inl (by kernel_rfl),Ar λws hw=>?_⟩)))
 refine(xI (τ':=λr=>(.var L "self",.val (Ad (.ref rx)))::τ' r) nf g J hA' hh (λr=>(hF r).push rfl rfl (L:=L) (x:="self") (c:=Ad (.ref rx)) (by walk_at "mem") λp hp=>.tail _ hp) (λr=>Eh (hx r)) (λr₁ r₂=>.there (U r₁ r₂)) hl hj ho ht (λr=>(hT r).ext (ρ:=[_])) hls hf (λb ρ ks rs' hn hlt hk hb=>?_) ws hw).T
 have hlen:=Ca (Go _ _ hn hlt) g.few
 refine Ar (Fv (vs:=Ap G ks) hb (by rw [Bb];lia) λt=>?_)
 have hd1:=hd rs'
 have hx1:=hx rs'
 refine Ac (v:=.ref rx) (by walk_at "mem") (Gx (m:=rs'.ns) (m':=(rs'.withMro (.ref t)).ns) (by walk_at "memo") (.tau (.there (.pre (.there (U rs' (rs'.withMro (.ref t))))))) (by walk_at "set") (Vg Γ) ?_)
 refine Fh.go (Cq ?_)
 refine Fh.go ?_
 have hd2:=hd (rs'.withMro (.ref t))
 have hx2:=hx (rs'.withMro (.ref t))
 refine Ao (Fp (Cf (Bd (v:=.type "list") (by kernel_rfl) (by decide+kernel) (by decide) ⟨.inr (.inr ⟨_,rfl⟩),?_⟩)))
 refine Ai (Jg (Ac (v:=.ref rx) (by walk_at "mem") (Qc (m:=(rs'.withMro (.ref t)).ns) (v:=.ref t) (by walk_at "memo") (by walk_at "memo") (Yn Γ) (by walk_at "ns") ?_)))
 refine Ar (Ow (vs:=Ap G ks) (.of_mem Bv) (by rw [Bb];lia) λr=>?_)
 have:=h r ((.obj t,.tup (Ap G ks))::(ρ++[(.var L "self",.val (Ad (.ref rx)))])) ks (rs'.withMro (.ref t)) hn hlt hk
 exact⟨_,Av.le_refl _,by simpa using this⟩
theorem Aac {W τ:List Av} {rx rd t:Am} {rs:Rs} {vs:List Ab} {Q:Ab->Bc->Prop} (hA:Rm A 1) (hx:(.obj rx,.inst 204 rd)∈(⟨W,τ⟩:Bc).all) (hd:(.obj rd,.ns rs.ns)∈(⟨W,τ⟩:Bc).all) (hm:rs.mro=Ad (.ref t)) (ht:(.obj t,.list vs)∈(⟨W,τ⟩:Bc).all) (hz:vs.length<=1000000)
  (h:∀r,Q (.ref r) ⟨W,(.obj r,.list vs)::τ⟩):∀ws,ws.map cl=[.ref rx]->TC Γ A ⟨W,τ⟩ (.ref 201) ws [] Q:=λws hw=>by
 refine Pk (body:=fBody (clsStmt 8 14)) (bs:=[("self",.ref rx)]) ["self"] (sZ Γ) (by kernel_rfl) hA.room (Hb.plain1 λ_ _=>Cm (by rfl)) (λL=>?_) (by rfl) (by rfl) (by decide) (by rfl) (by rfl) (by rfl) ws [] hw rfl
 show T Γ _ ⟨W,(.var L "self",.val (Ad (.ref rx)))::τ⟩ _ _
 have hm':(("_mro" :Str),Ad (Bx t))∈rs.ns:=by rw [<-hm];walk_at "ns"
 refine Ao (Hz (Au (Jg (Ac (v:=.ref rx) (by walk_at "mem") (Qc (v:=.ref t) (by walk_at "memo") (by walk_at "memo") (Yn Γ) hm' (Ka (Qb (by rfl) ⟨_,rfl,λh=>(by cases h),λ_=>?_⟩)))))))
 refine Cq ?_
 refine Fh.go ?_
 refine Ao (Fp (Cf (Bd (v:=.type "list") (by kernel_rfl) (by decide+kernel) (by decide) ⟨.inr (.inr ⟨_,rfl⟩),?_⟩)))
 refine Ai (Jg (Ac (v:=.ref rx) (by walk_at "mem") (Qc (v:=.ref t) (by walk_at "memo") (by walk_at "memo") (Yn Γ) hm' ?_)))
 refine Ar (Vc (vs:=vs) (Eh ht) hz λr=>?_)
 exact⟨⟨W,(.obj r,.list vs)::τ⟩,Av.le_sub (.cons_cons _ (.cons _ (.refl _))),h r⟩
end
end
section
noncomputable def Ht (M:Model) (A:Az) (Φ:End->Be->Prop) (c:Code) (t:Sem Gi) (fs:List Frame) (s:Be):Prop:=
 ∀Γ p,Γ.code=c->Γ.Woken A->∃e s',Runs M Γ p t fs s e s'/\Φ e s'
section
variable {M:Model} {A:Az} {Φ:End->Be->Prop} {c:Code} {fs:List Frame} {s:Be}
theorem pM {t:Sem Gi} {Ψ:End->Be->Prop} (h:Ht M A Φ c t fs s) (k:∀e s',Φ e s'->Ψ e s'):Ht M A Ψ c t fs s:=λΓ p e hΓ=>
 let⟨x,s',hr,hx⟩:=h Γ p e hΓ;⟨x,s',hr,k _ _ hx⟩
theorem Tj {α:Type} {m:Sem α} {K:α->Sem Gi} {H:Ab->Sem Gi} {gd lv}
  (h:Cu M (A.over c fs) m (λa s'=>Ht M A Φ c (K a) fs s') (λx s'=>Ht M A Φ c (H x) fs s') s):Ht M A Φ c (m.wrap K H gd lv) fs s:=by
 rintro Γ p rfl hΓ
 exact runs_wrap_of_wp K H gd lv m (h (Γ.over fs) p (hΓ.over fs)) (λa p' s' h'=>h' Γ p' rfl hΓ) (λx p' s' h'=>h' Γ p' rfl hΓ)
theorem Do {α β:Type} {m:Sem α} {K:α->Sem β} {K':β->Sem Gi} {H':Ab->Sem Gi} {gd lv}
  (h:Cu M (A.over c fs) m (λa s'=>Ht M A Φ c ((K a).wrap K' H' gd lv) fs s') (λx s'=>Ht M A Φ c (H' x) fs s') s):Ht M A Φ c ((m>>=K).wrap K' H' gd lv) fs s:=by
 rw [Jb,Mv];exact Tj h
theorem fW {p':Pos} {k:Unit->Sem Gi} (h:Ht M A Φ c (k ()) fs s):Ht M A Φ c (.at p' k) fs s:=
 Tj (m:=Mz p') (K:=k) (H:=.raise) (gd:=id) (lv:=id) (Ev h)
theorem lR {l:List Ab} {k:Unit->Sem Gi} (h:Ht M A Φ c (k ()) fs s):Ht M A Φ c (.point l k) fs s:=
 Tj (m:=point) (K:=k) (H:=.raise) (gd:=id) (lv:=λ_=>l) (wpAny_point h)
theorem pO {c':Code} {h g l} {k:Le->Sem Gi} (hc:∀p,Ht M A Φ c' (M.den c') (.ret k h g l c p []::fs) s):Ht M A Φ c (.call c' h g l k) fs s:=by
 rintro Γ p rfl hΓ
 obtain⟨e,s',hr,he⟩:=hc p (Γ.goto c') p rfl (hΓ.goto c')
 exact⟨e,s',runs_call_seg hr,he⟩
theorem pN {k h g l c₁ p₁ kp} (r:Le) (hk:Ht M A Φ c₁ (k r) fs s):Ht M A Φ c (leafOf r) (.ret k h g l c₁ p₁ kp::fs) s:=by
 rintro Γ p rfl hΓ
 obtain⟨e,s',hr,he⟩:=hk (Γ.goto c₁) p₁ rfl (hΓ.goto c₁)
 exact⟨e,s',Runs.pop r hr,he⟩
theorem Po {c':Code} (hq:c'.quiet=true) (hc:Ht M A Φ c' (M.den c') fs s):Ht M A Φ c (.pure (.again c')) fs s:=by
 rintro Γ p rfl hΓ
 obtain⟨e,s',hr,he⟩:=hc (Γ.goto c') p rfl (hΓ.goto c')
 exact⟨e,s',Runs.head (c₁:=c') (λ_ _ x=>.again hq x) hr,he⟩
theorem aZ (r:Le) (h:Φ (.ret r) s):Ht M A Φ c (leafOf r) [] s:=by
 rintro Γ p rfl _
 exact⟨.ret r,s,Runs.leaf r,h⟩
theorem bP {v g l} {k:Resume->Sem Gi} (hfs:splitAtGen fs=Ae) (h:∀p,Φ (.susp v g l k c p fs) s):Ht M A Φ c (.yield v g l k) fs s:=by
 rintro Γ p rfl _
 exact⟨_,s,Runs.yield' fs hfs,h p⟩
noncomputable def Zh (M:Model) (A:Az) (Φ:End->Be->Prop) (gs:Kb) (s:Be):Prop:=match gs with
 |.fresh c=>Ht M A Φ c (M.den c) [] s
 |.suspended k _ c _ fs _=>Ht M A Φ c (k (.send .none)) fs s
 |_=>False
theorem Zh.mono {gs:Kb} {Ψ:End->Be->Prop} (h:Zh M A Φ gs s) (k:∀e s',Φ e s'->Ψ e s'):Zh M A Ψ gs s:=by
 cases gs<;>first|exact pM h k|exact h.elim
theorem wH {E:Ab->Be->Prop} {g:Nat} {gs:Kb} {l:List Ab} {α:Type} {k:GenResult->Sem α} {Q:α->Be->Prop} (hg:s.gens[g]? =Ad gs)
  (hgo:Zh M A (λe s₁=>e.quiet=true/\Cu M A (k e.result) Q E (s₁.setGen g e.genState)) gs (s.setGen g .running)):Cu M A (.resume g (.send .none) l k) Q E s:=by
 intro Γ p hΓ
 rw [Sem.wp_resume]
 cases gs with
 |fresh c=>
  obtain⟨e₁,s₁,hr,hq,he⟩:=hgo (Γ.wake c p) p rfl (hΓ.wake c p)
  exact⟨_,_,by unfold Wakes;rw [hg];exact⟨e₁,s₁,hr,hq,rfl,rfl⟩,he Γ p hΓ⟩
 |suspended k₀ l₀ c₀ p₀ fs₀ cl=>
  obtain⟨e₁,s₁,hr,hq,he⟩:=hgo (Γ.wake c₀ p) p₀ rfl (hΓ.wake c₀ p)
  exact⟨_,_,by unfold Wakes;rw [hg];exact⟨e₁,s₁,hr,hq,rfl,rfl⟩,he Γ p hΓ⟩
 |running=>exact hgo.elim
 |finished=>exact hgo.elim
end
end
section
section
variable {prog:Jm} {w:Ok} {A:Az} {E:Ab->Be->Prop} {s:Be}
noncomputable def yJ (g:Nat) (Q:Option Ab->Be->Prop) (e:End) (s₁:Be):Prop:=match e with
 |.ret r=>(r=.ok .next\/r=.ok (.ret .none))/\∀h',(∀b o,s₁.heap.get? b=Ad o->h'.get? b=Ad o)->Q Ae {s₁.setGen g .finished with heap:=h'}
 |.susp v a b c d p f=>(End.susp v a b c d p f).quiet=true/\Q (Ad v) (s₁.setGen g (End.susp v a b c d p f).genState)
theorem pU {a:Am} {g:Nat} {gs:Kb} {Q:Option Ab->Be->Prop} (hh:A.handled=Ae) (hl:s.heap.NoLimit) (hroom:A.depth < Hf) (hg:s.heap.IsGen a g) (hgs:s.gens[g]? =Ad gs)
  (hgo:Zh (Ci prog w) A.in1 (yJ g Q) gs (s.setGen g .running)):Cu (Ci prog w) A (Ls (.ref a)) Q E s:=by
 unfold Ls
 refine Af (wpAny_attempt (Hw (name:=Kv "__next__") hg.typeIs slot_gen_next
  (Md slot_gen_next hg.typeIs entry_gen_next ?_ (args_gen_next _))))
 show Cu _ A.in1 (Ee.Generator.genWake (.ref a) (.send .none)) _ _ s
 unfold Ee.Generator.genWake
 refine Af (Ef (wpAny_genNumber hg (Af (wpAny_genState hgs ?_))))
 cases gs with
 |running=>exact hgo.elim
 |finished=>exact hgo.elim
 |_=>
  refine Af (wpAny_roomToWake hl hroom ?_)
  show Cu _ A.in1 (.resume g (.send .none) [] _) _ _ s
  refine wH hgs (hgo.mono λe s₁ he=>?_)
  cases e with
  |ret r=>
   obtain⟨hr,hp⟩:=he
   refine⟨rfl,?_⟩
   rcases hr with rfl|rfl
   all_goals
    show Cu _ A.in1 (newExc (.type "StopIteration") []>>=_) _ _ _
    refine Af ?_
    simp only [newExc,newTuple]
    refine Af (Ez ?_ (by size_fits))
    refine Af (m:=Nw _ _) (Iv (a:=Dq) (by first|rfl|(simp only [Nw];rfl)) ?_)
    refine Ez ?_ (by size_fits)
    simp only [raiseNew]
    refine Af (Af (wpAny_handled ?_))
    rw [show A.in1.handled=Ae from hh]
    refine wpAny_throw ?_
    refine Af (wpAny_isInstance (T:="StopIteration") (b:=true) ⟨_,Bj _ rfl,rfl⟩ isSubtype_stop ?_)
    exact Ax (hp _ λb o hb=>An _ (An _ hb))
  |susp v a b c d p f=>exact⟨he.1,Ax ⟨v,rfl,Ax he.2⟩⟩
end
end
section
section
variable {Γ:Bm} {A:Az} {σ σ':Bc} {s s':Be}
theorem Eg.setGen {g:Nat} {x₀ x:Kb} (R:Eg Γ σ s) (U:Jf σ (.gen g) (.gst x₀) (.gst x) σ') (hb:x.bare=true):Eg Γ σ' (s.setGen g x):=by
 obtain⟨l₁,l₂,e,e'⟩:=U.split
 have hm:=U.mem
 have hg:s.gens[g]? =Ad x₀:=(R.ents _ hm).1
 have hp:=R.sep
 rw [e]at hp
 have old:∀q∈l₁++l₂,Lq Γ (s.setGen g x) q.1 q.2/\q.1.above Γ.h₁:=λq hq=>by
  have hq':q∈σ.all:=by
   rw [e]
   rcases Ak.mp hq with h|h
   ·exact Ah _ h
   ·exact Aa _ (.tail _ h)
  have h1:=R.ents q hq'
  refine⟨?_,h1.2⟩
  have sp:=Vw hp q hq
  obtain⟨l,c⟩:=q
  cases l with
  |gen g'=>
   have hne:g≠g':=by
    rcases sp with h|⟨h,_⟩|⟨d,y,z,h,_⟩
    ·intro q;exact h (by rw [q])
    ·cases h
    ·cases h
   cases c<;>first|exact h1.1.elim|skip
   show(s.setGen g x).gens[g']? =_
   have h2:s.gens[g']? =_:=h1.1
   simp only [Be.setGen]
   rw [Array.getElem?_setIfInBounds_ne hne]
   exact h2
  |obj a=>cases c<;>exact h1.1
  |var d y=>cases c<;>exact h1.1
 refine⟨R.old,R.lim,R.stat,R.os,?_,λp hp'=>?_,?_⟩
 ·intro y hy
  simp only [Be.setGen]at hy
  rcases Array.mem_or_eq_of_mem_setIfInBounds hy with h|h
  ·exact R.bare y h
  ·rw [h];exact hb
 ·rw [e']at hp'
  rcases Ak.mp hp' with h|h
  ·exact old p (Ah _ h)
  ·rcases Cj.mp h with rfl|h
   ·refine⟨?_,(R.ents _ hm).2⟩
    show(s.setGen g x).gens[g]? =Ad x
    exact setGen_self hg
   ·exact old p (Aa _ h)
 ·rw [e']
  exact lC hp λq hq=>(Vw hp q hq).of_mut rfl
theorem Wp {W τ τ':List Av} (h:τ.Perm τ') (R:Eg Γ ⟨W,τ⟩ s):Eg Γ ⟨W,τ'⟩ s:=Av.le_perm (σ:=⟨W,τ⟩) (σ':=⟨W,τ'⟩) (Bf W h) _ _ R
noncomputable abbrev Vj (g:Nat) (nm qn:Ab):Obj:={cls:=.type "generator",data:=.fields #[.int g 0,nm,qn]}
inductive vX (Γ:Bm) (σ:Bc) (e:End) (s:Be):Prop
 |mk (r:Le) (he:e=.ret r) (hr:r=.ok .next\/r=.ok (.ret .none)) (R:Eg Γ σ s)
inductive vV (Γ:Bm) (σ:Bc) (v:Ab) (N:Kb->List Av->Prop) (e:End) (s:Be):Prop
 |mk (u:Ab) (b:Bool) (c:List Ab) (d:Resume->Sem Gi) (k:Code) (p:Pos) (f:List Frame) (ρ:List Av) (he:e=.susp u b c d k p f) (q:e.quiet=true) (eu:cl u=v) (R:Eg Γ ⟨σ.W,ρ++σ.τ⟩ s) (h:N e.genState ρ)
noncomputable def pF (Γ:Bm) (A:Az) (G:Bc->Prop):List Ab->Bc->End->Be->Prop
 |[],σ,e,s=>vX Γ σ e s
 |v::vs,σ,e,s=>vV Γ σ v (λgs ρ=>∀σ s,G σ->Eg Γ ⟨σ.W,ρ++σ.τ⟩ s->Zh (Ci Γ.prog Γ.w) A (pF Γ A G vs σ) gs s) e s
noncomputable def oE (Γ:Bm) (A:Az) (G:Bc->Prop) (vs:List Ab) (gs:Kb) (ρ:List Av):Prop:=∀σ s,G σ->Eg Γ ⟨σ.W,ρ++σ.τ⟩ s->Zh (Ci Γ.prog Γ.w) A (pF Γ A G vs σ) gs s
theorem iT {a:Am} {g:Nat} {nm qn:Ab} {G:Bc->Prop} {vs:List Ab} {gs:Kb} {ρ:List Av} {Q:Option Ab->Be->Prop} {E:Ab->Be->Prop} (hh:A.handled=Ae) (hroom:A.depth < Hf) (hG:∀σ ext,G σ->G ⟨σ.W,ext++σ.τ⟩) (h:oE Γ A.in1 G vs gs ρ) (hσ:G σ)
  (R:Eg Γ ⟨σ.W,((.obj a,.raw (Vj g nm qn))::(.gen g,.gst gs)::ρ)++σ.τ⟩ s) (k:∀e s₁,pF Γ A.in1 G vs ⟨σ.W,(.obj a,.raw (Vj g nm qn))::(.gen g,.gst .running)::σ.τ⟩ e s₁->yJ g Q e s₁):Cu (Ci Γ.prog Γ.w) A (Ls (.ref a)) Q E s:=
 pU hh R.lim.no hroom ⟨Vj g nm qn,nm,qn,(R.ents _ Bv).1,rfl,rfl,rfl⟩ (R.ents _ (Eh Bv)).1
  ((h _ _ (hG σ [(.obj a,.raw (Vj g nm qn)),(.gen g,.gst .running)] hσ) (Wp (Zd _ _ ρ σ.τ) (Eg.setGen (x:=.running) R (.tau (.there .here)) rfl))).mono k)
theorem bH {a:Am} {g:Nat} {nm qn:Ab} {G:Bc->Prop} (hh:A.handled=Ae) (hroom:A.depth < Hf) (hG:∀σ ext,G σ->G ⟨σ.W,ext++σ.τ⟩):∀(vs:List Ab) (gs:Kb) (ρ:List Av),oE Γ A.in1 G vs gs ρ->
  Lj Γ A a G vs ((.obj a,.raw (Vj g nm qn))::(.gen g,.gst gs)::ρ):=by
 intro vs
 induction vs with
 |nil=>
  intro gs ρ h σ hσ s R
  refine iT hh hroom hG h hσ R λe s₁ z=>?_
  obtain⟨r,e1,hr,R₂⟩:=z
  rw [e1]
  exact⟨hr,λh' hk=>⟨σ,Av.le_sub (.cons _ (.cons _ (.refl _))) _ _ ((Eg.setGen (x:=.finished) R₂ (.tau (.there .here)) rfl).grow (s':={s₁.setGen g .finished with heap:=h'}) hk rfl rfl),rfl,rfl⟩⟩
 |cons v vs ih=>
  intro gs ρ h σ hσ s R
  refine iT hh hroom hG h hσ R λe s₁ z=>?_
  obtain⟨u,b,c,d,k,p,f,ρ',e1,hq,eu,R₂,hX⟩:=z
  subst e1
  exact⟨hq,⟨σ.W,((.obj a,.raw (Vj g nm qn))::(.gen g,.gst (End.susp u b c d k p f).genState)::ρ')++σ.τ⟩,Wp (Zd _ _ ρ' σ.τ).symm (Eg.setGen R₂ (.tau (Ri.pre (.there .here))) (End.bare_of_quiet hq)),congrArg Ad eu,_,rfl,
   λtarget u s R=>Wx (R.ents _ Bv).1 rfl (by decide) ⟨_,R,rfl⟩,ih _ ρ' hX⟩
end
end
section
section
variable {Γ:Bm} {A:Az} {σ σ':Bc} {s s':Be}
noncomputable abbrev Wg (elt iter:At) (x:Str) (px:Pos) (scope:Li) (pos:Pos):At:=.GeneratorExp elt [⟨.Name x px,iter,[],0⟩] scope pos
theorem gE {elt iter:At} {x:Str} {px:Pos} {scope:Li} {pos:Pos} {it C:Am} {cenv:Env} {G:Bc->Prop} {f:Ab->Ab} {φ:Ab->Prop} (hCl:cenv.locals=C) (hh:A.handled=Ae) (hG:∀σ ext,G σ->G ⟨σ.W,ext++σ.τ⟩)
  (hk:cenv.scope.kind=.function) (hl:cenv.kindOf x=Ad .local) (hco:cenv.scope.isCoroutine=false)
  (helt:∀σ v,φ v->G σ->(.obj C,.fr [(x,Ad v)])∈σ.all->T Γ (A.over (.compLoop (Wg elt iter x px scope pos) 0 (.ref it) .none cenv) []) σ (Dv elt cenv) λy σ'=>y=f v/\σ'=σ):
  ∀(r:List Ab) (ρ₀:List Av),(∀v∈r,φ v)->Lj Γ (A.over (.compLoop (Wg elt iter x px scope pos) 0 (.ref it) .none cenv) []) it G r ρ₀->∀σ s o,G σ->Eg Γ ⟨σ.W,ρ₀++((.obj C,.fr [(x,o)])::σ.τ)⟩ s->
   Ht (Ci Γ.prog Γ.w) A (pF Γ A G (r.map f) σ)
    (.compLoop (Wg elt iter x px scope pos) 0 (.ref it) .none cenv) ((Ci Γ.prog Γ.w).den (.compLoop (Wg elt iter x px scope pos) 0 (.ref it) .none cenv)) [] s:=by
 intro r
 induction r with
 |nil=>
  intro ρ₀ hφ Y σ s o hσ R
  show Ht _ A _ _ ((compTurn (Wg elt iter x px scope pos) 0 (.ref it) .none cenv).onRaise (leaving cenv)) [] s
  rw [compTurn_gen,Jk]
  refine Do (Ev ?_)
  exact Do (Y.stop (hG σ [(.obj C,.fr [(x,o)])] hσ) R λs₁ R₁=>aZ (.ok .next) (vX.mk _ rfl (.inl rfl) (Av.le_sub (.cons _ (.refl _)) _ _ R₁)))
 |cons v r ih=>
  intro ρ₀ hφ Y σ s o hσ R
  show Ht _ A _ _ ((compTurn (Wg elt iter x px scope pos) 0 (.ref it) .none cenv).onRaise (leaving cenv)) [] s
  rw [compTurn_gen,Jk]
  refine Do (Ev ?_)
  refine Do (Y.more (hG σ [(.obj C,.fr [(x,o)])] hσ) R λu ρ₁ s₁ eu R₁ go Y'=>?_)
  ·refine Do (Iv (rfl:Dr (.Name x px) (.ref it) u=Et ()) ?_)
   refine Do ((Ta (env:=cenv) (σ':=⟨σ.W,ρ₁++((.obj C,.fr [(x,Ad v)])::σ.τ)⟩) eu .here (.tau (Ri.pre (by rw [hCl];exact .here))) rfl hk hl).to R₁ λ_ s₂ R₂=>?_)
   simp only [List.forIn_nil]
   refine Do (Ax ?_)
   simp only [if_true]
   have hy:∀v,yieldOut cenv v=yieldValue v:=λv=>by simp only [yieldOut,hco,Hs,if_false]
   simp only [hy]
   rw [Jb,Jb,Mv,Mv]
   have hσ₂:G ⟨σ.W,ρ₁++((.obj C,.fr [(x,Ad v)])::σ.τ)⟩:=by
    have:=hG σ (ρ₁++[(.obj C,.fr [(x,Ad v)])]) hσ
    simpa using this
   refine Tj ((helt _ v (hφ v (.head _)) hσ₂ (Ag (fO (.head _)))).one R₂ λy s₃ ey R₃=>?_)
   refine fW (bP rfl λp=>?_)
   exact vV.mk _ _ _ _ _ _ _ (ρ₁++[(.obj C,.fr [(x,Ad v)])]) rfl rfl ey (by rw [Ba];exact R₃) λσ s hσ R=>Po rfl (ih ρ₁ (λv hv=>hφ v (.tail _ hv)) Y' σ s (Ad v) hσ (by rw [Ba]at R;exact R))
end
end
section
theorem Zz {M:Model} {A:Az} {E:Ab->Be->Prop} {s:Be} {env:Env} {c P:Am} {ps:Array Ab} {pos:Pos} {qualname:Str} {scope:Li} {Q:Ab->Be->Prop} (hc:env.code=.ref c) (C:CodeHd s.heap c P) (hP:s.heap.get? P=Ad (tabObj ps)) (ht:TriplesOk ps.toList)
  (hQ:∀code h' tk more,Iw P s.heap h'->h'.get? P=Ad (tabObj (ps++more))->TriplesOk (ps++more).toList->Q code {s with heap:=h',toks:=tk}):
  Cu M A (genexprCode env pos qualname scope) Q E s:=by
 obtain⟨o,vs,file,tf,flags,tg,inF,text,tt,e1,_,e3,_,h11,h2,h7,h9,h10,hne⟩:=id C
 unfold genexprCode codeAt
 rw [hc,if_neg (show¬((Bx c==Dq)=true)from Bool.false_ne_true)]
 refine Af (wpAny_fieldsOf e1 e3 ?_)
 rw [h11]
 refine Af (wpAny_fieldsOf hP rfl ?_)
 cases hnf:codeAmong pos ps.toList with
 |Ad cv=>exact Ax (hQ cv s.heap s.toks #[] (Iw.refl _ _) (by simpa using hP) (by simpa using ht))
 |Ae=>
  rw [h2,h7,h9,h10]
  refine Af (wpAny_newCode λc' P' h' tk hk hc' hP' hcode' hrec'=>?_)
  have hop':=hk _ _ hP
  refine Af (wpAny_updateFieldsOfTheText hop' rfl ?_)
  have hnew:Ju (λvs=>if(codeAmong pos vs.toList).isSome=true then vs else vs++#[Ki pos.line,Ki pos.col,.ref c']) (tabObj ps)=tabObj (ps++#[Ki pos.line,Ki pos.col,.ref c']):=by
   simp [Ju,tabObj,hnf]
  have hget:=Dz (h:=h') (λo=>Ju (λvs=>if(codeAmong pos vs.toList).isSome=true then vs else
   vs++#[Ki pos.line,Ki pos.col,.ref c']) o) hop' (by rw [hnew];rfl)
  rw [hnew]at hget
  refine Af (wpAny_fieldsOf hget rfl ?_)
  have hl:(ps++#[Ki pos.line,Ki pos.col,Bx c']).toList=ps.toList++[Ki pos.line,Ki pos.col,.ref c']:=by simp
  rw [hl,codeAmong_snoc _ ht hnf]
  exact Ax (hQ _ _ _ _ (λb o' hb e=>((Dk ..).extBut b o' hb (hk b o' e))) hget (by rw [hl];exact TriplesOk_snoc _ _ _ _ ht))
theorem zG:∀P,P∈[122,349]->P≠cStatics/\P≠He:=by decide
section
variable {Γ:Bm} {A:Az} {σ σ':Bc} {s s':Be}
theorem Eg.table {P c:Am} {ps more:Array Ab} {h':Cd} {tk:Nat} (R:Eg Γ σ s) (hP:P∈[122,349]) (hc:codeHdIn Γ.K c P=true) (hp:s.heap.get? P=Ad (tabObj ps)) (hx:Iw P s.heap h') (hp':h'.get? P=Ad (tabObj (ps++more))) (ht:TriplesOk (ps++more).toList):
  Eg Γ σ {s with heap:=h',toks:=tk}:=by
 have C1:=codeHd_of_K R.kin hc
 have hne:c≠P:=by obtain⟨_,_,_,_,_,_,_,_,_,_,_,_,_,_,_,_,_,_,h⟩:=id C1;exact h
 have C2:CodeHd h' c P:=by
  obtain⟨o,vs,file,tf,flags,tg,inF,text,tt,e1,r⟩:=id C1
  exact⟨o,vs,file,tf,flags,tg,inF,text,tt,hx _ _ hne e1,r⟩
 have hn:=(zG P hP).1
 refine⟨OldK.step_table R.old ((codeHd_of_K Γ.kin hc).tab (Γ.tabs P hP)) (C1.tab hp) (C2.tab hp') hx hn,⟨R.lim.no.extBut hx (Ll hn),λP' hP'=>?_⟩,λo e=>hx _ _ (Ll hn) (R.stat o e),R.os,R.bare,λp hp=>⟨(R.ents p hp).1.ext hx rfl λe=>?_,(R.ents p hp).2⟩,R.sep⟩
 ·by_cases q:P'=P
  ·subst q;exact⟨_,hp',ht⟩
  ·obtain⟨ps',e,t⟩:=R.lim.tab P' hP'
   exact⟨ps',hx _ _ q e,t⟩
 ·have:=R.above hp e
  rw [Γ.tabs P hP]at this
  cases this
theorem Eg.bfor {globals running:Am} {E:Ab->Be->Prop} {Q:Am->Be->Prop} (R:Eg Γ σ s) (hg:globals=He) (h:Q Im s):Cu (Ci Γ.prog Γ.w) A (builtinsFor globals running) Q E s:=by
 obtain⟨bm,ob,hb,hne,ho,hc,hd,hdt⟩:=Γ.bm
 subst hg
 exact wpAny_builtinsFor (R.nsOld Γ.top.g (by decide)) hb hne (R.old.get_of_cls ho (by rw [hc];decide)) hc hd hdt h
theorem Eg.pushGen {W τ:List Av} {c:Code} (R:Eg Γ ⟨W,τ⟩ s):Eg Γ ⟨W,(.gen s.gens.size,.gst (.fresh c))::τ⟩ {s with gens:=s.gens.push (.fresh c)}:=by
 have hg:∀(g:Nat) (gs:Kb),s.gens[g]? =Ad gs->(s.gens.push (.fresh c))[g]? =Ad gs:=λg gs e=>by
  have:g < s.gens.size:=by
   rcases Oh g s.gens.size with h|h
   ·exact h
   ·rw [Mp h]at e;cases e
  rw [Array.getElem?_push_lt this,<-e,Fu this]
 have R1:Eg Γ ⟨W,τ⟩ {s with gens:=s.gens.push (.fresh c)}:=by
  refine⟨R.old,R.lim,R.stat,R.os,λx hx=>?_,λp hp=>⟨?_,(R.ents p hp).2⟩,R.sep⟩
  ·rcases Array.mem_push.mp hx with h|h
   ·exact R.bare x h
   ·rw [h];rfl
  ·have:=(R.ents p hp).1
   obtain⟨l,co⟩:=p
   cases l with
   |gen g=>cases co<;>first|exact this.elim|exact hg _ _ this
   |obj a=>cases co<;>exact this
   |var d y=>cases co<;>exact this
 refine R1.add (Array.getElem?_push_size ..) trivial λq hq=>.inl ?_
 have:=(R.ents q hq).1
 obtain⟨l,co⟩:=q
 cases l with
 |gen g=>
  cases co<;>first|exact this.elim|skip
  show((false,s.gens.size):Bool×Nat)≠(false,g)
  intro e
  have h2:s.gens[g]? =Ad _:=this
  rw [<-(Prod.mk.inj e).2,Mp (Cb _)]at h2
  cases h2
 |obj a=>show((false,s.gens.size):Bool×Nat)≠(true,a);intro e;cases e
 |var d y=>show((false,s.gens.size):Bool×Nat)≠(true,d);intro e;cases e
theorem aY {a:Am} {g:Nat} {nm qn:Ab} {gs:Kb} {ρ:List Av}:Vu Γ A a ((.obj a,.raw (Vj g nm qn))::(.gen g,.gst gs)::ρ):=λW τ s R=>
 wpAny_pyIter_gen (g:=g) ⟨Vj g nm qn,nm,qn,(R.ents _ Bv).1,rfl,rfl,rfl⟩ ⟨_,R,rfl,rfl⟩
theorem tF {elt iter:At} {x:Str} {px:Pos} {scope:Li} {pos:Pos} {env:Env} {cl₀:List (Str×Am)} {c P:Am} {f:Ab->Ab} {Q:Ab->Bc->Prop} (hP:P∈[122,349]) (hcd:codeHdIn Γ.K c P=true) (hc:env.code=.ref c) (hroom:A.depth < Hf)
  (h:T Γ A σ (Dv iter env) λc σ₁=>∀v,cl v=c->T Γ A σ₁ (Ib v) λci σ₂=>∃it ρ G vs W τ,ci=.ref it/\σ₂=⟨W,ρ++τ⟩/\(∀A':Az,A'.handled=Ae->Lj Γ A' it G vs ρ/\Vu Γ A' it ρ)/\(∀σ ext,G σ->G ⟨σ.W,ext++σ.τ⟩)/\
   (∀(A':Az) C code σ v,A'.handled=Ae->v∈vs->G σ->(.obj C,.fr [(x,Ad v)])∈σ.all->T Γ A' σ (Dv elt (genEnv scope cl₀ C code Im env)) λy σ'=>y=f v/\σ'=σ)/\
   ∀a ρ',(∀A':Az,A'.handled=Ae->A'.depth < Hf->Lj Γ A' a G (vs.map f) ρ'/\Vu Γ A' a ρ')->Q (.ref a) ⟨W,ρ'++τ⟩)
  (hx0:(scope.names.lookup x==Ad .local)=true:=by rfl) (hg:autoParam (env.globals=He) aR) (hco:autoParam (scope.isCoroutine=false) aR) (hclos:autoParam (Kc scope env=Et cl₀) aR) (hcell:autoParam ((scope.names.all λy=>y.2 != .cell)=true) aR) (h0:(scope.names.lookup (".0" :Str)==Ad NameKind.local)=true:=by rfl) (hkind:autoParam (scope.kind=.function) aR) (hxn:autoParam (x≠".0") aD) (hs:autoParam (∀x,genFold iter env x=Et x) aI):
  T Γ A σ (Dv (Wg elt iter x px scope pos) env) Q:=λs R=>by
 have hx:=beq_iff_eq.mp hx0
 refine wpAny_GeneratorExp_make hco hclos (λy hy=>?_) (beq_iff_eq.mp h0) hkind hroom (h.elim R λv s₁ σ₁ R₁ q₁=>(q₁ v rfl).elim R₁ λu s₂ σ₂ R₂ q₂=>⟨R₂.lim.no,?_⟩) hs
 ·have:=Fz.mp hcell y hy
  simpa using this
 obtain⟨it,ρ,G,vs,W,τ,e,rfl,Y,hG,helt,hQ⟩:=q₂
 have:=Ch e
 subst this
 obtain⟨ps,hps,htr⟩:=R₂.lim.tab P hP
 refine Zz hc (codeHd_of_K R₂.kin hcd) hps htr λcode h₃ tk more hx₃ hp₃ ht₃=>?_
 have R₃:Eg Γ ⟨W,ρ++τ⟩ {s₂ with heap:=h₃,toks:=tk}:=R₂.table hP hcd hps hx₃ hp₃ ht₃
 refine R₃.bfor hg λh' hn' hs'=>?_
 dsimp only at hn' hs' ⊢
 have keep':∀b o,h₃.get? b=Ad o->h'.get? b=Ad o:=λb o e=>hs'.extBut b o (Kw (Dw e)) (An _ e)
 have R₄:Eg Γ ⟨W,ρ++τ⟩ {s₂ with heap:=h',toks:=tk}:=R₃.grow (s':={s₂ with heap:=h',toks:=tk}) keep' rfl rfl
 have sepC:∀(l:Ex) (c:CO),l.base=(true,h₃.objs.size)->∀q∈(⟨W,ρ++τ⟩:Bc).all,Ul (l,c) q:=λl c hl=>Jw (s:={s₂ with heap:=h₃,toks:=tk}) hl (λq hq=>(R₃.ents q hq).1) (Cb _)
 have R₅:Eg Γ ⟨W,(.obj h₃.objs.size,.fr [(x,Ae)])::(ρ++τ)⟩ {s₂ with heap:=h',toks:=tk}:=by
  refine R₄.add ⟨_,hn',by simp,λp hp=>?_⟩ R₃.freshTop (sepC _ _ rfl)
  rw [Bi]at hp
  subst hp
  simp [hxn]
 have hsz:h'.objs.size=h₃.objs.size+1:=by rw [hs'.1,Iy]
 generalize hC:h₃.objs.size=C at *
 have R₅':Eg Γ ⟨W,(ρ++[(.obj C,.fr [(x,Ae)])])++τ⟩ {s₂ with heap:=h',toks:=tk}:=Wp (by rw [Ba];exact Fl.symm) R₅
 let c₀:Code:=.compStart (Wg elt iter x px scope pos) 0 (.ref it) .none (genEnv scope cl₀ C code Im env)
 have GX:∀A':Az,A'.handled=Ae->oE Γ A' G (vs.map f) (.fresh c₀) (ρ++[(.obj C,.fr [(x,Ae)])]):=by
  intro A' hh'
  have loop:=λσ s (hσ:G σ) (R:Eg Γ ⟨σ.W,(ρ++[(.obj C,.fr [(x,Ae)])])++σ.τ⟩ s)=>gE (Γ:=Γ) (A:=A') (elt:=elt) (iter:=iter) (x:=x) (px:=px) (scope:=scope) (pos:=pos) (it:=it) (C:=C) (cenv:=genEnv scope cl₀ C code Im env) (f:=f) (φ:=λv=>v∈vs) rfl hh' hG hkind hx hco (λσ v hv hσ hm=>helt _ C code σ v hh' hv hσ hm) vs ρ (λv hv=>hv) (Y (A'.over (.compLoop (Wg elt iter x px scope pos) 0 (.ref it) .none (genEnv scope cl₀ C code Im env)) []) hh').1 σ s Ae hσ (by simpa using R)
  have start:∀σ s,G σ->Eg Γ ⟨σ.W,(ρ++[(.obj C,.fr [(x,Ae)])])++σ.τ⟩ s->∀Φ,Ht (Ci Γ.prog Γ.w) A' Φ (.compLoop (Wg elt iter x px scope pos) 0 (.ref it) .none (genEnv scope cl₀ C code Im env)) ((Ci Γ.prog Γ.w).den (.compLoop (Wg elt iter x px scope pos) 0 (.ref it) .none (genEnv scope cl₀ C code Im env))) [] s->(∀s',Eg Γ ⟨σ.W,(ρ++[(.obj C,.fr [(x,Ae)])])++σ.τ⟩ s'->Ht (Ci Γ.prog Γ.w) A' Φ (.compLoop (Wg elt iter x px scope pos) 0 (.ref it) .none (genEnv scope cl₀ C code Im env)) ((Ci Γ.prog Γ.w).den (.compLoop (Wg elt iter x px scope pos) 0 (.ref it) .none (genEnv scope cl₀ C code Im env))) [] s')->
    Ht (Ci Γ.prog Γ.w) A' Φ c₀ ((Ci Γ.prog Γ.w).den c₀) [] s:=by
   intro σ s hσ R Φ k1 k2
   show Ht _ A' Φ c₀ ((compStart (Wg elt iter x px scope pos) 0 (.ref it) .none (genEnv scope cl₀ C code Im env)).onRaise (leaving (genEnv scope cl₀ C code Im env))) [] s
   unfold compStart
   rw [Jk]
   show Ht _ A' _ _ ((ask>>=_).wrap _ _ _ _) [] s
   refine Do (Oi ?_)
   split
   ·exact Po rfl k1
   ·refine Do (Lf ?_)
    show Ht _ A' _ _ ((Mz iter.pos>>=_).wrap _ _ _ _) [] s
    refine Do (Ev (Do (((Y (A'.over c₀ []) hh').2 σ.W ([(.obj C,.fr [(x,Ae)])]++σ.τ)).one (by simpa using R) λv s' e1 R'=>?_)))
    cases Ch e1
    exact Po rfl (k2 s' (by simpa using R'))
  exact λσ s hσ R=>start σ s hσ R _ (loop σ s hσ R) (loop σ · hσ)
 have R₆:=R₅'.pushGen (c:=c₀)
 have R₇:Eg Γ ⟨W,(.obj h'.objs.size,.raw (Vj s₂.gens.size (.str "<genexpr>" (tk+1)) (.str (env.qual++"<genexpr>") (tk+1+1))))::(.gen s₂.gens.size,.gst (.fresh c₀))::((ρ++[(.obj C,.fr [(x,Ae)])])++τ)⟩
   {s₂ with gens:=s₂.gens.push (.fresh c₀),toks:=tk+1+1+1,heap:=h'.push (Vj s₂.gens.size (.str "<genexpr>" (tk+1)) (.str (env.qual++"<genexpr>") (tk+1+1)))}:=
  (R₆.toks (tk+1+1+1)).push (λ_ _ e=>An _ e) rfl rfl (Bj _ rfl)
 have hfin:=hQ h'.objs.size ((.obj h'.objs.size,.raw (Vj s₂.gens.size (.str "<genexpr>" (tk+1)) (.str (env.qual++"<genexpr>") (tk+1+1))))::(.gen s₂.gens.size,.gst (.fresh c₀))::(ρ++[(.obj C,.fr [(x,Ae)])])) λA' hA hr=>⟨bH hA hr hG _ _ _ (GX A'.in1 hA),aY⟩
 exact⟨_,R₇,hfin⟩
theorem jG {it:Am} {G:Bc->Prop} (hh:A.handled=Ae):∀(vs:List Ab) (ρ:List Av),Lj Γ A.in1 it G vs ρ->(∀v∈vs,v=.none\/v=.bool false)->∀σ s,G σ->Eg Γ ⟨σ.W,ρ++σ.τ⟩ s->∀R:Le->Be->Prop,
  (∀s',Eg Γ σ s'->R (.ok (.ret (.bool false))) s')->Kg (Ci Γ.prog Γ.w) A (.builtin "any.loop" ⟨[.ref it],[]⟩) R s
 |[],ρ,Y,_,σ,s,hσ,R0,R,hR=>by
  refine Hn PySem.F.entry_any_loop ?_
  rw [Gb Mn _]
  show Cu _ A.in1 (Ls (.ref it)>>=_) _ _ s
  exact Af (Y.stop hσ R0 λs' R'=>Af (Lf (Ax (hR s' R'))))
 |v::vs,ρ,Y,hf,σ,s,hσ,R0,R,hR=>by
  refine Hn PySem.F.entry_any_loop ?_
  rw [Gb Mn _]
  show Cu _ A.in1 (Ls (.ref it)>>=_) _ _ s
  refine Af (Y.more hσ R0 λu ρ' s' eu R' _ Y'=>?_)
  ·have tr:T Γ A.in1 ⟨σ.W,ρ'++σ.τ⟩ (Pl u) λb σ'=>b=false/\σ'=⟨σ.W,ρ'++σ.τ⟩:=by
    rcases hf v (.head _)with h|h
    ·exact dP (eu.trans h) ⟨rfl,rfl⟩
    ·exact Rf (eu.trans h) ⟨rfl,rfl⟩
   refine Af (Ef (tr.one R' λb s₂ e1 R₂=>?_))
   cases(e1:b=false)
   refine Af (wpAny_letGo ?_)
   simp only [Hs,if_false]
   exact Ax ⟨Jt Mn _,jG hh vs ρ' Y' (λv hv=>hf v (.tail _ hv)) σ s₂ hσ R₂ R hR⟩
theorem Age {W τ ρ:List Av} {a:Am} {G:Bc->Prop} {vs:List Ab} {Q:Ab->Bc->Prop} (hh:A.handled=Ae) (Y:Lj Γ A.in1 a G vs ρ) (slf:Vu Γ A.in1 a ρ) (hG:G ⟨W,τ⟩) (hf:∀v∈vs,v=.none\/v=.bool false) (h:Q (.bool false) ⟨W,τ⟩):∀ws,ws.map cl=[.ref a]->T Γ A ⟨W,ρ++τ⟩ (Iq (.builtin "any") ws) Q:=λws hw s R=>by
 obtain⟨w,rfl,e⟩:=Iz hw
 have:=Ch e
 subst this
 refine call_function_tree PySem.F.kind_any PySem.F.plain_any PySem.F.entry_any (PySem.F.args_any1 _) ?_
 unfold Ee.«any»
 refine Af (m:=oneArg "any" _) (Ax ?_)
 refine Af ((slf W τ).one R λv s' e1 R'=>?_)
 cases Ch e1
 exact Ax ⟨Jt Mn _,jG hh vs ρ Y hf ⟨W,τ⟩ s' hG R' _ λs₂ R₂=>⟨_,R₂,h⟩⟩
theorem jH {it:Am} {G:Bc->Prop} (hh:A.handled=Ae):∀(vs:List Ab) (ρ:List Av),Lj Γ A.in1 it G vs ρ->(∀v∈vs,v=.bool true)->∀σ s,G σ->Eg Γ ⟨σ.W,ρ++σ.τ⟩ s->∀R:Le->Be->Prop,
  (∀s',Eg Γ σ s'->R (.ok (.ret (.bool true))) s')->Kg (Ci Γ.prog Γ.w) A (.builtin "all.loop" ⟨[.ref it],[]⟩) R s
 |[],ρ,Y,_,σ,s,hσ,R0,R,hR=>by
  refine Hn PySem.F.entry_all_loop ?_
  rw [Gb Mo _]
  show Cu _ A.in1 (Ls (.ref it)>>=_) _ _ s
  exact Af (Y.stop hσ R0 λs' R'=>Af (Lf (Ax (hR s' R'))))
 |v::vs,ρ,Y,hf,σ,s,hσ,R0,R,hR=>by
  refine Hn PySem.F.entry_all_loop ?_
  rw [Gb Mo _]
  show Cu _ A.in1 (Ls (.ref it)>>=_) _ _ s
  refine Af (Y.more hσ R0 λu ρ' s' eu R' _ Y'=>?_)
  ·have tr:T Γ A.in1 ⟨σ.W,ρ'++σ.τ⟩ (Pl u) λb σ'=>b=true/\σ'=⟨σ.W,ρ'++σ.τ⟩:=Rf (eu.trans (hf v (.head _))) ⟨rfl,rfl⟩
   refine Af (Ef (tr.one R' λb s₂ e1 R₂=>?_))
   cases(e1:b=true)
   refine Af (wpAny_letGo ?_)
   simp only [if_true]
   exact Ax ⟨Jt Mo _,jH hh vs ρ' Y' (λv hv=>hf v (.tail _ hv)) σ s₂ hσ R₂ R hR⟩
theorem Agf {W τ ρ:List Av} {a:Am} {G:Bc->Prop} {vs:List Ab} {Q:Ab->Bc->Prop} (hh:A.handled=Ae) (Y:Lj Γ A.in1 a G vs ρ) (slf:Vu Γ A.in1 a ρ) (hG:G ⟨W,τ⟩) (hf:∀v∈vs,v=.bool true) (h:Q (.bool true) ⟨W,τ⟩):∀ws,ws.map cl=[.ref a]->T Γ A ⟨W,ρ++τ⟩ (Iq (.builtin "all") ws) Q:=λws hw s R=>by
 obtain⟨w,rfl,e⟩:=Iz hw
 have:=Ch e
 subst this
 refine call_function_tree PySem.F.kind_all PySem.F.plain_all PySem.F.entry_all (PySem.F.args_all1 _) ?_
 unfold Ee.«all»
 refine Af (m:=oneArg "all" _) (Ax ?_)
 refine Af ((slf W τ).one R λv s' e1 R'=>?_)
 cases Ch e1
 exact Ax ⟨Jt Mo _,jH hh vs ρ Y hf ⟨W,τ⟩ s' hG R' _ λs₂ R₂=>⟨_,R₂,h⟩⟩
end
end
section
noncomputable def Gy (G:List Nd) (j:Nat):List Nat:=match G[j]?with|Ad x=>x.ss|Ae=>[]
theorem Wo {G:List Nd} {j:Nat} {x:Nd} (h:G[j]? =Ad x):Gy G j=x.ss:=by simp [Gy,h]
inductive tG (G:List Nd) (σ:Bc) (es:List (Int×Ab)) (b:Nat):Prop
 |mk (y:Nd) (s d:Am) (e:G[b]? =Ad y) (v:Fq es y.key=Ad (.ref s)) (i:(.obj s,.inst 86 d)∈σ.all) (n:(.obj d,.ns (eD y.me y.st))∈σ.all)
structure Ajg (G:List Nd) (σ:Bc) (m:Am) (es:List (Int×Ab)) (bs:List Nat):Prop where
 d:(.obj m,.idict es)∈σ.all
 at':∀b∈bs,tG G σ es b
inductive sJ (σ:Bc) (v:Ab):Prop
 |mk (s d b t:Am) (e:v=.ref s) (i:(.obj s,.inst 86 d)∈σ.all) (n:(.obj d,.ns (eD b t))∈σ.all)
theorem sJ.ext {W ρ τ:List Av} {v:Ab} (h:sJ ⟨W,τ⟩ v):sJ ⟨W,ρ++τ⟩ v:=h.casesOn λs d b t e h1 h2=>⟨s,d,b,t,e,Bt h1,Bt h2⟩
theorem uN (Γ:Bm):Γ.K.lookup 125=Ad ⟨.type "function",Ae,.func (Kh Γ 125 "C3.__init__" (clsStmt 8 4) (.ref 124) .none),#[]⟩:=by kernel_rfl
theorem uC (Γ:Bm):gY Γ.K 86 "had_inconsistency" .none=true:=by kernel_rfl
theorem sX (Γ:Bm):Ss Γ.K 86 "mro" 83=true:=by kernel_rfl
theorem mH (Γ:Bm):Vi Γ.K 204 "leaf" =true:=by kernel_rfl
theorem mG (Γ:Bm):Vi Γ.K 204 "memo" =true:=by kernel_rfl
theorem mF (Γ:Bm):Vi Γ.K 204 "base_tree" =true:=by kernel_rfl
theorem mJ (Γ:Bm):Vi Γ.K 204 "bases_had_inconsistency" =true:=by kernel_rfl
noncomputable def rs0:Rs:=⟨Ae,Ae,Ae,Ae,Ae,Ae,Ae⟩
noncomputable def Sf (G:List Nd) (i:Nat):List (List Nat):=[[i]]++(Ge G i).map (Gy G)++[Ge G i]
section
variable {Γ:Bm} {A:Az} {G:List Nd} {σ:Bc}
theorem Lj.weak {it:Am} {G G':Bc->Prop} (hG:∀σ,G' σ->G σ) {vs:List Ab}:∀{ρ:List Av},Lj Γ A it G vs ρ->Lj Γ A it G' vs ρ:=by
 induction vs with
 |nil=>exact λh σ hσ=>h σ (hG σ hσ)
 |cons v vs ih=>exact λh σ hσ=>(h σ (hG σ hσ)).mono λ_ _ q=>⟨q.1,by obtain⟨_,ρ',e',go,Y⟩:=q;exact⟨ρ',e',go,ih Y⟩⟩
theorem rJ {value slice:At} {o i:Ab} {Q:Ab->Bc->Prop} (h:T Γ A σ (Gg (.Name (Kv "_") ⟨0,0,0,0⟩) slice o i) Q):T Γ A σ (Gg value slice o i) Q:=λs R=>kba_turn (λ_=>rfl) (h s R)
theorem Gv {value slice:At} {u v:Ab} {Q:Ab->Bc->Prop} (h:P2 Γ A (Gg (.Name (Kv "_") ⟨0,0,0,0⟩) slice) Q u v σ):P2 Γ A (Gg value slice) Q u v σ:=λ_ _ ho hi=>rJ (h _ _ ho hi)
noncomputable abbrev oA (L:Am) (rx me:Am) (m:Am) (br:Ab) (o:Option Ab) (τ:List Av):List Av:=
 (.obj (L+1),.cell (Ad (.ref m)))::(.var L "self",.val (Ad (.ref rx)))::(.var L "C",.val (Ad (.ref me)))::(.var L "base_resolvers",.val (Ad br))::(.var L "base",.val o)::(.var L "resolver",.val Ae)::τ
theorem Gr.bs12 (g:Gr G) {i:Nat} {x:Nd} (hi:G[i]? =Ad x):x.bs.length<=12:=
 Ca (Go i x.bs (g.bs _ _ hi).1 (g.bs _ _ hi).2) (Ca (Ml (Al.mp hi).1) g.few)
theorem Gr.ss12 (g:Gr G) {i:Nat} {x:Nd} (hi:G[i]? =Ad x):x.ss.length<=12:=Ca (Go G.length x.ss (g.ss _ _ hi).1 (g.ss _ _ hi).2) g.few
inductive eI (G:List Nd) (i:Nat) (bs:List Nat) (mro:Option Ab) (ρ:List Av):Prop
 |no (h:bs.length≠1) (e:mro=Ae)
 |one (b:Nat) (t:Am) (eb:bs=[b]) (e:mro=Ad (.ref t)) (m:(.obj t,.list (Ap G (i::Gy G b)))∈ρ)
theorem eI.sub {i:Nat} {bs:List Nat} {mro:Option Ab} {ρ ρ':List Av} (h:eI G i bs mro ρ) (k:∀p∈ρ,p∈ρ'):eI G i bs mro ρ':=by
 cases h with
 |no h e=>exact .no h e
 |one b t eb e m=>exact .one b t eb e (k _ m)
noncomputable abbrev vS (L rx rd me m br:Am) (o:Option Ab) (rs:Rs) (τ:List Av):List Av:=oA L rx me m (.ref br) o ((.obj rd,.ns rs.ns)::(.obj rx,.inst 204 rd)::τ)
noncomputable abbrev yS (G:List Nd) (bs:List Nat) (c2 a3 lb c1 acc a2 a1 br me:Am) (qs:Tr) (rl:List Ab) (ρ T:List Av):List Av:=
 (.obj c2,.list (([.ref a1]++qs.vs)++[.ref lb]))::(.obj a3,.list [.ref lb])::(.obj lb,.list (Ap G bs))::(.obj c1,.list ([.ref a1]++qs.vs))::(.obj acc,.list qs.vs)::(ρ++((.obj a2,.list [.ref a1])::(.obj a1,.list [.ref me])::(.obj br,.list rl)::T))
theorem vD {i:Nat} {x:Nd} {c2 a3 lb c1 acc a2 a1 br:Am} {qs:Tr} {rl:List Ab} {ρ T:List Av} (hi:G[i]? =Ad x) (h1:qs.map (·.2)=x.bs.map (Gy G)) (h2:∀p∈qs,(.obj p.1,.list (Ap G p.2))∈ρ):Sr G ⟨[],yS G x.bs c2 a3 lb c1 acc a2 a1 br x.me qs rl ρ T⟩ c2 (Sf G i):=by
 refine⟨[(a1,[i])]++qs++[(lb,x.bs)],?_,?_,λp hp=>Ag ?_⟩
 ·rw [Tr.vs,Bk,Bk]
  exact Ag (.head _)
 ·rw [Bk,Bk,h1]
  unfold Sf
  rw [Qh hi]
  rfl
 ·rcases Ak.mp hp with h|h
  ·rcases Ak.mp h with h|h
   ·rw [Bi.mp h,show Ap G [i]=[.ref x.me]from congrArg (λa=>[Bx a]) (Bu hi)]
    exact .tail _ (.tail _ (.tail _ (.tail _ (.tail _ (Aa _ (.tail _ (.head _)))))))
   ·exact .tail _ (.tail _ (.tail _ (.tail _ (.tail _ (Ah _ (h2 p h))))))
  ·rw [Bi.mp h]
   exact .tail _ (.tail _ (.head _))
noncomputable abbrev hZ (L:Am):Env:=Gs "C3.__init__" (fScope (clsStmt 8 4)) L 125 (.ref 124) [("memo",L+1)]
theorem vC {W τ:List Av} {i:Nat} {x:Nd} {m:Am} {es:List (Int×Ab)} {Q:Ab->Bc->Prop} (nf:NF W G) (g:Gr G) (hA:Rm A 3) (hh:A.handled=Ae) (hi:G[i]? =Ad x) (hM:Ajg G ⟨W,τ⟩ m es x.bs)
  (h:∀rx rd a ρ mro,Sr G ⟨[],ρ⟩ a (Sf G i)->eI G i x.bs mro ρ->
   Q (.ref rx) ⟨W,(.obj rd,.ns (Rs.ns ⟨Ad (.ref x.me),Ad (.ref m),Ad (.ref a),Ad (.bool false),mro,Ae,Ae⟩))::(.obj rx,.inst 204 rd)::(ρ++τ)⟩):∀ws,ws.map cl=[.ref x.me,.ref m]->TC Γ A ⟨W,τ⟩ (.ref 204) ws [] Q:=λws hw=>by
 refine aM (fI:=125) rs0.ns (by kernel_rfl) (by kernel_rfl) (by decide) (by decide) λrx rd=>?_
 have hA':Rm (A.under (.builtin "type.__call__" ⟨.ref 204::ws,[]⟩)) 2:=hA.make
 generalize hB:A.under (.builtin "type.__call__" ⟨.ref 204::ws,[]⟩)=B at *
 have hhB:B.handled=Ae:=hB▸hh
 clear hB hA
 refine Wm (body:=fBody (clsStmt 8 4)) (bs:=[("self",.ref rx),("C",.ref x.me),("memo",.ref m)]) ["self","C","base_resolvers","base","resolver"] (uN Γ) (by kernel_rfl) hA'.room (Hb.plain3 λ_ _ _ _=>Cm (by rfl)) (λL=>?_) (by rfl) (by decide) (by decide) (by rfl) (by rfl) (by rfl) _ [] (by rw [Ck,hw];rfl) rfl
 show T Γ (B.deeper (hZ L)) ⟨W,(.obj (L+1),.cell (Ad (.ref m)))::(.var L "self",.val (Ad (.ref rx)))::(.var L "C",.val (Ad (.ref x.me)))::(.var L "base_resolvers",.val Ae)::(.var L "base",.val Ae)::(.var L "resolver",.val Ae)::(.obj rd,.ns rs0.ns)::(.obj rx,.inst 204 rd)::τ⟩ (Cs _ (hZ L)) _
 have hR:=hA'.deeper (env:=hZ L)
 have hhR:(B.deeper (hZ L)).handled=Ae:=hhB
 generalize B.deeper (hZ L)=D at *
 clear hA' hhB
 refine Ao (Dn (Ac (by walk_at "mem") (Ac (by walk_at "mem") (Gx (by walk_at "mem") (by walk_at "upd") (by walk_at "set") (mH Γ) ?_))))
 refine Fh.go ?_
 refine Ao (Dn (Aq (v:=.ref m) rfl (by walk_at "mem") (Ac (by walk_at "mem") (Gx (by walk_at "mem") (by walk_at "upd") (by walk_at "set") (mG Γ) ?_))))
 refine Fh.go ?_
 refine Ao (Bo (Ic (Ar ⟨by decide,λbr=>⟨_,_,by walk_at "upd",?_⟩⟩)))
 refine Fh.go ?_
 have hTup:∀ρ,Fc Γ ⟨W,ρ⟩ x.bt (Ap G x.bs):=λρ=>(nf.bt _ _ hi).tup
 have hb12:=g.bs12 hi
 have up:∀{q} ρ o rs,q∈(⟨W,τ⟩:Bc).all->q∈(⟨W,ρ++vS L rx rd x.me m br o rs τ⟩:Bc).all:=λρ o rs hq=>Bt (Bt (ρ:=[_,_,_,_,_,_,_,_]) hq)
 let r1:Rs:=⟨Ad (.ref x.me),Ad (.ref m),Ae,Ae,Ae,Ae,Ae⟩
 refine Ao (Sh (Ek (x:=x) nf hi (Qg Γ) (.tail _ (.tail _ (.tail _ (.head _)))) (Ac (v:=.ref x.me) (by walk_at "mem") ⟨rfl,rfl⟩) (Hl (vs:=Ap G x.bs) (hTup _) λit=>?_)))
 refine⟨λj=>.ref (Gd G j),x.bs,it,_,_,λ_ _=>W,λ_ z=>(.obj br,.list z.1)::vS L rx rd x.me m br z.2 r1 τ,λa z=>z.1.length=a.length/\∀v∈z.1,sJ ⟨W,τ⟩ v,(([]:List Ab),Ae),⟨rfl,rfl,Hj (vs:=Ap G x.bs) hhR⟩,⟨rfl,λ_ h=>nomatch h⟩,λ_ _ _=>hTup _,λa j b u ρ z e1 hu hz K hK=>?_,λz hz=>?_⟩
 ·obtain⟨y,sm,sd,ey,ev,es1,es2⟩:=hM.at' j (by rw [e1];exact Aa _ (.head _))
  rw [Bu ey]at hu
  have hd:z.1.length<=12:=by rw [e1,Aj]at hb12;rw [hz.1];exact Ca (Nat.le_add_right _ _) hb12
  refine Cx hu (by walk_at "upd") ?_
  have hMd:=up (ρ++[(.obj br,.list z.1)]) (Ad (.ref y.me)) r1 hM.d
  rw [Ba]at hMd
  refine Ao (Hz (Au (Ek (x:=y) nf ey (Mg Γ) (.head _) (Ac (v:=.ref y.me) (by walk_at "mem") ⟨rfl,rfl⟩) (Aq (v:=.ref m) rfl (by walk_at "mem") (Xu hMd ⟨_,rfl,λhb=>?_,λ_=>?_⟩)))))
  ·rw [ev]at hb;cases hb
  ·refine Cq ?_
   refine Fh.go ?_
   refine Ao (Gf (Fo (Ac (v:=.ref br) (by walk_at "mem") (De Cv Dt Ds (It (vs:=z.1) (by walk_at "mem")) ⟨.inr (.inl ⟨_,rfl⟩),?_⟩))))
   refine Ai (Bh (Aq (v:=.ref m) rfl (by walk_at "mem") (Ek (x:=y) nf ey (Mg Γ) (.head _) (Ac (v:=.ref y.me) (by walk_at "mem") ⟨rfl,rfl⟩) (Td hMd ev ?_))))
   refine Ar (Lx (by walk_at "upd") (by rw [Ay];lia) ?_)
   refine Fh.go (Cq (hK .next _ ⟨W,_,Av.le_refl _,(z.1++[.ref sm],Ad (.ref y.me)),rfl,?_,λv hv=>?_⟩))
   ·rw [Aj,Aj,hz.1];rfl
   ·exact(Ak.mp hv).elim (hz.2 v) λh=>⟨sm,sd,_,_,Bi.mp h,es1,es2⟩
 obtain⟨hl,hrl⟩:=hz
 generalize z.1=rl at *
 generalize z.2=o at *
 refine Cq ?_
 refine Fh.go ?_
 refine Ao (Dn (En (En (Ic (Ai (Ic (Ai (Ac (v:=.ref x.me) (by walk_at "mem") (Ar ⟨by rw [Ay];exact Ce rfl,λa1=>Ar ⟨by rw [Ay];exact Ce rfl,λa2=>?_⟩⟩)))))))))
 refine Wr (Ek (x:=x) nf hi (Qg Γ) (.tail _ (.tail _ (.tail _ (.head _)))) (Ac (v:=.ref x.me) (by walk_at "mem") ⟨rfl,rfl⟩) (Hl (vs:=Ap G x.bs) (hTup _) λit₂=>?_))
 refine⟨λj=>.ref (Gd G j),x.bs,it₂,_,_,λ_ _=>W,λ_ z=>z.2++((.obj a2,.list [.ref a1])::(.obj a1,.list [.ref x.me])::(.obj br,.list rl)::vS L rx rd x.me m br o r1 τ),λ_ z=>Tr.vs z.1,λa z=>z.1.map (·.2)=a.map (Gy G)/\∀p∈z.1,(.obj p.1,.list (Ap G p.2))∈z.2,(([]:Tr),([]:List Av)),⟨rfl,rfl,Hj (vs:=Ap G x.bs) hhR⟩,Rc,⟨rfl,λ_ h=>nomatch h⟩,rfl,
  λ_ _ _ _=>hTup _,λa b z e hJ=>?_,λC acc a j b ρ z e hJ=>?_,λacc z hJ=>?_⟩
 ·have e1:=congrArg Ii hJ.1
  rw [As,As]at e1
  rw [e,Aj]at hb12
  rw [As,e1,Ay]
  lia
 ·obtain⟨y,sm,sd,ey,ev,es1,es2⟩:=hM.at' j (by rw [e];exact Aa _ (.head _))
  rw [Bu ey]
  have up2:∀{q},q∈(⟨W,τ⟩:Bc).all->q∈(⟨W,ρ++Tt C acc "base" (Ad (.ref y.me)) (Tr.vs z.1) (z.2++((.obj a2,.list [.ref a1])::(.obj a1,.list [.ref x.me])::(.obj br,.list rl)::vS L rx rd x.me m br o r1 τ))⟩:Bc).all:=λhq=>Bt (Bt (ρ:=[_,_]) (Bt (up [_,_,_] o r1 hq)))
  refine Qd ⟨λ_=>?_,λhb=>(by cases hb)⟩
  refine Fo (Bh (Aq (v:=.ref m) rfl (by walk_at "mem") (Ek (x:=y) nf ey (Mg Γ) (.head _) (Dm (v:=.ref y.me) (by walk_at "mem") (.head _) ⟨rfl,rfl⟩) (Td (up2 hM.d) ev ?_))))
  refine(Pp (up2 es1) (up2 es2) (sX Γ) (by show _∉[("leaf" :Str),"_mro"];decide) ⟨.inl (by kernel_rfl),Ar λws hw=>?_⟩)
  refine(jA (vs:=Ap G y.ss) (hR.le (by decide)) (up2 es1) (up2 es2) (.of_mem (Pj (nf.st _ _ ey))) (by rw [Bb];have:=g.ss12 ey;lia) (λrr=>?_) ws hw).T
  refine⟨W,(.obj rr,.list (Ap G y.ss))::(z.2++((.obj a2,.list [.ref a1])::(.obj a1,.list [.ref x.me])::(.obj br,.list rl)::vS L rx rd x.me m br o r1 τ)),Ad (.ref y.me),Av.le_perm (Bf W (bD _ _ _ _ _)),(z.1++[(rr,y.ss)],(.obj rr,.list (Ap G y.ss))::z.2),rfl,?_,?_,λp hp=>?_⟩
  ·exact(Bk (l₁:=z.1) (l₂:=[(rr,y.ss)])).symm
  ·rw [Bk,Bk,hJ.1,<-Wo ey]
   rfl
  ·rcases Ak.mp hp with h|h
   ·exact .tail _ (hJ.2 p h)
   ·rw [Bi.mp h];exact .head _
 obtain⟨hq1,hq2⟩:=hJ
 generalize z.1=qs at *
 generalize z.2=ρ at *
 have hpl:(Tr.vs qs).length<=12:=by
  have:=congrArg Ii hq1
  rw [As,As]at this
  rw [As,this]
  exact hb12
 intro u v hu hv
 refine Xe hu hv (vs:=[.ref a1]) (us:=Tr.vs qs) (by walk_at "mem") (by walk_at "mem") (by rw [Br];lia) λc1=>?_
 refine Ic (Ai (Cf (Bd (v:=.type "list") (by kernel_rfl) (by decide+kernel) (by decide) ⟨.inr (.inr ⟨_,rfl⟩),?_⟩)))
 refine Ai (Ek (x:=x) nf hi (Qg Γ) (.tail _ (.tail _ (.tail _ (.head _)))) (Ac (v:=.ref x.me) (by walk_at "mem") ⟨rfl,rfl⟩) ?_)
 refine Ar (Ow (vs:=Ap G x.bs) (hTup _) (by rw [Bb];lia) λlb=>?_)
 refine Ar ⟨by rw [Ay];exact Ce rfl,λa3=>?_⟩
 intro u v hu hv
 refine Xe hu hv (vs:=[.ref a1]++Tr.vs qs) (us:=[.ref lb]) (by walk_at "mem") (by walk_at "mem") (by rw [Aj,Br,Br];lia) λc2=>?_
 refine Ac (v:=.ref rx) (by walk_at "mem") (Gx (by walk_at "mem") (by walk_at "upd") (by walk_at "set") (mF Γ) ?_)
 refine Fh.go ?_
 have tree:=λT=>vD (T:=T) (c2:=c2) (a3:=a3) (lb:=lb) (c1:=c1) (acc:=acc) (a2:=a2) (a1:=a1) (br:=br) (rl:=rl) hi hq1 hq2
 have upS:∀{q} ρ' o rs,q∈(⟨W,τ⟩:Bc).all->q∈(⟨W,ρ'++yS G x.bs c2 a3 lb c1 acc a2 a1 br x.me qs rl ρ (vS L rx rd x.me m br o rs τ)⟩:Bc).all:=λρ' o rs hq=>Bt (Bt (ρ:=[_,_,_,_,_]) (Bt (up [_,_,_] o rs hq)))
 let r2:Rs:=⟨Ad (.ref x.me),Ad (.ref m),Ad (.ref c2),Ae,Ae,Ae,Ae⟩
 show T Γ D ⟨W,yS G x.bs c2 a3 lb c1 acc a2 a1 br x.me qs rl ρ (vS L rx rd x.me m br o r2 τ)⟩ _ _
 refine Ao (Dn (Cf (Bd (v:=.builtin "any") (by kernel_rfl) (by decide+kernel) (by decide) ⟨.inr (.inl ⟨_,rfl⟩),?_⟩)))
 refine Ai (tF (c:=124) (P:=122) (f:=λ_=>.none) (by decide) (by kernel_rfl) rfl hR.room (Ac (v:=.ref br) (by walk_at "mem") (Em (vs:=rl) (by walk_at "mem") λit₃=>?_)))
 refine⟨it₃,_,λσ=>((Ex.obj br,CO.list rl):Av)∈σ.all/\∀v∈rl,sJ σ v,rl,_,_,rfl,rfl,λA' hA=>⟨(Ey hA).weak λσ h=>h.1,Hc⟩,λσ ext h=>by exact⟨Bt h.1,λv hv=>(h.2 v hv).ext⟩,λA' C code σ v hA hv hσ hm=>?_,λga ρg hF=>?_⟩
 ·refine Jg (Dm (v:=v) hm (.head _) λo ho=>?_)
  obtain⟨sm,sd,b,t,e,h1,h2⟩:=hσ.2 v hv
  exact Vh (a:=.none) (ho.trans e) h1 h2 (uC Γ) (.inr (by show _∉[("leaf" :Str),"_mro"];decide)) ⟨rfl,rfl⟩
 have hF2:=hF D.in1 hhR hR.in1.room
 refine Ar λws₁ hw₁=>Age hhR hF2.1 hF2.2 ⟨by walk_at "mem",λv hv=>(hrl v hv).casesOn λs d b t e h1 h2=>⟨s,d,b,t,e,upS [] o r2 h1,upS [] o r2 h2⟩⟩ (λv hv=>.inl ?_) ?_ ws₁ hw₁
 ·obtain⟨_,_,e⟩:=Bq.mp hv
  exact e.symm
 refine Ac (v:=.ref rx) (by walk_at "mem") (Gx (by walk_at "mem") (by walk_at "upd") (by walk_at "set") (mJ Γ) ?_)
 refine Fh.go ?_
 have hfin:∀mro extra,eI G i x.bs mro extra->Jh (λv σ'=>v=.none/\Q (.ref rx) σ') .next ⟨W,extra++yS G x.bs c2 a3 lb c1 acc a2 a1 br x.me qs rl ρ (vS L rx rd x.me m br o ⟨Ad (.ref x.me),Ad (.ref m),Ad (.ref c2),Ad (.bool false),mro,Ae,Ae⟩ τ)⟩:=by
  intro mro extra hm
  have hq:=h rx rd c2 (extra++yS G x.bs c2 a3 lb c1 acc a2 a1 br x.me qs rl ρ (oA L rx x.me m (.ref br) o [])) mro (tree _).ext (hm.sub λ_ hp=>Ah _ hp)
  refine⟨_,Av.le_perm (Bf W ?_),rfl,hq⟩
  refine Bz.trans (Bz.of_eq ?_) (Zd _ _ (extra++yS G x.bs c2 a3 lb c1 acc a2 a1 br x.me qs rl ρ (oA L rx x.me m (.ref br) o [])) τ).symm
  simp only [yS,vS,oA,Ba,Hv,Fw]
 refine Ao (Hz (Au (Cf (Bd (v:=.builtin "len") (by kernel_rfl) (by decide+kernel) (by decide) ⟨.inr (.inl ⟨_,rfl⟩),?_⟩))))
 refine Ai (Ek (x:=x) nf hi (Qg Γ) (.tail _ (.tail _ (.tail _ (.head _)))) (Ac (v:=.ref x.me) (by walk_at "mem") ⟨rfl,rfl⟩) ?_)
 refine Ar (rW (hTup _) (by rw [Bb];lia) (Dh (Oc ⟨_,rfl,λhb=>?_,λhb=>?_⟩)))
 ·rw [Bb,beq_iff_eq]at hb
  obtain⟨b,hxb⟩:=List.length_eq_one_iff.mp (Int.ofNat.inj hb)
  obtain⟨y,sm,sd,ey,ev,es1,es2⟩:=hM.at' b (by rw [hxb];exact .head _)
  let r3:Rs:=⟨Ad (.ref x.me),Ad (.ref m),Ad (.ref c2),Ad (.bool false),Ae,Ae,Ae⟩
  refine Ao (Dn (En (Ic (Ai (Ac (v:=.ref x.me) (by walk_at "mem") (Ar ⟨by rw [Ay];exact Ce rfl,λl1=>?_⟩))))))
  refine Fo (Bh (Aq (v:=.ref m) rfl (by walk_at "mem") (Jg (Bh (Ek (x:=x) nf hi (Qg Γ) (.tail _ (.tail _ (.tail _ (.head _)))) (Ac (v:=.ref x.me) (by walk_at "mem") ⟨rfl,rfl⟩) (Dh (Gv<|Wf (hTup _) (v:=.ref y.me) (by decide) (by decide) (by rw [hxb,<-Bu ey];rfl) (Abi nf ey (Mg Γ) (.head _) (Td (upS [_] o r3 hM.d) ev ?_)))))))))
  refine(Pp (upS [_] o r3 es1) (upS [_] o r3 es2) (sX Γ) (by show _∉[("leaf" :Str),"_mro"];decide) ⟨.inl (by kernel_rfl),Ar λws hw=>?_⟩)
  refine(jA (vs:=Ap G y.ss) (hR.le (by decide)) (upS [_] o r3 es1) (upS [_] o r3 es2) (.of_mem (Pj (nf.st _ _ ey))) (by rw [Bb];have:=g.ss12 ey;lia) (λrr=>?_) ws hw).T
  intro u v hu hv
  refine Xe hu hv (vs:=[.ref x.me]) (us:=Ap G y.ss) (mI 1 rfl) (mI 0 rfl) (by rw [Bb,Br];have:=g.ss12 ey;lia) λc3=>?_
  refine Ac (v:=.ref rx) (by walk_at "mem") (Gx (by walk_at "mem") (by walk_at "upd") (by walk_at "set") (Vg Γ) ?_)
  refine Fh.go (Cq (Cq (hfin (Ad (.ref c3)) [_,_,_] (.one b c3 hxb rfl ?_))))
  rw [show Ap G (i::Gy G b)=[.ref x.me]++Ap G y.ss by rw [Wo ey,<-Bu hi];rfl]
  exact .head _
 ·rw [Bb]at hb
  exact Cq (Cq (hfin Ae [] (.no (λq=>by rw [q]at hb;cases hb) rfl)))
end
end
section
noncomputable def fQ (K:Frag) (C:Am) (name:Str) (f:Am):Bool:=Pu K (.ref C) "__getattribute__" ==Ad (Ad (.builtin "type.__getattribute__"))&&readsIn K C (.type "type")&&
 (match findCls K (.ref C) (.type "type") name with|Ad (.val v)=>v==.ref f|_=>false)
noncomputable def bK (K:Frag) (C:Am) (name:Str) (p f:Am):Bool:=Pu K (.ref C) "__getattribute__" ==Ad (Ad (.builtin "type.__getattribute__"))&&readsIn K C (.type "type")&&
 (match findCls K (.ref C) (.type "type") name with|Ad (.get g a _ tp)=>g==.builtin "staticmethod.__get__" &&a==.ref p&&tp==.ref C|_=>false)&&
 (match recIn K p "staticmethod" with|Ad (.ref f'::_)=>f'==f|_=>false)
section
variable {Γ:Bm} {A:Az} {σ:Bc} {env:Env}
set_option tactic.hygienic true in
theorem nS {C p f:Am} {name:Str} {ov:Ab} {pl:Sem Bool} {Q:Ab×List Ab->Bc->Prop} (ho:cl ov=.ref C) (hk:bK Γ.K C name p f=true) (h:Q (.ref f,[]) σ):T Γ A σ (Il ov name pl) Q:=λs R=>by
 have:=Ch ho
 subst this
 unfold bK at hk
 simp only [Dd,beq_iff_eq]at hk
 obtain⟨⟨⟨k1,k2⟩,k3⟩,k4⟩:=hk
 refine method_cls R.kin k1 ?_
 split at k3
 ·rename_i g a obj tp hf
  simp only [Dd,beq_iff_eq]at k3
  obtain⟨⟨rfl,rfl⟩,rfl⟩:=k3
  split at k4
  ·rename_i f' rest hr
   have:=beq_iff_eq.mp k4
   subst this
   refine cls_bind R.kin k2 hf (No (sm_get (s:={s with toks:=s.toks+1}) R.kin hr ?_))
   exact handed_on rfl ⟨σ,R.toks _,h⟩
  ·cases k4
 ·cases k3
set_option tactic.hygienic true in
theorem vN {C f:Am} {name:Str} {ov:Ab} {pl:Sem Bool} {Q:Ab×List Ab->Bc->Prop} (ho:cl ov=.ref C) (hk:fQ Γ.K C name f=true) (h:Q (.ref f,[]) σ):T Γ A σ (Il ov name pl) Q:=λs R=>by
 have:=Ch ho
 subst this
 unfold fQ at hk
 simp only [Dd,beq_iff_eq]at hk
 obtain⟨⟨k1,k2⟩,k3⟩:=hk
 refine method_cls R.kin k1 ?_
 split at k3
 ·rename_i v hf
  have:=beq_iff_eq.mp k3
  subst this
  exact cls_value R.kin k2 hf rfl ⟨σ,R.toks _,h⟩
 ·cases k3
theorem jK {C f:Am} {name:Str} {pl:Sem Bool} {Q:Ab×List Ab->Bc->Prop} (hk:fQ Γ.K C name f=true) (h:Q (.ref f,[]) σ):P1 Γ A (λo=>Il o name pl) Q (.ref C) σ:=λ_ ho=>vN (ho:=ho) (hk:=hk) (h:=h)
theorem aL {W τ:List Av} {pos:Pos} {Q:Ab->Bc->Prop} (h:∀a,Q (.ref a) ⟨W,(.obj a,.idict [])::τ⟩):T Γ A ⟨W,τ⟩ (Dv (.Dict [] [] pos) env) Q:=λs R=>
 wpAny_Dict_empty ⟨_,R.push (c:=.idict []) (s':={s with heap:=s.heap.push {cls:=.type "dict",data:=.dict #[]}}) (λ_ _ e=>An _ e) rfl rfl ⟨[],Cd.DictOf.new s.heap,rfl⟩,h _⟩
theorem yK {e₁ e₂:At} {pos:Pos} {Q:Ab->Bc->Prop}
  (h:T Γ A σ (Dv e₁ env) λc σ₁=>∀v,cl v=c->T Γ A σ₁ (Pl v) λb σ₂=>(b=true->Q c σ₂)/\(b=false->T Γ A σ₂ (Dv e₂ env) Q)):T Γ A σ (Dv (.BoolOp .Or [e₁,e₂] pos) env) Q:=λs R=>
 BoolOp_or (h.elim R λv s₁ σ₁ R₁ q₁=>(q₁ v rfl).elim R₁ λb s₂ σ₂ R₂ q₂=>by
  cases b with
  |true=>exact⟨σ₂,R₂,q₂.1 rfl⟩
  |false=>exact BoolOp_one (q₂.2 rfl s₂ R₂))
theorem Aal {e₁ e₂:At} {pos:Pos} {Q:Ab->Bc->Prop}
  (h:T Γ A σ (Dv e₁ env) λc σ₁=>∀v,cl v=c->T Γ A σ₁ (Pl v) λb σ₂=>(b=false->Q c σ₂)/\(b=true->T Γ A σ₂ (Dv e₂ env) Q)):T Γ A σ (Dv (.BoolOp .And [e₁,e₂] pos) env) Q:=λs R=>
 BoolOp_and (h.elim R λv s₁ σ₁ R₁ q₁=>(q₁ v rfl).elim R₁ λb s₂ σ₂ R₂ q₂=>by
  cases b with
  |false=>exact⟨σ₂,R₂,q₂.1 rfl⟩
  |true=>exact BoolOp_one (q₂.2 rfl s₂ R₂))
theorem xW {id kwn:Str} {p pos kpos:Pos} {a kwv:At} {rest:List At} {x:Sem Ab} {xs:List (Bool×Sem Ab)} {Q:Ab->Bc->Prop}
  (h:T Γ A σ (Dv (.Name id p) env) λc σ₁=>Qx Γ c/\T Γ A σ₁ (Na (backTo pos (Mq (a::rest) env))) λvs σ₂=>T Γ A σ₂ (Dv kwv env) λkv σ₃=>∀ws kw,ws.map cl=vs->cl kw=kv->T Γ A σ₃ (Iq c ws [(kwn,kw)]) Q)
  (hs:autoParam (backTo pos (Mq (a::rest) env)=(false,x)::xs) aR) (hp:autoParam (xs.any (·.1)=false) aR):T Γ A σ (Dv (.Call (.Name id p) (a::rest) [⟨Ad kwn,kwv,kpos⟩] pos) env) Q:=λs R=>
 wpAny_Call_ofName (h.elim R λf s₁ σ₁ R₁ ⟨hc,q⟩=>by
  have e:=Ys (f:=f) hc rfl
  rw [<-e]at hc q
  have hany:((backTo pos (Mq (a::rest) env)).any λx=>x.1)=false:=by rw [hs,Oz,hp];rfl
  refine callWith_of (P:=λh=>Γ.K.In h) (by rw [hany];rfl) (λh X=>Qx.keeps (Γ:=Γ) (s:={heap:=h}) hc X) ?_
  rw [hs]at q ⊢
  refine evalArgs_kw rfl (q.elim R₁ λvs s₂ σ₂ R₂ q₂=>?_)
  refine evalAll_cons (Af (q₂.elim R₂ λkw s₃ σ₃ R₃ q₃=>Af (Ev (Ax ?_))))
  refine evalAll_nil ⟨R₃.kin,?_⟩
  exact(q₃ vs kw rfl rfl).elim R₃ λ_ _ σ' R' q=>⟨σ',R',q⟩)
end
end
section
theorem yH (Γ:Bm):yR Γ.K 364=true/\yR Γ.K 427=true:=⟨by kernel_rfl,by kernel_rfl⟩
theorem xD (Γ:Bm):aV Γ.K 364 364=true/\aV Γ.K 364 427=true/\aV Γ.K 427 364=true/\aV Γ.K 427 427=true:=⟨by kernel_rfl,by kernel_rfl,by kernel_rfl,by kernel_rfl⟩
theorem mM (Γ:Bm):Γ.K.lookup 117=Ad ⟨.type "function",Ae,.func (Kh Γ 117 "C3.resolver" (clsStmt 8 0) (.ref 116) .none),#[]⟩:=by kernel_rfl
section
variable {Γ:Bm} {A:Az} {G:List Nd} {σ:Bc}
theorem wP {W τ:List Av} {s:Be} {i j:Nat} {x y:Nd} (nf:NF W G) (hu:A.units < cLine) (hi:G[i]? =Ad x) (hj:G[j]? =Ad y) (R:Eg Γ ⟨W,τ⟩ s):SeqAt.EqAt A s (.ref x.me) (.ref y.me) (x.me==y.me):=by
 by_cases e:x.me=y.me
 ·rw [e,beq_self_eq_true];exact SeqAt.EqAt.same _
 ·rw [beq_eq_false_iff_ne.mpr e]
  have k1:∀C,C=364\/C=427->yR Γ.K C=true:=λC h=>by rcases h with rfl|rfl;exact(yH Γ).1;exact(yH Γ).2
  refine mZ R (Pj (nf.inst _ _ hi)) (Pj (nf.inst _ _ hj)) e hu (k1 _ (nf.cls _ _ hi)) (k1 _ (nf.cls _ _ hj)) ?_
  obtain⟨a1,a2,a3,a4⟩:=xD Γ
  rcases nf.cls _ _ hi with h|h<;>rcases nf.cls _ _ hj with h'|h'<;>rw [h,h']<;>assumption
inductive Abb (G:List Nd) (σ:Bc) (p:Nat×Am):Prop
 |mk (y:Nd) (e:G[p.1]? =Ad y) (m:(.obj p.2,.tup [.ref y.me,.ref y.st])∈σ.all)
noncomputable abbrev pA:=List (Nat×Am)
noncomputable abbrev pA.vs (ps:pA):List Ab:=ps.map λp=>.ref p.2
structure eG (G:List Nd) (σ:Bc) (bs:List Nat) (ps:pA):Prop where
 e:ps.map (·.1)=bs
 at':∀p∈ps,Abb G σ p
theorem eG.sub {G:List Nd} {σ σ':Bc} {bs:List Nat} {ps:pA} (h:eG G σ bs ps) (k:∀q∈σ.all,q∈σ'.all):eG G σ' bs ps:=⟨h.e,λp hp=>(h.at' p hp).casesOn λy e m=>⟨y,e,k _ m⟩⟩
set_option tactic.hygienic true in
theorem Ry {v:Ab} {k:Int}:∀{kvs:List (Int×Ab)},Fq (Lr kvs k v) k=Ad v:=by
 intro kvs
 unfold Lr Fq
 split
 ·rename_i h
  rw [Hi]at h
  obtain⟨p,hp,hk⟩:=h
  induction kvs with
  |nil=>cases hp
  |cons q r ih=>
   simp only [Ck,Ho]
   by_cases hq:q.1=k
   ·simp [hq]
   ·simp only [hq,if_false,decide_false]
    rcases Cj.mp hp with rfl|hp
    ·exact absurd (of_decide_eq_true hk) hq
    ·exact ih hp
 ·rename_i h
  rw [List.find?_append]
  have:kvs.find? (λkv=>decide (kv.1=k))=Ae:=by
   rw [List.find?_eq_none]
   intro p hp hk
   exact h (Hi.mpr ⟨p,hp,hk⟩)
  rw [this];simp
set_option tactic.hygienic true in
theorem Rq {v:Ab} {k j:Int} (hj:j≠k):∀{kvs:List (Int×Ab)},Fq (Lr kvs k v) j=Fq kvs j:=by
 intro kvs
 unfold Lr Fq
 split
 ·induction kvs with
  |nil=>rfl
  |cons q r ih=>
   rename_i h
   simp only [Ck,Ho]
   by_cases hq:q.1=k
   ·have h1:¬q.1=j:=λe=>hj (by rw [<-e,hq])
    simp only [hq,if_true]
    have h2:¬k=j:=λe=>hj e.symm
    simp only [h2,decide_false]
    by_cases hr:(r.any λkv=>decide (kv.1=k))=true
    ·exact ih hr
    ·have:(r.map λkv=>if kv.1=k then(kv.1,v)else kv)=r:=by
      rw [Gk (g:=id) (λp hp=>?_),List.map_id]
      have:p.1≠k:=λe=>hr (Hi.mpr ⟨p,hp,decide_eq_true e⟩)
      rw [if_neg this];rfl
     rw [this]
   ·simp only [hq,if_false]
    by_cases hqj:q.1=j
    ·simp [hqj]
    ·simp only [hqj,decide_false]
     rw [Oz,decide_eq_false hq,Bool.false_or]at h
     exact ih h
 ·rw [List.find?_append]
  have h2:¬k=j:=λe=>hj e.symm
  simp [h2]
end
end
section
theorem Vo (es:List (Int×Ab)) (k:Int) (v:Ab):(Lr es k v).length<=es.length+1:=by
 unfold Lr;split<;>simp
section
variable {Γ:Bm} {A:Az} {G:List Nd} {σ:Bc}
noncomputable abbrev sL (L:Am) (me bm m:Am) (o₁ o₂:Option Ab) (τ:List Av):List Av:=
 (.var L "C",.val (Ad (.ref me)))::(.var L "strict",.val (Ad (.bool false)))::(.var L "base_mros",.val (Ad (.ref bm)))::(.var L "memo",.val (Ad (.ref m)))::(.var L "base",.val o₁)::(.var L "mro",.val o₂)::τ
theorem uI {G:List Nd} (g:Gr G) {i j:Nat} {x y:Nd} (hi:G[i]? =Ad x) (hj:G[j]? =Ad y) (h:i≠j):x.key≠y.key:=λe=>h (g.key_inj (Al.mp hi).1 (Al.mp hj).1 (by rw [Gj hi,Gj hj,e]))
noncomputable abbrev Yc (L:Am):Env:=Gs "C3.resolver" (fScope (clsStmt 8 0)) L 117 (.ref 116) []
structure Aja where
 es:List (Int×Ab)
 o₁:Option Ab
 o₂:Option Ab
 ρ:List Av
noncomputable abbrev pC (L me bm m:Am) (ρ₀:List Av) (z:Aja) (τ:List Av):List Av:=z.ρ++(ρ₀++((.obj m,.idict z.es)::sL L me bm m z.o₁ z.o₂ τ))
theorem nG {W τ:List Av} {i:Nat} {x:Nd} {bm:Am} {ps:pA} {Q:Ab->Bc->Prop} (nf:NF W G) (g:Gr G) (hA:Rm A 4) (hh:A.handled=Ae) (hi:G[i]? =Ad x) (hb:(.obj bm,.list ps.vs)∈(⟨W,τ⟩:Bc).all) (hp:eG G ⟨W,τ⟩ x.bs ps)
  (h:∀rx rd a m ρ mro,Sr G ⟨[],ρ⟩ a (Sf G i)->eI G i x.bs mro ρ->
   Q (.ref rx) ⟨W,(.obj rd,.ns (Rs.ns ⟨Ad (.ref x.me),Ad (.ref m),Ad (.ref a),Ad (.bool false),mro,Ae,Ae⟩))::(.obj rx,.inst 204 rd)::(ρ++τ)⟩):∀ws,ws.map cl=[.ref x.me,.none,.ref bm]->TC Γ A ⟨W,τ⟩ (.ref 117) ws [] Q:=λws hw=>by
 refine Pk (body:=fBody (clsStmt 8 0)) (bs:=[("C",.ref x.me),("strict",.none),("base_mros",.ref bm)]) ["C","strict","base_mros","memo","base","mro"] (mM Γ) (by kernel_rfl) hA.room (Hb.plain3 λ_ _ _ _=>Cm (by rfl)) (λL=>?_) (by rfl) (by rfl) (by decide) (by rfl) (by rfl) (by rfl) ws [] hw rfl
 show T Γ (A.deeper (Yc L)) ⟨W,(.var L "C",.val (Ad (.ref x.me)))::(.var L "strict",.val (Ad .none))::(.var L "base_mros",.val (Ad (.ref bm)))::(.var L "memo",.val Ae)::(.var L "base",.val Ae)::(.var L "mro",.val Ae)::τ⟩ (Cs _ (Yc L)) _
 have hA':Rm (A.deeper (Yc L)) 3:=hA.deeper
 have hhD:(A.deeper (Yc L)).handled=Ae:=hh
 generalize A.deeper (Yc L)=D at *
 have hun:D.in1.units < cLine:=by have:=(hA'.in1).units;lia
 have hbs12:ps.length<=12:=by
  have:=g.bs12 hi
  rw [<-hp.e,As]at this
  exact this
 have hblt:∀b∈x.bs,b < G.length:=λb hb=>Jo ((g.bs _ _ hi).2 b hb) (Al.mp hi).1
 refine Ao (Bo (Qi (Au (Ac (v:=.none) (by walk_at "mem") (Ka (Kz (by rfl) ⟨_,rfl,λhb=>(by cases hb),λ_=>Yg ⟨_,_,by walk_at "upd",?_⟩⟩))))))
 refine Fh.go ?_
 refine Ao (Bo (aL λm=>⟨_,_,by walk_at "upd",?_⟩))
 refine Fh.go ?_
 have rest:∀bm':Am,∀ρ₀:List Av,(∀ρ z,(Ex.obj bm',CO.list ps.vs)∈(⟨W,ρ++pC L x.me bm' m ρ₀ z τ⟩:Bc).all)->T Γ D ⟨W,pC L x.me bm' m ρ₀ ⟨[],Ae,Ae,[]⟩ τ⟩ (Cs ((fBody (clsStmt 8 0)).drop 3) (Yc L)) (Jh Q):=by
  intro bm' ρ₀ hb'
  have up:∀{q} ρ z,q∈(⟨W,τ⟩:Bc).all->q∈(⟨W,ρ++pC L x.me bm' m ρ₀ z τ⟩:Bc).all:=λρ z hq=>Bt (Bt (Bt (Bt (ρ:=[_,_,_,_,_,_,_]) hq)))
  refine Ao (Sh (Ac (v:=.ref bm') (by walk_at "mem") (Em (vs:=ps.vs) (hb' [] ⟨[],Ae,Ae,[]⟩) λit=>?_)))
  refine⟨λp:Nat×Am=>.ref p.2,ps,it,_,_,λ_ _=>W,λ_ z=>pC L x.me bm' m ρ₀ z τ,λa z=>z.es.length<=a.length/\∀p∈a,tG G ⟨[],z.ρ⟩ z.es p.1,⟨[],Ae,Ae,[]⟩,⟨rfl,rfl,Ey hhD⟩,⟨Cb _,λ_ h=>nomatch h⟩,λ_ z _=>hb' [] z,λa p b u ρ z e1 hu hz K hK=>?_,λz hz=>?_⟩
  ·have hpm:p∈ps:=by rw [e1];exact Aa _ (.head _)
   obtain⟨y,ey,hy⟩:=hp.at' p hpm
   have hmem:p.1∈x.bs:=hp.e▸Cz hpm
   have hal:a.length+1<=12:=by rw [e1,Aj,Fy]at hbs12;lia
   refine Xo hhD hu (.of_mem (up ρ z hy)) (by walk_at "upd") (by walk_at "upd") ?_
   refine Ao (vO (Au (Ac (v:=.ref y.me) (by walk_at "mem") (Ek (x:=x) nf hi (Qg Γ) (.tail _ (.tail _ (.tail _ (.head _)))) (Ac (v:=.ref x.me) (by walk_at "mem") ⟨rfl,rfl⟩) λu v hu₂ hv=>dX hu₂ hv ((nf.bt _ _ hi).tup) (λz hz=>?_) ⟨_,rfl,?_,?_⟩))))
   ·obtain⟨j,hj,e⟩:=Bq.mp hz
    obtain⟨z',ez⟩:=Dp (hblt j hj)
    exact⟨z'.me,by rw [<-e,Bu ez],λs R=>wP nf hun ez ey R⟩
   ·rw [Hi]
    exact⟨.ref y.me,Bq.mpr ⟨_,hmem,by rw [Bu ey]⟩,beq_self_eq_true _⟩
   refine Fh.go ?_
   refine Ao (Lg (Cf (Bn (v:=.ref 86) (by kernel_rfl) ⟨.inl (by kernel_rfl),?_⟩)))
   refine Ai (Ac (v:=.ref y.me) (by walk_at "mem") (Ai (Ac (v:=.ref y.st) (by walk_at "mem") (Ar λws hw=>?_))))
   refine(uW (hA'.le (by decide)) (vs:=Ap G y.ss) (.of_mem (Pj (nf.st _ _ ey))) (λsx sd=>?_) ws hw).T
   refine Ac (v:=.ref m) (by walk_at "mem") (Ek (x:=y) nf ey (Mg Γ) (.head _) (Ac (v:=.ref y.me) (by walk_at "mem") ⟨rfl,rfl⟩) λv ov iv hv ho hi'=>Qr ho hi' hv (by walk_at "upd") (by rw [Ay];have:=hz.1;lia) ?_)
   refine Fh.go (Cq (hK .next _ ⟨W,(.obj sd,.ns (eD y.me y.st))::(.obj sx,.inst 86 sd)::(z.ρ++(ρ₀++((.obj m,.idict (Lr z.es y.key (.ref sx)))::sL L x.me bm' m (Ad (.ref y.me)) (Ad (.ref y.st)) τ))),Av.le_perm (Bf W (Zd _ _ _ _)),⟨Lr z.es y.key (.ref sx),Ad (.ref y.me),Ad (.ref y.st),(.obj sd,.ns (eD y.me y.st))::(.obj sx,.inst 86 sd)::z.ρ⟩,rfl,?_,λq hq=>?_⟩))
   ·rw [Aj]
    exact Ca (Vo _ _ _) (Jx hz.1)
   ·by_cases e:q.1=p.1
    ·rw [e]
     exact⟨y,sx,sd,ey,Ry,.tail _ (.head _),.head _⟩
    ·have hqa:q∈a:=(Ak.mp hq).elim id λh=>absurd (by rw [Bi.mp h]) e
     obtain⟨z',s',sd',e1,e2,e3,e4⟩:=hz.2 q hqa
     exact⟨z',s',sd',e1,by rw [Rq (uI g e1 ey e)];exact e2,.tail _ (.tail _ e3),.tail _ (.tail _ e4)⟩
  ·refine Cq ?_
   refine Fh.go ?_
   refine Ao (Hz (Eo (Ac (v:=.bool false) (by walk_at "mem") (Fi ⟨λh=>(by cases h),λ_=>?_⟩))))
   refine Cq ?_
   refine Fh.go ?_
   refine Ao (Fp (Cf (Bn (v:=.ref 204) (by kernel_rfl) ⟨.inl (by kernel_rfl),?_⟩)))
   refine Ai (Ac (v:=.ref x.me) (by walk_at "mem") (Ai (Ac (v:=.ref m) (by walk_at "mem") (Ar λws hw=>?_))))
   refine(vC nf g hA' hhD hi (es:=z.es) ⟨by walk_at "mem",λb hb=>?_⟩ (λrx rd a ρ₂ mro tr hm=>?_) ws hw).T
   ·rw [<-hp.e]at hb
    obtain⟨p,hpm,e⟩:=Bq.mp hb
    rw [<-e]
    obtain⟨y,s',sd',e1,e2,e3,e4⟩:=hz.2 p hpm
    exact⟨y,s',sd',e1,e2,Ag (Ah _ e3),Ag (Ah _ e4)⟩
   ·refine⟨_,Av.le_of_eq ?_,h rx rd a m (ρ₂++pC L x.me bm' m ρ₀ z []) mro (tr.sub λp hp=>Ag (Ah _ hp)) (hm.sub λ_ hp=>Ah _ hp)⟩
    simp only [pC,sL,Ba,Hv,Fw]
 refine Ao (Bo (yK (Ac (v:=.ref bm) (by walk_at "mem") (Pa (vs:=ps.vs) (by walk_at "memo") (by rw [As];lia) ⟨λ_=>⟨_,_,by walk_at "upd",?_⟩,λhb=>Ic (Ar ⟨by rw [Ay];exact Cg _,λe=>⟨_,_,by walk_at "upd",?_⟩⟩)⟩))))
 ·exact Fh.go (rest bm [] λρ z=>Bt (Bt (Bt (ρ:=[_,_,_,_,_,_,_]) hb)))
 ·have:ps=[]:=by
   cases ps with
   |nil=>rfl
   |cons _ _=>cases hb
  exact Fh.go (rest e [(.obj e,.list [])] λρ z=>by rw [this];exact Bt (Bt (Ag (.head _))))
end
end
section
theorem Aib (Γ:Bm):Γ.K.lookup 242=Ad ⟨.type "function",Ae,.func (Kh Γ 242 "ro" (topStmt 10) (.ref 241) (.ref 235)),#[]⟩:=by kernel_rfl
theorem cU (Γ:Bm):bK Γ.K 204 "resolver" 119 117=true:=by kernel_rfl
theorem wW (Γ:Bm):Ss Γ.K 204 "mro" 201=true:=by kernel_rfl
theorem wR {kws:List (Str×Ab)} {k:Str} {c:Ab} (h:kws.map (λp:Str×Ab=>(p.1,cl p.2))=[(k,c)]):∃v,kws=[(k,v)]/\cl v=c:=by
 cases kws with
 |nil=>cases h
 |cons p r=>
  cases r with
  |nil=>obtain⟨a,v⟩:=p;simp at h;exact⟨v,by rw [h.1],h.2⟩
  |cons _ _=>simp at h
noncomputable def Zf (G:List Nd) (i:Nat) (ks:List Nat):Prop:=
 ((∀k∈ks,k=i\/k∈Ge G i\/∃b∈Ge G i,k∈Gy G b)/\∀k,(k=i\/∃b∈Ge G i,k∈Gy G b)->k∈ks)\/∀k,k∈ks↔Ia G i k
theorem iQ {G:List Nd} {i k:Nat}:(∃l∈Sf G i,k∈l)↔k=i\/k∈Ge G i\/∃b∈Ge G i,k∈Gy G b:=by
 unfold Sf
 constructor
 ·rintro⟨l,hl,hk⟩
  rcases Ak.mp hl with h|h
  ·rcases Ak.mp h with h|h
   ·rw [Bi]at h
    subst h
    exact .inl (Bi.mp hk)
   ·obtain⟨b,hb,rfl⟩:=Bq.mp h
    exact .inr (.inr ⟨b,hb,hk⟩)
  ·rw [Bi]at h
   subst h
   exact .inr (.inl hk)
 ·rintro(rfl|h|⟨b,hb,h⟩)
  ·exact⟨[k],by simp,by simp⟩
  ·exact⟨Ge G i,by simp,h⟩
  ·exact⟨Gy G b,by simp;exact .inr (.inl ⟨b,hb,rfl⟩),h⟩
set_option tactic.hygienic true in
theorem Gr.ss_len {G:List Nd} (g:Gr G) (b:Nat):(Gy G b).length<=12/\(∀k∈Gy G b,k < G.length)/\(Gy G b).Nodup:=by
 unfold Gy
 split
 ·rename_i y e
  have h1:=g.ss b y e
  exact⟨Ca (Go _ _ h1.1 h1.2) g.few,h1.2,h1.1⟩
 ·exact⟨Cg _,λ_ h=>(by cases h),.nil⟩
theorem oI {G:List Nd} (g:Gr G) {i:Nat} (hi:i < G.length):(∀l∈Sf G i,l.length<=1000/\∀k∈l,k < G.length)/\(Sf G i).length<=1000:=by
 have h12:(Ge G i).length<=12:=Ca (Go G.length _ (g.bs_nodup i) λb hb=>Jo (g.bs_lt hb) hi) g.few
 refine⟨λl hl=>?_,by simp [Sf];lia⟩
 unfold Sf at hl
 rcases Ak.mp hl with h|h
 ·rcases Ak.mp h with h|h
  ·rw [Bi]at h
   subst h
   exact⟨by simp,λk hk=>by rw [Bi.mp hk];exact hi⟩
  ·obtain⟨b,hb,rfl⟩:=Bq.mp h
   have:=g.ss_len b
   exact⟨by lia,this.2.1⟩
 ·rw [Bi]at h
  subst h
  exact⟨by lia,λb hb=>Jo (g.bs_lt hb) hi⟩
section
variable {Γ:Bm} {A:Az} {G:List Nd} {σ:Bc}
noncomputable abbrev Yb (L:Am) (me bm:Am) (o₁ o₂ o₃:Option Ab) (τ:List Av):List Av:=
 (.var L "C",.val (Ad (.ref me)))::(.var L "strict",.val (Ad .none))::(.var L "base_mros",.val (Ad (.ref bm)))::(.var L "log_changed_ro",.val (Ad .none))::(.var L "use_legacy_ro",.val (Ad .none))::(.var L "resolver",.val o₁)::(.var L "mro",.val o₂)::(.var L "use_legacy",.val o₃)::τ
theorem Aie {W τ:List Av} {i:Nat} {x:Nd} {bm:Am} {ps:pA} {Q:Ab->Bc->Prop} (nf:NF W G) (g:Gr G) (J:pB G) (hA:Rm A 9) (hh:A.handled=Ae) (hF:AF A ⟨W,τ⟩) (hi:G[i]? =Ad x) (hb:(.obj bm,.list ps.vs)∈(⟨W,τ⟩:Bc).all) (hp:eG G ⟨W,τ⟩ x.bs ps)
  (low:∀b∈x.bs,∀k∈Gy G b,k < i)
  (h:∀r ρ ks,ks.Nodup->(∀k∈ks,k < G.length)->Zf G i ks->(.obj r,.list (Ap G ks))∈ρ->Q (.ref r) ⟨W,ρ++τ⟩):∀ws kw,ws.map cl=[.ref x.me]->cl kw=.ref bm->TC Γ A ⟨W,τ⟩ (.ref 242) ws [("base_mros",kw)] Q:=λws kw hw hkw=>by
 have hil:=(Al.mp hi).1
 refine Pk (body:=fBody (topStmt 10)) (kw:=[("base_mros",.ref bm)]) (bs:=[("C",.ref x.me),("strict",.none),("base_mros",.ref bm),("log_changed_ro",.none),("use_legacy_ro",.none)]) ["C","strict","base_mros","log_changed_ro","use_legacy_ro","resolver","mro","use_legacy"] (Aib Γ) (by kernel_rfl) hA.room ?_ (λL=>?_) (by rfl) (by rfl) (by decide) (by rfl) (by rfl) (by rfl) ws _ hw (by simp [hkw])
 ·intro ws kws hw hk
  obtain⟨w,rfl,e⟩:=Iz hw
  obtain⟨v,rfl,e2⟩:=wR hk
  exact⟨[("C",w),("strict",.none),("base_mros",v),("log_changed_ro",.none),("use_legacy_ro",.none)],by simp [e,e2],λs X=>kp_binds X λS=>by kernel_rfl⟩
 show T Γ (A.deeper (Gs "ro" (fScope (topStmt 10)) L 242 (.ref 241) [])) ⟨W,Yb L x.me bm Ae Ae Ae τ⟩ (Cs _ (Gs "ro" (fScope (topStmt 10)) L 242 (.ref 241) [])) _
 have hA':Rm (A.deeper (Gs "ro" (fScope (topStmt 10)) L 242 (.ref 241) [])) 8:=hA.deeper
 refine Ao (Bo (Fo (Bn (v:=.ref 204) (by kernel_rfl) λov hov=>nS hov (cU Γ) ⟨.inl (by kernel_rfl),?_⟩)))
 refine Ai (Ac (v:=.ref x.me) (by walk_at "mem") (Ai (Ac (v:=.none) (by walk_at "mem") (Ai (Ac (v:=.ref bm) (by walk_at "mem") (Ar λws hw=>?_))))))
 refine(nG nf g (hA'.le (by decide)) hh hi (by walk_at "memo") (hp.sub (σ':=⟨W,Yb L x.me bm Ae Ae Ae τ⟩) λ_ hq=>Bt (ρ:=[_,_,_,_,_,_,_,_]) hq) (λrx rd a m ρ mro tr hm=>?_) ws hw).T
 refine⟨_,_,by walk_at "upd",?_⟩
 refine Fh.go ?_
 have hbs:=Qh hi
 have fin:∀(r:Am) (ρ₂:List Av) (ks:List Nat) (rs':Rs),ks.Nodup->(∀k∈ks,k < G.length)->Zf G i ks->T Γ (A.deeper (Gs "ro" (fScope (topStmt 10)) L 242 (.ref 241) [])) ⟨W,(.obj r,.list (Ap G ks))::(ρ₂++((.obj rd,.ns rs'.ns)::(.obj rx,.inst 204 rd)::(ρ++Yb L x.me bm (Ad (.ref rx)) (Ad (.ref r)) Ae τ)))⟩
   (Cs ((fBody (topStmt 10)).drop 2) (Gs "ro" (fScope (topStmt 10)) L 242 (.ref 241) [])) (Jh Q):=by
  intro r ρ₂ ks rs' h1 h2 h3
  refine Ao (Bo (Qi (Au (Ac (v:=.none) (by walk_at "mem") (Ka (Kz (by rfl) ⟨_,rfl,λhb=>(by cases hb),λ_=>Yg ⟨_,_,by walk_at "upd",?_⟩⟩))))))
  refine Fh.go ?_
  refine Ao (Hz (Eo (Ac (v:=.bool false) (by walk_at "mem") (Fi ⟨λh=>(by cases h),λ_=>?_⟩))))
  refine Cq ?_
  refine Fh.go ?_
  refine Ao (Fp (Ac (v:=.ref r) (by walk_at "mem") ?_))
  have:=h r ((.obj r,.list (Ap G ks))::(ρ₂++((.obj rd,.ns rs'.ns)::(.obj rx,.inst 204 rd)::(ρ++Yb L x.me bm (Ad (.ref rx)) (Ad (.ref r)) (Ad (.bool false)) [])))) ks h1 h2 h3 (.head _)
  exact⟨_,Av.le_refl _,by simpa [Yb]using this⟩
 let rs:Rs:=⟨Ad (.ref x.me),Ad (.ref m),Ad (.ref a),Ad (.bool false),mro,Ae,Ae⟩
 let τ':Rs->List Av:=λr=>(.obj rd,.ns r.ns)::(.obj rx,.inst 204 rd)::(ρ++Yb L x.me bm (Ad (.ref rx)) Ae Ae τ)
 refine Ao (Bo (Fo (Ac (v:=.ref rx) (by walk_at "mem") (Pp (x:=rx) (C:=204) (d:=rd) (m:=rs.ns) (by walk_at "mem") (by walk_at "mem") (wW Γ) (by show _∉Tv;decide) ⟨.inl (by kernel_rfl),Ar λws hw=>?_⟩))))
 rcases hm with⟨hne,rfl⟩|⟨b,t,hxb,rfl,hmem⟩
 ·have hFt:∀r,AF (A.deeper (Gs "ro" (fScope (topStmt 10)) L 242 (.ref 241) [])) ⟨W,τ' r⟩:=λr=>hF.push rfl rfl (L:=L) (x:="C") (c:=Ad (.ref x.me)) (by walk_at "mem") λp hp=>.tail _ (.tail _ (Aa _ (by simp [hp])))
  refine(Aad (τ':=τ') (rs:=rs) (a:=a) (ls:=Sf G i) nf g J (hA'.le (by decide)) hh hFt (λr=>Ag (.tail _ (.head _))) (λr₁ r₂=>.here) rfl (by rw [Bu hi]) hil rfl rfl (λr=>tr.sub λp hp=>Ag (.tail _ (.tail _ (Ah _ (by rcases Ak.mp hp with h|h;cases h;exact h))))) (oI g hil).1 (oI g hil).2 (λr ρ₂ ks rs' h1 h2 h3=>?_) ws hw).T
  refine⟨_,_,by walk_at "upd",?_⟩
  refine Fh.go (fin r ρ₂ ks rs' h1 h2 ?_)
  rcases h3 with h3|h3
  ·exact .inl ⟨λk hk=>iQ.mp ((h3 k).mp hk),λk hk=>(h3 k).mpr (iQ.mpr (hk.imp id .inr))⟩
  ·exact .inr h3
 ·have hsl:=g.ss_len b
  have hb':Ge G i=[b]:=by rw [hbs,hxb]
  refine(Aac (rs:=rs) (t:=t) (vs:=Ap G (i::Gy G b)) (hA'.le (by decide)) (Ag (.tail _ (.head _))) (Ag (.head _)) rfl (Ag (.tail _ (.tail _ (Ah _ hmem)))) (by rw [Bb];simp;lia) (λr=>?_) ws hw).T
  refine⟨_,_,by walk_at "upd",?_⟩
  refine Fh.go (fin r [] (i::Gy G b) rs ?_ ?_ ?_)
  ·rw [Fe]
   exact⟨λhk=>Nat.lt_irrefl _ (low b (by rw [hxb];exact .head _) i hk),hsl.2.2⟩
  ·intro k hk
   rcases Cj.mp hk with rfl|hk
   ·exact hil
   ·exact hsl.2.1 k hk
  ·refine .inl ⟨λk hk=>?_,λk hk=>?_⟩
   ·rcases Cj.mp hk with rfl|hk
    ·exact .inl rfl
    ·exact .inr (.inr ⟨b,by rw [hb'];exact .head _,hk⟩)
   ·rcases hk with rfl|⟨b',hb'',hk⟩
    ·exact .head _
    ·rw [hb',Bi]at hb''
     subst hb''
     exact .tail _ hk
end
end
section
theorem zX (Γ:Bm):Γ.K.lookup 313=Ad ⟨.type "function",Ae,.func (Kh Γ 313 "Specification._calculate_sro" (clsStmt 13 5) (.ref 312) .none),#[]⟩:=by kernel_rfl
noncomputable def aF:List Str:=["key","_ROOT","_dependents","bases","_implied","iro","sro","declared","inherit"]
noncomputable abbrev aO (Γ:Bm) (name:Str) (f:Am):Prop:=Ss Γ.K 364 name f=true/\Ss Γ.K 427 name f=true
theorem aO.of {Γ:Bm} {name:Str} {f:Am} (k:aO Γ name f) {C:Am} (h:C=364\/C=427):Ss Γ.K C name f=true:=by rcases h with rfl|rfl;exact k.1;exact k.2
noncomputable def Wj (G:List Nd) (i:Nat):Ab:=if i=0 then .none else .ref (Gd G 0)
noncomputable def fS (G:List Nd):Prop:=∀(i:Nat) (x:Nd),G[i]? =Ad x->x.root=Wj G i
noncomputable def Vy (G:List Nd) (i:Nat) (ks:List Nat):Prop:=∃ks₀,Zf G i ks₀/\∀k,k∈ks↔k∈ks₀\/k=0
theorem Zf.self {G:List Nd} {i:Nat} {ks:List Nat} (h:Zf G i ks):i∈ks:=by
 rcases h with h|h
 ·exact h.2 i (.inl rfl)
 ·exact(h i).mpr (.refl i)
section
variable {Γ:Bm} {A:Az} {G:List Nd} {σ:Bc}
theorem xQ {name:Str} {W τ:List Av} {i:Nat} {x:Nd} {f:Am} {ov:Ab} {pl:Sem Bool} {Q:Ab×List Ab->Bc->Prop} (nf:NF W G) (hi:G[i]? =Ad x) (ho:cl ov=.ref x.me) (k:aO Γ name f) (h:Q (.ref f,[.ref x.me]) ⟨W,τ⟩) (hm:autoParam (name∉aF) aD):T Γ A ⟨W,τ⟩ (Il ov name pl) Q:=
 Uc ho (Pj (nf.inst i x hi)) (Pj (nf.ns i x hi)) (k.of (nf.cls i x hi)) hm h
theorem Pe {name:Str} {W τ:List Av} {i:Nat} {x:Nd} {f:Am} {pl:Sem Bool} {Q:Ab×List Ab->Bc->Prop} (nf:NF W G) (hi:G[i]? =Ad x) (k:aO Γ name f) (h:Q (.ref f,[.ref x.me]) ⟨W,τ⟩) (hm:autoParam (name∉aF) aD):P1 Γ A (λo=>Il o name pl) Q (.ref x.me) ⟨W,τ⟩:=λ_ ho=>xQ (nf:=nf) (hi:=hi) (ho:=ho) (k:=k) (h:=h) (hm:=hm)
theorem Afl {x:At} {pos:Pos} {env:Env} {Q:Ab->Bc->Prop} (h:T Γ A σ (Dv x env) λc σ₁=>∃a,c=.int a 0/\Q (.int (-a) 0) σ₁):T Γ A σ (Dv (.UnaryOp .USub x pos) env) Q:=λs R=>
 wpAny_UnaryOp (h.elim R λv s₁ σ₁ R₁ ⟨a,e,q⟩=>by
  obtain⟨t,rfl⟩:=Fb e
  exact PyProof.Rows.neg_int ⟨σ₁,R₁.toks _,q⟩)
noncomputable abbrev Vx (L:Am):Env:=Gs "Specification._calculate_sro" (fScope (clsStmt 13 5)) L 313 (.ref 312) [("root",L+1)]
noncomputable abbrev fM (L me:Am) (o₁ o₂:Option Ab) (τ:List Av):List Av:=(.obj (L+1),.cell o₁)::(.var L "self",.val (Ad (.ref me)))::(.var L "sro",.val o₂)::τ
theorem uQ {l:List Nat} {j:Nat} (h:j≠0):(l++[j]).filter (λk=>k != 0)=l.filter (λk=>k != 0)++[j]:=by
 rw [Ff,Gq,if_pos (bne_iff_ne.mpr h)]
 rfl
theorem xE {l:List Nat} {j:Nat} (h:j=0):(l++[j]).filter (λk=>k != 0)=l.filter (λk=>k != 0):=by
 rw [Ff,h]
 exact Cr _
theorem Aag {W τ:List Av} {i:Nat} {x:Nd} {Q:Ab->Bc->Prop} (nf:NF W G) (g:Gr G) (J:pB G) (ro:fS G) (hA:Rm A 10) (hh:A.handled=Ae) (hF:AF A ⟨W,τ⟩) (hi:G[i]? =Ad x)
  (low:∀b∈x.bs,∀k∈Gy G b,k < i)
  (h:∀r ρ ks,ks.Nodup->(∀k∈ks,k < G.length)->Vy G i ks->(.obj r,.list (Ap G ks))∈ρ->Q (.ref r) ⟨W,ρ++τ⟩):∀ws,ws.map cl=[.ref x.me]->TC Γ A ⟨W,τ⟩ (.ref 313) ws [] Q:=λws hw=>by
 have hil:=(Al.mp hi).1
 have hbs12:=g.bs12 hi
 refine Wm (body:=fBody (clsStmt 13 5)) (bs:=[("self",.ref x.me)]) ["self","sro"] (zX Γ) (by kernel_rfl) hA.room (Hb.plain1 λ_ _=>Cm (by rfl)) (λL=>?_) (by rfl) (by decide) (by decide) (by rfl) (by rfl) (by rfl) ws [] hw rfl
 show T Γ (A.deeper (Vx L)) ⟨W,fM L x.me Ae Ae τ⟩ (Cs _ (Vx L)) _
 have hA':Rm (A.deeper (Vx L)) 9:=hA.deeper
 have hhD:(A.deeper (Vx L)).handled=Ae:=hh
 have hFt:∀(ρ:List Av) o₁ o₂,AF (A.deeper (Vx L)) ⟨W,ρ++fM L x.me o₁ o₂ τ⟩:=λρ o₁ o₂=>hF.push rfl rfl (L:=L) (x:="self") (c:=Ad (.ref x.me)) (Ag (Aa _ (mL 1 rfl))) λp hp=>Aa _ (Aa [_,_,_] hp)
 generalize A.deeper (Vx L)=D at *
 refine Ao (Bo (xW (Bn (v:=.ref 242) (by kernel_rfl) ⟨.inl (by kernel_rfl),?_⟩)))
 refine Ai (Ac (v:=.ref x.me) (mI 1 rfl) (Ar ?_))
 refine Wr (Ek (x:=x) nf hi (Qg Γ) (.tail _ (.tail _ (.tail _ (.head _)))) (Ac (v:=.ref x.me) (mI 1 rfl) ⟨rfl,rfl⟩) (Hl (vs:=Ap G x.bs) ((nf.bt _ _ hi).tup) λit=>?_))
 refine⟨λj=>.ref (Gd G j),x.bs,it,_,_,λ_ _=>W,λ_ z=>z.2++fM L x.me Ae Ae τ,λ_ z=>pA.vs z.1,λa z=>eG G ⟨[],z.2⟩ a z.1,(([]:pA),([]:List Av)),⟨rfl,rfl,Hj (vs:=Ap G x.bs) hhD⟩,Rc,⟨rfl,λ_ h=>nomatch h⟩,rfl,
  λ_ _ _ _=>(nf.bt _ _ hi).tup,λa b z e hJ=>?_,λC acc a j b ρ z e hJ=>?_,λacc z hJ=>?_⟩
 ·have e1:=congrArg Ii hJ.e
  rw [As]at e1
  rw [e,Aj]at hbs12
  rw [As,e1,Ay]
  lia
 ·obtain⟨y,ey⟩:=Dp (Jo ((g.bs _ _ hi).2 j (by rw [e];exact Aa _ (.head _))) hil)
  rw [Bu ey]
  refine Qd ⟨λ_=>?_,λhb=>(by cases hb)⟩
  refine Kr (Ai (Dm (v:=.ref y.me) (Ag (Aa _ (.head _))) (.head _) (Ai (Ek (x:=y) nf ey (Aed Γ) (mL 6 rfl) (Dm (v:=.ref y.me) (Ag (Aa _ (.head _))) (.head _) ⟨rfl,rfl⟩) (Ar ⟨by rw [Ay];exact Ce rfl,λt=>?_⟩)))))
  refine⟨W,(.obj t,.tup [.ref y.me,.ref y.st])::(z.2++fM L x.me Ae Ae τ),Ad (.ref y.me),Av.le_perm (Bf W (bD _ _ _ _ _)),(z.1++[(j,t)],(.obj t,.tup [.ref y.me,.ref y.st])::z.2),rfl,?_,?_,λp hp=>?_⟩
  ·exact(Bk (l₁:=z.1) (l₂:=[(j,t)])).symm
  ·rw [Bk,hJ.e]
   rfl
  ·rcases Ak.mp hp with h|h
   ·exact(hJ.at' p h).casesOn λy e m=>⟨y,e,.tail _ m⟩
   ·rw [Bi.mp h]
    exact⟨y,ey,.head _⟩
 generalize z.2=ρ at *
 generalize z.1=ps at *
 intro ws kw hws hkw
 refine(Aie (bm:=acc) (ps:=ps) nf g J hA' hhD (hFt ((.obj acc,.list (pA.vs ps))::ρ) Ae Ae) hi Bv (hJ.sub λ_ hq=>Ag (.tail _ (Ah _ hq))) low (λr ρ₂ ks h1 h2 h3 h4=>?_) ws kw hws hkw).T
 rw [show ρ₂++(((.obj acc,.list (pA.vs ps))::ρ)++fM L x.me Ae Ae τ)=(ρ₂++(.obj acc,.list (pA.vs ps))::ρ)++fM L x.me Ae Ae τ from(Ba ..).symm]
 have hr:(Ex.obj r,CO.list (Ap G ks))∈ρ₂++(.obj acc,.list (pA.vs ps))::ρ:=Ah _ h4
 generalize ρ₂++(.obj acc,.list (pA.vs ps))::ρ=R at *
 clear h4 hJ
 refine⟨_,_,.tau (.pre (.there (.there .here))),?_⟩
 refine Fh.go ?_
 have fin:∀(r':Am) (R:List Av) (ks':List Nat) o₁,ks'.Nodup->(∀k∈ks',k < G.length)->Vy G i ks'->(Ex.obj r',CO.list (Ap G ks'))∈R->
   T Γ D ⟨W,R++fM L x.me o₁ (Ad (.ref r')) τ⟩ (Cs ((fBody (clsStmt 13 5)).drop 3) (Vx L)) (Jh Q):=λr' R ks' o₁ q1 q2 q3 q4=>
  Ao (Fp (Ac (v:=.ref r') (Ag (Aa _ (mL 2 rfl))) ⟨_,Av.le_of_eq (by rw [Ba];rfl),h r' (R++fM L x.me o₁ (Ad (.ref r')) []) ks' q1 q2 q3 (Ah _ q4)⟩))
 have hself:=h3.self
 have hks12:ks.length<=12:=Ca (Go _ _ h1 h2) g.few
 have hroot:=ro i x hi
 by_cases hi0:i=0
 ·have hr0:x.root=.none:=by rw [hroot,Wj,if_pos hi0]
  refine Ao (Gh rfl (Ek (x:=x) (v:=.none) nf hi (fP Γ) (by rw [<-hr0];exact .tail _ (.head _)) (Ac (v:=.ref x.me) (Ag (Aa _ (mL 1 rfl))) ⟨rfl,rfl⟩) ⟨_,_,.tau (.pre .here),?_⟩))
  refine Fh.go ?_
  refine Ao (Hz (Ew (Fd (Au (Aq (v:=.none) rfl (Ag (Aa _ (.head _))) (Ka (Kz (by rfl) ⟨_,rfl,λhb=>(by cases hb),λ_=>⟨λhb=>(by cases hb),λ_=>?_⟩⟩)))))))
  exact Cq (Fh.go (fin r R ks (Ad .none) h1 h2 ⟨ks,h3,λk=>⟨.inl,λhk=>hk.elim id λe=>by rw [e,<-hi0];exact hself⟩⟩ hr))
 ·obtain⟨z,ez⟩:=Dp (Hr (Cg i) hil)
  have hr0:x.root=.ref z.me:=by rw [hroot,Wj,if_neg hi0,Bu ez]
  have isz:∀{j y},G[j]? =Ad y->(y.me==z.me)=(j==0):=λey=>by
   have:=J.beq (Al.mp ey).1 (Al.mp ez).1
   rwa [Bu ey,Bu ez]at this
  refine Ao (Gh rfl (Ek (x:=x) (v:=.ref z.me) nf hi (fP Γ) (by rw [<-hr0];exact .tail _ (.head _)) (Ac (v:=.ref x.me) (Ag (Aa _ (mL 1 rfl))) ⟨rfl,rfl⟩) ⟨_,_,.tau (.pre .here),?_⟩))
  refine Fh.go ?_
  have hne:ks≠[]:=λe=>by rw [e]at hself;cases hself
  have hks:ks.dropLast++[ks.getLast hne]=ks:=List.dropLast_concat_getLast hne
  generalize ks.getLast hne=last at hks
  generalize ks.dropLast=ks' at hks
  have hkl:(Ap G ks').length < 1000000:=by rw [<-hks,Aj]at hks12;rw [Bb];lia
  obtain⟨w,ew⟩:=Dp (h2 last (hks▸Aa _ (.head _)))
  have hlm:∀ρ' T,(Ex.obj r,CO.list (Ap G ks))∈(⟨W,ρ'++(R++T)⟩:Bc).all:=λρ' T=>Ag (Aa _ (Ah _ hr))
  refine Ao (Hz (Ew (Fd (Au (Aq (v:=.ref z.me) rfl (Ag (Aa _ (.head _))) (Ka (Kz (by rfl) ⟨_,rfl,λ_=>?_,λhb=>(by cases hb)⟩)))))))
  refine Fd (Eo (Ac (v:=.ref r) (Ag (Aa _ (mL 2 rfl))) (Pa (vs:=Ap G ks) (hlm [] _) (by rw [Bb];lia) ⟨λ_=>?_,λhb=>?_⟩)))
  ·refine Fd (Au (Bh (Ac (v:=.ref r) (Ag (Aa _ (mL 2 rfl))) (Afl (Dh ⟨1,rfl,Zc (vs:=Ap G ks') (v:=.ref w.me) (by rw [<-Bu ew,Sc,hks];exact hlm [] _) hkl ?_⟩)))))
   refine Aq (v:=.ref z.me) rfl (Ag (Aa _ (.head _))) (Zt (Pj (nf.inst _ _ ew)) (Pj (nf.inst _ _ ez)) ⟨_,rfl,λhb=>?_,λhb=>⟨λh=>(by cases h),λ_=>?_⟩⟩)
   ·refine Tp ⟨λ_=>?_,λh=>(by cases h)⟩
    have fl:∀l:List Nat,(l.filter λk=>k != 0).length<=l.length:=λl=>By _ _
    refine Ao (dA (Ac (v:=.ref r) (Ag (Aa _ (mL 2 rfl))) (Em (vs:=Ap G ks) (hlm [] _) λit₃=>?_)))
    refine⟨λj=>.ref (Gd G j),ks,it₃,_,_,λ_ _=>W,λ_ _=>R++fM L x.me (Ad (.ref z.me)) (Ad (.ref r)) τ,λa _=>Ap G (a.filter λk=>k != 0),λ_ _=>True,(),⟨rfl,rfl,Ey hhD⟩,Hc,trivial,rfl,λ_ _ ext _=>hlm ext _,λa b _ e _=>?_,λC₂ acc₂ a j b ρ₃ _ e _=>?_,λacc₃ _ _=>?_⟩
    ·have:=fl a
     rw [e,Aj]at hks12
     rw [Bb,Ay]
     lia
    ·have hj:=h2 j (by rw [e];exact Aa _ (.head _))
     obtain⟨y,ey⟩:=Dp hj
     rw [Bu ey]
     refine Js (Au (Dm (v:=.ref y.me) (Ag (Aa _ (.head _))) (.head _) (Aq (v:=.ref z.me) rfl (Ag (Aa _ (.tail _ (.tail _ (Aa _ (.head _)))))) (Zt (Pj (nf.inst _ _ ey)) (Pj (nf.inst _ _ ez)) ⟨_,rfl,λhb=>?_,λhb=>?_⟩))))
     ·rw [isz ey,Nf,beq_eq_false_iff_ne]at hb
      exact Dm (v:=.ref y.me) (Ag (Aa _ (.head _))) (.head _) ⟨_,_,_,Av.le_refl _,(),rfl,by rw [uQ hb,Ks,<-Bu ey];rfl,trivial⟩
     ·rw [isz ey,Ke,beq_iff_eq]at hb
      exact⟨_,_,_,Av.le_refl _,(),rfl,by rw [xE hb],trivial⟩
    ·refine⟨_,_,.tau (.there (.pre (.there (.there .here)))),?_⟩
     refine Fh.go ?_
     refine Ao (Gf (Fo (Ac (v:=.ref acc₃) (Ag (.tail _ (Aa _ (mL 2 rfl)))) (De Cv Dt Ds (It (vs:=Ap G (ks.filter λk=>k != 0)) (Ag (.head _))) ⟨.inr (.inl ⟨_,rfl⟩),?_⟩))))
     refine Ai (Aq (v:=.ref z.me) rfl (Ag (.tail _ (Aa _ (.head _)))) (Ar (Lx (.tau .here) (by rw [Bb,Ay];have:=fl ks;lia) ?_)))
     refine Fh.go (Cq (Fh.go ?_))
     rw [show Ap G (ks.filter λk=>k != 0)++[.ref z.me]=Ap G ((ks.filter λk=>k != 0)++[0]) by rw [Ks,<-Bu ez];rfl]
     refine fin acc₃ (_::R) _ (Ad (.ref z.me)) (bU (h1.filter _) λhm=>by cases(Cw.mp hm).2) (λk hk=>?_) ⟨ks,h3,λk=>?_⟩ (.head _)
     ·exact(Ak.mp hk).elim (λh=>h2 k (Cw.mp h).1) λh=>by rw [Bi.mp h];exact(Al.mp ez).1
     ·rw [Ak,Cw,Bi,bne_iff_ne]
      exact⟨λq=>q.imp And.left id,λq=>(Decidable.em (k=0)).elim .inr λe=>.inl ⟨q.resolve_right e,e⟩⟩
   ·rw [isz ew,Ke,beq_iff_eq]at hb
    exact Cq (Fh.go (fin r R ks (Ad (.ref z.me)) h1 h2 ⟨ks,h3,λk=>⟨.inl,λhk=>hk.elim id λe=>by rw [e,<-hb];exact hks▸Aa _ (.head _)⟩⟩ hr))
  ·exfalso
   cases ks with
   |nil=>exact hne rfl
   |cons _ _=>cases hb
end
end
section
open AutoSeq1 (Pg)
section
variable {prog:Jm} {w:Ok} {A:Az} {E:Ab->Be->Prop} {s:Be}
theorem kC {Tn:String} {r d:Am} {n:Nat} {P:Nat->Ab->Prop} {OK:Cd->Prop} {Q:List Ab->Be->Prop} (K:KdlSrc prog w Tn r d n P OK) (hh:A.handled=Ae) (hok:OK s.heap) (hn:n<=Gn)
  (hQ:∀h' tk acc,(∀b o,s.heap.get? b=Ad o->h'.get? b=Ad o)->ItemsOf P acc n->Q acc.toList {s with heap:=h',toks:=tk}):Cu (Ci prog w) A (collect (.ref r)) Q E s:=by
 unfold collect
 refine Af (wpAny_runValue (Hn PySem.F.entry_proto_collect ?_))
 rw [Gb PySem.F.plain_proto_collect _]
 show Cu _ A.in1 (newList []>>=λl=>again (.builtin "list.__iadd__" ⟨[l,.ref r],[]⟩)) _ _ s
 refine Af (Ez ?_)
 refine Ax ⟨Jt PySem.F.plain_list_iadd _,Hn PySem.F.entry_list_iadd ?_⟩
 rw [Gb PySem.F.plain_list_iadd _]
 show Cu _ A.in1 (Hy (.ref s.heap.objs.size) (.ref r) (.ref s.heap.objs.size)) _ _ _
 have hS:(s.heap.push {cls:=.type "list",data:=.seq ([]:List Ab).toArray}).get? s.heap.objs.size=Ad {cls:=.type "list",data:=.seq #[] 0}:=Bj _ rfl
 have hlt:=K.there _ hok
 have fin':∀h' tk acc' c',(∀b o,b≠s.heap.objs.size->(s.heap.push {cls:=.type "list",data:=.seq ([]:List Ab).toArray}).get? b=Ad o->h'.get? b=Ad o)->h'.get? s.heap.objs.size=Ad {cls:=.type "list",dict:=Ae,data:=.seq acc' c',slots:=#[]}->ItemsOf P acc' n->
   Cu (Ci prog w) A (match Bx s.heap.objs.size with
   |Bx a=>do
    match(<-load a).data with
     |Qk xs _=>Et xs.toList
     |_=>unsupported "internal:collect"
   |_=>unsupported "internal:collect") Q E {s with heap:=h',toks:=tk}:=by
  intro h' tk acc' c' hk hS' hacc
  show Cu (Ci prog w) A (load s.heap.objs.size>>=_) Q E _
  refine Af (wpAny_load hS' ?_)
  exact Ax (hQ h' tk acc' (λb o e=>hk b o (Kw (Dw e)) (An _ e)) hacc)
 refine Ec (kdl_extend (A:=A) (s:={s with heap:=s.heap.push {cls:=.type "list",data:=.seq ([]:List Ab).toArray}}) (R:=λr' s'=>r'=.ok (.ret (.ref s.heap.objs.size))/\Cu (Ci prog w) A (match Bx s.heap.objs.size with
   |Bx a=>do
    match(<-load a).data with
     |Qk xs _=>Et xs.toList
     |_=>unsupported "internal:collect"
   |_=>unsupported "internal:collect") Q E s') K hh (K.keep _ _ hok λb _ o e=>An _ e) s.heap.objs.size (Nat.ne_of_gt hlt.1) (Nat.ne_of_gt hlt.2) (.ref s.heap.objs.size) 0 hS (λh' tk acc' c' hk hS' hacc=>⟨rfl,fin' h' tk acc' c' hk hS' hacc⟩) hn) (λfin s' h=>?_) (λe s' h=>?_)
 ·cases fin with
  |done f=>
   obtain⟨e,h⟩:=h
   cases e
   exact h
  |again c'=>exact⟨h.1,Jn h.2 λr s'' hr=>by obtain⟨rfl,h⟩:=hr;exact h⟩
 ·exact absurd h.1 (by simp)
theorem Xw {K:Type} [DecidableEq K] {knd:KeyKind prog w K} {v d:Am} {kvs:List (K×Ab)} {ep:Nat} {Q:Ab->Be->Prop} (hh:A.handled=Ae) (hv:s.heap.IsValuesView v d) (hm:s.heap.DictAt knd d kvs ep) (hz:kvs.length<=1000000)
  (h:∀(h':Cd) (tk:Nat) (us:Array Ab),(∀b o,s.heap.get? b=Ad o->h'.get? b=Ad o)->us.toList=kvs.map (·.2)->Q (.ref h'.objs.size) {s with heap:=h'.push {cls:=.type "tuple",data:=.seq us},toks:=tk}):
  Cu (Ci prog w) A (Iq (.type "tuple") [.ref v]) Q E s:=by
 refine callType_codes (Q₁:=λobj s₁=>s₁.TypeIs obj "tuple" /\Q obj s₁) Nz (PySem.F.typeCall_tuple_1 _) PySem.F.entry_object_init ?_ λobj s₁ h₁=>?_
 ·refine Lb Nz.plain PySem.F.entry_tuple_new (Iv (PySem.F.newCall_tuple_1 _) ?_)
  have hz':kvs.length<=Gn:=by rw [Ay];lia
  obtain⟨ov,hov,hcv,hdv⟩:=id hv
  obtain⟨hp,g,dr,tk,os⟩:=s
  have hsub:=sub_tuple_self
  have hinit:=init_tuple_lookup
  have hmh:=madeHere_tuple
  have hT:Be.TypeIs ⟨hp,g,dr,tk,os⟩ (.ref v) "dict_values" :=⟨ov,hov,hcv⟩
  have hc:=λ(E:Ab->Be->Prop) (Q:List Ab->Be->Prop)=>kC (A:=A.in1.in1) (E:=E) (Q:=Q) (s:=⟨hp,g,dr,tk,os⟩) (kdl_values (knd:=knd) (kvs:=kvs) (ep:=ep)) hh ⟨hv,hm⟩ hz'
  wp_walk using Pg hov,wpAny_typeOf hT,hc _ _
  intro h' tk' acc hk hacc
  show Cu _ _ (Ee.Tuple.tupleExact acc.toList.toArray>>=λv=>ret v) _ _ _
  unfold Ee.Tuple.tupleExact
  refine Af (Ez ?_ (by show acc.toList.toArray.size<=Gn;simpa [hacc.1]using hz'))
  refine Ax ⟨⟨_,Bj _ rfl,rfl⟩,?_⟩
  have e:acc.toList.toArray=acc:=by simp
  rw [e]
  refine h h' tk' acc hk (La λj=>?_)
  rw [Array.getElem?_toList,Bg]
  rcases Oh j acc.size with hj|hj
  ·obtain⟨k,hk2⟩:=hacc.2 j acc[j] (Fu hj)
   rw [Fu hj,hk2];rfl
  ·rw [Mp hj,Du (by rw [<-hacc.1];exact hj)];rfl
 ·exact⟨h₁.1,PySem.F.args_object_init_2 obj _,object_init_meets Nz.init.lookup Nz.made (by decide) prog w A.in1 _ s₁ ⟨h₁.1,rfl,h₁.2⟩⟩
end
section
variable {Γ:Bm} {A:Az} {σ:Bc}
theorem cX {W τ:List Av} {v d:Am} {es:List (Int×Ab)} {Q:Ab->Bc->Prop} (hh:A.handled=Ae) (hv:(.obj v,.vview d)∈(⟨W,τ⟩:Bc).all) (hd:(.obj d,.idict es)∈(⟨W,τ⟩:Bc).all) (hz:es.length<=1000000)
  (h:∀r,Q (.ref r) ⟨W,(.obj r,.tup (es.map (·.2)))::τ⟩):∀ws,ws.map cl=[.ref v]->T Γ A ⟨W,τ⟩ (Iq (.type "tuple") ws) Q:=λws hw s R=>by
 obtain⟨w₀,rfl,e0⟩:=Iz hw
 have:=Ch e0
 subst this
 obtain⟨kvs,D,rfl,_⟩:=Sa R hd
 have V:s.heap.IsValuesView v d:=(R.ents _ hv).1
 obtain⟨ep,D'⟩:∃ep,Cd.DictAt (intKind Γ.prog Γ.w) s.heap d kvs ep:=by
  obtain⟨o,es',ep,r⟩:=D
  exact⟨ep,o,es',r⟩
 refine Xw hh V D' (by simpa using hz) λh' tk us keep e=>?_
 have R1:Eg Γ ⟨W,τ⟩ {s with heap:=h',toks:=tk}:=R.grow (s':={s with heap:=h',toks:=tk}) keep rfl rfl
 exact⟨_,R1.push (c:=.tup ((kvs.map nU).map λp:Int×Ab=>p.2)) (s':={s with heap:=h'.push _,toks:=tk}) (λ_ _ e=>An _ e) rfl rfl ⟨us,0,Bj _ rfl,by rw [e];simp [nU,Function.comp_def]⟩,h _⟩
end
end
theorem Ub (y:Nd) (G:List Nd):Bl (y::G)=y.ents++Bl G:=by unfold Bl;rw [Ha]
theorem Yo {l:Ex} {c c':CO} {G:List Nd}:∀{i:Nat} {x x':Nd},G[i]? =Ad x->Ri x.ents l c c' x'.ents->Ri (Bl G) l c c' (Bl (G.set i x')):=by
 induction G with
 |nil=>intro i x x' h;simp at h
 |cons y G ih=>
  intro i x x' h U
  cases i with
  |zero=>
   rw [List.getElem?_cons_zero,Ep.injEq]at h
   subst h
   rw [List.set_cons_zero,Ub,Ub]
   exact U.append
  |succ i=>
   rw [List.getElem?_cons_succ]at h
   rw [List.set_cons_succ,Ub,Ub]
   exact(ih h U).prepend _
theorem Yp {G:List Nd} {i:Nat} {x:Nd} (h:G[i]? =Ad x) {p:Av} (hp:p∈x.ents):p∈Bl G:=Fm.mpr ⟨x,Fj h,hp⟩
structure WX (G:List Nd) (X:List Av):Prop where
 inst:∀(i:Nat) (x:Nd),G[i]? =Ad x->(Ex.obj x.me,CO.inst x.C x.d)∈X
 bt:∀(i:Nat) (x:Nd),G[i]? =Ad x->Vv X x.bt (Ap G x.bs)
 st:∀(i:Nat) (x:Nd),G[i]? =Ad x->(Ex.obj x.st,CO.tup (Ap G x.ss))∈X
 cls:∀(i:Nat) (x:Nd),G[i]? =Ad x->x.C=364\/x.C=427
theorem WX.nf {G:List Nd} {X:List Av} (h:WX G X):NF (Bl G++X) G where
 inst i x e:=Aa _ (h.inst i x e)
 ns i x e:=Ah _ (Yp e (.head _))
 dep i x e:=Ah _ (Yp e (.tail _ (.head _)))
 imp i x e:=Ah _ (Yp e (.tail _ (.tail _ (.head _))))
 bt i x e:=(h.bt i x e).right
 st i x e:=Aa _ (h.st i x e)
 cls:=h.cls
theorem WX.more {G:List Nd} {X X':List Av} (h:WX G X) (k:∀e∈X,e∈X'):WX G X':=⟨λi x e=>k _ (h.inst i x e),λi x e=>(h.bt i x e).more k,λi x e=>k _ (h.st i x e),h.cls⟩
noncomputable def Nd.blank (x:Nd):Nd:={x with st:=0,ss:=[],iro:=.none,imps:=[]}
noncomputable def Nd.blank2 (x:Nd):Nd:={x with st:=0,ss:=[],iro:=.none,imps:=[],bt:=0,bs:=[],deps:=[],decl:=Ae,inh:=Ae}
theorem Afg {x x':Nd} (h:x'.blank=x.blank):x'.me=x.me:=by have:=congrArg Nd.me h;exact this
theorem Aif {x x':Nd} (h:x'.blank=x.blank):x'.d=x.d:=by have:=congrArg Nd.d h;exact this
theorem Aig {x x':Nd} (h:x'.blank=x.blank):x'.C=x.C:=by have:=congrArg Nd.C h;exact this
theorem Afh {x x':Nd} (h:x'.blank=x.blank):x'.bt=x.bt:=by have:=congrArg Nd.bt h;exact this
theorem yI {x x':Nd} (h:x'.blank=x.blank):x'.bs=x.bs:=by have:=congrArg Nd.bs h;exact this
theorem xO {x x':Nd} (h:x'.blank=x.blank):x'.deps=x.deps:=by have:=congrArg Nd.deps h;exact this
theorem iB {x x':Nd} (h:x'.blank2=x.blank2):x'.me=x.me:=by have:=congrArg Nd.me h;exact this
theorem Aah {x x':Nd} (h:x'.blank2=x.blank2):x'.key=x.key:=by have:=congrArg Nd.key h;exact this
theorem xN {x x':Nd} (h:x'.blank2=x.blank2):x'.root=x.root:=by have:=congrArg Nd.root h;exact this
noncomputable abbrev Mh (G G':List Nd):Prop:=G.map Nd.blank=G'.map Nd.blank
noncomputable abbrev Gl (G G':List Nd):Prop:=G.map Nd.blank2=G'.map Nd.blank2
theorem Mh.i {G G':List Nd} (h:Mh G G'):Gl G G':=by
 have:=congrArg (List.map Nd.blank2) h
 rw [Ei,Ei]at this
 exact this
theorem Mh.at' {G G':List Nd} (h:Mh G G') {i:Nat} {x:Nd} (e:G[i]? =Ad x):∃x',G'[i]? =Ad x'/\x'.blank=x.blank:=by
 have:=congrArg (·[i]?) h
 simp only [Bg,e,Option.map_some]at this
 exact Db.mp this.symm
theorem Gl.at' {G G':List Nd} (h:Gl G G') {i:Nat} {x:Nd} (e:G[i]? =Ad x):∃x',G'[i]? =Ad x'/\x'.blank2=x.blank2:=by
 have:=congrArg (·[i]?) h
 simp only [Bg,e,Option.map_some]at this
 exact Db.mp this.symm
theorem Gl.len {G G':List Nd} (h:Gl G G'):G'.length=G.length:=by simpa using(congrArg Ii h).symm
theorem Mh.len {G G':List Nd} (h:Mh G G'):G'.length=G.length:=h.i.len
theorem Gl.symm {G G':List Nd} (h:Gl G G'):Gl G' G:=Eq.symm h
theorem Mh.trans {A B C:List Nd} (h:Mh A B) (k:Mh B C):Mh A C:=Eq.trans h k
theorem Gl.trans {A B C:List Nd} (h:Gl A B) (k:Gl B C):Gl A C:=Eq.trans h k
theorem Uq {G G':List Nd} (h:G'.length=G.length) {i:Nat} (e:G[i]? =Ae):G'[i]? =Ae:=by
 rw [List.getElem?_eq_none_iff]at e ⊢;lia
theorem Gl.me {G G':List Nd} (h:Gl G G') (j:Nat):Gd G' j=Gd G j:=by
 unfold Gd
 cases e:G[j]?with
 |Ae=>rw [Uq h.len e]
 |Ad x=>obtain⟨x',e',hb⟩:=h.at' e;rw [e'];exact iB hb
theorem Gl.key {G G':List Nd} (h:Gl G G') (j:Nat):Cy G' j=Cy G j:=by
 unfold Cy
 cases e:G[j]?with
 |Ae=>rw [Uq h.len e]
 |Ad x=>obtain⟨x',e',hb⟩:=h.at' e;rw [e'];exact Aah hb
theorem Gl.refs {G G':List Nd} (h:Gl G G') (l:List Nat):Ap G' l=Ap G l:=by
 unfold Mine.Ap;congr 1;funext j;rw [h.me]
theorem Mh.bs {G G':List Nd} (h:Mh G G') (j:Nat):Ge G' j=Ge G j:=by
 unfold Ge
 cases e:G[j]?with
 |Ae=>rw [Uq h.len e]
 |Ad x=>obtain⟨x',e',hb⟩:=h.at' e;rw [e'];exact yI hb
set_option tactic.hygienic true in
theorem Mb {G:List Nd} {i:Nat} {x x':Nd} (h:G[i]? =Ad x) (hb:x'.blank2=x.blank2):Gl G (G.set i x'):=by
 unfold Gl
 rw [Kx,hb]
 refine(La λj=>?_).symm
 rw [Jc]
 split
 ·rename_i e
  subst e
  rw [Bg,h]
  simp [(Al.mp h).1]
 ·rfl
set_option tactic.hygienic true in
theorem Tk {G:List Nd} {i:Nat} {x x':Nd} (h:G[i]? =Ad x) (hb:x'.blank=x.blank):Mh G (G.set i x'):=by
 unfold Mh
 rw [Kx,hb]
 refine(La λj=>?_).symm
 rw [Jc]
 split
 ·rename_i e
  subst e
  rw [Bg,h]
  simp [(Al.mp h).1]
 ·rfl
theorem Lu {G:List Nd} {i:Nat} {x x':Nd} (h:G[i]? =Ad x):(G.set i x')[i]? =Ad x':=by
 rw [List.getElem?_set_self (Al.mp h).1]
set_option tactic.hygienic true in
theorem Mw {G:List Nd} {i j:Nat} {x' y:Nd} (h:(G.set i x')[j]? =Ad y):(j=i/\y=x')\/(j≠i/\G[j]? =Ad y):=by
 rw [Jc]at h
 split at h
 ·rename_i e
  split at h
  ·cases h;exact .inl ⟨e.symm,rfl⟩
  ·cases h
 ·rename_i e;exact .inr ⟨λq=>e q.symm,h⟩
structure dH (G:List Nd) (X:List Av) (x:Nd) (dl:List (Nat×Am)):Prop where
 eq:x.deps=dl.map λp=>(Cy G p.1,.ref p.2)
 at':∀p∈dl,p.1 < G.length/\(Ex.obj p.2,CO.tup [.ref (Gd G p.1),.int 1 0])∈X
 nodup:(dl.map (·.1)).Nodup
structure Co (G:List Nd) (X:List Av):Prop where
 wx:WX G X
 gr:Gr G
 inj:pB G
 ro:fS G
 low:∀(i:Nat) (x:Nd),G[i]? =Ad x->∀k∈x.ss,k<=i
 dep:∀(j:Nat) (x:Nd),G[j]? =Ad x->∃dl,dH G X x dl/\∀d,d∈dl.map (·.1)↔j∈Ge G d
noncomputable def aT (G:List Nd) (x:Nd):Prop:=x.imps.length<=100/\∀k:Int,(Fq x.imps k).isSome=true↔∃j∈x.ss,Cy G j=k
structure Wd (G:List Nd) (X:List Av):Prop extends Co G X where
 imp:∀(i:Nat) (x:Nd),G[i]? =Ad x->aT G x
theorem Gl.depL {G G':List Nd} (h:Gl G G') {X:List Av} {x x':Nd} {dl:List (Nat×Am)} (D:dH G X x dl) (e:x'.deps=x.deps):dH G' X x' dl where
 eq:=by rw [e,D.eq];apply Gk;intro p _;rw [h.key]
 at' p hp:=⟨by rw [h.len];exact(D.at' p hp).1,by rw [h.me];exact(D.at' p hp).2⟩
 nodup:=D.nodup
theorem dH.more {G:List Nd} {X X':List Av} {x:Nd} {dl:List (Nat×Am)} (D:dH G X x dl) (k:∀e∈X,e∈X'):dH G X' x dl:=⟨D.eq,λp hp=>⟨(D.at' p hp).1,k _ (D.at' p hp).2⟩,D.nodup⟩
theorem Co.more {G:List Nd} {X X':List Av} (h:Co G X) (k:∀e∈X,e∈X'):Co G X':=⟨h.wx.more k,h.gr,h.inj,h.ro,h.low,λj x e=>let⟨dl,D,E⟩:=h.dep j x e;⟨dl,D.more k,E⟩⟩
theorem Gl.inj {G G':List Nd} (h:Gl G G') (J:pB G):pB G':=λi j x y e1 e2 hm=>by
 obtain⟨x0,f1,b1⟩:=h.symm.at' e1
 obtain⟨y0,f2,b2⟩:=h.symm.at' e2
 have m1:x0.me=x.me:=iB b1
 have m2:y0.me=y.me:=iB b2
 exact J i j x0 y0 f1 f2 (by rw [m1,m2,hm])
theorem Gl.root {G G':List Nd} (h:Gl G G') (J:fS G):fS G':=λi x e=>by
 obtain⟨x0,f,b⟩:=h.symm.at' e
 have m:x0.root=x.root:=xN b
 rw [<-m,J i x0 f]
 unfold Wj
 rw [h.me]
theorem Gl.keys {G G':List Nd} (h:Gl G G'):G'.map (·.key)=G.map (·.key):=by
 have:=congrArg (List.map Nd.key) h
 simpa [Function.comp_def,Nd.blank2]using this.symm
theorem Co.set {G:List Nd} {X:List Av} (h:Co G X) {i:Nat} {x x':Nd} (hi:G[i]? =Ad x) (hb:x'.blank=x.blank) (hn:x'.ss.Nodup) (hl:∀k∈x'.ss,k<=i) (hs:(Ex.obj x'.st,CO.tup (Ap G x'.ss))∈X):Co (G.set i x') X:=by
 have K:=Tk hi hb
 have bme:x'.me=x.me:=Afg hb
 have bd:x'.d=x.d:=Aif hb
 have bC:x'.C=x.C:=Aig hb
 have bbt:x'.bt=x.bt:=Afh hb
 have bbs:x'.bs=x.bs:=yI hb
 have bdp:x'.deps=x.deps:=xO hb
 have il:=(Al.mp hi).1
 refine⟨⟨?_,?_,?_,?_⟩,⟨?_,?_,?_,?_⟩,K.i.inj h.inj,K.i.root h.ro,?_,?_⟩
 ·intro j y e
  rcases Mw e with⟨rfl,rfl⟩|⟨_,e⟩
  ·rw [bme,bC,bd];exact h.wx.inst _ _ hi
  ·exact h.wx.inst _ _ e
 ·intro j y e
  rw [K.i.refs]
  rcases Mw e with⟨rfl,rfl⟩|⟨_,e⟩
  ·rw [bbt,bbs];exact h.wx.bt _ _ hi
  ·exact h.wx.bt _ _ e
 ·intro j y e
  rw [K.i.refs]
  rcases Mw e with⟨rfl,rfl⟩|⟨_,e⟩
  ·exact hs
  ·exact h.wx.st _ _ e
 ·intro j y e
  rcases Mw e with⟨rfl,rfl⟩|⟨_,e⟩
  ·rw [bC];exact h.wx.cls _ _ hi
  ·exact h.wx.cls _ _ e
 ·rw [K.i.keys];exact h.gr.keys
 ·intro j y e
  rcases Mw e with⟨rfl,rfl⟩|⟨_,e⟩
  ·rw [bbs];exact h.gr.bs _ _ hi
  ·exact h.gr.bs _ _ e
 ·intro j y e
  rw [K.len]
  rcases Mw e with⟨rfl,rfl⟩|⟨_,e⟩
  ·exact⟨hn,λk hk=>Hr (hl k hk) il⟩
  ·exact h.gr.ss _ _ e
 ·rw [K.len];exact h.gr.few
 ·intro j y e
  rcases Mw e with⟨rfl,rfl⟩|⟨_,e⟩
  ·exact hl
  ·exact h.low _ _ e
 ·intro j y e
  have key:∃y₀,G[j]? =Ad y₀/\y.deps=y₀.deps:=by
   rcases Mw e with⟨rfl,rfl⟩|⟨_,e⟩
   ·exact⟨x,hi,bdp⟩
   ·exact⟨y,e,rfl⟩
  obtain⟨y₀,e₀,ed⟩:=key
  obtain⟨dl,D,E⟩:=h.dep j y₀ e₀
  exact⟨dl,K.i.depL D ed,λd=>by rw [K.bs];exact E d⟩
noncomputable def Uk (G:List Nd) (j:Nat):Prop:=Vy G j (Gy G j)
theorem Zf.congr {G G':List Nd} (K:Mh G G') {i:Nat} {ks:List Nat} (hs:∀b∈Ge G i,Gy G' b=Gy G b) (h:Zf G i ks):Zf G' i ks:=by
 rcases h with⟨h1,h2⟩|h
 ·refine .inl ⟨λk hk=>?_,λk hk=>h2 k ?_⟩
  ·rcases h1 k hk with h|h|⟨b,hb,h⟩
   ·exact .inl h
   ·exact .inr (.inl (by rw [K.bs];exact h))
   ·exact .inr (.inr ⟨b,by rw [K.bs];exact hb,by rw [hs b hb];exact h⟩)
  ·rcases hk with h|⟨b,hb,h⟩
   ·exact .inl h
   ·rw [K.bs]at hb
    exact .inr ⟨b,hb,by rw [<-hs b hb];exact h⟩
 ·refine .inr λk=>(h k).trans ?_
  have hfun:Ge G'=Ge G:=funext K.bs
  have key:∀{A B:List Nd},Ge A=Ge B->∀{j k},Ia A j k->Ia B j k:=by
   intro A B e j k r
   induction r with
   |refl=>exact .refl _
   |step h1 _ ih=>exact .step (by rw [<-e];exact h1) ih
  exact⟨key hfun.symm,key hfun⟩
theorem Vy.congr {G G':List Nd} (K:Mh G G') {i:Nat} {ks:List Nat} (hs:∀b∈Ge G i,Gy G' b=Gy G b) (h:Vy G i ks):Vy G' i ks:=by
 obtain⟨ks₀,h1,h2⟩:=h
 exact⟨ks₀,h1.congr K hs,h2⟩
section
theorem qT (Γ:Bm):Γ.K.lookup 318=Ad ⟨.type "function",Ae,.func (Kh Γ 318 "Specification.changed" (clsStmt 13 6) (.ref 317) .none),#[]⟩:=by kernel_rfl
theorem wU (Γ:Bm):aO Γ "_calculate_sro" 313:=⟨by kernel_rfl,by kernel_rfl⟩
theorem bZ (Γ:Bm):aO Γ "changed" 318:=⟨by kernel_rfl,by kernel_rfl⟩
noncomputable abbrev dI (Γ:Bm) (name:Str):Prop:=Vi Γ.K 364 name=true/\Vi Γ.K 427 name=true
theorem dI.of {Γ:Bm} {name:Str} (k:dI Γ name) {C:Am} (h:C=364\/C=427):Vi Γ.K C name=true:=by rcases h with rfl|rfl;exact k.1;exact k.2
theorem eW (Γ:Bm):dI Γ "sro" :=⟨by kernel_rfl,by kernel_rfl⟩
theorem eY (Γ:Bm):dI Γ "iro" :=⟨by kernel_rfl,by kernel_rfl⟩
theorem yF (Γ:Bm):yY Γ.K 427 364=true/\isIn Γ.K (.ref 364) 364=true:=⟨by kernel_rfl,by kernel_rfl⟩
theorem zK (x:Nd) (t:Am) (ks:List Nat):Oq "sro" (.ref t) (Ng x) (Ng {x with st:=t,ss:=ks}):=.there (.there (.there (.there (.there (.there .here)))))
theorem zL (x:Nd) (v:Ab):Oq "iro" v (Ng x) (Ng {x with iro:=v}):=.there (.there (.there (.there (.there .here))))
theorem Rz {G:List Nd} {X τ:List Av} {p:Av}:Av.le ⟨Bl G++(p::X),τ⟩ ⟨Bl G++X,p::τ⟩:=Av.le_perm (by
 show(Bl G++X++(p::τ)).Perm (Bl G++(p::X)++τ)
 rw [Ba,Ba]
 exact Bf _ Fl)
set_option tactic.hygienic true in
theorem jM {G:List Nd} {i:Nat} {x:Nd} (h:G[i]? =Ad x):G.set i x=G:=by
 refine La λj=>?_
 rw [Jc]
 split
 ·rename_i e;subst e;rw [h];simp [(Al.mp h).1]
 ·rfl
set_option tactic.hygienic true in
theorem wB {G:List Nd} (g:Gr G) (low:∀(i:Nat) (x:Nd),G[i]? =Ad x->∀k∈x.ss,k<=i) {i:Nat} {ks:List Nat} (h:Vy G i ks):∀k∈ks,k<=i:=λk hk=>by
 obtain⟨ks₀,h1,h2⟩:=h
 rcases(h2 k).mp hk with h|h
 ·rcases h1 with⟨a,_⟩|a
  ·rcases a k h with h|h|⟨b,hb,h⟩
   ·lia
   ·have:=g.bs_lt h;lia
   ·have hb':=g.bs_lt hb
    unfold Gy at h
    split at h
    ·rename_i y e
     have:=low b y e k h
     lia
    ·cases h
  ·exact((a k).mp h).le g
 ·lia
theorem Wt {G:List Nd} {i j:Nat} {x x':Nd} (h:G[i]? =Ad x):Gy (G.set i x') j=if j=i then x'.ss else Gy G j:=by
 unfold Gy
 by_cases e:j=i
 ·subst e;rw [Lu h,if_pos rfl]
 ·rw [if_neg e,Hg (Ll e)]
section
variable {Γ:Bm} {A:Az} {G:List Nd} {X:List Av} {σ:Bc}
theorem sS {τ:List Av} {i:Nat} {x x':Nd} (hi:G[i]? =Ad x) (e:x'.ents=[(.obj x.d,.ns (Ng x')),(.obj x.dep,.idict x.deps),(.obj x.imp,.idict x.imps)]):Jf ⟨Bl G++X,τ⟩ (.obj x.d) (.ns (Ng x)) (.ns (Ng x')) ⟨Bl (G.set i x')++X,τ⟩:=
 .wld ((Yo hi (by rw [e];exact .here)).append)
theorem oG {τ:List Av} {i:Nat} {x:Nd} (hi:G[i]? =Ad x) (im:List (Int×Ab)):Jf ⟨Bl G++X,τ⟩ (.obj x.imp) (.idict x.imps) (.idict im) ⟨Bl (G.set i {x with imps:=im})++X,τ⟩:=
 .wld ((Yo (x':={x with imps:=im}) hi (.there (.there .here))).append)
theorem vH {W τ:List Av} {i:Nat} {x:Nd} {ws:List Ab} {Q:Ab->Bc->Prop} (nf:NF W G) (hi:G[i]? =Ad x) (hw:ws.map cl=[.ref x.me,.ref 364]) (h:Q (.bool (x.C==364)) ⟨W,τ⟩):T Γ A ⟨W,τ⟩ (Iq (.builtin "isinstance") ws) Q:=by
 rcases nf.cls _ _ hi with e|e
 ·refine Agc hw (Pj (nf.inst _ _ hi)) (by rw [e];exact(yF Γ).2) ?_
  have:(x.C==364)=true:=by rw [e];rfl
  rw [this]at h;exact h
 ·refine Agb hw (Pj (nf.inst _ _ hi)) (Pj (nf.ns _ _ hi)) (by rw [e];exact(yF Γ).1) ?_
  have:(x.C==364)=false:=by rw [e];rfl
  rw [this]at h;exact h
theorem jI {W τ:List Av} {i:Nat} {x:Nd} {Q:Ab->Bc->Prop} (nf:NF W G) (hi:G[i]? =Ad x) (h:Q (.bool (x.C==364)) ⟨W,τ⟩):kZ Γ A (.builtin "isinstance") Q [.ref x.me,.ref 364] ⟨W,τ⟩:=λ_ hw=>vH (nf:=nf) (hi:=hi) (hw:=hw) (h:=h)
theorem lJ {τ:List Av} {i:Nat} {x x':Nd} {name:Str} {ov u v:Ab} {Q:Unit->Bc->Prop} (wx:WX G X) (hi:G[i]? =Ad x) (ho:cl ov=.ref x.me) (hu:cl u=v) (k:dI Γ name) (hm:Oq name v (Ng x) (Ng x')) (e:x'.ents=[(.obj x.d,.ns (Ng x')),(.obj x.dep,.idict x.deps),(.obj x.imp,.idict x.imps)])
  (h:Q () ⟨Bl (G.set i x')++X,τ⟩):T Γ A ⟨Bl G++X,τ⟩ (setAttr ov name u) Q:=
 We ho hu (Pj (wx.nf.inst _ _ hi)) (sS hi e) hm (k.of (wx.cls _ _ hi)) h (by show(Ng x).length<=1000;simp [Ng])
structure ChJ (G:List Nd) (X:List Av) (P:Nat->Prop) (dl a:List (Nat×Am)) (G':List Nd) (X':List Av):Prop where
 wd:Wd G' X'
 k:Mh G G'
 sub:∀e∈X,e∈X'
 ok:∀b,dl=a++b->∀j,j < G'.length->¬P j->j∉b.map (·.1)->Uk G' j
theorem ChJ.step {P:Nat->Prop} {dl a b:List (Nat×Am)} {p:Nat×Am} {G' G'':List Nd} {X' X'':List Av} (h:ChJ G X P dl a G' X') (e:dl=a++p::b) (w1:Wd G'' X'') (w2:Mh G' G'') (w3:∀e∈X',e∈X'') (w4:∀j,j < G''.length->¬(P j\/j∈b.map (·.1))->Uk G'' j):ChJ G X P dl (a++[p]) G'' X'':=
 ⟨w1,h.k.trans w2,λe he=>w3 _ (h.sub _ he),λb' e' j hj hP hd=>w4 j hj λq=>q.elim hP λq=>hd (by rw [e,Ba]at e';cases List.append_cancel_left e';exact q)⟩
noncomputable def vW (G:List Nd) (im:List (Int×Ab)) (a:List Nat):Prop:=∀k:Int,(Fq im k).isSome=true↔∃j∈a,Cy G j=k
theorem vW.store {im:List (Int×Ab)} {a:List Nat} {j:Nat} {k₀:Int} {v:Ab} (h:vW G im a) (e:k₀=Cy G j):vW G (Lr im k₀ v) (a++[j]):=λk=>by
 by_cases ek:k=k₀
 ·subst ek
  rw [Ry]
  exact⟨λ_=>⟨j,by simp,e.symm⟩,λ_=>rfl⟩
 ·rw [Rq ek,h k]
  simp only [Ak,Bi]
  exact⟨λ⟨j',h1,h2⟩=>⟨j',.inl h1,h2⟩,λ⟨j',h1,h2⟩=>⟨j',h1.resolve_right λq=>ek (by rw [<-h2,q,e]),h2⟩⟩
theorem tI {τ:List Av} {i:Nat} {x:Nd} (hi:G[i]? =Ad x) {im im':List (Int×Ab)}:Jf ⟨Bl (G.set i {x with imps:=im})++X,τ⟩ (.obj x.imp) (.idict im) (.idict im') ⟨Bl (G.set i {x with imps:=im'})++X,τ⟩:=by
 have:=oG (G:=G.set i {x with imps:=im}) (X:=X) (τ:=τ) (Lu hi) im'
 rwa [Qo]at this
noncomputable abbrev Wl (L:Am) (me:Am) (oc im:Ab) (o₁ o₂ o₃ o₄:Option Ab) (τ:List Av):List Av:=
 (.var L "self",.val (Ad (.ref me)))::(.var L "originally_changed",.val (Ad oc))::(.var L "implied",.val (Ad im))::(.var L "ancestors",.val o₁)::(.var L "ancestor",.val o₂)::(.var L "dependent",.val o₃)::(.var L "_count",.val o₄)::τ
noncomputable abbrev Wk (L:Am):Env:=Gs "Specification.changed" (fScope (clsStmt 13 6)) L 318 (.ref 317) []
set_option tactic.hygienic true in
theorem rH:∀(n:Nat) {A:Az} {G:List Nd} {X τ:List Av} {i:Nat} {x:Nd} {oc:Ab} (P:Nat->Prop) {Q:Ab->Bc->Prop},G.length<=n+i->Wd G X->(∀j,j < G.length->j≠i->¬P j->Uk G j)->Rm A (11+n)->A.handled=Ae->AF A ⟨[],τ⟩->G[i]? =Ad x->
  (∀G' X',Wd G' X'->Mh G G'->(∀e∈X,e∈X')->(∀j,j < G'.length->¬P j->Uk G' j)->Q .none ⟨Bl G'++X',τ⟩)->∀ws,ws.map cl=[.ref x.me,oc]->TC Γ A ⟨Bl G++X,τ⟩ (.ref 318) ws [] Q:=by
 intro n
 induction n with
 |zero=>
  intro A G X τ i x oc P Q hn _ _ _ _ _ hi
  have:=(Al.mp hi).1
  lia
 |succ n ih=>
 intro A G X τ i x oc P Q hn wd ok hA hh hF hi h ws hw
 have hil:=(Al.mp hi).1
 refine Pk (body:=fBody (clsStmt 13 6)) (bs:=[("self",.ref x.me),("originally_changed",oc)]) ["self","originally_changed","implied","ancestors","ancestor","dependent","_count"] (qT Γ) (by kernel_rfl) hA.room (Hb.plain2 λ_ _ _=>Cm (by rfl)) (λL=>?_) (by rfl) (by rfl) (by decide) (by rfl) (by rfl) (by rfl) ws [] hw rfl
 show T Γ (A.deeper (Wk L)) ⟨Bl G++X,(.var L "self",.val (Ad (.ref x.me)))::(.var L "originally_changed",.val (Ad oc))::(.var L "implied",.val Ae)::(.var L "ancestors",.val Ae)::(.var L "ancestor",.val Ae)::(.var L "dependent",.val Ae)::(.var L "_count",.val Ae)::τ⟩ (Cs _ (Wk L)) _
 have hA':Rm (A.deeper (Wk L)) (11+n):=hA.deeper
 have hFt:∀(W ρ:List Av) oc im o₁ o₂ o₃ o₄,AF (A.deeper (Wk L)) ⟨W,ρ++Wl L x.me oc im o₁ o₂ o₃ o₄ τ⟩:=λW ρ oc im o₁ o₂ o₃ o₄=>(hF.push (τ':=Wl L x.me oc im o₁ o₂ o₃ o₄ τ) rfl rfl (L:=L) (x:="self") (.head _) λp hp=>.tail _ (.tail _ (.tail _ (.tail _ (.tail _ (.tail _ (.tail _ hp))))))).app.w
 refine Ao (Bo (Ek (x:=x) wd.wx.nf hi (sM Γ) (.tail _ (.tail _ (.tail _ (.tail _ (.head _))))) (Ac (v:=.ref x.me) (by walk_at "mem") ⟨rfl,rfl⟩) ⟨_,_,by walk_at "upd",?_⟩))
 refine Fh.go ?_
 have nf0:=wd.wx.nf
 have imem:∀τ,(Ex.obj x.imp,CO.idict x.imps)∈(⟨Bl G++X,τ⟩:Bc).all:=λτ=>Pj (nf0.imp _ _ hi)
 refine Ao (Gf (Fo (Ac (v:=.ref x.imp) (by walk_at "mem") (De Qe PySem.F.slot_dict_clear PySem.F.type_dict_clear (bJ (imem _)) ⟨.inr (.inl ⟨_,rfl⟩),?_⟩))))
 refine Ar (gV (oG hi []) (by rw [Ay];have:=(wd.imp _ _ hi).1;lia) ?_)
 refine Fh.go ?_
 let x1:Nd:={x with imps:=[]}
 let G1:=G.set i x1
 have h1i:G1[i]? =Ad x1:=Lu hi
 have bnd:=wd.gr.ss _ _ hi
 have H1:Co G1 X:=wd.toCo.set hi rfl bnd.1 (wd.low i x hi) (wd.wx.st i x hi)
 have K1:Mh G G1:=Tk hi rfl
 have nf1:=H1.wx.nf
 show T Γ (A.deeper (Wk L)) ⟨Bl G1++X,Wl L x.me oc (.ref x.imp) Ae Ae Ae Ae τ⟩ _ _
 have low1:∀b∈x1.bs,∀k∈Gy G1 b,k < i:=λb hb k hk=>by
  have h1:=(H1.gr.bs _ _ h1i).2 b hb
  unfold Gy at hk
  split at hk
  ·rename_i y e
   have:=H1.low b y e k hk
   lia
  ·cases hk
 refine Ao (Bo (Fo (Ac (v:=.ref x.me) (by walk_at "mem") (Pe (x:=x1) nf1 h1i (wU Γ) ⟨.inl (by kernel_rfl),Ar λws hw=>?_⟩))))
 refine(Aag nf1 H1.gr H1.inj H1.ro (hA'.le (by lia)) hh (hFt _ [] _ _ _ _ _ _) h1i low1 (λr ρ ks q1 q2 q3 q4=>?_) ws hw).T
 refine⟨_,_,by walk_at "upd",?_⟩
 refine Fh.go ?_
 have hks12:ks.length<=12:=Ca (Go _ _ q1 q2) H1.gr.few
 have a12:∀{a b:List Nat} {j:Nat},ks=a++j::b->a.length<=11:=λe=>by rw [e]at hks12;simp at hks12;lia
 have hrm:∀W ρ' T,(Ex.obj r,CO.list (Ap G1 ks))∈(⟨W,ρ'++(ρ++T)⟩:Bc).all:=λW ρ' T=>Ag (Aa _ (Ah _ q4))
 show T Γ (A.deeper (Wk L)) ⟨Bl G1++X,ρ++Wl L x.me oc (.ref x.imp) (Ad (.ref r)) Ae Ae Ae τ⟩ _ _
 refine Ao (Dn (Cf (Bd (v:=.type "tuple") (by kernel_rfl) (by decide+kernel) (by decide) ⟨.inr (.inr ⟨_,rfl⟩),?_⟩)))
 refine Ai (Ac (v:=.ref r) (by walk_at "mem") (Ar (Fv (vs:=Ap G1 ks) (hrm _ [] _) (by rw [Bb];lia) λt=>?_)))
 let x2:Nd:={x1 with st:=t,ss:=ks}
 refine Ac (v:=.ref x.me) (by walk_at "mem") λv ov hv ho=>lJ (x:=x1) (x':=x2) H1.wx h1i ho hv (eW Γ) (zK x1 t ks) rfl ?_
 refine Fh.go (T.conseq Rz ?_)
 let G2:=G1.set i x2
 let X2:List Av:=(.obj t,.tup (Ap G1 ks))::X
 have h2i:G2[i]? =Ad x2:=Lu h1i
 have K2:Mh G1 G2:=Tk h1i rfl
 have lowk:=wB H1.gr H1.low q3
 have H2:Co G2 X2:=(H1.more λe he=>.tail _ he).set h1i rfl q1 lowk (.head _)
 have nf2:=H2.wx.nf
 have er:∀l,Ap G2 l=Ap G1 l:=K2.i.refs
 show T Γ (A.deeper (Wk L)) ⟨Bl G2++X2,ρ++Wl L x.me oc (.ref x.imp) (Ad (.ref r)) Ae Ae Ae τ⟩ _ _
 refine Ao (Dn (Cf (Bd (v:=.type "tuple") (by kernel_rfl) (by decide+kernel) (by decide) ⟨.inr (.inr ⟨_,rfl⟩),?_⟩)))
 refine Ai (Wr (Ac (v:=.ref r) (by walk_at "mem") (Em (vs:=Ap G1 ks) (hrm _ [] _) λit=>?_)))
 refine⟨λj=>.ref (Gd G1 j),ks,it,_,_,λ_ _=>Bl G2++X2,λ_ _=>ρ++Wl L x.me oc (.ref x.imp) (Ad (.ref r)) Ae Ae Ae τ,λ_ ys=>ys,λa ys=>ys.length<=a.length,[],⟨rfl,rfl,Ey (vs:=Ap G1 ks) hh⟩,Hc,Cb _,rfl,λ_ _ ext _=>hrm _ ext _,λa b ys e h1=>?_,λC acc a j b ρ' ys e1 h1=>?_,λacc ys hy=>?_⟩
 ·rw [e,Aj]at hks12
  rw [Ay];lia
 ·obtain⟨y,ey⟩:=Dp (show j < G2.length by rw [K2.len];exact q2 j (by rw [e1];exact Aa _ (.head _)))
  rw [show Gd G1 j=y.me by rw [<-K2.i.me,Bu ey]]
  refine Js (Eo (Cf (Bd (v:=.builtin "isinstance") (by kernel_rfl) (by decide+kernel) (by decide) ⟨.inr (.inl ⟨_,rfl⟩),?_⟩)))
  refine Ai (Dm (v:=.ref y.me) (by walk_at "mem") (.head _) (Ai (Bn (v:=.ref 364) (by kernel_rfl) (Ar (jI nf2 ey (Fi ⟨λ_=>?_,λ_=>?_⟩))))))
  ·exact Dm (v:=.ref y.me) (by walk_at "mem") (.head _) ⟨_,_,_,Av.le_refl _,_,rfl,rfl,by rw [Aj,Aj];exact Jx h1⟩
  ·exact⟨_,_,_,Av.le_refl _,_,rfl,rfl,by rw [Aj];exact Nat.le_succ_of_le h1⟩
 refine Ar (Fv (vs:=ys) Bv (by lia) λt2=>?_)
 let x3:Nd:={x2 with iro:=.ref t2}
 refine Ac (v:=.ref x.me) (by walk_at "mem") λv ov hv ho=>lJ (x:=x2) (x':=x3) H2.wx h2i ho hv (eY Γ) (zL x2 (.ref t2)) rfl ?_
 refine Fh.go ?_
 let G3:=G2.set i x3
 have h3i:G3[i]? =Ad x3:=Lu h2i
 have K3:Mh G2 G3:=Tk h2i rfl
 have H3:Co G3 X2:=H2.set h2i rfl q1 lowk (by rw [er];exact .head _)
 let Gm:List (Int×Ab)->List Nd:=λim=>G3.set i {x3 with imps:=im}
 have hmi:∀im,(Gm im)[i]? =Ad {x3 with imps:=im}:=λim=>Lu h3i
 have Km:∀im,Mh G3 (Gm im):=λim=>Tk h3i rfl
 have er3:∀l,Ap G3 l=Ap G1 l:=λl=>(K3.i.refs l).trans (er l)
 have Hm:∀im,Co (Gm im) X2:=λim=>H3.set h3i rfl q1 lowk (by rw [er3];exact .head _)
 have e3m:Gm []=G3:=jM h3i
 show T Γ (A.deeper (Wk L)) ⟨Bl G3++X2,(.obj t2,.tup ys)::(.obj acc,.list ys)::(ρ++Wl L x.me oc (.ref x.imp) (Ad (.ref r)) Ae Ae Ae τ)⟩ _ _
 refine Ao (Sh (Ac (v:=.ref r) (by walk_at "mem") (Em (vs:=Ap G1 ks) (hrm _ [_,_] _) λit₅=>?_)))
 refine⟨λj=>.ref (Gd G1 j),ks,it₅,_,_,λ_ z=>Bl (Gm z.1)++X2,λ_ z=>z.2.2++(ρ++Wl L x.me oc (.ref x.imp) (Ad (.ref r)) z.2.1 Ae Ae τ),λa z=>z.1.length<=a.length/\vW G3 z.1 a,([],Ae,[(.obj t2,.tup ys),(.obj acc,.list ys)]),⟨rfl,by rw [e3m];rfl,Ey (vs:=Ap G1 ks) hh⟩,⟨Cb _,λk=>by simp [Fq]⟩,λ_ z _=>hrm _ z.2.2 _,?_,?_⟩
 ·intro a j b u ρi z e1 hu hz K hK
  have hj:j < G1.length:=q2 j (by rw [e1];simp)
  obtain⟨y,ey⟩:=Dp (show j < (Gm z.1).length by rw [(Km z.1).len,K3.len,K2.len];exact hj)
  have eme:Gd G1 j=y.me:=by rw [<-K2.i.me,<-K3.i.me,<-(Km z.1).i.me,Bu ey]
  have eky:y.key=Cy G3 j:=by rw [<-(Km z.1).i.key,Gj ey]
  refine Cx (hu.trans (congrArg _ eme)) (by walk_at "upd") ?_
  refine Ao (Lg (Kr (Ar ⟨by rw [Ay];exact Cg _,λe=>?_⟩)))
  refine Ac (v:=.ref x.imp) (by walk_at "mem") (Ek (x:=y) (Hm z.1).wx.nf ey (Mg Γ) (.head _) (Ac (v:=.ref y.me) (by walk_at "mem") ⟨rfl,rfl⟩) λv ov iv hv ho hi'=>Qr ho hi' hv (tI h3i) (by rw [Ay];have:=hz.1;have:=a12 e1;lia) ?_)
  refine Fh.go (Cq (hK .next _ ⟨_,_,Av.le_perm (Bf _ (Fl (a:=((.obj e,.tup []):Av)) (l₁:=ρi)).symm),(Lr z.1 y.key (.ref e),Ad (.ref y.me),(.obj e,.tup [])::z.2.2),rfl,?_,hz.2.store eky⟩))
  have:=Vo z.1 y.key (.ref e)
  have:=hz.1
  simp
  lia
 rintro⟨im,o,ρ'⟩ ⟨him1,him2⟩
 refine Cq ?_
 refine Fh.go ?_
 have e5:Gm im=G.set i {x3 with imps:=im}:=by simp [Gm,G3,G2,G1,Qo]
 have K5:Mh G (Gm im):=K1.trans (K2.trans (K3.trans (Km im)))
 have wd5:Wd (Gm im) X2:=⟨Hm im,λj y e=>by
  rcases Mw e with⟨rfl,rfl⟩|⟨hne,e⟩
  ·refine⟨by show im.length<=100;lia,λk=>?_⟩
   simp only [(Km im).i.key]
   exact him2 k
  ·have e0:G[j]? =Ad y:=by
    have:(Gm im)[j]? =Ad y:=by rw [show Gm im=G3.set i _ from rfl,Hg (Ll hne)];exact e
    rw [e5,Hg (Ll hne)]at this
    exact this
   refine⟨(wd.imp j y e0).1,λk=>?_⟩
   simp only [K5.i.key]
   exact(wd.imp j y e0).2 k⟩
 have ss5:∀j,Gy (Gm im) j=if j=i then ks else Gy G j:=λj=>by rw [e5,Wt hi]
 have ok5:∀j,j < (Gm im).length->¬P j->i∉Ge G j->Uk (Gm im) j:=by
  intro j hj hP hb
  rw [K5.len]at hj
  by_cases e:j=i
  ·subst e
   unfold Uk
   rw [ss5,if_pos rfl]
   refine q3.congr (K2.trans (K3.trans (Km im))) λb hb'=>?_
   have hbj:b≠j:=Kw (H1.gr.bs_lt hb')
   rw [ss5,if_neg hbj,Wt hi,if_neg hbj]
  ·have:=ok j hj e hP
   unfold Uk at this ⊢
   rw [ss5,if_neg e]
   refine this.congr K5 λb hb'=>?_
   rw [ss5,if_neg λq=>hb (by rw [<-q];exact hb')]
 obtain⟨dl,D,E⟩:=wd.dep i x hi
 have hdl12:dl.length<=12:=by
  have:=Go G.length _ D.nodup λd hd=>by
   obtain⟨p,hp,rfl⟩:=Bq.mp hd
   exact(D.at' p hp).1
  rw [As]at this
  have:=wd.gr.few
  lia
 have hdv:(Ex.obj x.dep,CO.idict x.deps)∈Bl (Gm im)++X2:=(Hm im).wx.nf.dep i {x3 with imps:=im} (hmi im)
 have hde:x.deps.map (λp:Int×Ab=>p.2)=dl.map λp=>Bx p.2:=by rw [D.eq,Ei];rfl
 have hdn:x.deps.length<=1000000:=by rw [D.eq,As];lia
 refine Ao (Sh (Cf (Bd (v:=.type "tuple") (by kernel_rfl) (by decide+kernel) (by decide) ⟨.inr (.inr ⟨_,rfl⟩),?_⟩)))
 refine Ai (Fo (Ek (x:={x3 with imps:=im}) (Hm im).wx.nf (hmi im) (nY Γ) (.tail _ (.tail _ (.head _))) (Ac (v:=.ref x.me) (by walk_at "mem") ⟨rfl,rfl⟩) (De Qe PySem.F.slot_dict_values PySem.F.type_dict_values (bJ (es:=x.deps) (Pj hdv)) ⟨.inr (.inl ⟨_,rfl⟩),?_⟩)))
 refine Ar (dZ (Pj hdv) λvv=>Ar λws₂ hw₂=>cX (A:=A.deeper (Wk L)) hh Bv (Pj hdv) hdn (λr6=>?_) ws₂ hw₂)
 rw [hde]
 refine(Hl (vs:=dl.map λp=>.ref p.2) (Fc.of_mem (Ag (.head _))) λit₆=>?_)
 refine⟨λp:Nat×Am=>.ref p.2,dl,it₆,_,_,λ_ z=>Bl z.1++z.2.1,λ_ z=>(.obj r6,.tup (dl.map λp=>.ref p.2))::(.obj vv,.vview x.dep)::(ρ'++(ρ++Wl L x.me oc (.ref x.imp) (Ad (.ref r)) o z.2.2.1 z.2.2.2 τ)),λa z=>ChJ G X2 P dl a z.1 z.2.1,(Gm im,X2,Ae,Ae),⟨rfl,rfl,Hj (a:=r6) hh⟩,
  ⟨wd5,K5,λe he=>he,λb e j hj hP hd=>ok5 j hj hP λhb=>hd (by rw [<-(show dl=b from e)];exact(E j).mpr hb)⟩,λ_ _ _=>.of_mem (Ag (.head _)),?_,?_⟩
 ·intro a p b u ρi z e1 hu hz K hK
  have hpm:p∈dl:=by rw [e1];exact Aa _ (.head _)
  obtain⟨hp1,hp2⟩:=D.at' p hpm
  obtain⟨y,ey⟩:=Dp (show p.1 < z.1.length by rw [hz.k.len];exact hp1)
  rw [show Gd G p.1=y.me by rw [<-hz.k.i.me,Bu ey]]at hp2
  have hip:i < p.1:=wd.gr.bs_lt ((E p.1).mp (Cz hpm))
  refine Xo hh hu (.of_mem (Pj (Aa _ (hz.sub _ (.tail _ hp2))))) (by walk_at "upd") (by walk_at "upd") ?_
  refine Ao (Gf (Fo (Ac (v:=.ref y.me) (by walk_at "mem") (Pe hz.wd.wx.nf ey (bZ Γ) ⟨.inl (by kernel_rfl),?_⟩))))
  refine Ai (Ac (v:=oc) (by walk_at "mem") (Ar λws hw=>?_))
  refine(ih (λj=>P j\/j∈b.map (·.1)) (by rw [hz.k.len];lia) hz.wd (λj hj hne hP=>hz.ok _ e1 j hj (λq=>hP (.inl q)) λq=>(Cj.mp q).elim hne λq=>hP (.inr q)) hA' hh ((hFt [] ρ oc (.ref x.imp) (Ad (.ref r)) o (Ad (.ref y.me)) (Ad (.int 1 0))).app.cons.cons.app) ey (λG'' X'' w1 w2 w3 w4=>?_) ws hw).T
  exact Fh.go (Cq (hK .next _ ⟨_,_,Av.le_refl _,(G'',X'',Ad (.ref y.me),Ad (.int 1 0)),rfl,hz.step e1 w1 w2 w3 w4⟩))
 intro z hz
 refine Cq (Cq ⟨_,Av.le_sub (τ':=τ) (Dc (l₁:=[_,_]) (Dc (Dc (.cons _ (.cons _ (.cons _ (.cons _ (.cons _ (.cons _ (.cons _ (.refl _))))))))))),h z.1 z.2.1 hz.wd hz.k (λe he=>hz.sub _ (.tail _ he)) λj hj hP=>hz.ok [] (Cr _).symm j hj hP (λq=>nomatch q)⟩)
end
end
noncomputable def Ed (G:List Nd) (X:List Av) (E:Nat->Nat->Prop):Prop:=∀(j:Nat) (x:Nd),G[j]? =Ad x->∃dl,dH G X x dl/\∀d,d∈dl.map (·.1)↔E j d
noncomputable def Nd.blank3 (x:Nd):Nd:={x with deps:=[]}
noncomputable abbrev Ip (G G':List Nd):Prop:=G.map Nd.blank3=G'.map Nd.blank3
theorem Ip.i {G G':List Nd} (h:Ip G G'):Gl G G':=by
 have:=congrArg (List.map Nd.blank2) h
 rw [Ei,Ei]at this
 exact this
theorem Ip.symm {G G':List Nd} (h:Ip G G'):Ip G' G:=Eq.symm h
theorem Ip.trans {A B C:List Nd} (h:Ip A B) (k:Ip B C):Ip A C:=Eq.trans h k
theorem Ip.at' {G G':List Nd} (h:Ip G G') {i:Nat} {x:Nd} (e:G[i]? =Ad x):∃x',G'[i]? =Ad x'/\x'.blank3=x.blank3:=by
 have:=congrArg (·[i]?) h
 simp only [Bg,e,Option.map_some]at this
 exact Db.mp this.symm
theorem Ip.len {G G':List Nd} (h:Ip G G'):G'.length=G.length:=h.i.len
theorem aS {x x':Nd} (h:x'.blank3=x.blank3):x'={x with deps:=x'.deps}:=by
 obtain⟨a,b,c,d,e,f,g,h1,h2,h3,h4,h5,h6,h7,h8,h9⟩:=x
 obtain⟨a',b',c',d',e',f',g',h1',h2',h3',h4',h5',h6',h7',h8',h9'⟩:=x'
 simp only [Nd.blank3,Nd.mk.injEq]at h ⊢
 simp [h]
set_option tactic.hygienic true in
theorem Vf {G:List Nd} {i:Nat} {x x':Nd} (h:G[i]? =Ad x) (hb:x'.blank3=x.blank3):Ip G (G.set i x'):=by
 unfold Ip
 rw [Kx,hb]
 refine(La λj=>?_).symm
 rw [Jc]
 split
 ·rename_i e
  subst e
  rw [Bg,h]
  simp [(Al.mp h).1]
 ·rfl
theorem WX.keepD {G G':List Nd} {X:List Av} (h:WX G X) (K:Ip G G'):WX G' X where
 inst i x e:=by
  obtain⟨x0,e0,hb⟩:=K.symm.at' e
  have:=aS hb
  rw [this]at e0
  exact h.inst i {x with deps:=x0.deps} e0
 bt i x e:=by
  obtain⟨x0,e0,hb⟩:=K.symm.at' e
  have:=aS hb
  rw [this]at e0
  rw [K.i.refs]
  exact h.bt i {x with deps:=x0.deps} e0
 st i x e:=by
  obtain⟨x0,e0,hb⟩:=K.symm.at' e
  have:=aS hb
  rw [this]at e0
  rw [K.i.refs]
  exact h.st i {x with deps:=x0.deps} e0
 cls i x e:=by
  obtain⟨x0,e0,hb⟩:=K.symm.at' e
  have:=aS hb
  rw [this]at e0
  exact h.cls i {x with deps:=x0.deps} e0
theorem Ip.keyInj {G G':List Nd} (K:Ip G G') (h:(G.map (·.key)).Nodup):(G'.map (·.key)).Nodup:=by rw [K.i.keys];exact h
theorem fY {G:List Nd} (h:(G.map (·.key)).Nodup) {i j:Nat} (hi:i < G.length) (hj:j < G.length) (e:Cy G i=Cy G j):i=j:=by
 obtain⟨x,ex⟩:=Dp hi
 obtain⟨y,ey⟩:=Dp hj
 rw [Gj ex,Gj ey]at e
 have h1:(G.map (·.key))[i]? =Ad x.key:=by simp [ex]
 have h2:(G.map (·.key))[j]? =Ad x.key:=by simp [ey,e]
 exact(List.getElem?_inj (by simpa using hi) h).mp (h1.trans h2.symm)
theorem dH.value {G:List Nd} {X:List Av} {y:Nd} {dl:List (Nat×Am)} (D:dH G X y dl) (hk:(G.map (·.key)).Nodup) {i:Nat} (hi:i < G.length):
  (i∈dl.map (·.1)->∃t,(i,t)∈dl/\Fq y.deps (Cy G i)=Ad (.ref t))/\(i∉dl.map (·.1)->Fq y.deps (Cy G i)=Ae):=by
 obtain⟨e,a,n⟩:=D
 rw [e]
 clear e
 induction dl with
 |nil=>exact⟨λh=>(by cases h),λ_=>rfl⟩
 |cons p r ih=>
  have hp:=(a p (.head _)).1
  rw [Ck,Fe]at n
  have ih:=ih (λq hq=>a q (.tail _ hq)) n.2
  have hv:Fq ((p::r).map λp=>(Cy G p.1,Bx p.2)) (Cy G i)=if p.1=i then Ad (.ref p.2)else Fq (r.map λp=>(Cy G p.1,Bx p.2)) (Cy G i):=by
   unfold Fq
   simp only [Ck,Ho]
   by_cases q:p.1=i
   ·simp [q]
   ·have:¬Cy G p.1=Cy G i:=λe=>q (fY hk hp hi e)
    simp [q,this]
  rw [hv]
  constructor
  ·intro h
   rw [Ck]at h
   by_cases q:p.1=i
   ·rw [if_pos q]
    exact⟨p.2,by rw [<-q];exact .head _,rfl⟩
   ·rw [if_neg q]
    rcases Cj.mp h with h|h
    ·exact absurd h.symm q
    ·obtain⟨t,h1,h2⟩:=ih.1 h
     exact⟨t,.tail _ h1,h2⟩
  ·intro h
   rw [Ck,Cj,not_or]at h
   rw [if_neg λq=>h.1 q.symm]
   exact ih.2 h.2
theorem bO {es:List (Int×Ab)} {k:Int} {v:Ab} (h:Fq es k=Ae):Lr es k v=es++[(k,v)]:=by
 unfold Lr
 rw [if_neg]
 intro q
 obtain⟨p,hp,hk⟩:=Hi.mp q
 unfold Fq at h
 rw [Option.map_eq_none_iff,List.find?_eq_none]at h
 exact h p hp hk
theorem Ed.keepD {G G':List Nd} {X:List Av} {E:Nat->Nat->Prop} (h:Ed G X E) (K:Ip G G') {j:Nat} {x:Nd} (e:G'[j]? =Ad x) {x0:Nd} (e0:G[j]? =Ad x0) (ed:x.deps=x0.deps):∃dl,dH G' X x dl/\∀d,d∈dl.map (·.1)↔E j d:=by
 obtain⟨dl,D,hE⟩:=h j x0 e0
 exact⟨dl,K.i.depL D ed,hE⟩
theorem Ed.add {G:List Nd} {X:List Av} {E:Nat->Nat->Prop} (h:Ed G X E) {j i:Nat} {y x:Nd} {t:Am} (hj:G[j]? =Ad y) (hi:G[i]? =Ad x) (hn:¬E j i):
  Ed (G.set j {y with deps:=y.deps++[(x.key,.ref t)]}) ((.obj t,.tup [.ref x.me,.int 1 0])::X) (λa b=>E a b\/(a=j/\b=i)):=by
 have K:Ip G (G.set j {y with deps:=y.deps++[(x.key,.ref t)]}):=Vf hj rfl
 have hil:=(Al.mp hi).1
 intro a z e
 rcases Mw e with⟨rfl,rfl⟩|⟨hne,e⟩
 ·obtain⟨dl,D,hE⟩:=h _ _ hj
  refine⟨dl++[(i,t)],⟨?_,?_,?_⟩,λd=>?_⟩
  ·rw [Bk]
   refine(congrArg (λl=>l++[(x.key,Bx t)]) D.eq).trans ?_
   congr 1
   ·apply Gk;intro p _;exact Prod.ext (K.i.key p.1).symm rfl
   ·show [(x.key,Bx t)]=[(Cy _ i,Bx t)]
    rw [(K.i.key i).trans (Gj hi)]
  ·intro p hp
   rw [K.len,K.i.me]
   rcases Ak.mp hp with hp|hp
   ·exact⟨(D.at' p hp).1,.tail _ (D.at' p hp).2⟩
   ·rw [Bi]at hp
    subst hp
    exact⟨hil,by rw [Bu hi];exact .head _⟩
  ·rw [Bk,Ih]
   refine⟨D.nodup,by simp,λa ha b hb q=>?_⟩
   simp at hb
   rw [q,hb]at ha
   exact hn ((hE i).mp ha)
  ·rw [Bk,Ak,hE]
   simp
 ·obtain⟨dl,D,hE⟩:=Ed.keepD h K (x:=z) (by rw [Hg (Ll hne)];exact e) e rfl
  exact⟨dl,D.more λ_ h=>.tail _ h,λd=>by rw [hE];simp [hne]⟩
theorem Ed.del {G:List Nd} {X:List Av} {E:Nat->Nat->Prop} (h:Ed G X E) (hk:(G.map (·.key)).Nodup) {j i:Nat} {y x:Nd} (hj:G[j]? =Ad y) (hi:G[i]? =Ad x):
  Ed (G.set j {y with deps:=without y.deps x.key}) X (λa b=>E a b/\¬(a=j/\b=i)):=by
 have K:Ip G (G.set j {y with deps:=without y.deps x.key}):=Vf hj rfl
 have hil:=(Al.mp hi).1
 intro a z e
 rcases Mw e with⟨rfl,rfl⟩|⟨hne,e⟩
 ·obtain⟨dl,D,hE⟩:=h _ _ hj
  have key:∀p∈dl,(Cy G p.1=x.key↔p.1=i):=λp hp=>by
   rw [<-Gj hi]
   exact⟨λq=>fY hk (D.at' p hp).1 hil q,λq=>by rw [q]⟩
  refine⟨dl.filter λp=>p.1 != i,⟨?_,?_,?_⟩,λd=>?_⟩
  ·refine(congrArg (λl=>without l x.key) D.eq).trans ?_
   unfold without
   rw [Kl]
   have hf:dl.filter ((λkv:Int×Ab=>decide (kv.1≠x.key))∘λp:Nat×Am=>(Cy G p.1,Bx p.2))=dl.filter λp=>p.1 != i:=Jd λp hp=>by
    have:=key p hp
    by_cases q:p.1=i
    ·simp [q,Gj hi]
    ·simp [q,this]
   rw [hf]
   apply Gk
   intro p _
   exact Prod.ext (K.i.key p.1).symm rfl
  ·intro p hp
   have hp:=(Cw.mp hp).1
   rw [K.len,K.i.me]
   exact D.at' p hp
  ·exact(Qp.map _ List.filter_sublist).nodup D.nodup
  ·constructor
   ·intro hd
    obtain⟨p,hp,rfl⟩:=Bq.mp hd
    obtain⟨h1,h2⟩:=Cw.mp hp
    exact⟨(hE _).mp (Cz h1),λq=>by simp [q.2]at h2⟩
   ·rintro⟨h1,h2⟩
    obtain⟨p,hp,rfl⟩:=Bq.mp ((hE d).mpr h1)
    exact Cz (f:=λq:Nat×Am=>q.1) (Cw.mpr ⟨hp,by simp;exact λq=>h2 ⟨rfl,q⟩⟩)
 ·obtain⟨dl,D,hE⟩:=Ed.keepD h K (x:=z) (by rw [Hg (Ll hne)];exact e) e rfl
  exact⟨dl,D,λd=>by rw [hE];simp [hne]⟩
section
theorem gH (Γ:Bm):Γ.K.lookup 286=Ad ⟨.type "function",Ae,.func (Kh Γ 286 "Specification.dependents" (clsStmt 13 1) (.ref 285) .none),#[]⟩:=by kernel_rfl
theorem jR (Γ:Bm):Γ.K.lookup 294=Ad ⟨.type "function",Ae,.func (Kh Γ 294 "Specification.subscribe" (clsStmt 13 2) (.ref 293) .none),#[]⟩:=by kernel_rfl
theorem dL (Γ:Bm):Γ.K.lookup 301=Ad ⟨.type "function",Ae,.func (Kh Γ 301 "Specification.unsubscribe" (clsStmt 13 3) (.ref 300) .none),#[]⟩:=by kernel_rfl
theorem Zk (Γ:Bm):eE Γ.K 364 "dependents" 287 286=true/\eE Γ.K 427 "dependents" 287 286=true:=⟨by kernel_rfl,by kernel_rfl⟩
section
variable {Γ:Bm} {A:Az} {G:List Nd} {X:List Av} {σ:Bc}
theorem iF {τ:List Av} {i:Nat} {x:Nd} (hi:G[i]? =Ad x) (de:List (Int×Ab)):Jf ⟨Bl G++X,τ⟩ (.obj x.dep) (.idict x.deps) (.idict de) ⟨Bl (G.set i {x with deps:=de})++X,τ⟩:=
 .wld ((Yo (x':={x with deps:=de}) hi (.there .here)).append)
theorem xR {W τ:List Av} {i:Nat} {x:Nd} {ov:Ab} {expr:Bool} {Q:Ab->Bc->Prop} (nf:NF W G) (hA:Rm A 2) (hi:G[i]? =Ad x) (ho:cl ov=.ref x.me) (h:Q (.ref x.dep) ⟨W,τ⟩):T Γ A ⟨W,τ⟩ (Lk ov "dependents" expr) Q:=by
 refine cN ho (Pj (nf.inst _ _ hi)) (Pj (nf.ns _ _ hi)) (p:=287) (f:=286) (by rcases nf.cls _ _ hi with e|e;rw [e];exact(Zk Γ).1;rw [e];exact(Zk Γ).2) ?_
 refine Pk (body:=fBody (clsStmt 13 1)) (bs:=[("self",.ref x.me)]) ["self"] (gH Γ) (by kernel_rfl) (hA.in1).room (Hb.plain1 λ_ _=>Cm (by rfl)) (λL=>?_) (by rfl) (by rfl) (by decide) (by rfl) (by rfl) (by rfl) _ [] rfl rfl
 show T Γ _ ⟨W,(.var L "self",.val (Ad (.ref x.me)))::τ⟩ _ _
 refine Ao (Fp (Ek (x:=x) nf hi (nY Γ) (.tail _ (.tail _ (.head _))) (Ac (v:=.ref x.me) (by walk_at "mem") ⟨rfl,rfl⟩) ?_))
 exact⟨_,Av.le_sub (.cons _ (.refl _)),rfl,h⟩
theorem oZ {W τ:List Av} {i:Nat} {x:Nd} {expr:Bool} {Q:Ab->Bc->Prop} (nf:NF W G) (hA:Rm A 2) (hi:G[i]? =Ad x) (h:Q (.ref x.dep) ⟨W,τ⟩):P1 Γ A (λo=>Lk o "dependents" expr) Q (.ref x.me) ⟨W,τ⟩:=λ_ ho=>xR (nf:=nf) (hA:=hA) (hi:=hi) (ho:=ho) (h:=h)
theorem xH {τ:List Av} {i j:Nat} {x y:Nd} {E:Nat->Nat->Prop} {Q:Ab->Bc->Prop} (wx:WX G X) (hk:(G.map (·.key)).Nodup) (few:G.length<=12) (ed:Ed G X E) (hA:Rm A 4) (hi:G[i]? =Ad x) (hj:G[j]? =Ad y) (hE:E j i)
  (h:∀G',Ip G G'->WX G' X->Ed G' X (λa b=>E a b/\¬(a=j/\b=i))->Q .none ⟨Bl G'++X,τ⟩):∀ws,ws.map cl=[.ref y.me,.ref x.me]->TC Γ A ⟨Bl G++X,τ⟩ (.ref 301) ws [] Q:=λws hw=>by
 have hil:=(Al.mp hi).1
 have nf:=wx.nf
 obtain⟨dl,D,hD⟩:=ed j y hj
 obtain⟨t,ht1,ht2⟩:=(D.value hk hil).1 ((hD i).mpr hE)
 rw [Gj hi]at ht2
 have ht3:=(D.at' _ ht1).2
 rw [Bu hi]at ht3
 have hlen:y.deps.length<=12:=by
  rw [D.eq,As]
  have:=Go G.length _ D.nodup λd hd=>by
   obtain⟨p,hp,rfl⟩:=Bq.mp hd
   exact(D.at' p hp).1
  rw [As]at this
  lia
 refine Pk (body:=fBody (clsStmt 13 3)) (bs:=[("self",.ref y.me),("dependent",.ref x.me)]) ["self","dependent","n"] (dL Γ) (by kernel_rfl) hA.room (Hb.plain2 λ_ _ _=>Cm (by rfl)) (λL=>?_) (by rfl) (by rfl) (by decide) (by rfl) (by rfl) (by rfl) ws [] hw rfl
 show T Γ (A.deeper (Gs "Specification.unsubscribe" (fScope (clsStmt 13 3)) L 301 (.ref 300) [])) ⟨Bl G++X,(.var L "self",.val (Ad (.ref y.me)))::(.var L "dependent",.val (Ad (.ref x.me)))::(.var L "n",.val Ae)::τ⟩ (Cs _ (Gs "Specification.unsubscribe" (fScope (clsStmt 13 3)) L 301 (.ref 300) [])) _
 have hA':Rm (A.deeper (Gs "Specification.unsubscribe" (fScope (clsStmt 13 3)) L 301 (.ref 300) [])) 3:=hA.deeper
 refine Ao (Bo (Bh (Bh (Ek (x:=y) nf hj (nY Γ) (.tail _ (.tail _ (.head _))) (Ac (v:=.ref y.me) (by walk_at "mem") ⟨rfl,rfl⟩) (Ek (x:=x) nf hi (Mg Γ) (.head _) (Ac (v:=.ref x.me) (by walk_at "mem") ⟨rfl,rfl⟩) (Gv<|Td (Pj (nf.dep _ _ hj)) ht2 (Dh (Gv<|Wf (.of_mem (Pj (Aa _ ht3))) (v:=.int 1 0) (by decide) (by decide) (by rfl) ⟨_,_,by walk_at "upd",?_⟩))))))))
 refine Fh.go ?_
 refine Ao (Zs (old:=.int 1 0) (by walk_at "mem") (Dh λu v hu hv=>Aaj hu hv ⟨_,_,by walk_at "upd",?_⟩))
 refine Fh.go ?_
 refine Ao (Hz (Nq (Eo (Ac (v:=.int (1 - 1) 0) (by walk_at "mem") (Xs ⟨λ_=>?_,λhb=>absurd hb (by decide)⟩)))))
 refine Ao (nR (Jg (Ac (v:=.ref y.me) (by walk_at "mem") (oZ nf (hA'.le (by decide)) hj (Ek (x:=x) nf hi (Mg Γ) (.head _) (Ac (v:=.ref x.me) (by walk_at "mem") ⟨rfl,rfl⟩) λov iv ho₂ hi₂=>cZ ho₂ hi₂ (by rw [ht2];rfl) (iF hj (without y.deps x.key)) (by rw [Ay];lia) ?_)))))
 refine Fh.go (Cq ?_)
 refine Fh.go (Cq ⟨_,Av.le_sub (τ':=τ) (.cons _ (.cons _ (.cons _ (.refl _)))),?_⟩)
 have K:Ip G (G.set j {y with deps:=without y.deps x.key}):=Vf hj rfl
 exact h _ K (wx.keepD K) (ed.del hk hj hi)
theorem Afa {τ:List Av} {i j:Nat} {x y:Nd} {E:Nat->Nat->Prop} {Q:Ab->Bc->Prop} (wx:WX G X) (hk:(G.map (·.key)).Nodup) (few:G.length<=12) (ed:Ed G X E) (hA:Rm A 4) (hi:G[i]? =Ad x) (hj:G[j]? =Ad y) (hE:¬E j i)
  (h:∀G' X',Ip G G'->(∀e∈X,e∈X')->WX G' X'->Ed G' X' (λa b=>E a b\/(a=j/\b=i))->Q .none ⟨Bl G'++X',τ⟩):∀ws,ws.map cl=[.ref y.me,.ref x.me]->TC Γ A ⟨Bl G++X,τ⟩ (.ref 294) ws [] Q:=λws hw=>by
 have hil:=(Al.mp hi).1
 have nf:=wx.nf
 obtain⟨dl,D,hD⟩:=ed j y hj
 have hvn:=(D.value hk hil).2 (λq=>hE ((hD i).mp q))
 rw [Gj hi]at hvn
 have hlen:y.deps.length<=12:=by
  rw [D.eq,As]
  have:=Go G.length _ D.nodup λd hd=>by
   obtain⟨p,hp,rfl⟩:=Bq.mp hd
   exact(D.at' p hp).1
  rw [As]at this
  lia
 refine Pk (body:=fBody (clsStmt 13 2)) (bs:=[("self",.ref y.me),("dependent",.ref x.me)]) ["self","dependent"] (jR Γ) (by kernel_rfl) hA.room (Hb.plain2 λ_ _ _=>Cm (by rfl)) (λL=>?_) (by rfl) (by rfl) (by decide) (by rfl) (by rfl) (by rfl) ws [] hw rfl
 show T Γ (A.deeper (Gs "Specification.subscribe" (fScope (clsStmt 13 2)) L 294 (.ref 293) [])) ⟨Bl G++X,(.var L "self",.val (Ad (.ref y.me)))::(.var L "dependent",.val (Ad (.ref x.me)))::τ⟩ (Cs _ (Gs "Specification.subscribe" (fScope (clsStmt 13 2)) L 294 (.ref 293) [])) _
 have hA':Rm (A.deeper (Gs "Specification.subscribe" (fScope (clsStmt 13 2)) L 294 (.ref 293) [])) 3:=hA.deeper
 refine Ao (Lg (Kr (Ai (Ac (v:=.ref x.me) (by walk_at "mem") (Ai (En (Bh (Fo (Jg (Ac (v:=.ref y.me) (by walk_at "mem") (oZ nf (hA'.le (by decide)) hj (De Qe PySem.F.slot_dict_get PySem.F.type_dict_get (bJ (es:=y.deps) (Pj (nf.dep _ _ hj))) ⟨.inr (.inl ⟨_,rfl⟩),?_⟩))))))))))))
 refine Ai (Ek (x:=x) nf hi (Mg Γ) (.head _) (Ac (v:=.ref x.me) (by walk_at "mem") ⟨rfl,rfl⟩) (Ai (Kr (k:=0) (Ai (Ka (k:=0) (pos:=⟨0,0,0,0⟩) (Ai (Dh (k:=0) (pos:=⟨0,0,0,0⟩) (Ar ⟨by rw [Ay];exact Ce rfl,λt0=>?_⟩))))))))
 refine Ar (kP (Pj (nf.dep _ _ hj)) ?_)
 rw [hvn]
 refine Dh (Gv<|Wf (.of_mem (Bv)) (v:=.int 0 0) (by decide) (by decide) (by rfl) ?_)
 refine Dh (Rl ?_)
 refine Ar ⟨by rw [Ay];exact Ce rfl,λt=>?_⟩
 refine Ek (x:=y) nf hj (nY Γ) (.tail _ (.tail _ (.head _))) (Ac (v:=.ref y.me) (by walk_at "mem") ⟨rfl,rfl⟩) ?_
 refine Ek (x:=x) nf hi (Mg Γ) (.head _) (Ac (v:=.ref x.me) (by walk_at "mem") ⟨rfl,rfl⟩) λv ov iv hv ho hi'=>Qr ho hi' hv (iF hj (Lr y.deps x.key (.ref t))) (by rw [Ay];lia) ?_
 refine Fh.go (Cq ⟨_,Av.le_trans (Av.le_sub (τ':=τ) (.cons _ (.cons _ (.cons _ (.refl _))))) Rz,?_⟩)
 rw [bO hvn]
 have K:Ip G (G.set j {y with deps:=y.deps++[(x.key,.ref t)]}):=Vf hj rfl
 exact h _ _ K (λe he=>.tail _ he) ((wx.keepD K).more λe he=>.tail _ he) (ed.add hj hi hE)
end
end
theorem Ed.congr {G:List Nd} {X:List Av} {E E':Nat->Nat->Prop} (h:Ed G X E) (k:∀a b,E a b↔E' a b):Ed G X E':=λj x e=>let⟨dl,D,hE⟩:=h j x e;⟨dl,D,λd=>(hE d).trans (k j d)⟩
noncomputable def dE (G:List Nd) (j:Nat):Prop:=∀k,k∈Gy G j↔k=j\/k=0\/∃b∈Ge G j,k∈Gy G b
theorem dE.ok {G:List Nd} {j:Nat} (h:dE G j):Uk G j:=by
 refine⟨j::(Ge G j).flatMap (Gy G),.inl ⟨λk hk=>?_,λk hk=>?_⟩,λk=>?_⟩
 ·rcases Cj.mp hk with h|h
  ·exact .inl h
  ·exact .inr (.inr (Fm.mp h))
 ·rcases hk with h|h
  ·rw [h];exact .head _
  ·exact .tail _ (Fm.mpr h)
 ·rw [h k,Cj,Fm]
  constructor
  ·rintro(h|h|h)
   ·exact .inl (.inl h)
   ·exact .inr h
   ·exact .inl (.inr h)
  ·rintro((h|h)|h)
   ·exact .inl h
   ·exact .inr (.inr h)
   ·exact .inr (.inl h)
theorem Sn {G:List Nd} (g:Gr G) {m:Nat} (hm:m<=G.length) (h:∀j,j < m->Uk G j):∀(n j:Nat),j<=n->j < m->∀k,k∈Gy G j↔Ia G j k\/k=0:=by
 intro n
 induction n with
 |zero=>
  intro j hj hl k
  obtain⟨ks₀,h1,h2⟩:=h j hl
  rw [h2]
  have hb:Ge G j=[]:=by
   cases e:Ge G j with
   |nil=>rfl
   |cons b r=>have:=g.bs_lt (j:=j) (b:=b) (by rw [e];exact .head _);lia
  refine or_congr ?_ Iff.rfl
  rcases h1 with⟨a1,a2⟩|a
  ·rw [Ia.cases',hb]
   constructor
   ·intro hk
    rcases a1 k hk with h|h|⟨b,h,_⟩
    ·exact .inl h
    ·rw [hb]at h;cases h
    ·rw [hb]at h;cases h
   ·rintro(h|⟨b,h,_⟩)
    ·exact a2 k (.inl h)
    ·cases h
  ·exact a k
 |succ n ih=>
  intro j hj hl k
  obtain⟨ks₀,h1,h2⟩:=h j hl
  rw [h2]
  have ihb:∀b∈Ge G j,∀k,k∈Gy G b↔Ia G b k\/k=0:=λb hb=>by
   have:=g.bs_lt hb
   exact ih b (by lia) (by lia)
  rcases h1 with⟨a1,a2⟩|a
  ·rw [Ia.cases']
   constructor
   ·rintro(hk|h)
    ·rcases a1 k hk with h|h|⟨b,hb,h⟩
     ·exact .inl (.inl h)
     ·exact .inl (.inr ⟨k,h,.refl _⟩)
     ·rcases(ihb b hb k).mp h with h|h
      ·exact .inl (.inr ⟨b,hb,h⟩)
      ·exact .inr h
    ·exact .inr h
   ·rintro((h|⟨b,hb,h⟩)|h)
    ·exact .inl (a2 k (.inl h))
    ·exact .inl (a2 k (.inr ⟨b,hb,(ihb b hb k).mpr (.inl h)⟩))
    ·exact .inr h
  ·rw [a k]
theorem Rn {G:List Nd} (g:Gr G) {m:Nat} (hm:m<=G.length) (h:∀j,j < m->Uk G j) {j:Nat} (hj:j < m):dE G j:=λk=>by
 rw [Sn g hm h j j (Cb _) hj,Ia.cases']
 constructor
 ·rintro((h'|⟨b,hb,h'⟩)|h')
  ·exact .inl h'
  ·have:=g.bs_lt hb
   exact .inr (.inr ⟨b,hb,(Sn g hm h b b (Cb _) (by lia) k).mpr (.inl h')⟩)
  ·exact .inr (.inl h')
 ·rintro(h'|h'|⟨b,hb,h'⟩)
  ·exact .inl (.inl h')
  ·exact .inr h'
  ·have:=g.bs_lt hb
   rcases(Sn g hm h b b (Cb _) (by lia) k).mp h' with h'|h'
   ·exact .inl (.inr ⟨b,hb,h'⟩)
   ·exact .inr h'
noncomputable def Nd.blank4 (x:Nd):Nd:={x with st:=0,ss:=[],iro:=.none,imps:=[],deps:=[]}
noncomputable abbrev Jq (G G':List Nd):Prop:=G.map Nd.blank4=G'.map Nd.blank4
theorem Mh.j {G G':List Nd} (h:Mh G G'):Jq G G':=by
 have:=congrArg (List.map Nd.blank4) h
 rw [Ei,Ei]at this
 exact this
theorem Ip.j {G G':List Nd} (h:Ip G G'):Jq G G':=by
 have:=congrArg (List.map Nd.blank4) h
 rw [Ei,Ei]at this
 exact this
theorem Jq.i {G G':List Nd} (h:Jq G G'):Gl G G':=by
 have:=congrArg (List.map Nd.blank2) h
 rw [Ei,Ei]at this
 exact this
theorem Jq.trans {A B C:List Nd} (h:Jq A B) (k:Jq B C):Jq A C:=Eq.trans h k
theorem Jq.at' {G G':List Nd} (h:Jq G G') {i:Nat} {x:Nd} (e:G[i]? =Ad x):∃x',G'[i]? =Ad x'/\x'.blank4=x.blank4:=by
 have:=congrArg (·[i]?) h
 simp only [Bg,e,Option.map_some]at this
 exact Db.mp this.symm
theorem Aff {x x':Nd} (h:x'.blank4=x.blank4):x'.bs=x.bs:=by have:=congrArg Nd.bs h;exact this
theorem Jq.bs {G G':List Nd} (h:Jq G G') (j:Nat):Ge G' j=Ge G j:=by
 unfold Ge
 cases e:G[j]?with
 |Ae=>rw [Uq h.i.len e]
 |Ad x=>obtain⟨x',e',hb⟩:=h.at' e;rw [e'];exact Aff hb
theorem pL {G G1:List Nd} (K:Ip G G1) {i:Nat} {x x1:Nd} (hi:G[i]? =Ad x) (h1:G1[i]? =Ad x1) {bt:Am} {bs:List Nat}:Ip (G.set i {x with bt:=bt,bs:=bs}) (G1.set i {x1 with bt:=bt,bs:=bs}):=by
 obtain⟨x0,e0,hb⟩:=K.at' hi
 rw [h1]at e0
 cases e0
 have:=aS hb
 unfold Ip at *
 rw [Kx,Kx,K]
 congr 1
 rw [this]
 rfl
theorem lP {G G':List Nd} (K:Ip G G') (j:Nat):Gy G' j=Gy G j:=by
 unfold Gy
 cases e:G[j]?with
 |Ae=>rw [Uq K.len e]
 |Ad x=>obtain⟨x',e',hb⟩:=K.at' e;rw [e',aS hb]
theorem Xb {G:List Nd} {i j:Nat} {x x':Nd} (h:G[i]? =Ad x):Ge (G.set i x') j=if j=i then x'.bs else Ge G j:=by
 unfold Ge
 by_cases e:j=i
 ·subst e;rw [Lu h,if_pos rfl]
 ·rw [if_neg e,Hg (Ll e)]
theorem Wd.rebase {G G2:List Nd} {X X2:List Av} (wd:Wd G X) {i:Nat} {x:Nd} {bt:Am} {bs:List Nat} (hi:G[i]? =Ad x) (K:Ip (G.set i {x with bt:=bt,bs:=bs}) G2) (wx:WX G2 X2) (ed:Ed G2 X2 λa b=>a∈Ge G2 b) (hn:bs.Nodup) (hl:∀b∈bs,b < i):Wd G2 X2:=by
 have K0:Gl G (G.set i {x with bt:=bt,bs:=bs}):=Mb hi rfl
 have KI:Gl G G2:=K0.trans K.i
 have look:∀(j:Nat) (y:Nd),G2[j]? =Ad y->∃y₀,G[j]? =Ad y₀/\y.ss=y₀.ss/\y.imps=y₀.imps/\((j=i/\y.bs=bs)\/y.bs=y₀.bs):=λj y e=>by
  obtain⟨y₁,e₁,hb⟩:=K.symm.at' e
  have:=aS hb
  rcases Mw e₁ with⟨rfl,rfl⟩|⟨hne,e₂⟩
  ·refine⟨x,hi,?_,?_,.inl ⟨rfl,?_⟩⟩
   ·have:=congrArg Nd.ss hb;exact this.symm
   ·have:=congrArg Nd.imps hb;exact this.symm
   ·have:=congrArg Nd.bs hb;exact this.symm
  ·refine⟨y₁,e₂,?_,?_,.inr ?_⟩
   ·have:=congrArg Nd.ss hb;exact this.symm
   ·have:=congrArg Nd.imps hb;exact this.symm
   ·have:=congrArg Nd.bs hb;exact this.symm
 refine⟨⟨wx,⟨?_,?_,?_,?_⟩,KI.inj wd.inj,KI.root wd.ro,?_,ed⟩,?_⟩
 ·rw [KI.keys];exact wd.gr.keys
 ·intro j y e
  obtain⟨y₀,e₀,_,_,h|h⟩:=look j y e
  ·rw [h.2,h.1];exact⟨hn,hl⟩
  ·rw [h];exact wd.gr.bs _ _ e₀
 ·intro j y e
  obtain⟨y₀,e₀,h,_⟩:=look j y e
  rw [h,KI.len];exact wd.gr.ss _ _ e₀
 ·rw [KI.len];exact wd.gr.few
 ·intro j y e
  obtain⟨y₀,e₀,h,_⟩:=look j y e
  rw [h];exact wd.low _ _ e₀
 ·intro j y e
  obtain⟨y₀,e₀,h,h2,_⟩:=look j y e
  unfold aT
  rw [h,h2]
  refine⟨(wd.imp _ _ e₀).1,λk=>?_⟩
  simp only [KI.key]
  exact(wd.imp _ _ e₀).2 k
section
theorem mK (Γ:Bm):Γ.K.lookup 308=Ad ⟨.type "function",Ae,.func (Kh Γ 308 "Specification.setBases" (clsStmt 13 4) (.ref 307) .none),#[]⟩:=by kernel_rfl
theorem uD (Γ:Bm):aO Γ "unsubscribe" 301:=⟨by kernel_rfl,by kernel_rfl⟩
theorem zR (Γ:Bm):aO Γ "subscribe" 294:=⟨by kernel_rfl,by kernel_rfl⟩
theorem Zl (Γ:Bm):dI Γ "bases" :=⟨by kernel_rfl,by kernel_rfl⟩
theorem tT (x:Nd) (t:Am) (bs:List Nat):Oq "bases" (.ref t) (Ng x) (Ng {x with bt:=t,bs:=bs}):=.there (.there (.there .here))
structure UnJ (G:List Nd) (X:List Av) (i:Nat) (a:List Nat) (G':List Nd):Prop where
 k:Ip G G'
 wx:WX G' X
 ed:Ed G' X λp q=>p∈Ge G q/\¬(q=i/\p∈a)
structure SuJ (G G2:List Nd) (X:List Av) (i:Nat) (a:List Nat) (G':List Nd) (X':List Av):Prop where
 k:Ip G2 G'
 sub:∀e∈X,e∈X'
 wx:WX G' X'
 ed:Ed G' X' λp q=>(p∈Ge G q/\q≠i)\/(q=i/\p∈a)
theorem bS {l a b:List Nat} {j:Nat} (h:l.Nodup) (e:l=a++j::b):j∉a:=by
 rw [e,Ih]at h
 exact λq=>h.2.2 j q j (.head _) rfl
noncomputable abbrev sbV (L me bt:Am) (o:Option Ab) (τ:List Av):List Av:=(.var L "self",.val (Ad (.ref me)))::(.var L "bases",.val (Ad (.ref bt)))::(.var L "b",.val o)::τ
noncomputable abbrev hO (L:Am):Env:=Gs "Specification.setBases" (fScope (clsStmt 13 4)) L 308 (.ref 307) []
section
variable {Γ:Bm} {A:Az} {G:List Nd} {X:List Av} {σ:Bc}
set_option tactic.hygienic true in
theorem Wb {τ:List Av} {i:Nat} {x:Nd} {bt:Am} {bs:List Nat} {Q:Ab->Bc->Prop} (wd:Wd G X) (lc:∀j,j < G.length->j≠i->dE G j) (hA:Rm A 30) (hh:A.handled=Ae) (hF:AF A ⟨[],τ⟩) (hi:G[i]? =Ad x) (hb:Vv X bt (Ap G bs)) (hn:bs.Nodup) (hl:∀b∈bs,b < i)
  (h:∀G' X',Wd G' X'->Jq (G.set i {x with bt:=bt,bs:=bs}) G'->(∀e∈X,e∈X')->(∀j,j < G'.length->Uk G' j)->Q .none ⟨Bl G'++X',τ⟩):∀ws,ws.map cl=[.ref x.me,.ref bt]->TC Γ A ⟨Bl G++X,τ⟩ (.ref 308) ws [] Q:=λws hw=>by
 have hil:=(Al.mp hi).1
 have few:=wd.gr.few
 refine Pk (body:=fBody (clsStmt 13 4)) (bs:=[("self",.ref x.me),("bases",.ref bt)]) ["self","bases","b"] (mK Γ) (by kernel_rfl) hA.room (Hb.plain2 λ_ _ _=>Cm (by rfl)) (λL=>?_) (by rfl) (by rfl) (by decide) (by rfl) (by rfl) (by rfl) ws [] hw rfl
 show T Γ (A.deeper (hO L)) ⟨Bl G++X,sbV L x.me bt Ae τ⟩ (Cs _ (hO L)) _
 have hA':Rm (A.deeper (hO L)) 29:=hA.deeper
 have blt:∀b∈x.bs,b < G.length:=λb hb=>Jo ((wd.gr.bs _ _ hi).2 b hb) hil
 refine Ao (Sh (Ek (x:=x) wd.wx.nf hi (Qg Γ) (.tail _ (.tail _ (.tail _ (.head _)))) (Ac (v:=.ref x.me) (by walk_at "mem") ⟨rfl,rfl⟩) (Hl (vs:=Ap G x.bs) ((wd.wx.nf.bt _ _ hi).tup) λit=>?_)))
 refine⟨λj=>.ref (Gd G j),x.bs,it,_,_,λ_ z=>Bl z.1++X,λ_ z=>sbV L x.me bt z.2 τ,λa z=>UnJ G X i a z.1,(G,Ae),⟨rfl,rfl,Hj (a:=x.bt) (vs:=Ap G x.bs) hh⟩,
  ⟨rfl,wd.wx,Ed.congr (G:=G) wd.dep λa b=>⟨λh=>⟨h,λq=>nomatch q.2⟩,And.left⟩⟩,λ_ _ _=>(wd.wx.bt _ _ hi).right.tup,λa j b u ρ z e1 hu hz K hK=>?_,λz hz=>?_⟩
 ·have hj:j∈x.bs:=by rw [e1];exact Aa _ (.head _)
  obtain⟨x',ex,hbx⟩:=hz.k.at' hi
  have hxme:x'.me=x.me:=by have:=congrArg Nd.me hbx;exact this
  obtain⟨y,ey⟩:=Dp (show j < z.1.length by rw [hz.k.len];exact blt j hj)
  rw [show Gd G j=y.me by rw [<-hz.k.i.me,Bu ey]]at hu
  refine Cx hu (by walk_at "upd") ?_
  refine Ao (Gf (Fo (Ac (v:=.ref y.me) (by walk_at "mem") (Pe hz.wx.nf ey (uD Γ) ⟨.inl (by kernel_rfl),?_⟩))))
  refine Ai (Ac (v:=.ref x.me) (by walk_at "mem") (Ar λws hw=>?_))
  refine(xH hz.wx (hz.k.keyInj wd.gr.keys) (by rw [hz.k.len];exact few) hz.ed (hA'.le (by decide)) ex ey ⟨by rw [Qh hi];exact hj,λq=>bS (wd.gr.bs _ _ hi).1 e1 q.2⟩ (λG'' K' wx' ed'=>?_) ws (by rw [hxme];exact hw)).T
  refine Fh.go (Cq (hK .next _ ⟨_,_,Av.le_refl _,(G'',Ad (.ref y.me)),rfl,hz.k.trans K',wx',ed'.congr λa' b'=>?_⟩))
  rw [Ak,Bi]
  exact⟨λh=>⟨h.1.1,λq=>q.2.elim (λr=>h.1.2 ⟨q.1,r⟩) λr=>h.2 ⟨r,q.1⟩⟩,λh=>⟨⟨h.1,λq=>h.2 ⟨q.1,.inl q.2⟩⟩,λq=>h.2 ⟨q.2,.inr q.1⟩⟩⟩
 obtain⟨K1,wx1,ed1⟩:=hz
 generalize z.1=G1 at *
 generalize z.2=o at *
 refine Cq (Fh.go ?_)
 obtain⟨x1,ex1,hb1⟩:=K1.at' hi
 have hx1me:x1.me=x.me:=by have:=congrArg Nd.me hb1;exact this
 let G2:=G1.set i {x1 with bt:=bt,bs:=bs}
 refine Ao (Dn (Ac (v:=.ref bt) (by walk_at "mem") (Ac (v:=.ref x.me) (by walk_at "mem") λv ov hv ho=>lJ (x:=x1) (x':={x1 with bt:=bt,bs:=bs}) wx1 ex1 (by rw [hx1me];exact ho) hv (Zl Γ) (tT x1 bt bs) rfl ?_)))
 refine Fh.go ?_
 have KD2:Ip (G.set i {x with bt:=bt,bs:=bs}) G2:=pL K1 hi ex1
 have K02:Gl G1 G2:=Mb ex1 rfl
 have KI2:Gl G G2:=K1.i.trans K02
 have wx2:WX G2 X:=by
  refine⟨λj y e=>?_,λj y e=>?_,λj y e=>?_,λj y e=>?_⟩
  ·rcases Mw e with⟨rfl,rfl⟩|⟨_,e⟩
   ·exact wx1.inst _ x1 ex1
   ·exact wx1.inst _ _ e
  ·rw [K02.refs]
   rcases Mw e with⟨rfl,rfl⟩|⟨_,e⟩
   ·rw [K1.i.refs];exact hb
   ·exact wx1.bt _ _ e
  ·rw [K02.refs]
   rcases Mw e with⟨rfl,rfl⟩|⟨_,e⟩
   ·exact wx1.st _ x1 ex1
   ·exact wx1.st _ _ e
  ·rcases Mw e with⟨rfl,rfl⟩|⟨_,e⟩
   ·exact wx1.cls _ x1 ex1
   ·exact wx1.cls _ _ e
 have ed2:Ed G2 X (λa b=>a∈Ge G b/\b≠i):=by
  intro j y e
  have key:∃y₀,G1[j]? =Ad y₀/\y.deps=y₀.deps:=by
   rcases Mw e with⟨rfl,rfl⟩|⟨_,e⟩
   ·exact⟨x1,ex1,rfl⟩
   ·exact⟨y,e,rfl⟩
  obtain⟨y₀,e₀,hd⟩:=key
  obtain⟨dl,D,hE⟩:=ed1 j y₀ e₀
  refine⟨dl,K02.depL D hd,λd=>(hE d).trans ?_⟩
  constructor
  ·rintro⟨h1,h2⟩
   exact⟨h1,λq=>h2 ⟨q,by rw [q,Qh hi]at h1;exact h1⟩⟩
  ·rintro⟨h1,h2⟩
   exact⟨h1,λq=>h2 q.1⟩
 show T Γ (A.deeper (hO L)) ⟨Bl G2++X,sbV L x.me bt o τ⟩ _ _
 refine Ao (Sh (Ac (v:=.ref bt) (by walk_at "mem") (Hl (vs:=Ap G bs) (hb.right.tup) λit=>?_)))
 refine⟨λj=>.ref (Gd G j),bs,it,_,_,λ_ z=>Bl z.1++z.2.1,λ_ z=>sbV L x.me bt z.2.2 τ,λa z=>SuJ G G2 X i a z.1 z.2.1,(G2,X,o),⟨rfl,rfl,Hj (a:=bt) (vs:=Ap G bs) hh⟩,
  ⟨rfl,λe he=>he,wx2,ed2.congr λa b=>⟨.inl,λh=>h.elim id λq=>nomatch q.2⟩⟩,λ_ z hz=>(hb.more hz.sub).right.tup,λa j b u ρ z e1 hu hz K hK=>?_,λz hz=>?_⟩
 ·have hj:j∈bs:=by rw [e1];exact Aa _ (.head _)
  have KI:=KI2.trans hz.k.i
  obtain⟨x',ex,hbx⟩:=KI.at' hi
  obtain⟨y,ey⟩:=Dp (show j < z.1.length by rw [KI.len];exact Jo (hl j hj) hil)
  rw [show Gd G j=y.me by rw [<-KI.me,Bu ey]]at hu
  refine Cx hu (by walk_at "upd") ?_
  refine Ao (Gf (Fo (Ac (v:=.ref y.me) (by walk_at "mem") (Pe hz.wx.nf ey (zR Γ) ⟨.inl (by kernel_rfl),?_⟩))))
  refine Ai (Ac (v:=.ref x.me) (by walk_at "mem") (Ar λws hw=>?_))
  refine(Afa hz.wx (by rw [KI.keys];exact wd.gr.keys) (by rw [KI.len];exact few) hz.ed (hA'.le (by decide)) ex ey (λq=>q.elim (λq=>q.2 rfl) λq=>bS hn e1 q.2) (λG'' X'' K' sub' wx' ed'=>?_) ws (by rw [iB hbx];exact hw)).T
  refine Fh.go (Cq (hK .next _ ⟨_,_,Av.le_refl _,(G'',X'',Ad (.ref y.me)),rfl,hz.k.trans K',λe he=>sub' _ (hz.sub _ he),wx',ed'.congr λa' b'=>?_⟩))
  rw [Ak,Bi]
  exact⟨λh=>h.elim (λh=>h.imp id λq=>⟨q.1,.inl q.2⟩) λq=>.inr ⟨q.2,.inr q.1⟩,λh=>h.elim (λh=>.inl (.inl h)) λq=>q.2.elim (λr=>.inl (.inr ⟨q.1,r⟩)) λr=>.inr ⟨r,q.1⟩⟩
 obtain⟨K3,sub3,wx3,ed3⟩:=hz
 generalize z.1=G3 at *
 generalize z.2.1=X3 at *
 clear o
 generalize z.2.2=o at *
 refine Cq (Fh.go ?_)
 have KD3:Ip (G.set i {x with bt:=bt,bs:=bs}) G3:=KD2.trans K3
 have hbs3:∀j,Ge G3 j=if j=i then bs else Ge G j:=λj=>by rw [KD3.j.bs,Xb hi]
 have wd3:Wd G3 X3:=wd.rebase hi KD3 wx3 (ed3.congr λa b=>by
  rw [hbs3]
  by_cases q:b=i
  ·simp [q]
  ·simp [q]) hn hl
 have hss3:∀j,Gy G3 j=Gy G j:=λj=>by
  rw [lP KD3,Wt hi]
  split
  ·rename_i q;rw [q,Wo hi]
  ·rfl
 obtain⟨x3,ex3,hb3⟩:=(KI2.trans K3.i).at' hi
 have hx3me:x3.me=x.me:=iB hb3
 have hlen3:G3.length=G.length:=(KI2.trans K3.i).len
 have hFt:AF (A.deeper (hO L)) ⟨[],sbV L x.me bt o τ⟩:=hF.push rfl rfl (L:=L) (x:="self") (c:=Ad (.ref x.me)) (by walk_at "mem") λp hp=>.tail _ (.tail _ (.tail _ hp))
 refine Ao (Gf (Fo (Ac (v:=.ref x3.me) (by rw [hx3me];walk_at "mem") (Pe wd3.wx.nf ex3 (bZ Γ) ⟨.inl (by kernel_rfl),?_⟩))))
 refine Ai (Ac (v:=.ref x.me) (by walk_at "mem") (Ar λws hw=>?_))
 refine(rH 12 (τ:=sbV L x.me bt o τ) (λ_=>False) (by rw [hlen3];lia) wd3 (λj hj hne _=>?_) (hA'.le (by decide)) hh hFt ex3 (λG' X' w1 w2 w3 w4=>?_) ws hw).T
 ·refine dE.ok λk=>?_
  rw [hlen3]at hj
  rw [hss3,hbs3,if_neg hne,lc j hj hne k]
  simp only [hss3]
 ·refine Fh.go (Cq ⟨_,Av.le_sub (τ':=τ) (.cons _ (.cons _ (.cons _ (.refl _)))),h G' X' w1 (KD3.j.trans w2.j) (λe he=>w3 _ (sub3 _ he)) λj hj=>w4 j hj λq=>q⟩)
end
end
section
section
variable {Γ:Bm}
theorem zZ {G:List Nd} {X τ:List Av} {s:Be} (R:Eg Γ ⟨Bl G++X,τ⟩ s) (wx:WX G X):pB G:=by
 have hp:(Bl G).Pairwise Ul:=by
  have:=R.sep
  have h2:((Bl G++X)++τ).Pairwise Ul:=this
  rw [Ba]at h2
  exact(Lc.mp h2).1
 unfold Bl at hp
 rw [List.pairwise_flatMap]at hp
 have key:∀(i j:Nat) (x y:Nd),i < j->G[i]? =Ad x->G[j]? =Ad y->x.d≠y.d:=by
  intro i j x y hij e1 e2 hd
  obtain⟨h1,r1⟩:=Al.mp e1
  obtain⟨h2,r2⟩:=Al.mp e2
  have:=(List.pairwise_iff_getElem.mp hp.2) i j h1 h2 hij (.obj x.d,.ns (Ng x)) (by rw [r1];exact .head _) (.obj y.d,.ns (Ng y)) (by rw [r2];exact .head _)
  rcases this with h|⟨h,_⟩|⟨_,_,_,h,_⟩
  ·exact h (by show((true,x.d):Bool×Nat)=(true,y.d);rw [hd])
  ·cases h
  ·cases h
 intro i j x y e1 e2 hm
 have g1:s.heap.get? x.me=Ad (Pd x.C x.d):=(R.ents _ (Pj (wx.nf.inst _ _ e1))).1
 have g2:s.heap.get? y.me=Ad (Pd y.C y.d):=(R.ents _ (Pj (wx.nf.inst _ _ e2))).1
 rw [hm,g2]at g1
 have hd:y.d=x.d:=by
  have h1:=Dl g1
  unfold Pd at h1
  injection h1 with _ h2 _ _
  exact Dl h2
 rcases Nat.lt_trichotomy i j with h|h|h
 ·exact absurd hd.symm (key i j x y h e1 e2)
 ·exact h
 ·exact absurd hd (key j i y x h e2 e1)
end
theorem fC (G:List Nd) (x:Nd):Bl (G++[x])=Bl G++x.ents:=by unfold Bl;rw [Jl];simp
theorem Aai {G:List Nd} {x:Nd} {i:Nat} {y:Nd} (h:G[i]? =Ad y):(G++[x])[i]? =Ad y:=by
 rw [Ft (Al.mp h).1];exact h
theorem Sl (G:List Nd) (x:Nd):(G++[x])[G.length]? =Ad x:=by simp
theorem Mu {G:List Nd} {x:Nd} {i:Nat} {y:Nd} (h:(G++[x])[i]? =Ad y):G[i]? =Ad y\/(i=G.length/\y=x):=by
 rcases Oh i G.length with hi|hi
 ·rw [Ft hi]at h;exact .inl h
 ·have h1:=(Al.mp h).1
  have:i=G.length:=by simp at h1;lia
  subst this
  rw [Sl]at h
  exact .inr ⟨rfl,(Dl h).symm⟩
theorem aK {G:List Nd} {x:Nd} {j:Nat} (h:j < G.length):(G++[x])[j]? =G[j]? :=Ft h
theorem Th {G:List Nd} {x:Nd} {j:Nat} (h:j < G.length):Gd (G++[x]) j=Gd G j:=by unfold Gd;rw [aK h]
theorem Yl {G:List Nd} {x:Nd} {j:Nat} (h:j < G.length):Cy (G++[x]) j=Cy G j:=by unfold Cy;rw [aK h]
theorem bM {G:List Nd} {x:Nd} {j:Nat} (h:j < G.length):Ge (G++[x]) j=Ge G j:=by unfold Ge;rw [aK h]
theorem aX {G:List Nd} {x:Nd} {j:Nat} (h:j < G.length):Gy (G++[x]) j=Gy G j:=by unfold Gy;rw [aK h]
theorem Up {G:List Nd} {x:Nd} {l:List Nat} (h:∀j∈l,j < G.length):Ap (G++[x]) l=Ap G l:=by
 unfold Ap;apply Gk;intro j hj;rw [Th (h j hj)]
theorem WX.new {G:List Nd} {X X':List Av} {x:Nd} (wd:Wd G X) (sub:∀e∈X,e∈X') (hin:(Ex.obj x.me,CO.inst x.C x.d)∈X') (hC:x.C=364\/x.C=427) (hbt:(Ex.obj x.bt,CO.tup [])∈X') (hst:(Ex.obj x.st,CO.tup [])∈X') (hbs:x.bs=[]) (hss:x.ss=[]):WX (G++[x]) X':=by
 have blt:∀(i:Nat) (y:Nd),G[i]? =Ad y->∀b∈y.bs,b < G.length:=λi y e b hb=>Jo ((wd.gr.bs _ _ e).2 b hb) (Al.mp e).1
 refine⟨?_,?_,?_,?_⟩
 ·intro i y e
  rcases Mu e with e|⟨rfl,rfl⟩
  ·exact sub _ (wd.wx.inst _ _ e)
  ·exact hin
 ·intro i y e
  rcases Mu e with e|⟨rfl,rfl⟩
  ·rw [Up (blt i y e)];exact(wd.wx.bt _ _ e).more sub
  ·rw [hbs];exact .inl hbt
 ·intro i y e
  rcases Mu e with e|⟨rfl,rfl⟩
  ·rw [Up (wd.gr.ss _ _ e).2];exact sub _ (wd.wx.st _ _ e)
  ·rw [hss];exact hst
 ·intro i y e
  rcases Mu e with e|⟨rfl,rfl⟩
  ·exact wd.wx.cls _ _ e
  ·exact hC
theorem dE.app {G:List Nd} {x:Nd} (g:Gr G) {j:Nat} (hj:j < G.length) (h:dE G j):dE (G++[x]) j:=λk=>by
 rw [aX hj,h k,bM hj]
 refine or_congr Iff.rfl (or_congr Iff.rfl ⟨λ⟨b,hb,hk⟩=>⟨b,hb,?_⟩,λ⟨b,hb,hk⟩=>⟨b,hb,?_⟩⟩)
 ·rw [aX (Jo (g.bs_lt hb) hj)];exact hk
 ·rw [aX (Jo (g.bs_lt hb) hj)]at hk;exact hk
theorem wD {G:List Nd} {x y:Nd}:(G++[x]).set G.length y=G++[y]:=by
 rw [List.set_append_right _ _ (Cb _),Qn];rfl
theorem Wd.new {G:List Nd} {X X':List Av} {x:Nd} (wd:Wd G X) (sub:∀e∈X,e∈X') (hin:(Ex.obj x.me,CO.inst x.C x.d)∈X') (hC:x.C=364\/x.C=427) (hbt:(Ex.obj x.bt,CO.tup [])∈X') (hst:(Ex.obj x.st,CO.tup [])∈X') (hbs:x.bs=[]) (hss:x.ss=[]) (hde:x.deps=[]) (him:x.imps=[]) (hk:x.key∉G.map (·.key)) (few:G.length < 12) (hr:x.root=Wj (G++[x]) G.length) (J:pB (G++[x])):Wd (G++[x]) X':=by
 refine⟨⟨WX.new wd sub hin hC hbt hst hbs hss,⟨?_,?_,?_,?_⟩,J,?_,?_,?_⟩,?_⟩
 ·rw [Bk,Ih]
  refine⟨wd.gr.keys,by simp,λa ha b hb q=>?_⟩
  simp at hb
  rw [q,hb]at ha
  exact hk ha
 ·intro i y e
  rcases Mu e with e|⟨rfl,rfl⟩
  ·exact wd.gr.bs _ _ e
  ·rw [hbs];exact⟨.nil,λ_ h=>(by cases h)⟩
 ·intro i y e
  rcases Mu e with e|⟨rfl,rfl⟩
  ·have:=wd.gr.ss _ _ e
   exact⟨this.1,λb hb=>by have:=this.2 b hb;simp;lia⟩
  ·rw [hss];exact⟨.nil,λ_ h=>(by cases h)⟩
 ·simp;lia
 ·intro i y e
  rcases Mu e with e|⟨rfl,rfl⟩
  ·rw [wd.ro _ _ e]
   unfold Wj
   rw [Th (Hr (Cg _) (Al.mp e).1)]
  ·exact hr
 ·intro i y e
  rcases Mu e with e|⟨rfl,rfl⟩
  ·exact wd.low _ _ e
  ·rw [hss];intro k hk;cases hk
 ·intro j y e
  have hlast:Ge (G++[x]) G.length=[]:=by rw [Qh (Sl G x),hbs]
  rcases Mu e with e|⟨rfl,rfl⟩
  ·obtain⟨dl,D,hE⟩:=wd.dep j y e
   refine⟨dl,⟨?_,?_,D.nodup⟩,λd=>(hE d).trans ?_⟩
   ·rw [D.eq]
    apply Gk
    intro p hp
    rw [Yl (D.at' p hp).1]
   ·intro p hp
    have:=D.at' p hp
    rw [Th this.1]
    exact⟨by simp;lia,sub _ this.2⟩
   ·rcases Nat.lt_trichotomy d G.length with h|h|h
    ·rw [bM h]
    ·subst h
     rw [hlast]
     unfold Ge
     rw [Du (Cb _)]
    ·unfold Ge
     rw [Du (Ml h),Du (by simp;lia)]
  ·refine⟨[],⟨hde,λ_ h=>(by cases h),.nil⟩,λd=>⟨λh=>(by cases h),λh=>?_⟩⟩
   rcases Nat.lt_trichotomy d G.length with hd|hd|hd
   ·rw [bM hd]at h
    have:=wd.gr.bs_lt h
    lia
   ·subst hd;rw [hlast]at h;cases h
   ·unfold Ge at h
    rw [Du (by simp;lia)]at h
    cases h
 ·intro i y e
  rcases Mu e with e|⟨rfl,rfl⟩
  ·refine⟨(wd.imp _ _ e).1,λk=>((wd.imp _ _ e).2 k).trans ?_⟩
   constructor
   ·rintro⟨j,h1,h2⟩
    exact⟨j,h1,by rw [Yl ((wd.gr.ss _ _ e).2 j h1)];exact h2⟩
   ·rintro⟨j,h1,h2⟩
    exact⟨j,h1,by rw [Yl ((wd.gr.ss _ _ e).2 j h1)]at h2;exact h2⟩
  ·refine⟨by rw [him];exact Cg _,λk=>?_⟩
   rw [him,hss]
   simp [Fq]
theorem mv {W ρ τ:List Av} {p:Av}:Av.le ⟨p::W,ρ++τ⟩ ⟨W,ρ++p::τ⟩:=Av.le_perm (by
 show(W++(ρ++p::τ)).Perm (p::W++(ρ++τ))
 rw [<-Ba]
 refine Bz.trans Fl ?_
 rw [Ba]
 exact .refl _)
theorem Aeb (a b c d:List Av):((a++b)++(c++d)).Perm ((c++a)++(b++d)):=by
 have h1:((a++b)++(c++d)).Perm (a++(c++(b++d))):=by
  rw [Ba]
  refine Bf a ?_
  rw [<-Ba,<-Ba]
  exact Eb d Fa
 refine h1.trans ?_
 rw [<-Ba]
 exact Eb _ Fa
end
section
theorem mE (Γ:Bm):Γ.K.lookup 279=Ad ⟨.type "function",Ae,.func (Kh Γ 279 "Specification.__init__" (clsStmt 13 0) (.ref 278) (.ref 272)),#[]⟩:=by kernel_rfl
theorem Uw (Γ:Bm):aO Γ "setBases" 308:=⟨by kernel_rfl,by kernel_rfl⟩
theorem qM (Γ:Bm):dI Γ "key" :=⟨by kernel_rfl,by kernel_rfl⟩
theorem mS (Γ:Bm):dI Γ "_ROOT" :=⟨by kernel_rfl,by kernel_rfl⟩
theorem qS (Γ:Bm):dI Γ "_dependents" :=⟨by kernel_rfl,by kernel_rfl⟩
theorem qN (Γ:Bm):dI Γ "_implied" :=⟨by kernel_rfl,by kernel_rfl⟩
noncomputable abbrev sB:List (Str×Option Ab):=[("key",Ae),("_ROOT",Ae),("_dependents",Ae),("bases",Ae),("_implied",Ae),("iro",Ae),("sro",Ae),("declared",Ae),("inherit",Ae)]
theorem Hb.k4 {Γ:Bm} {fd:FuncData} {x y z t:Str} {v₁ v₂ v₃ v₄:Ab} (h:∀w₁ w₂ w₃ w₄ s,Γ.K.In (Be.heap s)->Fg s fd ⟨[w₁,w₂,w₃,w₄],[]⟩ [(x,w₁),(y,w₂),(z,w₃),(t,w₄)]):Hb Γ fd [v₁,v₂,v₃,v₄] [] [(x,v₁),(y,v₂),(z,v₃),(t,v₄)]:=by
 intro ws kws hw hk
 obtain⟨w₁,w₂,w₃,w₄,rfl,e1,e2,e3,e4⟩:=aH hw
 have:kws=[]:=by simpa using hk
 subst this
 exact⟨_,by simp [e1,e2,e3,e4],λs X=>h _ _ _ _ s X⟩
section
variable {Γ:Bm} {A:Az} {G:List Nd} {X:List Av} {σ:Bc}
theorem cG {τ:List Av} {me d C b:Am} {key:Int} {root:Ab} {bs:List Nat} {Q:Ab->Bc->Prop} (wd:Wd G X) (sok:∀j,j < G.length->Uk G j) (hC:C=364\/C=427) (hkey:key∉G.map (·.key)) (few:G.length < 12) (hroot:root=if G.length=0 then .none else .ref (Gd G 0))
  (hb:Vv X b (Ap G bs)\/(Ex.obj b,CO.list (Ap G bs))∈(⟨Bl G++X,τ⟩:Bc).all) (hn:bs.Nodup) (hl:∀k∈bs,k < G.length) (hA:Rm A 32) (hh:A.handled=Ae) (hF:AF A ⟨[],τ⟩)
  (h:∀G' X' x,Wd G' X'->Jq (G++[x]) G'->x.me=me->x.d=d->x.C=C->x.key=key->x.bs=bs->x.decl=Ae->x.inh=Ae->(∀e∈X,e∈X')->(∀j,j < G'.length->Uk G' j)->Q .none ⟨Bl G'++X',τ⟩):
  ∀ws,ws.map cl=[.ref me,.int key 0,.ref b,root]->TC Γ A ⟨Bl G++X,(.obj d,.ns sB)::(.obj me,.inst C d)::τ⟩ (.ref 279) ws [] Q:=λws hw=>by
 refine Pk (body:=fBody (clsStmt 13 0)) (bs:=[("self",.ref me),("key",.int key 0),("bases",.ref b),("root",root)]) ["self","key","bases","root"] (mE Γ) (by kernel_rfl) hA.room (Hb.k4 λ_ _ _ _ _ X=>kp_binds X λS=>by kernel_rfl) (λL=>?_) (by rfl) (by rfl) (by decide) (by rfl) (by rfl) (by rfl) ws [] hw rfl
 let V:List Av:=(.var L "self",.val (Ad (.ref me)))::(.var L "key",.val (Ad (.int key 0)))::(.var L "bases",.val (Ad (.ref b)))::(.var L "root",.val (Ad root))::τ
 have hA':Rm (A.deeper (Gs "Specification.__init__" (fScope (clsStmt 13 0)) L 279 (.ref 278) [])) 31:=hA.deeper
 have hrc:cl root=root:=by rw [hroot];split<;>rfl
 have hrh:Lw root=true:=by rw [hroot];split<;>rfl
 show T Γ (A.deeper (Gs "Specification.__init__" (fScope (clsStmt 13 0)) L 279 (.ref 278) [])) ⟨Bl G++X,(.var L "self",.val (Ad (.ref me)))::(.var L "key",.val (Ad (.int key 0)))::(.var L "bases",.val (Ad (.ref b)))::(.var L "root",.val (Ad root))::(.obj d,.ns sB)::(.obj me,.inst C d)::τ⟩ (Cs _ (Gs "Specification.__init__" (fScope (clsStmt 13 0)) L 279 (.ref 278) [])) _
 refine Ao (Dn (Ac (v:=.int key 0) (by walk_at "mem") (Ac (v:=.ref me) (by walk_at "mem") (Gx (by walk_at "mem") (by walk_at "upd") (by walk_at "set") ((qM Γ).of hC) ?_))))
 refine Fh.go ?_
 refine Ao (Dn (Ac (v:=root) (by walk_at "mem") (Ac (v:=.ref me) (by walk_at "mem") (Gx (by walk_at "mem") (by walk_at "upd") (by walk_at "set") ((mS Γ).of hC) ?_))))
 refine Fh.go ?_
 refine Ao (Dn (aL λdep=>(Ac (v:=.ref me) (by walk_at "mem") (Gx (by walk_at "mem") (by walk_at "upd") (by walk_at "set") ((qS Γ).of hC) ?_))))
 refine Fh.go ?_
 refine Ao (Dn (Kr (Ar ⟨by rw [Ay];exact Cg _,λtb=>Ac (v:=.ref me) (by walk_at "mem") (Gx (by walk_at "mem") (by walk_at "upd") (by walk_at "set") ((Zl Γ).of hC) ?_)⟩)))
 refine Fh.go ?_
 refine Ao (Dn (aL λimp=>(Ac (v:=.ref me) (by walk_at "mem") (Gx (by walk_at "mem") (by walk_at "upd") (by walk_at "set") ((qN Γ).of hC) ?_))))
 refine Fh.go ?_
 refine Ao (Dn (Kr (Ar ⟨by rw [Ay];exact Cg _,λti=>Ac (v:=.ref me) (by walk_at "mem") (Gx (by walk_at "mem") (by walk_at "upd") (by walk_at "set") ((eY Γ).of hC) ?_)⟩)))
 refine Fh.go ?_
 refine Ao (Dn (Kr (Ar ⟨by rw [Ay];exact Cg _,λts=>Ac (v:=.ref me) (by walk_at "mem") (Gx (by walk_at "mem") (by walk_at "upd") (by walk_at "set") ((eW Γ).of hC) ?_)⟩)))
 refine Fh.go ?_
 let xf:Nd:=⟨me,d,dep,imp,C,key,root,tb,[],ts,[],.ref ti,[],[],Ae,Ae⟩
 let T3:List Av:=[(.obj tb,.tup []),(.obj ts,.tup []),(.obj me,.inst C d)]
 refine T.conseq (mv (ρ:=[_,_,_,_,_,_,_,_,_,_])) ?_
 refine T.conseq (mv (ρ:=[])) ?_
 refine T.conseq (mv (ρ:=[_,_])) ?_
 refine T.conseq (mv (ρ:=[_])) ?_
 refine T.conseq (mv (ρ:=[_])) ?_
 refine T.conseq (mv (ρ:=[_,_,_,_,_])) ?_
 refine T.conseq (σ':=⟨Bl (G++[xf])++(T3++X),(.obj ti,.tup [])::V⟩) (Av.le_perm ?_) ?_
 ·rw [fC]
  exact Eb _ (Aeb xf.ents T3 (Bl G) X)
 have wx':WX (G++[xf]) (T3++X):=WX.new wd (λe he=>Aa _ he) (.tail _ (.tail _ (.head _))) hC (.head _) (.tail _ (.head _)) rfl rfl
 refine T.have (λs R=>zZ R wx') λJ=>?_
 have hrV:root=Wj (G++[xf]) G.length:=by
  rw [hroot]
  unfold Wj
  by_cases q:G.length=0
  ·rw [if_pos q,if_pos q]
  ·rw [if_neg q,if_neg q,Th (by lia)]
 have wd':Wd (G++[xf]) (T3++X):=Wd.new wd (λe he=>Aa _ he) (.tail _ (.tail _ (.head _))) hC (.head _) (.tail _ (.head _)) rfl rfl rfl rfl hkey few hrV J
 have hlc:∀j,j < (G++[xf]).length->j≠G.length->dE (G++[xf]) j:=λj hj hne=>by
  have hj':j < G.length:=by simp at hj;lia
  exact(Rn wd.gr (Cb _) sok hj').app wd.gr hj'
 have hrefs:Ap (G++[xf]) bs=Ap G bs:=Up hl
 have hFV:∀ρ,AF (A.deeper (Gs "Specification.__init__" (fScope (clsStmt 13 0)) L 279 (.ref 278) [])) ⟨[],ρ++V⟩:=λρ=>hF.push rfl rfl (L:=L) (x:="self") (c:=Ad (.ref me)) (by walk_at "mem") λp hp=>Aa _ (.tail _ (.tail _ (.tail _ (.tail _ hp))))
 have fin:∀X'' bt ρ,(∀e∈T3++X,e∈X'')->Vv X'' bt (Ap G bs)->∀ws,ws.map cl=[.ref me,.ref bt]->T Γ (A.deeper (Gs "Specification.__init__" (fScope (clsStmt 13 0)) L 279 (.ref 278) [])) ⟨Bl (G++[xf])++X'',ρ++V⟩ (Iq (.ref 308) ws) λ_ σ'=>T Γ (A.deeper (Gs "Specification.__init__" (fScope (clsStmt 13 0)) L 279 (.ref 278) [])) σ' (Cs [] (Gs "Specification.__init__" (fScope (clsStmt 13 0)) L 279 (.ref 278) [])) (Jh Q):=by
  intro X'' bt ρ sub hbt ws hw
  have wd'':Wd (G++[xf]) X'':=⟨wd'.toCo.more sub,wd'.imp⟩
  refine(Wb (x:=xf) (bt:=bt) (bs:=bs) wd'' hlc (hA'.le (by decide)) hh (hFV ρ) (Sl G xf) (by rw [hrefs];exact hbt) hn hl (λG' X' w1 w2 w3 w4=>?_) ws hw).T
  rw [wD]at w2
  exact Cq ⟨_,Av.le_sub (τ':=τ) (Dc (.cons _ (.cons _ (.cons _ (.cons _ (.refl _)))))),h G' X' {xf with bt:=bt,bs:=bs} w1 w2 rfl rfl rfl rfl rfl rfl rfl (λe he=>w3 _ (sub _ (Aa _ he))) w4⟩
 refine Ao (Gf (Fo (Ac (v:=.ref me) (by walk_at "mem") (Pe wd'.wx.nf (Sl G xf) (Uw Γ) ⟨.inl (by kernel_rfl),?_⟩))))
 refine Ai (Cf (Bd (v:=.type "tuple") (by kernel_rfl) (by decide+kernel) (by decide) ⟨.inr (.inr ⟨_,rfl⟩),?_⟩))
 refine Ai (Ac (v:=.ref b) (by walk_at "mem") ?_)
 rcases hb with hb|hb
 ·have hbX:Vv (T3++X) b (Ap G bs):=hb.more λe he=>Aa _ he
  refine Ar (Vb hbX.right.tup ?_)
  exact Ar λws hw=>fin (T3++X) b [(.obj ti,.tup [])] (λe he=>he) hbX ws hw
 ·have hbm:(Ex.obj b,CO.list (Ap G bs))∈(⟨Bl (G++[xf])++(T3++X),(.obj ti,.tup [])::V⟩:Bc).all:=by
   rcases Ak.mp hb with hb|hb
   ·refine Ah _ ?_
    rcases Ak.mp hb with hb|hb
    ·exact Ah _ (by rw [fC];exact Ah _ hb)
    ·exact Aa _ (Aa _ hb)
   ·exact Aa _ (.tail _ (.tail _ (.tail _ (.tail _ (.tail _ hb)))))
  have hbl:bs.length<=12:=Ca (Go _ _ hn hl) (Ml few)
  refine Ar (Fv (vs:=Ap G bs) hbm (by rw [Bb];lia) λbt=>?_)
  refine Ar λws hw=>T.conseq Rz ?_
  exact fin ((.obj bt,.tup (Ap G bs))::(T3++X)) bt [(.obj ti,.tup [])] (λe he=>.tail _ he) (.inl (.head _)) ws hw
end
end
section
theorem zO (Γ:Bm):(plainGet Γ.K 364 "__class__" &&Px Γ.K 364&&findIn Γ.K (.ref 364) "__class__" ==Ad (Ad (.builtin "object.__class__"))&&Pu Γ.K (.builtin "object.__class__") "__get__" ==Ad (Ad (.builtin "getset_descriptor.__get__"))&&takesIn Γ.K (.builtin "object.__class__")==Ad true&&mroIn Γ.K 364 (.type "object")==Ad true)=true:=by kernel_rfl
theorem zN (Γ:Bm):(plainGet Γ.K 427 "__class__" &&Px Γ.K 427&&findIn Γ.K (.ref 427) "__class__" ==Ad (Ad (.builtin "object.__class__"))&&Pu Γ.K (.builtin "object.__class__") "__get__" ==Ad (Ad (.builtin "getset_descriptor.__get__"))&&takesIn Γ.K (.builtin "object.__class__")==Ad true&&mroIn Γ.K 427 (.type "object")==Ad true)=true:=by kernel_rfl
theorem nZ (Γ:Bm):kitAny Γ.K (.ref 364) [.ref 364,.ref 427]=Ad true/\kitAny Γ.K (.ref 427) [.ref 364,.ref 427]=Ad true/\kitAny Γ.K (.type "list") [.ref 364,.ref 427]=Ad false/\kitAny Γ.K (.type "tuple") [.ref 364,.ref 427]=Ad false:=
 ⟨by kernel_rfl,by kernel_rfl,by kernel_rfl,by kernel_rfl⟩
section
variable {Γ:Bm} {A:Az} {G:List Nd} {σ:Bc}
theorem yV {s:Be} {t a b:Am} (h:Lq Γ s (.obj t) (.tup [.ref a,.ref b])):∃n,s.heap.get? t=Ad ⟨.type "tuple",Ae,.seq ([.ref a,.ref b]:List Ab).toArray n,#[]⟩:=by
 obtain⟨ws,n,e,ew⟩:=h
 refine⟨n,?_⟩
 have:ws=([.ref a,.ref b]:List Ab).toArray:=by
  obtain⟨w₁,w₂,q,e1,e2⟩:=Kf ew
  have h1:=Ch e1
  have h2:=Ch e2
  subst h1
  subst h2
  rw [<-q]
 rw [e,this]
theorem nN {W τ:List Av} {i:Nat} {x:Nd} {t:Am} {ws:List Ab} {Q:Ab->Bc->Prop} (nf:NF W G) (hi:G[i]? =Ad x) (ht:(Ex.obj t,CO.tup [.ref 364,.ref 427])∈(⟨W,τ⟩:Bc).all) (hw:ws.map cl=[.ref x.me,.ref t]) (h:Q (.bool true) ⟨W,τ⟩):T Γ A ⟨W,τ⟩ (Iq (.builtin "isinstance") ws) Q:=λs R=>by
 obtain⟨w₀,w₁,rfl,e0,e1⟩:=Kf hw
 have:=Ch e0
 subst this
 have:=Ch e1
 subst this
 obtain⟨n,hn⟩:=yV (R.ents _ ht).1
 obtain⟨es,m,N,e,I⟩:=Sw R (Pj (nf.inst _ _ hi)) (Pj (nf.ns _ _ hi))
 rcases nf.cls _ _ hi with hc|hc
 ·rw [hc]at I
  have k:=zO Γ
  simp only [Dd,beq_iff_eq]at k
  obtain⟨⟨⟨⟨⟨k1,k2⟩,k3⟩,k4⟩,k5⟩,k6⟩:=k
  exact kia_tup (kitx_own k1 k2 k3 k4 k5 k6) R.kin I hn (nZ Γ).1 (by intro e;cases e) λtk=>⟨_,R.toks tk,h⟩
 ·rw [hc]at I
  have k:=zN Γ
  simp only [Dd,beq_iff_eq]at k
  obtain⟨⟨⟨⟨⟨k1,k2⟩,k3⟩,k4⟩,k5⟩,k6⟩:=k
  exact kia_tup (kitx_own k1 k2 k3 k4 k5 k6) R.kin I hn (nZ Γ).2.1 (by intro e;cases e) λtk=>⟨_,R.toks tk,h⟩
theorem nT {W τ:List Av} {i:Nat} {x:Nd} {t:Am} {Q:Ab->Bc->Prop} (nf:NF W G) (hi:G[i]? =Ad x) (ht:(Ex.obj t,CO.tup [.ref 364,.ref 427])∈(⟨W,τ⟩:Bc).all) (h:Q (.bool true) ⟨W,τ⟩):kZ Γ A (.builtin "isinstance") Q [.ref x.me,.ref t] ⟨W,τ⟩:=λ_ hw=>nN (nf:=nf) (hi:=hi) (ht:=ht) (hw:=hw) (h:=h)
theorem nO {σ:Bc} {a t:Am} {vs:List Ab} {ws:List Ab} {Q:Ab->Bc->Prop} (ha:(Ex.obj a,CO.list vs)∈σ.all) (ht:(Ex.obj t,CO.tup [.ref 364,.ref 427])∈σ.all) (hw:ws.map cl=[.ref a,.ref t]) (h:Q (.bool false) σ):T Γ A σ (Iq (.builtin "isinstance") ws) Q:=λs R=>by
 obtain⟨w₀,w₁,rfl,e0,e1⟩:=Kf hw
 have:=Ch e0
 subst this
 have:=Ch e1
 subst this
 obtain⟨n,hn⟩:=yV (R.ents _ ht).1
 obtain⟨us,m,e,_⟩:=(R.ents _ ha).1
 exact kia_tup kitx_list R.kin ⟨_,e,rfl⟩ hn (nZ Γ).2.2.1 (by intro e;cases e) λtk=>⟨_,R.toks tk,h⟩
theorem rP {σ:Bc} {a t:Am} {vs:List Ab} {ws:List Ab} {Q:Ab->Bc->Prop} (ha:Fc Γ σ a vs) (ht:(Ex.obj t,CO.tup [.ref 364,.ref 427])∈σ.all) (hw:ws.map cl=[.ref a,.ref t]) (h:Q (.bool false) σ):T Γ A σ (Iq (.builtin "isinstance") ws) Q:=λs R=>by
 obtain⟨w₀,w₁,rfl,e0,e1⟩:=Kf hw
 have:=Ch e0
 subst this
 have:=Ch e1
 subst this
 obtain⟨n,hn⟩:=yV (R.ents _ ht).1
 obtain⟨us,m,e,_⟩:=ha s R
 exact kia_tup kitx_tuple R.kin ⟨_,e,rfl⟩ hn (nZ Γ).2.2.2 (by intro e;cases e) λtk=>⟨_,R.toks tk,h⟩
end
end
section
theorem uL (Γ:Bm):Γ.K.lookup 354=Ad ⟨.type "function",Ae,.func (Kh Γ 354 "InterfaceClass.__init__" (clsStmt 14 0) (.ref 353) (.ref 347)),#[]⟩:=by kernel_rfl
theorem eX (Γ:Bm):fQ Γ.K 336 "__init__" 279=true:=by kernel_rfl
section
variable {Γ:Bm} {A:Az} {G:List Nd} {X:List Av} {σ:Bc}
theorem oU {τ:List Av} {b:Am} {key:Int} {root:Ab} {bs:List Nat} {vs:List Ab} {Q:Ab->Bc->Prop} (wd:Wd G X) (sok:∀j,j < G.length->Uk G j) (hkey:key∉G.map (·.key)) (few:G.length < 12) (hroot:root=if G.length=0 then .none else .ref (Gd G 0))
  (hb:Vv X b (Ap G bs)) (hn:bs.Nodup) (hl:∀k∈bs,∃y,G[k]? =Ad y/\y.C=364) (hA:Rm A 36) (hh:A.handled=Ae) (hF:AF A ⟨[],τ⟩)
  (hB:∀me,Hb Γ (Kh Γ 354 "InterfaceClass.__init__" (clsStmt 14 0) (.ref 353) (.ref 347)) (.ref me::vs) [] [("self",.ref me),("key",.int key 0),("bases",.ref b),("root",root)])
  (h:∀G' X' x,Wd G' X'->Jq (G++[x]) G'->x.C=364->x.key=key->x.bs=bs->x.decl=Ae->x.inh=Ae->(∀e∈X,e∈X')->(∀j,j < G'.length->Uk G' j)->Q (.ref x.me) ⟨Bl G'++X',τ⟩):
  ∀ws,ws.map cl=vs->TC Γ A ⟨Bl G++X,τ⟩ (.ref 364) ws [] Q:=λws hw=>by
 refine aM (fI:=354) sB (by kernel_rfl) (by kernel_rfl) (by decide) (by decide) λme d=>?_
 have hA':Rm (A.under (.builtin "type.__call__" ⟨.ref 364::ws,[]⟩)) 35:=hA.make
 have hl':∀k∈bs,k < G.length:=λk hk=>let⟨y,e,_⟩:=hl k hk;(Al.mp e).1
 refine Pk (body:=fBody (clsStmt 14 0)) (bs:=[("self",.ref me),("key",.int key 0),("bases",.ref b),("root",root)]) ["self","key","bases","root"] (uL Γ) (by kernel_rfl) hA'.room (hB me) (λL=>?_) (by rfl) (by rfl) (by decide) (by rfl) (by rfl) (by rfl) _ [] (by simp [hw]) rfl
 have hA2:Rm ((A.under (.builtin "type.__call__" ⟨.ref 364::ws,[]⟩)).deeper (Gs "InterfaceClass.__init__" (fScope (clsStmt 14 0)) L 354 (.ref 353) [])) 34:=hA'.deeper
 have hrc:cl root=root:=by rw [hroot];split<;>rfl
 show T Γ ((A.under (.builtin "type.__call__" ⟨.ref 364::ws,[]⟩)).deeper (Gs "InterfaceClass.__init__" (fScope (clsStmt 14 0)) L 354 (.ref 353) [])) ⟨Bl G++X,(.var L "self",.val (Ad (.ref me)))::(.var L "key",.val (Ad (.int key 0)))::(.var L "bases",.val (Ad (.ref b)))::(.var L "root",.val (Ad root))::(.obj d,.ns sB)::(.obj me,.inst 364 d)::τ⟩ (Cs _ (Gs "InterfaceClass.__init__" (fScope (clsStmt 14 0)) L 354 (.ref 353) [])) _
 have hnf:=wd.wx.nf
 refine Ao (Hz (Nq (Eo (Cf (Bd (v:=.builtin "all") (by kernel_rfl) (by decide+kernel) (by decide) ⟨.inr (.inl ⟨_,rfl⟩),?_⟩)))))
 refine Ai (tF (c:=353) (P:=349) (f:=λ_=>.bool true) (by decide) (by kernel_rfl) rfl hA2.room (Ac (v:=.ref b) (by walk_at "mem") (Hl (vs:=Ap G bs) hb.right.tup λit=>?_)))
 refine⟨it,_,λσ=>σ.W=Bl G++X,Ap G bs,_,_,rfl,rfl,λA' hA=>⟨(Hj hA).weak λσ h=>by
  obtain⟨W,τ'⟩:=σ
  have h:W=Bl G++X:=h
  subst h
  exact hb.right.tup,Rc⟩,λσ ext h=>h,λA' C code σ v hA hv hσ hm=>?_,λga ρg hFd=>?_⟩
 ·obtain⟨W,τ'⟩:=σ
  have h:W=Bl G++X:=hσ
  subst h
  obtain⟨k,hk,rfl⟩:=Bq.mp hv
  obtain⟨y,ey,hy⟩:=hl k hk
  rw [Bu ey]at hm
  refine Cf (Bd (v:=.builtin "isinstance") (by kernel_rfl) (by decide+kernel) (by decide) ⟨.inr (.inl ⟨_,rfl⟩),?_⟩)
  refine Ai (Dm (v:=.ref y.me) hm (.head _) (Ai (Bn (v:=.ref 364) (by kernel_rfl) (Ar (jI hnf ey ?_)))))
  rw [hy]
  exact⟨rfl,rfl⟩
 refine Ar λws₁ hw₁=>?_
 have hF2:=hFd ((A.under (.builtin "type.__call__" ⟨.ref 364::ws,[]⟩)).deeper (Gs "InterfaceClass.__init__" (fScope (clsStmt 14 0)) L 354 (.ref 353) [])).in1 hh hA2.room
 refine Agf (A:=(A.under (.builtin "type.__call__" ⟨.ref 364::ws,[]⟩)).deeper (Gs "InterfaceClass.__init__" (fScope (clsStmt 14 0)) L 354 (.ref 353) [])) hh hF2.1 hF2.2 rfl (λv hv=>?_) (Fi ⟨λhb=>(by cases hb),λ_=>?_⟩) ws₁ hw₁
 ·obtain⟨_,_,rfl⟩:=Bq.mp hv;rfl
 refine Cq ?_
 refine Fh.go ?_
 refine Ao (Gf (Fo (Bn (v:=.ref 336) (by kernel_rfl) (jK (eX Γ) ⟨.inl (by kernel_rfl),?_⟩))))
 refine Ai (Ac (v:=.ref me) (by walk_at "mem") (Ai (Ac (v:=.int key 0) (by walk_at "mem") (Ai (Ac (v:=.ref b) (by walk_at "mem") (Ai (Ac (v:=root) (by walk_at "mem") (Ar λws hw=>?_))))))))
 let V:List Av:=(.var L "self",.val (Ad (.ref me)))::(.var L "key",.val (Ad (.int key 0)))::(.var L "bases",.val (Ad (.ref b)))::(.var L "root",.val (Ad root))::τ
 have hperm:Av.le ⟨Bl G++X,(.obj d,.ns sB)::(.obj me,.inst 364 d)::V⟩ ⟨Bl G++X,(.var L "self",.val (Ad (.ref me)))::(.var L "key",.val (Ad (.int key 0)))::(.var L "bases",.val (Ad (.ref b)))::(.var L "root",.val (Ad root))::(.obj d,.ns sB)::(.obj me,.inst 364 d)::τ⟩:=
  Av.le_perm (Bf _ (Zd (.obj d,.ns sB) (.obj me,.inst 364 d) [(.var L "self",.val (Ad (.ref me))),(.var L "key",.val (Ad (.int key 0))),(.var L "bases",.val (Ad (.ref b))),(.var L "root",.val (Ad root))] τ).symm)
 refine T.conseq hperm ?_
 have hFV:AF ((A.under (.builtin "type.__call__" ⟨.ref 364::ws,[]⟩)).deeper (Gs "InterfaceClass.__init__" (fScope (clsStmt 14 0)) L 354 (.ref 353) [])) ⟨[],V⟩:=hF.push rfl rfl (L:=L) (x:="self") (c:=Ad (.ref me)) (by walk_at "mem") λp hp=>.tail _ (.tail _ (.tail _ (.tail _ hp)))
 refine(cG (τ:=V) wd sok (.inl rfl) hkey few hroot (.inl hb) hn hl' (hA2.le (by decide)) hh hFV (λG' X' x w1 w2 w3 w4 w5 w6 w7 w8 w9 w10 w11=>?_) ws hw).T
 refine Fh.go (Cq ⟨_,Av.le_sub (τ':=τ) (.cons _ (.cons _ (.cons _ (.cons _ (.refl _))))),rfl,?_⟩)
 rw [<-w3]
 exact h G' X' x w1 w2 w5 w6 w7 w8 w9 w10 w11
end
end
section
theorem sY (Γ:Bm):Γ.K.lookup 466=Ad ⟨.type "function",Ae,.func (Kh Γ 466 "_normalizeargs" (topStmt 22) (.ref 465) (.ref 459)),#[]⟩:=by kernel_rfl
noncomputable def nW (Γ:Bm) (σ:Bc) (a:Am) (vs:List Ab):Prop:=(Ex.obj a,CO.list vs)∈σ.all\/Fc Γ σ a vs
theorem nW.ext {Γ:Bm} {W ρ τ:List Av} {a:Am} {vs:List Ab} (h:nW Γ ⟨W,τ⟩ a vs):nW Γ ⟨W,ρ++τ⟩ a vs:=h.imp Bt λh=>h.ext
section
variable {Γ:Bm} {A:Az} {G:List Nd} {σ:Bc}
noncomputable abbrev Xz (L:Am):Env:=Gs "_normalizeargs" (fScope (topStmt 22)) L 466 (.ref 465) []
noncomputable def Zg (Γ:Bm) (G:List Nd) (W:List Av) (n:Nat) (v:Ab) (js:List Nat) (S:List Av->Prop):Prop:=
 ∀{A:Az} {τ':List Nat->List Av} {o:Am} {acc:List Nat} {Q:Ab->Bc->Prop},Rm A n->A.handled=Ae->(∀acc acc',Ri (τ' acc) (.obj o) (.list (Ap G acc)) (.list (Ap G acc')) (τ' acc'))->(∀acc,S (τ' acc))->acc.length+js.length<=1000->
  Q (.ref o) ⟨W,τ' (acc++js)⟩->∀ws,ws.map cl=[v,.ref o]->TC Γ A ⟨W,τ' acc⟩ (.ref 466) ws [] Q
theorem pT {W:List Av} {L o:Am} {j:Nat} {x:Nd} {Z:List Nat->List Av} {acc:List Nat} {Q:Ab->Bc->Prop} (nf:NF W G) (hj:G[j]? =Ad x) (h1:∀acc,(Ex.var L "sequence",CO.val (Ad (.ref x.me)))∈Z acc) (h2:∀acc,(Ex.var L "output",CO.val (Ad (.ref o)))∈Z acc)
  (U:∀acc acc',Ri (Z acc) (.obj o) (.list (Ap G acc)) (.list (Ap G acc')) (Z acc')) (hz:acc.length<=1000) (h:∀ρ,Jh Q (.ret (.ref o)) ⟨W,ρ++Z (acc++[j])⟩):T Γ (A.deeper (Xz L)) ⟨W,Z acc⟩ (Cs ((fBody (topStmt 22)).drop 1) (Xz L)) (Jh Q):=by
 have m1:=h1 acc
 have m2:=h2 acc
 refine Ao (Hz (Eo (Cf (Bd (v:=.builtin "isinstance") (by kernel_rfl) (by decide+kernel) (by decide) ⟨.inr (.inl ⟨_,rfl⟩),?_⟩))))
 refine Ai (Ac (v:=.ref x.me) (Ag m1) (Ai (Kr (k:=0) (Ai (Bn (v:=.ref 364) (by kernel_rfl) (Ai (Bn (v:=.ref 427) (by kernel_rfl) (Ar ⟨by rw [Ay];exact Ce rfl,λt=>?_⟩))))))))
 refine Ar (nT nf hj Bv (Fi ⟨λ_=>?_,λhb=>(by cases hb)⟩))
 refine Ao (Gf (Fo (Ac (v:=.ref o) (Eh (Ag m2)) (De Cv Dt Ds (It (vs:=Ap G acc) (Jf.tau (W:=W) (.there (U acc acc))).mem) ⟨.inr (.inl ⟨_,rfl⟩),?_⟩))))
 refine Ai (Ac (v:=.ref x.me) (Eh (Ag m1)) (Ar (Lx (σ':=⟨W,(.obj t,.tup [.ref 364,.ref 427])::Z (acc++[j])⟩) (.tau (.there (by have:=U acc (acc++[j]);rw [<-Sc,Bu hj]at this;exact this))) (by rw [Bb,Ay];lia) ?_)))
 refine Fh.go (Cq ?_)
 refine Fh.go ?_
 exact Ao (Fp (Ac (v:=.ref o) (Eh (Ag (h2 _))) (h [_])))
theorem rQ {a t:Am} {vs:List Ab} {ws:List Ab} {Q:Ab->Bc->Prop} (ha:nW Γ σ a vs) (ht:(Ex.obj t,CO.tup [.ref 364,.ref 427])∈σ.all) (hw:ws.map cl=[.ref a,.ref t]) (h:Q (.bool false) σ):T Γ A σ (Iq (.builtin "isinstance") ws) Q:=
 ha.elim (λha=>nO ha ht hw h) λha=>rP ha ht hw h
theorem rX {a t:Am} {vs:List Ab} {Q:Ab->Bc->Prop} (ha:nW Γ σ a vs) (ht:(Ex.obj t,CO.tup [.ref 364,.ref 427])∈σ.all) (h:Q (.bool false) σ):kZ Γ A (.builtin "isinstance") Q [.ref a,.ref t] σ:=λ_ hw=>rQ (ha:=ha) (ht:=ht) (hw:=hw) (h:=h)
noncomputable def kX (Γ:Bm) {ι:Type} (W:List Av) (Z:ι->List Av) (a:Am) (vs:List Ab):Prop:=(∀i,(Ex.obj a,CO.list vs)∈(⟨W,Z i⟩:Bc).all)\/∀i,Fc Γ ⟨W,Z i⟩ a vs
theorem kX.row {ι:Type} {W:List Av} {Z:ι->List Av} {a:Am} {vs:List Ab} (h:kX Γ W Z a vs) (i:ι):nW Γ ⟨W,Z i⟩ a vs:=h.imp (λh=>h i) λh=>h i
theorem cL {ι:Type} {W:List Av} {Z:ι->List Av} {a:Am} {vs:List Ab} {v:Ab} {pre:List Av} {i:ι} {Q:Ab->Bc->Prop} (hv:cl v=.ref a) (hr:kX Γ W Z a vs)
  (h:∀it st Gc,(∀A':Az,A'.handled=Ae->Lj Γ A' it Gc vs [(.obj it,st)])->(∀ρ i,Gc ⟨W,ρ++Z i⟩)->Q (.ref it) ⟨W,(.obj it,st)::(pre++Z i)⟩):T Γ A ⟨W,pre++Z i⟩ (Ib v) Q:=by
 rcases hr with hr|hr
 ·exact Uy hv (vs:=vs) (Bt (hr i)) λit=>h it _ _ (λA' hA=>Ey (a:=a) (vs:=vs) hA) λρ i=>Bt (hr i)
 ·exact Qm hv (vs:=vs) (hr i).ext λit=>h it _ _ (λA' hA=>Hj (a:=a) (vs:=vs) hA) λρ i=>(hr i).ext
theorem iO {W:List Av} {L o a:Am} {vs:List Ab} {jss:List (List Nat)} {Z:Option Ab×List Nat->List Av} {acc:List Nat} {n:Nat} {S:List Av->Prop} {Q:Ab->Bc->Prop} (hA:Rm (A.deeper (Xz L)) n) (hh:A.handled=Ae)
  (h1:∀i,(Ex.var L "sequence",CO.val (Ad (.ref a)))∈Z i) (h2:∀i,(Ex.var L "output",CO.val (Ad (.ref o)))∈Z i)
  (U:∀ov acc acc',Ri (Z (ov,acc)) (.obj o) (.list (Ap G acc)) (.list (Ap G acc')) (Z (ov,acc'))) (Uv:∀ov v acc,Ri (Z (ov,acc)) (.var L "v") (.val ov) (.val (Ad v)) (Z (Ad v,acc)))
  (hR:kX Γ W Z a vs) (hS:∀i,S (Z i)) (Sx:∀ρ τ,S τ->S (ρ++τ)) (hvl:vs.length=jss.length) (hel:∀(k:Nat) v js,vs[k]? =Ad v->jss[k]? =Ad js->Zg Γ G W n v js S)
  (hz:acc.length+jss.flatten.length<=1000) (h:∀ρ ov,Jh Q (.ret (.ref o)) ⟨W,ρ++Z (ov,acc++jss.flatten)⟩):T Γ (A.deeper (Xz L)) ⟨W,Z (Ae,acc)⟩ (Cs ((fBody (topStmt 22)).drop 1) (Xz L)) (Jh Q):=by
 refine Ao (Hz (Eo (Cf (Bd (v:=.builtin "isinstance") (by kernel_rfl) (by decide+kernel) (by decide) ⟨.inr (.inl ⟨_,rfl⟩),?_⟩))))
 refine Ai (Ac (v:=.ref a) (Ag (h1 _)) (Ai (Kr (k:=0) (Ai (Bn (v:=.ref 364) (by kernel_rfl) (Ai (Bn (v:=.ref 427) (by kernel_rfl) (Ar ⟨by rw [Ay];exact Ce rfl,λt=>?_⟩))))))))
 refine Ar (rX ((hR.row (Ae,acc)).ext (ρ:=[_])) Bv (Fi ⟨λhb=>(by cases hb),λ_=>?_⟩))
 have hlen:∀k,(jss.take k).flatten.length<=jss.flatten.length:=λk=>by
  have:jss.flatten=(jss.take k).flatten++(jss.drop k).flatten:=by rw [<-List.flatten_append,List.take_append_drop]
  rw [this];simp
 refine Ao (Qf (Ac (v:=.ref a) (Eh (Ag (h1 _))) λv hv=>cL (W:=W) (Z:=Z) (i:=(Ae,acc)) (pre:=[_]) hv hR λit st Gc hFd hGc=>?_))
 refine⟨it,[_],Gc,vs,_,_,⟨rfl,rfl,hFd _ hh⟩,λd σ=>∃ov,d.length<=vs.length/\σ=⟨W,[(.obj t,.tup [.ref 364,.ref 427])]++Z (ov,acc++(jss.take d.length).flatten)⟩,⟨Ae,Cg _,by simp⟩,?_,?_,?_⟩
 ·rintro d _ ⟨ov,_,rfl⟩
  exact hGc _ _
 ·rintro d v r u ρ _ he hu ⟨ov,hd,rfl⟩ Kq hK
  have hk:vs[d.length]? =Ad v:=by rw [<-he];simp
  have hdl:d.length < vs.length:=(Al.mp hk).1
  obtain⟨js,hjs⟩:∃js,jss[d.length]? =Ad js:=⟨jss[d.length]'(by rw [<-hvl];exact hdl),Bp _⟩
  have hfl:(jss.take (d++[v]).length).flatten=(jss.take d.length).flatten++js:=by
   rw [Aj,Br,Nc,hjs]
   simp
  refine Cx hu (.tau (.pre (.there (Uv ov v _)))) ?_
  refine Ao (Gf (Cf (Bn (v:=.ref 466) (by kernel_rfl) ⟨.inl (by kernel_rfl),?_⟩)))
  have mv':(Ex.var L "v",CO.val (Ad v))∈Z (Ad v,acc++(jss.take d.length).flatten):=by
   obtain⟨l₁,l₂,_,e⟩:=(Uv ov v (acc++(jss.take d.length).flatten)).split
   rw [e];exact Aa _ (.head _)
  refine Ai (Ac (v:=v) (Ag (Aa _ (.tail _ mv'))) (Ai (Ac (v:=.ref o) (Ag (Aa _ (.tail _ (h2 _)))) (Ar λws hw=>?_))))
  have hl1:=hlen (d++[v]).length
  rw [hfl,Aj]at hl1
  refine(hel d.length v js hk hjs (τ':=λacc=>ρ++((.obj t,.tup [.ref 364,.ref 427])::Z (Ad v,acc))) hA hh (λa1 a2=>.pre (.there (U _ a1 a2))) (λa1=>Sx _ _ (Sx [_] _ (hS _))) (by rw [Aj];lia) ?_ ws hw).T
  refine Fh.go (Cq (hK .next _ ⟨_,_,Av.le_refl _,Ad v,by simp;lia,?_⟩))
  rw [hfl,Ba]
  rfl
 rintro _ ⟨ov,_,rfl⟩
 rw [hvl,Es]
 refine Cq ?_
 refine Fh.go (Cq ?_)
 refine Fh.go ?_
 exact Ao (Fp (Ac (v:=.ref o) (Bt (Ag (h2 _))) (h [_] ov)))
noncomputable abbrev nV (L:Am) (v:Ab) (o:Ab) (ov:Option Ab) (τ:List Av):List Av:=(.var L "sequence",.val (Ad v))::(.var L "output",.val (Ad o))::(.var L "v",.val ov)::τ
theorem bT {W τ:List Av} {o:Am} {v:Ab} {Q:Ab->Bc->Prop} (hA:Rm A 1) (h:∀L,T Γ (A.deeper (Xz L)) ⟨W,nV L v (.ref o) Ae τ⟩ (Cs ((fBody (topStmt 22)).drop 1) (Xz L)) (Jh Q)):∀ws,ws.map cl=[v,.ref o]->TC Γ A ⟨W,τ⟩ (.ref 466) ws [] Q:=λws hw=>by
 refine Pk (body:=fBody (topStmt 22)) (bs:=[("sequence",v),("output",.ref o)]) ["sequence","output","v"] (sY Γ) (by kernel_rfl) hA.room ?_ (λL=>?_) (by rfl) (by rfl) (by decide) (by rfl) (by rfl) (by rfl) ws [] hw rfl
 ·intro ws kws hw hk
  obtain⟨w₁,w₂,rfl,e1,e2⟩:=Kf hw
  have:kws=[]:=by simpa using hk
  subst this
  exact⟨[("sequence",w₁),("output",w₂)],by simp [e1,e2],λs X=>kp_binds X λS=>by kernel_rfl⟩
 show T Γ (A.deeper (Xz L)) ⟨W,nV L v (.ref o) Ae τ⟩ (Cs _ (Xz L)) _
 refine Ao (Hz (Au (Ac (v:=.ref o) (by walk_at "mem") (Ka (Qb (by rfl) ⟨_,rfl,λh=>(by cases h),λ_=>?_⟩)))))
 exact Cq (h L)
theorem tU {W τ:List Av} {v:Ab} {Q:Ab->Bc->Prop} (hA:Rm A 1) (h:∀L o,T Γ (A.deeper (Xz L)) ⟨W,(.obj o,.list [])::nV L v (.ref o) Ae τ⟩ (Cs ((fBody (topStmt 22)).drop 1) (Xz L)) (Jh Q)):∀ws,ws.map cl=[v]->TC Γ A ⟨W,τ⟩ (.ref 466) ws [] Q:=λws hw=>by
 refine Pk (body:=fBody (topStmt 22)) (bs:=[("sequence",v),("output",.none)]) ["sequence","output","v"] (sY Γ) (by kernel_rfl) hA.room ?_ (λL=>?_) (by rfl) (by rfl) (by decide) (by rfl) (by rfl) (by rfl) ws [] hw rfl
 ·intro ws kws hw hk
  obtain⟨w₁,rfl,e1⟩:=Iz hw
  have:kws=[]:=by simpa using hk
  subst this
  exact⟨[("sequence",w₁),("output",.none)],by simp [e1],λs X=>kp_binds X λS=>by kernel_rfl⟩
 show T Γ (A.deeper (Xz L)) ⟨W,(.var L "sequence",.val (Ad v))::(.var L "output",.val (Ad .none))::(.var L "v",.val Ae)::τ⟩ (Cs _ (Xz L)) _
 refine Ao (Hz (Au (Ac (v:=.none) (by walk_at "mem") (Ka (Qb (by rfl) ⟨_,rfl,λ_=>?_,λh=>(by cases h)⟩)))))
 refine Ao (Bo (Ic (Ar ⟨by rw [Ay];exact Cg _,λo=>⟨_,_,by walk_at "upd",?_⟩⟩)))
 exact Fh.go (Cq (h L o))
theorem Ux {W:List Av} {j:Nat} {x:Nd} (nf:NF W G) (hj:G[j]? =Ad x):Zg Γ G W 1 (.ref x.me) [j] (λ_=>True):=by
 intro A τ' o acc Q hA hh U _ hz h
 refine bT hA λL=>?_
 refine pT (Z:=λacc=>nV L (.ref x.me) (.ref o) Ae (τ' acc)) nf hj (λ_=>.head _) (λ_=>.tail _ (.head _)) (λa1 a2=>.there (.there (.there (U a1 a2)))) (by simp at hz;lia) λρ=>⟨_,Av.le_sub (Dc (.cons _ (.cons _ (.cons _ (.refl _))))),h⟩
theorem cH {W:List Av} {a:Am} {vs:List Ab} {jss:List (List Nat)} {n:Nat} {S:List Av->Prop} (Sx:∀ρ τ,S τ->S (ρ++τ)) (hvl:vs.length=jss.length) (hel:∀(k:Nat) v js,vs[k]? =Ad v->jss[k]? =Ad js->Zg Γ G W n v js S):
  Zg Γ G W (n+1) (.ref a) jss.flatten (λτ=>Fc Γ ⟨W,τ⟩ a vs/\S τ):=by
 intro A τ' o acc Q hA hh U hS hz h
 refine bT (hA.le (by lia)) λL=>?_
 refine iO (Z:=λi=>nV L (.ref a) (.ref o) i.1 (τ' i.2)) (S:=S) hA.deeper hh (λ_=>.head _) (λ_=>.tail _ (.head _)) (λ_ a1 a2=>.there (.there (.there (U a1 a2)))) (λ_ _ _=>.there (.there .here)) (.inr λi=>(hS i.2).1.ext (ext:=[_,_,_])) (λi=>Sx [_,_,_] _ (hS i.2).2) Sx hvl hel hz λρ ov=>⟨_,Av.le_sub (Dc (.cons _ (.cons _ (.cons _ (.refl _))))),h⟩
theorem cI {W τ:List Av} {a:Am} {vs:List Ab} {jss:List (List Nat)} {n:Nat} {S:List Av->Prop} {Q:Ab->Bc->Prop} (hA:Rm A (n+1)) (hh:A.handled=Ae) (hr:nW Γ ⟨W,τ⟩ a vs) (hS:S τ) (Sx:∀ρ τ,S τ->S (ρ++τ)) (hvl:vs.length=jss.length) (hel:∀(k:Nat) v js,vs[k]? =Ad v->jss[k]? =Ad js->Zg Γ G W n v js S)
  (hz:jss.flatten.length<=1000) (h:∀o,Q (.ref o) ⟨W,(.obj o,.list (Ap G jss.flatten))::τ⟩):∀ws,ws.map cl=[.ref a]->TC Γ A ⟨W,τ⟩ (.ref 466) ws [] Q:=by
 refine tU (hA.le (by lia)) λL o=>?_
 refine iO (o:=o) (acc:=[]) (Z:=λi=>(.obj o,.list (Ap G i.2))::nV L (.ref a) (.ref o) i.1 τ) (S:=S) hA.deeper hh (λ_=>.tail _ (.head _)) (λ_=>.tail _ (.tail _ (.head _))) (λ_ a1 a2=>.here) (λ_ _ _=>.there (.there (.there .here))) (hr.imp (λh i=>Bt (ρ:=[_,_,_,_]) h) λh i=>h.ext (ext:=[_,_,_,_])) (λi=>Sx [_,_,_,_] _ hS) Sx hvl hel (by simpa using hz) λρ ov=>⟨_,Av.le_sub (Dc (.cons_cons _ (.cons _ (.cons _ (.cons _ (.refl _)))))),?_⟩
 rw [Fw]
 exact h o
theorem Va (js:List Nat):(js.map λj=>[j]).flatten=js:=by
 induction js with
 |nil=>rfl
 |cons j r ih=>rw [Ck,List.flatten_cons,ih];rfl
theorem Xm {W τ:List Av} {a:Am} {js:List Nat} {Q:Ab->Bc->Prop} (nf:NF W G) (hA:Rm A 2) (hh:A.handled=Ae) (hr:nW Γ ⟨W,τ⟩ a (Ap G js)) (hjs:∀j∈js,j < G.length) (hz:js.length<=1000)
  (h:∀o,Q (.ref o) ⟨W,(.obj o,.list (Ap G js))::τ⟩):∀ws,ws.map cl=[.ref a]->TC Γ A ⟨W,τ⟩ (.ref 466) ws [] Q:=by
 have e:=Va js
 refine cI (jss:=js.map λj=>[j]) (n:=1) (S:=λ_=>True) hA hh hr trivial (λ_ _ _=>trivial) (by simp [Ap]) (λk v js' h1 h2=>?_) (by rw [e];exact hz) (by rw [e];exact h)
 rw [Bg,Db]at h2
 obtain⟨j,hj,rfl⟩:=h2
 have h1':v=.ref (Gd G j):=by
  unfold Ap at h1
  rw [Bg,hj]at h1
  exact(Dl h1).symm
 obtain⟨x,ex⟩:=Dp (hjs j (Fj hj))
 rw [h1',Bu ex]
 intro A τ' o acc Q b1 b2 b3 b4 b5 b6
 exact Ux nf ex b1 b2 b3 b4 b5 b6
end
end
section
theorem mQ (Γ:Bm):Γ.K.lookup 382=Ad ⟨.type "function",Ae,.func (Kh Γ 382 "Declaration.__init__" (clsStmt 16 0) (.ref 381) (.ref 375)),#[]⟩:=by kernel_rfl
section
variable {Γ:Bm} {A:Az} {G:List Nd} {X:List Av} {σ:Bc}
theorem Aae {τ:List Av} {b:Am} {key:Int} {root:Ab} {bs:List Nat} {Q:Ab->Bc->Prop} (wd:Wd G X) (sok:∀j,j < G.length->Uk G j) (hkey:key∉G.map (·.key)) (few:G.length < 12) (hroot:root=if G.length=0 then .none else .ref (Gd G 0))
  (hb:(Ex.obj b,CO.list (Ap G bs))∈(⟨Bl G++X,τ⟩:Bc).all) (hn:bs.Nodup) (hl:∀k∈bs,k < G.length) (hA:Rm A 36) (hh:A.handled=Ae) (hF:AF A ⟨[],τ⟩)
  (h:∀G' X' x,Wd G' X'->Jq (G++[x]) G'->x.C=427->x.key=key->x.bs=bs->x.decl=Ae->x.inh=Ae->(∀e∈X,e∈X')->(∀j,j < G'.length->Uk G' j)->Q (.ref x.me) ⟨Bl G'++X',τ⟩):
  ∀ws,ws.map cl=[.int key 0,.ref b,root]->TC Γ A ⟨Bl G++X,τ⟩ (.ref 427) ws [] Q:=λws hw=>by
 refine aM (fI:=382) sB (by kernel_rfl) (by kernel_rfl) (by decide) (by decide) λme d=>?_
 have hA':Rm (A.under (.builtin "type.__call__" ⟨.ref 427::ws,[]⟩)) 35:=hA.make
 have hrc:cl root=root:=by rw [hroot];split<;>rfl
 refine Pk (body:=fBody (clsStmt 16 0)) (bs:=[("self",.ref me),("key",.int key 0),("bases",.ref b),("root",root)]) ["self","key","bases","root"] (mQ Γ) (by kernel_rfl) hA'.room (Hb.k4 λ_ _ _ _ _ X=>kp_binds X λS=>by kernel_rfl) (λL=>?_) (by rfl) (by rfl) (by decide) (by rfl) (by rfl) (by rfl) _ [] (by simp [hw]) rfl
 have hA2:Rm ((A.under (.builtin "type.__call__" ⟨.ref 427::ws,[]⟩)).deeper (Gs "Declaration.__init__" (fScope (clsStmt 16 0)) L 382 (.ref 381) [])) 34:=hA'.deeper
 show T Γ ((A.under (.builtin "type.__call__" ⟨.ref 427::ws,[]⟩)).deeper (Gs "Declaration.__init__" (fScope (clsStmt 16 0)) L 382 (.ref 381) [])) ⟨Bl G++X,(.var L "self",.val (Ad (.ref me)))::(.var L "key",.val (Ad (.int key 0)))::(.var L "bases",.val (Ad (.ref b)))::(.var L "root",.val (Ad root))::(.obj d,.ns sB)::(.obj me,.inst 427 d)::τ⟩ (Cs _ (Gs "Declaration.__init__" (fScope (clsStmt 16 0)) L 382 (.ref 381) [])) _
 have hbl:bs.length<=12:=Ca (Go _ _ hn hl) (Ml few)
 have hbm:∀ρ,(Ex.obj b,CO.list (Ap G bs))∈(⟨Bl G++X,ρ++τ⟩:Bc).all:=λρ=>Bt hb
 refine Ao (Gf (Fo (Bn (v:=.ref 336) (by kernel_rfl) (jK (eX Γ) ⟨.inl (by kernel_rfl),?_⟩))))
 refine Ai (Ac (v:=.ref me) (by walk_at "mem") (Ai (Ac (v:=.int key 0) (by walk_at "mem") (Ai (Cf (Bn (v:=.ref 466) (by kernel_rfl) ⟨.inl (by kernel_rfl),?_⟩))))))
 refine Ai (Ac (v:=.ref b) (by walk_at "mem") (Ar λws hw=>(Xm (js:=bs) wd.wx.nf (hA2.le (by decide)) hh (.inl (by walk_at "memo")) hl (by lia) (λo=>?_) ws hw).T))
 refine Ai (Ac (v:=root) (by walk_at "mem") (Ar λws hw=>?_))
 let V:List Av:=(.obj o,.list (Ap G bs))::(.var L "self",.val (Ad (.ref me)))::(.var L "key",.val (Ad (.int key 0)))::(.var L "bases",.val (Ad (.ref b)))::(.var L "root",.val (Ad root))::τ
 have hperm:Av.le ⟨Bl G++X,(.obj d,.ns sB)::(.obj me,.inst 427 d)::V⟩ ⟨Bl G++X,(.obj o,.list (Ap G bs))::(.var L "self",.val (Ad (.ref me)))::(.var L "key",.val (Ad (.int key 0)))::(.var L "bases",.val (Ad (.ref b)))::(.var L "root",.val (Ad root))::(.obj d,.ns sB)::(.obj me,.inst 427 d)::τ⟩:=
  Av.le_perm (Bf _ (Zd (.obj d,.ns sB) (.obj me,.inst 427 d) [(.obj o,.list (Ap G bs)),(.var L "self",.val (Ad (.ref me))),(.var L "key",.val (Ad (.int key 0))),(.var L "bases",.val (Ad (.ref b))),(.var L "root",.val (Ad root))] τ).symm)
 refine T.conseq hperm ?_
 have hFV:AF ((A.under (.builtin "type.__call__" ⟨.ref 427::ws,[]⟩)).deeper (Gs "Declaration.__init__" (fScope (clsStmt 16 0)) L 382 (.ref 381) [])) ⟨[],V⟩:=hF.push rfl rfl (L:=L) (x:="self") (c:=Ad (.ref me)) (by walk_at "mem") λp hp=>.tail _ (.tail _ (.tail _ (.tail _ (.tail _ hp))))
 refine(cG (τ:=V) wd sok (.inr rfl) hkey few hroot (.inr (Ag (.head _))) hn hl (hA2.le (by decide)) hh hFV (λG' X' x w1 w2 w3 w4 w5 w6 w7 w8 w9 w10 w11=>?_) ws hw).T
 refine Fh.go (Cq ⟨_,Av.le_sub (τ':=τ) (.cons _ (.cons _ (.cons _ (.cons _ (.cons _ (.refl _)))))),rfl,?_⟩)
 rw [<-w3]
 exact h G' X' x w1 w2 w5 w6 w7 w8 w9 w10 w11
end
end
section
section
variable {Γ:Bm} {A:Az} {σ:Bc} {Φ:End->Be->Prop} {c:Code} {fs:List Frame} {s:Be} {env:Env} {K:Ga->Sem Gi} {H:Ab->Sem Gi} {gd:Bool->Bool} {lv:List Ab->List Ab}
theorem sT {α:Type} [Xx α] {t:Sem α} {K:α->Sem Gi} (R:Eg Γ σ s) (h:T Γ (A.over c fs) σ t λv σ'=>∀u,cln u=v->∀s',Eg Γ σ' s'->Ht (Ci Γ.prog Γ.w) A Φ c (K u) fs s'):Ht (Ci Γ.prog Γ.w) A Φ c (t.wrap K H gd lv) fs s:=
 Tj (h.elim R λv s' σ' R' q=>q v rfl s' R')
theorem Kk {st:Jy} {rest:List Jy}
  (h:Ht (Ci Γ.prog Γ.w) A Φ c ((Ni st env).wrap (λf=>match f with|.next=>(Cs rest env).wrap K H gd lv|f=>K f) H gd lv) fs s):Ht (Ci Γ.prog Γ.w) A Φ c ((Cs (st::rest) env).wrap K H gd lv) fs s:=by rw [execs_cons_wrap];exact h
theorem eN {st:Jy} {rest:List Jy} (R:Eg Γ σ s) (h:T Γ (A.over c fs) σ (Ni st env) λf σ'=>f=.next/\∀s',Eg Γ σ' s'->Ht (Ci Γ.prog Γ.w) A Φ c ((Cs rest env).wrap K H gd lv) fs s'):Ht (Ci Γ.prog Γ.w) A Φ c ((Cs (st::rest) env).wrap K H gd lv) fs s:=by
 refine Kk (sT R (h.mono λf σ' q u hu s' R'=>?_))
 rw [q.1]at hu
 cases u<;>first|exact q.2 s' R'|cases hu
theorem Ug {e:At} {ypos pos:Pos} (hfs:splitAtGen fs=Ae) (R:Eg Γ σ s)
  (h:T Γ (A.over c fs) σ (Dv e env) λv σ'=>∀u,cl u=v->∀s',Eg Γ σ' s'->∀g l k p,g=gd false->(∀A' Φ' s'',Ht (Ci Γ.prog Γ.w) A' Φ' c (K .next) fs s''->Ht (Ci Γ.prog Γ.w) A' Φ' c (k (.send .none)) fs s'')->Φ (.susp u g l k c p fs) s')
  (hco:autoParam (env.scope.isCoroutine=false) aR) (hi:autoParam (interactive env=false) aR):Ht (Ci Γ.prog Γ.w) A Φ c ((Ni (.Expr (.Yield (Ad e) ypos) pos) env).wrap K H gd lv) fs s:=by
 rw [exec_Expr env _ pos hi rfl]
 show Ht _ A Φ c (.at pos λ_=>((Dv e env>>=λv=>(Mz ypos>>=λ_=>yieldOut env v))>>=λx=>dropValue (.Yield (Ad e) ypos) pos x).wrap K H gd lv) fs s
 have hy:∀v,yieldOut env v=yieldValue v:=λv=>by simp only [yieldOut,hco,Hs,if_false]
 simp only [hy]
 refine fW ?_
 rw [Jb,Jb,Mv,Mv]
 refine sT R (h.mono λv σ' q u hu s' R'=>?_)
 refine fW (bP hfs λp=>?_)
 refine q u hu s' R' _ _ _ p rfl λA' Φ' s'' hx=>hx
theorem iI {target iter:At} {body orelse:List Jy} {pos:Pos} (R:Eg Γ σ s)
  (h:T Γ (A.over c fs) σ (Dv iter env) λcv σ₁=>∀v,cl v=cv->T Γ (A.over c fs) σ₁ (Ib v) λci σ₂=>∃it,ci=.ref it/\∀s,Eg Γ σ₂ s->∀k g p,g=gd false->k (.ok .next)=K .next->
   Ht (Ci Γ.prog Γ.w) A Φ (.forLoop target (.ref it) body orelse env) ((Ci Γ.prog Γ.w).den (.forLoop target (.ref it) body orelse env)) (.ret k Ae g (lv []) c p []::fs) s)
  (hs:autoParam (∀x,Dx iter env x=Et x) aI):Ht (Ci Γ.prog Γ.w) A Φ c ((Ni (.For target iter body orelse pos) env).wrap K H gd lv) fs s:=by
 rw [exec_For]
 refine Do (Ev ?_)
 refine Do (h.elim R λv s₁ σ₁ R₁ q₁=>?_)
 refine Do (Iv (hs v) (Do (Ev (Do (Ef ((q₁ v rfl).elim R₁ λu s₂ σ₂ R₂ q=>?_))))))
 obtain⟨it,e,q₂⟩:=q
 rw [Ch e]
 exact pO λp=>q₂ s₂ R₂ _ _ p rfl rfl
noncomputable def Adg (target:At) (it:Ab) (body orelse:List Jy) (env:Env):Ga->Sem Gi:=λf=>match f with
 |.next|.cont=>.pure (.again (.forLoop target it body orelse env))
 |.brk=>.pure (.done .next)
 |.ret v=>.pure (.done (.ret v))
theorem Zi {W τ ρ:List Av} {G:Bc->Prop} {x:Str} {px:Pos} {it:Am} {body:List Jy} {k:Le->Sem Gi} {g:Bool} {l:List Ab} {c₁:Code} {p₁:Pos} (Y:Lj Γ (A.over (.forLoop (.Name x px) (.ref it) body [] env) (.ret k Ae g l c₁ p₁ []::fs)) it G [] ρ) (hG:G ⟨W,τ⟩) (R:Eg Γ ⟨W,ρ++τ⟩ s)
  (h:∀s',Eg Γ ⟨W,τ⟩ s'->Ht (Ci Γ.prog Γ.w) A Φ c₁ (k (.ok .next)) fs s'):
  Ht (Ci Γ.prog Γ.w) A Φ (.forLoop (.Name x px) (.ref it) body [] env) ((Ci Γ.prog Γ.w).den (.forLoop (.Name x px) (.ref it) body [] env)) (.ret k Ae g l c₁ p₁ []::fs) s:=by
 show Ht _ A Φ _ ((forTurn (.Name x px) (.ref it) body [] env).onRaise (λx=>do Pw x env;theTreesLotGoes x)) _ s
 unfold forTurn
 rw [Jk]
 exact Do (Ev (Do (Oe (wpAny_onRaise (Y.stop hG R λs₁ R₁=>Po rfl (pN (.ok .next) (h s₁ R₁)))))))
theorem Xi {W τ ρ:List Av} {G:Bc->Prop} {v:Ab} {vs:List Ab} {x:Str} {px:Pos} {it:Am} {body:List Jy} {k:Le->Sem Gi} {g:Bool} {l:List Ab} {c₁:Code} {p₁:Pos} (Y:Lj Γ (A.over (.forLoop (.Name x px) (.ref it) body [] env) (.ret k Ae g l c₁ p₁ []::fs)) it G (v::vs) ρ) (hG:G ⟨W,τ⟩) (R:Eg Γ ⟨W,ρ++τ⟩ s)
  (h:∀u ρ',cl u=v->Lj Γ (A.over (.forLoop (.Name x px) (.ref it) body [] env) (.ret k Ae g l c₁ p₁ []::fs)) it G vs ρ'->T Γ (A.over (.forLoop (.Name x px) (.ref it) body [] env) (.ret k Ae g l c₁ p₁ []::fs)) ⟨W,ρ'++τ⟩ (Ir (.Name x px) env u) λ_ σ''=>∀s'',Eg Γ σ'' s''->∀Hx,Ht (Ci Γ.prog Γ.w) A Φ (.forLoop (.Name x px) (.ref it) body [] env) ((Cs body env).wrap (Adg (.Name x px) (.ref it) body [] env) Hx id id) (.ret k Ae g l c₁ p₁ []::fs) s''):
  Ht (Ci Γ.prog Γ.w) A Φ (.forLoop (.Name x px) (.ref it) body [] env) ((Ci Γ.prog Γ.w).den (.forLoop (.Name x px) (.ref it) body [] env)) (.ret k Ae g l c₁ p₁ []::fs) s:=by
 show Ht _ A Φ _ ((forTurn (.Name x px) (.ref it) body [] env).onRaise (λx=>do Pw x env;theTreesLotGoes x)) _ s
 unfold forTurn
 rw [Jk]
 refine Do (Ev (Do (Oe (wpAny_onRaise (Y.more hG R λu ρ' s₁ eu R₁ _ Y'=>?_)))))
 refine Do (Iv (rfl:Dr (.Name x px) (.ref it) u=Et ()) (Do ((h u ρ' eu Y').elim R₁ λ_ s₂ σ₂ R₂ q₂=>?_)))
 rw [Jb,Mv]
 rw [Sem.wrap_congr (Cs body env) _ _ (K':=Adg (.Name x px) (.ref it) body [] env) (H':=_) (λf=>by cases f<;>rfl) (λe=>rfl)]
 exact q₂ s₂ R₂ _
end
end
section
section
variable {Γ:Bm} {A:Az} {σ:Bc} {Φ:End->Be->Prop} {c:Code} {fs:List Frame} {s:Be} {env:Env}
theorem eO {body:List Jy} (h:∀Hx,Ht (Ci Γ.prog Γ.w) A Φ (.func body env) ((Cs body env).wrap (λf=>.pure (.done (.ret (match f with|.ret v=>v|_=>.none)))) Hx id id) fs s):Ht (Ci Γ.prog Γ.w) A Φ (.func body env) ((Ci Γ.prog Γ.w).den (.func body env)) fs s:=by
 show Ht _ A Φ _ (.point [] λ_=>((Cs body env).onRaise (leaving env))>>=_) fs s
 refine lR ?_
 rw [Jk,Jb,Mv]
 rw [Sem.wrap_congr (Cs body env) _ _ (K':=λf=>.pure (.done (.ret (match f with|.ret v=>v|_=>.none)))) (H':=_) (λf=>by cases f<;>rfl) (λe=>rfl)]
 exact h _
theorem yN {W τ:List Av} {f:Am} {oc:Ab} {od:Option Am} {osl:Array (Option Ab)} {name qual:Str} {params:Arguments} {body:List Jy} {scope:Li} {dV kV doc pm cdv ct:Ab} {an:Option Am} {vs:List Ab} {kw bs:List (Str×Ab)} {Q:Ab->Bc->Prop} (names:List Str)
  (ho:Γ.K.lookup f=Ad ⟨oc,od,.func (fnX name qual params body scope [] dV kV doc pm an cdv ct),osl⟩) (hcode:codeIn Γ.K cdv qual=true) (hd:A.depth < Hf) (hb:Hb Γ (fnX name qual params body scope [] dV kV doc pm an cdv ct) vs kw bs)
  (h:∀L a g nm qn,Q (.ref a) ⟨W,(.obj a,.raw (Vj g nm qn))::(.gen g,.gst (.fresh (.func body (Gs qual scope L f cdv []))))::(Od L names bs++τ)⟩)
  (hcell:autoParam ((scope.names.all λx=>x.2 != .cell)=true) aR) (hloc:autoParam ((bs.all λx=>scope.names.lookup x.1==Ad .local)=true) aR) (hn:autoParam (names.Nodup) aD)
  (hco:autoParam (scope.isCoroutine=false) aR) (hgen:autoParam (scope.isGenerator=true) aR) (hk:autoParam (scope.kind=.function) aR):
  ∀ws kws,ws.map cl=vs->kws.map (λp:Str×Ab=>(p.1,cl p.2))=kw->TC Γ A ⟨W,τ⟩ (.ref f) ws kws Q:=λws kws hw hkw s R=>by
 obtain⟨binds,eb,hbind⟩:=hb ws kws hw hkw
 refine codeAny_call_generator (fd:=fnX name qual params body scope [] dV kV doc pm an cdv ct) (body:=body) hd (R.kin _ _ ho) rfl hco hgen rfl (codeRec_of R.kin hcode) (hbind s R.kin _ _ _ _ ?_)
 have hcell':∀x∈scope.names,x.2≠.cell:=λx hx=>by
  have:=Fz.mp hcell x hx
  simpa using this
 have hloc':∀x∈binds,scope.names.lookup x.1=Ad .local:=λx hx=>by
  have hx':(x.1,cl x.2)∈bs:=eb▸Cz hx
  have:=Fz.mp hloc _ hx'
  simpa using this
 refine wpAny_newFunctionEnv hcell' hloc' (λh₀ hns hs₀=>?_) hk
 have keep:∀b o,s.heap.get? b=Ad o->h₀.get? b=Ad o:=λb o e=>hs₀.extBut b o (Kw (Dw e)) (An _ e)
 have R₁:Eg Γ ⟨W,τ⟩ {s with heap:=h₀,toks:=s.toks+binds.length}:=R.grow keep rfl rfl
 refine⟨R₁.lim.no,?_⟩
 have R₂:=R₁.adds (Od s.heap.objs.size names bs) (λp hp=>?_) (Tm hn)
 ·have R₃:=R₂.pushGen (c:=.func body (Gs qual scope s.heap.objs.size f cdv []))
  have R₄:=(R₃.toks (s.toks+binds.length+1+1)).push (c:=.raw (Vj s.gens.size (.str name (s.toks+binds.length)) (.str qual (s.toks+binds.length+1)))) (s':={s with heap:=h₀.push (Vj s.gens.size (.str name (s.toks+binds.length)) (.str qual (s.toks+binds.length+1))),gens:=s.gens.push (.fresh (.func body (Gs qual scope s.heap.objs.size f cdv []))),toks:=s.toks+binds.length+1+1})
   (λ_ _ e=>An _ e) rfl rfl (Bj _ rfl)
  exact⟨_,R₄,h s.heap.objs.size _ _ _ _⟩
 ·obtain⟨x,hx,rfl⟩:=Bq.mp hp
  refine⟨⟨_,hns,?_⟩,R.freshTop,Jw (σ:=⟨W,τ⟩) (s:=s) rfl (λq hq=>(R.ents q hq).1) (Cb _)⟩
  rw [<-eb,<-List.map_reverse,Ov]
end
noncomputable def Cn (acc:List Nat):List Nat->List Nat
 |[]=>[]
 |x::r=>if acc.contains x then Cn acc r else x::Cn (acc++[x]) r
theorem dO {acc r:List Nat} {j:Nat} (h:acc.contains j=false):Cn acc (j::r)=j::Cn (acc++[j]) r:=by
 rw [Cn,h]
 rfl
theorem dN {acc r:List Nat} {j:Nat} (h:acc.contains j=true):Cn acc (j::r)=Cn acc r:=by
 rw [Cn,h]
 rfl
theorem Hu (b:List Nat):∀(a acc:List Nat),Cn acc (a++b)=Cn acc a++Cn (acc++Cn acc a) b
 |[],acc=>by simp [Cn]
 |x::a,acc=>by
  simp only [Hv,Cn]
  split
  ·exact Hu b a acc
  ·rw [Hu b a (acc++[x])]
   simp
noncomputable def Sd (G:List Nd):Nat->Nat->List Nat
 |0,_=>[]
 |n+1,i=>match G[i]?with
  |Ad x=>if x.C=364 then [i]else Cn [] (x.bs.flatMap (Sd G n))
  |Ae=>[]
section
variable {Γ:Bm} {A:Az} {G:List Nd} {W:List Av}
noncomputable abbrev fU (Γ:Bm) (A:Az) (G:List Nd) (W τ:List Av) (out:List Nat):End->Be->Prop:=pF Γ A (λσ=>σ.W=W) (Ap G out) ⟨W,τ⟩
theorem Ww {out:List Ab} {gs:Kb} {ρ:List Av} (h:∀τ s,Eg Γ ⟨W,ρ++τ⟩ s->Zh (Ci Γ.prog Γ.w) A (pF Γ A (λσ=>σ.W=W) out ⟨W,τ⟩) gs s):oE Γ A (λσ=>σ.W=W) out gs ρ:=λσ s hσ R=>by
 obtain⟨W',τ⟩:=σ
 cases(hσ:W'=W)
 exact h τ s R
noncomputable def Sz (Γ:Bm) (G:List Nd) (W:List Av) (n i:Nat) (js:List Nat):Prop:=∀⦃A:Az⦄ ⦃τ:List Av⦄ ⦃x:Nd⦄ ⦃ov:Ab⦄ ⦃pl:Sem Bool⦄ ⦃Q:Ab->Bc->Prop⦄,G[i]? =Ad x->Rm A 1->cl ov=.ref x.me->
 (∀a ρ,(∀A':Az,A'.handled=Ae->Rm A' n->Lj Γ A' a (λσ=>σ.W=W) (Ap G js) ρ/\Vu Γ A' a ρ)->Q (.ref a) ⟨W,ρ++τ⟩)->
 T Γ A ⟨W,τ⟩ (Il ov "interfaces" pl) λfx σ₂=>Qx Γ fx.1/\∀ws,ws.map cl=fx.2++[]->T Γ A σ₂ (Iq fx.1 ws) Q
theorem qP (Γ:Bm):Γ.K.lookup 361=Ad ⟨.type "function",Ae,.func (Kh Γ 361 "InterfaceClass.interfaces" (clsStmt 14 1) (.ref 360) .none),#[]⟩:=by kernel_rfl
theorem qO (Γ:Bm):Γ.K.lookup 325=Ad ⟨.type "function",Ae,.func (Kh Γ 325 "Specification.interfaces" (clsStmt 13 7) (.ref 324) .none),#[]⟩:=by kernel_rfl
theorem yE (Γ:Bm):Ss Γ.K 364 "interfaces" 361=true/\Ss Γ.K 427 "interfaces" 325=true:=⟨by kernel_rfl,by kernel_rfl⟩
theorem mX {n i:Nat} {x:Nd} (nf:NF W G) (hi:G[i]? =Ad x) (hx:x.C=364):Sz Γ G W (n+1) i [i]:=by
 intro A τ x' ov pl Q hi' hA ho h
 rw [hi]at hi'
 cases hi'
 refine Uc ho (Pj (nf.inst _ _ hi)) (Pj (nf.ns _ _ hi)) (by rw [hx];exact(yE Γ).1) (by show _∉aF;decide) ⟨.inl (by kernel_rfl),λws hw=>?_⟩
 refine(yN (body:=fBody (clsStmt 14 1)) (bs:=[("self",.ref x.me)]) ["self"] (qP Γ) (by kernel_rfl) hA.room (Hb.plain1 λ_ _=>Cm (by rfl)) (λL a g nm qn=>?_) (by rfl) (by rfl) (by decide) (by rfl) (by rfl) (by rfl) ws [] hw rfl).T
 show Q (.ref a) ⟨W,((.obj a,.raw (Vj g nm qn))::(.gen g,.gst (.fresh (.func (fBody (clsStmt 14 1)) (Gs "InterfaceClass.interfaces" (fScope (clsStmt 14 1)) L 361 (.ref 360) []))))::[(.var L "self",.val (Ad (.ref x.me)))])++τ⟩
 refine h a _ λA' hh' hA'=>⟨bH hh' hA'.room (λσ ext h=>h) _ _ _ (Ww λτ s R=>?_),aY⟩
 show Ht _ A'.in1 _ _ _ [] s
 refine eO λHx=>Kk (Ug rfl R ?_)
 refine Ac (v:=.ref x.me) (Ag (.head _)) λu hu s' R' g l k p hg hk=>?_
 refine vV.mk u g l k _ p [] [(.var L "self",.val (Ad (.ref x.me)))] rfl (by rw [hg];rfl) (hu.trans (congrArg Bx (Bu hi)).symm) R' (Ww λτ s R=>hk _ _ _ ?_)
 exact aZ (.ok (.ret .none)) (vX.mk _ rfl (.inr rfl) (Av.le_sub (.cons _ (.refl _)) _ _ R))
end
end
section
theorem lS {G:List Nd} (hk:(G.map (·.key)).Nodup) {acc:List Nat} (hl:∀j∈acc,j < G.length) {j:Nat} (hj:j < G.length):(Fq (acc.map λj=>(Cy G j,Fs 1 0)) (Cy G j)).isSome=acc.contains j:=by
 induction acc with
 |nil=>rfl
 |cons a r ih=>
  have ih:=ih λk hk=>hl k (.tail _ hk)
  have ha:=hl a (.head _)
  unfold Fq at ih ⊢
  simp only [Ck,Ho,Ps]
  by_cases q:a=j
  ·subst q;simp
  ·have:¬Cy G a=Cy G j:=λe=>q (fY hk ha hj e)
   have q':(j==a)=false:=by simpa using λe:j=a=>q e.symm
   simp only [this,decide_false,q',Bool.false_or]
   exact ih
section
variable {Γ:Bm} {A:Az} {G:List Nd} {W:List Av}
theorem wE {Φ:End->Be->Prop} {c:Code} {fs:List Frame} {s:Be} {σ:Bc} {env:Env} {K:Ga->Sem Gi} {H:Ab->Sem Gi} {gd:Bool->Bool} {lv:List Ab->List Ab} {test:At} {body orelse:List Jy} {pos:Pos} (R:Eg Γ σ s)
  (h:T Γ (A.over c fs) σ (isTrue test env (Dv test env)) λb σ'=>∀s',Eg Γ σ' s'->(b=true->Ht (Ci Γ.prog Γ.w) A Φ c ((Cs body env).wrap K H gd lv) fs s')/\(b=false->Ht (Ci Γ.prog Γ.w) A Φ c ((Cs orelse env).wrap K H gd lv) fs s')):Ht (Ci Γ.prog Γ.w) A Φ c ((Ni (.If test body orelse pos) env).wrap K H gd lv) fs s:=by
 rw [exec_If]
 refine Do (Ev (Do (h.elim R λb s' σ' R' q=>?_)))
 cases b with
 |true=>exact(q s' R').1 rfl
 |false=>exact(q s' R').2 rfl
noncomputable abbrev gX (L:Am):Env:=Gs "Specification.interfaces" (fScope (clsStmt 13 7)) L 325 (.ref 324) []
noncomputable abbrev iV (G:List Nd) (L me sd:Am) (acc:List Nat) (ob oi:Option Ab) (τ:List Av):List Av:=
 (.obj sd,.idict (acc.map λj=>(Cy G j,.int 1 0)))::(.var L "self",.val (Ad (.ref me)))::(.var L "seen",.val (Ad (.ref sd)))::(.var L "base",.val ob)::(.var L "interface",.val oi)::τ
noncomputable def Aid:List Jy:=match(fBody (clsStmt 13 7)).getD 1 (.Pass ⟨0,0,0,0⟩)with
 |.For _ _ (.For _ _ b _ _::_) _ _=>b
 |_=>[]
noncomputable abbrev lG (L it:Am) (px:Pos):Code:=.forLoop (.Name "interface" px) (.ref it) Aid [] (gX L)
theorem uP {L me sd it:Am} {px:Pos} {k:Le->Sem Gi} {l:List Ab} {c₁:Code} {p₁:Pos} {fs:List Frame} {Rr:List Av} {outRest:List Nat->List Nat} (nf:NF W G) (hk:(G.map (·.key)).Nodup) (few:G.length<=12) (hsp:splitAtGen fs=Ae) (hgd:fs.any Frame.guarded=false)
  (cont:∀acc τ s ob oi,(∀j∈acc,j < G.length)->acc.Nodup->Eg Γ ⟨W,iV G L me sd acc ob oi (Rr++τ)⟩ s->Ht (Ci Γ.prog Γ.w) A (fU Γ A G W τ (outRest acc)) c₁ (k (.ok .next)) fs s):
  ∀(r:List Nat) (ρ₀:List Av) (acc:List Nat),(∀j∈r,j < G.length)->(∀j∈acc,j < G.length)->acc.Nodup->Lj Γ (A.over (lG L it px) (.ret k Ae false l c₁ p₁ []::fs)) it (λσ=>σ.W=W) (Ap G r) ρ₀->
  ∀τ s ob oi,Eg Γ ⟨W,ρ₀++iV G L me sd acc ob oi (Rr++τ)⟩ s->
   Ht (Ci Γ.prog Γ.w) A (fU Γ A G W τ (Cn acc r++outRest (acc++Cn acc r))) (lG L it px) ((Ci Γ.prog Γ.w).den (lG L it px)) (.ret k Ae false l c₁ p₁ []::fs) s:=by
 intro r
 induction r with
 |nil=>
  intro ρ₀ acc _ hacc hnd Y τ s ob oi R
  refine Zi Y rfl R λs' R'=>?_
  show Ht _ A (fU Γ A G W τ (outRest (acc++[]))) _ _ _ _
  rw [Cr]
  exact cont acc τ s' ob oi hacc hnd R'
 |cons j r ih=>
  intro ρ₀ acc hr hacc hnd Y τ s ob oi R
  have hj:=hr j (.head _)
  obtain⟨y,ey⟩:=Dp hj
  have hlen:acc.length<=12:=Ca (Go _ _ hnd hacc) few
  have hsv:=lS hk hacc hj
  rw [Gj ey]at hsv
  refine Xi Y rfl R λu ρ₁ hu Y'=>Cx (v:=.ref y.me) (hu.trans (congrArg Bx (Bu ey))) (.tau (.pre (.there (.there (.there (.there .here)))))) λs₁ R₁ Hx=>Kk (wE R₁ ?_)
  have ih:=λacc h1 h2=>ih ρ₁ acc (λk hk=>hr k (.tail _ hk)) h1 h2 Y'
  refine Au (Ek (x:=y) nf ey (Mg Γ) (.head _) (Ac (v:=.ref y.me) (Ag (Aa _ (mL 4 rfl))) ⟨rfl,rfl⟩) (Ac (v:=.ref sd) (Ag (Aa _ (mL 2 rfl))) (Xu (Ag (Aa _ (.head _))) ⟨_,rfl,λs₂ R₂=>⟨λhb=>?_,λhb=>?_⟩⟩)))
  ·rw [hsv]at hb
   have hc:acc.contains j=false:=by simpa using hb
   have hnj:j∉acc:=by simpa using hc
   have hvn:Fq (acc.map λj=>(Cy G j,Fs 1 0)) y.key=Ae:=by
    rw [hc]at hsv
    simpa using hsv
   rw [dO hc,List.append_cons acc j (Cn _ _),Hv]
   have hst:Lr (acc.map λj=>(Cy G j,Fs 1 0)) y.key (.int 1 0)=(acc++[j]).map λj=>(Cy G j,Fs 1 0):=by rw [bO hvn,Bk,List.map_singleton,Gj ey]
   refine eN R₂ (Lg (Dh (Ac (v:=.ref sd) (Ag (Aa _ (mL 2 rfl))) (Ek (x:=y) nf ey (Mg Γ) (.head _) (Ac (v:=.ref y.me) (Ag (Aa _ (mL 4 rfl))) ⟨rfl,rfl⟩) λv ov iv hv ho hi=>Qr ho hi hv (.tau (.pre .here)) (by rw [As,Ay];lia) ⟨rfl,λs₃ R₃=>?_⟩))))
   rw [hst]at R₃
   refine Kk (Ug (by rw [splitAtGen_ret,hsp];rfl) R₃ ?_)
   refine Ac (v:=.ref y.me) (Ag (Aa _ (mL 4 rfl))) λu hu s₄ R₄ g l' k' p hg hk'=>?_
   refine vV.mk u g l' k' _ p _ (ρ₁++iV G L me sd (acc++[j]) ob (Ad (.ref y.me)) Rr) rfl (by simp [End.quiet,hg,Frame.guarded,hgd]) (hu.trans (congrArg Bx (Bu ey)).symm) (by rw [Ba];exact R₄) (Ww λτ s₅ R₅=>?_)
   rw [Ba]at R₅
   refine hk' _ _ _ (Po rfl (ih (acc++[j]) (λk hk=>?_) ?_ τ s₅ ob (Ad (.ref y.me)) R₅))
   ·exact(Ak.mp hk).elim (hacc k) λh=>by rw [Bi.mp h];exact hj
   ·exact bU hnd hnj
  ·rw [hsv]at hb
   have hc:acc.contains j=true:=by simpa using hb
   rw [dN hc]
   exact Po rfl (ih acc hacc hnd τ s₂ ob (Ad (.ref y.me)) R₂)
end
end
section
section
variable {Γ:Bm} {A:Az} {G:List Nd} {W:List Av}
noncomputable def Ael:List Jy:=match(fBody (clsStmt 13 7)).getD 1 (.Pass ⟨0,0,0,0⟩)with
 |.For _ _ b _ _=>b
 |_=>[]
theorem wO {n:Nat} (h:Rm A (n+1)) {t t':At} {it it':Ab} {b b' body:List Jy} {e e' e2:Env} {k k2:Le->Sem Gi} {g g2:Bool} {l l2:List Ab} {p p2:Pos}:
  Rm (A.over (.forLoop t it b [] e) [.ret k Ae g l (.forLoop t' it' b' [] e') p [],.ret k2 Ae g2 l2 (.func body e2) p2 []]) n:=
 ⟨by have:=h.depth;show A.depth+1+0+3 * n < _;lia,by have:=h.units;show A.units+3+0+20 * n < _;lia⟩
theorem iN {n:Nat} (h:Rm A (n+1)) {t:At} {it:Ab} {b body:List Jy} {e e2:Env} {k2:Le->Sem Gi} {g2:Bool} {l2:List Ab} {p2:Pos}:
  Rm (A.over (.forLoop t it b [] e) [.ret k2 Ae g2 l2 (.func body e2) p2 []]) n:=
 ⟨by have:=h.depth;show A.depth+1+0+3 * n < _;lia,by have:=h.units;show A.units+3+0+20 * n < _;lia⟩
noncomputable abbrev fN (L it:Am) (px:Pos):Code:=.forLoop (.Name "base" px) (.ref it) Ael [] (gX L)
theorem oS {L me sd:Am} {acc:List Nat} {ob oi:Option Ab} {ρ τ:List Av}:(ρ++iV G L me sd acc ob oi τ).Perm (iV G L me sd acc ob oi (ρ++τ)):=by
 show(ρ++(iV G L me sd acc ob oi []++τ)).Perm (iV G L me sd acc ob oi []++(ρ++τ))
 rw [<-Ba,<-Ba]
 exact Eb _ Fa
theorem uO {L me sd it:Am} {px:Pos} {k:Le->Sem Gi} {l:List Ab} {body:List Jy} {p₁:Pos} {n m:Nat} (nf:NF W G) (hk:(G.map (·.key)).Nodup) (few:G.length<=12) (hA:Rm A (n+2)) (hh:A.handled=Ae)
  (hkf:∀Φ s,Φ (.ret (.ok (.ret .none))) s->Ht (Ci Γ.prog Γ.w) A Φ (.func body (gX L)) (k (.ok .next)) [] s):
  ∀(r:List Nat) (ρ₀:List Av) (acc:List Nat),(∀b∈r,b < G.length/\Sz Γ G W n b (Sd G m b)/\∀j∈Sd G m b,j < G.length)->(∀j∈acc,j < G.length)->acc.Nodup->
  Lj Γ (A.over (fN L it px) [.ret k Ae false l (.func body (gX L)) p₁ []]) it (λσ=>σ.W=W) (Ap G r) ρ₀->
  ∀τ s ob oi,Eg Γ ⟨W,ρ₀++iV G L me sd acc ob oi τ⟩ s->
   Ht (Ci Γ.prog Γ.w) A (fU Γ A G W τ (Cn acc (r.flatMap (Sd G m)))) (fN L it px) ((Ci Γ.prog Γ.w).den (fN L it px)) [.ret k Ae false l (.func body (gX L)) p₁ []] s:=by
 intro r
 induction r with
 |nil=>
  intro ρ₀ acc _ hacc hnd Y τ s ob oi R
  exact Zi Y rfl R λs' R'=>hkf _ _ (vX.mk _ rfl (.inr rfl) (Av.le_sub (.cons _ (.cons _ (.cons _ (.cons _ (.cons _ (.refl _)))))) _ _ R'))
 |cons b r ih=>
  intro ρ₀ acc hr hacc hnd Y τ s ob oi R
  obtain⟨hb,hgives,hnear⟩:=hr b (.head _)
  obtain⟨y,ey⟩:=Dp hb
  refine Xi Y rfl R λu ρ₁ hu Y'=>Cx (v:=.ref y.me) (hu.trans (congrArg Bx (Bu ey))) (.tau (.pre (.there (.there (.there .here))))) λs₁ R₁ Hx=>Kk (iI R₁ ?_)
  refine Fo (Ac (v:=.ref y.me) (Ag (Aa _ (mL 3 rfl))) λov hov=>(hgives ey ((iN hA).le (by lia)) hov λa ρg hFd=>?_).mono λfx σ₂ q=>⟨q.1,Ar λws hw=>q.2 ws hw⟩)
  intro v hv
  rw [Ch hv]
  refine((hFd (A.over (fN L it px) [.ret k Ae false l (.func body (gX L)) p₁ []]) hh ((iN hA).le (Nat.le_succ n))).2 W _).mono λc σ₃ q=>⟨a,q.1,λs₂ R₂ k' g p hg hkk=>?_⟩
  rw [q.2]at R₂
  rw [show g=false from hg,Ha,Hu]
  refine uP (me:=me) (sd:=sd) (Rr:=ρ₁) (outRest:=λacc'=>Cn acc' (r.flatMap (Sd G m))) nf hk few rfl rfl (λacc' τ s ob oi h1 h2 R=>?_) (Sd G m b) ρg acc hnear hacc hnd (hFd _ (by exact hh) (by exact wO (hA.le (Nat.le_succ _)))).1 τ s₂ (Ad (.ref y.me)) oi (Wp (Bf ρg oS) R₂)
  rw [hkk]
  exact Po rfl (ih ρ₁ acc' (λb hb=>hr b (.tail _ hb)) h1 h2 Y' τ s ob oi (Wp oS.symm R))
theorem mW {n m i:Nat} {x:Nd} (nf:NF W G) (gr:Gr G) (hi:G[i]? =Ad x) (hx:x.C=427) (hb:∀b∈x.bs,Sz Γ G W n b (Sd G m b)/\∀j∈Sd G m b,j < G.length):Sz Γ G W (n+3) i (Cn [] (x.bs.flatMap (Sd G m))):=by
 intro A τ x' ov pl Q hi' hA ho h
 rw [hi]at hi'
 cases hi'
 have hil:=(Al.mp hi).1
 refine Uc ho (Pj (nf.inst _ _ hi)) (Pj (nf.ns _ _ hi)) (by rw [hx];exact(yE Γ).2) (by show _∉aF;decide) ⟨.inl (by kernel_rfl),λws hw=>?_⟩
 refine(yN (body:=fBody (clsStmt 13 7)) (bs:=[("self",.ref x.me)]) ["self","seen","base","interface"] (qO Γ) (by kernel_rfl) hA.room (Hb.plain1 λ_ _=>Cm (by rfl)) (λL a g nm qn=>?_) (by rfl) (by rfl) (by decide) (by rfl) (by rfl) (by rfl) ws [] hw rfl).T
 show Q (.ref a) ⟨W,((.obj a,.raw (Vj g nm qn))::(.gen g,.gst (.fresh (.func (fBody (clsStmt 13 7)) (gX L))))::[(.var L "self",.val (Ad (.ref x.me))),(.var L "seen",.val Ae),(.var L "base",.val Ae),(.var L "interface",.val Ae)])++τ⟩
 refine h a _ λA' hh' hA'=>⟨bH hh' hA'.room (λσ ext h=>h) _ _ _ (Ww λτ s R=>?_),aY⟩
 show Ht _ A'.in1 _ (.func (fBody (clsStmt 13 7)) (gX L)) _ [] s
 have R:Eg Γ ⟨W,(.var L "self",.val (Ad (.ref x.me)))::(.var L "seen",.val Ae)::(.var L "base",.val Ae)::(.var L "interface",.val Ae)::τ⟩ s:=R
 refine eO λHx=>eN R (Bo (aL λsd=>⟨_,_,.tau (.there (.there .here)),rfl,λs₁ R₁=>?_⟩))
 refine Kk (iI R₁ ?_)
 refine Ek (x:=x) nf hi (Qg Γ) (.tail _ (.tail _ (.tail _ (.head _)))) (Ac (v:=.ref x.me) (mI 1 rfl) ⟨rfl,rfl⟩) (Hl (vs:=Ap G x.bs) ((nf.bt _ _ hi).tup) λit=>⟨it,rfl,λs₂ R₂ k gb p hg hkk=>?_⟩)
 rw [show gb=false from hg]
 refine uO (G:=G) (me:=x.me) (sd:=sd) (n:=n) (m:=m) nf gr.keys gr.few hA'.in1 hh' (λΦ s hΦ=>?_) x.bs [(.obj it,.titer x.bt 0)] [] (λb hb'=>⟨Jo ((gr.bs _ _ hi).2 b hb') hil,hb b hb'⟩) (λ_ h=>(by cases h)) .nil ((Hj (a:=x.bt) (by exact hh')).weak λσ hσ=>?_) τ s₂ Ae Ae R₂
 ·rw [hkk]
  exact aZ (.ok (.ret .none)) hΦ
 ·obtain⟨W2,τ2⟩:=σ
  cases(hσ:W2=W)
  exact(nf.bt _ _ hi).tup
set_option tactic.hygienic true in
theorem wQ (g:Gr G):∀(m i:Nat),∀j∈Sd G m i,j < G.length:=by
 intro m
 induction m with
 |zero=>intro i j h;cases h
 |succ m ih=>
  intro i j h
  unfold Sd at h
  split at h
  ·rename_i x e
   split at h
   ·rw [Bi.mp h];exact(Al.mp e).1
   ·have sub:∀(l acc:List Nat),∀j∈Cn acc l,j∈l:=by
     intro l
     induction l with
     |nil=>intro acc j h;cases h
     |cons a r ihr=>
      intro acc j h
      unfold Cn at h
      split at h
      ·exact .tail _ (ihr _ j h)
      ·rcases Cj.mp h with rfl|h
       ·exact .head _
       ·exact .tail _ (ihr _ j h)
    obtain⟨b,_,hb⟩:=Fm.mp (sub _ _ j h)
    exact ih b j hb
  ·cases h
theorem Sz.le {n n' i:Nat} {js:List Nat} (h:Sz Γ G W n i js) (hn:n<=n'):Sz Γ G W n' i js:=by
 intro A τ x ov pl Q h1 h2 h3 h4
 exact h h1 h2 h3 λa ρ hf=>h4 a ρ λA' a1 a2=>hf A' a1 (a2.le hn)
theorem qX (nf:NF W G) (g:Gr G):∀(m i:Nat),i < m->i < G.length->Sz Γ G W (3 * m) i (Sd G m i):=by
 intro m
 induction m with
 |zero=>intro i h;lia
 |succ m ih=>
  intro i him hil
  obtain⟨x,hi⟩:=Dp hil
  unfold Sd
  rw [hi]
  dsimp only
  rcases nf.cls _ _ hi with hx|hx
  ·rw [if_pos hx]
   exact(mX (n:=0) nf hi hx).le (by lia)
  ·rw [if_neg (by rw [hx];decide)]
   refine mW nf g hi hx λb hb=>⟨?_,wQ g m b⟩
   have:=(g.bs _ _ hi).2 b hb
   exact ih b (by lia) (by lia)
end
end
section
theorem zU (Γ:Bm):Γ.K.lookup 256=Ad ⟨.type "function",Ae,.func (Kh Γ 256 "SpecificationBase.isOrExtends" (clsStmt 12 0) (.ref 255) .none),#[]⟩:=by kernel_rfl
theorem qR (Γ:Bm):Γ.K.lookup 333=Ad ⟨.type "function",Ae,.func (Kh Γ 333 "Specification.extends" (clsStmt 13 8) (.ref 332) (.ref 326)),#[]⟩:=by kernel_rfl
theorem gA (Γ:Bm):aO Γ "isOrExtends" 256:=⟨by kernel_rfl,by kernel_rfl⟩
theorem mN (Γ:Bm):aO Γ "extends" 333:=⟨by kernel_rfl,by kernel_rfl⟩
theorem aT.has {G:List Nd} {i:Nat} {x:Nd} (h:aT G x) (g:Gr G) (hi:G[i]? =Ad x) {j:Nat} (hj:j < G.length):(Fq x.imps (Cy G j)).isSome=decide (j∈Gy G i):=by
 rw [Wo hi]
 have:=h.2 (Cy G j)
 by_cases q:j∈x.ss
 ·rw [decide_eq_true q]
  exact this.mpr ⟨j,q,rfl⟩
 ·rw [decide_eq_false q]
  cases e:(Fq x.imps (Cy G j)).isSome with
  |false=>rfl
  |true=>
   obtain⟨j',h1,h2⟩:=this.mp e
   have:=g.key_inj ((g.ss _ _ hi).2 j' h1) hj h2
   rw [this]at h1
   exact absurd h1 q
section
variable {Γ:Bm} {A:Az} {G:List Nd} {X:List Av} {σ:Bc}
theorem Afk {x:At} {pos:Pos} {env:Env} {Q:Ab->Bc->Prop} (h:T Γ A σ (Dv x env) λc σ₁=>∀v,cl v=c->T Γ A σ₁ (Pl v) λb=>Q (.bool (!b))):T Γ A σ (Dv (.UnaryOp .Not x pos) env) Q:=λs R=>
 wpAny_UnaryOp (h.elim R λv s₁ σ₁ R₁ q=>by
  unfold unaryOp
  refine Ef ?_
  show Cu _ _ (if(UnaryOp.Not==UnaryOp.Not)=true then(do let b<-Pl v;Et (Ab.bool !b))else _) _ _ _
  rw [if_pos (by decide)]
  exact Af ((q v rfl).elim R₁ λb s₂ σ₂ R₂ q₂=>Ax ⟨σ₂,R₂,q₂⟩))
theorem lI {W τ:List Av} {i j:Nat} {x y:Nd} {Q:Ab->Bc->Prop} (nf:NF W G) (g:Gr G) (im:aT G x) (hA:Rm A 1) (hi:G[i]? =Ad x) (hj:G[j]? =Ad y) (h:Q (.bool (decide (j∈Gy G i))) ⟨W,τ⟩):∀ws,ws.map cl=[.ref x.me,.ref y.me]->TC Γ A ⟨W,τ⟩ (.ref 256) ws [] Q:=λws hw=>by
 refine Pk (body:=fBody (clsStmt 12 0)) (bs:=[("self",.ref x.me),("interface",.ref y.me)]) ["self","interface"] (zU Γ) (by kernel_rfl) hA.room (Hb.plain2 λ_ _ _=>Cm (by rfl)) (λL=>?_) (by rfl) (by rfl) (by decide) (by rfl) (by rfl) (by rfl) ws [] hw rfl
 show T Γ _ ⟨W,(.var L "self",.val (Ad (.ref x.me)))::(.var L "interface",.val (Ad (.ref y.me)))::τ⟩ _ _
 have hjl:=(Al.mp hj).1
 have hv:=im.has g hi hjl
 rw [Gj hj]at hv
 refine Ao (Fp (To (Ek (x:=y) nf hj (Mg Γ) (.head _) (Ac (v:=.ref y.me) (by walk_at "mem") ⟨rfl,rfl⟩) (Ek (x:=x) nf hi (sM Γ) (.tail _ (.tail _ (.tail _ (.tail _ (.head _))))) (Ac (v:=.ref x.me) (by walk_at "mem") ⟨rfl,rfl⟩) (fJ (Pj (nf.imp _ _ hi)) ?_)))))
 rw [hv]
 exact⟨_,Av.le_sub (.cons _ (.cons _ (.refl _))),h⟩
theorem rG {W τ:List Av} {i j:Nat} {x y:Nd} {Q:Ab->Bc->Prop} (nf:NF W G) (g:Gr G) (im:aT G x) (hA:Rm A 1) (hi:G[i]? =Ad x) (hj:G[j]? =Ad y) (h:Q (.bool (decide (j∈Gy G i)&&decide (i≠j))) ⟨W,τ⟩):∀ws,ws.map cl=[.ref x.me,.ref y.me]->TC Γ A ⟨W,τ⟩ (.ref 333) ws [] Q:=λws hw=>by
 refine Pk (body:=fBody (clsStmt 13 8)) (bs:=[("self",.ref x.me),("interface",.ref y.me),("strict",.bool true)]) ["self","interface","strict"] (qR Γ) (by kernel_rfl) hA.room ?_ (λL=>?_) (by rfl) (by rfl) (by decide) (by rfl) (by rfl) (by rfl) ws [] hw rfl
 ·intro ws kws hw hk
  obtain⟨w₁,w₂,rfl,e1,e2⟩:=Kf hw
  have:kws=[]:=by simpa using hk
  subst this
  exact⟨[("self",w₁),("interface",w₂),("strict",.bool true)],by simp [e1,e2],λs X=>kp_binds X λS=>by kernel_rfl⟩
 show T Γ _ ⟨W,(.var L "self",.val (Ad (.ref x.me)))::(.var L "interface",.val (Ad (.ref y.me)))::(.var L "strict",.val (Ad (.bool true)))::τ⟩ _ _
 have hjl:=(Al.mp hj).1
 have hil:=(Al.mp hi).1
 have hv:=im.has g hi hjl
 rw [Gj hj]at hv
 have fin:∀b,Q (.bool b) ⟨W,τ⟩->Jh Q (.ret (.bool b)) ⟨W,(.var L "self",.val (Ad (.ref x.me)))::(.var L "interface",.val (Ad (.ref y.me)))::(.var L "strict",.val (Ad (.bool true)))::τ⟩:=λb hb=>⟨_,Av.le_sub (.cons _ (.cons _ (.cons _ (.refl _)))),hb⟩
 have hkey:(x.key != y.key)=decide (i≠j):=by
  by_cases q:i=j
  ·subst q;rw [hi]at hj;cases hj;simp
  ·have:x.key≠y.key:=λe=>q (g.key_inj hil hjl (by rw [Gj hi,Gj hj,e]))
   simp [this,q]
 refine Ao (Fp (Aal (To (Ek (x:=y) nf hj (Mg Γ) (.head _) (Ac (v:=.ref y.me) (by walk_at "mem") ⟨rfl,rfl⟩) (Ek (x:=x) nf hi (sM Γ) (.tail _ (.tail _ (.tail _ (.tail _ (.head _))))) (Ac (v:=.ref x.me) (by walk_at "mem") ⟨rfl,rfl⟩) (fJ (Pj (nf.imp _ _ hi)) ?_))))))
 rw [hv]
 refine(Fi ⟨λhb=>?_,λhb=>?_⟩)
 ·rw [hb]at h ⊢
  exact fin _ h
 ·refine yK (Afk (Ac (v:=.bool true) (by walk_at "mem") (Fi (Fi ⟨λh=>(by cases h),λ_=>?_⟩))))
  refine To (Ek (x:=x) nf hi (Mg Γ) (.head _) (Ac (v:=.ref x.me) (by walk_at "mem") ⟨rfl,rfl⟩) (Ek (x:=y) nf hj (Mg Γ) (.head _) (Ac (v:=.ref y.me) (by walk_at "mem") ⟨rfl,rfl⟩) (Adl ?_)))
  rw [hkey]
  rw [hb,Bool.true_and]at h
  exact fin _ h
end
end
section
theorem wS (Γ:Bm):Γ.K.lookup 458=Ad ⟨.type "function",Ae,.func (Kh Γ 458 "_classImplements_ordered" (topStmt 21) (.ref 457) (.ref 453)),#[]⟩:=by kernel_rfl
theorem xC (Γ:Bm):gY Γ.K 427 "declared" (.ref 424)=true:=by kernel_rfl
theorem zV (Γ:Bm):gY Γ.K 427 "inherit" .none=true:=by kernel_rfl
theorem eZ (Γ:Bm):Vi Γ.K 427 "inherit" =true:=by kernel_rfl
theorem cC (Γ:Bm):Vi Γ.K 427 "declared" =true:=by kernel_rfl
theorem fA (Γ:Bm):Zw Γ.K 427 "inherit" =true:=by kernel_rfl
theorem mR (Γ:Bm):Zw Γ.K 427 "declared" =true:=by kernel_rfl
theorem zM (Γ:Bm):Γ.K.lookup 424=Ad {cls:=.type "tuple",data:=.seq #[] 0}:=by kernel_rfl
noncomputable def Mx (X:List Av) (o:Option Ab) (vs:List Ab):Prop:=(o=Ae/\vs=[])\/∃t,o=Ad (.ref t)/\(Ex.obj t,CO.tup vs)∈X
noncomputable def Pt (X:List Av) (o:Option Ab) (vs:List Ab):Prop:=((o=Ae\/o=Ad .none)/\vs=[])\/∃t,o=Ad (.ref t)/\(Ex.obj t,CO.tup vs)∈X
theorem Mx.more {X X':List Av} {o:Option Ab} {vs:List Ab} (h:Mx X o vs) (k:∀e∈X,e∈X'):Mx X' o vs:=h.imp id λ⟨t,e,m⟩=>⟨t,e,k _ m⟩
theorem Pt.more {X X':List Av} {o:Option Ab} {vs:List Ab} (h:Pt X o vs) (k:∀e∈X,e∈X'):Pt X' o vs:=h.imp id λ⟨t,e,m⟩=>⟨t,e,k _ m⟩
set_option tactic.hygienic true in
theorem Mr:∀(l acc:List Nat),∀j∈Cn acc l,j∈l/\j∉acc
 |[],_,j,h=>by cases h
 |a::r,acc,j,h=>by
  unfold Cn at h
  split at h
  ·exact⟨.tail _ (Mr r acc j h).1,(Mr r acc j h).2⟩
  ·rename_i q
   rcases Cj.mp h with rfl|h
   ·exact⟨.head _,λq'=>q (by simpa using q')⟩
   ·obtain⟨h1,h2⟩:=Mr r _ j h
    exact⟨.tail _ h1,λq'=>h2 (Ah _ q')⟩
theorem Ji:∀(l acc:List Nat),(Cn acc l).Nodup
 |[],_=>.nil
 |a::r,acc=>by
  unfold Cn
  split
  ·exact Ji r acc
  ·exact Fe.mpr ⟨λh=>(Mr r _ a h).2 (by simp),Ji r _⟩
theorem Ot:∀(l acc:List Nat),(Cn acc l).length<=l.length
 |[],_=>Cb _
 |a::r,acc=>by
  unfold Cn
  split
  ·exact Nat.le_succ_of_le (Ot r acc)
  ·exact Jx (Ot r _)
theorem rC (acc l:List Nat) (j:Nat):acc++Cn acc (l++[j])=if(acc++Cn acc l).contains j then acc++Cn acc l else(acc++Cn acc l)++[j]:=by
 rw [Hu]
 simp only [Cn]
 split
 ·rw [Cr]
 ·rw [Ba]
section
variable {Γ:Bm} {A:Az} {G:List Nd} {X:List Av} {σ:Bc} {env:Env}
theorem Agd {W τ:List Av} {i:Nat} {x:Nd} {ov:Ab} {expr:Bool} {vs:List Ab} {Q:Ab->Bc->Prop} (nf:NF W G) (hi:G[i]? =Ad x) (hC:x.C=427) (hd:Pt W x.inh vs) (ho:cl ov=.ref x.me) (h:Q (x.inh.getD .none) ⟨W,τ⟩):T Γ A ⟨W,τ⟩ (Lk ov "inherit" expr) Q:=by
 rcases hd with⟨e|e,rfl⟩|⟨t,e,m⟩
 ·rw [e]at h
  refine Vh (a:=.none) ho (Pj (nf.inst i x hi)) (Pj (nf.ns i x hi)) (by rw [hC];exact zV Γ) (.inl ?_) h
  show _∈Ng x
  unfold Ng
  rw [e]
  exact .tail _ (.tail _ (.tail _ (.tail _ (.tail _ (.tail _ (.tail _ (.tail _ (.head _))))))))
 ·rw [e]at h
  refine Qz (v:=.none) ho (Pj (nf.inst i x hi)) (Pj (nf.ns i x hi)) (by rw [hC];exact fA Γ) ?_ h (by rfl)
  unfold Ng
  rw [e]
  exact .tail _ (.tail _ (.tail _ (.tail _ (.tail _ (.tail _ (.tail _ (.tail _ (.head _))))))))
 ·rw [e]at h
  refine Qz (v:=.ref t) ho (Pj (nf.inst i x hi)) (Pj (nf.ns i x hi)) (by rw [hC];exact fA Γ) ?_ h (by rfl)
  unfold Ng
  rw [e]
  exact .tail _ (.tail _ (.tail _ (.tail _ (.tail _ (.tail _ (.tail _ (.tail _ (.head _))))))))
theorem sR {W τ:List Av} {i:Nat} {x:Nd} {expr:Bool} {vs:List Ab} {Q:Ab->Bc->Prop} (nf:NF W G) (hi:G[i]? =Ad x) (hC:x.C=427) (hd:Pt W x.inh vs) (h:Q (x.inh.getD .none) ⟨W,τ⟩):P1 Γ A (λo=>Lk o "inherit" expr) Q (.ref x.me) ⟨W,τ⟩:=λ_ ho=>Agd (nf:=nf) (hi:=hi) (hC:=hC) (hd:=hd) (ho:=ho) (h:=h)
theorem oL (x:Nd) (v:Ab):Oq "declared" v (Ng x) (Ng {x with decl:=Ad v}):=.there (.there (.there (.there (.there (.there (.there .here))))))
theorem sV (x:Nd) (v:Ab):Oq "inherit" v (Ng x) (Ng {x with inh:=Ad v}):=.there (.there (.there (.there (.there (.there (.there (.there .here)))))))
theorem fR {τ:List Av} {i:Nat} {x x':Nd} {name:Str} {ov u v:Ab} {Q:Unit->Bc->Prop} (wx:WX G X) (hi:G[i]? =Ad x) (hC:x.C=427) (ho:cl ov=.ref x.me) (hu:cl u=v) (k:Vi Γ.K 427 name=true) (hm:Oq name v (Ng x) (Ng x')) (e:x'.ents=[(.obj x.d,.ns (Ng x')),(.obj x.dep,.idict x.deps),(.obj x.imp,.idict x.imps)])
  (h:Q () ⟨Bl (G.set i x')++X,τ⟩):T Γ A ⟨Bl G++X,τ⟩ (setAttr ov name u) Q:=
 We ho hu (Pj (wx.nf.inst _ _ hi)) (sS hi e) hm (by rw [hC];exact k) h (by show(Ng x).length<=1000;simp [Ng])
set_option tactic.hygienic true in
theorem Wd.setDI (wd:Wd G X) {i:Nat} {x:Nd} (hi:G[i]? =Ad x) (d n:Option Ab):Wd (G.set i {x with decl:=d,inh:=n}) X:=by
 have K:Gl G (G.set i {x with decl:=d,inh:=n}):=Mb hi rfl
 have look:∀(j:Nat) (y:Nd),(G.set i {x with decl:=d,inh:=n})[j]? =Ad y->∃y₀,G[j]? =Ad y₀/\y.me=y₀.me/\y.C=y₀.C/\y.d=y₀.d/\y.bt=y₀.bt/\y.bs=y₀.bs/\y.st=y₀.st/\y.ss=y₀.ss/\y.deps=y₀.deps/\y.imps=y₀.imps:=λj y e=>by
  rcases Mw e with⟨rfl,rfl⟩|⟨_,e⟩
  ·exact⟨x,hi,rfl,rfl,rfl,rfl,rfl,rfl,rfl,rfl,rfl⟩
  ·exact⟨y,e,rfl,rfl,rfl,rfl,rfl,rfl,rfl,rfl,rfl⟩
 have hbs:∀j,Ge (G.set i {x with decl:=d,inh:=n}) j=Ge G j:=λj=>by
  rw [Xb hi]
  split
  ·rename_i e;rw [e,Qh hi]
  ·rfl
 refine⟨⟨⟨?_,?_,?_,?_⟩,⟨?_,?_,?_,?_⟩,K.inj wd.inj,K.root wd.ro,?_,?_⟩,?_⟩
 ·intro j y e;obtain⟨y₀,e₀,h1,h2,h3,_⟩:=look j y e;rw [h1,h2,h3];exact wd.wx.inst _ _ e₀
 ·intro j y e;obtain⟨y₀,e₀,_,_,_,h4,h5,_⟩:=look j y e;rw [K.refs,h4,h5];exact wd.wx.bt _ _ e₀
 ·intro j y e;obtain⟨y₀,e₀,_,_,_,_,_,h6,h7,_⟩:=look j y e;rw [K.refs,h6,h7];exact wd.wx.st _ _ e₀
 ·intro j y e;obtain⟨y₀,e₀,_,h2,_⟩:=look j y e;rw [h2];exact wd.wx.cls _ _ e₀
 ·rw [K.keys];exact wd.gr.keys
 ·intro j y e;obtain⟨y₀,e₀,_,_,_,_,h5,_⟩:=look j y e;rw [h5];exact wd.gr.bs _ _ e₀
 ·intro j y e;obtain⟨y₀,e₀,_,_,_,_,_,_,h7,_⟩:=look j y e;rw [h7,K.len];exact wd.gr.ss _ _ e₀
 ·rw [K.len];exact wd.gr.few
 ·intro j y e;obtain⟨y₀,e₀,_,_,_,_,_,_,h7,_⟩:=look j y e;rw [h7];exact wd.low _ _ e₀
 ·intro j y e
  obtain⟨y₀,e₀,_,_,_,_,_,_,_,h8,_⟩:=look j y e
  obtain⟨dl,D,E⟩:=wd.dep j y₀ e₀
  exact⟨dl,K.depL D h8,λd=>by rw [hbs];exact E d⟩
 ·intro j y e
  obtain⟨y₀,e₀,_,_,_,_,_,_,h7,_,h9⟩:=look j y e
  unfold aT
  rw [h7,h9]
  refine⟨(wd.imp _ _ e₀).1,λk=>?_⟩
  simp only [K.key]
  exact(wd.imp _ _ e₀).2 k
theorem Wd.more {X':List Av} (wd:Wd G X) (k:∀e∈X,e∈X'):Wd G X':=⟨wd.toCo.more k,wd.imp⟩
set_option tactic.hygienic true in
theorem tL {i:Nat} {x:Nd} (hi:G[i]? =Ad x) (d n:Option Ab) (j:Nat):Gy (G.set i {x with decl:=d,inh:=n}) j=Gy G j:=by
 rw [Wt hi]
 split
 ·rename_i e;rw [e,Wo hi]
 ·rfl
set_option tactic.hygienic true in
theorem jB {i:Nat} {x:Nd} (hi:G[i]? =Ad x) (d n:Option Ab) (j:Nat):Ge (G.set i {x with decl:=d,inh:=n}) j=Ge G j:=by
 rw [Xb hi]
 split
 ·rename_i e;rw [e,Qh hi]
 ·rfl
theorem bF {i:Nat} {x:Nd} (hi:G[i]? =Ad x) (d n:Option Ab) {j:Nat} (h:dE G j):dE (G.set i {x with decl:=d,inh:=n}) j:=λk=>by
 simp only [tL hi,jB hi]
 exact h k
end
end
section
theorem Zq {Γ:Bm} {A:Az} {ι:Type} {W:List Av} {Z:ι->List Av} {a:Am} {vs:List Ab} {v:Ab} {pre:List Av} {i:ι} {Q:Ab->Bc->Prop} (hv:cl v=.ref a) (hr:kX Γ W Z a vs)
  (h:∀it st Gc,(∀A':Az,A'.handled=Ae->Lj Γ A' it Gc vs [(.obj it,st)])->(∀ρ i,Gc ⟨W,ρ++Z i⟩)->(∀A',Vu Γ A' it [(.obj it,st)])->Q (.ref it) ⟨W,(.obj it,st)::(pre++Z i)⟩):T Γ A ⟨W,pre++Z i⟩ (Ib v) Q:=by
 rcases hr with hr|hr
 ·exact Uy hv (vs:=vs) (Bt (hr i)) λit=>h it _ _ (λA' hA=>Ey (a:=a) (vs:=vs) hA) (λρ i=>Bt (hr i)) λA'=>Hc
 ·exact Qm hv (vs:=vs) (hr i).ext λit=>h it _ _ (λA' hA=>Hj (a:=a) (vs:=vs) hA) (λρ i=>(hr i).ext) λA'=>Rc
noncomputable def Nh (G:List Nd) (i:Nat) (js:List Nat):List Nat:=js.filter λj=>!decide (j∈Gy G i)
theorem nW.rowF {Γ:Bm} {ι:Type} {W ρ τ:List Av} {a:Am} {vs:List Ab} (h:nW Γ ⟨W,τ⟩ a vs) {f:ι->List Av} (hf:∀i,∃ρ,f i=ρ++τ):kX Γ W f a vs:=by
 rcases h with h|h
 ·exact .inl λi=>by obtain⟨ρ,e⟩:=hf i;rw [e];exact Bt h
 ·exact .inr λi=>by obtain⟨ρ,e⟩:=hf i;rw [e];exact h.ext
noncomputable abbrev Rk (L:Am):Env:=Gs "_classImplements_ordered" (fScope (topStmt 21)) L 458 (.ref 457) [("spec",L+1)]
noncomputable abbrev oV (L me:Am) (b a n s l o r:Option Ab) (τ:List Av):List Av:=(.obj (L+1),.cell (Ad (.ref me)))::(.var L "before",.val b)::(.var L "after",.val a)::(.var L "new_declared",.val n)::(.var L "seen",.val s)::(.var L "lst",.val l)::(.var L "b",.val o)::(.var L "bases",.val r)::τ
section
variable {Γ:Bm} {A:Az} {G:List Nd} {X:List Av} {σ:Bc}
theorem jN {τ:List Av} {i:Nat} {x z:Nd} {L b a:Am} {jb ja:List Nat} {Q:Ga->Bc->Prop} (wd:Wd G X) (hi:G[i]? =Ad x) (ez:G[0]? =Ad z) (hi0:i≠0) (hroot:x.root=.ref z.me) (hA':Rm (A.deeper (Rk L)) 5) (hh:A.handled=Ae)
  (rb:nW Γ ⟨Bl G++X,τ⟩ b (Ap G jb)) (ra:nW Γ ⟨Bl G++X,τ⟩ a (Ap G ja)) (hjb:∀j∈jb,0 < j/\j < G.length) (hja:∀j∈ja,0 < j/\j < G.length) (lb:jb.length<=20) (la:ja.length<=20)
  (h:∀r1 r2,T Γ (A.deeper (Rk L)) ⟨Bl G++X,(.obj r2,.list (Ap G (Nh G i ja)))::(.obj r1,.list (Ap G (Nh G i jb)))::oV L x.me (Ad (.ref r1)) (Ad (.ref r2)) Ae Ae Ae Ae Ae τ⟩ (Cs ((fBody (topStmt 21)).drop 2) (Rk L)) Q):
  T Γ (A.deeper (Rk L)) ⟨Bl G++X,oV L x.me (Ad (.ref b)) (Ad (.ref a)) Ae Ae Ae Ae Ae τ⟩ (Cs (fBody (topStmt 21)) (Rk L)) Q:=by
 have hz0:0 < G.length:=(Al.mp ez).1
 refine Ao (Nx (Ac (v:=.ref b) (by walk_at "mem") λv hv=>Zq (W:=Bl G++X) (Z:=λ_:Unit=>oV L x.me (Ad (.ref b)) (Ad (.ref a)) Ae Ae Ae Ae Ae τ) (i:=()) (pre:=[]) hv (rb.rowF (ρ:=[]) λ_=>⟨[_,_,_,_,_,_,_,_],rfl⟩) λit st Gc hFd hGc hSf=>?_))
 refine⟨it,[_],Gc,Ap G jb,_,oV L x.me (Ad (.ref b)) (Ad (.ref a)) Ae Ae Ae Ae Ae τ,⟨rfl,rfl,hFd _ hh⟩,hSf _,λd ys σ=>d.length<=jb.length/\ys=Ap G (Nh G i (jb.take d.length))/\σ=⟨Bl G++X,oV L x.me (Ad (.ref b)) (Ad (.ref a)) Ae Ae Ae Ae Ae τ⟩,⟨Cg _,rfl,rfl⟩,?_,?_,?_,?_⟩
 ·rintro d ys _ ext ⟨_,rfl,rfl⟩
  exact hGc _ ()
 ·rintro d ys _ ⟨_,rfl,rfl⟩
  rw [Bb,Ay]
  have:=By (λj=>!decide (j∈Gy G i)) (jb.take d.length)
  rw [Fx]at this
  show(List.filter _ _).length<=_
  lia
 ·rintro C acc d v r ρ' _ _ he ⟨hd,rfl,rfl⟩
  obtain⟨a',j,b',e1,e2,rfl,_⟩:=Np he
  have hj:=hjb j (by rw [e1];simp)
  obtain⟨y,ey⟩:=Dp (show j < G.length by lia)
  rw [Bu ey]
  have ht:jb.take d.length=a':=by rw [e2,Bb,e1];simp
  have ht':jb.take (d++[Bx y.me]).length=a'++[j]:=by
   rw [Aj,e2,Bb,e1,Br,show a'++j::b'=(a'++[j])++b' by simp]
   exact Fn (by simp)
  have hdl:(d++[Bx y.me]).length<=jb.length:=by rw [Aj,e2,Bb,e1];simp
  have hx:Nh G i (a'++[j])=Nh G i a'++(if j∈Gy G i then []else [j]):=by
   unfold Nh
   rw [Ff]
   congr 1
   by_cases h:j∈Gy G i<;>simp [h]
  rw [ht]
  refine Js (Ew (Qa (Nq (Eo (Fo (Aq (v:=.ref x.me) rfl (by walk_at "mem") (Pe wd.wx.nf hi (gA Γ) ⟨.inl (by kernel_rfl),?_⟩)))))))
  refine Ai (Dm (v:=.ref y.me) (by walk_at "mem") (.head _) (Ar λws hw=>(lI (x:=x) (y:=y) wd.wx.nf wd.gr (wd.imp _ _ hi) (hA'.le (by decide)) hi ey ?_ ws hw).T))
  refine(Fi ⟨λhb=>?_,λhb=>?_⟩)
  ·have q:j∈Gy G i:=by simpa using hb
   rw [if_pos q,Cr]at hx
   refine Qa (Ew (Fd (Au (Dm (v:=.ref y.me) (by walk_at "mem") (.head _) (Ek (x:=x) wd.wx.nf hi (fP Γ) (.tail _ (.head _)) (Aq (v:=.ref x.me) rfl (by walk_at "mem") ⟨rfl,rfl⟩) ?_ (by rw [hroot];rfl))))))
   rw [hroot]
   refine(Xf (Pj (wd.wx.nf.inst _ _ ey)) (Pj (wd.wx.nf.inst _ _ ez)) ⟨_,rfl,λhb=>?_,λ_=>⟨λ_=>Xc ⟨λhb=>(by cases hb),λ_=>⟨_,_,_,Av.le_refl _,hdl,by rw [ht',hx],rfl⟩⟩,λhb=>(by cases hb)⟩⟩)
   have hb':y.me=z.me:=by simpa using hb
   have:=wd.inj j 0 y z ey ez hb'
   lia
  ·have q:j∉Gy G i:=by simpa using hb
   rw [if_neg q]at hx
   exact⟨λ_=>Dm (v:=.ref y.me) (by walk_at "mem") (.head _) ⟨_,_,_,Av.le_refl _,hdl,by rw [ht',hx,Ks];simp [Ap,Bu ey],rfl⟩,λhb=>(by cases hb)⟩
 rintro r1 ys _ ⟨_,rfl,rfl⟩
 have htr1:jb.take (Ap G jb).length=jb:=by rw [Bb];simp
 rw [htr1]
 refine⟨_,_,by walk_at "upd",?_⟩
 refine Fh.go ?_
 refine Ao (Nx (Ac (v:=.ref a) (by walk_at "mem") λv hv=>Zq (W:=Bl G++X) (Z:=λ_:Unit=>((.obj r1,.list (Ap G (Nh G i jb)))::oV L x.me (Ad (.ref r1)) (Ad (.ref a)) Ae Ae Ae Ae Ae τ)) (i:=()) (pre:=[]) hv (ra.rowF (ρ:=[]) λ_=>⟨[_,_,_,_,_,_,_,_,_],rfl⟩) λit st Gc hFd hGc hSf=>?_))
 refine⟨it,[_],Gc,Ap G ja,_,((.obj r1,.list (Ap G (Nh G i jb)))::oV L x.me (Ad (.ref r1)) (Ad (.ref a)) Ae Ae Ae Ae Ae τ),⟨rfl,rfl,hFd _ hh⟩,hSf _,λd ys σ=>d.length<=ja.length/\ys=Ap G (Nh G i (ja.take d.length))/\σ=⟨Bl G++X,((.obj r1,.list (Ap G (Nh G i jb)))::oV L x.me (Ad (.ref r1)) (Ad (.ref a)) Ae Ae Ae Ae Ae τ)⟩,⟨Cg _,rfl,rfl⟩,?_,?_,?_,?_⟩
 ·rintro d ys _ ext ⟨_,rfl,rfl⟩
  exact hGc _ ()
 ·rintro d ys _ ⟨_,rfl,rfl⟩
  rw [Bb,Ay]
  have:=By (λj=>!decide (j∈Gy G i)) (ja.take d.length)
  rw [Fx]at this
  show(List.filter _ _).length<=_
  lia
 ·rintro C acc d v r ρ' _ _ he ⟨hd,rfl,rfl⟩
  obtain⟨a',j,b',e1,e2,rfl,_⟩:=Np he
  have hj:=hja j (by rw [e1];simp)
  obtain⟨y,ey⟩:=Dp (show j < G.length by lia)
  rw [Bu ey]
  have ht:ja.take d.length=a':=by rw [e2,Bb,e1];simp
  have ht':ja.take (d++[Bx y.me]).length=a'++[j]:=by
   rw [Aj,e2,Bb,e1,Br,show a'++j::b'=(a'++[j])++b' by simp]
   exact Fn (by simp)
  have hdl:(d++[Bx y.me]).length<=ja.length:=by rw [Aj,e2,Bb,e1];simp
  have hx:Nh G i (a'++[j])=Nh G i a'++(if j∈Gy G i then []else [j]):=by
   unfold Nh
   rw [Ff]
   congr 1
   by_cases h:j∈Gy G i<;>simp [h]
  rw [ht]
  refine Js (Ew (Qa (Nq (Eo (Fo (Aq (v:=.ref x.me) rfl (by walk_at "mem") (Pe wd.wx.nf hi (gA Γ) ⟨.inl (by kernel_rfl),?_⟩)))))))
  refine Ai (Dm (v:=.ref y.me) (by walk_at "mem") (.head _) (Ar λws hw=>(lI (x:=x) (y:=y) wd.wx.nf wd.gr (wd.imp _ _ hi) (hA'.le (by decide)) hi ey ?_ ws hw).T))
  refine(Fi ⟨λhb=>?_,λhb=>?_⟩)
  ·have q:j∈Gy G i:=by simpa using hb
   rw [if_pos q,Cr]at hx
   refine Qa (Ew (Fd (Au (Dm (v:=.ref y.me) (by walk_at "mem") (.head _) (Ek (x:=x) wd.wx.nf hi (fP Γ) (.tail _ (.head _)) (Aq (v:=.ref x.me) rfl (by walk_at "mem") ⟨rfl,rfl⟩) ?_ (by rw [hroot];rfl))))))
   rw [hroot]
   refine(Xf (Pj (wd.wx.nf.inst _ _ ey)) (Pj (wd.wx.nf.inst _ _ ez)) ⟨_,rfl,λhb=>?_,λ_=>⟨λ_=>Xc ⟨λhb=>(by cases hb),λ_=>⟨_,_,_,Av.le_refl _,hdl,by rw [ht',hx],rfl⟩⟩,λhb=>(by cases hb)⟩⟩)
   have hb':y.me=z.me:=by simpa using hb
   have:=wd.inj j 0 y z ey ez hb'
   lia
  ·have q:j∉Gy G i:=by simpa using hb
   rw [if_neg q]at hx
   exact⟨λ_=>Dm (v:=.ref y.me) (by walk_at "mem") (.head _) ⟨_,_,_,Av.le_refl _,hdl,by rw [ht',hx,Ks];simp [Ap,Bu ey],rfl⟩,λhb=>(by cases hb)⟩
 rintro r2 ys _ ⟨_,rfl,rfl⟩
 have htr2:ja.take (Ap G ja).length=ja:=by rw [Bb];simp
 rw [htr2]
 refine⟨_,_,by walk_at "upd",?_⟩
 refine Fh.go ?_
 exact h r1 r2
end
end
section
noncomputable abbrev pV (G:List Nd) (L me t r1 r2 nd sn:Am) (t0:List Ab) (f1 f2:List Nat) (lo bo bb:Option Ab) (acc:List Nat) (τ:List Av):List Av:=
 (.obj t,.tup t0)::(.obj sn,.iset (acc.map (Cy G)))::(.obj nd,.list (Ap G acc))::(.obj r2,.list (Ap G f2))::(.obj r1,.list (Ap G f1))::oV L me (Ad (.ref r1)) (Ad (.ref r2)) (Ad (.ref nd)) (Ad (.ref sn)) lo bo bb τ
theorem eM {row:List Nat} {a b:List Nat} {j:Nat} {acc:List Nat} (e:row=a++j::b):acc++Cn acc (row.take (a.length+1))=if(acc++Cn acc a).contains j then acc++Cn acc a else(acc++Cn acc a)++[j]:=by
 have:row.take (a.length+1)=a++[j]:=by
  rw [e,show a++j::b=(a++[j])++b by simp]
  exact Fn (by simp)
 rw [this,rC]
section
variable {Γ:Bm} {A:Az} {G:List Nd} {X:List Av} {σ:Bc}
theorem tR {W τ:List Av} {L me r1 r2 dt:Am} {f1 f2 jd:List Nat} {Q:Ga->Bc->Prop} (nf:NF W G) (g:Gr G) (hh:A.handled=Ae)
  (hl:∀j∈f1++jd++f2,j < G.length) (hz:(f1++jd++f2).length<=100) (rd:Fc Γ ⟨W,τ⟩ dt (Ap G jd))
  (hD:∀τ' Q,(∃ρ,τ'=ρ++τ)->Q (.ref dt) ⟨W,τ'⟩->∀ov,cl ov=.ref me->T Γ (A.deeper (Rk L)) ⟨W,τ'⟩ (Lk ov "declared" true) Q)
  (h:∀t nd sn lo bo,T Γ (A.deeper (Rk L)) ⟨W,pV G L me t r1 r2 nd sn [.ref r1,.ref dt,.ref r2] f1 f2 lo bo Ae (Cn [] (f1++jd++f2)) τ⟩ (Cs ((fBody (topStmt 21)).drop 5) (Rk L)) Q):
  T Γ (A.deeper (Rk L)) ⟨W,(.obj r2,.list (Ap G f2))::(.obj r1,.list (Ap G f1))::oV L me (Ad (.ref r1)) (Ad (.ref r2)) Ae Ae Ae Ae Ae τ⟩ (Cs ((fBody (topStmt 21)).drop 2) (Rk L)) Q:=by
 refine Ao (Bo (Ic (Ar ⟨by rw [Ay];exact Cg _,λnd=>⟨_,_,by walk_at "upd",?_⟩⟩)))
 refine Fh.go ?_
 refine Ao (Bo (Cf (Bd (v:=.type "set") (by kernel_rfl) (by decide+kernel) (by decide) ⟨.inr (.inr ⟨_,rfl⟩),?_⟩)))
 refine Ar λws hw=>fG (λsn=>⟨_,_,by walk_at "upd",?_⟩) ws hw
 refine Fh.go ?_
 refine Ao (Qf (Kr (k:=0) (Ai (Ac (v:=.ref r1) (by walk_at "mem") (Ai (Jg (Aq (v:=.ref me) rfl (by walk_at "mem") λo ho=>hD _ _ ⟨[_,_,_,_,_,_,_,_,_,_,_,_],rfl⟩ ?_ o ho)))))))
 refine Ai (Ac (v:=.ref r2) (Ag (.tail _ (.tail _ (.tail _ (.tail _ (.tail _ (.tail _ (.head _)))))))) (Ar ⟨by rw [Ay];exact Ce rfl,λt=>?_⟩))
 let Z:Option Ab×Option Ab×List Nat->List Av:=λi=>pV G L me t r1 r2 nd sn [.ref r1,.ref dt,.ref r2] f1 f2 i.1 i.2.1 Ae i.2.2 τ
 show∀v,cl v=.ref t->T Γ (A.deeper (Rk L)) ⟨W,Z (Ae,Ae,[])⟩ (Ib v) _
 intro v hv
 have rows:∀(k:Nat) v,([.ref r1,.ref dt,.ref r2]:List Ab)[k]? =Ad v->∃a row,v=.ref a/\[f1,jd,f2][k]? =Ad row/\kX Γ W Z a (Ap G row):=by
  intro k v e
  match k,e with
  |0,e=>exact⟨r1,f1,by simpa using e.symm,rfl,.inl λi=>Ag (.tail _ (.tail _ (.tail _ (.tail _ (.head _)))))⟩
  |1,e=>exact⟨dt,jd,by simpa using e.symm,rfl,.inr λi=>rd.ext (ext:=[_,_,_,_,_,_,_,_,_,_,_,_,_])⟩
  |2,e=>exact⟨r2,f2,by simpa using e.symm,rfl,.inl λi=>Ag (.tail _ (.tail _ (.tail _ (.head _))))⟩
 have fl:([f1,jd,f2]:List (List Nat)).flatten=f1++jd++f2:=by simp
 have sub:∀k,∃r,([f1,jd,f2].take k).flatten++r=f1++jd++f2:=λk=>⟨([f1,jd,f2].drop k).flatten,by rw [<-List.flatten_append,List.take_append_drop,fl]⟩
 refine Qm hv (vs:=[.ref r1,.ref dt,.ref r2]) (.of_mem (Ag (.head _))) λit=>?_
 refine⟨it,_,_,_,_,_,⟨rfl,rfl,Hj (a:=t) (vs:=[.ref r1,.ref dt,.ref r2]) hh⟩,λd σ=>∃lo bo,σ=⟨W,Z (lo,bo,Cn [] ([f1,jd,f2].take d.length).flatten)⟩,⟨Ae,Ae,rfl⟩,?_,?_,?_⟩
 ·rintro d _ ⟨lo,bo,rfl⟩
  exact .of_mem (Ag (.head _))
 ·rintro d v r u ρ _ he hu ⟨lo,bo,rfl⟩ Kq hK
  have hk:([.ref r1,.ref dt,.ref r2]:List Ab)[d.length]? =Ad v:=by rw [<-he];simp
  obtain⟨a,row,rfl,hrow,hR⟩:=rows _ _ hk
  have hfl:([f1,jd,f2].take (d++[Bx a]).length).flatten=([f1,jd,f2].take d.length).flatten++row:=by
   rw [Aj,Br,Nc,hrow]
   simp
  let acc:=Cn [] ([f1,jd,f2].take d.length).flatten
  have hacc:∀n,acc++Cn acc (row.take n)=Cn [] (([f1,jd,f2].take d.length).flatten++row.take n):=λn=>by
   rw [Hu,Fw]
  have hin:∀n,(∀j∈acc++Cn acc (row.take n),j < G.length)/\(acc++Cn acc (row.take n)).length<=100:=λn=>by
   obtain⟨r',e⟩:=sub (d++[Bx a]).length
   rw [hfl]at e
   rw [hacc]
   constructor
   ·intro j hj
    have:=(Mr _ _ j hj).1
    refine hl j ?_
    rw [<-e]
    rcases Ak.mp this with h|h
    ·exact Ah _ (Ah _ h)
    ·exact Ah _ (Aa _ (List.mem_of_mem_take h))
   ·have h1:=Ot (([f1,jd,f2].take d.length).flatten++row.take n) []
    have h2:=congrArg Ii e
    simp only [Aj,Fx]at h1 h2 hz ⊢
    lia
  have hrl:∀j∈row,j < G.length:=λj hj=>by
   obtain⟨r',e⟩:=sub (d++[Bx a]).length
   rw [hfl]at e
   exact hl j (by rw [<-e];exact Ah _ (Aa _ hj))
  refine Cx hu (by walk_at "upd") ?_
  refine Ao (Qf (Ac (v:=.ref a) (by walk_at "mem") λv hv=>cL (W:=W) (Z:=Z) (i:=(Ad (.ref a),bo,acc)) (pre:=ρ) hv hR λit2 st Gc hFd hGc=>?_))
  refine⟨it2,[_],Gc,Ap G row,_,_,⟨rfl,rfl,hFd _ hh⟩,λd' σ=>∃bo',σ=⟨W,ρ++Z (Ad (.ref a),bo',acc++Cn acc (row.take d'.length))⟩,⟨bo,by simp [Cn,Z,acc]⟩,?_,?_,?_⟩
  ·rintro d' _ ⟨bo',rfl⟩
   exact hGc _ _
  ·rintro d' v r' u' ρ' _ he' hu' ⟨bo',rfl⟩ Kq2 hK2
   obtain⟨a',j,b',e1,e2,rfl,_⟩:=Np he'
   have hj:=hrl j (by rw [e1];simp)
   obtain⟨y,ey⟩:=Dp hj
   rw [Bu ey]at hu'
   have hdl:d'.length=a'.length:=by rw [e2,Bb]
   have ht:row.take d'.length=a':=by rw [hdl,e1];simp
   have hs:=eM (acc:=acc) e1
   have hlen':(d'++[Bx (Gd G j)]).length=a'.length+1:=by rw [Aj,hdl];rfl
   have hin':=hin d'.length
   rw [ht]at hin' ⊢
   have hkc:=Tg g hin'.1 hj
   rw [Gj ey]at hkc
   refine Cx hu' (by walk_at "upd") ?_
   refine Ao (Hz (Au (Ek (x:=y) nf ey (Mg Γ) (.head _) (Ac (v:=.ref y.me) (by walk_at "mem") ⟨rfl,rfl⟩) (Ac (v:=.ref sn) (by walk_at "mem") (Uz (ks:=(acc++Cn acc a').map (Cy G)) (by walk_at "mem") ⟨_,rfl,λhb=>?_,λhb=>?_⟩)))))
   ·rw [hkc]at hb
    have hc:(acc++Cn acc a').contains j=false:=by simpa using hb
    rw [hc]at hs
    refine Ao (Gf (Fo (Ac (v:=.ref nd) (by walk_at "mem") (De Cv Dt Ds (It (vs:=Ap G (acc++Cn acc a')) (by walk_at "mem")) ⟨.inr (.inl ⟨_,rfl⟩),?_⟩))))
    refine Ai (Ac (v:=.ref y.me) (by walk_at "mem") (Ar (Lx (by walk_at "upd") (by rw [Bb,Ay];exact Ca hin'.2 (by decide)) ?_)))
    refine Fh.go ?_
    refine Ao (Gf (Fo (Ac (v:=.ref sn) (by walk_at "mem") (De Qt PySem.F.slot_set_add PySem.F.type_set_add (fV (ks:=(acc++Cn acc a').map (Cy G)) (by walk_at "mem")) ⟨.inr (.inl ⟨_,rfl⟩),?_⟩))))
    refine Ai (Ek (x:=y) nf ey (Mg Γ) (v:=.int y.key 0) (.head _) (Ac (v:=.ref y.me) (by walk_at "mem") ⟨rfl,rfl⟩) (Ar (Yu (by walk_at "upd") (by rw [As];exact Hr (Jx hin'.2) (by decide)) ?_)))
    refine Fh.go (Cq ?_)
    refine Fh.go (Cq (hK2 .next _ ⟨_,_,Av.le_refl _,Ad (.ref y.me),?_⟩))
    rw [hlen',hs,if_neg (by decide)]
    have e3:((acc++Cn acc a')++[j]).map (Cy G)=(acc++Cn acc a').map (Cy G)++[y.key]:=by rw [Bk,Ck,Ky,Gj ey]
    have e4:Ap G ((acc++Cn acc a')++[j])=Ap G (acc++Cn acc a')++[.ref y.me]:=by rw [<-Sc,Bu ey]
    show _=(⟨W,ρ++((.obj t,.tup [.ref r1,.ref dt,.ref r2])::(.obj sn,.iset (((acc++Cn acc a')++[j]).map (Cy G)))::(.obj nd,.list (Ap G ((acc++Cn acc a')++[j])))::(.obj r2,.list (Ap G f2))::(.obj r1,.list (Ap G f1))::oV L me (Ad (.ref r1)) (Ad (.ref r2)) (Ad (.ref nd)) (Ad (.ref sn)) (Ad (.ref a)) (Ad (.ref y.me)) Ae τ)⟩:Bc)
    rw [e3,e4]
   ·rw [hkc]at hb
    have hc:(acc++Cn acc a').contains j=true:=by rw [Ke]at hb;exact hb
    rw [hc]at hs
    refine Cq ?_
    refine Fh.go (Cq (hK2 .next _ ⟨_,_,Av.le_refl _,Ad (.ref y.me),?_⟩))
    rw [hlen',hs,if_pos rfl]
  rintro _ ⟨bo',rfl⟩
  rw [Bb,Es]
  refine Cq ?_
  refine Fh.go (Cq (hK .next _ ⟨W,Z (Ad (.ref a),bo',acc++Cn acc row),Av.le_refl _,Ad (.ref a),bo',?_⟩))
  rw [hfl,Hu,Fw]
 rintro _ ⟨lo,bo,rfl⟩
 refine Cq ?_
 refine Fh.go ?_
 have:=h t nd sn lo bo
 rw [<-fl]at this
 exact this
end
end
section
theorem Mx.right {W X:List Av} {o:Option Ab} {vs:List Ab} (h:Mx X o vs):Mx (W++X) o vs:=h.more λ_ he=>Aa _ he
theorem Pt.right {W X:List Av} {o:Option Ab} {vs:List Ab} (h:Pt X o vs):Pt (W++X) o vs:=h.more λ_ he=>Aa _ he
section
variable {Γ:Bm} {A:Az} {G:List Nd} {X:List Av} {σ:Bc}
theorem gB {W:List Av} {i:Nat} {x:Nd} {vs:List Ab} (nf:NF W G) (hi:G[i]? =Ad x) (hC:x.C=427) (hd:Mx W x.decl vs):
  ∃dt,(∀τ,Fc Γ ⟨W,τ⟩ dt vs)/\∀(A:Az) (τ:List Av) (ov:Ab) (expr:Bool) (Q:Ab->Bc->Prop),cl ov=.ref x.me->Q (.ref dt) ⟨W,τ⟩->T Γ A ⟨W,τ⟩ (Lk ov "declared" expr) Q:=by
 rcases hd with⟨e,rfl⟩|⟨t,e,m⟩
 ·refine⟨424,λτ=>.of_K (zM Γ),λA τ ov expr Q ho q=>Vh (a:=.ref 424) ho (Pj (nf.inst i x hi)) (Pj (nf.ns i x hi)) (by rw [hC];exact xC Γ) (.inl ?_) q⟩
  unfold Ng
  rw [e]
  exact .tail _ (.tail _ (.tail _ (.tail _ (.tail _ (.tail _ (.tail _ (.head _)))))))
 ·refine⟨t,λτ=>.of_mem (Pj m),λA τ ov expr Q ho q=>Qz (v:=.ref t) ho (Pj (nf.inst i x hi)) (Pj (nf.ns i x hi)) (by rw [hC];exact mR Γ) ?_ q (by rfl)⟩
  unfold Ng
  rw [e]
  exact .tail _ (.tail _ (.tail _ (.tail _ (.tail _ (.tail _ (.tail _ (.head _)))))))
theorem tQ {τ:List Av} {i:Nat} {x:Nd} {L t r1 r2 nd sn:Am} {t0:List Ab} {f1 f2 bs:List Nat} {lo bo:Option Ab} {Q:Ga->Bc->Prop} (wd:Wd G X) (lc:∀j,j < G.length->j≠i->dE G j) (hi:G[i]? =Ad x) (hA:Rm (A.deeper (Rk L)) 30) (hh:A.handled=Ae) (hF:AF A ⟨[],τ⟩) (hn:bs.Nodup) (hl:∀b∈bs,b < i) (hz:bs.length<=1000)
  (h:∀G' X' bt ρ,Wd G' X'->Jq (G.set i {x with bt:=bt,bs:=bs}) G'->(∀e∈X,e∈X')->(∀j,j < G'.length->Uk G' j)->Q .next ⟨Bl G'++X',ρ++τ⟩):
  T Γ (A.deeper (Rk L)) ⟨Bl G++X,pV G L x.me t r1 r2 nd sn t0 f1 f2 lo bo (Ad (.ref nd)) bs τ⟩ (Cs ((fBody (topStmt 21)).drop 8) (Rk L)) Q:=by
 refine Ao (Gf (Fo (Aq (v:=.ref x.me) rfl (by walk_at "mem") (Pe wd.wx.nf hi (Uw Γ) ⟨.inl (by kernel_rfl),?_⟩))))
 refine Ai (Cf (Bd (v:=.type "tuple") (by kernel_rfl) (by decide+kernel) (by decide) ⟨.inr (.inr ⟨_,rfl⟩),?_⟩))
 refine Ai (Ac (v:=.ref nd) (by walk_at "mem") (Ar λws hw=>Fv (vs:=Ap G bs) (Ag (.tail _ (.tail _ (.head _)))) (by rw [Bb];lia) (λt2=>?_) ws hw))
 refine T.conseq Rz (Ar λws hw=>?_)
 have hFt:AF (A.deeper (Rk L)) ⟨[],pV G L x.me t r1 r2 nd sn t0 f1 f2 lo bo (Ad (.ref nd)) bs τ⟩:=hF.push rfl rfl (L:=L) (x:="before") (c:=Ad (.ref r1)) (by walk_at "mem") λp hp=>Aa [_,_,_,_,_,_,_,_,_,_,_,_,_] hp
 refine(Wb (X:=(.obj t2,.tup (Ap G bs))::X) (τ:=pV G L x.me t r1 r2 nd sn t0 f1 f2 lo bo (Ad (.ref nd)) bs τ) (bt:=t2) (bs:=bs) (wd.more λe he=>.tail _ he) lc hA hh hFt hi (.inl (.head _)) hn hl (λG' X' w1 w2 w3 w4=>?_) ws hw).T
 exact Fh.go (Cq (h G' X' t2 [_,_,_,_,_,_,_,_,_,_,_,_,_] w1 w2 (λe he=>w3 _ (.tail _ he)) w4))
theorem pP {τ:List Av} {i:Nat} {x:Nd} {L t r1 r2 nd sn ht:Am} {t0:List Ab} {f1 f2 acc hs:List Nat} {lo bo:Option Ab} {Q:Ga->Bc->Prop} (wd:Wd G X) (hi:G[i]? =Ad x) (hC:x.C=427) (hh:A.handled=Ae) (hin:Pt X x.inh (Ap G hs)) (he:x.inh=Ad (.ref ht))
  (hacc:∀j∈acc,j < G.length) (hhs:∀j∈hs,j < G.length) (hz:acc.length+hs.length<=1000)
  (h:∀bo,T Γ (A.deeper (Rk L)) ⟨Bl G++X,pV G L x.me t r1 r2 nd sn t0 f1 f2 lo bo (Ad (.ref nd)) (acc++Cn acc hs) τ⟩ (Cs ((fBody (topStmt 21)).drop 8) (Rk L)) Q):
  T Γ (A.deeper (Rk L)) ⟨Bl G++X,pV G L x.me t r1 r2 nd sn t0 f1 f2 lo bo (Ad (.ref nd)) acc τ⟩ (Cs ((fBody (topStmt 21)).drop 7) (Rk L)) Q:=by
 have hm:(Ex.obj ht,CO.tup (Ap G hs))∈X:=by
  rcases hin with⟨e|e,_⟩|⟨t',e,m⟩
  ·rw [he]at e;cases e
  ·rw [he]at e;cases e
  ·rw [he]at e;cases e;exact m
 refine Ao (Hz (Au (Jg (Aq (v:=.ref x.me) rfl (by walk_at "mem") (sR wd.wx.nf hi hC hin.right ?_)))))
 rw [he]
 refine Ka (Kz (by rfl) ⟨_,rfl,λ_=>?_,λhb=>(by cases hb)⟩)
 refine Ao (Qf (Jg (Aq (v:=.ref x.me) rfl (by walk_at "mem") (sR wd.wx.nf hi hC hin.right ?_))))
 rw [he]
 let Z:Option Ab->List Nat->List Av:=λbo acc=>pV G L x.me t r1 r2 nd sn t0 f1 f2 lo bo (Ad (.ref nd)) acc τ
 refine(Hl (vs:=Ap G hs) (.of_mem (Pj (Aa _ hm))) λit=>?_)
 refine⟨it,_,_,_,_,_,⟨rfl,rfl,Hj (a:=ht) (vs:=Ap G hs) hh⟩,λd σ=>∃bo,σ=⟨Bl G++X,Z bo (acc++Cn acc (hs.take d.length))⟩,⟨bo,by simp [Cn,Z]⟩,?_,?_,?_⟩
 ·rintro d _ ⟨bo,rfl⟩
  exact .of_mem (Pj (Aa _ hm))
 ·rintro d v r u ρ _ he' hu ⟨bo,rfl⟩ Kq hK
  obtain⟨a',j,b',e1,e2,rfl,_⟩:=Np he'
  have hj:=hhs j (by rw [e1];simp)
  obtain⟨y,ey⟩:=Dp hj
  rw [Bu ey]at hu
  have hdl:d.length=a'.length:=by rw [e2,Bb]
  have ht':hs.take d.length=a':=by rw [hdl,e1];simp
  have hs':=eM (acc:=acc) e1
  have hlen':(d++[Bx (Gd G j)]).length=a'.length+1:=by rw [Aj,hdl];rfl
  have hin1:∀k∈acc++Cn acc a',k < G.length:=λk hk=>by
   rcases Ak.mp hk with h|h
   ·exact hacc k h
   ·exact hhs k (by rw [e1];exact Ah _ (Mr _ _ k h).1)
  have hin2:(acc++Cn acc a').length<=1000:=by
   have h1:=Ot a' acc
   have h2:=congrArg Ii e1
   simp only [Aj,Fy]at h2 ⊢
   lia
  rw [ht']
  have hkc:=Tg wd.gr hin1 hj
  rw [Gj ey]at hkc
  refine Cx hu (by walk_at "upd") ?_
  refine Ao (Hz (Au (Ek (x:=y) wd.wx.nf ey (Mg Γ) (.head _) (Ac (v:=.ref y.me) (by walk_at "mem") ⟨rfl,rfl⟩) (Ac (v:=.ref sn) (by walk_at "mem") (Uz (ks:=(acc++Cn acc a').map (Cy G)) (by walk_at "mem") ⟨_,rfl,λhb=>?_,λhb=>?_⟩)))))
  ·rw [hkc]at hb
   have hc:(acc++Cn acc a').contains j=false:=by simpa using hb
   rw [hc]at hs'
   refine Ao (Gf (Fo (Ac (v:=.ref sn) (by walk_at "mem") (De Qt PySem.F.slot_set_add PySem.F.type_set_add (fV (ks:=(acc++Cn acc a').map (Cy G)) (by walk_at "mem")) ⟨.inr (.inl ⟨_,rfl⟩),?_⟩))))
   refine Ai (Ek (x:=y) wd.wx.nf ey (Mg Γ) (v:=.int y.key 0) (.head _) (Ac (v:=.ref y.me) (by walk_at "mem") ⟨rfl,rfl⟩) (Ar (Yu (by walk_at "upd") (by rw [As];exact Hr (Jx hin2) (by decide)) ?_)))
   refine Fh.go ?_
   refine Ao (Gf (Fo (Ac (v:=.ref nd) (by walk_at "mem") (De Cv Dt Ds (It (vs:=Ap G (acc++Cn acc a')) (by walk_at "mem")) ⟨.inr (.inl ⟨_,rfl⟩),?_⟩))))
   refine Ai (Ac (v:=.ref y.me) (by walk_at "mem") (Ar (Lx (by walk_at "upd") (by rw [Bb,Ay];exact Ca hin2 (by decide)) ?_)))
   refine Fh.go (Cq ?_)
   refine Fh.go (Cq (hK .next _ ⟨_,_,Av.le_refl _,Ad (.ref y.me),?_⟩))
   rw [hlen',hs',if_neg (by decide)]
   have e3:((acc++Cn acc a')++[j]).map (Cy G)=(acc++Cn acc a').map (Cy G)++[y.key]:=by rw [Bk,Ck,Ky,Gj ey]
   have e4:Ap G ((acc++Cn acc a')++[j])=Ap G (acc++Cn acc a')++[.ref y.me]:=by rw [<-Sc,Bu ey]
   show _=(⟨Bl G++X,(.obj t,.tup t0)::(.obj sn,.iset (((acc++Cn acc a')++[j]).map (Cy G)))::(.obj nd,.list (Ap G ((acc++Cn acc a')++[j])))::(.obj r2,.list (Ap G f2))::(.obj r1,.list (Ap G f1))::oV L x.me (Ad (.ref r1)) (Ad (.ref r2)) (Ad (.ref nd)) (Ad (.ref sn)) lo (Ad (.ref y.me)) (Ad (.ref nd)) τ⟩:Bc)
   rw [e3,e4]
  ·rw [hkc]at hb
   have hc:(acc++Cn acc a').contains j=true:=by rw [Ke]at hb;exact hb
   rw [hc]at hs'
   refine Cq ?_
   refine Fh.go (Cq (hK .next _ ⟨_,_,Av.le_refl _,Ad (.ref y.me),?_⟩))
   rw [hlen',hs',if_pos rfl]
 rintro _ ⟨bo,rfl⟩
 rw [Bb,Es]
 refine Cq ?_
 refine Fh.go (Cq ?_)
 refine Fh.go ?_
 exact h bo
end
end
section
section
variable {Γ:Bm} {A:Az} {G:List Nd} {X:List Av} {σ:Bc}
noncomputable def Mi (G:List Nd) (i:Nat) (jb jd ja:List Nat):List Nat:=Cn [] (Nh G i jb++jd++Nh G i ja)
theorem Wz {i:Nat} {js:List Nat}:∀j∈Nh G i js,j∈js:=λj h=>(Cw.mp h).1
theorem iW {i:Nat} {js:List Nat}:(Nh G i js).length<=js.length:=By _ _
theorem tV {i:Nat} {jb jd ja:List Nat}:∀j∈Mi G i jb jd ja,j∈jb\/j∈jd\/j∈ja:=λj h=>by
 have:=(Mr _ _ j h).1
 rcases Ak.mp this with h|h
 ·rcases Ak.mp h with h|h
  ·exact .inl (Wz j h)
  ·exact .inr (.inl h)
 ·exact .inr (.inr (Wz j h))
theorem Yt {τ:List Av} {i:Nat} {x:Nd} {b a:Am} {jb ja jd hs:List Nat} {Q:Ab->Bc->Prop} (wd:Wd G X) (lc:∀j,j < G.length->j≠i->dE G j) (hi:G[i]? =Ad x) (hi0:0 < i) (hC:x.C=427) (hd:Mx X x.decl (Ap G jd)) (hn:Pt X x.inh (Ap G hs)) (hhl:x.inh=Ae\/x.inh=Ad .none->hs=[])
  (rb:nW Γ ⟨Bl G++X,τ⟩ b (Ap G jb)) (ra:nW Γ ⟨Bl G++X,τ⟩ a (Ap G ja)) (hjb:∀j∈jb,0 < j/\j < i) (hja:∀j∈ja,0 < j/\j < i) (hjd:∀j∈jd,j < i) (hhs:∀j∈hs,j < i) (lb:jb.length<=20) (la:ja.length<=20) (ld:jd.length<=20) (lh:hs.length<=20)
  (hA:Rm A 31) (hh:A.handled=Ae) (hF:AF A ⟨[],τ⟩)
  (h:∀G' X' t bt,Wd G' X'->Jq (G.set i {x with decl:=Ad (.ref t),bt:=bt,bs:=Mi G i jb jd ja++Cn (Mi G i jb jd ja) hs}) G'->(Ex.obj t,CO.tup (Ap G (Mi G i jb jd ja)))∈X'->(∀e∈X,e∈X')->(∀j,j < G'.length->Uk G' j)->Q .none ⟨Bl G'++X',τ⟩):
  ∀ws,ws.map cl=[.ref x.me,.ref b,.ref a]->TC Γ A ⟨Bl G++X,τ⟩ (.ref 458) ws [] Q:=λws hw=>by
 have hil:=(Al.mp hi).1
 obtain⟨z,ez⟩:=Dp (show 0 < G.length by lia)
 have hroot:x.root=.ref z.me:=by rw [wd.ro _ _ hi];unfold Wj;rw [if_neg (by lia),Bu ez]
 refine Wm (body:=fBody (topStmt 21)) (bs:=[("spec",.ref x.me),("before",.ref b),("after",.ref a)]) ["before","after","new_declared","seen","lst","b","bases"] (wS Γ) (by kernel_rfl) hA.room ?_ (λL=>?_) (by rfl) (by decide) (by decide) (by rfl) (by rfl) (by rfl) ws [] hw rfl
 ·intro ws kws hw hk
  obtain⟨w₁,w₂,w₃,rfl,e1,e2,e3⟩:=Vd hw
  cases Oo.mp hk
  exact⟨[("spec",w₁),("before",w₂),("after",w₃)],by simp [e1,e2,e3],λs X=>kp_binds X λS=>by kernel_rfl⟩
 show T Γ (A.deeper (Rk L)) ⟨Bl G++X,oV L x.me (Ad (.ref b)) (Ad (.ref a)) Ae Ae Ae Ae Ae τ⟩ (Cs _ (Rk L)) _
 have hA':Rm (A.deeper (Rk L)) 30:=hA.deeper
 obtain⟨dt,ht,hD⟩:=gB (Γ:=Γ) wd.wx.nf hi hC hd.right
 have bl:(Nh G i jb++jd++Nh G i ja).length<=60:=by
  have h1:=iW (G:=G) (i:=i) (js:=jb)
  have h2:=iW (G:=G) (i:=i) (js:=ja)
  simp only [Aj];lia
 refine jN wd hi ez (by lia) hroot (hA'.le (by decide)) hh rb ra (λj hj=>⟨(hjb j hj).1,by have:=(hjb j hj).2;lia⟩) (λj hj=>⟨(hja j hj).1,by have:=(hja j hj).2;lia⟩) lb la λr1 r2=>?_
 refine tR (dt:=dt) (jd:=jd) wd.wx.nf wd.gr hh (λj hj=>?_) (by lia) (ht τ) (λτ' Q ⟨ρ,e⟩ q ov ho=>hD _ _ ov true Q ho q) λt nd sn lo bo=>?_
 ·have:j∈jb\/j∈jd\/j∈ja:=by
   rcases Ak.mp hj with h|h
   ·rcases Ak.mp h with h|h
    ·exact .inl (Wz j h)
    ·exact .inr (.inl h)
   ·exact .inr (.inr (Wz j h))
  rcases this with h|h|h
  ·have:=(hjb j h).2;lia
  ·have:=hjd j h;lia
  ·have:=(hja j h).2;lia
 have hNl:(Mi G i jb jd ja).length<=60:=Ca (Ot _ _) bl
 have hNi:∀j∈Mi G i jb jd ja,j < i:=λj hj=>by
  rcases tV j hj with h|h|h
  ·exact(hjb j h).2
  ·exact hjd j h
  ·exact(hja j h).2
 show T Γ (A.deeper (Rk L)) ⟨Bl G++X,pV G L x.me t r1 r2 nd sn [.ref r1,.ref dt,.ref r2] (Nh G i jb) (Nh G i ja) lo bo Ae (Mi G i jb jd ja) τ⟩ _ _
 refine Ao (Dn (Cf (Bd (v:=.type "tuple") (by kernel_rfl) (by decide+kernel) (by decide) ⟨.inr (.inr ⟨_,rfl⟩),?_⟩)))
 refine Ai (Ac (v:=.ref nd) (by walk_at "mem") (Ar λws hw=>Fv (vs:=Ap G (Mi G i jb jd ja)) (Ag (.tail _ (.tail _ (.head _)))) (by rw [Bb];lia) (λt2=>?_) ws hw))
 refine T.conseq Rz ?_
 have wx1:Wd G ((Ex.obj t2,CO.tup (Ap G (Mi G i jb jd ja)))::X):=wd.more λe he=>.tail _ he
 refine Aq (v:=.ref x.me) rfl (by walk_at "mem") λv ov hv ho=>fR (x:=x) (x':={x with decl:=Ad (.ref t2)}) wx1.wx hi hC ho hv (cC Γ) (oL x _) rfl ?_
 refine Fh.go ?_
 let x1:Nd:={x with decl:=Ad (.ref t2)}
 let G1:=G.set i x1
 let X1:List Av:=(Ex.obj t2,CO.tup (Ap G (Mi G i jb jd ja)))::X
 have wd1:Wd G1 X1:=wx1.setDI hi (Ad (.ref t2)) x.inh
 have h1i:G1[i]? =Ad x1:=Lu hi
 have K1:Gl G G1:=Mb hi rfl
 have lc1:∀j,j < G1.length->j≠i->dE G1 j:=λj hj hne=>bF hi (Ad (.ref t2)) x.inh (lc j (by rw [K1.len]at hj;exact hj) hne)
 have hR:∀l,Ap G1 l=Ap G l:=K1.refs
 have hKf:Cy G1=Cy G:=funext K1.key
 refine Ao (Bo (Ac (v:=.ref nd) (by walk_at "mem") ⟨_,_,by walk_at "upd",?_⟩))
 refine Fh.go ?_
 have eP:∀lo bo bb acc,pV G L x.me t r1 r2 nd sn [.ref r1,.ref dt,.ref r2] (Nh G i jb) (Nh G i ja) lo bo bb acc τ=pV G1 L x1.me t r1 r2 nd sn [.ref r1,.ref dt,.ref r2] (Nh G i jb) (Nh G i ja) lo bo bb acc τ:=λlo bo bb acc=>by
  unfold pV
  rw [hR,hR,hR,hKf]
 show T Γ (A.deeper (Rk L)) ⟨Bl G1++X1,pV G L x.me t r1 r2 nd sn [.ref r1,.ref dt,.ref r2] (Nh G i jb) (Nh G i ja) lo bo (Ad (.ref nd)) (Mi G i jb jd ja) τ⟩ _ _
 rw [eP]
 have hn1:Pt X1 x1.inh (Ap G1 hs):=by rw [hR];exact hn.more λe he=>.tail _ he
 have fin:∀lo bo,T Γ (A.deeper (Rk L)) ⟨Bl G1++X1,pV G1 L x1.me t r1 r2 nd sn [.ref r1,.ref dt,.ref r2] (Nh G i jb) (Nh G i ja) lo bo (Ad (.ref nd)) (Mi G i jb jd ja++Cn (Mi G i jb jd ja) hs) τ⟩ (Cs ((fBody (topStmt 21)).drop 8) (Rk L)) (Jh Q):=λlo bo=>by
  refine tQ wd1 lc1 h1i hA' hh hF ?_ ?_ ?_ λG' X' bt ρ w1 w2 w3 w4=>?_
  ·have:=Ji ((Nh G i jb++jd++Nh G i ja)++hs) []
   rw [Hu,Fw]at this
   exact this
  ·intro b hb
   rcases Ak.mp hb with h|h
   ·exact hNi b h
   ·exact hhs b (Mr _ _ b h).1
  ·have:=Ot hs (Mi G i jb jd ja)
   simp only [Aj];lia
  ·have e5:G1.set i {x1 with bt:=bt,bs:=Mi G i jb jd ja++Cn (Mi G i jb jd ja) hs}=G.set i {x with decl:=Ad (.ref t2),bt:=bt,bs:=Mi G i jb jd ja++Cn (Mi G i jb jd ja) hs}:=by
    show(G.set i x1).set i _=_
    rw [Qo]
   rw [e5]at w2
   exact⟨_,Av.le_sub (Bs ρ τ),h G' X' t2 bt w1 w2 (w3 _ (.head _)) (λe he=>w3 _ (.tail _ he)) w4⟩
 by_cases hx:∃ht,x.inh=Ad (.ref ht)
 ·obtain⟨ht2,hx⟩:=hx
  exact pP wd1 h1i hC hh hn1 hx (λj hj=>by rw [K1.len];have:=hNi j hj;lia) (λj hj=>by rw [K1.len];have:=hhs j hj;lia) (by lia) λbo=>fin _ bo
 ·have hx':x.inh=Ae\/x.inh=Ad .none:=by
   rcases hn with⟨e,_⟩|⟨t',e,_⟩
   ·exact e
   ·exact absurd ⟨t',e⟩ hx
  have hs0:=hhl hx'
  subst hs0
  refine Ao (Hz (Au (Jg (Aq (v:=.ref x.me) rfl (by walk_at "mem") (sR (x:=x1) wd1.wx.nf h1i hC hn1.right ?_)))))
  have hg:x1.inh.getD .none=.none:=by
   show x.inh.getD .none=.none
   rcases hx' with e|e<;>rw [e]<;>rfl
  rw [hg]
  refine Ka (Kz (by rfl) ⟨_,rfl,λhb=>(by cases hb),λ_=>?_⟩)
  refine Cq ?_
  refine Fh.go ?_
  have:=fin lo bo
  simp only [Cn,Cr]at this
  exact this
end
end
section
section
variable {Γ:Bm} {A:Az} {σ σ':Bc} {s s':Be} {env:Env}
theorem yM {W τ:List Av} {f:Am} {oc:Ab} {od:Option Am} {osl:Array (Option Ab)} {name qual:Str} {params:Arguments} {body:List Jy} {scope:Li} {dV kV doc pm cdv ct:Ab} {an:Option Am} {v0:Ab} {vs:List Ab} {n0 nr:Str} {Q:Ab->Bc->Prop} (names:List Str)
  (ho:Γ.K.lookup f=Ad ⟨oc,od,.func (fnX name qual params body scope [] dV kV doc pm an cdv ct),osl⟩) (hcode:codeIn Γ.K cdv qual=true) (hd:A.depth < Hf)
  (hb:∀w ws,ws.length=vs.length->bindArgs (fnX name qual params body scope [] dV kV doc pm an cdv ct) ⟨w::ws,[]⟩=(newTuple ws>>=λt=>Et [(n0,w),(nr,t)])) (hz:vs.length<=Gn)
  (h:∀L t,T Γ (A.deeper (Gs qual scope L f cdv [])) ⟨W,Od L names [(n0,v0),(nr,.ref t)]++((.obj t,.tup vs)::τ)⟩ (Cs body (Gs qual scope L f cdv [])) (Jh Q))
  (hcell:autoParam ((scope.names.all λx=>x.2 != .cell)=true) aR) (hloc:autoParam ((scope.names.lookup n0==Ad .local&&scope.names.lookup nr==Ad .local)=true) aR) (hn:autoParam (names.Nodup) aD)
  (hco:autoParam (scope.isCoroutine=false) aR) (hgen:autoParam (scope.isGenerator=false) aR) (hk:autoParam (scope.kind=.function) aR):
  ∀ws,ws.map cl=v0::vs->TC Γ A ⟨W,τ⟩ (.ref f) ws [] Q:=λws hw s R=>by
 obtain⟨w,rest,rfl,e0,er⟩:∃w rest,ws=w::rest/\cl w=v0/\rest.map cl=vs:=by
  cases ws with
  |nil=>cases hw
  |cons w rest=>simp at hw;exact⟨w,rest,rfl,hw.1,hw.2⟩
 have hl:rest.length=vs.length:=by rw [<-er,As]
 refine codeAny_call_function (fd:=fnX name qual params body scope [] dV kV doc pm an cdv ct) (body:=body) hd (R.kin _ _ ho) rfl hco hgen rfl (codeRec_of R.kin hcode) ?_
 rw [hb w rest hl]
 refine Af (Ec (cK (Γ:=Γ) (A:=A.in1) (W:=W) (τ:=τ) (vs:=rest) (Q:=λv σ'=>∃t,v=.ref t/\σ'=⟨W,(.obj t,.tup vs)::τ⟩) (by rw [hl];exact hz) (λt=>⟨t,rfl,by rw [er]⟩) s R) (λv s₁ zz=>?_) λ_ _ x=>x.elim)
 obtain⟨σ₁,R₁,t,e1,e2⟩:=zz
 subst e2
 refine Ax ?_
 simp only [Dd,beq_iff_eq]at hloc
 refine wpAny_newFunctionEnv (λx hx=>?_) (λx hx=>?_) (λh₀ hns hsb=>?_) hk
 ·have:=Fz.mp hcell x hx
  simpa using this
 ·rcases Cj.mp hx with rfl|hx
  ·exact hloc.1
  ·rw [Bi.mp hx];exact hloc.2
 ·have hk₀:∀b o,s₁.heap.get? b=Ad o->h₀.get? b=Ad o:=λb o e=>hsb.extBut b o (Kw (Dw e)) (An _ e)
  refine⟨R₁.lim.no.fresh _ hsb,codeAny_func ?_⟩
  have R₂:Eg Γ ⟨W,(.obj t,.tup vs)::τ⟩ {s₁ with heap:=h₀,toks:=s₁.toks+[(n0,w),(nr,v)].length}:=R₁.grow hk₀ rfl rfl
  have eb:([(n0,w),(nr,v)]:List (Str×Ab)).map (λp=>(p.1,cl p.2))=[(n0,v0),(nr,.ref t)]:=by
   have e1':cl v=.ref t:=e1
   simp [e0,e1']
  have R₃:=R₂.adds (Od s₁.heap.objs.size names [(n0,v0),(nr,.ref t)]) (λp hp=>?_) (Tm hn)
  ·refine Ec (h s₁.heap.objs.size t _ R₃) (λfl s' zz=>?_) λ_ _ x=>x.elim
   obtain⟨σ',R',σ'',le,q⟩:=zz
   refine⟨σ'',le Γ s' R',?_⟩
   cases fl with
   |ret v=>exact q
   |next=>exact q
   |brk=>exact q
   |cont=>exact q
  ·obtain⟨x,hx,rfl⟩:=Bq.mp hp
   refine⟨⟨_,hns,?_⟩,R₁.freshTop,Jw (σ:=⟨W,(.obj t,.tup vs)::τ⟩) (s:=s₁) rfl (λq hq=>(R₁.ents q hq).1) (Cb _)⟩
   rw [<-eb,<-List.map_reverse,Ov]
end
theorem Aic (Γ:Bm):Γ.K.lookup 443=Ad ⟨.type "function",Ae,.func (Kh Γ 443 "classImplements" (topStmt 19) (.ref 442) .none),#[]⟩:=by kernel_rfl
theorem Aeg (Γ:Bm):Γ.K.lookup 436=Ad ⟨.type "function",Ae,.func (Kh Γ 436 "classImplementsOnly" (topStmt 18) (.ref 435) .none),#[]⟩:=by kernel_rfl
theorem Aeh (Γ:Bm):Γ.K.lookup 450=Ad ⟨.type "function",Ae,.func (Kh Γ 450 "classImplementsFirst" (topStmt 20) (.ref 449) .none),#[]⟩:=by kernel_rfl
theorem uV (Γ:Bm) {n:Nat} (hn:0 < n/\n<=3) (w:Ab) (ws:List Ab) (h:ws.length=n):bindArgs (Kh Γ 443 "classImplements" (topStmt 19) (.ref 442) .none) ⟨w::ws,[]⟩=(newTuple ws>>=λt=>Et ([(("cls" :Str),w),(("interfaces" :Str),t)]:List (Str×Ab))):=by
 match ws,h with
 |[],h=>simp at h;lia
 |[_],_=>rfl
 |[_,_],_=>rfl
 |[_,_,_],_=>rfl
 |_::_::_::_::_,h=>simp at h;lia
theorem rE (Γ:Bm) {n:Nat} (hn:0 < n/\n<=3) (w:Ab) (ws:List Ab) (h:ws.length=n):bindArgs (Kh Γ 436 "classImplementsOnly" (topStmt 18) (.ref 435) .none) ⟨w::ws,[]⟩=(newTuple ws>>=λt=>Et ([(("cls" :Str),w),(("interfaces" :Str),t)]:List (Str×Ab))):=by
 match ws,h with
 |[],h=>simp at h;lia
 |[_],_=>rfl
 |[_,_],_=>rfl
 |[_,_,_],_=>rfl
 |_::_::_::_::_,h=>simp at h;lia
end
section
noncomputable def iC (Γ:Bm) (G:List Nd) (W τ:List Av) (vs:List Ab) (js:List Nat):Prop:=
 ∀(A:Az) (τ':List Av) (t:Am) (Q:Ab->Bc->Prop),Rm A 5->A.handled=Ae->(∃ρ,τ'=ρ++τ)->Fc Γ ⟨W,τ'⟩ t vs->(∀o,Q (.ref o) ⟨W,(.obj o,.list (Ap G js))::τ'⟩)->∀ws,ws.map cl=[.ref t]->TC Γ A ⟨W,τ'⟩ (.ref 466) ws [] Q
noncomputable def Hp (G:List Nd) (jd:List Nat) (j:Nat):Bool:=jd.any λb=>decide (b∈Gy G j)&&decide (j≠b)
noncomputable abbrev Su (L:Am):Env:=Gs "classImplements" (fScope (topStmt 19)) L 443 (.ref 442) []
noncomputable abbrev sE (L me:Am) (t s b a f o:Option Ab) (τ:List Av):List Av:=(.var L "cls",.val (Ad (.ref me)))::(.var L "interfaces",.val t)::(.var L "spec",.val s)::(.var L "before",.val b)::(.var L "after",.val a)::(.var L "iface",.val f)::(.var L "b",.val o)::τ
section
variable {Γ:Bm} {A:Az} {G:List Nd} {X:List Av} {σ:Bc}
theorem Tq {p:Nat->Bool} {js a b:List Nat} {j:Nat} (e:js=a++j::b):(js.take (a.length+1)).filter p=a.filter p++(if p j then [j]else []):=by
 have:js.take (a.length+1)=a++[j]:=by
  rw [e,show a++j::b=(a++[j])++b by simp]
  exact Fn (by simp)
 rw [this,Ff]
 congr 1
 cases h:p j<;>simp [h]
theorem uU {W τ:List Av} {i:Nat} {L me t2 bl al:Am} {js jd:List Nat} {Q:Ga->Bc->Prop} (wd:Wd G X) (hW:W=Bl G++X) (hme:∃x,G[i]? =Ad x/\x.me=me/\x.C=427/\Mx X x.decl (Ap G jd)) (hA:Rm (A.deeper (Su L)) 2) (hh:A.handled=Ae)
  (hjs:∀j∈js,j < G.length) (hjd:∀j∈jd,j < G.length) (hz:js.length<=100)
  (h:∀fo bo,T Γ (A.deeper (Su L)) ⟨W,(.obj al,.list (Ap G (js.filter λj=>!Hp G jd j)))::(.obj bl,.list (Ap G (js.filter (Hp G jd))))::(.obj t2,.tup (Ap G js))::sE L me (Ad (.ref t2)) (Ad (.ref me)) (Ad (.ref bl)) (Ad (.ref al)) fo bo τ⟩ (Cs ((fBody (topStmt 19)).drop 5) (Su L)) Q):
  T Γ (A.deeper (Su L)) ⟨W,(.obj al,.list [])::(.obj bl,.list [])::(.obj t2,.tup (Ap G js))::sE L me (Ad (.ref t2)) (Ad (.ref me)) (Ad (.ref bl)) (Ad (.ref al)) Ae Ae τ⟩ (Cs ((fBody (topStmt 19)).drop 4) (Su L)) Q:=by
 subst hW
 obtain⟨x,hi,rfl,hC,hd⟩:=hme
 have nf:=wd.wx.nf
 obtain⟨dt,ht,hD⟩:=gB (Γ:=Γ) nf hi hC hd.right
 let Z:Option Ab->Option Ab->Nat->List Av:=λfo bo n=>(.obj al,.list (Ap G ((js.take n).filter λj=>!Hp G jd j)))::(.obj bl,.list (Ap G ((js.take n).filter (Hp G jd))))::(.obj t2,.tup (Ap G js))::sE L x.me (Ad (.ref t2)) (Ad (.ref x.me)) (Ad (.ref bl)) (Ad (.ref al)) fo bo τ
 show T Γ (A.deeper (Su L)) ⟨Bl G++X,Z Ae Ae 0⟩ _ _
 refine Ao (Qf (Ac (v:=.ref t2) (by walk_at "mem") (Hl (vs:=Ap G js) (.of_mem (Ag (.tail _ (.tail _ (.head _))))) λit=>?_)))
 refine⟨it,_,_,_,_,_,⟨rfl,rfl,Hj (a:=t2) (vs:=Ap G js) hh⟩,λd σ=>∃fo bo,σ=⟨Bl G++X,Z fo bo d.length⟩,⟨Ae,Ae,rfl⟩,?_,?_,?_⟩
 ·rintro d _ ⟨fo,bo,rfl⟩
  exact .of_mem (Ag (.tail _ (.tail _ (.head _))))
 ·rintro d v r u ρ _ he hu ⟨fo,bo,rfl⟩ Kq hK
  obtain⟨a',j,b',e1,e2,rfl,_⟩:=Np he
  have hj:=hjs j (by rw [e1];simp)
  obtain⟨y,ey⟩:=Dp hj
  rw [Bu ey]at hu
  have hdl:d.length=a'.length:=by rw [e2,Bb]
  have hlen':(d++[Bx (Gd G j)]).length=a'.length+1:=by rw [Aj,hdl];rfl
  have f1:=Tq (p:=Hp G jd) e1
  have f2:=Tq (p:=λj=>!Hp G jd j) e1
  have ht':js.take d.length=a':=by rw [hdl,e1];simp
  have hal:a'.length<=100:=by have:=congrArg Ii e1;simp at this;lia
  have l1:(a'.filter (Hp G jd)).length<=100:=Ca (By _ _) hal
  have l2:(a'.filter λj=>!Hp G jd j).length<=100:=Ca (By _ _) hal
  show T Γ (A.deeper (Su L)) ⟨Bl G++X,ρ++((.obj al,.list (Ap G ((js.take d.length).filter λj=>!Hp G jd j)))::(.obj bl,.list (Ap G ((js.take d.length).filter (Hp G jd))))::(.obj t2,.tup (Ap G js))::sE L x.me (Ad (.ref t2)) (Ad (.ref x.me)) (Ad (.ref bl)) (Ad (.ref al)) fo bo τ)⟩ _ _
  rw [ht']
  let Y:Option Ab->List Av:=λbo=>(.obj al,.list (Ap G (a'.filter λj=>!Hp G jd j)))::(.obj bl,.list (Ap G (a'.filter (Hp G jd))))::(.obj t2,.tup (Ap G js))::sE L x.me (Ad (.ref t2)) (Ad (.ref x.me)) (Ad (.ref bl)) (Ad (.ref al)) (Ad (.ref y.me)) bo τ
  refine Cx hu (by walk_at "upd") ?_
  show T Γ (A.deeper (Su L)) ⟨Bl G++X,ρ++Y bo⟩ _ _
  refine Ao (Qf (Jg (Ac (v:=.ref x.me) (by walk_at "mem") λo ho=>hD _ _ o true _ ho (Hl (vs:=Ap G jd) (ht _) λit2=>?_))))
  refine⟨it2,_,_,_,_,_,⟨rfl,rfl,Hj (a:=dt) (vs:=Ap G jd) hh⟩,λd σ=>∃bo,(jd.take d.length).any (λb=>decide (b∈Gy G j)&&decide (j≠b))=false/\σ=⟨Bl G++X,ρ++Y bo⟩,⟨bo,rfl,rfl⟩,?_,?_,?_⟩
  ·rintro d' _ ⟨bo,_,rfl⟩
   exact ht _
  ·rintro d' v r' u' ρ' _ he' hu' ⟨bo,hno,rfl⟩ Kq2 hK2
   obtain⟨a2,b,b2,g1,g2,rfl,_⟩:=Np he'
   have hb:=hjd b (by rw [g1];simp)
   obtain⟨w,ew⟩:=Dp hb
   rw [Bu ew]at hu'
   have hdl2:d'.length=a2.length:=by rw [g2,Bb]
   have ht2:jd.take d'.length=a2:=by rw [hdl2,g1];simp
   have ht3:jd.take (d'++[Bx (Gd G b)]).length=a2++[b]:=by
    rw [Aj,hdl2,Br,g1,show a2++b::b2=(a2++[b])++b2 by simp]
    exact Fn (by simp)
   rw [ht2]at hno
   refine Cx hu' (by walk_at "upd") ?_
   show T Γ (A.deeper (Su L)) ⟨Bl G++X,ρ'++(ρ++Y (Ad (.ref w.me)))⟩ _ _
   refine Ao (Hz (Eo (Fo (Ac (v:=.ref y.me) (by walk_at "mem") (Pe nf ey (mN Γ) ⟨.inl (by kernel_rfl),?_⟩)))))
   refine Ai (Ac (v:=.ref w.me) (by walk_at "mem") (Ar λws hw=>(rG (x:=y) (y:=w) nf wd.gr (wd.imp _ _ ey) (hA.le (by decide)) ey ew ?_ ws hw).T))
   refine(Fi ⟨λhb'=>?_,λhb'=>?_⟩)
   ·have hx:Hp G jd j=true:=by
     unfold Hp
     rw [Hi]
     exact⟨b,by rw [g1];simp,hb'⟩
    rw [hx]at f1 f2
    refine Ao (Gf (Fo (Ac (v:=.ref bl) (by walk_at "mem") (De Cv Dt Ds (It (vs:=Ap G (a'.filter (Hp G jd))) (by walk_at "mem")) ⟨.inr (.inl ⟨_,rfl⟩),?_⟩))))
    refine Ai (Ac (v:=.ref y.me) (by walk_at "mem") (Ar (Lx (by walk_at "upd") (by rw [Bb,Ay];exact Ca l1 (by decide)) ?_)))
    refine Fh.go ?_
    refine Ao (xX (hK2 .brk _ ?_))
    refine Fh.go (Cq (hK .next _ ⟨Bl G++X,Z (Ad (.ref y.me)) (Ad (.ref w.me)) (a'.length+1),?_,Ad (.ref y.me),Ad (.ref w.me),by rw [hlen']⟩))
    have e4:Ap G ((js.take (a'.length+1)).filter (Hp G jd))=Ap G (a'.filter (Hp G jd))++[.ref y.me]:=by rw [f1,if_pos rfl,<-Sc,Bu ey]
    have e5:(js.take (a'.length+1)).filter (λj=>!Hp G jd j)=a'.filter (λj=>!Hp G jd j):=by rw [f2];simp
    show Av.le ⟨Bl G++X,ρ++((.obj al,.list (Ap G ((js.take (a'.length+1)).filter λj=>!Hp G jd j)))::(.obj bl,.list (Ap G ((js.take (a'.length+1)).filter (Hp G jd))))::(.obj t2,.tup (Ap G js))::sE L x.me (Ad (.ref t2)) (Ad (.ref x.me)) (Ad (.ref bl)) (Ad (.ref al)) (Ad (.ref y.me)) (Ad (.ref w.me)) τ)⟩ _
    rw [e4,e5]
    exact Av.le_sub (Bs ρ' _)
   ·refine Cq ?_
    refine Fh.go (Cq (hK2 .next _ ⟨_,_,Av.le_refl _,Ad (.ref w.me),?_,rfl⟩))
    rw [ht3,List.any_append,hno,Bool.false_or]
    simpa using hb'
  ·rintro _ ⟨bo,hno,rfl⟩
   rw [Bb,Es]at hno
   have hx:Hp G jd j=false:=hno
   rw [hx]at f1 f2
   refine Ao (Gf (Fo (Ac (v:=.ref al) (by walk_at "mem") (De Cv Dt Ds (It (vs:=Ap G (a'.filter λj=>!Hp G jd j)) (by walk_at "mem")) ⟨.inr (.inl ⟨_,rfl⟩),?_⟩))))
   refine Ai (Ac (v:=.ref y.me) (by walk_at "mem") (Ar (Lx (by walk_at "upd") (by rw [Bb,Ay];exact Ca l2 (by decide)) ?_)))
   refine Fh.go (Cq ?_)
   refine Fh.go (Cq (hK .next _ ⟨Bl G++X,Z (Ad (.ref y.me)) bo (a'.length+1),?_,Ad (.ref y.me),bo,by rw [hlen']⟩))
   have e4:Ap G ((js.take (a'.length+1)).filter (λj=>!Hp G jd j))=Ap G (a'.filter (λj=>!Hp G jd j))++[.ref y.me]:=by rw [f2];simp [Ap,Bu ey]
   have e5:(js.take (a'.length+1)).filter (Hp G jd)=a'.filter (Hp G jd):=by rw [f1];simp
   show Av.le ⟨Bl G++X,ρ++((.obj al,.list (Ap G ((js.take (a'.length+1)).filter λj=>!Hp G jd j)))::(.obj bl,.list (Ap G ((js.take (a'.length+1)).filter (Hp G jd))))::(.obj t2,.tup (Ap G js))::sE L x.me (Ad (.ref t2)) (Ad (.ref x.me)) (Ad (.ref bl)) (Ad (.ref al)) (Ad (.ref y.me)) bo τ)⟩ _
   rw [e4,e5]
   exact Av.le_refl _
 rintro _ ⟨fo,bo,rfl⟩
 refine Cq ?_
 refine Fh.go ?_
 have e:js.take (Ap G js).length=js:=by rw [Bb,Es]
 show T Γ (A.deeper (Su L)) ⟨Bl G++X,(.obj al,.list (Ap G ((js.take (Ap G js).length).filter λj=>!Hp G jd j)))::(.obj bl,.list (Ap G ((js.take (Ap G js).length).filter (Hp G jd))))::(.obj t2,.tup (Ap G js))::sE L x.me (Ad (.ref t2)) (Ad (.ref x.me)) (Ad (.ref bl)) (Ad (.ref al)) fo bo τ⟩ _ _
 rw [e]
 exact h fo bo
end
end
section
theorem qE {A B:List Nd} (K:Jq A B) (i:Nat) {y y':Nd} (e:y.blank4=y'.blank4):Jq (A.set i y) (B.set i y'):=by
 unfold Jq at *
 rw [Kx,Kx,K,e]
noncomputable abbrev Ye (L:Am):Env:=Gs "classImplementsOnly" (fScope (topStmt 18)) L 436 (.ref 435) []
noncomputable abbrev lH (L:Am):Env:=Gs "classImplementsFirst" (fScope (topStmt 20)) L 450 (.ref 449) []
section
variable {Γ:Bm} {A:Az} {G:List Nd} {X:List Av} {σ:Bc}
noncomputable abbrev lA (G:List Nd) (X:List Av) (τ:List Av) (i:Nat) (x:Nd) (nd bs:List Nat) (inh:Option Ab) (Q:Ab->Bc->Prop):Prop:=
 ∀G' X' t bt,Wd G' X'->Jq (G.set i {x with decl:=Ad (.ref t),bt:=bt,bs:=bs,inh:=inh}) G'->(Ex.obj t,CO.tup (Ap G nd))∈X'->(∀e∈X,e∈X')->(∀j,j < G'.length->Uk G' j)->Q .none ⟨Bl G'++X',τ⟩
theorem vU {τ:List Av} {i:Nat} {x:Nd} {vs:List Ab} {js jd hs:List Nat} {Q:Ab->Bc->Prop} (wd:Wd G X) (lc:∀j,j < G.length->j≠i->dE G j) (hi:G[i]? =Ad x) (hi0:0 < i) (hC:x.C=427) (hd:Mx X x.decl (Ap G jd)) (hn:Pt X x.inh (Ap G hs)) (hhl:x.inh=Ae\/x.inh=Ad .none->hs=[])
  (hvs:0 < vs.length/\vs.length<=3) (hN:iC Γ G (Bl G++X) τ vs js) (hjs:∀j∈js,0 < j/\j < i) (hjd:∀j∈jd,j < i) (hhs:∀j∈hs,j < i) (lj:js.length<=20) (ld:jd.length<=20) (lh:hs.length<=20)
  (hA:Rm A 32) (hh:A.handled=Ae) (hF:AF A ⟨[],τ⟩)
  (h:lA G X τ i x (Mi G i (js.filter (Hp G jd)) jd (js.filter λj=>!Hp G jd j)) (Mi G i (js.filter (Hp G jd)) jd (js.filter λj=>!Hp G jd j)++Cn (Mi G i (js.filter (Hp G jd)) jd (js.filter λj=>!Hp G jd j)) hs) x.inh Q):
  ∀ws,ws.map cl=.ref x.me::vs->TC Γ A ⟨Bl G++X,τ⟩ (.ref 443) ws [] Q:=by
 have hil:=(Al.mp hi).1
 refine yM (body:=fBody (topStmt 19)) ["cls","interfaces","spec","before","after","iface","b"] (Aic Γ) (by kernel_rfl) hA.room (uV Γ hvs) (by rw [Ay];lia) (λL t=>?_) (by rfl) (by rfl) (by decide) (by rfl) (by rfl) (by rfl)
 show T Γ (A.deeper (Su L)) ⟨Bl G++X,sE L x.me (Ad (.ref t)) Ae Ae Ae Ae Ae ((.obj t,.tup vs)::τ)⟩ (Cs _ (Su L)) _
 have hA':Rm (A.deeper (Su L)) 31:=hA.deeper
 refine Ao (Bo (Ac (v:=.ref x.me) (by walk_at "mem") ⟨_,_,by walk_at "upd",?_⟩))
 refine Fh.go ?_
 refine Ao (Bo (Cf (Bd (v:=.type "tuple") (by kernel_rfl) (by decide+kernel) (by decide) ⟨.inr (.inr ⟨_,rfl⟩),?_⟩)))
 refine Ai (Cf (Bn (v:=.ref 466) (by kernel_rfl) ⟨.inl (by kernel_rfl),?_⟩))
 refine Ai (Ac (v:=.ref t) (by walk_at "mem") (Ar λws hw=>(hN (A.deeper (Su L)) (sE L x.me (Ad (.ref t)) (Ad (.ref x.me)) Ae Ae Ae Ae ((.obj t,.tup vs)::τ)) t _ (hA'.le (by decide)) hh ⟨[_,_,_,_,_,_,_,_],rfl⟩ (.of_mem (by walk_at "mem")) (λo=>?_) ws hw).T))
 refine Ar λws hw=>Fv (vs:=Ap G js) (Ag (.head _)) (by rw [Bb];lia) (λt2=>⟨_,_,by walk_at "upd",?_⟩) ws hw
 refine Fh.go ?_
 refine Ao (Bo (Ic (Ar ⟨by rw [Ay];exact Cg _,λbl=>⟨_,_,by walk_at "upd",?_⟩⟩)))
 refine Fh.go ?_
 refine Ao (Bo (Ic (Ar ⟨by rw [Ay];exact Cg _,λal=>⟨_,_,by walk_at "upd",?_⟩⟩)))
 refine Fh.go ?_
 let τ1:List Av:=(.obj o,.list (Ap G js))::(.obj t,.tup vs)::τ
 refine T.conseq (σ':=⟨Bl G++X,(.obj al,.list [])::(.obj bl,.list [])::(.obj t2,.tup (Ap G js))::sE L x.me (Ad (.ref t2)) (Ad (.ref x.me)) (Ad (.ref bl)) (Ad (.ref al)) Ae Ae τ1⟩) (Av.le_perm (Bf _ ?_)) ?_
 ·exact(Bz.cons _ (Bz.cons _ (Bz.cons _ (Fl (l₁:=[_,_,_,_,_,_,_])).symm)))
 refine uU (τ:=τ1) (i:=i) (jd:=jd) wd rfl ⟨x,hi,rfl,hC,hd⟩ (hA'.le (by decide)) hh (λj hj=>by have:=(hjs j hj).2;lia) (λj hj=>by have:=hjd j hj;lia) (by lia) λfo bo=>?_
 refine Ao (Gf (Cf (Bn (v:=.ref 458) (by kernel_rfl) ⟨.inl (by kernel_rfl),?_⟩)))
 refine Ai (Ac (v:=.ref x.me) (by walk_at "mem") ?_)
 refine Ai (Cf (Bd (v:=.type "tuple") (by kernel_rfl) (by decide+kernel) (by decide) ⟨.inr (.inr ⟨_,rfl⟩),?_⟩))
 have lb:(js.filter (Hp G jd)).length<=20:=Ca (By _ _) lj
 have la:(js.filter λj=>!Hp G jd j).length<=20:=Ca (By _ _) lj
 refine Ai (Ac (v:=.ref bl) (by walk_at "mem") (Ar λws hw=>Fv (vs:=Ap G (js.filter (Hp G jd))) (Ag (.tail _ (.head _))) (by rw [Bb];lia) (λt3=>?_) ws hw))
 refine Ai (Cf (Bd (v:=.type "tuple") (by kernel_rfl) (by decide+kernel) (by decide) ⟨.inr (.inr ⟨_,rfl⟩),?_⟩))
 refine Ai (Ac (v:=.ref al) (by walk_at "mem") (Ar λws hw=>Fv (vs:=Ap G (js.filter λj=>!Hp G jd j)) (Ag (.tail _ (.head _))) (by rw [Bb];lia) (λt4=>?_) ws hw))
 refine Ar λws hw=>?_
 refine(Yt (jb:=js.filter (Hp G jd)) (ja:=js.filter λj=>!Hp G jd j) (jd:=jd) (hs:=hs) wd lc hi hi0 hC hd hn hhl (.inr (.of_mem (Ag (.tail _ (.head _))))) (.inr (.of_mem (Ag (.head _)))) (λj hj=>hjs j (Cw.mp hj).1) (λj hj=>hjs j (Cw.mp hj).1) hjd hhs lb la ld lh hA' hh ?_ (λG' X' t' bt w1 w2 w3 w4 w5=>?_) ws hw).T
 ·refine hF.push rfl rfl (L:=L) (x:="cls") (c:=Ad (.ref x.me)) (by walk_at "mem") λp hp=>?_
  exact Aa [_,_,_,_,_,_,_,_,_,_,_,_,_,_] hp
 ·refine Fh.go (Cq ⟨_,Av.le_sub (Bs [_,_,_,_,_,_,_,_,_,_,_,_,_,_] τ),h G' X' t' bt w1 w2 w3 w4 w5⟩)
theorem Afd {τ:List Av} {i j:Nat} {x y:Nd} {jd hs:List Nat} {Q:Ab->Bc->Prop} (wd:Wd G X) (lc:∀j,j < G.length->j≠i->dE G j) (hi:G[i]? =Ad x) (hj:G[j]? =Ad y) (hi0:0 < j/\j < i) (hC:x.C=427) (hd:Mx X x.decl (Ap G jd)) (hn:Pt X x.inh (Ap G hs)) (hhl:x.inh=Ae\/x.inh=Ad .none->hs=[])
  (hjd:∀j∈jd,j < i) (hhs:∀j∈hs,j < i) (ld:jd.length<=20) (lh:hs.length<=20) (hA:Rm A 32) (hh:A.handled=Ae) (hF:AF A ⟨[],τ⟩)
  (h:lA G X τ i x (Mi G i [j] jd []) (Mi G i [j] jd []++Cn (Mi G i [j] jd []) hs) x.inh Q):
  ∀ws,ws.map cl=[.ref x.me,.ref y.me]->TC Γ A ⟨Bl G++X,τ⟩ (.ref 450) ws [] Q:=λws hw=>by
 refine Pk (body:=fBody (topStmt 20)) (bs:=[("cls",.ref x.me),("iface",.ref y.me)]) ["cls","iface","spec"] (Aeh Γ) (by kernel_rfl) hA.room (Hb.plain2 λ_ _ _=>Cm (by rfl)) (λL=>?_) (by rfl) (by rfl) (by decide) (by rfl) (by rfl) (by rfl) ws [] hw rfl
 show T Γ (A.deeper (lH L)) ⟨Bl G++X,(.var L "cls",.val (Ad (.ref x.me)))::(.var L "iface",.val (Ad (.ref y.me)))::(.var L "spec",.val Ae)::τ⟩ (Cs _ (lH L)) _
 have hA':Rm (A.deeper (lH L)) 31:=hA.deeper
 refine Ao (Bo (Ac (v:=.ref x.me) (by walk_at "mem") ⟨_,_,by walk_at "upd",?_⟩))
 refine Fh.go ?_
 refine Ao (Gf (Cf (Bn (v:=.ref 458) (by kernel_rfl) ⟨.inl (by kernel_rfl),?_⟩)))
 refine Ai (Ac (v:=.ref x.me) (by walk_at "mem") ?_)
 refine Ai (Kr (k:=0) (Ai (Ac (v:=.ref y.me) (by walk_at "mem") (Ar ⟨by rw [Ay];exact Ce rfl,λt3=>?_⟩))))
 refine Ai (Kr (k:=0) (Ar ⟨by rw [Ay];exact Cg _,λt4=>?_⟩))
 refine Ar λws hw=>?_
 have e1:Ap G [j]=[.ref y.me]:=by simp [Ap,Bu hj]
 refine(Yt (jb:=[j]) (ja:=[]) (jd:=jd) (hs:=hs) wd lc hi (by lia) hC hd hn hhl (.inr (.of_mem (by rw [e1];exact Ag (.tail _ (.head _))))) (.inr (.of_mem (Ag (.head _)))) (λk hk=>by rw [Bi.mp hk];exact hi0) (λk hk=>(by cases hk)) hjd hhs (by simp) (by simp) ld lh hA' hh ?_ (λG' X' t' bt w1 w2 w3 w4 w5=>?_) ws hw).T
 ·refine hF.push rfl rfl (L:=L) (x:="cls") (c:=Ad (.ref x.me)) (by walk_at "mem") λp hp=>?_
  exact Aa [_,_,_,_,_] hp
 ·refine Fh.go (Cq ⟨_,Av.le_sub (Bs [_,_,_,_,_] τ),h G' X' t' bt w1 w2 w3 w4 w5⟩)
end
end
section
section
variable {Γ:Bm} {A:Az} {G:List Nd} {X:List Av} {σ:Bc}
theorem lU {i k:Nat} (hb:Ge G i=[]) (h:Ia G i k):k=i:=by
 rcases Ia.cases'.mp h with h|⟨b,hb',_⟩
 ·exact h
 ·rw [hb]at hb';cases hb'
theorem sO {τ:List Av} {i:Nat} {x:Nd} {js:List Nat} {Q:Ab->Bc->Prop} (wd:Wd G X) (sok:∀j,j < G.length->Uk G j) (hi:G[i]? =Ad x) (hi0:0 < i) (hC:x.C=427)
  (hvs:0 < js.length/\js.length<=3) (hjs:∀j∈js,0 < j/\j < i) (hA:Rm A 32) (hh:A.handled=Ae) (hF:AF A ⟨[],τ⟩)
  (h:lA G X τ i x (Cn [] js) (Cn [] js) (Ad .none) Q):
  ∀ws,ws.map cl=.ref x.me::Ap G js->TC Γ A ⟨Bl G++X,τ⟩ (.ref 436) ws [] Q:=by
 have hil:=(Al.mp hi).1
 refine yM (body:=fBody (topStmt 18)) ["cls","interfaces","spec"] (Aeg Γ) (by kernel_rfl) hA.room (rE Γ (by rw [Bb];exact hvs)) (by rw [Bb,Ay];lia) (λL t=>?_) (by rfl) (by rfl) (by decide) (by rfl) (by rfl) (by rfl)
 show T Γ (A.deeper (Ye L)) ⟨Bl G++X,(.var L "cls",.val (Ad (.ref x.me)))::(.var L "interfaces",.val (Ad (.ref t)))::(.var L "spec",.val Ae)::(.obj t,.tup (Ap G js))::τ⟩ (Cs _ (Ye L)) _
 have hA':Rm (A.deeper (Ye L)) 31:=hA.deeper
 refine Ao (Bo (Ac (v:=.ref x.me) (by walk_at "mem") ⟨_,_,by walk_at "upd",?_⟩))
 refine Fh.go ?_
 let V:List Av:=(.var L "cls",.val (Ad (.ref x.me)))::(.var L "interfaces",.val (Ad (.ref t)))::(.var L "spec",.val (Ad (.ref x.me)))::(.obj t,.tup (Ap G js))::τ
 show T Γ (A.deeper (Ye L)) ⟨Bl G++X,V⟩ _ _
 have hFV:AF (A.deeper (Ye L)) ⟨[],V⟩:=hF.push rfl rfl (L:=L) (x:="cls") (c:=Ad (.ref x.me)) (by walk_at "mem") λp hp=>Aa [_,_,_,_] hp
 refine Ao (Dn (Kr (k:=0) (Ar ⟨by rw [Ay];exact Cg _,λt0=>T.conseq Rz ?_⟩)))
 have wx1:Wd G ((Ex.obj t0,CO.tup [])::X):=wd.more λe he=>.tail _ he
 refine Ac (v:=.ref x.me) (by walk_at "mem") λv ov hv ho=>fR (x:=x) (x':={x with decl:=Ad (.ref t0)}) wx1.wx hi hC ho hv (cC Γ) (oL x _) rfl ?_
 refine Fh.go ?_
 let x1:Nd:={x with decl:=Ad (.ref t0)}
 let G1:=G.set i x1
 let X1:List Av:=(Ex.obj t0,CO.tup [])::X
 have wd1:Wd G1 X1:=wx1.setDI hi (Ad (.ref t0)) x.inh
 have h1i:G1[i]? =Ad x1:=Lu hi
 show T Γ (A.deeper (Ye L)) ⟨Bl G1++X1,V⟩ _ _
 refine Ao (Dn (Ka (k:=0) ?_))
 refine Ac (v:=.ref x.me) (by walk_at "mem") λv ov hv ho=>fR (x:=x1) (x':={x1 with inh:=Ad .none}) wd1.wx h1i hC ho hv (eZ Γ) (sV x1 _) rfl ?_
 refine Fh.go ?_
 let x2:Nd:={x with decl:=Ad (.ref t0),inh:=Ad .none}
 let G2:=G.set i x2
 have wd2:Wd G2 X1:=wx1.setDI hi (Ad (.ref t0)) (Ad .none)
 have h2i:G2[i]? =Ad x2:=Lu hi
 have e12:G1.set i {x1 with inh:=Ad .none}=G2:=by
  show(G.set i x1).set i _=_
  rw [Qo]
 rw [e12]
 have K2:Gl G G2:=Mb hi rfl
 have hlen2:=K2.len
 have dD:∀j,j < G2.length->j≠i->dE G2 j:=λj hj hne=>bF hi (Ad (.ref t0)) (Ad .none) (Rn wd.gr (Cb _) sok (by rw [hlen2]at hj;exact hj))
 refine Ao (Gf (Fo (Ac (v:=.ref x.me) (by walk_at "mem") (Pe (x:=x2) wd2.wx.nf h2i (Uw Γ) ⟨.inl (by kernel_rfl),?_⟩))))
 refine Ai (Kr (k:=0) (Ar ⟨by rw [Ay];exact Cg _,λt1=>T.conseq Rz ?_⟩))
 refine Ar λws hw=>?_
 refine(Wb (X:=(.obj t1,.tup [])::X1) (τ:=V) (x:=x2) (bt:=t1) (bs:=[]) (wd2.more λe he=>.tail _ he) dD (hA'.le (by decide)) hh hFV h2i (.inl (.head _)) .nil (λb hb=>(by cases hb)) (λG3 X3 w1 w2 w3 w4=>?_) ws hw).T
 refine Fh.go ?_
 have e23:G2.set i {x2 with bt:=t1,bs:=[]}=G.set i {x with decl:=Ad (.ref t0),inh:=Ad .none,bt:=t1,bs:=[]}:=by
  show(G.set i x2).set i _=_
  rw [Qo]
 rw [e23]at w2
 obtain⟨x3,h3i,hb3⟩:=w2.at' (Lu hi)
 have m3:x3.me=x.me:=by have:=congrArg Nd.me hb3;exact this
 have c3:x3.C=427:=by have:=congrArg Nd.C hb3;exact this.trans hC
 have d3:x3.decl=Ad (.ref t0):=by have:=congrArg Nd.decl hb3;exact this
 have n3:x3.inh=Ad .none:=by have:=congrArg Nd.inh hb3;exact this
 have b3:Ge G3 i=[]:=by rw [Qh h3i];have:=congrArg Nd.bs hb3;exact this
 have K3:Gl G G3:=(Mb hi rfl:Gl G (G.set i {x with decl:=Ad (.ref t0),inh:=Ad .none,bt:=t1,bs:=[]})).trans w2.i
 have hlen3:=K3.len
 have hR:∀l,Ap G3 l=Ap G l:=K3.refs
 have hf:Nh G3 i js=js:=by
  unfold Nh
  rw [List.filter_eq_self]
  intro j hj
  obtain⟨h1,h2⟩:=hjs j hj
  have:j∉Gy G3 i:=λq=>by
   rcases(Sn w1.gr (Cb _) w4 i i (Cb _) (by lia) j).mp q with q|q
   ·have:=lU b3 q;lia
   ·lia
  simp [this]
 have hnd:Mi G3 i js [] []=Cn [] js:=by
  unfold Mi
  rw [hf]
  simp [Nh]
 refine Ao (Gf (Cf (Bn (v:=.ref 458) (by kernel_rfl) ⟨.inl (by kernel_rfl),?_⟩)))
 refine Ai (Ac (v:=.ref x.me) (by walk_at "mem") ?_)
 refine Ai (Ac (v:=.ref t) (by walk_at "mem") ?_)
 refine Ai (Kr (k:=0) (Ar ⟨by rw [Ay];exact Cg _,λt4=>?_⟩))
 refine Ar λws hw=>?_
 have hmt:(Ex.obj t,CO.tup (Ap G3 js))∈V:=by rw [hR];exact .tail _ (.tail _ (.tail _ (.head _)))
 refine(Yt (b:=t) (a:=t4) (G:=G3) (X:=X3) (x:=x3) (jb:=js) (ja:=[]) (jd:=[]) (hs:=[]) w1 (λj hj _=>Rn w1.gr (Cb _) w4 hj) h3i hi0 c3 (.inr ⟨t0,d3,w3 _ (.tail _ (.head _))⟩) (.inl ⟨.inr n3,rfl⟩) (λ_=>rfl) (.inr (.of_mem (Ag (.tail _ hmt)))) (.inr (.of_mem (Ag (.head _)))) hjs (λk hk=>(by cases hk)) (λk hk=>(by cases hk)) (λk hk=>(by cases hk)) (by lia) (by simp) (by simp) (by simp) hA' hh hFV.cons (λG' X' t' bt v1 v2 v3 v4 v5=>?_) ws (by rw [m3];exact hw)).T
 rw [hnd]at v2 v3
 simp only [Cn,Cr]at v2
 rw [hR]at v3
 refine Fh.go (Cq ⟨_,Av.le_sub (Bs [_,_,_,_,_] τ),h G' X' t' bt v1 ?_ v3 (λe he=>v4 _ (w3 _ (.tail _ (.tail _ he)))) v5⟩)
 refine Jq.trans ?_ v2
 have:=qE w2 i (y:={x with decl:=Ad (.ref t'),bt:=bt,bs:=Cn [] js,inh:=Ad .none}) (y':={x3 with decl:=Ad (.ref t'),bt:=bt,bs:=Cn [] js}) ?_
 ·rw [Qo]at this
  exact this
 ·have:=congrArg (λn:Nd=>{n with decl:=Ad (.ref t'),bt:=bt,bs:=Cn [] js}) hb3
  exact this.symm
end
end
section
section
variable {Γ:Bm} {A:Az} {σ σ':Bc} {s s':Be} {env:Env}
noncomputable abbrev dD (elt iter iter2:At) (x y:Str) (xp yp:Pos) (scope:Li) (pos:Pos):At:=.ListComp elt [⟨.Name x xp,iter,[],0⟩,⟨.Name y yp,iter2,[],0⟩] scope pos
theorem kA (elt iter iter2:At) (x y:Str) (xp yp:Pos) (scope:Li) (pos:Pos) (it acc:Ab) (env:Env):
  compTurn (dD elt iter iter2 x y xp yp scope pos) 0 it acc env=(Mz iter.pos>>=λ_=>Ls it>>=λr=>match r with
   |Ae=>Et (.done .next)
   |Ad v=>Dr (.Name x xp) it v>>=λ_=>Ir (.Name x xp) env v>>=λ_=>
    Dv iter2 env>>=λw=>Mz iter2.pos>>=λ_=>Dx iter2 env w>>=λw=>holding [w] (Ib w)>>=λi=>runOwn (.compStart (dD elt iter iter2 x y xp yp scope pos) 1 i acc env) env>>=λ_=>
     again (.compLoop (dD elt iter iter2 x y xp yp scope pos) 0 it acc env)):=by rfl
theorem jZ (elt iter iter2:At) (x y:Str) (xp yp:Pos) (scope:Li) (pos:Pos) (it acc:Ab) (env:Env):
  compTurn (dD elt iter iter2 x y xp yp scope pos) 1 it acc env=(Mz iter2.pos>>=λ_=>Ls it>>=λr=>match r with
   |Ae=>Et (.done .next)
   |Ad v=>Dr (.Name y yp) it v>>=λ_=>Ir (.Name y yp) env v>>=λ_=>
    (Dv elt env>>=λw=>Iq (.builtin "list.append") [acc,w]>>=λ_=>Et PUnit.unit)>>=λ_=>
     again (.compLoop (dD elt iter iter2 x y xp yp scope pos) 1 it acc env)):=by rfl
theorem gL {M:Jm} {w:Ok} {elt iter iter2:At} {x y:Str} {xp yp:Pos} {scope:Li} {pos:Pos} {it acc:Ab} {R:Le->Be->Prop}
  (h0:Kg (Ci M w) A (.compLoop (dD elt iter iter2 x y xp yp scope pos) 1 it acc env) R s)
  (h:Cu (Ci M w) A (Ib it) (λit' s'=>Kg (Ci M w) A (.compLoop (dD elt iter iter2 x y xp yp scope pos) 1 it' acc env) R s') (notedBy (Ci M w) A env λx s'=>R (.error x) s') s):
  Kg (Ci M w) A (.compStart (dD elt iter iter2 x y xp yp scope pos) 1 it acc env) R s:=by
 refine codeAny_of_tree ?_
 show Cu _ _ ((compStart (dD elt iter iter2 x y xp yp scope pos) 1 it acc env).onRaise (λx=>do Pw x env;Mz theWindowsPlace)) _ _ s
 refine wpAny_notedAt ?_
 unfold compStart
 show Cu _ _ (ask>>=_) _ _ s
 refine Af (Oi (wpAny_ite ?_))
 split
 ·first
   |exact Af (Ax (Ax (And.intro rfl h0)))
   |exact Ax (And.intro rfl h0)
 ·first
   |exact Af (Lf (Af (Ev (Af (Ec h (λit' s' h'=>Ax (And.intro rfl h')) λ_ _ x=>x)))))
   |(refine Af (Lf ?_);show Cu _ _ (Mz iter2.pos>>=_) _ _ s;exact Af (Ev (Af (Ec h (λit' s' h'=>Ax (And.intro rfl h')) λ_ _ x=>x))))
end
end
section
section
variable {Γ:Bm} {A:Az} {σ σ':Bc} {s s':Be} {env:Env}
noncomputable abbrev Rj (C acc:Am) (x y:Str) (o p:Option Ab) (ys:List Int) (τ:List Av):List Av:=(.obj C,.fr [(x,o),(y,p)])::(.obj acc,.list (Aw ys))::τ
inductive Ahd (Γ:Bm) (A:Az) (W τ:List Av) (C acc it b:Am) (x y:Str) (o:Option Ab) (fs pre:List Int) (n:Nat) (s:Be):Prop
 |mk (d r:List Int) (ρ:List Av) (p:Option Ab) (R:Eg Γ ⟨W,ρ++Rj C acc x y o p (pre++d) τ⟩ s) (Y:Lj Γ A it (λσ=>(Ex.obj b,CO.list (Aw fs))∈σ.all) (Aw r) ρ) (e:d++r=fs) (hn:n=r.length)
theorem kB {iter iter2:At} {x y:Str} {xp yp ep:Pos} {scope:Li} {pos:Pos} {cenv:Env} {W τ:List Av} {acc b it2:Am} {o:Option Ab} {fs pre:List Int} (hh:A.handled=Ae)
  (hb:(Ex.obj b,CO.list (Aw fs))∈(⟨W,τ⟩:Bc).all) (hz:pre.length+fs.length<=100000) (hk:cenv.scope.kind=.function) (hy:cenv.kindOf y=Ad .local) (hyd:(y==("__debug__" :Str))=false) (ht:∀it v,Dr (.Name y yp) it v=Et ()) {R:Le->Be->Prop}
  (hR:∀s ρ p,Eg Γ ⟨W,ρ++Rj cenv.locals acc x y o p (pre++fs) τ⟩ s->R (.ok .next) s) {p0:Option Ab} (R0:Eg Γ ⟨W,(.obj it2,.liter b 0)::Rj cenv.locals acc x y o p0 pre τ⟩ s):
  Kg (Ci Γ.prog Γ.w) A (.compLoop (dD (.Name y ep) iter iter2 x y xp yp scope pos) 1 (.ref it2) (.ref acc) cenv) R s:=by
 refine codeAny_loop rfl (Ahd Γ A W τ cenv.locals acc it2 b x y o fs pre) (λn s hI=>?_) fs.length
  ⟨[],fs,[(.obj it2,.liter b 0)],p0,by rw [Cr];exact R0,Ey hh,rfl,rfl⟩
 obtain⟨d,r,ρ,p,R1,Y,he,hn⟩:=hI
 show Cu _ A ((compTurn (dD (.Name y ep) iter iter2 x y xp yp scope pos) 1 (.ref it2) (.ref acc) cenv).onRaise (λx=>do Pw x cenv;theTreesLotGoes x)) _ _ s
 refine wpAny_noted ?_
 rw [jZ]
 have hb':(Ex.obj b,CO.list (Aw fs))∈(⟨W,Rj cenv.locals acc x y o p (pre++d) τ⟩:Bc).all:=Bt (ρ:=[_,_]) hb
 refine Af (Ev (Af ?_))
 cases r with
 |nil=>exact Y.stop hb' R1 λs₁ R₁=>Ax (hR s₁ [] p (by rw [<-he,Cr];exact R₁))
 |cons v r=>
  refine Y.more hb' R1 λu ρ' s₁ hu R₁ _ Y''=>?_
  dsimp only
  rw [ht]
  refine Af (Ax (Af ?_))
  refine(Ta (σ':=⟨W,ρ'++Rj cenv.locals acc x y o (Ad (.int v 0)) (pre++d) τ⟩) hu (.there .here) (.tau (Ri.pre .here)) rfl hk hy).to R₁ λ_ s₂ R₂=>?_
  refine Af (Af ((Dm (v:=.int v 0) (Ag (Aa _ (.head _))) (.tail _ (.head _)) ⟨rfl,rfl⟩ hk hy hyd).one R₂ λc s₃ e₃ R₃=>?_))
  have hdl:(pre++d).length<=Gn:=by
   rw [<-he,Aj]at hz
   rw [Aj,Ay]
   lia
  refine Af ((bN (ws:=[.ref acc,c]) (a:=acc) (vs:=Aw (pre++d)) (v:=.int v 0) (σ':=⟨W,ρ'++Rj cenv.locals acc x y o (Ad (.int v 0)) (pre++(d++[v])) τ⟩) (congrArg (λq=>[Bx acc,q]) e₃) (by
   rw [<-Ba]
   unfold Rj
   rw [show Aw (pre++d++[v])=Aw (pre++d)++[.int v 0]from Bk]
   exact .tau (Ri.pre (.there .here))) (by rw [Ea];exact hdl) rfl).to R₃ λ_ s₄ R₄=>?_)
  exact Ax (Ax ⟨rfl,r.length,by rw [hn];exact Nat.lt_succ_self _,d++[v],r,ρ',Ad (.int v 0),R₄,Y'',by rw [<-he,Ba];rfl,rfl⟩)
end
end
section
section
variable {Γ:Bm} {A:Az} {σ σ':Bc} {s s':Be} {env:Env}
theorem iZ {C:Am} {m:List (Str×Option Ab)} {W τ:List Av} {P:Be->Prop} (R:Eg Γ ⟨W,(.obj C,.fr m)::τ⟩ s)
  (k:∀s',Eg Γ ⟨W,τ⟩ s'->P s'):∃m,s.heap.Ns C m/\∀h',Eu C s.heap h'->P {s with heap:=h'}:=by
 obtain⟨M,N,_,_⟩:=(R.ents _ Bv).1
 exact⟨M,N,λh' hs=>k _ (Eg.dropObj (s':={s with heap:=h'}) R rfl hs.extBut rfl rfl)⟩
inductive Vn (σ₀:Bc) (W τ:List Av) (vs:List Ab) (c:Ab) (σ₁:Bc):Prop
 |mk (a:Am) (e:c=.ref a) (es:σ₁=σ₀) (m:(Ex.obj a,CO.list vs)∈(⟨W,τ⟩:Bc).all)
theorem Vn.run {σ₀:Bc} {W τ:List Av} {vs:List Ab} {t:Sem Ab} {K:Ab->Be->Prop} {E:Ab->Be->Prop} (h:T Γ A σ t (Vn σ₀ W τ vs)) (R:Eg Γ σ s) (k:∀a s',(Ex.obj a,CO.list vs)∈(⟨W,τ⟩:Bc).all->Eg Γ σ₀ s'->K (.ref a) s'):Cu (Ci Γ.prog Γ.w) A t K E s:=
 h.elim R λv s' σ' R' q=>by
  obtain⟨a,e,es,m⟩:=q
  rw [Ch e]
  exact k a s' m (es▸R')
theorem iR {W τ:List Av} {a:Am} {vs:List Ab} {K:Ab->Be->Prop} {E:Ab->Be->Prop} (hm:(Ex.obj a,CO.list vs)∈(⟨W,τ⟩:Bc).all) (R:Eg Γ ⟨W,τ⟩ s) (k:∀it s',Eg Γ ⟨W,(.obj it,.liter a 0)::τ⟩ s'->K (.ref it) s'):Cu (Ci Γ.prog Γ.w) A (Ib (.ref a)) K E s:=by
 obtain⟨ws,n,e,ew⟩:=(R.ents _ hm).1
 exact wpAny_pyIter_list ⟨_,e,rfl,n,rfl⟩ (k _ _ (R.push (c:=.liter a 0) (s':={s with heap:=s.heap.push _}) (λ_ _ e=>An _ e) rfl rfl ⟨_,Bj _ rfl,rfl,rfl⟩))
theorem zC {C acc:Am} {x y:Str} {o p:Option Ab} {ys:List Int} {W τ ρ ρ':List Av}:Av.le ⟨W,ρ++Rj C acc x y o p ys (ρ'++τ)⟩ ⟨W,ρ++(ρ'++Rj C acc x y o p ys τ)⟩:=Av.le_perm (Bf W (Bf ρ (Zd _ _ ρ' τ).symm))
theorem vZ {C acc:Am} {x y:Str} {o p:Option Ab} {ys:List Int} {W τ ρ ρ':List Av}:Av.le ⟨W,ρ++(ρ'++Rj C acc x y o p ys τ)⟩ ⟨W,ρ++Rj C acc x y o p ys (ρ'++τ)⟩:=Av.le_perm (Bf W (Bf ρ (Zd _ _ ρ' τ)))
inductive Abd (Γ:Bm) (A:Az) (W τ:List Av) (C acc it a:Am) (x y:Str) (ks:List Int) (f:Int->List Int) (n:Nat) (s:Be):Prop
 |mk (d r:List Int) (ρ:List Av) (o p:Option Ab) (R:Eg Γ ⟨W,ρ++Rj C acc x y o p (d.flatMap f) τ⟩ s) (Y:Lj Γ A it (λσ=>(Ex.obj a,CO.list (Aw ks))∈σ.all) (Aw r) ρ) (e:d++r=ks) (hn:n=r.length)
noncomputable def Abg (Γ:Bm) (W τ:List Av) (C acc:Am) (x y:Str) (o:Option Ab) (ys:List Int) (r:Le) (s:Be):Prop:=match r with|.ok _=>∃p,Eg Γ ⟨W,Rj C acc x y o p ys τ⟩ s|.error _=>False
theorem cD {iter iter2:At} {x y:Str} {xp yp ep:Pos} {scope:Li} {pos:Pos} {cl₀:List (Str×Am)} {use:Option (Ab->Sem Unit)} {W τ:List Av} {ks:List Int} {f:Int->List Int} {Q:Ab->Bc->Prop} (hh:A.handled=Ae)
  (h:T Γ A ⟨W,τ⟩ (Dv iter env) (Vn ⟨W,τ⟩ W τ (Aw ks)))
  (h2:∀k∈ks,∀C acc ρ p ys,T Γ A ⟨W,ρ++Rj C acc x y (Ad (.int k 0)) p ys τ⟩ (Dv iter2 (Lp scope cl₀ C env)) (Vn ⟨W,ρ++Rj C acc x y (Ad (.int k 0)) p ys τ⟩ W τ (Aw (f k))))
  (hz:(ks.flatMap f).length<=100000)
  (done:∀acc,match use with
    |Ae=>Q (.ref acc) ⟨W,(.obj acc,.list (Aw (ks.flatMap f)))::τ⟩
    |Ad u=>∀C m,m.map (·.1)=[x,y]->T Γ A ⟨W,(.obj C,.fr m)::(.obj acc,.list (Aw (ks.flatMap f)))::τ⟩ (u (.ref acc)) λ_ σ'=>∃τ' m',m'.map (·.1)=[x,y]/\Av.le ⟨W,(.obj C,.fr m')::τ'⟩ σ'/\Q .none ⟨W,τ'⟩)
  (hxy:(x==y)=false) (hcells:∀C,Fk (C+1) scope.names []=[]) (hlx:(Lp scope cl₀ 0 env).Kj x=Ad .local) (hly:(Lp scope cl₀ 0 env).Kj y=Ad .local) (hyd:(y==("__debug__" :Str))=false)
  (hclos:Kc scope env=Et cl₀) (hkind:scope.kind=.function) (hnames:(scope.names.all λx=>x.2 != .local||scope.names.lookup x.1==Ad .local)=true)
  (hs:∀v,Dx iter env v=Et v) (hs2:∀C v,Dx iter2 (Lp scope cl₀ C env) v=Et v) (ht:∀it v,Dr (.Name x xp) it v=Et ()) (ht2:∀it v,Dr (.Name y yp) it v=Et ()):
  T Γ A ⟨W,τ⟩ (comprehension (dD (.Name y ep) iter iter2 x y xp yp scope pos) scope env (firstIterPos [⟨.Name x xp,iter,[],0⟩,⟨.Name y yp,iter2,[],0⟩] pos) (newList []) false (Dv iter env) use) Q:=λs R=>by
 refine wpAny_comprehension_free (g:=⟨.Name x xp,iter,[],0⟩) (gs:=[⟨.Name y yp,iter2,[],0⟩]) rfl hs hclos hkind (λx hx hl=>?_) (Vn.run h R λa s₁ ham R₁=>iR ham R₁ λit s₂ R₂=>?_)
 ·have:=Fz.mp hnames x hx
  rw [hl]at this
  simpa using this
 refine Ez (eU λh₁ ns cells keep=>?_)
 have hnd:([x,y]:List Str).Nodup:=by
  refine Fe.mpr ⟨λq=>?_,Fe.mpr ⟨λq=>(nomatch q),.nil⟩⟩
  rw [Bi.mp q,beq_self_eq_true]at hxy
  cases hxy
 have Re:Eg Γ ⟨W,[(.obj it,.liter a 0)]++Rj _ s₂.heap.objs.size x y Ae Ae [] τ⟩ _:=oW (m:=λ_=>[(x,Ae),(y,Ae)]) (cE:=λ_ _=>[]) (ρ:=[(.obj it,.liter a 0)]) R₂ (λp hp=>by rcases Cj.mp hp with e|hp;rw [e];rw [Bi.mp hp]) hnd (λC=>by rw [hcells];rfl) rfl rfl ns cells keep
 generalize (s₂.heap.push _).objs.size=C at *
 generalize s₂.heap.objs.size=acc at *
 generalize ({s₂ with heap:=h₁}:Be)=s₃ at Re
 clear ns cells keep R₂ hnd
 have fin:∀m s',m.map (·.1)=[x,y]->Eg Γ ⟨W,(.obj C,.fr m)::(.obj acc,.list (Aw (ks.flatMap f)))::τ⟩ s'->
   compPost (Ci Γ.prog Γ.w) A (λ_ _=>False) use (λv s'=>fL Γ Q (cln v) s') (.ref acc) C (.ok .next) s':=by
  intro m s' hm R'
  have dn:=done acc
  cases use with
  |Ae=>exact iZ (P:=λs'=>fL Γ Q (cln (.ref acc)) s') R' λs'' R''=>⟨_,R'',dn⟩
  |Ad u=>
   refine(dn C m hm).elim R' λ_ s₅ σ₅ R₅ zz=>?_
   obtain⟨τ',m',hm',le,q⟩:=zz
   exact iZ (P:=λs'=>fL Γ Q .none s') (le Γ s₅ R₅) λs'' R''=>⟨_,R'',q⟩
 have loop:∀s₃,Eg Γ ⟨W,[(.obj it,.liter a 0)]++Rj C acc x y Ae Ae [] τ⟩ s₃->Kg (Ci Γ.prog Γ.w) A (.compLoop (dD (.Name y ep) iter iter2 x y xp yp scope pos) 0 (.ref it) (.ref acc) (Lp scope cl₀ C env))
   (compPost (Ci Γ.prog Γ.w) A (λ_ _=>False) use (λv s'=>fL Γ Q (cln v) s') (.ref acc) C) s₃:=by
  intro s₃ Re
  refine codeAny_loop rfl (Abd Γ A W τ C acc it a x y ks f) (λn s hI=>?_) ks.length ⟨[],ks,[(.obj it,.liter a 0)],Ae,Ae,Re,Ey hh,rfl,rfl⟩
  obtain⟨d,r,ρ,o,p,R1,Y,he,hn⟩:=hI
  show Cu _ A ((compTurn (dD (.Name y ep) iter iter2 x y xp yp scope pos) 0 (.ref it) (.ref acc) (Lp scope cl₀ C env)).onRaise (λx=>do Pw x (Lp scope cl₀ C env);theTreesLotGoes x)) _ _ s
  refine wpAny_noted ?_
  rw [kA]
  have hb':(Ex.obj a,CO.list (Aw ks))∈(⟨W,Rj C acc x y o p (d.flatMap f) τ⟩:Bc).all:=Bt (ρ:=[_,_]) ham
  refine Af (Ev (Af ?_))
  cases r with
  |nil=>
   rw [Cr]at he
   rw [he]at R1 hb'
   exact Y.stop hb' R1 λs₁ R₁=>Ax (fin _ s₁ rfl R₁)
  |cons v r=>
   refine Y.more hb' R1 λu ρ' s₁ hu R₁ _ Y''=>?_
   have hvk:v∈ks:=by rw [<-he];exact Aa _ (.head _)
   dsimp only
   rw [ht]
   refine Af (Ax (Af ?_))
   refine(Ta (env:=Lp scope cl₀ C env) (σ':=⟨W,ρ'++Rj C acc x y (Ad (.int v 0)) p (d.flatMap f) τ⟩) hu .here (.tau (Ri.pre .here)) rfl hkind hlx).to R₁ λ_ s₂ R₂=>?_
   refine Af (Vn.run (h2 v hvk C acc ρ' p (d.flatMap f)) R₂ λb s₃ hbm R₃=>?_)
   refine Af (Ev (Af ?_))
   rw [hs2]
   refine Ax (Af (Ef ?_))
   refine iR (W:=W) (τ:=ρ'++Rj C acc x y (Ad (.int v 0)) p (d.flatMap f) τ) (Bt (Bt (ρ:=[_,_]) hbm)) R₃ λit2 s₄ R₄=>?_
   have hfl:(d++[v]).flatMap f=d.flatMap f++f v:=by rw [Jl,List.flatMap_singleton]
   have hlen:(d.flatMap f).length+(f v).length<=100000:=by
    rw [<-Aj,<-hfl]
    refine Ca ?_ hz
    have e9:ks.flatMap f=(d++[v]).flatMap f++r.flatMap f:=by rw [<-he,List.append_cons d v r];exact Jl
    rw [e9,Aj]
    exact Nat.le_add_right _ _
   have go:∀s₅,Eg Γ ⟨W,(.obj it2,.liter b 0)::(ρ'++Rj C acc x y (Ad (.int v 0)) p (d.flatMap f) τ)⟩ s₅->Kg (Ci Γ.prog Γ.w) A (.compLoop (dD (.Name y ep) iter iter2 x y xp yp scope pos) 1 (.ref it2) (.ref acc) (Lp scope cl₀ C env))
     (Abg Γ W (ρ'++τ) C acc x y (Ad (.int v 0)) ((d++[v]).flatMap f)) s₅:=λs₅ R₅=>by
    refine kB (cenv:=Lp scope cl₀ C env) (b:=b) (fs:=f v) (pre:=d.flatMap f) (τ:=ρ'++τ) (o:=Ad (.int v 0)) (p0:=p) hh (Bt hbm) hlen hkind hly hyd ht2 (λs₆ ρ₂ p' R₆=>?_) (zC (ρ:=[_]) Γ s₅ R₅)
    rw [hfl]
    exact⟨p',Av.le_sub (Bs ρ₂ _) _ _ R₆⟩
   refine Af (wpAny_runOwn (Jn (gL (A:=A) (go s₄ R₄) ((Hc W _).ref R₄ go)) λr' s' z=>?_))
   cases r' with
   |error _=>exact z.elim
   |ok fl=>
    obtain⟨p',R₆⟩:=z
    exact Ax ⟨rfl,r.length,by rw [hn];exact Nat.lt_succ_self _,d++[v],r,ρ',Ad (.int v 0),p',vZ (ρ:=[]) Γ s' R₆,Y'',by rw [<-he,Ba];rfl,rfl⟩
 exact codeAny_compStart_list (loop s₃ Re) ((Hc W _).ref Re loop)
end
end
section
section
variable {Γ:Bm} {A:Az} {σ σ':Bc} {s s':Be} {env:Env}
theorem xV {iter iter2:At} {x y:Str} {xp yp ep:Pos} {scope:Li} {pos:Pos} {cl₀:List (Str×Am)} {W τ:List Av} {ks:List Int} {f:Int->List Int} {Q:Ab->Bc->Prop} (hh:A.handled=Ae)
  (h:T Γ A ⟨W,τ⟩ (Dv iter env) (Vn ⟨W,τ⟩ W τ (Aw ks)))
  (h2:∀k∈ks,∀C acc ρ p ys,T Γ A ⟨W,ρ++Rj C acc x y (Ad (.int k 0)) p ys τ⟩ (Dv iter2 (Lp scope cl₀ C env)) (Vn ⟨W,ρ++Rj C acc x y (Ad (.int k 0)) p ys τ⟩ W τ (Aw (f k))))
  (hz:(ks.flatMap f).length<=100000) (done:∀acc,Q (.ref acc) ⟨W,(.obj acc,.list (Aw (ks.flatMap f)))::τ⟩)
  (hxy:autoParam ((x==y)=false) aD) (hcells:autoParam (∀C,Fk (C+1) scope.names []=[]) aI) (hlx:autoParam ((Lp scope cl₀ 0 env).Kj x=Ad .local) aR) (hly:autoParam ((Lp scope cl₀ 0 env).Kj y=Ad .local) aR) (hyd:autoParam ((y==("__debug__" :Str))=false) aD)
  (hclos:autoParam (Kc scope env=Et cl₀) aR) (hkind:autoParam (scope.kind=.function) aR) (hnames:autoParam ((scope.names.all λx=>x.2 != .local||scope.names.lookup x.1==Ad .local)=true) aR)
  (hs:autoParam (∀v,Dx iter env v=Et v) aI) (hs2:∀C v,Dx iter2 (Lp scope cl₀ C env) v=Et v:=by intro _ _;rfl) (ht:autoParam (∀it v,Dr (.Name x xp) it v=Et ()) aI) (ht2:∀it v,Dr (.Name y yp) it v=Et ():=by intro _ _;rfl):
  T Γ A ⟨W,τ⟩ (Dv (dD (.Name y ep) iter iter2 x y xp yp scope pos) env) Q:=by
 rw [eval_ListComp]
 exact cD (use:=Ae) hh h h2 hz done hxy hcells hlx hly hyd hclos hkind hnames hs hs2 ht ht2
theorem dC {iter iter2:At} {x y z:Str} {xp yp ep zp spos:Pos} {scope:Li} {pos:Pos} {cl₀:List (Str×Am)} {W τ:List Av} {ks:List Int} {f:Int->List Int} {Q:Ga->Bc->Prop} (hh:A.handled=Ae)
  (h:T Γ A ⟨W,τ⟩ (Dv iter env) (Vn ⟨W,τ⟩ W τ (Aw ks)))
  (h2:∀k∈ks,∀C acc ρ p ys,T Γ A ⟨W,ρ++Rj C acc x y (Ad (.int k 0)) p ys τ⟩ (Dv iter2 (Lp scope cl₀ C env)) (Vn ⟨W,ρ++Rj C acc x y (Ad (.int k 0)) p ys τ⟩ W τ (Aw (f k))))
  (hz:(ks.flatMap f).length<=100000) (done:∀acc,∃ov τ',Ri ((.obj acc,.list (Aw (ks.flatMap f)))::τ) (.var env.locals z) (.val ov) (.val (Ad (.ref acc))) τ'/\Q .next ⟨W,τ'⟩)
  (hk:autoParam (env.scope.kind=.function) aR) (hl:autoParam (env.kindOf z=Ad .local) aR) (hsw:autoParam (Lz (dD (.Name y ep) iter iter2 x y xp yp scope pos) (Ad (.Name z zp)) spos.line env=Et true) aR)
  (hxy:autoParam ((x==y)=false) aD) (hcells:autoParam (∀C,Fk (C+1) scope.names []=[]) aI) (hlx:autoParam ((Lp scope cl₀ 0 env).Kj x=Ad .local) aR) (hly:autoParam ((Lp scope cl₀ 0 env).Kj y=Ad .local) aR) (hyd:autoParam ((y==("__debug__" :Str))=false) aD)
  (hclos:autoParam (Kc scope env=Et cl₀) aR) (hkind:autoParam (scope.kind=.function) aR) (hnames:autoParam ((scope.names.all λx=>x.2 != .local||scope.names.lookup x.1==Ad .local)=true) aR)
  (hs:autoParam (∀v,Dx iter env v=Et v) aI) (hs2:∀C v,Dx iter2 (Lp scope cl₀ C env) v=Et v:=by intro _ _;rfl) (ht:autoParam (∀it v,Dr (.Name x xp) it v=Et ()) aI) (ht2:∀it v,Dr (.Name y yp) it v=Et ():=by intro _ _;rfl):
  T Γ A ⟨W,τ⟩ (Ni (.Assign [.Name z zp] (dD (.Name y ep) iter iter2 x y xp yp scope pos) spos) env) Q:=by
 rw [exec_Assign_Name_used _ _ _ _ hsw]
 intro s R
 refine Af (Ev (Af ?_))
 show Cu _ _ (do let _<-comprehension (dD (.Name y ep) iter iter2 x y xp yp scope pos) scope env (firstIterPos [⟨.Name x xp,iter,[],0⟩,⟨.Name y yp,iter2,[],0⟩] pos) (newList []) false (Dv iter env) (Ad (Ir (.Name z zp) env))) _ _ _
 refine Af ((cD (Q:=λ_ σ'=>Q .next σ') (use:=Ad (Ir (.Name z zp) env)) hh h h2 hz (λacc C m hm=>?_) hxy hcells hlx hly hyd hclos hkind hnames hs hs2 ht ht2).elim R λv s' σ' R' q=>Ax (Ax ⟨σ',R',q⟩))
 obtain⟨ov,τ',U,q⟩:=done acc
 exact Cx (v:=.ref acc) rfl (.tau (.there U)) ⟨τ',m,hm,Av.le_refl _,q⟩ hk hl
end
noncomputable def nv (l:List Nat):List Int:=l.map λk:Nat=>(k:Int)
noncomputable abbrev iv (l:List Nat):List Ab:=Aw (nv l)
theorem pR (a b:List Nat):nv (a++b)=nv a++nv b:=by simp [nv]
theorem Tl (a b:List Nat):iv (a++b)=iv a++iv b:=by simp [nv,Aw]
theorem Wq (a:List Nat) (j:Nat):iv a++[.int (j:Int) 0]=iv (a++[j]):=by simp [nv,Aw]
theorem Ma (l:List Nat):(nv l).length=l.length:=by simp [nv]
theorem Bw (l:List Nat):(iv l).length=l.length:=by simp [nv,Aw]
theorem zY (l:List Nat):iv l=l.map λj=>.int (j:Int) 0:=by
 unfold iv nv Aw
 rw [Ei]
 rfl
inductive Ajc (m:Nat) (d:List Ab) (v:Ab):Prop
 |mk (ev:v=.int (d.length:Int) 0) (h:d.length < m)
theorem eS {m:Nat} {d r:List Ab} {v:Ab} (h:d++v::r=iv (Er m)):Ajc m d v:=by
 have h1:(iv (Er m))[d.length]? =Ad v:=by rw [<-h,Hh (Cb _),Qn];rfl
 rw [zY,Bg,Db]at h1
 obtain⟨j,hj,e⟩:=h1
 obtain⟨hl,ej⟩:=Al.mp hj
 rw [Dy]at hl
 rw [Mm]at ej
 exact⟨by rw [<-e,<-ej],hl⟩
inductive Akb (js:List Nat) (d r:List Ab) (v:Ab):Prop
 |mk (a:List Nat) (j:Nat) (b:List Nat) (e1:js=a++j::b) (e2:d=iv a) (e3:v=.int (j:Int) 0) (e4:r=iv b)
theorem Ro {js:List Nat} {d r:List Ab} {v:Ab} (h:d++v::r=iv js):Akb js d r v:=by
 induction d generalizing js with
 |nil=>
  match js,h with
  |j::b,h=>
   simp only [Fw,iv,nv,Aw,Ck,Ij]at h
   exact⟨[],j,b,rfl,rfl,h.1,by rw [h.2];rfl⟩
 |cons x d ih=>
  match js,h with
  |j::js,h=>
   simp only [iv,nv,Aw,Ck,Hv,Ij]at h
   obtain⟨a,j',b,e1,e2,e3,e4⟩:=ih (js:=js) (by rw [h.2];rfl)
   subst e1;subst e2;exact⟨j::a,j',b,rfl,by rw [h.1];rfl,e3,e4⟩
theorem sU (acc:List Nat) (x:Nat):(nv acc).any (· ==(x:Int))=acc.contains x:=by
 induction acc with
 |nil=>rfl
 |cons a r ih=>
  have:nv (a::r)=(a:Int)::nv r:=rfl
  rw [this,Oz,ih,Ps]
  congr 1
  rw [Ko,beq_iff_eq,beq_iff_eq]
  lia
theorem Uu:∀(l acc:List Nat),Lv (nv acc) (nv l)=nv (acc++Cn acc l)
 |[],acc=>by simp [Cn,Lv,nv]
 |x::r,acc=>by
  have:nv (x::r)=(x:Int)::nv r:=rfl
  rw [this]
  unfold Lv Cn
  rw [sU]
  split
  ·exact Uu r acc
  ·have e:nv acc++[(x:Int)]=nv (acc++[x]):=by simp [nv]
   rw [e,Uu r (acc++[x])]
   simp
theorem Sv (l:List Nat):yW (nv l)=nv (Cn [] l):=by
 have:=Uu l []
 rw [Fw]at this
 exact this
theorem bR (l:List Nat) (f:Nat->List Nat):(nv l).flatMap (λk=>nv (f k.toNat))=nv (l.flatMap f):=by
 induction l with
 |nil=>rfl
 |cons a r ih=>
  have:nv (a::r)=(a:Int)::nv r:=rfl
  rw [this,Ha,Ha,ih,pR]
  simp
noncomputable def LL (τ:List Av) (a:Am) (ls:List (List Nat)):Prop:=∃as:List Am,as.length=ls.length/\(Ex.obj a,CO.list (as.map .ref))∈τ/\∀(k:Nat) (b:Am) (l:List Nat),as[k]? =Ad b->ls[k]? =Ad l->(Ex.obj b,CO.list (iv l))∈τ
theorem LL.ext {τ ρ:List Av} {a:Am} {ls:List (List Nat)} (h:LL τ a ls):LL (ρ++τ) a ls:=let⟨as,h1,h2,h3⟩:=h;⟨as,h1,Aa _ h2,λk b l e1 e2=>Aa _ (h3 k b l e1 e2)⟩
theorem LL.sub {τ τ':List Av} {a:Am} {ls:List (List Nat)} (h:LL τ a ls) (k:∀p∈τ,p∈τ'):LL τ' a ls:=let⟨as,h1,h2,h3⟩:=h;⟨as,h1,k _ h2,λi b l e1 e2=>k _ (h3 i b l e1 e2)⟩
inductive Aka (τ:List Av) (a:Am) (ls:List (List Nat)) (i:Nat):Prop
 |mk (as:List Am) (b:Am) (h1:(Ex.obj a,CO.list (as.map .ref))∈τ) (h2:(as.map Bx)[((i:Int)).toNat]? =Ad (.ref b)) (h3:(Ex.obj b,CO.list (iv (ls.getD i [])))∈τ)
theorem LL.row {τ:List Av} {a:Am} {ls:List (List Nat)} (h:LL τ a ls) {i:Nat} (hi:i < ls.length):Aka τ a ls i:=by
 obtain⟨as,h1,h2,h3⟩:=h
 have hb:as[i]? =Ad (as[i]'(by rw [h1];exact hi)):=Bp _
 refine⟨as,as[i]'(by rw [h1];exact hi),h2,by rw [Dj,Bg,hb];rfl,h3 i _ _ hb ?_⟩
 rw [Df,Bp hi];rfl
noncomputable abbrev Vs (fa ab sp de ih:Am):List (Str×Ab):=[("faces",.ref fa),("above",.ref ab),("specs",.ref sp),("declared",.ref de),("inherit",.ref ih)]
structure Zv (τ:List Av) (w fa ab sp de ih:Am) (AB DE IH:List (List Nat)):Prop where
 dict:(Ex.obj w,CO.sdict (Vs fa ab sp de ih))∈τ
 above:LL τ ab AB
 decl:LL τ de DE
 inh:LL τ ih IH
theorem Zv.sub {τ τ':List Av} {w fa ab sp de ih:Am} {AB DE IH:List (List Nat)} (h:Zv τ w fa ab sp de ih AB DE IH) (k:∀p∈τ,p∈τ'):Zv τ' w fa ab sp de ih AB DE IH:=⟨k _ h.dict,h.above.sub k,h.decl.sub k,h.inh.sub k⟩
theorem Zv.ext {τ ρ:List Av} {w fa ab sp de ih:Am} {AB DE IH:List (List Nat)} (h:Zv τ w fa ab sp de ih AB DE IH):Zv (ρ++τ) w fa ab sp de ih AB DE IH:=h.sub λ_ hp=>Aa _ hp
structure sD (m:Nat) (AB DE IH:List (List Nat)):Prop where
 m4:m<=4
 lenA:AB.length=m
 A:∀i,(AB.getD i []).length<=4/\∀k∈AB.getD i [],k < m
 lenD:DE.length=4
 D:∀i,(DE.getD i []).Nodup/\∀k∈DE.getD i [],k < m
 lenI:IH.length=4
 I:∀i,(IH.getD i []).length<=3/\∀k∈IH.getD i [],k < i
noncomputable def Ln (AB DE IH:List (List Nat)):Nat->Nat->List Nat
 |0,_=>[]
 |n+1,i=>Cn [] ((DE.getD i []).flatMap (λk=>AB.getD k [])++(IH.getD i []).flatMap (Ln AB DE IH n))
noncomputable def Jz (DE IH:List (List Nat)):Nat->Nat->List Nat
 |0,_=>[]
 |n+1,i=>Cn [] (DE.getD i []++(IH.getD i []).flatMap (Jz DE IH n))
theorem sD.D4 {m:Nat} {AB DE IH:List (List Nat)} (h:sD m AB DE IH) (i:Nat):(DE.getD i []).length<=4:=Ca (Go m _ (h.D i).1 (h.D i).2) h.m4
theorem aJ {m:Nat} {AB DE IH:List (List Nat)} (h:sD m AB DE IH):∀n i,(Ln AB DE IH n i).length<=4/\(Ln AB DE IH n i).Nodup/\∀k∈Ln AB DE IH n i,k < m:=by
 intro n
 induction n with
 |zero=>intro i;exact⟨Cg _,.nil,λk hk=>(nomatch hk)⟩
 |succ n ih=>
  intro i
  unfold Ln
  have h1:∀k∈Cn [] ((DE.getD i []).flatMap (λk=>AB.getD k [])++(IH.getD i []).flatMap (Ln AB DE IH n)),k < m:=λk hk=>by
   rcases Ak.mp (Mr _ _ k hk).1 with q|q
   ·obtain⟨j,_,hj⟩:=Fm.mp q
    exact(h.A j).2 k hj
   ·obtain⟨j,_,hj⟩:=Fm.mp q
    exact(ih j).2.2 k hj
  exact⟨Ca (Go m _ (Ji _ _) h1) h.m4,Ji _ _,h1⟩
theorem Ur {m:Nat} {AB DE IH:List (List Nat)} (h:sD m AB DE IH):∀n i,(Jz DE IH n i).length<=4/\(Jz DE IH n i).Nodup/\∀k∈Jz DE IH n i,k < m:=by
 intro n
 induction n with
 |zero=>intro i;exact⟨Cg _,.nil,λk hk=>(nomatch hk)⟩
 |succ n ih=>
  intro i
  unfold Jz
  have h1:∀k∈Cn [] (DE.getD i []++(IH.getD i []).flatMap (Jz DE IH n)),k < m:=λk hk=>by
   rcases Ak.mp (Mr _ _ k hk).1 with q|q
   ·exact(h.D i).2 k q
   ·obtain⟨j,_,hj⟩:=Fm.mp q
    exact(ih j).2.2 k hj
  exact⟨Ca (Go m _ (Ji _ _) h1) h.m4,Ji _ _,h1⟩
theorem Sj {f:Nat->List Nat} {c:Nat}:∀{l:List Nat},(∀k∈l,(f k).length<=c)->(l.flatMap f).length<=l.length * c
 |[],_=>Cg _
 |a::r,h=>by
  rw [Ha,Aj,Fy,Nat.succ_mul]
  have h1:=h a (.head _)
  have h2:=Sj (l:=r) λk hk=>h k (.tail _ hk)
  lia
end
section
theorem zT (Γ:Bm):Γ.K.lookup 478=Ad ⟨.type "function",Ae,.func (Kh Γ 478 "_law_implied" (topStmt 25) (.ref 477) .none),#[]⟩:=by kernel_rfl
theorem wY (Γ:Bm):Γ.K.lookup 485=Ad ⟨.type "function",Ae,.func (Kh Γ 485 "_law_near" (topStmt 26) (.ref 484) .none),#[]⟩:=by kernel_rfl
noncomputable abbrev hY (L:Am):Env:=Gs "_law_implied" (fScope (topStmt 25)) L 478 (.ref 477) [("world",L+1)]
noncomputable abbrev hV (L:Am):Env:=Gs "_law_near" (fScope (topStmt 26)) L 485 (.ref 484) []
noncomputable abbrev liV (L w:Am) (i:Nat) (r h:Option Ab) (τ:List Av):List Av:=(.obj (L+1),.cell (Ad (.ref w)))::(.var L "one",.val (Ad (.int (i:Int) 0)))::(.var L "row",.val r)::(.var L "heir",.val h)::τ
noncomputable abbrev lnV (L w:Am) (i:Nat) (r h:Option Ab) (τ:List Av):List Av:=(.var L "world",.val (Ad (.ref w)))::(.var L "one",.val (Ad (.int (i:Int) 0)))::(.var L "row",.val r)::(.var L "heir",.val h)::τ
theorem lD {l:List Nat} {k:Int} (h:k∈nv l):∃n:Nat,k=(n:Int)/\n∈l:=by
 obtain⟨n,h1,h2⟩:=Bq.mp h
 exact⟨n,h2.symm,h1⟩
section
variable {Γ:Bm} {A:Az} {σ:Bc}
theorem tD {m:Nat} {AB DE IH:List (List Nat)} (wf:sD m AB DE IH):∀(n:Nat) {A:Az} {W τ:List Av} {w fa ab sp de ih:Am} {i:Nat} {Q:Ab->Bc->Prop},i < n->n<=4->Zv τ w fa ab sp de ih AB DE IH->Rm A (n+2)->A.handled=Ae->
  (∀r,Q (.ref r) ⟨W,(.obj r,.list (iv (Ln AB DE IH n i)))::τ⟩)->∀ws,ws.map cl=[.ref w,.int (i:Int) 0]->TC Γ A ⟨W,τ⟩ (.ref 478) ws [] Q:=by
 intro n
 induction n with
 |zero=>intro A W τ w fa ab sp de ih i Q hi;lia
 |succ n IHn=>
 intro A W τ w fa ab sp de ih i Q hi hn hL hA hh h ws hw
 refine Wm (body:=fBody (topStmt 25)) (bs:=[("world",.ref w),("one",.int (i:Int) 0)]) ["one","row","heir"] (zT Γ) (by kernel_rfl) hA.room (Hb.plain2 λ_ _ _=>Cm (by rfl)) (λL=>?_) (by rfl) (by decide) (by decide) (by rfl) (by rfl) (by rfl) ws [] hw rfl
 show T Γ (A.deeper (hY L)) ⟨W,liV L w i Ae Ae τ⟩ (Cs _ (hY L)) _
 have hA':Rm (A.deeper (hY L)) (n+2):=hA.deeper
 obtain⟨das,db,d1,d2,d3⟩:=hL.decl.row (i:=i) (by rw [wf.lenD];lia)
 have tail4:∀{p:Av} r hh,p∈τ->p∈liV L w i r hh τ:=λr hh hp=>.tail _ (.tail _ (.tail _ (.tail _ hp)))
 let base:=(DE.getD i []).flatMap λk=>AB.getD k []
 have hbl:base.length<=16:=by
  have:=Sj (f:=λk=>AB.getD k []) (c:=4) (l:=DE.getD i []) λk _=>(wf.A k).1
  have h4:=wf.D4 i
  show(List.flatMap _ _).length<=_
  lia
 have hfm:((nv (DE.getD i [])).flatMap λk=>nv (AB.getD k.toNat []))=nv base:=bR (DE.getD i []) (λk=>AB.getD k [])
 refine Ao (dC (ks:=nv (DE.getD i [])) (f:=λk=>nv (AB.getD k.toNat [])) hh ?_ ?_ (by rw [hfm,Ma];lia) λacc=>?_)
 ·exact Bh (Bh (Aq (v:=.ref w) rfl (Ag (.head _)) (Kp (Ej (Ag (tail4 _ _ hL.dict)) (v:=.ref de) (by rfl) (Ac (v:=.int (i:Int) 0) (Ag (.tail _ (.head _))) (Gv<|Cp (vs:=das.map .ref) (v:=.ref db) (Ag (tail4 _ _ d1)) (by lia) (by lia) d2 ⟨db,rfl,rfl,Ag (tail4 _ _ d3)⟩))))))
 ·intro k hk C acc ρ p ys
  obtain⟨kn,rfl,hkn⟩:=lD hk
  have hkm:=(wf.D i).2 kn hkn
  obtain⟨aas,abb,a1,a2,a3⟩:=hL.above.row (i:=kn) (by rw [wf.lenA];exact hkm)
  have up:∀{q:Av},q∈τ->q∈ρ++Rj C acc "k" "other" (Ad (.int (kn:Int) 0)) p ys (liV L w i Ae Ae τ):=λhq=>Aa _ (.tail _ (.tail _ (tail4 _ _ hq)))
  have m4:=wf.m4
  exact Bh (Bh (Aq (v:=.ref w) rfl (Ag (Aa _ (.tail _ (.tail _ (.head _))))) (Kp (Ej (Ag (up hL.dict)) (v:=.ref ab) (by rfl) (Dm (v:=.int (kn:Int) 0) (Ag (Aa _ (.head _))) (.head _) (Gv<|Cp (vs:=aas.map .ref) (v:=.ref abb) (Ag (up a1)) (by lia) (by lia) a2 ⟨abb,rfl,rfl,by rw [Dj];exact Ag (tail4 _ _ a3)⟩))))))
 rw [hfm]
 refine⟨_,_,.there (.there (.there .here)),?_⟩
 refine Fh.go ?_
 obtain⟨has,hb,h1,h2,h3⟩:=hL.inh.row (i:=i) (by rw [wf.lenI];lia)
 have hI:=wf.I i
 let Z:Option Ab->List Nat->List Av:=λo ys=>(.obj acc,.list (iv ys))::liV L w i (Ad (.ref acc)) o τ
 have tail5:∀{p:Av} o ys,p∈τ->p∈Z o ys:=λo ys hp=>.tail _ (tail4 _ _ hp)
 show T Γ (A.deeper (hY L)) ⟨W,Z Ae base⟩ _ _
 refine Ao (Qf (Bh (Bh (Aq (v:=.ref w) rfl (Ag (.tail _ (.head _))) (Kp (Ej (Ag (tail5 _ _ hL.dict)) (v:=.ref ih) (by rfl) (Ac (v:=.int (i:Int) 0) (Ag (.tail _ (.tail _ (.head _)))) (Gv<|Cp (vs:=has.map .ref) (v:=.ref hb) (Ag (tail5 _ _ h1)) (by lia) (by lia) h2 (Em (vs:=iv (IH.getD i [])) (Ag (tail5 _ _ h3)) λit=>?_)))))))))
 refine⟨it,_,_,_,_,_,⟨rfl,rfl,Ey (a:=hb) (vs:=iv (IH.getD i [])) hh⟩,λd σ=>∃o,σ=⟨W,Z o (base++((IH.getD i []).take d.length).flatMap (Ln AB DE IH n))⟩,⟨Ae,by simp only [List.length_nil,List.take_zero,List.flatMap_nil,Cr];rfl⟩,?_,?_,?_⟩
 ·rintro d _ ⟨o,rfl⟩
  exact Ag (tail5 _ _ h3)
 ·rintro d v r u ρ _ he hu ⟨o,rfl⟩ Kq hK
  obtain⟨a,j,b,e1,e2,rfl,_⟩:=Ro he
  have hj:=hI.2 j (by rw [e1];simp)
  have hdl:d.length=a.length:=by rw [e2,Bw]
  have ht:(IH.getD i []).take d.length=a:=by rw [hdl,e1];simp
  have ht':(IH.getD i []).take (d++[Fs (j:Int) 0]).length=a++[j]:=by
   rw [Aj,hdl,Br,e1,show a++j::b=(a++[j])++b by simp]
   exact Fn (by simp)
  have hal:a.length<=3:=by have:=congrArg Ii e1;simp only [Aj,Fy]at this;lia
  have hlen:(base++a.flatMap (Ln AB DE IH n)).length<=100:=by
   have:=Sj (f:=Ln AB DE IH n) (c:=4) (l:=a) λk _=>(aJ wf n k).1
   rw [Aj];lia
  have hil:=(aJ wf n j).1
  rw [ht]
  refine Cx hu (by walk_at "upd") ?_
  have hLx:Zv (ρ++Z (Ad (.int (j:Int) 0)) (base++a.flatMap (Ln AB DE IH n))) w fa ab sp de ih AB DE IH:=hL.sub λp hp=>Aa _ (tail5 _ _ hp)
  show T Γ (A.deeper (hY L)) ⟨W,ρ++Z (Ad (.int (j:Int) 0)) (base++a.flatMap (Ln AB DE IH n))⟩ _ _
  refine Ao (Gf (Fo (Ac (v:=.ref acc) (by walk_at "mem") (De Cv Pb PySem.F.type_list_extend (It (vs:=iv (base++a.flatMap (Ln AB DE IH n))) (by walk_at "mem")) ⟨.inr (.inl ⟨_,rfl⟩),?_⟩))))
  refine Ai (Cf (Bn (v:=.ref 478) (by kernel_rfl) ⟨.inl (by kernel_rfl),?_⟩))
  refine Ai (Aq (v:=.ref w) rfl (by walk_at "mem") (Ai (Ac (v:=.int (j:Int) 0) (by walk_at "mem") (Ar λws hw=>(IHn (by lia) (by lia) hLx hA' hh (λr=>?_) ws hw).T))))
  refine Ar (jJ (vs:=iv (base++a.flatMap (Ln AB DE IH n))) (us:=iv (Ln AB DE IH n j)) (Ag (.head _)) (.tau (.there (.pre .here))) (by rw [Bw,Bw];lia) ?_)
  refine Fh.go (Cq (hK .next _ ⟨W,Z (Ad (.int (j:Int) 0)) (base++(a++[j]).flatMap (Ln AB DE IH n)),?_,Ad (.int (j:Int) 0),by rw [ht']⟩))
  have e6:iv (base++(a++[j]).flatMap (Ln AB DE IH n))=iv (base++a.flatMap (Ln AB DE IH n))++iv (Ln AB DE IH n j):=by
   rw [Jl,<-Ba,Tl]
   simp
  show Av.le ⟨W,ρ++((.obj acc,.list (iv (base++(a++[j]).flatMap (Ln AB DE IH n))))::liV L w i (Ad (.ref acc)) (Ad (.int (j:Int) 0)) τ)⟩ _
  rw [e6]
  exact Av.le_sub (.cons _ (.refl _))
 rintro _ ⟨o,rfl⟩
 rw [Bw,Es]
 refine Cq ?_
 refine Fh.go ?_
 have hall:(base++(IH.getD i []).flatMap (Ln AB DE IH n)).length<=100:=by
  have:=Sj (f:=Ln AB DE IH n) (c:=4) (l:=IH.getD i []) λk _=>(aJ wf n k).1
  rw [Aj];lia
 refine Ao (Fp (Cf (Bn (v:=.ref 473) (by kernel_rfl) ⟨.inl (by kernel_rfl),?_⟩)))
 refine Ai (Ac (v:=.ref acc) (by walk_at "mem") (Ar λws hw=>(Un (ns:=nv (base++(IH.getD i []).flatMap (Ln AB DE IH n))) (hA'.le (by lia)) hh (Ag (.head _)) (by rw [Ma];lia) (λr=>?_) ws hw).T))
 rw [Sv]
 exact⟨_,Av.le_sub (.cons_cons _ (.cons _ (.cons _ (.cons _ (.cons _ (.cons _ (.refl _))))))),h r⟩
end
end
section
section
variable {Γ:Bm} {A:Az} {σ:Bc}
theorem xK {m:Nat} {AB DE IH:List (List Nat)} (wf:sD m AB DE IH):∀(n:Nat) {A:Az} {W τ:List Av} {w fa ab sp de ih:Am} {i:Nat} {Q:Ab->Bc->Prop},i < n->n<=4->Zv τ w fa ab sp de ih AB DE IH->Rm A (n+2)->A.handled=Ae->
  (∀r,Q (.ref r) ⟨W,(.obj r,.list (iv (Jz DE IH n i)))::τ⟩)->∀ws,ws.map cl=[.ref w,.int (i:Int) 0]->TC Γ A ⟨W,τ⟩ (.ref 485) ws [] Q:=by
 intro n
 induction n with
 |zero=>intro A W τ w fa ab sp de ih i Q hi;lia
 |succ n IHn=>
 intro A W τ w fa ab sp de ih i Q hi hn hL hA hh h ws hw
 refine Pk (body:=fBody (topStmt 26)) (bs:=[("world",.ref w),("one",.int (i:Int) 0)]) ["world","one","row","heir"] (wY Γ) (by kernel_rfl) hA.room (Hb.plain2 λ_ _ _=>Cm (by rfl)) (λL=>?_) (by rfl) (by rfl) (by decide) (by rfl) (by rfl) (by rfl) ws [] hw rfl
 show T Γ (A.deeper (hV L)) ⟨W,lnV L w i Ae Ae τ⟩ (Cs _ (hV L)) _
 have hA':Rm (A.deeper (hV L)) (n+2):=hA.deeper
 obtain⟨das,db,d1,d2,d3⟩:=hL.decl.row (i:=i) (by rw [wf.lenD];lia)
 have tail4:∀{p:Av} r hh,p∈τ->p∈lnV L w i r hh τ:=λr hh hp=>.tail _ (.tail _ (.tail _ (.tail _ hp)))
 have hbl:=wf.D4 i
 refine Ao (Bo (Cf (Bd (v:=.type "list") (by kernel_rfl) (by decide+kernel) (by decide) ⟨.inr (.inr ⟨_,rfl⟩),?_⟩)))
 refine Ai (Bh (Bh (Ac (v:=.ref w) (Ag (.head _)) (Kp (Ej (Ag (tail4 _ _ hL.dict)) (v:=.ref de) (by rfl) (Ac (v:=.int (i:Int) 0) (Ag (.tail _ (.head _))) (Gv<|Cp (vs:=das.map .ref) (v:=.ref db) (Ag (tail4 _ _ d1)) (by lia) (by lia) d2 ?_)))))))
 refine Ar λws hw=>Vc (vs:=iv (DE.getD i [])) (Ag (tail4 _ _ d3)) (by rw [Bw];lia) (λacc=>⟨_,_,by walk_at "upd",?_⟩) ws hw
 refine Fh.go ?_
 obtain⟨has,hb,h1,h2,h3⟩:=hL.inh.row (i:=i) (by rw [wf.lenI];lia)
 have hI:=wf.I i
 let Z:Option Ab->List Nat->List Av:=λo ys=>(.obj acc,.list (iv ys))::lnV L w i (Ad (.ref acc)) o τ
 have tail5:∀{p:Av} o ys,p∈τ->p∈Z o ys:=λo ys hp=>.tail _ (tail4 _ _ hp)
 show T Γ (A.deeper (hV L)) ⟨W,Z Ae (DE.getD i [])⟩ _ _
 refine Ao (Qf (Bh (Bh (Ac (v:=.ref w) (Ag (.tail _ (.head _))) (Kp (Ej (Ag (tail5 _ _ hL.dict)) (v:=.ref ih) (by rfl) (Ac (v:=.int (i:Int) 0) (Ag (.tail _ (.tail _ (.head _)))) (Gv<|Cp (vs:=has.map .ref) (v:=.ref hb) (Ag (tail5 _ _ h1)) (by lia) (by lia) h2 (Em (vs:=iv (IH.getD i [])) (Ag (tail5 _ _ h3)) λit=>?_)))))))))
 refine⟨it,_,_,_,_,_,⟨rfl,rfl,Ey (a:=hb) (vs:=iv (IH.getD i [])) hh⟩,λd σ=>∃o,σ=⟨W,Z o (DE.getD i []++((IH.getD i []).take d.length).flatMap (Jz DE IH n))⟩,⟨Ae,by simp only [List.length_nil,List.take_zero,List.flatMap_nil,Cr];rfl⟩,?_,?_,?_⟩
 ·rintro d _ ⟨o,rfl⟩
  exact Ag (tail5 _ _ h3)
 ·rintro d v r u ρ _ he hu ⟨o,rfl⟩ Kq hK
  obtain⟨a,j,b,e1,e2,rfl,_⟩:=Ro he
  have hj:=hI.2 j (by rw [e1];simp)
  have hdl:d.length=a.length:=by rw [e2,Bw]
  have ht:(IH.getD i []).take d.length=a:=by rw [hdl,e1];simp
  have ht':(IH.getD i []).take (d++[Fs (j:Int) 0]).length=a++[j]:=by
   rw [Aj,hdl,Br,e1,show a++j::b=(a++[j])++b by simp]
   exact Fn (by simp)
  have hal:a.length<=3:=by have:=congrArg Ii e1;simp only [Aj,Fy]at this;lia
  have hlen:(DE.getD i []++a.flatMap (Jz DE IH n)).length<=100:=by
   have:=Sj (f:=Jz DE IH n) (c:=4) (l:=a) λk _=>(Ur wf n k).1
   rw [Aj];lia
  have hil:=(Ur wf n j).1
  rw [ht]
  refine Cx hu (by walk_at "upd") ?_
  have hLx:Zv (ρ++Z (Ad (.int (j:Int) 0)) (DE.getD i []++a.flatMap (Jz DE IH n))) w fa ab sp de ih AB DE IH:=hL.sub λp hp=>Aa _ (tail5 _ _ hp)
  show T Γ (A.deeper (hV L)) ⟨W,ρ++Z (Ad (.int (j:Int) 0)) (DE.getD i []++a.flatMap (Jz DE IH n))⟩ _ _
  refine Ao (Gf (Fo (Ac (v:=.ref acc) (by walk_at "mem") (De Cv Pb PySem.F.type_list_extend (It (vs:=iv (DE.getD i []++a.flatMap (Jz DE IH n))) (by walk_at "mem")) ⟨.inr (.inl ⟨_,rfl⟩),?_⟩))))
  refine Ai (Cf (Bn (v:=.ref 485) (by kernel_rfl) ⟨.inl (by kernel_rfl),?_⟩))
  refine Ai (Ac (v:=.ref w) (by walk_at "mem") (Ai (Ac (v:=.int (j:Int) 0) (by walk_at "mem") (Ar λws hw=>(IHn (by lia) (by lia) hLx hA' hh (λr=>?_) ws hw).T))))
  refine Ar (jJ (vs:=iv (DE.getD i []++a.flatMap (Jz DE IH n))) (us:=iv (Jz DE IH n j)) (Ag (.head _)) (.tau (.there (.pre .here))) (by rw [Bw,Bw];lia) ?_)
  refine Fh.go (Cq (hK .next _ ⟨W,Z (Ad (.int (j:Int) 0)) (DE.getD i []++(a++[j]).flatMap (Jz DE IH n)),?_,Ad (.int (j:Int) 0),by rw [ht']⟩))
  have e6:iv (DE.getD i []++(a++[j]).flatMap (Jz DE IH n))=iv (DE.getD i []++a.flatMap (Jz DE IH n))++iv (Jz DE IH n j):=by
   rw [Jl,<-Ba,Tl]
   simp
  show Av.le ⟨W,ρ++((.obj acc,.list (iv (DE.getD i []++(a++[j]).flatMap (Jz DE IH n))))::lnV L w i (Ad (.ref acc)) (Ad (.int (j:Int) 0)) τ)⟩ _
  rw [e6]
  exact Av.le_sub (.cons _ (.refl _))
 rintro _ ⟨o,rfl⟩
 rw [Bw,Es]
 refine Cq ?_
 refine Fh.go ?_
 have hall:(DE.getD i []++(IH.getD i []).flatMap (Jz DE IH n)).length<=100:=by
  have:=Sj (f:=Jz DE IH n) (c:=4) (l:=IH.getD i []) λk _=>(Ur wf n k).1
  rw [Aj];lia
 refine Ao (Fp (Cf (Bn (v:=.ref 473) (by kernel_rfl) ⟨.inl (by kernel_rfl),?_⟩)))
 refine Ai (Ac (v:=.ref acc) (by walk_at "mem") (Ar λws hw=>(Un (ns:=nv (DE.getD i []++(IH.getD i []).flatMap (Jz DE IH n))) (hA'.le (by lia)) hh (Ag (.head _)) (by rw [Ma];lia) (λr=>?_) ws hw).T))
 rw [Sv]
 exact⟨_,Av.le_sub (.cons_cons _ (.cons _ (.cons _ (.cons _ (.cons _ (.cons _ (.refl _))))))),h r⟩
end
end
section
theorem zS (Γ:Bm):Γ.K.lookup 495=Ad ⟨.type "function",Ae,.func (Kh Γ 495 "_law_numbers" (topStmt 28) (.ref 494) .none),#[]⟩:=by kernel_rfl
noncomputable abbrev nX (L:Am):Env:=Gs "_law_numbers" (fScope (topStmt 28)) L 495 (.ref 494) [("keys",L+1)]
noncomputable def yZ (Γ:Bm) (G:List Nd) (W τ ρg:List Av) (a:Am) (js:List Nat) (n:Nat):Prop:=∀⦃A:Az⦄ ⦃e:List Av⦄ ⦃Q:Ab->Bc->Prop⦄,A.handled=Ae->Rm A n->
 (∀it ρ' Gc,Lj Γ A it Gc (Ap G js) ρ'->Vu Γ A it ρ'->(∀e',Gc ⟨W,e'++(e++τ)⟩)->Q (.ref it) ⟨W,ρ'++(e++τ)⟩)->T Γ A ⟨W,e++(ρg++τ)⟩ (Ib (.ref a)) Q
noncomputable def Cc (m:Nat):List Nat:=Di 1 m
theorem Rp {m k:Nat} (h:k < m):(Cc m)[k]? =Ad (k+1):=by unfold Cc;rw [Ld h];congr 1;lia
section
variable {Γ:Bm} {A:Az} {G:List Nd} {W:List Av}
theorem tN {τ:List Av} {a:Am} {js:List Nat} {n:Nat} (h:Fc Γ ⟨W,τ⟩ a (Ap G js)):yZ Γ G W τ [] a js n:=by
 intro A e Q hh hA k
 exact Qm (v:=.ref a) rfl (vs:=Ap G js) (h.ext (ext:=e)) λit=>k it [_] _ (Hj (a:=a) (vs:=Ap G js) hh) Rc λe'=>(h.ext (ext:=e)).ext (ext:=e')
theorem tO {τ ρg:List Av} {a:Am} {js:List Nat} {n:Nat} (h:∀A':Az,A'.handled=Ae->Rm A' n->Lj Γ A' a (λσ=>σ.W=W) (Ap G js) ρg/\Vu Γ A' a ρg):yZ Γ G W τ ρg a js n:=by
 intro A e Q hh hA k
 obtain⟨h1,h2⟩:=h A hh hA
 refine T.conseq (σ':=⟨W,ρg++(e++τ)⟩) (Av.le_perm (Bf W ?_)) ?_
 ·rw [<-Ba,<-Ba]
  exact Eb _ Fa
 ·exact(h2 W (e++τ)).mono λc σ' ⟨e1,e2⟩=>by subst e1;subst e2;exact k a ρg _ h1 h2 λ_=>rfl
theorem tZ (g:Gr G) {m j:Nat} (hm:m < G.length) (hj:1<=j/\j<=m):Cy G j∈(Cc m).map (Cy G)/\((Cc m).map (Cy G)).idxOf (Cy G j)=j - 1:=by
 have hlen:(Cc m).length=m:=by simp [Cc]
 have hmem:Cy G j∈(Cc m).map (Cy G):=Bq.mpr ⟨j,by unfold Cc;rw [List.mem_range'];exact⟨j - 1,by lia,by lia⟩,rfl⟩
 refine⟨hmem,?_⟩
 have h1:=List.idxOf_lt_length_iff.mpr hmem
 have h2:((Cc m).map (Cy G))[((Cc m).map (Cy G)).idxOf (Cy G j)]? =Ad (Cy G j):=by rw [Bp h1];exact congrArg Ad (List.getElem_idxOf h1)
 rw [As,hlen]at h1
 rw [Bg,Rp h1]at h2
 have:=g.key_inj (by lia) (by lia) (Dl h2)
 lia
theorem tC {τ ρg:List Av} {w fa ab sp de ih a:Am} {js:List Nat} {m n:Nat} {Q:Ab->Bc->Prop} (nf:NF W G) (g:Gr G) (hm:m < G.length) (hd:(Ex.obj w,CO.sdict (Vs fa ab sp de ih))∈τ) (hf:(Ex.obj fa,CO.list (Ap G (Cc m)))∈τ)
  (hjs:∀j∈js,1<=j/\j<=m) (lj:js.length<=100) (hrow:yZ Γ G W τ ρg a js n) (hA:Rm A (n+2)) (hh:A.handled=Ae)
  (h:∀r,Q (.ref r) ⟨W,(.obj r,.list (iv (js.map (· - 1))))::τ⟩):∀ws,ws.map cl=[.ref w,.ref a]->TC Γ A ⟨W,ρg++τ⟩ (.ref 495) ws [] Q:=λws hw=>by
 have few:=g.few
 refine Wm (body:=fBody (topStmt 28)) (bs:=[("world",.ref w),("row",.ref a)]) ["world","row"] (zS Γ) (by kernel_rfl) hA.room (Hb.plain2 λ_ _ _=>Cm (by rfl)) (λL=>?_) (by rfl) (by decide) (by decide) (by rfl) (by rfl) (by rfl) ws [] hw rfl
 let V:Option Ab->List Av->List Av:=λk τ=>(.obj (L+1),.cell k)::(.var L "world",.val (Ad (.ref w)))::(.var L "row",.val (Ad (.ref a)))::τ
 show T Γ (A.deeper (nX L)) ⟨W,V Ae (ρg++τ)⟩ (Cs _ (nX L)) _
 have up:∀{p:Av} k,p∈τ->p∈V k (ρg++τ):=λk hp=>.tail _ (.tail _ (.tail _ (Aa _ hp)))
 have hA':Rm (A.deeper (nX L)) (n+1):=hA.deeper
 have hkeys:∀l:List Nat,(Aw (l.map (Cy G)))=l.map λj=>Fs (Cy G j) 0:=λl=>by unfold Aw;rw [Ei];rfl
 refine Ao (Gh rfl (Tx (Bh (Ac (v:=.ref w) (Ag (.tail _ (.head _))) (Kp (Ej (Ag (up _ hd)) (v:=.ref fa) (by rfl) (Em (vs:=Ap G (Cc m)) (Ag (up _ hf)) λit=>?_)))))))
 refine⟨it,_,_,_,_,_,⟨rfl,rfl,Ey (vs:=Ap G (Cc m)) hh⟩,Hc,λd ys σ=>d.length<=m/\ys=Aw (((Cc m).take d.length).map (Cy G))/\σ=⟨W,V Ae (ρg++τ)⟩,⟨Cg _,rfl,rfl⟩,?_,?_,?_,?_⟩
 ·rintro d ys _ ext ⟨_,rfl,rfl⟩
  exact Ag (Aa _ (up _ hf))
 ·rintro d ys _ ⟨hd,rfl,rfl⟩
  rw [hkeys,As,Fx,Ay]
  lia
 ·rintro C acc d v r ρ' _ _ he ⟨hdm,rfl,rfl⟩
  obtain⟨a',j,b',e1,e2,rfl,_⟩:=Np he
  have hj:j∈Cc m:=by rw [e1];simp
  obtain⟨q,hq1,hq2⟩:=List.mem_range'.mp hj
  obtain⟨y,ey⟩:=Dp (show j < G.length by lia)
  rw [Bu ey]
  have hlm:(Cc m).length=m:=by simp [Cc]
  have hdl:(d++[Bx y.me]).length<=m:=by rw [Aj,e2,Bb,<-hlm,e1];simp
  have ht:(Cc m).take d.length=a':=by rw [e2,Bb,e1];simp
  have ht':(Cc m).take (d++[Bx y.me]).length=a'++[j]:=by
   rw [Aj,e2,Bb,Br,e1,show a'++j::b'=(a'++[j])++b' by simp]
   exact Fn (by simp)
  rw [ht]
  refine Qd ⟨λ_=>?_,λhb=>(by cases hb)⟩
  refine Ek (x:=y) nf ey (Mg Γ) (v:=.int y.key 0) (.head _) (Dm (v:=.ref y.me) (by walk_at "mem") (.head _) ⟨rfl,rfl⟩) ⟨_,_,_,Av.le_refl _,hdl,?_,rfl⟩
  rw [ht',Bk,Ck,Ky,Gj ey]
  unfold Aw
  rw [Bk]
  rfl
 rintro kl ys _ ⟨_,rfl,rfl⟩
 have ht:(Cc m).take (Ap G (Cc m)).length=Cc m:=by rw [Bb];simp
 rw [ht]
 refine⟨_,_,.tau (.there .here),?_⟩
 refine Fh.go ?_
 let τ1:List Av:=V (Ad (.ref kl)) τ
 let e0:List Av:=(.obj kl,.list (Aw ((Cc m).map (Cy G))))::(.obj (L+1),.cell (Ad (.ref kl)))::(.var L "world",.val (Ad (.ref w)))::[(.var L "row",.val (Ad (.ref a)))]
 show T Γ (A.deeper (nX L)) ⟨W,e0++(ρg++τ)⟩ _ _
 have hln:((Cc m).map (Cy G)).length<=100:=by rw [As];unfold Cc;rw [Kd];lia
 refine Ao (Fp (Tx (Ac (v:=.ref a) (Ag (.tail _ (.tail _ (.tail _ (.head _))))) λv hv=>?_)))
 have hv':v=.ref a:=Ch hv
 subst hv'
 refine hrow hh (hA'.le (by lia)) λit ρ' Gc hFd hSf hGc=>?_
 refine⟨it,ρ',Gc,Ap G js,W,e0++τ,⟨rfl,rfl,hFd⟩,hSf,λd ys σ=>d.length<=js.length/\ys=iv ((js.take d.length).map (· - 1))/\σ=⟨W,e0++τ⟩,⟨Cg _,rfl,rfl⟩,?_,?_,?_,?_⟩
 ·rintro d ys _ ext ⟨_,rfl,rfl⟩
  exact hGc ext
 ·rintro d ys _ ⟨hdj,rfl,rfl⟩
  rw [Bw,As,Fx,Ay]
  lia
 ·rintro C acc d v r ρ₂ _ _ he ⟨hdm,rfl,rfl⟩
  obtain⟨a',j,b',e1,e2,rfl,_⟩:=Np he
  have hj:=hjs j (by rw [e1];simp)
  obtain⟨y,ey⟩:=Dp (show j < G.length by lia)
  rw [Bu ey]
  have hdl:(d++[Bx y.me]).length<=js.length:=by rw [Aj,e2,Bb,e1];simp
  have ht:js.take d.length=a':=by rw [e2,Bb,e1];simp
  have ht':js.take (d++[Bx y.me]).length=a'++[j]:=by
   rw [Aj,e2,Bb,Br,e1,show a'++j::b'=(a'++[j])++b' by simp]
   exact Fn (by simp)
  obtain⟨hk1,hk2⟩:=tZ g hm hj
  rw [Gj ey]at hk1 hk2
  rw [ht]
  refine Qd ⟨λ_=>?_,λhb=>(by cases hb)⟩
  refine Fo (Aq (v:=.ref kl) rfl (Ag (Aa _ (.tail _ (.tail _ (.tail _ (.head _)))))) (De Cv PySem.F.slot_list_index PySem.F.type_list_index (It (vs:=Aw ((Cc m).map (Cy G))) (Ag (Aa _ (.tail _ (.tail _ (.head _)))))) ⟨.inr (.inl ⟨_,rfl⟩),?_⟩))
  refine Ai (Ek (x:=y) nf ey (Mg Γ) (v:=.int y.key 0) (.head _) (Dm (v:=.ref y.me) (by walk_at "mem") (.head _) ⟨rfl,rfl⟩) (Ar (xZ (Ag (Aa _ (.tail _ (.tail _ (.head _))))) (by lia) hk1 ⟨_,_,_,Av.le_refl _,hdl,?_,rfl⟩)))
  rw [ht',Bk,hk2,Tl]
  rfl
 rintro res ys _ ⟨_,rfl,rfl⟩
 have ht2:js.take (Ap G js).length=js:=by rw [Bb];simp
 rw [ht2]
 exact⟨_,Av.le_sub (τ':=(.obj res,.list (iv (js.map (· - 1))))::τ) (.cons_cons _ (.cons _ (.cons _ (.cons _ (.cons _ (.refl _)))))),h res⟩
end
end
section
theorem uG (Γ:Bm):Γ.K.lookup 500=Ad ⟨.type "function",Ae,.func (Kh Γ 500 "_law_stands" (topStmt 29) (.ref 499) .none),#[]⟩:=by kernel_rfl
noncomputable abbrev Nk (L:Am):Env:=Gs "_law_stands" (fScope (topStmt 29)) L 500 (.ref 499) [("spec",L+3),("keys",L+2),("world",L+1)]
noncomputable abbrev sC (L w:Am) (kc sc:Option Ab) (tv:Ab) (o d:Option Ab) (τ:List Av):List Av:=(.obj (L+3),.cell sc)::(.obj (L+2),.cell kc)::(.obj (L+1),.cell (Ad (.ref w)))::(.var L "turned",.val (Ad tv))::(.var L "one",.val o)::(.var L "due",.val d)::τ
theorem eT:∀{l:List Nat},l.Pairwise (· <= ·)->(nv l).Pairwise (· <= ·)
 |[],_=>.nil
 |a::r,h=>by
  rw [Io]at h
  show((a:Int)::nv r).Pairwise (· <= ·)
  refine Io.mpr ⟨λb hb=>?_,eT h.2⟩
  obtain⟨n,rfl,hn⟩:=lD hb
  have:=h.1 n hn
  lia
theorem pJ {m:Nat} {l:List Nat} {ns:List Int} (hn:l.Nodup) (hl:∀k∈l,k < m) (hp:ns.Perm (nv l)) (hs:ns.Pairwise (· <= ·)):ns=nv ((Er m).filter λk=>decide (k∈l)):=by
 have hperm:((Er m).filter λk=>decide (k∈l)).Perm l:=by
  rw [List.perm_ext_iff_of_nodup (List.nodup_range.filter _) hn]
  intro a
  rw [Cw,Mc,decide_eq_true_eq]
  exact⟨λh=>h.2,λh=>⟨hl a h,h⟩⟩
 have hs2:((Er m).filter λk=>decide (k∈l)).Pairwise (· <= ·):=(List.pairwise_lt_range.imp (λh=>Ml h)).filter _
 exact Bz.eq_of_pairwise (le:=(· <= ·)) (λa b _ _ h1 h2=>Int.le_antisymm h1 h2) hs (eT hs2) (hp.trans (hperm.map _).symm)
structure sP (G:List Nd) (X:List Av) (m:Nat) (AB DE IH:List (List Nat)) (i:Nat) (x:Nd):Prop where
 at':G[m+1+i]? =Ad x
 C:x.C=427
 decl:Mx X x.decl (Ap G ((DE.getD i []).map (· +1)))
 Sd:Sd G 9 (m+1+i)=(Jz DE IH 4 i).map (· +1)
 imp:∀k,k < m->(k+1∈Gy G (m+1+i)↔k∈Ln AB DE IH 4 i)
theorem oH (l:List Nat):(l.map (· +1)).map (· - 1)=l:=by
 induction l with
 |nil=>rfl
 |cons a r ih=>simp only [Ck,ih];rfl
theorem Qy {n:Nat} (h:n<=4):Op 0 (n:Int) 1=true/\Mf 0 (n:Int) 1=n:=by
 match n,h with
 |0,_=>exact⟨by decide,by decide⟩
 |1,_=>exact⟨by decide,by decide⟩
 |2,_=>exact⟨by decide,by decide⟩
 |3,_=>exact⟨by decide,by decide⟩
 |4,_=>exact⟨by decide,by decide⟩
 |n+5,h=>lia
theorem Tu (n:Nat):Qj 0 1 n=iv (Er n):=by
 unfold Qj iv nv Aw
 rw [Ei]
 apply Gk
 intro i _
 simp
section
variable {Γ:Bm} {A:Az} {G:List Nd} {X:List Av}
theorem lM {τ ρ:List Av} {L w fa ab sp de ih kl:Am} {m i:Nat} {AB DE IH:List (List Nat)} {x:Nd} {tv:Ab} {sc:Option Ab} {Q:Ga->Bc->Prop} (wd:Wd G X) (wf:sD m AB DE IH) (hlen:G.length=m+5) (hL:Zv τ w fa ab sp de ih AB DE IH)
  (hf:(Ex.obj fa,CO.list (Ap G (Cc m)))∈τ) (hs:(Ex.obj sp,CO.list (Ap G (Di (m+1) 4)))∈τ) (hi:i < 4) (S:sP G X m AB DE IH i x) (hA:Rm (A.deeper (Nk L)) 40) (hh:A.handled=Ae)
  (h:∀ρ',Q .next ⟨Bl G++X,ρ'++(ρ++((.obj kl,.list (Aw ((Cc m).map (Cy G))))::sC L w (Ad (.ref kl)) (Ad (.ref x.me)) tv (Ad (.int (i:Int) 0)) Ae τ))⟩):
  T Γ (A.deeper (Nk L)) ⟨Bl G++X,ρ++((.obj kl,.list (Aw ((Cc m).map (Cy G))))::sC L w (Ad (.ref kl)) sc tv (Ad (.int (i:Int) 0)) Ae τ)⟩ (match(fBody (topStmt 29)).drop 1 with|.For _ _ body _ _::_=>Cs body (Nk L)|_=>Et .next) Q:=by
 have nf:=wd.wx.nf
 have m4:=wf.m4
 let U:Option Ab->List Av:=λsc=>ρ++((.obj kl,.list (Aw ((Cc m).map (Cy G))))::sC L w (Ad (.ref kl)) sc tv (Ad (.int (i:Int) 0)) Ae τ)
 have up:∀{p:Av} sc,p∈τ->p∈U sc:=λsc hp=>Aa _ (.tail _ (.tail _ (.tail _ (.tail _ (.tail _ (.tail _ (.tail _ hp)))))))
 have cw:∀sc,(Ex.obj (L+1),CO.cell (Ad (.ref w)))∈U sc:=λsc=>Aa _ (.tail _ (.tail _ (.tail _ (.head _))))
 have ck:∀sc,(Ex.obj (L+2),CO.cell (Ad (.ref kl)))∈U sc:=λsc=>Aa _ (.tail _ (.tail _ (.head _)))
 have cs:(Ex.obj (L+3),CO.cell (Ad (.ref x.me)))∈U (Ad (.ref x.me)):=Aa _ (.tail _ (.head _))
 have co:∀sc,(Ex.var L "one",CO.val (Ad (.int (i:Int) 0)))∈U sc:=λsc=>Aa _ (.tail _ (.tail _ (.tail _ (.tail _ (.tail _ (.head _))))))
 have hkm:∀sc,(Ex.obj kl,CO.list (Aw ((Cc m).map (Cy G))))∈U sc:=λsc=>Aa _ (.head _)
 have hsp:(Ap G (Di (m+1) 4))[((i:Int)).toNat]? =Ad (.ref x.me):=by
  rw [Dj]
  unfold Ap
  rw [Bg,Ld hi]
  simp [Bu S.at']
 have hun:(A.deeper (Nk L)).units < cLine:=by have:=hA.units;lia
 obtain⟨das,db,d1,d2,d3⟩:=hL.decl.row (i:=i) (by rw [wf.lenD];lia)
 show T Γ (A.deeper (Nk L)) ⟨Bl G++X,U sc⟩ _ _
 refine Ao (Gh rfl (Bh (Bh (Aq (v:=.ref w) rfl (Ag (cw _)) (Kp (Ej (Ag (up _ hL.dict)) (v:=.ref sp) (by rfl) (Ac (v:=.int (i:Int) 0) (Ag (co _)) (Gv<|Cp (vs:=Ap G (Di (m+1) 4)) (v:=.ref x.me) (Ag (up _ hs)) (by lia) (by lia) hsp ⟨_,_,.tau (.pre (.there .here)),?_⟩))))))))
 refine Fh.go ?_
 show T Γ (A.deeper (Nk L)) ⟨Bl G++X,U (Ad (.ref x.me))⟩ _ _
 obtain⟨dt,ht,hD⟩:=gB (Γ:=Γ) nf S.at' S.C S.decl.right
 have hLU:Zv (U (Ad (.ref x.me))) w fa ab sp de ih AB DE IH:=hL.sub λp hp=>up _ hp
 refine Ao (Hz (Au (Cf (Bn (v:=.ref 495) (by kernel_rfl) ⟨.inl (by kernel_rfl),?_⟩))))
 refine Ai (Aq (v:=.ref w) rfl (Ag (cw _)) (Ai (Jg (Aq (v:=.ref x.me) rfl (Ag cs) λo ho=>hD _ _ o true _ ho (Ar λws hw=>(tC (ρg:=[]) (n:=5) nf wd.gr (by lia) hLU.dict (up _ hf) (λj hj=>?_) ?_ (tN (ht _)) (hA.le (by decide)) hh (λr1=>?_) ws hw).T)))))
 ·obtain⟨k,hk,rfl⟩:=Bq.mp hj
  have:=(wf.D i).2 k hk
  lia
 ·rw [As];have:=wf.D4 i;lia
 rw [oH]
 refine Bh (Bh (Aq (v:=.ref w) rfl (Ag (.tail _ (cw _))) (Kp (Ej (Ag (.tail _ (up _ hL.dict))) (v:=.ref de) (by rfl) (Ac (v:=.int (i:Int) 0) (Ag (.tail _ (co _))) (Gv<|Cp (vs:=das.map .ref) (v:=.ref db) (Ag (.tail _ (up _ d1))) (by lia) (by lia) d2 (Yv hun (Ag (.head _)) (Ag (.tail _ (up _ d3))) ⟨_,rfl,λhb=>?_,λ_=>?_⟩)))))))
 ·simp at hb
 refine Cq ?_
 refine Fh.go ?_
 let U1:List Av:=(.obj r1,.list (iv (DE.getD i [])))::U (Ad (.ref x.me))
 have hLU1:Zv U1 w fa ab sp de ih AB DE IH:=hL.sub λp hp=>.tail _ (up _ hp)
 have few:=wd.gr.few
 show T Γ (A.deeper (Nk L)) ⟨Bl G++X,U1⟩ _ _
 have hG:=qX (Γ:=Γ) nf wd.gr 9 (m+1+i) (by lia) (by lia)
 rw [S.near]at hG
 refine Ao (Hz (Au (Cf (Bn (v:=.ref 495) (by kernel_rfl) ⟨.inl (by kernel_rfl),?_⟩))))
 refine Ai (Aq (v:=.ref w) rfl (Ag (.tail _ (cw _))) ?_)
 refine Ai (Fo (Aq (v:=.ref x.me) rfl (Ag (.tail _ cs)) λov hov=>(hG S.at' (hA.le (by decide)) hov λa ρg hFd=>?_).mono λfx σ₂ ⟨h1,h2⟩=>⟨h1,Ar λws hw=>h2 ws hw⟩))
 refine Ar λws hw=>(tC (ρg:=ρg) (τ:=U1) (n:=3 * 9) nf wd.gr (by lia) hLU1.dict (.tail _ (up _ hf)) (λj hj=>?_) ?_ (tO hFd) (hA.le (by decide)) hh (λr2=>?_) ws hw).T
 ·obtain⟨k,hk,rfl⟩:=Bq.mp hj
  have:=(Ur wf 4 i).2.2 k hk
  lia
 ·rw [As];have:=(Ur wf 4 i).1;lia
 rw [oH]
 let U2:List Av:=(.obj r2,.list (iv (Jz DE IH 4 i)))::U1
 have hLU2:Zv U2 w fa ab sp de ih AB DE IH:=hL.sub λp hp=>.tail _ (.tail _ (up _ hp))
 show T Γ (A.deeper (Nk L)) ⟨Bl G++X,U2⟩ _ _
 refine Cf (Bn (v:=.ref 485) (by kernel_rfl) ⟨.inl (by kernel_rfl),?_⟩)
 refine Ai (Aq (v:=.ref w) rfl (Ag (.tail _ (.tail _ (cw _)))) (Ai (Ac (v:=.int (i:Int) 0) (Ag (.tail _ (.tail _ (co _)))) (Ar λws hw=>(xK wf 4 hi (by decide) hLU2 (hA.le (by decide)) hh (λr3=>?_) ws hw).T))))
 refine(Yv hun (Ag (.tail _ (.head _))) (Ag (.head _)) ⟨_,rfl,λhb=>?_,λ_=>?_⟩)
 ·simp at hb
 refine Cq ?_
 refine Fh.go ?_
 let U3:List Av:=(.obj r3,.list (iv (Jz DE IH 4 i)))::U2
 show T Γ (A.deeper (Nk L)) ⟨Bl G++X,U3⟩ _ _
 have up3:∀{p:Av},p∈U (Ad (.ref x.me))->p∈U3:=λhp=>.tail _ (.tail _ (.tail _ hp))
 have hkl:((Cc m).map (Cy G)).length=m:=by rw [As];unfold Cc;rw [Kd]
 refine Ao (Hz (Au (Tx (Cf (Bd (v:=.type "range") (by kernel_rfl) (by decide+kernel) (by decide) ⟨.inr (.inr ⟨_,rfl⟩),?_⟩)))))
 refine Ai (Cf (Bd (v:=.builtin "len") (by kernel_rfl) (by decide+kernel) (by decide) ⟨.inr (.inl ⟨_,rfl⟩),?_⟩))
 refine Ai (Aq (v:=.ref kl) rfl (Ag (up3 (ck _))) (Ar (Hq (vs:=Aw ((Cc m).map (Cy G))) (Ag (up3 (hkm _))) (by rw [Ea,hkl];lia) ?_)))
 rw [Ea,hkl]
 refine Ar λws hw=>Sm (λrg=>?_) ws hw
 let U4:List Av:=(.obj rg,.rng 0 (m:Int) 1)::U3
 have up4:∀{p:Av},p∈U (Ad (.ref x.me))->p∈U4:=λhp=>.tail _ (up3 hp)
 obtain⟨rs1,rs2⟩:=Qy m4
 refine(Nr (Ag (.head _)) rs1 rs2 λit=>?_)
 refine⟨it,_,_,_,_,U4,⟨rfl,rfl,by have:=Py (Γ:=Γ) (A:=A.deeper (Nk L)) (it:=it) (x:=0) (c:=1) (n:=m) hh;rw [Tu]at this;exact this⟩,Ve,λd ys σ=>d.length<=m/\ys=iv (((Er m).take d.length).filter λk=>decide (k+1∈Gy G (m+1+i)))/\σ=⟨Bl G++X,U4⟩,⟨Cg _,rfl,rfl⟩,?_,?_,?_,?_⟩
 ·rintro d ys _ ext _
  trivial
 ·rintro d ys _ ⟨hd,rfl,rfl⟩
  rw [Bw,Ay]
  have:=By (λk=>decide (k+1∈Gy G (m+1+i))) ((Er m).take d.length)
  rw [Fx,Dy]at this
  lia
 ·rintro C acc d v r ρ₂ _ _ he ⟨hdm,rfl,rfl⟩
  obtain⟨a',j,b',e1,e2,rfl,_⟩:=Ro he
  have hj:j < m:=by rw [<-Mc,e1];simp
  obtain⟨y,ey⟩:=Dp (show j+1 < G.length by lia)
  have hdl:(d++[Fs (j:Int) 0]).length<=m:=by rw [Aj,e2,Bw];have:=congrArg Ii e1;rw [Dy,Aj,Fy]at this;simp only [Br];lia
  have ht:(Er m).take d.length=a':=by rw [e2,Bw,e1];simp
  have ht':(Er m).take (d++[Fs (j:Int) 0]).length=a'++[j]:=by
   rw [Aj,e2,Bw,Br,e1,show a'++j::b'=(a'++[j])++b' by simp]
   exact Fn (by simp)
  have hfj:(Ap G (Cc m))[((j:Int)).toNat]? =Ad (.ref y.me):=by
   rw [Dj]
   unfold Ap
   rw [Bg,Rp hj]
   simp [Bu ey]
  have hx:(a'++[j]).filter (λk=>decide (k+1∈Gy G (m+1+i)))=a'.filter (λk=>decide (k+1∈Gy G (m+1+i)))++(if j+1∈Gy G (m+1+i)then [j]else []):=by
   rw [Ff,Gq,Ph]
   by_cases h:j+1∈Gy G (m+1+i)
   ·rw [if_pos (decide_eq_true h),if_pos h]
   ·rw [if_neg (by rw [decide_eq_false h];decide),if_neg h]
  have upc:∀{p:Av},p∈U (Ad (.ref x.me))->p∈ρ₂++Tt C acc "k" (Ad (.int (j:Int) 0)) (iv (a'.filter λk=>decide (k+1∈Gy G (m+1+i)))) U4:=λhp=>Aa _ (.tail _ (.tail _ (up4 hp)))
  rw [ht]
  refine Js (Eo (Fo (Aq (v:=.ref x.me) rfl (Ag (upc cs)) (Pe nf S.at' (gA Γ) ⟨.inl (by kernel_rfl),?_⟩))))
  refine Ai (Bh (Bh (Aq (v:=.ref w) rfl (Ag (upc (cw _))) (Kp (Ej (Ag (upc (up _ hL.dict))) (v:=.ref fa) (by rfl) (Dm (v:=.int (j:Int) 0) (Ag (Aa _ (.head _))) (.head _) (Gv<|Cp (vs:=Ap G (Cc m)) (v:=.ref y.me) (Ag (upc (up _ hf))) (by lia) (by lia) hfj ?_)))))))
  refine Ar λws hw=>(lI (x:=x) (y:=y) nf wd.gr (wd.imp _ _ S.at') (hA.le (by decide)) S.at' ey ?_ ws hw).T
  refine(Fi ⟨λhb=>?_,λhb=>?_⟩)
  ·have q:=of_decide_eq_true hb
   rw [if_pos q]at hx
   exact Dm (v:=.int (j:Int) 0) (Ag (Aa _ (.head _))) (.head _) ⟨_,_,_,Av.le_refl _,hdl,by rw [ht',hx,<-Wq],rfl⟩
  ·have q:=of_decide_eq_false hb
   rw [if_neg q,Cr]at hx
   exact⟨_,_,_,Av.le_refl _,hdl,by rw [ht',hx],rfl⟩
 rintro r4 ys _ ⟨_,rfl,rfl⟩
 have ht4:(Er m).take (iv (Er m)).length=Er m:=by rw [Bw];exact Es
 rw [ht4]
 have hfe:((Er m).filter λk=>decide (k+1∈Gy G (m+1+i)))=(Er m).filter λk=>decide (k∈Ln AB DE IH 4 i):=by
  apply Jd
  intro k hk
  rw [decide_eq_decide]
  exact S.imp k (Mc.mp hk)
 rw [hfe]
 let U5:List Av:=(.obj r4,.list (iv ((Er m).filter λk=>decide (k∈Ln AB DE IH 4 i))))::U4
 have up5:∀{p:Av},p∈U (Ad (.ref x.me))->p∈U5:=λhp=>.tail _ (up4 hp)
 have hLU5:Zv U5 w fa ab sp de ih AB DE IH:=hL.sub λp hp=>up5 (up _ hp)
 show T Γ (A.deeper (Nk L)) ⟨Bl G++X,U5⟩ _ _
 refine Cf (Bd (v:=.builtin "sorted") (by kernel_rfl) (by decide+kernel) (by decide) ⟨.inr (.inl ⟨_,rfl⟩),?_⟩)
 refine Ai (Cf (Bn (v:=.ref 478) (by kernel_rfl) ⟨.inl (by kernel_rfl),?_⟩))
 refine Ai (Aq (v:=.ref w) rfl (Ag (up5 (cw _))) (Ai (Ac (v:=.int (i:Int) 0) (Ag (up5 (co _))) (Ar λws hw=>(tD wf 4 hi (by decide) hLU5 (hA.le (by decide)) hh (λr5=>?_) ws hw).T))))
 have hio:=aJ wf 4 i
 refine Ar λws hw=>vF (ns:=nv (Ln AB DE IH 4 i)) (Ag (.head _)) (by rw [Ma];lia) (λr6 ns' p1 p2=>?_) ws hw
 rw [pJ hio.2.1 hio.2.2 p1 p2]
 refine(Yv hun (Ag (.tail _ (.tail _ (.head _)))) (Ag (.head _)) ⟨_,rfl,λhb=>?_,λ_=>?_⟩)
 ·simp at hb
 refine Cq ?_
 refine Fh.go (Cq ?_)
 exact h [_,_,_,_,_,_,_]
end
end
section
section
variable {Γ:Bm} {A:Az} {σ:Bc} {env:Env}
inductive Yh (Γ:Bm) (A:Az) (x:Str) (env':Am->Env) (elt:At) (K:Ab->Bc->Prop) (ci:Ab) (σ:Bc):Prop
 |mk (it:Am) (ρ:List Av) (Gc:Bc->Prop) (vs:List Ab) (W τ:List Av) (us:List Ab) (g:iD Γ A ci σ it ρ Gc vs W τ) (slf:Vu Γ A it ρ) (hG:∀ext,Gc ⟨W,ext++τ⟩) (hz:vs.length<=100000) (hu:us.length=vs.length)
  (turn:∀C acc (k:Nat) v u ρ' ys,vs[k]? =Ad v->us[k]? =Ad u->T Γ A ⟨W,ρ'++Tt C acc x (Ad v) ys τ⟩ (Dv elt (env' C)) λy σ'=>y=u/\σ'=⟨W,ρ'++Tt C acc x (Ad v) ys τ⟩)
  (done:∀acc,K (.ref acc) ⟨W,(.obj acc,.list us)::τ⟩)
theorem Yh.to {x:Str} {env':Am->Env} {elt:At} {K:Ab->Bc->Prop} {ci:Ab} (h:Yh Γ A x env' elt K ci σ):eH Γ A (λC acc o ys τ=>Tt C acc x o ys τ) env' [] elt K ci σ:=by
 obtain⟨it,ρ,Gc,vs,W,τ,us,g,slf,hG,hz,hu,turn,done⟩:=h
 refine⟨it,ρ,Gc,vs,W,τ,g,slf,λd ys σ=>ys=us.take d.length/\σ=⟨W,τ⟩,⟨rfl,rfl⟩,λd ys σ ext h=>by rw [h.2];exact hG ext,λd ys σ h=>?_,λC acc d v r ρ' ys σ he h=>?_,λacc ys σ h=>?_⟩
 ·rw [h.1,Ay]
  exact Ca (List.length_take_le' _ _) (hu▸Ca hz (Ce rfl))
 ·cases h.2
  have hv:vs[d.length]? =Ad v:=by rw [<-he];simp
  have hus:=Bp (hu▸(Al.mp hv).1:d.length < us.length)
  refine Qd ⟨λ_=>(turn C acc d.length v _ ρ' ys hv hus).mono λy σ' q=>?_,λhb=>(by cases hb)⟩
  rw [q.2]
  exact⟨_,_,_,Av.le_refl _,by rw [h.1,q.1,Aj,Br,Nc,hus];rfl,rfl⟩
 ·rw [h.1,h.2,<-hu,Es]
  exact done acc
theorem Sy {x:Str} {elt iter:At} {scope:Li} {pos xp:Pos} {cl₀:List (Str×Am)} {Q:Ab->Bc->Prop}
  (h:T Γ A σ (Dv iter env) (P1 Γ A Ib (Yh Γ A x (λC=>Lp scope cl₀ C env) elt Q)))
  (hcells:autoParam (∀C,Fk (C+1) scope.names []=[]) aI) (hl:autoParam (scope.kind=.function/\(Lp scope cl₀ 0 env).Kj x=Ad .local) aP)
  (hclos:autoParam (Kc scope env=Et cl₀) aR) (hkind:autoParam (scope.kind=.function) aR) (hnames:autoParam ((scope.names.all λx=>x.2 != .local||scope.names.lookup x.1==Ad .local)=true) aR)
  (hs:autoParam (∀x,Dx iter env x=Et x) aI) (ht:autoParam (∀it v,Dr (.Name x xp) it v=Et ()) aI):
  T Γ A σ (Dv (.ListComp elt [⟨.Name x xp,iter,[],0⟩] scope pos) env) Q:=Tx (h.mono λc σ₁ q v hv=>(q v hv).mono λ_ _=>Yh.to) hcells hl hclos hkind hnames hs ht
theorem Sq {x y:Str} {elt iter:At} {scope:Li} {py pos spos xp:Pos} {cl₀:List (Str×Am)} {Q:Ga->Bc->Prop}
  (h:T Γ A σ (Dv iter env) (P1 Γ A Ib (Yh Γ A x (λC=>Lp scope cl₀ C env) elt (kY (.var env.locals y) .val Q))))
  (hcells:autoParam (∀C,Fk (C+1) scope.names []=[]) aI) (hlx:autoParam (scope.kind=.function/\(Lp scope cl₀ 0 env).Kj x=Ad .local) aP)
  (hk:autoParam (env.scope.kind=.function) aR) (hl:autoParam (env.kindOf y=Ad .local) aR)
  (hsw:autoParam (Lz (.ListComp elt [⟨.Name x xp,iter,[],0⟩] scope pos) (Ad (.Name y py)) spos.line env=Et true) aR)
  (hclos:autoParam (Kc scope env=Et cl₀) aR) (hkind:autoParam (scope.kind=.function) aR) (hnames:autoParam ((scope.names.all λx=>x.2 != .local||scope.names.lookup x.1==Ad .local)=true) aR)
  (hs:autoParam (∀x,Dx iter env x=Et x) aI) (ht:autoParam (∀it v,Dr (.Name x xp) it v=Et ()) aI):
  T Γ A σ (Ni (.Assign [.Name y py] (.ListComp elt [⟨.Name x xp,iter,[],0⟩] scope pos) spos) env) Q:=Nx (h.mono λc σ₁ q v hv=>(q v hv).mono λ_ _=>Yh.to) hcells hlx hk hl hsw hclos hkind hnames hs ht
theorem Rt {js:List Nat} {k:Nat} {v:Ab} (h:(iv js)[k]? =Ad v):∃j:Nat,js[k]? =Ad j/\v=.int (j:Int) 0:=by
 unfold iv nv Aw at h
 rw [Bg,Bg,Option.map_map,Db]at h
 obtain⟨j,h1,h2⟩:=h
 exact⟨j,h1,h2.symm⟩
end
end
section
noncomputable def tvV:Option Nat->Ab
 |Ae=>.none
 |Ad t=>.int (t:Int) 0
noncomputable def aN (DE IH:List (List Nat)) (m t:Nat):List Nat:=(DE.getD t []).map (· +1)++(Cn [] (IH.getD t [])).map (m+1+ ·)
section
variable {Γ:Bm} {A:Az} {G:List Nd} {X:List Av}
theorem oP {js:List Nat} {k:Nat} {u v:Ab} (h1:(Ap G js)[k]? =Ad v) (h2:(Aw (js.map (Cy G)))[k]? =Ad u):∃j∈js,v=.ref (Gd G j)/\u=.int (Cy G j) 0:=by
 obtain⟨j,hj,e⟩:=iL h1
 unfold Aw at h2
 rw [Ei,Bg,hj]at h2
 exact⟨j,Fj hj,e,(Dl h2).symm⟩
theorem lO {τ ρ:List Av} {L w fa ab sp de ih kl:Am} {m t:Nat} {AB DE IH:List (List Nat)} {o sc:Option Ab} {Q:Ga->Bc->Prop} (wd:Wd G X) (wf:sD m AB DE IH) (hlen:G.length=m+5) (hL:Zv τ w fa ab sp de ih AB DE IH)
  (hf:(Ex.obj fa,CO.list (Ap G (Cc m)))∈τ) (hs:(Ex.obj sp,CO.list (Ap G (Di (m+1) 4)))∈τ) (ht4:t < 4) (hb:Ge G (m+1+t)=aN DE IH m t) (hks:∀j,j < 4->Cy G (m+1+j)=100+(j:Int)) (hA:Rm (A.deeper (Nk L)) 40) (hh:A.handled=Ae)
  (h:∀ρ',Q (.ret (.bool true)) ⟨Bl G++X,ρ'++τ⟩):
  T Γ (A.deeper (Nk L)) ⟨Bl G++X,ρ++((.obj kl,.list (Aw ((Cc m).map (Cy G))))::sC L w (Ad (.ref kl)) sc (.int (t:Int) 0) o Ae τ)⟩ (Cs ((fBody (topStmt 29)).drop 3) (Nk L)) Q:=by
 have nf:=wd.wx.nf
 have m4:=wf.m4
 have few:=wd.gr.few
 let U:List Av:=ρ++((.obj kl,.list (Aw ((Cc m).map (Cy G))))::sC L w (Ad (.ref kl)) sc (.int (t:Int) 0) o Ae τ)
 have up:∀{p:Av},p∈τ->p∈U:=λhp=>Aa _ (.tail _ (.tail _ (.tail _ (.tail _ (.tail _ (.tail _ (.tail _ hp)))))))
 have cw:(Ex.obj (L+1),CO.cell (Ad (.ref w)))∈U:=Aa _ (.tail _ (.tail _ (.tail _ (.head _))))
 have ck:(Ex.obj (L+2),CO.cell (Ad (.ref kl)))∈U:=Aa _ (.tail _ (.tail _ (.head _)))
 have ct:(Ex.var L "turned",CO.val (Ad (.int (t:Int) 0)))∈U:=Aa _ (.tail _ (.tail _ (.tail _ (.tail _ (.head _)))))
 have hkm:(Ex.obj kl,CO.list (Aw ((Cc m).map (Cy G))))∈U:=Aa _ (.head _)
 obtain⟨das,db,d1,d2,d3⟩:=hL.decl.row (i:=t) (by rw [wf.lenD];lia)
 obtain⟨has,hb',h1,h2,h3⟩:=hL.inh.row (i:=t) (by rw [wf.lenI];lia)
 have hun:(A.deeper (Nk L)).units < cLine:=by have:=hA.units;lia
 have hD:=wf.D t
 have hD4:=wf.D4 t
 have hI:=wf.I t
 have hIl:(Cn [] (IH.getD t [])).length<=3:=Ca (Ot _ _) hI.1
 show T Γ (A.deeper (Nk L)) ⟨Bl G++X,U⟩ _ _
 refine Ao (Bo (En ?_))
 refine Sy (Bh (Bh (Aq (v:=.ref w) rfl (Ag cw) (Kp (Ej (Ag (up hL.dict)) (v:=.ref de) (by rfl) (Ac (v:=.int (t:Int) 0) (Ag ct) (Gv<|Cp (vs:=das.map .ref) (v:=.ref db) (Ag (up d1)) (by lia) (by lia) d2 (Em (vs:=iv (DE.getD t [])) (Ag (up d3)) λit=>?_))))))))
 refine⟨it,_,_,_,_,_,Aw ((DE.getD t []).map λk=>Cy G (k+1)),⟨rfl,rfl,Ey (a:=db) (vs:=iv (DE.getD t [])) hh⟩,Hc,λext=>Ag (Aa _ (up d3)),by rw [Bw];lia,by rw [Bw,Ea,As],?_,λacc=>?_⟩
 ·intro C acc k v u ρ' ys q1 q2
  obtain⟨j,hj,rfl⟩:=Rt q1
  have hjm:=hD.2 j (Fj hj)
  unfold Aw at q2
  rw [Ei,Bg,hj]at q2
  have:=Dl q2
  subst this
  have hkj:(Aw ((Cc m).map (Cy G)))[((j:Int)).toNat]? =Ad (.int (Cy G (j+1)) 0):=by
   rw [Dj]
   unfold Aw
   rw [Bg,Bg,Rp hjm]
   rfl
  exact Bh (Aq (v:=.ref kl) rfl (Ag (Aa _ (.tail _ (.tail _ ck)))) (Dm (v:=.int (j:Int) 0) (Ag (Aa _ (.head _))) (.head _) (Cp (vs:=Aw ((Cc m).map (Cy G))) (v:=.int (Cy G (j+1)) 0) (Ag (Aa _ (.tail _ (.tail _ hkm)))) (by lia) (by lia) hkj ⟨rfl,rfl⟩)))
 let U1:List Av:=(.obj acc,.list (Aw ((DE.getD t []).map λk=>Cy G (k+1))))::U
 show T Γ (A.deeper (Nk L)) ⟨Bl G++X,U1⟩ _ _
 refine Sy (Cf (Bn (v:=.ref 473) (by kernel_rfl) ⟨.inl (by kernel_rfl),?_⟩))
 refine Ai (Bh (Bh (Aq (v:=.ref w) rfl (Ag (.tail _ cw)) (Kp (Ej (Ag (.tail _ (up hL.dict))) (v:=.ref ih) (by rfl) (Ac (v:=.int (t:Int) 0) (Ag (.tail _ ct)) (Gv<|Cp (vs:=has.map .ref) (v:=.ref hb') (Ag (.tail _ (up h1))) (by lia) (by lia) h2 ?_)))))))
 refine Ar λws hw=>(Un (ns:=nv (IH.getD t [])) (hA.le (by decide)) hh (Ag (.tail _ (up h3))) (by rw [Ma];lia) (λro=>?_) ws hw).T
 rw [Sv]
 refine(Em (vs:=iv (Cn [] (IH.getD t []))) (Ag (.head _)) λit2=>?_)
 refine⟨it2,_,_,_,_,_,Aw ((Cn [] (IH.getD t [])).map λk:Nat=>100+(k:Int)),⟨rfl,rfl,Ey (a:=ro) (vs:=iv (Cn [] (IH.getD t []))) hh⟩,Hc,λext=>Ag (Aa _ (.head _)),by rw [Bw];lia,by rw [Bw,Ea,As],?_,λacc2=>?_⟩
 ·intro C acc k v u ρ' ys q1 q2
  obtain⟨j,hj,rfl⟩:=Rt q1
  unfold Aw at q2
  rw [Ei,Bg,hj]at q2
  have:=Dl q2
  subst this
  exact En (Dh (Dm (v:=.int (j:Int) 0) (Ag (Aa _ (.head _))) (.head _) (Rl ⟨rfl,rfl⟩)))
 refine(Xg (vs:=Aw ((DE.getD t []).map λk=>Cy G (k+1))) (us:=Aw ((Cn [] (IH.getD t [])).map λk:Nat=>100+(k:Int))) (Ag (.tail _ (.tail _ (.head _)))) (Ag (.head _)) (by rw [Ea,Ea,As,As];lia) λrd=>?_)
 refine⟨_,_,.tau (.there (.there (.there (.there (.pre (.there (.there (.there (.there (.there (.there .here))))))))))),?_⟩
 refine Fh.go ?_
 obtain⟨x,hx⟩:=Dp (show m+1+t < G.length by lia)
 have hxb:x.bs=aN DE IH m t:=by rw [<-Qh hx];exact hb
 have hsp:(Ap G (Di (m+1) 4))[((t:Int)).toNat]? =Ad (.ref x.me):=by
  rw [Dj]
  unfold Ap
  rw [Bg,Ld ht4]
  simp [Bu hx]
 let Y:List Av:=(.obj rd,.list (Aw ((DE.getD t []).map λk=>Cy G (k+1))++Aw ((Cn [] (IH.getD t [])).map λk:Nat=>100+(k:Int))))::(.obj acc2,.list (Aw ((Cn [] (IH.getD t [])).map λk:Nat=>100+(k:Int))))::(.obj ro,.list (iv (Cn [] (IH.getD t []))))::(.obj acc,.list (Aw ((DE.getD t []).map λk=>Cy G (k+1))))::(ρ++((.obj kl,.list (Aw ((Cc m).map (Cy G))))::sC L w (Ad (.ref kl)) sc (.int (t:Int) 0) o (Ad (.ref rd)) τ))
 show T Γ (A.deeper (Nk L)) ⟨Bl G++X,Y⟩ _ _
 have tl:∀{p:Av},p∈(.obj kl,.list (Aw ((Cc m).map (Cy G))))::sC L w (Ad (.ref kl)) sc (.int (t:Int) 0) o (Ad (.ref rd)) τ->p∈Y:=λhp=>.tail _ (.tail _ (.tail _ (.tail _ (Aa _ hp))))
 have upY:∀{p:Av},p∈τ->p∈Y:=λhp=>tl (.tail _ (.tail _ (.tail _ (.tail _ (.tail _ (.tail _ (.tail _ hp)))))))
 have hblen:x.bs.length<=7:=by rw [hxb];unfold aN;rw [Aj,As,As];lia
 have hxl:∀j∈x.bs,j < G.length:=λj hj=>by have:=(wd.gr.bs _ _ hx).2 j hj;lia
 refine Ao (Fp (To (Sy (Ek (x:=x) nf hx (Qg Γ) (.tail _ (.tail _ (.tail _ (.head _)))) (Bh (Bh (Aq (v:=.ref w) rfl (Ag (tl (.tail _ (.tail _ (.tail _ (.head _)))))) (Kp (Ej (Ag (upY hL.dict)) (v:=.ref sp) (by rfl) (Ac (v:=.int (t:Int) 0) (Ag (tl (.tail _ (.tail _ (.tail _ (.tail _ (.head _))))))) (Gv<|Cp (vs:=Ap G (Di (m+1) 4)) (v:=.ref x.me) (Ag (upY hs)) (by lia) (by lia) hsp ⟨rfl,rfl⟩))))))) ?_))))
 refine(Hl (vs:=Ap G x.bs) ((wd.wx.nf.bt _ _ hx).tup) λit3=>?_)
 refine⟨it3,_,_,_,_,_,Aw (x.bs.map (Cy G)),⟨rfl,rfl,Hj (a:=x.bt) (vs:=Ap G x.bs) hh⟩,Rc,λext=>(wd.wx.nf.bt _ _ hx).tup,by rw [Bb];lia,by rw [Bb,Ea,As],?_,λacc3=>?_⟩
 ·intro C acc k v u ρ' ys q1 q2
  obtain⟨j,hj,rfl,rfl⟩:=oP q1 q2
  obtain⟨y,ey⟩:=Dp (hxl j hj)
  rw [Bu ey,Gj ey]
  exact Ek (x:=y) nf ey (Mg Γ) (v:=.int y.key 0) (.head _) (Dm (v:=.ref y.me) (Ag (Aa _ (.head _))) (.head _) ⟨rfl,rfl⟩) ⟨rfl,rfl⟩
 refine Ac (v:=.ref rd) (Ag (.tail _ (tl (.tail _ (.tail _ (.tail _ (.tail _ (.tail _ (.tail _ (.head _)))))))))) ?_
 have e1:x.bs.map (Cy G)=((DE.getD t []).map λk=>Cy G (k+1))++((Cn [] (IH.getD t [])).map λk:Nat=>100+(k:Int)):=by
  rw [hxb]
  unfold aN
  rw [Bk,Ei,Ei]
  congr 1
  apply Gk
  intro j hj
  have:=hI.2 j (Mr _ _ j hj).1
  exact hks j (by lia)
 refine(sA hun (a:=x.bs.map (Cy G)) (b:=x.bs.map (Cy G)) (Ag (.head _)) (Ag (.tail _ ?_)) ?_)
 ·rw [e1]
  have:Aw (((DE.getD t []).map λk=>Cy G (k+1))++((Cn [] (IH.getD t [])).map λk:Nat=>100+(k:Int)))=Aw ((DE.getD t []).map λk=>Cy G (k+1))++Aw ((Cn [] (IH.getD t [])).map λk:Nat=>100+(k:Int)):=by simp [Aw]
  rw [this]
  exact .head _
 ·rw [beq_self_eq_true]
  have:=h ((.obj acc3,.list (Aw (x.bs.map (Cy G))))::(.obj rd,.list (Aw ((DE.getD t []).map λk=>Cy G (k+1))++Aw ((Cn [] (IH.getD t [])).map λk:Nat=>100+(k:Int))))::(.obj acc2,.list (Aw ((Cn [] (IH.getD t [])).map λk:Nat=>100+(k:Int))))::(.obj ro,.list (iv (Cn [] (IH.getD t []))))::(.obj acc,.list (Aw ((DE.getD t []).map λk=>Cy G (k+1))))::(ρ++((.obj kl,.list (Aw ((Cc m).map (Cy G))))::sC L w (Ad (.ref kl)) sc (.int (t:Int) 0) o (Ad (.ref rd)) [])))
  simp only [sC,Hv,Fw,Ba]at this
  exact this
end
end
section
section
variable {Γ:Bm} {A:Az} {G:List Nd} {X:List Av}
theorem uX {τ:List Av} {w fa ab sp de ih:Am} {m:Nat} {AB DE IH:List (List Nat)} {tv:Option Nat} {Q:Ab->Bc->Prop} (wd:Wd G X) (wf:sD m AB DE IH) (hlen:G.length=m+5) (hL:Zv τ w fa ab sp de ih AB DE IH)
  (hf:(Ex.obj fa,CO.list (Ap G (Cc m)))∈τ) (hs:(Ex.obj sp,CO.list (Ap G (Di (m+1) 4)))∈τ) (hS:∀i,i < 4->∃x,sP G X m AB DE IH i x) (ht4:∀t,tv=Ad t->t < 4/\Ge G (m+1+t)=aN DE IH m t) (hks:∀j,j < 4->Cy G (m+1+j)=100+(j:Int)) (hA:Rm A 41) (hh:A.handled=Ae)
  (h:Q (.bool true) ⟨Bl G++X,τ⟩):∀ws,ws.map cl=[.ref w,tvV tv]->TC Γ A ⟨Bl G++X,τ⟩ (.ref 500) ws [] Q:=λws hw=>by
 have nf:=wd.wx.nf
 have m4:=wf.m4
 have few:=wd.gr.few
 refine Wm (body:=fBody (topStmt 29)) (bs:=[("world",.ref w),("turned",tvV tv)]) ["turned","one","due"] (uG Γ) (by kernel_rfl) hA.room (Hb.plain2 λ_ _ _=>Cm (by rfl)) (λL=>?_) (by rfl) (by decide) (by decide) (by rfl) (by rfl) (by rfl) ws [] hw rfl
 show T Γ (A.deeper (Nk L)) ⟨Bl G++X,sC L w Ae Ae (tvV tv) Ae Ae τ⟩ (Cs _ (Nk L)) _
 have hA':Rm (A.deeper (Nk L)) 40:=hA.deeper
 have up:∀{p:Av} kc sc o d,p∈τ->p∈sC L w kc sc (tvV tv) o d τ:=λkc sc o d hp=>.tail _ (.tail _ (.tail _ (.tail _ (.tail _ (.tail _ hp)))))
 have hlm:(Cc m).length=m:=by simp [Cc]
 refine Ao (Gh rfl (Sy (Bh (Aq (v:=.ref w) rfl (Ag (.tail _ (.tail _ (.head _)))) (Kp (Ej (Ag (up _ _ _ _ hL.dict)) (v:=.ref fa) (by rfl) (Em (vs:=Ap G (Cc m)) (Ag (up _ _ _ _ hf)) λit=>?_)))))))
 refine⟨it,_,_,_,_,_,Aw ((Cc m).map (Cy G)),⟨rfl,rfl,Ey (a:=fa) (vs:=Ap G (Cc m)) hh⟩,Hc,λext=>Ag (Aa _ (up _ _ _ _ hf)),by rw [Bb,hlm];lia,by rw [Bb,Ea,As],?_,λkl=>?_⟩
 ·intro C acc k v u ρ' ys q1 q2
  obtain⟨j,hj,rfl,rfl⟩:=oP q1 q2
  obtain⟨q,hq1,hq2⟩:=List.mem_range'.mp hj
  obtain⟨y,ey⟩:=Dp (show j < G.length by lia)
  rw [Bu ey,Gj ey]
  exact Ek (x:=y) nf ey (Mg Γ) (v:=.int y.key 0) (.head _) (Dm (v:=.ref y.me) (Ag (Aa _ (.head _))) (.head _) ⟨rfl,rfl⟩) ⟨rfl,rfl⟩
 refine⟨_,_,.tau (.there (.there .here)),?_⟩
 refine Fh.go ?_
 let KL:Av:=(.obj kl,.list (Aw ((Cc m).map (Cy G))))
 let Z:Option Ab->Option Ab->List Av:=λsc o=>KL::sC L w (Ad (.ref kl)) sc (tvV tv) o Ae τ
 show T Γ (A.deeper (Nk L)) ⟨Bl G++X,Z Ae Ae⟩ _ _
 refine Ao (Qf (Cf (Bd (v:=.type "range") (by kernel_rfl) (by decide+kernel) (by decide) ⟨.inr (.inr ⟨_,rfl⟩),?_⟩)))
 refine Ai (Cf (Bd (v:=.builtin "len") (by kernel_rfl) (by decide+kernel) (by decide) ⟨.inr (.inl ⟨_,rfl⟩),?_⟩))
 refine Ai (Bh (Aq (v:=.ref w) rfl (Ag (.tail _ (.tail _ (.tail _ (.head _))))) (Kp (Ej (Ag (.tail _ (up _ _ _ _ hL.dict))) (v:=.ref sp) (by rfl) ?_))))
 refine Ar (Hq (vs:=Ap G (Di (m+1) 4)) (Ag (.tail _ (up _ _ _ _ hs))) (by rw [Bb,Kd];lia) ?_)
 rw [Bb,Kd]
 refine Ar λws hw=>Sm (λrg=>?_) ws hw
 obtain⟨rs1,rs2⟩:=Qy (n:=4) (by decide)
 refine(Nr (Ag (.head _)) rs1 rs2 λit2=>?_)
 let RG:Av:=(.obj rg,.rng 0 ((4:Nat):Int) 1)
 refine⟨it2,_,_,_,_,RG::Z Ae Ae,⟨rfl,rfl,by have:=Py (Γ:=Γ) (A:=A.deeper (Nk L)) (it:=it2) (x:=0) (c:=1) (n:=4) hh;rw [Tu]at this;exact this⟩,λd σ=>∃ρ sc o,σ=⟨Bl G++X,ρ++Z sc o⟩,⟨[RG],Ae,Ae,rfl⟩,?_,?_,?_⟩
 ·rintro d _ _
  trivial
 ·rintro d v r u ρ' _ he hu ⟨ρ,sc,o,rfl⟩ Kq hK
  obtain⟨a,j,b,e1,e2,rfl,_⟩:=Ro he
  have hj:j < 4:=by rw [<-Mc,e1];simp
  refine Cx (σ':=⟨Bl G++X,ρ'++(ρ++Z sc (Ad (.int (j:Int) 0)))⟩) hu (.tau (.pre (.pre (.there (.there (.there (.there (.there .here)))))))) ?_
  obtain⟨x,S⟩:=hS j hj
  have e:∀sc o,ρ'++(ρ++Z sc o)=(ρ'++ρ)++Z sc o:=λsc o=>(Ba ..).symm
  rw [e]
  refine lM (ρ:=ρ'++ρ) wd wf hlen hL hf hs hj S hA' hh λρ''=>?_
  refine hK .next _ ⟨Bl G++X,ρ++Z (Ad (.ref x.me)) (Ad (.int (j:Int) 0)),Av.le_sub ?_,ρ,_,_,rfl⟩
  rw [e]
  exact Bs ρ'' _
 rintro _ ⟨ρ,sc,o,rfl⟩
 refine Cq ?_
 refine Fh.go ?_
 cases tv with
 |Ae=>
  refine Ao (Hz (Au (Ac (v:=.none) (Ag (Aa _ (.tail _ (.tail _ (.tail _ (.tail _ (.head _))))))) (Ka (Qb (by rfl) ⟨_,rfl,λ_=>?_,λhb=>(by cases hb)⟩)))))
  refine Ao (Fp (Yg ?_))
  refine⟨_,Av.le_sub (τ':=τ) ?_,h⟩
  exact Dc (.cons _ (.cons _ (.cons _ (.cons _ (.cons _ (.cons _ (.cons _ (.refl _))))))))
 |Ad t=>
  obtain⟨t4,hbt⟩:=ht4 t rfl
  refine Ao (Hz (Au (Ac (v:=.int (t:Int) 0) (Ag (Aa _ (.tail _ (.tail _ (.tail _ (.tail _ (.head _))))))) (Ka (Qb (by rfl) ⟨_,rfl,λhb=>(by cases hb),λ_=>?_⟩)))))
  refine Cq ?_
  refine Fh.go ?_
  refine lO (ρ:=ρ) wd wf hlen hL hf hs t4 hbt hks hA' hh λρ'=>?_
  exact⟨_,Av.le_sub (Bs ρ' τ),h⟩
end
end
section
section
variable {Γ:Bm} {A:Az} {σ:Bc} {env:Env}
noncomputable abbrev pD (C acc:Am) (o:Option Ab) (ys:List Ab) (τ:List Av):List Av:=(.obj C,.fr [])::(.obj (C+1),.cell o)::(.obj acc,.list ys)::τ
theorem vM {x:Str} {elt iter:At} {ifs:List At} {scope:Li} {pos xp:Pos} {cl₀:List (Str×Am)} {Q:Ab->Bc->Prop}
  (h:T Γ A σ (Dv iter env) (P1 Γ A Ib (eH Γ A (λC acc o ys τ=>pD C acc o ys τ) (λC=>Lp scope cl₀ C env) ifs elt Q)))
  (hcells:autoParam (∀C,Fk (C+1) scope.names []=[(x,C+1)]) aI) (hlk:autoParam (∀C,(Lp scope cl₀ C env).cells.lookup x=Ad (C+1)) aI) (hl:autoParam (scope.kind=.function/\(Lp scope cl₀ 0 env).Kj x=Ad .cell) aP)
  (hclos:autoParam (Kc scope env=Et cl₀) aR) (hkind:autoParam (scope.kind=.function) aR) (hnames:autoParam ((scope.names.all λx=>x.2 != .local||scope.names.lookup x.1==Ad .local)=true) aR)
  (hs:autoParam (∀x,Dx iter env x=Et x) aI) (ht:autoParam (∀it v,Dr (.Name x xp) it v=Et ()) aI):
  T Γ A σ (Dv (.ListComp elt [⟨.Name x xp,iter,ifs,0⟩] scope pos) env) Q:=by
 rw [eval_ListComp]
 exact Yr (use:=Ae) (λ_=>[]) (λC o=>[(.obj (C+1),.cell o)]) h (λ_ _ _ _ _ h=>h) (λp hp=>(by cases hp)) .nil (λC=>by rw [hcells];rfl) (λC u o W ρ r=>Rg (env:=Lp scope cl₀ C env) rfl (hlk C) (.tau (Ri.pre (.there .here))) rfl hl.1 hl.2) hclos hkind hnames hs ht
end
theorem wZ (Γ:Bm):Γ.K.lookup 490=Ad ⟨.type "function",Ae,.func (Kh Γ 490 "_law_declare" (topStmt 27) (.ref 489) .none),#[]⟩:=by kernel_rfl
noncomputable abbrev Uf (L:Am):Env:=Gs "_law_declare" (fScope (topStmt 27)) L 490 (.ref 489) [("ahead",L+5),("old",L+4),("kind",L+3),("one",L+2),("world",L+1)]
noncomputable abbrev yB (L w:Am) (i:Nat) (kd:Int) (oc ac:Option Ab) (nm nw:Option Ab) (τ:List Av):List Av:=
 (.obj (L+5),.cell ac)::(.obj (L+4),.cell oc)::(.obj (L+3),.cell (Ad (.int kd 0)))::(.obj (L+2),.cell (Ad (.int (i:Int) 0)))::(.obj (L+1),.cell (Ad (.ref w)))::(.var L "named",.val nm)::(.var L "new",.val nw)::τ
noncomputable def Gz (τ:List Av) (as:List Am) (ls:List (List Nat)):Prop:=as.length=ls.length/\∀(k:Nat) (b:Am) (l:List Nat),as[k]? =Ad b->ls[k]? =Ad l->(Ex.obj b,CO.list (iv l))∈τ
noncomputable abbrev Jv (de ih:Am) (das has:List Am) (τ:List Av):List Av:=(.obj de,.list (das.map .ref))::(.obj ih,.list (has.map .ref))::τ
theorem Gz.snoc {τ:List Av} {as:List Am} {ls:List (List Nat)} {q:Am} {l:List Nat} (h:Gz τ as ls) (hq:(Ex.obj q,CO.list (iv l))∈τ):Gz τ (as++[q]) (ls++[l]):=by
 refine⟨by rw [Aj,Aj,h.1];rfl,λk b l' q1 q2=>?_⟩
 by_cases hk:k < as.length
 ·rw [Ft hk]at q1
  rw [Ft (h.1▸hk)]at q2
  exact h.2 k b l' q1 q2
 ·have hl:=(Al.mp q1).1
  rw [Aj,Br]at hl
  have hk':k=as.length:=Nat.le_antisymm (Nat.le_of_lt_succ hl) (Nat.le_of_not_lt hk)
  rw [Hh (Nat.le_of_eq hk'.symm),hk',Qn]at q1
  rw [Hh (by rw [<-h.1,hk'];exact Cb _),hk',h.1,Qn]at q2
  cases q1
  cases q2
  exact hq
theorem Gz.sub {τ τ':List Av} {as:List Am} {ls:List (List Nat)} (h:Gz τ as ls) (k:∀p∈τ,p∈τ'):Gz τ' as ls:=⟨h.1,λi b l e1 e2=>k _ (h.2 i b l e1 e2)⟩
set_option tactic.hygienic true in
theorem Gz.set {τ:List Av} {as:List Am} {ls:List (List Nat)} (h:Gz τ as ls) {i:Nat} {b:Am} {l:List Nat} (hb:(Ex.obj b,CO.list (iv l))∈τ):Gz τ (as.set i b) (ls.set i l):=by
 refine⟨by rw [List.length_set,List.length_set];exact h.1,λk b' l' e1 e2=>?_⟩
 rw [Jc]at e1 e2
 split at e1
 ·rename_i q
  rw [if_pos q]at e2
  split at e1
  ·rename_i q2
   rw [if_pos (by rw [<-h.1];exact q2)]at e2
   cases e1;cases e2;exact hb
  ·cases e1
 ·rename_i q
  rw [if_neg q]at e2
  exact h.2 k b' l' e1 e2
theorem lE {τ:List Av} {w fa ab sp de ih:Am} {das has:List Am} {AB DE IH:List (List Nat)} (hd:(Ex.obj w,CO.sdict (Vs fa ab sp de ih))∈τ) (ha:LL τ ab AB) (r1:Gz τ das DE) (r2:Gz τ has IH):Zv (Jv de ih das has τ) w fa ab sp de ih AB DE IH:=
 ⟨.tail _ (.tail _ hd),ha.sub λp hp=>.tail _ (.tail _ hp),⟨das,r1.1,.head _,λk b l e1 e2=>.tail _ (.tail _ (r1.2 k b l e1 e2))⟩,⟨has,r2.1,.tail _ (.head _),λk b l e1 e2=>.tail _ (.tail _ (r2.2 k b l e1 e2))⟩⟩
noncomputable def Nm (AB:List (List Nat)) (old new:List Nat) (kd:Int):List Nat:=new.filter λk=>(kd==1)||!(old.filter λo=>decide (o≠k)&&decide (o∈AB.getD k [])).isEmpty
noncomputable def sF (AB DE IH:List (List Nat)) (i:Nat) (named:List Nat):List Nat:=(Cn [] named).filter λk=>!decide (k∈Ln AB DE IH 4 i)
noncomputable def Xy (AB DE IH:List (List Nat)) (i:Nat) (named:List Nat) (kd:Int):List Nat:=
 Nm AB (DE.getD i []) (sF AB DE IH i named) kd++DE.getD i []++(sF AB DE IH i named).filter λk=>!decide (k∈Nm AB (DE.getD i []) (sF AB DE IH i named) kd)
theorem Yd (l:List Nat) (j:Nat):(nv l).any (· ==(j:Int))=decide (j∈l):=by
 rw [sU]
 by_cases h:j∈l
 ·rw [decide_eq_true h];simpa using h
 ·rw [decide_eq_false h];simpa using h
end
section
section
variable {Γ:Bm} {A:Az} {σ σ':Bc} {env:Env}
theorem Sp {o i u v:Ab} {k:Nat} {a:Am} {vs:List Ab} {Q:Unit->Bc->Prop} (ho:cl o=.ref a) (hi:cl i=.int (k:Int) 0) (hu:cl u=v) (U:Jf σ (.obj a) (.list vs) (.list (vs.set k v)) σ') (hk:k < vs.length) (hf:k < 1000000) (h:Q () σ'):
  T Γ A σ (setItem o i u) Q:=λs R=>by
 obtain⟨t,rfl⟩:=Fb hi
 have:=Ch ho
 subst this
 subst hu
 obtain⟨us,n,L,e⟩:=Ie R U.mem
 have hlen:=Ct e
 refine ki_setAt (n:=n) L (by lia) (by lia) (by lia) ⟨σ',Eg.changeS (s':={s with heap:=s.heap.update a _}) R U rfl (Dk ..).extBut rfl rfl ⟨_,_,L.update _,?_⟩,h⟩
 rw [Dj,Array.toList_setIfInBounds,Kx,e]
theorem tW {τ:List Av} {W:List Av} {L w fa ab sp de ih ol nl:Am} {i m:Nat} {kd:Int} {AB DE IH:List (List Nat)} {old new:List Nat} {nm:Option Ab} {Q:Ga->Bc->Prop} (wf:sD m AB DE IH) (hL:Zv τ w fa ab sp de ih AB DE IH) (hh:A.handled=Ae)
  (ho:(Ex.obj ol,CO.list (iv old))∈τ) (hn:(Ex.obj nl,CO.list (iv new))∈τ) (ln:new.length<=100) (lo:old.length<=100) (hnm:∀k∈new,k < m)
  (h:∀r,Q .next ⟨W,(.obj r,.list (iv (Nm AB old new kd)))::yB L w i kd (Ad (.ref ol)) (Ad (.ref r)) nm (Ad (.ref nl)) τ⟩):
  T Γ (A.deeper (Uf L)) ⟨W,yB L w i kd (Ad (.ref ol)) Ae nm (Ad (.ref nl)) τ⟩ (match(fBody (topStmt 27)).drop 4 with|st::_=>Ni st (Uf L)|_=>Et .next) Q:=by
 let U:List Av:=yB L w i kd (Ad (.ref ol)) Ae nm (Ad (.ref nl)) τ
 have up:∀{p:Av},p∈τ->p∈U:=λhp=>.tail _ (.tail _ (.tail _ (.tail _ (.tail _ (.tail _ (.tail _ hp))))))
 have m4:=wf.m4
 show T Γ (A.deeper (Uf L)) ⟨W,U⟩ _ _
 refine Gh rfl (vM (Ac (v:=.ref nl) (Ag (.tail _ (.tail _ (.tail _ (.tail _ (.tail _ (.tail _ (.head _)))))))) (Em (vs:=iv new) (Ag (up hn)) λit=>?_)))
 refine⟨it,_,_,_,_,_,⟨rfl,rfl,Ey (a:=nl) (vs:=iv new) hh⟩,Hc,λd ys σ=>d.length<=new.length/\ys=iv (Nm AB old (new.take d.length) kd)/\σ=⟨W,U⟩,⟨Cg _,rfl,rfl⟩,?_,?_,?_,?_⟩
 ·rintro d ys _ ext ⟨_,rfl,rfl⟩
  exact Ag (Aa _ (up hn))
 ·rintro d ys _ ⟨hd,rfl,rfl⟩
  rw [Bw,Ay]
  have:=By (λk=>(kd==1)||!(old.filter λo=>decide (o≠k)&&decide (o∈AB.getD k [])).isEmpty) (new.take d.length)
  rw [Fx]at this
  show(List.filter _ _).length<=_
  lia
 ·rintro C acc d v r ρ' _ _ he ⟨hd,rfl,rfl⟩
  obtain⟨a',j,b',e1,e2,rfl,_⟩:=Ro he
  have hj:=hnm j (by rw [e1];simp)
  have hdl:(d++[Fs (j:Int) 0]).length<=new.length:=by rw [Aj,e2,Bw,e1];simp
  have ht:new.take d.length=a':=by rw [e2,Bw,e1];simp
  have ht':new.take (d++[Fs (j:Int) 0]).length=a'++[j]:=by
   rw [Aj,e2,Bw,Br,e1,show a'++j::b'=(a'++[j])++b' by simp]
   exact Fn (by simp)
  rw [ht]
  have hx:∀b:Bool,((kd==1)||!(old.filter λo=>decide (o≠j)&&decide (o∈AB.getD j [])).isEmpty)=b->Nm AB old (a'++[j]) kd=Nm AB old a' kd++(if b then [j]else []):=by
   intro b hb
   unfold Nm
   rw [Ff,Gq,Ph,hb]
  have upc:∀{p:Av} o ys,p∈U->p∈ρ'++pD C acc o ys U:=λo ys hp=>Aa _ (.tail _ (.tail _ (.tail _ hp)))
  have done:∀b:Bool,((kd==1)||!(old.filter λo=>decide (o≠j)&&decide (o∈AB.getD j [])).isEmpty)=b->∀ρ₂,sH Γ (A.deeper (Uf L)) true false (Dv (.Name "k" ⟨335,13,335,14⟩) (Lp (match(fBody (topStmt 27)).drop 4 with|.Assign _ (.ListComp _ _ s _) _::_=>s|_=>fScope (topStmt 27)) [("world",L+1),("old",L+4),("kind",L+3)] C (Uf L)))
    (Adh ρ' (λo τ=>pD C acc o (iv (Nm AB old a' kd)) τ) (λys σ=>(d++[Fs (j:Int) 0]).length<=new.length/\ys=iv (Nm AB old (new.take (d++[Fs (j:Int) 0]).length) kd)/\σ=⟨W,U⟩) (iv (Nm AB old a' kd)))
    (Vl ρ' (λo τ=>pD C acc o (iv (Nm AB old a' kd)) τ) λσ=>(d++[Fs (j:Int) 0]).length<=new.length/\iv (Nm AB old a' kd)=iv (Nm AB old (new.take (d++[Fs (j:Int) 0]).length) kd)/\σ=⟨W,U⟩)
    b ⟨W,ρ₂++(ρ'++pD C acc (Ad (.int (j:Int) 0)) (iv (Nm AB old a' kd)) U)⟩:=by
   intro b hb ρ₂
   refine⟨λhbt=>?_,λhbf=>?_⟩
   ·subst hbt
    refine Aq (v:=.int (j:Int) 0) rfl (Ag (Aa _ (Aa _ (.tail _ (.head _))))) ⟨_,_,Ad (.int (j:Int) 0),Av.le_sub (Bs ρ₂ _),hdl,?_,rfl⟩
    rw [ht',hx true hb,if_pos rfl,<-Wq]
   ·subst hbf
    refine⟨_,_,Ad (.int (j:Int) 0),Av.le_sub (Bs ρ₂ _),hdl,?_,rfl⟩
    rw [ht',hx false hb,if_neg (by decide),Cr]
  refine Js (Ew (Qa (Au (Aq (v:=.int kd 0) rfl (Ag (upc _ _ (.tail _ (.tail _ (.head _))))) (Dh (Oc ⟨_,rfl,λhb=>?_,λhb=>?_⟩))))))
  ·refine Qa (Eo (Tx (Aq (v:=.ref ol) rfl (Ag (upc _ _ (.tail _ (.head _)))) (Em (vs:=iv old) (Ag (upc _ _ (up ho))) λit2=>?_))))
   let U2:List Av:=ρ'++pD C acc (Ad (.int (j:Int) 0)) (iv (Nm AB old a' kd)) U
   have up2:∀{p:Av},p∈τ->p∈U2:=λhp=>upc _ _ (up hp)
   let pf:Nat->Bool:=λo=>decide (o≠j)&&decide (o∈AB.getD j [])
   refine⟨it2,_,_,_,_,U2,⟨rfl,rfl,Ey (a:=ol) (vs:=iv old) hh⟩,Hc,λd ys σ=>d.length<=old.length/\ys=iv ((old.take d.length).filter pf)/\σ=⟨W,U2⟩,⟨Cg _,rfl,rfl⟩,?_,?_,?_,?_⟩
   ·rintro d ys _ ext ⟨_,rfl,rfl⟩
    exact Ag (Aa _ (up2 ho))
   ·rintro d ys _ ⟨hd,rfl,rfl⟩
    rw [Bw,Ay]
    have:=By pf (old.take d.length)
    rw [Fx]at this
    lia
   ·rintro C2 acc2 d2 v2 r2 ρ2 _ _ he2 ⟨hd2,rfl,rfl⟩
    obtain⟨a2,q,b2,g1,g2,rfl,_⟩:=Ro he2
    have hdl2:(d2++[Fs (q:Int) 0]).length<=old.length:=by rw [Aj,g2,Bw,g1];simp
    have k1:old.take d2.length=a2:=by rw [g2,Bw,g1];simp
    have k2:old.take (d2++[Fs (q:Int) 0]).length=a2++[q]:=by
     rw [Aj,g2,Bw,Br,g1,show a2++q::b2=(a2++[q])++b2 by simp]
     exact Fn (by simp)
    rw [k1]
    have hf:∀b:Bool,pf q=b->(a2++[q]).filter pf=a2.filter pf++(if b then [q]else []):=by
     intro b hb
     rw [Ff,Gq,Ph,hb]
    have up3:∀{p:Av},p∈U2->p∈ρ2++Tt C2 acc2 "other" (Ad (.int (q:Int) 0)) (iv (a2.filter pf)) U2:=λhp=>Aa _ (.tail _ (.tail _ hp))
    obtain⟨aas,abb,x1,x2,x3⟩:=hL.above.row (i:=j) (by rw [wf.lenA];exact hj)
    have ckC:(Ex.obj (C+1),CO.cell (Ad (.int (j:Int) 0)))∈U2:=Aa _ (.tail _ (.head _))
    refine Js (Ew (Fd (Au (Dm (v:=.int (q:Int) 0) (Ag (Aa _ (.head _))) (.head _) (Aq (v:=.int (j:Int) 0) rfl (Ag (up3 ckC)) (Adl ⟨_,rfl,λhb1=>?_,λhb1=>?_⟩))))))
    ·have hqj:q≠j:=by rintro rfl;simp at hb1
     refine Fd (Au (Dm (v:=.int (q:Int) 0) (Ag (Aa _ (.head _))) (.head _) (Bh (Bh (Aq (v:=.ref w) rfl (Ag (up3 (upc _ _ (.tail _ (.tail _ (.tail _ (.tail _ (.head _)))))))) (Kp (Ej (Ag (up3 (up2 hL.dict))) (v:=.ref ab) (by rfl) (Aq (v:=.int (j:Int) 0) rfl (Ag (up3 ckC)) (Gv<|Cp (vs:=aas.map .ref) (v:=.ref abb) (Ag (up3 (up2 x1))) (by lia) (by lia) x2 (rZ (ns:=nv (AB.getD j [])) (Ag (up3 (up2 x3))) ⟨_,rfl,λhb2=>?_,λhb2=>?_⟩))))))))))
     ·rw [Yd]at hb2
      have hp:pf q=true:=by show(decide (q≠j)&&decide (q∈AB.getD j []))=true;rw [hb2,decide_eq_true hqj];rfl
      refine Tp ⟨λ_=>Dm (v:=.int (q:Int) 0) (Ag (Aa _ (.head _))) (.head _) ⟨_,_,_,Av.le_refl _,hdl2,by rw [k2,hf true hp,if_pos rfl,<-Wq],rfl⟩,λhb=>(by cases hb)⟩
     ·rw [Yd]at hb2
      have hp:pf q=false:=by show(decide (q≠j)&&decide (q∈AB.getD j []))=false;rw [hb2,Bool.and_false]
      exact⟨λhb=>(by cases hb),λ_=>⟨_,_,_,Av.le_refl _,hdl2,by rw [k2,hf false hp,if_neg (by decide),Cr],rfl⟩⟩
    ·have hqj:q=j:=Int.ofNat.inj (by simpa using hb1)
     have hp:pf q=false:=by show(decide (q≠j)&&decide (q∈AB.getD j []))=false;rw [decide_eq_false (by simpa using hqj),Bool.false_and]
     exact⟨λhb=>(by cases hb),λ_=>⟨_,_,_,Av.le_refl _,hdl2,by rw [k2,hf false hp,if_neg (by decide),Cr],rfl⟩⟩
   rintro r2 ys _ ⟨_,rfl,rfl⟩
   have k3:old.take (iv old).length=old:=by rw [Bw];exact Es
   rw [k3]
   refine(Pa (vs:=iv (old.filter pf)) (Ag (.head _)) (by rw [Bw];have:=By pf old;lia) ?_)
   have hb':(kd==1)=false:=hb
   have hpe:(!(iv (old.filter pf)).isEmpty)=((kd==1)||!(old.filter λo=>decide (o≠j)&&decide (o∈AB.getD j [])).isEmpty):=by
    rw [hb',Bool.false_or]
    show(!(iv (old.filter pf)).isEmpty)=!(old.filter pf).isEmpty
    cases old.filter pf<;>rfl
   rw [hpe]
   refine⟨λhb=>Xc ?_,λhb=>?_⟩
   ·obtain⟨q1,q2⟩:=done _ hb [(.obj r2,.list (iv (old.filter pf)))]
    exact⟨λhb=>(by cases hb),λ_=>q2 rfl⟩
   ·obtain⟨q1,q2⟩:=done _ hb [(.obj r2,.list (iv (old.filter pf)))]
    exact⟨λ_=>q1 rfl,λhb=>(by cases hb)⟩
  ·have hb':(kd==1)=true:=hb
   obtain⟨q1,q2⟩:=done true (by rw [hb'];rfl) []
   exact⟨λ_=>q1 rfl,λhb=>(by cases hb)⟩
 rintro r ys _ ⟨_,rfl,rfl⟩
 have ht:new.take (iv new).length=new:=by rw [Bw];exact Es
 rw [ht]
 exact⟨_,_,.tau (.there .here),h r⟩
end
end
section
section
variable {Γ:Bm} {A:Az} {σ σ':Bc} {env:Env}
theorem bA (as:List Am) (i:Nat) (b:Am):(as.map Bx).set i (.ref b)=(as.set i b).map .ref:=by rw [Kx]
theorem xL {W τ τr:List Av} {w fa ab sp de ih nm:Am} {das has:List Am} {AB DE IH:List (List Nat)} {named:List Nat} {i m:Nat} {kd:Int} {Q:Ab->Bc->Prop} (wf:sD m AB DE IH) (hi:i < 4) (hd:(Ex.obj w,CO.sdict (Vs fa ab sp de ih))∈τ) (ha:LL τ ab AB) (hτr:∀p∈τr,p∈τ) (r1:Gz τr das DE) (r2:Gz τr has IH)
  (hn:(Ex.obj nm,CO.list (iv named))∈τ) (ln:named.length<=3) (hnm:∀k∈named,k < m) (hA:Rm A 10) (hh:A.handled=Ae)
  (h0:kd=2->∀das' has' ρ,Gz (ρ++τr) das' (DE.set i (Cn [] named))->Gz (ρ++τr) has' (IH.set i [])->Q .none ⟨W,Jv de ih das' has' (ρ++τ)⟩)
  (h1:kd≠2->∀das' ρ,Gz (ρ++τr) das' (DE.set i (Xy AB DE IH i named kd))->Q .none ⟨W,Jv de ih das' has (ρ++τ)⟩):
  ∀ws,ws.map cl=[.ref w,.int (i:Int) 0,.ref nm,.int kd 0]->TC Γ A ⟨W,Jv de ih das has τ⟩ (.ref 490) ws [] Q:=λws hw=>by
 refine Wm (body:=fBody (topStmt 27)) (bs:=[("world",.ref w),("one",.int (i:Int) 0),("named",.ref nm),("kind",.int kd 0)]) ["named","new"] (wZ Γ) (by kernel_rfl) hA.room ?_ (λL=>?_) (by rfl) (by decide) (by decide) (by rfl) (by rfl) (by rfl) ws [] hw rfl
 ·intro ws kws hw hk
  obtain⟨w₁,w₂,w₃,w₄,rfl,e1,e2,e3,e4⟩:=aH hw
  have:kws=[]:=by simpa using hk
  subst this
  exact⟨[("world",w₁),("one",w₂),("named",w₃),("kind",w₄)],by simp [e1,e2,e3,e4],λs X=>Cm (by rfl)⟩
 let S:List Av:=Jv de ih das has τ
 show T Γ (A.deeper (Uf L)) ⟨W,yB L w i kd Ae Ae (Ad (.ref nm)) Ae S⟩ (Cs _ (Uf L)) _
 have hA':Rm (A.deeper (Uf L)) 9:=hA.deeper
 have hLS:Zv S w fa ab sp de ih AB DE IH:=lE hd ha (r1.sub hτr) (r2.sub hτr)
 have upS:∀{p:Av},p∈τ->p∈S:=λhp=>.tail _ (.tail _ hp)
 have up:∀{p:Av} oc ac nw,p∈S->p∈yB L w i kd oc ac (Ad (.ref nm)) nw S:=λoc ac nw hp=>.tail _ (.tail _ (.tail _ (.tail _ (.tail _ (.tail _ (.tail _ hp))))))
 have hdl:das.length=4:=by rw [r1.1,wf.lenD]
 have hhl:has.length=4:=by rw [r2.1,wf.lenI]
 have hldn:=Ot named []
 by_cases q:kd=2
 ·subst q
  refine Ao (Gh rfl (Qi (Au (Aq (v:=.int 2 0) rfl (Ag (.tail _ (.tail _ (.head _)))) (Dh (Oc ⟨_,rfl,λ_=>?_,λhb=>(by cases hb)⟩))))))
  refine Ic (Ar ⟨by rw [Ay];exact Cg _,λol=>⟨_,_,.tau (.there (.there .here)),?_⟩⟩)
  refine Fh.go ?_
  refine Ao (Bo (Cf (Bn (v:=.ref 473) (by kernel_rfl) ⟨.inl (by kernel_rfl),?_⟩)))
  refine Ai (Ac (v:=.ref nm) (Ag (.tail _ (.tail _ (.tail _ (.tail _ (.tail _ (.tail _ (.head _)))))))) (Ar λws hw=>(Un (ns:=nv named) (hA'.le (by decide)) hh (Ag (.tail _ (up _ _ _ (upS hn)))) (by rw [Ma];lia) (λnl=>?_) ws hw).T))
  rw [Sv]
  refine⟨_,_,.tau (.there (.there (.there (.there (.there (.there (.there (.there .here)))))))),?_⟩
  refine Fh.go ?_
  refine Ao (Hz (Au (Aq (v:=.int 2 0) rfl (Ag (.tail _ (.tail _ (.tail _ (.tail _ (.head _)))))) (Dh (Oc ⟨_,rfl,λ_=>?_,λhb=>(by cases hb)⟩)))))
  refine Ao (Lg (Ic (Ar ⟨by rw [Ay];exact Cg _,λel=>?_⟩)))
  refine Bh (Aq (v:=.ref w) rfl (Ag (.tail _ (.tail _ (.tail _ (.tail _ (.tail _ (.tail _ (.tail _ (.head _))))))))) (Kp (Ej (Ag (.tail _ (.tail _ (.tail _ (up _ _ _ (upS hd)))))) (v:=.ref ih) (by rfl) ?_)))
  refine Aq (v:=.int (i:Int) 0) rfl (Ag (.tail _ (.tail _ (.tail _ (.tail _ (.tail _ (.tail _ (.head _)))))))) λv ov iv' hv ho hi'=>Sp (vs:=has.map .ref) ho hi' hv (.tau (.there (.there (.there (.there (.there (.there (.there (.there (.there (.there (.there .here)))))))))))) (by rw [As];lia) (by lia) ?_
  refine Fh.go ?_
  refine Ao (Lg (Ac (v:=.ref nl) (Ag (.tail _ (.tail _ (.tail _ (.tail _ (.tail _ (.tail _ (.tail _ (.tail _ (.tail _ (.head _))))))))))) ?_))
  refine Bh (Aq (v:=.ref w) rfl (Ag (.tail _ (.tail _ (.tail _ (.tail _ (.tail _ (.tail _ (.tail _ (.head _))))))))) (Kp (Ej (Ag (.tail _ (.tail _ (.tail _ (.tail _ (.tail _ (.tail _ (.tail _ (.tail _ (.tail _ (.tail _ (.tail _ (.tail _ hd))))))))))))) (v:=.ref de) (by rfl) ?_)))
  refine Aq (v:=.int (i:Int) 0) rfl (Ag (.tail _ (.tail _ (.tail _ (.tail _ (.tail _ (.tail _ (.head _)))))))) λv ov iv' hv ho hi'=>Sp (vs:=das.map .ref) ho hi' hv (.tau (.there (.there (.there (.there (.there (.there (.there (.there (.there (.there .here))))))))))) (by rw [As];lia) (by lia) ?_
  refine Fh.go ?_
  refine Ao (dT ?_)
  rw [bA,bA]
  have hsub:∀p∈τr,p∈[(Ex.obj el,CO.list (iv [])),(Ex.obj nl,CO.list (iv (Cn [] named)))]++τr:=λp hp=>Aa _ hp
  refine⟨_,?_,h0 rfl (das.set i nl) (has.set i el) [(.obj el,.list (iv [])),(.obj nl,.list (iv (Cn [] named)))] ((r1.sub hsub).set (.tail _ (.head _))) ((r2.sub hsub).set (.head _))⟩
  refine Av.le_trans (b:=⟨W,(.obj el,.list [])::(.obj nl,.list (iv (Cn [] named)))::Jv de ih (das.set i nl) (has.set i el) τ⟩) (Av.le_perm (Bf W ?_)) (Av.le_sub (.cons_cons _ (.cons_cons _ (.cons _ (.cons _ (.cons _ (.cons _ (.cons _ (.cons _ (.cons _ (.cons _ (.refl _))))))))))))
  have pm:∀(a b c d:Av),(c::d::a::b::τ).Perm (a::b::c::d::τ):=λa b c d=>by
   have:=Eb τ (Fa (l₁:=[c,d]) (l₂:=[a,b]))
   exact this
  first
   |exact pm _ _ _ _
   |exact(pm _ _ _ _).symm
 ·have hwd:(kd==2)=false:=by simpa using q
  obtain⟨das1,db,d1,d2,d3⟩:=hLS.decl.row (i:=i) (by rw [wf.lenD];lia)
  have m4:=wf.m4
  have hD4:=wf.D4 i
  refine Ao (Gh rfl (Qi (Au (Aq (v:=.int kd 0) rfl (Ag (.tail _ (.tail _ (.head _)))) (Dh (Oc ⟨_,rfl,λhb=>(by rw [hwd]at hb;cases hb),λ_=>?_⟩))))))
  refine Bh (Bh (Aq (v:=.ref w) rfl (Ag (.tail _ (.tail _ (.tail _ (.tail _ (.head _)))))) (Kp (Ej (Ag (up _ _ _ (upS hd))) (v:=.ref de) (by rfl) (Aq (v:=.int (i:Int) 0) rfl (Ag (.tail _ (.tail _ (.tail _ (.head _))))) (Gv<|Cp (vs:=das1.map .ref) (v:=.ref db) (Ag (up _ _ _ d1)) (by lia) (by lia) d2 ⟨_,_,.tau (.there .here),?_⟩))))))
  refine Fh.go ?_
  refine Ao (Bo (Cf (Bn (v:=.ref 473) (by kernel_rfl) ⟨.inl (by kernel_rfl),?_⟩)))
  refine Ai (Ac (v:=.ref nm) (Ag (.tail _ (.tail _ (.tail _ (.tail _ (.tail _ (.head _))))))) (Ar λws hw=>(Un (ns:=nv named) (hA'.le (by decide)) hh (Ag (up _ _ _ (upS hn))) (by rw [Ma];lia) (λnl0=>?_) ws hw).T))
  rw [Sv]
  refine⟨_,_,.tau (.there (.there (.there (.there (.there (.there (.there .here))))))),?_⟩
  refine Fh.go ?_
  refine Ao (Hz (Au (Aq (v:=.int kd 0) rfl (Ag (.tail _ (.tail _ (.tail _ (.head _))))) (Dh (Oc ⟨_,rfl,λhb=>(by rw [hwd]at hb;cases hb),λ_=>?_⟩)))))
  refine Cq ?_
  refine Fh.go ?_
  let Y0:List Av:=(.obj nl0,.list (iv (Cn [] named)))::yB L w i kd (Ad (.ref db)) Ae (Ad (.ref nm)) (Ad (.ref nl0)) S
  show T Γ (A.deeper (Uf L)) ⟨W,Y0⟩ _ _
  have hL0:Zv Y0 w fa ab sp de ih AB DE IH:=hLS.sub λp hp=>.tail _ (up _ _ _ hp)
  let pf:Nat->Bool:=λk=>!decide (k∈Ln AB DE IH 4 i)
  refine Ao (Nx (Ac (v:=.ref nl0) (Ag (.tail _ (.tail _ (.tail _ (.tail _ (.tail _ (.tail _ (.tail _ (.head _))))))))) (Em (vs:=iv (Cn [] named)) (Ag (.head _)) λit=>?_)))
  refine⟨it,_,_,_,_,Y0,⟨rfl,rfl,Ey (a:=nl0) (vs:=iv (Cn [] named)) hh⟩,Hc,λd ys σ=>d.length<=(Cn [] named).length/\ys=iv (((Cn [] named).take d.length).filter pf)/\σ=⟨W,Y0⟩,⟨Cg _,rfl,rfl⟩,?_,?_,?_,?_⟩
  ·rintro d ys _ ext ⟨_,rfl,rfl⟩
   exact Ag (Aa _ (.head _))
  ·rintro d ys _ ⟨hd,rfl,rfl⟩
   rw [Bw,Ay]
   have:=By pf ((Cn [] named).take d.length)
   rw [Fx]at this
   lia
  ·rintro C acc d v r ρ' _ _ he ⟨hd,rfl,rfl⟩
   obtain⟨a',j,b',e1,e2,rfl,_⟩:=Ro he
   have hdl':(d++[Fs (j:Int) 0]).length<=(Cn [] named).length:=by rw [Aj,e2,Bw,e1];simp
   have ht:(Cn [] named).take d.length=a':=by rw [e2,Bw,e1];simp
   have ht':(Cn [] named).take (d++[Fs (j:Int) 0]).length=a'++[j]:=by
    rw [Aj,e2,Bw,Br,e1,show a'++j::b'=(a'++[j])++b' by simp]
    exact Fn (by simp)
   rw [ht]
   have hf:∀b:Bool,pf j=b->(a'++[j]).filter pf=a'.filter pf++(if b then [j]else []):=by
    intro b hb
    rw [Ff,Gq,Ph,hb]
   let U2:List Av:=ρ'++Tt C acc "k" (Ad (.int (j:Int) 0)) (iv (a'.filter pf)) Y0
   have up2:∀{p:Av},p∈Y0->p∈U2:=λhp=>Aa _ (.tail _ (.tail _ hp))
   have hL2:Zv U2 w fa ab sp de ih AB DE IH:=hL0.sub λp hp=>up2 hp
   show T Γ (A.deeper (Uf L)) ⟨W,U2⟩ _ _
   refine Js (Au (Dm (v:=.int (j:Int) 0) (Ag (Aa _ (.head _))) (.head _) (Cf (Bn (v:=.ref 478) (by kernel_rfl) ⟨.inl (by kernel_rfl),?_⟩))))
   refine Ai (Aq (v:=.ref w) rfl (Ag (up2 (.tail _ (.tail _ (.tail _ (.tail _ (.tail _ (.head _)))))))) (Ai (Aq (v:=.int (i:Int) 0) rfl (Ag (up2 (.tail _ (.tail _ (.tail _ (.tail _ (.head _))))))) (Ar λws hw=>(tD wf 4 hi (by decide) hL2 (hA'.le (by decide)) hh (λr3=>?_) ws hw).T))))
   refine(Ue (ns:=nv (Ln AB DE IH 4 i)) (Ag (.head _)) ⟨_,rfl,λhb=>?_,λhb=>?_⟩)
   ·rw [Yd]at hb
    exact Dm (v:=.int (j:Int) 0) (Ag (.tail _ (Aa _ (.head _)))) (.head _) ⟨W,Y0,_,Av.le_sub (.cons _ (.refl _)),hdl',by rw [ht',hf true hb,if_pos rfl,<-Wq],rfl⟩
   ·rw [Yd]at hb
    exact⟨W,Y0,_,Av.le_sub (.cons _ (.refl _)),hdl',by rw [ht',hf false hb,if_neg (by decide),Cr],rfl⟩
  rintro nl ys _ ⟨_,rfl,rfl⟩
  have ht:(Cn [] named).take (iv (Cn [] named)).length=Cn [] named:=by rw [Bw];exact Es
  rw [ht]
  refine⟨_,_,.tau (.there (.there (.there (.there (.there (.there (.there (.there .here)))))))),?_⟩
  refine Fh.go ?_
  let N:List Nat:=sF AB DE IH i named
  have lN:N.length<=3:=by
   have:=By pf (Cn [] named)
   show(List.filter pf (Cn [] named)).length<=3
   lia
  have hNm:∀k∈N,k < m:=λk hk=>hnm k (Mr _ _ k (Cw.mp hk).1).1
  let τ2:List Av:=(.obj nl,.list (iv N))::(.obj nl0,.list (iv (Cn [] named)))::S
  refine T.conseq (σ':=⟨W,yB L w i kd (Ad (.ref db)) Ae (Ad (.ref nm)) (Ad (.ref nl)) τ2⟩) (Av.le_perm (Bf W ?_)) ?_
  ·exact Eb S (Fa (l₁:=[_,_]) (l₂:=[_,_,_,_,_,_,_]))
  have up2:∀{p:Av},p∈S->p∈τ2:=λhp=>.tail _ (.tail _ hp)
  refine Ao (tW (τ:=τ2) (ol:=db) (nl:=nl) (old:=DE.getD i []) (new:=N) wf (hLS.sub λp hp=>up2 hp) hh (up2 d3) (.head _) (by lia) (by lia) hNm λah=>?_)
  refine Fh.go ?_
  let AH:List Nat:=Nm AB (DE.getD i []) N kd
  have lAH:AH.length<=3:=Ca (By _ _) lN
  let Y3:List Av:=(.obj ah,.list (iv AH))::yB L w i kd (Ad (.ref db)) (Ad (.ref ah)) (Ad (.ref nm)) (Ad (.ref nl)) τ2
  show T Γ (A.deeper (Uf L)) ⟨W,Y3⟩ _ _
  refine Ao (Lg (En (En (Aq (v:=.ref ah) rfl (Ag (.tail _ (.head _))) (Aq (v:=.ref db) rfl (Ag (.tail _ (.tail _ (.head _)))) (Xg (vs:=iv AH) (us:=iv (DE.getD i [])) (Ag (.head _)) (Ag (.tail _ (.tail _ (.tail _ (.tail _ (.tail _ (.tail _ (.tail _ (.tail _ (up2 d3)))))))))) (by rw [Bw,Bw];lia) λc1=>?_))))))
  rw [<-Tl]
  let Y4:List Av:=(.obj c1,.list (iv (AH++DE.getD i [])))::Y3
  show T Γ (A.deeper (Uf L)) ⟨W,Y4⟩ _ _
  let pg:Nat->Bool:=λk=>!decide (k∈AH)
  refine Tx (Ac (v:=.ref nl) (Ag (.tail _ (.tail _ (.tail _ (.tail _ (.tail _ (.tail _ (.tail _ (.tail _ (.head _)))))))))) (Em (vs:=iv N) (Ag (.tail _ (.tail _ (.tail _ (.tail _ (.tail _ (.tail _ (.tail _ (.tail _ (.tail _ (.head _))))))))))) λit=>?_))
  refine⟨it,_,_,_,_,Y4,⟨rfl,rfl,Ey (a:=nl) (vs:=iv N) hh⟩,Hc,λd ys σ=>d.length<=N.length/\ys=iv ((N.take d.length).filter pg)/\σ=⟨W,Y4⟩,⟨Cg _,rfl,rfl⟩,?_,?_,?_,?_⟩
  ·rintro d ys _ ext ⟨_,rfl,rfl⟩
   exact Ag (Aa _ (.tail _ (.tail _ (.tail _ (.tail _ (.tail _ (.tail _ (.tail _ (.tail _ (.tail _ (.head _)))))))))))
  ·rintro d ys _ ⟨hd,rfl,rfl⟩
   rw [Bw,Ay]
   have:=By pg (N.take d.length)
   rw [Fx]at this
   lia
  ·rintro C acc d v r ρ' _ _ he ⟨hd,rfl,rfl⟩
   obtain⟨a',j,b',e1,e2,rfl,_⟩:=Ro he
   have hdl':(d++[Fs (j:Int) 0]).length<=N.length:=by rw [Aj,e2,Bw,e1];simp
   have ht:N.take d.length=a':=by rw [e2,Bw,e1];simp
   have ht':N.take (d++[Fs (j:Int) 0]).length=a'++[j]:=by
    rw [Aj,e2,Bw,Br,e1,show a'++j::b'=(a'++[j])++b' by simp]
    exact Fn (by simp)
   rw [ht]
   have hf:∀b:Bool,pg j=b->(a'++[j]).filter pg=a'.filter pg++(if b then [j]else []):=by
    intro b hb
    rw [Ff,Gq,Ph,hb]
   refine Js (Au (Dm (v:=.int (j:Int) 0) (Ag (Aa _ (.head _))) (.head _) (Aq (v:=.ref ah) rfl (Ag (Aa _ (.tail _ (.tail _ (.tail _ (.tail _ (.head _))))))) (Ue (ns:=nv AH) (Ag (Aa _ (.tail _ (.tail _ (.tail _ (.head _)))))) ⟨_,rfl,λhb=>?_,λhb=>?_⟩))))
   ·rw [Yd]at hb
    exact Dm (v:=.int (j:Int) 0) (Ag (Aa _ (.head _))) (.head _) ⟨W,Y4,_,Av.le_refl _,hdl',by rw [ht',hf true hb,if_pos rfl,<-Wq],rfl⟩
   ·rw [Yd]at hb
    exact⟨W,Y4,_,Av.le_refl _,hdl',by rw [ht',hf false hb,if_neg (by decide),Cr],rfl⟩
  rintro c2 ys _ ⟨_,rfl,rfl⟩
  have ht2:N.take (iv N).length=N:=by rw [Bw];exact Es
  rw [ht2]
  have lg:=By pg N
  refine(Xg (vs:=iv (AH++DE.getD i [])) (us:=iv (N.filter pg)) (Ag (.tail _ (.head _))) (Ag (.head _)) (by rw [Bw,Bw,Aj];lia) λrr=>?_)
  rw [<-Tl]
  refine Bh (Aq (v:=.ref w) rfl (Ag (.tail _ (.tail _ (.tail _ (.tail _ (.tail _ (.tail _ (.tail _ (.tail _ (.head _)))))))))) (Kp (Ej (Ag (.tail _ (.tail _ (.tail _ (.tail _ (.tail _ (.tail _ (.tail _ (.tail _ (.tail _ (.tail _ (.tail _ (up2 (upS hd)))))))))))))) (v:=.ref de) (by rfl) ?_)))
  refine Aq (v:=.int (i:Int) 0) rfl (Ag (.tail _ (.tail _ (.tail _ (.tail _ (.tail _ (.tail _ (.tail _ (.head _))))))))) λv ov iv' hv ho hi'=>Sp (vs:=das.map .ref) ho hi' hv (.tau (.there (.there (.there (.there (.there (.there (.there (.there (.there (.there (.there (.there (.there .here)))))))))))))) (by rw [As];lia) (by lia) ?_
  refine Fh.go (Cq ?_)
  rw [bA]
  have hsub:∀p∈τr,p∈[(Ex.obj rr,CO.list (iv (Xy AB DE IH i named kd)))]++τr:=λp hp=>Aa _ hp
  refine⟨_,?_,h1 q (das.set i rr) [(.obj rr,.list (iv (Xy AB DE IH i named kd)))] ((r1.sub hsub).set (.head _))⟩
  refine Av.le_trans (b:=⟨W,(.obj rr,.list (iv (Xy AB DE IH i named kd)))::Jv de ih (das.set i rr) has τ⟩) (Av.le_perm (Bf W ?_)) (Av.le_sub (.cons_cons _ (.cons _ (.cons _ (.cons _ (.cons _ (.cons _ (.cons _ (.cons _ (.cons _ (.cons _ (.cons _ (.cons _ (.cons _ (.refl _)))))))))))))))
  have pm:∀(a b c:Av),(c::a::b::τ).Perm (a::b::c::τ):=λa b c=>Eb τ (Fa (l₁:=[c]) (l₂:=[a,b]))
  first
   |exact pm _ _ _
   |exact(pm _ _ _).symm
end
end
section
section
variable {Γ:Bm} {A:Az} {G:List Nd} {W:List Av}
theorem jO {τ:List Av} {js:List Nat} (nf:NF W G) (hjs:∀j∈js,j < G.length) (hz:js.length<=1000):iC Γ G W τ (Ap G js) js:=by
 intro A τ' t Q hA hh _ ht h
 exact Xm nf (hA.le (by decide)) hh (.inr ht) hjs hz h
theorem jP {q:Am} {js:List Nat} (nf:NF W G) (hjs:∀j∈js,j < G.length):Zg Γ G W 2 (.ref q) js (λτ=>Fc Γ ⟨W,τ⟩ q (Ap G js)/\True):=by
 have e:=Va js
 have this:Zg Γ G W 2 (.ref q) (js.map λj=>[j]).flatten (λτ=>Fc Γ ⟨W,τ⟩ q (Ap G js)/\True):=cH (Γ:=Γ) (G:=G) (W:=W) (a:=q) (vs:=Ap G js) (jss:=js.map λj=>[j]) (n:=1) (S:=λ_=>True) (λ_ _ _=>trivial) (by simp [Ap]) (λk v js' h1 h2=>by
  rw [Bg,Db]at h2
  obtain⟨j,hj,rfl⟩:=h2
  obtain⟨j',hj',rfl⟩:=iL h1
  rw [hj]at hj'
  cases hj'
  obtain⟨x,ex⟩:=Dp (hjs j (Fj hj))
  rw [Bu ex]
  exact Ux nf ex)
 rw [e]at this
 exact @this
theorem lX {τ:List Av} {p q:Am} {j0:Nat} {js:List Nat} {x:Nd} (nf:NF W G) (hj0:G[j0]? =Ad x) (hjs:∀j∈js,j < G.length) (hz:js.length<=900) (hp:Fc Γ ⟨W,τ⟩ p [.ref x.me,.ref q]) (hq:Fc Γ ⟨W,τ⟩ q (Ap G js)):iC Γ G W τ [.ref p] (j0::js):=by
 intro A τ' t Q hA hh ⟨ρ,e⟩ ht h
 subst e
 have h2:Zg Γ G W 3 (.ref p) ([[j0],js].flatten) (λτ=>Fc Γ ⟨W,τ⟩ p [.ref x.me,.ref q]/\(Fc Γ ⟨W,τ⟩ q (Ap G js)/\True)):=by
  refine cH (n:=2) (S:=λτ=>Fc Γ ⟨W,τ⟩ q (Ap G js)/\True) (λρ τ h=>⟨h.1.ext,trivial⟩) rfl λk v js' h1 h2=>?_
  match k,h1,h2 with
  |0,h1,h2=>
   cases h1;cases h2
   intro A τ' o acc Q b1 b2 b3 b4 b5 b6
   exact Ux nf hj0 (b1.le (by decide)) b2 b3 (λ_=>trivial) b5 b6
  |1,h1,h2=>
   cases h1;cases h2
   intro A τ' o acc Q b1 b2 b3 b4 b5 b6
   exact jP nf hjs b1 b2 b3 b4 b5 b6
 have e2:[[j0],js].flatten=j0::js:=by simp
 rw [e2]at h2
 have:=cI (Γ:=Γ) (A:=A) (G:=G) (W:=W) (τ:=ρ++τ) (a:=t) (vs:=[.ref p]) (jss:=[j0::js]) (n:=3) (Q:=Q) (S:=λτ=>Fc Γ ⟨W,τ⟩ p [.ref x.me,.ref q]/\(Fc Γ ⟨W,τ⟩ q (Ap G js)/\True)) (hA.le (by decide)) hh (.inr ht) ⟨hp.ext,hq.ext,trivial⟩ (λρ τ h=>⟨h.1.ext,h.2.1.ext,trivial⟩) rfl (λk v js' h1 h3=>by
  match k,h1,h3 with
  |0,h1,h3=>
   cases h1;cases h3
   exact @h2) (by simp;lia)
 simp only [List.flatten_cons,List.flatten_nil,Cr]at this
 exact this h
end
end
section
theorem wX (Γ:Bm):Γ.K.lookup 507=Ad ⟨.type "function",Ae,.func (Kh Γ 507 "_law_told" (topStmt 30) (.ref 506) .none),#[]⟩:=by kernel_rfl
noncomputable abbrev Nj (L:Am):Env:=Gs "_law_told" (fScope (topStmt 30)) L 507 (.ref 506) []
noncomputable abbrev Zu (L me rw:Am) (kd:Int) (wh:Bool) (τ:List Av):List Av:=(.var L "spec",.val (Ad (.ref me)))::(.var L "row",.val (Ad (.ref rw)))::(.var L "kind",.val (Ad (.int kd 0)))::(.var L "whole",.val (Ad (.bool wh)))::τ
section
variable {Γ:Bm} {A:Az} {G:List Nd} {X:List Av}
theorem Yj {τ:List Av} {js:List Nat} {i:Nat} (wd:Wd G X) (hil:i < G.length) (hjs:∀j∈js,0 < j/\j < i) (lj:js.length<=3):iC Γ G (Bl G++X) τ (Ap G js) js:=jO wd.wx.nf (λj hj=>by have:=(hjs j hj).2;lia) (by lia)
theorem Tc {A:Az} {σ:Bc} {env:Env} {e:At} {Q:Ab->Bc->Prop} (h:T Γ A σ (Dv e env) Q):T Γ A σ (evalPart (Ad e) env) Q:=h
theorem zH (v:Ab) (vs:List Ab):Um (v::vs) (Ad 1) Ae=vs:=by
 unfold Um
 have:clipAt (v::vs).length 1=1:=by
  exact(clipAt_nat _ 1).trans (Nat.min_eq_left (Jx (Cg _)))
 simp only [Option.elim_some,Option.elim_none,this,List.drop_succ_cons,List.drop_zero]
 rw [Fy,Nat.add_sub_cancel,Es]
theorem zE {τ:List Av} {L rw:Am} {i:Nat} {x:Nd} {js jd hs:List Nat} {Q:Ab->Bc->Prop} {wh:Bool} (wd:Wd G X) (sok:∀j,j < G.length->Uk G j) (hi:G[i]? =Ad x) (hi0:0 < i) (hC:x.C=427) (hd:Mx X x.decl (Ap G jd)) (hn:Pt X x.inh (Ap G hs)) (hhl:x.inh=Ae\/x.inh=Ad .none->hs=[])
  (hrw:(Ex.obj rw,CO.list (Ap G js))∈τ) (l1:0 < js.length) (l3:js.length<=3) (hjs:∀j∈js,0 < j/\j < i) (hjd:∀j∈jd,j < i) (hhs:∀j∈hs,j < i) (ld:jd.length<=20) (lh:hs.length<=20) (hA:Rm (A.deeper (Nj L)) 32) (hh:A.handled=Ae) (hF:AF A ⟨[],τ⟩)
  (h:∀j,js.head?=Ad j->lA G X τ i x (Mi G i [j] jd []) (Mi G i [j] jd []++Cn (Mi G i [j] jd []) hs) x.inh Q):
  T Γ (A.deeper (Nj L)) ⟨Bl G++X,Zu L x.me rw 1 wh τ⟩ (Cs (fBody (topStmt 30)) (Nj L)) (Jh Q):=by
 have nf:=wd.wx.nf
 have hil:=(Al.mp hi).1
 have lc:∀j,j < G.length->j≠i->dE G j:=λj hj _=>Rn wd.gr (Cb _) sok hj
 have up:∀{p:Av},p∈τ->p∈Zu L x.me rw 1 wh τ:=λhp=>.tail _ (.tail _ (.tail _ (.tail _ hp)))
 have hFV:AF (A.deeper (Nj L)) ⟨[],Zu L x.me rw 1 wh τ⟩:=hF.push rfl rfl (L:=L) (x:="spec") (c:=Ad (.ref x.me)) (.head _) λp hp=>up hp
 obtain⟨a,r,hj⟩:∃a r,js=a::r:=by cases js with|nil=>simp at l1|cons a r=>exact⟨a,r,rfl⟩
 obtain⟨ya,eya⟩:=Dp (show a < G.length by have:=(hjs a (by rw [hj];exact .head _)).2;lia)
 refine Ao (Hz (Au (Ac (v:=.int 1 0) (Ag (.tail _ (.tail _ (.head _)))) (Dh (Oc ⟨_,rfl,λ_=>?_,λhb=>(by cases hb)⟩)))))
 refine Ao (Gf (Cf (Bn (v:=.ref 450) (by kernel_rfl) ⟨.inl (by kernel_rfl),?_⟩)))
 refine Ai (Ac (v:=.ref x.me) (Ag (.head _)) ?_)
 refine Ai (Bh (Ac (v:=.ref rw) (Ag (.tail _ (.head _))) (Dh (Cp (vs:=Ap G js) (v:=.ref ya.me) (Ag (up hrw)) (by decide) (by decide) (by subst hj;simp [Ap,Bu eya]) ?_))))
 refine Ar λws hw=>(Afd (τ:=Zu L x.me rw 1 wh τ) (jd:=jd) (hs:=hs) wd lc hi eya (hjs a (by rw [hj];exact .head _)) hC hd hn hhl hjd hhs ld lh hA hh hFV (λG' X' t' bt w1 w2 w3 w4 w5=>?_) ws hw).T
 refine Fh.go (Cq ?_)
 refine Fh.go (Cq ?_)
 exact⟨_,Av.le_sub (Bs [_,_,_,_] τ),h a (by rw [hj];rfl) G' X' t' bt w1 w2 w3 w4 w5⟩
theorem wA {τ:List Av} {L rw:Am} {i:Nat} {x:Nd} {js jd hs:List Nat} {Q:Ab->Bc->Prop} (wd:Wd G X) (sok:∀j,j < G.length->Uk G j) (hi:G[i]? =Ad x) (hi0:0 < i) (hC:x.C=427) (hd:Mx X x.decl (Ap G jd)) (hn:Pt X x.inh (Ap G hs)) (hhl:x.inh=Ae\/x.inh=Ad .none->hs=[])
  (hrw:(Ex.obj rw,CO.list (Ap G js))∈τ) (l1:0 < js.length) (l3:js.length<=3) (hjs:∀j∈js,0 < j/\j < i) (hjd:∀j∈jd,j < i) (hhs:∀j∈hs,j < i) (ld:jd.length<=20) (lh:hs.length<=20) (hA:Rm (A.deeper (Nj L)) 32) (hh:A.handled=Ae) (hF:AF A ⟨[],τ⟩)
  (h:lA G X τ i x (Mi G i (js.filter (Hp G jd)) jd (js.filter λj=>!Hp G jd j)) ((Mi G i (js.filter (Hp G jd)) jd (js.filter λj=>!Hp G jd j))++Cn (Mi G i (js.filter (Hp G jd)) jd (js.filter λj=>!Hp G jd j)) hs) x.inh Q):
  T Γ (A.deeper (Nj L)) ⟨Bl G++X,Zu L x.me rw 0 true τ⟩ (Cs (fBody (topStmt 30)) (Nj L)) (Jh Q):=by
 have nf:=wd.wx.nf
 have hil:=(Al.mp hi).1
 have lc:∀j,j < G.length->j≠i->dE G j:=λj hj _=>Rn wd.gr (Cb _) sok hj
 have up:∀{p:Av},p∈τ->p∈Zu L x.me rw 0 true τ:=λhp=>.tail _ (.tail _ (.tail _ (.tail _ hp)))
 have hFV:AF (A.deeper (Nj L)) ⟨[],Zu L x.me rw 0 true τ⟩:=hF.push rfl rfl (L:=L) (x:="spec") (c:=Ad (.ref x.me)) (.head _) λp hp=>up hp
 obtain⟨a,r,hj⟩:∃a r,js=a::r:=by cases js with|nil=>simp at l1|cons a r=>exact⟨a,r,rfl⟩
 obtain⟨ya,eya⟩:=Dp (show a < G.length by have:=(hjs a (by rw [hj];exact .head _)).2;lia)
 have hrr:Ap G js=.ref ya.me::Ap G r:=by rw [hj];simp [Ap,Bu eya]
 refine Ao (Hz (Au (Ac (v:=.int 0 0) (Ag (.tail _ (.tail _ (.head _)))) (Dh (Oc ⟨_,rfl,λhb=>(by cases hb),λ_=>?_⟩)))))
 refine Ao (Hz (Ew (Fd (Au (Ac (v:=.int 0 0) (Ag (.tail _ (.tail _ (.head _)))) (Dh (Oc ⟨_,rfl,λ_=>?_,λhb=>(by cases hb)⟩)))))))
 refine Fd (Eo (Ac (v:=.bool true) (Ag (.tail _ (.tail _ (.tail _ (.head _))))) (Fi ⟨λ_=>?_,λhb=>(by cases hb)⟩)))
 refine Tp ⟨λ_=>?_,λhb=>(by cases hb)⟩
 refine Ao (Gf (Cf (Bn (v:=.ref 443) (by kernel_rfl) ⟨.inl (by kernel_rfl),?_⟩)))
 refine Ai (Ac (v:=.ref x.me) (Ag (.head _)) ?_)
 refine Ai (Kr (k:=0) ?_)
 refine Ai (Bh (Ac (v:=.ref rw) (Ag (.tail _ (.head _))) (Dh (Cp (vs:=Ap G js) (v:=.ref ya.me) (Ag (up hrw)) (by decide) (by decide) (by subst hj;simp [Ap,Bu eya]) ?_))))
 refine Ai (Cf (Bd (v:=.type "tuple") (by kernel_rfl) (by decide+kernel) (by decide) ⟨.inr (.inr ⟨_,rfl⟩),?_⟩))
 refine Ai (gD (Ac (v:=.ref rw) (Ag (.tail _ (.head _))) ?_))
 refine Tc (Dh (Zo ⟨rw,Ap G js,Ad 1,Ae,rfl,.of_mem (Ag (up hrw)),by rw [Bb];lia,rfl,rfl,λsl=>?_⟩))
 rw [hrr,zH]
 refine Ar λws hw=>Fv (vs:=Ap G r) (Ag (.head _)) (by rw [Bb];rw [hj]at l3;simp at l3;lia) (λq=>?_) ws hw
 refine Ar ⟨by rw [Ay];exact Ce rfl,λp=>?_⟩
 let V2:List Av:=(.obj p,.tup [.ref ya.me,.ref q])::(.obj q,.tup (Ap G r))::(.obj sl,.list (Ap G r))::Zu L x.me rw 0 true τ
 have hN:iC Γ G (Bl G++X) V2 [.ref p] js:=by
  rw [hj]
  refine lX nf eya (λj hj'=>by have:=(hjs j (by rw [hj];exact .tail _ hj')).2;lia) (by rw [hj]at l3;simp at l3;lia) (.of_mem (Ag (.head _))) (.of_mem (Ag (.tail _ (.head _))))
 refine Ar λws hw=>(vU (τ:=V2) (vs:=[.ref p]) (js:=js) (jd:=jd) (hs:=hs) wd lc hi hi0 hC hd hn hhl ⟨by simp,by simp⟩ hN hjs hjd hhs (by lia) ld lh hA hh hFV.cons.cons.cons (λG' X' t' bt w1 w2 w3 w4 w5=>?_) ws hw).T
 refine Fh.go (Cq ?_)
 refine Fh.go (Cq ?_)
 refine Fh.go (Cq ?_)
 exact⟨_,Av.le_sub (Bs [_,_,_,_,_,_,_] τ),h G' X' t' bt w1 w2 w3 w4 w5⟩
theorem zF {τ:List Av} {L rw:Am} {i:Nat} {x:Nd} {js jd hs:List Nat} {Q:Ab->Bc->Prop} (wd:Wd G X) (sok:∀j,j < G.length->Uk G j) (hi:G[i]? =Ad x) (hi0:0 < i) (hC:x.C=427) (hd:Mx X x.decl (Ap G jd)) (hn:Pt X x.inh (Ap G hs)) (hhl:x.inh=Ae\/x.inh=Ad .none->hs=[])
  (hrw:(Ex.obj rw,CO.list (Ap G js))∈τ) (l1:0 < js.length) (l3:js.length<=3) (hjs:∀j∈js,0 < j/\j < i) (hjd:∀j∈jd,j < i) (hhs:∀j∈hs,j < i) (ld:jd.length<=20) (lh:hs.length<=20) (hA:Rm (A.deeper (Nj L)) 32) (hh:A.handled=Ae) (hF:AF A ⟨[],τ⟩)
  (h:lA G X τ i x (Mi G i (js.filter (Hp G jd)) jd (js.filter λj=>!Hp G jd j)) ((Mi G i (js.filter (Hp G jd)) jd (js.filter λj=>!Hp G jd j))++Cn (Mi G i (js.filter (Hp G jd)) jd (js.filter λj=>!Hp G jd j)) hs) x.inh Q):
  T Γ (A.deeper (Nj L)) ⟨Bl G++X,Zu L x.me rw 0 false τ⟩ (Cs (fBody (topStmt 30)) (Nj L)) (Jh Q):=by
 have nf:=wd.wx.nf
 have hil:=(Al.mp hi).1
 have lc:∀j,j < G.length->j≠i->dE G j:=λj hj _=>Rn wd.gr (Cb _) sok hj
 have up:∀{p:Av},p∈τ->p∈Zu L x.me rw 0 false τ:=λhp=>.tail _ (.tail _ (.tail _ (.tail _ hp)))
 have hFV:AF (A.deeper (Nj L)) ⟨[],Zu L x.me rw 0 false τ⟩:=hF.push rfl rfl (L:=L) (x:="spec") (c:=Ad (.ref x.me)) (.head _) λp hp=>up hp
 have hjl:∀j∈js,j < G.length:=λj hj=>by have:=(hjs j hj).2;lia
 have hlen:T Γ (A.deeper (Nj L)) ⟨Bl G++X,Zu L x.me rw 0 false τ⟩ (Dv (.Name "row" ⟨0,0,0,0⟩) (Nj L)) (λc σ=>c=.ref rw/\σ=⟨Bl G++X,Zu L x.me rw 0 false τ⟩):=Ac (v:=.ref rw) (Ag (.tail _ (.head _))) ⟨rfl,rfl⟩
 refine Ao (Hz (Au (Ac (v:=.int 0 0) (Ag (.tail _ (.tail _ (.head _)))) (Dh (Oc ⟨_,rfl,λhb=>(by cases hb),λ_=>?_⟩)))))
 refine Ao (Hz (Ew (Fd (Au (Ac (v:=.int 0 0) (Ag (.tail _ (.tail _ (.head _)))) (Dh (Oc ⟨_,rfl,λ_=>?_,λhb=>(by cases hb)⟩)))))))
 refine Fd (Eo (Ac (v:=.bool false) (Ag (.tail _ (.tail _ (.tail _ (.head _))))) (Fi ⟨λhb=>(by cases hb),λ_=>⟨λhb=>(by cases hb),λ_=>?_⟩⟩)))
 match js,l1,l3 with
 |[a],_,_=>
  obtain⟨ya,eya⟩:=Dp (hjl a (by simp))
  refine Ao (Hz (Ew (Fd (Au (Ac (v:=.int 0 0) (Ag (.tail _ (.tail _ (.head _)))) (Dh (Oc ⟨_,rfl,λ_=>?_,λhb=>(by cases hb)⟩)))))))
  refine Fd (Au (Cf (Bd (v:=.builtin "len") (by kernel_rfl) (by decide+kernel) (by decide) ⟨.inr (.inl ⟨_,rfl⟩),Ai (Ac (v:=.ref rw) (Ag (.tail _ (.head _))) (Ar (Hq (vs:=Ap G [a]) (Ag (up hrw)) (by simp [Ap]) ?_)))⟩)))
  refine Dh (Oc ⟨_,rfl,λ_=>Tp ⟨λ_=>?_,λhb=>(by cases hb)⟩,λhb=>(by cases hb)⟩)
  refine Ao (Gf (Cf (Bn (v:=.ref 443) (by kernel_rfl) ⟨.inl (by kernel_rfl),?_⟩)))
  refine Ai (Ac (v:=.ref x.me) (Ag (.head _)) ?_)
  refine Ai (Bh (Ac (v:=.ref rw) (Ag (.tail _ (.head _))) (Dh (Cp (vs:=Ap G [a]) (v:=.ref ya.me) (Ag (up hrw)) (by decide) (by decide) (by simp [Ap,Bu eya]) ?_))))
  have hr:Ap G [a]=[.ref ya.me]:=by simp [Ap,Bu eya]
  refine Ar λws hw=>(vU (τ:=Zu L x.me rw 0 false τ) (vs:=Ap G [a]) (js:=[a]) (jd:=jd) (hs:=hs) wd lc hi hi0 hC hd hn hhl ⟨by simp [Ap],by simp [Ap]⟩ (Yj wd hil hjs (by simp)) hjs hjd hhs (by simp) ld lh hA hh hFV (λG' X' t' bt w1 w2 w3 w4 w5=>?_) ws (by rw [hr];exact hw)).T
  iterate 9 (try refine Fh.go (Cq ?_))
  exact⟨_,Av.le_sub (Bs [_,_,_,_] τ),h G' X' t' bt w1 w2 w3 w4 w5⟩
 |[a,b],_,_=>
  obtain⟨ya,eya⟩:=Dp (hjl a (by simp))
  obtain⟨yb,eyb⟩:=Dp (hjl b (by simp))
  refine Ao (Hz (Ew (Fd (Au (Ac (v:=.int 0 0) (Ag (.tail _ (.tail _ (.head _)))) (Dh (Oc ⟨_,rfl,λ_=>?_,λhb=>(by cases hb)⟩)))))))
  refine Fd (Au (Cf (Bd (v:=.builtin "len") (by kernel_rfl) (by decide+kernel) (by decide) ⟨.inr (.inl ⟨_,rfl⟩),Ai (Ac (v:=.ref rw) (Ag (.tail _ (.head _))) (Ar (Hq (vs:=Ap G [a,b]) (Ag (up hrw)) (by simp [Ap]) ?_)))⟩)))
  refine Dh (Oc ⟨_,rfl,λhb=>(by cases hb),λ_=>⟨λhb=>(by cases hb),λ_=>?_⟩⟩)
  refine Ao (Hz (Ew (Fd (Au (Ac (v:=.int 0 0) (Ag (.tail _ (.tail _ (.head _)))) (Dh (Oc ⟨_,rfl,λ_=>?_,λhb=>(by cases hb)⟩)))))))
  refine Fd (Au (Cf (Bd (v:=.builtin "len") (by kernel_rfl) (by decide+kernel) (by decide) ⟨.inr (.inl ⟨_,rfl⟩),Ai (Ac (v:=.ref rw) (Ag (.tail _ (.head _))) (Ar (Hq (vs:=Ap G [a,b]) (Ag (up hrw)) (by simp [Ap]) ?_)))⟩)))
  refine Dh (Oc ⟨_,rfl,λ_=>Tp ⟨λ_=>?_,λhb=>(by cases hb)⟩,λhb=>(by cases hb)⟩)
  refine Ao (Gf (Cf (Bn (v:=.ref 443) (by kernel_rfl) ⟨.inl (by kernel_rfl),?_⟩)))
  refine Ai (Ac (v:=.ref x.me) (Ag (.head _)) ?_)
  refine Ai (Bh (Ac (v:=.ref rw) (Ag (.tail _ (.head _))) (Dh (Cp (vs:=Ap G [a,b]) (v:=.ref ya.me) (Ag (up hrw)) (by decide) (by decide) (by simp [Ap,Bu eya]) ?_))))
  refine Ai (Bh (Ac (v:=.ref rw) (Ag (.tail _ (.head _))) (Dh (Cp (vs:=Ap G [a,b]) (v:=.ref yb.me) (Ag (up hrw)) (by decide) (by decide) (by simp [Ap,Bu eyb]) ?_))))
  have hr:Ap G [a,b]=[.ref ya.me,.ref yb.me]:=by simp [Ap,Bu eya,Bu eyb]
  refine Ar λws hw=>(vU (τ:=Zu L x.me rw 0 false τ) (vs:=Ap G [a,b]) (js:=[a,b]) (jd:=jd) (hs:=hs) wd lc hi hi0 hC hd hn hhl ⟨by simp [Ap],by simp [Ap]⟩ (Yj wd hil hjs (by simp)) hjs hjd hhs (by simp) ld lh hA hh hFV (λG' X' t' bt w1 w2 w3 w4 w5=>?_) ws (by rw [hr];exact hw)).T
  iterate 9 (try refine Fh.go (Cq ?_))
  exact⟨_,Av.le_sub (Bs [_,_,_,_] τ),h G' X' t' bt w1 w2 w3 w4 w5⟩
 |[a,b,c],_,_=>
  obtain⟨ya,eya⟩:=Dp (hjl a (by simp))
  obtain⟨yb,eyb⟩:=Dp (hjl b (by simp))
  obtain⟨yc,eyc⟩:=Dp (hjl c (by simp))
  refine Ao (Hz (Ew (Fd (Au (Ac (v:=.int 0 0) (Ag (.tail _ (.tail _ (.head _)))) (Dh (Oc ⟨_,rfl,λ_=>?_,λhb=>(by cases hb)⟩)))))))
  refine Fd (Au (Cf (Bd (v:=.builtin "len") (by kernel_rfl) (by decide+kernel) (by decide) ⟨.inr (.inl ⟨_,rfl⟩),Ai (Ac (v:=.ref rw) (Ag (.tail _ (.head _))) (Ar (Hq (vs:=Ap G [a,b,c]) (Ag (up hrw)) (by simp [Ap]) ?_)))⟩)))
  refine Dh (Oc ⟨_,rfl,λhb=>(by cases hb),λ_=>⟨λhb=>(by cases hb),λ_=>?_⟩⟩)
  refine Ao (Hz (Ew (Fd (Au (Ac (v:=.int 0 0) (Ag (.tail _ (.tail _ (.head _)))) (Dh (Oc ⟨_,rfl,λ_=>?_,λhb=>(by cases hb)⟩)))))))
  refine Fd (Au (Cf (Bd (v:=.builtin "len") (by kernel_rfl) (by decide+kernel) (by decide) ⟨.inr (.inl ⟨_,rfl⟩),Ai (Ac (v:=.ref rw) (Ag (.tail _ (.head _))) (Ar (Hq (vs:=Ap G [a,b,c]) (Ag (up hrw)) (by simp [Ap]) ?_)))⟩)))
  refine Dh (Oc ⟨_,rfl,λhb=>(by cases hb),λ_=>⟨λhb=>(by cases hb),λ_=>?_⟩⟩)
  refine Ao (Hz (Au (Ac (v:=.int 0 0) (Ag (.tail _ (.tail _ (.head _)))) (Dh (Oc ⟨_,rfl,λ_=>?_,λhb=>(by cases hb)⟩)))))
  refine Ao (Gf (Cf (Bn (v:=.ref 443) (by kernel_rfl) ⟨.inl (by kernel_rfl),?_⟩)))
  refine Ai (Ac (v:=.ref x.me) (Ag (.head _)) ?_)
  refine Ai (Bh (Ac (v:=.ref rw) (Ag (.tail _ (.head _))) (Dh (Cp (vs:=Ap G [a,b,c]) (v:=.ref ya.me) (Ag (up hrw)) (by decide) (by decide) (by simp [Ap,Bu eya]) ?_))))
  refine Ai (Bh (Ac (v:=.ref rw) (Ag (.tail _ (.head _))) (Dh (Cp (vs:=Ap G [a,b,c]) (v:=.ref yb.me) (Ag (up hrw)) (by decide) (by decide) (by simp [Ap,Bu eyb]) ?_))))
  refine Ai (Bh (Ac (v:=.ref rw) (Ag (.tail _ (.head _))) (Dh (Cp (vs:=Ap G [a,b,c]) (v:=.ref yc.me) (Ag (up hrw)) (by decide) (by decide) (by simp [Ap,Bu eyc]) ?_))))
  have hr:Ap G [a,b,c]=[.ref ya.me,.ref yb.me,.ref yc.me]:=by simp [Ap,Bu eya,Bu eyb,Bu eyc]
  refine Ar λws hw=>(vU (τ:=Zu L x.me rw 0 false τ) (vs:=Ap G [a,b,c]) (js:=[a,b,c]) (jd:=jd) (hs:=hs) wd lc hi hi0 hC hd hn hhl ⟨by simp [Ap],by simp [Ap]⟩ (Yj wd hil hjs (by simp)) hjs hjd hhs (by simp) ld lh hA hh hFV (λG' X' t' bt w1 w2 w3 w4 w5=>?_) ws (by rw [hr];exact hw)).T
  iterate 9 (try refine Fh.go (Cq ?_))
  exact⟨_,Av.le_sub (Bs [_,_,_,_] τ),h G' X' t' bt w1 w2 w3 w4 w5⟩
theorem zD {τ:List Av} {L rw:Am} {i:Nat} {x:Nd} {js jd hs:List Nat} {Q:Ab->Bc->Prop} {wh:Bool} (wd:Wd G X) (sok:∀j,j < G.length->Uk G j) (hi:G[i]? =Ad x) (hi0:0 < i) (hC:x.C=427) (hd:Mx X x.decl (Ap G jd)) (hn:Pt X x.inh (Ap G hs)) (hhl:x.inh=Ae\/x.inh=Ad .none->hs=[])
  (hrw:(Ex.obj rw,CO.list (Ap G js))∈τ) (l1:0 < js.length) (l3:js.length<=3) (hjs:∀j∈js,0 < j/\j < i) (hjd:∀j∈jd,j < i) (hhs:∀j∈hs,j < i) (ld:jd.length<=20) (lh:hs.length<=20) (hA:Rm (A.deeper (Nj L)) 32) (hh:A.handled=Ae) (hF:AF A ⟨[],τ⟩)
  (h:lA G X τ i x (Cn [] js) (Cn [] js) (Ad .none) Q):
  T Γ (A.deeper (Nj L)) ⟨Bl G++X,Zu L x.me rw 2 wh τ⟩ (Cs (fBody (topStmt 30)) (Nj L)) (Jh Q):=by
 have nf:=wd.wx.nf
 have hil:=(Al.mp hi).1
 have lc:∀j,j < G.length->j≠i->dE G j:=λj hj _=>Rn wd.gr (Cb _) sok hj
 have up:∀{p:Av},p∈τ->p∈Zu L x.me rw 2 wh τ:=λhp=>.tail _ (.tail _ (.tail _ (.tail _ hp)))
 have hFV:AF (A.deeper (Nj L)) ⟨[],Zu L x.me rw 2 wh τ⟩:=hF.push rfl rfl (L:=L) (x:="spec") (c:=Ad (.ref x.me)) (.head _) λp hp=>up hp
 have hjl:∀j∈js,j < G.length:=λj hj=>by have:=(hjs j hj).2;lia
 have hlen:T Γ (A.deeper (Nj L)) ⟨Bl G++X,Zu L x.me rw 2 wh τ⟩ (Dv (.Name "row" ⟨0,0,0,0⟩) (Nj L)) (λc σ=>c=.ref rw/\σ=⟨Bl G++X,Zu L x.me rw 2 wh τ⟩):=Ac (v:=.ref rw) (Ag (.tail _ (.head _))) ⟨rfl,rfl⟩
 refine Ao (Hz (Au (Ac (v:=.int 2 0) (Ag (.tail _ (.tail _ (.head _)))) (Dh (Oc ⟨_,rfl,λhb=>(by cases hb),λ_=>?_⟩)))))
 refine Ao (Hz (Ew (Fd (Au (Ac (v:=.int 2 0) (Ag (.tail _ (.tail _ (.head _)))) (Dh (Oc ⟨_,rfl,λhb=>(by cases hb),λ_=>⟨λhb=>(by cases hb),λ_=>?_⟩⟩)))))))
 refine Ao (Hz (Ew (Fd (Au (Ac (v:=.int 2 0) (Ag (.tail _ (.tail _ (.head _)))) (Dh (Oc ⟨_,rfl,λhb=>(by cases hb),λ_=>⟨λhb=>(by cases hb),λ_=>?_⟩⟩)))))))
 refine Ao (Hz (Ew (Fd (Au (Ac (v:=.int 2 0) (Ag (.tail _ (.tail _ (.head _)))) (Dh (Oc ⟨_,rfl,λhb=>(by cases hb),λ_=>⟨λhb=>(by cases hb),λ_=>?_⟩⟩)))))))
 refine Ao (Hz (Au (Ac (v:=.int 2 0) (Ag (.tail _ (.tail _ (.head _)))) (Dh (Oc ⟨_,rfl,λhb=>(by cases hb),λ_=>?_⟩)))))
 match js,l1,l3 with
 |[a],_,_=>
  obtain⟨ya,eya⟩:=Dp (hjl a (by simp))
  refine Ao (Hz (Au (Cf (Bd (v:=.builtin "len") (by kernel_rfl) (by decide+kernel) (by decide) ⟨.inr (.inl ⟨_,rfl⟩),Ai (Ac (v:=.ref rw) (Ag (.tail _ (.head _))) (Ar (Hq (vs:=Ap G [a]) (Ag (up hrw)) (by simp [Ap]) ?_)))⟩))))
  refine Dh (Oc ⟨_,rfl,λ_=>?_,λhb=>(by cases hb)⟩)
  refine Ao (Gf (Cf (Bn (v:=.ref 436) (by kernel_rfl) ⟨.inl (by kernel_rfl),?_⟩)))
  refine Ai (Ac (v:=.ref x.me) (Ag (.head _)) ?_)
  refine Ai (Bh (Ac (v:=.ref rw) (Ag (.tail _ (.head _))) (Dh (Cp (vs:=Ap G [a]) (v:=.ref ya.me) (Ag (up hrw)) (by decide) (by decide) (by simp [Ap,Bu eya]) ?_))))
  have hr:Ap G [a]=[.ref ya.me]:=by simp [Ap,Bu eya]
  refine Ar λws hw=>(sO (τ:=Zu L x.me rw 2 wh τ) (js:=[a]) wd sok hi hi0 hC ⟨by simp,by simp⟩ hjs hA hh hFV (λG' X' t' bt w1 w2 w3 w4 w5=>?_) ws (by rw [hr];exact hw)).T
  iterate 9 (try refine Fh.go (Cq ?_))
  exact⟨_,Av.le_sub (Bs [_,_,_,_] τ),h G' X' t' bt w1 w2 w3 w4 w5⟩
 |[a,b],_,_=>
  obtain⟨ya,eya⟩:=Dp (hjl a (by simp))
  obtain⟨yb,eyb⟩:=Dp (hjl b (by simp))
  refine Ao (Hz (Au (Cf (Bd (v:=.builtin "len") (by kernel_rfl) (by decide+kernel) (by decide) ⟨.inr (.inl ⟨_,rfl⟩),Ai (Ac (v:=.ref rw) (Ag (.tail _ (.head _))) (Ar (Hq (vs:=Ap G [a,b]) (Ag (up hrw)) (by simp [Ap]) ?_)))⟩))))
  refine Dh (Oc ⟨_,rfl,λhb=>(by cases hb),λ_=>?_⟩)
  refine Ao (Hz (Au (Cf (Bd (v:=.builtin "len") (by kernel_rfl) (by decide+kernel) (by decide) ⟨.inr (.inl ⟨_,rfl⟩),Ai (Ac (v:=.ref rw) (Ag (.tail _ (.head _))) (Ar (Hq (vs:=Ap G [a,b]) (Ag (up hrw)) (by simp [Ap]) ?_)))⟩))))
  refine Dh (Oc ⟨_,rfl,λ_=>?_,λhb=>(by cases hb)⟩)
  refine Ao (Gf (Cf (Bn (v:=.ref 436) (by kernel_rfl) ⟨.inl (by kernel_rfl),?_⟩)))
  refine Ai (Ac (v:=.ref x.me) (Ag (.head _)) ?_)
  refine Ai (Bh (Ac (v:=.ref rw) (Ag (.tail _ (.head _))) (Dh (Cp (vs:=Ap G [a,b]) (v:=.ref ya.me) (Ag (up hrw)) (by decide) (by decide) (by simp [Ap,Bu eya]) ?_))))
  refine Ai (Bh (Ac (v:=.ref rw) (Ag (.tail _ (.head _))) (Dh (Cp (vs:=Ap G [a,b]) (v:=.ref yb.me) (Ag (up hrw)) (by decide) (by decide) (by simp [Ap,Bu eyb]) ?_))))
  have hr:Ap G [a,b]=[.ref ya.me,.ref yb.me]:=by simp [Ap,Bu eya,Bu eyb]
  refine Ar λws hw=>(sO (τ:=Zu L x.me rw 2 wh τ) (js:=[a,b]) wd sok hi hi0 hC ⟨by simp,by simp⟩ hjs hA hh hFV (λG' X' t' bt w1 w2 w3 w4 w5=>?_) ws (by rw [hr];exact hw)).T
  iterate 9 (try refine Fh.go (Cq ?_))
  exact⟨_,Av.le_sub (Bs [_,_,_,_] τ),h G' X' t' bt w1 w2 w3 w4 w5⟩
 |[a,b,c],_,_=>
  obtain⟨ya,eya⟩:=Dp (hjl a (by simp))
  obtain⟨yb,eyb⟩:=Dp (hjl b (by simp))
  obtain⟨yc,eyc⟩:=Dp (hjl c (by simp))
  refine Ao (Hz (Au (Cf (Bd (v:=.builtin "len") (by kernel_rfl) (by decide+kernel) (by decide) ⟨.inr (.inl ⟨_,rfl⟩),Ai (Ac (v:=.ref rw) (Ag (.tail _ (.head _))) (Ar (Hq (vs:=Ap G [a,b,c]) (Ag (up hrw)) (by simp [Ap]) ?_)))⟩))))
  refine Dh (Oc ⟨_,rfl,λhb=>(by cases hb),λ_=>?_⟩)
  refine Ao (Hz (Au (Cf (Bd (v:=.builtin "len") (by kernel_rfl) (by decide+kernel) (by decide) ⟨.inr (.inl ⟨_,rfl⟩),Ai (Ac (v:=.ref rw) (Ag (.tail _ (.head _))) (Ar (Hq (vs:=Ap G [a,b,c]) (Ag (up hrw)) (by simp [Ap]) ?_)))⟩))))
  refine Dh (Oc ⟨_,rfl,λhb=>(by cases hb),λ_=>?_⟩)
  refine Ao (Gf (Cf (Bn (v:=.ref 436) (by kernel_rfl) ⟨.inl (by kernel_rfl),?_⟩)))
  refine Ai (Ac (v:=.ref x.me) (Ag (.head _)) ?_)
  refine Ai (Bh (Ac (v:=.ref rw) (Ag (.tail _ (.head _))) (Dh (Cp (vs:=Ap G [a,b,c]) (v:=.ref ya.me) (Ag (up hrw)) (by decide) (by decide) (by simp [Ap,Bu eya]) ?_))))
  refine Ai (Bh (Ac (v:=.ref rw) (Ag (.tail _ (.head _))) (Dh (Cp (vs:=Ap G [a,b,c]) (v:=.ref yb.me) (Ag (up hrw)) (by decide) (by decide) (by simp [Ap,Bu eyb]) ?_))))
  refine Ai (Bh (Ac (v:=.ref rw) (Ag (.tail _ (.head _))) (Dh (Cp (vs:=Ap G [a,b,c]) (v:=.ref yc.me) (Ag (up hrw)) (by decide) (by decide) (by simp [Ap,Bu eyc]) ?_))))
  have hr:Ap G [a,b,c]=[.ref ya.me,.ref yb.me,.ref yc.me]:=by simp [Ap,Bu eya,Bu eyb,Bu eyc]
  refine Ar λws hw=>(sO (τ:=Zu L x.me rw 2 wh τ) (js:=[a,b,c]) wd sok hi hi0 hC ⟨by simp,by simp⟩ hjs hA hh hFV (λG' X' t' bt w1 w2 w3 w4 w5=>?_) ws (by rw [hr];exact hw)).T
  iterate 9 (try refine Fh.go (Cq ?_))
  exact⟨_,Av.le_sub (Bs [_,_,_,_] τ),h G' X' t' bt w1 w2 w3 w4 w5⟩
end
end
set_option tactic.hygienic true in
theorem Wv:∀(l acc:List Nat) (k:Nat),k∈acc++Cn acc l↔k∈acc\/k∈l
 |[],acc,k=>by simp [Cn]
 |a::r,acc,k=>by
  unfold Cn
  split
  ·rename_i h
   have ha:a∈acc:=by simpa using h
   rw [Wv r acc k,Cj]
   constructor
   ·rintro(h|h)
    ·exact .inl h
    ·exact .inr (.inr h)
   ·rintro(h|h|h)
    ·exact .inl h
    ·rw [h];exact .inl ha
    ·exact .inr h
  ·have:=Wv r (acc++[a]) k
   rw [Ba]at this
   simp only [List.singleton_append]at this
   rw [this,Ak,Bi,Cj,or_assoc]
theorem Jj (l:List Nat) (k:Nat):k∈Cn [] l↔k∈l:=by
 have:=Wv l [] k
 simpa using this
theorem fE:∀(l acc:List Nat),(∀k∈l,k∈acc)->Cn acc l=[]
 |[],_,_=>rfl
 |a::r,acc,h=>by
  unfold Cn
  rw [if_pos (by simpa using h a (.head _))]
  exact fE r acc λk hk=>h k (.tail _ hk)
theorem fD:∀(l acc:List Nat),l.Nodup->(∀k∈l,k∉acc)->Cn acc l=l
 |[],_,_,_=>rfl
 |a::r,acc,hn,h=>by
  rw [Fe]at hn
  unfold Cn
  rw [if_neg (by simpa using h a (.head _))]
  rw [fD r (acc++[a]) hn.2 λk hk q=>by
   rcases Ak.mp q with q|q
   ·exact h k (.tail _ hk) q
   ·rw [Bi]at q;subst q;exact hn.1 hk]
theorem So:∀(l acc acc':List Nat),(∀k∈l,k∈acc↔k∈acc')->Cn acc l=Cn acc' l
 |[],_,_,_=>rfl
 |a::r,acc,acc',h=>by
  have ha:=h a (.head _)
  unfold Cn
  by_cases q:a∈acc
  ·rw [if_pos (by simpa using q),if_pos (by simpa using ha.mp q)]
   exact So r acc acc' λk hk=>h k (.tail _ hk)
  ·rw [if_neg (by simpa using q),if_neg (by simpa using λp=>q (ha.mpr p))]
   congr 1
   exact So r _ _ λk hk=>by
    rw [Ak,Ak,h k (.tail _ hk)]
theorem Ku (p:Nat->Bool):∀(l acc:List Nat),Cn acc (l.filter p)=(Cn acc l).filter p
 |[],_=>rfl
 |a::r,acc=>by
  by_cases hp:p a=true
  ·rw [List.filter_cons_of_pos hp]
   unfold Cn
   split
   ·exact Ku p r acc
   ·rw [List.filter_cons_of_pos hp,Ku p r]
  ·rw [List.filter_cons_of_neg hp,Ku p r acc]
   conv=>rhs;unfold Cn
   split
   ·rfl
   ·rw [List.filter_cons_of_neg hp]
    rw [<-Ku p r acc,<-Ku p r (acc++[a])]
    refine So _ _ _ λk hk=>?_
    rw [Ak,Bi]
    refine⟨.inl,λh=>h.elim id λh=>?_⟩
    subst h
    exact absurd (Cw.mp hk).2 hp
theorem Ti {g:Nat->Nat} (hg:∀a b,g a=g b->a=b):∀(l acc:List Nat),Cn (acc.map g) (l.map g)=(Cn acc l).map g
 |[],_=>rfl
 |a::r,acc=>by
  have hc:(acc.map g).contains (g a)=acc.contains a:=by
   rw [Ko,My,My,Bq]
   exact⟨λ⟨b,hb,e⟩=>by rw [<-hg _ _ e];exact hb,λh=>⟨a,h,rfl⟩⟩
  rw [Ck]
  unfold Cn
  rw [hc]
  split
  ·exact Ti hg r acc
  ·have:=Ti hg r (acc++[a])
   rw [Bk,Ck,Ky]at this
   rw [Ck,this]
set_option tactic.hygienic true in
theorem Yq (f:Nat->List Nat):∀(l seen acc:List Nat),(∀j∈seen,∀k∈f j,k∈acc)->Cn acc ((Cn seen l).flatMap f)=Cn acc (l.flatMap f)
 |[],_,_,_=>rfl
 |a::r,seen,acc,h=>by
  rw [Ha,Hu]
  have e:Cn seen (a::r)=if seen.contains a then Cn seen r else a::Cn (seen++[a]) r:=rfl
  rw [e]
  split
  ·rename_i hs
   have ha:a∈seen:=by simpa using hs
   rw [fE (f a) acc (h a ha),Cr,Fw]
   exact Yq f r seen acc h
  ·rw [Ha,Hu]
   congr 1
   refine Yq f r (seen++[a]) _ λj hj k hk=>?_
   rw [Wv]
   rcases Ak.mp hj with q|q
   ·exact .inl (h j q k hk)
   ·rw [Bi]at q;subst q;exact .inr hk
theorem nE {a b c:List Nat} (hb:b.Nodup) (hab:∀k∈a,k∉b) (hac:∀k∈a,k∉c) (hbc:∀k∈b,k∉c):Cn [] (a++b++c)=Cn [] a++b++Cn [] c:=by
 rw [Hu,Hu,Fw,Fw]
 have h1:Cn (Cn [] a) b=b:=fD b _ hb λk hk q=>hab k ((Jj a k).mp q) hk
 rw [h1]
 congr 1
 refine So c _ _ λk hk=>⟨λq=>?_,λq=>by cases q⟩
 rcases Ak.mp q with q|q
 ·exact absurd hk (hac k ((Jj a k).mp q))
 ·exact absurd hk (hbc k q)
section
inductive lK (G:List Nd) (X:List Av) (m:Nat) (DE IH:List (List Nat)) (i:Nat):Prop
 |mk (x:Nd) (e:G[m+1+i]? =Ad x) (C:x.C=427) (d:Mx X x.decl (Ap G ((DE.getD i []).map (· +1)))) (h:Pt X x.inh (Ap G ((IH.getD i []).map (m+1+ ·)))) (n:x.inh=Ae\/x.inh=Ad .none->IH.getD i []=[])
theorem lK.of {G:List Nd} {X:List Av} {m:Nat} {DE IH:List (List Nat)} {i:Nat} {x:Nd} (e:G[m+1+i]? =Ad x) (C:x.C=427) (h:Mx X x.decl (Ap G ((DE.getD i []).map (· +1)))/\Pt X x.inh (Ap G ((IH.getD i []).map (m+1+ ·)))/\(x.inh=Ae\/x.inh=Ad .none->IH.getD i []=[])):lK G X m DE IH i:=⟨x,e,C,h.1,h.2.1,h.2.2⟩
structure Vk (G:List Nd) (X:List Av) (m:Nat) (AB DE IH:List (List Nat)):Prop where
 wd:Wd G X
 sok:∀j,j < G.length->Uk G j
 wf:sD m AB DE IH
 len:G.length=m+5
 face:∀k,k < m->∃x,G[k+1]? =Ad x/\x.C=364
 reach:∀k,k < m->∀j,Ia G (k+1) j↔∃o∈AB.getD k [],j=o+1
 self:∀k,k < m->k∈AB.getD k []
 spec:∀i,i < 4->lK G X m DE IH i
 due:∀i,i < 4->Ge G (m+1+i)=aN DE IH m i
 keys:∀j,j < 4->Cy G (m+1+j)=100+(j:Int)
section
variable {G:List Nd} {X:List Av} {m:Nat} {AB DE IH:List (List Nat)}
theorem pW (I:Vk G X m AB DE IH):∀(i:Nat),i < 4->∀n n',i+2<=n->i < n'->Sd G n (m+1+i)=(Jz DE IH n' i).map (· +1):=by
 intro i
 induction i using Nat.strongRecOn with
 |ind i ih=>
 intro hi n n' hn hn'
 obtain⟨n,rfl⟩:∃k,n=k+1:=⟨n - 1,by lia⟩
 obtain⟨n',rfl⟩:∃k,n'=k+1:=⟨n' - 1,by lia⟩
 obtain⟨x,ex,hC,_⟩:=I.spec i hi
 have hb:x.bs=aN DE IH m i:=by rw [<-Qh ex];exact I.due i hi
 unfold Sd
 rw [ex]
 dsimp only
 rw [if_neg (by rw [hC];decide),hb]
 unfold aN Jz
 have hD:=I.wf.D i
 have hI:=I.wf.I i
 have e1:((DE.getD i []).map (· +1)).flatMap (Sd G n)=(DE.getD i []).map (· +1):=by
  have:∀l:List Nat,(∀k∈l,k < m)->(l.map (· +1)).flatMap (Sd G n)=l.map (· +1):=by
   intro l
   induction l with
   |nil=>intro _;rfl
   |cons a r ihr=>
    intro h
    obtain⟨y,ey,hy⟩:=I.face a (h a (.head _))
    have ha:Sd G n (a+1)=[a+1]:=by
     obtain⟨q,rfl⟩:∃k,n=k+1:=⟨n - 1,by lia⟩
     unfold Sd
     rw [ey]
     dsimp only
     rw [if_pos hy]
    rw [Ck,Ha,ha,ihr λk hk=>h k (.tail _ hk)]
    rfl
  exact this _ hD.2
 have e2:((Cn [] (IH.getD i [])).map (m+1+ ·)).flatMap (Sd G n)=((Cn [] (IH.getD i [])).flatMap (Jz DE IH n')).map (· +1):=by
  have:∀l:List Nat,(∀j∈l,j < i)->(l.map (m+1+ ·)).flatMap (Sd G n)=(l.flatMap (Jz DE IH n')).map (· +1):=by
   intro l
   induction l with
   |nil=>intro _;rfl
   |cons a r ihr=>
    intro h
    have ha:=h a (.head _)
    rw [Ck,Ha,Ha,Bk,ihr λk hk=>h k (.tail _ hk),ih a ha (by lia) n n' (by lia) (by lia)]
  exact this _ λj hj=>hI.2 j ((Jj _ j).mp hj)
 rw [Jl,e1,e2,<-Bk]
 have e3:=Ti (g:=(· +1)) (λa b h=>by simpa using h) (DE.getD i []++(Cn [] (IH.getD i [])).flatMap (Jz DE IH n')) []
 rw [Ky]at e3
 rw [e3]
 congr 1
 rw [Hu,Hu]
 congr 1
 exact Yq _ _ _ _ λj hj=>by cases hj
theorem bQ (I:Vk G X m AB DE IH):∀(i:Nat),i < 4->∀n,i < n->∀k,k < m->(Ia G (m+1+i) (k+1)↔k∈Ln AB DE IH n i):=by
 intro i
 induction i using Nat.strongRecOn with
 |ind i ih=>
 intro hi n hn k hk
 obtain⟨n,rfl⟩:∃q,n=q+1:=⟨n - 1,by lia⟩
 have hD:=I.wf.D i
 have hI:=I.wf.I i
 rw [Ia.cases',I.due i hi]
 unfold Ln aN
 rw [Jj,Ak,Fm,Fm]
 constructor
 ·rintro(h|⟨b,hb,hr⟩)
  ·lia
  ·rcases Ak.mp hb with hb|hb
   ·obtain⟨d,hd,rfl⟩:=Bq.mp hb
    obtain⟨o,ho,e⟩:=(I.reach d (hD.2 d hd) _).mp hr
    have:o=k:=by lia
    subst this
    exact .inl ⟨d,hd,ho⟩
   ·obtain⟨j,hj,rfl⟩:=Bq.mp hb
    have hj':=(Jj _ j).mp hj
    exact .inr ⟨j,hj',(ih j (hI.2 j hj') (by have:=hI.2 j hj';lia) n (by have:=hI.2 j hj';lia) k hk).mp hr⟩
 ·rintro(⟨d,hd,ho⟩|⟨j,hj,hr⟩)
  ·exact .inr ⟨d+1,Ah _ (Bq.mpr ⟨d,hd,rfl⟩),(I.reach d (hD.2 d hd) _).mpr ⟨k,ho,rfl⟩⟩
  ·exact .inr ⟨m+1+j,Aa _ (Bq.mpr ⟨j,(Jj _ j).mpr hj,rfl⟩),(ih j (hI.2 j hj) (by have:=hI.2 j hj;lia) n (by have:=hI.2 j hj;lia) k hk).mpr hr⟩
theorem Ws (I:Vk G X m AB DE IH) {j k:Nat} (hj:j < G.length) (hk:k≠0):k∈Gy G j↔Ia G j k:=by
 rw [Sn I.wd.gr (Cb _) I.sok j j (Cb _) hj k]
 exact⟨λh=>h.elim id λh=>absurd h hk,.inl⟩
theorem Vk.shows (I:Vk G X m AB DE IH) {i:Nat} (hi:i < 4):∃x,sP G X m AB DE IH i x:=by
 obtain⟨x,ex,hC,hd,hn,_⟩:=I.spec i hi
 refine⟨x,ex,hC,hd,pW I i hi 9 4 (by lia) hi,λk hk=>?_⟩
 have:=I.len
 rw [Ws I (by lia) (by lia),bQ I i hi 4 hi k hk]
end
end
section
theorem iS {α:Type} {l:List (List α)} {i j:Nat} {r:List α} (hi:i < l.length):(l.set i r).getD j []=if j=i then r else l.getD j []:=by
 rw [Df,Df,Jc]
 by_cases h:i=j
 ·subst h;rw [if_pos rfl,if_pos hi,if_pos rfl];rfl
 ·rw [if_neg h,if_neg (Ll h)]
theorem Ia.under {G G':List Nd} (g:Gr G) {n:Nat} (h:∀j,j < n->Ge G' j=Ge G j) {j k:Nat} (r:Ia G j k):j < n->Ia G' j k:=by
 induction r with
 |refl=>intro _;exact .refl _
 |step h1 _ ih=>
  intro hj
  have:=g.bs_lt h1
  exact .step (by rw [h _ hj];exact h1) (ih (by lia))
section
variable {G:List Nd} {X:List Av} {m:Nat} {AB DE IH:List (List Nat)}
set_option tactic.hygienic true in
theorem Vk.deed (I:Vk G X m AB DE IH) {i:Nat} (hi:i < 4) {x:Nd} (ex:G[m+1+i]? =Ad x) {G':List Nd} {X':List Av} {t bt:Am} {bs row hs:List Nat} {inh:Option Ab} (w1:Wd G' X') (w2:Jq (G.set (m+1+i) {x with decl:=Ad (.ref t),bt:=bt,bs:=bs,inh:=inh}) G')
  (w3:(Ex.obj t,CO.tup (Ap G (row.map (· +1))))∈X') (w4:∀e∈X,e∈X') (w5:∀j,j < G'.length->Uk G' j) (hbs:bs=row.map (· +1)++(Cn [] hs).map (m+1+ ·)) (hinh:Pt X' inh (Ap G (hs.map (m+1+ ·)))) (hnil:inh=Ae\/inh=Ad .none->hs=[])
  (hrow:row.Nodup/\∀k∈row,k < m) (hhs:hs.length<=3/\∀j∈hs,j < i):Vk G' X' m AB (DE.set i row) (IH.set i hs):=by
 have K0:Gl G (G.set (m+1+i) {x with decl:=Ad (.ref t),bt:=bt,bs:=bs,inh:=inh}):=Mb ex rfl
 have K:Gl G G':=K0.trans w2.i
 have hR:=K.refs
 have hD:∀j,(DE.set i row).getD j []=if j=i then row else DE.getD j []:=λj=>iS (by rw [I.wf.lenD];exact hi)
 have hH:∀j,(IH.set i hs).getD j []=if j=i then hs else IH.getD j []:=λj=>iS (by rw [I.wf.lenI];exact hi)
 have hbsO:∀j,Ge G' j=if j=m+1+i then bs else Ge G j:=λj=>by rw [w2.bs,Xb ex]
 have look:∀(j:Nat) (y:Nd),G[j]? =Ad y->∃y',G'[j]? =Ad y'/\y'.C=y.C/\(j≠m+1+i->y'.decl=y.decl/\y'.inh=y.inh)/\(j=m+1+i->y'.decl=Ad (.ref t)/\y'.inh=inh):=λj y e=>by
  by_cases q:j=m+1+i
  ·subst q
   rw [ex]at e
   cases e
   obtain⟨y',e',hb⟩:=w2.at' (Lu ex)
   have c:y'.C=x.C:=by have:=congrArg Nd.C hb;exact this
   have d:y'.decl=Ad (.ref t):=by have:=congrArg Nd.decl hb;exact this
   have n:y'.inh=inh:=by have:=congrArg Nd.inh hb;exact this
   exact⟨y',e',c,λq=>absurd rfl q,λ_=>⟨d,n⟩⟩
  ·have e2:(G.set (m+1+i) {x with decl:=Ad (.ref t),bt:=bt,bs:=bs,inh:=inh})[j]? =Ad y:=by rw [Hg (Ll q)];exact e
   obtain⟨y',e',hb⟩:=w2.at' e2
   have c:y'.C=y.C:=by have:=congrArg Nd.C hb;exact this
   have d:y'.decl=y.decl:=by have:=congrArg Nd.decl hb;exact this
   have n:y'.inh=y.inh:=by have:=congrArg Nd.inh hb;exact this
   exact⟨y',e',c,λ_=>⟨d,n⟩,λq'=>absurd q' q⟩
 have hlow:∀j,j < m+1->Ge G' j=Ge G j:=λj hj=>by rw [hbsO,if_neg (by lia)]
 refine⟨w1,w5,⟨I.wf.m4,I.wf.lenA,I.wf.A,by rw [List.length_set];exact I.wf.lenD,λj=>?_,by rw [List.length_set];exact I.wf.lenI,λj=>?_⟩,by rw [K.len];exact I.len,λk hk=>?_,λk hk j=>?_,I.self,λj hj=>?_,λj hj=>?_,λj hj=>?_⟩
 ·rw [hD];split;exact hrow;exact I.wf.D j
 ·rw [hH]
  split
  ·rename_i q;rw [q];exact hhs
  ·exact I.wf.I j
 ·obtain⟨y,ey,hy⟩:=I.face k hk
  obtain⟨y',ey',c,_⟩:=look _ _ ey
  exact⟨y',ey',by rw [c];exact hy⟩
 ·rw [<-I.reach k hk j]
  exact⟨λr=>r.under w1.gr (n:=m+1) (λj hj=>(hlow j hj).symm) (by lia),λr=>r.under I.wd.gr (n:=m+1) hlow (by lia)⟩
 ·obtain⟨y,ey,hy,hd,hn,hn2⟩:=I.spec j hj
  obtain⟨y',ey',c,f1,f2⟩:=look _ _ ey
  refine .of ey' (by rw [c];exact hy) ?_
  rw [hD,hH,hR,hR]
  by_cases q:j=i
  ·subst q
   obtain⟨d,n⟩:=f2 rfl
   rw [if_pos rfl,if_pos rfl,d,n]
   exact⟨.inr ⟨t,rfl,w3⟩,hinh,hnil⟩
  ·obtain⟨d,n⟩:=f1 (by lia)
   rw [if_neg q,if_neg q,d,n]
   exact⟨hd.more w4,hn.more w4,hn2⟩
 ·rw [hbsO]
  unfold aN
  rw [hD,hH]
  by_cases q:j=i
  ·subst q
   rw [if_pos rfl,if_pos rfl,if_pos rfl,hbs]
  ·rw [if_neg (by lia),if_neg q,if_neg q]
   exact I.due j hj
 ·rw [K.key];exact I.keys j hj
theorem tM {l:List (List Nat)} {i:Nat} (hi:i < l.length):l.set i (l.getD i [])=l:=by
 rw [Df,Bp hi]
 simp
theorem gK (I:Vk G X m AB DE IH) {i k:Nat} (hk:k∈DE.getD i []):k∈Ln AB DE IH 4 i:=by
 have:=(I.wf.D i).2 k hk
 show k∈Cn [] _
 rw [Jj,Ak,Fm]
 exact .inl ⟨k,hk,I.self k this⟩
theorem iU (I:Vk G X m AB DE IH) {i:Nat} (hi:i < 4) {ks:List Nat} (hks:∀k∈ks,k < m):Nh G (m+1+i) (ks.map (· +1))=(ks.filter λk=>!decide (k∈Ln AB DE IH 4 i)).map (· +1):=by
 unfold Nh
 rw [Kl]
 congr 1
 apply Jd
 intro k hk
 have:=I.len
 have h1:=hks k hk
 show(!decide (k+1∈Gy G (m+1+i)))=_
 congr 1
 rw [decide_eq_decide,Ws I (by lia) (by lia),bQ I i hi 4 hi k h1]
theorem iX (I:Vk G X m AB DE IH) {k:Nat} (hk:k < m) {ds:List Nat} (hds:∀d∈ds,d < m):Hp G (ds.map (· +1)) (k+1)=!(ds.filter λo=>decide (o≠k)&&decide (o∈AB.getD k [])).isEmpty:=by
 unfold Hp
 have:=I.len
 rw [List.any_map]
 have e:(ds.any ((λb=>decide (b∈Gy G (k+1))&&decide (k+1≠b))∘λx=>x+1))=ds.any λo=>decide (o≠k)&&decide (o∈AB.getD k []):=by
  rw [Ko,Hi,Hi]
  have key:∀d∈ds,(((λb=>decide (b∈Gy G (k+1))&&decide (k+1≠b))∘λx=>x+1) d=true↔(decide (d≠k)&&decide (d∈AB.getD k []))=true):=λd hd=>by
   simp only [Function.comp_apply,Dd,decide_eq_true_eq]
   rw [Ws I (by lia) (by lia),I.reach k hk]
   constructor
   ·rintro⟨⟨o,ho,e⟩,h2⟩
    have:o=d:=by lia
    subst this
    exact⟨by lia,ho⟩
   ·rintro⟨h1,h2⟩
    exact⟨⟨d,h2,rfl⟩,by lia⟩
  exact⟨λ⟨d,hd,h⟩=>⟨d,hd,(key d hd).mp h⟩,λ⟨d,hd,h⟩=>⟨d,hd,(key d hd).mpr h⟩⟩
 rw [e]
 induction ds with
 |nil=>rfl
 |cons a r ihr=>
  rw [Oz,Gq]
  cases h:(decide (a≠k)&&decide (a∈AB.getD k []))
  ·rw [Bool.false_or,if_neg (by decide)]
   refine ihr (λd hd=>hds d (.tail _ hd)) ?_
   rw [Ko,Hi,Hi]
   have key:∀d∈r,(((λb=>decide (b∈Gy G (k+1))&&decide (k+1≠b))∘λx=>x+1) d=true↔(decide (d≠k)&&decide (d∈AB.getD k []))=true):=λd hd=>by
    have:=hds d (.tail _ hd)
    simp only [Function.comp_apply,Dd,decide_eq_true_eq]
    rw [Ws I (by lia) (by lia),I.reach k hk]
    constructor
    ·rintro⟨⟨o,ho,e⟩,h2⟩
     have:o=d:=by lia
     subst this
     exact⟨by lia,ho⟩
    ·rintro⟨h1,h2⟩
     exact⟨⟨d,h2,rfl⟩,by lia⟩
   exact⟨λ⟨d,hd,h⟩=>⟨d,hd,(key d hd).mp h⟩,λ⟨d,hd,h⟩=>⟨d,hd,(key d hd).mpr h⟩⟩
  ·rfl
end
end
section
section
variable {G:List Nd} {X:List Av} {m:Nat} {AB DE IH:List (List Nat)}
noncomputable def kU (AB:List (List Nat)) (old:List Nat) (k:Nat):Bool:=!(old.filter λo=>decide (o≠k)&&decide (o∈AB.getD k [])).isEmpty
theorem fX (I:Vk G X m AB DE IH) (i:Nat) (named:List Nat) (kd:Int):
  Xy AB DE IH i named kd=Cn [] (((named.filter λk=>(kd==1)||kU AB (DE.getD i []) k).filter λk=>!decide (k∈Ln AB DE IH 4 i))++DE.getD i []++((named.filter λk=>!((kd==1)||kU AB (DE.getD i []) k)).filter λk=>!decide (k∈Ln AB DE IH 4 i))):=by
 have hD:=I.wf.D i
 have notin:∀(l:List Nat) k,k∈l.filter (λk=>!decide (k∈Ln AB DE IH 4 i))->k∉DE.getD i []:=λl k hk q=>by
  have h1:=(Cw.mp hk).2
  have h2:=gK I q
  simp [h2]at h1
 rw [nE hD.1 (λk hk=>notin _ k hk) (λk hk q=>?_) (λk hk q=>notin _ k q hk)]
 ·unfold Xy Nm sF
  rw [Ku,Ku,Ku,Ku]
  have e1:∀(p q:Nat->Bool) (l:List Nat),(l.filter p).filter q=(l.filter q).filter p:=λp q l=>by
   rw [List.filter_filter,List.filter_filter]
   apply Jd
   intro a _
   rw [Bool.and_comm]
  rw [e1 (λk=>(kd==1)||kU AB (DE.getD i []) k),e1 (λk=>!((kd==1)||kU AB (DE.getD i []) k))]
  congr 1
  apply Jd
  intro k hk
  show(!decide (k∈List.filter (λk=>(kd==1)||kU AB (DE.getD i []) k) _))=_
  congr 1
  rw [Ko,decide_eq_true_eq,Cw]
  exact⟨λh=>h.2,λh=>⟨hk,h⟩⟩
 ·have h1:=(Cw.mp (Cw.mp hk).1).2
  have h2:=(Cw.mp (Cw.mp q).1).2
  rw [h1]at h2
  cases h2
theorem iP (I:Vk G X m AB DE IH) {i:Nat} (hi:i < 4) {as bs:List Nat} (ha:∀k∈as,k < m) (hb:∀k∈bs,k < m):
  Mi G (m+1+i) (as.map (· +1)) ((DE.getD i []).map (· +1)) (bs.map (· +1))=(Cn [] ((as.filter λk=>!decide (k∈Ln AB DE IH 4 i))++DE.getD i []++(bs.filter λk=>!decide (k∈Ln AB DE IH 4 i)))).map (· +1):=by
 unfold Mi
 rw [iU I hi ha,iU I hi hb,<-Bk,<-Bk]
 have:=Ti (g:=(· +1)) (λa b h=>by simpa using h) ((as.filter λk=>!decide (k∈Ln AB DE IH 4 i))++DE.getD i []++(bs.filter λk=>!decide (k∈Ln AB DE IH 4 i))) []
 rw [Ky]at this
 exact this
theorem eK (I:Vk G X m AB DE IH) {i:Nat} (hi:i < 4) {named:List Nat} (hn:∀k∈named,k < m):
  Mi G (m+1+i) ((named.map (· +1)).filter (Hp G ((DE.getD i []).map (· +1)))) ((DE.getD i []).map (· +1)) ((named.map (· +1)).filter λj=>!Hp G ((DE.getD i []).map (· +1)) j)=(Xy AB DE IH i named 0).map (· +1):=by
 have hD:=I.wf.D i
 have e1:(named.map (· +1)).filter (Hp G ((DE.getD i []).map (· +1)))=(named.filter λk=>((0:Int)==1)||kU AB (DE.getD i []) k).map (· +1):=by
  rw [Kl]
  congr 1
  apply Jd
  intro k hk
  show Hp G _ (k+1)=_
  rw [iX I (hn k hk) hD.2]
  rfl
 have e2:((named.map (· +1)).filter λj=>!Hp G ((DE.getD i []).map (· +1)) j)=(named.filter λk=>!(((0:Int)==1)||kU AB (DE.getD i []) k)).map (· +1):=by
  rw [Kl]
  congr 1
  apply Jd
  intro k hk
  show(!Hp G _ (k+1))=_
  rw [iX I (hn k hk) hD.2]
  rfl
 rw [e1,e2,iP I hi (λk hk=>hn k (Cw.mp hk).1) (λk hk=>hn k (Cw.mp hk).1),fX I]
theorem pG (I:Vk G X m AB DE IH) {i k:Nat} (hi:i < 4) (hk:k < m):
  Mi G (m+1+i) [k+1] ((DE.getD i []).map (· +1)) []=(Xy AB DE IH i [k] 1).map (· +1):=by
 have:=iP I hi (as:=[k]) (bs:=[]) (λq hq=>by rw [Bi.mp hq];exact hk) (λq hq=>by cases hq)
 rw [fX I]
 exact this
theorem wF (I:Vk G X m AB DE IH) (i:Nat) {named:List Nat} (hn:∀k∈named,k < m) (kd:Int):(Xy AB DE IH i named kd).Nodup/\∀k∈Xy AB DE IH i named kd,k < m:=by
 rw [fX I]
 refine⟨Ji _ _,λk hk=>?_⟩
 rcases Ak.mp ((Jj _ k).mp hk)with h|h
 ·rcases Ak.mp h with h|h
  ·exact hn k (Cw.mp (Cw.mp h).1).1
  ·exact(I.wf.D i).2 k h
 ·exact hn k (Cw.mp (Cw.mp h).1).1
theorem qW {row hs:List Nat} (hr:∀k∈row,k < m):Cn (row.map (· +1)) (hs.map (m+1+ ·))=(Cn [] hs).map (m+1+ ·):=by
 have h1:=Ti (g:=(m+1+ ·)) (λa b h=>by simpa using h) hs []
 rw [Ky]at h1
 rw [<-h1]
 refine So _ _ _ λk hk=>⟨λq=>?_,λq=>by cases q⟩
 obtain⟨a,ha,rfl⟩:=Bq.mp hk
 obtain⟨b,hb,e⟩:=Bq.mp q
 have:=hr b hb
 lia
noncomputable def Rv (AB DE IH:List (List Nat)) (i:Nat) (named:List Nat) (kd:Int):List (List Nat):=if kd=2 then DE.set i (Cn [] named)else DE.set i (Xy AB DE IH i named kd)
noncomputable def Ru (IH:List (List Nat)) (i:Nat) (kd:Int):List (List Nat):=if kd=2 then IH.set i []else IH
theorem sN (I:Vk G X m AB DE IH) {i:Nat} (hi:i < 4) {x:Nd} (ex:G[m+1+i]? =Ad x) {named:List Nat} (hn:∀k∈named,k < m) {kd:Int} (hk:kd≠2) {G':List Nd} {X':List Av} {t bt:Am} {nd:List Nat} (hnd:nd=(Xy AB DE IH i named kd).map (· +1)) (w1:Wd G' X')
  (w2:Jq (G.set (m+1+i) {x with decl:=Ad (.ref t),bt:=bt,bs:=nd++Cn nd ((IH.getD i []).map (m+1+ ·)),inh:=x.inh}) G') (w3:(Ex.obj t,CO.tup (Ap G nd))∈X') (w4:∀e∈X,e∈X') (w5:∀j,j < G'.length->Uk G' j):Vk G' X' m AB (Rv AB DE IH i named kd) (Ru IH i kd):=by
 subst hnd
 obtain⟨x0,ex0,hC,hd,hin,hnil⟩:=I.spec i hi
 rw [ex]at ex0
 cases ex0
 have hr:=wF I i hn kd
 unfold Rv Ru
 rw [if_neg hk,if_neg hk]
 have:=I.deed hi ex w1 w2 w3 w4 w5 (hs:=IH.getD i []) (by rw [qW hr.2]) (hin.more w4) hnil hr (I.wf.I i)
 rw [tM (by rw [I.wf.lenI];exact hi)]at this
 exact this
theorem Aek (I:Vk G X m AB DE IH) {i:Nat} (hi:i < 4) {x:Nd} (ex:G[m+1+i]? =Ad x) {named:List Nat} (hn:∀k∈named,k < m) {G':List Nd} {X':List Av} {t bt:Am} (w1:Wd G' X')
  (w2:Jq (G.set (m+1+i) {x with decl:=Ad (.ref t),bt:=bt,bs:=Cn [] (named.map (· +1)),inh:=Ad .none}) G') (w3:(Ex.obj t,CO.tup (Ap G (Cn [] (named.map (· +1)))))∈X') (w4:∀e∈X,e∈X') (w5:∀j,j < G'.length->Uk G' j):Vk G' X' m AB (Rv AB DE IH i named 2) (Ru IH i 2):=by
 unfold Rv Ru
 rw [if_pos rfl,if_pos rfl]
 have e:=Ti (g:=(· +1)) (λa b h=>by simpa using h) named []
 rw [Ky]at e
 rw [e]at w2 w3
 refine I.deed hi ex w1 w2 w3 w4 w5 (hs:=[]) (by simp [Cn]) (.inl ⟨.inr rfl,rfl⟩) (λ_=>rfl) ⟨Ji _ _,λk hk=>hn k ((Jj _ k).mp hk)⟩ ⟨Cg _,λj hj=>by cases hj⟩
end
end
section
section
variable {Γ:Bm} {A:Az} {G:List Nd} {X:List Av} {m:Nat} {AB DE IH:List (List Nat)}
theorem xJ {τ:List Av} {rw:Am} {i:Nat} {x:Nd} {named:List Nat} {kd:Int} {wh:Bool} {Q:Ab->Bc->Prop} (I:Vk G X m AB DE IH) (hi:i < 4) (ex:G[m+1+i]? =Ad x) (hrw:(Ex.obj rw,CO.list (Ap G (named.map (· +1))))∈τ) (l1:0 < named.length) (l3:named.length<=3) (hn:∀k∈named,k < m)
  (hkd:kd=0\/kd=1\/kd=2) (hk1:kd=1->named.length=1) (hA:Rm A 33) (hh:A.handled=Ae) (hF:AF A ⟨[],τ⟩)
  (h:∀G' X',Vk G' X' m AB (Rv AB DE IH i named kd) (Ru IH i kd)->Gl G G'->(∀e∈X,e∈X')->Q .none ⟨Bl G'++X',τ⟩):
  ∀ws,ws.map cl=[.ref x.me,.ref rw,.int kd 0,.bool wh]->TC Γ A ⟨Bl G++X,τ⟩ (.ref 507) ws [] Q:=λws hw=>by
 refine Pk (body:=fBody (topStmt 30)) (bs:=[("spec",.ref x.me),("row",.ref rw),("kind",.int kd 0),("whole",.bool wh)]) ["spec","row","kind","whole"] (wX Γ) (by kernel_rfl) hA.room ?_ (λL=>?_) (by rfl) (by rfl) (by decide) (by rfl) (by rfl) (by rfl) ws [] hw rfl
 ·intro ws kws hw hk
  obtain⟨w₁,w₂,w₃,w₄,rfl,e1,e2,e3,e4⟩:=aH hw
  have:kws=[]:=by simpa using hk
  subst this
  exact⟨[("spec",w₁),("row",w₂),("kind",w₃),("whole",w₄)],by simp [e1,e2,e3,e4],λs X=>Cm (by rfl)⟩
 show T Γ (A.deeper (Nj L)) ⟨Bl G++X,Zu L x.me rw kd wh τ⟩ (Cs _ (Nj L)) _
 have hA':Rm (A.deeper (Nj L)) 32:=hA.deeper
 obtain⟨x0,ex0,hC,hd,hin,hnil⟩:=I.spec i hi
 rw [ex]at ex0
 cases ex0
 have hl:(named.map (· +1)).length=named.length:=by simp
 have hjs:∀j∈named.map (· +1),0 < j/\j < m+1+i:=λj hj=>by
  obtain⟨k,hk,rfl⟩:=Bq.mp hj
  have:=hn k hk
  lia
 have hD:=I.wf.D i
 have hD4:=I.wf.D4 i
 have hI:=I.wf.I i
 have hjd:∀j∈(DE.getD i []).map (· +1),j < m+1+i:=λj hj=>by
  obtain⟨k,hk,rfl⟩:=Bq.mp hj
  have:=hD.2 k hk
  lia
 have hhs:∀j∈(IH.getD i []).map (m+1+ ·),j < m+1+i:=λj hj=>by
  obtain⟨k,hk,rfl⟩:=Bq.mp hj
  have:=hI.2 k hk
  lia
 have hnil':x.inh=Ae\/x.inh=Ad .none->(IH.getD i []).map (m+1+ ·)=[]:=λq=>by rw [hnil q];rfl
 have ki:∀{d b bs n G'},Jq (G.set (m+1+i) {x with decl:=d,bt:=b,bs:=bs,inh:=n}) G'->Gl G G':=λ{d b bs n G'} w=>by
  have k0:Gl G (G.set (m+1+i) {x with decl:=d,bt:=b,bs:=bs,inh:=n}):=Mb ex rfl
  exact k0.trans w.i
 rcases hkd with rfl|rfl|rfl
 ·cases wh with
  |true=>exact wA (jd:=(DE.getD i []).map (· +1)) (hs:=(IH.getD i []).map (m+1+ ·)) I.wd I.sok ex (by lia) hC hd hin hnil' hrw (by lia) (by lia) hjs hjd hhs (by rw [As];lia) (by rw [As];lia) hA' hh hF λG' X' t bt w1 w2 w3 w4 w5=>h G' X' (sN I hi ex hn (by decide) (eK I hi hn) w1 w2 w3 w4 w5) (ki w2) w4
  |false=>exact zF (jd:=(DE.getD i []).map (· +1)) (hs:=(IH.getD i []).map (m+1+ ·)) I.wd I.sok ex (by lia) hC hd hin hnil' hrw (by lia) (by lia) hjs hjd hhs (by rw [As];lia) (by rw [As];lia) hA' hh hF λG' X' t bt w1 w2 w3 w4 w5=>h G' X' (sN I hi ex hn (by decide) (eK I hi hn) w1 w2 w3 w4 w5) (ki w2) w4
 ·refine zE (jd:=(DE.getD i []).map (· +1)) (hs:=(IH.getD i []).map (m+1+ ·)) I.wd I.sok ex (by lia) hC hd hin hnil' hrw (by lia) (by lia) hjs hjd hhs (by rw [As];lia) (by rw [As];lia) hA' hh hF λj hj G' X' t bt w1 w2 w3 w4 w5=>?_
  have l1:=hk1 rfl
  match named,l1 with
  |[k],_=>
   have:j=k+1:=by simpa using hj.symm
   subst this
   exact h G' X' (sN I hi ex hn (by decide) (pG I hi (hn k (.head _))) w1 w2 w3 w4 w5) (ki w2) w4
 ·exact zD (jd:=(DE.getD i []).map (· +1)) (hs:=(IH.getD i []).map (m+1+ ·)) I.wd I.sok ex (by lia) hC hd hin hnil' hrw (by lia) (by lia) hjs hjd hhs (by rw [As];lia) (by rw [As];lia) hA' hh hF λG' X' t bt w1 w2 w3 w4 w5=>h G' X' (Aek I hi ex hn w1 w2 w3 w4 w5) (ki w2) w4
theorem Xl {τ:List Av} {w fa ab sp de ih:Am} {tv:Option Nat} {Q:Ab->Bc->Prop} (I:Vk G X m AB DE IH) (hL:Zv τ w fa ab sp de ih AB DE IH) (hf:(Ex.obj fa,CO.list (Ap G (Cc m)))∈τ) (hs:(Ex.obj sp,CO.list (Ap G (Di (m+1) 4)))∈τ) (ht:∀t,tv=Ad t->t < 4) (hA:Rm A 41) (hh:A.handled=Ae)
  (h:Q (.bool true) ⟨Bl G++X,τ⟩):∀ws,ws.map cl=[.ref w,tvV tv]->TC Γ A ⟨Bl G++X,τ⟩ (.ref 500) ws [] Q:=
 uX I.wd I.wf I.len hL hf hs (λ_ hi=>I.shows hi) (λt e=>⟨ht t e,I.due t (ht t e)⟩) I.keys hA hh h
end
end
section
noncomputable instance:Xx (List (Ab×Ab)):=⟨List.map λp=>(cl p.1,cl p.2)⟩
theorem cF (Γ:Bm):∀(es:List (Str×Ab)) (vs:List (Ab×Ab)),vs.map (λp=>(cl p.1,cl p.2))=es.map (λp=>(Ab.str p.1 0,p.2))->∃kvs:List (Str×Ab),Carries (strKind Γ.prog Γ.w) vs kvs/\kvs.map (λp=>(p.1,cl p.2))=es
 |[],[],_=>⟨[],trivial,rfl⟩
 |(k,v)::es,(a,b)::vs,h=>by
  simp only [Ck,Ij,Prod.mk.injEq]at h
  obtain⟨⟨h1,h2⟩,h3⟩:=h
  obtain⟨kvs,c1,c2⟩:=cF Γ es vs h3
  obtain⟨t,rfl⟩:=tB h1
  exact⟨(k,b)::kvs,⟨by simp [PySem.strKind,Ab.isStrOf],rfl,c1⟩,by rw [Ck,c2,h2]⟩
 |[],_::_,h=>by simp at h
 |_::_,[],h=>by simp at h
theorem bX:∀(kvs acc:List (Str×Ab)),((acc++kvs).map (·.1)).Nodup->merged acc kvs=acc++kvs
 |[],acc,_=>by simp [merged]
 |(k,v)::r,acc,h=>by
  have hno:(acc.any λkv=>decide (kv.1=k))=false:=by
   rw [List.any_eq_false]
   intro p hp q
   rw [Bk,Ih]at h
   exact h.2.2 p.1 (Cz hp) k (.head _) (of_decide_eq_true q)
  have e:Lr acc k v=acc++[(k,v)]:=by unfold Lr;rw [hno];rfl
  have:=bX r (acc++[(k,v)]) (by simpa using h)
  show merged (Lr acc k v) r=_
  rw [e,this]
  simp
section
variable {Γ:Bm} {A:Az} {σ:Bc} {env:Env}
theorem xU {keys:List (Option At)} {values:List At} {pos:Pos} {W τ:List Av} {Q:Ab->Bc->Prop}
  (h:∀d,T Γ A ⟨W,(.obj d,.sdict [])::τ⟩ (evalPairs (pairTrees keys values env pos)) λcvs σ₁=>∃(es:List (Str×Ab)) (τ₁:List Av),cvs=es.map (λp=>(Ab.str p.1 0,p.2))/\(es.map (·.1)).Nodup/\σ₁=⟨W,(.obj d,.sdict [])::τ₁⟩/\Q (.ref d) ⟨W,(.obj d,.sdict es)::τ₁⟩)
  (hall:autoParam (keys.all (·.isSome)=true) aR) (hl:autoParam (keys.length=values.length) aR) (h0:keys≠[]:=by decide) (hlen:autoParam (keys.length<=15) aD):
  T Γ A ⟨W,τ⟩ (Dv (.Dict keys values pos) env) Q:=λs R=>by
 have R1:Eg Γ ⟨W,(.obj s.heap.objs.size,.sdict [])::τ⟩ {s with heap:=s.heap.push {cls:=.type "dict",data:=.dict #[]}}:=R.push (c:=.sdict []) (λ_ _ e=>An _ e) rfl rfl ⟨[],Cd.DictOf.new s.heap,rfl⟩
 refine wpAny_Dict_walk (knd:=strKind Γ.prog Γ.w) hall hl h0 hlen (Ec (h _ _ R1) (λvs s₁ zz=>?_) λ_ _ x=>x.elim)
 obtain⟨σ₁,R₁,es,τ₁,e1,hn,e2,q⟩:=zz
 subst e2
 obtain⟨kvs,c1,c2⟩:=cF Γ es vs e1
 obtain⟨kvs',D,e⟩:=(R₁.ents _ Bv).1
 have e':kvs'=[]:=by simpa using e
 subst e'
 have hm:merged [] kvs=kvs:=by
  have:=bX kvs [] (by
   have:kvs.map (·.1)=es.map (·.1):=by rw [<-c2,Ei];rfl
   rw [Fw,this];exact hn)
  simpa using this
 refine⟨kvs,c1,D,λh' D' hs=>?_⟩
 rw [hm]at D'
 exact⟨_,Eg.changeS (c':=.sdict es) (s':={s₁ with heap:=h',toks:=s₁.toks+vs.length}) R₁ (.tau .here) rfl hs.extBut rfl rfl ⟨kvs,D',c2⟩,q⟩
theorem kG {pos:Pos} {Q:List (Ab×Ab)->Bc->Prop} (h:Q [] σ):T Γ A σ (evalPairs (pairTrees [] [] env pos)) Q:=λ_ R=>pairTrees_nil_walk ⟨σ,R,h⟩
theorem Ql {k v:At} {ks:List (Option At)} {vs:List At} {pos:Pos} {Q:List (Ab×Ab)->Bc->Prop}
  (h:T Γ A σ (Dv k env) λck σ₁=>T Γ A σ₁ (Dv v env) λcv σ₂=>T Γ A σ₂ (evalPairs (pairTrees ks vs env pos)) λr=>Q ((ck,cv)::r)):T Γ A σ (evalPairs (pairTrees (Ad k::ks) (v::vs) env pos)) Q:=λs R=>
 pairTrees_cons_walk (h.elim R λkv s₁ σ₁ R₁ q₁=>q₁.elim R₁ λvv s₂ σ₂ R₂ q₂=>q₂.elim R₂ λr s₃ σ₃ R₃ q=>⟨σ₃,R₃,q⟩)
end
end
section
section
variable {Γ:Bm} {A:Az} {σ:Bc} {env:Env}
theorem dQ {x y:Str} {px py pos:Pos} {k:Nat} {u v₁ v₂:Ab} {a c:Am} {ov₁ ov₂:Option Ab} {σ₁ σ₂:Bc} {Q:Unit->Bc->Prop} (hh:A.handled=Ae) (hu:cl u=.ref a) (hm:Fc Γ σ a [v₁,v₂]) (U₁:Jf σ (.var env.locals x) (.val ov₁) (.val (Ad v₁)) σ₁) (hc:env.cells.lookup y=Ad c) (U₂:Jf σ₁ (.obj c) (.cell ov₂) (.cell (Ad v₂)) σ₂) (h:Q () σ₂)
  (hk:autoParam (env.scope.kind=.function) aR) (hx:autoParam (env.kindOf x=Ad .local) aR) (hy:autoParam (env.kindOf y=Ad .cell) aR):T Γ A σ (Ir (.Tuple [.Name x px,.Name y py] k pos) env u) Q:=λs R=>by
 have:=Ch hu
 subst this
 obtain⟨us,n,L,e⟩:=hm s R
 have hsz:=Ct e
 refine wpAny_assign_Tuple hh ⟨_,L,rfl,n,rfl⟩ (by rw [hsz];rfl) (by rfl) λh' hx'=>?_
 have R1:=R.grow (s':={s with heap:=h'}) (λb o e=>hx' b o (Kw (Dw e)) e) rfl rfl
 obtain⟨w₁,w₂,h2,e1,e2⟩:=Kf e
 rw [h2]
 show Cu _ _ (do holding [w₂] (Ir (.Name x px) env w₁);holding [] (Ir (.Name y py) env w₂);Et ()) _ _ _
 refine Af (Ef ((Cx (Q:=λ_ σ=>σ=σ₁) e1 U₁ rfl hk hx).elim R1 λ_ s₁ σ' R₁ e=>?_))
 subst e
 exact Af (Ef ((Rg (Q:=λ_ σ=>σ=σ₂) e2 hc U₂ rfl hk hy).elim R₁ λ_ s₂ σ' R₂ e=>Ax (by subst e;exact⟨_,R₂,h⟩)))
theorem gU {elts:List At} {k:Nat} {tpos pos:Pos} {value:At} {Q:Ga->Bc->Prop}
  (h:T Γ A σ (Dv value env) λc σ₁=>∀v,cl v=c->T Γ A σ₁ (Ir (.Tuple elts k tpos) env v) λ_=>Q .next)
  (hs:autoParam (swapsWithSole [.Tuple elts k tpos] value pos.line env=Et false) aR) (hw:autoParam (swappedStores [.Tuple elts k tpos] value env=Et Ae) aR):T Γ A σ (Ni (.Assign [.Tuple elts k tpos] value pos) env) Q:=λs R=>
 Assign_Tuple (h.elim R λv s₁ σ₁ R₁ q=>(q v rfl).elim R₁ λ_ s₂ σ₂ R₂ q=>⟨σ₂,R₂,q⟩) hs hw
end
theorem Aef (Γ:Bm):Γ.K.lookup 512=Ad ⟨.type "function",Ae,.func (Kh Γ 512 "law" (topStmt 31) (.ref 511) .none),#[]⟩:=by kernel_rfl
noncomputable abbrev Dg (L:Am):Env:=Gs "law" (fScope (topStmt 31)) L 512 (.ref 511) [("more",L+8),("one",L+7),("world",L+6),("number",L+5),("k",L+4),("above",L+3),("faces",L+2),("many",L+1)]
noncomputable abbrev wV (L:Am) (mo on wo nu kk ab fa ma sc he ro rw hr oc sp ns at' kd nm:Option Ab) (τ:List Av):List Av:=
 (.obj (L+8),.cell mo)::(.obj (L+7),.cell on)::(.obj (L+6),.cell wo)::(.obj (L+5),.cell nu)::(.obj (L+4),.cell kk)::(.obj (L+3),.cell ab)::(.obj (L+2),.cell fa)::(.obj (L+1),.cell ma)::
 (.var L "script",.val sc)::(.var L "head",.val he)::(.var L "root",.val ro)::(.var L "row",.val rw)::(.var L "heirs",.val hr)::(.var L "once",.val oc)::(.var L "spec",.val sp)::(.var L "numbers",.val ns)::(.var L "at",.val at')::(.var L "kind",.val kd)::(.var L "named",.val nm)::τ
noncomputable def Kj (n:Int):Int:=([0,0,0,1,2]:List Int).getD (n.fmod 5).toNat 0
noncomputable def Se (n:Int):Nat:=((n.fdiv 5).fmod 4).toNat
noncomputable def Mj (m:Nat) (mo:Int):List Nat:=(Er (1+mo.fmod 3).toNat).map λk=>(((mo.fdiv 6).fdiv ((m:Int) ^ k)).fmod m).toNat
theorem Iu {a:Int} {n:Nat} (h:0 < n):a.fmod n=((a.fmod n).toNat:Nat)/\(a.fmod n).toNat < n:=by
 have h1:0<=a.fmod n:=Int.fmod_nonneg_of_pos a (by lia)
 have h2:a.fmod n < n:=Int.fmod_lt_of_pos a (by lia)
 exact⟨by lia,by lia⟩
theorem qD (n:Int):Kj n=0\/Kj n=1\/Kj n=2:=by
 unfold Kj
 have:=(Iu (a:=n) (n:=5) (by decide)).2
 have h5:(n.fmod 5).toNat < 5:=this
 generalize (n.fmod 5).toNat=q at h5
 revert q
 decide
theorem mA (n:Int):([.int 0 0,.int 0 0,.int 0 0,.int 1 0,.int 2 0]:List Ab)[(n.fmod 5).toNat]? =Ad (.int (Kj n) 0):=by
 unfold Kj
 have:=(Iu (a:=n) (n:=5) (by decide)).2
 have h5:(n.fmod 5).toNat < 5:=this
 generalize (n.fmod 5).toNat=q at h5
 revert q
 decide
theorem bV {m:Nat} (hm:0 < m) (mo:Int):0 < (Mj m mo).length/\(Mj m mo).length<=3/\∀k∈Mj m mo,k < m:=by
 unfold Mj
 have h:=Iu (a:=mo) (n:=3) (by decide)
 have h1:mo.fmod 3=((mo.fmod 3).toNat:Nat):=h.1
 have h2:(mo.fmod 3).toNat < 3:=h.2
 refine⟨by rw [As,Dy];lia,by rw [As,Dy];lia,λk hk=>?_⟩
 obtain⟨q,_,rfl⟩:=Bq.mp hk
 exact(Iu (n:=m) hm).2
end
section
noncomputable abbrev Nn:List Jy:=match(fBody (topStmt 31)).drop 10 with|.For _ _ body _ _::_=>body|_=>[]
noncomputable abbrev dS (L w ab fa nl m:Nat) (nu kk sc he ro rw hr oc sp:Option Ab) (mo on at' kd nm:Option Ab) (τ:List Av):List Av:=
 wV L mo on (Ad (.ref w)) nu kk (Ad (.ref ab)) (Ad (.ref fa)) (Ad (.int (m:Int) 0)) sc he ro rw hr oc sp (Ad (.ref nl)) at' kd nm τ
theorem bB {m k:Nat} (hm:m<=4) (hk:k<=3):(Ee.Int.intBits (m:Int):Int) * (k:Int)<=2 ^ 27:=by
 match m,hm,k,hk with
 |0,_,0,_|0,_,1,_|0,_,2,_|0,_,3,_|1,_,0,_|1,_,1,_|1,_,2,_|1,_,3,_|2,_,0,_|2,_,1,_|2,_,2,_|2,_,3,_|3,_,0,_|3,_,1,_|3,_,2,_|3,_,3,_|4,_,0,_|4,_,1,_|4,_,2,_|4,_,3,_=>decide
 |m+5,h,_,_=>lia
 |0,_,k+4,h|1,_,k+4,h|2,_,k+4,h|3,_,k+4,h|4,_,k+4,h=>lia
theorem Yk {m k:Nat} (hm:0 < m/\m<=4) (hk:k<=3):((m:Int) ^ k).natAbs < 1073741824/\((m:Int) ^ k)≠0:=by
 match m,hm,k,hk with
 |1,_,0,_|1,_,1,_|1,_,2,_|1,_,3,_|2,_,0,_|2,_,1,_|2,_,2,_|2,_,3,_|3,_,0,_|3,_,1,_|3,_,2,_|3,_,3,_|4,_,0,_|4,_,1,_|4,_,2,_|4,_,3,_=>decide
 |0,h,_,_=>lia
 |m+5,h,_,_=>lia
 |1,_,k+4,h|2,_,k+4,h|3,_,k+4,h|4,_,k+4,h=>lia
section
variable {Γ:Bm} {A:Az}
set_option maxHeartbeats 2000000 in
theorem nD {W τ:List Av} {L w ab fa nl m:Nat} {nu kk sc he ro rw hr oc sp mo0 on0 kd0 nm0:Option Ab} {ns:List Int} {a:Nat} {n:Int} {Q:Ga->Bc->Prop} (hm:0 < m/\m<=4) (hns:(Ex.obj nl,CO.list (Aw ns))∈τ) (hnl:ns.length<=100) (hn:ns[a]? =Ad n) (hA:Rm (A.deeper (Dg L)) 41) (hh:A.handled=Ae)
  (h:∀tt dl,T Γ (A.deeper (Dg L)) ⟨W,(.obj tt,.tup [.int (Kj n) 0,.int (Se n:Int) 0])::(.obj dl,.list [.int 0 0,.int 0 0,.int 0 0,.int 1 0,.int 2 0])::dS L w ab fa nl m nu kk sc he ro rw hr oc sp mo0 (Ad (.int (Se n:Int) 0)) (Ad (.int (a:Int) 0)) (Ad (.int (Kj n) 0)) nm0 τ⟩ (Cs (Nn.drop 1) (Dg L)) Q):
  T Γ (A.deeper (Dg L)) ⟨W,dS L w ab fa nl m nu kk sc he ro rw hr oc sp mo0 on0 (Ad (.int (a:Int) 0)) kd0 nm0 τ⟩ (Cs Nn (Dg L)) Q:=by
 have hal:=(Al.mp hn).1
 have up:∀{p:Av} mo on kd nm,p∈τ->p∈dS L w ab fa nl m nu kk sc he ro rw hr oc sp mo on (Ad (.int (a:Int) 0)) kd nm τ:=λmo on kd nm hp=>Aa [_,_,_,_,_,_,_,_,_,_,_,_,_,_,_,_,_,_,_] hp
 have hna:(Aw ns)[((a:Int)).toNat]? =Ad (.int n 0):=by rw [Dj];unfold Aw;rw [Bg,hn];rfl
 obtain⟨o1,o2⟩:=Iu (a:=n.fdiv 5) (n:=4) (by decide)
 refine Ao (gU (Kr (k:=0) ?_))
 refine Ai (Bh (Ic (Ai (Dh (k:=0) (pos:=⟨0,0,0,0⟩) (Ai (Dh (k:=0) (pos:=⟨0,0,0,0⟩) (Ai (Dh (k:=0) (pos:=⟨0,0,0,0⟩) (Ai (Dh (k:=0) (pos:=⟨0,0,0,0⟩) (Ai (Dh (k:=0) (pos:=⟨0,0,0,0⟩) (Ar ⟨by rw [Ay];exact Ce rfl,λdl=>?_⟩)))))))))))))
 refine En (Bh (Ac (v:=.ref nl) (by walk_at "mem") (Ac (v:=.int (a:Int) 0) (by walk_at "mem") (Cp (vs:=Aw ns) (v:=.int n 0) (Ag (.tail _ (up _ _ _ _ hns))) (by lia) (by lia) hna (Dh (Vm (by decide) ?_))))))
 refine(Gv<|Cp (vs:=[.int 0 0,.int 0 0,.int 0 0,.int 1 0,.int 2 0]) (v:=.int (Kj n) 0) (Ag (.head _)) (by have:=(Iu (a:=n) (n:=5) (by decide)).1;have h5:n.fmod 5=((n.fmod 5).toNat:Nat):=this;lia) (by have:=(Iu (a:=n) (n:=5) (by decide)).2;have h5:(n.fmod 5).toNat < 5:=this;lia) (mA n) ?_)
 refine Ai (En (En (Bh (Ac (v:=.ref nl) (by walk_at "mem") (Ac (v:=.int (a:Int) 0) (by walk_at "mem") (Cp (vs:=Aw ns) (v:=.int n 0) (Ag (.tail _ (up _ _ _ _ hns))) (by lia) (by lia) hna (Dh (Nt (by decide) (by decide) (Dh (Vm (by decide) ?_))))))))))
 refine Ar ⟨by rw [Ay];exact Ce rfl,λtt=>?_⟩
 have eo:(n.fdiv 5).fmod 4=(Se n:Int):=o1
 rw [eo]
 refine λv hv=>dQ hh hv (.of_mem (Ag (.head _))) (by walk_at "upd") rfl (by walk_at "upd") ?_
 refine Fh.go ?_
 exact h tt dl
end
end
section
section
variable {Γ:Bm} {A:Az}
set_option maxHeartbeats 2000000 in
theorem nC {W τ ρ:List Av} {L w ab fa nl m:Nat} {nu kk sc he ro rw hr oc sp mo0 on0 kd0 nm0:Option Ab} {ns:List Int} {a:Nat} {Q:Ga->Bc->Prop} (hns:(Ex.obj nl,CO.list (Aw ns))∈τ) (hnl:ns.length<=100) (hal:a < ns.length)
  (h:T Γ (A.deeper (Dg L)) ⟨W,ρ++dS L w ab fa nl m nu kk sc he ro rw hr oc sp (Ad (.int (ns.getD (a+1) 0) 0)) on0 (Ad (.int (a:Int) 0)) kd0 nm0 τ⟩ (Cs (Nn.drop 2) (Dg L)) Q):
  T Γ (A.deeper (Dg L)) ⟨W,ρ++dS L w ab fa nl m nu kk sc he ro rw hr oc sp mo0 on0 (Ad (.int (a:Int) 0)) kd0 nm0 τ⟩ (Cs (Nn.drop 1) (Dg L)) Q:=by
 have up:∀{p:Av} mo,p∈τ->p∈ρ++dS L w ab fa nl m nu kk sc he ro rw hr oc sp mo on0 (Ad (.int (a:Int) 0)) kd0 nm0 τ:=λmo hp=>Aa _ (Aa [_,_,_,_,_,_,_,_,_,_,_,_,_,_,_,_,_,_,_] hp)
 have mns:(Ex.var L "numbers",CO.val (Ad (.ref nl)))∈ρ++dS L w ab fa nl m nu kk sc he ro rw hr oc sp mo0 on0 (Ad (.int (a:Int) 0)) kd0 nm0 τ:=Aa _ (.tail _ (.tail _ (.tail _ (.tail _ (.tail _ (.tail _ (.tail _ (.tail _ (.tail _ (.tail _ (.tail _ (.tail _ (.tail _ (.tail _ (.tail _ (.head _))))))))))))))))
 have mat:(Ex.var L "at",CO.val (Ad (.int (a:Int) 0)))∈ρ++dS L w ab fa nl m nu kk sc he ro rw hr oc sp mo0 on0 (Ad (.int (a:Int) 0)) kd0 nm0 τ:=Aa _ (.tail _ (.tail _ (.tail _ (.tail _ (.tail _ (.tail _ (.tail _ (.tail _ (.tail _ (.tail _ (.tail _ (.tail _ (.tail _ (.tail _ (.tail _ (.tail _ (.head _)))))))))))))))))
 refine Ao (Gh rfl (Qi (Au (En (Ac (v:=.int (a:Int) 0) (Ag mat) (Dh (Rl ?_)))))))
 refine Cf (Bd (v:=.builtin "len") (by kernel_rfl) (by decide+kernel) (by decide) ⟨.inr (.inl ⟨_,rfl⟩),?_⟩)
 refine Ai (Ac (v:=.ref nl) (Ag mns) (Ar (Hq (vs:=Aw ns) (Ag (up _ hns)) (by rw [Ea];lia) ?_)))
 rw [Ea]
 refine(vY ⟨_,rfl,λhb=>?_,λhb=>?_⟩)
 ·have hlt:a+1 < ns.length:=by have:=of_decide_eq_true hb;lia
  have hg:ns.getD (a+1) 0=ns[a+1]:=by rw [Df,Bp hlt];rfl
  have hna:(Aw ns)[((a:Int)+1).toNat]? =Ad (.int (ns.getD (a+1) 0) 0):=by
   rw [show((a:Int)+1).toNat=a+1 by lia,hg]
   unfold Aw
   rw [Bg,Bp hlt]
   rfl
  refine Bh (Ac (v:=.ref nl) (Ag mns) (En (Ac (v:=.int (a:Int) 0) (Ag mat) (Dh (Rl (Cp (vs:=Aw ns) (v:=.int (ns.getD (a+1) 0) 0) (Ag (up _ hns)) (by lia) (by lia) hna ⟨_,_,.tau (.pre .here),?_⟩))))))
  exact Fh.go h
 ·have hge:ns.length<=a+1:=by have:=of_decide_eq_false hb;lia
  have hg:ns.getD (a+1) 0=0:=by rw [Df,Du hge];rfl
  rw [hg]at h
  exact Dh ⟨_,_,.tau (.pre .here),Fh.go h⟩
end
end
section
section
variable {Γ:Bm} {A:Az}
set_option maxHeartbeats 2000000 in
theorem nB {W τ ρ:List Av} {L w ab fa nl m:Nat} {nu kk sc he ro rw hr oc sp on0 kd0 at0 nm0:Option Ab} {mo:Int} {Q:Ga->Bc->Prop} (hm:0 < m/\m<=4) (hh:A.handled=Ae)
  (h:∀rg r,T Γ (A.deeper (Dg L)) ⟨W,(.obj r,.list (iv (Mj m mo)))::(.obj rg,.rng 0 (1+mo.fmod 3) 1)::(ρ++dS L w ab fa nl m nu kk sc he ro rw hr oc sp (Ad (.int mo 0)) on0 at0 kd0 (Ad (.ref r)) τ)⟩ (Cs (Nn.drop 3) (Dg L)) Q):
  T Γ (A.deeper (Dg L)) ⟨W,ρ++dS L w ab fa nl m nu kk sc he ro rw hr oc sp (Ad (.int mo 0)) on0 at0 kd0 nm0 τ⟩ (Cs (Nn.drop 2) (Dg L)) Q:=by
 obtain⟨f1,f2⟩:=Iu (a:=mo) (n:=3) (by decide)
 have f1':mo.fmod 3=((mo.fmod 3).toNat:Nat):=f1
 have f2':(mo.fmod 3).toNat < 3:=f2
 have ec:(1+mo.fmod 3)=(((1+mo.fmod 3).toNat:Nat):Int):=by lia
 have hcl:(1+mo.fmod 3).toNat<=3:=by lia
 refine Ao (Sq (Cf (Bd (v:=.type "range") (by kernel_rfl) (by decide+kernel) (by decide) ⟨.inr (.inr ⟨_,rfl⟩),?_⟩)))
 refine Ai (En (Dh (En (Aq (v:=.int mo 0) rfl (Ag (Aa _ (.head _))) (Dh (Vm (by decide) (Rl ?_)))))))
 refine Ar λws hw=>Sm (λrg=>?_) ws hw
 obtain⟨rs1,rs2⟩:=Qy (n:=(1+mo.fmod 3).toNat) (by lia)
 rw [<-ec]at rs1 rs2
 refine(Nr (n:=(1+mo.fmod 3).toNat) (Ag (.head _)) rs1 (rs2.trans ec) λit=>?_)
 let X:List Av:=(.obj rg,.rng 0 (1+mo.fmod 3) 1)::(ρ++dS L w ab fa nl m nu kk sc he ro rw hr oc sp (Ad (.int mo 0)) on0 at0 kd0 nm0 τ)
 refine⟨it,_,_,iv (Er (1+mo.fmod 3).toNat),_,X,iv (Mj m mo),⟨rfl,rfl,by have:=Py (Γ:=Γ) (A:=A.deeper (Dg L)) (it:=it) (x:=0) (c:=1) (n:=(1+mo.fmod 3).toNat) hh;rw [Tu]at this;exact this⟩,Ve,λext=>trivial,by rw [Bw,Dy];lia,by rw [Bw,Bw];unfold Mj;rw [As],?_,λacc=>⟨_,_,.tau (.there (.there (.pre (.there (.there (.there (.there (.there (.there (.there (.there (.there (.there (.there (.there (.there (.there (.there (.there (.there (.there .here))))))))))))))))))))),Fh.go (h rg acc)⟩⟩
 intro C acc k v u ρ' ys q1 q2
 obtain⟨j,hj,rfl⟩:=Rt q1
 obtain⟨y,hy,rfl⟩:=Rt q2
 obtain⟨hjl,hjv⟩:=Al.mp hj
 rw [Dy]at hjl
 rw [Mm]at hjv
 subst hjv
 have hy':y=(((mo.fdiv 6).fdiv ((m:Int) ^ k)).fmod m).toNat:=by
  unfold Mj at hy
  rw [Bg,hj]at hy
  exact(Dl hy).symm
 have hme:=Iu (a:=(mo.fdiv 6).fdiv ((m:Int) ^ k)) (n:=m) hm.1
 obtain⟨p1,p2⟩:=Yk (k:=k) hm (by lia)
 have cm:(Ex.obj (L+1),CO.cell (Ad (.int (m:Int) 0)))∈ρ'++Tt C acc "k" (Ad (.int (k:Int) 0)) ys X:=Aa _ (.tail _ (.tail _ (.tail _ (Aa _ (.tail _ (.tail _ (.tail _ (.tail _ (.tail _ (.tail _ (.tail _ (.head _))))))))))))
 have cmo:(Ex.obj (L+8),CO.cell (Ad (.int mo 0)))∈ρ'++Tt C acc "k" (Ad (.int (k:Int) 0)) ys X:=Aa _ (.tail _ (.tail _ (.tail _ (Aa _ (.head _)))))
 refine En (En (En (Aq (v:=.int mo 0) rfl (Ag cmo) (Dh (Nt (by decide) (by decide) ?_)))))
 refine En (Aq (v:=.int (m:Int) 0) rfl (Ag cm) (Dm (v:=.int (k:Int) 0) (Ag (Aa _ (.head _))) (.head _) (sQ (by lia) (bB hm.2 (by lia)) ?_)))
 rw [Dj]
 refine(Nt p2 p1 ?_)
 refine Aq (v:=.int (m:Int) 0) rfl (Ag cm) (Vm (by lia) ⟨?_,rfl⟩)
 rw [hy',<-hme.1]
end
end
section
noncomputable def Rd (m:Nat) (kd mo:Int):List Nat:=if kd=1 then(Mj m mo).take 1 else Mj m mo
set_option tactic.hygienic true in
theorem uT {m:Nat} (hm:0 < m) (kd mo:Int):0 < (Rd m kd mo).length/\(Rd m kd mo).length<=3/\(∀k∈Rd m kd mo,k < m)/\(kd=1->(Rd m kd mo).length=1):=by
 obtain⟨h1,h2,h3⟩:=bV hm mo
 unfold Rd
 split
 ·rename_i q
  rw [Fx]
  exact⟨by lia,by lia,λk hk=>h3 k (List.mem_of_mem_take hk),λ_=>by lia⟩
 ·rename_i q
  exact⟨h1,h2,h3,λe=>absurd e q⟩
theorem wC (vs:List Ab) (h:0 < vs.length):Um vs Ae (Ad 1)=vs.take 1:=by
 unfold Um
 have:clipAt vs.length 1=1:=by
  exact(clipAt_nat _ 1).trans (Nat.min_eq_left h)
 simp only [Option.elim_some,Option.elim_none,this,List.drop_zero,Nat.sub_zero]
section
variable {Γ:Bm} {A:Az}
set_option maxHeartbeats 2000000 in
theorem nA {W τ ρ:List Av} {L w ab fa nl m r:Nat} {nu kk sc he ro rw hr oc sp on0 at0 mo0:Option Ab} {kd mo:Int} {Q:Ga->Bc->Prop} (hm:0 < m) (hr':(Ex.obj r,CO.list (iv (Mj m mo)))∈ρ)
  (h:∀ρ' r',(Ex.obj r',CO.list (iv (Rd m kd mo)))∈ρ'->T Γ (A.deeper (Dg L)) ⟨W,ρ'++dS L w ab fa nl m nu kk sc he ro rw hr oc sp mo0 on0 at0 (Ad (.int kd 0)) (Ad (.ref r')) τ⟩ (Cs (Nn.drop 4) (Dg L)) Q):
  T Γ (A.deeper (Dg L)) ⟨W,ρ++dS L w ab fa nl m nu kk sc he ro rw hr oc sp mo0 on0 at0 (Ad (.int kd 0)) (Ad (.ref r)) τ⟩ (Cs (Nn.drop 3) (Dg L)) Q:=by
 obtain⟨h1,h2,h3⟩:=bV hm mo
 have mkd:(Ex.var L "kind",CO.val (Ad (.int kd 0)))∈ρ++dS L w ab fa nl m nu kk sc he ro rw hr oc sp mo0 on0 at0 (Ad (.int kd 0)) (Ad (.ref r)) τ:=Aa _ (.tail _ (.tail _ (.tail _ (.tail _ (.tail _ (.tail _ (.tail _ (.tail _ (.tail _ (.tail _ (.tail _ (.tail _ (.tail _ (.tail _ (.tail _ (.tail _ (.tail _ (.head _))))))))))))))))))
 have mnm:(Ex.var L "named",CO.val (Ad (.ref r)))∈ρ++dS L w ab fa nl m nu kk sc he ro rw hr oc sp mo0 on0 at0 (Ad (.int kd 0)) (Ad (.ref r)) τ:=Aa _ (.tail _ (.tail _ (.tail _ (.tail _ (.tail _ (.tail _ (.tail _ (.tail _ (.tail _ (.tail _ (.tail _ (.tail _ (.tail _ (.tail _ (.tail _ (.tail _ (.tail _ (.tail _ (.head _)))))))))))))))))))
 refine Ao (Bo (Qi (Au (Ac (v:=.int kd 0) (Ag mkd) (Dh (Oc ⟨_,rfl,λhb=>?_,λhb=>?_⟩))))))
 ·have hk:kd=1:=by simpa using hb
  refine gD (Ac (v:=.ref r) (Ag mnm) (Zo (Tc (Dh ⟨r,iv (Mj m mo),Ae,Ad 1,rfl,.of_mem (Ag (Ah _ hr')),by rw [Bw];lia,rfl,rfl,λr2=>?_⟩))))
  rw [wC _ (by rw [Bw];exact h1)]
  refine⟨_,_,.tau (.there (.pre (.there (.there (.there (.there (.there (.there (.there (.there (.there (.there (.there (.there (.there (.there (.there (.there (.there (.there .here)))))))))))))))))))),Fh.go ?_⟩
  refine h ((.obj r2,.list ((iv (Mj m mo)).take 1))::ρ) r2 ?_
  have:iv (Rd m kd mo)=(iv (Mj m mo)).take 1:=by
   unfold Rd
   rw [if_pos hk]
   unfold iv nv Aw
   rw [Ox,Ox]
  rw [this]
  exact .head _
 ·have hk:kd≠1:=by simpa using hb
  refine Ac (v:=.ref r) (Ag mnm) ⟨_,_,.tau (.pre (.there (.there (.there (.there (.there (.there (.there (.there (.there (.there (.there (.there (.there (.there (.there (.there (.there (.there .here))))))))))))))))))),Fh.go ?_⟩
  refine h ρ r ?_
  unfold Rd
  rw [if_neg hk]
  exact hr'
end
end
section
section
variable {Γ:Bm} {A:Az} {G:List Nd} {X:List Av} {m:Nat} {AB DE IH:List (List Nat)}
set_option maxHeartbeats 2000000 in
theorem xF {τ1 τ2 ρ ρ1:List Av} {L w ab fa sp de ih nl i:Nat} {das has:List Am} {nu kk sc he ro rw hr oc sv at0:Option Ab} {r:Am} {named:List Nat} {kd mo:Int} {Q:Ga->Bc->Prop} (I:Vk G X m AB DE IH) (hi:i < 4) (hτ:τ1=ρ1++Jv de ih das has τ2)
  (hd:(Ex.obj w,CO.sdict (Vs fa ab sp de ih))∈τ2) (ha:LL τ2 ab AB) (hf:(Ex.obj fa,CO.list (Ap G (Cc m)))∈τ2) (hs:(Ex.obj sp,CO.list (Ap G (Di (m+1) 4)))∈τ2) (r1:Gz τ2 das DE) (r2:Gz τ2 has IH)
  (hr':(Ex.obj r,CO.list (iv named))∈ρ) (l1:0 < named.length) (l3:named.length<=3) (hn:∀k∈named,k < m) (hkd:kd=0\/kd=1\/kd=2) (hk1:kd=1->named.length=1) (hA:Rm (A.deeper (Dg L)) 42) (hh:A.handled=Ae) (hF:AF A ⟨[],[]⟩)
  (h:∀G' X' das' has' ρ2,Vk G' X' m AB (Rv AB DE IH i named kd) (Ru IH i kd)->Gl G G'->
   Gz (ρ2++τ2) das' (Rv AB DE IH i named kd)->Gz (ρ2++τ2) has' (Ru IH i kd)->
   T Γ (A.deeper (Dg L)) ⟨Bl G'++X',Jv de ih das' has' (ρ2++(ρ++dS L w ab fa nl m nu kk sc he ro rw hr oc sv (Ad (.int mo 0)) (Ad (.int (i:Int) 0)) at0 (Ad (.int kd 0)) (Ad (.ref r)) (ρ1++τ2)))⟩ (Cs (Nn.drop 6) (Dg L)) Q):
  T Γ (A.deeper (Dg L)) ⟨Bl G++X,ρ++dS L w ab fa nl m nu kk sc he ro rw hr oc sv (Ad (.int mo 0)) (Ad (.int (i:Int) 0)) at0 (Ad (.int kd 0)) (Ad (.ref r)) τ1⟩ (Cs (Nn.drop 4) (Dg L)) Q:=by
 subst hτ
 have m4:=I.wf.m4
 obtain⟨x,ex,_⟩:=I.spec i hi
 let V:List Av->List Av:=λT=>dS L w ab fa nl m nu kk sc he ro rw hr oc sv (Ad (.int mo 0)) (Ad (.int (i:Int) 0)) at0 (Ad (.int kd 0)) (Ad (.ref r)) T
 let Y:List Av:=ρ++V (ρ1++Jv de ih das has τ2)
 have up:∀{p:Av},p∈τ2->p∈Y:=λhp=>Aa _ (Aa [_,_,_,_,_,_,_,_,_,_,_,_,_,_,_,_,_,_,_] (Aa _ (.tail _ (.tail _ hp))))
 have cmo:(Ex.obj (L+8),CO.cell (Ad (.int mo 0)))∈Y:=Aa _ (.head _)
 have con:(Ex.obj (L+7),CO.cell (Ad (.int (i:Int) 0)))∈Y:=Aa _ (.tail _ (.head _))
 have cwo:(Ex.obj (L+6),CO.cell (Ad (.ref w)))∈Y:=Aa _ (.tail _ (.tail _ (.head _)))
 have cfa:(Ex.obj (L+2),CO.cell (Ad (.ref fa)))∈Y:=Aa _ (.tail _ (.tail _ (.tail _ (.tail _ (.tail _ (.tail _ (.head _)))))))
 have msc:(Ex.var L "script",CO.val sc)∈Y:=Aa _ (.tail _ (.tail _ (.tail _ (.tail _ (.tail _ (.tail _ (.tail _ (.tail _ (.head _)))))))))
 have mkd:(Ex.var L "kind",CO.val (Ad (.int kd 0)))∈Y:=Aa _ (.tail _ (.tail _ (.tail _ (.tail _ (.tail _ (.tail _ (.tail _ (.tail _ (.tail _ (.tail _ (.tail _ (.tail _ (.tail _ (.tail _ (.tail _ (.tail _ (.tail _ (.head _))))))))))))))))))
 have mnm:(Ex.var L "named",CO.val (Ad (.ref r)))∈Y:=Aa _ (.tail _ (.tail _ (.tail _ (.tail _ (.tail _ (.tail _ (.tail _ (.tail _ (.tail _ (.tail _ (.tail _ (.tail _ (.tail _ (.tail _ (.tail _ (.tail _ (.tail _ (.tail _ (.head _)))))))))))))))))))
 have hsp:(Ap G (Di (m+1) 4))[((i:Int)).toNat]? =Ad (.ref x.me):=by
  rw [Dj]
  unfold Ap
  rw [Bg,Ld hi]
  simp [Bu ex]
 show T Γ (A.deeper (Dg L)) ⟨Bl G++X,Y⟩ _ _
 refine Ao (Gf (Cf (Bn (v:=.ref 507) (by kernel_rfl) ⟨.inl (by kernel_rfl),?_⟩)))
 refine Ai (Bh (Bh (Aq (v:=.ref w) rfl (Ag cwo) (Kp (Ej (Ag (up hd)) (v:=.ref sp) (by rfl) (Aq (v:=.int (i:Int) 0) rfl (Ag con) (Gv<|Cp (vs:=Ap G (Di (m+1) 4)) (v:=.ref x.me) (Ag (up hs)) (by lia) (by lia) hsp ?_)))))))
 refine Ai (Sy (Ac (v:=.ref r) (Ag mnm) (Em (vs:=iv named) (Ag (Ah _ hr')) λit=>?_)))
 refine⟨it,_,_,iv named,_,Y,Ap G (named.map (· +1)),⟨rfl,rfl,Ey (a:=r) (vs:=iv named) hh⟩,Hc,λext=>Ag (Aa _ (Ah _ hr')),by rw [Bw];lia,by rw [Bw,Bb,As],?_,λrl=>?_⟩
 ·intro C acc k v u ρ' ys q1 q2
  obtain⟨j,hj,rfl⟩:=Rt q1
  have hjm:=hn j (Fj hj)
  have hu:u=.ref (Gd G (j+1)):=by
   unfold Ap at q2
   rw [Bg,Bg,hj]at q2
   exact(Dl q2).symm
  subst hu
  have hfj:(Ap G (Cc m))[((j:Int)).toNat]? =Ad (.ref (Gd G (j+1))):=by
   rw [Dj]
   unfold Ap
   rw [Bg,Rp hjm]
   rfl
  exact Bh (Aq (v:=.ref fa) rfl (Ag (Aa _ (.tail _ (.tail _ cfa)))) (Dm (v:=.int (j:Int) 0) (Ag (Aa _ (.head _))) (.head _) (Cp (vs:=Ap G (Cc m)) (v:=.ref (Gd G (j+1))) (Ag (Aa _ (.tail _ (.tail _ (up hf))))) (by lia) (by lia) hfj ⟨rfl,rfl⟩)))
 refine Ai (Ac (v:=.int kd 0) (Ag (.tail _ mkd)) ?_)
 refine Ai (To (En (En (Aq (v:=.int mo 0) rfl (Ag (.tail _ cmo)) (Dh (Nt (by decide) (by decide) (Dh (Vm (by decide) (Dh (Oc ?_))))))))))
 refine Ar λws hw=>?_
 have hFY:AF (A.deeper (Dg L)) ⟨[],(.obj rl,.list (Ap G (named.map (· +1))))::Y⟩:=hF.push rfl rfl (L:=L) (x:="script") (c:=sc) (.tail _ msc) λp hp=>by cases hp
 refine(xJ (τ:=(.obj rl,.list (Ap G (named.map (· +1))))::Y) (rw:=rl) I hi ex (.head _) l1 l3 hn hkd hk1 (hA.le (by decide)) hh hFY (λG' X' I' K w4=>?_) ws hw).T
 refine Fh.go ?_
 let ρ3:List Av:=(.obj rl,.list (Ap G (named.map (· +1))))::ρ
 have pm:∀(B:List Av) (a b:Av) (T:List Av),(B++a::b::T).Perm (a::b::(B++T)):=λB a b T=>Fl.trans (Bz.cons _ Fl)
 let Z:List Av:=ρ3++V (ρ1++τ2)
 have hperm:((.obj rl,.list (Ap G (named.map (· +1))))::Y).Perm (Jv de ih das has Z):=by
  have e1:(.obj rl,.list (Ap G (named.map (· +1))))::Y=(ρ3++(V []++ρ1))++(.obj de,.list (das.map .ref))::(.obj ih,.list (has.map .ref))::τ2:=by simp [Y,ρ3,V]
  have e2:Z=(ρ3++(V []++ρ1))++τ2:=by simp [Z,ρ3,V]
  rw [e1]
  show Bz _ ((.obj de,.list (das.map .ref))::(.obj ih,.list (has.map .ref))::Z)
  rw [e2]
  exact pm _ _ _ _
 refine T.conseq (σ':=⟨Bl G'++X',Jv de ih das has Z⟩) (Av.le_perm (Bf _ hperm)) ?_
 have upZ:∀{p:Av},p∈τ2->p∈Z:=λhp=>Aa _ (Aa [_,_,_,_,_,_,_,_,_,_,_,_,_,_,_,_,_,_,_] (Aa _ hp))
 have inZ:∀{p:Av} T,p∈V []->p∈Jv de ih das has (ρ3++V T):=λ{p} T hp=>by
  have:p∈V T:=by
   have e:V T=V []++T:=rfl
   rw [e];exact Ah _ hp
  exact .tail _ (.tail _ (Aa _ this))
 have e0:∀ρ2:List Av,ρ2++Z=(ρ2++[(.obj rl,.list (Ap G (named.map (· +1))))])++(ρ++V (ρ1++τ2)):=λρ2=>by simp [Z,ρ3]
 refine Ao (Gf (Cf (Bn (v:=.ref 490) (by kernel_rfl) ⟨.inl (by kernel_rfl),?_⟩)))
 refine Ai (Aq (v:=.ref w) rfl (Ag (inZ _ (.tail _ (.tail _ (.head _))))) ?_)
 refine Ai (Aq (v:=.int (i:Int) 0) rfl (Ag (inZ _ (.tail _ (.head _)))) ?_)
 refine Ai (Ac (v:=.ref r) (Ag (inZ _ (.tail _ (.tail _ (.tail _ (.tail _ (.tail _ (.tail _ (.tail _ (.tail _ (.tail _ (.tail _ (.tail _ (.tail _ (.tail _ (.tail _ (.tail _ (.tail _ (.tail _ (.tail _ (.head _))))))))))))))))))))) ?_)
 refine Ai (Ac (v:=.int kd 0) (Ag (inZ _ (.tail _ (.tail _ (.tail _ (.tail _ (.tail _ (.tail _ (.tail _ (.tail _ (.tail _ (.tail _ (.tail _ (.tail _ (.tail _ (.tail _ (.tail _ (.tail _ (.tail _ (.head _)))))))))))))))))))) ?_)
 refine Ar λws hw=>(xL (τ:=Z) (nm:=r) (W:=Bl G'++X') I.wf hi (upZ hd) (ha.sub λp hp=>upZ hp) (τr:=τ2) (λp hp=>upZ hp) r1 r2 (Ah _ (.tail _ hr')) l3 hn (hA.le (by decide)) hh (λq das' has' ρ2 k1 k2=>?_) (λq das' ρ2 k1=>?_) ws hw).T
 ·refine Fh.go ?_
  rw [e0]
  have mv:∀p∈ρ2++τ2,p∈(ρ2++[(.obj rl,.list (Ap G (named.map (· +1))))])++τ2:=λp hp=>(Ak.mp hp).elim (λq=>Ah _ (Ah _ q)) λq=>Aa _ q
  replace k1:=k1.sub mv
  replace k2:=k2.sub mv
  have d1:Rv AB DE IH i named kd=DE.set i (Cn [] named):=by unfold Rv;rw [if_pos q]
  have d2:Ru IH i kd=IH.set i []:=by unfold Ru;rw [if_pos q]
  exact h G' X' das' has' _ I' K (by rw [d1];exact k1) (by rw [d2];exact k2)
 ·refine Fh.go ?_
  rw [e0]
  have mv:∀p∈ρ2++τ2,p∈(ρ2++[(.obj rl,.list (Ap G (named.map (· +1))))])++τ2:=λp hp=>(Ak.mp hp).elim (λq=>Ah _ (Ah _ q)) λq=>Aa _ q
  replace k1:=k1.sub mv
  have k2:Gz ((ρ2++[(.obj rl,.list (Ap G (named.map (· +1))))])++τ2) has IH:=r2.sub λp hp=>Aa _ hp
  have d1:Rv AB DE IH i named kd=DE.set i (Xy AB DE IH i named kd):=by unfold Rv;rw [if_neg q]
  have d2:Ru IH i kd=IH:=by unfold Ru;rw [if_neg q]
  exact h G' X' das' has _ I' K (by rw [d1];exact k1) (by rw [d2];exact k2)
end
end
section
theorem wG {n:Nat} (h:n<=8):Op 0 (n:Int) 2=true/\Mf 0 (n:Int) 2=((n+1) / 2:Nat):=by
 match n,h with
 |0,_|1,_|2,_|3,_|4,_|5,_|6,_|7,_|8,_=>exact⟨by decide,by decide⟩
 |n+9,h=>lia
theorem tK {n q:Nat} {v:Ab} (h:(Qj 0 2 n)[q]? =Ad v):q < n/\v=.int ((2 * q:Nat):Int) 0:=by
 obtain⟨h1,h2⟩:=Xh h
 refine⟨h1,?_⟩
 rw [h2]
 congr 1
 push_cast
 lia
section
variable {Γ:Bm} {A:Az} {G0:List Nd} {m:Nat} {AB:List (List Nat)}
set_option maxHeartbeats 4000000 in
theorem rA {G:List Nd} {X ρ ρ' τ2:List Av} {DE IH:List (List Nat)} {L w ab fa sp de ih nl a:Nat} {das has:List Am} {nu kk sc he ro rw hr oc sv mo0 on0 kd0 nm0:Option Ab} {ns:List Int} {n:Int} {Q:Ga->Bc->Prop} (I:Vk G X m AB DE IH) (K0:Gl G0 G) (hm:0 < m)
  (hd:(Ex.obj w,CO.sdict (Vs fa ab sp de ih))∈τ2) (ha:LL τ2 ab AB) (hf:(Ex.obj fa,CO.list (Ap G0 (Cc m)))∈τ2) (hs:(Ex.obj sp,CO.list (Ap G0 (Di (m+1) 4)))∈τ2) (r1:Gz (ρ++τ2) das DE) (r2:Gz (ρ++τ2) has IH)
  (hns:(Ex.obj nl,CO.list (Aw ns))∈τ2) (hnl:ns.length<=100) (hn:ns[a]? =Ad n) (hA:Rm (A.deeper (Dg L)) 43) (hh:A.handled=Ae) (hF:AF A ⟨[],[]⟩)
  (h:∀G' X' DE' IH' das' has' ρ2 mo on kd nm,Vk G' X' m AB DE' IH'->Gl G0 G'->Gz (ρ2++(ρ++τ2)) das' DE'->Gz (ρ2++(ρ++τ2)) has' IH'->Q .next ⟨Bl G'++X',ρ'++Jv de ih das' has' ((ρ2++ρ)++dS L w ab fa nl m nu kk sc he ro rw hr oc sv mo on (Ad (.int (a:Int) 0)) kd nm τ2)⟩):
  T Γ (A.deeper (Dg L)) ⟨Bl G++X,ρ'++Jv de ih das has (ρ++dS L w ab fa nl m nu kk sc he ro rw hr oc sv mo0 on0 (Ad (.int (a:Int) 0)) kd0 nm0 τ2)⟩ (Cs Nn (Dg L)) Q:=by
 have m4:=I.wf.m4
 have hal:=(Al.mp hn).1
 let V:Option Ab->Option Ab->Option Ab->Option Ab->List Av->List Av:=λmo on kd nm T=>dS L w ab fa nl m nu kk sc he ro rw hr oc sv mo on (Ad (.int (a:Int) 0)) kd nm T
 have eV:∀mo on kd nm T,V mo on kd nm T=V mo on kd nm []++T:=λ_ _ _ _ _=>rfl
 let τ1:List Av:=ρ'++Jv de ih das has (ρ++τ2)
 have upτ:∀{p:Av},p∈τ2->p∈τ1:=λhp=>Aa _ (.tail _ (.tail _ (Aa _ hp)))
 refine T.conseq (σ':=⟨Bl G++X,V mo0 on0 kd0 nm0 τ1⟩) (Av.le_perm (Bf _ ?_)) ?_
 ·have e1:ρ'++Jv de ih das has (ρ++V mo0 on0 kd0 nm0 τ2)=(ρ'++Jv de ih das has ρ)++(V mo0 on0 kd0 nm0 []++τ2):=by rw [eV];simp
  have e2:V mo0 on0 kd0 nm0 τ1=V mo0 on0 kd0 nm0 []++((ρ'++Jv de ih das has ρ)++τ2):=by rw [eV];simp [τ1]
  show Bz (ρ'++Jv de ih das has (ρ++V mo0 on0 kd0 nm0 τ2)) (V mo0 on0 kd0 nm0 τ1)
  rw [e1,e2,<-Ba,<-Ba]
  exact Eb _ Fa
 refine nD (τ:=τ1) ⟨hm,m4⟩ (upτ hns) hnl hn (hA.le (by decide)) hh λtt dl=>?_
 let ρa:List Av:=[(.obj tt,.tup [.int (Kj n) 0,.int (Se n:Int) 0]),(.obj dl,.list [.int 0 0,.int 0 0,.int 0 0,.int 1 0,.int 2 0])]
 refine nC (ρ:=ρa) (τ:=τ1) (upτ hns) hnl hal ?_
 refine nB (ρ:=ρa) (τ:=τ1) ⟨hm,m4⟩ hh λrg r=>?_
 let mo:=ns.getD (a+1) 0
 let ρb:List Av:=(.obj r,.list (iv (Mj m mo)))::(.obj rg,.rng 0 (1+mo.fmod 3) 1)::ρa
 refine nA (ρ:=ρb) (τ:=τ1) (kd:=Kj n) (mo:=mo) hm (.head _) λρc r' hr'=>?_
 obtain⟨q1,q2,q3,q4⟩:=uT hm (Kj n) mo
 have hi:Se n < 4:=(Iu (a:=n.fdiv 5) (n:=4) (by decide)).2
 have hf':(Ex.obj fa,CO.list (Ap G (Cc m)))∈ρ++τ2:=by rw [K0.refs];exact Aa _ hf
 have hs':(Ex.obj sp,CO.list (Ap G (Di (m+1) 4)))∈ρ++τ2:=by rw [K0.refs];exact Aa _ hs
 refine xF (τ1:=τ1) (τ2:=ρ++τ2) (ρ:=ρc) (ρ1:=ρ') (r:=r') (kd:=Kj n) (mo:=mo) I hi rfl (Aa _ hd) (ha.sub λp hp=>Aa _ hp) hf' hs' r1 r2 hr' q1 q2 q3 (qD n) q4 (hA.le (by decide)) hh hF λG' X' das' has' ρ2 I' K k1 k2=>?_
 have K':Gl G0 G':=K0.trans K
 let Z:List Av:=ρ2++(ρc++V (Ad (.int mo 0)) (Ad (.int (Se n:Int) 0)) (Ad (.int (Kj n) 0)) (Ad (.ref r')) (ρ'++(ρ++τ2)))
 have upZ:∀{p:Av},p∈τ2->p∈Z:=λhp=>Aa _ (Aa _ (Aa [_,_,_,_,_,_,_,_,_,_,_,_,_,_,_,_,_,_,_] (Aa _ (Aa _ hp))))
 have kz:∀p∈ρ2++(ρ++τ2),p∈Z:=λp hp=>(Ak.mp hp).elim (λq=>Ah _ q) λq=>Aa _ (Aa _ (Aa [_,_,_,_,_,_,_,_,_,_,_,_,_,_,_,_,_,_,_] (Aa _ q)))
 have inZ:∀{p:Av},p∈V (Ad (.int mo 0)) (Ad (.int (Se n:Int) 0)) (Ad (.int (Kj n) 0)) (Ad (.ref r')) (ρ'++(ρ++τ2))->p∈Jv de ih das' has' Z:=λhp=>.tail _ (.tail _ (Aa _ (Aa _ hp)))
 have hL:Zv (Jv de ih das' has' Z) w fa ab sp de ih AB (Rv AB DE IH (Se n) (Rd m (Kj n) mo) (Kj n)) (Ru IH (Se n) (Kj n)):=lE (upZ hd) (ha.sub λp hp=>upZ hp) (k1.sub kz) (k2.sub kz)
 refine Ao (Hz (Nq (Eo (Cf (Bn (v:=.ref 500) (by kernel_rfl) ⟨.inl (by kernel_rfl),?_⟩)))))
 refine Ai (Aq (v:=.ref w) rfl (Ag (inZ (.tail _ (.tail _ (.head _))))) ?_)
 refine Ai (Aq (v:=.int (Se n:Int) 0) rfl (Ag (inZ (.tail _ (.head _)))) ?_)
 refine Ar λws hw=>(Xl (tv:=Ad (Se n)) I' hL (.tail _ (.tail _ (by rw [K'.refs];exact upZ hf))) (.tail _ (.tail _ (by rw [K'.refs];exact upZ hs))) (λt e=>by cases e;exact hi) (hA.le (by decide)) hh (Fi ⟨λhb=>(by cases hb),λ_=>?_⟩) ws hw).T
 refine Cq ?_
 refine Fh.go (T.conseq (σ':=⟨Bl G'++X',ρ'++Jv de ih das' has' (((ρ2++ρc)++ρ)++V (Ad (.int mo 0)) (Ad (.int (Se n:Int) 0)) (Ad (.int (Kj n) 0)) (Ad (.ref r')) τ2)⟩) (Av.le_perm (Bf _ ?_)) (Cq ?_))
 ·let V0:=V (Ad (.int mo 0)) (Ad (.int (Se n:Int) 0)) (Ad (.int (Kj n) 0)) (Ad (.ref r')) []
  let H:List Av:=[(.obj de,.list (das'.map .ref)),(.obj ih,.list (has'.map .ref))]
  have e1:Jv de ih das' has' Z=((H++(ρ2++ρc))++(V0++(ρ'++ρ)))++τ2:=by simp [Z,H,V0,V]
  have e2:ρ'++Jv de ih das' has' (((ρ2++ρc)++ρ)++V (Ad (.int mo 0)) (Ad (.int (Se n:Int) 0)) (Ad (.int (Kj n) 0)) (Ad (.ref r')) τ2)=((ρ'++((H++(ρ2++ρc))++ρ))++V0)++τ2:=by simp [H,V0,V]
  show Bz (Jv de ih das' has' Z) (ρ'++Jv de ih das' has' (((ρ2++ρc)++ρ)++V (Ad (.int mo 0)) (Ad (.int (Se n:Int) 0)) (Ad (.int (Kj n) 0)) (Ad (.ref r')) τ2))
  rw [e1,e2]
  refine Eb τ2 ?_
  have p1:((H++(ρ2++ρc))++(V0++(ρ'++ρ))).Perm ((H++(ρ2++ρc))++((ρ'++ρ)++V0)):=Bf _ Fa
  have p2:((H++(ρ2++ρc))++((ρ'++ρ)++V0))=(((H++(ρ2++ρc))++ρ')++ρ)++V0:=by simp
  have p3:((ρ'++((H++(ρ2++ρc))++ρ))++V0)=((ρ'++(H++(ρ2++ρc)))++ρ)++V0:=by simp
  rw [p3]
  refine p1.trans ?_
  rw [p2]
  exact Eb V0 (Eb ρ Fa)
 ·have mv:∀p∈ρ2++(ρ++τ2),p∈(ρ2++ρc)++(ρ++τ2):=λp hp=>(Ak.mp hp).elim (λq=>Ah _ (Ah _ q)) λq=>Aa _ q
  exact h G' X' _ _ das' has' (ρ2++ρc) _ _ _ _ I' K' (k1.sub mv) (k2.sub mv)
end
end
section
section
variable {Γ:Bm} {A:Az} {m:Nat} {AB:List (List Nat)}
inductive Ahf (G0:List Nd) (m:Nat) (AB:List (List Nat)) (L w ab fa de ih nl:Nat) (nu kk sc he ro rw hr oc sv:Option Ab) (τ2:List Av) (σ:Bc):Prop
 |mk (G:List Nd) (X:List Av) (DE IH:List (List Nat)) (das has:List Am) (ρf ρ:List Av) (mo on at' kd nm:Option Ab) (I:Vk G X m AB DE IH) (K:Gl G0 G) (r1:Gz (ρ++τ2) das DE) (r2:Gz (ρ++τ2) has IH) (e:σ=⟨Bl G++X,ρf++Jv de ih das has (ρ++dS L w ab fa nl m nu kk sc he ro rw hr oc sv mo on at' kd nm τ2)⟩)
set_option maxHeartbeats 4000000 in
theorem qC {G0:List Nd} {X0 ρ0 τ2:List Av} {DE0 IH0:List (List Nat)} {L w ab fa sp de ih nl:Nat} {das0 has0:List Am} {nu kk sc he ro rw hr oc sv mo0 on0 at0 kd0 nm0:Option Ab} {ns:List Int} {Q:Ga->Bc->Prop} (I0:Vk G0 X0 m AB DE0 IH0) (hm:0 < m)
  (hd:(Ex.obj w,CO.sdict (Vs fa ab sp de ih))∈τ2) (ha:LL τ2 ab AB) (hf:(Ex.obj fa,CO.list (Ap G0 (Cc m)))∈τ2) (hs:(Ex.obj sp,CO.list (Ap G0 (Di (m+1) 4)))∈τ2) (r1:Gz (ρ0++τ2) das0 DE0) (r2:Gz (ρ0++τ2) has0 IH0)
  (hns:(Ex.obj nl,CO.list (Aw ns))∈τ2) (hnl:ns.length<=8) (hA:Rm (A.deeper (Dg L)) 43) (hh:A.handled=Ae) (hF:AF A ⟨[],[]⟩) (h:∀σ,Q (.ret (.bool true)) σ):
  T Γ (A.deeper (Dg L)) ⟨Bl G0++X0,Jv de ih das0 has0 (ρ0++dS L w ab fa nl m nu kk sc he ro rw hr oc sv mo0 on0 at0 kd0 nm0 τ2)⟩ (Cs ((fBody (topStmt 31)).drop 10) (Dg L)) Q:=by
 let V:Option Ab->Option Ab->Option Ab->Option Ab->Option Ab->List Av:=λmo on at' kd nm=>dS L w ab fa nl m nu kk sc he ro rw hr oc sv mo on at' kd nm τ2
 have upV:∀{p:Av} mo on at' kd nm,p∈τ2->p∈V mo on at' kd nm:=λmo on at' kd nm hp=>Aa [_,_,_,_,_,_,_,_,_,_,_,_,_,_,_,_,_,_,_] hp
 have mns:(Ex.var L "numbers",CO.val (Ad (.ref nl)))∈V mo0 on0 at0 kd0 nm0:=.tail _ (.tail _ (.tail _ (.tail _ (.tail _ (.tail _ (.tail _ (.tail _ (.tail _ (.tail _ (.tail _ (.tail _ (.tail _ (.tail _ (.tail _ (.head _)))))))))))))))
 refine Ao (Qf (Cf (Bd (v:=.type "range") (by kernel_rfl) (by decide+kernel) (by decide) ⟨.inr (.inr ⟨_,rfl⟩),?_⟩)))
 refine Ai (Dh (k:=0) (pos:=⟨0,0,0,0⟩) ?_)
 refine Ai (Cf (Bd (v:=.builtin "len") (by kernel_rfl) (by decide+kernel) (by decide) ⟨.inr (.inl ⟨_,rfl⟩),?_⟩))
 refine Ai (Ac (v:=.ref nl) (Ag (.tail _ (.tail _ (Aa _ mns)))) (Ar (Hq (vs:=Aw ns) (Ag (.tail _ (.tail _ (Aa _ (upV _ _ _ _ _ hns))))) (by rw [Ea];lia) ?_)))
 rw [Ea]
 refine Ai (Dh (k:=0) (pos:=⟨0,0,0,0⟩) (Ar λws hw=>vG (by decide) (by decide) (λrg=>?_) ws hw))
 obtain⟨rs1,rs2⟩:=wG hnl
 refine(Nr (n:=(ns.length+1) / 2) (Ag (.head _)) rs1 rs2 λit=>?_)
 let RG:Av:=(.obj rg,.rng 0 (ns.length:Int) 2)
 refine⟨it,_,_,_,_,RG::Jv de ih das0 has0 (ρ0++V mo0 on0 at0 kd0 nm0),⟨rfl,rfl,Py (Γ:=Γ) (A:=A.deeper (Dg L)) (it:=it) (x:=0) (c:=2) (n:=(ns.length+1) / 2) hh⟩,
  λ_=>Ahf G0 m AB L w ab fa de ih nl nu kk sc he ro rw hr oc sv τ2,
  ⟨G0,X0,DE0,IH0,das0,has0,[RG],ρ0,mo0,on0,at0,kd0,nm0,I0,rfl,r1,r2,rfl⟩,λ_ _ _=>trivial,?_,?_⟩
 ·intro d v r u ρ' σ he' hu z Kq hK
  obtain⟨G,X,DE,IH,das,has,ρf,ρ,mo,on,at',kd,nm,I,K,k1,k2,e⟩:=z
  rw [e]
  obtain⟨q1,ev⟩:=tK (n:=(ns.length+1) / 2) (q:=d.length) (v:=v) (by rw [<-he',Hh (Cb _),Qn];rfl)
  rw [ev]at hu
  have hlt:2 * d.length < ns.length:=by lia
  have hn:=Bp hlt
  refine Cx (σ':=⟨Bl G++X,ρ'++(ρf++Jv de ih das has (ρ++V mo on (Ad (.int ((2 * d.length:Nat):Int) 0)) kd nm))⟩) hu (.tau (.pre (.pre (.there (.there (.pre (.there (.there (.there (.there (.there (.there (.there (.there (.there (.there (.there (.there (.there (.there (.there (.there .here)))))))))))))))))))))) ?_
  have e1:∀das has ρ mo on at' kd nm,ρ'++(ρf++Jv de ih das has (ρ++V mo on at' kd nm))=(ρ'++ρf)++Jv de ih das has (ρ++V mo on at' kd nm):=λ_ _ _ _ _ _ _ _=>(Ba ..).symm
  rw [e1]
  refine rA (ρ':=ρ'++ρf) (a:=2 * d.length) I K hm hd ha hf hs k1 k2 hns (by lia) hn hA hh hF λG' X' DE' IH' das' has' ρ2 mo' on' kd' nm' I' K' k1' k2'=>?_
  refine hK .next _ ⟨Bl G'++X',ρf++Jv de ih das' has' ((ρ2++ρ)++V mo' on' (Ad (.int ((2 * d.length:Nat):Int) 0)) kd' nm'),?_,G',X',DE',IH',das',has',ρf,ρ2++ρ,mo',on',_,kd',nm',I',K',by rw [Ba];exact k1',by rw [Ba];exact k2',rfl⟩
  rw [e1]
  exact Av.le_refl _
 ·exact λσ _=>Cq (Fh.go (Ao (Fp (Yg (h _)))))
end
end
section
noncomputable def Qw (m:Nat) (script:List Int):List Int:=(script.drop (clipAt script.length (5+(m:Int)))).take (clipAt script.length (13+(m:Int)) - clipAt script.length (5+(m:Int)))
theorem lW (m:Nat) (script:List Int):Um (Aw script) (Ad (5+(m:Int))) (Ad (13+(m:Int)))=Aw (Qw m script):=by
 unfold Um Qw Aw
 simp only [Option.elim_some,As]
 rw [Ox,List.map_drop]
theorem tS (m:Nat) (script:List Int):(Qw m script).length<=8:=by
 unfold Qw
 rw [Fx]
 have h1:clipAt script.length (13+(m:Int))=min (13+m) script.length:=clipAt_nat _ (13+m)
 have h2:clipAt script.length (5+(m:Int))=min (5+m) script.length:=clipAt_nat _ (5+m)
 rw [h1,h2]
 refine Ca (Nat.min_le_left ..) (Nat.sub_le_iff_le_add.mpr ?_)
 rcases Nat.le_total (5+m) script.length with h|h
 ·rw [Nat.min_eq_left h];exact Ca (Nat.min_le_left ..) (by rw [<-Nat.add_assoc];exact Cb _)
 ·rw [Nat.min_eq_right h];exact Ca (Nat.min_le_right ..) (Nat.le_add_left ..)
section
variable {Γ:Bm} {A:Az} {m:Nat} {AB:List (List Nat)}
set_option maxHeartbeats 4000000 in
theorem tX {G:List Nd} {X ρ τ2:List Av} {DE IH:List (List Nat)} {L w ab fa sp de ih sa:Nat} {das has:List Am} {mo on nu kk he ro rw hr oc sv ns0 at0 kd0 nm0:Option Ab} {script:List Int} {Q:Ga->Bc->Prop} (I:Vk G X m AB DE IH) (hm:0 < m)
  (hd:(Ex.obj w,CO.sdict (Vs fa ab sp de ih))∈τ2) (ha:LL τ2 ab AB) (hf:(Ex.obj fa,CO.list (Ap G (Cc m)))∈τ2) (hs:(Ex.obj sp,CO.list (Ap G (Di (m+1) 4)))∈τ2) (r1:Gz (ρ++τ2) das DE) (r2:Gz (ρ++τ2) has IH)
  (hsc:dF Γ sa (Aw script)) (hsl:script.length<=63) (hA:Rm (A.deeper (Dg L)) 43) (hh:A.handled=Ae) (hF:AF A ⟨[],[]⟩) (h:∀σ,Q (.ret (.bool true)) σ):
  T Γ (A.deeper (Dg L)) ⟨Bl G++X,Jv de ih das has (ρ++wV L mo on (Ad (.ref w)) nu kk (Ad (.ref ab)) (Ad (.ref fa)) (Ad (.int (m:Int) 0)) (Ad (.ref sa)) he ro rw hr oc sv ns0 at0 kd0 nm0 τ2)⟩ (Cs ((fBody (topStmt 31)).drop 8) (Dg L)) Q:=by
 let V:Option Ab->List Av->List Av:=λns T=>wV L mo on (Ad (.ref w)) nu kk (Ad (.ref ab)) (Ad (.ref fa)) (Ad (.int (m:Int) 0)) (Ad (.ref sa)) he ro rw hr oc sv ns at0 kd0 nm0 T
 let Z:List Av:=ρ++V ns0 τ2
 have upZ:∀{p:Av},p∈τ2->p∈Z:=λhp=>Aa _ (Aa [_,_,_,_,_,_,_,_,_,_,_,_,_,_,_,_,_,_,_] hp)
 have kz:∀p∈ρ++τ2,p∈Z:=λp hp=>(Ak.mp hp).elim (λq=>Ah _ q) λq=>upZ q
 have inZ:∀{p:Av},p∈V ns0 τ2->p∈Jv de ih das has Z:=λhp=>.tail _ (.tail _ (Aa _ hp))
 have hL:Zv (Jv de ih das has Z) w fa ab sp de ih AB DE IH:=lE (upZ hd) (ha.sub λp hp=>upZ hp) (r1.sub kz) (r2.sub kz)
 show T Γ (A.deeper (Dg L)) ⟨Bl G++X,Jv de ih das has Z⟩ _ _
 refine Ao (Hz (Nq (Eo (Cf (Bn (v:=.ref 500) (by kernel_rfl) ⟨.inl (by kernel_rfl),?_⟩)))))
 refine Ai (Aq (v:=.ref w) rfl (Ag (inZ (.tail _ (.tail _ (.head _))))) ?_)
 refine Ai (Ka (k:=0) (pos:=⟨0,0,0,0⟩) ?_)
 refine Ar λws hw=>(Xl (tv:=Ae) I hL (.tail _ (.tail _ (upZ hf))) (.tail _ (.tail _ (upZ hs))) (λt e=>by cases e) (hA.le (by decide)) hh (Fi ⟨λhb=>(by cases hb),λ_=>?_⟩) ws hw).T
 refine Cq ?_
 refine Fh.go ?_
 have cm:(Ex.obj (L+1),CO.cell (Ad (.int (m:Int) 0)))∈Jv de ih das has Z:=inZ (.tail _ (.tail _ (.tail _ (.tail _ (.tail _ (.tail _ (.tail _ (.head _))))))))
 have msc:(Ex.var L "script",CO.val (Ad (.ref sa)))∈Jv de ih das has Z:=inZ (.tail _ (.tail _ (.tail _ (.tail _ (.tail _ (.tail _ (.tail _ (.tail _ (.head _)))))))))
 refine Ao (Bo (gD (Ac (v:=.ref sa) (Ag msc) (Tc (En (Dh (Aq (v:=.int (m:Int) 0) rfl (Ag cm) (Rl (Tc (En (Dh (Aq (v:=.int (m:Int) 0) rfl (Ag cm) (Rl ⟨sa,Aw script,Ad (5+(m:Int)),Ad (13+(m:Int)),rfl,hsc.has,by rw [Ea];lia,rfl,rfl,λnl=>?_⟩)))))))))))))
 rw [lW]
 refine⟨_,_,.tau (.there (.there (.there (.pre (.there (.there (.there (.there (.there (.there (.there (.there (.there (.there (.there (.there (.there (.there (.there .here))))))))))))))))))),?_⟩
 refine Fh.go ?_
 refine T.conseq (σ':=⟨Bl G++X,Jv de ih das has (ρ++V (Ad (.ref nl)) ((.obj nl,.list (Aw (Qw m script)))::τ2))⟩) (Av.le_perm (Bf _ ?_)) ?_
 ·have e1:(.obj nl,.list (Aw (Qw m script)))::Jv de ih das has (ρ++V (Ad (.ref nl)) τ2)=(Ex.obj nl,CO.list (Aw (Qw m script)))::((Jv de ih das has (ρ++V (Ad (.ref nl)) []))++τ2):=by simp [V]
  have e2:Jv de ih das has (ρ++V (Ad (.ref nl)) ((.obj nl,.list (Aw (Qw m script)))::τ2))=(Jv de ih das has (ρ++V (Ad (.ref nl)) []))++(Ex.obj nl,CO.list (Aw (Qw m script)))::τ2:=by simp [V]
  show Bz ((.obj nl,.list (Aw (Qw m script)))::Jv de ih das has (ρ++V (Ad (.ref nl)) τ2)) (Jv de ih das has (ρ++V (Ad (.ref nl)) ((.obj nl,.list (Aw (Qw m script)))::τ2)))
  rw [e1,e2]
  exact Fl.symm
 have mv:∀p∈ρ++τ2,p∈ρ++((.obj nl,.list (Aw (Qw m script)))::τ2):=λp hp=>(Ak.mp hp).elim (λq=>Ah _ q) λq=>Aa _ (.tail _ q)
 exact qC (ρ0:=ρ) (τ2:=(.obj nl,.list (Aw (Qw m script)))::τ2) I hm (.tail _ hd) (ha.sub λp hp=>.tail _ hp) (.tail _ hf) (.tail _ hs) (r1.sub mv) (r2.sub mv) (.head _) (tS m script) hA hh hF h
end
end
section
theorem zB:Wd [] []:=by
 refine⟨⟨⟨?_,?_,?_,?_⟩,⟨.nil,?_,?_,by decide⟩,?_,?_,?_,?_⟩,?_⟩<;>intro i x<;>intros<;>simp_all
noncomputable def Sg (script:List Int):Int:=script.getD 0 0
noncomputable def Pm (script:List Int):Nat:=(2+(Sg script).fmod 3).toNat
theorem oO (script:List Int):2<=Pm script/\Pm script<=4/\2+(Sg script).fmod 3=(Pm script:Int):=by
 unfold Pm
 have h:=Iu (a:=Sg script) (n:=3) (by decide)
 have h1:(Sg script).fmod 3=(((Sg script).fmod 3).toNat:Nat):=h.1
 have h2:((Sg script).fmod 3).toNat < 3:=h.2
 lia
section
variable {Γ:Bm} {A:Az}
set_option maxHeartbeats 4000000 in
theorem pY {τ:List Av} {L sa:Am} {script:List Int} {Q:Ga->Bc->Prop} (hsc:dF Γ sa (Aw script)) (hsl:script.length<=63) (hA:Rm (A.deeper (Dg L)) 43) (hh:A.handled=Ae) (hF:AF A ⟨[],[]⟩)
  (h:∀G X x fa ab,Wd G X->Jq [x] G->x.C=364->x.key=99->x.bs=[]->x.decl=Ae->x.inh=Ae->(∀j,j < G.length->Uk G j)->
   T Γ (A.deeper (Dg L)) ⟨Bl G++X,(.obj ab,.list [])::(.obj fa,.list [])::wV L Ae Ae Ae Ae Ae (Ad (.ref ab)) (Ad (.ref fa)) (Ad (.int (Pm script:Int) 0)) (Ad (.ref sa)) (Ad (.int (Sg script) 0)) (Ad (.ref x.me)) Ae Ae Ae Ae Ae Ae Ae Ae τ⟩ (Cs ((fBody (topStmt 31)).drop 5) (Dg L)) Q):
  T Γ (A.deeper (Dg L)) ⟨[],wV L Ae Ae Ae Ae Ae Ae Ae Ae (Ad (.ref sa)) Ae Ae Ae Ae Ae Ae Ae Ae Ae Ae τ⟩ (Cs (fBody (topStmt 31)) (Dg L)) Q:=by
 obtain⟨m1,m2,m3⟩:=oO script
 have msc:∀ma he ro,(Ex.var L "script",CO.val (Ad (.ref sa)))∈wV L Ae Ae Ae Ae Ae Ae Ae ma (Ad (.ref sa)) he ro Ae Ae Ae Ae Ae Ae Ae Ae τ:=λma he ro=>.tail _ (.tail _ (.tail _ (.tail _ (.tail _ (.tail _ (.tail _ (.tail _ (.head _))))))))
 have up:∀{p:Av} ma he ro,p∈τ->p∈wV L Ae Ae Ae Ae Ae Ae Ae ma (Ad (.ref sa)) he ro Ae Ae Ae Ae Ae Ae Ae Ae τ:=λma he ro hp=>Aa [_,_,_,_,_,_,_,_,_,_,_,_,_,_,_,_,_,_,_] hp
 have toHead:T Γ (A.deeper (Dg L)) ⟨[],wV L Ae Ae Ae Ae Ae Ae Ae Ae (Ad (.ref sa)) (Ad (.int (Sg script) 0)) Ae Ae Ae Ae Ae Ae Ae Ae Ae τ⟩ (Cs ((fBody (topStmt 31)).drop 1) (Dg L)) Q:=by
  refine Ao (Gh rfl (En (Dh (En (Ac (v:=.int (Sg script) 0) (Ag (.tail _ (.tail _ (.tail _ (.tail _ (.tail _ (.tail _ (.tail _ (.tail _ (.tail _ (.head _))))))))))) (Dh (Vm (by decide) (Rl ?_))))))))
  rw [m3]
  refine⟨_,_,.tau (.there (.there (.there (.there (.there (.there (.there .here))))))),?_⟩
  refine Fh.go ?_
  let V1:List Av:=wV L Ae Ae Ae Ae Ae Ae Ae (Ad (.int (Pm script:Int) 0)) (Ad (.ref sa)) (Ad (.int (Sg script) 0)) Ae Ae Ae Ae Ae Ae Ae Ae Ae τ
  have hFV:AF (A.deeper (Dg L)) ⟨[],V1⟩:=hF.push rfl rfl (L:=L) (x:="script") (c:=Ad (.ref sa)) (msc _ _ _) λp hp=>by cases hp
  show T Γ (A.deeper (Dg L)) ⟨Bl []++[],V1⟩ _ _
  refine Ao (Bo (Cf (Bn (v:=.ref 364) (by kernel_rfl) ⟨.inl (by kernel_rfl),?_⟩)))
  refine Ai (Dh (k:=0) (pos:=⟨0,0,0,0⟩) ?_)
  refine Ar λws hw=>(oU (τ:=V1) (b:=346) (key:=99) (root:=.none) (bs:=[]) (vs:=[.int 99 0]) zB (λj hj=>by cases hj) (by decide) (by decide) rfl (.inr ⟨rfl,rfl⟩) .nil (λk hk=>by cases hk) (hA.le (by decide)) hh hFV (λme=>?_) (λG' X' x w1 w2 w3 w4 w5 w6 w7 w8 w9=>?_) ws hw).T
  ·intro ws kws hw hk
   obtain⟨w₁,w₂,rfl,e1,e2⟩:=Kf hw
   have:kws=[]:=by simpa using hk
   subst this
   exact⟨[("self",w₁),("key",w₂),("bases",.ref 346),("root",.none)],by simp [e1,e2],λs X=>kp_binds X λS=>by kernel_rfl⟩
  ·refine⟨_,_,.tau (.there (.there (.there (.there (.there (.there (.there (.there (.there (.there .here)))))))))),?_⟩
   refine Fh.go ?_
   refine Ao (Gh rfl (Ic (Ar ⟨by rw [Ay];exact Cg _,λfa=>⟨_,_,.tau (.there (.there (.there (.there (.there (.there (.there .here))))))),?_⟩⟩)))
   refine Fh.go ?_
   refine Ao (Gh rfl (Ic (Ar ⟨by rw [Ay];exact Cg _,λab=>⟨_,_,.tau (.there (.there (.there (.there (.there (.there (.there .here))))))),?_⟩⟩)))
   refine Fh.go ?_
   exact h G' X' x fa ab w1 w2 w3 w4 w5 w6 w7 w9
 refine Ao (Bo (Qi (Eo (Ac (v:=.ref sa) (Ag (msc _ _ _)) (Xr (vs:=Aw script) hsc.has (by rw [Ea];lia) ⟨λhb=>?_,λhb=>?_⟩)))))
 ·cases script with
  |nil=>simp [Aw]at hb
  |cons a r=>
   refine Bh (Ac (v:=.ref sa) (Ag (msc _ _ _)) (Dh (Ud (vs:=Aw (a::r)) (v:=.int a 0) hsc.has (by decide) (by decide) rfl ⟨_,_,.tau (.there (.there (.there (.there (.there (.there (.there (.there (.there .here))))))))),Fh.go toHead⟩)))
 ·cases script with
  |cons a r=>simp [Aw]at hb
  |nil=>exact Dh ⟨_,_,.tau (.there (.there (.there (.there (.there (.there (.there (.there (.there .here))))))))),Fh.go toHead⟩
end
end
section
section
variable {Γ:Bm} {A:Az}
set_option maxHeartbeats 4000000 in
theorem pX {W ρ τ:List Av} {L fa ab:Am} {mo on nu kk ma sc he ro rw hr oc sv ns at' kd nm:Option Ab} {Q:Ga->Bc->Prop}
  (h:∀w sp de ih d0 d1 d2 d3,T Γ (A.deeper (Dg L)) ⟨W,(.obj w,.sdict (Vs fa ab sp de ih))::(.obj ih,.list [])::(.obj de,.list [.ref d0,.ref d1,.ref d2,.ref d3])::(.obj d3,.list [])::(.obj d2,.list [])::(.obj d1,.list [])::(.obj d0,.list [])::(.obj sp,.list [])::(ρ++wV L mo on (Ad (.ref w)) nu kk (Ad (.ref ab)) (Ad (.ref fa)) ma sc he ro rw hr oc sv ns at' kd nm τ)⟩ (Cs ((fBody (topStmt 31)).drop 7) (Dg L)) Q):
  T Γ (A.deeper (Dg L)) ⟨W,ρ++wV L mo on Ae nu kk (Ad (.ref ab)) (Ad (.ref fa)) ma sc he ro rw hr oc sv ns at' kd nm τ⟩ (Cs ((fBody (topStmt 31)).drop 6) (Dg L)) Q:=by
 let Y:List Av:=ρ++wV L mo on Ae nu kk (Ad (.ref ab)) (Ad (.ref fa)) ma sc he ro rw hr oc sv ns at' kd nm τ
 have cfa:(Ex.obj (L+2),CO.cell (Ad (.ref fa)))∈Y:=Aa _ (.tail _ (.tail _ (.tail _ (.tail _ (.tail _ (.tail _ (.head _)))))))
 have cab:(Ex.obj (L+3),CO.cell (Ad (.ref ab)))∈Y:=Aa _ (.tail _ (.tail _ (.tail _ (.tail _ (.tail _ (.head _))))))
 have z:∀{n:Nat},n<=10->n<=Gn:=λh=>by rw [Ay];lia
 show T Γ (A.deeper (Dg L)) ⟨W,Y⟩ _ _
 refine Ao (Gh rfl (xU λd=>?_))
 refine Ql (Kp (Aq (v:=.ref fa) rfl (Ag (.tail _ cfa)) ?_))
 refine Ql (Kp (Aq (v:=.ref ab) rfl (Ag (.tail _ cab)) ?_))
 refine Ql (Kp (Ic (Ar ⟨z (by decide),λsp=>?_⟩)))
 refine Ql (Kp (Ic ?_))
 refine Ai (Ic (Ar ⟨z (by decide),λd0=>?_⟩))
 refine Ai (Ic (Ar ⟨z (by decide),λd1=>?_⟩))
 refine Ai (Ic (Ar ⟨z (by decide),λd2=>?_⟩))
 refine Ai (Ic (Ar ⟨z (by decide),λd3=>?_⟩))
 refine Ar ⟨z (Ce rfl),λde=>?_⟩
 refine Ql (Kp (Ic (Ar ⟨z (by decide),λih=>?_⟩)))
 let N:List Av:=(.obj ih,.list [])::(.obj de,.list [.ref d0,.ref d1,.ref d2,.ref d3])::(.obj d3,.list [])::(.obj d2,.list [])::(.obj d1,.list [])::(.obj d0,.list [])::[(.obj sp,.list [])]
 refine T.conseq (σ':=⟨W,(.obj d,.sdict [])::(N++Y)⟩) (Av.le_perm (Bf W (Fl (l₁:=N)))) ?_
 refine kG ⟨Vs fa ab sp de ih,N++Y,rfl,(by show(["faces","above","specs","declared","inherit"]:List Str).Nodup;decide),rfl,?_⟩
 have hU:Ri Y (.obj (L+6)) (.cell Ae) (.cell (Ad (.ref d))) (ρ++wV L mo on (Ad (.ref d)) nu kk (Ad (.ref ab)) (Ad (.ref fa)) ma sc he ro rw hr oc sv ns at' kd nm τ):=Ri.pre (.there (.there .here))
 refine⟨_,_,.tau (.there (.there (.there (.there (.there (.there (.there (.there hU)))))))),?_⟩
 exact Fh.go (h d sp de ih d0 d1 d2 d3)
end
end
structure Zx (G:List Nd) (X:List Av) (k:Nat) (AB:List (List Nat)):Prop where
 wd:Wd G X
 sok:∀j,j < G.length->Uk G j
 len:G.length=k+1
 C:∀j,j < k+1->∃x,G[j]? =Ad x/\x.C=364
 keys:G.map (·.key)=99::([31,8,20,5]:List Int).take k
 lenA:AB.length=k
 A:∀j,j < k->(AB.getD j []).Nodup/\∀o∈AB.getD j [],o<=j
 reach:∀j,j < k->∀i,Ia G (j+1) i↔∃o∈AB.getD j [],i=o+1
 self:∀j,j < k->j∈AB.getD j []
theorem fF {G:List Nd} {x:Nd} (j:Nat):Ge (G++[x]) j=if j=G.length then x.bs else Ge G j:=by
 unfold Ge
 by_cases h:j=G.length
 ·subst h;rw [if_pos rfl];simp
 ·rw [if_neg h]
  by_cases h2:j < G.length
  ·rw [Ft h2]
  ·rw [Du (by rw [Aj];simp;lia),Du (by lia)]
theorem Wy {AB:List (List Nat)} {r:List Nat} (j:Nat):(AB++[r]).getD j []=if j=AB.length then r else AB.getD j []:=by
 rw [Df,Df]
 by_cases h:j=AB.length
 ·subst h;simp
 ·rw [if_neg h]
  by_cases h2:j < AB.length
  ·rw [Ft h2]
  ·rw [Du (by rw [Aj];simp;lia),Du (by lia)]
set_option tactic.hygienic true in
theorem Zx.step {G:List Nd} {X:List Av} {k:Nat} {AB:List (List Nat)} (F:Zx G X k AB) (hk:k < 4) {G':List Nd} {X':List Av} {x:Nd} {row:List Nat} (hrow:∀o∈row,o < k) (w1:Wd G' X') (w2:Jq (G++[x]) G') (hC:x.C=364) (hkey:x.key=([31,8,20,5]:List Int).getD k 0) (hbs:x.bs=row.map (· +1)) (w5:∀j,j < G'.length->Uk G' j):
  Zx G' X' (k+1) (AB++[Cn [] (k::row.flatMap λo=>AB.getD o [])]):=by
 have hb:∀j,Ge G' j=if j=k+1 then row.map (· +1)else Ge G j:=λj=>by rw [w2.bs,fF,F.len,hbs]
 have hlow:∀j,j < k+1->Ge G' j=Ge G j:=λj hj=>by rw [hb,if_neg (by lia)]
 have hlen:G'.length=k+2:=by rw [w2.i.len,Aj,F.len];rfl
 have hold:∀j,j < k->∀i,Ia G' (j+1) i↔∃o∈AB.getD j [],i=o+1:=λj hj i=>by
  rw [<-F.reach j hj i]
  exact⟨λr=>r.under w1.gr (n:=k+1) (λj hj=>(hlow j hj).symm) (by lia),λr=>r.under F.wd.gr (n:=k+1) hlow (by lia)⟩
 refine⟨w1,w5,hlen,λj hj=>?_,?_,by rw [Aj,F.lenA];rfl,λj hj=>?_,λj hj i=>?_,λj hj=>?_⟩
 ·have:∃y,(G++[x])[j]? =Ad y/\y.C=364:=by
   by_cases q:j < k+1
   ·obtain⟨y,ey,hy⟩:=F.C j q
    exact⟨y,by rw [Ft (by rw [F.len];exact q)];exact ey,hy⟩
   ·have:j=G.length:=by rw [F.len];lia
    subst this
    exact⟨x,by simp,hC⟩
  obtain⟨y,ey,hy⟩:=this
  obtain⟨y',ey',hb'⟩:=w2.at' ey
  exact⟨y',ey',by have:=congrArg Nd.C hb';exact this.trans hy⟩
 ·rw [w2.i.keys,Bk,F.keys,Ck,Ky,hkey]
  exact(by decide:∀k,k < 4->(99::([31,8,20,5]:List Int).take k)++[([31,8,20,5]:List Int).getD k 0]=99::([31,8,20,5]:List Int).take (k+1)) k hk
 ·rw [Wy,F.lenA]
  split
  ·rename_i q
   subst q
   refine⟨Ji _ _,λo ho=>?_⟩
   rcases Cj.mp ((Jj _ o).mp ho)with h|h
   ·lia
   ·obtain⟨p,hp,ho'⟩:=Fm.mp h
    have h1:=hrow p hp
    have h2:=(F.A p h1).2 o ho'
    lia
  ·exact F.A j (by lia)
 ·rw [Wy,F.lenA]
  split
  ·rename_i q
   subst q
   rw [Ia.cases',hb,if_pos rfl]
   constructor
   ·rintro(h|⟨b,hb',hr⟩)
    ·exact⟨j,(Jj _ j).mpr (.head _),h⟩
    ·obtain⟨p,hp,rfl⟩:=Bq.mp hb'
     obtain⟨o,ho,e⟩:=(hold p (hrow p hp) i).mp hr
     exact⟨o,(Jj _ o).mpr (.tail _ (Fm.mpr ⟨p,hp,ho⟩)),e⟩
   ·rintro⟨o,ho,e⟩
    rcases Cj.mp ((Jj _ o).mp ho)with h|h
    ·exact .inl (by lia)
    ·obtain⟨p,hp,ho'⟩:=Fm.mp h
     exact .inr ⟨p+1,Bq.mpr ⟨p,hp,rfl⟩,(hold p (hrow p hp) i).mpr ⟨o,ho',e⟩⟩
  ·exact hold j (by lia) i
 ·rw [Wy,F.lenA]
  split
  ·rename_i q
   rw [q]
   exact(Jj _ k).mpr (.head _)
  ·exact F.self j (by lia)
section
noncomputable abbrev Sk:List Jy:=match(fBody (topStmt 31)).drop 5 with|.For _ _ body _ _::_=>body|_=>[]
section
variable {Γ:Bm} {A:Az}
set_option maxHeartbeats 2000000 in
theorem jX {W τ ρ:List Av} {L sa k:Nat} {mo on wo nu0 ab fa ma he ro rw hr oc sv ns at' kd nm:Option Ab} {script:List Int} {Q:Ga->Bc->Prop} (hsc:dF Γ sa (Aw script)) (hsl:script.length<=63)
  (h:T Γ (A.deeper (Dg L)) ⟨W,ρ++wV L mo on wo (Ad (.int (script.getD (1+k) (k:Int)) 0)) (Ad (.int (k:Int) 0)) ab fa ma (Ad (.ref sa)) he ro rw hr oc sv ns at' kd nm τ⟩ (Cs (Sk.drop 1) (Dg L)) Q):
  T Γ (A.deeper (Dg L)) ⟨W,ρ++wV L mo on wo nu0 (Ad (.int (k:Int) 0)) ab fa ma (Ad (.ref sa)) he ro rw hr oc sv ns at' kd nm τ⟩ (Cs Sk (Dg L)) Q:=by
 let Y:List Av:=ρ++wV L mo on wo nu0 (Ad (.int (k:Int) 0)) ab fa ma (Ad (.ref sa)) he ro rw hr oc sv ns at' kd nm τ
 have up:∀{p:Av},p∈τ->p∈Y:=λhp=>Aa _ (Aa [_,_,_,_,_,_,_,_,_,_,_,_,_,_,_,_,_,_,_] hp)
 have msc:(Ex.var L "script",CO.val (Ad (.ref sa)))∈Y:=Aa _ (.tail _ (.tail _ (.tail _ (.tail _ (.tail _ (.tail _ (.tail _ (.tail _ (.head _)))))))))
 have ck:(Ex.obj (L+4),CO.cell (Ad (.int (k:Int) 0)))∈Y:=Aa _ (.tail _ (.tail _ (.tail _ (.tail _ (.head _)))))
 have hU:∀v,Ri Y (.obj (L+5)) (.cell nu0) (.cell (Ad v)) (ρ++wV L mo on wo (Ad v) (Ad (.int (k:Int) 0)) ab fa ma (Ad (.ref sa)) he ro rw hr oc sv ns at' kd nm τ):=λv=>Ri.pre (.there (.there (.there .here)))
 show T Γ (A.deeper (Dg L)) ⟨W,Y⟩ _ _
 refine Ao (Gh rfl (Qi (Au (En (Dh (Aq (v:=.int (k:Int) 0) rfl (Ag ck) (Rl ?_)))))))
 refine Cf (Bd (v:=.builtin "len") (by kernel_rfl) (by decide+kernel) (by decide) ⟨.inr (.inl ⟨_,rfl⟩),?_⟩)
 refine Ai (Ac (v:=.ref sa) (Ag msc) (Ar (Yw (vs:=Aw script) hsc.has (by rw [Ea];lia) ?_)))
 rw [Ea]
 refine(vY ⟨_,rfl,λhb=>?_,λhb=>?_⟩)
 ·have hlt:1+k < script.length:=by have:=of_decide_eq_true hb;lia
  have hg:script.getD (1+k) (k:Int)=script[1+k]:=by rw [Df,Bp hlt];rfl
  have hna:(Aw script)[(1+(k:Int)).toNat]? =Ad (.int (script.getD (1+k) (k:Int)) 0):=by
   rw [show(1+(k:Int)).toNat=1+k by lia,hg]
   unfold Aw
   rw [Bg,Bp hlt]
   rfl
  exact Bh (Ac (v:=.ref sa) (Ag msc) (En (Dh (Aq (v:=.int (k:Int) 0) rfl (Ag ck) (Rl (Ud (vs:=Aw script) (v:=.int (script.getD (1+k) (k:Int)) 0) hsc.has (by lia) (by lia) hna ⟨_,_,.tau (hU _),Fh.go h⟩))))))
 ·have hge:script.length<=1+k:=by have:=of_decide_eq_false hb;lia
  have hg:script.getD (1+k) (k:Int)=(k:Int):=by rw [Df,Du hge];rfl
  rw [hg]at h
  exact Aq (v:=.int (k:Int) 0) rfl (Ag ck) ⟨_,_,.tau (hU _),Fh.go h⟩
end
end
section
noncomputable def Nl (c k:Nat) (num:Int):List Nat:=(Er (if 0 < k then(num.fmod c).toNat else 0)).map λt=>(((num.fdiv c).fdiv (((k+1:Nat):Int) ^ t)).fmod k).toNat
theorem bI {c k:Nat} (hc:0 < c) (num:Int):(Nl c k num).length < c/\∀o∈Nl c k num,o < k:=by
 unfold Nl
 have h:=Iu (a:=num) (n:=c) hc
 refine⟨by rw [As,Dy];split<;>lia,λo ho=>?_⟩
 obtain⟨t,ht,rfl⟩:=Bq.mp ho
 rw [Mc]at ht
 by_cases q:0 < k
 ·exact(Iu (n:=k) q).2
 ·rw [if_neg q]at ht;lia
section
variable {Γ:Bm} {A:Az}
set_option maxHeartbeats 2000000 in
theorem uR {W τ ρ:List Av} {L k:Nat} {num:Int} {mo on wo ab fa ma sc he ro rw0 hr oc sv ns at' kd nm:Option Ab} {Q:Ga->Bc->Prop} (hk:k < 4) (hA:Rm (A.deeper (Dg L)) 3) (hh:A.handled=Ae)
  (h:∀ρ' r,(Ex.obj r,CO.list (iv (Cn [] (Nl 3 k num))))∈ρ'->T Γ (A.deeper (Dg L)) ⟨W,ρ'++(ρ++wV L mo on wo (Ad (.int num 0)) (Ad (.int (k:Int) 0)) ab fa ma sc he ro (Ad (.ref r)) hr oc sv ns at' kd nm τ)⟩ (Cs (Sk.drop 2) (Dg L)) Q):
  T Γ (A.deeper (Dg L)) ⟨W,ρ++wV L mo on wo (Ad (.int num 0)) (Ad (.int (k:Int) 0)) ab fa ma sc he ro rw0 hr oc sv ns at' kd nm τ⟩ (Cs (Sk.drop 1) (Dg L)) Q:=by
 let V:Option Ab->List Av:=λr=>wV L mo on wo (Ad (.int num 0)) (Ad (.int (k:Int) 0)) ab fa ma sc he ro r hr oc sv ns at' kd nm τ
 let Y:List Av:=ρ++V rw0
 have cnu:(Ex.obj (L+5),CO.cell (Ad (.int num 0)))∈Y:=Aa _ (.tail _ (.tail _ (.tail _ (.head _))))
 have ck:(Ex.obj (L+4),CO.cell (Ad (.int (k:Int) 0)))∈Y:=Aa _ (.tail _ (.tail _ (.tail _ (.tail _ (.head _)))))
 have hfm:num.fmod 3=((num.fmod 3).toNat:Nat)/\(num.fmod 3).toNat < 3:=Iu (a:=num) (n:=3) (by decide)
 let cnt:Nat:=if 0 < k then(num.fmod 3).toNat else 0
 have hcnt:cnt<=2:=by show(if 0 < k then(num.fmod 3).toNat else 0)<=2;split<;>lia
 show T Γ (A.deeper (Dg L)) ⟨W,Y⟩ _ _
 have rest:T Γ (A.deeper (Dg L)) ⟨W,Y⟩ (Dv (.Constant .none 0 ⟨0,0,0,0⟩) (Dg L)) (λ_ σ=>σ=⟨W,Y⟩):=Ka rfl
 refine Ao (Bo (Cf (Bn (v:=.ref 473) (by kernel_rfl) ⟨.inl (by kernel_rfl),?_⟩)))
 refine Ai (Sy (Cf (Bd (v:=.type "range") (by kernel_rfl) (by decide+kernel) (by decide) ⟨.inr (.inr ⟨_,rfl⟩),?_⟩)))
 refine Ai ((Qi (pos:=⟨379,78,379,104⟩) (Q:=λc σ=>c=.int (cnt:Int) 0/\σ=⟨W,Y⟩) (Au (Aq (v:=.int (k:Int) 0) rfl (Ag ck) (Dh (Aea ⟨_,rfl,λhb=>?_,λhb=>?_⟩))))).mono λc σ ⟨e1,e2⟩=>?_)
 ·have hk0:0 < k:=by have:=of_decide_eq_true hb;lia
  refine En (Aq (v:=.int num 0) rfl (Ag cnu) (Dh (Vm (by decide) ⟨?_,rfl⟩)))
  show Fs (num.fmod 3) 0=.int ((if 0 < k then(num.fmod 3).toNat else 0:Nat):Int) 0
  rw [if_pos hk0,<-hfm.1]
 ·have hk0:¬0 < k:=by have:=of_decide_eq_false hb;lia
  refine Dh ⟨?_,rfl⟩
  show Fs 0 0=.int ((if 0 < k then(num.fmod 3).toNat else 0:Nat):Int) 0
  rw [if_neg hk0]
  rfl
 subst e1
 subst e2
 refine Ar λws hw=>Sm (λrg=>?_) ws hw
 obtain⟨rs1,rs2⟩:=Qy (n:=cnt) (by lia)
 refine(Nr (n:=cnt) (Ag (.head _)) rs1 rs2 λit=>?_)
 let X:List Av:=(.obj rg,.rng 0 (cnt:Int) 1)::Y
 refine⟨it,_,_,iv (Er cnt),_,X,iv (Nl 3 k num),⟨rfl,rfl,by have:=Py (Γ:=Γ) (A:=A.deeper (Dg L)) (it:=it) (x:=0) (c:=1) (n:=cnt) hh;rw [Tu]at this;exact this⟩,Ve,λext=>trivial,by rw [Bw,Dy];lia,by rw [Bw,Bw,Dy];unfold Nl;rw [As,Dy];rfl,?_,λacc=>?_⟩
 ·intro C acc t v u ρ' ys q1 q2
  obtain⟨j,hj,rfl⟩:=Rt q1
  obtain⟨y,hy,rfl⟩:=Rt q2
  obtain⟨hjl,hjv⟩:=Al.mp hj
  rw [Dy]at hjl
  rw [Mm]at hjv
  subst hjv
  have hk0:0 < k:=by
   by_cases q:0 < k
   ·exact q
   ·have:cnt=0:=if_neg q
    lia
  have hy':y=(((num.fdiv 3).fdiv (((k+1:Nat):Int) ^ t)).fmod k).toNat:=by
   unfold Nl at hy
   have hj':(Er (if 0 < k then(num.fmod (3:Nat)).toNat else 0))[t]? =Ad t:=hj
   rw [Bg,hj']at hy
   exact(Dl hy).symm
  have hme:=Iu (a:=(num.fdiv 3).fdiv (((k+1:Nat):Int) ^ t)) (n:=k) hk0
  obtain⟨p1,p2⟩:=Yk (m:=k+1) (k:=t) ⟨by lia,by lia⟩ (by lia)
  have upX:∀{p:Av},p∈Y->p∈ρ'++Tt C acc "turn" (Ad (.int (t:Int) 0)) ys X:=λhp=>Aa _ (.tail _ (.tail _ (.tail _ hp)))
  refine En (En (En (Aq (v:=.int num 0) rfl (Ag (upX cnu)) (Dh (Nt (by decide) (by decide) ?_)))))
  refine En (En (Aq (v:=.int (k:Int) 0) rfl (Ag (upX ck)) (Dh (Rl ?_))))
  refine Dm (v:=.int (t:Int) 0) (Ag (Aa _ (.head _))) (.head _) (sQ (a:=((k+1:Nat):Int)) (by lia) (bB (m:=k+1) (by lia) (by lia)) ?_)
  rw [Dj]
  refine(Nt p2 p1 ?_)
  refine Aq (v:=.int (k:Int) 0) rfl (Ag (upX ck)) (Vm (by lia) ⟨?_,rfl⟩)
  rw [hy',<-hme.1]
 ·have hl:=(bI (c:=3) (k:=k) (by decide) num).1
  refine Ar λws hw=>(Un (ns:=nv (Nl 3 k num)) (hA.le (by decide)) hh (Ag (.head _)) (by rw [Ma];lia) (λr=>?_) ws hw).T
  rw [Sv]
  have hU:Ri Y (.var L "row") (.val rw0) (.val (Ad (.ref r))) (ρ++V (Ad (.ref r))):=Ri.pre (.there (.there (.there (.there (.there (.there (.there (.there (.there (.there (.there .here)))))))))))
  exact⟨_,_,.tau (.there (.there (.there hU))),Fh.go (h [_,_,_] r (.head _))⟩
end
end
section
section
variable {Γ:Bm} {A:Az}
set_option maxHeartbeats 2000000 in
theorem mY {W τ ρ:List Av} {L k ab r:Nat} {aas:List Am} {AB:List (List Nat)} {row:List Nat} {mo on wo nu fa ma sc he ro hr oc sv ns at' kd nm:Option Ab} {Q:Ga->Bc->Prop} (hk:k < 4) (hr':(Ex.obj r,CO.list (iv row))∈ρ) (lr:row.length<=4) (hrow:∀o∈row,o < k) (hAB:AB.length=k) (hA4:∀j,(AB.getD j []).length<=10) (rows:Gz (ρ++τ) aas AB) (hA:Rm (A.deeper (Dg L)) 3) (hh:A.handled=Ae)
  (h:∀ρ' q,(Ex.obj q,CO.list (iv (Cn [] (k::row.flatMap λo=>AB.getD o []))))∈ρ'->Q .next ⟨W,ρ'++((.obj ab,.list ((aas++[q]).map .ref))::(ρ++wV L mo on wo nu (Ad (.int (k:Int) 0)) (Ad (.ref ab)) fa ma sc he ro (Ad (.ref r)) hr oc sv ns at' kd nm τ))⟩):
  T Γ (A.deeper (Dg L)) ⟨W,(.obj ab,.list (aas.map .ref))::(ρ++wV L mo on wo nu (Ad (.int (k:Int) 0)) (Ad (.ref ab)) fa ma sc he ro (Ad (.ref r)) hr oc sv ns at' kd nm τ)⟩ (Cs (Sk.drop 3) (Dg L)) Q:=by
 let Y:List Av:=(.obj ab,.list (aas.map .ref))::(ρ++wV L mo on wo nu (Ad (.int (k:Int) 0)) (Ad (.ref ab)) fa ma sc he ro (Ad (.ref r)) hr oc sv ns at' kd nm τ)
 have up:∀{p:Av},p∈ρ++τ->p∈Y:=λhp=>.tail _ ((Ak.mp hp).elim (λq=>Ah _ q) λq=>Aa _ (Aa [_,_,_,_,_,_,_,_,_,_,_,_,_,_,_,_,_,_,_] q))
 have ck:(Ex.obj (L+4),CO.cell (Ad (.int (k:Int) 0)))∈Y:=.tail _ (Aa _ (.tail _ (.tail _ (.tail _ (.tail _ (.head _))))))
 have cab:(Ex.obj (L+3),CO.cell (Ad (.ref ab)))∈Y:=.tail _ (Aa _ (.tail _ (.tail _ (.tail _ (.tail _ (.tail _ (.head _)))))))
 have mrow:(Ex.var L "row",CO.val (Ad (.ref r)))∈Y:=.tail _ (Aa _ (.tail _ (.tail _ (.tail _ (.tail _ (.tail _ (.tail _ (.tail _ (.tail _ (.tail _ (.tail _ (.tail _ (.head _)))))))))))))
 let fl:=row.flatMap λo=>AB.getD o []
 have hfl:fl.length<=40:=by
  have:=Sj (f:=λo=>AB.getD o []) (c:=10) (l:=row) λo _=>hA4 o
  show(List.flatMap _ _).length<=40
  lia
 have hfm:((nv row).flatMap λo=>nv (AB.getD o.toNat []))=nv fl:=bR row (λo=>AB.getD o [])
 have hal:aas.length=k:=by rw [rows.1,hAB]
 show T Γ (A.deeper (Dg L)) ⟨W,Y⟩ _ _
 refine Ao (Gf (Fo (Aq (v:=.ref ab) rfl (Ag cab) (De Cv Dt Ds (It (vs:=aas.map .ref) (Ag (.head _))) ⟨.inr (.inl ⟨_,rfl⟩),?_⟩))))
 refine Ai (Cf (Bn (v:=.ref 473) (by kernel_rfl) ⟨.inl (by kernel_rfl),?_⟩))
 refine Ai (En (Ic (Ai (Aq (v:=.int (k:Int) 0) rfl (Ag ck) (Ar ⟨by rw [Ay];exact Ce rfl,λl1=>?_⟩)))))
 refine xV (ks:=nv row) (f:=λo=>nv (AB.getD o.toNat [])) hh (Ac (v:=.ref r) (Ag (.tail _ mrow)) ⟨r,rfl,rfl,Ag (.tail _ (up (Ah _ hr')))⟩) (λo ho C acc ρ2 p ys=>?_) (by rw [hfm,Ma];lia) λacc=>?_
 ·obtain⟨on',rfl,hon⟩:=lD ho
  have hok:=hrow on' hon
  have hb:aas[on']? =Ad (aas[on']'(by lia)):=Bp _
  have hl:AB[on']? =Ad (AB.getD on' []):=by rw [Df,Bp (by lia)];rfl
  have hm:=rows.2 on' _ _ hb hl
  exact Bh (Aq (v:=.ref ab) rfl (Ag (Aa _ (.tail _ (.tail _ (.tail _ cab))))) (Dm (v:=.int (on':Int) 0) (Ag (Aa _ (.head _))) (.head _) (Cp (vs:=aas.map .ref) (v:=.ref (aas[on']'(by lia))) (Ag (Aa _ (.tail _ (.tail _ (.tail _ (.head _)))))) (by lia) (by lia) (by rw [Dj,Bg,hb];rfl) ⟨_,rfl,rfl,by rw [Dj];exact Ag (.tail _ (up hm))⟩)))
 rw [hfm]
 refine(Xg (vs:=[.int (k:Int) 0]) (us:=iv fl) (Ag (.tail _ (.head _))) (Ag (.head _)) (by rw [Bw];simp;lia) λcc=>?_)
 have ecc:[Fs (k:Int) 0]++iv fl=iv (k::fl):=rfl
 rw [ecc]
 refine Ar λws hw=>(Un (ns:=nv (k::fl)) (hA.le (by decide)) hh (Ag (.head _)) (by rw [Ma];simp;lia) (λq=>?_) ws hw).T
 rw [Sv]
 refine Ar (Lx (vs:=aas.map .ref) (.tau (.there (.there (.there (.there .here))))) (by rw [As,Ay];lia) ?_)
 refine Fh.go (Cq ?_)
 have:=h [(.obj q,.list (iv (Cn [] (k::fl)))),(.obj cc,.list (iv (k::fl))),(.obj acc,.list (iv fl)),(.obj l1,.list [.int (k:Int) 0])] q (.head _)
 rw [Bk]at this
 exact this
end
end
section
section
variable {Γ:Bm} {A:Az} {G:List Nd} {X:List Av}
set_option maxHeartbeats 2000000 in
theorem qY {AB:List (List Nat)} {τ ρ:List Av} {L k fa r:Nat} {z:Nd} {row:List Nat} {mo on wo nu ab ma sc he hr oc sv ns at' kd nm:Option Ab} {Q:Ga->Bc->Prop} (F:Zx G X k AB) (ez:G[0]? =Ad z) (hk:k < 4) (hr':(Ex.obj r,CO.list (iv row))∈ρ) (lr:row.length<=4) (hrow:∀o∈row,o < k) (hnd:row.Nodup) (hA:Rm (A.deeper (Dg L)) 36) (hh:A.handled=Ae) (hF:AF A ⟨[],[]⟩)
  (h:∀G' X' x ρ',Wd G' X'->Jq (G++[x]) G'->x.C=364->x.key=([31,8,20,5]:List Int).getD k 0->x.bs=row.map (· +1)->(∀j,j < G'.length->Uk G' j)->T Γ (A.deeper (Dg L)) ⟨Bl G'++X',ρ'++((.obj fa,.list (Ap G (Cc k)++[.ref x.me]))::(ρ++wV L mo on wo nu (Ad (.int (k:Int) 0)) ab (Ad (.ref fa)) ma sc he (Ad (.ref z.me)) (Ad (.ref r)) hr oc sv ns at' kd nm τ))⟩ (Cs (Sk.drop 3) (Dg L)) Q):
  T Γ (A.deeper (Dg L)) ⟨Bl G++X,(.obj fa,.list (Ap G (Cc k)))::(ρ++wV L mo on wo nu (Ad (.int (k:Int) 0)) ab (Ad (.ref fa)) ma sc he (Ad (.ref z.me)) (Ad (.ref r)) hr oc sv ns at' kd nm τ)⟩ (Cs (Sk.drop 2) (Dg L)) Q:=by
 let Y:List Av:=(.obj fa,.list (Ap G (Cc k)))::(ρ++wV L mo on wo nu (Ad (.int (k:Int) 0)) ab (Ad (.ref fa)) ma sc he (Ad (.ref z.me)) (Ad (.ref r)) hr oc sv ns at' kd nm τ)
 have ck:(Ex.obj (L+4),CO.cell (Ad (.int (k:Int) 0)))∈Y:=.tail _ (Aa _ (.tail _ (.tail _ (.tail _ (.tail _ (.head _))))))
 have cfa:(Ex.obj (L+2),CO.cell (Ad (.ref fa)))∈Y:=.tail _ (Aa _ (.tail _ (.tail _ (.tail _ (.tail _ (.tail _ (.tail _ (.head _))))))))
 have msc:(Ex.var L "script",CO.val sc)∈Y:=.tail _ (Aa _ (.tail _ (.tail _ (.tail _ (.tail _ (.tail _ (.tail _ (.tail _ (.tail _ (.head _))))))))))
 have mro:(Ex.var L "root",CO.val (Ad (.ref z.me)))∈Y:=.tail _ (Aa _ (.tail _ (.tail _ (.tail _ (.tail _ (.tail _ (.tail _ (.tail _ (.tail _ (.tail _ (.tail _ (.head _))))))))))))
 have mrow:(Ex.var L "row",CO.val (Ad (.ref r)))∈Y:=.tail _ (Aa _ (.tail _ (.tail _ (.tail _ (.tail _ (.tail _ (.tail _ (.tail _ (.tail _ (.tail _ (.tail _ (.tail _ (.head _)))))))))))))
 have hlen:=F.len
 have hkey:([.int 31 0,.int 8 0,.int 20 0,.int 5 0]:List Ab)[((k:Int)).toNat]? =Ad (.int (([31,8,20,5]:List Int).getD k 0) 0):=by
  rw [Dj]
  exact(by decide:∀k,k < 4->([.int 31 0,.int 8 0,.int 20 0,.int 5 0]:List Ab)[k]? =Ad (.int (([31,8,20,5]:List Int).getD k 0) 0)) k hk
 show T Γ (A.deeper (Dg L)) ⟨Bl G++X,Y⟩ _ _
 refine Ao (Gf (Fo (Aq (v:=.ref fa) rfl (Ag cfa) (De Cv Dt Ds (It (vs:=Ap G (Cc k)) (Ag (.head _))) ⟨.inr (.inl ⟨_,rfl⟩),?_⟩))))
 refine Ai (Cf (Bn (v:=.ref 364) (by kernel_rfl) ⟨.inl (by kernel_rfl),?_⟩))
 refine Ai (Bh (Ic (Ai (Dh (k:=0) (pos:=⟨0,0,0,0⟩) (Ai (Dh (k:=0) (pos:=⟨0,0,0,0⟩) (Ai (Dh (k:=0) (pos:=⟨0,0,0,0⟩) (Ai (Dh (k:=0) (pos:=⟨0,0,0,0⟩) (Ar ⟨by rw [Ay];exact Ce rfl,λdl=>?_⟩)))))))))))
 refine Aq (v:=.int (k:Int) 0) rfl (Ag (.tail _ ck)) (Gv<|Cp (vs:=[.int 31 0,.int 8 0,.int 20 0,.int 5 0]) (v:=.int (([31,8,20,5]:List Int).getD k 0) 0) (Ag (.head _)) (by lia) (by lia) hkey ?_)
 refine Ai (Cf (Bd (v:=.type "tuple") (by kernel_rfl) (by decide+kernel) (by decide) ⟨.inr (.inr ⟨_,rfl⟩),?_⟩))
 let Y1:List Av:=(.obj dl,.list [.int 31 0,.int 8 0,.int 20 0,.int 5 0])::Y
 have mr:(Ex.obj r,CO.list (iv row))∈Y1:=.tail _ (.tail _ (Ah _ hr'))
 refine Ai (Sy (Ac (v:=.ref r) (Ag (.tail _ mrow)) (Em (vs:=iv row) (Ag mr) λit=>?_)))
 refine⟨it,_,_,iv row,_,Y1,Ap G (row.map (· +1)),⟨rfl,rfl,Ey (a:=r) (vs:=iv row) hh⟩,Hc,λext=>Ag (Aa _ mr),by rw [Bw];lia,by rw [Bw,Bb,As],?_,λbl=>?_⟩
 ·intro C acc t v u ρ' ys q1 q2
  obtain⟨j,hj,rfl⟩:=Rt q1
  have hjk:=hrow j (Fj hj)
  have hu:u=.ref (Gd G (j+1)):=by
   unfold Ap at q2
   rw [Bg,Bg,hj]at q2
   exact(Dl q2).symm
  subst hu
  have hfj:(Ap G (Cc k))[((j:Int)).toNat]? =Ad (.ref (Gd G (j+1))):=by
   rw [Dj]
   unfold Ap
   rw [Bg,Rp hjk]
   rfl
  exact Bh (Aq (v:=.ref fa) rfl (Ag (Aa _ (.tail _ (.tail _ (.tail _ cfa))))) (Dm (v:=.int (j:Int) 0) (Ag (Aa _ (.head _))) (.head _) (Cp (vs:=Ap G (Cc k)) (v:=.ref (Gd G (j+1))) (Ag (Aa _ (.tail _ (.tail _ (.tail _ (.head _)))))) (by lia) (by lia) hfj ⟨rfl,rfl⟩)))
 refine Ar λws hw=>Fv (vs:=Ap G (row.map (· +1))) (Ag (.head _)) (by rw [Bb,As];lia) (λbt=>T.conseq Rz ?_) ws hw
 let Y2:List Av:=(.obj bl,.list (Ap G (row.map (· +1))))::Y1
 refine Ai (Ac (v:=.ref z.me) (Ag (.tail _ (.tail _ mro))) ?_)
 have hFY:AF (A.deeper (Dg L)) ⟨[],Y2⟩:=hF.push rfl rfl (L:=L) (x:="script") (c:=sc) (.tail _ (.tail _ msc)) λp hp=>by cases hp
 have hk99:([31,8,20,5]:List Int).getD k 0∉G.map (·.key):=by
  rw [F.keys]
  exact(by decide:∀k,k < 4->([31,8,20,5]:List Int).getD k 0∉(99::([31,8,20,5]:List Int).take k)) k hk
 refine Ar λws hw=>(oU (X:=(.obj bt,.tup (Ap G (row.map (· +1))))::X) (τ:=Y2) (b:=bt) (key:=([31,8,20,5]:List Int).getD k 0) (root:=.ref z.me) (bs:=row.map (· +1)) (vs:=[.int (([31,8,20,5]:List Int).getD k 0) 0,.ref bt,.ref z.me]) (F.wd.more λe he=>.tail _ he) F.sok hk99 (by lia) (by rw [if_neg (by lia),Bu ez]) (.inl (.head _)) ?_ (λq hq=>?_) (hA.le (by decide)) hh hFY (λme=>?_) (λG' X' x w1 w2 w3 w4 w5 w6 w7 w8 w9=>?_) ws hw).T
 ·refine List.pairwise_map.mpr (List.Pairwise.imp ?_ hnd)
  intro a b h e
  exact h (by lia)
 ·obtain⟨o,ho,rfl⟩:=Bq.mp hq
  exact F.C (o+1) (by have:=hrow o ho;lia)
 ·intro ws kws hw hk'
  obtain⟨w₁,w₂,w₃,w₄,rfl,e1,e2,e3,e4⟩:=aH hw
  have:kws=[]:=by simpa using hk'
  subst this
  exact⟨[("self",w₁),("key",w₂),("bases",w₃),("root",w₄)],by simp [e1,e2,e3,e4],λs X=>kp_binds X λS=>by kernel_rfl⟩
 ·refine Ar (Lx (vs:=Ap G (Cc k)) (.tau (.there (.there .here))) (by rw [Bb,Ay];unfold Cc;rw [Kd];lia) ?_)
  exact Fh.go (h G' X' x [(.obj bl,.list (Ap G (row.map (· +1)))),(.obj dl,.list [.int 31 0,.int 8 0,.int 20 0,.int 5 0])] w1 w2 w3 w4 w5 w9)
end
end
section
theorem Si {α:Type} {a b:List α} (h:∀ [DecidableEq α] (x:α),a.count x=b.count x):a.Perm b:=by
 classical
 exact List.perm_iff_count.mpr h
theorem wN {α:Type} (r2 r1 rf r v:List α) (a b:α):(r2++((r1++(rf++a::b::r))++v)).Perm (b::((r2++(r1++(rf++a::r)))++v)):=by
 refine Si λx=>?_
 simp only [Je,Kn]
 lia
theorem wM {α:Type} (r3 r2 r1 rf r v:List α) (a b:α):(r3++(b::((r2++(r1++(rf++a::r)))++v))).Perm (a::((r3++b::(r2++(r1++(rf++r))))++v)):=by
 refine Si λx=>?_
 simp only [Je,Kn]
 lia
theorem wL {α:Type} (r4 r3 r2 r1 rf r v:List α) (a b:α):(r4++(a::((r3++b::(r2++(r1++(rf++r))))++v))).Perm (r1++(rf++a::b::((r4++(r3++(r2++r)))++v))):=by
 refine Si λx=>?_
 simp only [Je,Kn]
 lia
theorem gJ (k:Nat):Cc (k+1)=Cc k++[k+1]:=by
 unfold Cc
 rw [List.range'_concat]
 congr 2
 lia
theorem Xj {G G':List Nd} {x:Nd} {l:List Nat} {n:Nat} (K:Gl (G++[x]) G') (hl:G.length=n) (h:∀q∈l,q < n):Ap G l++[.ref x.me]=Ap G' (l++[n]):=by
 subst hl
 rw [K.refs,Ks,Up h]
 have:Ap (G++[x]) [G.length]=[.ref x.me]:=by
  unfold Ap
  rw [List.map_singleton,Bu (Sl G x)]
 rw [this]
theorem cT {G G':List Nd} {x:Nd} {k:Nat} (K:Gl (G++[x]) G') (hl:G.length=k+1):Ap G (Cc k)++[.ref x.me]=Ap G' (Cc (k+1)):=by
 rw [gJ]
 refine Xj K hl λq hq=>?_
 unfold Cc at hq
 rw [List.mem_range'_1]at hq
 lia
theorem Vq {AB:List (List Nat)} {j:Nat} (h:AB.length<=j):AB.getD j []=[]:=by
 rw [Df,Du h];rfl
theorem Zx.ten {G:List Nd} {X:List Av} {k:Nat} {AB:List (List Nat)} (F:Zx G X k AB) (hk:k<=4) (j:Nat):(AB.getD j []).length<=4:=by
 by_cases h:j < k
 ·obtain⟨h1,h2⟩:=F.A j h
  have:=Go (j+1) _ h1 λo ho=>Nat.lt_succ_of_le (h2 o ho)
  lia
 ·rw [Vq (by rw [F.lenA];lia)]
  exact Cg _
theorem Aaa {G:List Nd} {X:List Av} {x:Nd} (w:Wd G X) (k:Jq [x] G) (hC:x.C=364) (hk:x.key=99) (sok:∀j,j < G.length->Uk G j):Zx G X 0 []:=by
 refine⟨w,sok,by rw [k.i.len];rfl,λj hj=>?_,?_,rfl,λj hj=>by lia,λj hj=>by lia,λj hj=>by lia⟩
 ·have:j=0:=by lia
  subst this
  obtain⟨x',e,hb⟩:=k.at' (i:=0) (x:=x) rfl
  exact⟨x',e,by have:=congrArg Nd.C hb;exact this.trans hC⟩
 ·rw [k.i.keys,Ck,hk]
  rfl
section
variable {Γ:Bm} {A:Az}
inductive Ahe (L sa fa ab rt m:Nat) (he:Option Ab) (τ:List Av) (n:Nat) (σ:Bc):Prop
 |mk (G:List Nd) (X:List Av) (AB:List (List Nat)) (aas:List Am) (ρf ρ:List Av) (nu kk rw:Option Ab) (F:Zx G X n AB) (ert:Gd G 0=rt) (rows:Gz (ρ++τ) aas AB) (e:σ=⟨Bl G++X,ρf++(.obj ab,.list (aas.map .ref))::(.obj fa,.list (Ap G (Cc n)))::(ρ++wV L Ae Ae Ae nu kk (Ad (.ref ab)) (Ad (.ref fa)) (Ad (.int (m:Int) 0)) (Ad (.ref sa)) he (Ad (.ref rt)) rw Ae Ae Ae Ae Ae Ae Ae τ)⟩)
set_option maxHeartbeats 4000000 in
theorem qA {G0:List Nd} {X0 τ:List Av} {L sa fa ab rt m:Nat} {he:Option Ab} {script:List Int} {Q:Ga->Bc->Prop} (F0:Zx G0 X0 0 []) (e0:Gd G0 0=rt) (hm:m<=4)
  (hsc:dF Γ sa (Aw script)) (hsl:script.length<=63) (hA:Rm (A.deeper (Dg L)) 43) (hh:A.handled=Ae) (hF:AF A ⟨[],[]⟩)
  (h:∀G X AB aas ρ nu kk rw,Zx G X m AB->Gd G 0=rt->Gz (ρ++τ) aas AB->
   T Γ (A.deeper (Dg L)) ⟨Bl G++X,(.obj ab,.list (aas.map .ref))::(.obj fa,.list (Ap G (Cc m)))::(ρ++wV L Ae Ae Ae nu kk (Ad (.ref ab)) (Ad (.ref fa)) (Ad (.int (m:Int) 0)) (Ad (.ref sa)) he (Ad (.ref rt)) rw Ae Ae Ae Ae Ae Ae Ae τ)⟩ (Cs ((fBody (topStmt 31)).drop 6) (Dg L)) Q):
  T Γ (A.deeper (Dg L)) ⟨Bl G0++X0,(.obj ab,.list [])::(.obj fa,.list [])::wV L Ae Ae Ae Ae Ae (Ad (.ref ab)) (Ad (.ref fa)) (Ad (.int (m:Int) 0)) (Ad (.ref sa)) he (Ad (.ref rt)) Ae Ae Ae Ae Ae Ae Ae Ae τ⟩ (Cs ((fBody (topStmt 31)).drop 5) (Dg L)) Q:=by
 let V:Option Ab->Option Ab->Option Ab->List Av:=λnu kk rw=>wV L Ae Ae Ae nu kk (Ad (.ref ab)) (Ad (.ref fa)) (Ad (.int (m:Int) 0)) (Ad (.ref sa)) he (Ad (.ref rt)) rw Ae Ae Ae Ae Ae Ae Ae τ
 refine Ao (Qf (Cf (Bd (v:=.type "range") (by kernel_rfl) (by decide+kernel) (by decide) ⟨.inr (.inr ⟨_,rfl⟩),?_⟩)))
 refine Ai (Aq (v:=.int (m:Int) 0) rfl (Ag (.tail _ (.tail _ (.tail _ (.tail _ (.tail _ (.tail _ (.tail _ (.tail _ (.tail _ (.head _))))))))))) ?_)
 refine Ar λws hw=>Sm (λrg=>?_) ws hw
 obtain⟨rs1,rs2⟩:=Qy (n:=m) hm
 refine(Nr (n:=m) (Ag (.head _)) rs1 rs2 λit=>?_)
 let RG:Av:=(.obj rg,.rng 0 (m:Int) 1)
 refine⟨it,_,_,iv (Er m),_,RG::(.obj ab,.list [])::(.obj fa,.list [])::V Ae Ae Ae,⟨rfl,rfl,by have:=Py (Γ:=Γ) (A:=A.deeper (Dg L)) (it:=it) (x:=0) (c:=1) (n:=m) hh;rw [Tu]at this;exact this⟩,
  λd=>Ahe L sa fa ab rt m he τ d.length,
  ⟨G0,X0,[],[],[RG],[],Ae,Ae,Ae,F0,e0,⟨rfl,λk b l e1 e2=>by cases e1⟩,rfl⟩,λ_ _ _=>trivial,?_,?_⟩
 ·intro d v r u ρ' σ he' hu zz Kq hK
  obtain⟨ev,hjm⟩:=eS he'
  obtain⟨G,X,AB,aas,ρf,ρ,nu,kk,rw',F,ert,rows,e⟩:=zz
  rw [e]
  rw [ev]at hu
  rw [Aj,Br]at hK
  generalize d.length=j at *
  have hj4:j < 4:=Pr hjm hm
  obtain⟨z,ez⟩:=Dp (G:=G) (i:=0) (by rw [F.len];exact Nat.succ_pos _)
  have hz:z.me=rt:=by rw [<-Bu ez];exact ert
  subst hz
  let EA:Av:=(.obj ab,.list (aas.map .ref))
  let EF:Av:=(.obj fa,.list (Ap G (Cc j)))
  let number:Int:=script.getD (1+j) (j:Int)
  refine Rg (v:=.int (j:Int) 0) (σ':=⟨Bl G++X,ρ'++(ρf++EA::EF::(ρ++V nu (Ad (.int (j:Int) 0)) rw'))⟩) hu rfl (.tau (.pre (.pre (.there (.there (.pre (.there (.there (.there (.there .here)))))))))) ?_
  have eA:∀nu kk rw',ρ'++(ρf++EA::EF::(ρ++V nu kk rw'))=(ρ'++(ρf++EA::EF::ρ))++V nu kk rw':=λnu kk rw'=>by simp
  rw [eA]
  refine jX (τ:=τ) (ρ:=ρ'++(ρf++EA::EF::ρ)) (k:=j) hsc hsl ?_
  refine uR (ρ:=ρ'++(ρf++EA::EF::ρ)) (k:=j) (num:=number) hj4 (hA.le (by decide)) hh λρ2 r2 hr2=>?_
  let row:List Nat:=Cn [] (Nl 3 j number)
  have hd:=bI (c:=3) (k:=j) (by decide) number
  have hrow:∀o∈row,o < j:=λo ho=>hd.2 o ((Jj _ o).mp ho)
  have hrl:row.length<=4:=by have:=Ot (Nl 3 j number) [];show(Cn [] (Nl 3 j number)).length<=4;lia
  let V1:List Av:=V (Ad (.int number 0)) (Ad (.int (j:Int) 0)) (Ad (.ref r2))
  refine T.conseq (σ':=⟨Bl G++X,EF::((ρ2++(ρ'++(ρf++EA::ρ)))++V1)⟩) (Av.le_perm (Bf _ (wN ρ2 ρ' ρf ρ V1 EA EF))) ?_
  refine qY (ρ:=ρ2++(ρ'++(ρf++EA::ρ))) (z:=z) F ez hj4 (Ah _ hr2) hrl hrow (Ji _ _) (hA.le (by decide)) hh hF λG' X' x ρ3 w1 w2 w3 w4 w5 w6=>?_
  have F':=F.step hj4 (row:=row) hrow w1 w2 w3 w4 w5 w6
  let EF':Av:=(.obj fa,.list (Ap G (Cc j)++[.ref x.me]))
  have eF':=cT w2.i F.len
  refine T.conseq (σ':=⟨Bl G'++X',EA::((ρ3++EF'::(ρ2++(ρ'++(ρf++ρ))))++V1)⟩) (Av.le_perm (Bf _ (wM ρ3 ρ2 ρ' ρf ρ V1 EA EF'))) ?_
  have rows':Gz ((ρ3++EF'::(ρ2++(ρ'++(ρf++ρ))))++τ) aas AB:=rows.sub λp hp=>by
   rcases Ak.mp hp with q|q
   ·exact Ah _ (Aa _ (.tail _ (Aa _ (Aa _ (Aa _ q)))))
   ·exact Aa _ q
  refine mY (ρ:=ρ3++EF'::(ρ2++(ρ'++(ρf++ρ)))) (row:=row) (aas:=aas) (AB:=AB) hj4 (Aa _ (.tail _ (Ah _ hr2))) hrl hrow F.lenA (λq=>Ca (F.ten (by lia) q) (by decide)) rows' (hA.le (by decide)) hh λρ4 q hq=>?_
  let EA':Av:=(.obj ab,.list ((aas++[q]).map .ref))
  refine hK .next _ ⟨Bl G'++X',ρf++EA'::EF'::((ρ4++(ρ3++(ρ2++ρ)))++V1),Av.le_perm (Bf _ (wL ρ4 ρ3 ρ2 ρ' ρf ρ V1 EA' EF')),G',X',AB++[Cn [] (j::row.flatMap λo=>AB.getD o [])],aas++[q],ρf,ρ4++(ρ3++(ρ2++ρ)),Ad (.int number 0),Ad (.int (j:Int) 0),Ad (.ref r2),F',?_,(rows.sub λp hp=>?_).snoc (Ah _ (Ah _ hq)),?_⟩
  ·rw [w2.i.me,Th (by rw [F.len];lia)]
   exact ert
  ·exact(Ak.mp hp).elim (λq=>Ah _ (Aa _ (Aa _ (Aa _ q)))) (Aa _)
  ·show(⟨Bl G'++X',ρf++EA'::EF'::((ρ4++(ρ3++(ρ2++ρ)))++V1)⟩:Bc)=_
   rw [show EF'=(.obj fa,.list (Ap G' (Cc (j+1)))) by rw [<-eF']]
 ·intro σ z
  rw [Bw,Dy]at z
  obtain⟨G,X,AB,aas,ρf,ρ,nu,kk,rw',F,ert,rows,e⟩:=z
  rw [e]
  refine Cq ?_
  refine Fh.go ?_
  refine T.conseq (σ':=⟨Bl G++X,(.obj ab,.list (aas.map .ref))::(.obj fa,.list (Ap G (Cc m)))::(ρ++V nu kk rw')⟩) (Av.le_sub (Bs _ _)) ?_
  exact h G X AB aas ρ nu kk rw' F ert rows
end
end
inductive Agi (G:List Nd) (X:List Av) (m:Nat) (row:List Nat) (j:Nat):Prop
 |mk (x:Nd) (e:G[m+1+j]? =Ad x) (C:x.C=427) (d:x.decl=Ae) (t:Am) (h:x.inh=Ad (.ref t)) (ht:(Ex.obj t,CO.tup (Ap G (row.map (m+1+ ·))))∈X)
structure Wi (G:List Nd) (X:List Av) (m:Nat) (AB:List (List Nat)) (i:Nat) (IH:List (List Nat)):Prop where
 wd:Wd G X
 sok:∀j,j < G.length->Uk G j
 len:G.length=m+1+i
 face:∀k,k < m->∃x,G[k+1]? =Ad x/\x.C=364
 reach:∀k,k < m->∀j,Ia G (k+1) j↔∃o∈AB.getD k [],j=o+1
 spec:∀j,j < i->Agi G X m (IH.getD j []) j
 due:∀j,j < i->Ge G (m+1+j)=(Cn [] (IH.getD j [])).map (m+1+ ·)
 keys:G.map (·.key)=(99::([31,8,20,5]:List Int).take m)++(Er i).map λj:Nat=>100+(j:Int)
 lenI:IH.length=i
 I:∀j,(IH.getD j []).length<=3/\∀k∈IH.getD j [],k < j
theorem Wi.of {G:List Nd} {X:List Av} {m:Nat} {AB:List (List Nat)} (F:Zx G X m AB):Wi G X m AB 0 []:=
 ⟨F.wd,F.sok,by rw [F.len],λk hk=>F.C (k+1) (by lia),F.reach,λj hj=>by lia,λj hj=>by lia,by rw [F.keys];simp,rfl,λj=>⟨Cg _,λk hk=>by cases hk⟩⟩
set_option tactic.hygienic true in
theorem Wi.step {G:List Nd} {X:List Av} {m i:Nat} {AB IH:List (List Nat)} (S:Wi G X m AB i IH) {G':List Nd} {X' X'':List Av} {x y:Nd} {hs:List Nat} {t:Am} (hl:hs.length<=3) (hlt:∀k∈hs,k < i)
  (w1:Wd G' X') (w2:Jq (G++[x]) G') (hC:x.C=427) (hkey:x.key=100+(i:Int)) (hbs:x.bs=(Cn [] hs).map (m+1+ ·)) (hdecl:x.decl=Ae) (w4:∀e∈X,e∈X') (w5:∀j,j < G'.length->Uk G' j)
  (ey:G'[m+1+i]? =Ad y) (w6:∀e∈X',e∈X'') (ht:(Ex.obj t,CO.tup (Ap G (hs.map (m+1+ ·))))∈X''):
  Wi (G'.set (m+1+i) {y with inh:=Ad (.ref t)}) X'' m AB (i+1) (IH++[hs]):=by
 have K2:Gl G' (G'.set (m+1+i) {y with inh:=Ad (.ref t)}):=Mb ey rfl
 have hlen':G'.length=m+1+i+1:=by rw [w2.i.len,Aj,S.len];rfl
 have hb:∀j,Ge (G'.set (m+1+i) {y with inh:=Ad (.ref t)}) j=if j=m+1+i then(Cn [] hs).map (m+1+ ·)else Ge G j:=λj=>by
  have h1:Ge (G'.set (m+1+i) {y with inh:=Ad (.ref t)}) j=Ge G' j:=jB ey y.decl (Ad (.ref t)) j
  rw [h1,w2.bs,fF,S.len,hbs]
 have hlow:∀j,j < m+1->Ge (G'.set (m+1+i) {y with inh:=Ad (.ref t)}) j=Ge G j:=λj hj=>by rw [hb,if_neg (by lia)]
 have wd2:Wd (G'.set (m+1+i) {y with inh:=Ad (.ref t)}) X'':=(w1.more w6).setDI ey y.decl (Ad (.ref t))
 have look:∀(j:Nat) (y0:Nd),j < m+1+i->G[j]? =Ad y0->∃y',(G'.set (m+1+i) {y with inh:=Ad (.ref t)})[j]? =Ad y'/\y'.C=y0.C/\y'.decl=y0.decl/\y'.inh=y0.inh:=λj y0 hj e=>by
  obtain⟨y',e',hb'⟩:=w2.at' (Aai (x:=x) e)
  refine⟨y',by rw [Hg (by lia)];exact e',?_,?_,?_⟩
  ·have:=congrArg Nd.C hb';exact this
  ·have:=congrArg Nd.decl hb';exact this
  ·have:=congrArg Nd.inh hb';exact this
 have hI:∀j,(IH++[hs]).getD j []=if j=i then hs else IH.getD j []:=λj=>by rw [Wy,S.lenI]
 have hR:∀l:List Nat,(∀q∈l,q < i)->Ap (G'.set (m+1+i) {y with inh:=Ad (.ref t)}) (l.map (m+1+ ·))=Ap G (l.map (m+1+ ·)):=λl h=>by
  rw [K2.refs,w2.i.refs,Up λq hq=>?_]
  obtain⟨a,ha,rfl⟩:=Bq.mp hq
  have:=h a ha
  rw [S.len];lia
 refine⟨wd2,λj hj=>?_,by rw [K2.len,hlen'];rfl,λk hk=>?_,λk hk j=>?_,λj hj=>?_,λj hj=>?_,?_,by rw [Aj,S.lenI];rfl,λj=>?_⟩
 ·rw [K2.len]at hj
  exact(bF ey y.decl (Ad (.ref t)) (Rn w1.gr (Cb _) w5 hj)).ok
 ·obtain⟨y0,e0,h0⟩:=S.face k hk
  obtain⟨y',e',c,_⟩:=look (k+1) y0 (by lia) e0
  exact⟨y',e',by rw [c];exact h0⟩
 ·rw [<-S.reach k hk j]
  exact⟨λr=>r.under wd2.gr (n:=m+1) (λj hj=>(hlow j hj).symm) (by lia),λr=>r.under S.wd.gr (n:=m+1) hlow (by lia)⟩
 ·rw [hI]
  by_cases q:j=i
  ·subst q
   rw [if_pos rfl]
   have hat:(G++[x])[m+1+j]? =Ad x:=by rw [<-S.len];exact Sl G x
   obtain⟨y',e',hb'⟩:=w2.at' hat
   rw [ey]at e'
   cases e'
   have c:y.C=x.C:=by have:=congrArg Nd.C hb';exact this
   have d:y.decl=x.decl:=by have:=congrArg Nd.decl hb';exact this
   refine⟨{y with inh:=Ad (.ref t)},Lu ey,by show y.C=427;rw [c,hC],by show y.decl=Ae;rw [d,hdecl],t,rfl,?_⟩
   rw [hR hs hlt]
   exact ht
  ·rw [if_neg q]
   obtain⟨y0,e0,h0,hd,t0,ht0,mem0⟩:=S.spec j (by lia)
   obtain⟨y',e',c,d,n⟩:=look _ y0 (by lia) e0
   refine⟨y',e',by rw [c];exact h0,by rw [d];exact hd,t0,by rw [n];exact ht0,?_⟩
   rw [hR _ λq hq=>by have:=(S.I j).2 q hq;lia]
   exact w6 _ (w4 _ mem0)
 ·rw [hI,hb]
  by_cases q:j=i
  ·subst q
   rw [if_pos rfl,if_pos rfl]
  ·rw [if_neg q,if_neg (by lia)]
   exact S.due j (by lia)
 ·rw [K2.keys,w2.i.keys,Bk,S.keys,List.range_succ,Bk,<-Ba]
  congr 1
  show [x.key]=_
  rw [hkey]
  rfl
 ·rw [hI]
  split
  ·rename_i q
   rw [q]
   exact⟨hl,hlt⟩
  ·exact S.I j
theorem yX (i:Nat):([[],[],[],[]]:List (List Nat)).getD i []=[]:=by
 match i with
 |0|1|2|3=>rfl
 |n+4=>rfl
theorem Wi.key {G:List Nd} {X:List Av} {m i:Nat} {AB IH:List (List Nat)} (S:Wi G X m AB i IH) (hm:m<=4) {j:Nat} (hj:j < i):Cy G (m+1+j)=100+(j:Int):=by
 obtain⟨x,ex⟩:=Dp (G:=G) (i:=m+1+j) (by rw [S.len];lia)
 rw [Gj ex]
 have h1:(G.map (·.key))[m+1+j]? =Ad x.key:=by simp [ex]
 rw [S.keys,Hh (by simp;lia)]at h1
 have h2:(99::([31,8,20,5]:List Int).take m).length=m+1:=by simp;lia
 rw [h2,show m+1+j - (m+1)=j by lia,Bg,List.getElem?_range hj]at h1
 exact(Dl h1).symm
theorem Wi.inv {G:List Nd} {X:List Av} {m:Nat} {AB IH:List (List Nat)} (S:Wi G X m AB 4 IH) (hm:m<=4) (hA:AB.length=m) (hA2:∀i,(AB.getD i []).length<=4/\∀k∈AB.getD i [],k < m) (hself:∀k,k < m->k∈AB.getD k []):Vk G X m AB [[],[],[],[]] IH:=by
 refine⟨S.wd,S.sok,⟨hm,hA,hA2,rfl,λi=>?_,S.lenI,S.I⟩,by rw [S.len],S.face,S.reach,hself,λi hi=>?_,λi hi=>?_,λj hj=>S.key hm hj⟩
 ·rw [yX];exact⟨.nil,λk hk=>by cases hk⟩
 ·obtain⟨x,ex,hC,hd,t,ht,mt⟩:=S.spec i hi
  refine⟨x,ex,hC,.inl ⟨hd,by rw [yX];rfl⟩,.inr ⟨t,ht,mt⟩,λh=>?_⟩
  rw [ht]at h
  rcases h with h|h<;>cases h
 ·rw [S.due i hi]
  unfold aN
  rw [yX]
  rfl
section
noncomputable abbrev Uo:List Jy:=match(fBody (topStmt 31)).drop 7 with|.For _ _ body _ _::_=>body|_=>[]
section
variable {Γ:Bm} {A:Az}
set_option maxHeartbeats 2000000 in
theorem jL {W τ ρ:List Av} {L sa m i:Nat} {mo wo nu0 kk ab fa he ro rw hr oc sv ns at' kd nm:Option Ab} {script:List Int} {Q:Ga->Bc->Prop} (hsc:dF Γ sa (Aw script)) (hsl:script.length<=63)
  (h:T Γ (A.deeper (Dg L)) ⟨W,ρ++wV L mo (Ad (.int (i:Int) 0)) wo (Ad (.int (script.getD (1+m+i) (i:Int)) 0)) kk ab fa (Ad (.int (m:Int) 0)) (Ad (.ref sa)) he ro rw hr oc sv ns at' kd nm τ⟩ (Cs (Uo.drop 1) (Dg L)) Q):
  T Γ (A.deeper (Dg L)) ⟨W,ρ++wV L mo (Ad (.int (i:Int) 0)) wo nu0 kk ab fa (Ad (.int (m:Int) 0)) (Ad (.ref sa)) he ro rw hr oc sv ns at' kd nm τ⟩ (Cs Uo (Dg L)) Q:=by
 let Y:List Av:=ρ++wV L mo (Ad (.int (i:Int) 0)) wo nu0 kk ab fa (Ad (.int (m:Int) 0)) (Ad (.ref sa)) he ro rw hr oc sv ns at' kd nm τ
 have up:∀{p:Av},p∈τ->p∈Y:=λhp=>Aa _ (Aa [_,_,_,_,_,_,_,_,_,_,_,_,_,_,_,_,_,_,_] hp)
 have msc:(Ex.var L "script",CO.val (Ad (.ref sa)))∈Y:=Aa _ (.tail _ (.tail _ (.tail _ (.tail _ (.tail _ (.tail _ (.tail _ (.tail _ (.head _)))))))))
 have con:(Ex.obj (L+7),CO.cell (Ad (.int (i:Int) 0)))∈Y:=Aa _ (.tail _ (.head _))
 have cm:(Ex.obj (L+1),CO.cell (Ad (.int (m:Int) 0)))∈Y:=Aa _ (.tail _ (.tail _ (.tail _ (.tail _ (.tail _ (.tail _ (.tail _ (.head _))))))))
 have hU:∀v,Ri Y (.obj (L+5)) (.cell nu0) (.cell (Ad v)) (ρ++wV L mo (Ad (.int (i:Int) 0)) wo (Ad v) kk ab fa (Ad (.int (m:Int) 0)) (Ad (.ref sa)) he ro rw hr oc sv ns at' kd nm τ):=λv=>Ri.pre (.there (.there (.there .here)))
 have em:(1+(m:Int))+(i:Int)=((1+m+i:Nat):Int):=by lia
 show T Γ (A.deeper (Dg L)) ⟨W,Y⟩ _ _
 refine Ao (Gh rfl (Qi (Au (En (En (Dh (Aq (v:=.int (m:Int) 0) rfl (Ag cm) (Rl (Aq (v:=.int (i:Int) 0) rfl (Ag con) (Rl ?_))))))))))
 refine Cf (Bd (v:=.builtin "len") (by kernel_rfl) (by decide+kernel) (by decide) ⟨.inr (.inl ⟨_,rfl⟩),?_⟩)
 refine Ai (Ac (v:=.ref sa) (Ag msc) (Ar (Yw (vs:=Aw script) hsc.has (by rw [Ea];lia) ?_)))
 rw [Ea]
 refine(vY ⟨_,rfl,λhb=>?_,λhb=>?_⟩)
 ·have hlt:1+m+i < script.length:=by have:=of_decide_eq_true hb;lia
  have hg:script.getD (1+m+i) (i:Int)=script[1+m+i]:=by rw [Df,Bp hlt];rfl
  have hna:(Aw script)[((1+(m:Int))+(i:Int)).toNat]? =Ad (.int (script.getD (1+m+i) (i:Int)) 0):=by
   rw [show((1+(m:Int))+(i:Int)).toNat=1+m+i by lia,hg]
   unfold Aw
   rw [Bg,Bp hlt]
   rfl
  exact Bh (Ac (v:=.ref sa) (Ag msc) (En (En (Dh (Aq (v:=.int (m:Int) 0) rfl (Ag cm) (Rl (Aq (v:=.int (i:Int) 0) rfl (Ag con) (Rl (Ud (vs:=Aw script) (v:=.int (script.getD (1+m+i) (i:Int)) 0) hsc.has (by lia) (by lia) hna ⟨_,_,.tau (hU _),Fh.go h⟩)))))))))
 ·have hge:script.length<=1+m+i:=by have:=of_decide_eq_false hb;lia
  have hg:script.getD (1+m+i) (i:Int)=(i:Int):=by rw [Df,Du hge];rfl
  rw [hg]at h
  exact Aq (v:=.int (i:Int) 0) rfl (Ag con) ⟨_,_,.tau (hU _),Fh.go h⟩
set_option maxHeartbeats 2000000 in
theorem lQ {W τ ρ:List Av} {L k:Nat} {num:Int} {mo wo kk ab fa ma sc he ro rw hr0 oc sv ns at' kd nm:Option Ab} {Q:Ga->Bc->Prop} (hk:k < 4) (hh:A.handled=Ae)
  (h:∀ρ' r,(Ex.obj r,CO.list (iv (Nl 4 k num)))∈ρ'->T Γ (A.deeper (Dg L)) ⟨W,ρ'++(ρ++wV L mo (Ad (.int (k:Int) 0)) wo (Ad (.int num 0)) kk ab fa ma sc he ro rw(Ad (.ref r)) oc sv ns at' kd nm τ)⟩ (Cs (Uo.drop 2) (Dg L)) Q):
  T Γ (A.deeper (Dg L)) ⟨W,ρ++wV L mo (Ad (.int (k:Int) 0)) wo (Ad (.int num 0)) kk ab fa ma sc he ro rw hr0 oc sv ns at' kd nm τ⟩ (Cs (Uo.drop 1) (Dg L)) Q:=by
 let V:Option Ab->List Av:=λr=>wV L mo (Ad (.int (k:Int) 0)) wo (Ad (.int num 0)) kk ab fa ma sc he ro rw r oc sv ns at' kd nm τ
 let Y:List Av:=ρ++V hr0
 have cnu:(Ex.obj (L+5),CO.cell (Ad (.int num 0)))∈Y:=Aa _ (.tail _ (.tail _ (.tail _ (.head _))))
 have ck:(Ex.obj (L+7),CO.cell (Ad (.int (k:Int) 0)))∈Y:=Aa _ (.tail _ (.head _))
 have hfm:num.fmod 4=((num.fmod 4).toNat:Nat)/\(num.fmod 4).toNat < 4:=Iu (a:=num) (n:=4) (by decide)
 let cnt:Nat:=if 0 < k then(num.fmod 4).toNat else 0
 have hcnt:cnt<=3:=by show(if 0 < k then(num.fmod 4).toNat else 0)<=3;split<;>lia
 show T Γ (A.deeper (Dg L)) ⟨W,Y⟩ _ _
 refine Ao (Sq (Cf (Bd (v:=.type "range") (by kernel_rfl) (by decide+kernel) (by decide) ⟨.inr (.inr ⟨_,rfl⟩),?_⟩)))
 refine Ai ((Qi (pos:=⟨385,74,385,102⟩) (Q:=λc σ=>c=.int (cnt:Int) 0/\σ=⟨W,Y⟩) (Au (Aq (v:=.int (k:Int) 0) rfl (Ag ck) (Dh (Aea ⟨_,rfl,λhb=>?_,λhb=>?_⟩))))).mono λc σ ⟨e1,e2⟩=>?_)
 ·have hk0:0 < k:=by have:=of_decide_eq_true hb;lia
  refine En (Aq (v:=.int num 0) rfl (Ag cnu) (Dh (Vm (by decide) ⟨?_,rfl⟩)))
  show Fs (num.fmod 4) 0=.int ((if 0 < k then(num.fmod 4).toNat else 0:Nat):Int) 0
  rw [if_pos hk0,<-hfm.1]
 ·have hk0:¬0 < k:=by have:=of_decide_eq_false hb;lia
  refine Dh ⟨?_,rfl⟩
  show Fs 0 0=.int ((if 0 < k then(num.fmod 4).toNat else 0:Nat):Int) 0
  rw [if_neg hk0]
  rfl
 subst e1
 subst e2
 refine Ar λws hw=>Sm (λrg=>?_) ws hw
 obtain⟨rs1,rs2⟩:=Qy (n:=cnt) (by lia)
 refine(Nr (n:=cnt) (Ag (.head _)) rs1 rs2 λit=>?_)
 let X:List Av:=(.obj rg,.rng 0 (cnt:Int) 1)::Y
 refine⟨it,_,_,iv (Er cnt),_,X,iv (Nl 4 k num),⟨rfl,rfl,by have:=Py (Γ:=Γ) (A:=A.deeper (Dg L)) (it:=it) (x:=0) (c:=1) (n:=cnt) hh;rw [Tu]at this;exact this⟩,Ve,λext=>trivial,by rw [Bw,Dy];lia,by rw [Bw,Bw,Dy];unfold Nl;rw [As,Dy];rfl,?_,λacc=>?_⟩
 ·intro C acc t v u ρ' ys q1 q2
  obtain⟨j,hj,rfl⟩:=Rt q1
  obtain⟨y,hy,rfl⟩:=Rt q2
  obtain⟨hjl,hjv⟩:=Al.mp hj
  rw [Dy]at hjl
  rw [Mm]at hjv
  subst hjv
  have hk0:0 < k:=by
   by_cases q:0 < k
   ·exact q
   ·have:cnt=0:=if_neg q
    lia
  have hy':y=(((num.fdiv 4).fdiv (((k+1:Nat):Int) ^ t)).fmod k).toNat:=by
   unfold Nl at hy
   have hj':(Er (if 0 < k then(num.fmod (4:Nat)).toNat else 0))[t]? =Ad t:=hj
   rw [Bg,hj']at hy
   exact(Dl hy).symm
  have hme:=Iu (a:=(num.fdiv 4).fdiv (((k+1:Nat):Int) ^ t)) (n:=k) hk0
  obtain⟨p1,p2⟩:=Yk (m:=k+1) (k:=t) ⟨by lia,by lia⟩ (by lia)
  have upX:∀{p:Av},p∈Y->p∈ρ'++Tt C acc "turn" (Ad (.int (t:Int) 0)) ys X:=λhp=>Aa _ (.tail _ (.tail _ (.tail _ hp)))
  refine En (En (En (Aq (v:=.int num 0) rfl (Ag (upX cnu)) (Dh (Nt (by decide) (by decide) ?_)))))
  refine En (En (Aq (v:=.int (k:Int) 0) rfl (Ag (upX ck)) (Dh (Rl ?_))))
  refine Dm (v:=.int (t:Int) 0) (Ag (Aa _ (.head _))) (.head _) (sQ (a:=((k+1:Nat):Int)) (by lia) (bB (m:=k+1) (by lia) (by lia)) ?_)
  rw [Dj]
  refine(Nt p2 p1 ?_)
  refine Aq (v:=.int (k:Int) 0) rfl (Ag (upX ck)) (Vm (by lia) ⟨?_,rfl⟩)
  rw [hy',<-hme.1]
 ·have hU:Ri Y (.var L "heirs") (.val hr0) (.val (Ad (.ref acc))) (ρ++V (Ad (.ref acc))):=Ri.pre (.there (.there (.there (.there (.there (.there (.there (.there (.there (.there (.there (.there .here))))))))))))
  exact⟨_,_,.tau (.there (.there hU)),Fh.go (h [_,_] acc (.head _))⟩
end
end
section
theorem iH (G:List Nd) {m i j:Nat} (h:j < i):(Ap G (Di (m+1) i))[((j:Int)).toNat]? =Ad (.ref (Gd G (m+1+j))):=by
 rw [Dj]
 unfold Ap
 rw [Bg,Ld h]
 simp
theorem iK {G:List Nd} {l:List Nat} {f:Nat->Nat} {k j:Nat} {u:Ab} (h:(Ap G (l.map f))[k]? =Ad u) (e:l[k]? =Ad j):u=.ref (Gd G (f j)):=by
 unfold Ap at h
 rw [Bg,Bg,e]at h
 exact(Dl h).symm
theorem cS {G G':List Nd} {x:Nd} {m i:Nat} (K:Gl (G++[x]) G') (hl:G.length=m+1+i):Ap G (Di (m+1) i)++[.ref x.me]=Ap G' (Di (m+1) (i+1)):=by
 rw [List.range'_concat,Nat.one_mul]
 refine Xj K hl λq hq=>?_
 rw [List.mem_range'_1]at hq
 lia
section
variable {Γ:Bm} {A:Az} {G:List Nd} {X:List Av}
set_option maxHeartbeats 4000000 in
theorem pI {AB IH:List (List Nat)} {τ ρ:List Av} {L w fa ab sp de ih hl rt m i:Nat} {num:Int} {has:List Am} {mo nu kk fa' ab' ma sc he rw oc0 sv0 ns at' kd nm:Option Ab} {Q:Ga->Bc->Prop} (S:Wi G X m AB i IH) (hm:m<=4) (ert:Gd G 0=rt) (hi:i < 4)
  (hw:(Ex.obj w,CO.sdict (Vs fa ab sp de ih))∈τ) (hhl:(Ex.obj hl,CO.list (iv (Nl 4 i num)))∈ρ) (hlen:has.length=i) (hA:Rm (A.deeper (Dg L)) 43) (hh:A.handled=Ae) (hF:AF A ⟨[],[]⟩)
  (h:∀G2 X2 ρ5 oc sv,Wi G2 X2 m AB (i+1) (IH++[Nl 4 i num])->(∀j,j < m+1+i->Gd G2 j=Gd G j)->
   Q .next ⟨Bl G2++X2,ρ5++((.obj ih,.list ((has++[hl]).map .ref))::(.obj sp,.list (Ap G2 (Di (m+1) (i+1))))::(ρ++wV L mo (Ad (.int (i:Int) 0)) (Ad (.ref w)) nu kk ab' fa' ma sc he (Ad (.ref rt)) rw(Ad (.ref hl)) oc sv ns at' kd nm τ))⟩):
  T Γ (A.deeper (Dg L)) ⟨Bl G++X,(.obj ih,.list (has.map .ref))::(.obj sp,.list (Ap G (Di (m+1) i)))::(ρ++wV L mo (Ad (.int (i:Int) 0)) (Ad (.ref w)) nu kk ab' fa' ma sc he (Ad (.ref rt)) rw(Ad (.ref hl)) oc0 sv0 ns at' kd nm τ)⟩ (Cs (Uo.drop 2) (Dg L)) Q:=by
 let V:Option Ab->Option Ab->List Av:=λoc sv=>wV L mo (Ad (.int (i:Int) 0)) (Ad (.ref w)) nu kk ab' fa' ma sc he (Ad (.ref rt)) rw(Ad (.ref hl)) oc sv ns at' kd nm τ
 let Y:Option Ab->Option Ab->List Av:=λoc sv=>(.obj ih,.list (has.map .ref))::(.obj sp,.list (Ap G (Di (m+1) i)))::(ρ++V oc sv)
 have con:∀oc sv,(Ex.obj (L+7),CO.cell (Ad (.int (i:Int) 0)))∈Y oc sv:=λoc sv=>.tail _ (.tail _ (Aa _ (.tail _ (.head _))))
 have cwo:∀oc sv,(Ex.obj (L+6),CO.cell (Ad (.ref w)))∈Y oc sv:=λoc sv=>.tail _ (.tail _ (Aa _ (.tail _ (.tail _ (.head _)))))
 have msc:∀oc sv,(Ex.var L "script",CO.val sc)∈Y oc sv:=λoc sv=>.tail _ (.tail _ (Aa _ (.tail _ (.tail _ (.tail _ (.tail _ (.tail _ (.tail _ (.tail _ (.tail _ (.head _)))))))))))
 have mro:∀oc sv,(Ex.var L "root",CO.val (Ad (.ref rt)))∈Y oc sv:=λoc sv=>.tail _ (.tail _ (Aa _ (.tail _ (.tail _ (.tail _ (.tail _ (.tail _ (.tail _ (.tail _ (.tail _ (.tail _ (.tail _ (.head _)))))))))))))
 have mhr:∀oc sv,(Ex.var L "heirs",CO.val (Ad (.ref hl)))∈Y oc sv:=λoc sv=>.tail _ (.tail _ (Aa _ (.tail _ (.tail _ (.tail _ (.tail _ (.tail _ (.tail _ (.tail _ (.tail _ (.tail _ (.tail _ (.tail _ (.tail _ (.head _)))))))))))))))
 have moc:∀oc sv,(Ex.var L "once",CO.val oc)∈Y oc sv:=λoc sv=>.tail _ (.tail _ (Aa _ (.tail _ (.tail _ (.tail _ (.tail _ (.tail _ (.tail _ (.tail _ (.tail _ (.tail _ (.tail _ (.tail _ (.tail _ (.tail _ (.head _))))))))))))))))
 have msv:∀oc sv,(Ex.var L "spec",CO.val sv)∈Y oc sv:=λoc sv=>.tail _ (.tail _ (Aa _ (.tail _ (.tail _ (.tail _ (.tail _ (.tail _ (.tail _ (.tail _ (.tail _ (.tail _ (.tail _ (.tail _ (.tail _ (.tail _ (.tail _ (.head _)))))))))))))))))
 have mw:∀oc sv,(Ex.obj w,CO.sdict (Vs fa ab sp de ih))∈Y oc sv:=λoc sv=>.tail _ (.tail _ (Aa _ (Aa [_,_,_,_,_,_,_,_,_,_,_,_,_,_,_,_,_,_,_] hw)))
 have mhl:∀oc sv,(Ex.obj hl,CO.list (iv (Nl 4 i num)))∈Y oc sv:=λoc sv=>.tail _ (.tail _ (Ah _ hhl))
 have msp:∀oc sv,(Ex.obj sp,CO.list (Ap G (Di (m+1) i)))∈Y oc sv:=λoc sv=>.tail _ (.head _)
 have hdr:=bI (c:=4) (k:=i) (by decide) num
 let hs:List Nat:=Nl 4 i num
 have hlS:=S.len
 show T Γ (A.deeper (Dg L)) ⟨Bl G++X,Y oc0 sv0⟩ _ _
 refine Ao (Sq (Cf (Bn (v:=.ref 473) (by kernel_rfl) ⟨.inl (by kernel_rfl),?_⟩)))
 refine Ai (Ac (v:=.ref hl) (Ag (mhr _ _)) ?_)
 refine Ar λws hw'=>(Un (τ:=Y oc0 sv0) (ns:=nv hs) (hA.le (by decide)) hh (Ag (mhl _ _)) (by rw [Ma];show(Nl 4 i num).length<=_;lia) (λrr=>?_) ws hw').T
 rw [Sv]
 let os:List Nat:=Cn [] hs
 have hos:∀o∈os,o < i:=λo ho=>hdr.2 o ((Jj _ o).mp ho)
 have hol:os.length<=3:=by have:=Ot hs [];have:hs.length < 4:=hdr.1;show(Cn [] hs).length<=3;lia
 refine(Em (vs:=iv os) (Ag (.head _)) λit=>?_)
 refine⟨it,_,_,iv os,_,(.obj rr,.list (iv os))::Y oc0 sv0,Ap G (os.map (m+1+ ·)),⟨rfl,rfl,Ey (a:=rr) (vs:=iv os) hh⟩,Hc,λext=>Ag (Aa _ (.head _)),by rw [Bw];lia,by rw [Bw,Bb,As],?_,λol=>?_⟩
 ·intro C acc t v u ρ' ys q1 q2
  obtain⟨j,hj,rfl⟩:=Rt q1
  have hji:=hos j (Fj hj)
  have hu:=iK q2 hj
  subst hu
  have upY:∀{p:Av},p∈Y oc0 sv0->p∈ρ'++Tt C acc "other" (Ad (.int (j:Int) 0)) ys ((.obj rr,.list (iv os))::Y oc0 sv0):=λhp=>Aa _ (.tail _ (.tail _ (.tail _ hp)))
  refine Bh (Bh (Aq (v:=.ref w) rfl (Ag (upY (cwo _ _))) (Kp (Ej (Ag (upY (mw _ _))) (v:=.ref sp) (by rfl) ?_))))
  exact Dm (v:=.int (j:Int) 0) (Ag (Aa _ (.head _))) (.head _) (Gv<|Cp (vs:=Ap G (Di (m+1) i)) (v:=.ref (Gd G (m+1+j))) (Ag (upY (msp _ _))) (by lia) (by lia) (iH G hji) ⟨rfl,rfl⟩)
 let P1:List Av:=[(.obj ol,.list (Ap G (os.map (m+1+ ·)))),(.obj rr,.list (iv os))]
 refine⟨oc0,⟨Bl G++X,P1++Y (Ad (.ref ol)) sv0⟩,.tau (.there (.there (.there (.there (.pre (.there (.there (.there (.there (.there (.there (.there (.there (.there (.there (.there (.there (.there .here)))))))))))))))))),Fh.go ?_⟩
 let Y1:List Av:=P1++Y (Ad (.ref ol)) sv0
 show T Γ (A.deeper (Dg L)) ⟨Bl G++X,Y1⟩ _ _
 have up1:∀{p:Av},p∈Y (Ad (.ref ol)) sv0->p∈Y1:=λhp=>.tail _ (.tail _ hp)
 refine Ao (Bo (Cf (Bn (v:=.ref 427) (by kernel_rfl) ⟨.inl (by kernel_rfl),?_⟩)))
 refine Ai (En (Dh (Aq (v:=.int (i:Int) 0) rfl (Ag (up1 (con _ _))) (Rl ?_))))
 refine Ai (Ac (v:=.ref ol) (Ag (up1 (moc _ _))) (Ai (Ac (v:=.ref rt) (Ag (up1 (mro _ _))) ?_)))
 have hFY:AF (A.deeper (Dg L)) ⟨[],Y1⟩:=hF.push rfl rfl (L:=L) (x:="script") (c:=sc) (up1 (msc _ _)) λp hp=>by cases hp
 have hkn:(100+(i:Int))∉G.map (·.key):=by
  rw [S.keys,Ak,Cj,Bq]
  rintro((q|q)|⟨a,ha,e⟩)
  ·lia
  ·have:=List.mem_of_mem_take q
   simp at this
   lia
  ·rw [Mc]at ha
   lia
 refine Ar λws hw'=>(Aae (τ:=Y1) (b:=ol) (key:=100+(i:Int)) (root:=.ref rt) (bs:=os.map (m+1+ ·)) S.wd S.sok hkn (by lia) (by rw [if_neg (by lia),ert]) (Ag (.head _)) ?_ (λq hq=>?_) (hA.le (by decide)) hh hFY (λG' X' x w1 w2 w3 w4 w5 w6 w7 w8 w9=>?_) ws hw').T
 ·refine List.pairwise_map.mpr (List.Pairwise.imp ?_ (Ji hs []))
  intro a b h e
  exact h (by lia)
 ·obtain⟨o,ho,rfl⟩:=Bq.mp hq
  have:=hos o ho
  lia
 have hlen':G'.length=m+1+i+1:=by rw [w2.i.len,Aj,S.len];rfl
 obtain⟨y,ey,hby⟩:=w2.at' (i:=m+1+i) (x:=x) (by rw [<-S.len];exact Sl G x)
 have my:y.me=x.me:=by have:=congrArg Nd.me hby;exact this
 have cy:y.C=427:=by have:=congrArg Nd.C hby;exact this.trans w3
 have ny:y.inh=Ae:=by have:=congrArg Nd.inh hby;exact this.trans w7
 let Y2:List Av:=P1++Y (Ad (.ref ol)) (Ad (.ref x.me))
 have up2:∀{p:Av},p∈Y (Ad (.ref ol)) (Ad (.ref x.me))->p∈Y2:=λhp=>.tail _ (.tail _ hp)
 refine⟨sv0,⟨Bl G'++X',Y2⟩,.tau (.there (.there (.there (.there (.pre (.there (.there (.there (.there (.there (.there (.there (.there (.there (.there (.there (.there (.there (.there .here))))))))))))))))))),Fh.go ?_⟩
 refine Ao (Dn (Cf (Bd (v:=.type "tuple") (by kernel_rfl) (by decide+kernel) (by decide) ⟨.inr (.inr ⟨_,rfl⟩),?_⟩)))
 refine Ai (Sy (Ac (v:=.ref hl) (Ag (up2 (mhr _ _))) (Em (vs:=iv hs) (Ag (up2 (mhl _ _))) λit=>?_)))
 refine⟨it,_,_,iv hs,_,Y2,Ap G (hs.map (m+1+ ·)),⟨rfl,rfl,Ey (a:=hl) (vs:=iv hs) hh⟩,Hc,λext=>Ag (Aa _ (up2 (mhl _ _))),by rw [Bw];show(Nl 4 i num).length<=_;lia,by rw [Bw,Bb,As],?_,λbl=>?_⟩
 ·intro C acc t v u ρ' ys q1 q2
  obtain⟨j,hj,rfl⟩:=Rt q1
  have hji:=hdr.2 j (Fj hj)
  have hu:=iK q2 hj
  subst hu
  have upY:∀{p:Av},p∈Y (Ad (.ref ol)) (Ad (.ref x.me))->p∈ρ'++Tt C acc "other" (Ad (.int (j:Int) 0)) ys Y2:=λhp=>Aa _ (.tail _ (.tail _ (up2 hp)))
  refine Bh (Bh (Aq (v:=.ref w) rfl (Ag (upY (cwo _ _))) (Kp (Ej (Ag (upY (mw _ _))) (v:=.ref sp) (by rfl) ?_))))
  exact Dm (v:=.int (j:Int) 0) (Ag (Aa _ (.head _))) (.head _) (Gv<|Cp (vs:=Ap G (Di (m+1) i)) (v:=.ref (Gd G (m+1+j))) (Ag (upY (msp _ _))) (by lia) (by lia) (iH G hji) ⟨rfl,rfl⟩)
 refine Ar λws hw'=>Fv (vs:=Ap G (hs.map (m+1+ ·))) (Ag (.head _)) (by rw [Bb,As];show(Nl 4 i num).length<=_;lia) (λbt=>T.conseq Rz ?_) ws hw'
 let X2:List Av:=(.obj bt,.tup (Ap G (hs.map (m+1+ ·))))::X'
 have wx2:Wd G' X2:=w1.more λe he=>.tail _ he
 refine Ac (v:=.ref x.me) (Ag (.tail _ (up2 (msv _ _)))) λv ov hv ho=>fR (x:=y) (x':={y with inh:=Ad (.ref bt)}) wx2.wx ey cy (by rw [ho,my]) hv (eZ Γ) (sV y _) rfl ?_
 refine Fh.go ?_
 let G2:List Nd:=G'.set (m+1+i) {y with inh:=Ad (.ref bt)}
 have S2:Wi G2 X2 m AB (i+1) (IH++[hs]):=S.step (by have:hs.length < 4:=hdr.1;lia) hdr.2 w1 w2 w3 w4 w5 w6 w8 w9 ey (λe he=>.tail _ he) (.head _)
 have hme:∀j,j < m+1+i->Gd G2 j=Gd G j:=λj hj=>by
  have K2:Gl G' G2:=Mb ey rfl
  rw [K2.me,w2.i.me,Th (by rw [S.len];exact hj)]
 have hsp2:Ap G (Di (m+1) i)++[.ref x.me]=Ap G2 (Di (m+1) (i+1)):=by
  have K2:Gl G' G2:=Mb ey rfl
  rw [K2.refs]
  exact cS w2.i S.len
 let P2:List Av:=(.obj bl,.list (Ap G (hs.map (m+1+ ·))))::P1
 let EI:Av:=(.obj ih,.list (has.map .ref))
 let ES:Av:=(.obj sp,.list (Ap G (Di (m+1) i)++[.ref x.me]))
 let V3:List Av:=ρ++V (Ad (.ref ol)) (Ad (.ref x.me))
 have up3:∀{p:Av},p∈Y (Ad (.ref ol)) (Ad (.ref x.me))->p∈P2++Y (Ad (.ref ol)) (Ad (.ref x.me)):=λhp=>Aa _ hp
 show T Γ (A.deeper (Dg L)) ⟨Bl G2++X2,P2++Y (Ad (.ref ol)) (Ad (.ref x.me))⟩ _ _
 refine Ao (Gf (Fo (Bh (Aq (v:=.ref w) rfl (Ag (up3 (cwo _ _))) (Kp (Ej (Ag (up3 (mw _ _))) (v:=.ref sp) (by rfl) (De Cv Dt Ds (It (vs:=Ap G (Di (m+1) i)) (Ag (up3 (msp _ _)))) ⟨.inr (.inl ⟨_,rfl⟩),?_⟩)))))))
 refine Ai (Ac (v:=.ref x.me) (Ag (up3 (msv _ _))) (Ar (Lx (vs:=Ap G (Di (m+1) i)) (σ':=⟨Bl G2++X2,P2++EI::ES::V3⟩) (.tau (.there (.there (.there (.there .here))))) (by rw [Bb,Ay,Kd];lia) ?_)))
 refine Fh.go ?_
 have upI:∀{p:Av},p∈V3->p∈P2++EI::ES::V3:=λhp=>Aa _ (.tail _ (.tail _ hp))
 have cwo3:(Ex.obj (L+6),CO.cell (Ad (.ref w)))∈V3:=Aa _ (.tail _ (.tail _ (.head _)))
 have mw3:(Ex.obj w,CO.sdict (Vs fa ab sp de ih))∈V3:=Aa _ (Aa [_,_,_,_,_,_,_,_,_,_,_,_,_,_,_,_,_,_,_] hw)
 have mhr3:(Ex.var L "heirs",CO.val (Ad (.ref hl)))∈V3:=Aa _ (.tail _ (.tail _ (.tail _ (.tail _ (.tail _ (.tail _ (.tail _ (.tail _ (.tail _ (.tail _ (.tail _ (.tail _ (.head _)))))))))))))
 refine Ao (Gf (Fo (Bh (Aq (v:=.ref w) rfl (Ag (upI cwo3)) (Kp (Ej (Ag (upI mw3)) (v:=.ref ih) (by rfl) (De Cv Dt Ds (It (vs:=has.map .ref) (Ag (.tail _ (.tail _ (.tail _ (.head _)))))) ⟨.inr (.inl ⟨_,rfl⟩),?_⟩)))))))
 refine Ai (Ac (v:=.ref hl) (Ag (upI mhr3)) (Ar (Lx (vs:=has.map .ref) (σ':=⟨Bl G2++X2,P2++(Ex.obj ih,CO.list (has.map Bx++[Bx hl]))::ES::V3⟩) (.tau (.there (.there (.there .here)))) (by rw [As,Ay];lia) ?_)))
 refine Fh.go (Cq ?_)
 have:=h G2 X2 P2 (Ad (.ref ol)) (Ad (.ref x.me)) S2 hme
 rw [Bk,<-hsp2]at this
 exact this
end
end
section
theorem wK {α:Type} (r2 r1 rf r v:List α) (a b:α):(r2++((r1++(rf++a::b::r))++v)).Perm (a::b::((r2++(r1++(rf++r)))++v)):=by
 refine Si λx=>?_
 simp only [Je,Kn]
 lia
theorem wJ {α:Type} (r5 r2 r1 rf r v:List α) (a b:α):(r5++(a::b::((r2++(r1++(rf++r)))++v))).Perm (r1++(rf++a::b::((r5++(r2++r))++v))):=by
 refine Si λx=>?_
 simp only [Je,Kn]
 lia
section
variable {Γ:Bm} {A:Az}
inductive Agh (G0:List Nd) (AB:List (List Nat)) (L w sa fa ab sp ih rt m:Nat) (kk rw he:Option Ab) (τ:List Av) (n:Nat) (σ:Bc):Prop
 |mk (G:List Nd) (X:List Av) (IH:List (List Nat)) (has:List Am) (ρf ρ:List Av) (on nu hr oc sv:Option Ab) (S:Wi G X m AB n IH) (hme:∀j,j < m+1->Gd G j=Gd G0 j) (rows:Gz ρ has IH)
  (e:σ=⟨Bl G++X,ρf++(.obj ih,.list (has.map .ref))::(.obj sp,.list (Ap G (Di (m+1) n)))::(ρ++wV L Ae on (Ad (.ref w)) nu kk (Ad (.ref ab)) (Ad (.ref fa)) (Ad (.int (m:Int) 0)) (Ad (.ref sa)) he (Ad (.ref rt)) rw hr oc sv Ae Ae Ae Ae τ)⟩)
set_option maxHeartbeats 4000000 in
theorem pZ {G0:List Nd} {X0 τ:List Av} {AB:List (List Nat)} {L w sa fa ab sp de ih rt m:Nat} {nu0 kk rw he:Option Ab} {script:List Int} {Q:Ga->Bc->Prop} (F0:Zx G0 X0 m AB) (e0:Gd G0 0=rt) (hm:m<=4)
  (hw:(Ex.obj w,CO.sdict (Vs fa ab sp de ih))∈τ) (hsc:dF Γ sa (Aw script)) (hsl:script.length<=63) (hA:Rm (A.deeper (Dg L)) 43) (hh:A.handled=Ae) (hF:AF A ⟨[],[]⟩)
  (h:∀G X IH has ρ on nu hr oc sv,Wi G X m AB 4 IH->(∀j,j < m+1->Gd G j=Gd G0 j)->Gz ρ has IH->
   T Γ (A.deeper (Dg L)) ⟨Bl G++X,(.obj ih,.list (has.map .ref))::(.obj sp,.list (Ap G (Di (m+1) 4)))::(ρ++wV L Ae on (Ad (.ref w)) nu kk (Ad (.ref ab)) (Ad (.ref fa)) (Ad (.int (m:Int) 0)) (Ad (.ref sa)) he (Ad (.ref rt)) rw hr oc sv Ae Ae Ae Ae τ)⟩ (Cs ((fBody (topStmt 31)).drop 8) (Dg L)) Q):
  T Γ (A.deeper (Dg L)) ⟨Bl G0++X0,(.obj ih,.list [])::(.obj sp,.list [])::wV L Ae Ae (Ad (.ref w)) nu0 kk (Ad (.ref ab)) (Ad (.ref fa)) (Ad (.int (m:Int) 0)) (Ad (.ref sa)) he (Ad (.ref rt)) rw Ae Ae Ae Ae Ae Ae Ae τ⟩ (Cs ((fBody (topStmt 31)).drop 7) (Dg L)) Q:=by
 let V:Option Ab->Option Ab->Option Ab->Option Ab->Option Ab->List Av:=λon nu hr oc sv=>wV L Ae on (Ad (.ref w)) nu kk (Ad (.ref ab)) (Ad (.ref fa)) (Ad (.int (m:Int) 0)) (Ad (.ref sa)) he (Ad (.ref rt)) rw hr oc sv Ae Ae Ae Ae τ
 refine Ao (Qf (Cf (Bd (v:=.type "range") (by kernel_rfl) (by decide+kernel) (by decide) ⟨.inr (.inr ⟨_,rfl⟩),?_⟩)))
 refine Ai (Dh (k:=0) (pos:=⟨0,0,0,0⟩) ?_)
 refine Ar λws hws=>Sm (λrg=>?_) ws hws
 obtain⟨rs1,rs2⟩:=Qy (n:=4) (Cb _)
 refine(Nr (n:=4) (Ag (.head _)) rs1 rs2 λit=>?_)
 let RG:Av:=(.obj rg,.rng 0 4 1)
 refine⟨it,_,_,iv (Er 4),_,RG::(.obj ih,.list [])::(.obj sp,.list [])::V Ae nu0 Ae Ae Ae,⟨rfl,rfl,by have:=Py (Γ:=Γ) (A:=A.deeper (Dg L)) (it:=it) (x:=0) (c:=1) (n:=4) hh;rw [Tu]at this;exact this⟩,
  λd=>Agh G0 AB L w sa fa ab sp ih rt m kk rw he τ d.length,
  ⟨G0,X0,[],[],[RG],[],Ae,nu0,Ae,Ae,Ae,.of F0,λ_ _=>rfl,⟨rfl,λk b l e1 e2=>by cases e1⟩,rfl⟩,λ_ _ _=>trivial,?_,?_⟩
 ·intro d v r u ρ' σ he' hu zz Kq hK
  obtain⟨ev,hj4⟩:=eS he'
  obtain⟨G,X,IH,has,ρf,ρ,on,nu,hr,oc,sv,S,hme,rows,e⟩:=zz
  rw [e]
  rw [ev]at hu
  rw [Aj,Br]at hK
  generalize d.length=j at *
  let EI:Av:=(.obj ih,.list (has.map .ref))
  let ES:Av:=(.obj sp,.list (Ap G (Di (m+1) j)))
  let number:Int:=script.getD (1+m+j) (j:Int)
  refine Rg (v:=.int (j:Int) 0) (σ':=⟨Bl G++X,ρ'++(ρf++EI::ES::(ρ++V (Ad (.int (j:Int) 0)) nu hr oc sv))⟩) hu rfl (.tau (.pre (.pre (.there (.there (.pre (.there .here))))))) ?_
  have eA:∀on nu hr oc sv,ρ'++(ρf++EI::ES::(ρ++V on nu hr oc sv))=(ρ'++(ρf++EI::ES::ρ))++V on nu hr oc sv:=λon nu hr oc sv=>by simp
  rw [eA]
  refine jL (τ:=τ) (ρ:=ρ'++(ρf++EI::ES::ρ)) (i:=j) hsc hsl ?_
  refine lQ (ρ:=ρ'++(ρf++EI::ES::ρ)) (k:=j) (num:=number) hj4 hh λρ2 r2 hr2=>?_
  let V1:List Av:=V (Ad (.int (j:Int) 0)) (Ad (.int number 0)) (Ad (.ref r2)) oc sv
  refine T.conseq (σ':=⟨Bl G++X,EI::ES::((ρ2++(ρ'++(ρf++ρ)))++V1)⟩) (Av.le_perm (Bf _ (wK ρ2 ρ' ρf ρ V1 EI ES))) ?_
  refine pI (ρ:=ρ2++(ρ'++(ρf++ρ))) (num:=number) S hm (by rw [hme 0 (by lia)];exact e0) hj4 hw (Ah _ hr2) (by rw [rows.1,S.lenI]) hA hh hF λG2 X2 ρ5 oc' sv' S2 hme2=>?_
  refine hK .next _ ⟨Bl G2++X2,ρf++(.obj ih,.list ((has++[r2]).map .ref))::(.obj sp,.list (Ap G2 (Di (m+1) (j+1))))::((ρ5++(ρ2++ρ))++V (Ad (.int (j:Int) 0)) (Ad (.int number 0)) (Ad (.ref r2)) oc' sv'),Av.le_perm (Bf _ (wJ ρ5 ρ2 ρ' ρf ρ (V (Ad (.int (j:Int) 0)) (Ad (.int number 0)) (Ad (.ref r2)) oc' sv') _ _)),G2,X2,IH++[Nl 4 j number],has++[r2],ρf,ρ5++(ρ2++ρ),_,_,_,oc',sv',S2,λq hq=>?_,(rows.sub λp hp=>Aa _ (Aa _ hp)).snoc (Aa _ (Ah _ hr2)),rfl⟩
  rw [hme2 q (by lia),hme q hq]
 ·intro σ z
  rw [Bw,Dy]at z
  obtain⟨G,X,IH,has,ρf,ρ,on,nu,hr,oc,sv,S,hme,rows,e⟩:=z
  rw [e]
  refine Cq ?_
  refine Fh.go ?_
  refine T.conseq (σ':=⟨Bl G++X,(.obj ih,.list (has.map .ref))::(.obj sp,.list (Ap G (Di (m+1) 4)))::(ρ++V on nu hr oc sv)⟩) (Av.le_sub (Bs _ _)) ?_
  exact h G X IH has ρ on nu hr oc sv S hme rows
end
end
section
theorem zI {α:Type} (w i de d3 d2 d1 d0 s a f:α) (r v t:List α):(w::i::de::d3::d2::d1::d0::s::((a::f::r)++(v++t))).Perm (i::s::(v++(w::de::d3::d2::d1::d0::a::f::(r++t)))):=by
 refine Si λx=>?_
 simp only [Je,Kn]
 lia
theorem zJ {α:Type} (w i de d3 d2 d1 d0 s a f:α) (r v t:List α):(i::s::(r++(v++(w::de::d3::d2::d1::d0::a::f::t)))).Perm (de::i::(r++(v++(s::w::d3::d2::d1::d0::a::f::t)))):=by
 refine Si λx=>?_
 simp only [Je,Kn]
 lia
section
variable {Γ:Bm} {A:Az}
set_option maxHeartbeats 4000000 in
theorem tY {τ:List Av} {L sa:Am} {script:List Int} {Q:Ga->Bc->Prop} (hsc:dF Γ sa (Aw script)) (hsl:script.length<=63) (hA:Rm (A.deeper (Dg L)) 43) (hh:A.handled=Ae) (hF:AF A ⟨[],[]⟩) (h:∀σ,Q (.ret (.bool true)) σ):
  T Γ (A.deeper (Dg L)) ⟨[],wV L Ae Ae Ae Ae Ae Ae Ae Ae (Ad (.ref sa)) Ae Ae Ae Ae Ae Ae Ae Ae Ae Ae τ⟩ (Cs (fBody (topStmt 31)) (Dg L)) Q:=by
 obtain⟨m1,m2,_⟩:=oO script
 refine pY hsc hsl hA hh hF λG X x fa ab w1 w2 w3 w4 w5 w6 w7 w8=>?_
 have e0:Gd G 0=x.me:=by rw [w2.i.me];rfl
 refine qA (m:=Pm script) (Aaa w1 w2 w3 w4 w8) e0 m2 hsc hsl hA hh hF λG1 X1 AB aas ρ nu kk rw F ert rows=>?_
 refine pX (ρ:=(.obj ab,.list (aas.map .ref))::(.obj fa,.list (Ap G1 (Cc (Pm script))))::ρ) λw sp de ih d0 d1 d2 d3=>?_
 let V:Option Ab->Option Ab->Option Ab->Option Ab->Option Ab->List Av->List Av:=λon nu hr oc sv T=>wV L Ae on (Ad (.ref w)) nu kk (Ad (.ref ab)) (Ad (.ref fa)) (Ad (.int (Pm script:Int) 0)) (Ad (.ref sa)) (Ad (.int (Sg script) 0)) (Ad (.ref x.me)) rw hr oc sv Ae Ae Ae Ae T
 let EW:Av:=(.obj w,.sdict (Vs fa ab sp de ih))
 let ED:Av:=(.obj de,.list [.ref d0,.ref d1,.ref d2,.ref d3])
 let E3:Av:=(.obj d3,.list [])
 let E2:Av:=(.obj d2,.list [])
 let E1:Av:=(.obj d1,.list [])
 let E0:Av:=(.obj d0,.list [])
 let EA:Av:=(.obj ab,.list (aas.map .ref))
 let EF:Av:=(.obj fa,.list (Ap G1 (Cc (Pm script))))
 let τ1:List Av:=EW::ED::E3::E2::E1::E0::EA::EF::(ρ++τ)
 refine T.conseq (σ':=⟨Bl G1++X1,(.obj ih,.list [])::(.obj sp,.list [])::V Ae nu Ae Ae Ae τ1⟩) (Av.le_perm (Bf _ (zI EW (.obj ih,.list []) ED E3 E2 E1 E0 (.obj sp,.list []) EA EF ρ (V Ae nu Ae Ae Ae []) τ))) ?_
 refine pZ (τ:=τ1) (de:=de) (AB:=AB) F ert m2 (.head _) hsc hsl hA hh hF λG2 X2 IH has ρ2 on nu2 hr oc sv S hme rows2=>?_
 let ES:Av:=(.obj sp,.list (Ap G2 (Di (Pm script+1) 4)))
 let τ2:List Av:=ES::EW::E3::E2::E1::E0::EA::EF::(ρ++τ)
 refine T.conseq (σ':=⟨Bl G2++X2,Jv de ih [d0,d1,d2,d3] has (ρ2++V on nu2 hr oc sv τ2)⟩) (Av.le_perm (Bf _ (zJ EW (.obj ih,.list (has.map .ref)) ED E3 E2 E1 E0 ES EA EF ρ2 (V on nu2 hr oc sv []) (ρ++τ)))) ?_
 have I:Vk G2 X2 (Pm script) AB [[],[],[],[]] IH:=S.inv m2 F.lenA (λi=>⟨F.ten m2 i,λk hk=>?_⟩) F.self
 ·have hfa:Ap G1 (Cc (Pm script))=Ap G2 (Cc (Pm script)):=by
   unfold Ap
   apply Gk
   intro q hq
   unfold Cc at hq
   rw [List.mem_range'_1]at hq
   rw [hme q (by lia)]
  have mv:∀p∈ρ++τ,p∈τ2:=λp hp=>.tail _ (.tail _ (.tail _ (.tail _ (.tail _ (.tail _ (.tail _ (.tail _ hp)))))))
  refine tX (τ2:=τ2) (ρ:=ρ2) I (by lia) (.tail _ (.head _)) ⟨aas,rows.1,.tail _ (.tail _ (.tail _ (.tail _ (.tail _ (.tail _ (.head _)))))),λk b l q1 q2=>mv _ (rows.2 k b l q1 q2)⟩ ?_ (.head _) ⟨rfl,λk b l q1 q2=>?_⟩ (rows2.sub λp hp=>Ah _ hp) hsc hsl hA hh hF h
  ·rw [<-hfa]
   exact .tail _ (.tail _ (.tail _ (.tail _ (.tail _ (.tail _ (.tail _ (.head _)))))))
  ·refine Aa _ ?_
   match k with
   |0=>cases q1;cases q2;exact .tail _ (.tail _ (.tail _ (.tail _ (.tail _ (.head _)))))
   |1=>cases q1;cases q2;exact .tail _ (.tail _ (.tail _ (.tail _ (.head _))))
   |2=>cases q1;cases q2;exact .tail _ (.tail _ (.tail _ (.head _)))
   |3=>cases q1;cases q2;exact .tail _ (.tail _ (.head _))
   |n+4=>cases q1
 ·by_cases q:i < Pm script
  ·have:=(F.A i q).2 k hk
   lia
  ·rw [Vq (by rw [F.lenA];lia)]at hk
   cases hk
end
end
section
section
variable {Γ:Bm} {A:Az}
theorem Afc {τ:List Av} {sa:Am} {script:List Int} {Q:Ab->Bc->Prop} (hA:Rm A 44) (hh:A.handled=Ae) (hF:AF A ⟨[],[]⟩) (hsc:dF Γ sa (Aw script)) (hsl:script.length<=63) (h:∀σ,Q (.bool true) σ):∀ws,ws.map cl=[.ref sa]->TC Γ A ⟨[],τ⟩ (.ref 512) ws [] Q:=λws hw=>by
 refine Wm (body:=fBody (topStmt 31)) (bs:=[("script",.ref sa)]) ["script","head","root","row","heirs","once","spec","numbers","at","kind","named"] (Aef Γ) (by kernel_rfl) hA.room (Hb.plain1 λ_ _=>Cm (by rfl)) (λL=>?_) (by rfl) (by decide) (by decide) (by rfl) (by rfl) (by rfl) ws [] hw rfl
 show T Γ (A.deeper (Dg L)) ⟨[],wV L Ae Ae Ae Ae Ae Ae Ae Ae (Ad (.ref sa)) Ae Ae Ae Ae Ae Ae Ae Ae Ae Ae τ⟩ (Cs _ (Dg L)) _
 exact tY hsc hsl hA.deeper hh hF λσ=>⟨σ,Av.le_refl _,h σ⟩
end
end
theorem well_ints {P:Ol} {h:Cd}:∀{ns:List Int} {vs:List Ab},WellAll P h vs (ofPys (ns.map PyData.int))->vs.map cl=Aw ns
 |[],_,.nil=>rfl
 |n::ns,_,.cons a b=>by
  cases a
  rw [Ck,well_ints b]
  rfl
theorem rm_caller:Rm callerA 44:=⟨by decide+kernel,by decide+kernel⟩
theorem af_caller:AF callerA ⟨[],[]⟩:=⟨[],rfl,λ_ h=>nomatch h⟩
theorem rel_0 {Γ:Bm} {s:Be} (e:s.heap=Γ.h₁) (hl:s.heap.NoLimit) (ho:s.os=Γ.os) (hg:s.gens=#[]):Eg Γ ⟨[],[]⟩ s:=
 ⟨by rw [e];exact .refl _,⟨hl,λP hP=>⟨#[],by rw [e];exact Γ.tabs P hP,trivial⟩⟩,λo h=>by rw [e];exact h,ho,.of_eq hg,λ_ h=>(nomatch h),.nil⟩
theorem joinB:WalkO (qB pwB) looseB (XL (qB pwB) []) (Hook.says hkB) rB.toRowW dB [] λf vs=>PySem.call f vs:=by
 intro w s₀ s₁ mg mb G Y fa o pm cd doc dV kV ho hd hcd hD hmg hg args vals as hpre hlay hrd hwl hlo
 have KX:=km_in_of Y
 have KT:=km_tabs_of Y
 clear Y hcd hD hd
 refine Ground.open G ?_
 intro T B D TE TW
 obtain⟨bm,ob,BM⟩:=bmod_of_top T
 clear G D TE TW
 wrow_args hpre hlay hrd hwl hlo
 refine enter_call ?_
 have hW:= ‹Well _ _ _ _›
 have hL:= ‹¬_ < _›
 cases hW with
 |list hget hall=>
 have hcl:=well_ints hall
 let Γ:Bm:=⟨pwB,qB pwB,w,s₁.heap,s₁.os,mg,mb,looseW (qB pwB) looseB,topRead_of T,KX,KT,bm,ob,BM.name,BM.ne,BM.obj,BM.cls,BM.dict,BM.data⟩
 have e:fa=512:=by
  have:=mg_of KX T.g (n:="law") (v:=.ref 512) (by kernel_rfl)
  exact Bx.inj (Dl (hmg.symm.trans this))
 subst e
 refine Jn (Afc (Γ:=Γ) (A:=callerA) (Q:=λv _=>v=.bool true) rm_caller rfl af_caller ⟨_,0,hget,hcl⟩ (by lia) (λ_=>rfl) _ rfl s₁ (rel_0 rfl T.nolimit rfl hg)) λr s' z=>?_
 rcases r with e|(v|_|_|_)<;>first|exact z.elim|skip
 obtain⟨σ',R,q⟩:=z
 cases gC q
 exact⟨.inl ⟨_,_,_,rfl,λ_=>rfl,.bool _,by wrow_post,λ_=>⟨.nil,λ_ h=>(nomatch h)⟩⟩,R.old,R.os,R.bare⟩
end Mine
theorem PySem.Challenge.cw_jp0056_01_holds : PySem.Challenge.rw_jp0056_01.Holds :=
 Mine.head_of Mine.joinB
