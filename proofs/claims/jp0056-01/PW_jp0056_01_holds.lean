import PyProof.Rows.All
import Wide.All
import OpenK.AllK
import Wide.FinOn
import Lean
import PySem.Challenge.RW_jp0056_01
set_option autoImplicit false
set_option Elab.async false
set_option maxRecDepth 100000
set_option maxHeartbeats 4000000
set_option linter.all false
set_option bootstrap.genMatcherCode false
set_option genSizeOf false
set_option tactic.hygienic false
open PySem PySem.W PyProof.Rows PySem.Calls
open _root_.List renaming mem_append_right->Aa,mem_append_left->Af,length_append->Ah,mem_append->Ai,getElem?_eq_some_iff->Aj,length_map->Ap,append_assoc->Ax,getElem?_map->Bc,mem_singleton->Be,map_append->Bh,getElem?_eq_getElem->Bm,mem_map->Bn,length_singleton->Bo,sublist_append_right->Bp,length_filter_le->Bu,Perm->Bv,mem_cons->Ce,map_cons->Cf,append_nil->Cj,mem_filter->Cs,mem_map_of_mem->Cv,sublist_append_of_sublist_right->Cx,getD_eq_getElem?_getD->Db,range'->De,getElem?_eq_none->Dq,length_range->Du,map_map->Ec,range->El,take_length->Em,perm_append_comm->Eu,nodup_cons->Ey,filter_append->Ez,mem_of_getElem?->Fd,perm_middle->Ff,mem_flatMap->Fg,take_left'->Fh,getElem?_append_left->Fn,nil_append->Fq,length_take->Fs,length_cons->Ft,all_eq_true->Fu,map_congr_left->Ge,filter_cons->Gj,flatMap_cons->Gs,getElem?_set_ne->Gz,getElem?_append_right->Ha,any_eq_true->Hb,find?_cons->Hh,cons_append->Hp,nodup_append->Hz,length->Ia,pairwise_cons->Ih,cons->It,getElem?_set->Iv,filter_congr->Iw,count_append->Ix,flatMap_append->Je,length_range'->Jw,filter_map->Kd,count_cons->Ke,map_set->Ko,map_nil->Kp,ext_getElem?->Ks,pairwise_append->Ku,getElem?_range'->Kv,mem_range->Lu,getElem_range->Me,contains_iff_mem->Mq,take_add_one->Mu,replicate->Nn,map_eq_nil_iff->Od,map_take->Ok,any_cons->Om,filter_nil->Ow,contains_cons->Pg,set_set->Qd,Sublist->Qe,size_toArray->Qi,sublist_cons_self->Qk
open _root_.PySem renaming Value->Ab,wpAny_bind->Ad,Addr->Ak,Expr->Aq,wpAny_pure->Au,sizeLine_eq->Av,Around->Aw,Shared->Ba,model->Cd,execs->Cm,wpAny->Cp,letOwnedTupleGo->Dn,eval->Dr,foldedSetIterable->Dt,wpAny_mono->Dy,wpAny_holding->Dz,compareOp->Eg,wpAny_standAt->Eo,wpAny_newObj_type->Et,BindsTo->Fa,cellsFrom->Fe,valueAt->Fk,Flow->Fv,Fin->Gb,sizeLine->Gg,letTemporaryGo->Gi,wpAny_field->Gl,mainGlobals->Gx,recursionLimit->Gy,codeAny_builtin->Hg,wpAny_callSpecial?_slot->Hq,pyIter->Hu,wpAny_loadPart_at->Hy,builtinLookup_eq_fast->Ic,getMethod->Ie,builtinsNs->Ig,assign->Ij,wpAny_of_eq->Im,Program->Jf,codeAny_mono->Jg,subscripted->Jk,plainId_quiet->Jm,Stmt->Jr,GenState->Ju,closureFor->Jv,codeAny->Jz,rawInt->Kb,codeAny_call_builtin->Kt,Result->Kw,wpAny_rule->Kx,Scope->La,getAttr->Lc,stored->Lj,pyNext->Lk,treeTable->Lp,swapsWith->Lq,wpAny_call_entry->Lv,starEach->Mi,typeLookup_type->Mk,importedModules->Ml,standAt->Mr,spliced->Ms,IsRangeIter->Mt,exec->Mx,wpAny_call->Ng,wpAny_setField->Nk,wpAny_loadPart->Nl,firstArgMember->Nm,DictEntry->Nw,wpAny_askSetting->Ny,World->Oa,Params->Ob,wpAny_isSubtype_exc->Oc,binaryOp->Oh,wpAny_updateSeq->Ov,truthy->Oz,slot_listiter_next->Pe,noteFrame->Pk,wpAny_seqItems->Qf
open _root_.PySem.Heap renaming get?_push_of_some->Al,get?_push_size->Bg,lt_size->Ds,get?_update_self->Dv,SameBut->En,ExtBut->Io,size_push->Iq
open _root_.List.Perm renaming append_left->Bb,append_right->Dx
open _root_.PySem.Value renaming ref->Bt,none->Dm,int->Fl,type->Gw
open _root_.Nat renaming le_trans->Bw,le_refl->Bx,le_of_ble_eq_true->By,zero_le->Ca,lt_of_le_of_lt->Hk,lt_trans->Jh,succ_le_succ->Jq,ne_of_lt->Kn,le_of_lt->Md,lt_or_ge->Nx,lt_of_lt_of_le->Pf,sub_self->Qc
open _root_.PySem.BindsTo renaming of_eq->Cg
open _root_.PySem.F renaming plainAttrs_list->Cr,type_list_append->Do,slot_list_append->Dp,excBase_Exception->Go,plain_extend_loop->Le,plain_any_loop->Mf,plain_all_loop->Mg,called_tuple->No,slot_list_extend->Op,plainAttrs_dict->Ps,plainAttrs_set->Qj
open _root_.Option renaming map_eq_some_iff->Cw,some->Ek,bind_some->Lw
open _root_.Bool renaming and_eq_true->Cy,false_eq_true->Hl,not_eq_false'->Jx,eq_iff_iff->Kf,not_eq_true'->Mv
open _root_.Int renaming toNat_natCast->Df
open _root_.PySem.Heap.SameBut renaming update->Dg
open _root_.Option.some renaming inj->Dh
open _root_.Array renaming getElem?_eq_getElem->Fo,getElem?_eq_none->Mh,getElem?_eq_some_iff->Nq,any_toList->Nz
open _root_.PySem.Around renaming under_plainId->Fw,frames_deeper->Np
open _root_.PyProof.Rows renaming subscriptTail->Fz
open _root_.PySem.W renaming envX->Gk,plainGet_of->Kj,handedIn->Ln,boot_heap->Nv,instObj->Ot,specialIn->Pj,hasDictIn->Pl,emptyDict->Pn
open _root_.PySem.Builtin.List renaming listExtendWith->Hr,listLengthHint->Ji,listSameRef->Kz,listTooLong->Oq,listItems->Ql
open _root_.List.cons renaming injEq->Ib,inj->Ol
open _root_.PySem.PyData renaming keyHash->Ip
open _root_.PySem.Sem renaming bind_eq_wrap'->Iu,onRaise_eq_wrap->Jd,wrap_wrap->Mn
open _root_.PySem.Obj renaming mapFields->Jn,mapSeq->Mc
open _root_.PySem.Str renaming ofString->Kl
open _root_.Ne renaming symm->Ld
open _root_.PySem.Builtin.Range renaming rangeSize->Lx,small->Oe
open _root_.PySem.Data renaming seq->Pz
namespace Mine
def sy (a:Array Lean.Syntax):Lean.Syntax:=.node .none `Lean.Parser.Tactic.tacticSeq #[.node .none `Lean.Parser.Tactic.tacticSeq1Indented #[.node .none `null a]]
def aR:Lean.Syntax:=sy #[.node .none `Lean.Parser.Tactic.tacticRfl #[.atom .none "rfl"]]
def aD:Lean.Syntax:=sy #[.node .none `Lean.Parser.Tactic.decide #[.atom .none "decide",.node .none `Lean.Parser.Tactic.optConfig #[.node .none `null #[]]]]
def aI:Lean.Syntax:=sy #[.node .none `Lean.Parser.Tactic.intros #[.atom .none "intros",.node .none `null #[]],.atom .none ";",.node .none `Lean.Parser.Tactic.tacticRfl #[.atom .none "rfl"]]
def aU:Lean.Syntax:=sy #[.node .none `Lean.Parser.Tactic.intros #[.atom .none "intros",.node .none `null #[]],.atom .none ";",.node .none `Lean.Parser.Tactic.withUnfoldingAll #[.atom .none "with_unfolding_all",aR]]
def aP:Lean.Syntax:=sy #[.node .none `Lean.Parser.Tactic.exact #[.atom .none "exact",.node .none `Lean.Parser.Term.anonymousCtor #[.atom .none "⟨",.node .none `null #[.ident .none "rfl".toRawSubstring `rfl [],.atom .none ",",.ident .none "rfl".toRawSubstring `rfl []],.atom .none "⟩"]]]
noncomputable def topStmt (i:Nat):Jr:=PySem.Challenge.pw_jp0056_01.main.body.getD i (.Pass ⟨0,0,0,0⟩)
noncomputable def clsStmt (i j:Nat):Jr:=match topStmt i with|.ClassDef _ _ _ b _ _ _ _ _ _ _=>b.getD j (.Pass ⟨0,0,0,0⟩)|s=>s
noncomputable def fBody:Jr->List Jr|.FunctionDef _ _ b _ _ _ _ _ _ _=>b|_=>[]
noncomputable def fScope:Jr->La|.FunctionDef _ _ _ _ _ _ sc _ _ _=>sc|_=>{kind:=.module,names:=[],isGenerator:=false,isCoroutine:=false}
noncomputable def fArgs:Jr->Arguments|.FunctionDef _ a _ _ _ _ _ _ _ _=>a|_=>⟨[],[],none,[],[],none,[]⟩
noncomputable def kT (l:List Ab):Obj:=⟨.type "tuple",none,.seq l.toArray 0,#[]⟩
noncomputable def kO (c:String) (d:Option Ak) (l:List Ab):Obj:=⟨.type c,d,.fields l.toArray,#[]⟩
noncomputable def kD (P:Ob) (c:Ab) (n:Nat) (l:List (Str×Nat×Ab)):Obj:=⟨c,none,.dict (l.map λe=>⟨Ip P e.1,.str e.1 e.2.1,e.2.2⟩).toArray n,#[]⟩
noncomputable def kE (s:Str) (t:Nat) (v:Ab):Str×Nat×Ab:=(s,t,v)
noncomputable def kF (n q:Str) (st:Jr) (pm:Ab) (an:Option Ak) (cd dV:Ab):Obj:=⟨.type "function",none,.func (fnX n q (fArgs st) (fBody st) (fScope st) [] dV .none .none pm an cd .none),#[]⟩
noncomputable def kK (n:Str) (b m:List Ab) (ns:Ak) (q:Str) (sub:List Ab) (sl:List (Option Ab)):Obj:=⟨.type "type",none,.cls {name:=n,bases:=b,mro:=m,ns:=ns,qualname:=q,subclasses:=sub},sl.toArray⟩
noncomputable def kk0 (P:Ob):Frag:=[(2,kD P .none 4 [kE "type.__subclasses__.TypeError.0" 251 (.int 59 0),kE "type.__subclasses__.TypeError.n" 252 (.int 1 0),kE "type.__subclasses__.Exception.0" 310 (.int 100 0),kE "type.__subclasses__.Exception.n" 311 (.int 1 0)]),
 (3,kD P (.type "dict") 37 [kE "__name__" 165 (.str "law_jp0056_01" 815),kE "__doc__" 166 (.none),kE "__package__" 167 (.none),kE "__loader__" 168 (.builtin "__main__.__loader__#opaque"),kE "__spec__" 169 (.none),kE "__annotations__" 170 (.ref 6),kE "__builtins__" 171 (.ref 4),kE "__file__" 173 (.str "/claim/cut.py" 172),kE "__cached__" 174 (.none),kE "_wall" 193 (.ref 21),kE "_legacy_mergeOrderings" 206 (.ref 28),kE "_legacy_flatten" 216 (.ref 35),kE "_legacy_ro" 223 (.ref 42),kE "InconsistentResolutionOrderError" 254 (.ref 59),kE "_StaticMRO" 293 (.ref 86),kE "_UseLegacyRO" 313 (.ref 100),kE "C3" 482 (.ref 204),kE "_StrictC3" 515 (.ref 232),kE "ro" 529 (.ref 242),kE "SpecificationBase" 559 (.ref 259),kE "Specification" 657 (.ref 336),kE "InterfaceClass" 690 (.ref 364),kE "Declaration" 750 (.ref 414),kE "Implements" 768 (.ref 427),kE "classImplementsOnly" 777 (.ref 436),kE "classImplements" 790 (.ref 443),kE "classImplementsFirst" 799 (.ref 450),kE "_classImplements_ordered" 805 (.ref 458),kE "_normalizeargs" 814 (.ref 466),kE "_law_once" 825 (.ref 473),kE "_law_implied" 831 (.ref 478),kE "_law_near" 841 (.ref 485),kE "_law_declare" 847 (.ref 490),kE "_law_numbers" 853 (.ref 495),kE "_law_stands" 859 (.ref 500),kE "_law_told" 869 (.ref 507),kE "law" 875 (.ref 512)]),
 (20,kO "code" none [.str "_wall" 187,.str "_wall" 188,.str "/claim/cut.py" 189,.int 1 0,.int 1 0,.int 0 0,.int 0 0,.int 3 0,.ref 15,.bool true,.int 181 0,.ref 16,.none,.ref 17,.ref 18,.ref 19,.int 191 0,.int 1 0,.str "/claim/cut.py" 192]),
 (21,kF "_wall" "_wall" (topStmt 0) (.str "__main__" 164) none (.ref 20) (.none)),
 (27,kO "code" none [.str "_legacy_mergeOrderings" 196,.str "_legacy_mergeOrderings" 197,.str "/claim/cut.py" 198,.int 5 0,.int 1 0,.int 0 0,.int 0 0,.int 3 0,.ref 22,.bool true,.int 181 0,.ref 23,.none,.ref 24,.ref 25,.ref 26,.int 204 0,.int 5 0,.str "/claim/cut.py" 205]),
 (28,kF "_legacy_mergeOrderings" "_legacy_mergeOrderings" (topStmt 2) (.str "zope.interface.ro" 194) none (.ref 27) (.none)),
 (34,kO "code" none [.str "_legacy_flatten" 207,.str "_legacy_flatten" 208,.str "/claim/cut.py" 209,.int 14 0,.int 1 0,.int 0 0,.int 0 0,.int 3 0,.ref 29,.bool true,.int 181 0,.ref 30,.none,.ref 31,.ref 32,.ref 33,.int 214 0,.int 14 0,.str "/claim/cut.py" 215]),
 (35,kF "_legacy_flatten" "_legacy_flatten" (topStmt 3) (.str "zope.interface.ro" 194) none (.ref 34) (.none)),
 (41,kO "code" none [.str "_legacy_ro" 217,.str "_legacy_ro" 218,.str "/claim/cut.py" 219,.int 22 0,.int 1 0,.int 0 0,.int 0 0,.int 3 0,.ref 36,.bool true,.int 181 0,.ref 37,.none,.ref 38,.ref 39,.ref 40,.int 221 0,.int 22 0,.str "/claim/cut.py" 222]),
 (42,kF "_legacy_ro" "_legacy_ro" (topStmt 4) (.str "zope.interface.ro" 194) none (.ref 41) (.none)),
 (43,kT [.type "TypeError"]),
 (55,kO "code" none [.str "__init__" 236,.str "InconsistentResolutionOrderError.__init__" 237,.str "/claim/cut.py" 238,.int 26 0,.int 3 0,.int 0 0,.int 0 0,.int 3 0,.ref 50,.bool true,.int 181 0,.ref 51,.none,.ref 52,.ref 53,.ref 54,.int 242 0,.int 26 0,.str "/claim/cut.py" 243]),
 (56,kF "__init__" "InconsistentResolutionOrderError.__init__" (clsStmt 5 0) (.str "zope.interface.ro" 194) none (.ref 55) (.none)),
 (57,kT [.str "C" 245,.str "base_tree_remaining" 246]),
 (58,kD P (.type "dict") 3 [kE "__module__" 231 (.str "zope.interface.ro" 194),kE "__firstlineno__" 235 (.int 24 234),kE "__init__" 244 (.ref 56),kE "__static_attributes__" 247 (.ref 57),kE "__weakref__" 249 (.ref 60),kE "__doc__" 250 (.none)]),
 (59,kK "InconsistentResolutionOrderError" [.type "TypeError"] [.ref 59,.type "TypeError",.type "Exception",.type "BaseException",.type "object"] 58 "InconsistentResolutionOrderError" [] [some (.ref 43),none,some (.str "InconsistentResolutionOrderError" 224),some (.str "InconsistentResolutionOrderError" 232),some (.builtin "TypeError.__new__"),some (.bool true)]),
 (60,kO "getset_descriptor" none [.str "__weakref__" 248,.ref 59,.builtin "ExceptionGroup.__weakref__",.none]),
 (75,kO "code" none [.str "__init__" 268,.str "_StaticMRO.__init__" 269,.str "/claim/cut.py" 270,.int 32 0,.int 3 0,.int 0 0,.int 0 0,.int 3 0,.ref 70,.bool true,.int 181 0,.ref 71,.none,.ref 72,.ref 73,.ref 74,.int 274 0,.int 32 0,.str "/claim/cut.py" 275]),
 (76,kF "__init__" "_StaticMRO.__init__" (clsStmt 6 1) (.str "zope.interface.ro" 194) none (.ref 75) (.none)),
 (82,kO "code" none [.str "mro" 277,.str "_StaticMRO.mro" 278,.str "/claim/cut.py" 279,.int 36 0,.int 1 0,.int 0 0,.int 0 0,.int 3 0,.ref 77,.bool true,.int 181 0,.ref 78,.none,.ref 79,.ref 80,.ref 81,.int 281 0,.int 36 0,.str "/claim/cut.py" 282]),
 (83,kF "mro" "_StaticMRO.mro" (clsStmt 6 2) (.str "zope.interface.ro" 194) none (.ref 82) (.none)),
 (84,kT [.str "_mro" 284,.str "leaf" 285]),
 (85,kD P (.type "dict") 4 [kE "__module__" 262 (.str "zope.interface.ro" 194),kE "__firstlineno__" 266 (.int 29 265),kE "had_inconsistency" 267 (.none),kE "__init__" 276 (.ref 76),kE "mro" 283 (.ref 83),kE "__static_attributes__" 286 (.ref 84),kE "__dict__" 288 (.ref 87),kE "__weakref__" 290 (.ref 88),kE "__doc__" 291 (.none)]),
 (86,kK "_StaticMRO" [.type "object"] [.ref 86,.type "object"] 85 "_StaticMRO" [] [none,none,some (.str "_StaticMRO" 255),some (.str "_StaticMRO" 263),some (.builtin "object.__new__"),some (.bool true)]),
 (87,kO "getset_descriptor" none [.str "__dict__" 287,.ref 86,.builtin "function.__dict__",.builtin "function.__dict__#set"]),
 (88,kO "getset_descriptor" none [.str "__weakref__" 289,.ref 86,.builtin "ExceptionGroup.__weakref__",.none]),
 (91,kT [.type "Exception"]),
 (98,kT []),
 (99,kD P (.type "dict") 3 [kE "__module__" 301 (.str "zope.interface.ro" 194),kE "__firstlineno__" 305 (.int 38 304),kE "__static_attributes__" 306 (.ref 98),kE "__weakref__" 308 (.ref 101),kE "__doc__" 309 (.none)]),
 (100,kK "_UseLegacyRO" [.type "Exception"] [.ref 100,.type "Exception",.type "BaseException",.type "object"] 99 "_UseLegacyRO" [] [some (.ref 91),none,some (.str "_UseLegacyRO" 294),some (.str "_UseLegacyRO" 302),some (.builtin "Exception.__new__"),some (.bool true)]),
 (101,kO "getset_descriptor" none [.str "__weakref__" 307,.ref 100,.builtin "ExceptionGroup.__weakref__",.none]),
 (116,kO "code" none [.str "resolver" 326,.str "C3.resolver" 327,.str "/claim/cut.py" 328,.int 42 0,.int 3 0,.int 0 0,.int 0 0,.int 3 0,.ref 111,.bool true,.int 181 0,.ref 112,.none,.ref 113,.ref 114,.ref 115,.int 335 0,.int 42 0,.str "/claim/cut.py" 336]),
 (117,kF "resolver" "C3.resolver" (clsStmt 8 0) (.str "zope.interface.ro" 194) (some 120) (.ref 116) (.none)),
 (118,kD P (.type "dict") 5 [kE "__module__" 338 (.str "zope.interface.ro" 194),kE "__name__" 341 (.str "resolver" 340),kE "__qualname__" 344 (.str "C3.resolver" 343),kE "__doc__" 346 (.none),kE "__annotations__" 348 (.ref 120)]),
 (119,kO "staticmethod" (some 118) [.ref 117,.bool false]),
 (120,kD P (.type "dict") 0 []),
 (124,kO "code" none [.str "__init__" 353,.str "C3.__init__" 354,.str "/claim/cut.py" 355,.int 57 0,.int 3 0,.int 0 0,.int 0 0,.int 3 0,.ref 121,.bool true,.int 181 0,.ref 122,.none,.none,.none,.ref 123,.int 356 0,.int 57 0,.str "/claim/cut.py" 357]),
 (125,kF "__init__" "C3.__init__" (clsStmt 8 4) (.str "zope.interface.ro" 194) none (.ref 124) (.none)),
 (131,kO "code" none [.str "_same_kind" 359,.str "C3._same_kind" 360,.str "/claim/cut.py" 361,.int 71 0,.int 3 0,.int 0 0,.int 0 0,.int 3 0,.ref 126,.bool true,.int 181 0,.ref 127,.none,.ref 128,.ref 129,.ref 130,.int 365 0,.int 71 0,.str "/claim/cut.py" 366]),
 (132,kF "_same_kind" "C3._same_kind" (clsStmt 8 5) (.str "zope.interface.ro" 194) none (.ref 131) (.none))]
noncomputable def kk1 (P:Ob):Frag:=[(138,kO "code" none [.str "had_inconsistency" 368,.str "C3.had_inconsistency" 369,.str "/claim/cut.py" 370,.int 74 0,.int 1 0,.int 0 0,.int 0 0,.int 3 0,.ref 133,.bool true,.int 181 0,.ref 134,.none,.ref 135,.ref 136,.ref 137,.int 372 0,.int 74 0,.str "/claim/cut.py" 373]),
 (139,kF "had_inconsistency" "C3.had_inconsistency" (clsStmt 8 6) (.str "zope.interface.ro" 194) none (.ref 138) (.none)),
 (140,kO "property" none [.ref 139,.none,.none,.none,.str "had_inconsistency" 375,.bool false]),
 (146,kO "code" none [.str "legacy_ro" 376,.str "C3.legacy_ro" 377,.str "/claim/cut.py" 378,.int 78 0,.int 1 0,.int 0 0,.int 0 0,.int 3 0,.ref 141,.bool true,.int 181 0,.ref 142,.none,.ref 143,.ref 144,.ref 145,.int 380 0,.int 78 0,.str "/claim/cut.py" 381]),
 (147,kF "legacy_ro" "C3.legacy_ro" (clsStmt 8 7) (.str "zope.interface.ro" 194) none (.ref 146) (.none)),
 (148,kO "property" none [.ref 147,.none,.none,.none,.str "legacy_ro" 383,.bool false]),
 (154,kO "code" none [.str "_can_choose_base" 384,.str "C3._can_choose_base" 385,.str "/claim/cut.py" 386,.int 84 0,.int 2 0,.int 0 0,.int 0 0,.int 3 0,.ref 149,.bool true,.int 181 0,.ref 150,.none,.ref 151,.ref 152,.ref 153,.int 391 0,.int 84 0,.str "/claim/cut.py" 392]),
 (155,kF "_can_choose_base" "C3._can_choose_base" (clsStmt 8 8) (.str "zope.interface.ro" 194) (some 158) (.ref 154) (.none)),
 (156,kD P (.type "dict") 5 [kE "__module__" 394 (.str "zope.interface.ro" 194),kE "__name__" 397 (.str "_can_choose_base" 396),kE "__qualname__" 400 (.str "C3._can_choose_base" 399),kE "__doc__" 402 (.none),kE "__annotations__" 404 (.ref 158)]),
 (157,kO "staticmethod" (some 156) [.ref 155,.bool false]),
 (158,kD P (.type "dict") 0 []),
 (162,kO "code" none [.str "_nonempty_bases_ignoring" 406,.str "C3._nonempty_bases_ignoring" 407,.str "/claim/cut.py" 408,.int 94 0,.int 2 0,.int 0 0,.int 0 0,.int 3 0,.ref 159,.bool true,.int 181 0,.ref 160,.none,.none,.none,.ref 161,.int 409 0,.int 94 0,.str "/claim/cut.py" 410]),
 (163,kF "_nonempty_bases_ignoring" "C3._nonempty_bases_ignoring" (clsStmt 8 9) (.str "zope.interface.ro" 194) (some 166) (.ref 162) (.none)),
 (164,kD P (.type "dict") 5 [kE "__module__" 412 (.str "zope.interface.ro" 194),kE "__name__" 415 (.str "_nonempty_bases_ignoring" 414),kE "__qualname__" 418 (.str "C3._nonempty_bases_ignoring" 417),kE "__doc__" 420 (.none),kE "__annotations__" 422 (.ref 166)]),
 (165,kO "staticmethod" (some 164) [.ref 163,.bool false]),
 (166,kD P (.type "dict") 0 []),
 (172,kO "code" none [.str "_choose_next_base" 424,.str "C3._choose_next_base" 425,.str "/claim/cut.py" 426,.int 98 0,.int 2 0,.int 0 0,.int 0 0,.int 3 0,.ref 167,.bool true,.int 181 0,.ref 168,.none,.ref 169,.ref 170,.ref 171,.int 430 0,.int 98 0,.str "/claim/cut.py" 431]),
 (173,kF "_choose_next_base" "C3._choose_next_base" (clsStmt 8 10) (.str "zope.interface.ro" 194) none (.ref 172) (.none)),
 (179,kO "code" none [.str "_find_next_C3_base" 433,.str "C3._find_next_C3_base" 434,.str "/claim/cut.py" 435,.int 104 0,.int 2 0,.int 0 0,.int 0 0,.int 3 0,.ref 174,.bool true,.int 181 0,.ref 175,.none,.ref 176,.ref 177,.ref 178,.int 440 0,.int 104 0,.str "/claim/cut.py" 441]),
 (180,kF "_find_next_C3_base" "C3._find_next_C3_base" (clsStmt 8 11) (.str "zope.interface.ro" 194) none (.ref 179) (.none)),
 (186,kO "code" none [.str "_guess_next_base" 443,.str "C3._guess_next_base" 444,.str "/claim/cut.py" 445,.int 111 0,.int 2 0,.int 0 0,.int 0 0,.int 3 0,.ref 181,.bool true,.int 181 0,.ref 182,.none,.ref 183,.ref 184,.ref 185,.int 448 0,.int 111 0,.str "/claim/cut.py" 449]),
 (187,kF "_guess_next_base" "C3._guess_next_base" (clsStmt 8 12) (.str "zope.interface.ro" 194) none (.ref 186) (.none)),
 (193,kO "code" none [.str "_merge" 451,.str "C3._merge" 452,.str "/claim/cut.py" 453,.int 115 0,.int 1 0,.int 0 0,.int 0 0,.int 3 0,.ref 188,.bool true,.int 181 0,.ref 189,.none,.ref 190,.ref 191,.ref 192,.int 458 0,.int 115 0,.str "/claim/cut.py" 459]),
 (194,kF "_merge" "C3._merge" (clsStmt 8 13) (.str "zope.interface.ro" 194) none (.ref 193) (.none)),
 (200,kO "code" none [.str "mro" 461,.str "C3.mro" 462,.str "/claim/cut.py" 463,.int 130 0,.int 1 0,.int 0 0,.int 0 0,.int 3 0,.ref 195,.bool true,.int 181 0,.ref 196,.none,.ref 197,.ref 198,.ref 199,.int 465 0,.int 130 0,.str "/claim/cut.py" 466]),
 (201,kF "mro" "C3.mro" (clsStmt 8 14) (.str "zope.interface.ro" 194) none (.ref 200) (.none)),
 (202,kT [.str "_mro" 468,.str "_own_legacy" 469,.str "base_tree" 470,.str "bases_had_inconsistency" 471,.str "direct_inconsistency" 472,.str "leaf" 473,.str "memo" 474]),
 (203,kD P (.type "dict") 4 [kE "__module__" 321 (.str "zope.interface.ro" 194),kE "__firstlineno__" 325 (.int 40 324),kE "resolver" 349 (.ref 119),kE "_mro" 350 (.none),kE "_own_legacy" 351 (.none),kE "direct_inconsistency" 352 (.bool false),kE "__init__" 358 (.ref 125),kE "_same_kind" 367 (.ref 132),kE "had_inconsistency" 375 (.ref 140),kE "legacy_ro" 383 (.ref 148),kE "_can_choose_base" 405 (.ref 157),kE "_nonempty_bases_ignoring" 423 (.ref 165),kE "_choose_next_base" 432 (.ref 173),kE "_find_next_C3_base" 442 (.ref 180),kE "_guess_next_base" 450 (.ref 187),kE "_merge" 460 (.ref 194),kE "mro" 467 (.ref 201),kE "__static_attributes__" 475 (.ref 202),kE "__dict__" 477 (.ref 205),kE "__weakref__" 479 (.ref 206),kE "__doc__" 480 (.none)]),
 (204,kK "C3" [.type "object"] [.ref 204,.type "object"] 203 "C3" [.ref 232] [none,none,some (.str "C3" 314),some (.str "C3" 322),some (.builtin "object.__new__"),some (.bool true)]),
 (205,kO "getset_descriptor" none [.str "__dict__" 476,.ref 204,.builtin "function.__dict__",.builtin "function.__dict__#set"]),
 (206,kO "getset_descriptor" none [.str "__weakref__" 478,.ref 204,.builtin "ExceptionGroup.__weakref__",.none]),
 (209,kT [.ref 204]),
 (221,kO "code" none [.str "_same_kind" 495,.str "_StrictC3._same_kind" 496,.str "/claim/cut.py" 497,.int 136 0,.int 3 0,.int 0 0,.int 0 0,.int 3 0,.ref 216,.bool true,.int 181 0,.ref 217,.none,.ref 218,.ref 219,.ref 220,.int 501 0,.int 136 0,.str "/claim/cut.py" 502]),
 (222,kF "_same_kind" "_StrictC3._same_kind" (clsStmt 9 0) (.str "zope.interface.ro" 194) none (.ref 221) (.none)),
 (228,kO "code" none [.str "_guess_next_base" 504,.str "_StrictC3._guess_next_base" 505,.str "/claim/cut.py" 506,.int 139 0,.int 2 0,.int 0 0,.int 0 0,.int 3 0,.ref 223,.bool true,.int 181 0,.ref 224,.none,.ref 225,.ref 226,.ref 227,.int 509 0,.int 139 0,.str "/claim/cut.py" 510]),
 (229,kF "_guess_next_base" "_StrictC3._guess_next_base" (clsStmt 9 1) (.str "zope.interface.ro" 194) none (.ref 228) (.none)),
 (230,kT []),
 (231,kD P (.type "dict") 2 [kE "__module__" 490 (.str "zope.interface.ro" 194),kE "__firstlineno__" 494 (.int 134 493),kE "_same_kind" 503 (.ref 222),kE "_guess_next_base" 511 (.ref 229),kE "__static_attributes__" 512 (.ref 230),kE "__doc__" 513 (.none)]),
 (232,kK "_StrictC3" [.ref 204] [.ref 232,.ref 204,.type "object"] 231 "_StrictC3" [] [some (.ref 209),none,some (.str "_StrictC3" 483),some (.str "_StrictC3" 491),some (.builtin "object.__new__"),some (.bool true)]),
 (235,kT [.none,.none,.none,.none])]
noncomputable def kk2 (P:Ob):Frag:=[(241,kO "code" none [.str "ro" 516,.str "ro" 517,.str "/claim/cut.py" 518,.int 141 0,.int 5 0,.int 0 0,.int 0 0,.int 3 0,.ref 236,.bool true,.int 181 0,.ref 237,.none,.ref 238,.ref 239,.ref 240,.int 527 0,.int 141 0,.str "/claim/cut.py" 528]),
 (242,kF "ro" "ro" (topStmt 10) (.str "zope.interface.ro" 194) none (.ref 241) (.ref 235)),
 (255,kO "code" none [.str "isOrExtends" 544,.str "SpecificationBase.isOrExtends" 545,.str "/claim/cut.py" 546,.int 151 0,.int 2 0,.int 0 0,.int 0 0,.int 3 0,.ref 250,.bool true,.int 181 0,.ref 251,.none,.ref 252,.ref 253,.ref 254,.int 549 0,.int 151 0,.str "/claim/cut.py" 550]),
 (256,kF "isOrExtends" "SpecificationBase.isOrExtends" (clsStmt 12 0) (.str "zope.interface.interface" 530) none (.ref 255) (.none)),
 (257,kT []),
 (258,kD P (.type "dict") 4 [kE "__module__" 539 (.str "zope.interface.interface" 530),kE "__firstlineno__" 543 (.int 149 542),kE "isOrExtends" 551 (.ref 256),kE "__static_attributes__" 552 (.ref 257),kE "__dict__" 554 (.ref 260),kE "__weakref__" 556 (.ref 261),kE "__doc__" 557 (.none)]),
 (259,kK "SpecificationBase" [.type "object"] [.ref 259,.type "object"] 258 "SpecificationBase" [.ref 336] [none,none,some (.str "SpecificationBase" 532),some (.str "SpecificationBase" 540),some (.builtin "object.__new__"),some (.bool true)]),
 (260,kO "getset_descriptor" none [.str "__dict__" 553,.ref 259,.builtin "function.__dict__",.builtin "function.__dict__#set"]),
 (261,kO "getset_descriptor" none [.str "__weakref__" 555,.ref 259,.builtin "ExceptionGroup.__weakref__",.none]),
 (264,kT [.ref 259]),
 (271,kT []),
 (272,kT [.ref 271,.none]),
 (278,kO "code" none [.str "__init__" 572,.str "Specification.__init__" 573,.str "/claim/cut.py" 574,.int 155 0,.int 4 0,.int 0 0,.int 0 0,.int 3 0,.ref 273,.bool true,.int 181 0,.ref 274,.none,.ref 275,.ref 276,.ref 277,.int 579 0,.int 155 0,.str "/claim/cut.py" 580]),
 (279,kF "__init__" "Specification.__init__" (clsStmt 13 0) (.str "zope.interface.interface" 530) none (.ref 278) (.ref 272)),
 (285,kO "code" none [.str "dependents" 582,.str "Specification.dependents" 583,.str "/claim/cut.py" 584,.int 165 0,.int 1 0,.int 0 0,.int 0 0,.int 3 0,.ref 280,.bool true,.int 181 0,.ref 281,.none,.ref 282,.ref 283,.ref 284,.int 586 0,.int 165 0,.str "/claim/cut.py" 587]),
 (286,kF "dependents" "Specification.dependents" (clsStmt 13 1) (.str "zope.interface.interface" 530) none (.ref 285) (.none)),
 (287,kO "property" none [.ref 286,.none,.none,.none,.str "dependents" 589,.bool false]),
 (293,kO "code" none [.str "subscribe" 590,.str "Specification.subscribe" 591,.str "/claim/cut.py" 592,.int 169 0,.int 2 0,.int 0 0,.int 0 0,.int 3 0,.ref 288,.bool true,.int 181 0,.ref 289,.none,.ref 290,.ref 291,.ref 292,.int 595 0,.int 169 0,.str "/claim/cut.py" 596]),
 (294,kF "subscribe" "Specification.subscribe" (clsStmt 13 2) (.str "zope.interface.interface" 530) none (.ref 293) (.none)),
 (300,kO "code" none [.str "unsubscribe" 598,.str "Specification.unsubscribe" 599,.str "/claim/cut.py" 600,.int 172 0,.int 2 0,.int 0 0,.int 0 0,.int 3 0,.ref 295,.bool true,.int 181 0,.ref 296,.none,.ref 297,.ref 298,.ref 299,.int 604 0,.int 172 0,.str "/claim/cut.py" 605]),
 (301,kF "unsubscribe" "Specification.unsubscribe" (clsStmt 13 3) (.str "zope.interface.interface" 530) none (.ref 300) (.none)),
 (307,kO "code" none [.str "setBases" 607,.str "Specification.setBases" 608,.str "/claim/cut.py" 609,.int 181 0,.int 2 0,.int 0 0,.int 0 0,.int 3 0,.ref 302,.bool true,.int 181 0,.ref 303,.none,.ref 304,.ref 305,.ref 306,.int 613 0,.int 181 0,.str "/claim/cut.py" 614]),
 (308,kF "setBases" "Specification.setBases" (clsStmt 13 4) (.str "zope.interface.interface" 530) none (.ref 307) (.none)),
 (312,kO "code" none [.str "_calculate_sro" 616,.str "Specification._calculate_sro" 617,.str "/claim/cut.py" 618,.int 189 0,.int 1 0,.int 0 0,.int 0 0,.int 3 0,.ref 309,.bool true,.int 181 0,.ref 310,.none,.none,.none,.ref 311,.int 619 0,.int 189 0,.str "/claim/cut.py" 620]),
 (313,kF "_calculate_sro" "Specification._calculate_sro" (clsStmt 13 5) (.str "zope.interface.interface" 530) none (.ref 312) (.none)),
 (317,kO "code" none [.str "changed" 622,.str "Specification.changed" 623,.str "/claim/cut.py" 624,.int 197 0,.int 2 0,.int 0 0,.int 0 0,.int 3 0,.ref 314,.bool true,.int 181 0,.ref 315,.none,.none,.none,.ref 316,.int 625 0,.int 197 0,.str "/claim/cut.py" 626]),
 (318,kF "changed" "Specification.changed" (clsStmt 13 6) (.str "zope.interface.interface" 530) none (.ref 317) (.none)),
 (324,kO "code" none [.str "interfaces" 628,.str "Specification.interfaces" 629,.str "/claim/cut.py" 630,.int 208 0,.int 1 0,.int 0 0,.int 0 0,.int 35 0,.ref 319,.bool true,.int 181 0,.ref 320,.none,.ref 321,.ref 322,.ref 323,.int 635 0,.int 208 0,.str "/claim/cut.py" 636]),
 (325,kF "interfaces" "Specification.interfaces" (clsStmt 13 7) (.str "zope.interface.interface" 530) none (.ref 324) (.none)),
 (326,kT [.bool true]),
 (332,kO "code" none [.str "extends" 638,.str "Specification.extends" 639,.str "/claim/cut.py" 640,.int 216 0,.int 3 0,.int 0 0,.int 0 0,.int 3 0,.ref 327,.bool true,.int 181 0,.ref 328,.none,.ref 329,.ref 330,.ref 331,.int 644 0,.int 216 0,.str "/claim/cut.py" 645]),
 (333,kF "extends" "Specification.extends" (clsStmt 13 8) (.str "zope.interface.interface" 530) none (.ref 332) (.ref 326)),
 (334,kT [.str "_ROOT" 647,.str "_dependents" 648,.str "_implied" 649,.str "bases" 650,.str "iro" 651,.str "key" 652,.str "sro" 653]),
 (335,kD P (.type "dict") 2 [kE "__module__" 567 (.str "zope.interface.interface" 530),kE "__firstlineno__" 571 (.int 153 570),kE "__init__" 581 (.ref 279),kE "dependents" 589 (.ref 287),kE "subscribe" 597 (.ref 294),kE "unsubscribe" 606 (.ref 301),kE "setBases" 615 (.ref 308),kE "_calculate_sro" 621 (.ref 313),kE "changed" 627 (.ref 318),kE "interfaces" 637 (.ref 325),kE "extends" 646 (.ref 333),kE "__static_attributes__" 654 (.ref 334),kE "__doc__" 655 (.none)]),
 (336,kK "Specification" [.ref 259] [.ref 336,.ref 259,.type "object"] 335 "Specification" [.ref 364,.ref 414] [some (.ref 264),none,some (.str "Specification" 560),some (.str "Specification" 568),some (.builtin "object.__new__"),some (.bool true)]),
 (339,kT [.ref 336]),
 (346,kT []),
 (347,kT [.ref 346,.none]),
 (353,kO "code" none [.str "__init__" 670,.str "InterfaceClass.__init__" 671,.str "/claim/cut.py" 672,.int 220 0,.int 4 0,.int 0 0,.int 0 0,.int 3 0,.ref 348,.bool true,.int 181 0,.ref 349,.none,.ref 350,.ref 351,.ref 352,.int 677 0,.int 220 0,.str "/claim/cut.py" 678]),
 (354,kF "__init__" "InterfaceClass.__init__" (clsStmt 14 0) (.str "zope.interface.interface" 530) none (.ref 353) (.ref 347))]
noncomputable def kk3 (P:Ob):Frag:=[(360,kO "code" none [.str "interfaces" 680,.str "InterfaceClass.interfaces" 681,.str "/claim/cut.py" 682,.int 225 0,.int 1 0,.int 0 0,.int 0 0,.int 35 0,.ref 355,.bool true,.int 181 0,.ref 356,.none,.ref 357,.ref 358,.ref 359,.int 684 0,.int 225 0,.str "/claim/cut.py" 685]),
 (361,kF "interfaces" "InterfaceClass.interfaces" (clsStmt 14 1) (.str "zope.interface.interface" 530) none (.ref 360) (.none)),
 (362,kT []),
 (363,kD P (.type "dict") 2 [kE "__module__" 665 (.str "zope.interface.interface" 530),kE "__firstlineno__" 669 (.int 218 668),kE "__init__" 679 (.ref 354),kE "interfaces" 686 (.ref 361),kE "__static_attributes__" 687 (.ref 362),kE "__doc__" 688 (.none)]),
 (364,kK "InterfaceClass" [.ref 336] [.ref 364,.ref 336,.ref 259,.type "object"] 363 "InterfaceClass" [] [some (.ref 339),none,some (.str "InterfaceClass" 658),some (.str "InterfaceClass" 666),some (.builtin "object.__new__"),some (.bool true)]),
 (367,kT [.ref 336]),
 (374,kT []),
 (375,kT [.ref 374,.none]),
 (381,kO "code" none [.str "__init__" 705,.str "Declaration.__init__" 706,.str "/claim/cut.py" 707,.int 230 0,.int 4 0,.int 0 0,.int 0 0,.int 3 0,.ref 376,.bool true,.int 181 0,.ref 377,.none,.ref 378,.ref 379,.ref 380,.int 712 0,.int 230 0,.str "/claim/cut.py" 713]),
 (382,kF "__init__" "Declaration.__init__" (clsStmt 16 0) (.str "zope.interface.declarations" 691) none (.ref 381) (.ref 375)),
 (386,kO "code" none [.str "__contains__" 715,.str "Declaration.__contains__" 716,.str "/claim/cut.py" 717,.int 233 0,.int 2 0,.int 0 0,.int 0 0,.int 3 0,.ref 383,.bool true,.int 181 0,.ref 384,.none,.none,.none,.ref 385,.int 718 0,.int 233 0,.str "/claim/cut.py" 719]),
 (387,kF "__contains__" "Declaration.__contains__" (clsStmt 16 1) (.str "zope.interface.declarations" 691) none (.ref 386) (.none)),
 (393,kO "code" none [.str "__iter__" 721,.str "Declaration.__iter__" 722,.str "/claim/cut.py" 723,.int 236 0,.int 1 0,.int 0 0,.int 0 0,.int 3 0,.ref 388,.bool true,.int 181 0,.ref 389,.none,.ref 390,.ref 391,.ref 392,.int 725 0,.int 236 0,.str "/claim/cut.py" 726]),
 (394,kF "__iter__" "Declaration.__iter__" (clsStmt 16 2) (.str "zope.interface.declarations" 691) none (.ref 393) (.none)),
 (400,kO "code" none [.str "flattened" 728,.str "Declaration.flattened" 729,.str "/claim/cut.py" 730,.int 239 0,.int 1 0,.int 0 0,.int 0 0,.int 3 0,.ref 395,.bool true,.int 181 0,.ref 396,.none,.ref 397,.ref 398,.ref 399,.int 732 0,.int 239 0,.str "/claim/cut.py" 733]),
 (401,kF "flattened" "Declaration.flattened" (clsStmt 16 3) (.str "zope.interface.declarations" 691) none (.ref 400) (.none)),
 (405,kO "code" none [.str "__sub__" 735,.str "Declaration.__sub__" 736,.str "/claim/cut.py" 737,.int 242 0,.int 2 0,.int 0 0,.int 0 0,.int 3 0,.ref 402,.bool true,.int 181 0,.ref 403,.none,.none,.none,.ref 404,.int 738 0,.int 242 0,.str "/claim/cut.py" 739]),
 (406,kF "__sub__" "Declaration.__sub__" (clsStmt 16 4) (.str "zope.interface.declarations" 691) none (.ref 405) (.none)),
 (410,kO "code" none [.str "__add__" 741,.str "Declaration.__add__" 742,.str "/claim/cut.py" 743,.int 245 0,.int 2 0,.int 0 0,.int 0 0,.int 3 0,.ref 407,.bool true,.int 181 0,.ref 408,.none,.none,.none,.ref 409,.int 744 0,.int 245 0,.str "/claim/cut.py" 745]),
 (411,kF "__add__" "Declaration.__add__" (clsStmt 16 5) (.str "zope.interface.declarations" 691) none (.ref 410) (.none)),
 (412,kT []),
 (413,kD P (.type "dict") 2 [kE "__module__" 700 (.str "zope.interface.declarations" 691),kE "__firstlineno__" 704 (.int 228 703),kE "__init__" 714 (.ref 382),kE "__contains__" 720 (.ref 387),kE "__iter__" 727 (.ref 394),kE "flattened" 734 (.ref 401),kE "__sub__" 740 (.ref 406),kE "__add__" 746 (.ref 411),kE "__static_attributes__" 747 (.ref 412),kE "__doc__" 748 (.none)]),
 (414,kK "Declaration" [.ref 336] [.ref 414,.ref 336,.ref 259,.type "object"] 413 "Declaration" [.ref 427] [some (.ref 367),none,some (.str "Declaration" 693),some (.str "Declaration" 701),some (.builtin "object.__new__"),some (.bool true)]),
 (417,kT [.ref 414]),
 (424,kT []),
 (425,kT []),
 (426,kD P (.type "dict") 2 [kE "__module__" 758 (.str "zope.interface.declarations" 691),kE "__firstlineno__" 762 (.int 258 761),kE "inherit" 763 (.none),kE "declared" 764 (.ref 424),kE "__static_attributes__" 765 (.ref 425),kE "__doc__" 766 (.none)]),
 (427,kK "Implements" [.ref 414] [.ref 427,.ref 414,.ref 336,.ref 259,.type "object"] 426 "Implements" [] [some (.ref 417),none,some (.str "Implements" 751),some (.str "Implements" 759),some (.builtin "object.__new__"),some (.bool true)]),
 (435,kO "code" none [.str "classImplementsOnly" 769,.str "classImplementsOnly" 770,.str "/claim/cut.py" 771,.int 261 0,.int 1 0,.int 0 0,.int 0 0,.int 7 0,.ref 430,.bool true,.int 181 0,.ref 431,.none,.ref 432,.ref 433,.ref 434,.int 775 0,.int 261 0,.str "/claim/cut.py" 776]),
 (436,kF "classImplementsOnly" "classImplementsOnly" (topStmt 18) (.str "zope.interface.declarations" 691) none (.ref 435) (.none)),
 (442,kO "code" none [.str "classImplements" 778,.str "classImplements" 779,.str "/claim/cut.py" 780,.int 267 0,.int 1 0,.int 0 0,.int 0 0,.int 7 0,.ref 437,.bool true,.int 181 0,.ref 438,.none,.ref 439,.ref 440,.ref 441,.int 788 0,.int 267 0,.str "/claim/cut.py" 789]),
 (443,kF "classImplements" "classImplements" (topStmt 19) (.str "zope.interface.declarations" 691) none (.ref 442) (.none)),
 (449,kO "code" none [.str "classImplementsFirst" 791,.str "classImplementsFirst" 792,.str "/claim/cut.py" 793,.int 280 0,.int 2 0,.int 0 0,.int 0 0,.int 3 0,.ref 444,.bool true,.int 181 0,.ref 445,.none,.ref 446,.ref 447,.ref 448,.int 797 0,.int 280 0,.str "/claim/cut.py" 798]),
 (450,kF "classImplementsFirst" "classImplementsFirst" (topStmt 20) (.str "zope.interface.declarations" 691) none (.ref 449) (.none)),
 (451,kT []),
 (452,kT []),
 (453,kT [.ref 451,.ref 452]),
 (457,kO "code" none [.str "_classImplements_ordered" 800,.str "_classImplements_ordered" 801,.str "/claim/cut.py" 802,.int 283 0,.int 3 0,.int 0 0,.int 0 0,.int 3 0,.ref 454,.bool true,.int 181 0,.ref 455,.none,.none,.none,.ref 456,.int 803 0,.int 283 0,.str "/claim/cut.py" 804]),
 (458,kF "_classImplements_ordered" "_classImplements_ordered" (topStmt 21) (.str "zope.interface.declarations" 691) none (.ref 457) (.ref 453)),
 (459,kT [.none])]
noncomputable def kk4 (P:Ob):Frag:=[(465,kO "code" none [.str "_normalizeargs" 806,.str "_normalizeargs" 807,.str "/claim/cut.py" 808,.int 301 0,.int 2 0,.int 0 0,.int 0 0,.int 3 0,.ref 460,.bool true,.int 181 0,.ref 461,.none,.ref 462,.ref 463,.ref 464,.int 812 0,.int 301 0,.str "/claim/cut.py" 813]),
 (466,kF "_normalizeargs" "_normalizeargs" (topStmt 22) (.str "zope.interface.declarations" 691) none (.ref 465) (.ref 459)),
 (472,kO "code" none [.str "_law_once" 817,.str "_law_once" 818,.str "/claim/cut.py" 819,.int 311 0,.int 1 0,.int 0 0,.int 0 0,.int 3 0,.ref 467,.bool true,.int 181 0,.ref 468,.none,.ref 469,.ref 470,.ref 471,.int 823 0,.int 311 0,.str "/claim/cut.py" 824]),
 (473,kF "_law_once" "_law_once" (topStmt 24) (.str "law_jp0056_01" 815) none (.ref 472) (.none)),
 (477,kO "code" none [.str "_law_implied" 826,.str "_law_implied" 827,.str "/claim/cut.py" 828,.int 317 0,.int 2 0,.int 0 0,.int 0 0,.int 3 0,.ref 474,.bool true,.int 181 0,.ref 475,.none,.none,.none,.ref 476,.int 829 0,.int 317 0,.str "/claim/cut.py" 830]),
 (478,kF "_law_implied" "_law_implied" (topStmt 25) (.str "law_jp0056_01" 815) none (.ref 477) (.none)),
 (484,kO "code" none [.str "_law_near" 832,.str "_law_near" 833,.str "/claim/cut.py" 834,.int 322 0,.int 2 0,.int 0 0,.int 0 0,.int 3 0,.ref 479,.bool true,.int 181 0,.ref 480,.none,.ref 481,.ref 482,.ref 483,.int 839 0,.int 322 0,.str "/claim/cut.py" 840]),
 (485,kF "_law_near" "_law_near" (topStmt 26) (.str "law_jp0056_01" 815) none (.ref 484) (.none)),
 (489,kO "code" none [.str "_law_declare" 842,.str "_law_declare" 843,.str "/claim/cut.py" 844,.int 327 0,.int 4 0,.int 0 0,.int 0 0,.int 3 0,.ref 486,.bool true,.int 181 0,.ref 487,.none,.none,.none,.ref 488,.int 845 0,.int 327 0,.str "/claim/cut.py" 846]),
 (490,kF "_law_declare" "_law_declare" (topStmt 27) (.str "law_jp0056_01" 815) none (.ref 489) (.none)),
 (494,kO "code" none [.str "_law_numbers" 848,.str "_law_numbers" 849,.str "/claim/cut.py" 850,.int 337 0,.int 2 0,.int 0 0,.int 0 0,.int 3 0,.ref 491,.bool true,.int 181 0,.ref 492,.none,.none,.none,.ref 493,.int 851 0,.int 337 0,.str "/claim/cut.py" 852]),
 (495,kF "_law_numbers" "_law_numbers" (topStmt 28) (.str "law_jp0056_01" 815) none (.ref 494) (.none)),
 (499,kO "code" none [.str "_law_stands" 854,.str "_law_stands" 855,.str "/claim/cut.py" 856,.int 340 0,.int 2 0,.int 0 0,.int 0 0,.int 3 0,.ref 496,.bool true,.int 181 0,.ref 497,.none,.none,.none,.ref 498,.int 857 0,.int 340 0,.str "/claim/cut.py" 858]),
 (500,kF "_law_stands" "_law_stands" (topStmt 29) (.str "law_jp0056_01" 815) none (.ref 499) (.none)),
 (506,kO "code" none [.str "_law_told" 860,.str "_law_told" 861,.str "/claim/cut.py" 862,.int 354 0,.int 4 0,.int 0 0,.int 0 0,.int 3 0,.ref 501,.bool true,.int 181 0,.ref 502,.none,.ref 503,.ref 504,.ref 505,.int 867 0,.int 354 0,.str "/claim/cut.py" 868]),
 (507,kF "_law_told" "_law_told" (topStmt 30) (.str "law_jp0056_01" 815) none (.ref 506) (.none)),
 (511,kO "code" none [.str "law" 870,.str "law" 871,.str "/claim/cut.py" 872,.int 371 0,.int 1 0,.int 0 0,.int 0 0,.int 3 0,.ref 508,.bool true,.int 181 0,.ref 509,.none,.none,.none,.ref 510,.int 873 0,.int 371 0,.str "/claim/cut.py" 874]),
 (512,kF "law" "law" (topStmt 31) (.str "law_jp0056_01" 815) none (.ref 511) (.none))]
noncomputable def KK (P:Ob):Frag:=kk0 P++kk1 P++kk2 P++kk3 P++kk4 P
noncomputable def asK:List Ak:=[2,3,20,21,27,28,34,35,41,42,43,55,56,57,58,59,60,75,76,82,83,84,85,86,87,88,91,98,99,100,101,116,117,118,119,120,124,125,131,132,138,139,140,146,147,148,154,155,156,157,158,162,163,164,165,166,172,173,179,180,186,187,193,194,200,201,202,203,204,205,206,209,221,222,228,229,230,231,232,235,241,242,255,256,257,258,259,260,261,264,271,272,278,279,285,286,287,293,294,300,301,307,308,312,313,317,318,324,325,326,332,333,334,335,336,339,346,347,353,354,360,361,362,363,364,367,374,375,381,382,386,387,393,394,400,401,405,406,410,411,412,413,414,417,424,425,426,427,435,436,442,443,449,450,451,452,453,457,458,459,465,466,472,473,477,478,484,485,489,490,494,495,499,500,506,507,511,512]
noncomputable def bodyB (pg:Jf):List Jr:=behindTheImports pg
noncomputable def envB (pg:Jf):Env:={scope:=pg.main.scope,locals:=mainNs,globals:=mainNs,cells:=[],code:=.ref 13,frame:=some 14}
noncomputable def cB (pg:Jf):Code:=.body (bodyB pg) (envB pg)
noncomputable def pos0:Pos:=⟨0,0,0,0⟩
noncomputable def mkT (l:List Obj):BT:=(l.zipIdx).foldl (λt p=>t.ins p.2 p.1) .nil
noncomputable def objs0 (P:Ob):List Obj:=[boot_o_0 P,boot_o_1 P,boot_o_2 P,boot_o_3 P,boot_o_4 P,boot_o_5 P,boot_o_6 P,boot_o_7 P,boot_o_8 P,boot_o_9 P,boot_o_10 P,
 ⟨.type "tuple",none,.seq #[] 0,#[]⟩,⟨.none,none,.fields #[],#[]⟩,
 ⟨.type "code",none,.fields #[.str "<module>" 182,.str "<module>" 183,.str "/claim/cut.py" 184,.int 1 0,.int 0 0,.int 0 0,.int 0 0,.int 0 0,.ref 11,.bool false,.int 181 0,.ref 12,.none,.none,.none,.none,.int 185 0,.int 1 0,.str "/claim/cut.py" 186],#[]⟩,
 ⟨.type "frame",none,.plain,#[some (.ref 13),some (.ref 3),some (.ref 3),none,some (.str "__main__" 164),none,some (.ref 0)]⟩]
noncomputable def Sb (w:Oa) (os:OsState):SharedT:=⟨mkT (objs0 w.params),15,{},#[],{},187,os⟩
noncomputable def runB (pg:Jf) (S0:Oa->OsState->SharedT) (w:Oa) (os:OsState):Option (Fv×SharedT×Code×Pos):=segRunT Lp pg w 11 (some (.ref 6)) 1 4600 (S0 w os) (piecesOf (bodyB pg) (envB pg) (cB pg) pos0 [topFrame pos0])
noncomputable def looseB:List Str:=["_wall","_legacy_mergeOrderings","_legacy_flatten","_legacy_ro","InconsistentResolutionOrderError","_StaticMRO","_UseLegacyRO","C3","_StrictC3","ro","SpecificationBase","Specification","InterfaceClass","Declaration","Implements","classImplementsOnly","classImplements","classImplementsFirst","_classImplements_ordered","_normalizeargs","_law_once","_law_implied","_law_near","_law_declare","_law_numbers","_law_stands","_law_told"]
noncomputable def qB (pg:Jf):Jf:={pg with main:={pg.main with body:=(pg.main.body.drop 31).take 1}}
noncomputable def preB (pg:Jf) (h0:Ob->Heap) (w:Oa) (os:OsState):Option (Ba×Thread):=topGo Lp pg w 11 (some (.ref 6)) 12 ⟨h0 w.params,Array.mk [],boot_drawn,boot_toks,os⟩ (topStub pg)
noncomputable def obsB (s:Ba):List (Option Obj)×List (Option Obj):=(asK.map s.heap.get?,[122,349].map s.heap.get?)
noncomputable def valB (K:Ob->Frag) (w:Oa):List (Option Obj)×List (Option Obj):=((K w.params).map λp=>some p.2,[122,349].map λ_=>some (tabObj #[]))
noncomputable def seenB (pg:Jf) (h0:Ob->Heap) (w:Oa) (s:Ba):=((staticsOk (Ml pg.main.body) (h0 w.params) s.heap&&namesBound pg s.heap&&gensDone s&&laidKept (h0 w.params) s.heap),openSeen (qB pg) looseB (Ml pg.main.body) (λs=>xlAt (qB pg) [] s&&recOk [] s) true s,obsB s)
noncomputable def allBG (pg:Jf) (S0:Oa->OsState->SharedT) (h0:Ob->Heap) (w:Oa) (os:OsState):=(runB pg S0 w os).map λx=>(x.1,x.2.2.1,x.2.2.2,seenB pg h0 w x.2.1.abs)
noncomputable def goodBG (pg:Jf) (K:Ob->Frag) (w:Oa) (os:OsState):=some (Fv.next,cB pg,(⟨371,0,403,15⟩:Pos),true,openGood (qB pg) looseB,valB K w)
end Mine
lay_quick Mine.allBG
namespace Mine
theorem all_eqG:∀w os,allBG PySem.Challenge.pw_jp0056_01 Sb Nv w os=goodBG PySem.Challenge.pw_jp0056_01 KK w os:=λw os=>(congrFun (congrFun (congrFun (congrFun (congrFun PySem.W.Fast.te30188487565981259 PySem.Challenge.pw_jp0056_01) Sb) Nv) w) os).trans (by kernel_rfl)
noncomputable abbrev pwB:Jf:=PySem.Challenge.pw_jp0056_01
theorem pre_eq:∀w os,preB pwB Nv w os=some ((Sb w os).abs,⟨denote Lp (cB pwB),cB pwB,pos0,[topFrame pos0]⟩):=λw os=>by kernel_rfl
theorem block_eq:∀w os,segRun Lp pwB w 11 (some (.ref 6)) 1 1 (Sb w os).abs (blockOf (bodyB pwB) (envB pwB) (cB pwB) pos0 [topFrame pos0])=some (.next,(Sb w os).abs,cB pwB,pos0):=λw os=>by kernel_rfl
theorem done_eq (w:Oa) (s:SharedT) (c:Code) (p:Pos):topRun Lp pwB w 11 (some (.ref 6)) 3 s.abs ⟨doneF .next,c,p,[topFrame pos0]⟩=some s.abs:=by kernel_rfl
theorem size_eq:∀w:Oa,((Nv w.params).isNs Gx&&(Array.mk []:Array Ju).size==0,(Nv w.params).objs.size,(Nv w.params).nsMap Gx "__annotations__")=(true,11,some (.ref 6)):=λw=>by kernel_rfl
theorem open_eq:∀w:Oa,(fencedOpening Lp pwB w 8966).map (λs=>(s.heap,s.gens,s.drawn,s.toks))=some (Nv w.params,Array.mk [],boot_drawn,boot_toks):=boot_open (by kernel_rfl) (by kernel_rfl) (λs=>by kernel_rfl)
noncomputable abbrev xtB (s:Ba):Bool:=xlAt (qB pwB) [] s&&recOk [] s
theorem end_eq (w:Oa) (os:OsState):∃s:Ba,topRun Lp pwB w 11 (some (.ref 6)) 4616 ⟨Nv w.params,Array.mk [],boot_drawn,boot_toks,os⟩ (topStub pwB)=some s/\
  (staticsOk (Ml pwB.main.body) (Nv w.params) s.heap&&namesBound pwB s.heap&&gensDone s&&laidKept (Nv w.params) s.heap)=true/\openSeen (qB pwB) looseB (Ml pwB.main.body) xtB true s=openGood (qB pwB) looseB/\obsB s=valB KK w:=by
 obtain⟨⟨f,s,c,p⟩,e1,e2⟩:=Cw.mp (all_eqG w os)
 have e3:f=.next:=congrArg (·.1) e2
 have e4:c=cB pwB:=congrArg (·.2.1) e2
 have e6:=congrArg (·.2.2.2.1) e2
 have e7:=congrArg (·.2.2.2.2.1) e2
 have e8:=congrArg (·.2.2.2.2.2) e2
 subst e3
 subst e4
 have a1:=piece_app (rest:=[]) (segRun_of e1) (piece_nil (done_eq w s _ p))
 rw [Cj]at a1
 exact⟨s.abs,go_top (pre_eq w os) (piece_block (block_eq w os) a1),e6,e7,e8⟩
theorem left_of {p q:Jf} {loose:List Str} {Xt:Ba->Bool} {α:Type} {Yf:Ba->α} {Ya:Oa->α} {N M m:Nat} {ann:Option Ab} {H:Ob->Heap} {gs:Array Ju} {d:Drawn} {k:Nat}
  (ho:∀w:Oa,(fencedOpening Lp p w N).map (λs=>(s.heap,s.gens,s.drawn,s.toks))=some (H w.params,gs,d,k))
  (hz:∀w:Oa,((H w.params).isNs Gx&&gs.size==0,(H w.params).objs.size,(H w.params).nsMap Gx "__annotations__")=(true,m,ann)) (le:M<=N)
  (he:∀w os,∃s:Ba,topRun Lp p w m ann M ⟨H w.params,gs,d,k,os⟩ (topStub p)=some s/\(staticsOk (Ml p.main.body) (H w.params) s.heap&&namesBound p s.heap&&gensDone s&&laidKept (H w.params) s.heap)=true/\
   openSeen q loose (Ml p.main.body) Xt true s=openGood q loose/\Yf s=Ya w):LeftO p q loose Xt Yf Ya N:=λw=>by
 obtain⟨⟨h,gs',d',k',os⟩,e,e'⟩:=Cw.mp (ho w)
 simp only [Prod.mk.injEq]at e'
 obtain⟨rfl,rfl,rfl,rfl⟩:=e'
 have z:=hz w
 simp only [Prod.mk.injEq]at z
 obtain⟨s,hr,h1,h2,h3⟩:=he w os
 have r:=topRun_mono (N - M) _ _ _ _ hr
 rw [Nat.add_sub_cancel' le]at r
 have t:topFrom Lp p w N ⟨H w.params,gs',d',k',os⟩=some s:=by
  unfold topFrom
  dsimp only
  rw [z.1,z.2.1,z.2.2,r]
  dsimp only [Lw]
  rw [h1]
 show(((fencedOpening Lp p w N).bind (topFrom Lp p w N)).map _)=_
 rw [e,Lw,t]
 exact congrArg some (Prod.ext h2 h3)
theorem leftB:LeftO pwB (qB pwB) looseB xtB obsB (valB KK) 8966:=left_of open_eq size_eq (by decide) end_eq
noncomputable def wellB (l:OpenLaw):Bool:=l.wellSaid
end Mine
lay_quick Mine.wellB
namespace Mine
theorem well_eq:PySem.Challenge.rw_jp0056_01.wellSaid=true:=(congrFun PySem.W.Fast.te6370747488270942289 PySem.Challenge.rw_jp0056_01).trans (by kernel_rfl)
noncomputable def dB:DefRec:=⟨"law",fArgs (topStmt 31),fBody (topStmt 31),fScope (topStmt 31),match topStmt 31 with|.FunctionDef _ _ _ _ _ _ _ _ _ p=>p|_=>⟨0,0,0,0⟩⟩
noncomputable abbrev hkB:Hook:=kmHook KK asK (λ_=>by kernel_rfl) [122,349]
noncomputable abbrev rB:OpenRow:=PySem.Challenge.rw_jp0056_01.row
theorem def_eq:defOf (qB pwB) rB.name=some (dB,[]):=by kernel_rfl
theorem prog_eq:rB.prog.theDef rB.name=some (dB.params,dB.body,dB.scope):=by kernel_rfl
theorem kw_eq:kwWritten? dB.params.kwonlyargs dB.params.kw_defaults=some []:=by kernel_rfl
theorem ok_eq:(chainsOk (qB pwB)&&opensWell rB.prog&&(frees rB.toRowW&&rB.within.isEmpty))=true:=by kernel_rfl
theorem hw_eq:rB.toRowW.promised:=⟨[.list [.int 3,.int 1]],by kernel_rfl,by kernel_rfl⟩
theorem bare_eq:rB.prog.bare:=⟨rfl,rfl,rfl,rfl,rfl,by kernel_rfl⟩
theorem head_of (call:WalkO (qB pwB) looseB (XL (qB pwB) []) (Hook.says hkB) rB.toRowW dB [] λf vs=>PySem.call f vs):PySem.Challenge.rw_jp0056_01.Holds:=
 holds_law well_eq λk1=>holds_open (r:=rB) (q:=qB pwB) (loose:=looseB) (Xt:=xtB) (XP:=XL (qB pwB) []) (Yf:=Hook.obs hkB) (Ya:=Hook.val hkB) (YP:=Hook.says hkB) (N:=8966) leftB (Hook.of hkB) (Hook.keeps hkB) (λs e=>xl_of s (Bool.and_eq_true_iff.mp e).1) XL.keeps def_eq prog_eq kw_eq (λs e=>recFacts_of (Bool.and_eq_true_iff.mp e).2) rfl k1 ok_eq bare_eq hw_eq call
noncomputable def cl:Ab->Ab
 |.int i _=>.int i 0
 |.float b _=>.float b 0
 |.str s _=>.str s 0
 |.bytes b _=>.bytes b 0
 |.none=>.none
 |.ellipsis=>.ellipsis
 |.notImplemented=>.notImplemented
 |.bool b=>.bool b
 |.type n=>.type n
 |.builtin i=>.builtin i
 |.ref a=>.ref a
theorem Cc {v:Ab} {a:Ak} (h:cl v=.ref a):v=.ref a:=by cases v<;>simp [cl]at h ⊢ <;>exact h
@[simp] theorem Abb (a:Ak):cl (.ref a)=.ref a:=rfl
@[simp] theorem Abd (i:Int) (t:Tok):cl (.int i t)=.int i 0:=rfl
@[simp] theorem Aba (i:Str) (t:Tok):cl (.str i t)=.str i 0:=rfl
@[simp] theorem Aai:cl .none=.none:=rfl
@[simp] theorem Aaj (b:Bool):cl (.bool b)=.bool b:=rfl
theorem Ev {v:Ab} {i:Int} {t:Tok} (h:cl v=.int i t):∃u,v=.int i u:=by
 cases v<;>simp [cl]at h ⊢;exact h.1
theorem sS {v:Ab} {i:Str} {t:Tok} (h:cl v=.str i t):∃u,v=.str i u:=by
 cases v<;>simp [cl]at h ⊢;exact h.1
theorem Tj {v:Ab} (h:cl v=.none):v=.none:=by cases v<;>simp [cl]at h ⊢
theorem fS {v:Ab} {b:Bool} (h:cl v=.bool b):v=.bool b:=by cases v<;>simp [cl]at h ⊢ <;>exact h
theorem wW {v:Ab} {b:String} (h:cl v=.type b):v=.type b:=by cases v<;>simp [cl]at h ⊢ <;>exact h
theorem mV {v:Ab} {b:String} (h:cl v=.builtin b):v=.builtin b:=by cases v<;>simp [cl]at h ⊢ <;>exact h
class Xm (α:Type)where
 cln:α->α
noncomputable instance:Xm Ab:=⟨cl⟩
noncomputable instance:Xm Unit:=⟨id⟩
noncomputable instance:Xm Bool:=⟨id⟩
noncomputable instance:Xm (List Ab):=⟨List.map cl⟩
noncomputable instance:Xm (Ab×List Ab):=⟨λp=>(cl p.1,p.2.map cl)⟩
noncomputable instance:Xm (Option Ab):=⟨Option.map cl⟩
noncomputable def clF:Fv->Fv
 |.ret v=>.ret (cl v)
 |.next=>.next
 |.brk=>.brk
 |.cont=>.cont
noncomputable instance:Xm Fv:=⟨clF⟩
open Xm
inductive Er where
 |obj (a:Ak)
 |var (d:Ak) (x:Str)
 |gen (g:Nat)
noncomputable def Er.base:Er->Bool×Nat
 |.obj a=>(true,a)
 |.var d _=>(true,d)
 |.gen g=>(false,g)
noncomputable def gY (h:Heap) (a:Ak):Prop:=h.get? a=none/\3 < a
noncomputable def Er.above (h:Heap):Er->Prop
 |.obj a=>gY h a
 |.var d _=>gY h d
 |.gen _=>True
inductive CO where
 |list (vs:List Ab)
 |tup (vs:List Ab)
 |inst (C d:Ak)
 |ns (m:List (Str×Option Ab))
 |fr (m:List (Str×Option Ab))
 |idict (es:List (Int×Ab))
 |sdict (es:List (Str×Ab))
 |iset (ks:List Int)
 |vview (d:Ak)
 |rng (a b c:Int)
 |rev (l:Ak) (i:Int)
 |liter (l:Ak) (i:Nat)
 |titer (l:Ak) (i:Nat)
 |riter (x left step:Int)
 |val (v:Option Ab)
 |cell (v:Option Ab)
 |raw (o:Obj)
 |gst (g:Ju)
noncomputable def CO.imm:CO->Bool
 |.tup _|.inst .. =>true
 |_=>false
noncomputable abbrev As:=Er×CO
structure Bj where
 prog:Jf
 vw:Jf
 w:Oa
 h₁:Heap
 os:OsState
 mg:Str->Option Ab
 mb:Str->Option Ab
 loose:List Str
 top:TopRead vw loose mg mb h₁
 kin:(KK w.params).In h₁
 tabs:∀P,P∈[122,349]->h₁.get? P=some (tabObj #[])
 bm:∃bm ob,mg "__builtins__" =some (.ref bm)/\bm≠Ig/\h₁.get? bm=some ob/\ob.cls=.type "module" /\ob.dict=some Ig/\ob.data=.plain
noncomputable abbrev Bj.K (Γ:Bj):Frag:=KK Γ.w.params
noncomputable def kC (es:List Nw) (x:Str):Option Ab:=(es.find? (·.key.isStr x)).map (·.val)
structure vJ (m:List (Str×Option Ab)) (es:List Nw):Prop where
 str:∀e∈es,∃s t,e.key=.str s t
 dup:(m.map (·.1)).Nodup
 size:es.length<=(m.filter λp=>p.2.isSome).length
 val:∀p∈m,(kC es p.1).map cl=p.2
 out:∀x,x∉m.map (·.1)->kC es x=none
noncomputable def Li (Γ:Bj) (s:Ba):Er->CO->Prop
 |.var d x,.val ov=>∃M,s.heap.Ns d M/\(M x).map cl=ov
 |.obj a,.list vs=>∃ws n,s.heap.get? a=some (listOf ws n)/\ws.toList.map cl=vs
 |.obj a,.tup vs=>∃ws n,s.heap.get? a=some {cls:=.type "tuple",data:=.seq ws n}/\ws.toList.map cl=vs
 |.obj a,.inst C d=>s.heap.get? a=some (Ot C d)
 |.obj a,.ns m=>∃es n,s.heap.get? a=some (dictOf es n)/\vJ m es
 |.obj a,.fr m=>∃M,s.heap.Ns a M/\(m.map (·.1)).Nodup/\∀p∈m,(M p.1).map cl=p.2
 |.obj a,.idict es=>∃kvs,s.heap.DictOf (intKind Γ.prog Γ.w) a kvs/\kvs.map (λp=>(p.1,cl p.2))=es
 |.obj a,.sdict es=>∃kvs,s.heap.DictOf (strKind Γ.prog Γ.w) a kvs/\kvs.map (λp=>(p.1,cl p.2))=es
 |.obj a,.iset ks=>∃S n,s.heap.SetOf (intKind Γ.prog Γ.w) a S n/\n<=ks.length/\∀k,S k=ks.contains k
 |.obj a,.vview d=>s.heap.IsValuesView a d
 |.obj r,.rng a b c=>∃t u v,PySem.IsRange s.heap r a b c t u v
 |.obj r,.rev l i=>PySem.Heap.IsRevIter s.heap r l i
 |.obj a,.liter l i=>s.heap.IsListIter a l i
 |.obj a,.titer l i=>s.heap.IsTupleIter a l i
 |.obj a,.riter x left step=>Mt s.heap a x left step
 |.obj a,.cell ov=>∃v,s.heap.IsCell a v/\v.map cl=ov
 |.obj a,.raw o=>s.heap.get? a=some o
 |.gen g,.gst gs=>s.gens[g]? =some gs
 |_,_=>False
noncomputable def Tz (p q:As):Prop:=p.1.base≠q.1.base\/(p.2.imm=true/\q.2.imm=true)\/
 (∃d x y,p.1=.var d x/\q.1=.var d y/\x≠y)
theorem Tz.symm {p q:As} (h:Tz p q):Tz q p:=by
 rcases h with h|⟨a,b⟩|⟨d,x,y,a,b,c⟩
 ·exact .inl (Ld h)
 ·exact .inr (.inl ⟨b,a⟩)
 ·exact .inr (.inr ⟨d,y,x,b,a,Ld c⟩)
structure Ay where
 W:List As
 τ:List As
noncomputable abbrev Ay.all (σ:Ay):List As:=σ.W++σ.τ
structure yJ (h:Heap):Prop where
 no:h.NoLimit
 tab:∀P,P∈[122,349]->∃ps,h.get? P=some (tabObj ps)/\TriplesOk ps.toList
structure Ea (Γ:Bj) (σ:Ay) (s:Ba):Prop where
 old:OldK Γ.h₁ s.heap
 lim:yJ s.heap
 stat:∀o,Γ.h₁.get? cStatics=some o->s.heap.get? cStatics=some o
 os:s.os=Γ.os
 bare:AllBare s.gens
 ents:∀p∈σ.all,Li Γ s p.1 p.2/\p.1.above Γ.h₁
 sep:σ.all.Pairwise Tz
theorem tQ (P:Ob):((KK P).all λp=>p.1==cStatics||p.2.cls != .none)=true:=by kernel_rfl
theorem bQ {α β:Type} [BEq α] [LawfulBEq α] {a:α} {b:β}:∀{l:List (α×β)},l.lookup a=some b->(a,b)∈l
 |(x,y)::r,h=>by
  simp only [List.lookup_cons]at h
  cases e:a==x with
  |true=>rw [e]at h;cases h;rw [beq_iff_eq.mp e];exact .head _
  |false=>rw [e]at h;exact .tail _ (bQ h)
theorem Ea.kin {Γ:Bj} {σ:Ay} {s:Ba} (R:Ea Γ σ s):Γ.K.In s.heap:=λa o e=>by
 have:=Fu.mp (tQ Γ.w.params) _ (bQ e)
 simp only [Bool.or_eq_true,beq_iff_eq,bne_iff_ne]at this
 rcases this with h|h
 ·subst h;exact R.stat o (Γ.kin _ _ e)
 ·exact R.old.get_of_cls (Γ.kin a o e) h
theorem Li.toks {Γ:Bj} {s:Ba} {l:Er} {c:CO} {n:Nat} (h:Li Γ s l c):Li Γ {s with toks:=n} l c:=by
 cases l<;>cases c<;>exact h
theorem Ea.toks {Γ:Bj} {σ:Ay} {s:Ba} (R:Ea Γ σ s) (n:Nat):Ea Γ σ {s with toks:=n}:=
 ⟨R.old,R.lim,R.stat,R.os,R.bare,λp hp=>⟨(R.ents p hp).1.toks,(R.ents p hp).2⟩,R.sep⟩
inductive fB (Γ:Bj) {α:Type} (Q:α->Ay->Prop) (v:α) (s:Ba):Prop
 |mk (σ':Ay) (R:Ea Γ σ' s) (q:Q v σ')
noncomputable def T (Γ:Bj) (A:Aw) (σ:Ay) {α:Type} [Xm α] (t:Sem α) (Q:α->Ay->Prop):Prop:=
 ∀s,Ea Γ σ s->Cp (Cd Γ.prog Γ.w) A t (λv s'=>fB Γ Q (cln v) s') (λ_ _=>False) s
section
variable {Γ:Bj} {A:Aw} {σ:Ay} {α β:Type} [Xm α] [Xm β]
theorem T.mono {t:Sem α} {Q Q':α->Ay->Prop} (h:T Γ A σ t Q) (k:∀v σ',Q v σ'->Q' v σ'):T Γ A σ t Q':=
 λs R=>Dy (h s R) (λ_ _ ⟨σ',R',q⟩=>⟨σ',R',k _ _ q⟩) λ_ _ x=>x
theorem T.bind {m:Sem α} {f:α->Sem β} {Q:β->Ay->Prop} (h:T Γ A σ m λc σ'=>∀v,cln v=c->T Γ A σ' (f v) Q):T Γ A σ (m>>=f) Q:=
 λs R=>Ad (Dy (h s R) (λv _ ⟨_,R',q⟩=>q v rfl _ R') λ_ _ x=>x)
noncomputable def As.le (σ' σ:Ay):Prop:=∀Γ s,Ea Γ σ s->Ea Γ σ' s
theorem T.conseq {σ':Ay} {t:Sem α} {Q:α->Ay->Prop} (e:As.le σ' σ) (h:T Γ A σ' t Q):T Γ A σ t Q:=λs R=>h s (e Γ s R)
theorem As.le_of_eq {σ σ':Ay} (e:σ'=σ):As.le σ' σ:=e▸λ_ _ R=>R
theorem As.le_refl (σ:Ay):As.le σ σ:=λ_ _ R=>R
theorem As.le_sub {W τ τ':List As} (h:Qe τ' τ):As.le ⟨W,τ'⟩ ⟨W,τ⟩:=λ_ _ R=>
 ⟨R.old,R.lim,R.stat,R.os,R.bare,λp hp=>R.ents p (by
  rcases Ai.mp hp with x|x
  ·exact Af _ x
  ·exact Aa _ (h.subset x)),R.sep.sublist (Qe.append (Qe.refl _) h)⟩
theorem As.le_perm {σ σ':Ay} (h:σ.all.Perm σ'.all):As.le σ' σ:=λ_ _ R=>
 ⟨R.old,R.lim,R.stat,R.os,R.bare,λp hp=>R.ents p (h.symm.subset hp),h.pairwise R.sep Tz.symm⟩
theorem As.le_trans {a b c:Ay} (x:As.le a b) (y:As.le b c):As.le a c:=λΓ s R=>x Γ s (y Γ s R)
end
section
variable {Γ:Bj} {σ:Ay} {s s':Ba}
theorem Zd {a b:Ak} (h:((true,a):Bool×Nat)≠(true,b)):a≠b:=λe=>h (by rw [e])
theorem Li.ext {b:Ak} {l:Er} {c:CO} (hx:Io b s.heap s'.heap) (hg:s'.gens=s.gens) (hl:l.base≠(true,b)) (h:Li Γ s l c):Li Γ s' l c:=by
 cases l with
 |var d x=>
  cases c<;>first|exact h.elim|skip
  obtain⟨M,N,e⟩:=h
  exact⟨M,N.extBut hx (Zd hl),e⟩
 |gen g=>
  cases c<;>first|exact h.elim|skip
  show s'.gens[g]? =_
  rw [hg];exact h
 |obj a=>
  have ha:a≠b:=Zd hl
  cases c with
  |list vs=>obtain⟨ws,n,e,r⟩:=h;exact⟨ws,n,hx _ _ ha e,r⟩
  |tup vs=>obtain⟨ws,n,e,r⟩:=h;exact⟨ws,n,hx _ _ ha e,r⟩
  |inst C d=>exact hx _ _ ha h
  |ns m=>obtain⟨es,n,e,r⟩:=h;exact⟨es,n,hx _ _ ha e,r⟩
  |idict es=>obtain⟨kvs,⟨o,es,ep,ho,r⟩,q⟩:=h;exact⟨kvs,⟨o,es,ep,hx _ _ ha ho,r⟩,q⟩
  |sdict es=>obtain⟨kvs,⟨o,es,ep,ho,r⟩,q⟩:=h;exact⟨kvs,⟨o,es,ep,hx _ _ ha ho,r⟩,q⟩
  |iset ks=>obtain⟨S,n,⟨o,es,ep,t,ho,r⟩,q⟩:=h;exact⟨S,n,⟨o,es,ep,t,hx _ _ ha ho,r⟩,q⟩
  |vview d=>obtain⟨o,e,r⟩:=h;exact⟨o,hx _ _ ha e,r⟩
  |rng _ _ _=>obtain⟨t,u,v,e⟩:=h;exact⟨t,u,v,hx _ _ ha e⟩
  |rev l i=>obtain⟨o,e,r⟩:=h;exact⟨o,hx _ _ ha e,r⟩
  |fr m=>obtain⟨M,N,r⟩:=h;exact⟨M,N.extBut hx ha,r⟩
  |liter l i=>obtain⟨o,e,r⟩:=h;exact⟨o,hx _ _ ha e,r⟩
  |titer l i=>obtain⟨o,e,r⟩:=h;exact⟨o,hx _ _ ha e,r⟩
  |riter x y z=>exact hx _ _ ha h
  |cell ov=>obtain⟨v,⟨o,e,d⟩,r⟩:=h;exact⟨v,⟨o,hx _ _ ha e,d⟩,r⟩
  |raw o=>exact hx _ _ ha h
  |val _|gst _=>exact h.elim
theorem Li.keeps {l:Er} {c:CO} (hx:∀b o,s.heap.get? b=some o->s'.heap.get? b=some o) (hg:s'.gens=s.gens) (h:Li Γ s l c):Li Γ s' l c:=by
 cases l with
 |var d x=>
  cases c<;>first|exact h.elim|skip
  obtain⟨M,N,e⟩:=h
  exact⟨M,N.keeps hx,e⟩
 |gen g=>
  cases c<;>first|exact h.elim|skip
  show s'.gens[g]? =_
  rw [hg];exact h
 |obj a=>
  cases c with
  |list vs=>obtain⟨ws,n,e,r⟩:=h;exact⟨ws,n,hx _ _ e,r⟩
  |tup vs=>obtain⟨ws,n,e,r⟩:=h;exact⟨ws,n,hx _ _ e,r⟩
  |inst C d=>exact hx _ _ h
  |ns m=>obtain⟨es,n,e,r⟩:=h;exact⟨es,n,hx _ _ e,r⟩
  |idict es=>obtain⟨kvs,⟨o,es,ep,ho,r⟩,q⟩:=h;exact⟨kvs,⟨o,es,ep,hx _ _ ho,r⟩,q⟩
  |sdict es=>obtain⟨kvs,⟨o,es,ep,ho,r⟩,q⟩:=h;exact⟨kvs,⟨o,es,ep,hx _ _ ho,r⟩,q⟩
  |iset ks=>obtain⟨S,n,⟨o,es,ep,t,ho,r⟩,q⟩:=h;exact⟨S,n,⟨o,es,ep,t,hx _ _ ho,r⟩,q⟩
  |vview d=>obtain⟨o,e,r⟩:=h;exact⟨o,hx _ _ e,r⟩
  |rng _ _ _=>obtain⟨t,u,v,e⟩:=h;exact⟨t,u,v,hx _ _ e⟩
  |rev l i=>obtain⟨o,e,r⟩:=h;exact⟨o,hx _ _ e,r⟩
  |fr m=>obtain⟨M,N,r⟩:=h;exact⟨M,N.keeps hx,r⟩
  |liter l i=>obtain⟨o,e,r⟩:=h;exact⟨o,hx _ _ e,r⟩
  |titer l i=>obtain⟨o,e,r⟩:=h;exact⟨o,hx _ _ e,r⟩
  |riter x y z=>exact hx _ _ h
  |cell ov=>obtain⟨v,⟨o,e,d⟩,r⟩:=h;exact⟨v,⟨o,hx _ _ e,d⟩,r⟩
  |raw o=>exact hx _ _ h
  |val _|gst _=>exact h.elim
theorem Li.lt {l:Er} {c:CO} (h:Li Γ s l c) {b:Ak} (hb:l.base=(true,b)):b < s.heap.objs.size:=by
 cases l with
 |gen g=>cases hb
 |var d x=>
  cases hb
  cases c<;>first|exact h.elim|skip
  obtain⟨M,N,e⟩:=h
  exact N.lt
 |obj a=>
  cases hb
  cases c with
  |list vs=>obtain⟨ws,n,e,r⟩:=h;exact Ds e
  |tup vs=>obtain⟨ws,n,e,r⟩:=h;exact Ds e
  |inst C d=>exact Ds h
  |ns m=>obtain⟨es,n,e,r⟩:=h;exact Ds e
  |idict es=>obtain⟨kvs,⟨o,es,ep,ho,r⟩,q⟩:=h;exact Ds ho
  |sdict es=>obtain⟨kvs,⟨o,es,ep,ho,r⟩,q⟩:=h;exact Ds ho
  |iset ks=>obtain⟨S,n,⟨o,es,ep,t,ho,r⟩,q⟩:=h;exact Ds ho
  |vview d=>obtain⟨o,e,r⟩:=h;exact Ds e
  |rng _ _ _=>obtain⟨t,u,v,e⟩:=h;exact Ds e
  |rev l i=>obtain⟨o,e,r⟩:=h;exact Ds e
  |fr m=>obtain⟨M,N,r⟩:=h;exact N.lt
  |liter l i=>obtain⟨o,e,r⟩:=h;exact Ds e
  |titer l i=>obtain⟨o,e,r⟩:=h;exact Ds e
  |riter x y z=>exact Ds h
  |cell ov=>obtain⟨v,⟨o,e,d⟩,r⟩:=h;exact Ds e
  |raw o=>exact Ds h
  |val _|gst _=>exact h.elim
theorem aW {h₀ h h':Heap} (K:OldK h₀ h) {a:Ak} (ha:h₀.get? a=none) (hs:Io a h h'):OldK h₀ h':=by
 have ne:∀b o,h₀.get? b=some o->b≠a:=λb o e q=>by rw [q,ha]at e;cases e
 refine⟨λb o e=>?_,λb o e=>let ⟨o',ho'⟩:=K.there b o e;⟨o',hs _ _ (ne b o e) ho'⟩⟩
 rcases K.old b o e with x|⟨t,hc,vs,more,hv,x⟩|⟨rfl,hc,⟨o',es,n,ho',r⟩,z⟩
 ·exact .inl (hs _ _ (ne b o e) x)
 ·exact .inr (.inl ⟨t,hc,vs,more,hv,hs _ _ (ne b o e) x⟩)
 ·have e1:=hs _ _ (ne _ o e) ho'
  exact .inr (.inr ⟨rfl,hc,⟨o',es,n,e1,r⟩,λkey=>by rw [OldK.staticOf_congr (e1.trans ho'.symm) key];exact z key⟩)
theorem yJ.keeps {h h':Heap} (L:yJ h) (hx:∀b o,h.get? b=some o->h'.get? b=some o):yJ h':=⟨L.no.keeps hx,λP hP=>let ⟨ps,e,t⟩:=L.tab P hP;⟨ps,hx _ _ e,t⟩⟩
theorem yJ.extBut {h h':Heap} {a:Ak} (L:yJ h) (hx:Io a h h') (ha:Γ.h₁.get? a=none) (hc:cStatics≠a):yJ h':=⟨L.no.extBut hx hc,λP hP=>let ⟨ps,e,t⟩:=L.tab P hP;⟨ps,hx _ _ (λq=>by have:=Γ.tabs P hP;rw [q,ha]at this;cases this) e,t⟩⟩
theorem Ea.grow (R:Ea Γ σ s) (hx:∀b o,s.heap.get? b=some o->s'.heap.get? b=some o) (hg:s'.gens=s.gens) (ho:s'.os=s.os):Ea Γ σ s':=
 ⟨R.old.step_keeps hx,R.lim.keeps hx,λo e=>hx _ _ (R.stat o e),ho.trans R.os,by rw [hg];exact R.bare,λp hp=>⟨(R.ents p hp).1.keeps hx hg,(R.ents p hp).2⟩,R.sep⟩
theorem Ea.above {p:As} (R:Ea Γ σ s) (hp:p∈σ.all) {b:Ak} (hb:p.1.base=(true,b)):Γ.h₁.get? b=none:=by
 have h:=(R.ents p hp).2
 obtain⟨l,c⟩:=p
 cases l with
 |obj a=>cases hb;exact h.1
 |var d x=>cases hb;exact h.1
 |gen g=>cases hb
theorem Ea.above3 {p:As} (R:Ea Γ σ s) (hp:p∈σ.all) {b:Ak} (hb:p.1.base=(true,b)):gY Γ.h₁ b:=by
 have h:=(R.ents p hp).2
 obtain⟨l,c⟩:=p
 cases l with
 |obj a=>cases hb;exact h
 |var d x=>cases hb;exact h
 |gen g=>cases hb
theorem Ea.cstat {b:Ak} (hb:Γ.h₁.get? b=none):cStatics≠b:=λe=>by
 obtain⟨mc,⟨o,_,_,ho,_⟩,_⟩:=Γ.top.nolimit
 rw [e,hb]at ho;cases ho
theorem Vm {l₁ l₂:List As} {p:As} (h:(l₁++p::l₂).Pairwise Tz):∀q∈l₁++l₂,Tz p q:=by
 rw [Ku,Ih]at h
 intro q hq
 rcases Ai.mp hq with x|x
 ·exact(h.2.2 q x p (.head _)).symm
 ·exact h.2.1.1 q x
theorem kR {l₁ l₂:List As} {p p':As} (h:(l₁++p::l₂).Pairwise Tz) (k:∀q∈l₁++l₂,Tz p' q):(l₁++p'::l₂).Pairwise Tz:=by
 rw [Ku,Ih]at h ⊢
 refine⟨h.1,⟨λq hq=>k q (Aa _ hq),h.2.1.2⟩,λa ha b hb=>?_⟩
 rcases Ce.mp hb with rfl|hb
 ·exact(k a (Af _ ha)).symm
 ·exact h.2.2 a ha b (.tail _ hb)
theorem Tz.of_mut {l:Er} {c c':CO} {q:As} (h:Tz (l,c) q) (hc:c.imm=false):Tz (l,c') q:=by
 rcases h with h|⟨a,_⟩|⟨d,x,y,a,b,e⟩
 ·exact .inl h
 ·rw [hc]at a;cases a
 ·exact .inr (.inr ⟨d,x,y,a,b,e⟩)
theorem Tz.base_ne {a:Ak} {c:CO} {q:As} (h:Tz (.obj a,c) q) (hc:c.imm=false):q.1.base≠(true,a):=by
 rcases h with h|⟨e,_⟩|⟨d,x,y,e,_⟩
 ·exact Ld h
 ·rw [hc]at e;cases e
 ·cases e
theorem Ea.change {l₁ l₂:List As} {W W' τ τ':List As} {a:Ak} {c c':CO} (R:Ea Γ ⟨W,τ⟩ s) (e:W++τ=l₁++(.obj a,c)::l₂) (e':W'++τ'=l₁++(.obj a,c')::l₂) (hc:c.imm=false)
  (hx:Io a s.heap s'.heap) (hg:s'.gens=s.gens) (ho:s'.os=s.os) (hn:Li Γ s' (.obj a) c'):Ea Γ ⟨W',τ'⟩ s':=by
 have R':=R
 obtain⟨r1,r2,rs,r3,r4,r6,r7⟩:=R'
 have hm:((.obj a,c):As)∈(⟨W,τ⟩:Ay).all:=by show _∈W++τ;rw [e];exact Aa _ (.head _)
 have ha:=R.above hm rfl
 have r7':(l₁++(.obj a,c)::l₂).Pairwise Tz:=e▸r7
 refine⟨aW r1 ha hx,r2.extBut hx ha (Ea.cstat ha),λo e=>hx _ _ (Ea.cstat ha) (rs o e),ho.trans r3,by rw [hg];exact r4,λp hp=>?_,?_⟩
 ·have hp:p∈l₁++(.obj a,c')::l₂:=e'▸hp
  have old:∀q∈l₁++l₂,Li Γ s' q.1 q.2/\q.1.above Γ.h₁:=λq hq=>by
   have hq':q∈(⟨W,τ⟩:Ay).all:=by
    show q∈W++τ
    rw [e]
    rcases Ai.mp hq with x|x
    ·exact Af _ x
    ·exact Aa _ (.tail _ x)
   exact⟨(r6 q hq').1.ext hx hg (Tz.base_ne (Vm r7' q hq) hc),(r6 q hq').2⟩
  rcases Ai.mp hp with x|x
  ·exact old p (Af _ x)
  ·rcases Ce.mp x with rfl|x
   ·exact⟨hn,R.above3 hm rfl⟩
   ·exact old p (Aa _ x)
 ·show(W'++τ').Pairwise Tz
  rw [e']
  exact kR r7' λq hq=>(Vm r7' q hq).of_mut hc
theorem Jp {l:Er} {c:CO} {n:Nat} (hl:l.base=(true,n)) (h:∀q∈σ.all,Li Γ s q.1 q.2) (hn:s.heap.objs.size<=n):∀q∈σ.all,Tz (l,c) q:=λq hq=>by
 left
 show l.base≠q.1.base
 rw [hl]
 intro e
 exact Nat.lt_irrefl _ (Pf ((h q hq).lt e.symm) hn)
theorem Ea.add {W τ:List As} {l:Er} {c:CO} (R:Ea Γ ⟨W,τ⟩ s) (h:Li Γ s l c) (ha:l.above Γ.h₁) (hs:∀q∈W++τ,Tz (l,c) q):Ea Γ ⟨W,(l,c)::τ⟩ s:=by
 refine⟨R.old,R.lim,R.stat,R.os,R.bare,λp hp=>?_,?_⟩
 ·rcases Ai.mp hp with x|x
  ·exact R.ents p (Af _ x)
  ·rcases Ce.mp x with rfl|x
   ·exact⟨h,ha⟩
   ·exact R.ents p (Aa _ x)
 ·have:=R.sep
  show(W++(l,c)::τ).Pairwise Tz
  rw [Ku,Ih]
  rw [Ku]at this
  refine⟨this.1,⟨λq hq=>hs q (Aa _ hq),this.2.1⟩,λa ha b hb=>?_⟩
  rcases Ce.mp hb with rfl|hb
  ·exact(hs a (Af _ ha)).symm
  ·exact this.2.2 a ha b hb
theorem K3 (P:Ob):((KK P).lookup Gx).isSome=true:=by kernel_rfl
theorem Ea.freshAt (R:Ea Γ σ s) {c:Ak} (h:s.heap.objs.size<=c):gY Γ.h₁ c:=by
 refine⟨?_,?_⟩
 ·cases q:Γ.h₁.get? c with
  |none=>rfl
  |some o=>obtain⟨o',e⟩:=R.old.there _ _ q;exact absurd (Ds e) (Nat.not_lt.mpr h)
 ·obtain⟨o,e⟩:=Option.isSome_iff_exists.mp (K3 Γ.w.params)
  have:Gx < s.heap.objs.size:=Ds (R.kin _ _ e)
  exact Pf this h
theorem Ea.freshTop (R:Ea Γ σ s):gY Γ.h₁ s.heap.objs.size:=R.freshAt (Bx _)
theorem Ea.push {W τ:List As} {c:CO} (R:Ea Γ ⟨W,τ⟩ s) (hx:∀b o,s.heap.get? b=some o->s'.heap.get? b=some o) (hg:s'.gens=s.gens) (ho:s'.os=s.os)
  (h:Li Γ s' (.obj s.heap.objs.size) c):Ea Γ ⟨W,(.obj s.heap.objs.size,c)::τ⟩ s':=
 (R.grow hx hg ho).add h (R.freshTop) (Jp (σ:=⟨W,τ⟩) (s:=s) rfl (λq hq=>(R.ents q hq).1) (Bx _))
end
section
inductive Qw:List As->Er->CO->CO->List As->Prop
 |here {l c c' τ}:Qw ((l,c)::τ) l c c' ((l,c')::τ)
 |there {l c c' p τ τ'}:Qw τ l c c' τ'->Qw (p::τ) l c c' (p::τ')
theorem Qw.split {τ τ':List As} {l:Er} {c c':CO} (h:Qw τ l c c' τ'):∃l₁ l₂,τ=l₁++(l,c)::l₂/\τ'=l₁++(l,c')::l₂:=by
 induction h with
 |here=>exact⟨[],_,rfl,rfl⟩
 |there _ ih=>obtain⟨l₁,l₂,rfl,rfl⟩:=ih;exact⟨_::l₁,l₂,rfl,rfl⟩
theorem Qw.append {τ τ' ρ:List As} {l:Er} {c c':CO} (h:Qw τ l c c' τ'):Qw (τ++ρ) l c c' (τ'++ρ):=by
 induction h with
 |here=>exact .here
 |there _ ih=>exact .there ih
theorem Qw.prepend {τ τ':List As} {l:Er} {c c':CO} (h:Qw τ l c c' τ'):∀ρ:List As,Qw (ρ++τ) l c c' (ρ++τ')
 |[]=>h
 |_::r=>.there (h.prepend r)
inductive Iy:Ay->Er->CO->CO->Ay->Prop
 |tau {W τ τ' l c c'}:Qw τ l c c' τ'->Iy ⟨W,τ⟩ l c c' ⟨W,τ'⟩
 |wld {W W' τ l c c'}:Qw W l c c' W'->Iy ⟨W,τ⟩ l c c' ⟨W',τ⟩
theorem Iy.split {σ σ':Ay} {l:Er} {c c':CO} (h:Iy σ l c c' σ'):∃l₁ l₂,σ.all=l₁++(l,c)::l₂/\σ'.all=l₁++(l,c')::l₂:=by
 cases h with
 | @tau W τ τ' _ _ _ h=>
  obtain⟨l₁,l₂,rfl,rfl⟩:=h.split
  exact⟨W++l₁,l₂,by simp [Ay.all],by simp [Ay.all]⟩
 | @wld W W' τ _ _ _ h=>
  obtain⟨l₁,l₂,rfl,rfl⟩:=h.split
  exact⟨l₁,l₂++τ,by simp [Ay.all],by simp [Ay.all]⟩
theorem Iy.mem {σ σ':Ay} {l:Er} {c c':CO} (h:Iy σ l c c' σ'):(l,c)∈σ.all:=by
 obtain⟨l₁,l₂,e,_⟩:=h.split
 rw [e];exact Aa _ (.head _)
section
variable {Γ:Bj} {A:Aw} {σ σ':Ay} {s s':Ba} {env:Env}
theorem Ea.changeS {a:Ak} {c c':CO} (R:Ea Γ σ s) (U:Iy σ (.obj a) c c' σ') (hc:c.imm=false)
  (hx:Io a s.heap s'.heap) (hg:s'.gens=s.gens) (ho:s'.os=s.os) (hn:Li Γ s' (.obj a) c'):Ea Γ σ' s':=by
 obtain⟨l₁,l₂,e,e'⟩:=U.split
 exact Ea.change (W:=σ.W) (τ:=σ.τ) R e e' hc hx hg ho hn
theorem pJ {h:Heap} {d:Ak} {M M':Str->Option Ab} (a:h.Ns d M) (b:h.Ns d M'):M=M':=by
 obtain⟨o,es,ep,e,q,_,r⟩:=a
 obtain⟨o',es',ep',e',q',_,r'⟩:=b
 rw [e]at e';cases e'
 rw [q]at q';cases q'
 funext x
 rw [<-r x,r' x]
theorem Ea.changeV {d:Ak} {x:Str} {c:CO} {v:Ab} {M:Str->Option Ab} (R:Ea Γ σ s) (U:Iy σ (.var d x) c (.val (some (cl v))) σ')
  (hM:s.heap.Ns d M) (hx:Io d s.heap s'.heap) (hN:s'.heap.Ns d (λy=>if y=x then some v else M y)) (hg:s'.gens=s.gens) (ho:s'.os=s.os):Ea Γ σ' s':=by
 obtain⟨l₁,l₂,e,e'⟩:=U.split
 have hm:=U.mem
 have ha:=R.above hm rfl
 have hc:c.imm=false:=by
  have:=(R.ents _ hm).1
  cases c<;>first|rfl|exact this.elim
 have r7:=R.sep
 rw [e]at r7
 refine⟨aW R.old ha hx,R.lim.extBut hx ha (Ea.cstat ha),λo e=>hx _ _ (Ea.cstat ha) (R.stat o e),ho.trans R.os,by rw [hg];exact R.bare,λp hp=>?_,?_⟩
 ·have hp:p∈l₁++(.var d x,.val (some (cl v)))::l₂:=e'▸hp
  have old:∀q∈l₁++l₂,Li Γ s' q.1 q.2/\q.1.above Γ.h₁:=λq hq=>by
   have hq':q∈σ.all:=by
    rw [e]
    rcases Ai.mp hq with x|x
    ·exact Af _ x
    ·exact Aa _ (.tail _ x)
   refine⟨?_,(R.ents q hq').2⟩
   have z:=(R.ents q hq').1
   rcases Vm r7 q hq with h|⟨h,_⟩|⟨d',y,y',h1,h2,h3⟩
   ·exact z.ext hx hg (Ld h)
   ·rw [hc]at h;cases h
   ·cases h1
    obtain⟨ql,qc⟩:=q
    dsimp only at h2
    subst h2
    cases qc<;>first|exact z.elim|skip
    obtain⟨M',N',e3⟩:=z
    rw [pJ N' hM]at e3
    exact⟨_,hN,by rw [if_neg (Ld h3)];exact e3⟩
  rcases Ai.mp hp with x|x
  ·exact old p (Af _ x)
  ·rcases Ce.mp x with rfl|x
   ·exact⟨⟨_,hN,by rw [if_pos rfl];rfl⟩,R.above3 hm rfl⟩
   ·exact old p (Aa _ x)
 ·rw [e']
  exact kR r7 λq hq=>(Vm r7 q hq).of_mut hc
theorem Ac {x:Str} {pos:Pos} {v:Ab} {Q:Ab->Ay->Prop} (hm:(.var env.locals x,.val (some v))∈σ.all) (h:Q v σ)
  (hk:autoParam (env.scope.kind=.function) aR) (hl:autoParam (env.kindOf x=some .local) aR) (hd:autoParam ((x==("__debug__" :Str))=false) aD):
  T Γ A σ (Dr (.Name x pos) env) Q:=λs R=>by
 obtain⟨M,N,e⟩:=(R.ents _ hm).1
 cases q:M x with
 |none=>rw [q]at e;cases e
 |some u=>
  rw [q]at e
  refine wpAny_Name (wpAny_loadName_local hk hl N q ⟨σ,R,?_⟩) hd
  have:cl u=v:=Dh e
  show Q (cl u) σ
  rw [this];exact h
theorem An {x:Str} {pos:Pos} {c:Ak} {v:Ab} {Q:Ab->Ay->Prop} (hc:env.cells.lookup x=some c) (hm:(.obj c,.cell (some v))∈σ.all) (h:Q v σ)
  (hk:autoParam (env.scope.kind=.function) aR) (hl:autoParam (env.kindOf x=some .cell) aR) (hd:autoParam ((x==("__debug__" :Str))=false) aD):
  T Γ A σ (Dr (.Name x pos) env) Q:=λs R=>by
 obtain⟨u,e,eu⟩:=(R.ents _ hm).1
 cases u with
 |none=>cases eu
 |some u=>
  refine wpAny_Name (wpAny_loadName_cell hk hl hc e ⟨σ,R,?_⟩) hd
  have:cl u=v:=Dh eu
  show Q (cl u) σ
  rw [this];exact h
theorem Qv {x:Str} {ov:Option Ab} {v:Ab} {Q:Unit->Ay->Prop} (U:Iy σ (.var env.locals x) (.val ov) (.val (some (cl v))) σ') (h:Q () σ')
  (hk:autoParam (env.scope.kind=.function) aR) (hl:autoParam (env.kindOf x=some .local) aR):
  T Γ A σ (storeName env x v) Q:=λs R=>by
 obtain⟨M,N,e⟩:=(R.ents _ U.mem).1
 refine wpAny_storeName_local hl N (λh' hn hs=>⟨σ',Ea.changeV (s':={s with heap:=h',toks:=s.toks+1}) R U N hs.extBut hn rfl rfl,h⟩) ?_
 show(env.scope.kind==.class ||(env.scope.kind==.module&&_))=false
 rw [hk];rfl
theorem Xf {x:Str} {c:Ak} {ov:Option Ab} {v:Ab} {Q:Unit->Ay->Prop} (hc:env.cells.lookup x=some c) (U:Iy σ (.obj c) (.cell ov) (.cell (some (cl v))) σ') (h:Q () σ')
  (hk:autoParam (env.scope.kind=.function) aR) (hl:autoParam (env.kindOf x=some .cell) aR):
  T Γ A σ (storeName env x v) Q:=λs R=>by
 obtain⟨u,e,eu⟩:=(R.ents _ U.mem).1
 refine wpAny_storeName_cell hk hl hc e λh' hv hs=>⟨σ',Ea.changeS (s':={s with heap:=h'}) R U rfl hs.extBut rfl rfl ⟨_,hv,rfl⟩,h⟩
end
end
section
section
variable {Γ:Bj} {A:Aw} {σ σ':Ay} {s s':Ba} {env:Env}
theorem T.elim {α:Type} [Xm α] {t:Sem α} {P:α->Ay->Prop} {Q:α->Ba->Prop} {E:Ab->Ba->Prop} (h:T Γ A σ t P) (R:Ea Γ σ s) (k:∀v s' σ',Ea Γ σ' s'->P (cln v) σ'->Q v s'):
  Cp (Cd Γ.prog Γ.w) A t Q E s:=Dy (h s R) (λv s' o=>o.casesOn λσ' R' p=>k v s' σ' R' p) λ_ _ x=>x.elim
theorem T.go {α:Type} [Xm α] {t:Sem α} {K:α->Ba->Prop} {E:Ab->Ba->Prop} (h:T Γ A σ t λv σ₁=>∀s',Ea Γ σ₁ s'->∀u,cln u=v->K u s') (R:Ea Γ σ s):Cp (Cd Γ.prog Γ.w) A t K E s:=
 h.elim R λv s' _ R' q=>q s' R' v rfl
theorem T.to {α:Type} [Xm α] {t:Sem α} {K:α->Ba->Prop} {E:Ab->Ba->Prop} (h:T Γ A σ t λ_ σ₁=>σ₁=σ') (R:Ea Γ σ s) (k:∀v s',Ea Γ σ' s'->K v s'):Cp (Cd Γ.prog Γ.w) A t K E s:=
 h.elim R λv s' _ R' e=>k v s' (e▸R')
theorem T.ref {t:Sem Ab} {a:Ak} {K:Ab->Ba->Prop} {E:Ab->Ba->Prop} (h:T Γ A σ t λv σ₁=>v=.ref a/\σ₁=σ') (R:Ea Γ σ s) (k:∀s',Ea Γ σ' s'->K (.ref a) s'):Cp (Cd Γ.prog Γ.w) A t K E s:=
 h.elim R λv s' _ R' e=>by rw [Cc e.1];exact k s' (e.2▸R')
theorem T.one {α:Type} [Xm α] {t:Sem α} {c:α} {K:α->Ba->Prop} {E:Ab->Ba->Prop} (h:T Γ A σ t λv σ₁=>v=c/\σ₁=σ') (R:Ea Γ σ s) (k:∀v s',cln v=c->Ea Γ σ' s'->K v s'):Cp (Cd Γ.prog Γ.w) A t K E s:=
 h.elim R λv s' _ R' e=>k v s' e.1 (e.2▸R')
inductive kM (l:Er) (k:Option Ab->CO) (Q:Fv->Ay->Prop) (c:Ab) (σ:Ay):Prop
 |mk (ov:Option Ab) (σ':Ay) (u:Iy σ l (k ov) (k (some c)) σ') (q:Q .next σ')
noncomputable abbrev PU (Q:Fv->Ay->Prop) (_:Unit):Ay->Prop:=Q .next
noncomputable abbrev PVU (Q:Fv->Ay->Prop) (_:Ab):Ay->Prop:=Q .next
noncomputable abbrev Ahe (Q:Fv->Ay->Prop) (c:Ab):Ay->Prop:=Q (.ret c)
noncomputable abbrev Ahf (Q:Bool->Ay->Prop) (b:Bool):Ay->Prop:=Q (!b)
inductive PIf {α:Type} [Xm α] (Γ:Bj) (A:Aw) (t e:Sem α) (Q:α->Ay->Prop) (b:Bool) (σ:Ay):Prop
 |mk (yes:b=true->T Γ A σ t Q) (no:b=false->T Γ A σ e Q)
inductive rY {α:Type} [Xm α] (Γ:Bj) (A:Aw) (w w':Bool) (t:Sem α) (Q:α->Ay->Prop) (q:Ay->Prop) (b:Bool) (σ:Ay):Prop
 |mk (yes:b=w->T Γ A σ t Q) (no:b=w'->q σ)
inductive Afa (Q:Fv->Ay->Prop) (b:Bool) (σ:Ay):Prop
 |mk (e:b=true) (q:Q .next σ)
inductive Afe (Q:Bool->Ay->Prop) (c:Ab) (σ:Ay):Prop
 |mk (b:Bool) (e:c=.bool b) (q:Q b σ)
noncomputable def P1 {α:Type} [Xm α] (Γ:Bj) (A:Aw) (f:Ab->Sem α) (Q:α->Ay->Prop) (c:Ab) (σ:Ay):Prop:=∀v,cl v=c->T Γ A σ (f v) Q
noncomputable def P2 {α:Type} [Xm α] (Γ:Bj) (A:Aw) (f:Ab->Ab->Sem α) (Q:α->Ay->Prop) (a b:Ab) (σ:Ay):Prop:=∀u v,cl u=a->cl v=b->T Γ A σ (f u v) Q
noncomputable def P3 {α:Type} [Xm α] (Γ:Bj) (A:Aw) (f:Ab->Ab->Ab->Sem α) (Q:α->Ay->Prop) (a b c:Ab) (σ:Ay):Prop:=∀u v w,cl u=a->cl v=b->cl w=c->T Γ A σ (f u v w) Q
noncomputable def PR (Γ:Bj) (A:Aw) (r:Sem Ab) (K:Ab->Ab->Ay->Prop) (a:Ab) (σ:Ay):Prop:=T Γ A σ r (K a)
noncomputable def PR2 (Γ:Bj) (A:Aw) (r r':Sem Ab) (K:Ab->Ab->Ab->Ay->Prop) (a:Ab) (σ:Ay):Prop:=T Γ A σ r (λb=>PR Γ A r' (K a) b)
inductive Abj (k:List Ab->CO) (Q:Ab->Ay->Prop) (cs:List Ab) (σ:Ay):Prop
 |mk (hz:cs.length<=Gg) (h:∀a,Q (.ref a) ⟨σ.W,(.obj a,k cs)::σ.τ⟩)
noncomputable abbrev Afc (Q:List Ab->Ay->Prop) (c:Ab) (cs:List Ab):Ay->Prop:=Q (c::cs)
noncomputable def Ahd (Γ:Bj) (A:Aw) (rest:List (Bool×Sem Ab)) (Q:List Ab->Ay->Prop) (c:Ab) (σ:Ay):Prop:=T Γ A σ (Ms rest) (Afc Q c)
theorem Ci {Q:Fv->Ay->Prop} (h:Q .next σ):T Γ A σ (Cm [] env) Q:=λ_ R=>wpAny_execs_nil ⟨σ,R,h⟩
noncomputable def Fb (Γ:Bj) (A:Aw) (env:Env) (rest:List Jr) (Q:Fv->Ay->Prop) (f:Fv) (σ':Ay):Prop:=match f with
 |.next=>T Γ A σ' (Cm rest env) Q
 |f=>Q f σ'
theorem Am {st:Jr} {rest:List Jr} {Q:Fv->Ay->Prop} (h:T Γ A σ (Mx st env) (Fb Γ A env rest Q)):T Γ A σ (Cm (st::rest) env) Q:=λ_ R=>
 wpAny_execs_cons (h.elim R λf s' σ' R' q=>by cases f<;>first|exact q s' R'|exact⟨σ',R',q⟩)
theorem Bl {x:Str} {pos' pos:Pos} {value:Aq} {Q:Fv->Ay->Prop}
  (h:T Γ A σ (Dr value env) (kM (.var env.locals x) .val Q))
  (hk:autoParam (env.scope.kind=.function) aR) (hl:autoParam (env.kindOf x=some .local) aR)
  (hs:autoParam (Lq value (some (.Name x pos')) pos.line env=pure false) aR):T Γ A σ (Mx (.Assign [.Name x pos'] value pos) env) Q:=λ_ R=>
 wpAny_Assign_Name (h.elim R λv _ _ R₁ ⟨_,_,U,q⟩=>(Qv (Q:=λ_=>Q .next) U q hk hl).elim R₁ λ_ _ σ' R' q=>⟨σ',R',q⟩) hs
theorem Ga {x:Str} {c:Ak} {pos' pos:Pos} {value:Aq} {Q:Fv->Ay->Prop} (hc:env.cells.lookup x=some c)
  (h:T Γ A σ (Dr value env) (kM (.obj c) .cell Q))
  (hk:autoParam (env.scope.kind=.function) aR) (hl:autoParam (env.kindOf x=some .cell) aR)
  (hs:autoParam (Lq value (some (.Name x pos')) pos.line env=pure false) aR):T Γ A σ (Mx (.Assign [.Name x pos'] value pos) env) Q:=λ_ R=>
 wpAny_Assign_Name (h.elim R λv _ _ R₁ ⟨_,_,U,q⟩=>(Xf (Q:=λ_=>Q .next) hc U q hk hl).elim R₁ λ_ _ σ' R' q=>⟨σ',R',q⟩) hs
theorem Fj {e:Aq} {pos:Pos} {Q:Fv->Ay->Prop} (h:T Γ A σ (Dr e env) (Ahe Q)):T Γ A σ (Mx (.Return (some e) pos) env) Q:=λ_ R=>
 wpAny_Return_some (h.elim R λ_ _ σ' R' q=>⟨σ',R',q⟩)
theorem dJ {pos:Pos} {Q:Fv->Ay->Prop} (h:Q (.ret .none) σ):T Γ A σ (Mx (.Return none pos) env) Q:=λ_ R=>wpAny_Return_none ⟨σ,R,h⟩
theorem xN {pos:Pos} {Q:Fv->Ay->Prop} (h:Q .brk σ):T Γ A σ (Mx (.Break pos) env) Q:=λ_ R=>wpAny_Break ⟨σ,R,h⟩
theorem cG {pos:Pos} {Q:Fv->Ay->Prop} (h:Q .cont σ):T Γ A σ (Mx (.Continue pos) env) Q:=λ_ R=>wpAny_Continue ⟨σ,R,h⟩
theorem Fy {e:Aq} {pos:Pos} {Q:Fv->Ay->Prop} (h:T Γ A σ (Dr e env) (PVU Q)) (hi:autoParam (interactive env=false) aR) (hs:autoParam (Lq e none pos.line env=pure false) aR):
  T Γ A σ (Mx (.Expr e pos) env) Q:=λ_ R=>wpAny_Expr_any (h.elim R λ_ _ σ' R' q=>⟨σ',R',q⟩) hi hs
theorem Hs {test:Aq} {body orelse:List Jr} {pos:Pos} {Q:Fv->Ay->Prop}
  (h:T Γ A σ (isTrue test env (Dr test env)) (PIf Γ A (Cm body env) (Cm orelse env) Q)):
  T Γ A σ (Mx (.If test body orelse pos) env) Q:=λ_ R=>
 wpAny_If (h.elim R λb s' σ' R' q=>by cases b with|true=>exact q.1 rfl s' R'|false=>exact q.2 rfl s' R')
theorem vE {test:Aq} {msg:Option Aq} {pos:Pos} {Q:Fv->Ay->Prop}
  (h:T Γ A σ (isTrue test env (Dr test env)) (Afa Q)):T Γ A σ (Mx (.Assert test msg pos) env) Q:=λ_ R=>
 wpAny_Assert_holds (h.elim R λ_ _ σ' R' q=>⟨q.1,σ',R',q.2⟩)
theorem Dj {o value:Aq} {attr:Str} {pos' pos:Pos} {Q:Fv->Ay->Prop}
  (h:T Γ A σ (Dr value env) (PR Γ A (Dr o env) (P2 Γ A (λv ov=>setAttr ov attr v) (PU Q))))
  (hs:autoParam (Lq value (some (.Attribute o attr pos')) pos.line env=pure false) aR):T Γ A σ (Mx (.Assign [.Attribute o attr pos'] value pos) env) Q:=λ_ R=>
 plainObj_wpAny_Assign_Attribute (h.elim R λv _ _ R₁ q₁=>q₁.elim R₁ λov _ _ R₂ q₂=>(q₂ v ov rfl rfl).elim R₂ λ_ _ σ' R' q=>⟨σ',R',q⟩) hs
theorem Ky {o i value:Aq} {pos' pos:Pos} {Q:Fv->Ay->Prop}
  (h:T Γ A σ (Dr value env) (PR2 Γ A (Dr o env) (Dr i env) (P3 Γ A (λv ov iv=>setItem ov iv v) (PU Q))))
  (hs:autoParam (Lq value (some (.Subscript o i pos')) pos.line env=pure false) aR):T Γ A σ (Mx (.Assign [.Subscript o i pos'] value pos) env) Q:=λ_ R=>
 wpAny_Assign_Subscript (h.elim R λv _ _ R₁ q₁=>q₁.elim R₁ λov _ _ R₂ q₂=>q₂.elim R₂ λiv _ _ R₃ q₃=>(q₃ v ov iv rfl rfl rfl).elim R₃ λ_ _ σ' R' q=>⟨σ',R',q⟩) hs
theorem nH {o i:Aq} {pos' pos:Pos} {Q:Fv->Ay->Prop}
  (h:T Γ A σ (Dr o env) (PR Γ A (Dr i env) (P2 Γ A delItem (PU Q)))):T Γ A σ (Mx (.Delete [.Subscript o i pos'] pos) env) Q:=λ_ R=>
 wpAny_Delete (wpAny_deleteEach_cons (wpAny_delete_Subscript (h.elim R λov _ _ R₂ q₂=>q₂.elim R₂ λiv _ _ R₃ q₃=>(q₃ ov iv rfl rfl).elim R₃ λ_ _ σ' R' q=>wpAny_deleteEach_nil ⟨σ',R',q⟩)))
theorem Dd {i:Int} {k:Nat} {pos:Pos} {Q:Ab->Ay->Prop} (h:Q (.int i 0) σ):T Γ A σ (Dr (.Constant (.int i) k pos) env) Q:=λ_ R=>wpAny_Constant_int ⟨σ,R.toks _,h⟩
theorem Kg {i:Str} {k:Nat} {pos:Pos} {Q:Ab->Ay->Prop} (h:Q (.str i 0) σ):T Γ A σ (Dr (.Constant (.str i) k pos) env) Q:=λ_ R=>Constant_str ⟨σ,R.toks _,h⟩
theorem Jt {k:Nat} {pos:Pos} {Q:Ab->Ay->Prop} (h:Q .none σ):T Γ A σ (Dr (.Constant .none k pos) env) Q:=λ_ R=>wpAny_Constant_none ⟨σ,R,h⟩
theorem Xu {b:Bool} {k:Nat} {pos:Pos} {Q:Ab->Ay->Prop} (h:Q (.bool b) σ):T Γ A σ (Dr (.Constant (.bool b) k pos) env) Q:=λ_ R=>wpAny_Constant_bool ⟨σ,R,h⟩
theorem Ei {l r:Aq} {op:Operator} {pos:Pos} {Q:Ab->Ay->Prop}
  (h:T Γ A σ (Dr l env) (PR Γ A (Dr r env) (P2 Γ A (Oh op) Q))):T Γ A σ (Dr (.BinOp l op r pos) env) Q:=λ_ R=>
 wpAny_BinOp (h.elim R λu _ _ R₁ q₁=>q₁.elim R₁ λv _ _ R₂ q₂=>(q₂ u v rfl rfl).elim R₂ λ_ _ σ' R' q=>⟨σ',R',q⟩)
theorem Tc {l r:Aq} {op:CmpOp} {pos:Pos} {Q:Ab->Ay->Prop}
  (h:T Γ A σ (Dr l env) (PR Γ A (Dr r env) (P2 Γ A (Eg op) Q)))
  (hm:autoParam (behindInMarks op r=false) aU):T Γ A σ (Dr (.Compare l [op] [r] pos) env) Q:=λ_ R=>
 wpAny_Compare1 (h.elim R λu _ _ R₁ q₁=>q₁.elim R₁ λv _ _ R₂ q₂=>(q₂ u v rfl rfl).elim R₂ λ_ _ σ' R' q=>⟨σ',R',q⟩) hm
theorem Ar {l r:Aq} {op:CmpOp} {pos:Pos} {whole:Sem Ab} {Q:Bool->Ay->Prop}
  (h:T Γ A σ (Dr l env) (PR Γ A (Dr r env) (P2 Γ A (Eg op) (Afe Q))))
  (hm:autoParam (behindInMarks op r=false) aU):T Γ A σ (isTrue (.Compare l [op] [r] pos) env whole) Q:=λ_ R=>
 wpAny_isTrue_Compare1 (h.elim R λu _ _ R₁ q₁=>q₁.elim R₁ λv _ _ R₂ q₂=>(q₂ u v rfl rfl).elim R₂ λw _ σ' R' ⟨b,e,q⟩=>by
  have:=fS e
  subst this
  exact wpAny_truthy_bool ⟨σ',R',q⟩) hm
theorem Nh {x:Aq} {pos:Pos} {whole:Sem Ab} {Q:Bool->Ay->Prop} (h:T Γ A σ (isTrue x env (Dr x env)) (Ahf Q)):T Γ A σ (isTrue (.UnaryOp .Not x pos) env whole) Q:=λ_ R=>
 wpAny_isTrue_Not (h.elim R λ_ _ σ' R' q=>⟨σ',R',q⟩)
theorem Ej {e:Aq} {whole:Sem Ab} {Q:Bool->Ay->Prop} (h:T Γ A σ whole (P1 Γ A Oz Q))
  (he:autoParam (isTrue e env whole=(do let v<-whole;Mr e.pos;holding [v] (Oz v))) aR):T Γ A σ (isTrue e env whole) Q:=λ_ R=>
 wpAny_isTrue_value (h.elim R λv _ _ R₁ q₁=>(q₁ v rfl).elim R₁ λ_ _ σ' R' q=>⟨σ',R',q⟩) he
theorem Ep {op:BoolOp} {values:List Aq} {pos:Pos} {whole:Sem Ab} {Q:Bool->Ay->Prop} (h:T Γ A σ (allTrue op values env) Q):T Γ A σ (isTrue (.BoolOp op values pos) env whole) Q:=λs R=>
 wpAny_isTrue_BoolOp (h s R)
theorem Td {Q:Bool->Ay->Prop} (h:Q true σ):T Γ A σ (allTrue .And [] env) Q:=λ_ R=>wpAny_allTrue_And_nil ⟨σ,R,h⟩
theorem Ws {Q:Bool->Ay->Prop} (h:Q false σ):T Γ A σ (allTrue .Or [] env) Q:=λ_ R=>wpAny_allTrue_Or_nil ⟨σ,R,h⟩
theorem Ex {x:Aq} {rest:List Aq} {Q:Bool->Ay->Prop}
  (h:T Γ A σ (isTrue x env (Dr x env)) (rY Γ A true false (allTrue .And rest env) Q (Q false))):T Γ A σ (allTrue .And (x::rest) env) Q:=λ_ R=>
 wpAny_allTrue_And_cons (h.elim R λb s' σ' R' q=>by cases b with|true=>exact q.1 rfl s' R'|false=>exact⟨σ',R',q.2 rfl⟩)
theorem Po {x:Aq} {rest:List Aq} {Q:Bool->Ay->Prop}
  (h:T Γ A σ (isTrue x env (Dr x env)) (rY Γ A false true (allTrue .Or rest env) Q (Q true))):T Γ A σ (allTrue .Or (x::rest) env) Q:=λ_ R=>
 wpAny_allTrue_Or_cons (h.elim R λb s' σ' R' q=>by cases b with|true=>exact⟨σ',R',q.2 rfl⟩|false=>exact q.1 rfl s' R')
theorem Px {test body orelse:Aq} {pos:Pos} {Q:Ab->Ay->Prop}
  (h:T Γ A σ (isTrue test env (Dr test env)) (PIf Γ A (Dr body env) (Dr orelse env) Q)):T Γ A σ (Dr (.IfExp test body orelse pos) env) Q:=λ_ R=>
 wpAny_IfExp (h.elim R λb s' σ' R' q=>by cases b with|true=>exact q.1 rfl s' R'|false=>exact q.2 rfl s' R')
theorem Iz {value:Aq} {attr:Str} {pos:Pos} {Q:Ab->Ay->Prop}
  (h:T Γ A σ (Dr value env) (P1 Γ A (λo=>Lc o attr true) Q))
  (he:autoParam (Dr (.Attribute value attr pos) env=(do
   let o<-Dr value env
   Mr pos.atName
   let r<-holding [o] (Lc o attr true)
   Gi value o r
   pure r)) aU):T Γ A σ (Dr (.Attribute value attr pos) env) Q:=λ_ R=>
 Attribute_any_ (h.elim R λo _ _ R₁ q₁=>(q₁ o rfl).elim R₁ λ_ _ σ' R' q=>⟨σ',R',q⟩) he
theorem Bd {value slice:Aq} {pos:Pos} {Q:Ab->Ay->Prop}
  (h:T Γ A σ (Dr value env) (PR Γ A (Dr slice env) (P2 Γ A (Fz value slice) Q))):
  T Γ A σ (Dr (.Subscript value slice pos) env) Q:=λ_ R=>
 Subscript_ (h.elim R λo _ _ R₁ q₁=>q₁.elim R₁ λi _ _ R₂ q₂=>(q₂ o i rfl rfl).elim R₂ λ_ _ σ' R' q=>⟨σ',R',q⟩)
theorem Ao {Q:List Ab->Ay->Prop} (h:Q [] σ):T Γ A σ (Ms []) Q:=λ_ R=>Au ⟨σ,R,h⟩
theorem Ag {x:Sem Ab} {rest:List (Bool×Sem Ab)} {Q:List Ab->Ay->Prop}
  (h:T Γ A σ x (Ahd Γ A rest Q)):T Γ A σ (Ms ((false,x)::rest)) Q:=λs R=>by
 have e:Ms ((false,x)::rest)=(x>>=λv=>(pure [v]:Sem (List Ab))>>=λhere=>holding here (Ms rest)>>=λr=>pure (here++r)):=rfl
 rw [e]
 exact Ad (h.elim R λv s₁ σ₁ R₁ q₁=>Ad (Au (Ad (Dz (q₁.elim R₁ λvs s₂ σ₂ R₂ q₂=>Au ⟨σ₂,R₂,q₂⟩)))))
theorem rC {W τ:List As} {vs:List Ab} {Q:Ab->Ay->Prop} (hz:vs.length<=Gg) (h:∀a,Q (.ref a) ⟨W,(.obj a,.list (vs.map cl))::τ⟩):T Γ A ⟨W,τ⟩ (newList vs) Q:=λs R=>
 Et ⟨_,R.push (c:=.list (vs.map cl)) (s':={s with heap:=s.heap.push _}) (λ_ _ e=>Al _ e) rfl rfl ⟨vs.toArray,0,Bg _ rfl,rfl⟩,h _⟩ (by show vs.toArray.size<=Gg;rw [Qi];exact hz)
theorem cA {W τ:List As} {vs:List Ab} {Q:Ab->Ay->Prop} (hz:vs.length<=Gg) (h:∀a,Q (.ref a) ⟨W,(.obj a,.tup (vs.map cl))::τ⟩):T Γ A ⟨W,τ⟩ (newTuple vs) Q:=λs R=>
 Et ⟨_,R.push (c:=.tup (vs.map cl)) (s':={s with heap:=s.heap.push _}) (λ_ _ e=>Al _ e) rfl rfl ⟨vs.toArray,0,Bg _ rfl,rfl⟩,h _⟩ (by show vs.toArray.size<=Gg;rw [Qi];exact hz)
theorem Hv {elts:List Aq} {pos:Pos} {Q:Ab->Ay->Prop}
  (h:T Γ A σ (Ms (backTo pos (Mi elts env))) (Abj .list Q)):T Γ A σ (Dr (.List elts pos) env) Q:=λs R=>
 List_ (h.elim R λvs s₁ σ₁ R₁ ⟨hz,q⟩=>rC (W:=σ₁.W) (τ:=σ₁.τ) (by simpa [cln]using hz) q s₁ R₁)
theorem Kh {elts:List Aq} {k:Nat} {pos:Pos} {Q:Ab->Ay->Prop}
  (h:T Γ A σ (Ms (backTo pos (Mi elts env))) (Abj .tup Q)):T Γ A σ (Dr (.Tuple elts k pos) env) Q:=λs R=>
 Tuple_ (h.elim R λvs s₁ σ₁ R₁ ⟨hz,q⟩=>cA (W:=σ₁.W) (τ:=σ₁.τ) (by simpa [cln]using hz) q s₁ R₁)
end
end
section
section
variable {Γ:Bj} {A:Aw} {σ σ':Ay} {s s':Ba} {env:Env}
structure rZ (Γ:Bj) (A:Aw) (it:Ak) (st:Nat->CO) (vs:List Ab) (G:Ay->Prop):Prop where
 item:∀i v σ,vs[i]? =some v->G σ->T Γ A ⟨σ.W,(.obj it,st i)::σ.τ⟩ (Lk (.ref it)) λr σ'=>r=some v/\σ'=⟨σ.W,(.obj it,st (i+1))::σ.τ⟩
 fin:∀σ,G σ->T Γ A ⟨σ.W,(.obj it,st vs.length)::σ.τ⟩ (Lk (.ref it)) λr σ'=>r=none/\σ'=σ
theorem Eb {W τ:List As} {p q:As} (h:p∈(⟨W,τ⟩:Ay).all):p∈(⟨W,q::τ⟩:Ay).all:=by
 rcases Ai.mp h with x|x
 ·exact Af _ x
 ·exact Aa _ (.tail _ x)
theorem Bs {W τ:List As} {q:As}:q∈(⟨W,q::τ⟩:Ay).all:=Aa _ (.head _)
theorem aM {W τ:List As} {l:Er} {c c':CO}:Iy ⟨W,(l,c)::τ⟩ l c c' ⟨W,(l,c')::τ⟩:=.tau .here
theorem Ea.dropObj {W τ:List As} {a:Ak} {c:CO} (R:Ea Γ ⟨W,(.obj a,c)::τ⟩ s) (hc:c.imm=false) (hx:Io a s.heap s'.heap) (hg:s'.gens=s.gens) (ho:s'.os=s.os):Ea Γ ⟨W,τ⟩ s':=by
 have ha:Γ.h₁.get? a=none:=R.above Bs rfl
 have r7:=R.sep
 have r7':(W++(Er.obj a,c)::τ).Pairwise Tz:=r7
 refine⟨aW R.old ha hx,R.lim.extBut hx ha (Ea.cstat ha),λo e=>hx _ _ (Ea.cstat ha) (R.stat o e),ho.trans R.os,by rw [hg];exact R.bare,λq hq=>?_,?_⟩
 ·exact⟨(R.ents q (Eb hq)).1.ext hx hg (Tz.base_ne (Vm r7' q hq) hc),(R.ents q (Eb hq)).2⟩
 ·exact r7'.sublist (Qe.append (Qe.refl _) (Qk _ _))
theorem getElem?_map_cl {ws:Array Ab} {vs:List Ab} (h:ws.toList.map cl=vs) {i:Nat} {v:Ab} (hv:vs[i]? =some v):∃u,ws[i]? =some u/\cl u=v:=by
 subst h
 rw [Bc,Cw]at hv
 obtain⟨u,hu,e⟩:=hv
 exact⟨u,by rw [<-Array.getElem?_toList];exact hu,e⟩
theorem getElem?_map_none {ws:Array Ab} {vs:List Ab} (h:ws.toList.map cl=vs):ws[vs.length]? =none:=by
 subst h;simp
theorem qM {it a:Ak} {vs:List Ab} (hh:A.handled=none):rZ Γ A it (.liter a) vs λσ=>(.obj a,.list vs)∈σ.all where
 item i v σ hv hm s R:=by
  obtain⟨ws,n,e,ew⟩:=(R.ents _ (Eb hm)).1
  obtain⟨u,hu,eu⟩:=getElem?_map_cl ew hv
  have hit:s.heap.IsListIter it a i:=(R.ents _ Bs).1
  refine wpAny_pyNext_list_item hit ⟨_,e,rfl,n,rfl⟩ hu λh' hi hs=>⟨_,Ea.changeS (s':={s with heap:=h'}) (c':=.liter a (i+1)) R aM rfl hs.extBut rfl rfl hi,?_,rfl⟩
  show some (cl u)=some v
  rw [eu]
 fin σ hm s R:=by
  obtain⟨ws,n,e,ew⟩:=(R.ents _ (Eb hm)).1
  have hit:s.heap.IsListIter it a vs.length:=(R.ents _ Bs).1
  refine wpAny_pyNext_list_end hh hit ⟨_,e,rfl,n,rfl⟩ (getElem?_map_none ew) λh' hx=>⟨σ,Ea.dropObj (s':={s with heap:=h'}) R rfl hx rfl rfl,rfl,rfl⟩
noncomputable def Ew (Γ:Bj) (σ:Ay) (a:Ak) (vs:List Ab):Prop:=∀s,Ea Γ σ s->Li Γ s (.obj a) (.tup vs)
theorem Ew.of_mem {a:Ak} {vs:List Ab} (hm:(.obj a,.tup vs)∈σ.all):Ew Γ σ a vs:=λ_ R=>(R.ents _ hm).1
theorem Ew.le {a:Ak} {vs:List Ab} (h:Ew Γ σ a vs) (e:As.le σ σ'):Ew Γ σ' a vs:=λs R=>h s (e Γ s R)
theorem Ew.of_K {a:Ak} {n:Nat} (h:Γ.K.lookup a=some {cls:=.type "tuple",data:=.seq #[] n}):Ew Γ σ a []:=λ_ R=>⟨#[],n,R.kin _ _ h,rfl⟩
theorem Ew.ext {a:Ak} {vs:List Ab} {W τ ext:List As} (h:Ew Γ ⟨W,τ⟩ a vs):Ew Γ ⟨W,ext++τ⟩ a vs:=h.le (As.le_sub (Bp _ _))
theorem mH {it a:Ak} {vs:List Ab} (hh:A.handled=none):rZ Γ A it (.titer a) vs λσ=>Ew Γ σ a vs where
 item i v σ hv hm s R:=by
  obtain⟨ws,n,e,ew⟩:=hm s (As.le_sub (Qk _ _) _ _ R)
  obtain⟨u,hu,eu⟩:=getElem?_map_cl ew hv
  have hit:s.heap.IsTupleIter it a i:=(R.ents _ Bs).1
  refine wpAny_pyNext_tuple_item hit ⟨_,e,rfl,n,rfl⟩ hu λh' hi hs=>⟨_,Ea.changeS (s':={s with heap:=h'}) (c':=.titer a (i+1)) R aM rfl hs.extBut rfl rfl hi,?_,rfl⟩
  show some (cl u)=some v
  rw [eu]
 fin σ hm s R:=by
  obtain⟨ws,n,e,ew⟩:=hm s (As.le_sub (Qk _ _) _ _ R)
  have hit:s.heap.IsTupleIter it a vs.length:=(R.ents _ Bs).1
  refine wpAny_pyNext_tuple_end hh hit ⟨_,e,rfl,n,rfl⟩ (getElem?_map_none ew) λh' hx=>⟨σ,Ea.dropObj (s':={s with heap:=h'}) R rfl hx rfl rfl,rfl,rfl⟩
theorem Um {W τ:List As} {v:Ab} {a:Ak} {vs:List Ab} {Q:Ab->Ay->Prop} (hv:cl v=.ref a) (hm:(.obj a,.list vs)∈(⟨W,τ⟩:Ay).all) (h:∀it,Q (.ref it) ⟨W,(.obj it,.liter a 0)::τ⟩):T Γ A ⟨W,τ⟩ (Hu v) Q:=λs R=>by
 have:=Cc hv
 subst this
 obtain⟨ws,n,e,ew⟩:=(R.ents _ hm).1
 exact wpAny_pyIter_list ⟨_,e,rfl,n,rfl⟩ ⟨_,R.push (c:=.liter a 0) (s':={s with heap:=s.heap.push _}) (λ_ _ e=>Al _ e) rfl rfl ⟨_,Bg _ rfl,rfl,rfl⟩,h _⟩
theorem Eh {W τ:List As} {a:Ak} {vs:List Ab} {Q:Ab->Ay->Prop} (hm:(.obj a,.list vs)∈(⟨W,τ⟩:Ay).all) (h:∀it,Q (.ref it) ⟨W,(.obj it,.liter a 0)::τ⟩):P1 Γ A Hu Q (.ref a) ⟨W,τ⟩:=λ_ hv=>Um (hv:=hv) (hm:=hm) (h:=h)
theorem Qb {W τ:List As} {v:Ab} {a:Ak} {vs:List Ab} {Q:Ab->Ay->Prop} (hv:cl v=.ref a) (hm:Ew Γ ⟨W,τ⟩ a vs) (h:∀it,Q (.ref it) ⟨W,(.obj it,.titer a 0)::τ⟩):T Γ A ⟨W,τ⟩ (Hu v) Q:=λs R=>by
 have:=Cc hv
 subst this
 obtain⟨ws,n,e,ew⟩:=hm s R
 exact wpAny_pyIter_tuple ⟨_,e,rfl,n,rfl⟩ ⟨_,R.push (c:=.titer a 0) (s':={s with heap:=s.heap.push _}) (λ_ _ e=>Al _ e) rfl rfl ⟨_,Bg _ rfl,rfl,rfl⟩,h _⟩
theorem Hf {W τ:List As} {a:Ak} {vs:List Ab} {Q:Ab->Ay->Prop} (hm:Ew Γ ⟨W,τ⟩ a vs) (h:∀it,Q (.ref it) ⟨W,(.obj it,.titer a 0)::τ⟩):P1 Γ A Hu Q (.ref a) ⟨W,τ⟩:=λ_ hv=>Qb (hv:=hv) (hm:=hm) (h:=h)
theorem Ct {x:Str} {pos:Pos} {u v:Ab} {ov:Option Ab} {Q:Unit->Ay->Prop} (hu:cl u=v) (U:Iy σ (.var env.locals x) (.val ov) (.val (some v)) σ') (h:Q () σ')
  (hk:autoParam (env.scope.kind=.function) aR) (hl:autoParam (env.kindOf x=some .local) aR):T Γ A σ (Ij (.Name x pos) env u) Q:=λs R=>by
 subst hu
 exact wpAny_assign_Name (Qv U h hk hl s R)
theorem Qu {x:Str} {pos:Pos} {u v:Ab} {c:Ak} {ov:Option Ab} {Q:Unit->Ay->Prop} (hu:cl u=v) (hc:env.cells.lookup x=some c) (U:Iy σ (.obj c) (.cell ov) (.cell (some v)) σ') (h:Q () σ')
  (hk:autoParam (env.scope.kind=.function) aR) (hl:autoParam (env.kindOf x=some .cell) aR):T Γ A σ (Ij (.Name x pos) env u) Q:=λs R=>by
 subst hu
 exact wpAny_assign_Name (Xf hc U h hk hl s R)
end
end
section
structure Rm (A:Aw) (n:Nat):Prop where
 depth:A.depth+3 * n < Gy
 units:A.units+20 * n < cLine
theorem Rm.le {A:Aw} {m n:Nat} (h:Rm A n) (k:m<=n):Rm A m:=⟨by have:=h.depth;lia,by have:=h.units;lia⟩
theorem Rm.deeper {A:Aw} {env:Env} {n:Nat} (h:Rm A (n+1)):Rm (A.deeper env) n:=
 ⟨by have:=h.depth;show A.depth+1+3 * n < _;lia,by have:=h.units;show A.units+3+20 * n < _;lia⟩
theorem Rm.in1 {A:Aw} {n:Nat} (h:Rm A (n+1)):Rm A.in1 n:=
 ⟨by have:=h.depth;show A.depth+3 * n < _;lia,by have:=h.units;show A.units+1+20 * n < _;lia⟩
theorem Rm.room {A:Aw} {n:Nat} (h:Rm A n):A.depth < Gy:=by have:=h.depth;lia
section
variable {Γ:Bj} {A:Aw} {σ σ':Ay} {s s':Ba} {env:Env}
theorem oD {ws:List Ab} (h:ws.map cl=[]):ws=[]:=Od.mp h
inductive Ahh (ws:List Ab) (c:Ab) (r:List Ab):Prop
 |mk (w:Ab) (x:List Ab) (e:ws=w::x) (e1:cl w=c) (e2:x.map cl=r)
theorem Zv {ws r:List Ab} {c:Ab} (h:ws.map cl=c::r):Ahh ws c r:=by
 cases ws with
 |nil=>cases h
 |cons w x=>exact⟨w,x,rfl,(Ol h).1,(Ol h).2⟩
inductive Ahl (ws:List Ab) (c:Ab):Prop
 |mk (w:Ab) (e:ws=[w]) (e1:cl w=c)
inductive Ahk (ws:List Ab) (c d:Ab):Prop
 |mk (w x:Ab) (e:ws=[w,x]) (e1:cl w=c) (e2:cl x=d)
inductive Ahj (ws:List Ab) (c d e:Ab):Prop
 |mk (w x y:Ab) (h:ws=[w,x,y]) (e1:cl w=c) (e2:cl x=d) (e3:cl y=e)
inductive Ahi (ws:List Ab) (c d e f:Ab):Prop
 |mk (w x y z:Ab) (h:ws=[w,x,y,z]) (e1:cl w=c) (e2:cl x=d) (e3:cl y=e) (e4:cl z=f)
theorem Ir {ws:List Ab} {c:Ab} (h:ws.map cl=[c]):Ahl ws c:=by
 obtain⟨w,_,rfl,e,k⟩:=Zv h
 exact⟨w,by rw [oD k],e⟩
theorem Jy {ws:List Ab} {c d:Ab} (h:ws.map cl=[c,d]):Ahk ws c d:=by
 obtain⟨w,_,rfl,e,k⟩:=Zv h
 obtain⟨x,rfl,e'⟩:=Ir k
 exact⟨w,x,rfl,e,e'⟩
theorem Us {ws:List Ab} {c d e:Ab} (h:ws.map cl=[c,d,e]):Ahj ws c d e:=by
 obtain⟨w,_,rfl,e,k⟩:=Zv h
 obtain⟨x,y,rfl,e1,e2⟩:=Jy k
 exact⟨w,x,y,rfl,e,e1,e2⟩
theorem Zw {ws:List Ab} {c d e f:Ab} (h:ws.map cl=[c,d,e,f]):Ahi ws c d e f:=by
 obtain⟨w,_,rfl,e,k⟩:=Zv h
 obtain⟨x,y,z,rfl,e1,e2,e3⟩:=Us k
 exact⟨w,x,y,z,rfl,e,e1,e2,e3⟩
noncomputable def Gu (Γ:Bj) (fd:FuncData) (vs:List Ab) (kw:List (Str×Ab)) (bs:List (Str×Ab)):Prop:=
 ∀ws kws,ws.map cl=vs->kws.map (λp:Str×Ab=>(p.1,cl p.2))=kw->∃binds:List (Str×Ab),binds.map (λp=>(p.1,cl p.2))=bs/\∀s:Ba,Γ.K.In s.heap->Fa s fd ⟨ws,kws⟩ binds
noncomputable def Ja (Q:Ab->Ay->Prop) (f:Fv) (σ':Ay):Prop:=∃σ'',As.le σ'' σ'/\Q (match f with|.ret v=>v|_=>.none) σ''
noncomputable def Nt (L:Ak) (names:List Str) (bs:List (Str×Ab)):List As:=names.map λx=>(.var L x,.val (bs.reverse.lookup x))
theorem Oi (x:Str):∀bs:List (Str×Ab),(bs.map λp=>(p.1,cl p.2)).lookup x=(bs.lookup x).map cl
 |[]=>rfl
 |(y,v)::r=>by
  simp only [Cf,List.lookup_cons]
  cases x==y with
  |true=>rfl
  |false=>exact Oi x r
theorem Ta {L:Ak} {bs:List (Str×Ab)}:∀{names:List Str},names.Nodup->(Nt L names bs).Pairwise Tz
 |[],_=>.nil
 |x::r,h=>by
  rw [Ey]at h
  refine .cons (λq hq=>?_) (Ta h.2)
  obtain⟨y,hy,rfl⟩:=Bn.mp hq
  exact .inr (.inr ⟨L,x,y,rfl,rfl,λe=>h.1 (e▸hy)⟩)
theorem Ea.adds {W τ:List As} (R:Ea Γ ⟨W,τ⟩ s):∀l:List As,(∀p∈l,Li Γ s p.1 p.2/\p.1.above Γ.h₁/\∀q∈W++τ,Tz p q)->l.Pairwise Tz->Ea Γ ⟨W,l++τ⟩ s
 |[],_,_=>R
 |p::r,h,k=>by
  rw [Ih]at k
  have R':=Ea.adds R r (λq hq=>h q (.tail _ hq)) k.2
  refine R'.add (h p (.head _)).1 (h p (.head _)).2.1 λq hq=>?_
  rcases Ai.mp hq with x|x
  ·exact(h p (.head _)).2.2 q (Af _ x)
  ·rcases Ai.mp x with x|x
   ·exact k.1 q x
   ·exact(h p (.head _)).2.2 q (Aa _ x)
theorem Nu {α:Type} {M:Model} {t:Sem α} {Q:α->Ba->Prop} {E:Ab->Ba->Prop} (h:Cp M A t Q (λ_ _=>False) s):Cp M A t Q E s:=Dy h (λ_ _ x=>x) λ_ _ x=>x.elim
noncomputable def xO (Γ:Bj) (Q:Ab->Ay->Prop) (r:Kw) (s':Ba):Prop:=match r with
 |.ok (.ret v)=>fB Γ Q (cl v) s'
 |_=>False
noncomputable def TC (Γ:Bj) (A:Aw) (σ:Ay) (f:Ab) (ws:List Ab) (kws:List (Str×Ab)) (Q:Ab->Ay->Prop):Prop:=
 ∀s,Ea Γ σ s->Jz (Cd Γ.prog Γ.w) A (.call f ⟨ws,kws⟩) (xO Γ Q) s
theorem TC.T {f:Ab} {ws:List Ab} {kws:List (Str×Ab)} {Q:Ab->Ay->Prop} (h:TC Γ A σ f ws kws Q):T Γ A σ (call f ws kws) Q:=λs R=>
 Ng (Jg (h s R) λr s' z=>by rcases r with e|(v|_|_|_)<;>first|exact z|exact z.elim)
theorem Oy {W τ:List As} {f:Ak} {oc:Ab} {od:Option Ak} {osl:Array (Option Ab)} {name qual:Str} {params:Arguments} {body:List Jr} {scope:La} {dV kV doc pm cdv ct:Ab} {an:Option Ak} {vs:List Ab} {kw bs:List (Str×Ab)} {Q:Ab->Ay->Prop} (names:List Str)
  (ho:Γ.K.lookup f=some ⟨oc,od,.func (fnX name qual params body scope [] dV kV doc pm an cdv ct),osl⟩) (hcode:codeIn Γ.K cdv qual=true) (hd:A.depth < Gy) (hb:Gu Γ (fnX name qual params body scope [] dV kV doc pm an cdv ct) vs kw bs)
  (h:∀L,T Γ (A.deeper (Gk qual scope L f cdv [])) ⟨W,Nt L names bs++τ⟩ (Cm body (Gk qual scope L f cdv [])) (Ja Q))
  (hcell:autoParam ((scope.names.all λx=>x.2 != .cell)=true) aR) (hloc:autoParam ((bs.all λx=>scope.names.lookup x.1==some .local)=true) aR) (hn:autoParam (names.Nodup) aD)
  (hco:autoParam (scope.isCoroutine=false) aR) (hgen:autoParam (scope.isGenerator=false) aR) (hk:autoParam (scope.kind=.function) aR):
  ∀ws kws,ws.map cl=vs->kws.map (λp:Str×Ab=>(p.1,cl p.2))=kw->TC Γ A ⟨W,τ⟩ (.ref f) ws kws Q:=λws kws hw hkw s R=>by
 obtain⟨binds,eb,hbind⟩:=hb ws kws hw hkw
 refine(codeAny_call_def (fd:=fnX name qual params body scope [] dV kV doc pm an cdv ct) (body:=body) (binds:=binds) hd (R.kin _ _ ho) rfl R.lim.no (codeRec_of R.kin hcode) rfl (hbind s R.kin) (λx hx=>?_) (λx hx=>?_) (λh₀ hns hk₀=>?_) hco hgen hk)
 ·have:=Fu.mp hcell x hx
  simpa using this
 ·have hx':(x.1,cl x.2)∈bs:=eb▸Cv hx
  have:=Fu.mp hloc _ hx'
  simpa using this
 have R₁:Ea Γ ⟨W,τ⟩ {s with heap:=h₀,toks:=s.toks+binds.length}:=R.grow hk₀ rfl rfl
 have R₂:=R₁.adds (Nt s.heap.objs.size names bs) (λp hp=>?_) (Ta hn)
 ·refine Dy (h s.heap.objs.size _ R₂) (λfl s' zz=>?_) λ_ _ x=>x.elim
  obtain⟨σ',R',σ'',le,q⟩:=zz
  refine⟨σ'',le Γ s' R',?_⟩
  cases fl with
  |ret v=>exact q
  |next=>exact q
  |brk=>exact q
  |cont=>exact q
 ·obtain⟨x,hx,rfl⟩:=Bn.mp hp
  refine⟨⟨_,hns,?_⟩,R.freshTop,Jp (σ:=⟨W,τ⟩) (s:=s) rfl (λq hq=>(R.ents q hq).1) (Bx _)⟩
  rw [<-eb,<-List.map_reverse,Oi]
noncomputable def Qn (Γ:Bj) (f:Ab):Prop:=keepIn Γ.K f=true\/(∃i,f=.builtin i)\/∃n,f=.type n
theorem Qn.keeps {f':Ab} (h:Qn Γ f') (R:Γ.K.In s.heap):∃k,(k=Keeper.frame\/k=Keeper.machine\/k=Keeper.boundFrame)/\Looks (Cd Γ.prog Γ.w) s.heap (keeperOf f') k:=by
 rcases h with h|⟨i,rfl⟩|⟨n,rfl⟩
 ·obtain⟨k,a,b⟩:=looks_keep (M:=Cd Γ.prog Γ.w) h R
  exact⟨k,a.elim .inl λe=>.inr (.inl e),b⟩
 ·exact⟨.machine,.inr (.inl rfl),Looks.of_pure rfl⟩
 ·exact⟨.machine,.inr (.inl rfl),Looks.of_pure rfl⟩
end
end
section
section
variable {Γ:Bj} {A:Aw} {σ σ':Ay} {s s':Ba} {env:Env}
theorem Ea.nsOld {a:Ak} {m:Str->Option Ab} (R:Ea Γ σ s) (N:Γ.h₁.Ns a m) (ha:a≠cStatics):s.heap.Ns a m:=by
 obtain⟨o',es,ep,e,d,r⟩:=N
 rcases R.old.old a o' e with x|⟨_,_,vs,_,h,_⟩|⟨h,_⟩
 ·exact⟨o',es,ep,x,d,r⟩
 ·rw [d]at h;cases h
 ·exact absurd h ha
theorem Bk {x:Str} {pos:Pos} {v:Ab} {Q:Ab->Ay->Prop} (e:nsIn Γ.K Gx x=some (some v)) (h:Q (cl v) σ)
  (hg:autoParam (env.globals=Gx) aR) (hk:autoParam (env.scope.kind=.function) aR) (hx:autoParam (env.kindOf x=some .globalImplicit) aR) (hd:autoParam ((x==("__debug__" :Str))=false) aD):T Γ A σ (Dr (.Name x pos) env) Q:=λs R=>
 Name_function_global hk hx (loadGlobal_global (by rw [hg];exact R.nsOld Γ.top.g (by decide)) (mg_of Γ.kin Γ.top.g e) ⟨σ,R,h⟩) hd
theorem Az {x:Str} {pos:Pos} {v:Ab} {Q:Ab->Ay->Prop} (e:nsIn Γ.K Gx x=some none) (hv:bootBuiltins x=some v) (hn:x≠"__name__") (h:Q (cl v) σ)
  (hg:autoParam (env.globals=Gx) aR) (hb:autoParam (env.builtins=Ig) aR) (hk:autoParam (env.scope.kind=.function) aR) (hx:autoParam (env.kindOf x=some .globalImplicit) aR) (hd:autoParam ((x==("__debug__" :Str))=false) aD):T Γ A σ (Dr (.Name x pos) env) Q:=λs R=>
 Name_function_global hk hx (loadGlobal_builtin (by rw [hg];exact R.nsOld Γ.top.g (by decide)) (mg_none_of Γ.kin Γ.top.g e) (by rw [hb];exact R.nsOld Γ.top.b (by decide)) ((Γ.top.builtins x hn).trans hv) ⟨σ,R,h⟩) hd
theorem Yi {f c:Ab} (h:Qn Γ c) (e:cl f=c):f=c:=by
 rcases h with h|⟨i,rfl⟩|⟨n,rfl⟩
 ·unfold keepIn at h
  split at h
  ·exact Cc e
  ·cases h
 ·exact mV e
 ·exact wW e
theorem Xa {M:Model} {E:Ab->Ba->Prop} {f:Ab} {args:List (Bool×Sem Ab)} {Q:Args->Ba->Prop} (hp:args.any (·.1)=false) (h:Cp M A (Ms args) (λvs s'=>Q ⟨vs,[]⟩ s') E s):Cp M A (evalArgs f true args []) Q E s:=by
 match args,hp with
 |[],_=>
  unfold evalArgs
  show Cp M A (Ms []>>=_) Q E s
  refine Ad (Dy h (λvs s' h'=>Ad (Au ?_)) λ_ _ x=>x)
  refine Dz ?_
  exact Ad (Au (Ad (Au (Au h'))))
 |(false,x)::rest,_=>exact evalArgs_plain h
theorem cH {f c:Ab} {first cf:List Ab} {pos:Pos} {args:List (Bool×Sem Ab)} {Q:Ab->Ay->Prop} (hc:Qn Γ c) (hf:cl f=c) (hfirst:first.map cl=cf) (hp:args.any (·.1)=false)
  (h:T Γ A σ (Ms args) λvs σ₂=>∀ws,ws.map cl=cf++vs->T Γ A σ₂ (call c ws) Q):T Γ A σ (callWith pos f first args []) Q:=λs R=>by
 have e:=Yi hc hf
 subst e
 refine callWith_of (P:=λh=>Γ.K.In h) (by rw [hp];rfl) (λh X=>Qn.keeps (Γ:=Γ) (s:={heap:=h}) hc X) (Xa hp (h.elim R λvs s₂ σ₂ R₂ q=>⟨R₂.kin,?_⟩))
 exact(q (first++vs) (by rw [Bh,hfirst];rfl)).elim R₂ λ_ _ σ' R' q=>⟨σ',R',q⟩
noncomputable def kN (Γ:Bj) (A:Aw) (c:Ab) (Q:Ab->Ay->Prop) (vs:List Ab) (σ:Ay):Prop:=∀ws,ws.map cl=vs->T Γ A σ (call c ws) Q
noncomputable def Wc (Γ:Bj) (A:Aw) (c:Ab) (first:List Ab) (Q:Ab->Ay->Prop) (vs:List Ab) (σ:Ay):Prop:=∀ws,ws.map cl=first++vs->T Γ A σ (call c ws) Q
inductive Afd (Γ:Bj) (A:Aw) (args:List (Bool×Sem Ab)) (Q:Ab->Ay->Prop) (c:Ab) (σ:Ay):Prop
 |mk (hc:Qn Γ c) (h:T Γ A σ (Ms args) (kN Γ A c Q))
inductive Afb (Γ:Bj) (A:Aw) (args:List (Bool×Sem Ab)) (Q:Ab->Ay->Prop) (fx:Ab×List Ab) (σ:Ay):Prop
 |mk (hc:Qn Γ fx.1) (h:T Γ A σ (Ms args) (Wc Γ A fx.1 fx.2 Q))
theorem Vs {pos:Pos} {l:List (Bool×Sem Ab)}:(backTo pos l).any (·.1)=l.any (·.1):=by
 unfold backTo
 rw [List.any_map]
 rfl
theorem Bz {id:Str} {p pos:Pos} {args:List Aq} {Q:Ab->Ay->Prop}
  (h:T Γ A σ (Dr (.Name id p) env) (Afd Γ A (backTo pos (Mi args env)) Q))
  (hp:autoParam ((Mi args env).any (·.1)=false) aR):T Γ A σ (Dr (.Call (.Name id p) args [] pos) env) Q:=λs R=>
 wpAny_Call_ofName (h.elim R λf s₁ σ₁ R₁ q=>(cH (cf:=[]) q.1 rfl rfl (Vs.trans hp) q.2).elim R₁ λ_ _ σ' R' q=>⟨σ',R',q⟩)
theorem Fi {o:Aq} {name:Str} {apos pos:Pos} {args:List Aq} {pl:Sem Bool} {Q:Ab->Ay->Prop}
  (h:T Γ A σ (Dr o env) (P1 Γ A (λov=>Ie ov name pl) (Afb Γ A (backTo pos (Mi args env)) Q)))
  (he:autoParam (Dr (.Call (.Attribute o name apos) args [] pos) env=(do
   let ov<-Dr o env
   Mr apos.atName
   let (f,first)<-holding [ov] (Ie ov name pl)
   callWith pos f first (backTo pos (Mi args env)) (backToKw pos (keywordEach [] env)))) aR)
  (hp:autoParam ((Mi args env).any (·.1)=false) aR):T Γ A σ (Dr (.Call (.Attribute o name apos) args [] pos) env) Q:=λs R=>
 methodCall_KW (pl:=pl) (kws:=[]) (h.elim R λov s₁ σ₁ R₁ q₁=>(q₁ ov rfl).elim R₁ λfx s₂ σ₂ R₂ q₂=>(cH q₂.1 rfl rfl (Vs.trans hp) q₂.2).elim R₂ λ_ _ σ' R' q=>⟨σ',R',q⟩) he
theorem Yq {T':String} {name:Str} {id:String} {pl:Sem Bool} {ov:Ab} {a:Ak} {Q:Ab×List Ab->Ay->Prop} (pa:PlainAttrs T') (slot:Slot T' name id) (hty:typeOf (.builtin id)=pure (.type "method_descriptor"))
  (hov:cl ov=.ref a) (ht:∀s,Ea Γ σ s->∃o,s.heap.get? a=some o/\o.cls=.type T'/\o.dict=none) (h:Q (.builtin id,[.ref a]) σ):T Γ A σ (Ie ov name pl) Q:=λs R=>by
 have:=Cc hov
 subst this
 obtain⟨o,ho,hc,hd⟩:=ht s R
 exact getMethod_builtin ⟨o,ho,hc⟩ pa slot hty (λb e=>by cases e;exact⟨o,ho,hd⟩) ⟨σ,R,h⟩
theorem Cz {T':String} {name:Str} {id:String} {pl:Sem Bool} {a:Ak} {Q:Ab×List Ab->Ay->Prop} (pa:PlainAttrs T') (slot:Slot T' name id) (hty:typeOf (.builtin id)=pure (.type "method_descriptor")) (ht:∀s,Ea Γ σ s->∃o,s.heap.get? a=some o/\o.cls=.type T'/\o.dict=none) (h:Q (.builtin id,[.ref a]) σ):P1 Γ A (λo=>Ie o name pl) Q (.ref a) σ:=λ_ hov=>Yq (pa:=pa) (slot:=slot) (hty:=hty) (hov:=hov) (ht:=ht) (h:=h)
theorem Ik {a:Ak} {vs:List Ab} (hm:(.obj a,.list vs)∈σ.all):∀s,Ea Γ σ s->∃o,s.heap.get? a=some o/\o.cls=.type "list" /\o.dict=none:=λs R=>
 let ⟨_,_,e,_⟩:=(R.ents _ hm).1;⟨_,e,rfl,rfl⟩
theorem bG {a:Ak} {vs:List Ab} {v:Ab} {ws:List Ab} {Q:Ab->Ay->Prop} (hw:ws.map cl=[.ref a,v]) (U:Iy σ (.obj a) (.list vs) (.list (vs++[v])) σ') (hz:vs.length<=Gg) (h:Q .none σ'):T Γ A σ (call (.builtin "list.append") ws) Q:=λs R=>by
 obtain⟨w₀,w₁,rfl,e0,e1⟩:=Jy hw
 have:=Cc e0
 subst this
 obtain⟨us,n,e,eu⟩:=(R.ents _ U.mem).1
 refine append_at (its:=us) (n:=n) e (λh' hs ho=>⟨σ',Ea.changeS (s':={s with heap:=h'}) R U rfl hs.extBut rfl rfl ⟨_,_,ho,?_⟩,h⟩) (by rw [<-Array.length_toList,<-Ap (f:=cl),eu];exact hz)
 rw [Array.toList_push,Bh,eu,Cf,e1];rfl
theorem Lo {a:Ak} {vs:List Ab} {v:Ab} {Q:Ab->Ay->Prop} (U:Iy σ (.obj a) (.list vs) (.list (vs++[v])) σ') (hz:vs.length<=Gg) (h:Q .none σ'):Wc Γ A (.builtin "list.append") [.ref a] Q [v] σ:=λ_ hw=>bG (hw:=hw) (U:=U) (hz:=hz) (h:=h)
noncomputable def At (ns:List Int):List Ab:=ns.map λi=>.int i 0
theorem Tm {ws:List Ab} {ns:List Int} (h:ws.map cl=At ns):IntsAre ws ns:=by
 induction ns generalizing ws with
 |nil=>
  have:ws=[]:=by simpa [At]using h
  subst this;exact .nil
 |cons n r ih=>
  match ws,h with
  |w::ws,h=>
   simp only [At,Cf,Ib]at h
   obtain⟨u,rfl⟩:=Ev h.1
   exact IntsAre.cons _ _ (ih h.2)
theorem rJ {u v:Ab} {k:Int} {a:Ak} {ns:List Int} {Q:Ab->Ay->Prop} (hu:cl u=.int k 0) (hv:cl v=.ref a) (hm:(.obj a,.list (At ns))∈σ.all) (h:Q (.bool (ns.any (· ==k))) σ):T Γ A σ (Eg .In u v) Q:=λs R=>by
 obtain⟨t,rfl⟩:=Ev hu
 have:=Cc hv
 subst this
 obtain⟨us,n,e,eu⟩:=(R.ents _ hm).1
 exact in_list_ints (vs:=us.toList) ⟨_,e,rfl,n,rfl⟩ (Tm eu) ⟨σ,R,h⟩
theorem rQ {k:Int} {a:Ak} {ns:List Int} {Q:Ab->Ay->Prop} (hm:(.obj a,.list (At ns))∈σ.all) (h:Q (.bool (ns.any (· ==k))) σ):P2 Γ A (Eg .In) Q (.int k 0) (.ref a) σ:=λ_ _ hu hv=>rJ (hu:=hu) (hv:=hv) (hm:=hm) (h:=h)
theorem gD {u v:Ab} {k:Int} {a:Ak} {ns:List Int} {Q:Ab->Ay->Prop} (hu:cl u=.int k 0) (hv:cl v=.ref a) (hm:(.obj a,.list (At ns))∈σ.all) (h:Q (.bool (!ns.any (· ==k))) σ):T Γ A σ (Eg .NotIn u v) Q:=λs R=>by
 obtain⟨t,rfl⟩:=Ev hu
 have:=Cc hv
 subst this
 obtain⟨us,n,e,eu⟩:=(R.ents _ hm).1
 exact notin_list_ints (vs:=us.toList) ⟨_,e,rfl,n,rfl⟩ (Tm eu) ⟨σ,R,h⟩
theorem Ts {k:Int} {a:Ak} {ns:List Int} {Q:Ab->Ay->Prop} (hm:(.obj a,.list (At ns))∈σ.all) (h:Q (.bool (!ns.any (· ==k))) σ):P2 Γ A (Eg .NotIn) Q (.int k 0) (.ref a) σ:=λ_ _ hu hv=>gD (hu:=hu) (hv:=hv) (hm:=hm) (h:=h)
end
end
section
inductive Of (x:Str) (v:Ab):List (Str×Option Ab)->List (Str×Option Ab)->Prop
 |here {ov r}:Of x v ((x,ov)::r) ((x,some v)::r)
 |there {p r r'}:Of x v r r'->Of x v (p::r) (p::r')
theorem Of.split {x:Str} {v:Ab} {m m':List (Str×Option Ab)} (h:Of x v m m'):∃l₁ l₂ ov,m=l₁++(x,ov)::l₂/\m'=l₁++(x,some v)::l₂:=by
 induction h with
 |here=>exact⟨[],_,_,rfl,rfl⟩
 |there _ ih=>obtain⟨l₁,l₂,ov,rfl,rfl⟩:=ih;exact⟨_::l₁,l₂,ov,rfl,rfl⟩
theorem oA (x:Str) (hs:Int) (key v:Ab) (hk:∀y,key.isStr y=(x==y)) (y:Str):∀es:List Nw,(∀e∈es,∃s t,e.key=.str s t)->kC (putL x hs key v es) y=if x=y then some v else kC es y
 |[],_=>by
  unfold kC putL
  simp only [Hh,List.find?_nil,hk]
  by_cases h:x=y
  ·simp [h]
  ·have hb:(x==y)=false:=by simpa using h
   simp [hb,h]
 |e::r,hst=>by
  have ih:=oA x hs key v hk y r λe he=>hst e (.tail _ he)
  obtain⟨s,t,es⟩:=hst e (.head _)
  unfold putL
  by_cases h:e.key.isStr x=true
  ·rw [if_pos h]
   have hsx:s=x:=by rw [es]at h;simpa [Ab.isStr]using h
   unfold kC
   simp only [Hh,es,Ab.isStr,hsx]
   by_cases hxy:x=y
   ·simp [hxy]
   ·have hb:(x==y)=false:=by simpa using hxy
    simp only [hb,if_neg hxy]
  ·rw [if_neg h]
   unfold kC at ih ⊢
   simp only [Hh]
   cases hq:e.key.isStr y with
   |true=>
    have hsy:s=y:=by rw [es]at hq;simpa [Ab.isStr]using hq
    have hsx:s≠x:=by rw [es]at h;simpa [Ab.isStr]using h
    simp [show x≠y from λe=>hsx (by rw [hsy,e])]
   |false=>simpa using ih
theorem iC (x:Str) (hs:Int) (t:Tok) (v:Ab):∀es:List Nw,(∀e∈es,∃s t,e.key=.str s t)->∀e∈putL x hs (.str x t) v es,∃s t,e.key=.str s t
 |[],_=>by
  intro e he
  simp only [putL,Be]at he
  exact⟨x,t,by rw [he]⟩
 |e::r,hst=>by
  intro e' he
  unfold putL at he
  split at he
  ·rcases Ce.mp he with rfl|he
   ·exact hst e (.head _)
   ·exact hst e' (.tail _ he)
  ·rcases Ce.mp he with rfl|he
   ·exact hst _ (.head _)
   ·exact iC x hs t v r (λe he=>hst e (.tail _ he)) e' he
theorem Yz (x:Str) (hs:Int) (key v:Ab):∀es:List Nw,(putL x hs key v es).length=if(kC es x).isSome then es.length else es.length+1
 |[]=>rfl
 |e::r=>by
  have ih:=Yz x hs key v r
  unfold kC at *
  unfold putL
  by_cases h:e.key.isStr x=true
  ·rw [if_pos h,Hh,h];simp
  ·rw [if_neg h,Hh,(by simpa using h:e.key.isStr x=false),Ft,ih]
   dsimp only
   split<;>rfl
theorem vJ.keyed {m:List (Str×Option Ab)} {es:List Nw} (N:vJ m es):es.any (·.refKey)=false:=by
 rw [List.any_eq_false]
 intro e he
 obtain⟨s,t,q⟩:=N.str e he
 simp [Nw.refKey,q]
theorem vJ.get {m:List (Str×Option Ab)} {es:List Nw} (N:vJ m es) (x:Str):getL x es=some (kC es x):=by
 unfold getL kC
 cases h:es.find? (·.key.isStr x)with
 |some e=>rfl
 |none=>simp [N.keyed]
theorem vJ.put {x:Str} {v u:Ab} {m m':List (Str×Option Ab)} {es:List Nw} (N:vJ m es) (hv:cl u=v) (U:Of x v m m') (hs:Int) (t:Tok):vJ m' (putL x hs (.str x t) u es):=by
 obtain⟨l₁,l₂,ov,rfl,rfl⟩:=U.split
 have hk:∀y,(Ab.str x t).isStr y=(x==y):=λy=>rfl
 have nv:=λy=>oA x hs (.str x t) u hk y es N.str
 have hx:(kC es x).map cl=ov:=N.val (x,ov) (Aa _ (.head _))
 have dup:=N.dup
 have dup':(((l₁++(x,some v)::l₂)).map (·.1)).Nodup:=by simpa using dup
 refine⟨iC x hs t u es N.str,dup',?_,λp hp=>?_,λy hy=>?_⟩
 ·rw [Yz]
  have hz:=N.size
  simp only [Ez,Gj,Ah]at hz ⊢
  cases q:kC es x with
  |some w=>
   rw [q]at hx
   subst hx
   simpa using hz
  |none=>
   rw [q]at hx
   subst hx
   simp at hz ⊢
   lia
 ·rw [nv]
  have hne:∀q∈l₁++l₂,q.1≠x:=by
   intro q hq e
   rw [Bh,Cf]at dup
   have:=(Hz.mp dup)
   rcases Ai.mp hq with h|h
   ·exact this.2.2 q.1 (Cv h) x (.head _) e
   ·have h2:=(Ey.mp this.2.1).1
    have h3:q.1∈l₂.map Prod.fst:=Cv h
    rw [e]at h3
    exact h2 h3
  have old:∀q∈l₁++l₂,(if x=q.1 then some u else kC es q.1).map cl=q.2:=by
   intro q hq
   rw [if_neg (Ld (hne q hq))]
   apply N.val
   rcases Ai.mp hq with h|h
   ·exact Af _ h
   ·exact Aa _ (.tail _ h)
  rcases Ai.mp hp with h|h
  ·exact old p (Af _ h)
  ·rcases Ce.mp h with rfl|h
   ·simp [hv]
   ·exact old p (Aa _ h)
 ·rw [nv]
  rw [if_neg]
  ·exact N.out y (by simpa using hy)
  ·rintro rfl
   simp at hy
noncomputable def Zl (K:Frag) (C:Ak) (name:Str):Bool:=plainGet K C name&&Pl K C&&(match findIn K (.ref C) name with|some attr=>noGet K attr|none=>false)
noncomputable def gO (K:Frag) (C:Ak) (name:Str) (a:Ab):Bool:=plainGet K C name&&Pl K C&&findIn K (.ref C) name==some (some a)&&Pj K a "__get__" ==some none&&Ln a&&!copiedNames.contains name
noncomputable def Sh (K:Frag) (C:Ak) (name:Str) (f:Ak):Bool:=plainGet K C name&&findIn K (.ref C) name==some (some (.ref f))&&isFn K (.ref f)
noncomputable def dR (K:Frag) (C:Ak) (name:Str) (p fget:Ak):Bool:=plainGet K C name&&Pl K C&&findIn K (.ref C) name==some (some (.ref p))&&Pj K (.ref p) "__get__" ==some (some (.builtin "property.__get__"))&&takesIn K (.ref p)==some true&&
 (match recIn K p "property" with|some (.ref f::_)=>f==fget|_=>false)
noncomputable def Uy (K:Frag) (C:Ak) (name:Str):Bool:=findIn K (.ref C) "__setattr__" ==some (some (.builtin "object.__setattr__"))&&plainOver K C&&takerIn K C name==some none&&Pl K C
section
variable {Γ:Bj} {A:Aw} {σ σ':Ay} {s s':Ba} {env:Env}
inductive Aae (s:Ba) (x C d:Ak) (m:List (Str×Option Ab)):Prop
 |mk (es:List Nw) (n:Nat) (h1:vJ m es) (h2:s.heap.get? d=some (dictOf es n)) (h3:InstAt s.heap x (Ot C d) C (some (dictOf es n)))
theorem Sk {x C d:Ak} {m:List (Str×Option Ab)} (R:Ea Γ σ s) (hx:(.obj x,.inst C d)∈σ.all) (hd:(.obj d,.ns m)∈σ.all):Aae s x C d m:=by
 obtain⟨es,n,e,N⟩:=(R.ents _ hd).1
 exact⟨es,n,N,e,(R.ents _ hx).1,rfl,rfl,e⟩
theorem eR {u v:Ab} (h:cl u=v) (hv:Ln v=true):Ln u=true:=by
 subst h;cases u<;>exact hv
set_option tactic.hygienic true in
theorem Qp {x C d:Ak} {name:Str} {ov v:Ab} {m:List (Str×Option Ab)} {expr:Bool} {Q:Ab->Ay->Prop} (ho:cl ov=.ref x) (hx:(.obj x,.inst C d)∈σ.all) (hd:(.obj d,.ns m)∈σ.all)
  (hk:Zl Γ.K C name=true) (hm:(name,some v)∈m) (h:Q v σ) (hv:autoParam (Ln v=true) aR):T Γ A σ (Lc ov name expr) Q:=λs R=>by
 have:=Cc ho
 subst this
 obtain⟨es,n,N,e,I⟩:=Sk R hx hd
 unfold Zl at hk
 simp only [Cy]at hk
 obtain⟨⟨k1,k2⟩,k3⟩:=hk
 have hval:=N.val _ hm
 cases q:kC es name with
 |none=>rw [q]at hval;cases hval
 |some u=>
  rw [q]at hval
  have hu:cl u=v:=Dh hval
  split at k3
  ·rename_i attr ha
   refine get_value R.kin I (Kj k1).1 (findObj_own k2 ha k3 (by rw [lookIn_dict,N.get,q])) (eR hu hv) ⟨σ,R.toks _,?_⟩
   show Q (cl u) σ
   rw [hu];exact h
  ·cases k3
theorem Pq {x C d:Ak} {name:Str} {v:Ab} {m:List (Str×Option Ab)} {expr:Bool} {Q:Ab->Ay->Prop} (hx:(.obj x,.inst C d)∈σ.all) (hd:(.obj d,.ns m)∈σ.all) (hk:Zl Γ.K C name=true) (hm:(name,some v)∈m) (h:Q v σ) (hv:autoParam (Ln v=true) aR):P1 Γ A (λo=>Lc o name expr) Q (.ref x) σ:=λ_ ho=>Qp (ho:=ho) (hx:=hx) (hd:=hd) (hk:=hk) (hm:=hm) (h:=h) (hv:=hv)
theorem Ux {x C d:Ak} {name:Str} {ov a:Ab} {m:List (Str×Option Ab)} {expr:Bool} {Q:Ab->Ay->Prop} (ho:cl ov=.ref x) (hx:(.obj x,.inst C d)∈σ.all) (hd:(.obj d,.ns m)∈σ.all)
  (hk:gO Γ.K C name a=true) (hm:(name,none)∈m\/name∉m.map (·.1)) (h:Q (cl a) σ):T Γ A σ (Lc ov name expr) Q:=λs R=>by
 have:=Cc ho
 subst this
 obtain⟨es,n,N,e,I⟩:=Sk R hx hd
 unfold gO at hk
 simp only [Cy,beq_iff_eq,Mv]at hk
 obtain⟨⟨⟨⟨⟨k1,k2⟩,k3⟩,k4⟩,k5⟩,k6⟩:=hk
 have hno:kC es name=none:=by
  rcases hm with hm|hm
  ·simpa using N.val _ hm
  ·exact N.out _ hm
 exact get_value R.kin I (Kj k1).1 (findObj_cls k2 k3 k4 k5 k6 (by rw [lookIn_dict,N.get,hno])) k5 ⟨σ,R.toks _,h⟩
theorem fA {x C d:Ak} {name:Str} {a:Ab} {m:List (Str×Option Ab)} {expr:Bool} {Q:Ab->Ay->Prop} (hx:(.obj x,.inst C d)∈σ.all) (hd:(.obj d,.ns m)∈σ.all) (hk:gO Γ.K C name a=true) (hm:(name,none)∈m\/name∉m.map (·.1)) (h:Q (cl a) σ):P1 Γ A (λo=>Lc o name expr) Q (.ref x) σ:=λ_ ho=>Ux (ho:=ho) (hx:=hx) (hd:=hd) (hk:=hk) (hm:=hm) (h:=h)
theorem Tp {x C d f:Ak} {name:Str} {ov:Ab} {m:List (Str×Option Ab)} {pl:Sem Bool} {Q:Ab×List Ab->Ay->Prop} (ho:cl ov=.ref x) (hx:(.obj x,.inst C d)∈σ.all) (hd:(.obj d,.ns m)∈σ.all)
  (hk:Sh Γ.K C name f=true) (hm:name∉m.map (·.1)) (h:Q (.ref f,[.ref x]) σ):T Γ A σ (Ie ov name pl) Q:=λs R=>by
 have:=Cc ho
 subst this
 obtain⟨es,n,N,e,I⟩:=Sk R hx hd
 unfold Sh at hk
 simp only [Cy,beq_iff_eq]at hk
 obtain⟨⟨k1,k2⟩,k3⟩:=hk
 exact method_fn R.kin I (Kj k1).1 (Kj k1).2 k2 (beq_iff_eq.mp k3) (by show(lookIn name (dictOf es n)).map _=_;rw [lookIn_dict,N.get,N.out _ hm];rfl) ⟨σ,R,h⟩
theorem Pd {x C d f:Ak} {name:Str} {m:List (Str×Option Ab)} {pl:Sem Bool} {Q:Ab×List Ab->Ay->Prop} (hx:(.obj x,.inst C d)∈σ.all) (hd:(.obj d,.ns m)∈σ.all) (hk:Sh Γ.K C name f=true) (hm:name∉m.map (·.1)) (h:Q (.ref f,[.ref x]) σ):P1 Γ A (λo=>Ie o name pl) Q (.ref x) σ:=λ_ ho=>Tp (ho:=ho) (hx:=hx) (hd:=hd) (hk:=hk) (hm:=hm) (h:=h)
set_option tactic.hygienic true in
theorem cF {x C d p f:Ak} {name:Str} {ov:Ab} {m:List (Str×Option Ab)} {expr:Bool} {Q:Ab->Ay->Prop} (ho:cl ov=.ref x) (hx:(.obj x,.inst C d)∈σ.all) (hd:(.obj d,.ns m)∈σ.all)
  (hk:dR Γ.K C name p f=true) (h:TC Γ A.in1 σ (.ref f) [.ref x] [] λv σ'=>Ln v=true/\Q v σ'):T Γ A σ (Lc ov name expr) Q:=λs R=>by
 have:=Cc ho
 subst this
 obtain⟨es,n,N,e,I⟩:=Sk R hx hd
 unfold dR at hk
 simp only [Cy,beq_iff_eq]at hk
 obtain⟨⟨⟨⟨⟨k1,k2⟩,k3⟩,k4⟩,k5⟩,k6⟩:=hk
 split at k6
 ·rename_i f' rest hr
  have:=beq_iff_eq.mp k6
  subst this
  refine get_bind R.kin I (Kj k1).1 (findObj_data (by obtain⟨cd,hc,_⟩:=any_some k2;rw [hc];rfl) k3 k4 k5) (Kj k1).2 (Ng (prop_get (s:={s with toks:=s.toks+1}) (R.kin) hr ?_))
  refine Jg (h _ (R.toks (s.toks+1))) λr s' z=>?_
  rcases r with e|(v|_|_|_)<;>try exact z.elim
  obtain⟨σ',R',q1,q2⟩:=z
  exact handed_on (eR rfl q1) ⟨σ',R',q2⟩
 ·cases k6
theorem cJ {x C d p f:Ak} {name:Str} {m:List (Str×Option Ab)} {expr:Bool} {Q:Ab->Ay->Prop} (hx:(.obj x,.inst C d)∈σ.all) (hd:(.obj d,.ns m)∈σ.all) (hk:dR Γ.K C name p f=true) (h:TC Γ A.in1 σ (.ref f) [.ref x] [] λv σ'=>Ln v=true/\Q v σ'):P1 Γ A (λo=>Lc o name expr) Q (.ref x) σ:=λ_ ho=>cF (ho:=ho) (hx:=hx) (hd:=hd) (hk:=hk) (h:=h)
theorem Vt {x C d:Ak} {name:Str} {ov u v:Ab} {m m':List (Str×Option Ab)} {Q:Unit->Ay->Prop} (ho:cl ov=.ref x) (hu:cl u=v) (hx:(.obj x,.inst C d)∈σ.all)
  (U:Iy σ (.obj d) (.ns m) (.ns m') σ') (hm:Of name v m m') (hk:Uy Γ.K C name=true) (h:Q () σ') (hz:m.length<=1000:=by exact By rfl):T Γ A σ (setAttr ov name u) Q:=λs R=>by
 have:=Cc ho
 subst this
 obtain⟨es,n,N,e,I⟩:=Sk R hx U.mem
 unfold Uy at hk
 simp only [Cy,beq_iff_eq]at hk
 obtain⟨⟨⟨k1,k2⟩,k3⟩,k4⟩:=hk
 refine set_plain R.kin I k1 ?_
 have R1:=R.toks (s.toks+1)
 have I1:InstAt ({s with toks:=s.toks+1}:Ba).heap x (Ot C d) C (some (dictOf es n)):=I
 refine osa_open (s:={s with toks:=s.toks+1}) R.kin I1 k2 k3 λb=>?_
 obtain⟨cd,hc,hd'⟩:=any_some k4
 obtain⟨hx', -, -, -⟩:=I
 refine Ad (Au (Ad (Ad (Nl hx' (Ad ((looks_clsIn R1.kin hc).here ?_))))))
 rw [hd']
 refine Au (a:=some d) (Ad (Au (Ad ?_)))
 unfold nsSet
 refine Ad (Ad (Ny (Au (Ad (wpAny_mkText (Ad (Nl e ?_)))))))
 dsimp only
 have c:(!es.toArray.any (·.key.isStr name)&&es.toArray.any (·.refKey))=false:=by
  rw [<-Nz,<-Nz]
  show(!es.any _&&es.any _)=false
  rw [N.keyed,Bool.and_false]
 rw [aRefKeyMayBeTheName_at,c]
 have N':=N.put hu hm (Ip Γ.w.params name) (s.toks+1)
 have hf:=putName_dict name (Ip Γ.w.params name) (.str name (s.toks+1)) u es n
 have D':(s.heap.update d (Obj.putName name (Ip Γ.w.params name) (.str name (s.toks+1)) u)).get? d=some (dictOf (putL name (Ip Γ.w.params name) (.str name (s.toks+1)) u es) (putN name es n)):=by
  rw [<-hf]
  exact Dv _ e (by rw [hf];rfl)
 refine wpAny_updatePart e ?_
 refine Ad (wpAny_lookBehind D' (pastItsLine_dict (by
  rw [Qi,Av]
  have h1:=N'.size
  have h2:(m'.filter λp=>p.2.isSome).length<=m'.length:=Bu _ _
  have h3:m'.length=m.length:=by obtain⟨l₁,l₂,_,rfl,rfl⟩:=hm.split;simp
  lia)) ?_)
 exact Au ⟨σ',Ea.changeS (s':={s with heap:=s.heap.update d _,toks:=s.toks+1+1}) R U rfl (Dg ..).extBut rfl rfl ⟨_,_,D',N'⟩,h⟩
theorem Gp {x C d:Ak} {name:Str} {v:Ab} {m m':List (Str×Option Ab)} {Q:Unit->Ay->Prop} (hx:(.obj x,.inst C d)∈σ.all) (U:Iy σ (.obj d) (.ns m) (.ns m') σ') (hm:Of name v m m') (hk:Uy Γ.K C name=true) (h:Q () σ') (hz:m.length<=1000:=by exact By rfl):P2 Γ A (λv o=>setAttr o name v) Q v (.ref x) σ:=λ_ _ hu ho=>Vt (ho:=ho) (hu:=hu) (hx:=hx) (U:=U) (hm:=hm) (hk:=hk) (h:=h) (hz:=hz)
theorem aB {C fI:Ak} {W τ:List As} {ws:List Ab} {kws:List (Str×Ab)} {Q:Ab->Ay->Prop} (m:List (Str×Option Ab)) (hm:makesIn Γ.K C=true) (hi:(findIn Γ.K (.ref C) "__init__" ==some (some (.ref fI))&&isFn Γ.K (.ref fI))=true)
  (hn:(m.map (·.1)).Nodup) (hv:∀p∈m,p.2=none)
  (h:∀x d,TC Γ (A.under (.builtin "type.__call__" ⟨.ref C::ws,kws⟩)) ⟨W,(.obj d,.ns m)::(.obj x,.inst C d)::τ⟩ (.ref fI) (.ref x::ws) kws λv σ'=>v=.none/\Q (.ref x) σ'):TC Γ A ⟨W,τ⟩ (.ref C) ws kws Q:=λs R=>by
 simp only [Cy,beq_iff_eq]at hi
 have R1:Ea Γ ⟨W,(.obj s.heap.objs.size,.ns m)::τ⟩ {s with heap:=s.heap.push Pn}:=
  R.push (λ_ _ e=>Al _ e) rfl rfl ⟨[],0,Bg _ rfl,⟨λ_ he=>(by cases he),hn,Ca _,λp hp=>by rw [hv p hp];rfl,λ_ _=>rfl⟩⟩
 have R2:Ea Γ ⟨W,(.obj (s.heap.objs.size+1),.inst C s.heap.objs.size)::(.obj s.heap.objs.size,.ns m)::τ⟩ {s with heap:=(s.heap.push Pn).push (Ot C s.heap.objs.size)}:=by
  have:=R1.push (c:=.inst C s.heap.objs.size) (s':={s with heap:=(s.heap.push Pn).push (Ot C s.heap.objs.size)}) (λ_ _ e=>Al _ e) rfl rfl (Bg _ rfl)
  rwa [show({s with heap:=s.heap.push Pn}:Ba).heap.objs.size=s.heap.objs.size+1 from Iq ..]at this
 have R3:=As.le_perm (σ':=⟨W,(.obj s.heap.objs.size,.ns m)::(.obj (s.heap.objs.size+1),.inst C s.heap.objs.size)::τ⟩) (Bb W (Bv.swap ..)) _ _ R2
 obtain⟨hh,g,d,t,os⟩:=s
 refine make_core (makes_of R.kin hm) (looks_findIn R.kin hi.1) (λself=>bind_fn R.kin self (beq_iff_eq.mp hi.2)) (.inl rfl) (Jg (h _ _ _ R3) λr s' z=>?_)
 rcases r with e|(v|_|_|_)<;>first|exact z.elim|skip
 obtain⟨σ',R',e,q⟩:=z
 exact⟨Tj e,σ',R',q⟩
end
end
section
theorem Qw.pre {τ τ' ρ:List As} {l:Er} {c c':CO} (h:Qw τ l c c' τ'):Qw (ρ++τ) l c c' (ρ++τ'):=h.prepend ρ
section
variable {Γ:Bj} {A:Aw} {σ σ':Ay} {s s':Ba} {env:Env}
noncomputable def Lb (Γ:Bj) (A:Aw) (it:Ak) (G:Ay->Prop):List Ab->List As->Prop
 |[],ρ=>∀σ,G σ->T Γ A ⟨σ.W,ρ++σ.τ⟩ (Lk (.ref it)) λr σ'=>r=none/\σ'=σ
 |v::vs,ρ=>∀σ,G σ->T Γ A ⟨σ.W,ρ++σ.τ⟩ (Lk (.ref it)) λr σ'=>r=some v/\∃ρ',σ'=⟨σ.W,ρ'++σ.τ⟩/\(∀target u,T Γ A σ' (Dn target (.ref it) u) λ_ σ''=>σ''=σ')/\Lb Γ A it G vs ρ'
theorem Lb.stop {W τ ρ:List As} {it:Ak} {G:Ay->Prop} {K:Option Ab->Ba->Prop} {E:Ab->Ba->Prop} (Y:Lb Γ A it G [] ρ) (hG:G ⟨W,τ⟩) (R:Ea Γ ⟨W,ρ++τ⟩ s) (k:∀s',Ea Γ ⟨W,τ⟩ s'->K none s'):Cp (Cd Γ.prog Γ.w) A (Lk (.ref it)) K E s:=
 (Y ⟨W,τ⟩ hG).one R λv s' e R'=>by
  cases v with
  |none=>exact k s' R'
  |some _=>cases e
theorem Lb.more {W τ ρ:List As} {it:Ak} {G:Ay->Prop} {v:Ab} {vs:List Ab} {K:Option Ab->Ba->Prop} {E:Ab->Ba->Prop} (Y:Lb Γ A it G (v::vs) ρ) (hG:G ⟨W,τ⟩) (R:Ea Γ ⟨W,ρ++τ⟩ s)
  (k:∀u ρ' s',cl u=v->Ea Γ ⟨W,ρ'++τ⟩ s'->(∀target w,T Γ A ⟨W,ρ'++τ⟩ (Dn target (.ref it) w) λ_ σ''=>σ''=⟨W,ρ'++τ⟩)->Lb Γ A it G vs ρ'->K (some u) s'):Cp (Cd Γ.prog Γ.w) A (Lk (.ref it)) K E s:=
 (Y ⟨W,τ⟩ hG).elim R λv s' _ R' ⟨e,ρ',e',go,Y'⟩=>by
  subst e'
  cases v with
  |none=>cases e
  |some u=>exact k u ρ' s' (Dh e) R' go Y'
noncomputable def Vp:List String:=["enumerate","zip","dict_itemiterator","dict_reverseitemiterator","odict_iterator","itertools.zip_longest","itertools.pairwise"]
theorem Wn {M:Model} {r:Ak} {o:Obj} {n:String} {target:Aq} {u:Ab} {Q:Unit->Ba->Prop} {E:Ab->Ba->Prop} (ho:s.heap.get? r=some o) (hc:o.cls=.type n) (hn:Vp.contains n=false) (h:Q () s):Cp M A (Dn target (.ref r) u) Q E s:=by
 have e:∀a,Cp M A (do
   let o<-load r
   match o.cls,o.data with
   |.type n,.fields vs=>
    if Vp.contains n&&vs[0]? ==some (Kb a)then
     rule "for.unpacks-the-owned-tuple"
     updateField r 0 .none
   |_,_=>pure ()) Q E s:=by
  intro a
  refine Ad (wpAny_load ho ?_)
  rw [hc]
  cases o.data with
  |fields vs=>
   simp only [hn,Bool.false_and,Hl,if_false]
   exact Au h
  |_=>exact Au h
 cases target with
 |Tuple a b c=>
  cases u with
  |ref a=>exact e a
  |_=>exact Au h
 |List a b=>
  cases u with
  |ref a=>exact e a
  |_=>exact Au h
 |_=>exact Au h
theorem rZ.feed {it:Ak} {st:Nat->CO} {vs:List Ab} {G:Ay->Prop} (Y:rZ Γ A it st vs G) (hp:∀i s,Li Γ s (.obj it) (st i)->∃o n,s.heap.get? it=some o/\o.cls=.type n/\Vp.contains n=false):∀(r:List Ab) (i:Nat),r=vs.drop i->i<=vs.length->Lb Γ A it G r [(.obj it,st i)]
 |[],i,e,hi=>λσ hG=>by
  have:i=vs.length:=Nat.le_antisymm hi (by simpa using(List.drop_eq_nil_iff.mp e.symm))
  subst this
  exact Y.fin σ hG
 |v::r,i,e,hi=>λσ hG=>by
  have hlt:i < vs.length:=by
   rcases Nx i vs.length with h|h
   ·exact h
   ·rw [List.drop_eq_nil_of_le h]at e;cases e
  rw [List.drop_eq_getElem_cons hlt,Ib]at e
  refine(Y.item i v σ (by rw [Bm hlt,e.1]) hG).mono λr' σ' ⟨h1,h2⟩=>⟨h1,_,h2,λtarget u=>by
   subst h2
   intro s R
   obtain⟨o,n,ho,hc,hn⟩:=hp (i+1) s (R.ents _ Bs).1
   exact Wn ho hc hn ⟨_,R,rfl⟩,Y.feed hp r (i+1) e.2 hlt⟩
theorem Es {it a:Ak} {vs:List Ab} (hh:A.handled=none):Lb Γ A it (λσ=>(.obj a,.list vs)∈σ.all) vs [(.obj it,.liter a 0)]:=(qM hh).feed (λi s ⟨o,ho,hc,_⟩=>⟨o,_,ho,hc,by decide⟩) vs 0 rfl (Ca _)
theorem Hd {it a:Ak} {vs:List Ab} (hh:A.handled=none):Lb Γ A it (λσ=>Ew Γ σ a vs) vs [(.obj it,.titer a 0)]:=(mH hh).feed (λi s ⟨o,ho,hc,_⟩=>⟨o,_,ho,hc,by decide⟩) vs 0 rfl (Ca _)
noncomputable def PGo {α β:Type} [Xm β] (Γ:Bj) (A:Aw) (t:Sem β) (Q:β->Ay->Prop) (_:α) (σ:Ay):Prop:=T Γ A σ t Q
inductive nR (ρ:List As) (I:Ay->Prop) (σ:Ay):Prop
 |mk (W τ:List As) (le:As.le ⟨W,ρ++τ⟩ σ) (i:I ⟨W,τ⟩)
noncomputable def dT (Γ:Bj) (ρ:List As) (I:Ay->Prop) (Q:Fv->Ay->Prop) (f:Fv) (σ':Ay):Prop:=match f with
 |.next|.cont=>nR ρ I σ'
 |.brk=>Q .next σ'
 |.ret v=>Q (.ret v) σ'
inductive sY (Γ:Bj) (A:Aw) (it:Ak) (G:Ay->Prop) (I:List Ab->Ay->Prop) (vs:List Ab) (n:Nat) (s:Ba):Prop
 |mk (d r:List Ab) (ρ:List As) (σ:Ay) (R:Ea Γ ⟨σ.W,ρ++σ.τ⟩ s) (Y:Lb Γ A it G r ρ) (i:I d σ) (e:d++r=vs) (hn:n=r.length)
theorem xI {it:Ak} {vs:List Ab} {ρ:List As} {G:Ay->Prop} (Y:Lb Γ A it G vs ρ) {target:Aq} {body orelse:List Jr} {Q:Fv->Ay->Prop} (I:List Ab->Ay->Prop)
  (h0:I [] σ) (hG:∀d σ,I d σ->G σ)
  (turn:∀d v r u ρ' σ,d++v::r=vs->cl u=v->I d σ->∀K:Fv->Ay->Prop,(∀f σ',dT Γ ρ' (I (d++[v])) Q f σ'->K f σ')->T Γ A ⟨σ.W,ρ'++σ.τ⟩ (Ij target env u) (PGo Γ A (Cm body env) K))
  (done:∀σ,I vs σ->T Γ A σ (Cm orelse env) Q) (R:Ea Γ ⟨σ.W,ρ++σ.τ⟩ s):
  Jz (Cd Γ.prog Γ.w) A (.forLoop target (.ref it) body orelse env) (λr s'=>match r with|.ok f=>fB Γ Q (cln f) s'|.error _=>False) s:=by
 refine codeAny_forLoop_any (sY Γ A it G I vs) ?_ vs.length ⟨[],vs,ρ,σ,R,Y,h0,rfl,rfl⟩
 rintro n s' ⟨d,r,ρ,σ',R',Y',hI,he,rfl⟩
 cases r with
 |nil=>
  rw [Cj]at he
  subst he
  exact Y'.stop (hG _ _ hI) R' λs₁ R₁=>(done σ' hI).elim R₁ λ_ _ σ₂ R₂ q=>⟨σ₂,R₂,q⟩
 |cons v r=>
  refine Y'.more (hG _ _ hI) R' λu ρ' s₁ eu R₁ go Y''=>(go target u).to R₁ λ_ s₉ R₉=>(turn d v r u ρ' σ' he eu hI _ (λ_ _ z=>z)).elim R₉ λ_ s₂ σ₂ R₂ q₂=>q₂.elim R₂ λf s₃ σ₃ R₃ q₃=>?_
  have nx:nR ρ' (I (d++[v])) σ₃->∃m,m < (v::r).length/\sY Γ A it G I vs m s₃:=
   λq=>q.casesOn λW τ le hI'=>⟨r.length,Nat.lt_succ_self _,d++[v],r,ρ',⟨W,τ⟩,le Γ s₃ R₃,Y'',hI',by rw [<-he,Ax];rfl,rfl⟩
  cases f with
  |next=>exact nx q₃
  |cont=>exact nx q₃
  |brk=>exact⟨σ₃,R₃,q₃⟩
  |ret v=>exact⟨σ₃,R₃,q₃⟩
structure gX (Γ:Bj) (A:Aw) (c:Ab) (σ:Ay) (it:Ak) (ρ:List As) (G:Ay->Prop) (vs:List Ab) (W:List As) (τ:List As):Prop where
 c:c=.ref it
 s:σ=⟨W,ρ++τ⟩
 f:Lb Γ A it G vs ρ
inductive Abk (Γ:Bj) (A:Aw) (env:Env) (target:Aq) (body orelse:List Jr) (Q:Fv->Ay->Prop) (ci:Ab) (σ:Ay):Prop
 |mk (it:Ak) (ρ:List As) (G:Ay->Prop) (vs:List Ab) (W τ:List As) (g:gX Γ A ci σ it ρ G vs W τ) (I:List Ab->Ay->Prop) (h0:I [] ⟨W,τ⟩) (hG:∀d σ,I d σ->G σ)
  (turn:∀d v r u ρ' σ,d++v::r=vs->cl u=v->I d σ->∀K:Fv->Ay->Prop,(∀f σ',dT Γ ρ' (I (d++[v])) Q f σ'->K f σ')->T Γ A ⟨σ.W,ρ'++σ.τ⟩ (Ij target env u) (PGo Γ A (Cm body env) K)) (done:∀σ,I vs σ->T Γ A σ (Cm orelse env) Q)
theorem Pt {target iter:Aq} {body orelse:List Jr} {pos:Pos} {Q:Fv->Ay->Prop}
  (h:T Γ A σ (Dr iter env) (P1 Γ A Hu (Abk Γ A env target body orelse Q)))
  (hs:autoParam (∀x,Dt iter env x=pure x) aI):T Γ A σ (Mx (.For target iter body orelse pos) env) Q:=λs R=>by
 refine wpAny_For (h.elim R λv s₁ σ₁ R₁ q₁=>(q₁ v rfl).elim R₁ λu s₂ σ₂ R₂ q₂=>?_) hs
 obtain⟨it,ρ,G,vs,W,τ,⟨e,rfl,Y⟩,I,h0,hG,turn,done⟩:=q₂
 cases Cc e
 exact Jg (xI Y I h0 hG turn done R₂) λr s' z=>by cases r with|ok f=>exact z|error e=>exact z.elim
theorem dT.mono {ρ:List As} {I I':Ay->Prop} {Q:Fv->Ay->Prop} {f:Fv} {σ:Ay} (h:dT Γ ρ I Q f σ) (k:∀σ,I σ->I' σ):dT Γ ρ I' Q f σ:=by
 have c:∀{σ},nR ρ I σ->nR ρ I' σ:=λz=>z.casesOn λW τ le i=>⟨W,τ,le,k _ i⟩
 cases f with
 |next=>exact c h
 |cont=>exact c h
 |brk=>exact h
 |ret v=>exact h
inductive Abl {β ι:Type} (w t:List β->ι->List As) (J:List β->ι->Prop) (a:List β) (σ:Ay):Prop
 |mk (x:ι) (e:σ=⟨w a x,t a x⟩) (h:J a x)
inductive Aic {β ι:Type} (f:β->Ab) (js:List β) (w t:List β->ι->List As) (J:List β->ι->Prop) (d:List Ab) (σ:Ay):Prop
 |mk (a b:List β) (e:js=a++b) (ed:d=a.map f) (h:Abl w t J a σ)
inductive Aad {β:Type} (f:β->Ab) (v:Ab) (r:List Ab) (b:List β):Prop
 |mk (j:β) (c:List β) (e:b=j::c) (ev:v=f j) (er:r=c.map f)
theorem oC {β:Type} {f:β->Ab} {js a b:List β} {d r:List Ab} {v:Ab} (e:js=a++b) (ed:d=a.map f) (he:d++v::r=js.map f):Aad f v r b:=by
 rw [e,ed,Bh]at he
 have q:=List.append_cancel_left he
 cases b with
 |nil=>cases q
 |cons j c=>exact⟨j,c,rfl,(Ol q).1,(Ol q).2⟩
inductive nS (Γ:Bj) (A:Aw) (env:Env) (target:Aq) (body orelse:List Jr) (Q:Fv->Ay->Prop) (ci:Ab) (σ:Ay):Prop
 |mk {β ι:Type} (f:β->Ab) (js:List β) (it:Ak) (ρ:List As) (G:Ay->Prop) (w t:List β->ι->List As) (J:List β->ι->Prop) (x:ι) (g:gX Γ A ci σ it ρ G (js.map f) (w [] x) (t [] x)) (h0:J [] x) (hG:∀a x,J a x->G ⟨w a x,t a x⟩)
  (turn:∀a j b u ρ' x,js=a++j::b->cl u=f j->J a x->∀K:Fv->Ay->Prop,(∀g σ',dT Γ ρ' (Abl w t J (a++[j])) Q g σ'->K g σ')->T Γ A ⟨w a x,ρ'++t a x⟩ (Ij target env u) (PGo Γ A (Cm body env) K))
  (done:∀x,J js x->T Γ A ⟨w js x,t js x⟩ (Cm orelse env) Q)
theorem nS.to {target:Aq} {body orelse:List Jr} {Q:Fv->Ay->Prop} {ci:Ab} (h:nS Γ A env target body orelse Q ci σ):Abk Γ A env target body orelse Q ci σ:=by
 obtain⟨f,js,it,ρ,G,w,t,J,x,g,h0,hG,turn,done⟩:=h
 refine⟨it,ρ,G,_,_,_,g,Aic f js w t J,⟨[],js,rfl,rfl,x,rfl,h0⟩,λd σ i=>?_,λd v r u ρ' σ he hu i K hK=>?_,λσ i=>?_⟩
 ·obtain⟨a,b,_,_,x,e,h⟩:=i
  rw [e]
  exact hG a x h
 ·obtain⟨a,b,e,ed,x,es,h⟩:=i
  obtain⟨j,c,eb,ev,_⟩:=oC e ed he
  rw [es]
  rw [eb]at e
  exact turn a j c u ρ' x e (hu.trans ev) h K λg σ' z=>hK g σ' (z.mono λσ q=>⟨a++[j],c,by rw [e,Ax];rfl,by rw [ed,ev,Bh];rfl,q⟩)
 ·obtain⟨a,b,e,ed,x,es,h⟩:=i
  have:b=[]:=by
   rw [e,Bh]at ed
   exact Od.mp (List.append_right_eq_self.mp ed)
  rw [this,Cj]at e
  rw [es,<-e]
  rw [<-e]at h
  exact done x h
theorem Rv {target iter:Aq} {body orelse:List Jr} {pos:Pos} {Q:Fv->Ay->Prop}
  (h:T Γ A σ (Dr iter env) (P1 Γ A Hu (nS Γ A env target body orelse Q)))
  (hs:autoParam (∀x,Dt iter env x=pure x) aI):T Γ A σ (Mx (.For target iter body orelse pos) env) Q:=
 Pt (h.mono λ_ _ q v hv=>(q v hv).mono λ_ _=>nS.to) hs
theorem Di {x:Str} {pos:Pos} {v:Ab} {m:List (Str×Option Ab)} {Q:Ab->Ay->Prop} (hm:(.obj env.locals,.fr m)∈σ.all) (hx:(x,some v)∈m) (h:Q v σ)
  (hk:autoParam (env.scope.kind=.function) aR) (hl:autoParam (env.kindOf x=some .local) aR) (hd:autoParam ((x==("__debug__" :Str))=false) aD):
  T Γ A σ (Dr (.Name x pos) env) Q:=λs R=>by
 obtain⟨M,N,_,e⟩:=(R.ents _ hm).1
 have e:=e _ hx
 cases q:M x with
 |none=>rw [q]at e;cases e
 |some u=>
  rw [q]at e
  refine wpAny_Name (wpAny_loadName_local hk hl N q ⟨σ,R,?_⟩) hd
  have:cl u=v:=Dh e
  show Q (cl u) σ
  rw [this];exact h
theorem Sn {x:Str} {pos:Pos} {u v:Ab} {m m':List (Str×Option Ab)} {Q:Unit->Ay->Prop} (hu:cl u=v) (hm:Of x v m m') (U:Iy σ (.obj env.locals) (.fr m) (.fr m') σ') (h:Q () σ')
  (hk:autoParam (env.scope.kind=.function) aR) (hl:autoParam (env.kindOf x=some .local) aR):T Γ A σ (Ij (.Name x pos) env u) Q:=λs R=>by
 obtain⟨M,N,dup,e⟩:=(R.ents _ U.mem).1
 refine wpAny_assign_Name (wpAny_storeName_local hl N (λh' hn hs=>⟨σ',Ea.changeS (s':={s with heap:=h',toks:=s.toks+1}) R U rfl hs.extBut rfl rfl ⟨_,hn,?_,?_⟩,h⟩) ?_)
 ·obtain⟨l₁,l₂,ov,rfl,rfl⟩:=hm.split
  simpa using dup
 ·obtain⟨l₁,l₂,ov,rfl,rfl⟩:=hm.split
  intro p hp
  have hne:∀q∈l₁++l₂,q.1≠x:=by
   intro q hq e
   rw [Bh,Cf]at dup
   have:=(Hz.mp dup)
   rcases Ai.mp hq with h|h
   ·exact this.2.2 q.1 (Cv h) x (.head _) e
   ·have h2:=(Ey.mp this.2.1).1
    have h3:q.1∈l₂.map Prod.fst:=Cv h
    rw [e]at h3
    exact h2 h3
  have old:∀q∈l₁++l₂,(if q.1=x then some u else M q.1).map cl=q.2:=by
   intro q hq
   rw [if_neg (hne q hq)]
   apply e
   rcases Ai.mp hq with h|h
   ·exact Af _ h
   ·exact Aa _ (.tail _ h)
  rcases Ai.mp hp with h|h
  ·exact old p (Af _ h)
  ·rcases Ce.mp h with rfl|h
   ·simp [hu]
   ·exact old p (Aa _ h)
 ·show(env.scope.kind==.class ||(env.scope.kind==.module&&_))=false
  rw [hk];rfl
end
end
section
theorem iU (k:Str->Option NameKind) (x:Str):∀(bs:List (Str×Ab)) (m:Str->Option Ab),(bindL k bs m x).map cl=bindL k (bs.map λp=>(p.1,cl p.2)) (λy=>(m y).map cl) x
 |[],_=>rfl
 |(n,v)::r,m=>by
  unfold bindL
  rw [Cf,iU k x r]
  congr 1
  funext y
  split
  ·dsimp only;split<;>rfl
  ·rfl
theorem iW (k:Str->Option NameKind) (x:Str):∀(bs:List (Str×Ab)) (m:Str->Option Ab),(bindC k bs m x).map cl=bindC k (bs.map λp=>(p.1,cl p.2)) (λy=>(m y).map cl) x
 |[],_=>rfl
 |(n,v)::r,m=>by
  unfold bindC
  rw [Cf,iW k x r]
  congr 1
  funext y
  split
  ·rfl
  ·dsimp only;split<;>rfl
theorem Rk:∀(names:List (Str×NameKind)) (n n':Nat) (acc acc':List (Str×Ak)),acc.map (·.1)=acc'.map (·.1)->(Fe n names acc).map (·.1)=(Fe n' names acc').map (·.1)
 |[],_,_,_,_,h=>h
 |(x,k)::r,n,n',acc,acc',h=>by
  unfold Fe
  split
  ·exact Rk r _ _ _ _ (by simp [h])
  ·exact Rk r _ _ _ _ h
theorem Vf {n:Str} {c:Ak}:∀{l:List (Str×Ak)},(l.map (·.1)).Nodup->(n,c)∈l->l.lookup n=some c
 |(y,d)::r,hn,h=>by
  rw [Cf,Ey]at hn
  rw [List.lookup_cons]
  rcases Ce.mp h with e|h2
  ·cases e;simp
  ·have:(n==y)=false:=by
    rw [beq_eq_false_iff_ne]
    intro e
    have h3:n∈r.map Prod.fst:=Cv (f:=Prod.fst) h2
    rw [e]at h3
    exact hn.1 h3
   rw [this]
   exact Vf hn.2 h2
noncomputable def Ui (cs:List (Str×Ak)) (cm:Str->Option Ab):List As:=cs.map λp=>(.obj p.2,.cell (cm p.1))
section
variable {Γ:Bj} {A:Aw} {σ σ':Ay} {s s':Ba} {env:Env}
theorem bE {cm:Str->Option Ab}:∀{cs:List (Str×Ak)},(cs.Pairwise λx y=>x.2≠y.2)->(Ui cs cm).Pairwise Tz
 |[],_=>.nil
 |x::r,h=>by
  rw [Ih]at h
  refine .cons (λq hq=>?_) (bE h.2)
  obtain⟨y,hy,rfl⟩:=Bn.mp hq
  exact .inl (by show((true,x.2):Bool×Nat)≠(true,y.2);intro e;exact h.1 y hy (Prod.mk.inj e).2)
set_option tactic.hygienic true in
theorem Wb {W τ:List As} {f:Ak} {oc:Ab} {od:Option Ak} {osl:Array (Option Ab)} {name qual:Str} {params:Arguments} {body:List Jr} {scope:La} {dV kV doc pm cdv ct:Ab} {an:Option Ak} {vs:List Ab} {kw bs:List (Str×Ab)} {Q:Ab->Ay->Prop} (names:List Str)
  (ho:Γ.K.lookup f=some ⟨oc,od,.func (fnX name qual params body scope [] dV kV doc pm an cdv ct),osl⟩) (hcode:codeIn Γ.K cdv qual=true) (hd:A.depth < Gy) (hb:Gu Γ (fnX name qual params body scope [] dV kV doc pm an cdv ct) vs kw bs)
  (h:∀L,T Γ (A.deeper (Gk qual scope L f cdv (Fe (L+1) scope.names []))) ⟨W,Ui (Fe (L+1) scope.names []) (bindC (λx=>scope.names.lookup x) bs λ_=>none)++((names.map λx=>(.var L x,.val (bindL (λx=>scope.names.lookup x) bs (λ_=>none) x)))++τ)⟩ (Cm body (Gk qual scope L f cdv (Fe (L+1) scope.names []))) (Ja Q))
  (hloc:autoParam ((bs.all λx=>scope.names.lookup x.1==some .local||(scope.names.lookup x.1==some .cell&&scope.names.any (λy=>y.1==x.1&&y.2==.cell)))=true) aR) (hn:autoParam (names.Nodup) aD) (hcn:autoParam (((Fe 0 scope.names []).map (·.1)).Nodup) aD)
  (hco:autoParam (scope.isCoroutine=false) aR) (hgen:autoParam (scope.isGenerator=false) aR) (hk:autoParam (scope.kind=.function) aR):
  ∀ws kws,ws.map cl=vs->kws.map (λp:Str×Ab=>(p.1,cl p.2))=kw->TC Γ A ⟨W,τ⟩ (.ref f) ws kws Q:=λws kws hw hkw s R=>by
 obtain⟨binds,eb,hbind⟩:=hb ws kws hw hkw
 have cellThere:∀(x:Str) (names:List (Str×NameKind)) (n:Nat) (acc:List (Str×Ak)),((acc.lookup x).isSome=true\/(names.any λy=>y.1==x&&y.2==.cell)=true)->((Fe n names acc).lookup x).isSome=true:=by
  intro x names
  induction names with
  |nil=>intro n acc h;rcases h with h|h;exact h;cases h
  |cons y r ih=>
   intro n acc h
   obtain⟨y,k⟩:=y
   unfold Fe
   have key:∀c:Ak,(acc.lookup x).isSome=true\/y=x->(((y,c)::acc).lookup x).isSome=true:=by
    intro c h
    rw [List.lookup_cons]
    cases hq:x==y with
    |true=>rfl
    |false=>
     rcases h with h|h
     ·exact h
     ·subst h;simp at hq
   split
   ·rename_i hk
    refine ih _ _ ?_
    rcases h with h|h
    ·exact .inl (key _ (.inl h))
    ·rw [Om,Bool.or_eq_true]at h
     rcases h with h|h
     ·simp only [Cy,beq_iff_eq]at h
      exact .inl (key _ (.inr h.1))
     ·exact .inr h
   ·rename_i hk
    refine ih _ _ ?_
    rcases h with h|h
    ·exact .inl h
    ·rw [Om,Bool.or_eq_true]at h
     rcases h with h|h
     ·simp only [Cy,beq_iff_eq]at h
      exact absurd (beq_iff_eq.mpr h.2) hk
     ·exact .inr h
 refine codeAny_call_function (fd:=fnX name qual params body scope [] dV kV doc pm an cdv ct) (body:=body) hd (R.kin _ _ ho) rfl hco hgen rfl (codeRec_of R.kin hcode) (hbind s R.kin _ _ _ _ ?_)
 refine wpAny_newFunctionEnv_cells hk (λx hx=>?_) λenv' he s' X=>?_
 ·have hx':(x.1,cl x.2)∈bs:=eb▸Cv hx
  have h1:=Fu.mp hloc _ hx'
  simp only [Bool.or_eq_true,Cy,beq_iff_eq]at h1
  rcases h1 with h1|⟨h1,h2⟩
  ·exact .inl h1
  ·exact .inr ⟨h1,cellThere _ _ _ _ (.inr h2)⟩
 ·subst he
  have X':InCallC s s.heap.objs.size (bindL (λx=>scope.names.lookup x) binds λ_=>none) (Fe (s.heap.objs.size+1) scope.names []) (bindC (λx=>scope.names.lookup x) binds λ_=>none) s':=X
  obtain⟨⟨⟨h',tk,rfl⟩,ns,keep,fresh⟩,cell,apart,above⟩:=X'
  have R₁:Ea Γ ⟨W,τ⟩ {s with heap:=h',toks:=tk}:=R.grow keep rfl rfl
  have eL:∀x,(bindL (λx=>scope.names.lookup x) binds (λ_=>none) x).map cl=bindL (λx=>scope.names.lookup x) bs (λ_=>none) x:=λx=>by rw [iU,eb];rfl
  have eC:∀x,(bindC (λx=>scope.names.lookup x) binds (λ_=>none) x).map cl=bindC (λx=>scope.names.lookup x) bs (λ_=>none) x:=λx=>by rw [iW,eb];rfl
  have R₂:=R₁.adds (names.map λx=>(Er.var s.heap.objs.size x,CO.val (bindL (λx=>scope.names.lookup x) bs (λ_=>none) x))) (λp hp=>?_) ?_
  ·have R₃:=R₂.adds (Ui (Fe (s.heap.objs.size+1) scope.names []) (bindC (λx=>scope.names.lookup x) bs λ_=>none)) (λp hp=>?_) (bE apart)
   ·refine⟨R₁.lim.no,codeAny_func (Dy (h s.heap.objs.size _ R₃) (λfl s' zz=>?_) λ_ _ x=>x.elim)⟩
    obtain⟨σ',R',σ'',le,q⟩:=zz
    refine⟨σ'',le Γ s' R',?_⟩
    cases fl with
    |ret v=>exact q
    |next=>exact q
    |brk=>exact q
    |cont=>exact q
   ·obtain⟨⟨n,c⟩,hx,rfl⟩:=Bn.mp hp
    have hlc:=above n c hx
    have hlt:s.heap.objs.size<=c:=Md hlc
    have hl:(Fe (s.heap.objs.size+1) scope.names []).lookup n=some c:=Vf (by rw [Rk scope.names _ 0 [] [] rfl];exact hcn) hx
    refine⟨⟨_,cell _ _ hl,eC _⟩,R.freshAt hlt,λq hq=>?_⟩
    rcases Ai.mp hq with h1|h1
    ·exact Jp (σ:=⟨W,τ⟩) (s:=s) rfl (λq hq=>(R.ents q hq).1) hlt q (Af _ h1)
    ·rcases Ai.mp h1 with h1|h1
     ·obtain⟨x,hx',rfl⟩:=Bn.mp h1
      exact .inl (by show((true,c):Bool×Nat)≠(true,s.heap.objs.size);intro e;exact Nat.ne_of_gt hlc (Prod.mk.inj e).2)
     ·exact Jp (σ:=⟨W,τ⟩) (s:=s) rfl (λq hq=>(R.ents q hq).1) hlt q (Aa _ h1)
  ·obtain⟨x,hx,rfl⟩:=Bn.mp hp
   exact⟨⟨_,ns,eL x⟩,R.freshTop,Jp (σ:=⟨W,τ⟩) (s:=s) rfl (λq hq=>(R.ents q hq).1) (Bx _)⟩
  ·have:∀{names:List Str},names.Nodup->(names.map λx=>((Er.var s.heap.objs.size x,CO.val (bindL (λx=>scope.names.lookup x) bs (λ_=>none) x)):As)).Pairwise Tz:=by
    intro names
    induction names with
    |nil=>intro _;exact .nil
    |cons x r ih=>
     intro hn
     rw [Ey]at hn
     refine .cons (λq hq=>?_) (ih hn.2)
     obtain⟨y,hy,rfl⟩:=Bn.mp hq
     exact .inr (.inr ⟨_,x,y,rfl,rfl,λe=>hn.1 (e▸hy)⟩)
   exact this hn
end
end
section
section
variable {Γ:Bj} {A:Aw} {σ σ':Ay} {s s':Ba} {env:Env}
theorem eJ {M:Model} {E:Ab->Ba->Prop} {scope:La} {globals:Ak} {cl₀:List (Str×Ak)} {qual:Str} {func:Option Ak} {code:Ab} {outer:Env} {bi:Ak} {Q:Env->Ba->Prop}
  (hQ:∀h',h'.Ns s.heap.objs.size (λ_=>none)->CellsOk h' (s.heap.objs.size+1) (Fe (s.heap.objs.size+1) scope.names [])->(∀b o,s.heap.get? b=some o->h'.get? b=some o)->
   Q {scope,locals:=s.heap.objs.size,globals,cells:=Fe (s.heap.objs.size+1) scope.names cl₀,qual,func,code:=outer.code,frame:=outer.frame,builtins:=outer.builtins} {s with heap:=h'}):
  Cp M A (newFunctionEnv scope globals cl₀ [] qual func code (some outer) bi) Q E s:=by
 simp only [newFunctionEnv,Option.isSome_some,if_true]
 refine Ad (wpAny_alloc ?_)
 refine Ad (wpAny_layCells _ (λname kind cells=>by cases hkc:kind==NameKind.cell<;>simp [hkc]) _ _ _ _ ?_)
 have ok:=cellsFrom_ok scope.names (s.heap.push {cls:=.type "dict",data:=.dict #[]}) (s.heap.objs.size+1) [] ⟨λ_ _ hm=>(nomatch hm),List.Pairwise.nil⟩ (by rw [Iq];exact Bx _)
 rw [Iq]at ok
 rw [show({s with heap:=s.heap.push {cls:=.type "dict",data:=.dict #[]}}:Ba).heap.objs.size=s.heap.objs.size+1 from Iq ..]
 refine Ad ?_
 rw [List.forIn_nil]
 refine Au (Au ?_)
 exact hQ _ ((Heap.Ns.new s.heap (.type "dict")).keeps (pushCells_keeps _ _)) ok λb o e=>pushCells_keeps _ _ b o (Al _ e)
noncomputable abbrev Wq (ifs:List Aq) (env:Env):Sem Bool:=forIn ifs true λc r=>if r=true then do let ok<-isTrue c env (Dr c env);pure (ForInStep.yield ok)else pure (ForInStep.yield r)
theorem Pr {Q:Bool->Ay->Prop} (h:Q true σ):T Γ A σ (Wq [] env) Q:=λ_ R=>wpAny_tests_nil ⟨σ,R,h⟩
theorem Jl {c:Aq} {Q:Bool->Ay->Prop} (h:T Γ A σ (isTrue c env (Dr c env)) Q):T Γ A σ (Wq [c] env) Q:=λs R=>wpAny_tests_one (h s R)
noncomputable abbrev Lh (scope:La) (cl₀:List (Str×Ak)) (C:Ak) (env:Env):Env:=
 {scope:=relabel scope env,locals:=C,globals:=env.globals,cells:=Fe (C+1) scope.names cl₀,qual:=env.qual,func:=none,code:=env.code,frame:=env.frame,builtins:=env.builtins}
noncomputable def Vk (Γ:Bj) (A:Aw) (it:Ak) (ρ:List As):Prop:=∀W τ,T Γ A ⟨W,ρ++τ⟩ (Hu (.ref it)) λc σ'=>c=.ref it/\σ'=⟨W,ρ++τ⟩
theorem Gv {it a:Ak} {i:Nat}:Vk Γ A it [(.obj it,.liter a i)]:=λW τ s R=>wpAny_pyIter_listiter (R.ents _ Bs).1 ⟨_,R,rfl,rfl⟩
theorem Qq {it a:Ak} {i:Nat}:Vk Γ A it [(.obj it,.titer a i)]:=λW τ s R=>wpAny_pyIter_tupleiter (R.ents _ Bs).1 ⟨_,R,rfl,rfl⟩
noncomputable abbrev Sq (m:Option Ab->List (Str×Option Ab)) (cE:Ak->Option Ab->List As) (C:Ak) (o:Option Ab) (r:List As):List As:=(.obj C,.fr (m o))::(cE C o++r)
inductive Vb (ρ:List As) (E:Option Ab->List As->List As) (P:Ay->Prop) (σ:Ay):Prop
 |mk (W τ:List As) (o:Option Ab) (le:As.le ⟨W,ρ++E o τ⟩ σ) (i:P ⟨W,τ⟩)
noncomputable def Abi (ρ:List As) (E:Option Ab->List As->List As) (J:List Ab->Ay->Prop) (ys:List Ab) (y:Ab) (σ:Ay):Prop:=Vb ρ E (J (ys++[y])) σ
inductive dW (Γ:Bj) (A:Aw) (E:Ak->Ak->Option Ab->List Ab->List As->List As) (env':Ak->Env) (ifs:List Aq) (elt:Aq) (K:Ab->Ay->Prop) (ci:Ab) (σ:Ay):Prop
 |mk (it:Ak) (ρ:List As) (G:Ay->Prop) (vs:List Ab) (W τ:List As) (g:gX Γ A ci σ it ρ G vs W τ) (slf:Vk Γ A it ρ) (I:List Ab->List Ab->Ay->Prop) (h0:I [] [] ⟨W,τ⟩)
  (hG:∀d ys σ ext,I d ys σ->G ⟨σ.W,ext++σ.τ⟩) (hz:∀d ys σ,I d ys σ->ys.length<=Gg)
  (turn:∀C acc d v r ρ' ys σ,d++v::r=vs->I d ys σ->T Γ A ⟨σ.W,ρ'++E C acc (some v) ys σ.τ⟩ (Wq ifs (env' C)) (rY Γ A true false (Dr elt (env' C)) (Abi ρ' (λo τ=>E C acc o ys τ) (I (d++[v])) ys) (Vb ρ' (λo τ=>E C acc o ys τ) (I (d++[v]) ys))))
  (done:∀acc ys σ,I vs ys σ->K (.ref acc) ⟨σ.W,(.obj acc,.list ys)::σ.τ⟩)
theorem Vb.mono {ρ:List As} {E:Option Ab->List As->List As} {P P':Ay->Prop} {σ:Ay} (h:Vb ρ E P σ) (k:∀σ,P σ->P' σ):Vb ρ E P' σ:=h.casesOn λW τ o le i=>⟨W,τ,o,le,k _ i⟩
inductive nU {β ι:Type} (w t:List β->ι->List As) (ys:List β->ι->List Ab) (J:List β->ι->Prop) (a:List β) (vs:List Ab) (σ:Ay):Prop
 |mk (x:ι) (es:σ=⟨w a x,t a x⟩) (ev:vs=ys a x) (h:J a x)
inductive yE {β ι:Type} (f:β->Ab) (js:List β) (w t:List β->ι->List As) (ys:List β->ι->List Ab) (J:List β->ι->Prop) (d vs:List Ab) (σ:Ay):Prop
 |mk (a b:List β) (e:js=a++b) (ed:d=a.map f) (h:nU w t ys J a vs σ)
inductive Xw (Γ:Bj) (A:Aw) (E:Ak->Ak->Option Ab->List Ab->List As->List As) (env':Ak->Env) (ifs:List Aq) (elt:Aq) (K:Ab->Ay->Prop) (ci:Ab) (σ:Ay):Prop
 |mk {β ι:Type} (f:β->Ab) (js:List β) (it:Ak) (ρ:List As) (G:Ay->Prop) (w t:List β->ι->List As) (ys:List β->ι->List Ab) (J:List β->ι->Prop) (x:ι) (g:gX Γ A ci σ it ρ G (js.map f) (w [] x) (t [] x)) (slf:Vk Γ A it ρ) (h0:J [] x) (y0:ys [] x=[])
  (hG:∀a x ext,J a x->G ⟨w a x,ext++t a x⟩) (hz:∀a b x,js=a++b->J a x->(ys a x).length<=Gg)
  (turn:∀C acc a j b ρ' x,js=a++j::b->J a x->T Γ A ⟨w a x,ρ'++E C acc (some (f j)) (ys a x) (t a x)⟩ (Wq ifs (env' C)) (rY Γ A true false (Dr elt (env' C)) (λy=>Vb ρ' (λo τ=>E C acc o (ys a x) τ) (nU w t ys J (a++[j]) (ys a x++[y]))) (Vb ρ' (λo τ=>E C acc o (ys a x) τ) (nU w t ys J (a++[j]) (ys a x)))))
  (done:∀acc x,J js x->K (.ref acc) ⟨w js x,(.obj acc,.list (ys js x))::t js x⟩)
theorem Xw.to {E:Ak->Ak->Option Ab->List Ab->List As->List As} {env':Ak->Env} {ifs:List Aq} {elt:Aq} {K:Ab->Ay->Prop} {ci:Ab} (h:Xw Γ A E env' ifs elt K ci σ):dW Γ A E env' ifs elt K ci σ:=by
 obtain⟨f,js,it,ρ,G,w,t,ys,J,x,g,slf,h0,y0,hG,hz,turn,done⟩:=h
 refine⟨it,ρ,G,_,_,_,g,slf,yE f js w t ys J,⟨[],js,rfl,rfl,x,rfl,y0.symm,h0⟩,λd vs σ ext i=>?_,λd vs σ i=>?_,λC acc d v r ρ' vs σ he i=>?_,λacc vs σ i=>?_⟩
 ·obtain⟨a,b,e,ed,x,es,ev,h⟩:=i
  rw [es]
  exact hG a x ext h
 ·obtain⟨a,b,e,ed,x,es,ev,h⟩:=i
  rw [ev]
  exact hz a b x e h
 ·obtain⟨a,b,e,ed,x,es,ev,h⟩:=i
  obtain⟨j,c,eb,ej,_⟩:=oC e ed he
  rw [eb]at e
  rw [es,ev,ej]
  have up:∀{vs' σ'},nU w t ys J (a++[j]) vs' σ'->yE f js w t ys J (d++[f j]) vs' σ':=λq=>⟨a++[j],c,by rw [e,Ax];rfl,by rw [ed,Bh];rfl,q⟩
  exact(turn C acc a j c ρ' x e h).mono λbb σ' q=>⟨λhb=>(q.1 hb).mono λy σ₂ p=>p.mono λ_=>up,λhb=>(q.2 hb).mono λ_=>up⟩
 ·obtain⟨a,b,e,ed,x,es,ev,h⟩:=i
  have:b=[]:=by
   rw [e,Bh]at ed
   exact Od.mp (List.append_right_eq_self.mp ed)
  rw [this,Cj]at e
  rw [es,ev,<-e]
  rw [<-e]at h
  exact done acc x h
section
variable {m:Option Ab->List (Str×Option Ab)} {cE:Ak->Option Ab->List As} {scope:La}
theorem oM {ρ W τ:List As} (R:Ea Γ ⟨W,ρ++τ⟩ s) (hm:∀p∈m none,p.2=none) (hmn:((m none).map (·.1)).Nodup) (hc:∀C,cE C none=Ui (Fe (C+1) scope.names []) λ_=>none) {o:Obj} (ho:o={cls:=.type "list",data:=.seq #[]}) {C:Nat} (hC:(s.heap.push o).objs.size=C) {h₁:Heap}
  (ns:h₁.Ns C λ_=>none) (cells:CellsOk h₁ (C+1) (Fe (C+1) scope.names [])) (keep:∀b o',(s.heap.push o).get? b=some o'->h₁.get? b=some o'):Ea Γ ⟨W,ρ++Sq m cE C none ((.obj s.heap.objs.size,.list [])::τ)⟩ {s with heap:=h₁}:=by
 subst ho
 have Ra:Ea Γ ⟨W,(.obj s.heap.objs.size,.list [])::(ρ++τ)⟩ {s with heap:=s.heap.push {cls:=.type "list",data:=.seq #[]}}:=
  R.push (c:=.list []) (s':={s with heap:=s.heap.push {cls:=.type "list",data:=.seq #[]}}) (λ_ _ e=>Al _ e) rfl rfl ⟨#[],0,Bg _ rfl,rfl⟩
 have up:∀n,C<=n->(s.heap.push {cls:=.type "list",data:=.seq #[]}).objs.size<=n:=λn h=>by rw [hC];exact h
 have sep:∀l c n,Er.base l=(true,n)->C<=n->∀q∈W++((.obj s.heap.objs.size,.list [])::(ρ++τ)),Tz (l,c) q:=λl c n hl hn=>Jp hl (λq hq=>(Ra.ents q hq).1) (up n hn)
 have Rb:=(Ra.grow (s':={s with heap:=h₁}) keep rfl rfl).adds (cE C none) (by
  rw [hc]
  intro p hp
  obtain⟨x,hx,rfl⟩:=Bn.mp hp
  have h:=cells.empty x.1 x.2 hx
  have hl:=Bw (Nat.le_succ _) h.2
  exact⟨⟨none,h.1,rfl⟩,Ra.freshAt (up _ hl),sep _ _ x.2 rfl hl⟩) (by rw [hc];exact bE cells.apart)
 refine As.le_perm (Bb W ?_) _ _ (Rb.add (l:=.obj C) (c:=.fr (m none)) ⟨_,ns,hmn,λp hp=>(hm p hp).symm⟩ (Ra.freshAt (up _ (Bx _))) λq hq=>?_)
 ·have e1:(.obj C,.fr (m none))::(cE C none++(.obj s.heap.objs.size,.list [])::(ρ++τ))=((.obj C,.fr (m none))::(cE C none++[(.obj s.heap.objs.size,.list [])]))++(ρ++τ):=by simp
  have e2:Sq m cE C none ((.obj s.heap.objs.size,.list [])::τ)=((.obj C,.fr (m none))::(cE C none++[(.obj s.heap.objs.size,.list [])]))++τ:=by simp
  rw [e1,e2,<-Ax,<-Ax]
  exact Dx _ Eu
 ·rcases Ai.mp hq with h1|h1
  ·exact sep _ _ C rfl (Bx _) q (Af _ h1)
  ·rcases Ai.mp h1 with h1|h1
   ·rw [hc]at h1
    obtain⟨x,hx,rfl⟩:=Bn.mp h1
    exact .inl λe=>Kn (cells.empty x.1 x.2 hx).2 (Prod.mk.inj e).2
   ·exact sep _ _ C rfl (Bx _) q (Aa _ h1)
theorem uU {W τ ρ:List As} {C acc:Ak} {o:Option Ab} {ys:List Ab} {y:Ab} (hz:ys.length<=Gg) (R:Ea Γ ⟨W,ρ++Sq m cE C o ((.obj acc,.list ys)::τ)⟩ s) {E:Ab->Ba->Prop} {Q:Ab->Ba->Prop}
  (k:∀v s',Ea Γ ⟨W,ρ++Sq m cE C o ((.obj acc,.list (ys++[cl y]))::τ)⟩ s'->Q v s'):Cp (Cd Γ.prog Γ.w) A (call (.builtin "list.append") [.ref acc,y]) Q E s:=
 (bG (σ':=⟨W,ρ++Sq m cE C o ((.obj acc,.list (ys++[cl y]))::τ)⟩) rfl (.tau (Qw.prepend (.there (Qw.prepend .here _)) _)) hz rfl).to R k
theorem iT {C:Ak} {o:Option Ab} {W τ:List As} {P:Ba->Prop} (R:Ea Γ ⟨W,Sq m cE C o τ⟩ s) (k:∀s',Ea Γ ⟨W,τ⟩ s'->P s'):∃m,s.heap.Ns C m/\∀h',En C s.heap h'->P {s with heap:=h'}:=by
 obtain⟨M,N,_,_⟩:=(R.ents _ Bs).1
 exact⟨M,N,λh' hs=>k _ (As.le_sub (Bp _ _) _ _ (Ea.dropObj (s':={s with heap:=h'}) R rfl hs.extBut rfl rfl))⟩
inductive yF (Γ:Bj) (A:Aw) (m:Option Ab->List (Str×Option Ab)) (cE:Ak->Option Ab->List As) (C acc it:Ak) (G:Ay->Prop) (I:List Ab->List Ab->Ay->Prop) (vs:List Ab) (n:Nat) (s:Ba):Prop
 |mk (d r:List Ab) (ρ:List As) (ys:List Ab) (o:Option Ab) (W τ:List As) (R:Ea Γ ⟨W,ρ++Sq m cE C o ((.obj acc,.list ys)::τ)⟩ s) (f:Lb Γ A it G r ρ) (i:I d ys ⟨W,τ⟩) (e:d++r=vs) (hn:n=r.length)
theorem Yh {x:Str} {xp pos:Pos} {elt iter:Aq} {ifs:List Aq} {cl₀:List (Str×Ak)} {use:Option (Ab->Sem Unit)} {K Q:Ab->Ay->Prop} (m:Option Ab->List (Str×Option Ab)) (cE:Ak->Option Ab->List As)
  (h:T Γ A σ (Dr iter env) (P1 Γ A Hu (dW Γ A (λC acc o ys τ=>Sq m cE C o ((.obj acc,.list ys)::τ)) (λC=>Lh scope cl₀ C env) ifs elt K)))
  (hu:∀C o acc W τ,K (.ref acc) ⟨W,τ⟩->match use with|none=>Q (.ref acc) ⟨W,τ⟩|some u=>T Γ A ⟨W,Sq m cE C o τ⟩ (u (.ref acc)) λ_=>Vb [] (Sq m cE C) (Q .none))
  (hm:∀p∈m none,p.2=none) (hmn:((m none).map (·.1)).Nodup) (hc:∀C,cE C none=Ui (Fe (C+1) scope.names []) λ_=>none)
  (tgt:∀C u o W ρ r,T Γ A ⟨W,ρ++Sq m cE C o r⟩ (Ij (.Name x xp) (Lh scope cl₀ C env) u) λ_ σ=>σ=⟨W,ρ++Sq m cE C (some (cl u)) r⟩)
  (hclos:Jv scope env=pure cl₀) (hkind:scope.kind=.function) (hnames:(scope.names.all λx=>x.2 != .local||scope.names.lookup x.1==some .local)=true)
  (hs:∀x,Dt iter env x=pure x) (ht:∀it v,Dn (.Name x xp) it v=pure ()):
  T Γ A σ (comprehension (.ListComp elt [⟨.Name x xp,iter,ifs,0⟩] scope pos) scope env (firstIterPos [⟨.Name x xp,iter,ifs,0⟩] pos) (newList []) false (Dr iter env) use) Q:=λs R=>by
 refine wpAny_comprehension_free (g:=⟨.Name x xp,iter,ifs,0⟩) (gs:=[]) rfl hs hclos hkind (λx hx hl=>?_) (h.elim R λv s₁ σ₁ R₁ q₁=>(q₁ v rfl).elim R₁ λu s₂ σ₂ R₂ q₂=>?_)
 ·have:=Fu.mp hnames x hx
  rw [hl]at this
  simpa using this
 cases q₂ with
 |mk it ρ G vs W τ g slf I h0 hG hz turn done=>
 cases Cc g.c
 cases g.s
 refine Et (eJ λh₁ ns cells keep=>?_)
 have Re:=oM (m:=m) (cE:=cE) R₂ hm hmn hc rfl rfl ns cells keep
 generalize hC:(s₂.heap.push _).objs.size=C at *
 generalize s₂.heap.objs.size=acc at *
 generalize ({s₂ with heap:=h₁}:Ba)=s₃ at Re
 clear ns cells keep hC R₂
 have fin:∀o ys τ W s',I vs ys ⟨W,τ⟩->Ea Γ ⟨W,Sq m cE C o ((.obj acc,.list ys)::τ)⟩ s'->
   compPost (Cd Γ.prog Γ.w) A (λ_ _=>False) use (λv s'=>fB Γ Q (cln v) s') (.ref acc) C (.ok .next) s':=by
  intro o ys τ W s' hI R'
  have dn:=hu C o acc _ _ (done acc ys ⟨W,τ⟩ hI)
  cases use with
  |none=>exact iT (P:=λs'=>fB Γ Q (cln (.ref acc)) s') R' λs'' R''=>⟨_,R'',dn⟩
  |some u=>exact dn.elim R' λ_ s₅ σ₅ R₅ q=>q.casesOn λW' τ' o' le i=>iT (P:=λs'=>fB Γ Q .none s') (le Γ s₅ R₅) λs'' R''=>⟨_,R'',i⟩
 have loop:∀s₃,Ea Γ ⟨W,ρ++Sq m cE C none ((.obj acc,.list [])::τ)⟩ s₃->Jz (Cd Γ.prog Γ.w) A (.compLoop (.ListComp elt [⟨.Name x xp,iter,ifs,0⟩] scope pos) 0 (.ref it) (.ref acc) (Lh scope cl₀ C env))
   (compPost (Cd Γ.prog Γ.w) A (λ_ _=>False) use (λv s'=>fB Γ Q (cln v) s') (.ref acc) C) s₃:=by
  intro s₃ Re
  refine codeAny_compLoop_tests (yF Γ A m cE C acc it G I vs) ?_ vs.length ⟨[],vs,ρ,[],none,W,τ,Re,g.f,h0,rfl,rfl⟩ (ht _)
  intro n s' ⟨d,r,ρ,ys,o,W,τ,R',Y',hI,he,hn⟩
  subst hn
  have hG':G ⟨W,Sq m cE C o ((.obj acc,.list ys)::τ)⟩:=by
   have:=hG d ys _ ((.obj C,.fr (m o))::(cE C o++[(.obj acc,.list ys)])) hI
   simpa using this
  cases r with
  |nil=>exact Y'.stop hG' R' λs₁ R₁=>fin o ys τ W s₁ (by rw [<-he,Cj];exact hI) R₁
  |cons v r=>
   refine Y'.more hG' R' λu ρ' s₁ hu' R₁ _ Y''=>?_
   have nx:∀{s₃ ys' W τ o},Ea Γ ⟨W,ρ'++Sq m cE C o ((.obj acc,.list ys')::τ)⟩ s₃->I (d++[v]) ys' ⟨W,τ⟩->∃k,k < (v::r).length/\yF Γ A m cE C acc it G I vs k s₃:=
    λR hI=>⟨r.length,Nat.lt_succ_self _,d++[v],r,ρ',_,_,_,_,R,Y'',hI,by rw [<-he,Ax];rfl,rfl⟩
   refine(tgt C u o W ρ' _).to R₁ λ_ s₂ R₂=>?_
   rw [hu']at R₂
   refine(turn C acc d v r ρ' ys _ he hI).elim R₂ λb s₃ σ₃ R₃ q₃=>?_
   cases b with
   |false=>exact(q₃.2 rfl).casesOn λW τ o le i=>nx (le Γ s₃ R₃) i
   |true=>exact(q₃.1 rfl).elim R₃ λy s₄ σ₄ R₄ q₄=>q₄.casesOn λW τ o le i=>uU (hz _ _ _ hI) (le Γ s₄ R₄) λv s' R'=>nx R' i
 exact codeAny_compStart_list (loop s₃ Re) ((slf _ _).ref Re loop)
theorem qT {y:Str} {py:Pos} {Q:Fv->Ay->Prop} (hk:env.scope.kind=.function) (hl:env.kindOf y=some .local):∀C o acc W τ,kM (.var env.locals y) .val Q (.ref acc) ⟨W,τ⟩->match some (Ij (.Name y py) env)with|none=>(Q .next) ⟨W,τ⟩|some u=>T Γ A ⟨W,Sq m cE C o τ⟩ (u (.ref acc)) λ_=>Vb [] (Sq m cE C) (Q .next):=λC o acc W τ ⟨ov,σ',U,q⟩=>by
 refine Ct (v:=.ref acc) (ov:=ov) (σ':=⟨σ'.W,Sq m cE C o σ'.τ⟩) rfl ?_ ⟨σ'.W,σ'.τ,o,As.le_refl _,q⟩ hk hl
 cases U with
 |tau h=>exact .tau (.there (h.prepend _))
 |wld h=>exact .wld h
theorem qQ {y:Str} {py pos spos:Pos} {elt:Aq} {gs:List Comprehension} {Q:Fv->Ay->Prop} (hsw:Lq (.ListComp elt gs scope pos) (some (.Name y py)) spos.line env=pure true)
  (h:T Γ A σ (comprehension (.ListComp elt gs scope pos) scope env (firstIterPos gs pos) (newList []) (firstAsync gs) (firstIter gs env) (some (Ij (.Name y py) env))) (PVU Q)):T Γ A σ (Mx (.Assign [.Name y py] (.ListComp elt gs scope pos) spos) env) Q:=by
 rw [exec_Assign_Name_used _ _ _ _ hsw]
 exact λs R=>Ad (Eo (Ad (Ad (h.elim R λv s' σ' R' q=>Au (Au ⟨σ',R',q⟩)))))
end
end
end
section
section
variable {K:Type} [DecidableEq K]
noncomputable def nK (p:K×Ab):K×Ab:=(p.1,cl p.2)
theorem Pb (k:K):∀kvs:List (K×Ab),(Fk kvs k).map cl=Fk (kvs.map nK) k
 |[]=>rfl
 |(a,v)::r=>by
  have ih:=Pb k r
  unfold Fk at ih ⊢
  simp only [Cf,Hh,nK]
  by_cases h:a=k
  ·simp [h]
  ·simpa [h,nK]using ih
theorem oZ (k:K) (v:Ab) (kvs:List (K×Ab)):(Lj kvs k v).map nK=Lj (kvs.map nK) k (cl v):=by
 unfold Lj
 have e:(kvs.map nK).any (λkv=>decide (kv.1=k))=kvs.any λkv=>decide (kv.1=k):=by
  rw [List.any_map];rfl
 rw [e]
 split
 ·rw [Ec,Ec]
  apply Ge
  intro p _
  simp only [Function.comp,nK]
  split<;>simp [*]
 ·simp [nK]
theorem lC (k:K) (kvs:List (K×Ab)):(without kvs k).map nK=without (kvs.map nK) k:=by
 unfold without
 rw [Kd]
 rfl
end
section
variable {Γ:Bj} {A:Aw} {σ σ':Ay} {s s':Ba} {env:Env}
theorem Ro {d:Ak} {es:List (Int×Ab)} (R:Ea Γ σ s) (hm:(.obj d,.idict es)∈σ.all):∃kvs,s.heap.DictOf (intKind Γ.prog Γ.w) d kvs/\kvs.map nK=es/\(d==sysModules)=false:=by
 obtain⟨kvs,h,e⟩:=(R.ents _ hm).1
 have h3:=(R.above3 hm (b:=d) rfl).2
 refine⟨kvs,h,e,?_⟩
 rw [beq_eq_false_iff_ne]
 rintro rfl
 exact absurd h3 (by decide)
theorem xR (Γ:Bj) (k:Int) (t:Tok):(intKind Γ.prog Γ.w).is k (.int k t)=true:=by simp [intKind,Ab.isInt]
theorem rK {u v:Ab} {k:Int} {d:Ak} {es:List (Int×Ab)} {Q:Ab->Ay->Prop} (hu:cl u=.int k 0) (hv:cl v=.ref d) (hm:(.obj d,.idict es)∈σ.all) (h:Q (.bool (Fk es k).isSome) σ):T Γ A σ (Eg .In u v) Q:=λs R=>by
 obtain⟨t,rfl⟩:=Ev hu
 have:=Cc hv
 subst this
 obtain⟨kvs,D,rfl,lo⟩:=Ro R hm
 refine wpAny_in_of (xR Γ k t) lo D.mapOf ⟨σ,R.toks _,?_⟩
 rw [<-Pb,Option.isSome_map]at h
 exact h
theorem eZ {k:Int} {d:Ak} {es:List (Int×Ab)} {Q:Ab->Ay->Prop} (hm:(.obj d,.idict es)∈σ.all) (h:Q (.bool (Fk es k).isSome) σ):P2 Γ A (Eg .In) Q (.int k 0) (.ref d) σ:=λ_ _ hu hv=>rK (hu:=hu) (hv:=hv) (hm:=hm) (h:=h)
theorem gE {u v:Ab} {k:Int} {d:Ak} {es:List (Int×Ab)} {Q:Ab->Ay->Prop} (hu:cl u=.int k 0) (hv:cl v=.ref d) (hm:(.obj d,.idict es)∈σ.all) (h:Q (.bool (!(Fk es k).isSome)) σ):T Γ A σ (Eg .NotIn u v) Q:=λs R=>by
 obtain⟨t,rfl⟩:=Ev hu
 have:=Cc hv
 subst this
 obtain⟨kvs,D,rfl,lo⟩:=Ro R hm
 refine wpAny_notIn_of (xR Γ k t) lo D.mapOf ⟨σ,R.toks _,?_⟩
 rw [<-Pb,Option.isSome_map]at h
 exact h
theorem Xj {k:Int} {d:Ak} {es:List (Int×Ab)} {Q:Ab->Ay->Prop} (hm:(.obj d,.idict es)∈σ.all) (h:Q (.bool (!(Fk es k).isSome)) σ):P2 Γ A (Eg .NotIn) Q (.int k 0) (.ref d) σ:=λ_ _ hu hv=>gE (hu:=hu) (hv:=hv) (hm:=hm) (h:=h)
theorem jY {value slice:Aq} {o i v:Ab} {k:Int} {d:Ak} {es:List (Int×Ab)} {Q:Ab->Ay->Prop} (ho:cl o=.ref d) (hi:cl i=.int k 0) (hm:(.obj d,.idict es)∈σ.all) (hv:Fk es k=some v) (h:Q v σ)
  (hs:autoParam (∀t,Jk slice false (.ref d) (.int k t)=operate [.ref d,.int k t] (getItem (.ref d) (.int k t))) aU) (hg:autoParam (∀r,Gi value (.ref d) r=pure ()) aU):
  T Γ A σ (Fz value slice o i) Q:=λs R=>by
 obtain⟨t,rfl⟩:=Ev hi
 have:=Cc ho
 subst this
 obtain⟨kvs,D,rfl,lo⟩:=Ro R hm
 rw [<-Pb,Cw]at hv
 obtain⟨u,hu,rfl⟩:=hv
 exact subscriptTail_builtin D.typeIs slot_dict_getitem.lookup (wpAny_getItem_of (xR Γ k t) D.mapOf hu ⟨σ,R.toks _,h⟩) (hs t) hg
theorem Sp {value slice:Aq} {v:Ab} {k:Int} {d:Ak} {es:List (Int×Ab)} {Q:Ab->Ay->Prop} (hm:(.obj d,.idict es)∈σ.all) (hv:Fk es k=some v) (h:Q v σ) (hs:autoParam (∀t,Jk slice false (.ref d) (.int k t)=operate [.ref d,.int k t] (getItem (.ref d) (.int k t))) aU) (hg:autoParam (∀r,Gi value (.ref d) r=pure ()) aU):P2 Γ A (Fz value slice) Q (.ref d) (.int k 0) σ:=λ_ _ ho hi=>jY (ho:=ho) (hi:=hi) (hm:=hm) (hv:=hv) (h:=h) (hs:=hs) (hg:=hg)
theorem Qg {o i u v:Ab} {k:Int} {d:Ak} {es:List (Int×Ab)} {Q:Unit->Ay->Prop} (ho:cl o=.ref d) (hi:cl i=.int k 0) (hu:cl u=v) (U:Iy σ (.obj d) (.idict es) (.idict (Lj es k v)) σ') (hz:es.length<=Gg) (h:Q () σ'):
  T Γ A σ (setItem o i u) Q:=λs R=>by
 obtain⟨t,rfl⟩:=Ev hi
 have:=Cc ho
 subst this
 subst hu
 obtain⟨kvs,D,rfl,lo⟩:=Ro R U.mem
 exact wpAny_setItem_pairs (xR Γ k t) D (λh' D' hs=>⟨σ',Ea.changeS (s':={s with heap:=h',toks:=s.toks+1}) R U rfl hs.extBut rfl rfl ⟨_,D',oZ k u kvs⟩,h⟩) (by simpa using hz)
theorem cR {o i:Ab} {k:Int} {d:Ak} {es:List (Int×Ab)} {Q:Unit->Ay->Prop} (ho:cl o=.ref d) (hi:cl i=.int k 0) (hv:(Fk es k).isSome=true) (U:Iy σ (.obj d) (.idict es) (.idict (without es k)) σ') (hz:es.length<=Gg) (h:Q () σ'):
  T Γ A σ (delItem o i) Q:=λs R=>by
 obtain⟨t,rfl⟩:=Ev hi
 have:=Cc ho
 subst this
 obtain⟨kvs,D,rfl,lo⟩:=Ro R U.mem
 rw [<-Pb,Option.isSome_map]at hv
 exact wpAny_delItem_slot D.typeIs (by decide) PySem.F.slot_dict_delitem (call_meetsIn PySem.F.slot_dict_delitem D.typeIs PySem.F.entry_dict_delitem (PySem.F.args_dict_delitem_2 _ _) (meets_dict_delitem_pairs (intKind Γ.prog Γ.w) d (xR Γ k t))
  ⟨kvs,D,by simpa using hz,hv,λh' D' hs=>⟨σ',Ea.changeS (s':={s with heap:=h',toks:=s.toks+1}) R U rfl hs.extBut rfl rfl ⟨_,D',lC k kvs⟩,h⟩⟩)
theorem bB {a:Ak} {es:List (Int×Ab)} (hm:(.obj a,.idict es)∈σ.all):∀s,Ea Γ σ s->∃o,s.heap.get? a=some o/\o.cls=.type "dict" /\o.dict=none:=λs R=>
 let ⟨_,⟨o,_,_,e,c,_⟩,_⟩:=(R.ents _ hm).1;⟨o,e,c.1,c.2.1⟩
theorem jZ {ws:List Ab} {k:Int} {d:Ak} {dv:Ab} {es:List (Int×Ab)} {Q:Ab->Ay->Prop} (hw:ws.map cl=[.ref d,.int k 0,dv]) (hm:(.obj d,.idict es)∈σ.all) (h:Q ((Fk es k).getD dv) σ):T Γ A σ (call (.builtin "dict.get") ws) Q:=λs R=>by
 obtain⟨w₀,w₁,w₂,rfl,e0,e1,e2⟩:=Us hw
 have:=Cc e0
 subst this
 obtain⟨t,rfl⟩:=Ev e1
 obtain⟨kvs,D,rfl,lo⟩:=Ro R hm
 subst e2
 refine call_meetsIn PySem.F.slot_dict_get D.typeIs PySem.F.entry_dict_get (PySem.F.args_dict_get_3 _ _ _) (meets_dict_get_default (intKind Γ.prog Γ.w) d (xR Γ k t) lo w₂) ⟨_,D.mapOf,σ,R.toks _,?_⟩
 rw [<-Pb]at h
 show Q (cl ((Fk kvs k).getD w₂)) σ
 cases q:Fk kvs k with
 |none=>rw [q]at h;exact h
 |some u=>rw [q]at h;exact h
theorem kB {k:Int} {d:Ak} {dv:Ab} {es:List (Int×Ab)} {Q:Ab->Ay->Prop} (hm:(.obj d,.idict es)∈σ.all) (h:Q ((Fk es k).getD dv) σ):Wc Γ A (.builtin "dict.get") [.ref d] Q [.int k 0,dv] σ:=λ_ hw=>jZ (hw:=hw) (hm:=hm) (h:=h)
theorem gI {ws:List Ab} {d:Ak} {es:List (Int×Ab)} {Q:Ab->Ay->Prop} (hw:ws.map cl=[.ref d]) (U:Iy σ (.obj d) (.idict es) (.idict []) σ') (hz:es.length<=Gg) (h:Q .none σ'):T Γ A σ (call (.builtin "dict.clear") ws) Q:=λs R=>by
 obtain⟨w₀,rfl,e0⟩:=Ir hw
 have:=Cc e0
 subst this
 obtain⟨kvs,D,rfl,lo⟩:=Ro R U.mem
 exact call_meetsIn PySem.F.slot_dict_clear D.typeIs PySem.F.entry_dict_clear (PySem.F.args_dict_clear_1 _) (meets_dict_clear (intKind Γ.prog Γ.w) d)
  ⟨kvs,D,by simpa using hz,λh' D' hs=>⟨σ',Ea.changeS (s':={s with heap:=h'}) R U rfl hs.extBut rfl rfl ⟨_,D',rfl⟩,h⟩⟩
theorem gL {d:Ak} {es:List (Int×Ab)} {Q:Ab->Ay->Prop} (U:Iy σ (.obj d) (.idict es) (.idict []) σ') (hz:es.length<=Gg) (h:Q .none σ'):Wc Γ A (.builtin "dict.clear") [.ref d] Q [] σ:=λ_ hw=>gI (hw:=hw) (U:=U) (hz:=hz) (h:=h)
theorem dN {W τ:List As} {ws:List Ab} {d:Ak} {es:List (Int×Ab)} {Q:Ab->Ay->Prop} (hw:ws.map cl=[.ref d]) (hm:(.obj d,.idict es)∈(⟨W,τ⟩:Ay).all) (h:∀v,Q (.ref v) ⟨W,(.obj v,.vview d)::τ⟩):T Γ A ⟨W,τ⟩ (call (.builtin "dict.values") ws) Q:=λs R=>by
 obtain⟨w₀,rfl,e0⟩:=Ir hw
 have:=Cc e0
 subst this
 obtain⟨kvs,D,rfl,lo⟩:=Ro R hm
 exact call_meetsIn PySem.F.slot_dict_values D.typeIs PySem.F.entry_dict_values (PySem.F.args_dict_values_1 _) (meets_dict_values (intKind Γ.prog Γ.w) d lo)
  ⟨⟨kvs,D⟩,_,R.push (c:=.vview d) (s':={s with heap:=s.heap.push _}) (λ_ _ e=>Al _ e) rfl rfl ⟨_,Bg _ rfl,rfl,rfl⟩,h _⟩
theorem dO {W τ:List As} {d:Ak} {es:List (Int×Ab)} {Q:Ab->Ay->Prop} (hm:(.obj d,.idict es)∈(⟨W,τ⟩:Ay).all) (h:∀v,Q (.ref v) ⟨W,(.obj v,.vview d)::τ⟩):Wc Γ A (.builtin "dict.values") [.ref d] Q [] ⟨W,τ⟩:=λ_ hw=>dN (hw:=hw) (hm:=hm) (h:=h)
theorem gH {value slice:Aq} {o i v:Ab} {k:Str} {d:Ak} {es:List (Str×Ab)} {Q:Ab->Ay->Prop} (ho:cl o=.ref d) (hi:cl i=.str k 0) (hm:(.obj d,.sdict es)∈σ.all) (hv:Fk es k=some v) (h:Q v σ)
  (hs:autoParam (∀t,Jk slice false (.ref d) (.str k t)=operate [.ref d,.str k t] (getItem (.ref d) (.str k t))) aU) (hg:autoParam (∀r,Gi value (.ref d) r=pure ()) aU):
  T Γ A σ (Fz value slice o i) Q:=λs R=>by
 obtain⟨t,rfl⟩:=sS hi
 have:=Cc ho
 subst this
 obtain⟨kvs,D,e⟩:=(R.ents _ hm).1
 have e':kvs.map nK=es:=e
 subst e'
 rw [<-Pb,Cw]at hv
 obtain⟨u,hu,rfl⟩:=hv
 exact subscriptTail_builtin D.typeIs slot_dict_getitem.lookup (wpAny_getItem_of (knd:=strKind Γ.prog Γ.w) (by simp [PySem.strKind,Ab.isStrOf]) D.mapOf hu ⟨σ,R.toks _,h⟩) (hs t) hg
theorem Ee {value slice:Aq} {v:Ab} {k:Str} {d:Ak} {es:List (Str×Ab)} {Q:Ab->Ay->Prop} (hm:(.obj d,.sdict es)∈σ.all) (hv:Fk es k=some v) (h:Q v σ) (hs:autoParam (∀t,Jk slice false (.ref d) (.str k t)=operate [.ref d,.str k t] (getItem (.ref d) (.str k t))) aU) (hg:autoParam (∀r,Gi value (.ref d) r=pure ()) aU):P2 Γ A (Fz value slice) Q (.ref d) (.str k 0) σ:=λ_ _ ho hi=>gH (ho:=ho) (hi:=hi) (hm:=hm) (hv:=hv) (h:=h) (hs:=hs) (hg:=hg)
theorem eX {W τ:List As} {Q:Ab->Ay->Prop} (h:∀a,Q (.ref a) ⟨W,(.obj a,.iset [])::τ⟩):∀ws,ws.map cl=[]->T Γ A ⟨W,τ⟩ (call (.type "set") ws) Q:=λws hw s R=>by
 have:=oD hw
 subst this
 refine call_set_0 λled=>⟨_,R.push (c:=.iset []) (s':={s with heap:=s.heap.push _}) (λ_ _ e=>Al _ e) rfl rfl ?_,h _⟩
 refine⟨λ_=>false,0,⟨_,_,_,_,Bg _ rfl,⟨rfl,rfl,rfl⟩,rfl,λ_ he=>(by simp at he),λk=>(by simp),by decide,by cases led<;>decide,rfl⟩,Bx _,λ_=>rfl⟩
theorem fM {a:Ak} {ks:List Int} (hm:(.obj a,.iset ks)∈σ.all):∀s,Ea Γ σ s->∃o,s.heap.get? a=some o/\o.cls=.type "set" /\o.dict=none:=λs R=>
 by obtain⟨_,_,⟨o,_,_,_,e,c,_⟩,_⟩:=(R.ents _ hm).1;exact⟨o,e,c.1,c.2.1⟩
theorem jV {u v:Ab} {k:Int} {a:Ak} {ks:List Int} {Q:Ab->Ay->Prop} (hu:cl u=.int k 0) (hv:cl v=.ref a) (hm:(.obj a,.iset ks)∈σ.all) (h:Q (.bool (!ks.contains k)) σ):T Γ A σ (Eg .NotIn u v) Q:=λs R=>by
 obtain⟨t,rfl⟩:=Ev hu
 have:=Cc hv
 subst this
 obtain⟨S,n,D,_,e⟩:=(R.ents _ hm).1
 refine wpAny_notInSet_of (xR Γ k t) rfl D ⟨σ,R.toks _,?_⟩
 rw [e];exact h
theorem Un {k:Int} {a:Ak} {ks:List Int} {Q:Ab->Ay->Prop} (hm:(.obj a,.iset ks)∈σ.all) (h:Q (.bool (!ks.contains k)) σ):P2 Γ A (Eg .NotIn) Q (.int k 0) (.ref a) σ:=λ_ _ hu hv=>jV (hu:=hu) (hv:=hv) (hm:=hm) (h:=h)
theorem rA {ws:List Ab} {k:Int} {a:Ak} {ks:List Int} {Q:Ab->Ay->Prop} (hw:ws.map cl=[.ref a,.int k 0]) (U:Iy σ (.obj a) (.iset ks) (.iset (ks++[k])) σ') (hz:ks.length+1 < scanBound) (h:Q .none σ'):T Γ A σ (call (.builtin "set.add") ws) Q:=λs R=>by
 obtain⟨w₀,w₁,rfl,e0,e1⟩:=Jy hw
 have:=Cc e0
 subst this
 obtain⟨t,rfl⟩:=Ev e1
 obtain⟨S,n,D,hn,e⟩:=(R.ents _ U.mem).1
 refine call_set_add (xR Γ k t) rfl D (by lia) λh' hs D'=>⟨σ',Ea.changeS (s':={s with heap:=h',toks:=s.toks+1}) R U rfl hs.extBut rfl rfl ⟨_,_,D',?_,λk'=>?_⟩,h⟩
 ·simp only [Ah,Ft,List.length_nil]
  split<;>lia
 ·rw [e]
  simp [Bool.or_comm,eq_comm]
theorem Yk {k:Int} {a:Ak} {ks:List Int} {Q:Ab->Ay->Prop} (U:Iy σ (.obj a) (.iset ks) (.iset (ks++[k])) σ') (hz:ks.length+1 < scanBound) (h:Q .none σ'):Wc Γ A (.builtin "set.add") [.ref a] Q [.int k 0] σ:=λ_ hw=>rA (hw:=hw) (U:=U) (hz:=hz) (h:=h)
end
end
section
theorem He {ws:Array Ab} {vs:List Ab} (h:ws.toList.map cl=vs) {i:Nat} {v:Ab} (hv:vs[i]? =some v):∃u,ws[i]? =some u/\cl u=v:=getElem?_map_cl h hv
theorem Cn {ws:Array Ab} {vs:List Ab} (h:ws.toList.map cl=vs):ws.size=vs.length:=by subst h;simp
section
variable {Γ:Bj} {A:Aw} {σ σ':Ay} {s s':Ba} {env:Env}
noncomputable def cW (Γ:Bj) (σ:Ay) (a:Ak) (vs:List Ab):Prop:=∀s,Ea Γ σ s->∃ws n,IsL s.heap a ws n/\ws.toList.map cl=vs
theorem cW.of_mem {a:Ak} {vs:List Ab} (hm:(.obj a,.list vs)∈σ.all):cW Γ σ a vs:=λ_ R=>(R.ents _ hm).1
noncomputable def cV (Γ:Bj) (a:Ak) (vs:List Ab):Prop:=∃ws n,Γ.h₁.get? a=some (listOf ws n)/\ws.toList.map cl=vs
theorem cV.has {a:Ak} {vs:List Ab} (h:cV Γ a vs):cW Γ σ a vs:=λ_ R=>let ⟨ws,n,e,k⟩:=h;⟨ws,n,R.old.get_of_cls e (λq=>nomatch q),k⟩
theorem Hw {a:Ak} {vs:List Ab} (R:Ea Γ σ s) (hm:(.obj a,.list vs)∈σ.all):∃ws n,IsL s.heap a ws n/\ws.toList.map cl=vs:=(R.ents _ hm).1
theorem jX {value slice:Aq} {o i v:Ab} {k:Int} {a:Ak} {vs:List Ab} {Q:Ab->Ay->Prop} (ho:cl o=.ref a) (hi:cl i=.int k 0) (hm:cW Γ σ a vs) (h0:0<=k) (hf:k < 2 ^ 63) (hv:vs[k.toNat]? =some v) (h:Q v σ)
  (hs:autoParam (∀t,Jk slice false (.ref a) (.int k t)=operate [.ref a,.int k t] (getItem (.ref a) (.int k t))) aU) (hg:autoParam (∀r,Gi value (.ref a) r=pure ()) aU):
  T Γ A σ (Fz value slice o i) Q:=λs R=>by
 obtain⟨t,rfl⟩:=Ev hi
 have:=Cc ho
 subst this
 obtain⟨ws,n,L,e⟩:=hm s R
 obtain⟨u,hu,rfl⟩:=He e hv
 exact item_list L.isList h0 hf hu ⟨σ,R,h⟩ (hs t) hg
theorem Tq {value slice:Aq} {v:Ab} {k:Int} {a:Ak} {vs:List Ab} {Q:Ab->Ay->Prop} (hm:cW Γ σ a vs) (h0:0<=k) (hf:k < 2 ^ 63) (hv:vs[k.toNat]? =some v) (h:Q v σ) (hs:autoParam (∀t,Jk slice false (.ref a) (.int k t)=operate [.ref a,.int k t] (getItem (.ref a) (.int k t))) aU) (hg:autoParam (∀r,Gi value (.ref a) r=pure ()) aU):P2 Γ A (Fz value slice) Q (.ref a) (.int k 0) σ:=λ_ _ ho hi=>jX (ho:=ho) (hi:=hi) (hm:=hm) (h0:=h0) (hf:=hf) (hv:=hv) (h:=h) (hs:=hs) (hg:=hg)
theorem Ch {value slice:Aq} {v:Ab} {k:Int} {a:Ak} {vs:List Ab} {Q:Ab->Ay->Prop} (hm:(.obj a,.list vs)∈σ.all) (h0:0<=k) (hf:k < 2 ^ 63) (hv:vs[k.toNat]? =some v) (h:Q v σ) (hs:autoParam (∀t,Jk slice false (.ref a) (.int k t)=operate [.ref a,.int k t] (getItem (.ref a) (.int k t))) aU) (hg:autoParam (∀r,Gi value (.ref a) r=pure ()) aU):P2 Γ A (Fz value slice) Q (.ref a) (.int k 0) σ:=Tq (.of_mem hm) h0 hf hv h hs hg
theorem Yr {value slice:Aq} {o i v:Ab} {a:Ak} {vs:List Ab} {Q:Ab->Ay->Prop} (ho:cl o=.ref a) (hi:cl i=.int (-1) 0) (hm:(.obj a,.list (vs++[v]))∈σ.all) (hz:vs.length < 1000000) (h:Q v σ)
  (hs:autoParam (∀t,Jk slice false (.ref a) (.int (-1) t)=operate [.ref a,.int (-1) t] (getItem (.ref a) (.int (-1) t))) aU) (hg:autoParam (∀r,Gi value (.ref a) r=pure ()) aU):
  T Γ A σ (Fz value slice o i) Q:=λs R=>by
 obtain⟨t,rfl⟩:=Ev hi
 have:=Cc ho
 subst this
 obtain⟨ws,n,L,e⟩:=Hw R hm
 have hz':ws.size=vs.length+1:=by rw [Cn e];simp
 obtain⟨u,hu,rfl⟩:=He (i:=vs.length) (v:=v) e (by simp)
 refine subscriptTail_builtin L.isList.typeIs slot_list_getitem.lookup (wpAny_getItem_list_neg L.isList (by decide) (by lia) (by decide) (x:=u) ?_ ⟨σ,R,h⟩) (hs t) hg
 rw [<-hu]
 congr 1
 lia
theorem Ys {value slice:Aq} {v:Ab} {a:Ak} {vs:List Ab} {Q:Ab->Ay->Prop} (hm:(.obj a,.list (vs++[v]))∈σ.all) (hz:vs.length < 1000000) (h:Q v σ) (hs:autoParam (∀t,Jk slice false (.ref a) (.int (-1) t)=operate [.ref a,.int (-1) t] (getItem (.ref a) (.int (-1) t))) aU) (hg:autoParam (∀r,Gi value (.ref a) r=pure ()) aU):P2 Γ A (Fz value slice) Q (.ref a) (.int (-1) 0) σ:=λ_ _ ho hi=>Yr (ho:=ho) (hi:=hi) (hm:=hm) (hz:=hz) (h:=h) (hs:=hs) (hg:=hg)
theorem nB {value slice:Aq} {o i v:Ab} {k:Int} {a:Ak} {vs:List Ab} {Q:Ab->Ay->Prop} (ho:cl o=.ref a) (hi:cl i=.int k 0) (hm:Ew Γ σ a vs) (h0:0<=k) (hf:k < 2 ^ 63) (hv:vs[k.toNat]? =some v) (h:Q v σ)
  (hs:autoParam (∀t,Jk slice false (.ref a) (.int k t)=operate [.ref a,.int k t] (getItem (.ref a) (.int k t))) aU) (hg:autoParam (∀r,Gi value (.ref a) r=pure ()) aU):
  T Γ A σ (Fz value slice o i) Q:=λs R=>by
 obtain⟨t,rfl⟩:=Ev hi
 have:=Cc ho
 subst this
 obtain⟨ws,n,L,e⟩:=hm s R
 obtain⟨u,hu,rfl⟩:=He e hv
 have hlt:k.toNat < ws.size:=(Nq.mp hu).1
 have hj:seqIndex? k ws.size=some k.toNat:=by
  unfold seqIndex?
  have h1:¬k < 0:=by lia
  have h2:k < (ws.size:Int):=by lia
  simp [h1,h2]
  try lia
 exact item_tuple ⟨_,L,rfl,n,rfl⟩ (by lia) hf hj hu ⟨σ,R,h⟩ (hs t) hg
theorem Vu {value slice:Aq} {v:Ab} {k:Int} {a:Ak} {vs:List Ab} {Q:Ab->Ay->Prop} (hm:Ew Γ σ a vs) (h0:0<=k) (hf:k < 2 ^ 63) (hv:vs[k.toNat]? =some v) (h:Q v σ) (hs:autoParam (∀t,Jk slice false (.ref a) (.int k t)=operate [.ref a,.int k t] (getItem (.ref a) (.int k t))) aU) (hg:autoParam (∀r,Gi value (.ref a) r=pure ()) aU):P2 Γ A (Fz value slice) Q (.ref a) (.int k 0) σ:=λ_ _ ho hi=>nB (ho:=ho) (hi:=hi) (hm:=hm) (h0:=h0) (hf:=hf) (hv:=hv) (h:=h) (hs:=hs) (hg:=hg)
theorem mZ {ws:List Ab} {a:Ak} {vs:List Ab} {Q:Ab->Ay->Prop} (hw:ws.map cl=[.ref a]) (hm:cW Γ σ a vs) (hz:vs.length<=1000000) (h:Q (.int vs.length 0) σ):T Γ A σ (call (.builtin "len") ws) Q:=λs R=>by
 obtain⟨w₀,rfl,e0⟩:=Ir hw
 have:=Cc e0
 subst this
 obtain⟨us,n,L,e⟩:=hm s R
 have hz':=Cn e
 refine len_list L.isList (by lia) ⟨σ,R.toks _,?_⟩
 rw [hz'];exact h
theorem Ym {a:Ak} {vs:List Ab} {Q:Ab->Ay->Prop} (hm:cW Γ σ a vs) (hz:vs.length<=1000000) (h:Q (.int vs.length 0) σ):kN Γ A (.builtin "len") Q [.ref a] σ:=λ_ hw=>mZ (hw:=hw) (hm:=hm) (hz:=hz) (h:=h)
theorem Hj {a:Ak} {vs:List Ab} {Q:Ab->Ay->Prop} (hm:(.obj a,.list vs)∈σ.all) (hz:vs.length<=1000000) (h:Q (.int vs.length 0) σ):kN Γ A (.builtin "len") Q [.ref a] σ:=Ym (.of_mem hm) hz h
theorem rE {ws:List Ab} {a:Ak} {vs:List Ab} {Q:Ab->Ay->Prop} (hw:ws.map cl=[.ref a]) (hm:Ew Γ σ a vs) (hz:vs.length<=1000000) (h:Q (.int vs.length 0) σ):T Γ A σ (call (.builtin "len") ws) Q:=λs R=>by
 obtain⟨w₀,rfl,e0⟩:=Ir hw
 have:=Cc e0
 subst this
 obtain⟨us,n,L,e⟩:=hm s R
 have hz':=Cn e
 refine PyProof.Rows.len_tuple ⟨_,L,rfl,n,rfl⟩ (by lia) ⟨σ,R.toks _,?_⟩
 rw [hz'];exact h
theorem rN {a:Ak} {vs:List Ab} {Q:Ab->Ay->Prop} (hm:Ew Γ σ a vs) (hz:vs.length<=1000000) (h:Q (.int vs.length 0) σ):kN Γ A (.builtin "len") Q [.ref a] σ:=λ_ hw=>rE (hw:=hw) (hm:=hm) (hz:=hz) (h:=h)
theorem Vh {v:Ab} {a:Ak} {vs:List Ab} {Q:Bool->Ay->Prop} (hv:cl v=.ref a) (hm:cW Γ σ a vs) (hz:vs.length<=1000000) (h:Q (!vs.isEmpty) σ):T Γ A σ (Oz v) Q:=λs R=>by
 have:=Cc hv
 subst this
 obtain⟨us,n,L,e⟩:=hm s R
 have hz':=Cn e
 refine wpAny_truthy_list L.isList (by lia) ⟨σ,R.toks _,?_⟩
 have:us.isEmpty=vs.isEmpty:=by
  cases vs with
  |nil=>simp at hz';simp [hz']
  |cons x r=>
   have:us.size≠0:=by rw [hz'];simp
   simp [Array.isEmpty,this]
 show Q (!us.isEmpty) σ
 rw [this];exact h
theorem Xh {a:Ak} {vs:List Ab} {Q:Bool->Ay->Prop} (hm:cW Γ σ a vs) (hz:vs.length<=1000000) (h:Q (!vs.isEmpty) σ):P1 Γ A Oz Q (.ref a) σ:=λ_ hv=>Vh (hv:=hv) (hm:=hm) (hz:=hz) (h:=h)
theorem Oo {a:Ak} {vs:List Ab} {Q:Bool->Ay->Prop} (hm:(.obj a,.list vs)∈σ.all) (hz:vs.length<=1000000) (h:Q (!vs.isEmpty) σ):P1 Γ A Oz Q (.ref a) σ:=Xh (.of_mem hm) hz h
theorem Qt {v:Ab} {b:Bool} {Q:Bool->Ay->Prop} (hv:cl v=.bool b) (h:Q b σ):T Γ A σ (Oz v) Q:=λs R=>by
 have:=fS hv
 subst this
 exact wpAny_truthy_bool ⟨σ,R,h⟩
theorem Fc {b:Bool} {Q:Bool->Ay->Prop} (h:Q b σ):P1 Γ A Oz Q (.bool b) σ:=λ_ hv=>Qt (hv:=hv) (h:=h)
theorem dG {v:Ab} {Q:Bool->Ay->Prop} (hv:cl v=.none) (h:Q false σ):T Γ A σ (Oz v) Q:=λs R=>by
 have:=Tj hv
 subst this
 exact truthy_none ⟨σ,R,h⟩
theorem gC {v:Ab} {k:Int} {Q:Bool->Ay->Prop} (hv:cl v=.int k 0) (h:Q (k != 0) σ):T Γ A σ (Oz v) Q:=λs R=>by
 obtain⟨t,rfl⟩:=Ev hv
 exact PyProof.Rows.truthy_int ⟨σ,R,h⟩
theorem Xi {k:Int} {Q:Bool->Ay->Prop} (h:Q (k != 0) σ):P1 Γ A Oz Q (.int k 0) σ:=λ_ hv=>gC (hv:=hv) (h:=h)
theorem rI {ws:List Ab} {a:Ak} {v:Ab} {vs:List Ab} {Q:Ab->Ay->Prop} (hw:ws.map cl=[.ref a,.int 0 0,v]) (U:Iy σ (.obj a) (.list vs) (.list (v::vs)) σ') (hz:vs.length<=Gg) (h:Q .none σ'):T Γ A σ (call (.builtin "list.insert") ws) Q:=λs R=>by
 obtain⟨w₀,w₁,w₂,rfl,e0,e1,e2⟩:=Us hw
 have:=Cc e0
 subst this
 obtain⟨t,rfl⟩:=Ev e1
 obtain⟨us,n,L,e⟩:=Hw R U.mem
 have hz':=Cn e
 refine call_meets PySem.F.slot_list_insert ⟨_,L,rfl⟩ PySem.F.entry_list_insert (PySem.F.args_list_insert_3 _ _ _) (AutoSeq1.list_insert_list_int_val_1 a us n 0 t w₂ (by decide) (by lia))
  ⟨L,σ',Ea.changeS (s':={s with heap:=s.heap.update a _}) R U rfl (Dg ..).extBut rfl rfl ⟨_,_,L.update _,?_⟩,h⟩
 simp [e,e2]
theorem rP {a:Ak} {v:Ab} {vs:List Ab} {Q:Ab->Ay->Prop} (U:Iy σ (.obj a) (.list vs) (.list (v::vs)) σ') (hz:vs.length<=Gg) (h:Q .none σ'):Wc Γ A (.builtin "list.insert") [.ref a] Q [.int 0 0,v] σ:=λ_ hw=>rI (hw:=hw) (U:=U) (hz:=hz) (h:=h)
theorem vB {ws:List Ab} {a b:Ak} {vs us:List Ab} {Q:Ab->Ay->Prop} (hw:ws.map cl=[.ref a,.ref b]) (hb:(.obj b,.list us)∈σ.all) (U:Iy σ (.obj a) (.list vs) (.list (vs++us)) σ') (hz:vs.length+us.length<=1000000) (h:Q .none σ'):T Γ A σ (call (.builtin "list.extend") ws) Q:=λs R=>by
 obtain⟨w₀,w₁,rfl,e0,e1⟩:=Jy hw
 have:=Cc e0
 subst this
 have:=Cc e1
 subst this
 obtain⟨xs,n,L,e⟩:=Hw R U.mem
 obtain⟨ys,n2,L2,e2⟩:=Hw R hb
 have hz1:=Cn e
 have hz2:=Cn e2
 have hs:xs.size+ys.size<=Gg:=by rw [Av];lia
 refine call_meets Op ⟨_,L,rfl⟩ PySem.F.entry_list_extend (PySem.F.args_list_extend_2 _ _) (AutoSeq1.list_extend_list_list_0 a xs n b ys n2 (extend_door hs) (by lia) (by lia))
  ⟨L,L2,σ',Ea.changeS (s':={s with heap:=s.heap.update a _}) R U rfl (Dg ..).extBut rfl rfl ⟨_,_,L.update _,?_⟩,h⟩
 simp [e,e2]
theorem jA {a b:Ak} {vs us:List Ab} {Q:Ab->Ay->Prop} (hb:(.obj b,.list us)∈σ.all) (U:Iy σ (.obj a) (.list vs) (.list (vs++us)) σ') (hz:vs.length+us.length<=1000000) (h:Q .none σ'):Wc Γ A (.builtin "list.extend") [.ref a] Q [.ref b] σ:=λ_ hw=>vB (hw:=hw) (hb:=hb) (U:=U) (hz:=hz) (h:=h)
theorem Wu {W τ:List As} {u v:Ab} {a b:Ak} {vs us:List Ab} {Q:Ab->Ay->Prop} (hu:cl u=.ref a) (hv:cl v=.ref b) (ha:(.obj a,.list vs)∈(⟨W,τ⟩:Ay).all) (hb:(.obj b,.list us)∈(⟨W,τ⟩:Ay).all) (hz:vs.length+us.length<=1000000) (h:∀r,Q (.ref r) ⟨W,(.obj r,.list (vs++us))::τ⟩):
  T Γ A ⟨W,τ⟩ (Oh .Add u v) Q:=λs R=>by
 have:=Cc hu
 subst this
 have:=Cc hv
 subst this
 obtain⟨xs,n,L,e⟩:=Hw R ha
 obtain⟨ys,n2,L2,e2⟩:=Hw R hb
 have hz1:=Cn e
 have hz2:=Cn e2
 refine P.add_list L L2 ⟨_,R.push (c:=.list (vs++us)) (s':={s with heap:=s.heap.push _}) (λ_ _ e=>Al _ e) rfl rfl ⟨_,0,Bg _ rfl,?_⟩,h _⟩ (by rw [Av];lia)
 simp [e,e2]
theorem Ww {W τ:List As} {a b:Ak} {vs us:List Ab} {Q:Ab->Ay->Prop} (ha:(.obj a,.list vs)∈(⟨W,τ⟩:Ay).all) (hb:(.obj b,.list us)∈(⟨W,τ⟩:Ay).all) (hz:vs.length+us.length<=1000000) (h:∀r,Q (.ref r) ⟨W,(.obj r,.list (vs++us))::τ⟩):P2 Γ A (Oh .Add) Q (.ref a) (.ref b) ⟨W,τ⟩:=λ_ _ hu hv=>Wu (hu:=hu) (hv:=hv) (ha:=ha) (hb:=hb) (hz:=hz) (h:=h)
theorem Oj {W τ:List As} {a:Ak} {vs:List Ab} {Q:Ab->Ay->Prop} (hm:Ew Γ ⟨W,τ⟩ a vs) (hz:vs.length<=1000000) (h:∀r,Q (.ref r) ⟨W,(.obj r,.list vs)::τ⟩):∀ws,ws.map cl=[.ref a]->T Γ A ⟨W,τ⟩ (call (.type "list") ws) Q:=λws hw s R=>by
 obtain⟨w₀,rfl,e0⟩:=Ir hw
 have:=Cc e0
 subst this
 obtain⟨us,n,L,e⟩:=hm s R
 have hz':=Cn e
 exact call_list_seq a (.inr rfl) L rfl rfl (λh' c' keep hg=>⟨_,(R.grow (s':={s with heap:=h'}) keep rfl rfl).add (l:=.obj s.heap.objs.size) (c:=.list vs) ⟨us,c',hg,e⟩ R.freshTop (Jp (σ:=⟨W,τ⟩) (s:=s) rfl (λq hq=>(R.ents q hq).1) (Bx _)),h _⟩) (by rw [Av];lia)
theorem Uq {W τ:List As} {a:Ak} {vs:List Ab} {Q:Ab->Ay->Prop} (hm:(.obj a,.list vs)∈(⟨W,τ⟩:Ay).all) (hz:vs.length<=1000000) (h:∀r,Q (.ref r) ⟨W,(.obj r,.list vs)::τ⟩):∀ws,ws.map cl=[.ref a]->T Γ A ⟨W,τ⟩ (call (.type "list") ws) Q:=λws hw s R=>by
 obtain⟨w₀,rfl,e0⟩:=Ir hw
 have:=Cc e0
 subst this
 obtain⟨us,n,L,e⟩:=Hw R hm
 have hz':=Cn e
 exact call_list_seq a (.inl rfl) L rfl rfl (λh' c' keep hg=>⟨_,(R.grow (s':={s with heap:=h'}) keep rfl rfl).add (l:=.obj s.heap.objs.size) (c:=.list vs) ⟨us,c',hg,e⟩ R.freshTop (Jp (σ:=⟨W,τ⟩) (s:=s) rfl (λq hq=>(R.ents q hq).1) (Bx _)),h _⟩) (by rw [Av];lia)
theorem Fp {W τ:List As} {a:Ak} {vs:List Ab} {Q:Ab->Ay->Prop} (hm:(.obj a,.list vs)∈(⟨W,τ⟩:Ay).all) (hz:vs.length<=1000000) (h:∀r,Q (.ref r) ⟨W,(.obj r,.tup vs)::τ⟩):∀ws,ws.map cl=[.ref a]->T Γ A ⟨W,τ⟩ (call (.type "tuple") ws) Q:=λws hw s R=>by
 obtain⟨w₀,rfl,e0⟩:=Ir hw
 have:=Cc e0
 subst this
 obtain⟨us,n,L,e⟩:=Hw R hm
 have hz':=Cn e
 refine call_tuple_list L.isList (λh' keep=>?_) (by rw [Av];lia)
 have R1:=R.grow (s':={s with heap:=h'}) keep rfl rfl
 exact⟨_,R1.push (c:=.tup vs) (s':={s with heap:=h'.push _}) (λ_ _ e=>Al _ e) rfl rfl ⟨us,0,Bg _ rfl,e⟩,h _⟩
theorem Up {a:Ak} {vs:List Ab} {Q:Ab->Ay->Prop} (hm:Ew Γ σ a vs) (h:Q (.ref a) σ):∀ws,ws.map cl=[.ref a]->T Γ A σ (call (.type "tuple") ws) Q:=λws hw s R=>by
 obtain⟨w₀,rfl,e0⟩:=Ir hw
 have:=Cc e0
 subst this
 obtain⟨us,n,L,e⟩:=hm s R
 exact call_tuple_same ⟨_,L,rfl,n,rfl⟩ ⟨σ,R,h⟩
theorem rF {u v:Ab} {c:Ab} {Q:Ab->Ay->Prop} (hu:cl u=c) (hv:cl v=.none) (hc:plainIs c .none=true) (h:Q (.bool (c==.none)) σ):T Γ A σ (Eg .Is u v) Q:=λs R=>by
 have:=Tj hv
 subst this
 have e:(u==Dm)=(c==Dm):=by subst hu;cases u<;>rfl
 refine wpAny_is_plain ?_ ⟨σ,R,?_⟩
 ·subst hu;cases u<;>exact hc
 ·rw [e];exact h
theorem Pp {c:Ab} {Q:Ab->Ay->Prop} (hc:plainIs c .none=true) (h:Q (.bool (c==.none)) σ):P2 Γ A (Eg .Is) Q c .none σ:=λ_ _ hu hv=>rF (hu:=hu) (hv:=hv) (hc:=hc) (h:=h)
theorem Xg {u v:Ab} {c:Ab} {Q:Ab->Ay->Prop} (hu:cl u=c) (hv:cl v=.none) (hc:plainIs c .none=true) (h:Q (.bool (!(c==.none))) σ):T Γ A σ (Eg .IsNot u v) Q:=λs R=>by
 have:=Tj hv
 subst this
 have e:(u==Dm)=(c==Dm):=by subst hu;cases u<;>rfl
 refine wpAny_isNot_plain ?_ ⟨σ,R,?_⟩
 ·subst hu;cases u<;>exact hc
 ·rw [e];exact h
theorem Kr {c:Ab} {Q:Ab->Ay->Prop} (hc:plainIs c .none=true) (h:Q (.bool (!(c==.none))) σ):P2 Γ A (Eg .IsNot) Q c .none σ:=λ_ _ hu hv=>Xg (hu:=hu) (hv:=hv) (hc:=hc) (h:=h)
theorem uY {u v:Ab} {x y C d C' d':Ak} {Q:Ab->Ay->Prop} (hu:cl u=.ref x) (hv:cl v=.ref y) (hx:(.obj x,.inst C d)∈σ.all) (hy:(.obj y,.inst C' d')∈σ.all) (h:Q (.bool (x==y)) σ):T Γ A σ (Eg .Is u v) Q:=λs R=>by
 have:=Cc hu
 subst this
 have:=Cc hv
 subst this
 by_cases e:x=y
 ·subst e
  rw [beq_self_eq_true]at h
  exact wpAny_is_ref_self ⟨σ,R,h⟩
 ·rw [beq_eq_false_iff_ne.mpr e]at h
  exact wpAny_is_ref_other e (R.ents _ hx).1 (R.ents _ hy).1 (by simp) ⟨σ,R,h⟩
theorem Wv {x y C d C' d':Ak} {Q:Ab->Ay->Prop} (hx:(.obj x,.inst C d)∈σ.all) (hy:(.obj y,.inst C' d')∈σ.all) (h:Q (.bool (x==y)) σ):P2 Γ A (Eg .Is) Q (.ref x) (.ref y) σ:=λ_ _ hu hv=>uY (hu:=hu) (hv:=hv) (hx:=hx) (hy:=hy) (h:=h)
theorem Zh {u v:Ab} {x y C d C' d':Ak} {Q:Ab->Ay->Prop} (hu:cl u=.ref x) (hv:cl v=.ref y) (hx:(.obj x,.inst C d)∈σ.all) (hy:(.obj y,.inst C' d')∈σ.all) (h:Q (.bool (!(x==y))) σ):T Γ A σ (Eg .IsNot u v) Q:=λs R=>by
 have:=Cc hu
 subst this
 have:=Cc hv
 subst this
 by_cases e:x=y
 ·subst e
  rw [beq_self_eq_true]at h
  exact wpAny_isNot_ref_self ⟨σ,R,h⟩
 ·rw [beq_eq_false_iff_ne.mpr e]at h
  exact wpAny_isNot_ref_other e (R.ents _ hx).1 (R.ents _ hy).1 (by simp) ⟨σ,R,h⟩
theorem Zj {x y C d C' d':Ak} {Q:Ab->Ay->Prop} (hx:(.obj x,.inst C d)∈σ.all) (hy:(.obj y,.inst C' d')∈σ.all) (h:Q (.bool (!(x==y))) σ):P2 Γ A (Eg .IsNot) Q (.ref x) (.ref y) σ:=λ_ _ hu hv=>Zh (hu:=hu) (hv:=hv) (hx:=hx) (hy:=hy) (h:=h)
end
end
section
section
variable {Γ:Bj} {A:Aw} {σ σ':Ay} {s s':Ba} {env:Env}
theorem Zi {x:Str} {pos' pos:Pos} {op:Operator} {value:Aq} {old:Ab} {Q:Fv->Ay->Prop} (hm:(.var env.locals x,.val (some old))∈σ.all)
  (h:T Γ A σ (Dr value env) λc σ₁=>∀u v,cl u=old->cl v=c->T Γ A σ₁ (inplaceOp op u v) λr σ₂=>∃ov σ₃,Iy σ₂ (.var env.locals x) (.val ov) (.val (some r)) σ₃/\Q .next σ₃)
  (hk:autoParam (env.scope.kind=.function) aR) (hl:autoParam (env.kindOf x=some .local) aR):T Γ A σ (Mx (.AugAssign (.Name x pos') op value pos) env) Q:=λs R=>by
 obtain⟨M,N,e⟩:=(R.ents _ hm).1
 cases q:M x with
 |none=>rw [q]at e;cases e
 |some u=>
  rw [q]at e
  have eu:cl u=old:=Dh e
  refine wpAny_AugAssign_Name (wpAny_loadName_local hk hl N q (h.elim R λv _ _ R₁ q₁=>(q₁ u v eu rfl).elim R₁ λr _ _ R₂ ⟨_,_,U,q₂⟩=>(Qv (Q:=λ_=>Q .next) U q₂ hk hl).elim R₂ λ_ _ σ' R' q=>⟨σ',R',q⟩))
theorem oN {test:Aq} {body orelse:List Jr} {pos:Pos} {Q:Fv->Ay->Prop} (I:Nat->Ay->Prop) (n:Nat) (h0:I n σ)
  (turn:∀n σ,I n σ->T Γ A σ (isTrue test env (Dr test env)) λb σ₁=>
   (b=true->T Γ A σ₁ (Cm body env) λf σ₂=>match f with
    |.next|.cont=>∃m σ₃,m < n/\As.le σ₃ σ₂/\I m σ₃
    |.brk=>Q .next σ₂
    |.ret v=>Q (.ret v) σ₂)/\(b=false->T Γ A σ₁ (Cm orelse env) Q)):T Γ A σ (Mx (.While test body orelse pos) env) Q:=λs R=>by
 refine wpAny_While (Jg (codeAny_whileLoop (R:=λr s'=>match r with|.ok f=>fB Γ Q (cln f) s'|.error _=>False) (λn s'=>fB Γ I n s') ?_ n ⟨σ,R,h0⟩) λr s' z=>by cases r with|ok f=>exact z|error e=>exact z.elim)
 rintro n s' ⟨σ',R',hI⟩
 refine Dy (turn n σ' hI s' R') (λb s₁ zz=>?_) λ_ _ x=>x.elim
 obtain⟨σ₁,R₁,q₁⟩:=zz
 cases b with
 |true=>
  refine Dy (q₁.1 rfl s₁ R₁) (λf s₂ zz=>?_) λ_ _ x=>x.elim
  obtain⟨σ₂,R₂,q₂⟩:=zz
  cases f with
  |next=>obtain⟨m,σ₃,hm,le,hI'⟩:=q₂;exact⟨m,hm,σ₃,le Γ s₂ R₂,hI'⟩
  |cont=>obtain⟨m,σ₃,hm,le,hI'⟩:=q₂;exact⟨m,hm,σ₃,le Γ s₂ R₂,hI'⟩
  |brk=>exact⟨σ₂,R₂,q₂⟩
  |ret v=>exact⟨σ₂,R₂,q₂⟩
 |false=>exact Dy (q₁.2 rfl s₁ R₁) (λf s₂ q=>q) λ_ _ x=>x.elim
theorem Aej {u v:Ab} {a b:Int} {Q:Ab->Ay->Prop} (hu:cl u=.int a 0) (hv:cl v=.int b 0) (h:Q (.int (a+b) 0) σ):T Γ A σ (Oh .Add u v) Q:=λs R=>by
 obtain⟨t,rfl⟩:=Ev hu
 obtain⟨t',rfl⟩:=Ev hv
 exact PyProof.Rows.add_int ⟨σ,R.toks _,h⟩
theorem Qz {a b:Int} {Q:Ab->Ay->Prop} (h:Q (.int (a+b) 0) σ):P2 Γ A (Oh .Add) Q (.int a 0) (.int b 0) σ:=λ_ _ hu hv=>Aej (hu:=hu) (hv:=hv) (h:=h)
theorem zY {u v:Ab} {a b:Int} {Q:Ab->Ay->Prop} (hu:cl u=.int a 0) (hv:cl v=.int b 0) (h:Q (.int (a+b) 0) σ):T Γ A σ (inplaceOp .Add u v) Q:=λs R=>by
 obtain⟨t,rfl⟩:=Ev hu
 obtain⟨t',rfl⟩:=Ev hv
 exact PyProof.Rows.iadd_int ⟨σ,R.toks _,h⟩
theorem zX {u v:Ab} {a b:Int} {Q:Ab->Ay->Prop} (hu:cl u=.int a 0) (hv:cl v=.int b 0) (h:Q (.int (a - b) 0) σ):T Γ A σ (inplaceOp .Sub u v) Q:=λs R=>by
 obtain⟨t,rfl⟩:=Ev hu
 obtain⟨t',rfl⟩:=Ev hv
 exact PyProof.Rows.isub_int ⟨σ,R.toks _,h⟩
theorem Aed {u v:Ab} {a b:Int} {Q:Ab->Ay->Prop} (hu:cl u=.int a 0) (hv:cl v=.int b 0) (hb:b≠0) (h:Q (.int (a.fmod b) 0) σ):T Γ A σ (Oh .Mod u v) Q:=λs R=>by
 obtain⟨t,rfl⟩:=Ev hu
 obtain⟨t',rfl⟩:=Ev hv
 exact PyProof.Rows.mod_int hb ⟨σ,R.toks _,h⟩
theorem Vc {a b:Int} {Q:Ab->Ay->Prop} (hb:b≠0) (h:Q (.int (a.fmod b) 0) σ):P2 Γ A (Oh .Mod) Q (.int a 0) (.int b 0) σ:=λ_ _ hu hv=>Aed (hu:=hu) (hv:=hv) (hb:=hb) (h:=h)
theorem nG {u v:Ab} {a b:Int} {Q:Ab->Ay->Prop} (hu:cl u=.int a 0) (hv:cl v=.int b 0) (hb:b≠0) (hs:b.natAbs < 1073741824) (h:Q (.int (a.fdiv b) 0) σ):T Γ A σ (Oh .FloorDiv u v) Q:=λs R=>by
 obtain⟨t,rfl⟩:=Ev hu
 obtain⟨t',rfl⟩:=Ev hv
 exact PyProof.Rows.floordiv_int hb ⟨σ,R.toks _,h⟩ (.inl (PyProof.noPylong_small hs))
theorem Nj {a b:Int} {Q:Ab->Ay->Prop} (hb:b≠0) (hs:b.natAbs < 1073741824) (h:Q (.int (a.fdiv b) 0) σ):P2 Γ A (Oh .FloorDiv) Q (.int a 0) (.int b 0) σ:=λ_ _ hu hv=>nG (hu:=hu) (hv:=hv) (hb:=hb) (hs:=hs) (h:=h)
theorem Aea {u v:Ab} {a b:Int} {Q:Ab->Ay->Prop} (hu:cl u=.int a 0) (hv:cl v=.int b 0) (hb:0<=b) (hs:(Builtin.Int.intBits a:Int) * b<=2 ^ 27) (h:Q (.int (a ^ b.toNat) 0) σ):T Γ A σ (Oh .Pow u v) Q:=λs R=>by
 obtain⟨t,rfl⟩:=Ev hu
 obtain⟨t',rfl⟩:=Ev hv
 exact PyProof.Rows.pow_int hb hs ⟨σ,R.toks _,h⟩
theorem sH {a b:Int} {Q:Ab->Ay->Prop} (hb:0<=b) (hs:(Builtin.Int.intBits a:Int) * b<=2 ^ 27) (h:Q (.int (a ^ b.toNat) 0) σ):P2 Γ A (Oh .Pow) Q (.int a 0) (.int b 0) σ:=λ_ _ hu hv=>Aea (hu:=hu) (hv:=hv) (hb:=hb) (hs:=hs) (h:=h)
theorem Agj {u v:Ab} {a b:Int} {Q:Ab->Ay->Prop} (hu:cl u=.int a 0) (hv:cl v=.int b 0) (h:Q (.bool (decide (a < b))) σ):T Γ A σ (Eg .Lt u v) Q:=λs R=>by
 obtain⟨t,rfl⟩:=Ev hu
 obtain⟨t',rfl⟩:=Ev hv
 exact PyProof.Rows.lt_int ⟨σ,R,h⟩
theorem vO {a b:Int} {Q:Ab->Ay->Prop} (h:Q (.bool (decide (a < b))) σ):P2 Γ A (Eg .Lt) Q (.int a 0) (.int b 0) σ:=λ_ _ hu hv=>Agj (hu:=hu) (hv:=hv) (h:=h)
theorem Agk {u v:Ab} {a b:Int} {Q:Ab->Ay->Prop} (hu:cl u=.int a 0) (hv:cl v=.int b 0) (h:Q (.bool (decide (b < a))) σ):T Γ A σ (Eg .Gt u v) Q:=λs R=>by
 obtain⟨t,rfl⟩:=Ev hu
 obtain⟨t',rfl⟩:=Ev hv
 exact PyProof.Rows.gt_int ⟨σ,R,h⟩
theorem Acb {a b:Int} {Q:Ab->Ay->Prop} (h:Q (.bool (decide (b < a))) σ):P2 Γ A (Eg .Gt) Q (.int a 0) (.int b 0) σ:=λ_ _ hu hv=>Agk (hu:=hu) (hv:=hv) (h:=h)
theorem Agl {u v:Ab} {a b:Int} {Q:Ab->Ay->Prop} (hu:cl u=.int a 0) (hv:cl v=.int b 0) (h:Q (.bool (a==b)) σ):T Γ A σ (Eg .Eq u v) Q:=λs R=>by
 obtain⟨t,rfl⟩:=Ev hu
 obtain⟨t',rfl⟩:=Ev hv
 exact PyProof.Rows.eq_int ⟨σ,R,h⟩
theorem Nr {a b:Int} {Q:Ab->Ay->Prop} (h:Q (.bool (a==b)) σ):P2 Γ A (Eg .Eq) Q (.int a 0) (.int b 0) σ:=λ_ _ hu hv=>Agl (hu:=hu) (hv:=hv) (h:=h)
theorem Agi {u v:Ab} {a b:Int} {Q:Ab->Ay->Prop} (hu:cl u=.int a 0) (hv:cl v=.int b 0) (h:Q (.bool (a != b)) σ):T Γ A σ (Eg .NotEq u v) Q:=λs R=>by
 obtain⟨t,rfl⟩:=Ev hu
 obtain⟨t',rfl⟩:=Ev hv
 exact PyProof.Rows.ne_int ⟨σ,R,h⟩
theorem Aca {a b:Int} {Q:Ab->Ay->Prop} (h:Q (.bool (a != b)) σ):P2 Γ A (Eg .NotEq) Q (.int a 0) (.int b 0) σ:=λ_ _ hu hv=>Agi (hu:=hu) (hv:=hv) (h:=h)
theorem dM {u v:Ab} {x a:Ak} {vs:List Ab} {Q:Ab->Ay->Prop} (hu:cl u=.ref x) (hv:cl v=.ref a) (hm:Ew Γ σ a vs) (he:∀y∈vs,∃b,y=.ref b/\∀s,Ea Γ σ s->SeqAt.EqAt A.in1 s (.ref b) (.ref x) (b==x)) (h:Q (.bool (vs.any (· ==.ref x))) σ):T Γ A σ (Eg .In u v) Q:=λs R=>by
 have:=Cc hu
 subst this
 have:=Cc hv
 subst this
 obtain⟨us,n,L,e⟩:=hm s R
 refine SeqAt.in_tupleAt (λy=>y==.ref x) ⟨_,L,rfl,n,rfl⟩ (λy hy=>?_) ⟨σ,R,?_⟩
 ·have hy':cl y∈vs:=e▸Cv (Array.mem_toList_iff.mpr hy)
  obtain⟨b,hb,hq⟩:=he _ hy'
  have:=Cc hb
  subst this
  have hbx:((Bt b:Ab)==.ref x)=(b==x):=by
   by_cases q:b=x
   ·subst q;simp
   ·have h1:((Bt b:Ab)==.ref x)=false:=by rw [beq_eq_false_iff_ne];intro e;injection e with e;exact q e
    rw [h1,beq_eq_false_iff_ne.mpr q]
  have:=hq s R
  rw [<-hbx]at this
  exact this
 ·have:us.any (λy=>y==.ref x)=vs.any (· ==.ref x):=by
   rw [<-Nz,<-e,List.any_map]
   congr 1
   funext y
   cases y<;>rfl
  show Q (.bool (us.any λy=>y==.ref x)) σ
  rw [this];exact h
theorem Xd {a b:List Int} (h:a.length=b.length):(El a.length).all (λj=>a[j]? ==b[j]?)=(a==b):=by
 rw [Kf,Fu,beq_iff_eq]
 constructor
 ·intro k
  apply Ks
  intro i
  rcases Nx i a.length with hi|hi
  ·simpa using k i (Lu.mpr hi)
  ·rw [Dq hi,Dq (h▸hi)]
 ·rintro rfl i _
  simp
theorem cQ {x y:Ak} {a b:List Int} (hu:A.units < cLine) (R:Ea Γ σ s) (hx:(.obj x,.list (At a))∈σ.all) (hy:(.obj y,.list (At b))∈σ.all):SeqAt.RcAt A s (.ref x) (.ref y) (a==b):=by
 obtain⟨xs,n,L,e⟩:=Hw R hx
 obtain⟨ys,n',L',e'⟩:=Hw R hy
 have z:xs.size=a.length:=by rw [Cn e];simp [At]
 have z':ys.size=b.length:=by rw [Cn e'];simp [At]
 by_cases hl:a.length=b.length
 ·have:=SeqAt.RcAt.lists (A:=A) (e:=λj=>a[j]? ==b[j]?) L.isList L'.isList (by lia) hu λj h1 h2=>?_
  ·rw [z,Xd hl]at this;exact this
  ·have g1:a[j]? =some (a[j]'(by lia)):=Bm _
   have g2:b[j]? =some (b[j]'(by lia)):=Bm _
   have c1:∃t,xs[j]=.int (a[j]'(by lia)) t:=by
    obtain⟨u,hu,he⟩:=He (i:=j) (v:=.int (a[j]'(by lia)) 0) e (by simp [At,g1])
    rw [Fo h1]at hu
    cases hu
    exact Ev he
   have c2:∃t,ys[j]=.int (b[j]'(by lia)) t:=by
    obtain⟨u,hu,he⟩:=He (i:=j) (v:=.int (b[j]'(by lia)) 0) e' (by simp [At,g2])
    rw [Fo h2]at hu
    cases hu
    exact Ev he
   obtain⟨t,c1⟩:=c1
   obtain⟨t',c2⟩:=c2
   rw [c1,c2,g1,g2]
   intro prog w E Q hq
   refine wpAny_eqBool_int ?_
   have:(some (a[j]'(by lia))==some (b[j]'(by lia)))=(a[j]'(by lia)==b[j]'(by lia)):=by simp
   rw [this]at hq;exact hq
 ·have hne:(a==b)=false:=by rw [beq_eq_false_iff_ne];rintro rfl;exact hl rfl
  rw [hne]
  exact SeqAt.RcAt.lists_lengths L.isList L'.isList (by rw [z,z'];simpa using hl) hu
theorem rL {u v:Ab} {x y:Ak} {a b:List Int} {Q:Ab->Ay->Prop} (hA:A.units < cLine) (hu:cl u=.ref x) (hv:cl v=.ref y) (hx:(.obj x,.list (At a))∈σ.all) (hy:(.obj y,.list (At b))∈σ.all) (h:Q (.bool (a==b)) σ):T Γ A σ (Eg .Eq u v) Q:=λs R=>by
 have:=Cc hu
 subst this
 have:=Cc hv
 subst this
 exact cQ hA R hx hy _ _ _ _ ⟨σ,R,h⟩
theorem rR {x y:Ak} {a b:List Int} {Q:Ab->Ay->Prop} (hA:A.units < cLine) (hx:(.obj x,.list (At a))∈σ.all) (hy:(.obj y,.list (At b))∈σ.all) (h:Q (.bool (a==b)) σ):P2 Γ A (Eg .Eq) Q (.ref x) (.ref y) σ:=λ_ _ hu hv=>rL (hA:=hA) (hu:=hu) (hv:=hv) (hx:=hx) (hy:=hy) (h:=h)
end
end
section
noncomputable def yG (K:Frag) (C:Ak):Bool:=findIn K (.ref C) "__eq__" ==some (some (.builtin "object.__eq__"))&&mroIn K C (.type "object")==some true
noncomputable def aL (K:Frag) (C D:Ak):Bool:=C==D||subIn K (.ref D) (.ref C)==some false
noncomputable def yN (K:Frag) (C D:Ak):Bool:=kin_not K C D&&plainGet K C "__class__" &&Pl K C&&findIn K (.ref C) "__class__" ==some (some (.builtin "object.__class__"))&&Pj K (.builtin "object.__class__") "__get__" ==some (some (.builtin "getset_descriptor.__get__"))&&takesIn K (.builtin "object.__class__")==some true&&mroIn K C (.type "object")==some true
section
variable {Γ:Bj} {A:Aw} {σ σ':Ay} {s s':Ba} {env:Env}
set_option tactic.hygienic true in
theorem mP {x y C C' d d':Ak} (R:Ea Γ σ s) (hx:(.obj x,.inst C d)∈σ.all) (hy:(.obj y,.inst C' d')∈σ.all) (hxy:x≠y) (hu:A.units < cLine) (k1:yG Γ.K C=true) (k2:yG Γ.K C'=true) (k3:aL Γ.K C C'=true):SeqAt.EqAt A s (.ref x) (.ref y) false:=by
 refine SeqAt.EqAt.of_refs hxy λprog w E Q h=>?_
 have gx:s.heap.get? x=some (Ot C d):=(R.ents _ hx).1
 have gy:s.heap.get? y=some (Ot C' d'):=(R.ents _ hy).1
 have tx:Looks (Cd prog w) s.heap (typeOf (.ref x)) (.ref C):=(Looks.ld gx).andThen .now
 have ty:Looks (Cd prog w) s.heap (typeOf (.ref y)) (.ref C'):=(Looks.ld gy).andThen .now
 have tr:∀{a b C C' d d':Ak} {Q:Option Ab->Ba->Prop},s.heap.get? a=some (Ot C d)->s.heap.get? b=some (Ot C' d')->a≠b->yG Γ.K C=true->Q none s->Cp (Cd prog w) A (tryCompare (.ref a) "__eq__" (.ref b)) Q E s:=by
  intro a b C C' d d' Q ga gb hab hk hq
  have S:=F.cmp_object.eq
  have SB:bindSpecial (.builtin "object.__eq__") (.ref a)=pure (.builtin "object.__eq__",[.ref a]):=S.bind _
  simp only [yG,Cy,beq_iff_eq]at hk
  have ta:Looks (Cd prog w) s.heap (typeOf (.ref a)) (.ref C):=(Looks.ld ga).andThen .now
  have sub:Looks (Cd prog w) s.heap (isInstance (.ref a) (.type "object")) true:=ta.andThen (looks_mroIn R.kin hk.2)
  have hcall:Cp (Cd prog w) A (call (.builtin "object.__eq__") [.ref a,.ref b]) (λv s'=>v=.notImplemented/\s'=s) E s:=
   Ng (Kt S.plain F.cmpEntry_eq (@check_slot (Cd prog w) _ _ s "object.__eq__" "object" "__eq__" (.ref a) [.ref b] [] _ F.cmpKind_eq F.cmpSplit_eq sub (F.cmpArgs_eq _ _) (objEq_entry_other hab ga gb (by simp) ⟨rfl,rfl⟩)))
  unfold tryCompare
  simp only [callSpecialIfBound?,bindSpecialIfBound?]
  refine Ad (Dz (Ad (Ad (Ad (ta.here ((looks_findIn R.kin hk.1).here ?_))))))
  have fin:Cp (Cd prog w) A (call (.builtin "object.__eq__") ([.ref a]++[.ref b])>>=λv=>pure (some v)) (λr s'=>Cp (Cd prog w) A (match r with|some .notImplemented|none=>pure none|some v=>pure (some v)) Q E s') E s:=
   Ad (Dy hcall (λv s' ⟨h1,h2⟩=>by subst h1;subst h2;exact Au (Au hq)) λ_ _ h'=>h')
  dsimp only
  refine Ad (Ny (wpAny_ite ?_))
  split
  ·exact Ad (Im SB (Au fin))
  ·exact wpAny_tryCatch (Ad (Im SB (Au fin)))
 unfold richCompare
 simp only [oneThing_ref,cmpInfo_Eq]
 refine Dz (Ad (wpAny_cRoomFor hu ?_))
 refine Ad (tx.here (Ad (ty.here ?_)))
 have last:Cp (Cd prog w) A (isSame (.ref x) (.ref y)>>=λb=>pure (Ab.bool b)) Q E s:=Ad (wpAny_isSame_ref_other hxy gx gy (by simp) (Au h))
 have rest:Cp (Cd prog w) A (tryCompare (.ref x) "__eq__" (.ref y)) (λr s'=>r=none/\s'=s) E s:=tr gx gy hxy k1 ⟨rfl,rfl⟩
 have rest2:Cp (Cd prog w) A (tryCompare (.ref y) "__eq__" (.ref x)) (λr s'=>r=none/\s'=s) E s:=tr gy gx (Ld hxy) k2 ⟨rfl,rfl⟩
 have tail:Cp (Cd prog w) A (do
   if let some v<-tryCompare (.ref x) "__eq__" (.ref y)then return v
   if !false then
    if let some v<-tryCompare (.ref y) "__eq__" (.ref x)then return v
   rule "compare.eq-identity";return .bool (<-isSame (.ref x) (.ref y))) Q E s:=by
  refine Ad (Dy rest (λr s' zz=>?_) λ_ _ h'=>h')
  obtain⟨h1,h2⟩:=zz
  subst h1;subst h2
  refine Ad (Dy rest2 (λr s' zz=>?_) λ_ _ h'=>h')
  obtain⟨h1,h2⟩:=zz
  subst h1;subst h2
  exact Ad (Kx last)
 split
 ·rename_i q
  have e:subIn Γ.K (.ref C') (.ref C)=some false:=by
   rcases Bool.or_eq_true_iff.mp k3 with e|e
   ·rw [beq_iff_eq.mp e]at q;simp at q
   ·exact beq_iff_eq.mp e
  refine Ad ((looks_subIn R.kin e).here ?_)
  simp only [Hl,if_false]
  exact tail
 ·refine Ad (Au ?_)
  simp only [Hl,if_false]
  exact tail
theorem rD {u v:Ab} {x y:Ak} {a b:List Int} {Q:Ab->Ay->Prop} (hA:A.units < cLine) (hu:cl u=.ref x) (hv:cl v=.ref y) (hx:(.obj x,.list (At a))∈σ.all) (hy:(.obj y,.list (At b))∈σ.all) (h:Q (.bool (!(a==b))) σ):T Γ A σ (Eg .NotEq u v) Q:=λs R=>by
 have:=Cc hu
 subst this
 have:=Cc hv
 subst this
 obtain⟨xs,n,L,e⟩:=Hw R hx
 obtain⟨ys,n',L',e'⟩:=Hw R hy
 have z:xs.size=a.length:=by rw [Cn e];simp [At]
 have z':ys.size=b.length:=by rw [Cn e'];simp [At]
 by_cases hl:a.length=b.length
 ·have:=SeqAt.RcNeAt.lists (A:=A) (e:=λj=>a[j]? ==b[j]?) L.isList L'.isList (by lia) hA λj h1 h2=>?_
  ·rw [z,Xd hl]at this;exact this _ _ _ _ ⟨σ,R,h⟩
  ·have g1:a[j]? =some (a[j]'(by lia)):=Bm _
   have g2:b[j]? =some (b[j]'(by lia)):=Bm _
   have c1:∃t,xs[j]=.int (a[j]'(by lia)) t:=by
    obtain⟨u,hu,he⟩:=He (i:=j) (v:=.int (a[j]'(by lia)) 0) e (by simp [At,g1])
    rw [Fo h1]at hu
    cases hu
    exact Ev he
   have c2:∃t,ys[j]=.int (b[j]'(by lia)) t:=by
    obtain⟨u,hu,he⟩:=He (i:=j) (v:=.int (b[j]'(by lia)) 0) e' (by simp [At,g2])
    rw [Fo h2]at hu
    cases hu
    exact Ev he
   obtain⟨t,c1⟩:=c1
   obtain⟨t',c2⟩:=c2
   rw [c1,c2,g1,g2]
   intro prog w E Q hq
   refine wpAny_eqBool_int ?_
   have:(some (a[j]'(by lia))==some (b[j]'(by lia)))=(a[j]'(by lia)==b[j]'(by lia)):=by simp
   rw [this]at hq;exact hq
 ·have hne:(a==b)=false:=by rw [beq_eq_false_iff_ne];rintro rfl;exact hl rfl
  rw [hne]at h
  exact SeqAt.RcNeAt.lists_lengths L.isList L'.isList (by rw [z,z'];simpa using hl) hA _ _ _ _ ⟨σ,R,h⟩
theorem Yl {x y:Ak} {a b:List Int} {Q:Ab->Ay->Prop} (hA:A.units < cLine) (hx:(.obj x,.list (At a))∈σ.all) (hy:(.obj y,.list (At b))∈σ.all) (h:Q (.bool (!(a==b))) σ):P2 Γ A (Eg .NotEq) Q (.ref x) (.ref y) σ:=λ_ _ hu hv=>rD (hA:=hA) (hu:=hu) (hv:=hv) (hx:=hx) (hy:=hy) (h:=h)
theorem Aef {ws:List Ab} {x C d D:Ak} {Q:Ab->Ay->Prop} (hw:ws.map cl=[.ref x,.ref D]) (hx:(.obj x,.inst C d)∈σ.all) (hk:isIn Γ.K (.ref C) D=true) (h:Q (.bool true) σ):T Γ A σ (call (.builtin "isinstance") ws) Q:=λs R=>by
 obtain⟨w₀,w₁,rfl,e0,e1⟩:=Jy hw
 have:=Cc e0
 subst this
 have:=Cc e1
 subst this
 have gx:s.heap.get? x=some (Ot C d):=(R.ents _ hx).1
 exact isi_call R.kin (λM=>(Looks.ld gx).andThen .now) hk (by intro e;cases e) ⟨σ,R,h⟩
theorem Aee {ws:List Ab} {x C d D:Ak} {m:List (Str×Option Ab)} {Q:Ab->Ay->Prop} (hw:ws.map cl=[.ref x,.ref D]) (hx:(.obj x,.inst C d)∈σ.all) (hd:(.obj d,.ns m)∈σ.all) (hk:yN Γ.K C D=true) (h:Q (.bool false) σ):T Γ A σ (call (.builtin "isinstance") ws) Q:=λs R=>by
 obtain⟨w₀,w₁,rfl,e0,e1⟩:=Jy hw
 have:=Cc e0
 subst this
 have:=Cc e1
 subst this
 obtain⟨es,n,N,e,I⟩:=Sk R hx hd
 simp only [yN,Cy,beq_iff_eq]at hk
 obtain⟨⟨⟨⟨⟨⟨k0,k1⟩,k2⟩,k3⟩,k4⟩,k5⟩,k6⟩:=hk
 exact kin_callC R.kin I k0 k1 k2 k3 k4 k5 k6 ⟨σ,R.toks _,h⟩
end
end
section
section
variable {Γ:Bj} {A:Aw} {σ σ':Ay} {s s':Ba} {env:Env}
theorem Sa {W τ:List As} {n:Int} {Q:Ab->Ay->Prop} (h:∀r,Q (.ref r) ⟨W,(.obj r,.rng 0 n 1)::τ⟩):∀ws,ws.map cl=[.int n 0]->T Γ A ⟨W,τ⟩ (call (.type "range") ws) Q:=λws hw s R=>by
 obtain⟨w₀,rfl,e0⟩:=Ir hw
 obtain⟨t,rfl⟩:=Ev e0
 exact PySem.call_range_1 ⟨_,R.push (c:=.rng 0 n 1) (s':={s with heap:=s.heap.push _,toks:=s.toks+1+1}) (λ_ _ e=>Al _ e) rfl rfl ⟨_,_,_,Bg _ rfl⟩,h _⟩
theorem uW {W τ:List As} {a b c:Int} {Q:Ab->Ay->Prop} (hc:c≠0) (hs:c.natAbs < 1073741824) (h:∀r,Q (.ref r) ⟨W,(.obj r,.rng a b c)::τ⟩):∀ws,ws.map cl=[.int a 0,.int b 0,.int c 0]->T Γ A ⟨W,τ⟩ (call (.type "range") ws) Q:=λws hw s R=>by
 obtain⟨w₀,w₁,w₂,rfl,e0,e1,e2⟩:=Us hw
 obtain⟨t,rfl⟩:=Ev e0
 obtain⟨u,rfl⟩:=Ev e1
 obtain⟨v,rfl⟩:=Ev e2
 exact PySem.call_range_3 hc ⟨_,R.push (c:=.rng a b c) (s':={s with heap:=s.heap.push _}) (λ_ _ e=>Al _ e) rfl rfl ⟨_,_,_,Bg _ rfl⟩,h _⟩ (.inl (PyProof.noPylong_small hs))
noncomputable def Py (x c:Int) (n:Nat):List Ab:=(El n).map λi=>.int (x+(i:Nat) * c) 0
noncomputable def gM (x c:Int) (n:Nat) (i:Nat):CO:=.riter (x+(i:Nat) * c) ((n:Int) - (i:Nat)) c
theorem Wx {x c:Int} {n i:Nat} {v:Ab} (h:(Py x c n)[i]? =some v):i < n/\v=.int (x+(i:Nat) * c) 0:=by
 unfold Py at h
 rw [Bc,Cw]at h
 obtain⟨j,hj,e⟩:=h
 obtain⟨hl,hv⟩:=Aj.mp hj
 rw [Me]at hv
 subst hv
 exact⟨by simpa using hl,e.symm⟩
theorem qL {it:Ak} {x c:Int} {n:Nat} (hh:A.handled=none):rZ Γ A it (gM x c n) (Py x c n) λ_=>True where
 item i v σ hv _ s R:=by
  obtain⟨hi,rfl⟩:=Wx hv
  have hit:Mt s.heap it (x+(i:Nat) * c) ((n:Int) - (i:Nat)) c:=(R.ents _ Bs).1
  refine wpAny_pyNext_range_item hit (by lia) λh' hi' hs=>⟨_,Ea.changeS (s':={s with heap:=h',toks:=s.toks+1}) (c':=gM x c n (i+1)) R aM rfl hs.extBut rfl rfl ?_,rfl,rfl⟩
  show Mt h' it (x+((i+1:Nat):Int) * c) ((n:Int) - ((i+1:Nat):Int)) c
  have e1:x+((i+1:Nat):Int) * c=x+(i:Nat) * c+c:=by push_cast;rw [Int.add_mul];lia
  have e2:(n:Int) - ((i+1:Nat):Int)=(n:Int) - (i:Nat) - 1:=by lia
  rw [e1,e2];exact hi'
 fin σ _ s R:=by
  rw [show(Py x c n).length=n by simp [Py]]at R
  have hit:Mt s.heap it (x+(n:Nat) * c) ((n:Int) - (n:Nat)) c:=(R.ents _ Bs).1
  refine wpAny_pyNext_range_end hh hit (by lia) λh' hx=>⟨σ,Ea.dropObj (s':={s with heap:=h'}) R rfl hx rfl rfl,rfl,rfl⟩
theorem Pm {it:Ak} {x c:Int} {n:Nat} (hh:A.handled=none):Lb Γ A it (λ_=>True) (Py x c n) [(.obj it,gM x c n 0)]:=(qL hh).feed (λi s h=>⟨_,_,h,rfl,by decide⟩) _ 0 rfl (Ca _)
theorem Ut {it:Ak} {x c:Int} {n i:Nat}:Vk Γ A it [(.obj it,gM x c n i)]:=λW τ s R=>wpAny_pyIter_rangeiter (R.ents _ (Bs (q:=(.obj it,gM x c n i)))).1 ⟨_,R,rfl,rfl⟩
theorem nA {W τ:List As} {v:Ab} {a:Ak} {x b c:Int} {n:Nat} {Q:Ab->Ay->Prop} (hv:cl v=.ref a) (hm:(.obj a,.rng x b c)∈(⟨W,τ⟩:Ay).all) (hs:Oe x b c=true) (hn:Lx x b c=n) (h:∀it,Q (.ref it) ⟨W,(.obj it,gM x c n 0)::τ⟩):T Γ A ⟨W,τ⟩ (Hu v) Q:=λs R=>by
 have:=Cc hv
 subst this
 obtain⟨t,u,w,e⟩:=(R.ents _ hm).1
 refine wpAny_pyIter_range e hs ⟨_,R.push (c:=gM x c n 0) (s':={s with heap:=s.heap.push _}) (λ_ _ e=>Al _ e) rfl rfl ?_,h _⟩
 show Mt _ _ (x+((0:Nat):Int) * c) ((n:Int) - ((0:Nat):Int)) c
 rw [hn]
 simp only [Int.ofNat_zero,Int.zero_mul,Int.add_zero,Int.sub_zero,Int.natCast_zero]
 exact Bg _ rfl
theorem Ni {W τ:List As} {a:Ak} {x b c:Int} {n:Nat} {Q:Ab->Ay->Prop} (hm:(.obj a,.rng x b c)∈(⟨W,τ⟩:Ay).all) (hs:Oe x b c=true) (hn:Lx x b c=n) (h:∀it,Q (.ref it) ⟨W,(.obj it,gM x c n 0)::τ⟩):P1 Γ A Hu Q (.ref a) ⟨W,τ⟩:=λ_ hv=>nA (hv:=hv) (hm:=hm) (hs:=hs) (hn:=hn) (h:=h)
theorem xJ {ws:List Ab} {a:Ak} {k:Int} {ns:List Int} {Q:Ab->Ay->Prop} (hw:ws.map cl=[.ref a,.int k 0]) (hm:(.obj a,.list (At ns))∈σ.all) (hz:ns.length<=1000000) (hk:k∈ns) (h:Q (.int (ns.idxOf k:Nat) 0) σ):T Γ A σ (call (.builtin "list.index") ws) Q:=λs R=>by
 obtain⟨w₀,w₁,rfl,e0,e1⟩:=Jy hw
 have:=Cc e0
 subst this
 obtain⟨t,rfl⟩:=Ev e1
 obtain⟨us,n,L,e⟩:=Hw R hm
 have hi:=Tm e
 have hlen:=Cn e
 have hl2:(At ns).length=ns.length:=by simp [At]
 have hj:ns.idxOf k < ns.length:=List.idxOf_lt_length_iff.mpr hk
 have get:∀m (hm:m < us.size),∃t,us[m]=.int (ns[m]'(by lia)) t:=by
  intro m hm
  obtain⟨u,hu,he⟩:=He (i:=m) (v:=.int (ns[m]'(by lia)) 0) e (by simp [At])
  rw [Fo hm]at hu
  cases hu
  exact Ev he
 refine call_meets PySem.F.slot_list_index ⟨_,L,rfl⟩ PySem.F.entry_list_index (PySem.F.args_list_index_2 _ _)
  (SeqAt.list_indexAt a us n none #[] (.int k t) (isInt k) (ns.idxOf k) (by lia) (by lia) ?_ ?_) ⟨L,λy hy=>(eq_isInt k t hi y (by simpa using hy)).at _ _,σ,R.toks _,h⟩
 ·obtain⟨t',e'⟩:=get (ns.idxOf k) (by lia)
  rw [e',List.getElem_idxOf]
  simp [isInt]
 ·intro m hm hlt
  obtain⟨t',e'⟩:=get m hm
  rw [e']
  have:ns[m]'(by lia)≠k:=by
   intro e3
   have h4:=List.not_of_lt_findIdx (xs:=ns) (p:=(· ==k)) (i:=m) hlt
   simp [e3]at h4
  simpa [isInt]using this
theorem xP {a:Ak} {k:Int} {ns:List Int} {Q:Ab->Ay->Prop} (hm:(.obj a,.list (At ns))∈σ.all) (hz:ns.length<=1000000) (hk:k∈ns) (h:Q (.int (ns.idxOf k:Nat) 0) σ):Wc Γ A (.builtin "list.index") [.ref a] Q [.int k 0] σ:=λ_ hw=>xJ (hw:=hw) (hm:=hm) (hz:=hz) (hk:=hk) (h:=h)
theorem uV {W τ:List As} {a:Ak} {ns:List Int} {Q:Ab->Ay->Prop} (hm:(.obj a,.list (At ns))∈(⟨W,τ⟩:Ay).all) (hz:ns.length < 64) (h:∀r ns',ns'.Perm ns->ns'.Pairwise (· <= ·)->Q (.ref r) ⟨W,(.obj r,.list (At ns'))::τ⟩):∀ws,ws.map cl=[.ref a]->T Γ A ⟨W,τ⟩ (call (.builtin "sorted") ws) Q:=λws hw s R=>by
 obtain⟨w₀,rfl,e0⟩:=Ir hw
 have:=Cc e0
 subst this
 obtain⟨us,n,L,e⟩:=Hw R hm
 have hi:=Tm e
 have hlen:=Cn e
 have hl2:(At ns).length=ns.length:=by simp [At]
 refine sorted_ints (vs:=us.toList) L.isList hi (by simp;lia) λout ns' h1 h2 h3=>?_
 obtain⟨k,hk⟩:=sortedAll_at s.heap us.toList out
 have e':out.toList.map cl=At ns':=by
  have:∀{vs:List Ab} {ns:List Int},IntsAre vs ns->vs.map cl=At ns:=by
   intro vs ns h
   induction h with
   |nil=>rfl
   |cons _ _ _ ih=>simp [At]at ih ⊢;exact ih
  exact this h1
 have R1:=R.grow (s':={s with heap:=sortedAll s.heap us.toList out}) (λ_ _=>sortedAll_old) rfl rfl
 exact⟨_,R1.add (l:=.obj (s.heap.objs.size+1)) (c:=.list (At ns')) ⟨out,k,hk,e'⟩ (R.freshAt (Nat.le_succ _)) (Jp (σ:=⟨W,τ⟩) (s:=s) rfl (λq hq=>(R.ents q hq).1) (Nat.le_succ _)),h _ ns' h2 h3⟩
noncomputable def fK (c:Ab) (p:Option Int):Prop:=match p with|none=>c=.none|some i=>c=.int i 0
theorem fK.of {c u:Ab} {p:Option Int} (h:fK c p) (e:cl u=c):IsPart u p:=by
 subst e
 cases p with
 |none=>have:=Tj h;subst this;exact .none
 |some i=>obtain⟨t,rfl⟩:=Ev h;exact .int i t
noncomputable def Ub (vs:List Ab) (lo hi:Option Int):List Ab:=(vs.drop (lo.elim 0 (clipAt vs.length))).take (hi.elim vs.length (clipAt vs.length) - lo.elim 0 (clipAt vs.length))
theorem Ze {Q:Ab->Ay->Prop} (h:Q .none σ):T Γ A σ (evalPart none env) Q:=λ_ R=>Au ⟨σ,R,h⟩
theorem fT {value:Aq} {lower upper:Option Aq} {p pos:Pos} {Q:Ab->Ay->Prop}
  (h:T Γ A σ (Dr value env) λc σ₁=>T Γ A σ₁ (evalPart lower env) λl σ₂=>T Γ A σ₂ (evalPart upper env) λu σ₃=>∃a vs lo hi,c=.ref a/\cW Γ σ₃ a vs/\vs.length<=1000000/\fK l lo/\fK u hi/\
   ∀r,Q (.ref r) ⟨σ₃.W,(.obj r,.list (Ub vs lo hi))::σ₃.τ⟩) (ht:autoParam (∀o r,Gi value o r=pure ()) aI):T Γ A σ (Dr (.Subscript value (.Slice lower upper none p) pos) env) Q:=λs R=>by
 refine wpAny_Subscript_list_slice (h.elim R λo s₁ σ₁ R₁ q₁=>q₁.elim R₁ λvl s₂ σ₂ R₂ q₂=>q₂.elim R₂ λvu s₃ σ₃ R₃ q₃=>?_) ht
 obtain⟨a,vs,lo,hi,e,hm,hz,pl,pu,q⟩:=q₃
 have:=Cc e
 subst this
 obtain⟨us,n,L,e⟩:=hm _ R₃
 have hlen:=Cn e
 refine⟨a,us,lo,hi,rfl,L.isList,by rw [Av];lia,pl.of rfl,pu.of rfl,?_⟩
 have R4:=R₃.grow (s':={s₃ with heap:=s₃.heap.push {cls:=.type "slice",data:=.fields #[vl,vu,.none]}}) (λ_ _ e=>Al _ e) rfl rfl
 have R5:=R4.push (W:=σ₃.W) (τ:=σ₃.τ) (c:=.list (Ub vs lo hi)) (s':={s₃ with heap:=(s₃.heap.push {cls:=.type "slice",data:=.fields #[vl,vu,.none]}).push {cls:=.type "list",data:=.seq (slicePick us lo hi none)}}) (λ_ _ e=>Al _ e) rfl rfl ⟨_,0,Bg _ rfl,by
  rw [slicePick_plain,List.toList_toArray,Ok,List.map_drop,e,hlen];rfl⟩
 rw [show({s₃ with heap:=s₃.heap.push {cls:=.type "slice",data:=.fields #[vl,vu,.none]}}:Ba).heap.objs.size=s₃.heap.objs.size+1 from Iq ..]at R5
 exact⟨_,R5,q _⟩
theorem Xe {x y:Str} {px py pos:Pos} {k:Nat} {u v₁ v₂:Ab} {a:Ak} {ov₁ ov₂:Option Ab} {σ₁ σ₂:Ay} {Q:Unit->Ay->Prop} (hh:A.handled=none) (hu:cl u=.ref a) (hm:Ew Γ σ a [v₁,v₂]) (U₁:Iy σ (.var env.locals x) (.val ov₁) (.val (some v₁)) σ₁) (U₂:Iy σ₁ (.var env.locals y) (.val ov₂) (.val (some v₂)) σ₂) (h:Q () σ₂)
  (hk:autoParam (env.scope.kind=.function) aR) (hx:autoParam (env.kindOf x=some .local) aR) (hy:autoParam (env.kindOf y=some .local) aR):T Γ A σ (Ij (.Tuple [.Name x px,.Name y py] k pos) env u) Q:=λs R=>by
 have:=Cc hu
 subst this
 obtain⟨us,n,L,e⟩:=hm s R
 obtain⟨us⟩:=us
 obtain⟨w₁,w₂,rfl,e1,e2⟩:=Jy e
 refine wpAny_assign_Tuple hh ⟨_,L,rfl,n,rfl⟩ rfl rfl λh' hx'=>?_
 have R1:=R.grow (s':={s with heap:=h'}) (λb o e=>hx' b o (Kn (Ds e)) e) rfl rfl
 show Cp _ _ (do holding [w₂] (Ij (.Name x px) env w₁);holding [] (Ij (.Name y py) env w₂);pure ()) _ _ _
 refine Ad (Dz ((Ct (Q:=λ_ σ=>σ=σ₁) e1 U₁ rfl hk hx).elim R1 λ_ s₁ σ' R₁ e=>?_))
 subst e
 exact Ad (Dz ((Ct e2 U₂ h hk hy).elim R₁ λ_ s₂ σ' R₂ e=>Au ⟨_,R₂,e⟩))
end
end
noncomputable def rX (Γ:Bj) (a:Ak):FuncData:=match Γ.K.lookup a with|some ⟨_,_,.func fd,_⟩=>fd|_=>default
noncomputable abbrev Ka (Γ:Bj) (a:Ak) (q:Str) (st:Jr) (cd dV:Ab):FuncData:=
 fnX (rX Γ a).name q (fArgs st) (fBody st) (fScope st) [] dV .none (rX Γ a).doc (rX Γ a).pyModule (rX Γ a).annotations cd (rX Γ a).closureTuple
theorem zE (Γ:Bj):Γ.K.lookup 473=some ⟨.type "function",none,.func (Ka Γ 473 "_law_once" (topStmt 24) (.ref 472) .none),#[]⟩:=by kernel_rfl
section
section
variable {Γ:Bj} {A:Aw} {σ σ':Ay} {s s':Ba} {env:Env}
theorem T.have {α:Type} [Xm α] {t:Sem α} {Q:α->Ay->Prop} {φ:Prop} (hφ:∀s,Ea Γ σ s->φ) (h:φ->T Γ A σ t Q):T Γ A σ t Q:=λs R=>h (hφ s R) s R
end
structure Nd where
 me:Ak
 d:Ak
 dep:Ak
 imp:Ak
 C:Ak
 key:Int
 root:Ab
 bt:Ak
 bs:List Nat
 st:Ak
 ss:List Nat
 iro:Ab
 deps:List (Int×Ab)
 imps:List (Int×Ab)
 decl:Option Ab
 inh:Option Ab
noncomputable def Mw (x:Nd):List (Str×Option Ab):=[("key",some (.int x.key 0)),("_ROOT",some x.root),("_dependents",some (.ref x.dep)),("bases",some (.ref x.bt)),("_implied",some (.ref x.imp)),("iro",some x.iro),("sro",some (.ref x.st)),("declared",x.decl),("inherit",x.inh)]
noncomputable def Nd.ents (x:Nd):List As:=[(.obj x.d,.ns (Mw x)),(.obj x.dep,.idict x.deps),(.obj x.imp,.idict x.imps)]
noncomputable def Bi (G:List Nd):List As:=G.flatMap Nd.ents
noncomputable def Fm (G:List Nd) (j:Nat):Ak:=match G[j]?with|some x=>x.me|none=>0
noncomputable def Cu (G:List Nd) (j:Nat):Int:=match G[j]?with|some x=>x.key|none=>0
noncomputable def refs (G:List Nd) (js:List Nat):List Ab:=js.map λj=>.ref (Fm G j)
theorem Bf (G:List Nd) (js:List Nat):(refs G js).length=js.length:=by simp [refs]
theorem iB {G:List Nd} {js:List Nat} {i:Nat} {v:Ab} (h:(refs G js)[i]? =some v):∃j,js[i]? =some j/\v=.ref (Fm G j):=by
 unfold refs at h
 rw [Bc,Cw]at h
 obtain⟨j,hj,e⟩:=h
 exact⟨j,hj,e.symm⟩
inductive Ahb (G:List Nd) (js:List Nat) (d r:List Ab) (v:Ab):Prop
 |mk (a:List Nat) (j:Nat) (b:List Nat) (e1:js=a++j::b) (e2:d=refs G a) (e3:v=.ref (Fm G j)) (e4:r=refs G b)
theorem Tl {G:List Nd} {js:List Nat} {d r:List Ab} {v:Ab} (h:d++v::r=refs G js):Ahb G js d r v:=by
 induction d generalizing js with
 |nil=>
  match js,h with
  |j::b,h=>
   simp only [Fq,refs,Cf,Ib]at h
   exact⟨[],j,b,rfl,rfl,h.1,h.2⟩
 |cons x d ih=>
  match js,h with
  |j::js,h=>
   simp only [Hp,refs,Cf,Ib]at h
   obtain⟨a,j',b,e1,e2,e3,e4⟩:=ih (js:=js) h.2
   exact⟨j::a,j',b,by rw [e1];rfl,by rw [e2,h.1];rfl,e3,e4⟩
theorem Ki (G:List Nd) (a b:List Nat):refs G (a++b)=refs G a++refs G b:=by simp [refs]
theorem Rp (G:List Nd) (a:List Nat) (b:Nat):refs G a++[.ref (Fm G b)]=refs G (a++[b]):=by simp [refs]
noncomputable def Vl (W:List As) (bt:Ak) (vs:List Ab):Prop:=(Er.obj bt,CO.tup vs)∈W\/(bt=346/\vs=[])
structure NF (W:List As) (G:List Nd):Prop where
 inst:∀(i:Nat) (x:Nd),G[i]? =some x->(.obj x.me,.inst x.C x.d)∈W
 ns:∀(i:Nat) (x:Nd),G[i]? =some x->(.obj x.d,.ns (Mw x))∈W
 dep:∀(i:Nat) (x:Nd),G[i]? =some x->(.obj x.dep,.idict x.deps)∈W
 imp:∀(i:Nat) (x:Nd),G[i]? =some x->(.obj x.imp,.idict x.imps)∈W
 bt:∀(i:Nat) (x:Nd),G[i]? =some x->Vl W x.bt (refs G x.bs)
 st:∀(i:Nat) (x:Nd),G[i]? =some x->(.obj x.st,.tup (refs G x.ss))∈W
 cls:∀(i:Nat) (x:Nd),G[i]? =some x->x.C=364\/x.C=427
structure Gr (G:List Nd):Prop where
 keys:(G.map (·.key)).Nodup
 bs:∀(i:Nat) (x:Nd),G[i]? =some x->x.bs.Nodup/\∀b∈x.bs,b < i
 ss:∀(i:Nat) (x:Nd),G[i]? =some x->x.ss.Nodup/\∀b∈x.ss,b < G.length
 few:G.length<=12
noncomputable def oS (G:List Nd):Prop:=∀(i j:Nat) (x y:Nd),G[i]? =some x->G[j]? =some y->x.me=y.me->i=j
theorem Dl {G:List Nd} {i:Nat} (h:i < G.length):∃x,G[i]? =some x:=⟨G[i],Bm h⟩
theorem Br {G:List Nd} {i:Nat} {x:Nd} (h:G[i]? =some x):Fm G i=x.me:=by simp [Fm,h]
theorem Gd {G:List Nd} {i:Nat} {x:Nd} (h:G[i]? =some x):Cu G i=x.key:=by simp [Cu,h]
theorem oS.beq {G:List Nd} (J:oS G) {i j:Nat} (hi:i < G.length) (hj:j < G.length):(Fm G i==Fm G j)=(i==j):=by
 obtain⟨x,ex⟩:=Dl hi
 obtain⟨y,ey⟩:=Dl hj
 rw [Br ex,Br ey]
 by_cases h:i=j
 ·subst h;rw [ex]at ey;cases ey;simp
 ·rw [beq_eq_false_iff_ne.mpr h,beq_eq_false_iff_ne]
  exact λe=>h (J i j x y ex ey e)
theorem Gr.key_inj {G:List Nd} (g:Gr G) {i j:Nat} (hi:i < G.length) (hj:j < G.length) (e:Cu G i=Cu G j):i=j:=by
 obtain⟨x,ex⟩:=Dl hi
 obtain⟨y,ey⟩:=Dl hj
 rw [Gd ex,Gd ey]at e
 have h1:(G.map (·.key))[i]? =some x.key:=by simp [ex]
 have h2:(G.map (·.key))[j]? =some x.key:=by simp [ey,e]
 exact(List.getElem?_inj (by simpa using hi) g.keys).mp (h1.trans h2.symm)
section
variable {Γ:Bj} {A:Aw} {σ σ':Ay} {s s':Ba} {env:Env} {G:List Nd}
theorem Ox {W τ:List As} {p:As} (h:p∈W):p∈(⟨W,τ⟩:Ay).all:=Af _ h
theorem Acl (Γ:Bj):Γ.K.lookup 346=some {cls:=.type "tuple",data:=.seq #[] 0}:=by kernel_rfl
theorem Vl.tup {W τ:List As} {bt:Ak} {vs:List Ab} (h:Vl W bt vs):Ew Γ ⟨W,τ⟩ bt vs:=by
 rcases h with h|⟨rfl,rfl⟩
 ·exact .of_mem (Ox h)
 ·exact .of_K (Acl Γ)
theorem Vl.more {X X':List As} {bt:Ak} {vs:List Ab} (h:Vl X bt vs) (k:∀e∈X,e∈X'):Vl X' bt vs:=h.imp (k _) id
theorem Vl.right {X X':List As} {bt:Ak} {vs:List Ab} (h:Vl X bt vs):Vl (X'++X) bt vs:=h.more λ_ he=>Aa _ he
noncomputable abbrev aF (Γ:Bj) (name:Str):Prop:=Zl Γ.K 364 name=true/\Zl Γ.K 427 name=true
theorem aF.of {name:Str} (k:aF Γ name) {C:Ak} (h:C=364\/C=427):Zl Γ.K C name=true:=by rcases h with rfl|rfl;exact k.1;exact k.2
theorem Ly (Γ:Bj):aF Γ "key" :=⟨by kernel_rfl,by kernel_rfl⟩
theorem fF (Γ:Bj):aF Γ "_ROOT" :=⟨by kernel_rfl,by kernel_rfl⟩
theorem nN (Γ:Bj):aF Γ "_dependents" :=⟨by kernel_rfl,by kernel_rfl⟩
theorem Pu (Γ:Bj):aF Γ "bases" :=⟨by kernel_rfl,by kernel_rfl⟩
theorem sD (Γ:Bj):aF Γ "_implied" :=⟨by kernel_rfl,by kernel_rfl⟩
theorem Acf (Γ:Bj):aF Γ "sro" :=⟨by kernel_rfl,by kernel_rfl⟩
theorem sV {name:Str} {W τ:List As} {i:Nat} {x:Nd} {ov v:Ab} {expr:Bool} {Q:Ab->Ay->Prop} (nf:NF W G) (hi:G[i]? =some x) (ho:cl ov=.ref x.me) (k:aF Γ name) (hm:(name,some v)∈Mw x) (h:Q v ⟨W,τ⟩) (hv:autoParam (Ln v=true) aR):
  T Γ A ⟨W,τ⟩ (Lc ov name expr) Q:=Qp ho (Ox (nf.inst i x hi)) (Ox (nf.ns i x hi)) (k.of (nf.cls i x hi)) hm h hv
theorem Aah {name:Str} {W τ:List As} {i:Nat} {x:Nd} {v:Ab} {expr:Bool} {Q:Ab->Ay->Prop} (nf:NF W G) (hi:G[i]? =some x) (k:aF Γ name) (hm:(name,some v)∈Mw x) (h:Q v ⟨W,τ⟩) (hv:autoParam (Ln v=true) aR):P1 Γ A (λo=>Lc o name expr) Q (.ref x.me) ⟨W,τ⟩:=λ_ ho=>sV (nf:=nf) (hi:=hi) (ho:=ho) (k:=k) (hm:=hm) (h:=h) (hv:=hv)
theorem Ef {name:Str} {W τ:List As} {i:Nat} {x:Nd} {v:Ab} {e:Aq} {pos:Pos} {Q:Ab->Ay->Prop} (nf:NF W G) (hi:G[i]? =some x) (k:aF Γ name) (hm:(name,some v)∈Mw x)
  (h:T Γ A σ (Dr e env) λc σ'=>c=.ref x.me/\σ'=⟨W,τ⟩) (q:Q v ⟨W,τ⟩) (hv:autoParam (Ln v=true) aR)
  (he:autoParam (Dr (.Attribute e name pos) env=(do
   let o<-Dr e env
   Mr pos.atName
   let r<-holding [o] (Lc o name true)
   Gi e o r
   pure r)) aU):T Γ A σ (Dr (.Attribute e name pos) env) Q:=
 Iz (h.mono λc σ' ⟨e1,e2⟩ o ho=>by subst e1;subst e2;exact sV nf hi ho k hm q hv) he
end
end
theorem jH (C:Ak) (rest:List Ab) (kw:List (Str×Ab)):(Code.builtin "type.__call__" ⟨.ref C::rest,kw⟩).weight=1:=by kernel_rfl
theorem lP (C:Ak) (rest:List Ab) (kw:List (Str×Ab)):(Code.builtin "type.__call__" ⟨.ref C::rest,kw⟩).cUnits=1:=by kernel_rfl
theorem Rm.make {A:Aw} {n:Nat} {C:Ak} {rest:List Ab} {kw:List (Str×Ab)} (h:Rm A (n+1)):Rm (A.under (.builtin "type.__call__" ⟨.ref C::rest,kw⟩)) n:=
 ⟨by have:=h.depth;show A.depth+Code.weight _+_ < _;rw [jH];lia,by have:=h.units;show A.units+Code.cUnits _+_ < _;rw [lP];lia⟩
theorem mL {α:Type} {l:List α} {p:α} (n:Nat) (h:l[n]? =some p):p∈l:=Fd h
theorem mI {W τ:List As} {p:As} (n:Nat) (h:τ[n]? =some p):p∈(⟨W,τ⟩:Ay).all:=Aa _ (Fd h)
theorem Ae {W τ:List As} {p:As} (h:List.Mem p τ):p∈(⟨W,τ⟩:Ay).all:=Aa _ h
theorem Bq {W ρ τ:List As} {p:As} (h:p∈(⟨W,τ⟩:Ay).all):p∈(⟨W,ρ++τ⟩:Ay).all:=by
 rcases Ai.mp h with x|x
 ·exact Af _ x
 ·exact Aa _ (Aa _ x)
theorem fE {ρ τ:List As} {p:As} (h:List.Mem p τ):List.Mem p (ρ++τ):=Aa _ h
theorem Yt (p q:As) (ρ τ:List As):(p::q::(ρ++τ)).Perm (ρ++p::q::τ):=by
 have h1:=(Ff (a:=q) (l₁:=ρ) (l₂:=τ)).symm
 have h2:=(Ff (a:=p) (l₁:=ρ) (l₂:=q::τ)).symm
 exact(h1.cons p).trans h2
theorem aV (x p q:As) (A B:List As):(x::(A++p::q::B)).Perm (A++p::q::x::B):=by
 have:=(Ff (a:=x) (l₁:=A++[p,q]) (l₂:=B)).symm
 rw [Ax,Ax]at this
 exact this
noncomputable abbrev Tr:=List (Ak×List Nat)
noncomputable abbrev Tr.vs (ps:Tr):List Ab:=ps.map λp=>.ref p.1
inductive Sg (G:List Nd) (σ:Ay) (a:Ak) (ls:List (List Nat)):Prop
 |mk (ps:Tr) (m:(.obj a,.list ps.vs)∈σ.all) (e:ps.map (·.2)=ls) (r:∀p∈ps,(.obj p.1,.list (refs G p.2))∈σ.all)
theorem Sg.sub {G:List Nd} {σ σ':Ay} {a:Ak} {ls:List (List Nat)} (h:Sg G σ a ls) (k:∀p∈σ.all,p∈σ'.all):Sg G σ' a ls:=by
 obtain⟨ps,m,e,r⟩:=h
 exact⟨ps,k _ m,e,λp hp=>k _ (r p hp)⟩
theorem Sg.ext {G:List Nd} {W ρ τ:List As} {a:Ak} {ls:List (List Nat)} (h:Sg G ⟨W,τ⟩ a ls):Sg G ⟨W,ρ++τ⟩ a ls:=h.sub λ_=>Bq
theorem Sg.cons3 {G:List Nd} {W τ:List As} {p q r:As} {a:Ak} {ls:List (List Nat)} (h:Sg G ⟨W,τ⟩ a ls):Sg G ⟨W,p::q::r::τ⟩ a ls:=h.ext (ρ:=[p,q,r])
theorem bN {acc:List Nat} {j:Nat} (h:acc.Nodup) (hj:j∉acc):(acc++[j]).Nodup:=
 Hz.mpr ⟨h,Ey.mpr ⟨List.not_mem_nil,List.nodup_nil⟩,λa ha b hb q=>hj (by rw [<-Be.mp hb,<-q];exact ha)⟩
inductive Aag {α:Type} (l:List α):Prop
 |mk (k:α) (r:List α) (e:l=k::r)
theorem oJ {α:Type} {l:List α} (h:l≠[]):Aag l:=by
 cases l with
 |nil=>exact absurd rfl h
 |cons k r=>exact⟨k,r,rfl⟩
theorem eG {G:List Nd} {l r:List Nat} {k:Nat} {z:Nd} (e:l=k::r) (hz:G[k]? =some z):(refs G l)[(0:Int).toNat]? =some (.ref z.me):=by rw [e,<-Br hz];rfl
theorem Ew.cons {Γ:Bj} {W τ:List As} {p:As} {a:Ak} {vs:List Ab} (h:Ew Γ ⟨W,τ⟩ a vs):Ew Γ ⟨W,p::τ⟩ a vs:=h.ext (ext:=[p])
local macro_rules | `(tactic|walk_at "upd")=> `(tactic|(apply Iy.tau;repeat (first|with_reducible exact Qw.here|apply Qw.there|apply Qw.pre)))
local macro_rules | `(tactic|walk_at "mem")=> `(tactic|first|assumption|(refine Ae ?_;repeat (first|with_reducible exact List.Mem.head _|refine List.Mem.tail _ ?_|refine fE ?_)))
local macro_rules | `(tactic|walk_at "set")=> `(tactic|repeat (first|with_reducible exact Of.here|apply Of.there))
local macro_rules | `(tactic|walk_at "ns")=> `(tactic|repeat (first|with_reducible exact List.Mem.head _|refine List.Mem.tail _ ?_))
local macro_rules | `(tactic|walk_at "memo")=> `(tactic|repeat (first|with_reducible assumption|refine Eb ?_|refine Bq ?_))
section
noncomputable def Lm (acc:List Int):List Int->List Int
 |[]=>acc
 |x::r=>Lm (if acc.any (· ==x)then acc else acc++[x]) r
noncomputable def yL (ns:List Int):List Int:=Lm [] ns
theorem Rj (acc a:List Int):∀b,Lm acc (b++a)=Lm (Lm acc b) a
 |[]=>rfl
 |x::b=>Rj _ a b
theorem Tu (acc:List Int):∀ns,(Lm acc ns).length<=acc.length+ns.length
 |[]=>Bx _
 |x::r=>by
  refine Bw (Tu _ r) ?_
  split<;>simp<;>lia
theorem Dw (ns:List Int):(At ns).length=ns.length:=by simp [At]
theorem jJ {ns:List Int} {i:Nat} {v:Ab} (h:(At ns)[i]? =some v):∃x,ns[i]? =some x/\v=.int x 0:=by
 unfold At at h
 rw [Bc,Cw]at h
 obtain⟨x,hx,e⟩:=h
 exact⟨x,hx,e.symm⟩
section
variable {Γ:Bj} {A:Aw}
theorem Uc {W τ:List As} {a:Ak} {ns:List Int} {Q:Ab->Ay->Prop} (hA:Rm A 1) (hh:A.handled=none) (hm:(.obj a,.list (At ns))∈(⟨W,τ⟩:Ay).all) (hz:ns.length<=1000000)
  (h:∀r,Q (.ref r) ⟨W,(.obj r,.list (At (yL ns)))::τ⟩):∀ws,ws.map cl=[.ref a]->TC Γ A ⟨W,τ⟩ (.ref 473) ws [] Q:=λws hw=>by
 refine Oy (body:=fBody (topStmt 24)) (bs:=[("row",.ref a)]) ["row","found","one"] (zE Γ) (by kernel_rfl) hA.room ?_ (λL=>?_) (by rfl) (by rfl) (by decide) (by rfl) (by rfl) (by rfl) ws [] hw rfl
 ·intro ws kws hw hk
  obtain⟨w,rfl,e⟩:=Ir hw
  have:kws=[]:=by simpa using hk
  subst this
  exact⟨[("row",w)],by simp [e],λs _=>Cg (by rfl)⟩
 ·show T Γ _ ⟨W,(.var L "row",.val (some (.ref a)))::(.var L "found",.val none)::(.var L "one",.val none)::τ⟩ _ _
  refine Am (Bl (Hv (Ao ⟨by decide,λr=>⟨_,_,by walk_at "upd",?_⟩⟩)))
  refine Am (Pt (Ac (v:=.ref a) (by walk_at "mem") (Eh (vs:=At ns) (by walk_at "memo") (λit=>?_))))
  refine⟨it,_,_,At ns,_,_,⟨rfl,rfl,Es (vs:=At ns) hh⟩,λd σ=>∃o,σ=⟨W,(.obj r,.list (At (Lm [] (ns.take d.length))))::(.var L "row",.val (some (.ref a)))::(.var L "found",.val (some (.ref r)))::(.var L "one",.val o)::τ⟩,⟨_,rfl⟩,?_,?_,?_⟩
  ·rintro i σ ⟨o,rfl⟩
   walk_at "memo"
  ·rintro d v q u ρ σ he hu ⟨o,rfl⟩ Kq hK
   obtain⟨x,hx,rfl⟩:=jJ (i:=d.length) (v:=v) (by rw [<-he];simp)
   refine Ct hu (by walk_at "upd") ?_
   have ht:ns.take (d++[Fl x 0]).length=ns.take d.length++[x]:=by rw [Ah,Bo,Mu,hx];rfl
   have hl:(At (Lm [] (ns.take d.length))).length<=Gg:=by
    have:=Tu [] (ns.take d.length)
    rw [Dw,Av]
    simp only [List.length_nil,Fs]at this
    lia
   refine Am (Hs (Ar (Ac (by walk_at "mem") (Ac (by walk_at "mem") (Ts (by walk_at "mem") ⟨_,rfl,λhb=>?_,λhb=>?_⟩)))))
   ·refine Am (Fy (Fi (Ac (by walk_at "mem") (Cz Cr Dp Do (Ik (by walk_at "mem")) ⟨.inr (.inl ⟨_,rfl⟩),Ag (Ac (by walk_at "mem") (Ao (Lo (by walk_at "upd") hl (Ci (Ci (hK .next _ ⟨_,_,As.le_refl _,some (.int x 0),?_⟩))))))⟩))))
    rw [ht,Rj]
    simp only [Mv]at hb
    simp [Lm,hb,At]
   ·refine Ci (Ci (hK .next _ ⟨_,_,As.le_refl _,some (.int x 0),?_⟩))
    rw [ht,Rj]
    simp only [Jx]at hb
    simp [Lm,hb]
  ·rintro σ ⟨o,rfl⟩
   refine Ci (Am (Fj (Ac (by walk_at "mem") ⟨_,As.le_sub ?_,h r⟩)))
   rw [Dw,Em]
   exact .cons_cons _ (.cons _ (.cons _ (.cons _ (.refl _))))
end
end
section
section
variable {Γ:Bj} {A:Aw}
theorem pU (Γ:Bj):Γ.K.lookup 76=some ⟨.type "function",none,.func (Ka Γ 76 "_StaticMRO.__init__" (clsStmt 6 1) (.ref 75) .none),#[]⟩:=by kernel_rfl
theorem tR (Γ:Bj):Γ.K.lookup 83=some ⟨.type "function",none,.func (Ka Γ 83 "_StaticMRO.mro" (clsStmt 6 2) (.ref 82) .none),#[]⟩:=by kernel_rfl
noncomputable abbrev Abg:List (Str×Option Ab):=[("leaf",none),("_mro",none)]
noncomputable abbrev dQ (b t:Ak):List (Str×Option Ab):=[("leaf",some (.ref b)),("_mro",some (.ref t))]
theorem Gu.plain2 {fd:FuncData} {x y:Str} {v₁ v₂:Ab} (h:∀w₁ w₂ s,Fa s fd ⟨[w₁,w₂],[]⟩ [(x,w₁),(y,w₂)]):Gu Γ fd [v₁,v₂] [] [(x,v₁),(y,v₂)]:=by
 intro ws kws hw hk
 obtain⟨w₁,w₂,rfl,e1,e2⟩:=Jy hw
 have:kws=[]:=by simpa using hk
 subst this
 exact⟨_,by simp [e1,e2],λs _=>h _ _ s⟩
theorem Gu.plain1 {fd:FuncData} {x:Str} {v₁:Ab} (h:∀w₁ s,Fa s fd ⟨[w₁],[]⟩ [(x,w₁)]):Gu Γ fd [v₁] [] [(x,v₁)]:=by
 intro ws kws hw hk
 obtain⟨w₁,rfl,e1⟩:=Ir hw
 have:kws=[]:=by simpa using hk
 subst this
 exact⟨_,by simp [e1],λs _=>h _ s⟩
theorem Gu.plain3 {fd:FuncData} {x y z:Str} {v₁ v₂ v₃:Ab} (h:∀w₁ w₂ w₃ s,Fa s fd ⟨[w₁,w₂,w₃],[]⟩ [(x,w₁),(y,w₂),(z,w₃)]):Gu Γ fd [v₁,v₂,v₃] [] [(x,v₁),(y,v₂),(z,v₃)]:=by
 intro ws kws hw hk
 obtain⟨w₁,w₂,w₃,rfl,e1,e2,e3⟩:=Us hw
 have:kws=[]:=by simpa using hk
 subst this
 exact⟨_,by simp [e1,e2,e3],λs _=>h _ _ _ s⟩
theorem uM {W τ:List As} {b t:Ak} {vs:List Ab} {Q:Ab->Ay->Prop} (hA:Rm A 2) (ht:Ew Γ ⟨W,τ⟩ t vs)
  (h:∀x d,Q (.ref x) ⟨W,(.obj d,.ns (dQ b t))::(.obj x,.inst 86 d)::τ⟩):∀ws,ws.map cl=[.ref b,.ref t]->TC Γ A ⟨W,τ⟩ (.ref 86) ws [] Q:=λws hw=>by
 refine aB (fI:=76) Abg (by kernel_rfl) (by kernel_rfl) (by decide) (by decide) λx d=>?_
 have hA':Rm (A.under (.builtin "type.__call__" ⟨.ref 86::ws,[]⟩)) 1:=hA.make
 refine Oy (body:=fBody (clsStmt 6 1)) (bs:=[("self",.ref x),("C",.ref b),("mro",.ref t)]) ["self","C","mro"] (pU Γ) (by kernel_rfl) hA'.room (Gu.plain3 λ_ _ _ _=>Cg (by rfl)) (λL=>?_) (by rfl) (by rfl) (by decide) (by rfl) (by rfl) (by rfl) _ [] (by simp [hw]) rfl
 show T Γ _ ⟨W,(.var L "self",.val (some (.ref x)))::(.var L "C",.val (some (.ref b)))::(.var L "mro",.val (some (.ref t)))::(.obj d,.ns Abg)::(.obj x,.inst 86 d)::τ⟩ _ _
 refine Am (Dj (Ac (by walk_at "mem") (Ac (by walk_at "mem") (Gp (by walk_at "mem") (by walk_at "upd") (by walk_at "set") (by kernel_rfl) ?_))))
 refine Am (Dj (Bz (Az (v:=.type "tuple") (by kernel_rfl) (by decide+kernel) (by decide) ⟨.inr (.inr ⟨_,rfl⟩),Ag (Ac (by walk_at "mem") (Ao (Up (ht.ext (ext:=_::_::_::_::[_])) ?_)))⟩)))
 refine Ac (by walk_at "mem") (Gp (by walk_at "mem") (by walk_at "upd") (by walk_at "set") (by kernel_rfl) ?_)
 exact Ci ⟨_,As.le_sub (.cons _ (.cons _ (.cons _ (.refl _)))),rfl,h x d⟩
end
end
section
section
variable {Γ:Bj} {A:Aw} {G:List Nd}
theorem iQ {W τ:List As} {x d b t:Ak} {vs:List Ab} {Q:Ab->Ay->Prop} (hA:Rm A 1) (hx:(.obj x,.inst 86 d)∈(⟨W,τ⟩:Ay).all) (hd:(.obj d,.ns (dQ b t))∈(⟨W,τ⟩:Ay).all) (ht:Ew Γ ⟨W,τ⟩ t vs) (hz:vs.length<=1000)
  (h:∀r,Q (.ref r) ⟨W,(.obj r,.list vs)::τ⟩):∀ws,ws.map cl=[.ref x]->TC Γ A ⟨W,τ⟩ (.ref 83) ws [] Q:=λws hw=>by
 refine Oy (body:=fBody (clsStmt 6 2)) (bs:=[("self",.ref x)]) ["self"] (tR Γ) (by kernel_rfl) hA.room (Gu.plain1 λ_ _=>Cg (by rfl)) (λL=>?_) (by rfl) (by rfl) (by decide) (by rfl) (by rfl) (by rfl) ws [] hw rfl
 show T Γ _ ⟨W,(.var L "self",.val (some (.ref x)))::τ⟩ _ _
 refine Am (Fj (Bz (Az (v:=.type "list") (by kernel_rfl) (by decide+kernel) (by decide) ⟨.inr (.inr ⟨_,rfl⟩),Ag (Iz (Ac (v:=.ref x) (by walk_at "mem") λo ho=>
  Qp ho (v:=.ref t) (by walk_at "memo") (by walk_at "memo") (by kernel_rfl) (by walk_at "ns") (Ao (Oj (vs:=vs) (ht.ext (ext:=[_])) (by lia) λr=>?_))))⟩)))
 exact⟨_,As.le_sub (.cons_cons _ (.cons _ (.refl _))),h r⟩
theorem Ack (Γ:Bj):Γ.K.lookup 155=some ⟨.type "function",none,.func (Ka Γ 155 "C3._can_choose_base" (clsStmt 8 8) (.ref 154) .none),#[]⟩:=by kernel_rfl
noncomputable abbrev kJ (L me a:Ak) (o₁ o₂:Option Ab) (τ:List As):List As:=(.var L "base",.val (some (.ref me)))::(.var L "base_tree_remaining",.val (some (.ref a)))::(.var L "bases",.val o₁)::(.var L "b",.val o₂)::τ
theorem Adh {W τ:List As} {j:Nat} {x:Nd} {a:Ak} {ls:List (List Nat)} {Q:Ab->Ay->Prop} (nf:NF W G) (hA:Rm A 1) (hh:A.handled=none) (hj:G[j]? =some x) (hT:Sg G ⟨W,τ⟩ a ls) (hl:∀l∈ls,l.length<=1000/\∀i∈l,i < G.length)
  (h:∀b,Q (.bool b) ⟨W,τ⟩):∀ws,ws.map cl=[.ref x.me,.ref a]->TC Γ A ⟨W,τ⟩ (.ref 155) ws [] Q:=λws hw=>by
 obtain⟨ps,hm,he,hr⟩:=hT
 refine Oy (body:=fBody (clsStmt 8 8)) (bs:=[("base",.ref x.me),("base_tree_remaining",.ref a)]) ["base","base_tree_remaining","bases","b"] (Ack Γ) (by kernel_rfl) hA.room (Gu.plain2 λ_ _ _=>Cg (by rfl)) (λL=>?_) (by rfl) (by rfl) (by decide) (by rfl) (by rfl) (by rfl) ws [] hw rfl
 show T Γ _ ⟨W,kJ L x.me a none none τ⟩ _ _
 have fin:∀b o₁ o₂ ρ,Ja Q (.ret (.bool b)) ⟨W,ρ++kJ L x.me a o₁ o₂ τ⟩:=λb o₁ o₂ ρ=>⟨_,As.le_sub (Cx (.cons _ (.cons _ (.cons _ (.cons _ (.refl _)))))),h b⟩
 have up:∀{q ρ o₁ o₂},q∈(⟨W,τ⟩:Ay).all->q∈(⟨W,ρ++kJ L x.me a o₁ o₂ τ⟩:Ay).all:=λ{q ρ o₁ o₂} hq=>Bq (Bq (ρ:=[_,_,_,_]) hq)
 refine Am (Rv (Ac (v:=.ref a) (mI 1 rfl) (Eh (vs:=ps.vs) (up (ρ:=[]) hm) λit=>?_)))
 refine⟨λp:Ak×List Nat=>.ref p.1,ps,it,_,_,λ_ _=>W,λ_ z=>kJ L x.me a z.1 z.2 τ,λ_ _=>True,(none,none),⟨rfl,rfl,Es hh⟩,trivial,λ_ _ _=>up (ρ:=[]) hm,λd p r u ρ z e1 hu _ K hK=>?_,λz _=>Ci (Am (Fj (Xu (fin _ _ _ []))))⟩
 have hp:p∈ps:=by rw [e1];exact Aa _ (.head _)
 obtain⟨hl1,hl2⟩:=hl p.2 (he▸Cv hp)
 have hm':=λρ o=>up (ρ:=ρ) (o₁:=some (.ref p.1)) (o₂:=o) (hr p hp)
 have nx:∀o₂,K .next ⟨W,ρ++kJ L x.me a (some (.ref p.1)) o₂ τ⟩/\K .cont ⟨W,ρ++kJ L x.me a (some (.ref p.1)) o₂ τ⟩:=λo₂=>⟨hK .next _ ⟨_,_,As.le_refl _,(_,o₂),rfl,trivial⟩,hK .cont _ ⟨_,_,As.le_refl _,(_,o₂),rfl,trivial⟩⟩
 refine Ct hu (.tau (.pre (.there (.there .here)))) ?_
 refine Am (Hs (Ep (Po (Nh (Ej (Ac (v:=.ref p.1) (Ae (Aa _ (mL 2 rfl))) (Oo (vs:=refs G p.2) (hm' _ _) (by rw [Bf];lia) ⟨λhb=>?_,λ_=>⟨λ_=>Am (cG (nx _).2),λh=>(by cases h)⟩⟩)))))))
 obtain⟨k,l,e⟩:=oJ (l:=p.2) λe=>by rw [e]at hb;cases hb
 obtain⟨z',hz⟩:=Dl (hl2 k (e▸ .head _))
 refine Po (Ar (Bd (Ac (v:=.ref p.1) (Ae (Aa _ (mL 2 rfl))) (Dd (Ch (vs:=refs G p.2) (v:=.ref z'.me) (hm' _ _) (by decide) (by decide) (eG e hz) (Ac (v:=.ref x.me) (Ae (Aa _ (.head _))) (Wv
  (Ox (nf.inst _ _ hz)) (Ox (nf.inst _ _ hj)) ⟨_,rfl,λhb=>?_,λ_=>⟨λ_=>Am (cG (nx _).2),λh=>(by cases h)⟩⟩)))))))
 refine Ws ⟨λh=>(by cases h),λ_=>?_⟩
 refine Ci (Am (Rv (Ac (v:=.ref p.1) (Ae (Aa _ (mL 2 rfl))) (Eh (vs:=refs G p.2) (hm' _ _) λit₂=>?_))))
 refine⟨λj=>.ref (Fm G j),p.2,it₂,_,_,λ_ _=>W,λ_ o=>ρ++kJ L x.me a (some (.ref p.1)) o τ,λ_ _=>True,z.2,⟨rfl,rfl,Es hh⟩,trivial,λ_ _ _=>hm' _ _,λd j' r u ρ₂ o e1 hu _ K2 hK2=>?_,λo _=>Ci (Ci (nx o).1)⟩
 obtain⟨q,hq⟩:=Dl (hl2 j' (by rw [e1];exact Aa _ (.head _)))
 rw [Br hq]at hu
 refine Ct hu (.tau (.pre (.pre (.there (.there (.there .here)))))) ?_
 refine Am (Hs (Ar (Ac (v:=.ref q.me) (Ae (Aa _ (Aa _ (mL 3 rfl)))) (Ac (v:=.ref x.me) (Ae (Aa _ (Aa _ (.head _)))) (Wv (Ox (nf.inst _ _ hq)) (Ox (nf.inst _ _ hj)) ⟨_,rfl,λ_=>?_,λ_=>?_⟩)))))
 ·have:=fin false (some (.ref p.1)) (some (.ref q.me)) (ρ₂++ρ)
  rw [Ax]at this
  exact Am (Fj (Xu (hK2 (.ret _) _ (hK (.ret _) _ this))))
 ·exact Ci (Ci (hK2 .next _ ⟨_,_,As.le_refl _,some (.ref q.me),rfl,trivial⟩))
end
end
section
theorem fY {K:Frag} {C:Ak} {od:Obj} {name:Str} {a g:Ab} (hh:Pl K C=true) (ha:findIn K (.ref C) name=some (some a)) (hg:Pj K a "__get__" =some (some g)) (ht:takesIn K a=some false) (hc:copiedNames.contains name=false) (hl:lookIn name od=some none):
  findObj K C (some od) name=some (.bind g a):=by
 obtain⟨cd,hc',hd⟩:=any_some hh
 unfold findObj
 have ho:W.ownOf cd (some od) name=some none:=by unfold W.ownOf;rw [if_pos hd];exact hl
 rw [hc',Lw,ha,Lw]
 simp only [hg,ht,Lw,ho,hc,Bool.false_and,Hl,if_false]
noncomputable def gP (K:Frag) (C:Ak) (name:Str) (p f:Ak):Bool:=plainGet K C name&&Pl K C&&findIn K (.ref C) name==some (some (.ref p))&&Pj K (.ref p) "__get__" ==some (some (.builtin "staticmethod.__get__"))&&takesIn K (.ref p)==some false&&!copiedNames.contains name&&
 (match recIn K p "staticmethod" with|some (.ref f'::_)=>f'==f|_=>false)&&(typeIn K (.ref p)).any λt=>t != .type "function" &&t != .type "method_descriptor" &&t != .type "wrapper_descriptor"
section
variable {Γ:Bj} {A:Aw} {G:List Nd} {σ:Ay}
set_option tactic.hygienic true in
theorem nF {x C d p f:Ak} {name:Str} {ov:Ab} {m:List (Str×Option Ab)} {pl:Sem Bool} {Q:Ab×List Ab->Ay->Prop} (ho:cl ov=.ref x) (hx:(.obj x,.inst C d)∈σ.all) (hd:(.obj d,.ns m)∈σ.all)
  (hk:gP Γ.K C name p f=true) (hm:name∉m.map (·.1)) (h:Q (.ref f,[]) σ):T Γ A σ (Ie ov name pl) Q:=λs R=>by
 have:=Cc ho
 subst this
 obtain⟨es,n,N,e,I⟩:=Sk R hx hd
 unfold gP at hk
 simp only [Cy,beq_iff_eq,Mv]at hk
 obtain⟨⟨⟨⟨⟨⟨⟨k1,k2⟩,k3⟩,k4⟩,k5⟩,k6⟩,k7⟩,k8⟩:=hk
 split at k7
 ·rename_i f' rest hr
  have:=beq_iff_eq.mp k7
  subst this
  refine method_usual R.kin I (Kj k1).1 (Kj k1).2 k3 k8 ?_
  refine get_bind R.kin I (Kj k1).1 (fY k2 k3 k4 k5 k6 (by rw [lookIn_dict,N.get,N.out _ hm])) (Kj k1).2 (Ng (sm_get (s:={s with toks:=s.toks+1}) R.kin hr ?_))
  exact handed_on rfl ⟨σ,R.toks _,h⟩
 ·cases k7
theorem cI {x C d p f:Ak} {name:Str} {m:List (Str×Option Ab)} {pl:Sem Bool} {Q:Ab×List Ab->Ay->Prop} (hx:(.obj x,.inst C d)∈σ.all) (hd:(.obj d,.ns m)∈σ.all) (hk:gP Γ.K C name p f=true) (hm:name∉m.map (·.1)) (h:Q (.ref f,[]) σ):P1 Γ A (λo=>Ie o name pl) Q (.ref x) σ:=λ_ ho=>nF (ho:=ho) (hx:=hx) (hd:=hd) (hk:=hk) (hm:=hm) (h:=h)
structure Rs where
 leaf:Option Ab
 memo:Option Ab
 tree:Option Ab
 hadi:Option Ab
 mro:Option Ab
 dir:Option Ab
 own:Option Ab
noncomputable abbrev Rs.ns (r:Rs):List (Str×Option Ab):=[("leaf",r.leaf),("memo",r.memo),("base_tree",r.tree),("bases_had_inconsistency",r.hadi),("_mro",r.mro),("direct_inconsistency",r.dir),("_own_legacy",r.own)]
noncomputable def Ti:List Str:=["leaf","memo","base_tree","bases_had_inconsistency","_mro","direct_inconsistency","_own_legacy"]
theorem zL (Γ:Bj):Γ.K.lookup 180=some ⟨.type "function",none,.func (Ka Γ 180 "C3._find_next_C3_base" (clsStmt 8 11) (.ref 179) .none),#[]⟩:=by kernel_rfl
theorem lT (Γ:Bj):gP Γ.K 204 "_can_choose_base" 157 155=true:=by kernel_rfl
noncomputable abbrev nQ (L rx a:Ak) (o₁ o₂:Option Ab) (τ:List As):List As:=(.var L "self",.val (some (.ref rx)))::(.var L "base_tree_remaining",.val (some (.ref a)))::(.var L "bases",.val o₁)::(.var L "base",.val o₂)::τ
theorem zT {W τ:List As} {rx rd a:Ak} {rs:Rs} {ls:List (List Nat)} {Q:Ab->Ay->Prop} (nf:NF W G) (hA:Rm A 2) (hh:A.handled=none) (hx:(.obj rx,.inst 204 rd)∈(⟨W,τ⟩:Ay).all) (hd:(.obj rd,.ns rs.ns)∈(⟨W,τ⟩:Ay).all)
  (hT:Sg G ⟨W,τ⟩ a ls) (hl:∀l∈ls,l≠[]/\l.length<=1000/\∀i∈l,i < G.length)
  (h:∀l∈ls,∀j r,l=j::r->Q (.ref (Fm G j)) ⟨W,τ⟩) (h0:Q .none ⟨W,τ⟩):∀ws,ws.map cl=[.ref rx,.ref a]->TC Γ A ⟨W,τ⟩ (.ref 180) ws [] Q:=λws hw=>by
 obtain⟨ps,hm,he,hr⟩:=id hT
 refine Oy (body:=fBody (clsStmt 8 11)) (bs:=[("self",.ref rx),("base_tree_remaining",.ref a)]) ["self","base_tree_remaining","bases","base"] (zL Γ) (by kernel_rfl) hA.room (Gu.plain2 λ_ _ _=>Cg (by rfl)) (λL=>?_) (by rfl) (by rfl) (by decide) (by rfl) (by rfl) (by rfl) ws [] hw rfl
 show T Γ _ ⟨W,nQ L rx a none none τ⟩ _ _
 have fin:∀v,Q v ⟨W,τ⟩->∀o₁ o₂ ρ,Ja Q (.ret v) ⟨W,ρ++nQ L rx a o₁ o₂ τ⟩:=λv hv o₁ o₂ ρ=>⟨_,As.le_sub (Cx (.cons _ (.cons _ (.cons _ (.cons _ (.refl _)))))),hv⟩
 have up:∀{q ρ o₁ o₂},q∈(⟨W,τ⟩:Ay).all->q∈(⟨W,ρ++nQ L rx a o₁ o₂ τ⟩:Ay).all:=λ{q ρ o₁ o₂} hq=>Bq (Bq (ρ:=[_,_,_,_]) hq)
 refine Am (Rv (Ac (v:=.ref a) (mI 1 rfl) (Eh (vs:=ps.vs) (up (ρ:=[]) hm) λit=>?_)))
 refine⟨λp:Ak×List Nat=>.ref p.1,ps,it,_,_,λ_ _=>W,λ_ z=>nQ L rx a z.1 z.2 τ,λ_ _=>True,(none,none),⟨rfl,rfl,Es hh⟩,trivial,λ_ _ _=>up (ρ:=[]) hm,λd p r u ρ z e1 hu _ K hK=>?_,λz _=>Ci (Am (Fj (Jt (fin _ h0 _ _ []))))⟩
 have hp:p∈ps:=by rw [e1];exact Aa _ (.head _)
 have hpl:p.2∈ls:=he▸Cv hp
 obtain⟨hl0,hl1,hl2⟩:=hl p.2 hpl
 have hm':=λo=>up (ρ:=ρ) (o₁:=some (.ref p.1)) (o₂:=o) (hr p hp)
 obtain⟨k,l,e⟩:=oJ hl0
 obtain⟨z',hz⟩:=Dl (hl2 k (e▸ .head _))
 refine Ct hu (.tau (.pre (.there (.there .here)))) ?_
 refine Am (Bl (Bd (Ac (v:=.ref p.1) (Ae (Aa _ (mL 2 rfl))) (Dd (Ch (vs:=refs G p.2) (v:=.ref z'.me) (hm' _) (by decide) (by decide) (eG e hz) ⟨_,_,.tau (.pre (.there (.there (.there .here)))),?_⟩)))))
 refine Am (Hs (Ej (Fi (Ac (v:=.ref rx) (Ae (Aa _ (.head _))) (cI (up hx) (up hd) (lT Γ) (by show _∉Ti;decide) ⟨.inl (by kernel_rfl),Ag (Ac (v:=.ref z'.me) (Ae (Aa _ (mL 3 rfl))) (Ag (Ac (v:=.ref a) (Ae (Aa _ (mL 1 rfl))) (Ao λws hw=>
   (Adh nf hA.deeper hh hz (hT.sub λ_=>up) (λl hl'=>(hl l hl').2) (λb u hu=>Qt hu ⟨λ_=>?_,λ_=>?_⟩) ws hw).T))))⟩)))))
 ·exact Am (Fj (Ac (v:=.ref z'.me) (Ae (Aa _ (mL 3 rfl))) (hK (.ret _) _ (fin _ (Br hz▸h _ hpl k l e) _ _ _))))
 ·exact Ci (Ci (hK .next _ ⟨_,_,As.le_refl _,(_,_),rfl,trivial⟩))
end
end
section
namespace FF
theorem owner_filter:Manifest.owners.lookup "filter" =some Manifest.sig_filter:=by kernel_rfl
theorem slot_next:Slot "filter" "__next__" "filter.__next__" :=
 .of (owner:="filter") (n:="__next__") (by rw [Mk,Ic];kernel_rfl) (by decide+kernel) (by decide+kernel) (by decide+kernel)
  (by first|exact .inl (by decide+kernel)|exact .inr (by decide+kernel)) (by rw [isSubtype_type];kernel_rfl)
theorem slot_iter:Slot "filter" "__iter__" "filter.__iter__" :=
 .of (owner:="filter") (n:="__iter__") (by rw [Mk,Ic];kernel_rfl) (by decide+kernel) (by decide+kernel) (by decide+kernel)
  (by first|exact .inl (by decide+kernel)|exact .inr (by decide+kernel)) (by rw [isSubtype_type];kernel_rfl)
theorem entry_next:entryFor table "filter.__next__" =some Builtin.«filter.__next__»:=entryFor_of_tree (by kernel_rfl)
theorem plain_next:plainId "filter.__next__" =true:=by decide+kernel
theorem args_next (a:Ab):argsOk "filter.__next__" ⟨[a],[]⟩:=by unfold argsOk;kernel_rfl
theorem args_iter (a:Ab):argsOk "filter.__iter__" ⟨[a],[]⟩:=by unfold argsOk;kernel_rfl
theorem entry_iter:entryFor table "filter.__iter__" =some Builtin.«dict_keyiterator.__iter__»:=
 entryFor_alias (id':="dict_keyiterator.__iter__") (by kernel_rfl) (by first|rfl|decide+kernel|(unfold String.splitOn;simp+decide [String.splitOnAux])) (by decide+kernel) (by kernel_rfl)
theorem entry_new:entryFor table "filter.__new__" =some Builtin.«filter.__new__»:=entryFor_of_tree (by kernel_rfl)
theorem mro_filter:mroOf (.type "filter")=pure [.type "filter",.type "object"]:=by rw [mroOf_type];kernel_rfl
theorem lookup_new:typeLookup (.type "filter") "__new__" =pure (some (.builtin "filter.__new__")):=by rw [Mk,Ic];kernel_rfl
theorem typeCall (a b:Ab):checkTypeCall "filter" ⟨[a,b],[]⟩=pure ():=by kernel_rfl
theorem newCall (a b:Ab):checkBuiltinCall "filter.__new__" ⟨[.type "filter",a,b],[]⟩=pure ():=by kernel_rfl
theorem sub_self:isSubtype (.type "filter") (.type "filter")=pure true:=by rw [isSubtype_type];kernel_rfl
theorem no_len:typeLookup (.type "filter") "__len__" =pure none:=by rw [Mk,Ic];kernel_rfl
theorem no_hint:typeLookup (.type "filter") "__length_hint__" =pure none:=by rw [Mk,Ic];kernel_rfl
theorem slot_init:Slot "filter" "__init__" "object.__init__" :=
 .of (owner:="object") (n:="__init__") (by rw [Mk,Ic];kernel_rfl) (by decide+kernel) (by decide+kernel) (by decide+kernel)
  (by first|exact .inl (by decide+kernel)|exact .inr (by decide+kernel)) (by rw [isSubtype_type];kernel_rfl)
theorem called:TypeCalled "filter" "filter.__new__" "object.__init__" :=
 ⟨by decide+kernel,by decide+kernel,⟨_,_,mro_filter⟩,madeBy_type mro_filter lookup_new (by decide+kernel),by decide+kernel,sub_self,slot_init⟩
theorem init_args (obj a b:Ab):argsOk "object.__init__" ⟨[obj,a,b],[]⟩:=by unfold argsOk;kernel_rfl
end FF
open AutoSeq1 (wpAny_loadPart')
noncomputable abbrev Sr (it:Ak):Obj:={cls:=.type "filter",data:=.fields #[.none,.ref it]}
theorem Yo (l:Ak) (items:Array Ab) (n:Nat):
  Meets (Builtin.«filter.__new__» ⟨[.type "filter",.none,.ref l],[]⟩) (λ_ R s=>IsL s.heap l items n/\
   R (.ok (.ret (.ref (s.heap.push {cls:=.type "list_iterator",data:=.fields #[.ref l,.int 0 0]}).objs.size)))
    {s with heap:=(s.heap.push {cls:=.type "list_iterator",data:=.fields #[.ref l,.int 0 0]}).push (Sr s.heap.objs.size)}):=
 .of_wp λprog w A R s h=>by
  obtain⟨hp,g,d,tk,os⟩:=s;obtain⟨hl,h⟩:=h
  have hsub:=FF.sub_self
  have hL:Heap.IsList (Ba.heap ⟨hp,g,d,tk,os⟩) l items:=⟨_,hl,rfl,n,rfl⟩
  wp_walk using wpAny_loadPart' hl,wpAny_pyIter_list hL
  exact⟨_,rfl,h⟩
section
variable {prog:Jf} {w:Oa} {A:Aw} {E:Ab->Ba->Prop} {s:Ba}
theorem Xk {it l:Ak} {i:Nat} {items:Array Ab} {x:Ab} {Q:Option Ab->Ba->Prop} (hit:s.heap.IsListIter it l i) (hl:s.heap.IsList l items) (hx:items[i]? =some x)
  (hQ:∀h',h'.IsListIter it l (i+1)->En it s.heap h'->Q (some x) {s with heap:=h'}):Cp (Cd prog w) A (callSpecial? (.ref it) "__next__") Q E s:=by
 obtain⟨o,ho,hc,hd⟩:=id hit
 obtain⟨ol,hol,_,nl,hdl⟩:=hl
 refine Hq (name:=Kl "__next__") hit.typeIs Pe
  (Lv Pe hit.typeIs entry_listiter_next ?_ (args_listiter_next _))
 show Cp _ _ (field (.ref it) 0>>=_) _ _ s
 refine Ad (Gl ho hd (x:=.ref l) rfl ?_)
 show Cp _ _ (if(Bt l==Dm)=true then _ else _) _ _ s
 rw [if_neg (show¬((Bt l==Dm)=true)from Bool.false_ne_true)]
 show Cp _ _ (field (.ref it) 1>>=_) _ _ s
 refine Ad (Gl ho hd (x:=.int i 0) rfl ?_)
 show Cp _ _ (seqItems? (.ref l)>>=_) _ _ s
 refine Ad (Qf hol hdl ?_)
 simp only [Df,hx]
 refine Ad (Nk ho hd (by simp) (Au ⟨x,rfl,hQ _ ?_ (Dg ..)⟩))
 exact⟨_,Dv _ ho (Obj.isFreed_of_fields (Obj.data_mapFields hd _)),(Obj.cls_mapFields ..).trans hc,by
  rw [Obj.data_mapFields hd];simp [Kb]⟩
theorem Yn {it l:Ak} {i:Nat} {items:Array Ab} {Q:Option Ab->Ba->Prop} (hh:A.handled=none)
  (hit:s.heap.IsListIter it l i) (hl:s.heap.IsList l items) (hx:items[i]? =none)
  (hE:∀h' e,Io it s.heap h'->(∃o,h'.get? e=some o/\o.cls=.type "StopIteration")->E (.ref e) {s with heap:=h'}):Cp (Cd prog w) A (callSpecial? (.ref it) "__next__") Q E s:=by
 obtain⟨o,ho,hc,hd⟩:=id hit
 obtain⟨ol,hol,_,nl,hdl⟩:=hl
 refine Hq (name:=Kl "__next__") hit.typeIs Pe
  (Lv Pe hit.typeIs entry_listiter_next ?_ (args_listiter_next _))
 show Cp _ _ (field (.ref it) 0>>=_) _ _ s
 refine Ad (Gl ho hd (x:=.ref l) rfl ?_)
 show Cp _ _ (if(Bt l==Dm)=true then _ else _) _ _ s
 rw [if_neg (show¬((Bt l==Dm)=true)from Bool.false_ne_true)]
 show Cp _ _ (field (.ref it) 1>>=_) _ _ s
 refine Ad (Gl ho hd (x:=.int i 0) rfl ?_)
 show Cp _ _ (seqItems? (.ref l)>>=_) _ _ s
 refine Ad (Qf hol hdl ?_)
 simp only [Df,hx]
 refine Ad (Kx (Ad (Nk ho hd (by simp) ?_)))
 show Cp _ _ (newExc (.type "StopIteration") []>>=_) _ _ _
 refine Ad ?_
 simp only [newExc,newTuple]
 refine Ad (Et ?_ (by size_fits))
 refine Ad (m:=Nm _ _) (Im (a:=Dm) (by first|rfl|(simp only [Nm];rfl)) ?_)
 refine Et ?_ (by size_fits)
 simp only [raiseNew]
 refine Ad (wpAny_handled ?_)
 first|rw [show A.in1.handled=none from hh]|rw [hh]
 refine Ad (Au (wpAny_throw ?_))
 exact hE _ _ (((Dg ..).extBut.push _).push _) ⟨_,Bg _ rfl,rfl⟩
end
section
variable {Γ:Bj} {A:Aw} {σ:Ay}
theorem vA {W τ:List As} {l:Ak} {vs:List Ab} {Q:Ab->Ay->Prop} (hm:(.obj l,.list vs)∈(⟨W,τ⟩:Ay).all) (h:∀f it,Q (.ref f) ⟨W,[(.obj f,.raw (Sr it)),(.obj it,.liter l 0)]++τ⟩):∀ws,ws.map cl=[.none,.ref l]->T Γ A ⟨W,τ⟩ (call (.type "filter") ws) Q:=λws hw s R=>by
 obtain⟨w₀,w₁,rfl,e0,e1⟩:=Jy hw
 have:=Tj e0
 subst this
 have:=Cc e1
 subst this
 obtain⟨us,n,L,e⟩:=Hw R hm
 refine callType_new FF.called (by decide) (FF.typeCall _ _) (FF.newCall _ _) (λobj=>FF.init_args obj _ _) FF.entry_new (Yo l us n) ⟨L,?_⟩
 have R1:=R.push (c:=.liter l 0) (s':={s with heap:=s.heap.push {cls:=.type "list_iterator",data:=.fields #[.ref l,.int 0 0]}}) (λ_ _ e=>Al _ e) rfl rfl ⟨_,Bg _ rfl,rfl,rfl⟩
 have R2:=R1.push (c:=.raw (Sr s.heap.objs.size)) (s':={s with heap:=(s.heap.push {cls:=.type "list_iterator",data:=.fields #[.ref l,.int 0 0]}).push (Sr s.heap.objs.size)}) (λ_ _ e=>Al _ e) rfl rfl (Bg _ rfl)
 exact⟨⟨_,Bg _ rfl,rfl⟩,_,R2,h _ _⟩
noncomputable abbrev yI:=List (Ak×List Ab)
noncomputable def Tv (ps:yI):yI:=ps.filter λp=>!p.2.isEmpty
noncomputable def kG (f it l:Ak) (i:Nat):List As:=[(.obj f,.raw (Sr it)),(.obj it,.liter l i)]
theorem jK {W τ:List As} {l f it:Ak} {ps:yI} {R:Kw->Ba->Prop} (hh:A.handled=none) (hm:(.obj l,.list (ps.map λp=>.ref p.1))∈(⟨W,τ⟩:Ay).all) (hp:∀p∈ps,(.obj p.1,.list p.2)∈(⟨W,τ⟩:Ay).all/\p.2.length<=1000000):
  ∀(rest:yI) (i:Nat),rest=ps.drop i->i<=ps.length->∀s,Ea Γ ⟨W,kG f it l i++τ⟩ s->
  (∀p j s',Tv rest=p::Tv (ps.drop j)->j<=ps.length->Ea Γ ⟨W,kG f it l j++τ⟩ s'->R (.ok (.ret (.ref p.1))) s')->
  (Tv rest=[]->∀e s',(∃o,s'.heap.get? e=some o/\o.cls=.type "StopIteration")->Ea Γ ⟨W,τ⟩ s'->R (.error (.ref e)) s')->
  Cp (Cd Γ.prog Γ.w) A.in1 (Builtin.«filter.__next__» ⟨[.ref f],[]⟩) (λfin s'=>match fin with|.done fl=>R (.ok fl) s'|.again c'=>c'.quiet=true/\Jz (Cd Γ.prog Γ.w) A c' R s') (λe s'=>R (.error e) s') s:=by
 intro rest
 induction rest with
 |nil=>
  intro i e hi s R0 _ he
  have hlen:i=ps.length:=Nat.le_antisymm hi (List.drop_eq_nil_iff.mp e.symm)
  have gf:s.heap.get? f=some (Sr it):=(R0.ents _ (Ae (.head _))).1
  have gi:s.heap.IsListIter it l i:=(R0.ents _ (Ae (.tail _ (.head _)))).1
  obtain⟨us,n,L,e2⟩:=Hw R0 (Bq hm)
  have hsz:=Cn e2
  unfold Builtin.«filter.__next__»
  refine Ad (Au ?_)
  refine Ad (Gl gf rfl (x:=.none) rfl ?_)
  refine Ad (Gl gf rfl (x:=.ref it) rfl ?_)
  refine Ad (Yn hh gi L.isList (by rw [Mh];rw [hsz];simp;lia) λh' e' hx ho=>?_)
  refine he rfl e' _ ho ?_
  have R1:Ea Γ ⟨W,(.obj it,.liter l i)::τ⟩ s:=As.le_sub (.cons _ (.refl _)) _ _ R0
  exact Ea.dropObj (s':={s with heap:=h'}) R1 rfl hx rfl rfl
 |cons p r ih=>
  intro i e hi s R0 hs he
  have hlt:i < ps.length:=by
   rcases Nx i ps.length with h|h
   ·exact h
   ·rw [List.drop_eq_nil_of_le h]at e;cases e
  rw [List.drop_eq_getElem_cons hlt,Ib]at e
  obtain⟨e1,e3⟩:=e
  have hpm:p∈ps:=e1▸List.getElem_mem hlt
  have gf:s.heap.get? f=some (Sr it):=(R0.ents _ (Ae (.head _))).1
  have gi:s.heap.IsListIter it l i:=(R0.ents _ (Ae (.tail _ (.head _)))).1
  obtain⟨us,n,L,e2⟩:=Hw R0 (Bq hm)
  obtain⟨u,hu,eu⟩:=He (i:=i) (v:=.ref p.1) e2 (by rw [Bc,Bm hlt,<-e1];rfl)
  have:=Cc eu
  subst this
  unfold Builtin.«filter.__next__»
  refine Ad (Au ?_)
  refine Ad (Gl gf rfl (x:=.none) rfl ?_)
  refine Ad (Gl gf rfl (x:=.ref it) rfl ?_)
  refine Ad (Xk gi L.isList hu λh' hi' hsb=>?_)
  have R1:Ea Γ ⟨W,kG f it l (i+1)++τ⟩ {s with heap:=h'}:=Ea.changeS (s':={s with heap:=h'}) (c':=.liter l (i+1)) R0 (.tau (.there .here)) rfl hsb.extBut rfl rfl hi'
  have T1:=Vh (Γ:=Γ) (A:=A.in1) (σ:=⟨W,kG f it l (i+1)++τ⟩) (v:=.ref p.1) (a:=p.1) (vs:=p.2) (Q:=λb σ=>b=(!p.2.isEmpty)/\σ=⟨W,kG f it l (i+1)++τ⟩) rfl (.of_mem (Bq (hp p hpm).1)) (hp p hpm).2 ⟨rfl,rfl⟩
  refine Ad (Dz ?_)
  rw [if_pos (by decide)]
  refine Ad (Kx (Nu (T1.elim R1 λb s₂ σ₂ R₂ zz=>?_)))
  obtain⟨hb,hσ⟩:=zz
  subst hσ
  have hb':b=!p.2.isEmpty:=hb
  cases hq:p.2.isEmpty with
  |false=>
   rw [hq]at hb'
   rw [hb',if_pos (by decide)]
   refine Au (hs p (i+1) s₂ ?_ hlt R₂)
   unfold Tv
   rw [Gj,if_pos (by simp [hq]),<-e3]
  |true=>
   rw [hq]at hb'
   rw [hb',if_neg (by decide)]
   have hn:Tv (p::r)=Tv r:=by unfold Tv;rw [Gj,if_neg (by simp [hq])]
   refine Au ⟨Jm FF.plain_next _,Hg FF.entry_next ?_⟩
   rw [Fw FF.plain_next _]
   exact ih (i+1) e3 hlt s₂ R₂ (λq j s' h1 h2 h3=>hs q j s' (hn.trans h1) h2 h3) (λh1=>he (hn.trans h1))
theorem jN {W:List As} {l f it:Ak} {ps:yI} (hh:A.handled=none) (hz:∀p∈ps,p.2.length<=1000000):
  ∀(n i:Nat),ps.length - i=n->i<=ps.length->Lb Γ A f (λσ=>(.obj l,.list (ps.map λp=>.ref p.1))∈σ.all/\∀p∈ps,(.obj p.1,.list p.2)∈σ.all) ((Tv (ps.drop i)).map λp=>.ref p.1) (kG f it l i):=by
 have step:∀i,i<=ps.length->∀σ,(.obj l,.list (ps.map λp=>.ref p.1))∈σ.all/\(∀p∈ps,(.obj p.1,.list p.2)∈σ.all)->∀Q:Option Ab->Ay->Prop,
   (∀p j,Tv (ps.drop i)=p::Tv (ps.drop j)->j<=ps.length->Q (some (.ref p.1)) ⟨σ.W,kG f it l j++σ.τ⟩)->(Tv (ps.drop i)=[]->Q none σ)->T Γ A ⟨σ.W,kG f it l i++σ.τ⟩ (Lk (.ref f)) Q:=by
  intro i hi σ hG Q hs he s R
  have gf:s.heap.get? f=some (Sr it):=(R.ents _ (Ae (.head _))).1
  have hT:s.TypeIs (.ref f) "filter" :=⟨_,gf,rfl⟩
  unfold Lk
  let RR:Kw->Ba->Prop:=λr s'=>match r with
   |.ok (.ret v)=>fB Γ Q (some (cl v)) s'
   |.ok _=>False
   |.error e=>(∃a o,e=.ref a/\s'.heap.get? a=some o/\o.cls=.type "StopIteration")/\fB Γ Q none s'
  have main:Jz (Cd Γ.prog Γ.w) A (.call (.builtin "filter.__next__") ⟨[.ref f],[]⟩) RR s:=by
   refine Kt FF.slot_next.plain FF.entry_next (FF.slot_next.check _ _ _ _ _ _ _ _ hT (FF.args_next _) ?_)
   refine jK (R:=RR) hh hG.1 (λp hp=>⟨hG.2 p hp,hz p hp⟩) _ i rfl hi s R (λp j s' h1 h2 h3=>⟨_,h3,hs p j h1 h2⟩) λh1 e s' ⟨o,ho,hc⟩ h3=>⟨⟨e,o,rfl,ho,hc⟩,_,h3,he h1⟩
  refine Ad (wpAny_attempt (Hq (name:=Kl "__next__") hT FF.slot_next (Ng (Jg main λr s' z=>?_))))
  rcases r with e|(v|_|_|_)
  ·obtain⟨⟨a,o,rfl,ho,hc⟩,z⟩:=z
   refine Ad (wpAny_isInstance (T:="StopIteration") (b:=true) ⟨o,ho,hc⟩ isSubtype_stop ?_)
   exact Au z
  all_goals first|exact False.elim z|exact Au z
 intro n
 induction n using Nat.strongRecOn with
 |_ n ih=>
  intro i hn hi
  cases hq:Tv (ps.drop i)with
  |nil=>exact λσ hG=>step i hi σ hG _ (λp j h1 _=>by rw [hq]at h1;cases h1) λ_=>⟨rfl,rfl⟩
  |cons p r=>
   refine λσ hG=>step i hi σ hG _ (λp' j h1 h2=>?_) λh1=>by rw [hq]at h1;cases h1
   rw [hq,Ib]at h1
   obtain⟨rfl,h1⟩:=h1
   have hj:i < j:=by
    rcases Nx i j with h|h
    ·exact h
    ·exfalso
     have e1:(Tv (ps.drop i)).length<=(Tv (ps.drop j)).length:=by
      have:ps.drop i=(ps.drop j).drop (i - j):=by rw [List.drop_drop];congr 1;lia
      rw [this]
      exact((List.drop_sublist _ _).filter _).length_le
     rw [hq,<-h1,Ft]at e1
     lia
   refine⟨rfl,kG f it l j,rfl,λtarget u s R=>?_,?_⟩
   ·have gf:s.heap.get? f=some (Sr it):=(R.ents _ (Ae (.head _))).1
    exact Wn gf rfl (by decide) ⟨_,R,rfl⟩
   ·have:=ih (ps.length - j) (by lia) j rfl h2
    rw [<-h1]at this
    exact this
end
end
section
open AutoSeq1 (wpAny_loadPart')
section
variable {Γ:Bj} {A:Aw} {σ:Ay}
theorem uI {W τ:List As} {S it:Ak} {res:Ab} {G:Ay->Prop} {R:Kw->Ba->Prop} (hG:∀ys,G ⟨W,(.obj S,.list ys)::τ⟩):∀(vs:List Ab) (ρ:List As) (acc:List Ab) (s:Ba),Lb Γ A.in1 it G vs ρ->acc.length+vs.length<=1000000->
  Ea Γ ⟨W,ρ++((.obj S,.list acc)::τ)⟩ s->(∀s',Ea Γ ⟨W,(.obj S,.list (acc++vs))::τ⟩ s'->R (.ok (.ret res)) s')->
  Jz (Cd Γ.prog Γ.w) A (.builtin "list.extend.loop" ⟨[.ref S,.ref it,res],[]⟩) R s:=by
 intro vs
 induction vs with
 |nil=>
  intro ρ acc s Y hz R0 hR
  refine Hg F.entry_extend_loop ?_
  rw [Fw Le _]
  show Cp _ A.in1 (Lk (.ref it)>>=_) _ _ s
  exact Ad (Y.stop (hG acc) R0 λs₁ R₁=>Au (hR s₁ (by rw [Cj];exact R₁)))
 |cons v vs ih=>
  intro ρ acc s Y hz R0 hR
  refine Hg F.entry_extend_loop ?_
  rw [Fw Le _]
  show Cp _ A.in1 (Lk (.ref it)>>=_) _ _ s
  refine Ad (Y.more (hG acc) R0 λu ρ' s₁ eu R₁ _ Y'=>?_)
  ·obtain⟨us,n,L,e2⟩:=Hw R₁ (Ae (fE (.head _)):((.obj S,.list acc):As)∈_)
   have hsz:=Cn e2
   show Cp _ A.in1 (updateSeq S (·.push u)>>=_) _ _ _
   refine Ad ?_
   simp only [Ft]at hz
   refine Ov L rfl (Au ⟨Jm Le _,?_⟩) (by rw [hsz,Av];lia) (by show(us.push u).size<=Gg+1;rw [Array.size_push,hsz,Av];lia)
   have R2:Ea Γ ⟨W,ρ'++((.obj S,.list (acc++[v]))::τ)⟩ {s₁ with heap:=s₁.heap.update S (Mc (·.push u))}:=
    Ea.changeS (s':={s₁ with heap:=s₁.heap.update S (Mc (·.push u))}) R₁ (.tau (Qw.pre .here)) rfl (Dg ..).extBut rfl rfl ⟨_,_,L.update _,by simp [e2,eu]⟩
   refine ih ρ' (acc++[v]) _ Y' (by simp;lia) R2 λs' R'=>hR s' ?_
   rw [Ax]at R'
   exact R'
theorem jP {W τ:List As} {S x:Ak} {Tn:String} {res:Ab} {vs:List Ab} {R:Kw->Ba->Prop} {s:Ba} (hne:S≠x) (h1:(Gw Tn==Gw "list")=false) (h2:(Gw Tn==Gw "tuple")=false)
  (hT:∀s,Ea Γ ⟨W,(.obj S,.list [])::τ⟩ s->s.TypeIs (.ref x) Tn) (hz:vs.length<=1000000)
  (hI:T Γ A.in1 ⟨W,(.obj S,.list [])::τ⟩ (Hu (.ref x)) λc σ'=>∃it ρ τ' G,c=.ref it/\σ'=⟨W,ρ++((.obj S,.list [])::τ')⟩/\Lb Γ A.in1 it G vs ρ/\(∀ys,G ⟨W,(.obj S,.list ys)::τ'⟩)/\
   (∀s,Ea Γ ⟨W,ρ++((.obj S,.list [])::τ')⟩ s->∀{Q:Bool->Ba->Prop} {E:Ab->Ba->Prop},(∀b,Q b s)->Cp (Cd Γ.prog Γ.w) A.in1 (Ji (.ref x)) Q E s)/\
   ∀s',Ea Γ ⟨W,(.obj S,.list vs)::τ'⟩ s'->R (.ok (.ret res)) s') (R0:Ea Γ ⟨W,(.obj S,.list [])::τ⟩ s):
  Cp (Cd Γ.prog Γ.w) A.in1 (Hr (.ref S) (.ref x) res)
   (λfin s'=>match fin with|.done f=>R (.ok f) s'|.again c'=>c'.quiet=true/\Jz (Cd Γ.prog Γ.w) A c' R s') (λe s'=>R (.error e) s') s:=by
 unfold Hr
 refine Ad (wpAny_typeOf (hT s R0) ?_)
 have h0:Kz (.ref S) (.ref x)=false:=by simp [Kz,hne]
 simp only [h0,h1,h2,Bool.or_false,Hl,if_false]
 refine Ad (Nu (Dy (hI s R0) (λv s₁ zz=>?_) λ_ _ x=>x))
 obtain⟨σ₁,R₁,it,ρ,τ',G,e,e',Y,hG,hint,fin⟩:=zz
 have:=Cc e
 subst this
 subst e'
 refine Ad (Dz (hint s₁ R₁ λb=>?_))
 have loop:∀s₂,Ea Γ ⟨W,ρ++((.obj S,.list [])::τ')⟩ s₂->Jz (Cd Γ.prog Γ.w) A (.builtin "list.extend.loop" ⟨[.ref S,.ref it,res],[]⟩) R s₂:=λs₂ R₂=>
  uI hG vs ρ [] s₂ Y (by simpa using hz) R₂ fin
 split
 ·refine Ad (Kx (Ad ?_))
  obtain⟨us,n,L,e2⟩:=Hw R₁ (Ae (fE (.head _)):((.obj S,.list []):As)∈_)
  have hus:us=#[]:=by
   have:=Cn e2
   exact Array.eq_empty_of_size_eq_zero (by simpa using this)
  subst hus
  show Cp _ A.in1 (updateSeq S (·.push .none)>>=λ_=>updateSeq S (·.pop)) _ _ _
  refine Ad (Ov L rfl ?_)
  have hS₂:=Dv (Mc (·.push Dm)) L rfl
  refine Ov (hz:=by seq_fits) hS₂ rfl ?_
  have hS₃:=Dv (Mc (·.pop)) hS₂ rfl
  refine Au ⟨Jm Le _,loop _ ?_⟩
  exact Ea.changeS (s':={s₁ with heap:=(s₁.heap.update S (Mc (·.push Dm))).update S (Mc (·.pop))}) (c:=.list []) (c':=.list []) R₁ (.tau (Qw.pre .here)) rfl ((Dg ..).trans (Dg ..)).extBut rfl rfl ⟨_,_,hS₃,by simp⟩
 ·exact Au ⟨Jm Le _,loop _ R₁⟩
theorem jW {W τ:List As} {x:Ak} {Tn:String} {vs:List Ab} {Q:Ab->Ay->Prop} (h1:(Gw Tn==Gw "list")=false) (h2:(Gw Tn==Gw "tuple")=false)
  (hT:∀s,Ea Γ ⟨W,τ⟩ s->s.TypeIs (.ref x) Tn) (hz:vs.length<=1000000)
  (hI:∀S,S≠x->T Γ A.in1.in1 ⟨W,(.obj S,.list [])::τ⟩ (Hu (.ref x)) λc σ'=>∃it ρ τ' G,c=.ref it/\σ'=⟨W,ρ++((.obj S,.list [])::τ')⟩/\Lb Γ A.in1.in1 it G vs ρ/\(∀ys,G ⟨W,(.obj S,.list ys)::τ'⟩)/\
   (∀s,Ea Γ ⟨W,ρ++((.obj S,.list [])::τ')⟩ s->∀{Q:Bool->Ba->Prop} {E:Ab->Ba->Prop},(∀b,Q b s)->Cp (Cd Γ.prog Γ.w) A.in1.in1 (Ji (.ref x)) Q E s)/\
   Q (.ref S) ⟨W,(.obj S,.list vs)::τ'⟩):∀ws,ws.map cl=[.ref x]->T Γ A ⟨W,τ⟩ (call (.type "list") ws) Q:=λws hw s R=>by
 obtain⟨w₀,rfl,e0⟩:=Ir hw
 have:=Cc e0
 subst this
 have hne:s.heap.objs.size≠x:=λe=>by
  obtain⟨o,ho,_⟩:=hT s R
  exact Nat.lt_irrefl _ (e▸Ds ho)
 refine callType_codes (Q₁:=λobj s₁=>obj=.ref s.heap.objs.size/\s₁={s with heap:=s.heap.push {cls:=.type "list",data:=.seq #[]}}) F.called_list (F.typeCall_list_1 _) F.entry_list_init
  (code_list_new _ ⟨rfl,rfl⟩) λobj s₁ h₁=>?_
 obtain⟨rfl,rfl⟩:=h₁
 have hS:(s.heap.push {cls:=.type "list",data:=.seq #[]}).get? s.heap.objs.size=some {cls:=.type "list",data:=.seq #[]}:=Bg _ rfl
 refine⟨⟨_,hS,rfl⟩,F.args_list_init_2 _ _,?_⟩
 have R1:Ea Γ ⟨W,(.obj s.heap.objs.size,.list [])::τ⟩ {s with heap:=s.heap.push {cls:=.type "list",data:=.seq #[]}}:=R.push (c:=.list []) (s':={s with heap:=s.heap.push {cls:=.type "list",data:=.seq #[]}}) (λ_ _ e=>Al _ e) rfl rfl ⟨#[],0,hS,rfl⟩
 show Cp _ A.in1.in1 (do let old<-Ql (.ref s.heap.objs.size);Builtin.List.listUpdate (.ref s.heap.objs.size) (λ_=>#[]);letGo old.toList.reverse;Hr (.ref s.heap.objs.size) (.ref x) .none) _ _ _
 refine Ad ?_
 unfold Ql
 refine Ad (Qf hS rfl (Au ?_))
 show Cp _ A.in1.in1 (updateSeq s.heap.objs.size (λ_=>#[])>>=λ_=>letGo (#[]:Array Ab).toList.reverse>>=λ_=>Hr (.ref s.heap.objs.size) (.ref x) .none) _ _ _
 refine Ad (Ov hS rfl ?_)
 have hS₂:=Dv (Mc (λ_=>(#[]:Array Ab))) hS rfl
 have R2:Ea Γ ⟨W,(.obj s.heap.objs.size,.list [])::τ⟩ {s with heap:=(s.heap.push {cls:=.type "list",data:=.seq #[]}).update s.heap.objs.size (Mc (λ_=>#[]))}:=
  Ea.changeS (s':={s with heap:=(s.heap.push {cls:=.type "list",data:=.seq #[]}).update s.heap.objs.size (Mc (λ_=>#[]))}) (c:=.list []) (c':=.list []) R1 (.tau .here) rfl (Dg ..).extBut rfl rfl ⟨_,_,hS₂,rfl⟩
 refine Ad (wpAny_letGo ?_)
 have:=jP (A:=A.in1) (res:=.none) (R:=wants (λr s₂=>r=.none/\fB Γ Q (.ref s.heap.objs.size) s₂) (λ_ _=>False)) hne h1 h2 (λs' R'=>hT s' (As.le_sub (.cons _ (.refl _)) _ _ R')) hz
  ((hI s.heap.objs.size hne).mono λc σ' ⟨it,ρ,τ',G,a1,a2,a3,a4,a5,a6⟩=>⟨it,ρ,τ',G,a1,a2,a3,a4,a5,λs' R'=>⟨rfl,_,R',a6⟩⟩) R2
 exact this
end
end
section
section
variable {Γ:Bj} {A:Aw} {σ:Ay} {env:Env}
noncomputable abbrev Tg (C acc:Ak) (x:Str) (o:Option Ab) (ys:List Ab) (τ:List As):List As:=(.obj C,.fr [(x,o)])::(.obj acc,.list ys)::τ
theorem iS {x:Str} {xp:Pos} {scope:La} {cl₀:List (Str×Ak)} (hl:scope.kind=.function/\(Lh scope cl₀ 0 env).kindOf x=some .local):∀C u o W ρ r,T Γ A ⟨W,ρ++Sq (λo=>[(x,o)]) (λ_ _=>[]) C o r⟩ (Ij (.Name x xp) (Lh scope cl₀ C env) u) λ_ σ=>σ=⟨W,ρ++Sq (λo=>[(x,o)]) (λ_ _=>[]) C (some (cl u)) r⟩:=
 λC u o W ρ r=>Sn (env:=Lh scope cl₀ C env) (m':=[(x,some (cl u))]) rfl .here (.tau (Qw.pre .here)) rfl hl.1 hl.2
theorem oO {x:Str} {elt iter:Aq} {ifs:List Aq} {scope:La} {pos xp:Pos} {cl₀:List (Str×Ak)} {Q:Ab->Ay->Prop}
  (h:T Γ A σ (Dr iter env) (P1 Γ A Hu (dW Γ A (λC acc o ys τ=>Tg C acc x o ys τ) (λC=>Lh scope cl₀ C env) ifs elt Q)))
  (hcells:autoParam (∀C,Fe (C+1) scope.names []=[]) aI) (hl:autoParam (scope.kind=.function/\(Lh scope cl₀ 0 env).kindOf x=some .local) aP)
  (hclos:autoParam (Jv scope env=pure cl₀) aR) (hkind:autoParam (scope.kind=.function) aR) (hnames:autoParam ((scope.names.all λx=>x.2 != .local||scope.names.lookup x.1==some .local)=true) aR)
  (hs:autoParam (∀x,Dt iter env x=pure x) aI) (ht:autoParam (∀it v,Dn (.Name x xp) it v=pure ()) aI):
  T Γ A σ (Dr (.ListComp elt [⟨.Name x xp,iter,ifs,0⟩] scope pos) env) Q:=by
 rw [eval_ListComp]
 exact Yh (use:=none) (λo=>[(x,o)]) (λ_ _=>[]) h (λ_ _ _ _ _ h=>h) (λp hp=>by cases Be.mp hp;rfl) (Ey.mpr ⟨List.not_mem_nil,.nil⟩) (λC=>by rw [hcells];rfl) (iS hl) hclos hkind hnames hs ht
theorem Ur {x y:Str} {elt iter:Aq} {ifs:List Aq} {scope:La} {py pos spos xp:Pos} {cl₀:List (Str×Ak)} {Q:Fv->Ay->Prop}
  (h:T Γ A σ (Dr iter env) (P1 Γ A Hu (dW Γ A (λC acc o ys τ=>Tg C acc x o ys τ) (λC=>Lh scope cl₀ C env) ifs elt (kM (.var env.locals y) .val Q))))
  (hcells:autoParam (∀C,Fe (C+1) scope.names []=[]) aI) (hlx:autoParam (scope.kind=.function/\(Lh scope cl₀ 0 env).kindOf x=some .local) aP)
  (hk:autoParam (env.scope.kind=.function) aR) (hl:autoParam (env.kindOf y=some .local) aR)
  (hsw:autoParam (Lq (.ListComp elt [⟨.Name x xp,iter,ifs,0⟩] scope pos) (some (.Name y py)) spos.line env=pure true) aR)
  (hclos:autoParam (Jv scope env=pure cl₀) aR) (hkind:autoParam (scope.kind=.function) aR) (hnames:autoParam ((scope.names.all λx=>x.2 != .local||scope.names.lookup x.1==some .local)=true) aR)
  (hs:autoParam (∀x,Dt iter env x=pure x) aI) (ht:autoParam (∀it v,Dn (.Name x xp) it v=pure ()) aI):
  T Γ A σ (Mx (.Assign [.Name y py] (.ListComp elt [⟨.Name x xp,iter,ifs,0⟩] scope pos) spos) env) Q:=
 qQ hsw (Yh (λo=>[(x,o)]) (λ_ _=>[]) h (qT hk hl) (λp hp=>by cases Be.mp hp;rfl) (Ey.mpr ⟨List.not_mem_nil,.nil⟩) (λC=>by rw [hcells];rfl) (iS hlx) hclos hkind hnames hs ht)
theorem Qs {x:Str} {elt iter:Aq} {ifs:List Aq} {scope:La} {pos xp:Pos} {cl₀:List (Str×Ak)} {Q:Ab->Ay->Prop}
  (h:T Γ A σ (Dr iter env) (P1 Γ A Hu (Xw Γ A (λC acc o ys τ=>Tg C acc x o ys τ) (λC=>Lh scope cl₀ C env) ifs elt Q)))
  (hcells:autoParam (∀C,Fe (C+1) scope.names []=[]) aI) (hl:autoParam (scope.kind=.function/\(Lh scope cl₀ 0 env).kindOf x=some .local) aP)
  (hclos:autoParam (Jv scope env=pure cl₀) aR) (hkind:autoParam (scope.kind=.function) aR) (hnames:autoParam ((scope.names.all λx=>x.2 != .local||scope.names.lookup x.1==some .local)=true) aR)
  (hs:autoParam (∀x,Dt iter env x=pure x) aI) (ht:autoParam (∀it v,Dn (.Name x xp) it v=pure ()) aI):
  T Γ A σ (Dr (.ListComp elt [⟨.Name x xp,iter,ifs,0⟩] scope pos) env) Q:=oO (h.mono λc σ₁ q v hv=>(q v hv).mono λ_ _=>Xw.to) hcells hl hclos hkind hnames hs ht
theorem Qh {x y:Str} {elt iter:Aq} {ifs:List Aq} {scope:La} {py pos spos xp:Pos} {cl₀:List (Str×Ak)} {Q:Fv->Ay->Prop}
  (h:T Γ A σ (Dr iter env) (P1 Γ A Hu (Xw Γ A (λC acc o ys τ=>Tg C acc x o ys τ) (λC=>Lh scope cl₀ C env) ifs elt (kM (.var env.locals y) .val Q))))
  (hcells:autoParam (∀C,Fe (C+1) scope.names []=[]) aI) (hlx:autoParam (scope.kind=.function/\(Lh scope cl₀ 0 env).kindOf x=some .local) aP)
  (hk:autoParam (env.scope.kind=.function) aR) (hl:autoParam (env.kindOf y=some .local) aR)
  (hsw:autoParam (Lq (.ListComp elt [⟨.Name x xp,iter,ifs,0⟩] scope pos) (some (.Name y py)) spos.line env=pure true) aR)
  (hclos:autoParam (Jv scope env=pure cl₀) aR) (hkind:autoParam (scope.kind=.function) aR) (hnames:autoParam ((scope.names.all λx=>x.2 != .local||scope.names.lookup x.1==some .local)=true) aR)
  (hs:autoParam (∀x,Dt iter env x=pure x) aI) (ht:autoParam (∀it v,Dn (.Name x xp) it v=pure ()) aI):
  T Γ A σ (Mx (.Assign [.Name y py] (.ListComp elt [⟨.Name x xp,iter,ifs,0⟩] scope pos) spos) env) Q:=Ur (h.mono λc σ₁ q v hv=>(q v hv).mono λ_ _=>Xw.to) hcells hlx hk hl hsw hclos hkind hnames hs ht
end
end
section
section
variable {Γ:Bj} {A:Aw} {G:List Nd} {σ:Ay}
theorem jM {s:Ba} {f:Ak} {Q:Bool->Ba->Prop} {E:Ab->Ba->Prop} {M:Model} (hT:s.TypeIs (.ref f) "filter") (h:∀b,Q b s):Cp M A (Ji (.ref f)) Q E s:=by
 unfold Ji
 refine Ad (wpAny_specialOf hT FF.no_len ?_)
 show Cp _ A (specialOf (Bt f) (Kl "__length_hint__")>>=_) _ _ _
 refine Ad (wpAny_specialOf hT FF.no_hint ?_)
 exact Au (h _)
theorem jL {W τ:List As} {f it l:Ak} {i:Nat}:T Γ A ⟨W,kG f it l i++τ⟩ (Hu (.ref f)) λc σ'=>c=.ref f/\σ'=⟨W,kG f it l i++τ⟩:=λs R=>by
 have gf:s.heap.get? f=some (Sr it):=(R.ents _ (Ae (.head _))).1
 have hT:s.TypeIs (.ref f) "filter" :=⟨_,gf,rfl⟩
 refine wpAny_pyIter_slot hT FF.slot_iter (Lv FF.slot_iter hT FF.entry_iter ?_ (FF.args_iter _))
 show Cp _ _ (ret (.ref f)) _ _ s
 exact Au ⟨_,rfl,"filter",_,hT,FF.slot_next.lookup,_,R,rfl,rfl⟩
theorem dK {W τ:List As} {f it l:Ak} {ps:yI} {Q:Ab->Ay->Prop} (hh:A.handled=none) (hz:∀p∈ps,p.2.length<=1000000) (hn:ps.length<=1000000) (hm:(.obj l,.list (ps.map λp=>.ref p.1))∈(⟨W,τ⟩:Ay).all) (hp:∀p∈ps,(.obj p.1,.list p.2)∈(⟨W,τ⟩:Ay).all)
  (h:∀r,Q (.ref r) ⟨W,(.obj r,.list ((Tv ps).map λp=>.ref p.1))::τ⟩):∀ws,ws.map cl=[.ref f]->T Γ A ⟨W,kG f it l 0++τ⟩ (call (.type "list") ws) Q:=by
 have hT:∀s τ',Ea Γ ⟨W,kG f it l 0++τ'⟩ s->s.TypeIs (.ref f) "filter" :=λs τ' R=>⟨_,(R.ents _ (Ae (.head _))).1,rfl⟩
 refine jW (Tn:="filter") (vs:=(Tv ps).map λp=>.ref p.1) (by decide) (by decide) (λs R=>hT s τ R) ?_ λS hS=>?_
 ·rw [Ap];exact Bw (Bu _ _) hn
 ·have perm:As.le ⟨W,kG f it l 0++((.obj S,.list [])::τ)⟩ ⟨W,(.obj S,.list [])::(kG f it l 0++τ)⟩:=As.le_perm (Bb W Ff.symm)
  refine T.conseq perm (jL.mono λc σ' ⟨e1,e2⟩=>⟨f,kG f it l 0,τ,(λσ:Ay=>(.obj l,.list (ps.map λp=>.ref p.1))∈σ.all/\∀p∈ps,(.obj p.1,.list p.2)∈σ.all),e1,by rw [e2],?_,λys=>⟨Eb hm,λp hp'=>Eb (hp p hp')⟩,λs R Q E hq=>jM (hT s _ R) hq,h S⟩)
  have:=jN (Γ:=Γ) (A:=A.in1.in1) (W:=W) (l:=l) (f:=f) (it:=it) (ps:=ps) hh hz ps.length 0 (by lia) (Ca _)
  rwa [List.drop_zero]at this
noncomputable def dP (G:List Nd):Option Nat->Ab
 |none=>.none
 |some j=>.ref (Fm G j)
noncomputable def Tf (ig:Option Nat) (l:List Nat):List Nat:=l.filter λk=>decide (some k≠ig)
noncomputable def Vj (ig:Option Nat) (ls:List (List Nat)):List (List Nat):=(ls.map (Tf ig)).filter λl=>!l.isEmpty
theorem nC {W τ:List As} {u v:Ab} {k:Nat} {ig:Option Nat} {Q:Ab->Ay->Prop} (nf:NF W G) (J:oS G) (hk:k < G.length) (hig:∀j,ig=some j->j < G.length) (hu:cl u=.ref (Fm G k)) (hv:cl v=dP G ig) (h:Q (.bool (decide (some k≠ig))) ⟨W,τ⟩):T Γ A ⟨W,τ⟩ (Eg .IsNot u v) Q:=by
 cases ig with
 |none=>exact Xg hu hv rfl h
 |some j=>
  have hj:=hig j rfl
  obtain⟨x,ex⟩:=Dl hk
  obtain⟨y,ey⟩:=Dl hj
  rw [Br ex]at hu
  have hv':cl v=.ref y.me:=by rw [<-Br ey];exact hv
  refine Zh hu hv' (Ox (nf.inst _ _ ex)) (Ox (nf.inst _ _ ey)) ?_
  have:=J.beq hk hj
  rw [Br ex,Br ey]at this
  rw [this]
  have e:(!(k==j))=decide (some k≠some j):=by by_cases h:k=j<;>simp [h]
  rw [e];exact h
theorem zF (Γ:Bj):Γ.K.lookup 163=some ⟨.type "function",none,.func (Ka Γ 163 "C3._nonempty_bases_ignoring" (clsStmt 8 9) (.ref 162) .none),#[]⟩:=by kernel_rfl
noncomputable abbrev kH (L a:Ak) (v:Ab) (τ:List As):List As:=(.obj (L+1),.cell (some v))::(.var L "base_tree",.val (some (.ref a)))::τ
theorem hZ (ig:Option Nat) (l:List Nat):(Tf ig l).length<=l.length:=Bu _ _
theorem tF {ig:Option Nat} {l:List Nat} {j:Nat} (h:decide (some j≠ig)=true):Tf ig (l++[j])=Tf ig l++[j]:=by
 unfold Tf
 rw [Ez,Gj,h]
 rfl
theorem vY {ig:Option Nat} {l:List Nat} {j:Nat} (h:decide (some j≠ig)=false):Tf ig (l++[j])=Tf ig l:=by
 unfold Tf
 rw [Ez,Gj,h]
 exact Cj _
noncomputable abbrev Tr.prs (G:List Nd) (ps:Tr):yI:=ps.map λp=>(p.1,refs G p.2)
theorem zP {W τ:List As} {a:Ak} {ig:Option Nat} {ls:List (List Nat)} {Q:Ab->Ay->Prop} (nf:NF W G) (J:oS G) (hA:Rm A 1) (hh:A.handled=none) (hT:Sg G ⟨W,τ⟩ a ls) (hl:∀l∈ls,l.length<=1000/\∀i∈l,i < G.length) (hn:ls.length<=1000) (hig:∀j,ig=some j->j < G.length)
  (h:∀r ρ,Sg G ⟨[],ρ⟩ r (Vj ig ls)->Q (.ref r) ⟨W,ρ++τ⟩):∀ws,ws.map cl=[.ref a,dP G ig]->TC Γ A ⟨W,τ⟩ (.ref 163) ws [] Q:=λws hw=>by
 obtain⟨ps,hm,he,hr⟩:=hT
 rw [<-he,Ap]at hn
 refine Wb (body:=fBody (clsStmt 8 9)) (bs:=[("base_tree",.ref a),("ignoring",dP G ig)]) ["base_tree"] (zF Γ) (by kernel_rfl) hA.room (Gu.plain2 λ_ _ _=>Cg (by rfl)) (λL=>?_) (by rfl) (by decide) (by decide) (by rfl) (by rfl) (by rfl) ws [] hw rfl
 show T Γ (A.deeper (Gk "C3._nonempty_bases_ignoring" (fScope (clsStmt 8 9)) L 163 (.ref 162) [("ignoring",L+1)])) ⟨W,kH L a (dP G ig) τ⟩ (Cm _ (Gk "C3._nonempty_bases_ignoring" (fScope (clsStmt 8 9)) L 163 (.ref 162) [("ignoring",L+1)])) _
 have up:∀{q ρ},q∈(⟨W,τ⟩:Ay).all->q∈(⟨W,ρ++kH L a (dP G ig) τ⟩:Ay).all:=λ{q ρ} hq=>Bq (Bq (ρ:=[_,_]) hq)
 refine Am (Fj (Bz (Az (v:=.type "list") (by kernel_rfl) (by decide+kernel) (by decide) ⟨.inr (.inr ⟨_,rfl⟩),?_⟩)))
 refine Ag (Bz (Az (v:=.type "filter") (by kernel_rfl) (by decide+kernel) (by decide) ⟨.inr (.inr ⟨_,rfl⟩),?_⟩))
 refine Ag (Jt (k:=0) (pos:=⟨0,0,0,0⟩) (Ag ?_))
 refine Qs (Ac (v:=.ref a) (mI 1 rfl) (Eh (vs:=ps.vs) (up (ρ:=[]) hm) λit=>?_))
 refine⟨λp:Ak×List Nat=>.ref p.1,ps,it,_,_,λ_ _=>W,λ_ z=>z.2++kH L a (dP G ig) τ,λ_ z=>Tr.vs z.1,λd z=>z.1.map (·.2)=d.map (λp=>Tf ig p.2)/\∀p∈z.1,(.obj p.1,.list (refs G p.2))∈z.2,(([]:Tr),([]:List As)),⟨rfl,rfl,Es hh⟩,Gv,⟨rfl,λ_ h=>nomatch h⟩,rfl,
  λd z ext _=>Bq (up hm),λd r z e hJ=>?_,λC acc d p r ρ z e hJ=>?_,λacc z hJ=>?_⟩
 ·have e1:=congrArg Ia hJ.1
  rw [Ap,Ap]at e1
  rw [e,Ah]at hn
  rw [Ap,e1,Av]
  lia
 ·have hp:p∈ps:=by rw [e];exact Aa _ (.head _)
  obtain⟨hl1,hl2⟩:=hl p.2 (he▸Cv hp)
  have hm':(.obj p.1,.list (refs G p.2))∈(⟨W,ρ++Tg C acc "bases" (some (.ref p.1)) (Tr.vs z.1) (z.2++kH L a (dP G ig) τ)⟩:Ay).all:=Bq (Bq (ρ:=[_,_]) (up (hr p hp)))
  refine Pr ⟨λ_=>?_,λhb=>(by cases hb)⟩
  refine Qs (Di (v:=.ref p.1) (Ae (Aa _ (.head _))) (.head _) (Eh (vs:=refs G p.2) hm' λit₂=>?_))
  refine⟨λj=>.ref (Fm G j),p.2,it₂,_,_,λ_ _=>W,λ_ _=>ρ++Tg C acc "bases" (some (.ref p.1)) (Tr.vs z.1) (z.2++kH L a (dP G ig) τ),λl _=>refs G (Tf ig l),λ_ _=>True,(),⟨rfl,rfl,Es hh⟩,Gv,trivial,rfl,λ_ _ ext _=>Bq hm',λl r _ e _=>?_,λC₂ acc₂ l j r ρ₂ _ e _=>?_,λacc₂ _ _=>?_⟩
  ·rw [e,Ah]at hl1
   have:=hZ ig l
   rw [Bf,Av]
   lia
  ·have hj:=hl2 j (by rw [e];exact Aa _ (.head _))
   refine Jl (Ar (Di (v:=.ref (Fm G j)) (Ae (Aa _ (.head _))) (.head _) (An (v:=dP G ig) rfl (Ae (Aa _ (.tail _ (.tail _ (Aa _ (.tail _ (.tail _ (Aa _ (.head _)))))))))
    λu v hu hv=>nC nf J hj hig hu hv ⟨_,rfl,λhb=>Di (v:=.ref (Fm G j)) (Ae (Aa _ (.head _))) (.head _) ⟨_,_,_,As.le_refl _,(),rfl,by rw [tF hb,Ki];rfl,trivial⟩,λhb=>⟨_,_,_,As.le_refl _,(),rfl,by rw [vY hb],trivial⟩⟩)))
  ·refine⟨W,(.obj acc₂,.list (refs G (Tf ig p.2)))::(z.2++kH L a (dP G ig) τ),some (.ref p.1),As.le_perm (Bb W ?_),(z.1++[(acc₂,Tf ig p.2)],(.obj acc₂,.list (refs G (Tf ig p.2)))::z.2),rfl,?_,?_,λq hq=>?_⟩
   ·exact aV _ _ _ _ _
   ·exact(Bh (l₁:=z.1) (l₂:=[(acc₂,Tf ig p.2)])).symm
   ·rw [Bh,Bh,hJ.1]
    rfl
   ·rcases Ai.mp hq with h|h
    ·exact .tail _ (hJ.2 q h)
    ·rw [Be.mp h];exact .head _
 ·obtain⟨qs,ρ⟩:=z
  obtain⟨hq1,hq2⟩:=hJ
  refine Ao (vA (vs:=Tr.vs qs) Bs λf it'=>?_)
  have ev:Tr.vs qs=(Tr.prs G qs).map λp=>.ref p.1:=by
   rw [Ec]
   rfl
  have lq:∀q∈qs,q.2.length<=1000:=λq hq=>by
   have:q.2∈qs.map (·.2):=Cv hq
   rw [hq1]at this
   obtain⟨p,hp,e⟩:=Bn.mp this
   rw [<-e]
   exact Bw (hZ ig p.2) (hl p.2 (he▸Cv hp)).1
  have hlen:qs.length<=1000:=by
   have:=congrArg Ia hq1
   rw [Ap,Ap]at this
   rw [this];exact hn
  refine Ao (dK (ps:=Tr.prs G qs) hh (λp hp=>?_) (by rw [Ap];lia) (ev▸Bs) (λp hp=>?_) λr=>?_)
  ·obtain⟨q,hq,e⟩:=Bn.mp hp
   have:=lq q hq
   rw [<-e,Bf]
   lia
  ·obtain⟨q,hq,e⟩:=Bn.mp hp
   rw [<-e]
   exact Eb (Ae (Af _ (hq2 q hq)))
  ·have hne:(Tv (Tr.prs G qs)).map (λp=>Bt p.1)=Tr.vs (qs.filter λq=>!q.2.isEmpty):=by
    unfold Tv
    rw [Kd,Ec]
    have:((λp:Ak×List Ab=>!p.2.isEmpty)∘λp:Ak×List Nat=>(p.1,refs G p.2))=λq=>!q.2.isEmpty:=funext λq=>congrArg (!·) List.isEmpty_map
    rw [this]
    rfl
   rw [hne]
   refine⟨⟨W,((.obj r,.list (Tr.vs (qs.filter λq=>!q.2.isEmpty)))::(.obj acc,.list (Tr.vs qs))::(ρ++kH L a (dP G ig) []))++τ⟩,As.le_of_eq (by rw [Hp,Hp,Ax];rfl),h r _ ⟨qs.filter λq=>!q.2.isEmpty,Ae (.head _),?_,λq hq=>?_⟩⟩
   ·unfold Vj
    rw [<-he,Ec]
    show _=List.filter _ (List.map (λp:Ak×List Nat=>Tf ig p.2) ps)
    rw [<-hq1,Kd]
    rfl
   ·exact Ae (.tail _ (.tail _ (Af _ (hq2 q (Cs.mp hq).1))))
end
end
section
theorem fW {l:List As} {p q:As} (h:l.Pairwise Tz) (hp:p∈l) (hq:q∈l) (e:¬p=q):Tz p q:=by
 induction h with
 |nil=>cases hp
 |cons ha _ ih=>
  rcases Ce.mp hp with h1|h1
  ·rcases Ce.mp hq with h2|h2
   ·exact absurd (h1.trans h2.symm) e
   ·rw [h1];exact ha q h2
  ·rcases Ce.mp hq with h2|h2
   ·rw [h2];exact(ha p h1).symm
   ·exact ih h1 h2
section
variable {Γ:Bj} {A:Aw} {σ σ':Ay} {s s':Ba} {env:Env}
theorem Li.loc {l:Er} {c:CO} (hx:∀a o,l.base=(true,a)->s.heap.get? a=some o->s'.heap.get? a=some o) (hg:s'.gens=s.gens) (h:Li Γ s l c):Li Γ s' l c:=by
 cases l with
 |var d x=>
  cases c<;>first|exact h.elim|skip
  obtain⟨M,⟨o,es,ep,ho,r⟩,e⟩:=h
  exact⟨M,⟨o,es,ep,hx _ _ rfl ho,r⟩,e⟩
 |gen g=>
  cases c<;>first|exact h.elim|skip
  show s'.gens[g]? =_
  rw [hg];exact h
 |obj a=>
  cases c with
  |list vs=>obtain⟨ws,n,e,r⟩:=h;exact⟨ws,n,hx _ _ rfl e,r⟩
  |tup vs=>obtain⟨ws,n,e,r⟩:=h;exact⟨ws,n,hx _ _ rfl e,r⟩
  |inst C d=>exact hx _ _ rfl h
  |ns m=>obtain⟨es,n,e,r⟩:=h;exact⟨es,n,hx _ _ rfl e,r⟩
  |idict es=>obtain⟨kvs,⟨o,es,ep,ho,r⟩,q⟩:=h;exact⟨kvs,⟨o,es,ep,hx _ _ rfl ho,r⟩,q⟩
  |sdict es=>obtain⟨kvs,⟨o,es,ep,ho,r⟩,q⟩:=h;exact⟨kvs,⟨o,es,ep,hx _ _ rfl ho,r⟩,q⟩
  |iset ks=>obtain⟨S,n,⟨o,es,ep,t,ho,r⟩,q⟩:=h;exact⟨S,n,⟨o,es,ep,t,hx _ _ rfl ho,r⟩,q⟩
  |vview d=>obtain⟨o,e,r⟩:=h;exact⟨o,hx _ _ rfl e,r⟩
  |rng _ _ _=>obtain⟨t,u,v,e⟩:=h;exact⟨t,u,v,hx _ _ rfl e⟩
  |rev l i=>obtain⟨o,e,r⟩:=h;exact⟨o,hx _ _ rfl e,r⟩
  |fr m=>obtain⟨M,⟨o,es,ep,ho,q⟩,r⟩:=h;exact⟨M,⟨o,es,ep,hx _ _ rfl ho,q⟩,r⟩
  |liter l i=>obtain⟨o,e,r⟩:=h;exact⟨o,hx _ _ rfl e,r⟩
  |titer l i=>obtain⟨o,e,r⟩:=h;exact⟨o,hx _ _ rfl e,r⟩
  |riter x y z=>exact hx _ _ rfl h
  |cell ov=>obtain⟨v,⟨o,e,d⟩,r⟩:=h;exact⟨v,⟨o,hx _ _ rfl e,d⟩,r⟩
  |raw o=>exact hx _ _ rfl h
  |val _|gst _=>exact h.elim
theorem lL {h₀ h h':Heap} (K:OldK h₀ h) (e:∀b o,h₀.get? b=some o->h'.get? b=h.get? b):OldK h₀ h':=by
 refine⟨λb o q=>?_,λb o q=>let ⟨o',ho'⟩:=K.there b o q;⟨o',(e b o q).trans ho'⟩⟩
 rcases K.old b o q with x|⟨t,hc,vs,more,hv,x⟩|⟨rfl,hc,⟨o',es,n,ho',r⟩,z⟩
 ·exact .inl ((e b o q).trans x)
 ·exact .inr (.inl ⟨t,hc,vs,more,hv,(e b o q).trans x⟩)
 ·exact .inr (.inr ⟨rfl,hc,⟨o',es,n,(e _ _ q).trans ho',r⟩,λkey=>by rw [OldK.staticOf_congr (e _ _ q) key];exact z key⟩)
theorem Ea.slots {h':Heap} {fs:List Ak} (R:Ea Γ σ s) (hs:Heap.SlotsOnly fs s.heap h') (hf:∀L∈fs,∃x c,(.var L x,.val c)∈σ.all):Ea Γ σ {s with heap:=h'}:=by
 obtain⟨s1,s2,s3⟩:=hs
 have new:∀L∈fs,Γ.h₁.get? L=none:=λL hL=>by
  obtain⟨x,c,hm⟩:=hf L hL
  exact R.above hm rfl
 have same:∀b o,Γ.h₁.get? b=some o->h'.get? b=s.heap.get? b:=λb o e=>s2 b λhb=>by rw [new b hb]at e;cases e
 have nc:cStatics∉fs:=λh=>by
  obtain⟨mc,⟨o,_,_,ho,_⟩,_⟩:=Γ.top.nolimit
  rw [new _ h]at ho;cases ho
 obtain⟨⟨mc,⟨o,es,ep,ho,r⟩,hl⟩,ht⟩:=R.lim
 refine⟨lL R.old same,⟨⟨mc,⟨o,es,ep,(s2 _ nc).trans ho,r⟩,hl⟩,λP hP=>let ⟨ps,e,t⟩:=ht P hP;⟨ps,(s2 _ λq=>by have z:=Γ.tabs P hP;rw [new _ q]at z;cases z).trans e,t⟩⟩,λo e=>(s2 _ nc).trans (R.stat o e),R.os,R.bare,λp hp=>⟨?_,(R.ents p hp).2⟩,R.sep⟩
 have hp1:=(R.ents p hp).1
 by_cases hb:∃L∈fs,p.1.base=(true,L)
 ·obtain⟨L,hL,hb⟩:=hb
  obtain⟨x,c,hm⟩:=hf L hL
  have:p.1=.var L x/\p.2=.val c\/∃y,p.1=.var L y:=by
   by_cases e:p=(.var L x,.val c)
   ·left;rw [e];exact⟨rfl,rfl⟩
   ·have sp:Tz p (.var L x,.val c):=fW R.sep hp hm e
    rcases sp with h|⟨_,h⟩|⟨d,y,z,h1,h2,_⟩
    ·exact absurd hb h
    ·cases h
    ·right;cases h2;exact⟨y,h1⟩
  have:∃y,p.1=.var L y:=by
   rcases this with⟨h,_⟩|h
   ·exact⟨x,h⟩
   ·exact h
  obtain⟨y,hy⟩:=this
  obtain⟨l,c'⟩:=p
  dsimp only at hy
  subst hy
  cases c'<;>first|exact hp1.elim|skip
  obtain⟨M,⟨o,es,ep,ho,q⟩,e⟩:=hp1
  obtain⟨sl,hsl⟩:=s3 _ _ ho
  exact⟨M,⟨_,es,ep,hsl,q⟩,e⟩
 ·refine hp1.loc (s':={s with heap:=h'}) (λa o ha e=>(s2 a λh=>hb ⟨a,h,ha⟩).trans e) rfl
noncomputable def AF (A:Aw) (σ:Ay):Prop:=∃l,A.frames=some l/\∀env∈l,env.scope.kind≠.module/\∃L x c,env.frame=some L/\(.var L x,.val c)∈σ.all
theorem AF.fun_ {l:List Env} (R:Ea Γ σ s) (h:∀env∈l,env.scope.kind≠.module/\∃L x c,env.frame=some L/\(.var L x,.val c)∈σ.all):s.heap.FunFrames {} l:=by
 induction l with
 |nil=>trivial
 |cons env r ih=>
  obtain⟨hk,L,x,c,hf,hm⟩:=h env (.head _)
  obtain⟨M,⟨o,es,ep,ho,hd,_⟩,_⟩:=(R.ents _ hm).1
  exact⟨hk,⟨L,o,hf,rfl,ho,λvs q=>by rw [hd]at q;cases q⟩,ih λe he=>h e (.tail _ he)⟩
theorem AF.push {W τ τ':List As} {env:Env} {L:Ak} {x:Str} {c:Option Ab} (h:AF A ⟨W,τ⟩) (hk:env.scope.kind=.function) (hf:env.frame=some L) (hm:(.var L x,.val c)∈(⟨W,τ'⟩:Ay).all) (hs:∀p∈τ,p∈τ'):AF (A.deeper env) ⟨W,τ'⟩:=by
 obtain⟨l,e,h⟩:=h
 refine⟨env::l,Np e,λenv' he=>?_⟩
 rcases Ce.mp he with rfl|he
 ·exact⟨by rw [hk];decide,L,x,c,hf,hm⟩
 ·obtain⟨h1,L,x,c,h2,h3⟩:=h _ he
  refine⟨h1,L,x,c,h2,?_⟩
  rcases Ai.mp h3 with h|h
  ·exact Af _ h
  ·exact Aa _ (hs _ h)
theorem eY {L:Ak} {l:List Env} {Q:Ab->Ay->Prop} (hA:AF A σ) (hl:A.frames=some (env::l)) (hf:env.frame=some L) (h:Q (.ref L) σ):T Γ A σ (frameOf env) Q:=λs R=>by
 obtain⟨l',e,hA⟩:=hA
 rw [hl]at e
 cases e
 refine wpAny_frameOf_fun hl (AF.fun_ R hA) hf λh' hs=>⟨σ,R.slots hs λL' hL'=>?_,h⟩
 obtain⟨env',he,hf'⟩:=List.mem_filterMap.mp hL'
 obtain⟨_,L₂,x,c,h2,h3⟩:=hA env' he
 rw [hf']at h2
 cases h2
 exact⟨x,c,h3⟩
noncomputable abbrev Lg (t:Ak) (T:Ab):Obj:={cls:=.ref 100,data:=.fields #[.ref t,T,.none,.none,.bool false,.none]}
noncomputable abbrev Zs (ts:Array Ab):Obj:={cls:=.type "traceback",dict:=none,data:=.fields ts}
theorem gF {W τ:List As} {L e t:Ak} {l:List Env} {Q:Unit->Ay->Prop} (hA:AF A ⟨W,τ⟩) (hl:A.frames=some (env::l)) (hf:env.frame=some L)
  (h:∀T ts,ts[3]? =some (Kb L)->Q () ⟨W,(.obj T,.raw (Zs ts))::(.obj e,.raw (Lg t (.ref T)))::τ⟩):T Γ A ⟨W,(.obj e,.raw (Lg t .none))::τ⟩ (Pk (.ref e) env) Q:=λs R=>by
 have he:s.heap.get? e=some (Lg t .none):=(R.ents _ Bs).1
 unfold Pk
 simp only [hf]
 refine Ad (Gl he rfl (x:=.none) rfl ?_)
 rw [if_neg (by decide)]
 have hA':AF A ⟨W,(.obj e,.raw (Lg t .none))::τ⟩:=by
  obtain⟨l,e,h⟩:=hA
  exact⟨l,e,λenv he=>let ⟨h1,L,x,c,h2,h3⟩:=h env he;⟨h1,L,x,c,h2,Eb h3⟩⟩
 refine Ad (Dy (eY (Q:=λv σ=>v=.ref L/\σ=⟨W,(.obj e,.raw (Lg t .none))::τ⟩) hA' hl hf ⟨rfl,rfl⟩ s R) (λv s₁ zz=>?_) λ_ _ x=>x.elim)
 obtain⟨σ₁,R₁,e₁,e₂⟩:=zz
 have:=Cc e₁
 subst this
 subst e₂
 refine Ad (wpAny_entryPlaceOf λpl hpl=>?_)
 unfold EntryCells.newEntry newFields
 refine Ad (Et ?_ (hpl.sizeOk5 _ _ _ _ _))
 have he₁:s₁.heap.get? e=some (Lg t .none):=(R₁.ents _ Bs).1
 refine Nk (Al _ he₁) rfl (by show 1 < 6;decide) ?_
 have R₂:=R₁.push (c:=.raw (Zs ([Dm,.ref L,.none,Kb L,.none]++(if pl.isEmpty then Nn 6 Dm else pl)).toArray)) (s':={s₁ with heap:=s₁.heap.push (Zs ([Dm,.ref L,.none,Kb L,.none]++(if pl.isEmpty then Nn 6 Dm else pl)).toArray)}) (λ_ _ e=>Al _ e) rfl rfl (Bg _ rfl)
 refine⟨_,Ea.changeS (c':=.raw (Lg t (.ref s₁.heap.objs.size))) (σ':=⟨W,(.obj s₁.heap.objs.size,.raw (Zs ([Dm,.ref L,.none,Kb L,.none]++(if pl.isEmpty then Nn 6 Dm else pl)).toArray))::(.obj e,.raw (Lg t (.ref s₁.heap.objs.size)))::τ⟩) R₂ (.tau (.there .here)) rfl (Dg ..).extBut rfl rfl (Dv _ (Al _ he₁) rfl),h _ _ rfl⟩
theorem Wt {W τ:List As} {e t T:Ak} {ts:Array Ab} {fl:Ab} {Q:Unit->Ay->Prop} (h3:ts[3]? =some fl)
  (h:∀ts,ts[3]? =some Dm->Q () ⟨W,(.obj T,.raw (Zs ts))::(.obj e,.raw (Lg t (.ref T)))::τ⟩):Mine.T Γ A ⟨W,(.obj T,.raw (Zs ts))::(.obj e,.raw (Lg t (.ref T)))::τ⟩ (setFlight (.ref e) none) Q:=λs R=>by
 have hT:s.heap.get? T=some (Zs ts):=(R.ents _ Bs).1
 have he:s.heap.get? e=some (Lg t (.ref T)):=(R.ents _ (Eb Bs)).1
 have hsz:3 < ts.size:=(Nq.mp h3).1
 unfold setFlight
 refine Ad (Gl he rfl (x:=.ref T) rfl ?_)
 rw [if_pos (show(Bt T != Dm)=true from by simp)]
 refine Nk hT rfl hsz ⟨_,Ea.changeS (s':={s with heap:=s.heap.update T (Jn (·.setIfInBounds 3 .none))}) (c':=.raw (Zs (ts.setIfInBounds 3 .none))) R (.tau .here) rfl (Dg ..).extBut rfl rfl (Dv _ hT rfl),h _ ?_⟩
 simp [hsz]
theorem Zf {W τ:List As} {L e t T:Ak} {ts:Array Ab} {l:List Env} {Q:Unit->Ay->Prop} (hA:AF A ⟨W,τ⟩) (hl:A.frames=some (env::l)) (hf:env.frame=some L) (h3:ts[3]? =some Dm)
  (h:∀T ts,ts[3]? =some (Kb L)->Q () ⟨W,(.obj T,.raw (Zs ts))::(.obj e,.raw (Lg t (.ref T)))::τ⟩):Mine.T Γ A ⟨W,(.obj T,.raw (Zs ts))::(.obj e,.raw (Lg t (.ref T)))::τ⟩ (Pk (.ref e) env) Q:=λs R=>by
 have hT:s.heap.get? T=some (Zs ts):=(R.ents _ Bs).1
 have he:s.heap.get? e=some (Lg t (.ref T)):=(R.ents _ (Eb Bs)).1
 have hsz:3 < ts.size:=(Nq.mp h3).1
 unfold Pk
 simp only [hf]
 refine Ad (Gl he rfl (x:=.ref T) rfl ?_)
 rw [if_pos (show(Bt T != Dm)=true from by simp)]
 refine Ad (Gl hT rfl h3 ?_)
 rw [if_neg (show¬((Dm==Kb L)=true)from by simp [Kb])]
 refine Ad (Nk hT rfl hsz ?_)
 have R₁:Ea Γ ⟨W,(.obj e,.raw (Lg t (.ref T)))::τ⟩ {s with heap:=s.heap.update T (Jn (·.setIfInBounds 3 .none))}:=
  As.le_sub (.cons _ (.refl _)) _ _ (Ea.changeS (s':={s with heap:=s.heap.update T (Jn (·.setIfInBounds 3 .none))}) (c':=.raw (Zs (ts.setIfInBounds 3 .none))) R (.tau .here) rfl (Dg ..).extBut rfl rfl (Dv _ hT rfl))
 have hA':AF A ⟨W,(.obj e,.raw (Lg t (.ref T)))::τ⟩:=by
  obtain⟨l,e,h⟩:=hA
  exact⟨l,e,λenv he=>let ⟨h1,L,x,c,h2,h3⟩:=h env he;⟨h1,L,x,c,h2,Eb h3⟩⟩
 refine Ad (Dy (eY (Q:=λv σ=>v=.ref L/\σ=⟨W,(.obj e,.raw (Lg t (.ref T)))::τ⟩) hA' hl hf ⟨rfl,rfl⟩ _ R₁) (λv s₁ zz=>?_) λ_ _ x=>x.elim)
 obtain⟨σ₁,R₁,e₁,e₂⟩:=zz
 have:=Cc e₁
 subst this
 subst e₂
 refine Ad (wpAny_entryPlaceOf λpl hpl=>?_)
 unfold EntryCells.newEntry newFields
 refine Ad (Et ?_ (hpl.sizeOk5 _ _ _ _ _))
 have he₁:s₁.heap.get? e=some (Lg t (.ref T)):=(R₁.ents _ Bs).1
 refine Nk (Al _ he₁) rfl (by show 1 < 6;decide) ?_
 have R₂:=R₁.push (c:=.raw (Zs ([Bt T,.ref L,.none,Kb L,.none]++(if pl.isEmpty then Nn 6 Dm else pl)).toArray)) (s':={s₁ with heap:=s₁.heap.push (Zs ([Bt T,.ref L,.none,Kb L,.none]++(if pl.isEmpty then Nn 6 Dm else pl)).toArray)}) (λ_ _ e=>Al _ e) rfl rfl (Bg _ rfl)
 refine⟨_,Ea.changeS (c':=.raw (Lg t (.ref s₁.heap.objs.size))) (σ':=⟨W,(.obj s₁.heap.objs.size,.raw (Zs ([Bt T,.ref L,.none,Kb L,.none]++(if pl.isEmpty then Nn 6 Dm else pl)).toArray))::(.obj e,.raw (Lg t (.ref s₁.heap.objs.size)))::τ⟩) R₂ (.tau (.there .here)) rfl (Dg ..).extBut rfl rfl (Dv _ (Al _ he₁) rfl),h _ _ rfl⟩
theorem dL {W τ:List As} {L e t:Ak} {l:List Env} {Q:Unit->Ay->Prop} (hA:AF A ⟨W,τ⟩) (hl:A.frames=some (env::l)) (hf:env.frame=some L)
  (h:∀T ts,ts[3]? =some Dm->Q () ⟨W,(.obj T,.raw (Zs ts))::(.obj e,.raw (Lg t (.ref T)))::τ⟩):T Γ A ⟨W,(.obj e,.raw (Lg t .none))::τ⟩ (leaving env (.ref e)) Q:=
 .bind (gF hA hl hf λ_ _ h3 _ _=>Wt h3 (h _))
theorem gG {W τ:List As} {L e t T:Ak} {ts:Array Ab} {l:List Env} {Q:Unit->Ay->Prop} (hA:AF A ⟨W,τ⟩) (hl:A.frames=some (env::l)) (hf:env.frame=some L) (h3:ts[3]? =some Dm)
  (h:∀T ts,ts[3]? =some Dm->Q () ⟨W,(.obj T,.raw (Zs ts))::(.obj e,.raw (Lg t (.ref T)))::τ⟩):Mine.T Γ A ⟨W,(.obj T,.raw (Zs ts))::(.obj e,.raw (Lg t (.ref T)))::τ⟩ (leaving env (.ref e)) Q:=
 .bind (Zf hA hl hf h3 λ_ _ h3 _ _=>Wt h3 (h _))
end
end
section
noncomputable abbrev vH (nm:Str) (C N:Ak) (bs bm:List Ab) (k0 k2 k3:Ab) (newId:String):Obj:=excClassObj nm nm C N bs bm true [] [] false none none (some k0) none (some k2) (some k3) (some (.bool true)) newId
noncomputable abbrev gU:List Ab:=[.type "Exception",.type "BaseException",.type "object"]
theorem xV (Γ:Bj):Γ.K.lookup 100=some (vH "_UseLegacyRO" 100 99 [.type "Exception"] gU (.ref 91) (.str "_UseLegacyRO" 294) (.str "_UseLegacyRO" 302) "Exception.__new__"):=by kernel_rfl
theorem kW (Γ:Bj):nsOkIn Γ.K 99=true/\nsIn Γ.K 99 "__init__" =some none:=⟨by kernel_rfl,by kernel_rfl⟩
section
variable {prog:Jf} {w:Oa} {A:Aw} {E:Ab->Ba->Prop} {h:Heap} {g:Array Ju} {d:Drawn} {t:Nat} {os:OsState} {env:Env}
variable {nm:Str} {C N:Ak} {bs bm bmB:List Ab} {k0 k2 k3:Ab} {B newId initId:String}
theorem Yp {dep:Int} {tk:Tok} {Q:Fin->Ba->Prop} (hC:h.get? C=some (vH nm C N bs bm k0 k2 k3 newId))
  (hq:Q (.done (.ret (.bool true))) ⟨h,g,d,t,os⟩):Cp (Cd prog w) A (Builtin.«issubclass.nested» ⟨[.ref C,.ref C,.int dep tk],[]⟩) Q E ⟨h,g,d,t,os⟩:=by
 have hcC:(Bt C::bm).contains (.ref C)=true:=by simp
 have hT:(⟨h,g,d,t,os⟩:Ba).TypeIs (.ref C) "type" :=⟨_,hC,rfl⟩
 repeat (any_goals (first|assumption|with_reducible refine Hy hC ?_|(with_reducible refine Oc hC ?_;rw [hcC])|wp_step))
noncomputable abbrev Tw (h:Heap) (C:Ak) (rest:List Ab):Heap:=(h.push {cls:=.type "tuple",data:=.seq rest.toArray}).push {cls:=.ref C,data:=.fields #[.ref h.objs.size,.none,.none,.none,.bool false,.none]}
theorem iO {rest:List Ab}:(Tw h C rest).get? (h.objs.size+1)=some {cls:=.ref C,data:=.fields #[.ref h.objs.size,.none,.none,.none,.bool false,.none]}:=by heap_get
theorem Vq {rest:List Ab}:∀b o,h.get? b=some o->(Tw h C rest).get? b=some o:=λb o e=>Al _ (Al _ e)
theorem cZ (F:ExcBaseFacts B newId initId bmB) (T:OwnTail h bmB bm) {rest:List Ab} {Q:Gb->Ba->Prop}
  (hC:h.get? C=some (vH nm C N bs bm k0 k2 k3 newId)) (hrest:rest.length<=Gg)
  (hI:Cp (Cd prog w) A (typeLookup (.ref C) "__init__") (λa s'=>∃f,a=some f/\Cp (Cd prog w) A (bindSpecial f (.ref (h.objs.size+1))) (λx s₂=>Cp (Cd prog w) A (call x.1 (x.2++rest) []) (λr s₃=>r=.none/\Q (.done (.ret (.ref (h.objs.size+1)))) s₃) E s₂) E s') E ⟨Tw h C rest,g,d,t,os⟩):
  Cp (Cd prog w) A (Builtin.«type.__call__» ⟨.ref C::rest,[]⟩) Q E ⟨h,g,d,t,os⟩:=by
 repeat (first|with_reducible refine Hy hC ?_|with_reducible refine wpAny_madeBy_exc hC ?_|wp_step)
 refine codeAny_call_builtin_code (Code.quiet_builtin _ F.quiet) (wpAny_check_new_subT F T hC ?_)
 refine codeAny_exc_new_subT F T hC ?_ hrest
 show Cp _ _ _ _ _ _
 have hget:((h.push {cls:=.type "tuple",data:=.seq rest.toArray}).push
   {cls:=.ref C,data:=.fields #[.ref h.objs.size,.none,.none,.none,.bool false,.none]}).get? (h.objs.size+1)=some
   {cls:=.ref C,data:=.fields #[.ref h.objs.size,.none,.none,.none,.bool false,.none]}:=by heap_get
 have hC₁:=Al {cls:=.ref C,data:=.fields #[.ref h.objs.size,.none,.none,.none,.bool false,.none]}
  (Al {cls:=.type "tuple",data:=.seq rest.toArray} hC)
 have hcC:(Bt C::bm).contains (.ref C)=true:=by simp
 unfold isInstance
 repeat (first|with_reducible refine Hy hget ?_|(with_reducible refine Oc hC₁ ?_;rw [hcC])|wp_step)
 refine Dy hI (λa s' zz=>?_) λ_ _ x=>x
 obtain⟨f,e,h⟩:=zz
 subst e
 refine Dz (Ad (Dy h (λx s₂ h₂=>?_) λ_ _ x=>x))
 obtain⟨g',first⟩:=x
 refine Ad (Dy h₂ (λr s₃ zz=>?_) λ_ _ x=>x)
 obtain⟨e,h₃⟩:=zz
 subst e
 refine Au ?_
 show Cp _ _ (if(Dm != Dm)=true then _ else _) _ _ _
 rw [if_neg (by decide)]
 exact Au h₃
theorem Zc (F:ExcBaseFacts B newId initId bmB) (T:OwnTail h bmB bm) {rest:List Ab} {Q:Ab->Ba->Prop}
  (hC:h.get? C=some (vH nm C N bs bm k0 k2 k3 newId)) (hrest:rest.length<=Gg)
  (hI:Cp (Cd prog w) (A.under (.builtin "type.__call__" ⟨.ref C::rest,[]⟩)) (typeLookup (.ref C) "__init__") (λa s'=>∃f,a=some f/\Cp (Cd prog w) (A.under (.builtin "type.__call__" ⟨.ref C::rest,[]⟩)) (bindSpecial f (.ref (h.objs.size+1))) (λx s₂=>Cp (Cd prog w) (A.under (.builtin "type.__call__" ⟨.ref C::rest,[]⟩)) (call x.1 (x.2++rest) []) (λr s₃=>r=.none/\Q (.ref (h.objs.size+1)) s₃) (λ_ _=>False) s₂) (λ_ _=>False) s') (λ_ _=>False) ⟨Tw h C rest,g,d,t,os⟩):
  Cp (Cd prog w) A (call (.ref C) rest) Q E ⟨h,g,d,t,os⟩:=by
 have f1:=tc_lookup
 have f2:=tc_bind (.ref C)
 have hT:(⟨h,g,d,t,os⟩:Ba).TypeIs (.ref C) "type" :=⟨_,hC,rfl⟩
 refine Ng (codeAny_of_tree ?_)
 show Cp _ _ (callAny (.ref C) _) _ _ _
 repeat (any_goals (first|assumption|with_reducible refine Hy hC ?_|wp_step))
 refine⟨rfl,?_⟩
 refine codeAny_call_builtin_at (Code.quiet_builtin _ (by decide+kernel)) entry_typeCall (wpAny_check_type_call_sub hC (cZ (E:=λe s'=>E e s') F T hC hrest ?_))
 refine Dy hI (λa s' ⟨f,e,h⟩=>⟨f,e,Dy h (λx s₂ h₂=>Dy h₂ (λr s₃ h₃=>h₃) λ_ _ x=>x.elim) λ_ _ x=>x.elim⟩) λ_ _ x=>x.elim
theorem cN {Q:Bool->Ba->Prop} (hbase:bm.contains (.type "BaseException")=true) (hC:h.get? C=some (vH nm C N bs bm k0 k2 k3 newId)) (hq:Q true ⟨h,g,d,t,os⟩):Cp (Cd prog w) A (isExcClass (.ref C)) Q E ⟨h,g,d,t,os⟩:=by
 have hcB:(Bt C::bm).contains (.type "BaseException")=true:=by rw [Pg,hbase,Bool.or_true]
 unfold isExcClass
 repeat (any_goals (first|assumption|with_reducible refine Hy hC ?_|(with_reducible refine Oc hC ?_;rw [hcB])|wp_step))
theorem mK {e:Ak} {oe:Obj} {Q:Bool->Ba->Prop} (hbase:bm.contains (.type "BaseException")=true) (hC:h.get? C=some (vH nm C N bs bm k0 k2 k3 newId)) (he:h.get? e=some oe) (hcls:oe.cls=.ref C) (hq:Q true ⟨h,g,d,t,os⟩):
  Cp (Cd prog w) A (isInstance (.ref e) (.type "BaseException")) Q E ⟨h,g,d,t,os⟩:=by
 have hcB:(Bt C::bm).contains (.type "BaseException")=true:=by rw [Pg,hbase,Bool.or_true]
 unfold isInstance
 repeat (any_goals (first|assumption|(with_reducible refine Hy he ?_;rw [hcls])|with_reducible refine Hy hC ?_|(with_reducible refine Oc hC ?_;rw [hcB])|wp_step))
theorem mJ {Q:Bool->Ba->Prop} (hC:h.get? C=some (vH nm C N bs bm k0 k2 k3 newId)) (hq:Q true ⟨h,g,d,t,os⟩):Cp (Cd prog w) A (isType (.ref C)) Q E ⟨h,g,d,t,os⟩:=by
 unfold isType
 repeat (any_goals (first|assumption|with_reducible refine Hy hC ?_|wp_step))
theorem cO {Q:Ab->Ba->Prop} (hC:h.get? C=some (vH nm C N bs bm k0 k2 k3 newId)) (hq:Q (.bool true) ⟨h,g,d,t,os⟩):Cp (Cd prog w) A (call (.builtin "issubclass") [.ref C,.ref C]) Q E ⟨h,g,d,t,os⟩:=
 call_issubclass (S:=λ_ R s=>(s.heap.get? C=some (vH nm C N bs bm k0 k2 k3 newId))/\R (.ok (.ret (.bool true))) s) (λ_ _ _ _ s hs=>issubclass_outer (by
  obtain⟨h',g',d',t',os'⟩:=s
  exact Yp hs.1 hs.2)) ⟨hC,hq⟩
end
section
variable {Γ:Bj} {A:Aw} {E:Ab->Ba->Prop} {σ:Ay} {s:Ba} {env:Env}
theorem xF {W τ:List As} {np pos:Pos} {Q:Fv->Ba->Prop} (hh:A.handled=none) (R:Ea Γ ⟨W,τ⟩ s) (hE:∀e t s',Ea Γ ⟨W,(.obj e,.raw (Lg t .none))::τ⟩ s'->E (.ref e) s')
  (hk:env.scope.kind=.function) (hg:env.globals=Gx) (hx:env.kindOf "_UseLegacyRO" =some .globalImplicit):Cp (Cd Γ.prog Γ.w) A (Mx (.Raise (some (.Name "_UseLegacyRO" np)) none pos) env) Q E s:=by
 show Cp (Cd Γ.prog Γ.w) A (do Mr pos;raiseStmt env (some (do let v<-Dr (.Name "_UseLegacyRO" np) env;Mr pos;pure v)) none) Q E s
 refine Ad (Eo ?_)
 unfold raiseStmt
 dsimp only
 refine Ad (Ad (Nu (Dy (Bk (Γ:=Γ) (A:=A) (σ:=⟨W,τ⟩) (v:=.ref 100) (Q:=λv σ=>v=.ref 100/\σ=⟨W,τ⟩) (by kernel_rfl) ⟨rfl,rfl⟩ hg hk hx (by decide) s R) (λv s₁ ⟨σ₁,R₁,e₁,e₂⟩=>Ad (Eo (Au ?_))) λ_ _ x=>x)))
 have:=Cc e₁
 subst this
 subst e₂
 have hC:=R₁.kin _ _ (xV Γ)
 have hN:s₁.heap.Ns 99 _:=.of_isNs (isNs_of_in R₁.kin (kW Γ).1)
 have hni:=nsMap_none_of_in R₁.kin (kW Γ).1 (kW Γ).2
 have TL:OwnTail s₁.heap gU gU:=.base
 have hbase:gU.contains (.type "BaseException")=true:=by decide+kernel
 have R₁':=R₁
 obtain⟨hp,g,d,tk,os⟩:=s₁
 refine Ad (Au ?_)
 dsimp only
 refine Ad (Dz ?_)
 unfold excFromValue
 refine Ad (cN hbase hC ?_)
 rw [if_pos rfl]
 have hC₁:(Tw hp 100 []).get? 100=_:=Vq _ _ hC
 have hn₁:=hN.keeps (Vq (h:=hp) (C:=100) (rest:=[]))
 have T₁:=TL.keeps (Vq (h:=hp) (C:=100) (rest:=[]))
 refine Ad (Zc Go TL hC (by decide) ?_)
 refine wpAny_typeLookup_tail hC₁ hn₁ T₁ Go.mroIs Go.init.lookup ?_
 rw [hni]
 refine⟨_,rfl,Im (Go.init.bind _) ?_⟩
 refine Ng (Kt Go.init.plain Go.initEntry (wpAny_check_init_subT Go T₁ hC₁ iO rfl ?_))
 wp_walk
 refine⟨rfl,?_⟩
 have R2:=R₁'.push (c:=.raw {cls:=.type "tuple",data:=.seq #[]}) (s':=⟨hp.push {cls:=.type "tuple",data:=.seq #[]},g,d,tk,os⟩) (λ_ _ e=>Al _ e) rfl rfl (Bg _ rfl)
 have R3:=R2.push (c:=.raw (Lg hp.objs.size .none)) (s':=⟨Tw hp 100 [],g,d,tk,os⟩) (λ_ _ e=>Al _ e) rfl rfl (Bg _ rfl)
 rw [show({heap:=hp,gens:=g,drawn:=d,toks:=tk,os:=os}:Ba).heap.objs.size=hp.objs.size from rfl]at *
 have R4:=R3.push (c:=.raw {cls:=.type "tuple",data:=.seq #[]}) (s':=⟨(Tw hp 100 []).push {cls:=.type "tuple",data:=.seq #[]},g,d,tk,os⟩) (λ_ _ e=>Al _ e) rfl rfl (Bg _ rfl)
 have ge:((Tw hp 100 []).push {cls:=.type "tuple",data:=.seq #[]}).get? (hp.objs.size+1)=some (Lg hp.objs.size .none):=Al _ iO
 have he:(((Tw hp 100 []).push {cls:=.type "tuple",data:=.seq #[]}).update (hp.objs.size+1) (Jn λx=>x.setIfInBounds 0 (.ref (Tw hp 100 []).objs.size))).get? (hp.objs.size+1)=some (Lg (Tw hp 100 []).objs.size .none):=Dv _ ge rfl
 have e1:(hp.push {cls:=Gw "tuple",data:=Pz ([]:List Ab).toArray}).objs.size=hp.objs.size+1:=Iq ..
 have R5:Ea Γ ⟨W,(.obj (hp.objs.size+1),.raw (Lg (Tw hp 100 []).objs.size .none))::τ⟩ ⟨((Tw hp 100 []).push {cls:=.type "tuple",data:=.seq #[]}).update (hp.objs.size+1) (Jn λx=>x.setIfInBounds 0 (.ref (Tw hp 100 []).objs.size)),g,d,tk,os⟩:=by
  rw [show((hp.push {cls:=Gw "tuple",data:=Pz ([]:List Ab).toArray}).objs.size)=hp.objs.size+1 from e1]at R4
  refine As.le_sub (τ:=_) ?_ _ _ (Ea.changeS (a:=hp.objs.size+1) (c':=.raw (Lg (Tw hp 100 []).objs.size .none)) R4 (.tau (.there .here)) rfl (Dg ..).extBut rfl rfl he)
  exact .cons _ (.cons_cons _ (.cons _ (.refl _)))
 have hC₂:(((Tw hp 100 []).push {cls:=.type "tuple",data:=.seq #[]}).update (hp.objs.size+1) (Jn λx=>x.setIfInBounds 0 (.ref (Tw hp 100 []).objs.size))).get? 100=_:=
  (Heap.get?_update_other _ _ (Nat.ne_of_gt (Nat.lt_succ_of_lt (Ds hC)))).trans (Al _ hC₁)
 refine Ad (mK hbase hC₂ he rfl ?_)
 rw [if_neg (by decide)]
 refine Au ?_
 refine Ad (mJ hC₂ ?_)
 rw [if_pos rfl]
 refine Ad (Dz ?_)
 unfold raisedFor
 rw [if_neg (by decide)]
 refine Ad (Ad (Nl he (Au (Ad (cO hC₂ (Ad (wpAny_truthy_bool ?_)))))))
 dsimp only
 rw [if_pos rfl]
 refine Au ?_
 unfold setFlight raiseNew
 refine Ad (Ad (Gl (i:=1) (x:=Dm) he rfl rfl ?_))
 rw [if_neg (by decide)]
 refine Au (Ad (wpAny_handled ?_))
 rw [hh]
 exact Ad (Au (wpAny_throw (hE _ _ _ R5)))
end
end
section
open PySem.Builtin PySem.Builtin.ObjectAttr
open PySem.W (InstAt)
noncomputable def sR:List Ab:=[.ref 59,.type "TypeError",.type "Exception",.type "BaseException",.type "object"]
theorem lJ (self:Ab):refuseLoop self "__setattr__" sR=pure ():=by
 show refuseLoop self "__setattr__" (.ref 59::_)=_
 rw [refuseLoop_ref]
 kernel_rfl
theorem fP (Γ:Bj):(clsIn Γ.K 59).any (λcd=>cd.mro==sR&&cd.hasDict)=true:=by kernel_rfl
theorem oG (Γ:Bj):findIn Γ.K (.ref 59) "__setattr__" =some (some (.builtin "object.__setattr__")):=by kernel_rfl
section
variable {Γ:Bj} {A:Aw} {σ σ':Ay} {s:Ba}
theorem nZ {ox:Obj} {od:Option Obj} {x:Ak} {name:Str} {tk:Tok} {v:Ab} {R:Kw->Ba->Prop} (X:Γ.K.In s.heap) (I:InstAt s.heap x ox 59 od) (ht:takerIn Γ.K 59 name=some none)
  (h:∀b,Cp (Cd Γ.prog Γ.w) A.in1 (storeInOwnDict (.ref x) (.ref 59) (.str name tk) name v b)
   (λfin s'=>match fin with|.done f=>R (.ok f) s'|.again c'=>c'.quiet=true/\Jz (Cd Γ.prog Γ.w) A c' R s') (λe s'=>R (.error e) s') s):
  Jz (Cd Γ.prog Γ.w) A (.call (.builtin "object.__setattr__") ⟨[.ref x,.str name tk,v],[]⟩) R s:=by
 have SF:=PySem.F.store_object
 obtain⟨cd,hc,ho⟩:=any_some (fP Γ)
 simp only [Cy,beq_iff_eq]at ho
 have sub:Looks (Cd Γ.prog Γ.w) s.heap (isInstance (.ref x) (.type "object")) true:=I.type.andThen (looks_mroIn X (by unfold mroIn;rw [hc,Lw,ho.1];rfl))
 refine Kt SF.slot.plain SF.entry (@check_slot (Cd Γ.prog Γ.w) _ _ s "object.__setattr__" "object" "__setattr__" (.ref x) [.str name tk,v] [] _ SF.kind SF.split sub (SF.args (.ref x) (.str name tk) v) ?_)
 obtain⟨attr,ha,hr⟩:=Option.bind_eq_some_iff.mp ht
 have hm:Looks (Cd Γ.prog Γ.w) s.heap (mroOf (.ref 59)) cd.mro:=(looks_clsIn X hc).andThen .now
 have L3:Looks (Cd Γ.prog Γ.w) s.heap (storeTaker? attr) none:=by
  cases attr with
  |none=>exact .now
  |some a=>
   obtain⟨b,hb,e⟩:=Cw.mp hr
   refine(looks_takesIn X hb).andThen ?_
   cases b
   ·exact .now
   ·cases e
 rw [osa_eq,refuse_eq]
 refine Ad (Ad (I.type.here (Ad (hm.here ?_))))
 rw [ho.1,lJ]
 refine Au (Ad (I.type.here (Ad ((looks_findIn X ha).here (Ad (L3.here ?_))))))
 exact h _
theorem hO {d:Ak} {name:Str} {u v:Ab} {tk:Tok} {m m':List (Str×Option Ab)} {Q:Gb->Ba->Prop} {E:Ab->Ba->Prop} (R:Ea Γ σ s) (hu:cl u=v)
  (U:Iy σ (.obj d) (.ns m) (.ns m') σ') (hm:Of name v m m') (hz:m.length<=1000) (h:∀s',Ea Γ σ' s'->Q (.done (.ret .none)) s'):Cp (Cd Γ.prog Γ.w) A (storeInDict d (.str name tk) name u) Q E s:=by
 obtain⟨es,n,e,N⟩:=(R.ents _ U.mem).1
 refine Ad (Au (Ad ?_))
 unfold nsSet
 refine Ad (Ad (Ny (Au (Ad (wpAny_mkText (Ad (Nl e ?_)))))))
 dsimp only
 have c:(!es.toArray.any (·.key.isStr name)&&es.toArray.any (·.refKey))=false:=by
  rw [<-Nz,<-Nz]
  show(!es.any _&&es.any _)=false
  rw [N.keyed,Bool.and_false]
 rw [aRefKeyMayBeTheName_at,c]
 have N':=N.put hu hm (Ip Γ.w.params name) s.toks
 have hf:=putName_dict name (Ip Γ.w.params name) (.str name s.toks) u es n
 have D':(s.heap.update d (Obj.putName name (Ip Γ.w.params name) (.str name s.toks) u)).get? d=some (dictOf (putL name (Ip Γ.w.params name) (.str name s.toks) u es) (putN name es n)):=by
  rw [<-hf]
  exact Dv _ e (by rw [hf];rfl)
 refine wpAny_updatePart e ?_
 refine Ad (wpAny_lookBehind D' (pastItsLine_dict (by
  rw [Qi,Av]
  have h1:=N'.size
  have h2:(m'.filter λp=>p.2.isSome).length<=m'.length:=Bu _ _
  have h3:m'.length=m.length:=by obtain⟨l₁,l₂,_,rfl,rfl⟩:=hm.split;simp
  lia)) ?_)
 exact Au (h _ (Ea.changeS (s':={s with heap:=s.heap.update d _,toks:=s.toks+1}) R U rfl (Dg ..).extBut rfl rfl ⟨_,_,D',N'⟩))
noncomputable abbrev Vw (vs:Array Ab) (dd:Option Ak):Obj:={cls:=.ref 59,dict:=dd,data:=.fields vs}
theorem mY {W τ:List As} {x:Ak} {vs:Array Ab} {name:Str} {ov u v:Ab} {m m':List (Str×Option Ab)} {Q:Unit->Ay->Prop} (ho:cl ov=.ref x) (hu:cl u=v) (hn:(m.map (·.1)).Nodup) (hv:∀p∈m,p.2=none) (hm:Of name v m m') (hz:m.length<=1000)
  (ht:takerIn Γ.K 59 name=some none) (h:∀d,Q () ⟨W,(.obj d,.ns m')::(.obj x,.raw (Vw vs (some d)))::τ⟩):T Γ A ⟨W,(.obj x,.raw (Vw vs none))::τ⟩ (setAttr ov name u) Q:=λs R=>by
 have:=Cc ho
 subst this
 have hx:s.heap.get? x=some (Vw vs none):=(R.ents _ Bs).1
 have I:InstAt s.heap x (Vw vs none) 59 none:=⟨hx,rfl,rfl,trivial⟩
 refine set_plain R.kin I (oG Γ) ?_
 have R1:=R.toks (s.toks+1)
 refine nZ (s:={s with toks:=s.toks+1}) R.kin I ht λb=>?_
 obtain⟨cd,hc,hd'⟩:=any_some (fP Γ)
 simp only [Cy,beq_iff_eq]at hd'
 refine Ad (Au (Ad ?_))
 refine Ad (Nl hx (Ad ((looks_clsIn R1.kin hc).here ?_)))
 rw [hd'.2]
 rw [if_neg (by decide)]
 show Cp _ _ (if(!true||!typeHasDict (Bt 59))=true then _ else _) _ _ _
 rw [if_neg (by decide)]
 show Cp _ _ (alloc {cls:=.type "dict",data:=.dict #[]}>>=λd=>update x (λo=>{o with dict:=some d})>>=λ_=>dictMade (.ref 59) x d) _ _ _
 have R2:Ea Γ ⟨W,(.obj s.heap.objs.size,.ns m)::(.obj x,.raw (Vw vs none))::τ⟩ {s with heap:=s.heap.push Pn,toks:=s.toks+1}:=
  R1.push (s':={s with heap:=s.heap.push Pn,toks:=s.toks+1}) (λ_ _ e=>Al _ e) rfl rfl ⟨[],0,Bg _ rfl,⟨λ_ he=>(by cases he),hn,Ca _,λp hp=>by rw [hv p hp];rfl,λ_ _=>rfl⟩⟩
 have hx₂:(s.heap.push Pn).get? x=some (Vw vs none):=Al _ hx
 refine Ad (wpAny_alloc (Ad (wpAny_update hx₂ (Au ?_))))
 have R3:Ea Γ ⟨W,(.obj s.heap.objs.size,.ns m)::(.obj x,.raw (Vw vs (some s.heap.objs.size)))::τ⟩ {s with heap:=(s.heap.push Pn).update x λo=>{o with dict:=some s.heap.objs.size},toks:=s.toks+1}:=
  Ea.changeS (s':={s with heap:=(s.heap.push Pn).update x λo=>{o with dict:=some s.heap.objs.size},toks:=s.toks+1}) R2 (.tau (.there .here)) rfl (Dg ..).extBut rfl rfl (Dv _ hx₂ rfl)
 exact hO R3 hu (.tau .here) hm hz λs' R'=>⟨_,R',h _⟩
theorem mX {x d:Ak} {vs:Array Ab} {name:Str} {ov u v:Ab} {m m':List (Str×Option Ab)} {Q:Unit->Ay->Prop} (ho:cl ov=.ref x) (hu:cl u=v) (hx:(.obj x,.raw (Vw vs (some d)))∈σ.all) (U:Iy σ (.obj d) (.ns m) (.ns m') σ') (hm:Of name v m m') (hz:m.length<=1000)
  (ht:takerIn Γ.K 59 name=some none) (h:Q () σ'):T Γ A σ (setAttr ov name u) Q:=λs R=>by
 have:=Cc ho
 subst this
 have hx:s.heap.get? x=some (Vw vs (some d)):=(R.ents _ hx).1
 obtain⟨es,n,e,N⟩:=(R.ents _ U.mem).1
 have I:InstAt s.heap x (Vw vs (some d)) 59 (some (dictOf es n)):=⟨hx,rfl,rfl,e⟩
 refine set_plain R.kin I (oG Γ) ?_
 have R1:=R.toks (s.toks+1)
 refine nZ (s:={s with toks:=s.toks+1}) R.kin I ht λb=>?_
 obtain⟨cd,hc,hd'⟩:=any_some (fP Γ)
 simp only [Cy,beq_iff_eq]at hd'
 refine Ad (Au (Ad ?_))
 refine Ad (Nl hx (Ad ((looks_clsIn R1.kin hc).here ?_)))
 rw [hd'.2]
 rw [if_neg (by decide)]
 refine Au (a:=some d) ?_
 exact hO R1 hu U hm hz λs' R'=>⟨_,R',h⟩
end
end
section
theorem wQ (Γ:Bj):Γ.K.lookup 59=some (vH "InconsistentResolutionOrderError" 59 58 [.type "TypeError"] [.type "TypeError",.type "Exception",.type "BaseException",.type "object"] (.ref 43) (.str "InconsistentResolutionOrderError" 224) (.str "InconsistentResolutionOrderError" 232) "TypeError.__new__"):=by kernel_rfl
theorem tY (Γ:Bj):(findIn Γ.K (.ref 59) "__init__" ==some (some (.ref 56))&&isFn Γ.K (.ref 56))=true:=by kernel_rfl
theorem tZ (Γ:Bj):Γ.K.lookup 56=some ⟨.type "function",none,.func (Ka Γ 56 "InconsistentResolutionOrderError.__init__" (clsStmt 5 0) (.ref 55) .none),#[]⟩:=by kernel_rfl
section
variable {Γ:Bj} {A:Aw} {σ:Ay}
theorem Ace (a b c x:As) (τ:List As):(a::b::c::x::τ).Perm (x::a::b::c::τ):=Ff (l₁:=[a,b,c])
theorem uZ {W τ:List As} {rx rd:Ak} {rs:Rs} {lf tr:Ab} {Q:Ab->Ay->Prop} (hA:Rm A 2) (hx:(.obj rx,.inst 204 rd)∈(⟨W,τ⟩:Ay).all) (hd:(.obj rd,.ns rs.ns)∈(⟨W,τ⟩:Ay).all) (hl:rs.leaf=some lf) (hlf:Ln lf=true)
  (h:∀e,Q (.ref e) ⟨W,τ⟩):∀ws,ws.map cl=[.ref rx,tr]->T Γ A ⟨W,τ⟩ (call (.ref 59) ws) Q:=λws hw s R=>by
 have hlen:ws.length=2:=by have:=congrArg Ia hw;simpa using this
 have hC:=R.kin _ _ (wQ Γ)
 have hi:=tY Γ
 simp only [Cy,beq_iff_eq]at hi
 have R':=R
 obtain⟨hp,g,d,tk,os⟩:=s
 have R1:Ea Γ ⟨W,τ⟩ ⟨hp.push {cls:=.type "tuple",data:=.seq ws.toArray},g,d,tk,os⟩:=R.grow (s':=⟨hp.push {cls:=.type "tuple",data:=.seq ws.toArray},g,d,tk,os⟩) (λ_ _ e=>Al _ e) rfl rfl
 have R2:=R1.push (c:=.raw (Vw #[.ref hp.objs.size,.none,.none,.none,.bool false,.none] none)) (s':=⟨Tw hp 59 ws,g,d,tk,os⟩) (λ_ _ e=>Al _ e) rfl rfl (Bg _ rfl)
 have e1:(hp.push {cls:=Gw "tuple",data:=Pz ws.toArray}).objs.size=hp.objs.size+1:=Iq ..
 rw [show({heap:=hp.push {cls:=Gw "tuple",data:=Pz ws.toArray},gens:=g,drawn:=d,toks:=tk,os:=os}:Ba).heap.objs.size=hp.objs.size+1 from e1]at R2
 refine Zc PySem.F.excBase_TypeError .base hC (by rw [hlen,Av];decide) ?_
 have hA':Rm (A.under (.builtin "type.__call__" ⟨.ref 59::ws,[]⟩)) 1:=hA.make
 refine(looks_findIn R2.kin hi.1).here ⟨_,rfl,(bind_fn R2.kin _ (beq_iff_eq.mp hi.2)).here ?_⟩
 have main:TC Γ (A.under (.builtin "type.__call__" ⟨.ref 59::ws,[]⟩)) ⟨W,(.obj (hp.objs.size+1),.raw (Vw #[.ref hp.objs.size,.none,.none,.none,.bool false,.none] none))::τ⟩ (.ref 56) ([.ref (hp.objs.size+1)]++ws) [] λv σ'=>v=.none/\Q (.ref (hp.objs.size+1)) σ':=by
  generalize hp.objs.size+1=x
  generalize #[Bt hp.objs.size,.none,.none,.none,.bool false,.none]=vs
  refine Oy (body:=fBody (clsStmt 5 0)) (bs:=[("self",.ref x),("c3",.ref rx),("base_tree_remaining",tr)]) ["self","c3","base_tree_remaining"] (tZ Γ) (by kernel_rfl) hA'.room (Gu.plain3 λ_ _ _ _=>Cg (by rfl)) (λL=>?_) (by rfl) (by rfl) (by decide) (by rfl) (by rfl) (by rfl) _ [] (by simp [hw]) rfl
  show T Γ _ ⟨W,(.var L "self",.val (some (.ref x)))::(.var L "c3",.val (some (.ref rx)))::(.var L "base_tree_remaining",.val (some tr))::(.obj x,.raw (Vw vs none))::τ⟩ _ _
  refine Am (Dj (Iz (Ac (v:=.ref rx) (by walk_at "mem") λo ho=>Qp (v:=lf) ho (by walk_at "memo") (by walk_at "memo") (by kernel_rfl) (by rw [<-hl];exact .head _) (Ac (v:=.ref x) (by walk_at "mem") λv ov hv ho=>?_) hlf)))
  refine T.conseq (As.le_perm (σ':=⟨W,(.obj x,.raw (Vw vs none))::(.var L "self",.val (some (.ref x)))::(.var L "c3",.val (some (.ref rx)))::(.var L "base_tree_remaining",.val (some tr))::τ⟩) (Bb W (Ace _ _ _ _ _))) ?_
  refine mY (m:=[("C",none),("base_tree_remaining",none)]) (m':=[("C",some lf),("base_tree_remaining",none)]) ho hv (by decide) (by decide) .here (by decide) (by kernel_rfl) λd=>?_
  refine Am (Dj (Ac (v:=tr) (by walk_at "mem") (Ac (v:=.ref x) (by walk_at "mem") λv ov hv ho=>mX (m:=[("C",some lf),("base_tree_remaining",none)]) (m':=[("C",some lf),("base_tree_remaining",some tr)]) ho hv (by walk_at "mem") (.tau .here) (.there .here) (by simp) (by kernel_rfl) ?_)))
  exact Ci ⟨_,As.le_sub (.cons _ (.cons _ (.cons _ (.cons _ (.cons _ (.refl _)))))),rfl,h x⟩
 refine Dy (main.T _ R2) (λr s' ⟨σ',R',e,q⟩=>⟨Tj e,σ',R',q⟩) λ_ _ x=>x
end
end
section
inductive yP (Γ:Bj) (E:Ak->Ay->Prop) (e:Ab) (s:Ba):Prop
 |mk (a:Ak) (σ':Ay) (e:e=.ref a) (R:Ea Γ σ' s) (q:E a σ')
noncomputable def TX (Γ:Bj) (A:Aw) (σ:Ay) {α:Type} [Xm α] (t:Sem α) (Q:α->Ay->Prop) (E:Ak->Ay->Prop):Prop:=
 ∀s,Ea Γ σ s->Cp (Cd Γ.prog Γ.w) A t (λv s'=>fB Γ Q (cln v) s') (λe s'=>yP Γ E e s') s
noncomputable def vG (Γ:Bj) (Q:Ab->Ay->Prop) (E:Ak->Ay->Prop) (r:Kw) (s':Ba):Prop:=match r with
 |.ok (.ret v)=>fB Γ Q (cl v) s'
 |.ok _=>False
 |.error e=>yP Γ E e s'
noncomputable def TCX (Γ:Bj) (A:Aw) (σ:Ay) (f:Ab) (ws:List Ab) (kws:List (Str×Ab)) (Q:Ab->Ay->Prop) (E:Ak->Ay->Prop):Prop:=
 ∀s,Ea Γ σ s->Jz (Cd Γ.prog Γ.w) A (.call f ⟨ws,kws⟩) (vG Γ Q E) s
section
variable {Γ:Bj} {A:Aw} {σ σ':Ay} {s s':Ba} {env:Env}
theorem TX.run {α:Type} [Xm α] {t:Sem α} {P:α->Ay->Prop} {E:Ak->Ay->Prop} {K:α->Ba->Prop} {F:Ab->Ba->Prop} (h:TX Γ A σ t P E) (R:Ea Γ σ s) (k:∀v s' σ',Ea Γ σ' s'->P (cln v) σ'->K v s') (kx:∀a s' σ',Ea Γ σ' s'->E a σ'->F (.ref a) s'):Cp (Cd Γ.prog Γ.w) A t K F s:=
 Dy (h s R) (λv s' o=>o.casesOn λσ' R' p=>k v s' σ' R' p) λe s' o=>o.casesOn λa σ' e R' q=>e▸kx a s' σ' R' q
theorem TX.exc {α:Type} [Xm α] {t:Sem α} {P:α->Ay->Prop} {E E':Ak->Ay->Prop} (h:TX Γ A σ t P E) (k:∀a s' σ',Ea Γ σ' s'->E a σ'->yP Γ E' (.ref a) s'):TX Γ A σ t P E':=λ_ R=>h.run R (λ_ _ σ' R' p=>⟨σ',R',p⟩) k
theorem TCX.X {f:Ab} {ws:List Ab} {kws:List (Str×Ab)} {Q:Ab->Ay->Prop} {E:Ak->Ay->Prop} (h:TCX Γ A σ f ws kws Q E):TX Γ A σ (call f ws kws) Q E:=λs R=>
 Ng (Jg (h s R) λr s' z=>by rcases r with e|(v|_|_|_)<;>first|exact z|exact z.elim)
theorem T.X {α:Type} [Xm α] {t:Sem α} {Q:α->Ay->Prop} {E:Ak->Ay->Prop} (h:T Γ A σ t Q):TX Γ A σ t Q E:=λs R=>Nu (h s R)
theorem Tk {st:Jr} {rest:List Jr} {Q:Fv->Ay->Prop} {E:Ak->Ay->Prop} (h:TX Γ A σ (Mx st env) (λf σ'=>(f=.next->TX Γ A σ' (Cm rest env) Q E)/\(f≠.next->Q f σ')) E):TX Γ A σ (Cm (st::rest) env) Q E:=λs R=>
 wpAny_execs_cons (h.run R (λf s' σ' R' q=>by cases f<;>first|exact q.1 rfl s' R'|exact⟨σ',R',q.2 (by intro h;cases h)⟩) λa _ σ' R' q=>⟨a,σ',rfl,R',q⟩)
theorem Aaa {Q:Fv->Ay->Prop} {E:Ak->Ay->Prop} (h:Q .next σ):TX Γ A σ (Cm [] env) Q E:=(Ci h).X
theorem rM {e:Aq} {pos:Pos} {Q:Fv->Ay->Prop} {E:Ak->Ay->Prop} (h:TX Γ A σ (Dr e env) (λc=>Q (.ret c)) E):TX Γ A σ (Mx (.Return (some e) pos) env) Q E:=λs R=>
 wpAny_Return_some (h.run R (λ_ _ σ' R' q=>⟨σ',R',q⟩) λa _ σ' R' q=>⟨a,σ',rfl,R',q⟩)
theorem vF {W τ:List As} {np pos:Pos} {Q:Fv->Ay->Prop} {E:Ak->Ay->Prop} (hh:A.handled=none) (h:∀e t,E e ⟨W,(.obj e,.raw (Lg t .none))::τ⟩)
  (hk:autoParam (env.scope.kind=.function) aR) (hg:autoParam (env.globals=Gx) aR) (hx:autoParam (env.kindOf "_UseLegacyRO" =some .globalImplicit) aR):TX Γ A ⟨W,τ⟩ (Mx (.Raise (some (.Name "_UseLegacyRO" np)) none pos) env) Q E:=λ_ R=>
 xF hh R (λe t _ R'=>⟨e,_,rfl,R',h e t⟩) hk hg hx
theorem kA {f c:Ab} {first cf:List Ab} {pos:Pos} {args:List (Bool×Sem Ab)} {Q:Ab->Ay->Prop} {E:Ak->Ay->Prop} (hc:Qn Γ c) (hf:cl f=c) (hfirst:first.map cl=cf) (hp:args.any (·.1)=false)
  (h:T Γ A σ (Ms args) λvs σ₂=>∀ws,ws.map cl=cf++vs->TX Γ A σ₂ (call c ws) Q E):TX Γ A σ (callWith pos f first args []) Q E:=λs R=>by
 have e:=Yi hc hf
 subst e
 refine callWith_of (P:=λh=>Γ.K.In h) (by rw [hp];rfl) (λh X=>Qn.keeps (Γ:=Γ) (s:={heap:=h}) hc X) (Xa hp (Nu (h.elim R λvs s₂ σ₂ R₂ q=>⟨R₂.kin,?_⟩)))
 exact q (first++vs) (by rw [Bh,hfirst];rfl) s₂ R₂
theorem oP {o:Aq} {name:Str} {apos pos:Pos} {args:List Aq} {pl:Sem Bool} {Q:Ab->Ay->Prop} {E:Ak->Ay->Prop}
  (h:T Γ A σ (Dr o env) λco σ₁=>∀ov,cl ov=co->T Γ A σ₁ (Ie ov name pl) λfx σ₂=>Qn Γ fx.1/\T Γ A σ₂ (Ms (backTo pos (Mi args env))) λvs σ₃=>∀ws,ws.map cl=fx.2++vs->TX Γ A σ₃ (call fx.1 ws) Q E)
  (he:autoParam (Dr (.Call (.Attribute o name apos) args [] pos) env=(do
   let ov<-Dr o env
   Mr apos.atName
   let (f,first)<-holding [ov] (Ie ov name pl)
   callWith pos f first (backTo pos (Mi args env)) (backToKw pos (keywordEach [] env)))) aR)
  (hp:autoParam ((Mi args env).any (·.1)=false) aR):TX Γ A σ (Dr (.Call (.Attribute o name apos) args [] pos) env) Q E:=λs R=>
 methodCall_KW (pl:=pl) (kws:=[]) (Nu (h.elim R λov s₁ σ₁ R₁ q₁=>Nu (((q₁ ov rfl).elim R₁ λfx s₂ σ₂ R₂ q₂=>kA q₂.1 rfl rfl (Vs.trans hp) q₂.2 s₂ R₂)))) he
theorem Zr {x:Str} {pos' pos:Pos} {value:Aq} {Q:Fv->Ay->Prop} {E:Ak->Ay->Prop}
  (h:TX Γ A σ (Dr value env) (kM (.var env.locals x) .val Q) E)
  (hk:autoParam (env.scope.kind=.function) aR) (hl:autoParam (env.kindOf x=some .local) aR)
  (hs:autoParam (Lq value (some (.Name x pos')) pos.line env=pure false) aR):TX Γ A σ (Mx (.Assign [.Name x pos'] value pos) env) Q E:=λs R=>
 wpAny_Assign_Name (h.run R (λv s' σ₁ R₁ q=>q.casesOn λ_ _ U q=>(Qv (Q:=λ_=>Q .next) U q hk hl).elim R₁ λ_ _ σ' R' q=>⟨σ',R',q⟩) λa _ σ' R' q=>⟨a,σ',rfl,R',q⟩) hs
theorem yA {W τ:List As} {f:Ak} {oc:Ab} {od:Option Ak} {osl:Array (Option Ab)} {name qual:Str} {params:Arguments} {body:List Jr} {scope:La} {dV kV doc pm cdv ct:Ab} {an:Option Ak} {vs:List Ab} {kw bs:List (Str×Ab)} {Q:Ab->Ay->Prop} {E:Ak->Ay->Prop} (names:List Str)
  (ho:Γ.K.lookup f=some ⟨oc,od,.func (fnX name qual params body scope [] dV kV doc pm an cdv ct),osl⟩) (hcode:codeIn Γ.K cdv qual=true) (hd:A.depth < Gy) (hb:Gu Γ (fnX name qual params body scope [] dV kV doc pm an cdv ct) vs kw bs)
  (h:∀L,TX Γ (A.deeper (Gk qual scope L f cdv [])) ⟨W,Nt L names bs++τ⟩ (Cm body (Gk qual scope L f cdv [])) (Ja Q)
   λe σ'=>T Γ (A.deeper (Gk qual scope L f cdv [])) σ' (leaving (Gk qual scope L f cdv []) (.ref e)) λ_ σ''=>E e σ'')
  (hcell:autoParam ((scope.names.all λx=>x.2 != .cell)=true) aR) (hloc:autoParam ((bs.all λx=>scope.names.lookup x.1==some .local)=true) aR) (hn:autoParam (names.Nodup) aD)
  (hco:autoParam (scope.isCoroutine=false) aR) (hgen:autoParam (scope.isGenerator=false) aR) (hk:autoParam (scope.kind=.function) aR):
  ∀ws kws,ws.map cl=vs->kws.map (λp:Str×Ab=>(p.1,cl p.2))=kw->TCX Γ A ⟨W,τ⟩ (.ref f) ws kws Q E:=λws kws hw hkw s R=>by
 obtain⟨binds,eb,hbind⟩:=hb ws kws hw hkw
 refine(codeAny_call_def (fd:=fnX name qual params body scope [] dV kV doc pm an cdv ct) (body:=body) (binds:=binds) hd (R.kin _ _ ho) rfl R.lim.no (codeRec_of R.kin hcode) rfl (hbind s R.kin) (λx hx=>?_) (λx hx=>?_) (λh₀ hns hk₀=>?_) hco hgen hk)
 ·have:=Fu.mp hcell x hx
  simpa using this
 ·have hx':(x.1,cl x.2)∈bs:=eb▸Cv hx
  have:=Fu.mp hloc _ hx'
  simpa using this
 have R₁:Ea Γ ⟨W,τ⟩ {s with heap:=h₀,toks:=s.toks+binds.length}:=R.grow hk₀ rfl rfl
 have R₂:=R₁.adds (Nt s.heap.objs.size names bs) (λp hp=>?_) (Ta hn)
 ·refine(h s.heap.objs.size).run R₂ (λfl s' σ' R' q=>?_) λa s' σ' R' q=>q.elim R' λ_ s'' σ'' R'' q'=>⟨a,σ'',rfl,R'',q'⟩
  obtain⟨σ'',le,q⟩:=q
  refine⟨σ'',le Γ s' R',?_⟩
  cases fl<;>exact q
 ·obtain⟨x,hx,rfl⟩:=Bn.mp hp
  refine⟨⟨_,hns,?_⟩,R.freshTop,Jp (σ:=⟨W,τ⟩) (s:=s) rfl (λq hq=>(R.ents q hq).1) (Bx _)⟩
  rw [<-eb,<-List.map_reverse,Oi]
end
end
section
inductive yD (W:List As) (τ:Ak->List As) (e:Ak) (σ':Ay):Prop
 |mk (t T:Ak) (ts:Array Ab) (y:Ak) (h3:ts[3]? =some Dm) (le:As.le ⟨W,(.obj T,.raw (Zs ts))::(.obj e,.raw (Lg t (.ref T)))::τ y⟩ σ')
theorem AF.upd {A:Aw} {W τ τ':List As} {d:Ak} {c c':CO} (h:AF A ⟨W,τ⟩) (U:Qw τ (.obj d) c c' τ'):AF A ⟨W,τ'⟩:=by
 obtain⟨l₁,l₂,rfl,rfl⟩:=U.split
 obtain⟨l,e,h⟩:=h
 refine⟨l,e,λenv he=>?_⟩
 obtain⟨h1,L,x,c,h2,h3⟩:=h env he
 refine⟨h1,L,x,c,h2,?_⟩
 rcases Ai.mp h3 with h|h
 ·exact Af _ h
 ·refine Aa _ ?_
  rcases Ai.mp h with h|h
  ·exact Af _ h
  ·rcases Ce.mp h with h|h
   ·cases h
   ·exact Aa _ (.tail _ h)
theorem AF.app {A:Aw} {W ρ τ:List As} (h:AF A ⟨W,τ⟩):AF A ⟨W,ρ++τ⟩:=by
 obtain⟨l,e,h⟩:=h
 exact⟨l,e,λenv he=>let ⟨h1,L,x,c,h2,h3⟩:=h env he;⟨h1,L,x,c,h2,Bq h3⟩⟩
theorem AF.w {A:Aw} {W τ:List As} (h:AF A ⟨[],τ⟩):AF A ⟨W,τ⟩:=by
 obtain⟨l,e,h⟩:=h
 refine⟨l,e,λenv he=>?_⟩
 obtain⟨h1,L,x,c,h2,h3⟩:=h env he
 exact⟨h1,L,x,c,h2,Aa _ h3⟩
theorem AF.cons {A:Aw} {W τ:List As} {p:As} (h:AF A ⟨W,τ⟩):AF A ⟨W,p::τ⟩:=h.app (ρ:=[p])
noncomputable abbrev Rs.withDir (rs:Rs) (v:Ab):Rs:={rs with dir:=some v}
theorem wP (Γ:Bj):Γ.K.lookup 187=some ⟨.type "function",none,.func (Ka Γ 187 "C3._guess_next_base" (clsStmt 8 12) (.ref 186) .none),#[]⟩:=by kernel_rfl
theorem uB (Γ:Bj):Γ.K.lookup 173=some ⟨.type "function",none,.func (Ka Γ 173 "C3._choose_next_base" (clsStmt 8 10) (.ref 172) .none),#[]⟩:=by kernel_rfl
theorem pW (Γ:Bj):Uy Γ.K 204 "direct_inconsistency" =true:=by kernel_rfl
theorem qC (Γ:Bj):Sh Γ.K 204 "_guess_next_base" 187=true:=by kernel_rfl
theorem tV (Γ:Bj):Sh Γ.K 204 "_find_next_C3_base" 180=true:=by kernel_rfl
section
variable {Γ:Bj} {A:Aw} {G:List Nd} {σ:Ay}
theorem xC {W τ:List As} {τ':Ab->List As} {rx rd a:Ak} {rs:Rs} {lf:Ab} {Q:Ab->Ay->Prop} (hA:Rm A 3) (hh:A.handled=none) (hF:AF A ⟨W,τ⟩) (hx:(.obj rx,.inst 204 rd)∈(⟨W,τ⟩:Ay).all) (hl:rs.leaf=some lf) (hlf:Ln lf=true)
  (U:∀v,Qw τ (.obj rd) (.ns rs.ns) (.ns (rs.withDir v).ns) (τ' v)):∀ws,ws.map cl=[.ref rx,.ref a]->TCX Γ A ⟨W,τ⟩ (.ref 187) ws [] Q (yD W λy=>τ' (.ref y)):=λws hw=>by
 refine yA (body:=fBody (clsStmt 8 12)) (bs:=[("self",.ref rx),("base_tree_remaining",.ref a)]) ["self","base_tree_remaining"] (wP Γ) (by kernel_rfl) hA.room (Gu.plain2 λ_ _ _=>Cg (by rfl)) (λL=>?_) (by rfl) (by rfl) (by decide) (by rfl) (by rfl) (by rfl) ws [] hw rfl
 show TX Γ (A.deeper (Gk "C3._guess_next_base" (fScope (clsStmt 8 12)) L 187 (.ref 186) [])) ⟨W,(.var L "self",.val (some (.ref rx)))::(.var L "base_tree_remaining",.val (some (.ref a)))::τ⟩ (Cm _ (Gk "C3._guess_next_base" (fScope (clsStmt 8 12)) L 187 (.ref 186) [])) _ _
 have hd:(.obj rd,.ns rs.ns)∈(⟨W,τ⟩:Ay).all:=(Iy.tau (W:=W) (U .none)).mem
 refine Tk (T.X (Dj (Bz (Bk (v:=.ref 59) (by kernel_rfl) ⟨.inl (by kernel_rfl),?_⟩))))
 refine Ag (Ac (v:=.ref rx) (by walk_at "mem") (Ag (Ac (v:=.ref a) (by walk_at "mem") (Ao (uZ (rs:=rs) hA.deeper (by walk_at "memo") (by walk_at "memo") hl hlf λe=>?_)))))
 refine Ac (v:=.ref rx) (by walk_at "mem") (Gp (by walk_at "memo") (.tau (.there (.there (U (.ref e))))) (by walk_at "set") (pW Γ) ?_)
 refine⟨λ_=>?_,λh=>absurd rfl h⟩
 have hF':AF (A.deeper (Gk "C3._guess_next_base" (fScope (clsStmt 8 12)) L 187 (.ref 186) [])) ⟨W,(.var L "self",.val (some (.ref rx)))::(.var L "base_tree_remaining",.val (some (.ref a)))::τ' (.ref e)⟩:=
  (hF.upd (U (.ref e))).push rfl rfl (by walk_at "mem") λp hp=>.tail _ (.tail _ hp)
 obtain⟨l,el,_⟩:=hF
 refine Tk (vF hh λx t=>dL hF' (Np el) rfl λT ts h3=>⟨t,T,ts,e,h3,As.le_sub (.cons_cons _ (.cons_cons _ (.cons _ (.cons _ (.refl _)))))⟩)
theorem uR {W τ:List As} {τ':Ab->List As} {rx rd a:Ak} {rs:Rs} {lf:Ab} {ls:List (List Nat)} {Q:Ab->Ay->Prop} (nf:NF W G) (hA:Rm A 4) (hh:A.handled=none) (hF:AF A ⟨W,τ⟩) (hx:(.obj rx,.inst 204 rd)∈(⟨W,τ⟩:Ay).all) (hlf0:rs.leaf=some lf) (hlf:Ln lf=true)
  (U:∀v,Qw τ (.obj rd) (.ns rs.ns) (.ns (rs.withDir v).ns) (τ' v)) (hT:Sg G ⟨W,τ⟩ a ls) (hl:∀l∈ls,l≠[]/\l.length<=1000/\∀i∈l,i < G.length)
  (h:∀l∈ls,∀j r,l=j::r->Q (.ref (Fm G j)) ⟨W,τ⟩):∀ws,ws.map cl=[.ref rx,.ref a]->TCX Γ A ⟨W,τ⟩ (.ref 173) ws [] Q (yD W λy=>τ' (.ref y)):=λws hw=>by
 refine yA (body:=fBody (clsStmt 8 10)) (bs:=[("self",.ref rx),("base_tree_remaining",.ref a)]) ["self","base_tree_remaining","base"] (uB Γ) (by kernel_rfl) hA.room (Gu.plain2 λ_ _ _=>Cg (by rfl)) (λL=>?_) (by rfl) (by rfl) (by decide) (by rfl) (by rfl) (by rfl) ws [] hw rfl
 show TX Γ (A.deeper (Gk "C3._choose_next_base" (fScope (clsStmt 8 10)) L 173 (.ref 172) [])) ⟨W,(.var L "self",.val (some (.ref rx)))::(.var L "base_tree_remaining",.val (some (.ref a)))::(.var L "base",.val none)::τ⟩ (Cm _ (Gk "C3._choose_next_base" (fScope (clsStmt 8 10)) L 173 (.ref 172) [])) _ _
 have hd:(.obj rd,.ns rs.ns)∈(⟨W,τ⟩:Ay).all:=(Iy.tau (W:=W) (U .none)).mem
 have hA':Rm (A.deeper (Gk "C3._choose_next_base" (fScope (clsStmt 8 10)) L 173 (.ref 172) [])) 3:=hA.deeper
 have fin:∀v,Q v ⟨W,τ⟩->∀o,Ja Q (.ret v) ⟨W,(.var L "self",.val (some (.ref rx)))::(.var L "base_tree_remaining",.val (some (.ref a)))::(.var L "base",.val o)::τ⟩:=λv hv o=>
  ⟨_,As.le_sub (.cons _ (.cons _ (.cons _ (.refl _)))),hv⟩
 refine Tk (T.X (Bl (Fi (Ac (v:=.ref rx) (by walk_at "mem") (Pd (by walk_at "memo") (by walk_at "memo") (tV Γ) (by show _∉Ti;decide) ⟨.inl (by kernel_rfl),?_⟩)))))
 refine Ag (Ac (v:=.ref a) (by walk_at "mem") (Ao λws hw=>?_))
 refine(zT (rs:=rs) nf (hA'.le (by decide)) hh (by walk_at "memo") (by walk_at "memo") hT.cons3 hl (λl hl' j r e=>?_) ?_ ws hw).T
 ·have hj:j < G.length:=(hl l hl').2.2 j (by rw [e];exact .head _)
  obtain⟨z,hz⟩:=Dl hj
  refine⟨_,_,by walk_at "upd",λ_=>?_,λh=>absurd rfl h⟩
  refine Tk (T.X (Hs (Ar (Ac (v:=.ref (Fm G j)) (by walk_at "mem") (Jt (Kr (by rfl) ⟨_,rfl,λ_=>?_,λh=>(by cases h)⟩))))))
  exact Am (Fj (Ac (v:=.ref (Fm G j)) (by walk_at "mem") ⟨λh=>(by cases h),λ_=>fin _ (h l hl' j r e) _⟩))
 ·refine⟨_,_,by walk_at "upd",λ_=>?_,λh=>absurd rfl h⟩
  refine Tk (T.X (Hs (Ar (Ac (v:=.none) (by walk_at "mem") (Jt (Kr (by rfl) ⟨_,rfl,λh=>(by cases h),λ_=>Ci ⟨λ_=>?_,λh=>absurd rfl h⟩⟩))))))
  refine Tk (rM (oP (Ac (v:=.ref rx) (by walk_at "mem") (Pd (by walk_at "memo") (by walk_at "memo") (qC Γ) (by show _∉Ti;decide) ⟨.inl (by kernel_rfl),?_⟩))))
  refine Ag (Ac (v:=.ref a) (by walk_at "mem") (Ao λws hw=>?_))
  have hF':AF (A.deeper (Gk "C3._choose_next_base" (fScope (clsStmt 8 10)) L 173 (.ref 172) [])) ⟨W,(.var L "self",.val (some (.ref rx)))::(.var L "base_tree_remaining",.val (some (.ref a)))::(.var L "base",.val (some .none))::τ⟩:=
   hF.push rfl rfl (by walk_at "mem") λp hp=>.tail _ (.tail _ (.tail _ hp))
  refine(xC (rs:=rs) hA' hh hF' (by walk_at "memo") hlf0 hlf (λv=>.there (.there (.there (U v)))) ws hw).X.exc λx s' σ' R' z=>?_
  obtain⟨t,T,ts,y,h3,le⟩:=z
  obtain⟨l,el,_⟩:=hF
  have hF₂:AF (A.deeper (Gk "C3._choose_next_base" (fScope (clsStmt 8 10)) L 173 (.ref 172) [])) ⟨W,(.var L "self",.val (some (.ref rx)))::(.var L "base_tree_remaining",.val (some (.ref a)))::(.var L "base",.val (some .none))::τ' (.ref y)⟩:=
   hF'.upd (.there (.there (.there (U _))))
  exact⟨x,_,rfl,le Γ s' R',gG hF₂ (Np el) rfl h3 λT ts h3=>⟨t,T,ts,y,h3,As.le_sub (.cons_cons _ (.cons_cons _ (.cons _ (.cons _ (.cons _ (.refl _))))))⟩⟩
end
end
section
theorem dD:entryFor table "proto.unchain" =some Builtin.«proto.unchain»:=entryFor_of_tree (by kernel_rfl)
theorem dA:plainId "proto.unchain" =true:=by decide+kernel
section
variable {prog:Jf} {w:Oa} {A:Aw} {E:Ab->Ba->Prop} {s:Ba}
theorem Zn {it l ex t:Ak} {T:Ab} {Q:Option Ab->Ba->Prop} (hh:A.handled=some (.ref ex)) (hx:s.heap.get? ex=some (Lg t T)) (hit:s.heap.IsRevIter it l (-1))
  (hQ:∀h',Io it s.heap h'->Q none {s with heap:=h'}):Cp (Cd prog w) A (Lk (.ref it)) Q E s:=by
 obtain⟨o,ho,hc,hd⟩:=id hit
 unfold Lk
 refine Ad (wpAny_attempt (Hq (name:=Kl "__next__") hit.typeIs F.slot_lri_next
  (Lv F.slot_lri_next hit.typeIs F.entry_lri_next ?_ (F.args_lri_next_1 _))))
 unfold Builtin.«list_reverseiterator.__next__»
 refine Ad (Im (a:=(Bt it,[])) rfl ?_)
 try dsimp only
 refine Ad (Gl ho hd (x:=Kb (-1)) rfl ?_)
 show Cp _ _ (if(-1:Int) < 0 then _ else _) _ _ s
 rw [if_pos (by decide)]
 refine Ad (Kx ?_)
 first
 |show Cp _ _ (newExc (.type "StopIteration") []>>=_) _ _ _
 |(refine Ad ?_;show Cp _ _ (newExc (.type "StopIteration") []>>=_) _ _ _)
 refine Ad ?_
 simp only [newExc,newTuple]
 refine Ad (Et ?_ (by size_fits))
 refine Ad (m:=Nm _ _) (Im (a:=Dm) (by first|rfl|(simp only [Nm];rfl)) ?_)
 refine Et ?_ (by size_fits)
 simp only [raiseNew]
 refine Ad (wpAny_handled ?_)
 rw [show A.in1.handled=some (.ref ex)from hh]
 have hxp:(s.heap.push {cls:=Gw "tuple",data:=Pz #[]}).get? ex=some (Lg t T):=Al _ hx
 have hne:ex≠(s.heap.push {cls:=Gw "tuple",data:=Pz #[]}).objs.size:=Kn (Ds hxp)
 show Cp _ _ (if(Bt ex != Bt (s.heap.push {cls:=Gw "tuple",data:=Pz #[]}).objs.size)=true then _ else _) _ _ _
 rw [if_pos (by rw [bne_iff_ne];intro e;exact hne (Bt.inj e))]
 refine Ad (Dz (wpAny_runValue (Hg dD ?_)))
 rw [Fw dA _]
 show Cp _ _ (field (.ref ex) 2>>=_) _ _ _
 refine Ad (Gl (Al _ hxp) rfl (x:=.none) rfl ?_)
 rw [if_pos (by decide)]
 refine Au ?_
 unfold updateField
 refine Ad (Ad (wpAny_load (Bg _ rfl) ?_))
 dsimp only
 rw [if_pos (by rw [Array.size_append];exact Pf (by decide:2 < 6) (Nat.le_add_right _ _))]
 refine wpAny_update (Bg _ rfl) (wpAny_throw ?_)
 refine Ad (wpAny_isInstance (T:="StopIteration") (b:=true) ⟨_,Dv _ (Bg _ rfl) rfl,rfl⟩ isSubtype_stop ?_)
 refine Au (hQ _ ?_)
 intro b o hb e
 have hlt:=Ds e
 have hb':(s.heap.push {cls:=Gw "tuple",data:=Pz #[]}).objs.size≠b:=by
  rw [Iq];exact Nat.ne_of_gt (Nat.lt_succ_of_lt hlt)
 refine(Heap.get?_update_other _ _ hb').trans ?_
 exact Al _ (Al _ e)
end
section
variable {Γ:Bj} {A:Aw} {σ:Ay}
noncomputable def HS (A:Aw) (σ:Ay):Prop:=∃ex t T,A.handled=some (.ref ex)/\(.obj ex,.raw (Lg t T))∈σ.all
theorem HS.app {A:Aw} {W ρ τ:List As} (h:HS A ⟨W,τ⟩):HS A ⟨W,ρ++τ⟩:=let ⟨ex,t,T,a,b⟩:=h;⟨ex,t,T,a,Bq b⟩
theorem HS.cons {A:Aw} {W τ:List As} {p:As} (h:HS A ⟨W,τ⟩):HS A ⟨W,p::τ⟩:=h.app (ρ:=[p])
theorem bZ {W τ:List As} {l:Ak} {vs:List Ab} {Q:Ab->Ay->Prop} (hm:(.obj l,.list vs)∈(⟨W,τ⟩:Ay).all) (h:∀it,Q (.ref it) ⟨W,(.obj it,.rev l ((vs.length:Int) - 1))::τ⟩):∀ws,ws.map cl=[.ref l]->T Γ A ⟨W,τ⟩ (call (.type "reversed") ws) Q:=λws hw s R=>by
 obtain⟨w₀,rfl,e0⟩:=Ir hw
 have:=Cc e0
 subst this
 obtain⟨us,n,L,e⟩:=Hw R hm
 have hsz:=Cn e
 refine call_reversed_list L.isList ?_
 rw [hsz]
 exact⟨_,R.push (c:=.rev l ((vs.length:Int) - 1)) (s':={s with heap:=s.heap.push (revObj l ((vs.length:Int) - 1))}) (λ_ _ e=>Al _ e) rfl rfl ⟨_,Bg _ rfl,rfl,rfl⟩,h _⟩
theorem cD {W τ:List As} {it l:Ak} {i:Int} {v:Ab} {Q:Ab->Ay->Prop} (hv:cl v=.ref it) (h:Q (.ref it) ⟨W,(.obj it,.rev l i)::τ⟩):T Γ A ⟨W,(.obj it,.rev l i)::τ⟩ (Hu v) Q:=λs R=>by
 have:=Cc hv
 subst this
 exact wpAny_pyIter_revIter (R.ents _ (Bs (q:=(.obj it,.rev l i)))).1 ⟨_,R,h⟩
theorem aY {it l:Ak} {vs:List Ab}:∀(n:Nat),n<=vs.length->Lb Γ A it (λσ=>(.obj l,.list vs)∈σ.all/\HS A σ) (vs.take n).reverse [(.obj it,.rev l ((n:Int) - 1))]
 |0,_=>λσ hG s R=>by
  obtain⟨hm,ex,t,T,hh,hx⟩:=hG
  have hx':s.heap.get? ex=some (Lg t T):=(R.ents _ (Bq (ρ:=[(.obj it,.rev l ((0:Nat) - 1:Int))]) hx)).1
  exact Zn hh hx' (R.ents _ Bs).1 λh' hx=>⟨_,Ea.dropObj (s':={s with heap:=h'}) R rfl hx rfl rfl,rfl,rfl⟩
 |n+1,hn=>by
  have hlt:n < vs.length:=hn
  rw [Mu,Bm hlt,Option.toList_some,List.reverse_append]
  intro σ hG s R
  obtain⟨us,m,L,e⟩:=Hw R (Eb hG.1)
  obtain⟨u,hu,eu⟩:=He (i:=n) (v:=vs[n]) e (Bm hlt)
  have R0:Ea Γ ⟨σ.W,(.obj it,.rev l (n:Int))::σ.τ⟩ s:=by
   have:=R
   rw [show((n+1:Nat):Int) - 1=(n:Int) by lia]at this
   exact this
  have hit:s.heap.IsRevIter it l (n:Int):=(R0.ents _ (Bs (q:=(.obj it,.rev l (n:Int))))).1
  refine wpAny_pyNext_rev_item hit L.isList hu λh' hi' hs=>⟨⟨σ.W,[(.obj it,.rev l ((n:Int) - 1))]++σ.τ⟩,Ea.changeS (s':={s with heap:=h'}) (c':=.rev l ((n:Int) - 1)) R0 (.tau .here) rfl hs.extBut rfl rfl hi',?_,[(.obj it,.rev l ((n:Int) - 1))],rfl,?_,aY n (Md hn)⟩
  ·show some (cl u)=some vs[n]
   rw [eu]
  ·intro target u s R
   obtain⟨o,ho,hc,_⟩:=(R.ents _ (Bs (q:=(.obj it,.rev l ((n:Int) - 1))))).1
   exact Wn ho hc (by decide) ⟨_,R,rfl⟩
end
end
section
theorem qY (i n:Nat) (h:i<=n):sliceBounds (some (i:Int)) (some (i:Int)) none n=((i:Int),(i:Int),1):=by
 simp only [sliceBounds,Option.getD_none]
 have h1:¬((i:Int) < 0):=by lia
 simp only [h1,if_false,show(1:Int)>0 by decide,if_true]
 congr 1
 ·lia
 ·congr 1;lia
section
variable {Γ:Bj} {A:Aw} {σ:Ay} {env:Env}
theorem Zp {a b sl:Ak} {vs ts:List Ab} {i:Nat} {vl vu:Ab} {σ':Ay} {Q:Unit->Ay->Prop} {s:Ba} (R:Ea Γ σ s) (hl:cl vl=.int i 0) (hu:cl vu=.int i 0) (hs:s.heap.IsSliceOf sl vl vu .none)
  (ht:Ew Γ σ b ts) (hi:i<=vs.length) (hz:vs.length+ts.length<=1000000) (U:Iy σ (.obj a) (.list vs) (.list (vs.take i++ts++vs.drop i)) σ') (h:Q () σ'):
  Cp (Cd Γ.prog Γ.w) A (setItem (.ref a) (.ref sl) (.ref b)) (λ_ s'=>fB Γ Q () s') (λ_ _=>False) s:=by
 obtain⟨us,n,L,e⟩:=Hw R U.mem
 obtain⟨ws,n',Tb,eb⟩:=ht s R
 have hsz:=Cn e
 have hszb:=Cn eb
 obtain⟨os,hos,hcs,hds⟩:=id hs
 have hTs:s.TypeIs (.ref sl) "slice" :=⟨os,hos,hcs⟩
 have hTb:s.TypeIs (.ref b) "tuple" :=⟨_,Tb,rfl⟩
 have hab:a≠b:=λq=>by
  rw [q]at L
  have:=(Dh (L.symm.trans Tb))
  exact absurd (congrArg Obj.cls this) (by show¬(Gw "list" =Gw "tuple");decide)
 have pl:IsPart vl (some (i:Int)):=by obtain⟨t,rfl⟩:=Ev hl;exact .int _ t
 have pu:IsPart vu (some (i:Int)):=by obtain⟨t,rfl⟩:=Ev hu;exact .int _ t
 unfold setItem
 try with_reducible refine Dz ?_
 first|refine Ad (Au ?_)|skip
 refine Ad (wpAny_sequenceKey L.isList.typeIs (by decide) ?_)
 refine Ad (Hq (name:=Kl "__setitem__") L.isList.typeIs slot_list_setitem
  (Lv slot_list_setitem L.isList.typeIs entry_list_setitem ?_ (args_list_setitem _ _ _)))
 show Cp _ _ (Builtin.List.listSubscript? (.ref sl)>>=_) _ _ s
 refine Ad ?_
 unfold Builtin.List.listSubscript?
 refine Ad (wpAny_specialOf hTs slice_no_index ?_)
 simp only [Option.isNone_none,if_true]
 refine Au ?_
 show Cp _ _ (typeOf (.ref sl)>>=_) _ _ s
 refine Ad (wpAny_typeOf hTs ?_)
 rw [if_neg (by decide)]
 rw [listSliceParts_eq]
 refine Ad (Ad (Gl hos hds (x:=.none) rfl (Ad (wpAny_listPart .none ?_))))
 rw [if_neg (by decide)]
 refine Ad (Gl hos hds (x:=vl) rfl (Ad (wpAny_listPart pl ?_)))
 refine Ad (Gl hos hds (x:=vu) rfl (Ad (wpAny_listPart pu (Au ?_))))
 have hne:¬(Kz (.ref a) (.ref b)=true):=by simp [Kz,hab]
 rw [if_neg hne]
 refine Ad ?_
 unfold Builtin.List.listAllItems Ql
 refine Ad (wpAny_typeOf hTb ?_)
 rw [if_pos (by decide)]
 refine Ad (Qf Tb rfl (Au ?_))
 refine Ad (Ad (Qf L rfl (Au ?_)))
 refine Ad (Im (sliceIndices_raw (some (i:Int)) (some (i:Int)) none us.size (by simp)) ?_)
 rw [qY i us.size (by rw [hsz];exact hi)]
 rw [if_pos (by rfl)]
 refine Ad (Kx ?_)
 have hlong:¬(Oq (us.size+ws.size)=true):=by
  unfold Oq
  rw [hsz,hszb,decide_eq_true_iff,Av];lia
 show Cp _ _ (if Oq (us.size+ws.size)=true then _ else _) _ _ _
 rw [if_neg hlong]
 show Cp _ _ (updateSeq a (λxs=>xs.extract 0 (i:Int).toNat++ws++xs.extract (max (i:Int) (i:Int)).toNat xs.size)>>=λ_=>letGo (us.extract (i:Int).toNat (max (i:Int) (i:Int)).toNat).toList.reverse>>=λ_=>ret .none) _ _ _
 rw [Int.max_self,Df]
 refine Ad (Ov L rfl (Ad (wpAny_letGo (Au ⟨_,rfl,Au ?_⟩))) (by rw [hsz,Av];lia) ?_)
 ·refine⟨_,Ea.changeS (s':={s with heap:=s.heap.update a (Mc (λxs=>xs.extract 0 i++ws++xs.extract i xs.size))}) R U rfl (Dg ..).extBut rfl rfl ⟨_,_,L.update _,?_⟩,h⟩
  rw [Array.toList_append,Array.toList_append,Bh,Bh,eb]
  congr 1
  ·congr 1
   rw [Array.toList_extract,List.extract_eq_take_drop,List.drop_zero,Nat.sub_zero,Ok,e]
  ·rw [Array.toList_extract,List.extract_eq_take_drop,Ok,List.map_drop,e]
   rw [List.take_of_length_le (by rw [List.length_drop,hsz];lia)]
 ·show(us.extract 0 i++ws++us.extract i us.size).size<=_
  simp only [Array.size_append,Array.size_extract]
  rw [hszb,hsz,Av];lia
theorem Zq {o value lo hi:Aq} {sp pos' pos:Pos} {Q:Fv->Ay->Prop}
  (h:T Γ A σ (Dr value env) λc σ₁=>T Γ A σ₁ (Dr o env) λco σ₂=>T Γ A σ₂ (Dr lo env) λl σ₃=>T Γ A σ₃ (Dr hi env) λu σ₄=>∃(a b:Ak) (vs ts:List Ab) (i:Nat) (σ':Ay),c=.ref b/\co=.ref a/\l=.int i 0/\u=.int i 0/\Ew Γ σ₄ b ts/\i<=vs.length/\vs.length+ts.length<=1000000/\Iy σ₄ (.obj a) (.list vs) (.list (vs.take i++ts++vs.drop i)) σ'/\Q .next σ')
  (hs:autoParam (Lq value (some (.Subscript o (.Slice (some lo) (some hi) none sp) pos')) pos.line env=pure false) aR):T Γ A σ (Mx (.Assign [.Subscript o (.Slice (some lo) (some hi) none sp) pos'] value pos) env) Q:=λs R=>by
 refine wpAny_Assign_Subscript (h.elim R λv s₁ σ₁ R₁ q₁=>q₁.elim R₁ λov s₂ σ₂ R₂ q₂=>wpAny_Slice (q₂.elim R₂ λl s₃ σ₃ R₃ q₃=>q₃.elim R₃ λu s₄ σ₄ R₄ q₄=>?_)) hs
 obtain⟨a,b,vs,ts,i,σ',e1,e2,e3,e4,ht,hi',hz,U,q⟩:=q₄
 have:=Cc e1
 subst this
 have:=Cc e2
 subst this
 rw [evalPart_none]
 refine Au ?_
 have R5:=R₄.grow (s':={s₄ with heap:=s₄.heap.push {cls:=.type "slice",data:=.fields #[l,u,.none]}}) (λ_ _ e=>Al _ e) rfl rfl
 exact Dy (Zp (Q:=λ_ σ=>Q .next σ) R5 e3 e4 (Heap.IsSliceOf.new ..) ht hi' hz U q) (λ_ _ ⟨σ',R',q⟩=>⟨σ',R',q⟩) λ_ _ x=>x
end
end
section
noncomputable def Fx (G:List Nd) (j:Nat):List Nat:=match G[j]?with|some x=>x.bs|none=>[]
theorem Pw {G:List Nd} {j:Nat} {x:Nd} (h:G[j]? =some x):Fx G j=x.bs:=by simp [Fx,h]
inductive Ht (G:List Nd):Nat->Nat->Prop
 |refl (j:Nat):Ht G j j
 |step {j b k:Nat}:b∈Fx G j->Ht G b k->Ht G j k
theorem Ht.cases' {G:List Nd} {j k:Nat}:Ht G j k↔k=j\/∃b∈Fx G j,Ht G b k:=by
 constructor
 ·intro h
  cases h with
  |refl=>exact .inl rfl
  |step h1 h2=>exact .inr ⟨_,h1,h2⟩
 ·rintro(rfl|⟨b,h1,h2⟩)
  ·exact .refl _
  ·exact .step h1 h2
set_option tactic.hygienic true in
theorem Gr.bs_lt {G:List Nd} (g:Gr G) {j b:Nat} (h:b∈Fx G j):b < j:=by
 unfold Fx at h
 split at h
 ·rename_i x hx;exact(g.bs _ _ hx).2 b h
 ·cases h
set_option tactic.hygienic true in
theorem Gr.bs_nodup {G:List Nd} (g:Gr G) (j:Nat):(Fx G j).Nodup:=by
 unfold Fx
 split
 ·rename_i x hx;exact(g.bs _ _ hx).1
 ·exact .nil
theorem Ht.le {G:List Nd} (g:Gr G) {j k:Nat} (h:Ht G j k):k<=j:=by
 induction h with
 |refl=>exact Bx _
 |step h1 _ ih=>exact Bw ih (Md (g.bs_lt h1))
noncomputable def wt (l:List Nat):Nat:=(l.map λj=>2 ^ j).sum
theorem dY (a b:List Nat):wt (a++b)=wt a+wt b:=by simp [wt]
theorem kQ:∀l:List Nat,l.length<=wt l
 |[]=>Bx _
 |x::r=>by
  have:=kQ r
  have h:1<=2 ^ x:=Nat.one_le_two_pow
  show r.length+1<=2 ^ x+wt r
  lia
theorem sB:∀(n:Nat) (l:List Nat),l.Nodup->(∀x∈l,x < n)->wt l < 2 ^ n
 |0,l,_,h=>by
  match l with
  |[]=>decide
  |x::r=>exact absurd (h x (.head _)) (Nat.not_lt_zero _)
 |n+1,l,hd,h=>by
  by_cases hn:n∈l
  ·have e:l.Perm (n::l.erase n):=List.perm_cons_erase hn
   have hw:wt l=2 ^ n+wt (l.erase n):=by
    have:=(e.map λj=>2 ^ j).sum_nat
    exact this
   have:=sB n (l.erase n) (hd.erase n) λx hx=>by
    have h1:=h x (List.mem_of_mem_erase hx)
    have h2:x≠n:=λq=>by
     rw [q]at hx
     exact(List.Nodup.mem_erase_iff hd).mp hx |>.1 rfl
    lia
   rw [hw,Nat.pow_succ];lia
  ·have:=sB n l hd λx hx=>by
    have h1:=h x hx
    have h2:x≠n:=λq=>hn (q▸hx)
    lia
   rw [Nat.pow_succ];lia
theorem Fb.go {Γ:Bj} {A:Aw} {env:Env} {rest:List Jr} {Q:Fv->Ay->Prop} {σ:Ay} (h:T Γ A σ (Cm rest env) Q):Fb Γ A env rest Q .next σ:=h
theorem qH (Γ:Bj):Γ.K.lookup 35=some ⟨.type "function",none,.func (Ka Γ 35 "_legacy_flatten" (topStmt 3) (.ref 34) .none),#[]⟩:=by kernel_rfl
section
variable {Γ:Bj} {A:Aw} {G:List Nd} {σ:Ay}
structure oW (G:List Nd) (j:Nat) (pre rest:List Nat):Prop where
 lt:∀k∈pre++rest,k < G.length
 all:∀k,Ht G j k↔k∈pre\/∃r∈rest,Ht G r k
 wt:pre.length+wt rest<=2 ^ 12
theorem oW.start (g:Gr G) {j:Nat} (hj:j < G.length):oW G j [] [j]:=by
 refine⟨λk hk=>?_,λk=>?_,?_⟩
 ·simp at hk;lia
 ·simp
 ·have h12:j<=12:=by have:=g.few;lia
  have:=Nat.pow_le_pow_right (by decide:0 < 2) h12
  simpa [Mine.wt]using this
theorem oW.next (g:Gr G) {j r:Nat} {pre rest:List Nat} (f:oW G j pre (r::rest)):oW G j (pre++[r]) (Fx G r++rest)/\Mine.wt (Fx G r++rest) < Mine.wt (r::rest):=by
 have hr:r < G.length:=f.lt r (by simp)
 have hw:Mine.wt (Fx G r) < 2 ^ r:=sB r _ (g.bs_nodup r) λx hx=>g.bs_lt hx
 have e1:Mine.wt (r::rest)=2 ^ r+Mine.wt rest:=rfl
 refine⟨⟨λk hk=>?_,λk=>?_,?_⟩,by rw [dY,e1];lia⟩
 ·rcases Ai.mp hk with h|h
  ·exact f.lt k ((Ai.mp h).elim (λh=>Af _ h) λh=>Aa _ (by simp at h;simp [h]))
  ·rcases Ai.mp h with h|h
   ·have:=g.bs_lt h;lia
   ·exact f.lt k (Aa _ (.tail _ h))
 ·rw [f.all]
  constructor
  ·rintro(h|⟨q,hq,h⟩)
   ·exact .inl (Af _ h)
   ·rcases Ce.mp hq with rfl|hq
    ·rcases Ht.cases'.mp h with rfl|⟨b,hb,h⟩
     ·exact .inl (by simp)
     ·exact .inr ⟨b,Af _ hb,h⟩
    ·exact .inr ⟨q,Aa _ hq,h⟩
  ·rintro(h|⟨q,hq,h⟩)
   ·rcases Ai.mp h with h|h
    ·exact .inl h
    ·simp at h;subst h;exact .inr ⟨k,.head _,.refl _⟩
   ·rcases Ai.mp hq with hq|hq
    ·exact .inr ⟨r,.head _,.step hq h⟩
    ·exact .inr ⟨q,.tail _ hq,h⟩
 ·have:=f.wt
  rw [Ah,dY,Bo]
  rw [e1]at this;lia
theorem qV {W τ:List As} {j:Nat} {Q:Ab->Ay->Prop} (nf:NF W G) (g:Gr G) (hA:Rm A 1) (hj:j < G.length)
  (h:∀r fl,(∀k∈fl,k < G.length)->(∀k,Ht G j k↔k∈fl)->fl.length<=2 ^ 12->Q (.ref r) ⟨W,(.obj r,.list (refs G fl))::τ⟩):∀ws,ws.map cl=[.ref (Fm G j)]->TC Γ A ⟨W,τ⟩ (.ref 35) ws [] Q:=λws hw=>by
 refine Oy (body:=fBody (topStmt 3)) (bs:=[("begin",.ref (Fm G j))]) ["begin","result","i","ob"] (qH Γ) (by kernel_rfl) hA.room (Gu.plain1 λ_ _=>Cg (by rfl)) (λL=>?_) (by rfl) (by rfl) (by decide) (by rfl) (by rfl) (by rfl) ws [] hw rfl
 show T Γ _ ⟨W,(.var L "begin",.val (some (.ref (Fm G j))))::(.var L "result",.val none)::(.var L "i",.val none)::(.var L "ob",.val none)::τ⟩ _ _
 refine Am (Bl (Hv (Ag (Ac (v:=.ref (Fm G j)) (by walk_at "mem") (Ao ⟨by rw [Av];exact By rfl,λa=>⟨_,_,by walk_at "upd",?_⟩⟩)))))
 refine Am (Bl (Dd ⟨_,_,by walk_at "upd",?_⟩))
 refine Am (oN (λn σ=>∃pre rest o,n=wt rest/\oW G j pre rest/\σ=⟨W,(.obj a,.list (refs G (pre++rest)))::(.var L "begin",.val (some (.ref (Fm G j))))::(.var L "result",.val (some (.ref a)))::(.var L "i",.val (some (.int pre.length 0)))::(.var L "ob",.val o)::τ⟩) (wt [j]) ⟨[],[j],none,rfl,.start g hj,rfl⟩ ?_)
 rintro n _ ⟨pre,rest,o,rfl,f,rfl⟩
 have hlen:(refs G (pre++rest)).length<=1000000:=by
  have h1:=f.wt
  have h2:=kQ rest
  rw [Bf,Ah];lia
 refine Ar (Ac (v:=.int pre.length 0) (by walk_at "mem") (Bz (Az (v:=.builtin "len") (by kernel_rfl) (by decide+kernel) (by decide) ⟨.inr (.inl ⟨_,rfl⟩),Ag (Ac (v:=.ref a) (by walk_at "mem") (Ao (Hj (vs:=refs G (pre++rest)) Bs hlen (vO ⟨_,rfl,λhb=>?_,λhb=>?_⟩))))⟩)))
 ·match rest,f with
  |[],_=>
   rw [Bf]at hb
   simp at hb
  |r::rest,f=>
   have hr:r < G.length:=f.lt r (by simp)
   obtain⟨x,ex⟩:=Dl hr
   have ebs:=Pw ex
   obtain⟨f',hlt⟩:=f.next g
   have hget:(refs G (pre++r::rest))[pre.length]? =some (.ref x.me):=by
    rw [Ki,Ha (by rw [Bf];exact Bx _),Bf,Qc]
    show some (Bt (Fm G r))=_
    rw [Br ex]
   have hp:pre.length<=2 ^ 12:=by have:=f.wt;lia
   refine Am (Bl (Bd (Ac (v:=.ref a) (by walk_at "mem") (Ac (v:=.int pre.length 0) (by walk_at "mem") (Ch (vs:=refs G (pre++r::rest)) (v:=.ref x.me) Bs (by lia) (by lia) (by rw [Df];exact hget) ⟨_,_,by walk_at "upd",?_⟩)))))
   refine Fb.go ?_
   refine Am ?_
   refine Zi (old:=.int pre.length 0) (Ae ?_) (Dd λu v hu hv=>zY hu hv ⟨_,_,by walk_at "upd",?_⟩)
   ·walk_at "ns"
   refine Fb.go ?_
   refine Am (Zq (Ef nf ex (Pu Γ) (v:=.ref x.bt) (by walk_at "ns") (Ac (v:=.ref x.me) (by walk_at "mem") ⟨rfl,rfl⟩) ?_))
   refine Ac (v:=.ref a) (by walk_at "mem") (Ac (v:=.int ((pre.length:Int)+1) 0) (by walk_at "mem") (Ac (v:=.int ((pre.length:Int)+1) 0) (by walk_at "mem") ?_))
   refine⟨a,x.bt,refs G (pre++r::rest),refs G x.bs,pre.length+1,_,rfl,rfl,rfl,rfl,(nf.bt _ _ ex).tup,?_,?_,.tau .here,?_⟩
   ·rw [Bf,Ah,Ft];lia
   ·have h1:=f'.wt
    have h2:=kQ (Fx G r++rest)
    rw [ebs]at h1 h2
    rw [Ah]at h1 h2
    rw [Bf,Bf,Ah,Ft]
    simp only [Bo]at h1
    lia
   ·refine Fb.go ?_
    refine Ci ⟨_,_,hlt,As.le_refl _,pre++[r],Fx G r++rest,some (.ref x.me),rfl,f',?_⟩
    have e1:(refs G (pre++r::rest)).take (pre.length+1)++refs G x.bs++(refs G (pre++r::rest)).drop (pre.length+1)=refs G (pre++[r]++(Fx G r++rest)):=by
     have e:pre++r::rest=(pre++[r])++rest:=by simp
     have hl:(refs G (pre++[r])).length=pre.length+1:=by rw [Bf];simp
     rw [e,Ki,Fh hl,List.drop_left' hl,ebs]
     simp only [Ki,Ax]
    have e2:(pre.length:Int)+1=((pre++[r]).length:Int):=by simp
    rw [e1,e2]
 ·have hr:rest=[]:=by
   rw [Bf]at hb
   match rest,hb with
   |[],_=>rfl
   |r::rest,hb=>simp at hb;lia
  subst hr
  refine Ci (Am (Fj (Ac (v:=.ref a) (by walk_at "mem") ⟨⟨W,(.obj a,.list (refs G (pre++[])))::τ⟩,As.le_sub (.cons_cons _ (.cons _ (.cons _ (.cons _ (.cons _ (.refl _)))))),?_⟩)))
  rw [Cj]
  refine h a pre (λk hk=>f.lt k (Af _ hk)) (λk=>?_) (by have:=f.wt;lia)
  rw [f.all]
  simp
end
end
section
theorem tU (Γ:Bj):Γ.K.lookup 28=some ⟨.type "function",none,.func (Ka Γ 28 "_legacy_mergeOrderings" (topStmt 2) (.ref 27) .none),#[]⟩:=by kernel_rfl
theorem fV (G:List Nd) (l:List Nat):(refs G l).reverse=refs G l.reverse:=by simp [refs]
section
variable {Γ:Bj} {A:Aw} {G:List Nd} {σ:Ay}
theorem Ss (g:Gr G) {acc:List Nat} {k:Nat} (ha:∀i∈acc,i < G.length) (hk:k < G.length):(acc.map (Cu G)).contains (Cu G k)=acc.contains k:=by
 rw [Kf,Mq,Mq,Bn]
 constructor
 ·rintro⟨i,hi,e⟩
  rw [<-g.key_inj (ha i hi) hk e];exact hi
 ·exact λh=>⟨k,h,rfl⟩
theorem Gh:∀(n:Nat) (l:List Nat),l.Nodup->(∀x∈l,x < n)->l.length<=n
 |0,l,_,h=>by
  match l with
  |[]=>decide
  |x::r=>exact absurd (h x (.head _)) (Nat.not_lt_zero _)
 |n+1,l,hd,h=>by
  by_cases hn:n∈l
  ·have:=Gh n (l.erase n) (hd.erase n) λx hx=>by
    have h1:=h x (List.mem_of_mem_erase hx)
    have h2:x≠n:=λq=>by
     rw [q]at hx
     exact(List.Nodup.mem_erase_iff hd).mp hx |>.1 rfl
    lia
   have e:=List.length_erase_of_mem hn
   lia
  ·have:=Gh n l hd λx hx=>by
    have h1:=h x hx
    have h2:x≠n:=λq=>hn (q▸hx)
    lia
   lia
structure MoS where
 ks:List Nat
 ids:List Nat
 o₁:Option Ab
 o₂:Option Ab
structure MoJ (S:Nat->Prop) (z:MoS):Prop where
 n:z.ks.Nodup
 s:∀k,k∈z.ks↔S k
 l:z.ids.length=z.ks.length
 i:∀k,k∈z.ids↔k∈z.ks
noncomputable abbrev moV (G:List Nd) (L a sn rs:Ak) (z:MoS) (τ:List As):List As:=(.obj rs,.list (refs G z.ks))::(.obj sn,.iset (z.ids.map (Cu G)))::(.var L "orderings",.val (some (.ref a)))::(.var L "seen",.val (some (.ref sn)))::(.var L "result",.val (some (.ref rs)))::(.var L "ordering",.val z.o₁)::(.var L "o",.val z.o₂)::τ
theorem pH {b j:Ak} {a c:List Ak} (h:[b]=a++j::c):a=[]/\j=b:=by
 cases a with
 |nil=>exact⟨rfl,(Ol h).1.symm⟩
 |cons x r=>cases r<;>cases (Ol h).2
theorem uO {W τ:List As} {a b:Ak} {fl:List Nat} {Q:Ab->Ay->Prop} (nf:NF W G) (g:Gr G) (hA:Rm A 1) (hH:HS A ⟨W,τ⟩) (ha:(.obj a,.list [.ref b])∈(⟨W,τ⟩:Ay).all) (hb:(.obj b,.list (refs G fl))∈(⟨W,τ⟩:Ay).all) (hl:∀k∈fl,k < G.length) (hz:fl.length<=2 ^ 12)
  (h:∀r ks,ks.Nodup->(∀k,k∈ks↔k∈fl)->Q (.ref r) ⟨W,(.obj r,.list (refs G ks))::τ⟩):∀ws,ws.map cl=[.ref a]->TC Γ A ⟨W,τ⟩ (.ref 28) ws [] Q:=λws hw=>by
 refine Oy (body:=fBody (topStmt 2)) (bs:=[("orderings",.ref a)]) ["orderings","seen","result","ordering","o"] (tU Γ) (by kernel_rfl) hA.room (Gu.plain1 λ_ _=>Cg (by rfl)) (λL=>?_) (by rfl) (by rfl) (by decide) (by rfl) (by rfl) (by rfl) ws [] hw rfl
 show T Γ (A.deeper (Gk "_legacy_mergeOrderings" (fScope (topStmt 2)) L 28 (.ref 27) [])) ⟨W,(.var L "orderings",.val (some (.ref a)))::(.var L "seen",.val none)::(.var L "result",.val none)::(.var L "ordering",.val none)::(.var L "o",.val none)::τ⟩ _ _
 have hHd:HS (A.deeper (Gk "_legacy_mergeOrderings" (fScope (topStmt 2)) L 28 (.ref 27) [])) ⟨W,τ⟩:=hH
 generalize A.deeper (Gk "_legacy_mergeOrderings" (fScope (topStmt 2)) L 28 (.ref 27) [])=D at *
 refine Am (Bl (Bz (Az (v:=.type "set") (by kernel_rfl) (by decide+kernel) (by decide) ⟨.inr (.inr ⟨_,rfl⟩),Ao (eX λsn=>⟨_,_,by walk_at "upd",?_⟩)⟩)))
 refine Fb.go ?_
 refine Am (Bl (Hv (Ao ⟨by rw [Av];exact Ca _,λrs=>⟨_,_,by walk_at "upd",?_⟩⟩)))
 refine Fb.go ?_
 have up:∀{q} ρ z,q∈(⟨W,τ⟩:Ay).all->q∈(⟨W,ρ++moV G L a sn rs z τ⟩:Ay).all:=λρ z hq=>Bq (Bq (ρ:=[_,_,_,_,_,_,_]) hq)
 have uH:∀ρ z,HS D ⟨W,ρ++moV G L a sn rs z τ⟩:=λρ z=>(hHd.app (ρ:=[_,_,_,_,_,_,_])).app
 refine Am (Rv (Bz (Az (v:=.type "reversed") (by kernel_rfl) (by decide+kernel) (by decide) ⟨.inr (.inr ⟨_,rfl⟩),Ag (Ac (v:=.ref a) (by walk_at "mem") (Ao (bZ (vs:=[.ref b]) (up [] ⟨[],[],none,none⟩ ha) λit v hv=>cD hv ?_)))⟩)))
 refine⟨.ref,[b],it,_,_,λ_ _=>W,λ_ z=>moV G L a sn rs z τ,λd z=>MoJ (λk=>d≠[]/\k∈fl) z,⟨[],[],none,none⟩,⟨rfl,rfl,aY (vs:=[.ref b]) 1 (Bx 1)⟩,⟨.nil,λk=>⟨λh=>(nomatch h),λh=>absurd rfl h.1⟩,rfl,λk=>Iff.rfl⟩,λ_ z _=>⟨up [] z ha,uH [] z⟩,λd j r u ρ z e1 hu hz K hK=>?_,λz hz=>?_⟩
 ·obtain⟨hd,hj⟩:=pH e1
  rw [hj]at hu
  refine Ct hu (by walk_at "upd") ?_
  refine Am (Rv (Bz (Az (v:=.type "reversed") (by kernel_rfl) (by decide+kernel) (by decide) ⟨.inr (.inr ⟨_,rfl⟩),Ag (Ac (v:=.ref b) (by walk_at "mem") (Ao (bZ (vs:=refs G fl) (up ρ ⟨z.ks,z.ids,some (.ref b),z.o₂⟩ hb) λit₂ v hv=>cD hv ?_)))⟩)))
  have Y:=λit₂=>aY (Γ:=Γ) (A:=D) (it:=it₂) (l:=b) (vs:=refs G fl) (refs G fl).length (Bx _)
  rw [Em,fV]at Y
  refine⟨λj=>.ref (Fm G j),fl.reverse,it₂,_,_,λ_ _=>W,λ_ z=>ρ++moV G L a sn rs ⟨z.ks,z.ids,some (.ref b),z.o₂⟩ τ,λd z=>MoJ (λk=>k∈d) z,z,⟨rfl,rfl,Y it₂⟩,⟨hz.n,λk=>⟨λh=>absurd hd ((hz.s k).mp h).1,λh=>nomatch h⟩,hz.l,hz.i⟩,λ_ z _=>⟨up ρ _ hb,uH ρ _⟩,λdn j r u ρ₂ z e1 hu hz K2 hK2=>?_,λz hz=>?_⟩
  ·have hk5:∀k∈dn,k < G.length:=λk hk=>hl k (List.mem_reverse.mp (by rw [e1];exact Af _ hk))
   have hj:j < G.length:=hl j (List.mem_reverse.mp (by rw [e1];exact Aa _ (.head _)))
   obtain⟨x,ex⟩:=Dl hj
   have ek:=Gd ex
   rw [Br ex]at hu
   have hks:∀k∈z.ks,k < G.length:=λk hk=>hk5 k ((hz.s k).mp hk)
   have hlen:z.ks.length<=12:=Bw (Gh _ _ hz.n hks) g.few
   have hc:=Ss g (λk hk=>hks k ((hz.i k).mp hk)) hj
   rw [ek]at hc
   refine Ct hu (by walk_at "upd") ?_
   refine Am (Hs (Ar (Ef nf ex (Ly Γ) (v:=.int x.key 0) (.head _) (Ac (v:=.ref x.me) (by walk_at "mem") ⟨rfl,rfl⟩) (Ac (v:=.ref sn) (by walk_at "mem") (Un (ks:=z.ids.map (Cu G)) (by walk_at "mem") ⟨_,rfl,λhb=>?_,λhb=>?_⟩)))))
   ·rw [hc,Mv,List.contains_eq_mem,decide_eq_false_iff_not]at hb
    have hnk:j∉z.ks:=λh=>hb ((hz.i j).mpr h)
    refine Am (Fy (Fi (Ac (v:=.ref sn) (by walk_at "mem") (Cz Qj PySem.F.slot_set_add PySem.F.type_set_add (fM (ks:=z.ids.map (Cu G)) (by walk_at "mem")) ⟨.inr (.inl ⟨_,rfl⟩),?_⟩))))
    refine Ag (Ef nf ex (Ly Γ) (v:=.int x.key 0) (.head _) (Ac (v:=.ref x.me) (by walk_at "mem") ⟨rfl,rfl⟩) (Ao (Yk (by walk_at "upd") (by rw [Ap,hz.l];exact Hk (Jq hlen) (by decide)) ?_)))
    refine Fb.go ?_
    refine Am (Fy (Fi (Ac (v:=.ref rs) (by walk_at "mem") (Cz Cr PySem.F.slot_list_insert PySem.F.type_list_insert (Ik (vs:=refs G z.ks) (by walk_at "mem")) ⟨.inr (.inl ⟨_,rfl⟩),?_⟩))))
    refine Ag (Dd (k:=0) (pos:=⟨0,0,0,0⟩) (Ag (Ac (v:=.ref x.me) (by walk_at "mem") (Ao (rP (by walk_at "upd") (by rw [Bf,Av];lia) ?_)))))
    rw [show Bt x.me::refs G z.ks=refs G (j::z.ks) by rw [<-Br ex];rfl,show z.ids.map (Cu G)++[x.key]=(z.ids++[j]).map (Cu G) by rw [Bh,<-ek];rfl]
    refine Fb.go (Ci (Fb.go (Ci (hK2 .next _ ⟨_,_,As.le_refl _,⟨j::z.ks,z.ids++[j],none,some (.ref x.me)⟩,rfl,Ey.mpr ⟨hnk,hz.n⟩,λk=>?_,?_,λk=>?_⟩))))
    ·rw [Ce,Ai,hz.s,Be,or_comm]
    ·rw [Ah,hz.l];rfl
    ·rw [Ai,hz.i,Be]
     exact or_comm.trans Ce.symm
   ·rw [hc,Jx,List.contains_eq_mem,decide_eq_true_iff]at hb
    have hnk:j∈dn:=(hz.s j).mp ((hz.i j).mp hb)
    refine Ci (Fb.go (Ci (hK2 .next _ ⟨_,_,As.le_refl _,⟨z.ks,z.ids,none,some (.ref x.me)⟩,rfl,hz.n,λk=>?_,hz.l,hz.i⟩)))
    rw [Ai,hz.s,Be]
    exact⟨.inl,λh=>h.elim id λh=>h▸hnk⟩
  ·refine Ci (Fb.go (Ci (hK .next _ ⟨_,_,As.le_refl _,⟨z.ks,z.ids,_,z.o₂⟩,rfl,hz.n,λk=>?_,hz.l,hz.i⟩)))
   rw [hz.s,List.mem_reverse]
   exact⟨λh=>⟨λe=>(by cases d<;>cases e),h⟩,And.right⟩
 ·refine Ci (Fb.go (Am (Fj (Ac (v:=.ref rs) (by walk_at "mem") ⟨⟨W,(.obj rs,.list (refs G z.ks))::τ⟩,As.le_sub (.cons_cons _ (.cons _ (.cons _ (.cons _ (.cons _ (.cons _ (.cons _ (.refl _)))))))),h rs z.ks hz.n λk=>(hz.s k).trans ⟨And.right,λh=>⟨λe=>(nomatch e),h⟩⟩⟩))))
end
end
section
theorem Acg (Γ:Bj):Γ.K.lookup 42=some ⟨.type "function",none,.func (Ka Γ 42 "_legacy_ro" (topStmt 4) (.ref 41) .none),#[]⟩:=by kernel_rfl
theorem oH (Γ:Bj):Γ.K.lookup 147=some ⟨.type "function",none,.func (Ka Γ 147 "C3.legacy_ro" (clsStmt 8 7) (.ref 146) .none),#[]⟩:=by kernel_rfl
noncomputable abbrev Rs.withOwn (rs:Rs) (v:Ab):Rs:={rs with own:=some v}
section
variable {Γ:Bj} {A:Aw} {G:List Nd} {σ:Ay}
theorem Ade {W τ:List As} {j:Nat} {Q:Ab->Ay->Prop} (nf:NF W G) (g:Gr G) (hA:Rm A 2) (hH:HS A ⟨W,τ⟩) (hj:j < G.length)
  (h:∀r ks,ks.Nodup->(∀k,k∈ks↔Ht G j k)->Q (.ref r) ⟨W,(.obj r,.list (refs G ks))::τ⟩):∀ws,ws.map cl=[.ref (Fm G j)]->TC Γ A ⟨W,τ⟩ (.ref 42) ws [] Q:=λws hw=>by
 refine Oy (body:=fBody (topStmt 4)) (bs:=[("ob",.ref (Fm G j))]) ["ob"] (Acg Γ) (by kernel_rfl) hA.room (Gu.plain1 λ_ _=>Cg (by rfl)) (λL=>?_) (by rfl) (by rfl) (by decide) (by rfl) (by rfl) (by rfl) ws [] hw rfl
 show T Γ _ ⟨W,(.var L "ob",.val (some (.ref (Fm G j))))::τ⟩ _ _
 refine Am (Fj (Bz (Bk (v:=.ref 28) (by kernel_rfl) ⟨.inl (by kernel_rfl),?_⟩)))
 refine Ag (Hv (Ag (Bz (Bk (v:=.ref 35) (by kernel_rfl) ⟨.inl (by kernel_rfl),Ag (Ac (v:=.ref (Fm G j)) (by walk_at "mem") (Ao λws hw=>(qV nf g hA.deeper hj (λb fl hl hm hz=>?_) ws hw).T))⟩))))
 refine Ao ⟨by rw [Av];exact By rfl,λa=>Ao λws hw=>?_⟩
 refine(uO (a:=a) (b:=b) nf g hA.deeper hH.cons.cons.cons Bs (Eb Bs) hl hz (λr ks hn hk=>?_) ws hw).T
 exact⟨⟨W,(.obj r,.list (refs G ks))::τ⟩,As.le_sub (.cons_cons _ (.cons _ (.cons _ (.cons _ (.refl _))))),h r ks hn λk=>(hk k).trans (hm k).symm⟩
theorem sN (g:Gr G) {j:Nat} (hj:j < G.length) {ks:List Nat} (hn:ks.Nodup) (hk:∀k,k∈ks↔Ht G j k):ks.length<=12:=
 Bw (Gh _ _ hn λx hx=>Hk (((hk x).mp hx).le g) hj) g.few
theorem pY (Γ:Bj):gO Γ.K 204 "_own_legacy" .none=true:=by kernel_rfl
theorem Yb (Γ:Bj):Zl Γ.K 204 "_own_legacy" =true:=by kernel_rfl
theorem pX (Γ:Bj):Uy Γ.K 204 "_own_legacy" =true:=by kernel_rfl
theorem mD (Γ:Bj):Zl Γ.K 204 "leaf" =true:=by kernel_rfl
theorem bS (Γ:Bj):dR Γ.K 204 "legacy_ro" 148 147=true:=by kernel_rfl
theorem uQ {W τ:List As} {τ':Ab->List As} {rx rd:Ak} {rs:Rs} {j:Nat} {Q:Ab->Ay->Prop} (nf:NF W G) (g:Gr G) (hA:Rm A 3) (hH:HS A ⟨W,τ⟩) (hj:j < G.length) (hx:(.obj rx,.inst 204 rd)∈(⟨W,τ⟩:Ay).all) (hl:rs.leaf=some (.ref (Fm G j))) (ho:rs.own=none)
  (U:∀v,Qw τ (.obj rd) (.ns rs.ns) (.ns (rs.withOwn v).ns) (τ' v)) (hx':∀v,(.obj rx,.inst 204 rd)∈(⟨W,τ' v⟩:Ay).all)
  (h:∀r t ks,ks.Nodup->(∀k,k∈ks↔Ht G j k)->Q (.ref r) ⟨W,(.obj r,.list (refs G ks))::(.obj t,.tup (refs G ks))::τ' (.ref t)⟩):TC Γ A ⟨W,τ⟩ (.ref 147) [.ref rx] [] Q:=by
 have hd:(.obj rd,.ns rs.ns)∈(⟨W,τ⟩:Ay).all:=(Iy.tau (W:=W) (U .none)).mem
 refine Oy (body:=fBody (clsStmt 8 7)) (bs:=[("self",.ref rx)]) ["self"] (oH Γ) (by kernel_rfl) hA.room (Gu.plain1 λ_ _=>Cg (by rfl)) (λL=>?_) (by rfl) (by rfl) (by decide) (by rfl) (by rfl) (by rfl) _ [] rfl rfl
 show T Γ _ ⟨W,(.var L "self",.val (some (.ref rx)))::τ⟩ _ _
 refine Am (Hs (Ar (Iz (Ac (v:=.ref rx) (by walk_at "mem") (fA (a:=.none) (by walk_at "memo") (by walk_at "memo") (pY Γ) (.inl (by rw [<-ho];walk_at "ns")) (Jt (Pp (by rfl) ⟨_,rfl,λ_=>?_,λh=>(by cases h)⟩)))))))
 refine Am (Dj (Bz (Az (v:=.type "tuple") (by kernel_rfl) (by decide+kernel) (by decide) ⟨.inr (.inr ⟨_,rfl⟩),?_⟩)))
 refine Ag (Bz (Bk (v:=.ref 42) (by kernel_rfl) ⟨.inl (by kernel_rfl),?_⟩))
 refine Ag (Iz (Ac (v:=.ref rx) (by walk_at "mem") (Pq (v:=.ref (Fm G j)) (by walk_at "memo") (by walk_at "memo") (mD Γ) (by rw [<-hl];exact .head _) ?_)))
 refine Ao λws hw=>(Ade nf g hA.deeper hH.cons hj (λb ks hn hk=>?_) ws hw).T
 have hlen:=sN g hj hn hk
 refine Ao (Fp (vs:=refs G ks) Bs (by rw [Bf];lia) λt=>?_)
 refine Ac (v:=.ref rx) (by walk_at "mem") (Gp (by walk_at "memo") (.tau (.there (.there (.there (U (.ref t)))))) (by walk_at "set") (pX Γ) ?_)
 refine Fb.go (Ci ?_)
 refine Fb.go ?_
 refine Am (Fj (Bz (Az (v:=.type "list") (by kernel_rfl) (by decide+kernel) (by decide) ⟨.inr (.inr ⟨_,rfl⟩),?_⟩)))
 have hd':(.obj rd,.ns (rs.withOwn (.ref t)).ns)∈(⟨W,τ' (.ref t)⟩:Ay).all:=by
  obtain⟨l₁,l₂,_,e⟩:=(U (.ref t)).split
  rw [e]
  exact Aa _ (Aa _ (.head _))
 have hx'':=hx' (.ref t)
 refine Ag (Iz (Ac (v:=.ref rx) (by walk_at "mem") (Pq (m:=(rs.withOwn (.ref t)).ns) (v:=.ref t) (by walk_at "memo") (by walk_at "memo") (Yb Γ) (by walk_at "ns") ?_)))
 refine Ao (Oj (vs:=refs G ks) (.of_mem (by walk_at "mem")) (by rw [Bf];lia) λr=>?_)
 exact⟨⟨W,(.obj r,.list (refs G ks))::(.obj t,.tup (refs G ks))::τ' (.ref t)⟩,As.le_sub (.cons_cons _ (.cons_cons _ (.cons _ (.cons _ (.refl _))))),h r t ks hn hk⟩
theorem uP {W τ:List As} {rx rd t:Ak} {rs:Rs} {vs:List Ab} {Q:Ab->Ay->Prop} (hA:Rm A 1) (hx:(.obj rx,.inst 204 rd)∈(⟨W,τ⟩:Ay).all) (hd:(.obj rd,.ns rs.ns)∈(⟨W,τ⟩:Ay).all) (ho:rs.own=some (.ref t)) (ht:Ew Γ ⟨W,τ⟩ t vs) (hz:vs.length<=1000000)
  (h:∀r,Q (.ref r) ⟨W,(.obj r,.list vs)::τ⟩):TC Γ A ⟨W,τ⟩ (.ref 147) [.ref rx] [] Q:=by
 refine Oy (body:=fBody (clsStmt 8 7)) (bs:=[("self",.ref rx)]) ["self"] (oH Γ) (by kernel_rfl) hA.room (Gu.plain1 λ_ _=>Cg (by rfl)) (λL=>?_) (by rfl) (by rfl) (by decide) (by rfl) (by rfl) (by rfl) _ [] rfl rfl
 show T Γ _ ⟨W,(.var L "self",.val (some (.ref rx)))::τ⟩ _ _
 have hm:(("_own_legacy" :Str),some (Bt t))∈rs.ns:=by rw [<-ho];walk_at "ns"
 refine Am (Hs (Ar (Iz (Ac (v:=.ref rx) (by walk_at "mem") (Pq (v:=.ref t) (by walk_at "memo") (by walk_at "memo") (Yb Γ) hm (Jt (Pp (by rfl) ⟨_,rfl,λh=>(by cases h),λ_=>?_⟩)))))))
 refine Ci ?_
 refine Fb.go ?_
 refine Am (Fj (Bz (Az (v:=.type "list") (by kernel_rfl) (by decide+kernel) (by decide) ⟨.inr (.inr ⟨_,rfl⟩),?_⟩)))
 refine Ag (Iz (Ac (v:=.ref rx) (by walk_at "mem") (Pq (v:=.ref t) (by walk_at "memo") (by walk_at "memo") (Yb Γ) hm ?_)))
 refine Ao (Oj (vs:=vs) ht.cons hz λr=>?_)
 exact⟨⟨W,(.obj r,.list vs)::τ⟩,As.le_sub (.cons_cons _ (.cons _ (.refl _))),h r⟩
end
end
section
section
variable {Γ:Bj} {A:Aw} {σ:Ay} {env:Env}
inductive Agh (Γ:Bj) (A:Aw) (K:Aw->Ay->Prop) (e:Ak) (σ':Ay):Prop
 |mk (t:Ak) (T:Ak) (ts:Array Ab) (W τ:List As) (h3:ts[3]? =some Dm) (le:As.le ⟨W,(.obj T,.raw (Zs ts))::(.obj e,.raw (Lg t (.ref T)))::τ⟩ σ') (hA:AF A ⟨W,τ⟩) (q:∀T ts,K (A.mark (some (.ref e))) ⟨W,(.obj T,.raw (Zs ts))::(.obj e,.raw (Lg t (.ref T)))::τ⟩)
theorem Adl {body orelse suite:List Jr} {b₀:Jr} {np hpos pos:Pos} {l:List Env} {L:Ak} {Q:Fv->Ay->Prop} (hl:A.frames=some (env::l)) (hf:env.frame=some L)
  (h:TX Γ A σ (Cm body env) (λf σ'=>(f=.next->T Γ A σ' (Cm orelse env) Q)/\(f≠.next->Q f σ')) (Agh Γ A λA' σ'=>Mine.T Γ A' σ' (Cm (b₀::suite) env) Q))
  (hk:autoParam (env.scope.kind=.function) aR) (hg:autoParam (env.globals=Gx) aR) (hx:autoParam (env.kindOf "_UseLegacyRO" =some .globalImplicit) aR):
  T Γ A σ (Mx (.Try body [.ExceptHandler (some (.Name "_UseLegacyRO" np)) none (b₀::suite) hpos] orelse [] pos) env) Q:=λs R=>by
 refine wpAny_Try_except (h.run R (λf s' σ' R' q=>?_) λa s' σ' R' z=>?_)
 ·cases f with
  |next=>exact q.1 rfl s' R'
  |_=>exact⟨σ',R',q.2 (λh=>nomatch h)⟩
 obtain⟨t,T,ts,W,τ,h3,le,hA,q⟩:=z
 refine Mine.T.go (Zf hA hl hf h3 λT ts h3 s₁ R₁ _ _=>Mine.T.go (Wt h3 λts h3 s₂ R₂ _ _=>?_) R₁) (le Γ s' R')
 refine wpAny_handleBy_cons (codeAny_handlers_test ?_) (by intro q;cases q)
 refine Mine.T.go (Bk (A:=A.mark (some (.ref a))) (v:=.ref 100) (by kernel_rfl) (λs₃ R₃ v e=>?_) hg hk hx (by decide)) R₂
 rw [Cc e]
 refine wpAny_excMatches_sub_self (h:=s₃.heap) (g:=s₃.gens) (d:=s₃.drawn) (t:=s₃.toks) (os:=s₃.os) (R₃.kin _ _ (xV Γ)) (R₃.ents _ (Eb Bs)).1 rfl (by decide+kernel:gU.contains (.type "BaseException")=true) ?_
 rw [if_pos rfl]
 exact codeAny_handlers_suite (Mine.T.go (Wt h3 λts h3 s₄ R₄ _ _=>(q T ts).elim R₄ λf s₅ σ₅ R₅ q=>⟨σ₅,R₅,q⟩) R₃)
end
end
section
section
variable {Γ:Bj} {A:Aw} {σ:Ay} {env:Env}
theorem dI {o:Aq} {attr:Str} {pos:Pos} {u c:Ab} {Q:Unit->Ay->Prop} (hu:cl u=c) (h:T Γ A σ (Dr o env) λco σ₂=>∀v ov,cl v=c->cl ov=co->T Γ A σ₂ (setAttr ov attr v) Q):T Γ A σ (Ij (.Attribute o attr pos) env u) Q:=λs R=>by
 rw [arm_assign_Attribute]
 refine Ad (Dz (h.elim R λov s₁ σ₁ R₁ q=>Ad (Eo (Ad (Dz ((q u ov hu rfl).elim R₁ λ_ s₂ σ₂ R₂ q₂=>?_))))))
 exact wpAny_release ⟨σ₂,R₂,q₂⟩
theorem gJ {t₁ t₂ value:Aq} {pos:Pos} {Q:Fv->Ay->Prop}
  (h:T Γ A σ (Dr value env) λc σ₁=>∀v,cl v=c->T Γ A σ₁ (Ij t₁ env v) λ_ σ₂=>T Γ A σ₂ (Ij t₂ env v) λ_=>Q .next)
  (he:autoParam ((assignEach [t₁,t₂] env).map (·.2)=[Ij t₁ env,Ij t₂ env]) aR)
  (hw:autoParam (swappedStores [t₁,t₂] value env=pure none) aR):T Γ A σ (Mx (.Assign [t₁,t₂] value pos) env) Q:=λs R=>
 wpAny_Assign_two (h.elim R λv s₁ σ₁ R₁ q=>(q v rfl).elim R₁ λ_ s₂ σ₂ R₂ q=>q.elim R₂ λ_ s₃ σ₃ R₃ q=>⟨σ₃,R₃,q⟩) he hw
end
theorem wJ (Γ:Bj):Γ.K.lookup 194=some ⟨.type "function",none,.func (Ka Γ 194 "C3._merge" (clsStmt 8 13) (.ref 193) .none),#[]⟩:=by kernel_rfl
theorem mC (Γ:Bj):Sh Γ.K 204 "_choose_next_base" 173=true:=by kernel_rfl
theorem lS (Γ:Bj):gP Γ.K 204 "_nonempty_bases_ignoring" 165 163=true:=by kernel_rfl
theorem Uw (Γ:Bj):Uy Γ.K 204 "_mro" =true:=by kernel_rfl
theorem lR (Γ:Bj):Zl Γ.K 204 "base_tree" =true:=by kernel_rfl
noncomputable abbrev Rs.withMro (rs:Rs) (v:Ab):Rs:={rs with mro:=some v}
structure xS (G:List Nd) (ls₀:List (List Nat)) (acc:List Nat) (ig:Option Nat) (ls:List (List Nat)):Prop where
 nodup:acc.Nodup
 lt:∀k∈acc,k < G.length
 apart:∀l∈Vj ig ls,∀k∈l,k∉acc
 all:∀k,(∃l∈ls₀,k∈l)↔k∈acc\/∃l∈Vj ig ls,k∈l
 bd:∀l∈ls,l.length<=1000/\∀i∈l,i < G.length
 ig:∀j,ig=some j->j < G.length
 few:ls.length<=1000
theorem Uh {ig:Option Nat} {l:List Nat} {k:Nat}:k∈Tf ig l↔k∈l/\some k≠ig:=by
 unfold Tf;rw [Cs,decide_eq_true_iff]
theorem Wj {ig:Option Nat} {ls:List (List Nat)} {l:List Nat}:l∈Vj ig ls↔l≠[]/\∃m∈ls,Tf ig m=l:=by
 unfold Vj
 rw [Cs,Bn]
 constructor
 ·rintro⟨⟨m,hm,e⟩,h⟩;exact⟨by intro q;rw [q]at h;simp at h,m,hm,e⟩
 ·rintro⟨h,m,hm,e⟩;exact⟨⟨m,hm,e⟩,by cases l<;>simp at h ⊢⟩
theorem eF {ig:Option Nat} {ls:List (List Nat)} {k:Nat}:(∃l∈Vj ig ls,k∈l)↔(∃l∈ls,k∈l)/\some k≠ig:=by
 constructor
 ·rintro⟨l,hl,hk⟩
  obtain⟨_,m,hm,rfl⟩:=Wj.mp hl
  exact⟨⟨m,hm,(Uh.mp hk).1⟩,(Uh.mp hk).2⟩
 ·rintro⟨⟨m,hm,hk⟩,h⟩
  have hk':=Uh.mpr ⟨hk,h⟩
  exact⟨Tf ig m,Wj.mpr ⟨λq=>by rw [q]at hk';(cases hk'),m,hm,rfl⟩,hk'⟩
theorem xS.start {G:List Nd} {ls:List (List Nat)} (h:∀l∈ls,l.length<=1000/\∀i∈l,i < G.length) (hf:ls.length<=1000):xS G ls [] none ls:=
 ⟨.nil,λ_ h=>(by cases h),λ_ _ _ _ h=>(by cases h),λk=>(by rw [eF];simp),h,λ_ h=>(by cases h),hf⟩
theorem xS.clean {G:List Nd} {ls₀ ls:List (List Nat)} {acc:List Nat} {ig:Option Nat} (m:xS G ls₀ acc ig ls):∀l∈Vj ig ls,l≠[]/\l.length<=1000/\∀i∈l,i < G.length:=λl hl=>by
 obtain⟨h0,m',hm,rfl⟩:=Wj.mp hl
 obtain⟨h1,h2⟩:=m.bd m' hm
 exact⟨h0,Bw (Bu _ _) h1,λi hi=>h2 i (Uh.mp hi).1⟩
theorem xS.next {G:List Nd} {ls₀ ls:List (List Nat)} {acc:List Nat} {ig:Option Nat} (m:xS G ls₀ acc ig ls) {l:List Nat} {j:Nat} {r:List Nat} (hl:l∈Vj ig ls) (e:l=j::r):xS G ls₀ (acc++[j]) (some j) (Vj ig ls):=by
 have hj:j∈l:=by rw [e];exact .head _
 have hna:=m.apart l hl j hj
 have hlt:=(m.clean l hl).2.2 j hj
 refine⟨?_,λk hk=>?_,λl' hl' k hk hka=>?_,λk=>?_,λl hl=>(m.clean l hl).2,λi hi=>(by cases hi;exact hlt),?_⟩
 ·rw [Hz]
  exact⟨m.nodup,Ey.mpr ⟨by simp,.nil⟩,λa ha b hb=>by rw [Be.mp hb];intro q;exact hna (q▸ha)⟩
 ·rcases Ai.mp hk with h|h
  ·exact m.lt k h
  ·rw [Be.mp h];exact hlt
 ·obtain⟨_,m',hm,rfl⟩:=Wj.mp hl'
  obtain⟨h1,h2⟩:=Uh.mp hk
  rcases Ai.mp hka with h|h
  ·exact m.apart m' hm k h1 h
  ·exact h2 (by rw [Be.mp h])
 ·rw [m.all,eF (ig:=some j),Ai,Be]
  constructor
  ·rintro(h|h)
   ·exact .inl (.inl h)
   ·by_cases q:k=j
    ·exact .inl (.inr q)
    ·exact .inr ⟨h,λe=>q (Dh e)⟩
  ·rintro((h|h)|h)
   ·exact .inl h
   ·exact .inr ⟨l,hl,h▸hj⟩
   ·exact .inr h.1
 ·unfold Vj
  refine Bw (Bu _ _) ?_
  rw [Ap];exact m.few
end
section
theorem Rm.mark {A:Aw} {n:Nat} {h:Option Ab} (r:Rm A n):Rm (A.mark h) n:=⟨r.depth,r.units⟩
section
variable {Γ:Bj} {A:Aw} {G:List Nd} {σ:Ay}
noncomputable abbrev Yu (L:Ak) (rx R b:Ab) (ig:Ab) (τ:List As):List As:=(.var L "self",.val (some rx))::(.var L "result",.val (some R))::(.var L "base_tree_remaining",.val (some b))::(.var L "base",.val (some ig))::τ
inductive Aff (G:List Nd) (W:List As) (L rx R:Ak) (T0:List As) (ls:List (List Nat)) (n:Nat) (σ:Ay):Prop
 |mk (acc:List Nat) (ig:Option Nat) (ls':List (List Nat)) (b:Ak) (ρ:List As) (hn:n=G.length - acc.length) (m:xS G ls acc ig ls') (e:σ=⟨W,ρ++((.obj R,.list (refs G acc))::Yu L (.ref rx) (.ref R) (.ref b) (dP G ig) T0)⟩) (t:Sg G ⟨W,ρ++T0⟩ b ls')
theorem wY {W:List As} {τ':Rs->List As} {rx rd a:Ak} {rs:Rs} {j:Nat} {ls:List (List Nat)} {Q:Ab->Ay->Prop} (nf:NF W G) (g:Gr G) (J:oS G) (hA:Rm A 6) (hh:A.handled=none) (hF:∀r,AF A ⟨W,τ' r⟩) (hx:∀r,(.obj rx,.inst 204 rd)∈(⟨W,τ' r⟩:Ay).all)
  (U:∀r₁ r₂:Rs,Qw (τ' r₁) (.obj rd) (.ns r₁.ns) (.ns r₂.ns) (τ' r₂)) (hl:rs.leaf=some (.ref (Fm G j))) (hj:j < G.length) (ho:rs.own=none) (ht:rs.tree=some (.ref a)) (hT:∀r,Sg G ⟨W,τ' r⟩ a ls) (hls:∀l∈ls,l.length<=1000/\∀i∈l,i < G.length) (hf:ls.length<=1000)
  (h:∀r ρ ks rs',ks.Nodup->(∀k∈ks,k < G.length)->((∀k,k∈ks↔∃l∈ls,k∈l)\/∀k,k∈ks↔Ht G j k)->(.obj r,.list (refs G ks))∈(⟨W,ρ++τ' rs'⟩:Ay).all->Q (.ref r) ⟨W,ρ++τ' rs'⟩):∀ws,ws.map cl=[.ref rx]->TC Γ A ⟨W,τ' rs⟩ (.ref 194) ws [] Q:=λws hw=>by
 refine Oy (body:=fBody (clsStmt 8 13)) (bs:=[("self",.ref rx)]) ["self","result","base_tree_remaining","base"] (wJ Γ) (by kernel_rfl) hA.room (Gu.plain1 λ_ _=>Cg (by rfl)) (λL=>?_) (by rfl) (by rfl) (by decide) (by rfl) (by rfl) (by rfl) ws [] hw rfl
 show T Γ (A.deeper (Gk "C3._merge" (fScope (clsStmt 8 13)) L 194 (.ref 193) [])) ⟨W,(.var L "self",.val (some (.ref rx)))::(.var L "result",.val none)::(.var L "base_tree_remaining",.val none)::(.var L "base",.val none)::τ' rs⟩ (Cm _ (Gk "C3._merge" (fScope (clsStmt 8 13)) L 194 (.ref 193) [])) _
 have hA':Rm (A.deeper (Gk "C3._merge" (fScope (clsStmt 8 13)) L 194 (.ref 193) [])) 5:=hA.deeper
 have hd:∀r:Rs,(.obj rd,.ns r.ns)∈(⟨W,τ' r⟩:Ay).all:=λr=>(Iy.tau (W:=W) (U r r)).mem
 have hd0:=hd rs
 have hx0:=hx rs
 refine Am (gJ (Hv (Ao ⟨by rw [Av];exact Ca _,λR v hv=>?_⟩)))
 refine Ct hv (by walk_at "upd") (dI hv (Ac (v:=.ref rx) (by walk_at "mem") (Gp (by walk_at "memo") (.tau (.there (.there (.there (.there (.there (U rs (rs.withMro (.ref R))))))))) (by walk_at "set") (Uw Γ) ?_)))
 refine Fb.go ?_
 have hd1:=hd (rs.withMro (.ref R))
 have hx1:=hx (rs.withMro (.ref R))
 refine Am (Bl (Iz (Ac (v:=.ref rx) (by walk_at "mem") (Pq (m:=(rs.withMro (.ref R)).ns) (v:=.ref a) (by walk_at "memo") (by walk_at "memo") (lR Γ) (by rw [<-ht];walk_at "ns") ⟨_,_,by walk_at "upd",?_⟩))))
 refine Fb.go ?_
 refine Am (Bl (Jt ⟨_,_,by walk_at "upd",?_⟩))
 refine Fb.go ?_
 refine Am (oN (Aff G W L rx R (τ' (rs.withMro (.ref R))) ls) G.length ⟨[],none,ls,a,[],rfl,.start hls hf,rfl,hT _⟩ λn σ z=>?_)
 obtain⟨acc,ig,ls',b,ρ,hn,m,e,hTb₀⟩:=z
 rw [e]
 have hTb:Sg G ⟨W,ρ++((.obj R,.list (refs G acc))::Yu L (.ref rx) (.ref R) (.ref b) (dP G ig) (τ' (rs.withMro (.ref R))))⟩ b ls':=hTb₀.sub λp hp=>(Ai.mp hp).elim (Af _) λh=>Aa _ ((Ai.mp h).elim (Af _) λh=>Aa _ (Aa [_,_,_,_,_] h))
 refine Ej (Dd (Xi ⟨λ_=>?_,λh=>(by cases h)⟩))
 refine Am (Bl (Fi (Ac (v:=.ref rx) (by walk_at "mem") (cI (by walk_at "memo") (by walk_at "memo") (lS Γ) (by show _∉Ti;decide) ⟨.inl (by kernel_rfl),?_⟩))))
 refine Ag (Ac (v:=.ref b) (by walk_at "mem") (Ag (Ac (v:=dP G ig) (by walk_at "mem") (Ao λws hw=>?_))))
 refine(zP nf J (hA'.le (by decide)) hh hTb m.bd m.few m.ig (λb' ρ' hT'=>⟨_,_,by walk_at "upd",?_⟩) ws hw).T
 refine Fb.go ?_
 have hcl:=m.clean
 have hT2:Sg G ⟨W,ρ'++(ρ++((.obj R,.list (refs G acc))::Yu L (.ref rx) (.ref R) (.ref b') (dP G ig) (τ' (rs.withMro (.ref R)))))⟩ b' (Vj ig ls'):=by
  exact hT'.sub λp hp=>Aa _ (Af _ (Ai.mp hp |>.elim (λh=>by cases h) id))
 obtain⟨ps,t1,t2,_⟩:=id hT2
 have has:ps.length<=1000:=by
  rw [<-Ap (f:=(·.2)),t2]
  unfold Vj
  refine Bw (Bu _ _) ?_
  rw [Ap];exact m.few
 have fin:∀r' ks (ρ₂:List As) rs' X,X=ρ₂++τ' rs'->ks.Nodup->(∀k∈ks,k < G.length)->((∀k,k∈ks↔∃l∈ls,k∈l)\/∀k,k∈ks↔Ht G j k)->(.obj r',.list (refs G ks))∈X->Ja Q (.ret (.ref r')) ⟨W,X⟩:=λr' ks ρ₂ rs' X e h1 h2 h3 h4=>by
  subst e
  exact⟨_,As.le_refl _,h r' ρ₂ ks rs' h1 h2 h3 (Aa _ h4)⟩
 refine Am (Hs (Nh (Ej (Ac (v:=.ref b') (by walk_at "mem") (Oo (vs:=Tr.vs ps) t1 (by rw [Ap];lia) ⟨λhb=>?_,λhb=>?_⟩)))))
 ·have hnil:Vj ig ls'=[]:=by
   rw [<-t2]
   cases ps with
   |nil=>rfl
   |cons _ _=>cases (hb:false=true)
  refine Am (Fj (Ac (v:=.ref R) (by walk_at "mem") ?_))
  refine fin R acc (ρ'++ρ++[(.obj R,.list (refs G acc)),(.var L "self",.val (some (.ref rx))),(.var L "result",.val (some (.ref R))),(.var L "base_tree_remaining",.val (some (.ref b'))),(.var L "base",.val (some (dP G ig)))]) (rs.withMro (.ref R)) _ (by simp [Yu]) m.nodup m.lt (.inl λk=>?_) ?_
  ·have:=m.all k
   rw [hnil]at this
   simpa using this.symm
  ·exact Aa _ (Aa _ (.head _))
 ·refine Ci ?_
  refine Fb.go ?_
  obtain⟨l,el,_⟩:=id (hF rs)
  have hFw:∀rs':Rs,AF (A.deeper (Gk "C3._merge" (fScope (clsStmt 8 13)) L 194 (.ref 193) [])) ⟨W,ρ'++(ρ++((.obj R,.list (refs G acc))::Yu L (.ref rx) (.ref R) (.ref b') (dP G ig) (τ' rs')))⟩:=λrs'=>
   (hF rs').push rfl rfl (L:=L) (x:="self") (c:=some (.ref rx)) (by walk_at "mem") λp hp=>Aa _ (Aa _ (.tail _ (.tail _ (.tail _ (.tail _ (.tail _ hp))))))
  refine Am (Adl (Np el) rfl ?_)
  refine Tk (Zr (oP (Ac (v:=.ref rx) (by walk_at "mem") (Pd (by walk_at "memo") (by walk_at "memo") (mC Γ) (by show _∉Ti;decide) ⟨.inl (by kernel_rfl),?_⟩))))
  refine Ag (Ac (v:=.ref b') (by walk_at "mem") (Ao λws hw=>?_))
  refine(uR (rs:=rs.withMro (.ref R)) nf (hA'.le (by decide)) hh (hFw _) (by walk_at "memo") hl (by rfl)
   (λv=>.pre (.pre (.there (.there (.there (.there (.there (U (rs.withMro (.ref R)) ((rs.withMro (.ref R)).withDir v))))))))) hT2 hcl (λl' hl' k r e1=>?_) ws hw).X.exc λx s' σ' R' z=>?_
  ·refine⟨_,_,by walk_at "upd",λ_=>Aaa ⟨λ_=>Ci ?_,λh=>absurd rfl h⟩,λh=>absurd rfl h⟩
   have hz:(refs G acc).length<=Gg:=by
    have:=Gh _ _ m.nodup m.lt
    have:=g.few
    rw [Bf,Av];lia
   have mn:=m.next hl' e1
   refine Fb.go ?_
   refine Am (Fy (Fi (Ac (v:=.ref R) (by walk_at "mem") (Cz Cr Dp Do (Ik (vs:=refs G acc) (by walk_at "mem")) ⟨.inr (.inl ⟨_,rfl⟩),?_⟩))))
   refine Ag (Ac (v:=.ref (Fm G k)) (by walk_at "mem") (Ao (Lo (by walk_at "upd") hz ?_)))
   refine Fb.go ?_
   have hlt:G.length - (acc++[k]).length < G.length - acc.length:=by
    have:=Gh _ _ mn.nodup mn.lt
    rw [Ah,Bo]at this ⊢
    lia
   refine Ci ⟨_,_,hn▸hlt,As.le_refl _,acc++[k],some k,Vj ig ls',b',ρ'++ρ,rfl,mn,?_,?_⟩
   ·rw [Rp,Ax];rfl
   ·exact hT'.sub λp hp=>Aa _ (Af _ (Af _ (Ai.mp hp |>.elim (λh=>by cases h) id)))
  ·obtain⟨t,T,ts,y,h3,le⟩:=z
   refine⟨x,σ',rfl,R',t,T,ts,_,_,h3,le,hFw _,λT ts=>?_⟩
   have hd2:=hd ((rs.withMro (.ref R)).withDir (.ref y))
   have hx2:=hx ((rs.withMro (.ref R)).withDir (.ref y))
   have hHS:HS ((A.deeper (Gk "C3._merge" (fScope (clsStmt 8 13)) L 194 (.ref 193) [])).mark (some (.ref x))) ⟨W,(.obj T,.raw (Zs ts))::(.obj x,.raw (Lg t (.ref T)))::(ρ'++(ρ++((.obj R,.list (refs G acc))::Yu L (.ref rx) (.ref R) (.ref b') (dP G ig) (τ' ((rs.withMro (.ref R)).withDir (.ref y))))))⟩:=⟨x,t,.ref T,rfl,Eb Bs⟩
   have hA2:Rm (((A.deeper (Gk "C3._merge" (fScope (clsStmt 8 13)) L 194 (.ref 193) [])).mark (some (.ref x))).in1) 4:=hA'.mark.in1
   refine Am (Dj (Iz (Ac (v:=.ref rx) (by walk_at "mem") (cJ (by walk_at "memo") (by walk_at "memo") (bS Γ) ?_))))
   refine uQ (rs:=(rs.withMro (.ref R)).withDir (.ref y)) (τ':=λv=>(.obj T,.raw (Zs ts))::(.obj x,.raw (Lg t (.ref T)))::(ρ'++(ρ++((.obj R,.list (refs G acc))::Yu L (.ref rx) (.ref R) (.ref b') (dP G ig) (τ' (((rs.withMro (.ref R)).withDir (.ref y)).withOwn v)))))) nf g (hA2.le (by decide)) hHS hj (by walk_at "memo") hl ho
    (λv=>.there (.there (.pre (.pre (.there (.there (.there (.there (.there (U _ (((rs.withMro (.ref R)).withDir (.ref y)).withOwn v))))))))))) (λv=>by have:=hx (((rs.withMro (.ref R)).withDir (.ref y)).withOwn v);walk_at "memo") λr1 t1 ks hn hk=>⟨rfl,?_⟩
   refine Ac (v:=.ref rx) (by walk_at "mem") (Gp (m:=(((rs.withMro (.ref R)).withDir (.ref y)).withOwn (.ref t1)).ns) (m':=((((rs.withMro (.ref R)).withDir (.ref y)).withOwn (.ref t1)).withMro (.ref r1)).ns) (by have:=hx (((rs.withMro (.ref R)).withDir (.ref y)).withOwn (.ref t1));walk_at "memo") (.tau (.there (.there (.there (.there (.pre (.pre (.there (.there (.there (.there (.there (U _ ((((rs.withMro (.ref R)).withDir (.ref y)).withOwn (.ref t1)).withMro (.ref r1))))))))))))))) (by walk_at "set") (Uw Γ) ?_)
   refine Fb.go ?_
   have hd3:=hd ((((rs.withMro (.ref R)).withDir (.ref y)).withOwn (.ref t1)).withMro (.ref r1))
   have hx3:=hx ((((rs.withMro (.ref R)).withDir (.ref y)).withOwn (.ref t1)).withMro (.ref r1))
   refine Am (Fj (Iz (Ac (v:=.ref rx) (by walk_at "mem") (cJ (by walk_at "memo") (by walk_at "memo") (bS Γ) ?_))))
   have hlen:=sN g hj hn hk
   refine uP (rs:=(((rs.withMro (.ref R)).withDir (.ref y)).withOwn (.ref t1)).withMro (.ref r1)) (t:=t1) (vs:=refs G ks) (hA2.le (by decide)) (by walk_at "memo") (by walk_at "memo") rfl (.of_mem (Eb Bs)) (by rw [Bf];lia) λr2=>⟨rfl,?_⟩
   refine fin r2 ks ((.obj r2,.list (refs G ks))::(.obj r1,.list (refs G ks))::(.obj t1,.tup (refs G ks))::(.obj T,.raw (Zs ts))::(.obj x,.raw (Lg t (.ref T)))::(ρ'++ρ++[(.obj R,.list (refs G acc)),(.var L "self",.val (some (.ref rx))),(.var L "result",.val (some (.ref R))),(.var L "base_tree_remaining",.val (some (.ref b'))),(.var L "base",.val (some (dP G ig)))])) ((((rs.withMro (.ref R)).withDir (.ref y)).withOwn (.ref t1)).withMro (.ref r1)) _ (by simp [Yu]) hn (λk hk'=>Hk (((hk k).mp hk').le g) hj) (.inr hk) (.head _)
end
end
section
theorem sQ (Γ:Bj):Γ.K.lookup 201=some ⟨.type "function",none,.func (Ka Γ 201 "C3.mro" (clsStmt 8 14) (.ref 200) .none),#[]⟩:=by kernel_rfl
theorem qA (Γ:Bj):Sh Γ.K 204 "_merge" 194=true:=by kernel_rfl
theorem pZ (Γ:Bj):gO Γ.K 204 "_mro" .none=true:=by kernel_rfl
theorem Yc (Γ:Bj):Zl Γ.K 204 "_mro" =true:=by kernel_rfl
section
variable {Γ:Bj} {A:Aw} {G:List Nd} {σ:Ay}
theorem zR {W:List As} {τ':Rs->List As} {rx rd a:Ak} {rs:Rs} {j:Nat} {ls:List (List Nat)} {Q:Ab->Ay->Prop} (nf:NF W G) (g:Gr G) (J:oS G) (hA:Rm A 7) (hh:A.handled=none) (hF:∀r,AF A ⟨W,τ' r⟩) (hx:∀r,(.obj rx,.inst 204 rd)∈(⟨W,τ' r⟩:Ay).all)
  (U:∀r₁ r₂:Rs,Qw (τ' r₁) (.obj rd) (.ns r₁.ns) (.ns r₂.ns) (τ' r₂)) (hm:rs.mro=none) (hl:rs.leaf=some (.ref (Fm G j))) (hj:j < G.length) (ho:rs.own=none) (ht:rs.tree=some (.ref a)) (hT:∀r,Sg G ⟨W,τ' r⟩ a ls) (hls:∀l∈ls,l.length<=1000/\∀i∈l,i < G.length) (hf:ls.length<=1000)
  (h:∀r ρ ks rs',ks.Nodup->(∀k∈ks,k < G.length)->((∀k,k∈ks↔∃l∈ls,k∈l)\/∀k,k∈ks↔Ht G j k)->Q (.ref r) ⟨W,(.obj r,.list (refs G ks))::(ρ++τ' rs')⟩):∀ws,ws.map cl=[.ref rx]->TC Γ A ⟨W,τ' rs⟩ (.ref 201) ws [] Q:=λws hw=>by
 refine Oy (body:=fBody (clsStmt 8 14)) (bs:=[("self",.ref rx)]) ["self"] (sQ Γ) (by kernel_rfl) hA.room (Gu.plain1 λ_ _=>Cg (by rfl)) (λL=>?_) (by rfl) (by rfl) (by decide) (by rfl) (by rfl) (by rfl) ws [] hw rfl
 show T Γ (A.deeper (Gk "C3.mro" (fScope (clsStmt 8 14)) L 201 (.ref 200) [])) ⟨W,(.var L "self",.val (some (.ref rx)))::τ' rs⟩ (Cm _ (Gk "C3.mro" (fScope (clsStmt 8 14)) L 201 (.ref 200) [])) _
 have hA':Rm (A.deeper (Gk "C3.mro" (fScope (clsStmt 8 14)) L 201 (.ref 200) [])) 6:=hA.deeper
 have hd:∀r:Rs,(.obj rd,.ns r.ns)∈(⟨W,τ' r⟩:Ay).all:=λr=>(Iy.tau (W:=W) (U r r)).mem
 have hd0:=hd rs
 have hx0:=hx rs
 refine Am (Hs (Ar (Iz (Ac (v:=.ref rx) (by walk_at "mem") (fA (a:=.none) (by walk_at "memo") (by walk_at "memo") (pZ Γ) (.inl (by rw [<-hm];walk_at "ns")) (Jt (Pp (by rfl) ⟨_,rfl,λ_=>?_,λh=>(by cases h)⟩)))))))
 refine Am (Dj (Bz (Az (v:=.type "tuple") (by kernel_rfl) (by decide+kernel) (by decide) ⟨.inr (.inr ⟨_,rfl⟩),?_⟩)))
 refine Ag (Fi (Ac (v:=.ref rx) (by walk_at "mem") (Pd (by walk_at "memo") (by walk_at "memo") (qA Γ) (by show _∉Ti;decide) ⟨.inl (by kernel_rfl),Ao λws hw=>?_⟩)))
 refine(wY (τ':=λr=>(.var L "self",.val (some (.ref rx)))::τ' r) nf g J hA' hh (λr=>(hF r).push rfl rfl (L:=L) (x:="self") (c:=some (.ref rx)) (by walk_at "mem") λp hp=>.tail _ hp) (λr=>Eb (hx r)) (λr₁ r₂=>.there (U r₁ r₂)) hl hj ho ht (λr=>(hT r).ext (ρ:=[_])) hls hf (λb ρ ks rs' hn hlt hk hb=>?_) ws hw).T
 have hlen:=Bw (Gh _ _ hn hlt) g.few
 refine Ao (Fp (vs:=refs G ks) hb (by rw [Bf];lia) λt=>?_)
 have hd1:=hd rs'
 have hx1:=hx rs'
 refine Ac (v:=.ref rx) (by walk_at "mem") (Gp (m:=rs'.ns) (m':=(rs'.withMro (.ref t)).ns) (by walk_at "memo") (.tau (.there (.pre (.there (U rs' (rs'.withMro (.ref t))))))) (by walk_at "set") (Uw Γ) ?_)
 refine Fb.go (Ci ?_)
 refine Fb.go ?_
 have hd2:=hd (rs'.withMro (.ref t))
 have hx2:=hx (rs'.withMro (.ref t))
 refine Am (Fj (Bz (Az (v:=.type "list") (by kernel_rfl) (by decide+kernel) (by decide) ⟨.inr (.inr ⟨_,rfl⟩),?_⟩)))
 refine Ag (Iz (Ac (v:=.ref rx) (by walk_at "mem") (Pq (m:=(rs'.withMro (.ref t)).ns) (v:=.ref t) (by walk_at "memo") (by walk_at "memo") (Yc Γ) (by walk_at "ns") ?_)))
 refine Ao (Oj (vs:=refs G ks) (.of_mem Bs) (by rw [Bf];lia) λr=>?_)
 have:=h r ((.obj t,.tup (refs G ks))::(ρ++[(.var L "self",.val (some (.ref rx)))])) ks (rs'.withMro (.ref t)) hn hlt hk
 exact⟨_,As.le_refl _,by simpa using this⟩
theorem zQ {W τ:List As} {rx rd t:Ak} {rs:Rs} {vs:List Ab} {Q:Ab->Ay->Prop} (hA:Rm A 1) (hx:(.obj rx,.inst 204 rd)∈(⟨W,τ⟩:Ay).all) (hd:(.obj rd,.ns rs.ns)∈(⟨W,τ⟩:Ay).all) (hm:rs.mro=some (.ref t)) (ht:(.obj t,.list vs)∈(⟨W,τ⟩:Ay).all) (hz:vs.length<=1000000)
  (h:∀r,Q (.ref r) ⟨W,(.obj r,.list vs)::τ⟩):∀ws,ws.map cl=[.ref rx]->TC Γ A ⟨W,τ⟩ (.ref 201) ws [] Q:=λws hw=>by
 refine Oy (body:=fBody (clsStmt 8 14)) (bs:=[("self",.ref rx)]) ["self"] (sQ Γ) (by kernel_rfl) hA.room (Gu.plain1 λ_ _=>Cg (by rfl)) (λL=>?_) (by rfl) (by rfl) (by decide) (by rfl) (by rfl) (by rfl) ws [] hw rfl
 show T Γ _ ⟨W,(.var L "self",.val (some (.ref rx)))::τ⟩ _ _
 have hm':(("_mro" :Str),some (Bt t))∈rs.ns:=by rw [<-hm];walk_at "ns"
 refine Am (Hs (Ar (Iz (Ac (v:=.ref rx) (by walk_at "mem") (Pq (v:=.ref t) (by walk_at "memo") (by walk_at "memo") (Yc Γ) hm' (Jt (Pp (by rfl) ⟨_,rfl,λh=>(by cases h),λ_=>?_⟩)))))))
 refine Ci ?_
 refine Fb.go ?_
 refine Am (Fj (Bz (Az (v:=.type "list") (by kernel_rfl) (by decide+kernel) (by decide) ⟨.inr (.inr ⟨_,rfl⟩),?_⟩)))
 refine Ag (Iz (Ac (v:=.ref rx) (by walk_at "mem") (Pq (v:=.ref t) (by walk_at "memo") (by walk_at "memo") (Yc Γ) hm' ?_)))
 refine Ao (Uq (vs:=vs) (Eb ht) hz λr=>?_)
 exact⟨⟨W,(.obj r,.list vs)::τ⟩,As.le_sub (.cons_cons _ (.cons _ (.refl _))),h r⟩
end
end
section
noncomputable def Hn (M:Model) (A:Aw) (Φ:End->Ba->Prop) (c:Code) (t:Sem Gb) (fs:List Frame) (s:Ba):Prop:=
 ∀Γ p,Γ.code=c->Γ.Woken A->∃e s',Runs M Γ p t fs s e s'/\Φ e s'
section
variable {M:Model} {A:Aw} {Φ:End->Ba->Prop} {c:Code} {fs:List Frame} {s:Ba}
theorem pD {t:Sem Gb} {Ψ:End->Ba->Prop} (h:Hn M A Φ c t fs s) (k:∀e s',Φ e s'->Ψ e s'):Hn M A Ψ c t fs s:=λΓ p e hΓ=>
 let ⟨x,s',hr,hx⟩:=h Γ p e hΓ;⟨x,s',hr,k _ _ hx⟩
theorem Sw {α:Type} {m:Sem α} {K:α->Sem Gb} {H:Ab->Sem Gb} {gd lv}
  (h:Cp M (A.over c fs) m (λa s'=>Hn M A Φ c (K a) fs s') (λx s'=>Hn M A Φ c (H x) fs s') s):Hn M A Φ c (m.wrap K H gd lv) fs s:=by
 rintro Γ p rfl hΓ
 exact runs_wrap_of_wp K H gd lv m (h (Γ.over fs) p (hΓ.over fs)) (λa p' s' h'=>h' Γ p' rfl hΓ) (λx p' s' h'=>h' Γ p' rfl hΓ)
theorem Dk {α β:Type} {m:Sem α} {K:α->Sem β} {K':β->Sem Gb} {H':Ab->Sem Gb} {gd lv}
  (h:Cp M (A.over c fs) m (λa s'=>Hn M A Φ c ((K a).wrap K' H' gd lv) fs s') (λx s'=>Hn M A Φ c (H' x) fs s') s):Hn M A Φ c ((m>>=K).wrap K' H' gd lv) fs s:=by
 rw [Iu,Mn];exact Sw h
theorem fN {p':Pos} {k:Unit->Sem Gb} (h:Hn M A Φ c (k ()) fs s):Hn M A Φ c (.at p' k) fs s:=
 Sw (m:=Mr p') (K:=k) (H:=.raise) (gd:=id) (lv:=id) (Eo h)
theorem lH {l:List Ab} {k:Unit->Sem Gb} (h:Hn M A Φ c (k ()) fs s):Hn M A Φ c (.point l k) fs s:=
 Sw (m:=point) (K:=k) (H:=.raise) (gd:=id) (lv:=λ_=>l) (wpAny_point h)
theorem pF {c':Code} {h g l} {k:Kw->Sem Gb} (hc:∀p,Hn M A Φ c' (M.den c') (.ret k h g l c p []::fs) s):Hn M A Φ c (.call c' h g l k) fs s:=by
 rintro Γ p rfl hΓ
 obtain⟨e,s',hr,he⟩:=hc p (Γ.goto c') p rfl (hΓ.goto c')
 exact⟨e,s',runs_call_seg hr,he⟩
theorem pE {k h g l c₁ p₁ kp} (r:Kw) (hk:Hn M A Φ c₁ (k r) fs s):Hn M A Φ c (leafOf r) (.ret k h g l c₁ p₁ kp::fs) s:=by
 rintro Γ p rfl hΓ
 obtain⟨e,s',hr,he⟩:=hk (Γ.goto c₁) p₁ rfl (hΓ.goto c₁)
 exact⟨e,s',Runs.pop r hr,he⟩
theorem Pc {c':Code} (hq:c'.quiet=true) (hc:Hn M A Φ c' (M.den c') fs s):Hn M A Φ c (.pure (.again c')) fs s:=by
 rintro Γ p rfl hΓ
 obtain⟨e,s',hr,he⟩:=hc (Γ.goto c') p rfl (hΓ.goto c')
 exact⟨e,s',Runs.head (c₁:=c') (λ_ _ x=>.again hq x) hr,he⟩
theorem aQ (r:Kw) (h:Φ (.ret r) s):Hn M A Φ c (leafOf r) [] s:=by
 rintro Γ p rfl _
 exact⟨.ret r,s,Runs.leaf r,h⟩
theorem bI {v g l} {k:Resume->Sem Gb} (hfs:splitAtGen fs=none) (h:∀p,Φ (.susp v g l k c p fs) s):Hn M A Φ c (.yield v g l k) fs s:=by
 rintro Γ p rfl _
 exact⟨_,s,Runs.yield' fs hfs,h p⟩
noncomputable def Yx (M:Model) (A:Aw) (Φ:End->Ba->Prop) (gs:Ju) (s:Ba):Prop:=match gs with
 |.fresh c=>Hn M A Φ c (M.den c) [] s
 |.suspended k _ c _ fs _=>Hn M A Φ c (k (.send .none)) fs s
 |_=>False
theorem Yx.mono {gs:Ju} {Ψ:End->Ba->Prop} (h:Yx M A Φ gs s) (k:∀e s',Φ e s'->Ψ e s'):Yx M A Ψ gs s:=by
 cases gs<;>first|exact pD h k|exact h.elim
theorem vX {E:Ab->Ba->Prop} {g:Nat} {gs:Ju} {l:List Ab} {α:Type} {k:GenResult->Sem α} {Q:α->Ba->Prop} (hg:s.gens[g]? =some gs)
  (hgo:Yx M A (λe s₁=>e.quiet=true/\Cp M A (k e.result) Q E (s₁.setGen g e.genState)) gs (s.setGen g .running)):Cp M A (.resume g (.send .none) l k) Q E s:=by
 intro Γ p hΓ
 rw [Sem.wp_resume]
 cases gs with
 |fresh c=>
  obtain⟨e₁,s₁,hr,hq,he⟩:=hgo (Γ.wake c p) p rfl (hΓ.wake c p)
  exact⟨_,_,by unfold Wakes;rw [hg];exact⟨e₁,s₁,hr,hq,rfl,rfl⟩,he Γ p hΓ⟩
 |suspended k₀ l₀ c₀ p₀ fs₀ cl=>
  obtain⟨e₁,s₁,hr,hq,he⟩:=hgo (Γ.wake c₀ p) p₀ rfl (hΓ.wake c₀ p)
  exact⟨_,_,by unfold Wakes;rw [hg];exact⟨e₁,s₁,hr,hq,rfl,rfl⟩,he Γ p hΓ⟩
 |running=>exact hgo.elim
 |finished=>exact hgo.elim
end
end
section
section
variable {prog:Jf} {w:Oa} {A:Aw} {E:Ab->Ba->Prop} {s:Ba}
noncomputable def xY (g:Nat) (Q:Option Ab->Ba->Prop) (e:End) (s₁:Ba):Prop:=match e with
 |.ret r=>(r=.ok .next\/r=.ok (.ret .none))/\∀h',(∀b o,s₁.heap.get? b=some o->h'.get? b=some o)->Q none {s₁.setGen g .finished with heap:=h'}
 |.susp v a b c d p f=>(End.susp v a b c d p f).quiet=true/\Q (some v) (s₁.setGen g (End.susp v a b c d p f).genState)
theorem pL {a:Ak} {g:Nat} {gs:Ju} {Q:Option Ab->Ba->Prop} (hh:A.handled=none) (hl:s.heap.NoLimit) (hroom:A.depth < Gy) (hg:s.heap.IsGen a g) (hgs:s.gens[g]? =some gs)
  (hgo:Yx (Cd prog w) A.in1 (xY g Q) gs (s.setGen g .running)):Cp (Cd prog w) A (Lk (.ref a)) Q E s:=by
 unfold Lk
 refine Ad (wpAny_attempt (Hq (name:=Kl "__next__") hg.typeIs slot_gen_next
  (Lv slot_gen_next hg.typeIs entry_gen_next ?_ (args_gen_next _))))
 show Cp _ A.in1 (Builtin.Generator.genWake (.ref a) (.send .none)) _ _ s
 unfold Builtin.Generator.genWake
 refine Ad (Dz (wpAny_genNumber hg (Ad (wpAny_genState hgs ?_))))
 cases gs with
 |running=>exact hgo.elim
 |finished=>exact hgo.elim
 |_=>
  refine Ad (wpAny_roomToWake hl hroom ?_)
  show Cp _ A.in1 (.resume g (.send .none) [] _) _ _ s
  refine vX hgs (hgo.mono λe s₁ he=>?_)
  cases e with
  |ret r=>
   obtain⟨hr,hp⟩:=he
   refine⟨rfl,?_⟩
   rcases hr with rfl|rfl
   all_goals
    show Cp _ A.in1 (newExc (.type "StopIteration") []>>=_) _ _ _
    refine Ad ?_
    simp only [newExc,newTuple]
    refine Ad (Et ?_ (by size_fits))
    refine Ad (m:=Nm _ _) (Im (a:=Dm) (by first|rfl|(simp only [Nm];rfl)) ?_)
    refine Et ?_ (by size_fits)
    simp only [raiseNew]
    refine Ad (Ad (wpAny_handled ?_))
    rw [show A.in1.handled=none from hh]
    refine wpAny_throw ?_
    refine Ad (wpAny_isInstance (T:="StopIteration") (b:=true) ⟨_,Bg _ rfl,rfl⟩ isSubtype_stop ?_)
    exact Au (hp _ λb o hb=>Al _ (Al _ hb))
  |susp v a b c d p f=>exact⟨he.1,Au ⟨v,rfl,Au he.2⟩⟩
end
end
section
section
variable {Γ:Bj} {A:Aw} {σ σ':Ay} {s s':Ba}
theorem Ea.setGen {g:Nat} {x₀ x:Ju} (R:Ea Γ σ s) (U:Iy σ (.gen g) (.gst x₀) (.gst x) σ') (hb:x.bare=true):Ea Γ σ' (s.setGen g x):=by
 obtain⟨l₁,l₂,e,e'⟩:=U.split
 have hm:=U.mem
 have hg:s.gens[g]? =some x₀:=(R.ents _ hm).1
 have hp:=R.sep
 rw [e]at hp
 have old:∀q∈l₁++l₂,Li Γ (s.setGen g x) q.1 q.2/\q.1.above Γ.h₁:=λq hq=>by
  have hq':q∈σ.all:=by
   rw [e]
   rcases Ai.mp hq with h|h
   ·exact Af _ h
   ·exact Aa _ (.tail _ h)
  have h1:=R.ents q hq'
  refine⟨?_,h1.2⟩
  have sp:=Vm hp q hq
  obtain⟨l,c⟩:=q
  cases l with
  |gen g'=>
   have hne:g≠g':=by
    rcases sp with h|⟨h,_⟩|⟨d,y,z,h,_⟩
    ·intro q;exact h (by rw [q])
    ·cases h
    ·cases h
   cases c<;>first|exact h1.1.elim|skip
   show(s.setGen g x).gens[g']? =_
   have h2:s.gens[g']? =_:=h1.1
   simp only [Ba.setGen]
   rw [Array.getElem?_setIfInBounds_ne hne]
   exact h2
  |obj a=>cases c<;>exact h1.1
  |var d y=>cases c<;>exact h1.1
 refine⟨R.old,R.lim,R.stat,R.os,?_,λp hp'=>?_,?_⟩
 ·intro y hy
  simp only [Ba.setGen]at hy
  rcases Array.mem_or_eq_of_mem_setIfInBounds hy with h|h
  ·exact R.bare y h
  ·rw [h];exact hb
 ·rw [e']at hp'
  rcases Ai.mp hp' with h|h
  ·exact old p (Af _ h)
  ·rcases Ce.mp h with rfl|h
   ·refine⟨?_,(R.ents _ hm).2⟩
    show(s.setGen g x).gens[g]? =some x
    exact setGen_self hg
   ·exact old p (Aa _ h)
 ·rw [e']
  exact kR hp λq hq=>(Vm hp q hq).of_mut rfl
theorem Wf {W τ τ':List As} (h:τ.Perm τ') (R:Ea Γ ⟨W,τ⟩ s):Ea Γ ⟨W,τ'⟩ s:=As.le_perm (σ:=⟨W,τ⟩) (σ':=⟨W,τ'⟩) (Bb W h) _ _ R
noncomputable abbrev Uz (g:Nat) (nm qn:Ab):Obj:={cls:=.type "generator",data:=.fields #[.int g 0,nm,qn]}
inductive vN (Γ:Bj) (σ:Ay) (e:End) (s:Ba):Prop
 |mk (r:Kw) (he:e=.ret r) (hr:r=.ok .next\/r=.ok (.ret .none)) (R:Ea Γ σ s)
inductive vL (Γ:Bj) (σ:Ay) (v:Ab) (N:Ju->List As->Prop) (e:End) (s:Ba):Prop
 |mk (u:Ab) (b:Bool) (c:List Ab) (d:Resume->Sem Gb) (k:Code) (p:Pos) (f:List Frame) (ρ:List As) (he:e=.susp u b c d k p f) (q:e.quiet=true) (eu:cl u=v) (R:Ea Γ ⟨σ.W,ρ++σ.τ⟩ s) (h:N e.genState ρ)
noncomputable def oX (Γ:Bj) (A:Aw) (G:Ay->Prop):List Ab->Ay->End->Ba->Prop
 |[],σ,e,s=>vN Γ σ e s
 |v::vs,σ,e,s=>vL Γ σ v (λgs ρ=>∀σ s,G σ->Ea Γ ⟨σ.W,ρ++σ.τ⟩ s->Yx (Cd Γ.prog Γ.w) A (oX Γ A G vs σ) gs s) e s
noncomputable def nT (Γ:Bj) (A:Aw) (G:Ay->Prop) (vs:List Ab) (gs:Ju) (ρ:List As):Prop:=∀σ s,G σ->Ea Γ ⟨σ.W,ρ++σ.τ⟩ s->Yx (Cd Γ.prog Γ.w) A (oX Γ A G vs σ) gs s
theorem iJ {a:Ak} {g:Nat} {nm qn:Ab} {G:Ay->Prop} {vs:List Ab} {gs:Ju} {ρ:List As} {Q:Option Ab->Ba->Prop} {E:Ab->Ba->Prop} (hh:A.handled=none) (hroom:A.depth < Gy) (hG:∀σ ext,G σ->G ⟨σ.W,ext++σ.τ⟩) (h:nT Γ A.in1 G vs gs ρ) (hσ:G σ)
  (R:Ea Γ ⟨σ.W,((.obj a,.raw (Uz g nm qn))::(.gen g,.gst gs)::ρ)++σ.τ⟩ s) (k:∀e s₁,oX Γ A.in1 G vs ⟨σ.W,(.obj a,.raw (Uz g nm qn))::(.gen g,.gst .running)::σ.τ⟩ e s₁->xY g Q e s₁):Cp (Cd Γ.prog Γ.w) A (Lk (.ref a)) Q E s:=
 pL hh R.lim.no hroom ⟨Uz g nm qn,nm,qn,(R.ents _ Bs).1,rfl,rfl,rfl⟩ (R.ents _ (Eb Bs)).1
  ((h _ _ (hG σ [(.obj a,.raw (Uz g nm qn)),(.gen g,.gst .running)] hσ) (Wf (Yt _ _ ρ σ.τ) (Ea.setGen (x:=.running) R (.tau (.there .here)) rfl))).mono k)
theorem aZ {a:Ak} {g:Nat} {nm qn:Ab} {G:Ay->Prop} (hh:A.handled=none) (hroom:A.depth < Gy) (hG:∀σ ext,G σ->G ⟨σ.W,ext++σ.τ⟩):∀(vs:List Ab) (gs:Ju) (ρ:List As),nT Γ A.in1 G vs gs ρ->
  Lb Γ A a G vs ((.obj a,.raw (Uz g nm qn))::(.gen g,.gst gs)::ρ):=by
 intro vs
 induction vs with
 |nil=>
  intro gs ρ h σ hσ s R
  refine iJ hh hroom hG h hσ R λe s₁ z=>?_
  obtain⟨r,e1,hr,R₂⟩:=z
  rw [e1]
  exact⟨hr,λh' hk=>⟨σ,As.le_sub (.cons _ (.cons _ (.refl _))) _ _ ((Ea.setGen (x:=.finished) R₂ (.tau (.there .here)) rfl).grow (s':={s₁.setGen g .finished with heap:=h'}) hk rfl rfl),rfl,rfl⟩⟩
 |cons v vs ih=>
  intro gs ρ h σ hσ s R
  refine iJ hh hroom hG h hσ R λe s₁ z=>?_
  obtain⟨u,b,c,d,k,p,f,ρ',e1,hq,eu,R₂,hX⟩:=z
  subst e1
  exact⟨hq,⟨σ.W,((.obj a,.raw (Uz g nm qn))::(.gen g,.gst (End.susp u b c d k p f).genState)::ρ')++σ.τ⟩,Wf (Yt _ _ ρ' σ.τ).symm (Ea.setGen R₂ (.tau (Qw.pre (.there .here))) (End.bare_of_quiet hq)),congrArg some eu,_,rfl,
   λtarget u s R=>Wn (R.ents _ Bs).1 rfl (by decide) ⟨_,R,rfl⟩,ih _ ρ' hX⟩
end
end
section
section
variable {Γ:Bj} {A:Aw} {σ σ':Ay} {s s':Ba}
noncomputable abbrev Vv (elt iter:Aq) (x:Str) (px:Pos) (scope:La) (pos:Pos):Aq:=.GeneratorExp elt [⟨.Name x px,iter,[],0⟩] scope pos
theorem fU {elt iter:Aq} {x:Str} {px:Pos} {scope:La} {pos:Pos} {it C:Ak} {cenv:Env} {G:Ay->Prop} {f:Ab->Ab} {φ:Ab->Prop} (hCl:cenv.locals=C) (hh:A.handled=none) (hG:∀σ ext,G σ->G ⟨σ.W,ext++σ.τ⟩)
  (hk:cenv.scope.kind=.function) (hl:cenv.kindOf x=some .local) (hco:cenv.scope.isCoroutine=false)
  (helt:∀σ v,φ v->G σ->(.obj C,.fr [(x,some v)])∈σ.all->T Γ (A.over (.compLoop (Vv elt iter x px scope pos) 0 (.ref it) .none cenv) []) σ (Dr elt cenv) λy σ'=>y=f v/\σ'=σ):
  ∀(r:List Ab) (ρ₀:List As),(∀v∈r,φ v)->Lb Γ (A.over (.compLoop (Vv elt iter x px scope pos) 0 (.ref it) .none cenv) []) it G r ρ₀->∀σ s o,G σ->Ea Γ ⟨σ.W,ρ₀++((.obj C,.fr [(x,o)])::σ.τ)⟩ s->
   Hn (Cd Γ.prog Γ.w) A (oX Γ A G (r.map f) σ)
    (.compLoop (Vv elt iter x px scope pos) 0 (.ref it) .none cenv) ((Cd Γ.prog Γ.w).den (.compLoop (Vv elt iter x px scope pos) 0 (.ref it) .none cenv)) [] s:=by
 intro r
 induction r with
 |nil=>
  intro ρ₀ hφ Y σ s o hσ R
  show Hn _ A _ _ ((compTurn (Vv elt iter x px scope pos) 0 (.ref it) .none cenv).onRaise (leaving cenv)) [] s
  rw [compTurn_gen,Jd]
  refine Dk (Eo ?_)
  exact Dk (Y.stop (hG σ [(.obj C,.fr [(x,o)])] hσ) R λs₁ R₁=>aQ (.ok .next) (vN.mk _ rfl (.inl rfl) (As.le_sub (.cons _ (.refl _)) _ _ R₁)))
 |cons v r ih=>
  intro ρ₀ hφ Y σ s o hσ R
  show Hn _ A _ _ ((compTurn (Vv elt iter x px scope pos) 0 (.ref it) .none cenv).onRaise (leaving cenv)) [] s
  rw [compTurn_gen,Jd]
  refine Dk (Eo ?_)
  refine Dk (Y.more (hG σ [(.obj C,.fr [(x,o)])] hσ) R λu ρ₁ s₁ eu R₁ go Y'=>?_)
  ·refine Dk (Im (rfl:Dn (.Name x px) (.ref it) u=pure ()) ?_)
   refine Dk ((Sn (env:=cenv) (σ':=⟨σ.W,ρ₁++((.obj C,.fr [(x,some v)])::σ.τ)⟩) eu .here (.tau (Qw.pre (by rw [hCl];exact .here))) rfl hk hl).to R₁ λ_ s₂ R₂=>?_)
   simp only [List.forIn_nil]
   refine Dk (Au ?_)
   simp only [if_true]
   have hy:∀v,yieldOut cenv v=yieldValue v:=λv=>by simp only [yieldOut,hco,Hl,if_false]
   simp only [hy]
   rw [Iu,Iu,Mn,Mn]
   have hσ₂:G ⟨σ.W,ρ₁++((.obj C,.fr [(x,some v)])::σ.τ)⟩:=by
    have:=hG σ (ρ₁++[(.obj C,.fr [(x,some v)])]) hσ
    simpa using this
   refine Sw ((helt _ v (hφ v (.head _)) hσ₂ (Ae (fE (.head _)))).one R₂ λy s₃ ey R₃=>?_)
   refine fN (bI rfl λp=>?_)
   exact vL.mk _ _ _ _ _ _ _ (ρ₁++[(.obj C,.fr [(x,some v)])]) rfl rfl ey (by rw [Ax];exact R₃) λσ s hσ R=>Pc rfl (ih ρ₁ (λv hv=>hφ v (.tail _ hv)) Y' σ s (some v) hσ (by rw [Ax]at R;exact R))
end
end
section
theorem Zo {M:Model} {A:Aw} {E:Ab->Ba->Prop} {s:Ba} {env:Env} {c P:Ak} {ps:Array Ab} {pos:Pos} {qualname:Str} {scope:La} {Q:Ab->Ba->Prop} (hc:env.code=.ref c) (C:CodeHd s.heap c P) (hP:s.heap.get? P=some (tabObj ps)) (ht:TriplesOk ps.toList)
  (hQ:∀code h' tk more,Io P s.heap h'->h'.get? P=some (tabObj (ps++more))->TriplesOk (ps++more).toList->Q code {s with heap:=h',toks:=tk}):
  Cp M A (genexprCode env pos qualname scope) Q E s:=by
 obtain⟨o,vs,file,tf,flags,tg,inF,text,tt,e1,_,e3,_,h11,h2,h7,h9,h10,hne⟩:=id C
 unfold genexprCode codeAt
 rw [hc,if_neg (show¬((Bt c==Dm)=true)from Bool.false_ne_true)]
 refine Ad (wpAny_fieldsOf e1 e3 ?_)
 rw [h11]
 refine Ad (wpAny_fieldsOf hP rfl ?_)
 cases hnf:codeAmong pos ps.toList with
 |some cv=>exact Au (hQ cv s.heap s.toks #[] (Io.refl _ _) (by simpa using hP) (by simpa using ht))
 |none=>
  rw [h2,h7,h9,h10]
  refine Ad (wpAny_newCode λc' P' h' tk hk hc' hP' hcode' hrec'=>?_)
  have hop':=hk _ _ hP
  refine Ad (wpAny_updateFieldsOfTheText hop' rfl ?_)
  have hnew:Jn (λvs=>if(codeAmong pos vs.toList).isSome=true then vs else vs++#[Kb pos.line,Kb pos.col,.ref c']) (tabObj ps)=tabObj (ps++#[Kb pos.line,Kb pos.col,.ref c']):=by
   simp [Jn,tabObj,hnf]
  have hget:=Dv (h:=h') (λo=>Jn (λvs=>if(codeAmong pos vs.toList).isSome=true then vs else
   vs++#[Kb pos.line,Kb pos.col,.ref c']) o) hop' (by rw [hnew];rfl)
  rw [hnew]at hget
  refine Ad (wpAny_fieldsOf hget rfl ?_)
  have hl:(ps++#[Kb pos.line,Kb pos.col,Bt c']).toList=ps.toList++[Kb pos.line,Kb pos.col,.ref c']:=by simp
  rw [hl,codeAmong_snoc _ ht hnf]
  exact Au (hQ _ _ _ _ (λb o' hb e=>((Dg ..).extBut b o' hb (hk b o' e))) hget (by rw [hl];exact TriplesOk_snoc _ _ _ _ ht))
theorem yV:∀P,P∈[122,349]->P≠cStatics/\P≠Gx:=by decide
section
variable {Γ:Bj} {A:Aw} {σ σ':Ay} {s s':Ba}
theorem Ea.table {P c:Ak} {ps more:Array Ab} {h':Heap} {tk:Nat} (R:Ea Γ σ s) (hP:P∈[122,349]) (hc:codeHdIn Γ.K c P=true) (hp:s.heap.get? P=some (tabObj ps)) (hx:Io P s.heap h') (hp':h'.get? P=some (tabObj (ps++more))) (ht:TriplesOk (ps++more).toList):
  Ea Γ σ {s with heap:=h',toks:=tk}:=by
 have C1:=codeHd_of_K R.kin hc
 have hne:c≠P:=by obtain⟨_,_,_,_,_,_,_,_,_,_,_,_,_,_,_,_,_,_,h⟩:=id C1;exact h
 have C2:CodeHd h' c P:=by
  obtain⟨o,vs,file,tf,flags,tg,inF,text,tt,e1,r⟩:=id C1
  exact⟨o,vs,file,tf,flags,tg,inF,text,tt,hx _ _ hne e1,r⟩
 have hn:=(yV P hP).1
 refine⟨OldK.step_table R.old ((codeHd_of_K Γ.kin hc).tab (Γ.tabs P hP)) (C1.tab hp) (C2.tab hp') hx hn,⟨R.lim.no.extBut hx (Ld hn),λP' hP'=>?_⟩,λo e=>hx _ _ (Ld hn) (R.stat o e),R.os,R.bare,λp hp=>⟨(R.ents p hp).1.ext hx rfl λe=>?_,(R.ents p hp).2⟩,R.sep⟩
 ·by_cases q:P'=P
  ·subst q;exact⟨_,hp',ht⟩
  ·obtain⟨ps',e,t⟩:=R.lim.tab P' hP'
   exact⟨ps',hx _ _ q e,t⟩
 ·have:=R.above hp e
  rw [Γ.tabs P hP]at this
  cases this
theorem Ea.bfor {globals running:Ak} {E:Ab->Ba->Prop} {Q:Ak->Ba->Prop} (R:Ea Γ σ s) (hg:globals=Gx) (h:Q Ig s):Cp (Cd Γ.prog Γ.w) A (builtinsFor globals running) Q E s:=by
 obtain⟨bm,ob,hb,hne,ho,hc,hd,hdt⟩:=Γ.bm
 subst hg
 exact wpAny_builtinsFor (R.nsOld Γ.top.g (by decide)) hb hne (R.old.get_of_cls ho (by rw [hc];decide)) hc hd hdt h
theorem Ea.pushGen {W τ:List As} {c:Code} (R:Ea Γ ⟨W,τ⟩ s):Ea Γ ⟨W,(.gen s.gens.size,.gst (.fresh c))::τ⟩ {s with gens:=s.gens.push (.fresh c)}:=by
 have hg:∀(g:Nat) (gs:Ju),s.gens[g]? =some gs->(s.gens.push (.fresh c))[g]? =some gs:=λg gs e=>by
  have:g < s.gens.size:=by
   rcases Nx g s.gens.size with h|h
   ·exact h
   ·rw [Mh h]at e;cases e
  rw [Array.getElem?_push_lt this,<-e,Fo this]
 have R1:Ea Γ ⟨W,τ⟩ {s with gens:=s.gens.push (.fresh c)}:=by
  refine⟨R.old,R.lim,R.stat,R.os,λx hx=>?_,λp hp=>⟨?_,(R.ents p hp).2⟩,R.sep⟩
  ·rcases Array.mem_push.mp hx with h|h
   ·exact R.bare x h
   ·rw [h];rfl
  ·have:=(R.ents p hp).1
   obtain⟨l,co⟩:=p
   cases l with
   |gen g=>cases co<;>first|exact this.elim|exact hg _ _ this
   |obj a=>cases co<;>exact this
   |var d y=>cases co<;>exact this
 refine R1.add (Array.getElem?_push_size ..) trivial λq hq=>.inl ?_
 have:=(R.ents q hq).1
 obtain⟨l,co⟩:=q
 cases l with
 |gen g=>
  cases co<;>first|exact this.elim|skip
  show((false,s.gens.size):Bool×Nat)≠(false,g)
  intro e
  have h2:s.gens[g]? =some _:=this
  rw [<-(Prod.mk.inj e).2,Mh (Bx _)]at h2
  cases h2
 |obj a=>show((false,s.gens.size):Bool×Nat)≠(true,a);intro e;cases e
 |var d y=>show((false,s.gens.size):Bool×Nat)≠(true,d);intro e;cases e
theorem aO {a:Ak} {g:Nat} {nm qn:Ab} {gs:Ju} {ρ:List As}:Vk Γ A a ((.obj a,.raw (Uz g nm qn))::(.gen g,.gst gs)::ρ):=λW τ s R=>
 wpAny_pyIter_gen (g:=g) ⟨Uz g nm qn,nm,qn,(R.ents _ Bs).1,rfl,rfl,rfl⟩ ⟨_,R,rfl,rfl⟩
theorem sW {elt iter:Aq} {x:Str} {px:Pos} {scope:La} {pos:Pos} {env:Env} {cl₀:List (Str×Ak)} {c P:Ak} {f:Ab->Ab} {Q:Ab->Ay->Prop} (hP:P∈[122,349]) (hcd:codeHdIn Γ.K c P=true) (hc:env.code=.ref c) (hroom:A.depth < Gy)
  (h:T Γ A σ (Dr iter env) λc σ₁=>∀v,cl v=c->T Γ A σ₁ (Hu v) λci σ₂=>∃it ρ G vs W τ,ci=.ref it/\σ₂=⟨W,ρ++τ⟩/\(∀A':Aw,A'.handled=none->Lb Γ A' it G vs ρ/\Vk Γ A' it ρ)/\(∀σ ext,G σ->G ⟨σ.W,ext++σ.τ⟩)/\
   (∀(A':Aw) C code σ v,A'.handled=none->v∈vs->G σ->(.obj C,.fr [(x,some v)])∈σ.all->T Γ A' σ (Dr elt (genEnv scope cl₀ C code Ig env)) λy σ'=>y=f v/\σ'=σ)/\
   ∀a ρ',(∀A':Aw,A'.handled=none->A'.depth < Gy->Lb Γ A' a G (vs.map f) ρ'/\Vk Γ A' a ρ')->Q (.ref a) ⟨W,ρ'++τ⟩)
  (hx0:(scope.names.lookup x==some .local)=true:=by rfl) (hg:autoParam (env.globals=Gx) aR) (hco:autoParam (scope.isCoroutine=false) aR) (hclos:autoParam (Jv scope env=pure cl₀) aR) (hcell:autoParam ((scope.names.all λy=>y.2 != .cell)=true) aR) (h0:(scope.names.lookup (".0" :Str)==some NameKind.local)=true:=by rfl) (hkind:autoParam (scope.kind=.function) aR) (hxn:autoParam (x≠".0") aD) (hs:autoParam (∀x,genFold iter env x=pure x) aI):
  T Γ A σ (Dr (Vv elt iter x px scope pos) env) Q:=λs R=>by
 have hx:=beq_iff_eq.mp hx0
 refine wpAny_GeneratorExp_make hco hclos (λy hy=>?_) (beq_iff_eq.mp h0) hkind hroom (h.elim R λv s₁ σ₁ R₁ q₁=>(q₁ v rfl).elim R₁ λu s₂ σ₂ R₂ q₂=>⟨R₂.lim.no,?_⟩) hs
 ·have:=Fu.mp hcell y hy
  simpa using this
 obtain⟨it,ρ,G,vs,W,τ,e,rfl,Y,hG,helt,hQ⟩:=q₂
 have:=Cc e
 subst this
 obtain⟨ps,hps,htr⟩:=R₂.lim.tab P hP
 refine Zo hc (codeHd_of_K R₂.kin hcd) hps htr λcode h₃ tk more hx₃ hp₃ ht₃=>?_
 have R₃:Ea Γ ⟨W,ρ++τ⟩ {s₂ with heap:=h₃,toks:=tk}:=R₂.table hP hcd hps hx₃ hp₃ ht₃
 refine R₃.bfor hg λh' hn' hs'=>?_
 dsimp only at hn' hs' ⊢
 have keep':∀b o,h₃.get? b=some o->h'.get? b=some o:=λb o e=>hs'.extBut b o (Kn (Ds e)) (Al _ e)
 have R₄:Ea Γ ⟨W,ρ++τ⟩ {s₂ with heap:=h',toks:=tk}:=R₃.grow (s':={s₂ with heap:=h',toks:=tk}) keep' rfl rfl
 have sepC:∀(l:Er) (c:CO),l.base=(true,h₃.objs.size)->∀q∈(⟨W,ρ++τ⟩:Ay).all,Tz (l,c) q:=λl c hl=>Jp (s:={s₂ with heap:=h₃,toks:=tk}) hl (λq hq=>(R₃.ents q hq).1) (Bx _)
 have R₅:Ea Γ ⟨W,(.obj h₃.objs.size,.fr [(x,none)])::(ρ++τ)⟩ {s₂ with heap:=h',toks:=tk}:=by
  refine R₄.add ⟨_,hn',by simp,λp hp=>?_⟩ R₃.freshTop (sepC _ _ rfl)
  rw [Be]at hp
  subst hp
  simp [hxn]
 have hsz:h'.objs.size=h₃.objs.size+1:=by rw [hs'.1,Iq]
 generalize hC:h₃.objs.size=C at *
 have R₅':Ea Γ ⟨W,(ρ++[(.obj C,.fr [(x,none)])])++τ⟩ {s₂ with heap:=h',toks:=tk}:=Wf (by rw [Ax];exact Ff.symm) R₅
 let c₀:Code:=.compStart (Vv elt iter x px scope pos) 0 (.ref it) .none (genEnv scope cl₀ C code Ig env)
 have GX:∀A':Aw,A'.handled=none->nT Γ A' G (vs.map f) (.fresh c₀) (ρ++[(.obj C,.fr [(x,none)])]):=by
  intro A' hh'
  have loop:=λσ s (hσ:G σ) (R:Ea Γ ⟨σ.W,(ρ++[(.obj C,.fr [(x,none)])])++σ.τ⟩ s)=>fU (Γ:=Γ) (A:=A') (elt:=elt) (iter:=iter) (x:=x) (px:=px) (scope:=scope) (pos:=pos) (it:=it) (C:=C) (cenv:=genEnv scope cl₀ C code Ig env) (f:=f) (φ:=λv=>v∈vs) rfl hh' hG hkind hx hco (λσ v hv hσ hm=>helt _ C code σ v hh' hv hσ hm) vs ρ (λv hv=>hv) (Y (A'.over (.compLoop (Vv elt iter x px scope pos) 0 (.ref it) .none (genEnv scope cl₀ C code Ig env)) []) hh').1 σ s none hσ (by simpa using R)
  have start:∀σ s,G σ->Ea Γ ⟨σ.W,(ρ++[(.obj C,.fr [(x,none)])])++σ.τ⟩ s->∀Φ,Hn (Cd Γ.prog Γ.w) A' Φ (.compLoop (Vv elt iter x px scope pos) 0 (.ref it) .none (genEnv scope cl₀ C code Ig env)) ((Cd Γ.prog Γ.w).den (.compLoop (Vv elt iter x px scope pos) 0 (.ref it) .none (genEnv scope cl₀ C code Ig env))) [] s->(∀s',Ea Γ ⟨σ.W,(ρ++[(.obj C,.fr [(x,none)])])++σ.τ⟩ s'->Hn (Cd Γ.prog Γ.w) A' Φ (.compLoop (Vv elt iter x px scope pos) 0 (.ref it) .none (genEnv scope cl₀ C code Ig env)) ((Cd Γ.prog Γ.w).den (.compLoop (Vv elt iter x px scope pos) 0 (.ref it) .none (genEnv scope cl₀ C code Ig env))) [] s')->
    Hn (Cd Γ.prog Γ.w) A' Φ c₀ ((Cd Γ.prog Γ.w).den c₀) [] s:=by
   intro σ s hσ R Φ k1 k2
   show Hn _ A' Φ c₀ ((compStart (Vv elt iter x px scope pos) 0 (.ref it) .none (genEnv scope cl₀ C code Ig env)).onRaise (leaving (genEnv scope cl₀ C code Ig env))) [] s
   unfold compStart
   rw [Jd]
   show Hn _ A' _ _ ((ask>>=_).wrap _ _ _ _) [] s
   refine Dk (Ny ?_)
   split
   ·exact Pc rfl k1
   ·refine Dk (Kx ?_)
    show Hn _ A' _ _ ((Mr iter.pos>>=_).wrap _ _ _ _) [] s
    refine Dk (Eo (Dk (((Y (A'.over c₀ []) hh').2 σ.W ([(.obj C,.fr [(x,none)])]++σ.τ)).one (by simpa using R) λv s' e1 R'=>?_)))
    cases Cc e1
    exact Pc rfl (k2 s' (by simpa using R'))
  exact λσ s hσ R=>start σ s hσ R _ (loop σ s hσ R) (loop σ · hσ)
 have R₆:=R₅'.pushGen (c:=c₀)
 have R₇:Ea Γ ⟨W,(.obj h'.objs.size,.raw (Uz s₂.gens.size (.str "<genexpr>" (tk+1)) (.str (env.qual++"<genexpr>") (tk+1+1))))::(.gen s₂.gens.size,.gst (.fresh c₀))::((ρ++[(.obj C,.fr [(x,none)])])++τ)⟩
   {s₂ with gens:=s₂.gens.push (.fresh c₀),toks:=tk+1+1+1,heap:=h'.push (Uz s₂.gens.size (.str "<genexpr>" (tk+1)) (.str (env.qual++"<genexpr>") (tk+1+1)))}:=
  (R₆.toks (tk+1+1+1)).push (λ_ _ e=>Al _ e) rfl rfl (Bg _ rfl)
 have hfin:=hQ h'.objs.size ((.obj h'.objs.size,.raw (Uz s₂.gens.size (.str "<genexpr>" (tk+1)) (.str (env.qual++"<genexpr>") (tk+1+1))))::(.gen s₂.gens.size,.gst (.fresh c₀))::(ρ++[(.obj C,.fr [(x,none)])])) λA' hA hr=>⟨aZ hA hr hG _ _ _ (GX A'.in1 hA),aO⟩
 exact⟨_,R₇,hfin⟩
theorem iX {it:Ak} {G:Ay->Prop} (hh:A.handled=none):∀(vs:List Ab) (ρ:List As),Lb Γ A.in1 it G vs ρ->(∀v∈vs,v=.none\/v=.bool false)->∀σ s,G σ->Ea Γ ⟨σ.W,ρ++σ.τ⟩ s->∀R:Kw->Ba->Prop,
  (∀s',Ea Γ σ s'->R (.ok (.ret (.bool false))) s')->Jz (Cd Γ.prog Γ.w) A (.builtin "any.loop" ⟨[.ref it],[]⟩) R s
 |[],ρ,Y,_,σ,s,hσ,R0,R,hR=>by
  refine Hg PySem.F.entry_any_loop ?_
  rw [Fw Mf _]
  show Cp _ A.in1 (Lk (.ref it)>>=_) _ _ s
  exact Ad (Y.stop hσ R0 λs' R'=>Ad (Kx (Au (hR s' R'))))
 |v::vs,ρ,Y,hf,σ,s,hσ,R0,R,hR=>by
  refine Hg PySem.F.entry_any_loop ?_
  rw [Fw Mf _]
  show Cp _ A.in1 (Lk (.ref it)>>=_) _ _ s
  refine Ad (Y.more hσ R0 λu ρ' s' eu R' _ Y'=>?_)
  ·have tr:T Γ A.in1 ⟨σ.W,ρ'++σ.τ⟩ (Oz u) λb σ'=>b=false/\σ'=⟨σ.W,ρ'++σ.τ⟩:=by
    rcases hf v (.head _)with h|h
    ·exact dG (eu.trans h) ⟨rfl,rfl⟩
    ·exact Qt (eu.trans h) ⟨rfl,rfl⟩
   refine Ad (Dz (tr.one R' λb s₂ e1 R₂=>?_))
   cases (e1:b=false)
   refine Ad (wpAny_letGo ?_)
   simp only [Hl,if_false]
   exact Au ⟨Jm Mf _,iX hh vs ρ' Y' (λv hv=>hf v (.tail _ hv)) σ s₂ hσ R₂ R hR⟩
theorem Aeh {W τ ρ:List As} {a:Ak} {G:Ay->Prop} {vs:List Ab} {Q:Ab->Ay->Prop} (hh:A.handled=none) (Y:Lb Γ A.in1 a G vs ρ) (slf:Vk Γ A.in1 a ρ) (hG:G ⟨W,τ⟩) (hf:∀v∈vs,v=.none\/v=.bool false) (h:Q (.bool false) ⟨W,τ⟩):∀ws,ws.map cl=[.ref a]->T Γ A ⟨W,ρ++τ⟩ (call (.builtin "any") ws) Q:=λws hw s R=>by
 obtain⟨w,rfl,e⟩:=Ir hw
 have:=Cc e
 subst this
 refine call_function_tree PySem.F.kind_any PySem.F.plain_any PySem.F.entry_any (PySem.F.args_any1 _) ?_
 unfold Builtin.«any»
 refine Ad (m:=oneArg "any" _) (Au ?_)
 refine Ad ((slf W τ).one R λv s' e1 R'=>?_)
 cases Cc e1
 exact Au ⟨Jm Mf _,iX hh vs ρ Y hf ⟨W,τ⟩ s' hG R' _ λs₂ R₂=>⟨_,R₂,h⟩⟩
theorem iY {it:Ak} {G:Ay->Prop} (hh:A.handled=none):∀(vs:List Ab) (ρ:List As),Lb Γ A.in1 it G vs ρ->(∀v∈vs,v=.bool true)->∀σ s,G σ->Ea Γ ⟨σ.W,ρ++σ.τ⟩ s->∀R:Kw->Ba->Prop,
  (∀s',Ea Γ σ s'->R (.ok (.ret (.bool true))) s')->Jz (Cd Γ.prog Γ.w) A (.builtin "all.loop" ⟨[.ref it],[]⟩) R s
 |[],ρ,Y,_,σ,s,hσ,R0,R,hR=>by
  refine Hg PySem.F.entry_all_loop ?_
  rw [Fw Mg _]
  show Cp _ A.in1 (Lk (.ref it)>>=_) _ _ s
  exact Ad (Y.stop hσ R0 λs' R'=>Ad (Kx (Au (hR s' R'))))
 |v::vs,ρ,Y,hf,σ,s,hσ,R0,R,hR=>by
  refine Hg PySem.F.entry_all_loop ?_
  rw [Fw Mg _]
  show Cp _ A.in1 (Lk (.ref it)>>=_) _ _ s
  refine Ad (Y.more hσ R0 λu ρ' s' eu R' _ Y'=>?_)
  ·have tr:T Γ A.in1 ⟨σ.W,ρ'++σ.τ⟩ (Oz u) λb σ'=>b=true/\σ'=⟨σ.W,ρ'++σ.τ⟩:=Qt (eu.trans (hf v (.head _))) ⟨rfl,rfl⟩
   refine Ad (Dz (tr.one R' λb s₂ e1 R₂=>?_))
   cases (e1:b=true)
   refine Ad (wpAny_letGo ?_)
   simp only [if_true]
   exact Au ⟨Jm Mg _,iY hh vs ρ' Y' (λv hv=>hf v (.tail _ hv)) σ s₂ hσ R₂ R hR⟩
theorem Aei {W τ ρ:List As} {a:Ak} {G:Ay->Prop} {vs:List Ab} {Q:Ab->Ay->Prop} (hh:A.handled=none) (Y:Lb Γ A.in1 a G vs ρ) (slf:Vk Γ A.in1 a ρ) (hG:G ⟨W,τ⟩) (hf:∀v∈vs,v=.bool true) (h:Q (.bool true) ⟨W,τ⟩):∀ws,ws.map cl=[.ref a]->T Γ A ⟨W,ρ++τ⟩ (call (.builtin "all") ws) Q:=λws hw s R=>by
 obtain⟨w,rfl,e⟩:=Ir hw
 have:=Cc e
 subst this
 refine call_function_tree PySem.F.kind_all PySem.F.plain_all PySem.F.entry_all (PySem.F.args_all1 _) ?_
 unfold Builtin.«all»
 refine Ad (m:=oneArg "all" _) (Au ?_)
 refine Ad ((slf W τ).one R λv s' e1 R'=>?_)
 cases Cc e1
 exact Au ⟨Jm Mg _,iY hh vs ρ Y hf ⟨W,τ⟩ s' hG R' _ λs₂ R₂=>⟨_,R₂,h⟩⟩
end
end
section
noncomputable def Hc (G:List Nd) (j:Nat):List Nat:=match G[j]?with|some x=>x.ss|none=>[]
theorem We {G:List Nd} {j:Nat} {x:Nd} (h:G[j]? =some x):Hc G j=x.ss:=by simp [Hc,h]
inductive sX (G:List Nd) (σ:Ay) (es:List (Int×Ab)) (b:Nat):Prop
 |mk (y:Nd) (s d:Ak) (e:G[b]? =some y) (v:Fk es y.key=some (.ref s)) (i:(.obj s,.inst 86 d)∈σ.all) (n:(.obj d,.ns (dQ y.me y.st))∈σ.all)
structure Ahg (G:List Nd) (σ:Ay) (m:Ak) (es:List (Int×Ab)) (bs:List Nat):Prop where
 d:(.obj m,.idict es)∈σ.all
 at':∀b∈bs,sX G σ es b
inductive sA (σ:Ay) (v:Ab):Prop
 |mk (s d b t:Ak) (e:v=.ref s) (i:(.obj s,.inst 86 d)∈σ.all) (n:(.obj d,.ns (dQ b t))∈σ.all)
theorem sA.ext {W ρ τ:List As} {v:Ab} (h:sA ⟨W,τ⟩ v):sA ⟨W,ρ++τ⟩ v:=h.casesOn λs d b t e h1 h2=>⟨s,d,b,t,e,Bq h1,Bq h2⟩
theorem uC (Γ:Bj):Γ.K.lookup 125=some ⟨.type "function",none,.func (Ka Γ 125 "C3.__init__" (clsStmt 8 4) (.ref 124) .none),#[]⟩:=by kernel_rfl
theorem tS (Γ:Bj):gO Γ.K 86 "had_inconsistency" .none=true:=by kernel_rfl
theorem sO (Γ:Bj):Sh Γ.K 86 "mro" 83=true:=by kernel_rfl
theorem lX (Γ:Bj):Uy Γ.K 204 "leaf" =true:=by kernel_rfl
theorem lW (Γ:Bj):Uy Γ.K 204 "memo" =true:=by kernel_rfl
theorem lV (Γ:Bj):Uy Γ.K 204 "base_tree" =true:=by kernel_rfl
theorem lY (Γ:Bj):Uy Γ.K 204 "bases_had_inconsistency" =true:=by kernel_rfl
noncomputable def rs0:Rs:=⟨none,none,none,none,none,none,none⟩
noncomputable def Rt (G:List Nd) (i:Nat):List (List Nat):=[[i]]++(Fx G i).map (Hc G)++[Fx G i]
section
variable {Γ:Bj} {A:Aw} {G:List Nd} {σ:Ay}
theorem Lb.weak {it:Ak} {G G':Ay->Prop} (hG:∀σ,G' σ->G σ) {vs:List Ab}:∀{ρ:List As},Lb Γ A it G vs ρ->Lb Γ A it G' vs ρ:=by
 induction vs with
 |nil=>exact λh σ hσ=>h σ (hG σ hσ)
 |cons v vs ih=>exact λh σ hσ=>(h σ (hG σ hσ)).mono λ_ _ q=>⟨q.1,by obtain⟨_,ρ',e',go,Y⟩:=q;exact⟨ρ',e',go,ih Y⟩⟩
theorem qZ {value slice:Aq} {o i:Ab} {Q:Ab->Ay->Prop} (h:T Γ A σ (Fz (.Name (Kl "_") ⟨0,0,0,0⟩) slice o i) Q):T Γ A σ (Fz value slice o i) Q:=λs R=>kba_turn (λ_=>rfl) (h s R)
theorem Gn {value slice:Aq} {u v:Ab} {Q:Ab->Ay->Prop} (h:P2 Γ A (Fz (.Name (Kl "_") ⟨0,0,0,0⟩) slice) Q u v σ):P2 Γ A (Fz value slice) Q u v σ:=λ_ _ ho hi=>qZ (h _ _ ho hi)
noncomputable abbrev nP (L:Ak) (rx me:Ak) (m:Ak) (br:Ab) (o:Option Ab) (τ:List As):List As:=
 (.obj (L+1),.cell (some (.ref m)))::(.var L "self",.val (some (.ref rx)))::(.var L "C",.val (some (.ref me)))::(.var L "base_resolvers",.val (some br))::(.var L "base",.val o)::(.var L "resolver",.val none)::τ
theorem Gr.bs12 (g:Gr G) {i:Nat} {x:Nd} (hi:G[i]? =some x):x.bs.length<=12:=
 Bw (Gh i x.bs (g.bs _ _ hi).1 (g.bs _ _ hi).2) (Bw (Md (Aj.mp hi).1) g.few)
theorem Gr.ss12 (g:Gr G) {i:Nat} {x:Nd} (hi:G[i]? =some x):x.ss.length<=12:=Bw (Gh G.length x.ss (g.ss _ _ hi).1 (g.ss _ _ hi).2) g.few
inductive dX (G:List Nd) (i:Nat) (bs:List Nat) (mro:Option Ab) (ρ:List As):Prop
 |no (h:bs.length≠1) (e:mro=none)
 |one (b:Nat) (t:Ak) (eb:bs=[b]) (e:mro=some (.ref t)) (m:(.obj t,.list (refs G (i::Hc G b)))∈ρ)
theorem dX.sub {i:Nat} {bs:List Nat} {mro:Option Ab} {ρ ρ':List As} (h:dX G i bs mro ρ) (k:∀p∈ρ,p∈ρ'):dX G i bs mro ρ':=by
 cases h with
 |no h e=>exact .no h e
 |one b t eb e m=>exact .one b t eb e (k _ m)
noncomputable abbrev vI (L rx rd me m br:Ak) (o:Option Ab) (rs:Rs) (τ:List As):List As:=nP L rx me m (.ref br) o ((.obj rd,.ns rs.ns)::(.obj rx,.inst 204 rd)::τ)
noncomputable abbrev yH (G:List Nd) (bs:List Nat) (c2 a3 lb c1 acc a2 a1 br me:Ak) (qs:Tr) (rl:List Ab) (ρ T:List As):List As:=
 (.obj c2,.list (([.ref a1]++qs.vs)++[.ref lb]))::(.obj a3,.list [.ref lb])::(.obj lb,.list (refs G bs))::(.obj c1,.list ([.ref a1]++qs.vs))::(.obj acc,.list qs.vs)::(ρ++((.obj a2,.list [.ref a1])::(.obj a1,.list [.ref me])::(.obj br,.list rl)::T))
theorem uT {i:Nat} {x:Nd} {c2 a3 lb c1 acc a2 a1 br:Ak} {qs:Tr} {rl:List Ab} {ρ T:List As} (hi:G[i]? =some x) (h1:qs.map (·.2)=x.bs.map (Hc G)) (h2:∀p∈qs,(.obj p.1,.list (refs G p.2))∈ρ):Sg G ⟨[],yH G x.bs c2 a3 lb c1 acc a2 a1 br x.me qs rl ρ T⟩ c2 (Rt G i):=by
 refine⟨[(a1,[i])]++qs++[(lb,x.bs)],?_,?_,λp hp=>Ae ?_⟩
 ·rw [Tr.vs,Bh,Bh]
  exact Ae (.head _)
 ·rw [Bh,Bh,h1]
  unfold Rt
  rw [Pw hi]
  rfl
 ·rcases Ai.mp hp with h|h
  ·rcases Ai.mp h with h|h
   ·rw [Be.mp h,show refs G [i]=[.ref x.me]from congrArg (λa=>[Bt a]) (Br hi)]
    exact .tail _ (.tail _ (.tail _ (.tail _ (.tail _ (Aa _ (.tail _ (.head _)))))))
   ·exact .tail _ (.tail _ (.tail _ (.tail _ (.tail _ (Af _ (h2 p h))))))
  ·rw [Be.mp h]
   exact .tail _ (.tail _ (.head _))
noncomputable abbrev gT (L:Ak):Env:=Gk "C3.__init__" (fScope (clsStmt 8 4)) L 125 (.ref 124) [("memo",L+1)]
theorem uS {W τ:List As} {i:Nat} {x:Nd} {m:Ak} {es:List (Int×Ab)} {Q:Ab->Ay->Prop} (nf:NF W G) (g:Gr G) (hA:Rm A 3) (hh:A.handled=none) (hi:G[i]? =some x) (hM:Ahg G ⟨W,τ⟩ m es x.bs)
  (h:∀rx rd a ρ mro,Sg G ⟨[],ρ⟩ a (Rt G i)->dX G i x.bs mro ρ->
   Q (.ref rx) ⟨W,(.obj rd,.ns (Rs.ns ⟨some (.ref x.me),some (.ref m),some (.ref a),some (.bool false),mro,none,none⟩))::(.obj rx,.inst 204 rd)::(ρ++τ)⟩):∀ws,ws.map cl=[.ref x.me,.ref m]->TC Γ A ⟨W,τ⟩ (.ref 204) ws [] Q:=λws hw=>by
 refine aB (fI:=125) rs0.ns (by kernel_rfl) (by kernel_rfl) (by decide) (by decide) λrx rd=>?_
 have hA':Rm (A.under (.builtin "type.__call__" ⟨.ref 204::ws,[]⟩)) 2:=hA.make
 generalize hB:A.under (.builtin "type.__call__" ⟨.ref 204::ws,[]⟩)=B at *
 have hhB:B.handled=none:=hB▸hh
 clear hB hA
 refine Wb (body:=fBody (clsStmt 8 4)) (bs:=[("self",.ref rx),("C",.ref x.me),("memo",.ref m)]) ["self","C","base_resolvers","base","resolver"] (uC Γ) (by kernel_rfl) hA'.room (Gu.plain3 λ_ _ _ _=>Cg (by rfl)) (λL=>?_) (by rfl) (by decide) (by decide) (by rfl) (by rfl) (by rfl) _ [] (by rw [Cf,hw];rfl) rfl
 show T Γ (B.deeper (gT L)) ⟨W,(.obj (L+1),.cell (some (.ref m)))::(.var L "self",.val (some (.ref rx)))::(.var L "C",.val (some (.ref x.me)))::(.var L "base_resolvers",.val none)::(.var L "base",.val none)::(.var L "resolver",.val none)::(.obj rd,.ns rs0.ns)::(.obj rx,.inst 204 rd)::τ⟩ (Cm _ (gT L)) _
 have hR:=hA'.deeper (env:=gT L)
 have hhR:(B.deeper (gT L)).handled=none:=hhB
 generalize B.deeper (gT L)=D at *
 clear hA' hhB
 refine Am (Dj (Ac (by walk_at "mem") (Ac (by walk_at "mem") (Gp (by walk_at "mem") (by walk_at "upd") (by walk_at "set") (lX Γ) ?_))))
 refine Fb.go ?_
 refine Am (Dj (An (v:=.ref m) rfl (by walk_at "mem") (Ac (by walk_at "mem") (Gp (by walk_at "mem") (by walk_at "upd") (by walk_at "set") (lW Γ) ?_))))
 refine Fb.go ?_
 refine Am (Bl (Hv (Ao ⟨by decide,λbr=>⟨_,_,by walk_at "upd",?_⟩⟩)))
 refine Fb.go ?_
 have hTup:∀ρ,Ew Γ ⟨W,ρ⟩ x.bt (refs G x.bs):=λρ=>(nf.bt _ _ hi).tup
 have hb12:=g.bs12 hi
 have up:∀{q} ρ o rs,q∈(⟨W,τ⟩:Ay).all->q∈(⟨W,ρ++vI L rx rd x.me m br o rs τ⟩:Ay).all:=λρ o rs hq=>Bq (Bq (ρ:=[_,_,_,_,_,_,_,_]) hq)
 let r1:Rs:=⟨some (.ref x.me),some (.ref m),none,none,none,none,none⟩
 refine Am (Rv (Ef (x:=x) nf hi (Pu Γ) (.tail _ (.tail _ (.tail _ (.head _)))) (Ac (v:=.ref x.me) (by walk_at "mem") ⟨rfl,rfl⟩) (Hf (vs:=refs G x.bs) (hTup _) λit=>?_)))
 refine⟨λj=>.ref (Fm G j),x.bs,it,_,_,λ_ _=>W,λ_ z=>(.obj br,.list z.1)::vI L rx rd x.me m br z.2 r1 τ,λa z=>z.1.length=a.length/\∀v∈z.1,sA ⟨W,τ⟩ v,(([]:List Ab),none),⟨rfl,rfl,Hd (vs:=refs G x.bs) hhR⟩,⟨rfl,λ_ h=>nomatch h⟩,λ_ _ _=>hTup _,λa j b u ρ z e1 hu hz K hK=>?_,λz hz=>?_⟩
 ·obtain⟨y,sm,sd,ey,ev,es1,es2⟩:=hM.at' j (by rw [e1];exact Aa _ (.head _))
  rw [Br ey]at hu
  have hd:z.1.length<=12:=by rw [e1,Ah]at hb12;rw [hz.1];exact Bw (Nat.le_add_right _ _) hb12
  refine Ct hu (by walk_at "upd") ?_
  have hMd:=up (ρ++[(.obj br,.list z.1)]) (some (.ref y.me)) r1 hM.d
  rw [Ax]at hMd
  refine Am (Hs (Ar (Ef (x:=y) nf ey (Ly Γ) (.head _) (Ac (v:=.ref y.me) (by walk_at "mem") ⟨rfl,rfl⟩) (An (v:=.ref m) rfl (by walk_at "mem") (Xj hMd ⟨_,rfl,λhb=>?_,λ_=>?_⟩)))))
  ·rw [ev]at hb;cases hb
  ·refine Ci ?_
   refine Fb.go ?_
   refine Am (Fy (Fi (Ac (v:=.ref br) (by walk_at "mem") (Cz Cr Dp Do (Ik (vs:=z.1) (by walk_at "mem")) ⟨.inr (.inl ⟨_,rfl⟩),?_⟩))))
   refine Ag (Bd (An (v:=.ref m) rfl (by walk_at "mem") (Ef (x:=y) nf ey (Ly Γ) (.head _) (Ac (v:=.ref y.me) (by walk_at "mem") ⟨rfl,rfl⟩) (Sp hMd ev ?_))))
   refine Ao (Lo (by walk_at "upd") (by rw [Av];lia) ?_)
   refine Fb.go (Ci (hK .next _ ⟨W,_,As.le_refl _,(z.1++[.ref sm],some (.ref y.me)),rfl,?_,λv hv=>?_⟩))
   ·rw [Ah,Ah,hz.1];rfl
   ·exact(Ai.mp hv).elim (hz.2 v) λh=>⟨sm,sd,_,_,Be.mp h,es1,es2⟩
 obtain⟨hl,hrl⟩:=hz
 generalize z.1=rl at *
 generalize z.2=o at *
 refine Ci ?_
 refine Fb.go ?_
 refine Am (Dj (Ei (Ei (Hv (Ag (Hv (Ag (Ac (v:=.ref x.me) (by walk_at "mem") (Ao ⟨by rw [Av];exact By rfl,λa1=>Ao ⟨by rw [Av];exact By rfl,λa2=>?_⟩⟩)))))))))
 refine Qs (Ef (x:=x) nf hi (Pu Γ) (.tail _ (.tail _ (.tail _ (.head _)))) (Ac (v:=.ref x.me) (by walk_at "mem") ⟨rfl,rfl⟩) (Hf (vs:=refs G x.bs) (hTup _) λit₂=>?_))
 refine⟨λj=>.ref (Fm G j),x.bs,it₂,_,_,λ_ _=>W,λ_ z=>z.2++((.obj a2,.list [.ref a1])::(.obj a1,.list [.ref x.me])::(.obj br,.list rl)::vI L rx rd x.me m br o r1 τ),λ_ z=>Tr.vs z.1,λa z=>z.1.map (·.2)=a.map (Hc G)/\∀p∈z.1,(.obj p.1,.list (refs G p.2))∈z.2,(([]:Tr),([]:List As)),⟨rfl,rfl,Hd (vs:=refs G x.bs) hhR⟩,Qq,⟨rfl,λ_ h=>nomatch h⟩,rfl,
  λ_ _ _ _=>hTup _,λa b z e hJ=>?_,λC acc a j b ρ z e hJ=>?_,λacc z hJ=>?_⟩
 ·have e1:=congrArg Ia hJ.1
  rw [Ap,Ap]at e1
  rw [e,Ah]at hb12
  rw [Ap,e1,Av]
  lia
 ·obtain⟨y,sm,sd,ey,ev,es1,es2⟩:=hM.at' j (by rw [e];exact Aa _ (.head _))
  rw [Br ey]
  have up2:∀{q},q∈(⟨W,τ⟩:Ay).all->q∈(⟨W,ρ++Tg C acc "base" (some (.ref y.me)) (Tr.vs z.1) (z.2++((.obj a2,.list [.ref a1])::(.obj a1,.list [.ref x.me])::(.obj br,.list rl)::vI L rx rd x.me m br o r1 τ))⟩:Ay).all:=λhq=>Bq (Bq (ρ:=[_,_]) (Bq (up [_,_,_] o r1 hq)))
  refine Pr ⟨λ_=>?_,λhb=>(by cases hb)⟩
  refine Fi (Bd (An (v:=.ref m) rfl (by walk_at "mem") (Ef (x:=y) nf ey (Ly Γ) (.head _) (Di (v:=.ref y.me) (by walk_at "mem") (.head _) ⟨rfl,rfl⟩) (Sp (up2 hM.d) ev ?_))))
  refine(Pd (up2 es1) (up2 es2) (sO Γ) (by show _∉[("leaf" :Str),"_mro"];decide) ⟨.inl (by kernel_rfl),Ao λws hw=>?_⟩)
  refine(iQ (vs:=refs G y.ss) (hR.le (by decide)) (up2 es1) (up2 es2) (.of_mem (Ox (nf.st _ _ ey))) (by rw [Bf];have:=g.ss12 ey;lia) (λrr=>?_) ws hw).T
  refine⟨W,(.obj rr,.list (refs G y.ss))::(z.2++((.obj a2,.list [.ref a1])::(.obj a1,.list [.ref x.me])::(.obj br,.list rl)::vI L rx rd x.me m br o r1 τ)),some (.ref y.me),As.le_perm (Bb W (aV _ _ _ _ _)),(z.1++[(rr,y.ss)],(.obj rr,.list (refs G y.ss))::z.2),rfl,?_,?_,λp hp=>?_⟩
  ·exact(Bh (l₁:=z.1) (l₂:=[(rr,y.ss)])).symm
  ·rw [Bh,Bh,hJ.1,<-We ey]
   rfl
  ·rcases Ai.mp hp with h|h
   ·exact .tail _ (hJ.2 p h)
   ·rw [Be.mp h];exact .head _
 obtain⟨hq1,hq2⟩:=hJ
 generalize z.1=qs at *
 generalize z.2=ρ at *
 have hpl:(Tr.vs qs).length<=12:=by
  have:=congrArg Ia hq1
  rw [Ap,Ap]at this
  rw [Ap,this]
  exact hb12
 intro u v hu hv
 refine Wu hu hv (vs:=[.ref a1]) (us:=Tr.vs qs) (by walk_at "mem") (by walk_at "mem") (by rw [Bo];lia) λc1=>?_
 refine Hv (Ag (Bz (Az (v:=.type "list") (by kernel_rfl) (by decide+kernel) (by decide) ⟨.inr (.inr ⟨_,rfl⟩),?_⟩)))
 refine Ag (Ef (x:=x) nf hi (Pu Γ) (.tail _ (.tail _ (.tail _ (.head _)))) (Ac (v:=.ref x.me) (by walk_at "mem") ⟨rfl,rfl⟩) ?_)
 refine Ao (Oj (vs:=refs G x.bs) (hTup _) (by rw [Bf];lia) λlb=>?_)
 refine Ao ⟨by rw [Av];exact By rfl,λa3=>?_⟩
 intro u v hu hv
 refine Wu hu hv (vs:=[.ref a1]++Tr.vs qs) (us:=[.ref lb]) (by walk_at "mem") (by walk_at "mem") (by rw [Ah,Bo,Bo];lia) λc2=>?_
 refine Ac (v:=.ref rx) (by walk_at "mem") (Gp (by walk_at "mem") (by walk_at "upd") (by walk_at "set") (lV Γ) ?_)
 refine Fb.go ?_
 have tree:=λT=>uT (T:=T) (c2:=c2) (a3:=a3) (lb:=lb) (c1:=c1) (acc:=acc) (a2:=a2) (a1:=a1) (br:=br) (rl:=rl) hi hq1 hq2
 have upS:∀{q} ρ' o rs,q∈(⟨W,τ⟩:Ay).all->q∈(⟨W,ρ'++yH G x.bs c2 a3 lb c1 acc a2 a1 br x.me qs rl ρ (vI L rx rd x.me m br o rs τ)⟩:Ay).all:=λρ' o rs hq=>Bq (Bq (ρ:=[_,_,_,_,_]) (Bq (up [_,_,_] o rs hq)))
 let r2:Rs:=⟨some (.ref x.me),some (.ref m),some (.ref c2),none,none,none,none⟩
 show T Γ D ⟨W,yH G x.bs c2 a3 lb c1 acc a2 a1 br x.me qs rl ρ (vI L rx rd x.me m br o r2 τ)⟩ _ _
 refine Am (Dj (Bz (Az (v:=.builtin "any") (by kernel_rfl) (by decide+kernel) (by decide) ⟨.inr (.inl ⟨_,rfl⟩),?_⟩)))
 refine Ag (sW (c:=124) (P:=122) (f:=λ_=>.none) (by decide) (by kernel_rfl) rfl hR.room (Ac (v:=.ref br) (by walk_at "mem") (Eh (vs:=rl) (by walk_at "mem") λit₃=>?_)))
 refine⟨it₃,_,λσ=>((Er.obj br,CO.list rl):As)∈σ.all/\∀v∈rl,sA σ v,rl,_,_,rfl,rfl,λA' hA=>⟨(Es hA).weak λσ h=>h.1,Gv⟩,λσ ext h=>by exact⟨Bq h.1,λv hv=>(h.2 v hv).ext⟩,λA' C code σ v hA hv hσ hm=>?_,λga ρg hF=>?_⟩
 ·refine Iz (Di (v:=v) hm (.head _) λo ho=>?_)
  obtain⟨sm,sd,b,t,e,h1,h2⟩:=hσ.2 v hv
  exact Ux (a:=.none) (ho.trans e) h1 h2 (tS Γ) (.inr (by show _∉[("leaf" :Str),"_mro"];decide)) ⟨rfl,rfl⟩
 have hF2:=hF D.in1 hhR hR.in1.room
 refine Ao λws₁ hw₁=>Aeh hhR hF2.1 hF2.2 ⟨by walk_at "mem",λv hv=>(hrl v hv).casesOn λs d b t e h1 h2=>⟨s,d,b,t,e,upS [] o r2 h1,upS [] o r2 h2⟩⟩ (λv hv=>.inl ?_) ?_ ws₁ hw₁
 ·obtain⟨_,_,e⟩:=Bn.mp hv
  exact e.symm
 refine Ac (v:=.ref rx) (by walk_at "mem") (Gp (by walk_at "mem") (by walk_at "upd") (by walk_at "set") (lY Γ) ?_)
 refine Fb.go ?_
 have hfin:∀mro extra,dX G i x.bs mro extra->Ja (λv σ'=>v=.none/\Q (.ref rx) σ') .next ⟨W,extra++yH G x.bs c2 a3 lb c1 acc a2 a1 br x.me qs rl ρ (vI L rx rd x.me m br o ⟨some (.ref x.me),some (.ref m),some (.ref c2),some (.bool false),mro,none,none⟩ τ)⟩:=by
  intro mro extra hm
  have hq:=h rx rd c2 (extra++yH G x.bs c2 a3 lb c1 acc a2 a1 br x.me qs rl ρ (nP L rx x.me m (.ref br) o [])) mro (tree _).ext (hm.sub λ_ hp=>Af _ hp)
  refine⟨_,As.le_perm (Bb W ?_),rfl,hq⟩
  refine Bv.trans (Bv.of_eq ?_) (Yt _ _ (extra++yH G x.bs c2 a3 lb c1 acc a2 a1 br x.me qs rl ρ (nP L rx x.me m (.ref br) o [])) τ).symm
  simp only [yH,vI,nP,Ax,Hp,Fq]
 refine Am (Hs (Ar (Bz (Az (v:=.builtin "len") (by kernel_rfl) (by decide+kernel) (by decide) ⟨.inr (.inl ⟨_,rfl⟩),?_⟩))))
 refine Ag (Ef (x:=x) nf hi (Pu Γ) (.tail _ (.tail _ (.tail _ (.head _)))) (Ac (v:=.ref x.me) (by walk_at "mem") ⟨rfl,rfl⟩) ?_)
 refine Ao (rN (hTup _) (by rw [Bf];lia) (Dd (Nr ⟨_,rfl,λhb=>?_,λhb=>?_⟩)))
 ·rw [Bf,beq_iff_eq]at hb
  obtain⟨b,hxb⟩:=List.length_eq_one_iff.mp (Int.ofNat.inj hb)
  obtain⟨y,sm,sd,ey,ev,es1,es2⟩:=hM.at' b (by rw [hxb];exact .head _)
  let r3:Rs:=⟨some (.ref x.me),some (.ref m),some (.ref c2),some (.bool false),none,none,none⟩
  refine Am (Dj (Ei (Hv (Ag (Ac (v:=.ref x.me) (by walk_at "mem") (Ao ⟨by rw [Av];exact By rfl,λl1=>?_⟩))))))
  refine Fi (Bd (An (v:=.ref m) rfl (by walk_at "mem") (Iz (Bd (Ef (x:=x) nf hi (Pu Γ) (.tail _ (.tail _ (.tail _ (.head _)))) (Ac (v:=.ref x.me) (by walk_at "mem") ⟨rfl,rfl⟩) (Dd (Gn<|Vu (hTup _) (v:=.ref y.me) (by decide) (by decide) (by rw [hxb,<-Br ey];rfl) (Aah nf ey (Ly Γ) (.head _) (Sp (upS [_] o r3 hM.d) ev ?_)))))))))
  refine(Pd (upS [_] o r3 es1) (upS [_] o r3 es2) (sO Γ) (by show _∉[("leaf" :Str),"_mro"];decide) ⟨.inl (by kernel_rfl),Ao λws hw=>?_⟩)
  refine(iQ (vs:=refs G y.ss) (hR.le (by decide)) (upS [_] o r3 es1) (upS [_] o r3 es2) (.of_mem (Ox (nf.st _ _ ey))) (by rw [Bf];have:=g.ss12 ey;lia) (λrr=>?_) ws hw).T
  intro u v hu hv
  refine Wu hu hv (vs:=[.ref x.me]) (us:=refs G y.ss) (mI 1 rfl) (mI 0 rfl) (by rw [Bf,Bo];have:=g.ss12 ey;lia) λc3=>?_
  refine Ac (v:=.ref rx) (by walk_at "mem") (Gp (by walk_at "mem") (by walk_at "upd") (by walk_at "set") (Uw Γ) ?_)
  refine Fb.go (Ci (Ci (hfin (some (.ref c3)) [_,_,_] (.one b c3 hxb rfl ?_))))
  rw [show refs G (i::Hc G b)=[.ref x.me]++refs G y.ss by rw [We ey,<-Br hi];rfl]
  exact .head _
 ·rw [Bf]at hb
  exact Ci (Ci (hfin none [] (.no (λq=>by rw [q]at hb;cases hb) rfl)))
end
end
section
noncomputable def fG (K:Frag) (C:Ak) (name:Str) (f:Ak):Bool:=Pj K (.ref C) "__getattribute__" ==some (some (.builtin "type.__getattribute__"))&&readsIn K C (.type "type")&&
 (match findCls K (.ref C) (.type "type") name with|some (.val v)=>v==.ref f|_=>false)
noncomputable def bD (K:Frag) (C:Ak) (name:Str) (p f:Ak):Bool:=Pj K (.ref C) "__getattribute__" ==some (some (.builtin "type.__getattribute__"))&&readsIn K C (.type "type")&&
 (match findCls K (.ref C) (.type "type") name with|some (.get g a _ tp)=>g==.builtin "staticmethod.__get__" &&a==.ref p&&tp==.ref C|_=>false)&&
 (match recIn K p "staticmethod" with|some (.ref f'::_)=>f'==f|_=>false)
section
variable {Γ:Bj} {A:Aw} {σ:Ay} {env:Env}
set_option tactic.hygienic true in
theorem nI {C p f:Ak} {name:Str} {ov:Ab} {pl:Sem Bool} {Q:Ab×List Ab->Ay->Prop} (ho:cl ov=.ref C) (hk:bD Γ.K C name p f=true) (h:Q (.ref f,[]) σ):T Γ A σ (Ie ov name pl) Q:=λs R=>by
 have:=Cc ho
 subst this
 unfold bD at hk
 simp only [Cy,beq_iff_eq]at hk
 obtain⟨⟨⟨k1,k2⟩,k3⟩,k4⟩:=hk
 refine method_cls R.kin k1 ?_
 split at k3
 ·rename_i g a obj tp hf
  simp only [Cy,beq_iff_eq]at k3
  obtain⟨⟨rfl,rfl⟩,rfl⟩:=k3
  split at k4
  ·rename_i f' rest hr
   have:=beq_iff_eq.mp k4
   subst this
   refine cls_bind R.kin k2 hf (Ng (sm_get (s:={s with toks:=s.toks+1}) R.kin hr ?_))
   exact handed_on rfl ⟨σ,R.toks _,h⟩
  ·cases k4
 ·cases k3
set_option tactic.hygienic true in
theorem vD {C f:Ak} {name:Str} {ov:Ab} {pl:Sem Bool} {Q:Ab×List Ab->Ay->Prop} (ho:cl ov=.ref C) (hk:fG Γ.K C name f=true) (h:Q (.ref f,[]) σ):T Γ A σ (Ie ov name pl) Q:=λs R=>by
 have:=Cc ho
 subst this
 unfold fG at hk
 simp only [Cy,beq_iff_eq]at hk
 obtain⟨⟨k1,k2⟩,k3⟩:=hk
 refine method_cls R.kin k1 ?_
 split at k3
 ·rename_i v hf
  have:=beq_iff_eq.mp k3
  subst this
  exact cls_value R.kin k2 hf rfl ⟨σ,R.toks _,h⟩
 ·cases k3
theorem jB {C f:Ak} {name:Str} {pl:Sem Bool} {Q:Ab×List Ab->Ay->Prop} (hk:fG Γ.K C name f=true) (h:Q (.ref f,[]) σ):P1 Γ A (λo=>Ie o name pl) Q (.ref C) σ:=λ_ ho=>vD (ho:=ho) (hk:=hk) (h:=h)
theorem aA {W τ:List As} {pos:Pos} {Q:Ab->Ay->Prop} (h:∀a,Q (.ref a) ⟨W,(.obj a,.idict [])::τ⟩):T Γ A ⟨W,τ⟩ (Dr (.Dict [] [] pos) env) Q:=λs R=>
 wpAny_Dict_empty ⟨_,R.push (c:=.idict []) (s':={s with heap:=s.heap.push {cls:=.type "dict",data:=.dict #[]}}) (λ_ _ e=>Al _ e) rfl rfl ⟨[],Heap.DictOf.new s.heap,rfl⟩,h _⟩
theorem xZ {e₁ e₂:Aq} {pos:Pos} {Q:Ab->Ay->Prop}
  (h:T Γ A σ (Dr e₁ env) λc σ₁=>∀v,cl v=c->T Γ A σ₁ (Oz v) λb σ₂=>(b=true->Q c σ₂)/\(b=false->T Γ A σ₂ (Dr e₂ env) Q)):T Γ A σ (Dr (.BoolOp .Or [e₁,e₂] pos) env) Q:=λs R=>
 BoolOp_or (h.elim R λv s₁ σ₁ R₁ q₁=>(q₁ v rfl).elim R₁ λb s₂ σ₂ R₂ q₂=>by
  cases b with
  |true=>exact⟨σ₂,R₂,q₂.1 rfl⟩
  |false=>exact BoolOp_one (q₂.2 rfl s₂ R₂))
theorem zZ {e₁ e₂:Aq} {pos:Pos} {Q:Ab->Ay->Prop}
  (h:T Γ A σ (Dr e₁ env) λc σ₁=>∀v,cl v=c->T Γ A σ₁ (Oz v) λb σ₂=>(b=false->Q c σ₂)/\(b=true->T Γ A σ₂ (Dr e₂ env) Q)):T Γ A σ (Dr (.BoolOp .And [e₁,e₂] pos) env) Q:=λs R=>
 BoolOp_and (h.elim R λv s₁ σ₁ R₁ q₁=>(q₁ v rfl).elim R₁ λb s₂ σ₂ R₂ q₂=>by
  cases b with
  |false=>exact⟨σ₂,R₂,q₂.1 rfl⟩
  |true=>exact BoolOp_one (q₂.2 rfl s₂ R₂))
theorem xM {id kwn:Str} {p pos kpos:Pos} {a kwv:Aq} {rest:List Aq} {x:Sem Ab} {xs:List (Bool×Sem Ab)} {Q:Ab->Ay->Prop}
  (h:T Γ A σ (Dr (.Name id p) env) λc σ₁=>Qn Γ c/\T Γ A σ₁ (Ms (backTo pos (Mi (a::rest) env))) λvs σ₂=>T Γ A σ₂ (Dr kwv env) λkv σ₃=>∀ws kw,ws.map cl=vs->cl kw=kv->T Γ A σ₃ (call c ws [(kwn,kw)]) Q)
  (hs:autoParam (backTo pos (Mi (a::rest) env)=(false,x)::xs) aR) (hp:autoParam (xs.any (·.1)=false) aR):T Γ A σ (Dr (.Call (.Name id p) (a::rest) [⟨some kwn,kwv,kpos⟩] pos) env) Q:=λs R=>
 wpAny_Call_ofName (h.elim R λf s₁ σ₁ R₁ ⟨hc,q⟩=>by
  have e:=Yi (f:=f) hc rfl
  rw [<-e]at hc q
  have hany:((backTo pos (Mi (a::rest) env)).any λx=>x.1)=false:=by rw [hs,Om,hp];rfl
  refine callWith_of (P:=λh=>Γ.K.In h) (by rw [hany];rfl) (λh X=>Qn.keeps (Γ:=Γ) (s:={heap:=h}) hc X) ?_
  rw [hs]at q ⊢
  refine evalArgs_kw rfl (q.elim R₁ λvs s₂ σ₂ R₂ q₂=>?_)
  refine evalAll_cons (Ad (q₂.elim R₂ λkw s₃ σ₃ R₃ q₃=>Ad (Eo (Au ?_))))
  refine evalAll_nil ⟨R₃.kin,?_⟩
  exact(q₃ vs kw rfl rfl).elim R₃ λ_ _ σ' R' q=>⟨σ',R',q⟩)
end
end
section
theorem xW (Γ:Bj):yG Γ.K 364=true/\yG Γ.K 427=true:=⟨by kernel_rfl,by kernel_rfl⟩
theorem wS (Γ:Bj):aL Γ.K 364 364=true/\aL Γ.K 364 427=true/\aL Γ.K 427 364=true/\aL Γ.K 427 427=true:=⟨by kernel_rfl,by kernel_rfl,by kernel_rfl,by kernel_rfl⟩
theorem mA (Γ:Bj):Γ.K.lookup 117=some ⟨.type "function",none,.func (Ka Γ 117 "C3.resolver" (clsStmt 8 0) (.ref 116) .none),#[]⟩:=by kernel_rfl
section
variable {Γ:Bj} {A:Aw} {G:List Nd} {σ:Ay}
theorem wF {W τ:List As} {s:Ba} {i j:Nat} {x y:Nd} (nf:NF W G) (hu:A.units < cLine) (hi:G[i]? =some x) (hj:G[j]? =some y) (R:Ea Γ ⟨W,τ⟩ s):SeqAt.EqAt A s (.ref x.me) (.ref y.me) (x.me==y.me):=by
 by_cases e:x.me=y.me
 ·rw [e,beq_self_eq_true];exact SeqAt.EqAt.same _
 ·rw [beq_eq_false_iff_ne.mpr e]
  have k1:∀C,C=364\/C=427->yG Γ.K C=true:=λC h=>by rcases h with rfl|rfl;exact(xW Γ).1;exact(xW Γ).2
  refine mP R (Ox (nf.inst _ _ hi)) (Ox (nf.inst _ _ hj)) e hu (k1 _ (nf.cls _ _ hi)) (k1 _ (nf.cls _ _ hj)) ?_
  obtain⟨a1,a2,a3,a4⟩:=wS Γ
  rcases nf.cls _ _ hi with h|h<;>rcases nf.cls _ _ hj with h'|h'<;>rw [h,h']<;>assumption
inductive Aab (G:List Nd) (σ:Ay) (p:Nat×Ak):Prop
 |mk (y:Nd) (e:G[p.1]? =some y) (m:(.obj p.2,.tup [.ref y.me,.ref y.st])∈σ.all)
noncomputable abbrev oR:=List (Nat×Ak)
noncomputable abbrev oR.vs (ps:oR):List Ab:=ps.map λp=>.ref p.2
structure dU (G:List Nd) (σ:Ay) (bs:List Nat) (ps:oR):Prop where
 e:ps.map (·.1)=bs
 at':∀p∈ps,Aab G σ p
theorem dU.sub {G:List Nd} {σ σ':Ay} {bs:List Nat} {ps:oR} (h:dU G σ bs ps) (k:∀q∈σ.all,q∈σ'.all):dU G σ' bs ps:=⟨h.e,λp hp=>(h.at' p hp).casesOn λy e m=>⟨y,e,k _ m⟩⟩
set_option tactic.hygienic true in
theorem Rl {v:Ab} {k:Int}:∀{kvs:List (Int×Ab)},Fk (Lj kvs k v) k=some v:=by
 intro kvs
 unfold Lj Fk
 split
 ·rename_i h
  rw [Hb]at h
  obtain⟨p,hp,hk⟩:=h
  induction kvs with
  |nil=>cases hp
  |cons q r ih=>
   simp only [Cf,Hh]
   by_cases hq:q.1=k
   ·simp [hq]
   ·simp only [hq,if_false,decide_false]
    rcases Ce.mp hp with rfl|hp
    ·exact absurd (of_decide_eq_true hk) hq
    ·exact ih hp
 ·rename_i h
  rw [List.find?_append]
  have:kvs.find? (λkv=>decide (kv.1=k))=none:=by
   rw [List.find?_eq_none]
   intro p hp hk
   exact h (Hb.mpr ⟨p,hp,hk⟩)
  rw [this];simp
set_option tactic.hygienic true in
theorem Rf {v:Ab} {k j:Int} (hj:j≠k):∀{kvs:List (Int×Ab)},Fk (Lj kvs k v) j=Fk kvs j:=by
 intro kvs
 unfold Lj Fk
 split
 ·induction kvs with
  |nil=>rfl
  |cons q r ih=>
   rename_i h
   simp only [Cf,Hh]
   by_cases hq:q.1=k
   ·have h1:¬q.1=j:=λe=>hj (by rw [<-e,hq])
    simp only [hq,if_true]
    have h2:¬k=j:=λe=>hj e.symm
    simp only [h2,decide_false]
    by_cases hr:(r.any λkv=>decide (kv.1=k))=true
    ·exact ih hr
    ·have:(r.map λkv=>if kv.1=k then(kv.1,v)else kv)=r:=by
      rw [Ge (g:=id) (λp hp=>?_),List.map_id]
      have:p.1≠k:=λe=>hr (Hb.mpr ⟨p,hp,decide_eq_true e⟩)
      rw [if_neg this];rfl
     rw [this]
   ·simp only [hq,if_false]
    by_cases hqj:q.1=j
    ·simp [hqj]
    ·simp only [hqj,decide_false]
     rw [Om,decide_eq_false hq,Bool.false_or]at h
     exact ih h
 ·rw [List.find?_append]
  have h2:¬k=j:=λe=>hj e.symm
  simp [h2]
end
end
section
theorem Ve (es:List (Int×Ab)) (k:Int) (v:Ab):(Lj es k v).length<=es.length+1:=by
 unfold Lj;split<;>simp
section
variable {Γ:Bj} {A:Aw} {G:List Nd} {σ:Ay}
noncomputable abbrev sC (L:Ak) (me bm m:Ak) (o₁ o₂:Option Ab) (τ:List As):List As:=
 (.var L "C",.val (some (.ref me)))::(.var L "strict",.val (some (.bool false)))::(.var L "base_mros",.val (some (.ref bm)))::(.var L "memo",.val (some (.ref m)))::(.var L "base",.val o₁)::(.var L "mro",.val o₂)::τ
theorem tX {G:List Nd} (g:Gr G) {i j:Nat} {x y:Nd} (hi:G[i]? =some x) (hj:G[j]? =some y) (h:i≠j):x.key≠y.key:=λe=>h (g.key_inj (Aj.mp hi).1 (Aj.mp hj).1 (by rw [Gd hi,Gd hj,e]))
noncomputable abbrev Xq (L:Ak):Env:=Gk "C3.resolver" (fScope (clsStmt 8 0)) L 117 (.ref 116) []
structure Aha where
 es:List (Int×Ab)
 o₁:Option Ab
 o₂:Option Ab
 ρ:List As
noncomputable abbrev oT (L me bm m:Ak) (ρ₀:List As) (z:Aha) (τ:List As):List As:=z.ρ++(ρ₀++((.obj m,.idict z.es)::sC L me bm m z.o₁ z.o₂ τ))
theorem mW {W τ:List As} {i:Nat} {x:Nd} {bm:Ak} {ps:oR} {Q:Ab->Ay->Prop} (nf:NF W G) (g:Gr G) (hA:Rm A 4) (hh:A.handled=none) (hi:G[i]? =some x) (hb:(.obj bm,.list ps.vs)∈(⟨W,τ⟩:Ay).all) (hp:dU G ⟨W,τ⟩ x.bs ps)
  (h:∀rx rd a m ρ mro,Sg G ⟨[],ρ⟩ a (Rt G i)->dX G i x.bs mro ρ->
   Q (.ref rx) ⟨W,(.obj rd,.ns (Rs.ns ⟨some (.ref x.me),some (.ref m),some (.ref a),some (.bool false),mro,none,none⟩))::(.obj rx,.inst 204 rd)::(ρ++τ)⟩):∀ws,ws.map cl=[.ref x.me,.none,.ref bm]->TC Γ A ⟨W,τ⟩ (.ref 117) ws [] Q:=λws hw=>by
 refine Oy (body:=fBody (clsStmt 8 0)) (bs:=[("C",.ref x.me),("strict",.none),("base_mros",.ref bm)]) ["C","strict","base_mros","memo","base","mro"] (mA Γ) (by kernel_rfl) hA.room (Gu.plain3 λ_ _ _ _=>Cg (by rfl)) (λL=>?_) (by rfl) (by rfl) (by decide) (by rfl) (by rfl) (by rfl) ws [] hw rfl
 show T Γ (A.deeper (Xq L)) ⟨W,(.var L "C",.val (some (.ref x.me)))::(.var L "strict",.val (some .none))::(.var L "base_mros",.val (some (.ref bm)))::(.var L "memo",.val none)::(.var L "base",.val none)::(.var L "mro",.val none)::τ⟩ (Cm _ (Xq L)) _
 have hA':Rm (A.deeper (Xq L)) 3:=hA.deeper
 have hhD:(A.deeper (Xq L)).handled=none:=hh
 generalize A.deeper (Xq L)=D at *
 have hun:D.in1.units < cLine:=by have:=(hA'.in1).units;lia
 have hbs12:ps.length<=12:=by
  have:=g.bs12 hi
  rw [<-hp.e,Ap]at this
  exact this
 have hblt:∀b∈x.bs,b < G.length:=λb hb=>Jh ((g.bs _ _ hi).2 b hb) (Aj.mp hi).1
 refine Am (Bl (Px (Ar (Ac (v:=.none) (by walk_at "mem") (Jt (Kr (by rfl) ⟨_,rfl,λhb=>(by cases hb),λ_=>Xu ⟨_,_,by walk_at "upd",?_⟩⟩))))))
 refine Fb.go ?_
 refine Am (Bl (aA λm=>⟨_,_,by walk_at "upd",?_⟩))
 refine Fb.go ?_
 have rest:∀bm':Ak,∀ρ₀:List As,(∀ρ z,(Er.obj bm',CO.list ps.vs)∈(⟨W,ρ++oT L x.me bm' m ρ₀ z τ⟩:Ay).all)->T Γ D ⟨W,oT L x.me bm' m ρ₀ ⟨[],none,none,[]⟩ τ⟩ (Cm ((fBody (clsStmt 8 0)).drop 3) (Xq L)) (Ja Q):=by
  intro bm' ρ₀ hb'
  have up:∀{q} ρ z,q∈(⟨W,τ⟩:Ay).all->q∈(⟨W,ρ++oT L x.me bm' m ρ₀ z τ⟩:Ay).all:=λρ z hq=>Bq (Bq (Bq (Bq (ρ:=[_,_,_,_,_,_,_]) hq)))
  refine Am (Rv (Ac (v:=.ref bm') (by walk_at "mem") (Eh (vs:=ps.vs) (hb' [] ⟨[],none,none,[]⟩) λit=>?_)))
  refine⟨λp:Nat×Ak=>.ref p.2,ps,it,_,_,λ_ _=>W,λ_ z=>oT L x.me bm' m ρ₀ z τ,λa z=>z.es.length<=a.length/\∀p∈a,sX G ⟨[],z.ρ⟩ z.es p.1,⟨[],none,none,[]⟩,⟨rfl,rfl,Es hhD⟩,⟨Bx _,λ_ h=>nomatch h⟩,λ_ z _=>hb' [] z,λa p b u ρ z e1 hu hz K hK=>?_,λz hz=>?_⟩
  ·have hpm:p∈ps:=by rw [e1];exact Aa _ (.head _)
   obtain⟨y,ey,hy⟩:=hp.at' p hpm
   have hmem:p.1∈x.bs:=hp.e▸Cv hpm
   have hal:a.length+1<=12:=by rw [e1,Ah,Ft]at hbs12;lia
   refine Xe hhD hu (.of_mem (up ρ z hy)) (by walk_at "upd") (by walk_at "upd") ?_
   refine Am (vE (Ar (Ac (v:=.ref y.me) (by walk_at "mem") (Ef (x:=x) nf hi (Pu Γ) (.tail _ (.tail _ (.tail _ (.head _)))) (Ac (v:=.ref x.me) (by walk_at "mem") ⟨rfl,rfl⟩) λu v hu₂ hv=>dM hu₂ hv ((nf.bt _ _ hi).tup) (λz hz=>?_) ⟨_,rfl,?_,?_⟩))))
   ·obtain⟨j,hj,e⟩:=Bn.mp hz
    obtain⟨z',ez⟩:=Dl (hblt j hj)
    exact⟨z'.me,by rw [<-e,Br ez],λs R=>wF nf hun ez ey R⟩
   ·rw [Hb]
    exact⟨.ref y.me,Bn.mpr ⟨_,hmem,by rw [Br ey]⟩,beq_self_eq_true _⟩
   refine Fb.go ?_
   refine Am (Ky (Bz (Bk (v:=.ref 86) (by kernel_rfl) ⟨.inl (by kernel_rfl),?_⟩)))
   refine Ag (Ac (v:=.ref y.me) (by walk_at "mem") (Ag (Ac (v:=.ref y.st) (by walk_at "mem") (Ao λws hw=>?_))))
   refine(uM (hA'.le (by decide)) (vs:=refs G y.ss) (.of_mem (Ox (nf.st _ _ ey))) (λsx sd=>?_) ws hw).T
   refine Ac (v:=.ref m) (by walk_at "mem") (Ef (x:=y) nf ey (Ly Γ) (.head _) (Ac (v:=.ref y.me) (by walk_at "mem") ⟨rfl,rfl⟩) λv ov iv hv ho hi'=>Qg ho hi' hv (by walk_at "upd") (by rw [Av];have:=hz.1;lia) ?_)
   refine Fb.go (Ci (hK .next _ ⟨W,(.obj sd,.ns (dQ y.me y.st))::(.obj sx,.inst 86 sd)::(z.ρ++(ρ₀++((.obj m,.idict (Lj z.es y.key (.ref sx)))::sC L x.me bm' m (some (.ref y.me)) (some (.ref y.st)) τ))),As.le_perm (Bb W (Yt _ _ _ _)),⟨Lj z.es y.key (.ref sx),some (.ref y.me),some (.ref y.st),(.obj sd,.ns (dQ y.me y.st))::(.obj sx,.inst 86 sd)::z.ρ⟩,rfl,?_,λq hq=>?_⟩))
   ·rw [Ah]
    exact Bw (Ve _ _ _) (Jq hz.1)
   ·by_cases e:q.1=p.1
    ·rw [e]
     exact⟨y,sx,sd,ey,Rl,.tail _ (.head _),.head _⟩
    ·have hqa:q∈a:=(Ai.mp hq).elim id λh=>absurd (by rw [Be.mp h]) e
     obtain⟨z',s',sd',e1,e2,e3,e4⟩:=hz.2 q hqa
     exact⟨z',s',sd',e1,by rw [Rf (tX g e1 ey e)];exact e2,.tail _ (.tail _ e3),.tail _ (.tail _ e4)⟩
  ·refine Ci ?_
   refine Fb.go ?_
   refine Am (Hs (Ej (Ac (v:=.bool false) (by walk_at "mem") (Fc ⟨λh=>(by cases h),λ_=>?_⟩))))
   refine Ci ?_
   refine Fb.go ?_
   refine Am (Fj (Bz (Bk (v:=.ref 204) (by kernel_rfl) ⟨.inl (by kernel_rfl),?_⟩)))
   refine Ag (Ac (v:=.ref x.me) (by walk_at "mem") (Ag (Ac (v:=.ref m) (by walk_at "mem") (Ao λws hw=>?_))))
   refine(uS nf g hA' hhD hi (es:=z.es) ⟨by walk_at "mem",λb hb=>?_⟩ (λrx rd a ρ₂ mro tr hm=>?_) ws hw).T
   ·rw [<-hp.e]at hb
    obtain⟨p,hpm,e⟩:=Bn.mp hb
    rw [<-e]
    obtain⟨y,s',sd',e1,e2,e3,e4⟩:=hz.2 p hpm
    exact⟨y,s',sd',e1,e2,Ae (Af _ e3),Ae (Af _ e4)⟩
   ·refine⟨_,As.le_of_eq ?_,h rx rd a m (ρ₂++oT L x.me bm' m ρ₀ z []) mro (tr.sub λp hp=>Ae (Af _ hp)) (hm.sub λ_ hp=>Af _ hp)⟩
    simp only [oT,sC,Ax,Hp,Fq]
 refine Am (Bl (xZ (Ac (v:=.ref bm) (by walk_at "mem") (Oo (vs:=ps.vs) (by walk_at "memo") (by rw [Ap];lia) ⟨λ_=>⟨_,_,by walk_at "upd",?_⟩,λhb=>Hv (Ao ⟨by rw [Av];exact Ca _,λe=>⟨_,_,by walk_at "upd",?_⟩⟩)⟩))))
 ·exact Fb.go (rest bm [] λρ z=>Bq (Bq (Bq (ρ:=[_,_,_,_,_,_,_]) hb)))
 ·have:ps=[]:=by
   cases ps with
   |nil=>rfl
   |cons _ _=>cases hb
  exact Fb.go (rest e [(.obj e,.list [])] λρ z=>by rw [this];exact Bq (Bq (Ae (.head _))))
end
end
section
theorem Agb (Γ:Bj):Γ.K.lookup 242=some ⟨.type "function",none,.func (Ka Γ 242 "ro" (topStmt 10) (.ref 241) (.ref 235)),#[]⟩:=by kernel_rfl
theorem cM (Γ:Bj):bD Γ.K 204 "resolver" 119 117=true:=by kernel_rfl
theorem wL (Γ:Bj):Sh Γ.K 204 "mro" 201=true:=by kernel_rfl
theorem wH {kws:List (Str×Ab)} {k:Str} {c:Ab} (h:kws.map (λp:Str×Ab=>(p.1,cl p.2))=[(k,c)]):∃v,kws=[(k,v)]/\cl v=c:=by
 cases kws with
 |nil=>cases h
 |cons p r=>
  cases r with
  |nil=>obtain⟨a,v⟩:=p;simp at h;exact⟨v,by rw [h.1],h.2⟩
  |cons _ _=>simp at h
noncomputable def Yv (G:List Nd) (i:Nat) (ks:List Nat):Prop:=
 ((∀k∈ks,k=i\/k∈Fx G i\/∃b∈Fx G i,k∈Hc G b)/\∀k,(k=i\/∃b∈Fx G i,k∈Hc G b)->k∈ks)\/∀k,k∈ks↔Ht G i k
theorem iG {G:List Nd} {i k:Nat}:(∃l∈Rt G i,k∈l)↔k=i\/k∈Fx G i\/∃b∈Fx G i,k∈Hc G b:=by
 unfold Rt
 constructor
 ·rintro⟨l,hl,hk⟩
  rcases Ai.mp hl with h|h
  ·rcases Ai.mp h with h|h
   ·rw [Be]at h
    subst h
    exact .inl (Be.mp hk)
   ·obtain⟨b,hb,rfl⟩:=Bn.mp h
    exact .inr (.inr ⟨b,hb,hk⟩)
  ·rw [Be]at h
   subst h
   exact .inr (.inl hk)
 ·rintro(rfl|h|⟨b,hb,h⟩)
  ·exact⟨[k],by simp,by simp⟩
  ·exact⟨Fx G i,by simp,h⟩
  ·exact⟨Hc G b,by simp;exact .inr (.inl ⟨b,hb,rfl⟩),h⟩
set_option tactic.hygienic true in
theorem Gr.ss_len {G:List Nd} (g:Gr G) (b:Nat):(Hc G b).length<=12/\(∀k∈Hc G b,k < G.length)/\(Hc G b).Nodup:=by
 unfold Hc
 split
 ·rename_i y e
  have h1:=g.ss b y e
  exact⟨Bw (Gh _ _ h1.1 h1.2) g.few,h1.2,h1.1⟩
 ·exact⟨Ca _,λ_ h=>(by cases h),.nil⟩
theorem nY {G:List Nd} (g:Gr G) {i:Nat} (hi:i < G.length):(∀l∈Rt G i,l.length<=1000/\∀k∈l,k < G.length)/\(Rt G i).length<=1000:=by
 have h12:(Fx G i).length<=12:=Bw (Gh G.length _ (g.bs_nodup i) λb hb=>Jh (g.bs_lt hb) hi) g.few
 refine⟨λl hl=>?_,by simp [Rt];lia⟩
 unfold Rt at hl
 rcases Ai.mp hl with h|h
 ·rcases Ai.mp h with h|h
  ·rw [Be]at h
   subst h
   exact⟨by simp,λk hk=>by rw [Be.mp hk];exact hi⟩
  ·obtain⟨b,hb,rfl⟩:=Bn.mp h
   have:=g.ss_len b
   exact⟨by lia,this.2.1⟩
 ·rw [Be]at h
  subst h
  exact⟨by lia,λb hb=>Jh (g.bs_lt hb) hi⟩
section
variable {Γ:Bj} {A:Aw} {G:List Nd} {σ:Ay}
noncomputable abbrev Xp (L:Ak) (me bm:Ak) (o₁ o₂ o₃:Option Ab) (τ:List As):List As:=
 (.var L "C",.val (some (.ref me)))::(.var L "strict",.val (some .none))::(.var L "base_mros",.val (some (.ref bm)))::(.var L "log_changed_ro",.val (some .none))::(.var L "use_legacy_ro",.val (some .none))::(.var L "resolver",.val o₁)::(.var L "mro",.val o₂)::(.var L "use_legacy",.val o₃)::τ
theorem Age {W τ:List As} {i:Nat} {x:Nd} {bm:Ak} {ps:oR} {Q:Ab->Ay->Prop} (nf:NF W G) (g:Gr G) (J:oS G) (hA:Rm A 9) (hh:A.handled=none) (hF:AF A ⟨W,τ⟩) (hi:G[i]? =some x) (hb:(.obj bm,.list ps.vs)∈(⟨W,τ⟩:Ay).all) (hp:dU G ⟨W,τ⟩ x.bs ps)
  (low:∀b∈x.bs,∀k∈Hc G b,k < i)
  (h:∀r ρ ks,ks.Nodup->(∀k∈ks,k < G.length)->Yv G i ks->(.obj r,.list (refs G ks))∈ρ->Q (.ref r) ⟨W,ρ++τ⟩):∀ws kw,ws.map cl=[.ref x.me]->cl kw=.ref bm->TC Γ A ⟨W,τ⟩ (.ref 242) ws [("base_mros",kw)] Q:=λws kw hw hkw=>by
 have hil:=(Aj.mp hi).1
 refine Oy (body:=fBody (topStmt 10)) (kw:=[("base_mros",.ref bm)]) (bs:=[("C",.ref x.me),("strict",.none),("base_mros",.ref bm),("log_changed_ro",.none),("use_legacy_ro",.none)]) ["C","strict","base_mros","log_changed_ro","use_legacy_ro","resolver","mro","use_legacy"] (Agb Γ) (by kernel_rfl) hA.room ?_ (λL=>?_) (by rfl) (by rfl) (by decide) (by rfl) (by rfl) (by rfl) ws _ hw (by simp [hkw])
 ·intro ws kws hw hk
  obtain⟨w,rfl,e⟩:=Ir hw
  obtain⟨v,rfl,e2⟩:=wH hk
  exact⟨[("C",w),("strict",.none),("base_mros",v),("log_changed_ro",.none),("use_legacy_ro",.none)],by simp [e,e2],λs X=>kp_binds X λS=>by kernel_rfl⟩
 show T Γ (A.deeper (Gk "ro" (fScope (topStmt 10)) L 242 (.ref 241) [])) ⟨W,Xp L x.me bm none none none τ⟩ (Cm _ (Gk "ro" (fScope (topStmt 10)) L 242 (.ref 241) [])) _
 have hA':Rm (A.deeper (Gk "ro" (fScope (topStmt 10)) L 242 (.ref 241) [])) 8:=hA.deeper
 refine Am (Bl (Fi (Bk (v:=.ref 204) (by kernel_rfl) λov hov=>nI hov (cM Γ) ⟨.inl (by kernel_rfl),?_⟩)))
 refine Ag (Ac (v:=.ref x.me) (by walk_at "mem") (Ag (Ac (v:=.none) (by walk_at "mem") (Ag (Ac (v:=.ref bm) (by walk_at "mem") (Ao λws hw=>?_))))))
 refine(mW nf g (hA'.le (by decide)) hh hi (by walk_at "memo") (hp.sub (σ':=⟨W,Xp L x.me bm none none none τ⟩) λ_ hq=>Bq (ρ:=[_,_,_,_,_,_,_,_]) hq) (λrx rd a m ρ mro tr hm=>?_) ws hw).T
 refine⟨_,_,by walk_at "upd",?_⟩
 refine Fb.go ?_
 have hbs:=Pw hi
 have fin:∀(r:Ak) (ρ₂:List As) (ks:List Nat) (rs':Rs),ks.Nodup->(∀k∈ks,k < G.length)->Yv G i ks->T Γ (A.deeper (Gk "ro" (fScope (topStmt 10)) L 242 (.ref 241) [])) ⟨W,(.obj r,.list (refs G ks))::(ρ₂++((.obj rd,.ns rs'.ns)::(.obj rx,.inst 204 rd)::(ρ++Xp L x.me bm (some (.ref rx)) (some (.ref r)) none τ)))⟩
   (Cm ((fBody (topStmt 10)).drop 2) (Gk "ro" (fScope (topStmt 10)) L 242 (.ref 241) [])) (Ja Q):=by
  intro r ρ₂ ks rs' h1 h2 h3
  refine Am (Bl (Px (Ar (Ac (v:=.none) (by walk_at "mem") (Jt (Kr (by rfl) ⟨_,rfl,λhb=>(by cases hb),λ_=>Xu ⟨_,_,by walk_at "upd",?_⟩⟩))))))
  refine Fb.go ?_
  refine Am (Hs (Ej (Ac (v:=.bool false) (by walk_at "mem") (Fc ⟨λh=>(by cases h),λ_=>?_⟩))))
  refine Ci ?_
  refine Fb.go ?_
  refine Am (Fj (Ac (v:=.ref r) (by walk_at "mem") ?_))
  have:=h r ((.obj r,.list (refs G ks))::(ρ₂++((.obj rd,.ns rs'.ns)::(.obj rx,.inst 204 rd)::(ρ++Xp L x.me bm (some (.ref rx)) (some (.ref r)) (some (.bool false)) [])))) ks h1 h2 h3 (.head _)
  exact⟨_,As.le_refl _,by simpa [Xp]using this⟩
 let rs:Rs:=⟨some (.ref x.me),some (.ref m),some (.ref a),some (.bool false),mro,none,none⟩
 let τ':Rs->List As:=λr=>(.obj rd,.ns r.ns)::(.obj rx,.inst 204 rd)::(ρ++Xp L x.me bm (some (.ref rx)) none none τ)
 refine Am (Bl (Fi (Ac (v:=.ref rx) (by walk_at "mem") (Pd (x:=rx) (C:=204) (d:=rd) (m:=rs.ns) (by walk_at "mem") (by walk_at "mem") (wL Γ) (by show _∉Ti;decide) ⟨.inl (by kernel_rfl),Ao λws hw=>?_⟩))))
 rcases hm with⟨hne,rfl⟩|⟨b,t,hxb,rfl,hmem⟩
 ·have hFt:∀r,AF (A.deeper (Gk "ro" (fScope (topStmt 10)) L 242 (.ref 241) [])) ⟨W,τ' r⟩:=λr=>hF.push rfl rfl (L:=L) (x:="C") (c:=some (.ref x.me)) (by walk_at "mem") λp hp=>.tail _ (.tail _ (Aa _ (by simp [hp])))
  refine(zR (τ':=τ') (rs:=rs) (a:=a) (ls:=Rt G i) nf g J (hA'.le (by decide)) hh hFt (λr=>Ae (.tail _ (.head _))) (λr₁ r₂=>.here) rfl (by rw [Br hi]) hil rfl rfl (λr=>tr.sub λp hp=>Ae (.tail _ (.tail _ (Af _ (by rcases Ai.mp hp with h|h;cases h;exact h))))) (nY g hil).1 (nY g hil).2 (λr ρ₂ ks rs' h1 h2 h3=>?_) ws hw).T
  refine⟨_,_,by walk_at "upd",?_⟩
  refine Fb.go (fin r ρ₂ ks rs' h1 h2 ?_)
  rcases h3 with h3|h3
  ·exact .inl ⟨λk hk=>iG.mp ((h3 k).mp hk),λk hk=>(h3 k).mpr (iG.mpr (hk.imp id .inr))⟩
  ·exact .inr h3
 ·have hsl:=g.ss_len b
  have hb':Fx G i=[b]:=by rw [hbs,hxb]
  refine(zQ (rs:=rs) (t:=t) (vs:=refs G (i::Hc G b)) (hA'.le (by decide)) (Ae (.tail _ (.head _))) (Ae (.head _)) rfl (Ae (.tail _ (.tail _ (Af _ hmem)))) (by rw [Bf];simp;lia) (λr=>?_) ws hw).T
  refine⟨_,_,by walk_at "upd",?_⟩
  refine Fb.go (fin r [] (i::Hc G b) rs ?_ ?_ ?_)
  ·rw [Ey]
   exact⟨λhk=>Nat.lt_irrefl _ (low b (by rw [hxb];exact .head _) i hk),hsl.2.2⟩
  ·intro k hk
   rcases Ce.mp hk with rfl|hk
   ·exact hil
   ·exact hsl.2.1 k hk
  ·refine .inl ⟨λk hk=>?_,λk hk=>?_⟩
   ·rcases Ce.mp hk with rfl|hk
    ·exact .inl rfl
    ·exact .inr (.inr ⟨b,by rw [hb'];exact .head _,hk⟩)
   ·rcases hk with rfl|⟨b',hb'',hk⟩
    ·exact .head _
    ·rw [hb',Be]at hb''
     subst hb''
     exact .tail _ hk
end
end
section
theorem zM (Γ:Bj):Γ.K.lookup 313=some ⟨.type "function",none,.func (Ka Γ 313 "Specification._calculate_sro" (clsStmt 13 5) (.ref 312) .none),#[]⟩:=by kernel_rfl
noncomputable def Zu:List Str:=["key","_ROOT","_dependents","bases","_implied","iro","sro","declared","inherit"]
noncomputable abbrev aE (Γ:Bj) (name:Str) (f:Ak):Prop:=Sh Γ.K 364 name f=true/\Sh Γ.K 427 name f=true
theorem aE.of {Γ:Bj} {name:Str} {f:Ak} (k:aE Γ name f) {C:Ak} (h:C=364\/C=427):Sh Γ.K C name f=true:=by rcases h with rfl|rfl;exact k.1;exact k.2
noncomputable def Vy (G:List Nd) (i:Nat):Ab:=if i=0 then .none else .ref (Fm G 0)
noncomputable def fJ (G:List Nd):Prop:=∀(i:Nat) (x:Nd),G[i]? =some x->x.root=Vy G i
noncomputable def Vo (G:List Nd) (i:Nat) (ks:List Nat):Prop:=∃ks₀,Yv G i ks₀/\∀k,k∈ks↔k∈ks₀\/k=0
theorem Yv.self {G:List Nd} {i:Nat} {ks:List Nat} (h:Yv G i ks):i∈ks:=by
 rcases h with h|h
 ·exact h.2 i (.inl rfl)
 ·exact(h i).mpr (.refl i)
section
variable {Γ:Bj} {A:Aw} {G:List Nd} {σ:Ay}
theorem xG {name:Str} {W τ:List As} {i:Nat} {x:Nd} {f:Ak} {ov:Ab} {pl:Sem Bool} {Q:Ab×List Ab->Ay->Prop} (nf:NF W G) (hi:G[i]? =some x) (ho:cl ov=.ref x.me) (k:aE Γ name f) (h:Q (.ref f,[.ref x.me]) ⟨W,τ⟩) (hm:autoParam (name∉Zu) aD):T Γ A ⟨W,τ⟩ (Ie ov name pl) Q:=
 Tp ho (Ox (nf.inst i x hi)) (Ox (nf.ns i x hi)) (k.of (nf.cls i x hi)) hm h
theorem Ou {name:Str} {W τ:List As} {i:Nat} {x:Nd} {f:Ak} {pl:Sem Bool} {Q:Ab×List Ab->Ay->Prop} (nf:NF W G) (hi:G[i]? =some x) (k:aE Γ name f) (h:Q (.ref f,[.ref x.me]) ⟨W,τ⟩) (hm:autoParam (name∉Zu) aD):P1 Γ A (λo=>Ie o name pl) Q (.ref x.me) ⟨W,τ⟩:=λ_ ho=>xG (nf:=nf) (hi:=hi) (ho:=ho) (k:=k) (h:=h) (hm:=hm)
theorem Aec {x:Aq} {pos:Pos} {env:Env} {Q:Ab->Ay->Prop} (h:T Γ A σ (Dr x env) λc σ₁=>∃a,c=.int a 0/\Q (.int (-a) 0) σ₁):T Γ A σ (Dr (.UnaryOp .USub x pos) env) Q:=λs R=>
 wpAny_UnaryOp (h.elim R λv s₁ σ₁ R₁ ⟨a,e,q⟩=>by
  obtain⟨t,rfl⟩:=Ev e
  exact PyProof.Rows.neg_int ⟨σ₁,R₁.toks _,q⟩)
noncomputable abbrev Vn (L:Ak):Env:=Gk "Specification._calculate_sro" (fScope (clsStmt 13 5)) L 313 (.ref 312) [("root",L+1)]
noncomputable abbrev fC (L me:Ak) (o₁ o₂:Option Ab) (τ:List As):List As:=(.obj (L+1),.cell o₁)::(.var L "self",.val (some (.ref me)))::(.var L "sro",.val o₂)::τ
theorem uF {l:List Nat} {j:Nat} (h:j≠0):(l++[j]).filter (λk=>k != 0)=l.filter (λk=>k != 0)++[j]:=by
 rw [Ez,Gj,if_pos (bne_iff_ne.mpr h)]
 rfl
theorem wT {l:List Nat} {j:Nat} (h:j=0):(l++[j]).filter (λk=>k != 0)=l.filter (λk=>k != 0):=by
 rw [Ez,h]
 exact Cj _
theorem zU {W τ:List As} {i:Nat} {x:Nd} {Q:Ab->Ay->Prop} (nf:NF W G) (g:Gr G) (J:oS G) (ro:fJ G) (hA:Rm A 10) (hh:A.handled=none) (hF:AF A ⟨W,τ⟩) (hi:G[i]? =some x)
  (low:∀b∈x.bs,∀k∈Hc G b,k < i)
  (h:∀r ρ ks,ks.Nodup->(∀k∈ks,k < G.length)->Vo G i ks->(.obj r,.list (refs G ks))∈ρ->Q (.ref r) ⟨W,ρ++τ⟩):∀ws,ws.map cl=[.ref x.me]->TC Γ A ⟨W,τ⟩ (.ref 313) ws [] Q:=λws hw=>by
 have hil:=(Aj.mp hi).1
 have hbs12:=g.bs12 hi
 refine Wb (body:=fBody (clsStmt 13 5)) (bs:=[("self",.ref x.me)]) ["self","sro"] (zM Γ) (by kernel_rfl) hA.room (Gu.plain1 λ_ _=>Cg (by rfl)) (λL=>?_) (by rfl) (by decide) (by decide) (by rfl) (by rfl) (by rfl) ws [] hw rfl
 show T Γ (A.deeper (Vn L)) ⟨W,fC L x.me none none τ⟩ (Cm _ (Vn L)) _
 have hA':Rm (A.deeper (Vn L)) 9:=hA.deeper
 have hhD:(A.deeper (Vn L)).handled=none:=hh
 have hFt:∀(ρ:List As) o₁ o₂,AF (A.deeper (Vn L)) ⟨W,ρ++fC L x.me o₁ o₂ τ⟩:=λρ o₁ o₂=>hF.push rfl rfl (L:=L) (x:="self") (c:=some (.ref x.me)) (Ae (Aa _ (mL 1 rfl))) λp hp=>Aa _ (Aa [_,_,_] hp)
 generalize A.deeper (Vn L)=D at *
 refine Am (Bl (xM (Bk (v:=.ref 242) (by kernel_rfl) ⟨.inl (by kernel_rfl),?_⟩)))
 refine Ag (Ac (v:=.ref x.me) (mI 1 rfl) (Ao ?_))
 refine Qs (Ef (x:=x) nf hi (Pu Γ) (.tail _ (.tail _ (.tail _ (.head _)))) (Ac (v:=.ref x.me) (mI 1 rfl) ⟨rfl,rfl⟩) (Hf (vs:=refs G x.bs) ((nf.bt _ _ hi).tup) λit=>?_))
 refine⟨λj=>.ref (Fm G j),x.bs,it,_,_,λ_ _=>W,λ_ z=>z.2++fC L x.me none none τ,λ_ z=>oR.vs z.1,λa z=>dU G ⟨[],z.2⟩ a z.1,(([]:oR),([]:List As)),⟨rfl,rfl,Hd (vs:=refs G x.bs) hhD⟩,Qq,⟨rfl,λ_ h=>nomatch h⟩,rfl,
  λ_ _ _ _=>(nf.bt _ _ hi).tup,λa b z e hJ=>?_,λC acc a j b ρ z e hJ=>?_,λacc z hJ=>?_⟩
 ·have e1:=congrArg Ia hJ.e
  rw [Ap]at e1
  rw [e,Ah]at hbs12
  rw [Ap,e1,Av]
  lia
 ·obtain⟨y,ey⟩:=Dl (Jh ((g.bs _ _ hi).2 j (by rw [e];exact Aa _ (.head _))) hil)
  rw [Br ey]
  refine Pr ⟨λ_=>?_,λhb=>(by cases hb)⟩
  refine Kh (Ag (Di (v:=.ref y.me) (Ae (Aa _ (.head _))) (.head _) (Ag (Ef (x:=y) nf ey (Acf Γ) (mL 6 rfl) (Di (v:=.ref y.me) (Ae (Aa _ (.head _))) (.head _) ⟨rfl,rfl⟩) (Ao ⟨by rw [Av];exact By rfl,λt=>?_⟩)))))
  refine⟨W,(.obj t,.tup [.ref y.me,.ref y.st])::(z.2++fC L x.me none none τ),some (.ref y.me),As.le_perm (Bb W (aV _ _ _ _ _)),(z.1++[(j,t)],(.obj t,.tup [.ref y.me,.ref y.st])::z.2),rfl,?_,?_,λp hp=>?_⟩
  ·exact(Bh (l₁:=z.1) (l₂:=[(j,t)])).symm
  ·rw [Bh,hJ.e]
   rfl
  ·rcases Ai.mp hp with h|h
   ·exact(hJ.at' p h).casesOn λy e m=>⟨y,e,.tail _ m⟩
   ·rw [Be.mp h]
    exact⟨y,ey,.head _⟩
 generalize z.2=ρ at *
 generalize z.1=ps at *
 intro ws kw hws hkw
 refine(Age (bm:=acc) (ps:=ps) nf g J hA' hhD (hFt ((.obj acc,.list (oR.vs ps))::ρ) none none) hi Bs (hJ.sub λ_ hq=>Ae (.tail _ (Af _ hq))) low (λr ρ₂ ks h1 h2 h3 h4=>?_) ws kw hws hkw).T
 rw [show ρ₂++(((.obj acc,.list (oR.vs ps))::ρ)++fC L x.me none none τ)=(ρ₂++(.obj acc,.list (oR.vs ps))::ρ)++fC L x.me none none τ from (Ax ..).symm]
 have hr:(Er.obj r,CO.list (refs G ks))∈ρ₂++(.obj acc,.list (oR.vs ps))::ρ:=Af _ h4
 generalize ρ₂++(.obj acc,.list (oR.vs ps))::ρ=R at *
 clear h4 hJ
 refine⟨_,_,.tau (.pre (.there (.there .here))),?_⟩
 refine Fb.go ?_
 have fin:∀(r':Ak) (R:List As) (ks':List Nat) o₁,ks'.Nodup->(∀k∈ks',k < G.length)->Vo G i ks'->(Er.obj r',CO.list (refs G ks'))∈R->
   T Γ D ⟨W,R++fC L x.me o₁ (some (.ref r')) τ⟩ (Cm ((fBody (clsStmt 13 5)).drop 3) (Vn L)) (Ja Q):=λr' R ks' o₁ q1 q2 q3 q4=>
  Am (Fj (Ac (v:=.ref r') (Ae (Aa _ (mL 2 rfl))) ⟨_,As.le_of_eq (by rw [Ax];rfl),h r' (R++fC L x.me o₁ (some (.ref r')) []) ks' q1 q2 q3 (Af _ q4)⟩))
 have hself:=h3.self
 have hks12:ks.length<=12:=Bw (Gh _ _ h1 h2) g.few
 have hroot:=ro i x hi
 by_cases hi0:i=0
 ·have hr0:x.root=.none:=by rw [hroot,Vy,if_pos hi0]
  refine Am (Ga rfl (Ef (x:=x) (v:=.none) nf hi (fF Γ) (by rw [<-hr0];exact .tail _ (.head _)) (Ac (v:=.ref x.me) (Ae (Aa _ (mL 1 rfl))) ⟨rfl,rfl⟩) ⟨_,_,.tau (.pre .here),?_⟩))
  refine Fb.go ?_
  refine Am (Hs (Ep (Ex (Ar (An (v:=.none) rfl (Ae (Aa _ (.head _))) (Jt (Kr (by rfl) ⟨_,rfl,λhb=>(by cases hb),λ_=>⟨λhb=>(by cases hb),λ_=>?_⟩⟩)))))))
  exact Ci (Fb.go (fin r R ks (some .none) h1 h2 ⟨ks,h3,λk=>⟨.inl,λhk=>hk.elim id λe=>by rw [e,<-hi0];exact hself⟩⟩ hr))
 ·obtain⟨z,ez⟩:=Dl (Hk (Ca i) hil)
  have hr0:x.root=.ref z.me:=by rw [hroot,Vy,if_neg hi0,Br ez]
  have isz:∀{j y},G[j]? =some y->(y.me==z.me)=(j==0):=λey=>by
   have:=J.beq (Aj.mp ey).1 (Aj.mp ez).1
   rwa [Br ey,Br ez]at this
  refine Am (Ga rfl (Ef (x:=x) (v:=.ref z.me) nf hi (fF Γ) (by rw [<-hr0];exact .tail _ (.head _)) (Ac (v:=.ref x.me) (Ae (Aa _ (mL 1 rfl))) ⟨rfl,rfl⟩) ⟨_,_,.tau (.pre .here),?_⟩))
  refine Fb.go ?_
  have hne:ks≠[]:=λe=>by rw [e]at hself;cases hself
  have hks:ks.dropLast++[ks.getLast hne]=ks:=List.dropLast_concat_getLast hne
  generalize ks.getLast hne=last at hks
  generalize ks.dropLast=ks' at hks
  have hkl:(refs G ks').length < 1000000:=by rw [<-hks,Ah]at hks12;rw [Bf];lia
  obtain⟨w,ew⟩:=Dl (h2 last (hks▸Aa _ (.head _)))
  have hlm:∀ρ' T,(Er.obj r,CO.list (refs G ks))∈(⟨W,ρ'++(R++T)⟩:Ay).all:=λρ' T=>Ae (Aa _ (Af _ hr))
  refine Am (Hs (Ep (Ex (Ar (An (v:=.ref z.me) rfl (Ae (Aa _ (.head _))) (Jt (Kr (by rfl) ⟨_,rfl,λ_=>?_,λhb=>(by cases hb)⟩)))))))
  refine Ex (Ej (Ac (v:=.ref r) (Ae (Aa _ (mL 2 rfl))) (Oo (vs:=refs G ks) (hlm [] _) (by rw [Bf];lia) ⟨λ_=>?_,λhb=>?_⟩)))
  ·refine Ex (Ar (Bd (Ac (v:=.ref r) (Ae (Aa _ (mL 2 rfl))) (Aec (Dd ⟨1,rfl,Ys (vs:=refs G ks') (v:=.ref w.me) (by rw [<-Br ew,Rp,hks];exact hlm [] _) hkl ?_⟩)))))
   refine An (v:=.ref z.me) rfl (Ae (Aa _ (.head _))) (Zj (Ox (nf.inst _ _ ew)) (Ox (nf.inst _ _ ez)) ⟨_,rfl,λhb=>?_,λhb=>⟨λh=>(by cases h),λ_=>?_⟩⟩)
   ·refine Td ⟨λ_=>?_,λh=>(by cases h)⟩
    have fl:∀l:List Nat,(l.filter λk=>k != 0).length<=l.length:=λl=>Bu _ _
    refine Am (Qh (Ac (v:=.ref r) (Ae (Aa _ (mL 2 rfl))) (Eh (vs:=refs G ks) (hlm [] _) λit₃=>?_)))
    refine⟨λj=>.ref (Fm G j),ks,it₃,_,_,λ_ _=>W,λ_ _=>R++fC L x.me (some (.ref z.me)) (some (.ref r)) τ,λa _=>refs G (a.filter λk=>k != 0),λ_ _=>True,(),⟨rfl,rfl,Es hhD⟩,Gv,trivial,rfl,λ_ _ ext _=>hlm ext _,λa b _ e _=>?_,λC₂ acc₂ a j b ρ₃ _ e _=>?_,λacc₃ _ _=>?_⟩
    ·have:=fl a
     rw [e,Ah]at hks12
     rw [Bf,Av]
     lia
    ·have hj:=h2 j (by rw [e];exact Aa _ (.head _))
     obtain⟨y,ey⟩:=Dl hj
     rw [Br ey]
     refine Jl (Ar (Di (v:=.ref y.me) (Ae (Aa _ (.head _))) (.head _) (An (v:=.ref z.me) rfl (Ae (Aa _ (.tail _ (.tail _ (Aa _ (.head _)))))) (Zj (Ox (nf.inst _ _ ey)) (Ox (nf.inst _ _ ez)) ⟨_,rfl,λhb=>?_,λhb=>?_⟩))))
     ·rw [isz ey,Mv,beq_eq_false_iff_ne]at hb
      exact Di (v:=.ref y.me) (Ae (Aa _ (.head _))) (.head _) ⟨_,_,_,As.le_refl _,(),rfl,by rw [uF hb,Ki,<-Br ey];rfl,trivial⟩
     ·rw [isz ey,Jx,beq_iff_eq]at hb
      exact⟨_,_,_,As.le_refl _,(),rfl,by rw [wT hb],trivial⟩
    ·refine⟨_,_,.tau (.there (.pre (.there (.there .here)))),?_⟩
     refine Fb.go ?_
     refine Am (Fy (Fi (Ac (v:=.ref acc₃) (Ae (.tail _ (Aa _ (mL 2 rfl)))) (Cz Cr Dp Do (Ik (vs:=refs G (ks.filter λk=>k != 0)) (Ae (.head _))) ⟨.inr (.inl ⟨_,rfl⟩),?_⟩))))
     refine Ag (An (v:=.ref z.me) rfl (Ae (.tail _ (Aa _ (.head _)))) (Ao (Lo (.tau .here) (by rw [Bf,Av];have:=fl ks;lia) ?_)))
     refine Fb.go (Ci (Fb.go ?_))
     rw [show refs G (ks.filter λk=>k != 0)++[.ref z.me]=refs G ((ks.filter λk=>k != 0)++[0]) by rw [Ki,<-Br ez];rfl]
     refine fin acc₃ (_::R) _ (some (.ref z.me)) (bN (h1.filter _) λhm=>by cases (Cs.mp hm).2) (λk hk=>?_) ⟨ks,h3,λk=>?_⟩ (.head _)
     ·exact(Ai.mp hk).elim (λh=>h2 k (Cs.mp h).1) λh=>by rw [Be.mp h];exact(Aj.mp ez).1
     ·rw [Ai,Cs,Be,bne_iff_ne]
      exact⟨λq=>q.imp And.left id,λq=>(Decidable.em (k=0)).elim .inr λe=>.inl ⟨q.resolve_right e,e⟩⟩
   ·rw [isz ew,Jx,beq_iff_eq]at hb
    exact Ci (Fb.go (fin r R ks (some (.ref z.me)) h1 h2 ⟨ks,h3,λk=>⟨.inl,λhk=>hk.elim id λe=>by rw [e,<-hb];exact hks▸Aa _ (.head _)⟩⟩ hr))
  ·exfalso
   cases ks with
   |nil=>exact hne rfl
   |cons _ _=>cases hb
end
end
section
open AutoSeq1 (wpAny_loadPart')
section
variable {prog:Jf} {w:Oa} {A:Aw} {E:Ab->Ba->Prop} {s:Ba}
theorem jT {Tn:String} {r d:Ak} {n:Nat} {P:Nat->Ab->Prop} {OK:Heap->Prop} {Q:List Ab->Ba->Prop} (K:KdlSrc prog w Tn r d n P OK) (hh:A.handled=none) (hok:OK s.heap) (hn:n<=Gg)
  (hQ:∀h' tk acc,(∀b o,s.heap.get? b=some o->h'.get? b=some o)->ItemsOf P acc n->Q acc.toList {s with heap:=h',toks:=tk}):Cp (Cd prog w) A (collect (.ref r)) Q E s:=by
 unfold collect
 refine Ad (wpAny_runValue (Hg PySem.F.entry_proto_collect ?_))
 rw [Fw PySem.F.plain_proto_collect _]
 show Cp _ A.in1 (newList []>>=λl=>again (.builtin "list.__iadd__" ⟨[l,.ref r],[]⟩)) _ _ s
 refine Ad (Et ?_)
 refine Au ⟨Jm PySem.F.plain_list_iadd _,Hg PySem.F.entry_list_iadd ?_⟩
 rw [Fw PySem.F.plain_list_iadd _]
 show Cp _ A.in1 (Hr (.ref s.heap.objs.size) (.ref r) (.ref s.heap.objs.size)) _ _ _
 have hS:(s.heap.push {cls:=.type "list",data:=.seq ([]:List Ab).toArray}).get? s.heap.objs.size=some {cls:=.type "list",data:=.seq #[] 0}:=Bg _ rfl
 have hlt:=K.there _ hok
 have fin':∀h' tk acc' c',(∀b o,b≠s.heap.objs.size->(s.heap.push {cls:=.type "list",data:=.seq ([]:List Ab).toArray}).get? b=some o->h'.get? b=some o)->h'.get? s.heap.objs.size=some {cls:=.type "list",dict:=none,data:=.seq acc' c',slots:=#[]}->ItemsOf P acc' n->
   Cp (Cd prog w) A (match Bt s.heap.objs.size with
   |Bt a=>do
    match(<-load a).data with
     |Pz xs _=>pure xs.toList
     |_=>unsupported "internal:collect"
   |_=>unsupported "internal:collect") Q E {s with heap:=h',toks:=tk}:=by
  intro h' tk acc' c' hk hS' hacc
  show Cp (Cd prog w) A (load s.heap.objs.size>>=_) Q E _
  refine Ad (wpAny_load hS' ?_)
  exact Au (hQ h' tk acc' (λb o e=>hk b o (Kn (Ds e)) (Al _ e)) hacc)
 refine Dy (kdl_extend (A:=A) (s:={s with heap:=s.heap.push {cls:=.type "list",data:=.seq ([]:List Ab).toArray}}) (R:=λr' s'=>r'=.ok (.ret (.ref s.heap.objs.size))/\Cp (Cd prog w) A (match Bt s.heap.objs.size with
   |Bt a=>do
    match(<-load a).data with
     |Pz xs _=>pure xs.toList
     |_=>unsupported "internal:collect"
   |_=>unsupported "internal:collect") Q E s') K hh (K.keep _ _ hok λb _ o e=>Al _ e) s.heap.objs.size (Nat.ne_of_gt hlt.1) (Nat.ne_of_gt hlt.2) (.ref s.heap.objs.size) 0 hS (λh' tk acc' c' hk hS' hacc=>⟨rfl,fin' h' tk acc' c' hk hS' hacc⟩) hn) (λfin s' h=>?_) (λe s' h=>?_)
 ·cases fin with
  |done f=>
   obtain⟨e,h⟩:=h
   cases e
   exact h
  |again c'=>exact⟨h.1,Jg h.2 λr s'' hr=>by obtain⟨rfl,h⟩:=hr;exact h⟩
 ·exact absurd h.1 (by simp)
theorem Xl {K:Type} [DecidableEq K] {knd:KeyKind prog w K} {v d:Ak} {kvs:List (K×Ab)} {ep:Nat} {Q:Ab->Ba->Prop} (hh:A.handled=none) (hv:s.heap.IsValuesView v d) (hm:s.heap.DictAt knd d kvs ep) (hz:kvs.length<=1000000)
  (h:∀(h':Heap) (tk:Nat) (us:Array Ab),(∀b o,s.heap.get? b=some o->h'.get? b=some o)->us.toList=kvs.map (·.2)->Q (.ref h'.objs.size) {s with heap:=h'.push {cls:=.type "tuple",data:=.seq us},toks:=tk}):
  Cp (Cd prog w) A (call (.type "tuple") [.ref v]) Q E s:=by
 refine callType_codes (Q₁:=λobj s₁=>s₁.TypeIs obj "tuple" /\Q obj s₁) No (PySem.F.typeCall_tuple_1 _) PySem.F.entry_object_init ?_ λobj s₁ h₁=>?_
 ·refine Kt No.plain PySem.F.entry_tuple_new (Im (PySem.F.newCall_tuple_1 _) ?_)
  have hz':kvs.length<=Gg:=by rw [Av];lia
  obtain⟨ov,hov,hcv,hdv⟩:=id hv
  obtain⟨hp,g,dr,tk,os⟩:=s
  have hsub:=sub_tuple_self
  have hinit:=init_tuple_lookup
  have hmh:=madeHere_tuple
  have hT:Ba.TypeIs ⟨hp,g,dr,tk,os⟩ (.ref v) "dict_values" :=⟨ov,hov,hcv⟩
  have hc:=λ(E:Ab->Ba->Prop) (Q:List Ab->Ba->Prop)=>jT (A:=A.in1.in1) (E:=E) (Q:=Q) (s:=⟨hp,g,dr,tk,os⟩) (kdl_values (knd:=knd) (kvs:=kvs) (ep:=ep)) hh ⟨hv,hm⟩ hz'
  wp_walk using wpAny_loadPart' hov,wpAny_typeOf hT,hc _ _
  intro h' tk' acc hk hacc
  show Cp _ _ (Builtin.Tuple.tupleExact acc.toList.toArray>>=λv=>ret v) _ _ _
  unfold Builtin.Tuple.tupleExact
  refine Ad (Et ?_ (by show acc.toList.toArray.size<=Gg;simpa [hacc.1]using hz'))
  refine Au ⟨⟨_,Bg _ rfl,rfl⟩,?_⟩
  have e:acc.toList.toArray=acc:=by simp
  rw [e]
  refine h h' tk' acc hk (Ks λj=>?_)
  rw [Array.getElem?_toList,Bc]
  rcases Nx j acc.size with hj|hj
  ·obtain⟨k,hk2⟩:=hacc.2 j acc[j] (Fo hj)
   rw [Fo hj,hk2];rfl
  ·rw [Mh hj,Dq (by rw [<-hacc.1];exact hj)];rfl
 ·exact⟨h₁.1,PySem.F.args_object_init_2 obj _,object_init_meets No.init.lookup No.made (by decide) prog w A.in1 _ s₁ ⟨h₁.1,rfl,h₁.2⟩⟩
end
section
variable {Γ:Bj} {A:Aw} {σ:Ay}
theorem cP {W τ:List As} {v d:Ak} {es:List (Int×Ab)} {Q:Ab->Ay->Prop} (hh:A.handled=none) (hv:(.obj v,.vview d)∈(⟨W,τ⟩:Ay).all) (hd:(.obj d,.idict es)∈(⟨W,τ⟩:Ay).all) (hz:es.length<=1000000)
  (h:∀r,Q (.ref r) ⟨W,(.obj r,.tup (es.map (·.2)))::τ⟩):∀ws,ws.map cl=[.ref v]->T Γ A ⟨W,τ⟩ (call (.type "tuple") ws) Q:=λws hw s R=>by
 obtain⟨w₀,rfl,e0⟩:=Ir hw
 have:=Cc e0
 subst this
 obtain⟨kvs,D,rfl,_⟩:=Ro R hd
 have V:s.heap.IsValuesView v d:=(R.ents _ hv).1
 obtain⟨ep,D'⟩:∃ep,Heap.DictAt (intKind Γ.prog Γ.w) s.heap d kvs ep:=by
  obtain⟨o,es',ep,r⟩:=D
  exact⟨ep,o,es',r⟩
 refine Xl hh V D' (by simpa using hz) λh' tk us keep e=>?_
 have R1:Ea Γ ⟨W,τ⟩ {s with heap:=h',toks:=tk}:=R.grow (s':={s with heap:=h',toks:=tk}) keep rfl rfl
 exact⟨_,R1.push (c:=.tup ((kvs.map nK).map λp:Int×Ab=>p.2)) (s':={s with heap:=h'.push _,toks:=tk}) (λ_ _ e=>Al _ e) rfl rfl ⟨us,0,Bg _ rfl,by rw [e];simp [nK,Function.comp_def]⟩,h _⟩
end
end
theorem To (y:Nd) (G:List Nd):Bi (y::G)=y.ents++Bi G:=by unfold Bi;rw [Gs]
theorem Yd {l:Er} {c c':CO} {G:List Nd}:∀{i:Nat} {x x':Nd},G[i]? =some x->Qw x.ents l c c' x'.ents->Qw (Bi G) l c c' (Bi (G.set i x')):=by
 induction G with
 |nil=>intro i x x' h;simp at h
 |cons y G ih=>
  intro i x x' h U
  cases i with
  |zero=>
   rw [List.getElem?_cons_zero,Ek.injEq]at h
   subst h
   rw [List.set_cons_zero,To,To]
   exact U.append
  |succ i=>
   rw [List.getElem?_cons_succ]at h
   rw [List.set_cons_succ,To,To]
   exact(ih h U).prepend _
theorem Ye {G:List Nd} {i:Nat} {x:Nd} (h:G[i]? =some x) {p:As} (hp:p∈x.ents):p∈Bi G:=Fg.mpr ⟨x,Fd h,hp⟩
structure WX (G:List Nd) (X:List As):Prop where
 inst:∀(i:Nat) (x:Nd),G[i]? =some x->(Er.obj x.me,CO.inst x.C x.d)∈X
 bt:∀(i:Nat) (x:Nd),G[i]? =some x->Vl X x.bt (refs G x.bs)
 st:∀(i:Nat) (x:Nd),G[i]? =some x->(Er.obj x.st,CO.tup (refs G x.ss))∈X
 cls:∀(i:Nat) (x:Nd),G[i]? =some x->x.C=364\/x.C=427
theorem WX.nf {G:List Nd} {X:List As} (h:WX G X):NF (Bi G++X) G where
 inst i x e:=Aa _ (h.inst i x e)
 ns i x e:=Af _ (Ye e (.head _))
 dep i x e:=Af _ (Ye e (.tail _ (.head _)))
 imp i x e:=Af _ (Ye e (.tail _ (.tail _ (.head _))))
 bt i x e:=(h.bt i x e).right
 st i x e:=Aa _ (h.st i x e)
 cls:=h.cls
theorem WX.more {G:List Nd} {X X':List As} (h:WX G X) (k:∀e∈X,e∈X'):WX G X':=⟨λi x e=>k _ (h.inst i x e),λi x e=>(h.bt i x e).more k,λi x e=>k _ (h.st i x e),h.cls⟩
noncomputable def Nd.blank (x:Nd):Nd:={x with st:=0,ss:=[],iro:=.none,imps:=[]}
noncomputable def Nd.blank2 (x:Nd):Nd:={x with st:=0,ss:=[],iro:=.none,imps:=[],bt:=0,bs:=[],deps:=[],decl:=none,inh:=none}
theorem Adj {x x':Nd} (h:x'.blank=x.blank):x'.me=x.me:=by have:=congrArg Nd.me h;exact this
theorem Agf {x x':Nd} (h:x'.blank=x.blank):x'.d=x.d:=by have:=congrArg Nd.d h;exact this
theorem Agg {x x':Nd} (h:x'.blank=x.blank):x'.C=x.C:=by have:=congrArg Nd.C h;exact this
theorem Adk {x x':Nd} (h:x'.blank=x.blank):x'.bt=x.bt:=by have:=congrArg Nd.bt h;exact this
theorem xX {x x':Nd} (h:x'.blank=x.blank):x'.bs=x.bs:=by have:=congrArg Nd.bs h;exact this
theorem xE {x x':Nd} (h:x'.blank=x.blank):x'.deps=x.deps:=by have:=congrArg Nd.deps h;exact this
theorem gV {x x':Nd} (h:x'.blank2=x.blank2):x'.me=x.me:=by have:=congrArg Nd.me h;exact this
theorem zV {x x':Nd} (h:x'.blank2=x.blank2):x'.key=x.key:=by have:=congrArg Nd.key h;exact this
theorem xD {x x':Nd} (h:x'.blank2=x.blank2):x'.root=x.root:=by have:=congrArg Nd.root h;exact this
noncomputable abbrev Lz (G G':List Nd):Prop:=G.map Nd.blank=G'.map Nd.blank
noncomputable abbrev Gf (G G':List Nd):Prop:=G.map Nd.blank2=G'.map Nd.blank2
theorem Lz.i {G G':List Nd} (h:Lz G G'):Gf G G':=by
 have:=congrArg (List.map Nd.blank2) h
 rw [Ec,Ec]at this
 exact this
theorem Lz.at' {G G':List Nd} (h:Lz G G') {i:Nat} {x:Nd} (e:G[i]? =some x):∃x',G'[i]? =some x'/\x'.blank=x.blank:=by
 have:=congrArg (·[i]?) h
 simp only [Bc,e,Option.map_some]at this
 exact Cw.mp this.symm
theorem Gf.at' {G G':List Nd} (h:Gf G G') {i:Nat} {x:Nd} (e:G[i]? =some x):∃x',G'[i]? =some x'/\x'.blank2=x.blank2:=by
 have:=congrArg (·[i]?) h
 simp only [Bc,e,Option.map_some]at this
 exact Cw.mp this.symm
theorem Gf.len {G G':List Nd} (h:Gf G G'):G'.length=G.length:=by simpa using(congrArg Ia h).symm
theorem Lz.len {G G':List Nd} (h:Lz G G'):G'.length=G.length:=h.i.len
theorem Gf.symm {G G':List Nd} (h:Gf G G'):Gf G' G:=Eq.symm h
theorem Lz.trans {A B C:List Nd} (h:Lz A B) (k:Lz B C):Lz A C:=Eq.trans h k
theorem Gf.trans {A B C:List Nd} (h:Gf A B) (k:Gf B C):Gf A C:=Eq.trans h k
theorem Uf {G G':List Nd} (h:G'.length=G.length) {i:Nat} (e:G[i]? =none):G'[i]? =none:=by
 rw [List.getElem?_eq_none_iff]at e ⊢;lia
theorem Gf.me {G G':List Nd} (h:Gf G G') (j:Nat):Fm G' j=Fm G j:=by
 unfold Fm
 cases e:G[j]?with
 |none=>rw [Uf h.len e]
 |some x=>obtain⟨x',e',hb⟩:=h.at' e;rw [e'];exact gV hb
theorem Gf.key {G G':List Nd} (h:Gf G G') (j:Nat):Cu G' j=Cu G j:=by
 unfold Cu
 cases e:G[j]?with
 |none=>rw [Uf h.len e]
 |some x=>obtain⟨x',e',hb⟩:=h.at' e;rw [e'];exact zV hb
theorem Gf.refs {G G':List Nd} (h:Gf G G') (l:List Nat):refs G' l=refs G l:=by
 unfold Mine.refs;congr 1;funext j;rw [h.me]
theorem Lz.bs {G G':List Nd} (h:Lz G G') (j:Nat):Fx G' j=Fx G j:=by
 unfold Fx
 cases e:G[j]?with
 |none=>rw [Uf h.len e]
 |some x=>obtain⟨x',e',hb⟩:=h.at' e;rw [e'];exact xX hb
set_option tactic.hygienic true in
theorem Ls {G:List Nd} {i:Nat} {x x':Nd} (h:G[i]? =some x) (hb:x'.blank2=x.blank2):Gf G (G.set i x'):=by
 unfold Gf
 rw [Ko,hb]
 refine(Ks λj=>?_).symm
 rw [Iv]
 split
 ·rename_i e
  subst e
  rw [Bc,h]
  simp [(Aj.mp h).1]
 ·rfl
set_option tactic.hygienic true in
theorem Sy {G:List Nd} {i:Nat} {x x':Nd} (h:G[i]? =some x) (hb:x'.blank=x.blank):Lz G (G.set i x'):=by
 unfold Lz
 rw [Ko,hb]
 refine(Ks λj=>?_).symm
 rw [Iv]
 split
 ·rename_i e
  subst e
  rw [Bc,h]
  simp [(Aj.mp h).1]
 ·rfl
theorem Ll {G:List Nd} {i:Nat} {x x':Nd} (h:G[i]? =some x):(G.set i x')[i]? =some x':=by
 rw [List.getElem?_set_self (Aj.mp h).1]
set_option tactic.hygienic true in
theorem Mo {G:List Nd} {i j:Nat} {x' y:Nd} (h:(G.set i x')[j]? =some y):(j=i/\y=x')\/(j≠i/\G[j]? =some y):=by
 rw [Iv]at h
 split at h
 ·rename_i e
  split at h
  ·cases h;exact .inl ⟨e.symm,rfl⟩
  ·cases h
 ·rename_i e;exact .inr ⟨λq=>e q.symm,h⟩
structure cX (G:List Nd) (X:List As) (x:Nd) (dl:List (Nat×Ak)):Prop where
 eq:x.deps=dl.map λp=>(Cu G p.1,.ref p.2)
 at':∀p∈dl,p.1 < G.length/\(Er.obj p.2,CO.tup [.ref (Fm G p.1),.int 1 0])∈X
 nodup:(dl.map (·.1)).Nodup
structure Co (G:List Nd) (X:List As):Prop where
 wx:WX G X
 gr:Gr G
 inj:oS G
 ro:fJ G
 low:∀(i:Nat) (x:Nd),G[i]? =some x->∀k∈x.ss,k<=i
 dep:∀(j:Nat) (x:Nd),G[j]? =some x->∃dl,cX G X x dl/\∀d,d∈dl.map (·.1)↔j∈Fx G d
noncomputable def aH (G:List Nd) (x:Nd):Prop:=x.imps.length<=100/\∀k:Int,(Fk x.imps k).isSome=true↔∃j∈x.ss,Cu G j=k
structure Wd (G:List Nd) (X:List As):Prop extends Co G X where
 imp:∀(i:Nat) (x:Nd),G[i]? =some x->aH G x
theorem Gf.depL {G G':List Nd} (h:Gf G G') {X:List As} {x x':Nd} {dl:List (Nat×Ak)} (D:cX G X x dl) (e:x'.deps=x.deps):cX G' X x' dl where
 eq:=by rw [e,D.eq];apply Ge;intro p _;rw [h.key]
 at' p hp:=⟨by rw [h.len];exact(D.at' p hp).1,by rw [h.me];exact(D.at' p hp).2⟩
 nodup:=D.nodup
theorem cX.more {G:List Nd} {X X':List As} {x:Nd} {dl:List (Nat×Ak)} (D:cX G X x dl) (k:∀e∈X,e∈X'):cX G X' x dl:=⟨D.eq,λp hp=>⟨(D.at' p hp).1,k _ (D.at' p hp).2⟩,D.nodup⟩
theorem Co.more {G:List Nd} {X X':List As} (h:Co G X) (k:∀e∈X,e∈X'):Co G X':=⟨h.wx.more k,h.gr,h.inj,h.ro,h.low,λj x e=>let ⟨dl,D,E⟩:=h.dep j x e;⟨dl,D.more k,E⟩⟩
theorem Gf.inj {G G':List Nd} (h:Gf G G') (J:oS G):oS G':=λi j x y e1 e2 hm=>by
 obtain⟨x0,f1,b1⟩:=h.symm.at' e1
 obtain⟨y0,f2,b2⟩:=h.symm.at' e2
 have m1:x0.me=x.me:=gV b1
 have m2:y0.me=y.me:=gV b2
 exact J i j x0 y0 f1 f2 (by rw [m1,m2,hm])
theorem Gf.root {G G':List Nd} (h:Gf G G') (J:fJ G):fJ G':=λi x e=>by
 obtain⟨x0,f,b⟩:=h.symm.at' e
 have m:x0.root=x.root:=xD b
 rw [<-m,J i x0 f]
 unfold Vy
 rw [h.me]
theorem Gf.keys {G G':List Nd} (h:Gf G G'):G'.map (·.key)=G.map (·.key):=by
 have:=congrArg (List.map Nd.key) h
 simpa [Function.comp_def,Nd.blank2]using this.symm
theorem Co.set {G:List Nd} {X:List As} (h:Co G X) {i:Nat} {x x':Nd} (hi:G[i]? =some x) (hb:x'.blank=x.blank) (hn:x'.ss.Nodup) (hl:∀k∈x'.ss,k<=i) (hs:(Er.obj x'.st,CO.tup (refs G x'.ss))∈X):Co (G.set i x') X:=by
 have K:=Sy hi hb
 have bme:x'.me=x.me:=Adj hb
 have bd:x'.d=x.d:=Agf hb
 have bC:x'.C=x.C:=Agg hb
 have bbt:x'.bt=x.bt:=Adk hb
 have bbs:x'.bs=x.bs:=xX hb
 have bdp:x'.deps=x.deps:=xE hb
 have il:=(Aj.mp hi).1
 refine⟨⟨?_,?_,?_,?_⟩,⟨?_,?_,?_,?_⟩,K.i.inj h.inj,K.i.root h.ro,?_,?_⟩
 ·intro j y e
  rcases Mo e with⟨rfl,rfl⟩|⟨_,e⟩
  ·rw [bme,bC,bd];exact h.wx.inst _ _ hi
  ·exact h.wx.inst _ _ e
 ·intro j y e
  rw [K.i.refs]
  rcases Mo e with⟨rfl,rfl⟩|⟨_,e⟩
  ·rw [bbt,bbs];exact h.wx.bt _ _ hi
  ·exact h.wx.bt _ _ e
 ·intro j y e
  rw [K.i.refs]
  rcases Mo e with⟨rfl,rfl⟩|⟨_,e⟩
  ·exact hs
  ·exact h.wx.st _ _ e
 ·intro j y e
  rcases Mo e with⟨rfl,rfl⟩|⟨_,e⟩
  ·rw [bC];exact h.wx.cls _ _ hi
  ·exact h.wx.cls _ _ e
 ·rw [K.i.keys];exact h.gr.keys
 ·intro j y e
  rcases Mo e with⟨rfl,rfl⟩|⟨_,e⟩
  ·rw [bbs];exact h.gr.bs _ _ hi
  ·exact h.gr.bs _ _ e
 ·intro j y e
  rw [K.len]
  rcases Mo e with⟨rfl,rfl⟩|⟨_,e⟩
  ·exact⟨hn,λk hk=>Hk (hl k hk) il⟩
  ·exact h.gr.ss _ _ e
 ·rw [K.len];exact h.gr.few
 ·intro j y e
  rcases Mo e with⟨rfl,rfl⟩|⟨_,e⟩
  ·exact hl
  ·exact h.low _ _ e
 ·intro j y e
  have key:∃y₀,G[j]? =some y₀/\y.deps=y₀.deps:=by
   rcases Mo e with⟨rfl,rfl⟩|⟨_,e⟩
   ·exact⟨x,hi,bdp⟩
   ·exact⟨y,e,rfl⟩
  obtain⟨y₀,e₀,ed⟩:=key
  obtain⟨dl,D,E⟩:=h.dep j y₀ e₀
  exact⟨dl,K.i.depL D ed,λd=>by rw [K.bs];exact E d⟩
noncomputable def Tx (G:List Nd) (j:Nat):Prop:=Vo G j (Hc G j)
theorem Yv.congr {G G':List Nd} (K:Lz G G') {i:Nat} {ks:List Nat} (hs:∀b∈Fx G i,Hc G' b=Hc G b) (h:Yv G i ks):Yv G' i ks:=by
 rcases h with⟨h1,h2⟩|h
 ·refine .inl ⟨λk hk=>?_,λk hk=>h2 k ?_⟩
  ·rcases h1 k hk with h|h|⟨b,hb,h⟩
   ·exact .inl h
   ·exact .inr (.inl (by rw [K.bs];exact h))
   ·exact .inr (.inr ⟨b,by rw [K.bs];exact hb,by rw [hs b hb];exact h⟩)
  ·rcases hk with h|⟨b,hb,h⟩
   ·exact .inl h
   ·rw [K.bs]at hb
    exact .inr ⟨b,hb,by rw [<-hs b hb];exact h⟩
 ·refine .inr λk=>(h k).trans ?_
  have hfun:Fx G'=Fx G:=funext K.bs
  have key:∀{A B:List Nd},Fx A=Fx B->∀{j k},Ht A j k->Ht B j k:=by
   intro A B e j k r
   induction r with
   |refl=>exact .refl _
   |step h1 _ ih=>exact .step (by rw [<-e];exact h1) ih
  exact⟨key hfun.symm,key hfun⟩
theorem Vo.congr {G G':List Nd} (K:Lz G G') {i:Nat} {ks:List Nat} (hs:∀b∈Fx G i,Hc G' b=Hc G b) (h:Vo G i ks):Vo G' i ks:=by
 obtain⟨ks₀,h1,h2⟩:=h
 exact⟨ks₀,h1.congr K hs,h2⟩
section
theorem qK (Γ:Bj):Γ.K.lookup 318=some ⟨.type "function",none,.func (Ka Γ 318 "Specification.changed" (clsStmt 13 6) (.ref 317) .none),#[]⟩:=by kernel_rfl
theorem wK (Γ:Bj):aE Γ "_calculate_sro" 313:=⟨by kernel_rfl,by kernel_rfl⟩
theorem bR (Γ:Bj):aE Γ "changed" 318:=⟨by kernel_rfl,by kernel_rfl⟩
noncomputable abbrev cY (Γ:Bj) (name:Str):Prop:=Uy Γ.K 364 name=true/\Uy Γ.K 427 name=true
theorem cY.of {Γ:Bj} {name:Str} (k:cY Γ name) {C:Ak} (h:C=364\/C=427):Uy Γ.K C name=true:=by rcases h with rfl|rfl;exact k.1;exact k.2
theorem eK (Γ:Bj):cY Γ "sro" :=⟨by kernel_rfl,by kernel_rfl⟩
theorem eN (Γ:Bj):cY Γ "iro" :=⟨by kernel_rfl,by kernel_rfl⟩
theorem xU (Γ:Bj):yN Γ.K 427 364=true/\isIn Γ.K (.ref 364) 364=true:=⟨by kernel_rfl,by kernel_rfl⟩
theorem yZ (x:Nd) (t:Ak) (ks:List Nat):Of "sro" (.ref t) (Mw x) (Mw {x with st:=t,ss:=ks}):=.there (.there (.there (.there (.there (.there .here)))))
theorem zA (x:Nd) (v:Ab):Of "iro" v (Mw x) (Mw {x with iro:=v}):=.there (.there (.there (.there (.there .here))))
theorem Rn {G:List Nd} {X τ:List As} {p:As}:As.le ⟨Bi G++(p::X),τ⟩ ⟨Bi G++X,p::τ⟩:=As.le_perm (by
 show(Bi G++X++(p::τ)).Perm (Bi G++(p::X)++τ)
 rw [Ax,Ax]
 exact Bb _ Ff)
set_option tactic.hygienic true in
theorem jD {G:List Nd} {i:Nat} {x:Nd} (h:G[i]? =some x):G.set i x=G:=by
 refine Ks λj=>?_
 rw [Iv]
 split
 ·rename_i e;subst e;rw [h];simp [(Aj.mp h).1]
 ·rfl
set_option tactic.hygienic true in
theorem vR {G:List Nd} (g:Gr G) (low:∀(i:Nat) (x:Nd),G[i]? =some x->∀k∈x.ss,k<=i) {i:Nat} {ks:List Nat} (h:Vo G i ks):∀k∈ks,k<=i:=λk hk=>by
 obtain⟨ks₀,h1,h2⟩:=h
 rcases(h2 k).mp hk with h|h
 ·rcases h1 with⟨a,_⟩|a
  ·rcases a k h with h|h|⟨b,hb,h⟩
   ·lia
   ·have:=g.bs_lt h;lia
   ·have hb':=g.bs_lt hb
    unfold Hc at h
    split at h
    ·rename_i y e
     have:=low b y e k h
     lia
    ·cases h
  ·exact((a k).mp h).le g
 ·lia
theorem Wi {G:List Nd} {i j:Nat} {x x':Nd} (h:G[i]? =some x):Hc (G.set i x') j=if j=i then x'.ss else Hc G j:=by
 unfold Hc
 by_cases e:j=i
 ·subst e;rw [Ll h,if_pos rfl]
 ·rw [if_neg e,Gz (Ld e)]
section
variable {Γ:Bj} {A:Aw} {G:List Nd} {X:List As} {σ:Ay}
theorem sJ {τ:List As} {i:Nat} {x x':Nd} (hi:G[i]? =some x) (e:x'.ents=[(.obj x.d,.ns (Mw x')),(.obj x.dep,.idict x.deps),(.obj x.imp,.idict x.imps)]):Iy ⟨Bi G++X,τ⟩ (.obj x.d) (.ns (Mw x)) (.ns (Mw x')) ⟨Bi (G.set i x')++X,τ⟩:=
 .wld ((Yd hi (by rw [e];exact .here)).append)
theorem nW {τ:List As} {i:Nat} {x:Nd} (hi:G[i]? =some x) (im:List (Int×Ab)):Iy ⟨Bi G++X,τ⟩ (.obj x.imp) (.idict x.imps) (.idict im) ⟨Bi (G.set i {x with imps:=im})++X,τ⟩:=
 .wld ((Yd (x':={x with imps:=im}) hi (.there (.there .here))).append)
theorem uX {W τ:List As} {i:Nat} {x:Nd} {ws:List Ab} {Q:Ab->Ay->Prop} (nf:NF W G) (hi:G[i]? =some x) (hw:ws.map cl=[.ref x.me,.ref 364]) (h:Q (.bool (x.C==364)) ⟨W,τ⟩):T Γ A ⟨W,τ⟩ (call (.builtin "isinstance") ws) Q:=by
 rcases nf.cls _ _ hi with e|e
 ·refine Aef hw (Ox (nf.inst _ _ hi)) (by rw [e];exact(xU Γ).2) ?_
  have:(x.C==364)=true:=by rw [e];rfl
  rw [this]at h;exact h
 ·refine Aee hw (Ox (nf.inst _ _ hi)) (Ox (nf.ns _ _ hi)) (by rw [e];exact(xU Γ).1) ?_
  have:(x.C==364)=false:=by rw [e];rfl
  rw [this]at h;exact h
theorem iZ {W τ:List As} {i:Nat} {x:Nd} {Q:Ab->Ay->Prop} (nf:NF W G) (hi:G[i]? =some x) (h:Q (.bool (x.C==364)) ⟨W,τ⟩):kN Γ A (.builtin "isinstance") Q [.ref x.me,.ref 364] ⟨W,τ⟩:=λ_ hw=>uX (nf:=nf) (hi:=hi) (hw:=hw) (h:=h)
theorem lA {τ:List As} {i:Nat} {x x':Nd} {name:Str} {ov u v:Ab} {Q:Unit->Ay->Prop} (wx:WX G X) (hi:G[i]? =some x) (ho:cl ov=.ref x.me) (hu:cl u=v) (k:cY Γ name) (hm:Of name v (Mw x) (Mw x')) (e:x'.ents=[(.obj x.d,.ns (Mw x')),(.obj x.dep,.idict x.deps),(.obj x.imp,.idict x.imps)])
  (h:Q () ⟨Bi (G.set i x')++X,τ⟩):T Γ A ⟨Bi G++X,τ⟩ (setAttr ov name u) Q:=
 Vt ho hu (Ox (wx.nf.inst _ _ hi)) (sJ hi e) hm (k.of (wx.cls _ _ hi)) h (by show(Mw x).length<=1000;simp [Mw])
structure ChJ (G:List Nd) (X:List As) (P:Nat->Prop) (dl a:List (Nat×Ak)) (G':List Nd) (X':List As):Prop where
 wd:Wd G' X'
 k:Lz G G'
 sub:∀e∈X,e∈X'
 ok:∀b,dl=a++b->∀j,j < G'.length->¬P j->j∉b.map (·.1)->Tx G' j
theorem ChJ.step {P:Nat->Prop} {dl a b:List (Nat×Ak)} {p:Nat×Ak} {G' G'':List Nd} {X' X'':List As} (h:ChJ G X P dl a G' X') (e:dl=a++p::b) (w1:Wd G'' X'') (w2:Lz G' G'') (w3:∀e∈X',e∈X'') (w4:∀j,j < G''.length->¬(P j\/j∈b.map (·.1))->Tx G'' j):ChJ G X P dl (a++[p]) G'' X'':=
 ⟨w1,h.k.trans w2,λe he=>w3 _ (h.sub _ he),λb' e' j hj hP hd=>w4 j hj λq=>q.elim hP λq=>hd (by rw [e,Ax]at e';cases List.append_cancel_left e';exact q)⟩
noncomputable def vM (G:List Nd) (im:List (Int×Ab)) (a:List Nat):Prop:=∀k:Int,(Fk im k).isSome=true↔∃j∈a,Cu G j=k
theorem vM.store {im:List (Int×Ab)} {a:List Nat} {j:Nat} {k₀:Int} {v:Ab} (h:vM G im a) (e:k₀=Cu G j):vM G (Lj im k₀ v) (a++[j]):=λk=>by
 by_cases ek:k=k₀
 ·subst ek
  rw [Rl]
  exact⟨λ_=>⟨j,by simp,e.symm⟩,λ_=>rfl⟩
 ·rw [Rf ek,h k]
  simp only [Ai,Be]
  exact⟨λ⟨j',h1,h2⟩=>⟨j',.inl h1,h2⟩,λ⟨j',h1,h2⟩=>⟨j',h1.resolve_right λq=>ek (by rw [<-h2,q,e]),h2⟩⟩
theorem sZ {τ:List As} {i:Nat} {x:Nd} (hi:G[i]? =some x) {im im':List (Int×Ab)}:Iy ⟨Bi (G.set i {x with imps:=im})++X,τ⟩ (.obj x.imp) (.idict im) (.idict im') ⟨Bi (G.set i {x with imps:=im'})++X,τ⟩:=by
 have:=nW (G:=G.set i {x with imps:=im}) (X:=X) (τ:=τ) (Ll hi) im'
 rwa [Qd]at this
noncomputable abbrev Wa (L:Ak) (me:Ak) (oc im:Ab) (o₁ o₂ o₃ o₄:Option Ab) (τ:List As):List As:=
 (.var L "self",.val (some (.ref me)))::(.var L "originally_changed",.val (some oc))::(.var L "implied",.val (some im))::(.var L "ancestors",.val o₁)::(.var L "ancestor",.val o₂)::(.var L "dependent",.val o₃)::(.var L "_count",.val o₄)::τ
noncomputable abbrev Vz (L:Ak):Env:=Gk "Specification.changed" (fScope (clsStmt 13 6)) L 318 (.ref 317) []
set_option tactic.hygienic true in
theorem qX:∀(n:Nat) {A:Aw} {G:List Nd} {X τ:List As} {i:Nat} {x:Nd} {oc:Ab} (P:Nat->Prop) {Q:Ab->Ay->Prop},G.length<=n+i->Wd G X->(∀j,j < G.length->j≠i->¬P j->Tx G j)->Rm A (11+n)->A.handled=none->AF A ⟨[],τ⟩->G[i]? =some x->
  (∀G' X',Wd G' X'->Lz G G'->(∀e∈X,e∈X')->(∀j,j < G'.length->¬P j->Tx G' j)->Q .none ⟨Bi G'++X',τ⟩)->∀ws,ws.map cl=[.ref x.me,oc]->TC Γ A ⟨Bi G++X,τ⟩ (.ref 318) ws [] Q:=by
 intro n
 induction n with
 |zero=>
  intro A G X τ i x oc P Q hn _ _ _ _ _ hi
  have:=(Aj.mp hi).1
  lia
 |succ n ih=>
 intro A G X τ i x oc P Q hn wd ok hA hh hF hi h ws hw
 have hil:=(Aj.mp hi).1
 refine Oy (body:=fBody (clsStmt 13 6)) (bs:=[("self",.ref x.me),("originally_changed",oc)]) ["self","originally_changed","implied","ancestors","ancestor","dependent","_count"] (qK Γ) (by kernel_rfl) hA.room (Gu.plain2 λ_ _ _=>Cg (by rfl)) (λL=>?_) (by rfl) (by rfl) (by decide) (by rfl) (by rfl) (by rfl) ws [] hw rfl
 show T Γ (A.deeper (Vz L)) ⟨Bi G++X,(.var L "self",.val (some (.ref x.me)))::(.var L "originally_changed",.val (some oc))::(.var L "implied",.val none)::(.var L "ancestors",.val none)::(.var L "ancestor",.val none)::(.var L "dependent",.val none)::(.var L "_count",.val none)::τ⟩ (Cm _ (Vz L)) _
 have hA':Rm (A.deeper (Vz L)) (11+n):=hA.deeper
 have hFt:∀(W ρ:List As) oc im o₁ o₂ o₃ o₄,AF (A.deeper (Vz L)) ⟨W,ρ++Wa L x.me oc im o₁ o₂ o₃ o₄ τ⟩:=λW ρ oc im o₁ o₂ o₃ o₄=>(hF.push (τ':=Wa L x.me oc im o₁ o₂ o₃ o₄ τ) rfl rfl (L:=L) (x:="self") (.head _) λp hp=>.tail _ (.tail _ (.tail _ (.tail _ (.tail _ (.tail _ (.tail _ hp))))))).app.w
 refine Am (Bl (Ef (x:=x) wd.wx.nf hi (sD Γ) (.tail _ (.tail _ (.tail _ (.tail _ (.head _))))) (Ac (v:=.ref x.me) (by walk_at "mem") ⟨rfl,rfl⟩) ⟨_,_,by walk_at "upd",?_⟩))
 refine Fb.go ?_
 have nf0:=wd.wx.nf
 have imem:∀τ,(Er.obj x.imp,CO.idict x.imps)∈(⟨Bi G++X,τ⟩:Ay).all:=λτ=>Ox (nf0.imp _ _ hi)
 refine Am (Fy (Fi (Ac (v:=.ref x.imp) (by walk_at "mem") (Cz Ps PySem.F.slot_dict_clear PySem.F.type_dict_clear (bB (imem _)) ⟨.inr (.inl ⟨_,rfl⟩),?_⟩))))
 refine Ao (gL (nW hi []) (by rw [Av];have:=(wd.imp _ _ hi).1;lia) ?_)
 refine Fb.go ?_
 let x1:Nd:={x with imps:=[]}
 let G1:=G.set i x1
 have h1i:G1[i]? =some x1:=Ll hi
 have bnd:=wd.gr.ss _ _ hi
 have H1:Co G1 X:=wd.toCo.set hi rfl bnd.1 (wd.low i x hi) (wd.wx.st i x hi)
 have K1:Lz G G1:=Sy hi rfl
 have nf1:=H1.wx.nf
 show T Γ (A.deeper (Vz L)) ⟨Bi G1++X,Wa L x.me oc (.ref x.imp) none none none none τ⟩ _ _
 have low1:∀b∈x1.bs,∀k∈Hc G1 b,k < i:=λb hb k hk=>by
  have h1:=(H1.gr.bs _ _ h1i).2 b hb
  unfold Hc at hk
  split at hk
  ·rename_i y e
   have:=H1.low b y e k hk
   lia
  ·cases hk
 refine Am (Bl (Fi (Ac (v:=.ref x.me) (by walk_at "mem") (Ou (x:=x1) nf1 h1i (wK Γ) ⟨.inl (by kernel_rfl),Ao λws hw=>?_⟩))))
 refine(zU nf1 H1.gr H1.inj H1.ro (hA'.le (by lia)) hh (hFt _ [] _ _ _ _ _ _) h1i low1 (λr ρ ks q1 q2 q3 q4=>?_) ws hw).T
 refine⟨_,_,by walk_at "upd",?_⟩
 refine Fb.go ?_
 have hks12:ks.length<=12:=Bw (Gh _ _ q1 q2) H1.gr.few
 have a12:∀{a b:List Nat} {j:Nat},ks=a++j::b->a.length<=11:=λe=>by rw [e]at hks12;simp at hks12;lia
 have hrm:∀W ρ' T,(Er.obj r,CO.list (refs G1 ks))∈(⟨W,ρ'++(ρ++T)⟩:Ay).all:=λW ρ' T=>Ae (Aa _ (Af _ q4))
 show T Γ (A.deeper (Vz L)) ⟨Bi G1++X,ρ++Wa L x.me oc (.ref x.imp) (some (.ref r)) none none none τ⟩ _ _
 refine Am (Dj (Bz (Az (v:=.type "tuple") (by kernel_rfl) (by decide+kernel) (by decide) ⟨.inr (.inr ⟨_,rfl⟩),?_⟩)))
 refine Ag (Ac (v:=.ref r) (by walk_at "mem") (Ao (Fp (vs:=refs G1 ks) (hrm _ [] _) (by rw [Bf];lia) λt=>?_)))
 let x2:Nd:={x1 with st:=t,ss:=ks}
 refine Ac (v:=.ref x.me) (by walk_at "mem") λv ov hv ho=>lA (x:=x1) (x':=x2) H1.wx h1i ho hv (eK Γ) (yZ x1 t ks) rfl ?_
 refine Fb.go (T.conseq Rn ?_)
 let G2:=G1.set i x2
 let X2:List As:=(.obj t,.tup (refs G1 ks))::X
 have h2i:G2[i]? =some x2:=Ll h1i
 have K2:Lz G1 G2:=Sy h1i rfl
 have lowk:=vR H1.gr H1.low q3
 have H2:Co G2 X2:=(H1.more λe he=>.tail _ he).set h1i rfl q1 lowk (.head _)
 have nf2:=H2.wx.nf
 have er:∀l,refs G2 l=refs G1 l:=K2.i.refs
 show T Γ (A.deeper (Vz L)) ⟨Bi G2++X2,ρ++Wa L x.me oc (.ref x.imp) (some (.ref r)) none none none τ⟩ _ _
 refine Am (Dj (Bz (Az (v:=.type "tuple") (by kernel_rfl) (by decide+kernel) (by decide) ⟨.inr (.inr ⟨_,rfl⟩),?_⟩)))
 refine Ag (Qs (Ac (v:=.ref r) (by walk_at "mem") (Eh (vs:=refs G1 ks) (hrm _ [] _) λit=>?_)))
 refine⟨λj=>.ref (Fm G1 j),ks,it,_,_,λ_ _=>Bi G2++X2,λ_ _=>ρ++Wa L x.me oc (.ref x.imp) (some (.ref r)) none none none τ,λ_ ys=>ys,λa ys=>ys.length<=a.length,[],⟨rfl,rfl,Es (vs:=refs G1 ks) hh⟩,Gv,Bx _,rfl,λ_ _ ext _=>hrm _ ext _,λa b ys e h1=>?_,λC acc a j b ρ' ys e1 h1=>?_,λacc ys hy=>?_⟩
 ·rw [e,Ah]at hks12
  rw [Av];lia
 ·obtain⟨y,ey⟩:=Dl (show j < G2.length by rw [K2.len];exact q2 j (by rw [e1];exact Aa _ (.head _)))
  rw [show Fm G1 j=y.me by rw [<-K2.i.me,Br ey]]
  refine Jl (Ej (Bz (Az (v:=.builtin "isinstance") (by kernel_rfl) (by decide+kernel) (by decide) ⟨.inr (.inl ⟨_,rfl⟩),?_⟩)))
  refine Ag (Di (v:=.ref y.me) (by walk_at "mem") (.head _) (Ag (Bk (v:=.ref 364) (by kernel_rfl) (Ao (iZ nf2 ey (Fc ⟨λ_=>?_,λ_=>?_⟩))))))
  ·exact Di (v:=.ref y.me) (by walk_at "mem") (.head _) ⟨_,_,_,As.le_refl _,_,rfl,rfl,by rw [Ah,Ah];exact Jq h1⟩
  ·exact⟨_,_,_,As.le_refl _,_,rfl,rfl,by rw [Ah];exact Nat.le_succ_of_le h1⟩
 refine Ao (Fp (vs:=ys) Bs (by lia) λt2=>?_)
 let x3:Nd:={x2 with iro:=.ref t2}
 refine Ac (v:=.ref x.me) (by walk_at "mem") λv ov hv ho=>lA (x:=x2) (x':=x3) H2.wx h2i ho hv (eN Γ) (zA x2 (.ref t2)) rfl ?_
 refine Fb.go ?_
 let G3:=G2.set i x3
 have h3i:G3[i]? =some x3:=Ll h2i
 have K3:Lz G2 G3:=Sy h2i rfl
 have H3:Co G3 X2:=H2.set h2i rfl q1 lowk (by rw [er];exact .head _)
 let Gm:List (Int×Ab)->List Nd:=λim=>G3.set i {x3 with imps:=im}
 have hmi:∀im,(Gm im)[i]? =some {x3 with imps:=im}:=λim=>Ll h3i
 have Km:∀im,Lz G3 (Gm im):=λim=>Sy h3i rfl
 have er3:∀l,refs G3 l=refs G1 l:=λl=>(K3.i.refs l).trans (er l)
 have Hm:∀im,Co (Gm im) X2:=λim=>H3.set h3i rfl q1 lowk (by rw [er3];exact .head _)
 have e3m:Gm []=G3:=jD h3i
 show T Γ (A.deeper (Vz L)) ⟨Bi G3++X2,(.obj t2,.tup ys)::(.obj acc,.list ys)::(ρ++Wa L x.me oc (.ref x.imp) (some (.ref r)) none none none τ)⟩ _ _
 refine Am (Rv (Ac (v:=.ref r) (by walk_at "mem") (Eh (vs:=refs G1 ks) (hrm _ [_,_] _) λit₅=>?_)))
 refine⟨λj=>.ref (Fm G1 j),ks,it₅,_,_,λ_ z=>Bi (Gm z.1)++X2,λ_ z=>z.2.2++(ρ++Wa L x.me oc (.ref x.imp) (some (.ref r)) z.2.1 none none τ),λa z=>z.1.length<=a.length/\vM G3 z.1 a,([],none,[(.obj t2,.tup ys),(.obj acc,.list ys)]),⟨rfl,by rw [e3m];rfl,Es (vs:=refs G1 ks) hh⟩,⟨Bx _,λk=>by simp [Fk]⟩,λ_ z _=>hrm _ z.2.2 _,?_,?_⟩
 ·intro a j b u ρi z e1 hu hz K hK
  have hj:j < G1.length:=q2 j (by rw [e1];simp)
  obtain⟨y,ey⟩:=Dl (show j < (Gm z.1).length by rw [(Km z.1).len,K3.len,K2.len];exact hj)
  have eme:Fm G1 j=y.me:=by rw [<-K2.i.me,<-K3.i.me,<-(Km z.1).i.me,Br ey]
  have eky:y.key=Cu G3 j:=by rw [<-(Km z.1).i.key,Gd ey]
  refine Ct (hu.trans (congrArg _ eme)) (by walk_at "upd") ?_
  refine Am (Ky (Kh (Ao ⟨by rw [Av];exact Ca _,λe=>?_⟩)))
  refine Ac (v:=.ref x.imp) (by walk_at "mem") (Ef (x:=y) (Hm z.1).wx.nf ey (Ly Γ) (.head _) (Ac (v:=.ref y.me) (by walk_at "mem") ⟨rfl,rfl⟩) λv ov iv hv ho hi'=>Qg ho hi' hv (sZ h3i) (by rw [Av];have:=hz.1;have:=a12 e1;lia) ?_)
  refine Fb.go (Ci (hK .next _ ⟨_,_,As.le_perm (Bb _ (Ff (a:=((.obj e,.tup []):As)) (l₁:=ρi)).symm),(Lj z.1 y.key (.ref e),some (.ref y.me),(.obj e,.tup [])::z.2.2),rfl,?_,hz.2.store eky⟩))
  have:=Ve z.1 y.key (.ref e)
  have:=hz.1
  simp
  lia
 rintro⟨im,o,ρ'⟩ ⟨him1,him2⟩
 refine Ci ?_
 refine Fb.go ?_
 have e5:Gm im=G.set i {x3 with imps:=im}:=by simp [Gm,G3,G2,G1,Qd]
 have K5:Lz G (Gm im):=K1.trans (K2.trans (K3.trans (Km im)))
 have wd5:Wd (Gm im) X2:=⟨Hm im,λj y e=>by
  rcases Mo e with⟨rfl,rfl⟩|⟨hne,e⟩
  ·refine⟨by show im.length<=100;lia,λk=>?_⟩
   simp only [(Km im).i.key]
   exact him2 k
  ·have e0:G[j]? =some y:=by
    have:(Gm im)[j]? =some y:=by rw [show Gm im=G3.set i _ from rfl,Gz (Ld hne)];exact e
    rw [e5,Gz (Ld hne)]at this
    exact this
   refine⟨(wd.imp j y e0).1,λk=>?_⟩
   simp only [K5.i.key]
   exact(wd.imp j y e0).2 k⟩
 have ss5:∀j,Hc (Gm im) j=if j=i then ks else Hc G j:=λj=>by rw [e5,Wi hi]
 have ok5:∀j,j < (Gm im).length->¬P j->i∉Fx G j->Tx (Gm im) j:=by
  intro j hj hP hb
  rw [K5.len]at hj
  by_cases e:j=i
  ·subst e
   unfold Tx
   rw [ss5,if_pos rfl]
   refine q3.congr (K2.trans (K3.trans (Km im))) λb hb'=>?_
   have hbj:b≠j:=Kn (H1.gr.bs_lt hb')
   rw [ss5,if_neg hbj,Wi hi,if_neg hbj]
  ·have:=ok j hj e hP
   unfold Tx at this ⊢
   rw [ss5,if_neg e]
   refine this.congr K5 λb hb'=>?_
   rw [ss5,if_neg λq=>hb (by rw [<-q];exact hb')]
 obtain⟨dl,D,E⟩:=wd.dep i x hi
 have hdl12:dl.length<=12:=by
  have:=Gh G.length _ D.nodup λd hd=>by
   obtain⟨p,hp,rfl⟩:=Bn.mp hd
   exact(D.at' p hp).1
  rw [Ap]at this
  have:=wd.gr.few
  lia
 have hdv:(Er.obj x.dep,CO.idict x.deps)∈Bi (Gm im)++X2:=(Hm im).wx.nf.dep i {x3 with imps:=im} (hmi im)
 have hde:x.deps.map (λp:Int×Ab=>p.2)=dl.map λp=>Bt p.2:=by rw [D.eq,Ec];rfl
 have hdn:x.deps.length<=1000000:=by rw [D.eq,Ap];lia
 refine Am (Rv (Bz (Az (v:=.type "tuple") (by kernel_rfl) (by decide+kernel) (by decide) ⟨.inr (.inr ⟨_,rfl⟩),?_⟩)))
 refine Ag (Fi (Ef (x:={x3 with imps:=im}) (Hm im).wx.nf (hmi im) (nN Γ) (.tail _ (.tail _ (.head _))) (Ac (v:=.ref x.me) (by walk_at "mem") ⟨rfl,rfl⟩) (Cz Ps PySem.F.slot_dict_values PySem.F.type_dict_values (bB (es:=x.deps) (Ox hdv)) ⟨.inr (.inl ⟨_,rfl⟩),?_⟩)))
 refine Ao (dO (Ox hdv) λvv=>Ao λws₂ hw₂=>cP (A:=A.deeper (Vz L)) hh Bs (Ox hdv) hdn (λr6=>?_) ws₂ hw₂)
 rw [hde]
 refine(Hf (vs:=dl.map λp=>.ref p.2) (Ew.of_mem (Ae (.head _))) λit₆=>?_)
 refine⟨λp:Nat×Ak=>.ref p.2,dl,it₆,_,_,λ_ z=>Bi z.1++z.2.1,λ_ z=>(.obj r6,.tup (dl.map λp=>.ref p.2))::(.obj vv,.vview x.dep)::(ρ'++(ρ++Wa L x.me oc (.ref x.imp) (some (.ref r)) o z.2.2.1 z.2.2.2 τ)),λa z=>ChJ G X2 P dl a z.1 z.2.1,(Gm im,X2,none,none),⟨rfl,rfl,Hd (a:=r6) hh⟩,
  ⟨wd5,K5,λe he=>he,λb e j hj hP hd=>ok5 j hj hP λhb=>hd (by rw [<-(show dl=b from e)];exact(E j).mpr hb)⟩,λ_ _ _=>.of_mem (Ae (.head _)),?_,?_⟩
 ·intro a p b u ρi z e1 hu hz K hK
  have hpm:p∈dl:=by rw [e1];exact Aa _ (.head _)
  obtain⟨hp1,hp2⟩:=D.at' p hpm
  obtain⟨y,ey⟩:=Dl (show p.1 < z.1.length by rw [hz.k.len];exact hp1)
  rw [show Fm G p.1=y.me by rw [<-hz.k.i.me,Br ey]]at hp2
  have hip:i < p.1:=wd.gr.bs_lt ((E p.1).mp (Cv hpm))
  refine Xe hh hu (.of_mem (Ox (Aa _ (hz.sub _ (.tail _ hp2))))) (by walk_at "upd") (by walk_at "upd") ?_
  refine Am (Fy (Fi (Ac (v:=.ref y.me) (by walk_at "mem") (Ou hz.wd.wx.nf ey (bR Γ) ⟨.inl (by kernel_rfl),?_⟩))))
  refine Ag (Ac (v:=oc) (by walk_at "mem") (Ao λws hw=>?_))
  refine(ih (λj=>P j\/j∈b.map (·.1)) (by rw [hz.k.len];lia) hz.wd (λj hj hne hP=>hz.ok _ e1 j hj (λq=>hP (.inl q)) λq=>(Ce.mp q).elim hne λq=>hP (.inr q)) hA' hh ((hFt [] ρ oc (.ref x.imp) (some (.ref r)) o (some (.ref y.me)) (some (.int 1 0))).app.cons.cons.app) ey (λG'' X'' w1 w2 w3 w4=>?_) ws hw).T
  exact Fb.go (Ci (hK .next _ ⟨_,_,As.le_refl _,(G'',X'',some (.ref y.me),some (.int 1 0)),rfl,hz.step e1 w1 w2 w3 w4⟩))
 intro z hz
 refine Ci (Ci ⟨_,As.le_sub (τ':=τ) (Cx (l₁:=[_,_]) (Cx (Cx (.cons _ (.cons _ (.cons _ (.cons _ (.cons _ (.cons _ (.cons _ (.refl _))))))))))),h z.1 z.2.1 hz.wd hz.k (λe he=>hz.sub _ (.tail _ he)) λj hj hP=>hz.ok [] (Cj _).symm j hj hP (λq=>nomatch q)⟩)
end
end
noncomputable def Ed (G:List Nd) (X:List As) (E:Nat->Nat->Prop):Prop:=∀(j:Nat) (x:Nd),G[j]? =some x->∃dl,cX G X x dl/\∀d,d∈dl.map (·.1)↔E j d
noncomputable def Nd.blank3 (x:Nd):Nd:={x with deps:=[]}
noncomputable abbrev Ii (G G':List Nd):Prop:=G.map Nd.blank3=G'.map Nd.blank3
theorem Ii.i {G G':List Nd} (h:Ii G G'):Gf G G':=by
 have:=congrArg (List.map Nd.blank2) h
 rw [Ec,Ec]at this
 exact this
theorem Ii.symm {G G':List Nd} (h:Ii G G'):Ii G' G:=Eq.symm h
theorem Ii.trans {A B C:List Nd} (h:Ii A B) (k:Ii B C):Ii A C:=Eq.trans h k
theorem Ii.at' {G G':List Nd} (h:Ii G G') {i:Nat} {x:Nd} (e:G[i]? =some x):∃x',G'[i]? =some x'/\x'.blank3=x.blank3:=by
 have:=congrArg (·[i]?) h
 simp only [Bc,e,Option.map_some]at this
 exact Cw.mp this.symm
theorem Ii.len {G G':List Nd} (h:Ii G G'):G'.length=G.length:=h.i.len
theorem aG {x x':Nd} (h:x'.blank3=x.blank3):x'={x with deps:=x'.deps}:=by
 obtain⟨a,b,c,d,e,f,g,h1,h2,h3,h4,h5,h6,h7,h8,h9⟩:=x
 obtain⟨a',b',c',d',e',f',g',h1',h2',h3',h4',h5',h6',h7',h8',h9'⟩:=x'
 simp only [Nd.blank3,Nd.mk.injEq]at h ⊢
 simp [h]
set_option tactic.hygienic true in
theorem Uu {G:List Nd} {i:Nat} {x x':Nd} (h:G[i]? =some x) (hb:x'.blank3=x.blank3):Ii G (G.set i x'):=by
 unfold Ii
 rw [Ko,hb]
 refine(Ks λj=>?_).symm
 rw [Iv]
 split
 ·rename_i e
  subst e
  rw [Bc,h]
  simp [(Aj.mp h).1]
 ·rfl
theorem WX.keepD {G G':List Nd} {X:List As} (h:WX G X) (K:Ii G G'):WX G' X where
 inst i x e:=by
  obtain⟨x0,e0,hb⟩:=K.symm.at' e
  have:=aG hb
  rw [this]at e0
  exact h.inst i {x with deps:=x0.deps} e0
 bt i x e:=by
  obtain⟨x0,e0,hb⟩:=K.symm.at' e
  have:=aG hb
  rw [this]at e0
  rw [K.i.refs]
  exact h.bt i {x with deps:=x0.deps} e0
 st i x e:=by
  obtain⟨x0,e0,hb⟩:=K.symm.at' e
  have:=aG hb
  rw [this]at e0
  rw [K.i.refs]
  exact h.st i {x with deps:=x0.deps} e0
 cls i x e:=by
  obtain⟨x0,e0,hb⟩:=K.symm.at' e
  have:=aG hb
  rw [this]at e0
  exact h.cls i {x with deps:=x0.deps} e0
theorem Ii.keyInj {G G':List Nd} (K:Ii G G') (h:(G.map (·.key)).Nodup):(G'.map (·.key)).Nodup:=by rw [K.i.keys];exact h
theorem key_inj {G:List Nd} (h:(G.map (·.key)).Nodup) {i j:Nat} (hi:i < G.length) (hj:j < G.length) (e:Cu G i=Cu G j):i=j:=by
 obtain⟨x,ex⟩:=Dl hi
 obtain⟨y,ey⟩:=Dl hj
 rw [Gd ex,Gd ey]at e
 have h1:(G.map (·.key))[i]? =some x.key:=by simp [ex]
 have h2:(G.map (·.key))[j]? =some x.key:=by simp [ey,e]
 exact(List.getElem?_inj (by simpa using hi) h).mp (h1.trans h2.symm)
theorem cX.value {G:List Nd} {X:List As} {y:Nd} {dl:List (Nat×Ak)} (D:cX G X y dl) (hk:(G.map (·.key)).Nodup) {i:Nat} (hi:i < G.length):
  (i∈dl.map (·.1)->∃t,(i,t)∈dl/\Fk y.deps (Cu G i)=some (.ref t))/\(i∉dl.map (·.1)->Fk y.deps (Cu G i)=none):=by
 obtain⟨e,a,n⟩:=D
 rw [e]
 clear e
 induction dl with
 |nil=>exact⟨λh=>(by cases h),λ_=>rfl⟩
 |cons p r ih=>
  have hp:=(a p (.head _)).1
  rw [Cf,Ey]at n
  have ih:=ih (λq hq=>a q (.tail _ hq)) n.2
  have hv:Fk ((p::r).map λp=>(Cu G p.1,Bt p.2)) (Cu G i)=if p.1=i then some (.ref p.2)else Fk (r.map λp=>(Cu G p.1,Bt p.2)) (Cu G i):=by
   unfold Fk
   simp only [Cf,Hh]
   by_cases q:p.1=i
   ·simp [q]
   ·have:¬Cu G p.1=Cu G i:=λe=>q (key_inj hk hp hi e)
    simp [q,this]
  rw [hv]
  constructor
  ·intro h
   rw [Cf]at h
   by_cases q:p.1=i
   ·rw [if_pos q]
    exact⟨p.2,by rw [<-q];exact .head _,rfl⟩
   ·rw [if_neg q]
    rcases Ce.mp h with h|h
    ·exact absurd h.symm q
    ·obtain⟨t,h1,h2⟩:=ih.1 h
     exact⟨t,.tail _ h1,h2⟩
  ·intro h
   rw [Cf,Ce,not_or]at h
   rw [if_neg λq=>h.1 q.symm]
   exact ih.2 h.2
theorem bH {es:List (Int×Ab)} {k:Int} {v:Ab} (h:Fk es k=none):Lj es k v=es++[(k,v)]:=by
 unfold Lj
 rw [if_neg]
 intro q
 obtain⟨p,hp,hk⟩:=Hb.mp q
 unfold Fk at h
 rw [Option.map_eq_none_iff,List.find?_eq_none]at h
 exact h p hp hk
theorem Ed.keepD {G G':List Nd} {X:List As} {E:Nat->Nat->Prop} (h:Ed G X E) (K:Ii G G') {j:Nat} {x:Nd} (e:G'[j]? =some x) {x0:Nd} (e0:G[j]? =some x0) (ed:x.deps=x0.deps):∃dl,cX G' X x dl/\∀d,d∈dl.map (·.1)↔E j d:=by
 obtain⟨dl,D,hE⟩:=h j x0 e0
 exact⟨dl,K.i.depL D ed,hE⟩
theorem Ed.add {G:List Nd} {X:List As} {E:Nat->Nat->Prop} (h:Ed G X E) {j i:Nat} {y x:Nd} {t:Ak} (hj:G[j]? =some y) (hi:G[i]? =some x) (hn:¬E j i):
  Ed (G.set j {y with deps:=y.deps++[(x.key,.ref t)]}) ((.obj t,.tup [.ref x.me,.int 1 0])::X) (λa b=>E a b\/(a=j/\b=i)):=by
 have K:Ii G (G.set j {y with deps:=y.deps++[(x.key,.ref t)]}):=Uu hj rfl
 have hil:=(Aj.mp hi).1
 intro a z e
 rcases Mo e with⟨rfl,rfl⟩|⟨hne,e⟩
 ·obtain⟨dl,D,hE⟩:=h _ _ hj
  refine⟨dl++[(i,t)],⟨?_,?_,?_⟩,λd=>?_⟩
  ·rw [Bh]
   refine(congrArg (λl=>l++[(x.key,Bt t)]) D.eq).trans ?_
   congr 1
   ·apply Ge;intro p _;exact Prod.ext (K.i.key p.1).symm rfl
   ·show [(x.key,Bt t)]=[(Cu _ i,Bt t)]
    rw [(K.i.key i).trans (Gd hi)]
  ·intro p hp
   rw [K.len,K.i.me]
   rcases Ai.mp hp with hp|hp
   ·exact⟨(D.at' p hp).1,.tail _ (D.at' p hp).2⟩
   ·rw [Be]at hp
    subst hp
    exact⟨hil,by rw [Br hi];exact .head _⟩
  ·rw [Bh,Hz]
   refine⟨D.nodup,by simp,λa ha b hb q=>?_⟩
   simp at hb
   rw [q,hb]at ha
   exact hn ((hE i).mp ha)
  ·rw [Bh,Ai,hE]
   simp
 ·obtain⟨dl,D,hE⟩:=Ed.keepD h K (x:=z) (by rw [Gz (Ld hne)];exact e) e rfl
  exact⟨dl,D.more λ_ h=>.tail _ h,λd=>by rw [hE];simp [hne]⟩
theorem Ed.del {G:List Nd} {X:List As} {E:Nat->Nat->Prop} (h:Ed G X E) (hk:(G.map (·.key)).Nodup) {j i:Nat} {y x:Nd} (hj:G[j]? =some y) (hi:G[i]? =some x):
  Ed (G.set j {y with deps:=without y.deps x.key}) X (λa b=>E a b/\¬(a=j/\b=i)):=by
 have K:Ii G (G.set j {y with deps:=without y.deps x.key}):=Uu hj rfl
 have hil:=(Aj.mp hi).1
 intro a z e
 rcases Mo e with⟨rfl,rfl⟩|⟨hne,e⟩
 ·obtain⟨dl,D,hE⟩:=h _ _ hj
  have key:∀p∈dl,(Cu G p.1=x.key↔p.1=i):=λp hp=>by
   rw [<-Gd hi]
   exact⟨λq=>key_inj hk (D.at' p hp).1 hil q,λq=>by rw [q]⟩
  refine⟨dl.filter λp=>p.1 != i,⟨?_,?_,?_⟩,λd=>?_⟩
  ·refine(congrArg (λl=>without l x.key) D.eq).trans ?_
   unfold without
   rw [Kd]
   have hf:dl.filter ((λkv:Int×Ab=>decide (kv.1≠x.key))∘λp:Nat×Ak=>(Cu G p.1,Bt p.2))=dl.filter λp=>p.1 != i:=Iw λp hp=>by
    have:=key p hp
    by_cases q:p.1=i
    ·simp [q,Gd hi]
    ·simp [q,this]
   rw [hf]
   apply Ge
   intro p _
   exact Prod.ext (K.i.key p.1).symm rfl
  ·intro p hp
   have hp:=(Cs.mp hp).1
   rw [K.len,K.i.me]
   exact D.at' p hp
  ·exact(Qe.map _ List.filter_sublist).nodup D.nodup
  ·constructor
   ·intro hd
    obtain⟨p,hp,rfl⟩:=Bn.mp hd
    obtain⟨h1,h2⟩:=Cs.mp hp
    exact⟨(hE _).mp (Cv h1),λq=>by simp [q.2]at h2⟩
   ·rintro⟨h1,h2⟩
    obtain⟨p,hp,rfl⟩:=Bn.mp ((hE d).mpr h1)
    exact Cv (f:=λq:Nat×Ak=>q.1) (Cs.mpr ⟨hp,by simp;exact λq=>h2 ⟨rfl,q⟩⟩)
 ·obtain⟨dl,D,hE⟩:=Ed.keepD h K (x:=z) (by rw [Gz (Ld hne)];exact e) e rfl
  exact⟨dl,D,λd=>by rw [hE];simp [hne]⟩
section
theorem fX (Γ:Bj):Γ.K.lookup 286=some ⟨.type "function",none,.func (Ka Γ 286 "Specification.dependents" (clsStmt 13 1) (.ref 285) .none),#[]⟩:=by kernel_rfl
theorem jI (Γ:Bj):Γ.K.lookup 294=some ⟨.type "function",none,.func (Ka Γ 294 "Specification.subscribe" (clsStmt 13 2) (.ref 293) .none),#[]⟩:=by kernel_rfl
theorem dC (Γ:Bj):Γ.K.lookup 301=some ⟨.type "function",none,.func (Ka Γ 301 "Specification.unsubscribe" (clsStmt 13 3) (.ref 300) .none),#[]⟩:=by kernel_rfl
theorem Za (Γ:Bj):dR Γ.K 364 "dependents" 287 286=true/\dR Γ.K 427 "dependents" 287 286=true:=⟨by kernel_rfl,by kernel_rfl⟩
section
variable {Γ:Bj} {A:Aw} {G:List Nd} {X:List As} {σ:Ay}
theorem gZ {τ:List As} {i:Nat} {x:Nd} (hi:G[i]? =some x) (de:List (Int×Ab)):Iy ⟨Bi G++X,τ⟩ (.obj x.dep) (.idict x.deps) (.idict de) ⟨Bi (G.set i {x with deps:=de})++X,τ⟩:=
 .wld ((Yd (x':={x with deps:=de}) hi (.there .here)).append)
theorem xH {W τ:List As} {i:Nat} {x:Nd} {ov:Ab} {expr:Bool} {Q:Ab->Ay->Prop} (nf:NF W G) (hA:Rm A 2) (hi:G[i]? =some x) (ho:cl ov=.ref x.me) (h:Q (.ref x.dep) ⟨W,τ⟩):T Γ A ⟨W,τ⟩ (Lc ov "dependents" expr) Q:=by
 refine cF ho (Ox (nf.inst _ _ hi)) (Ox (nf.ns _ _ hi)) (p:=287) (f:=286) (by rcases nf.cls _ _ hi with e|e;rw [e];exact(Za Γ).1;rw [e];exact(Za Γ).2) ?_
 refine Oy (body:=fBody (clsStmt 13 1)) (bs:=[("self",.ref x.me)]) ["self"] (fX Γ) (by kernel_rfl) (hA.in1).room (Gu.plain1 λ_ _=>Cg (by rfl)) (λL=>?_) (by rfl) (by rfl) (by decide) (by rfl) (by rfl) (by rfl) _ [] rfl rfl
 show T Γ _ ⟨W,(.var L "self",.val (some (.ref x.me)))::τ⟩ _ _
 refine Am (Fj (Ef (x:=x) nf hi (nN Γ) (.tail _ (.tail _ (.head _))) (Ac (v:=.ref x.me) (by walk_at "mem") ⟨rfl,rfl⟩) ?_))
 exact⟨_,As.le_sub (.cons _ (.refl _)),rfl,h⟩
theorem oQ {W τ:List As} {i:Nat} {x:Nd} {expr:Bool} {Q:Ab->Ay->Prop} (nf:NF W G) (hA:Rm A 2) (hi:G[i]? =some x) (h:Q (.ref x.dep) ⟨W,τ⟩):P1 Γ A (λo=>Lc o "dependents" expr) Q (.ref x.me) ⟨W,τ⟩:=λ_ ho=>xH (nf:=nf) (hA:=hA) (hi:=hi) (ho:=ho) (h:=h)
theorem wX {τ:List As} {i j:Nat} {x y:Nd} {E:Nat->Nat->Prop} {Q:Ab->Ay->Prop} (wx:WX G X) (hk:(G.map (·.key)).Nodup) (few:G.length<=12) (ed:Ed G X E) (hA:Rm A 4) (hi:G[i]? =some x) (hj:G[j]? =some y) (hE:E j i)
  (h:∀G',Ii G G'->WX G' X->Ed G' X (λa b=>E a b/\¬(a=j/\b=i))->Q .none ⟨Bi G'++X,τ⟩):∀ws,ws.map cl=[.ref y.me,.ref x.me]->TC Γ A ⟨Bi G++X,τ⟩ (.ref 301) ws [] Q:=λws hw=>by
 have hil:=(Aj.mp hi).1
 have nf:=wx.nf
 obtain⟨dl,D,hD⟩:=ed j y hj
 obtain⟨t,ht1,ht2⟩:=(D.value hk hil).1 ((hD i).mpr hE)
 rw [Gd hi]at ht2
 have ht3:=(D.at' _ ht1).2
 rw [Br hi]at ht3
 have hlen:y.deps.length<=12:=by
  rw [D.eq,Ap]
  have:=Gh G.length _ D.nodup λd hd=>by
   obtain⟨p,hp,rfl⟩:=Bn.mp hd
   exact(D.at' p hp).1
  rw [Ap]at this
  lia
 refine Oy (body:=fBody (clsStmt 13 3)) (bs:=[("self",.ref y.me),("dependent",.ref x.me)]) ["self","dependent","n"] (dC Γ) (by kernel_rfl) hA.room (Gu.plain2 λ_ _ _=>Cg (by rfl)) (λL=>?_) (by rfl) (by rfl) (by decide) (by rfl) (by rfl) (by rfl) ws [] hw rfl
 show T Γ (A.deeper (Gk "Specification.unsubscribe" (fScope (clsStmt 13 3)) L 301 (.ref 300) [])) ⟨Bi G++X,(.var L "self",.val (some (.ref y.me)))::(.var L "dependent",.val (some (.ref x.me)))::(.var L "n",.val none)::τ⟩ (Cm _ (Gk "Specification.unsubscribe" (fScope (clsStmt 13 3)) L 301 (.ref 300) [])) _
 have hA':Rm (A.deeper (Gk "Specification.unsubscribe" (fScope (clsStmt 13 3)) L 301 (.ref 300) [])) 3:=hA.deeper
 refine Am (Bl (Bd (Bd (Ef (x:=y) nf hj (nN Γ) (.tail _ (.tail _ (.head _))) (Ac (v:=.ref y.me) (by walk_at "mem") ⟨rfl,rfl⟩) (Ef (x:=x) nf hi (Ly Γ) (.head _) (Ac (v:=.ref x.me) (by walk_at "mem") ⟨rfl,rfl⟩) (Gn<|Sp (Ox (nf.dep _ _ hj)) ht2 (Dd (Gn<|Vu (.of_mem (Ox (Aa _ ht3))) (v:=.int 1 0) (by decide) (by decide) (by rfl) ⟨_,_,by walk_at "upd",?_⟩))))))))
 refine Fb.go ?_
 refine Am (Zi (old:=.int 1 0) (by walk_at "mem") (Dd λu v hu hv=>zX hu hv ⟨_,_,by walk_at "upd",?_⟩))
 refine Fb.go ?_
 refine Am (Hs (Nh (Ej (Ac (v:=.int (1 - 1) 0) (by walk_at "mem") (Xi ⟨λ_=>?_,λhb=>absurd hb (by decide)⟩)))))
 refine Am (nH (Iz (Ac (v:=.ref y.me) (by walk_at "mem") (oQ nf (hA'.le (by decide)) hj (Ef (x:=x) nf hi (Ly Γ) (.head _) (Ac (v:=.ref x.me) (by walk_at "mem") ⟨rfl,rfl⟩) λov iv ho₂ hi₂=>cR ho₂ hi₂ (by rw [ht2];rfl) (gZ hj (without y.deps x.key)) (by rw [Av];lia) ?_)))))
 refine Fb.go (Ci ?_)
 refine Fb.go (Ci ⟨_,As.le_sub (τ':=τ) (.cons _ (.cons _ (.cons _ (.refl _)))),?_⟩)
 have K:Ii G (G.set j {y with deps:=without y.deps x.key}):=Uu hj rfl
 exact h _ K (wx.keepD K) (ed.del hk hj hi)
theorem Adc {τ:List As} {i j:Nat} {x y:Nd} {E:Nat->Nat->Prop} {Q:Ab->Ay->Prop} (wx:WX G X) (hk:(G.map (·.key)).Nodup) (few:G.length<=12) (ed:Ed G X E) (hA:Rm A 4) (hi:G[i]? =some x) (hj:G[j]? =some y) (hE:¬E j i)
  (h:∀G' X',Ii G G'->(∀e∈X,e∈X')->WX G' X'->Ed G' X' (λa b=>E a b\/(a=j/\b=i))->Q .none ⟨Bi G'++X',τ⟩):∀ws,ws.map cl=[.ref y.me,.ref x.me]->TC Γ A ⟨Bi G++X,τ⟩ (.ref 294) ws [] Q:=λws hw=>by
 have hil:=(Aj.mp hi).1
 have nf:=wx.nf
 obtain⟨dl,D,hD⟩:=ed j y hj
 have hvn:=(D.value hk hil).2 (λq=>hE ((hD i).mp q))
 rw [Gd hi]at hvn
 have hlen:y.deps.length<=12:=by
  rw [D.eq,Ap]
  have:=Gh G.length _ D.nodup λd hd=>by
   obtain⟨p,hp,rfl⟩:=Bn.mp hd
   exact(D.at' p hp).1
  rw [Ap]at this
  lia
 refine Oy (body:=fBody (clsStmt 13 2)) (bs:=[("self",.ref y.me),("dependent",.ref x.me)]) ["self","dependent"] (jI Γ) (by kernel_rfl) hA.room (Gu.plain2 λ_ _ _=>Cg (by rfl)) (λL=>?_) (by rfl) (by rfl) (by decide) (by rfl) (by rfl) (by rfl) ws [] hw rfl
 show T Γ (A.deeper (Gk "Specification.subscribe" (fScope (clsStmt 13 2)) L 294 (.ref 293) [])) ⟨Bi G++X,(.var L "self",.val (some (.ref y.me)))::(.var L "dependent",.val (some (.ref x.me)))::τ⟩ (Cm _ (Gk "Specification.subscribe" (fScope (clsStmt 13 2)) L 294 (.ref 293) [])) _
 have hA':Rm (A.deeper (Gk "Specification.subscribe" (fScope (clsStmt 13 2)) L 294 (.ref 293) [])) 3:=hA.deeper
 refine Am (Ky (Kh (Ag (Ac (v:=.ref x.me) (by walk_at "mem") (Ag (Ei (Bd (Fi (Iz (Ac (v:=.ref y.me) (by walk_at "mem") (oQ nf (hA'.le (by decide)) hj (Cz Ps PySem.F.slot_dict_get PySem.F.type_dict_get (bB (es:=y.deps) (Ox (nf.dep _ _ hj))) ⟨.inr (.inl ⟨_,rfl⟩),?_⟩))))))))))))
 refine Ag (Ef (x:=x) nf hi (Ly Γ) (.head _) (Ac (v:=.ref x.me) (by walk_at "mem") ⟨rfl,rfl⟩) (Ag (Kh (k:=0) (Ag (Jt (k:=0) (pos:=⟨0,0,0,0⟩) (Ag (Dd (k:=0) (pos:=⟨0,0,0,0⟩) (Ao ⟨by rw [Av];exact By rfl,λt0=>?_⟩))))))))
 refine Ao (kB (Ox (nf.dep _ _ hj)) ?_)
 rw [hvn]
 refine Dd (Gn<|Vu (.of_mem (Bs)) (v:=.int 0 0) (by decide) (by decide) (by rfl) ?_)
 refine Dd (Qz ?_)
 refine Ao ⟨by rw [Av];exact By rfl,λt=>?_⟩
 refine Ef (x:=y) nf hj (nN Γ) (.tail _ (.tail _ (.head _))) (Ac (v:=.ref y.me) (by walk_at "mem") ⟨rfl,rfl⟩) ?_
 refine Ef (x:=x) nf hi (Ly Γ) (.head _) (Ac (v:=.ref x.me) (by walk_at "mem") ⟨rfl,rfl⟩) λv ov iv hv ho hi'=>Qg ho hi' hv (gZ hj (Lj y.deps x.key (.ref t))) (by rw [Av];lia) ?_
 refine Fb.go (Ci ⟨_,As.le_trans (As.le_sub (τ':=τ) (.cons _ (.cons _ (.cons _ (.refl _))))) Rn,?_⟩)
 rw [bH hvn]
 have K:Ii G (G.set j {y with deps:=y.deps++[(x.key,.ref t)]}):=Uu hj rfl
 exact h _ _ K (λe he=>.tail _ he) ((wx.keepD K).more λe he=>.tail _ he) (ed.add hj hi hE)
end
end
theorem Ed.congr {G:List Nd} {X:List As} {E E':Nat->Nat->Prop} (h:Ed G X E) (k:∀a b,E a b↔E' a b):Ed G X E':=λj x e=>let ⟨dl,D,hE⟩:=h j x e;⟨dl,D,λd=>(hE d).trans (k j d)⟩
noncomputable def cU (G:List Nd) (j:Nat):Prop:=∀k,k∈Hc G j↔k=j\/k=0\/∃b∈Fx G j,k∈Hc G b
theorem cU.ok {G:List Nd} {j:Nat} (h:cU G j):Tx G j:=by
 refine⟨j::(Fx G j).flatMap (Hc G),.inl ⟨λk hk=>?_,λk hk=>?_⟩,λk=>?_⟩
 ·rcases Ce.mp hk with h|h
  ·exact .inl h
  ·exact .inr (.inr (Fg.mp h))
 ·rcases hk with h|h
  ·rw [h];exact .head _
  ·exact .tail _ (Fg.mpr h)
 ·rw [h k,Ce,Fg]
  constructor
  ·rintro(h|h|h)
   ·exact .inl (.inl h)
   ·exact .inr h
   ·exact .inl (.inr h)
  ·rintro((h|h)|h)
   ·exact .inl h
   ·exact .inr (.inr h)
   ·exact .inr (.inl h)
theorem Sc {G:List Nd} (g:Gr G) {m:Nat} (hm:m<=G.length) (h:∀j,j < m->Tx G j):∀(n j:Nat),j<=n->j < m->∀k,k∈Hc G j↔Ht G j k\/k=0:=by
 intro n
 induction n with
 |zero=>
  intro j hj hl k
  obtain⟨ks₀,h1,h2⟩:=h j hl
  rw [h2]
  have hb:Fx G j=[]:=by
   cases e:Fx G j with
   |nil=>rfl
   |cons b r=>have:=g.bs_lt (j:=j) (b:=b) (by rw [e];exact .head _);lia
  refine or_congr ?_ Iff.rfl
  rcases h1 with⟨a1,a2⟩|a
  ·rw [Ht.cases',hb]
   constructor
   ·intro hk
    rcases a1 k hk with h|h|⟨b,h,_⟩
    ·exact .inl h
    ·rw [hb]at h;cases h
    ·rw [hb]at h;cases h
   ·rintro(h|⟨b,h,_⟩)
    ·exact a2 k (.inl h)
    ·cases h
  ·exact a k
 |succ n ih=>
  intro j hj hl k
  obtain⟨ks₀,h1,h2⟩:=h j hl
  rw [h2]
  have ihb:∀b∈Fx G j,∀k,k∈Hc G b↔Ht G b k\/k=0:=λb hb=>by
   have:=g.bs_lt hb
   exact ih b (by lia) (by lia)
  rcases h1 with⟨a1,a2⟩|a
  ·rw [Ht.cases']
   constructor
   ·rintro(hk|h)
    ·rcases a1 k hk with h|h|⟨b,hb,h⟩
     ·exact .inl (.inl h)
     ·exact .inl (.inr ⟨k,h,.refl _⟩)
     ·rcases(ihb b hb k).mp h with h|h
      ·exact .inl (.inr ⟨b,hb,h⟩)
      ·exact .inr h
    ·exact .inr h
   ·rintro((h|⟨b,hb,h⟩)|h)
    ·exact .inl (a2 k (.inl h))
    ·exact .inl (a2 k (.inr ⟨b,hb,(ihb b hb k).mpr (.inl h)⟩))
    ·exact .inr h
  ·rw [a k]
theorem Rc {G:List Nd} (g:Gr G) {m:Nat} (hm:m<=G.length) (h:∀j,j < m->Tx G j) {j:Nat} (hj:j < m):cU G j:=λk=>by
 rw [Sc g hm h j j (Bx _) hj,Ht.cases']
 constructor
 ·rintro((h'|⟨b,hb,h'⟩)|h')
  ·exact .inl h'
  ·have:=g.bs_lt hb
   exact .inr (.inr ⟨b,hb,(Sc g hm h b b (Bx _) (by lia) k).mpr (.inl h')⟩)
  ·exact .inr (.inl h')
 ·rintro(h'|h'|⟨b,hb,h'⟩)
  ·exact .inl (.inl h')
  ·exact .inr h'
  ·have:=g.bs_lt hb
   rcases(Sc g hm h b b (Bx _) (by lia) k).mp h' with h'|h'
   ·exact .inl (.inr ⟨b,hb,h'⟩)
   ·exact .inr h'
noncomputable def Nd.blank4 (x:Nd):Nd:={x with st:=0,ss:=[],iro:=.none,imps:=[],deps:=[]}
noncomputable abbrev Jj (G G':List Nd):Prop:=G.map Nd.blank4=G'.map Nd.blank4
theorem Lz.j {G G':List Nd} (h:Lz G G'):Jj G G':=by
 have:=congrArg (List.map Nd.blank4) h
 rw [Ec,Ec]at this
 exact this
theorem Ii.j {G G':List Nd} (h:Ii G G'):Jj G G':=by
 have:=congrArg (List.map Nd.blank4) h
 rw [Ec,Ec]at this
 exact this
theorem Jj.i {G G':List Nd} (h:Jj G G'):Gf G G':=by
 have:=congrArg (List.map Nd.blank2) h
 rw [Ec,Ec]at this
 exact this
theorem Jj.trans {A B C:List Nd} (h:Jj A B) (k:Jj B C):Jj A C:=Eq.trans h k
theorem Jj.at' {G G':List Nd} (h:Jj G G') {i:Nat} {x:Nd} (e:G[i]? =some x):∃x',G'[i]? =some x'/\x'.blank4=x.blank4:=by
 have:=congrArg (·[i]?) h
 simp only [Bc,e,Option.map_some]at this
 exact Cw.mp this.symm
theorem Adi {x x':Nd} (h:x'.blank4=x.blank4):x'.bs=x.bs:=by have:=congrArg Nd.bs h;exact this
theorem Jj.bs {G G':List Nd} (h:Jj G G') (j:Nat):Fx G' j=Fx G j:=by
 unfold Fx
 cases e:G[j]?with
 |none=>rw [Uf h.i.len e]
 |some x=>obtain⟨x',e',hb⟩:=h.at' e;rw [e'];exact Adi hb
theorem pC {G G1:List Nd} (K:Ii G G1) {i:Nat} {x x1:Nd} (hi:G[i]? =some x) (h1:G1[i]? =some x1) {bt:Ak} {bs:List Nat}:Ii (G.set i {x with bt:=bt,bs:=bs}) (G1.set i {x1 with bt:=bt,bs:=bs}):=by
 obtain⟨x0,e0,hb⟩:=K.at' hi
 rw [h1]at e0
 cases e0
 have:=aG hb
 unfold Ii at *
 rw [Ko,Ko,K]
 congr 1
 rw [this]
 rfl
theorem lF {G G':List Nd} (K:Ii G G') (j:Nat):Hc G' j=Hc G j:=by
 unfold Hc
 cases e:G[j]?with
 |none=>rw [Uf K.len e]
 |some x=>obtain⟨x',e',hb⟩:=K.at' e;rw [e',aG hb]
theorem Wr {G:List Nd} {i j:Nat} {x x':Nd} (h:G[i]? =some x):Fx (G.set i x') j=if j=i then x'.bs else Fx G j:=by
 unfold Fx
 by_cases e:j=i
 ·subst e;rw [Ll h,if_pos rfl]
 ·rw [if_neg e,Gz (Ld e)]
theorem Wd.rebase {G G2:List Nd} {X X2:List As} (wd:Wd G X) {i:Nat} {x:Nd} {bt:Ak} {bs:List Nat} (hi:G[i]? =some x) (K:Ii (G.set i {x with bt:=bt,bs:=bs}) G2) (wx:WX G2 X2) (ed:Ed G2 X2 λa b=>a∈Fx G2 b) (hn:bs.Nodup) (hl:∀b∈bs,b < i):Wd G2 X2:=by
 have K0:Gf G (G.set i {x with bt:=bt,bs:=bs}):=Ls hi rfl
 have KI:Gf G G2:=K0.trans K.i
 have look:∀(j:Nat) (y:Nd),G2[j]? =some y->∃y₀,G[j]? =some y₀/\y.ss=y₀.ss/\y.imps=y₀.imps/\((j=i/\y.bs=bs)\/y.bs=y₀.bs):=λj y e=>by
  obtain⟨y₁,e₁,hb⟩:=K.symm.at' e
  have:=aG hb
  rcases Mo e₁ with⟨rfl,rfl⟩|⟨hne,e₂⟩
  ·refine⟨x,hi,?_,?_,.inl ⟨rfl,?_⟩⟩
   ·have:=congrArg Nd.ss hb;exact this.symm
   ·have:=congrArg Nd.imps hb;exact this.symm
   ·have:=congrArg Nd.bs hb;exact this.symm
  ·refine⟨y₁,e₂,?_,?_,.inr ?_⟩
   ·have:=congrArg Nd.ss hb;exact this.symm
   ·have:=congrArg Nd.imps hb;exact this.symm
   ·have:=congrArg Nd.bs hb;exact this.symm
 refine⟨⟨wx,⟨?_,?_,?_,?_⟩,KI.inj wd.inj,KI.root wd.ro,?_,ed⟩,?_⟩
 ·rw [KI.keys];exact wd.gr.keys
 ·intro j y e
  obtain⟨y₀,e₀,_,_,h|h⟩:=look j y e
  ·rw [h.2,h.1];exact⟨hn,hl⟩
  ·rw [h];exact wd.gr.bs _ _ e₀
 ·intro j y e
  obtain⟨y₀,e₀,h,_⟩:=look j y e
  rw [h,KI.len];exact wd.gr.ss _ _ e₀
 ·rw [KI.len];exact wd.gr.few
 ·intro j y e
  obtain⟨y₀,e₀,h,_⟩:=look j y e
  rw [h];exact wd.low _ _ e₀
 ·intro j y e
  obtain⟨y₀,e₀,h,h2,_⟩:=look j y e
  unfold aH
  rw [h,h2]
  refine⟨(wd.imp _ _ e₀).1,λk=>?_⟩
  simp only [KI.key]
  exact(wd.imp _ _ e₀).2 k
section
theorem lZ (Γ:Bj):Γ.K.lookup 308=some ⟨.type "function",none,.func (Ka Γ 308 "Specification.setBases" (clsStmt 13 4) (.ref 307) .none),#[]⟩:=by kernel_rfl
theorem tT (Γ:Bj):aE Γ "unsubscribe" 301:=⟨by kernel_rfl,by kernel_rfl⟩
theorem zG (Γ:Bj):aE Γ "subscribe" 294:=⟨by kernel_rfl,by kernel_rfl⟩
theorem Zb (Γ:Bj):cY Γ "bases" :=⟨by kernel_rfl,by kernel_rfl⟩
theorem tJ (x:Nd) (t:Ak) (bs:List Nat):Of "bases" (.ref t) (Mw x) (Mw {x with bt:=t,bs:=bs}):=.there (.there (.there .here))
structure UnJ (G:List Nd) (X:List As) (i:Nat) (a:List Nat) (G':List Nd):Prop where
 k:Ii G G'
 wx:WX G' X
 ed:Ed G' X λp q=>p∈Fx G q/\¬(q=i/\p∈a)
structure SuJ (G G2:List Nd) (X:List As) (i:Nat) (a:List Nat) (G':List Nd) (X':List As):Prop where
 k:Ii G2 G'
 sub:∀e∈X,e∈X'
 wx:WX G' X'
 ed:Ed G' X' λp q=>(p∈Fx G q/\q≠i)\/(q=i/\p∈a)
theorem bL {l a b:List Nat} {j:Nat} (h:l.Nodup) (e:l=a++j::b):j∉a:=by
 rw [e,Hz]at h
 exact λq=>h.2.2 j q j (.head _) rfl
noncomputable abbrev sbV (L me bt:Ak) (o:Option Ab) (τ:List As):List As:=(.var L "self",.val (some (.ref me)))::(.var L "bases",.val (some (.ref bt)))::(.var L "b",.val o)::τ
noncomputable abbrev gQ (L:Ak):Env:=Gk "Specification.setBases" (fScope (clsStmt 13 4)) L 308 (.ref 307) []
section
variable {Γ:Bj} {A:Aw} {G:List Nd} {X:List As} {σ:Ay}
set_option tactic.hygienic true in
theorem Vr {τ:List As} {i:Nat} {x:Nd} {bt:Ak} {bs:List Nat} {Q:Ab->Ay->Prop} (wd:Wd G X) (lc:∀j,j < G.length->j≠i->cU G j) (hA:Rm A 30) (hh:A.handled=none) (hF:AF A ⟨[],τ⟩) (hi:G[i]? =some x) (hb:Vl X bt (refs G bs)) (hn:bs.Nodup) (hl:∀b∈bs,b < i)
  (h:∀G' X',Wd G' X'->Jj (G.set i {x with bt:=bt,bs:=bs}) G'->(∀e∈X,e∈X')->(∀j,j < G'.length->Tx G' j)->Q .none ⟨Bi G'++X',τ⟩):∀ws,ws.map cl=[.ref x.me,.ref bt]->TC Γ A ⟨Bi G++X,τ⟩ (.ref 308) ws [] Q:=λws hw=>by
 have hil:=(Aj.mp hi).1
 have few:=wd.gr.few
 refine Oy (body:=fBody (clsStmt 13 4)) (bs:=[("self",.ref x.me),("bases",.ref bt)]) ["self","bases","b"] (lZ Γ) (by kernel_rfl) hA.room (Gu.plain2 λ_ _ _=>Cg (by rfl)) (λL=>?_) (by rfl) (by rfl) (by decide) (by rfl) (by rfl) (by rfl) ws [] hw rfl
 show T Γ (A.deeper (gQ L)) ⟨Bi G++X,sbV L x.me bt none τ⟩ (Cm _ (gQ L)) _
 have hA':Rm (A.deeper (gQ L)) 29:=hA.deeper
 have blt:∀b∈x.bs,b < G.length:=λb hb=>Jh ((wd.gr.bs _ _ hi).2 b hb) hil
 refine Am (Rv (Ef (x:=x) wd.wx.nf hi (Pu Γ) (.tail _ (.tail _ (.tail _ (.head _)))) (Ac (v:=.ref x.me) (by walk_at "mem") ⟨rfl,rfl⟩) (Hf (vs:=refs G x.bs) ((wd.wx.nf.bt _ _ hi).tup) λit=>?_)))
 refine⟨λj=>.ref (Fm G j),x.bs,it,_,_,λ_ z=>Bi z.1++X,λ_ z=>sbV L x.me bt z.2 τ,λa z=>UnJ G X i a z.1,(G,none),⟨rfl,rfl,Hd (a:=x.bt) (vs:=refs G x.bs) hh⟩,
  ⟨rfl,wd.wx,Ed.congr (G:=G) wd.dep λa b=>⟨λh=>⟨h,λq=>nomatch q.2⟩,And.left⟩⟩,λ_ _ _=>(wd.wx.bt _ _ hi).right.tup,λa j b u ρ z e1 hu hz K hK=>?_,λz hz=>?_⟩
 ·have hj:j∈x.bs:=by rw [e1];exact Aa _ (.head _)
  obtain⟨x',ex,hbx⟩:=hz.k.at' hi
  have hxme:x'.me=x.me:=by have:=congrArg Nd.me hbx;exact this
  obtain⟨y,ey⟩:=Dl (show j < z.1.length by rw [hz.k.len];exact blt j hj)
  rw [show Fm G j=y.me by rw [<-hz.k.i.me,Br ey]]at hu
  refine Ct hu (by walk_at "upd") ?_
  refine Am (Fy (Fi (Ac (v:=.ref y.me) (by walk_at "mem") (Ou hz.wx.nf ey (tT Γ) ⟨.inl (by kernel_rfl),?_⟩))))
  refine Ag (Ac (v:=.ref x.me) (by walk_at "mem") (Ao λws hw=>?_))
  refine(wX hz.wx (hz.k.keyInj wd.gr.keys) (by rw [hz.k.len];exact few) hz.ed (hA'.le (by decide)) ex ey ⟨by rw [Pw hi];exact hj,λq=>bL (wd.gr.bs _ _ hi).1 e1 q.2⟩ (λG'' K' wx' ed'=>?_) ws (by rw [hxme];exact hw)).T
  refine Fb.go (Ci (hK .next _ ⟨_,_,As.le_refl _,(G'',some (.ref y.me)),rfl,hz.k.trans K',wx',ed'.congr λa' b'=>?_⟩))
  rw [Ai,Be]
  exact⟨λh=>⟨h.1.1,λq=>q.2.elim (λr=>h.1.2 ⟨q.1,r⟩) λr=>h.2 ⟨r,q.1⟩⟩,λh=>⟨⟨h.1,λq=>h.2 ⟨q.1,.inl q.2⟩⟩,λq=>h.2 ⟨q.2,.inr q.1⟩⟩⟩
 obtain⟨K1,wx1,ed1⟩:=hz
 generalize z.1=G1 at *
 generalize z.2=o at *
 refine Ci (Fb.go ?_)
 obtain⟨x1,ex1,hb1⟩:=K1.at' hi
 have hx1me:x1.me=x.me:=by have:=congrArg Nd.me hb1;exact this
 let G2:=G1.set i {x1 with bt:=bt,bs:=bs}
 refine Am (Dj (Ac (v:=.ref bt) (by walk_at "mem") (Ac (v:=.ref x.me) (by walk_at "mem") λv ov hv ho=>lA (x:=x1) (x':={x1 with bt:=bt,bs:=bs}) wx1 ex1 (by rw [hx1me];exact ho) hv (Zb Γ) (tJ x1 bt bs) rfl ?_)))
 refine Fb.go ?_
 have KD2:Ii (G.set i {x with bt:=bt,bs:=bs}) G2:=pC K1 hi ex1
 have K02:Gf G1 G2:=Ls ex1 rfl
 have KI2:Gf G G2:=K1.i.trans K02
 have wx2:WX G2 X:=by
  refine⟨λj y e=>?_,λj y e=>?_,λj y e=>?_,λj y e=>?_⟩
  ·rcases Mo e with⟨rfl,rfl⟩|⟨_,e⟩
   ·exact wx1.inst _ x1 ex1
   ·exact wx1.inst _ _ e
  ·rw [K02.refs]
   rcases Mo e with⟨rfl,rfl⟩|⟨_,e⟩
   ·rw [K1.i.refs];exact hb
   ·exact wx1.bt _ _ e
  ·rw [K02.refs]
   rcases Mo e with⟨rfl,rfl⟩|⟨_,e⟩
   ·exact wx1.st _ x1 ex1
   ·exact wx1.st _ _ e
  ·rcases Mo e with⟨rfl,rfl⟩|⟨_,e⟩
   ·exact wx1.cls _ x1 ex1
   ·exact wx1.cls _ _ e
 have ed2:Ed G2 X (λa b=>a∈Fx G b/\b≠i):=by
  intro j y e
  have key:∃y₀,G1[j]? =some y₀/\y.deps=y₀.deps:=by
   rcases Mo e with⟨rfl,rfl⟩|⟨_,e⟩
   ·exact⟨x1,ex1,rfl⟩
   ·exact⟨y,e,rfl⟩
  obtain⟨y₀,e₀,hd⟩:=key
  obtain⟨dl,D,hE⟩:=ed1 j y₀ e₀
  refine⟨dl,K02.depL D hd,λd=>(hE d).trans ?_⟩
  constructor
  ·rintro⟨h1,h2⟩
   exact⟨h1,λq=>h2 ⟨q,by rw [q,Pw hi]at h1;exact h1⟩⟩
  ·rintro⟨h1,h2⟩
   exact⟨h1,λq=>h2 q.1⟩
 show T Γ (A.deeper (gQ L)) ⟨Bi G2++X,sbV L x.me bt o τ⟩ _ _
 refine Am (Rv (Ac (v:=.ref bt) (by walk_at "mem") (Hf (vs:=refs G bs) (hb.right.tup) λit=>?_)))
 refine⟨λj=>.ref (Fm G j),bs,it,_,_,λ_ z=>Bi z.1++z.2.1,λ_ z=>sbV L x.me bt z.2.2 τ,λa z=>SuJ G G2 X i a z.1 z.2.1,(G2,X,o),⟨rfl,rfl,Hd (a:=bt) (vs:=refs G bs) hh⟩,
  ⟨rfl,λe he=>he,wx2,ed2.congr λa b=>⟨.inl,λh=>h.elim id λq=>nomatch q.2⟩⟩,λ_ z hz=>(hb.more hz.sub).right.tup,λa j b u ρ z e1 hu hz K hK=>?_,λz hz=>?_⟩
 ·have hj:j∈bs:=by rw [e1];exact Aa _ (.head _)
  have KI:=KI2.trans hz.k.i
  obtain⟨x',ex,hbx⟩:=KI.at' hi
  obtain⟨y,ey⟩:=Dl (show j < z.1.length by rw [KI.len];exact Jh (hl j hj) hil)
  rw [show Fm G j=y.me by rw [<-KI.me,Br ey]]at hu
  refine Ct hu (by walk_at "upd") ?_
  refine Am (Fy (Fi (Ac (v:=.ref y.me) (by walk_at "mem") (Ou hz.wx.nf ey (zG Γ) ⟨.inl (by kernel_rfl),?_⟩))))
  refine Ag (Ac (v:=.ref x.me) (by walk_at "mem") (Ao λws hw=>?_))
  refine(Adc hz.wx (by rw [KI.keys];exact wd.gr.keys) (by rw [KI.len];exact few) hz.ed (hA'.le (by decide)) ex ey (λq=>q.elim (λq=>q.2 rfl) λq=>bL hn e1 q.2) (λG'' X'' K' sub' wx' ed'=>?_) ws (by rw [gV hbx];exact hw)).T
  refine Fb.go (Ci (hK .next _ ⟨_,_,As.le_refl _,(G'',X'',some (.ref y.me)),rfl,hz.k.trans K',λe he=>sub' _ (hz.sub _ he),wx',ed'.congr λa' b'=>?_⟩))
  rw [Ai,Be]
  exact⟨λh=>h.elim (λh=>h.imp id λq=>⟨q.1,.inl q.2⟩) λq=>.inr ⟨q.2,.inr q.1⟩,λh=>h.elim (λh=>.inl (.inl h)) λq=>q.2.elim (λr=>.inl (.inr ⟨q.1,r⟩)) λr=>.inr ⟨r,q.1⟩⟩
 obtain⟨K3,sub3,wx3,ed3⟩:=hz
 generalize z.1=G3 at *
 generalize z.2.1=X3 at *
 clear o
 generalize z.2.2=o at *
 refine Ci (Fb.go ?_)
 have KD3:Ii (G.set i {x with bt:=bt,bs:=bs}) G3:=KD2.trans K3
 have hbs3:∀j,Fx G3 j=if j=i then bs else Fx G j:=λj=>by rw [KD3.j.bs,Wr hi]
 have wd3:Wd G3 X3:=wd.rebase hi KD3 wx3 (ed3.congr λa b=>by
  rw [hbs3]
  by_cases q:b=i
  ·simp [q]
  ·simp [q]) hn hl
 have hss3:∀j,Hc G3 j=Hc G j:=λj=>by
  rw [lF KD3,Wi hi]
  split
  ·rename_i q;rw [q,We hi]
  ·rfl
 obtain⟨x3,ex3,hb3⟩:=(KI2.trans K3.i).at' hi
 have hx3me:x3.me=x.me:=gV hb3
 have hlen3:G3.length=G.length:=(KI2.trans K3.i).len
 have hFt:AF (A.deeper (gQ L)) ⟨[],sbV L x.me bt o τ⟩:=hF.push rfl rfl (L:=L) (x:="self") (c:=some (.ref x.me)) (by walk_at "mem") λp hp=>.tail _ (.tail _ (.tail _ hp))
 refine Am (Fy (Fi (Ac (v:=.ref x3.me) (by rw [hx3me];walk_at "mem") (Ou wd3.wx.nf ex3 (bR Γ) ⟨.inl (by kernel_rfl),?_⟩))))
 refine Ag (Ac (v:=.ref x.me) (by walk_at "mem") (Ao λws hw=>?_))
 refine(qX 12 (τ:=sbV L x.me bt o τ) (λ_=>False) (by rw [hlen3];lia) wd3 (λj hj hne _=>?_) (hA'.le (by decide)) hh hFt ex3 (λG' X' w1 w2 w3 w4=>?_) ws hw).T
 ·refine cU.ok λk=>?_
  rw [hlen3]at hj
  rw [hss3,hbs3,if_neg hne,lc j hj hne k]
  simp only [hss3]
 ·refine Fb.go (Ci ⟨_,As.le_sub (τ':=τ) (.cons _ (.cons _ (.cons _ (.refl _)))),h G' X' w1 (KD3.j.trans w2.j) (λe he=>w3 _ (sub3 _ he)) λj hj=>w4 j hj λq=>q⟩)
end
end
section
section
variable {Γ:Bj}
theorem zN {G:List Nd} {X τ:List As} {s:Ba} (R:Ea Γ ⟨Bi G++X,τ⟩ s) (wx:WX G X):oS G:=by
 have hp:(Bi G).Pairwise Tz:=by
  have:=R.sep
  have h2:((Bi G++X)++τ).Pairwise Tz:=this
  rw [Ax]at h2
  exact(Ku.mp h2).1
 unfold Bi at hp
 rw [List.pairwise_flatMap]at hp
 have key:∀(i j:Nat) (x y:Nd),i < j->G[i]? =some x->G[j]? =some y->x.d≠y.d:=by
  intro i j x y hij e1 e2 hd
  obtain⟨h1,r1⟩:=Aj.mp e1
  obtain⟨h2,r2⟩:=Aj.mp e2
  have:=(List.pairwise_iff_getElem.mp hp.2) i j h1 h2 hij (.obj x.d,.ns (Mw x)) (by rw [r1];exact .head _) (.obj y.d,.ns (Mw y)) (by rw [r2];exact .head _)
  rcases this with h|⟨h,_⟩|⟨_,_,_,h,_⟩
  ·exact h (by show((true,x.d):Bool×Nat)=(true,y.d);rw [hd])
  ·cases h
  ·cases h
 intro i j x y e1 e2 hm
 have g1:s.heap.get? x.me=some (Ot x.C x.d):=(R.ents _ (Ox (wx.nf.inst _ _ e1))).1
 have g2:s.heap.get? y.me=some (Ot y.C y.d):=(R.ents _ (Ox (wx.nf.inst _ _ e2))).1
 rw [hm,g2]at g1
 have hd:y.d=x.d:=by
  have h1:=Dh g1
  unfold Ot at h1
  injection h1 with _ h2 _ _
  exact Dh h2
 rcases Nat.lt_trichotomy i j with h|h|h
 ·exact absurd hd.symm (key i j x y h e1 e2)
 ·exact h
 ·exact absurd hd (key j i y x h e2 e1)
end
theorem eS (G:List Nd) (x:Nd):Bi (G++[x])=Bi G++x.ents:=by unfold Bi;rw [Je];simp
theorem zW {G:List Nd} {x:Nd} {i:Nat} {y:Nd} (h:G[i]? =some y):(G++[x])[i]? =some y:=by
 rw [Fn (Aj.mp h).1];exact h
theorem Rz (G:List Nd) (x:Nd):(G++[x])[G.length]? =some x:=by simp
theorem Mm {G:List Nd} {x:Nd} {i:Nat} {y:Nd} (h:(G++[x])[i]? =some y):G[i]? =some y\/(i=G.length/\y=x):=by
 rcases Nx i G.length with hi|hi
 ·rw [Fn hi]at h;exact .inl h
 ·have h1:=(Aj.mp h).1
  have:i=G.length:=by simp at h1;lia
  subst this
  rw [Rz]at h
  exact .inr ⟨rfl,(Dh h).symm⟩
theorem Zz {G:List Nd} {x:Nd} {j:Nat} (h:j < G.length):(G++[x])[j]? =G[j]? :=Fn h
theorem Su {G:List Nd} {x:Nd} {j:Nat} (h:j < G.length):Fm (G++[x]) j=Fm G j:=by unfold Fm;rw [Zz h]
theorem Xz {G:List Nd} {x:Nd} {j:Nat} (h:j < G.length):Cu (G++[x]) j=Cu G j:=by unfold Cu;rw [Zz h]
theorem bF {G:List Nd} {x:Nd} {j:Nat} (h:j < G.length):Fx (G++[x]) j=Fx G j:=by unfold Fx;rw [Zz h]
theorem aN {G:List Nd} {x:Nd} {j:Nat} (h:j < G.length):Hc (G++[x]) j=Hc G j:=by unfold Hc;rw [Zz h]
theorem Ue {G:List Nd} {x:Nd} {l:List Nat} (h:∀j∈l,j < G.length):refs (G++[x]) l=refs G l:=by
 unfold refs;apply Ge;intro j hj;rw [Su (h j hj)]
theorem WX.new {G:List Nd} {X X':List As} {x:Nd} (wd:Wd G X) (sub:∀e∈X,e∈X') (hin:(Er.obj x.me,CO.inst x.C x.d)∈X') (hC:x.C=364\/x.C=427) (hbt:(Er.obj x.bt,CO.tup [])∈X') (hst:(Er.obj x.st,CO.tup [])∈X') (hbs:x.bs=[]) (hss:x.ss=[]):WX (G++[x]) X':=by
 have blt:∀(i:Nat) (y:Nd),G[i]? =some y->∀b∈y.bs,b < G.length:=λi y e b hb=>Jh ((wd.gr.bs _ _ e).2 b hb) (Aj.mp e).1
 refine⟨?_,?_,?_,?_⟩
 ·intro i y e
  rcases Mm e with e|⟨rfl,rfl⟩
  ·exact sub _ (wd.wx.inst _ _ e)
  ·exact hin
 ·intro i y e
  rcases Mm e with e|⟨rfl,rfl⟩
  ·rw [Ue (blt i y e)];exact(wd.wx.bt _ _ e).more sub
  ·rw [hbs];exact .inl hbt
 ·intro i y e
  rcases Mm e with e|⟨rfl,rfl⟩
  ·rw [Ue (wd.gr.ss _ _ e).2];exact sub _ (wd.wx.st _ _ e)
  ·rw [hss];exact hst
 ·intro i y e
  rcases Mm e with e|⟨rfl,rfl⟩
  ·exact wd.wx.cls _ _ e
  ·exact hC
theorem cU.app {G:List Nd} {x:Nd} (g:Gr G) {j:Nat} (hj:j < G.length) (h:cU G j):cU (G++[x]) j:=λk=>by
 rw [aN hj,h k,bF hj]
 refine or_congr Iff.rfl (or_congr Iff.rfl ⟨λ⟨b,hb,hk⟩=>⟨b,hb,?_⟩,λ⟨b,hb,hk⟩=>⟨b,hb,?_⟩⟩)
 ·rw [aN (Jh (g.bs_lt hb) hj)];exact hk
 ·rw [aN (Jh (g.bs_lt hb) hj)]at hk;exact hk
theorem vT {G:List Nd} {x y:Nd}:(G++[x]).set G.length y=G++[y]:=by
 rw [List.set_append_right _ _ (Bx _),Qc];rfl
theorem Wd.new {G:List Nd} {X X':List As} {x:Nd} (wd:Wd G X) (sub:∀e∈X,e∈X') (hin:(Er.obj x.me,CO.inst x.C x.d)∈X') (hC:x.C=364\/x.C=427) (hbt:(Er.obj x.bt,CO.tup [])∈X') (hst:(Er.obj x.st,CO.tup [])∈X') (hbs:x.bs=[]) (hss:x.ss=[]) (hde:x.deps=[]) (him:x.imps=[]) (hk:x.key∉G.map (·.key)) (few:G.length < 12) (hr:x.root=Vy (G++[x]) G.length) (J:oS (G++[x])):Wd (G++[x]) X':=by
 refine⟨⟨WX.new wd sub hin hC hbt hst hbs hss,⟨?_,?_,?_,?_⟩,J,?_,?_,?_⟩,?_⟩
 ·rw [Bh,Hz]
  refine⟨wd.gr.keys,by simp,λa ha b hb q=>?_⟩
  simp at hb
  rw [q,hb]at ha
  exact hk ha
 ·intro i y e
  rcases Mm e with e|⟨rfl,rfl⟩
  ·exact wd.gr.bs _ _ e
  ·rw [hbs];exact⟨.nil,λ_ h=>(by cases h)⟩
 ·intro i y e
  rcases Mm e with e|⟨rfl,rfl⟩
  ·have:=wd.gr.ss _ _ e
   exact⟨this.1,λb hb=>by have:=this.2 b hb;simp;lia⟩
  ·rw [hss];exact⟨.nil,λ_ h=>(by cases h)⟩
 ·simp;lia
 ·intro i y e
  rcases Mm e with e|⟨rfl,rfl⟩
  ·rw [wd.ro _ _ e]
   unfold Vy
   rw [Su (Hk (Ca _) (Aj.mp e).1)]
  ·exact hr
 ·intro i y e
  rcases Mm e with e|⟨rfl,rfl⟩
  ·exact wd.low _ _ e
  ·rw [hss];intro k hk;cases hk
 ·intro j y e
  have hlast:Fx (G++[x]) G.length=[]:=by rw [Pw (Rz G x),hbs]
  rcases Mm e with e|⟨rfl,rfl⟩
  ·obtain⟨dl,D,hE⟩:=wd.dep j y e
   refine⟨dl,⟨?_,?_,D.nodup⟩,λd=>(hE d).trans ?_⟩
   ·rw [D.eq]
    apply Ge
    intro p hp
    rw [Xz (D.at' p hp).1]
   ·intro p hp
    have:=D.at' p hp
    rw [Su this.1]
    exact⟨by simp;lia,sub _ this.2⟩
   ·rcases Nat.lt_trichotomy d G.length with h|h|h
    ·rw [bF h]
    ·subst h
     rw [hlast]
     unfold Fx
     rw [Dq (Bx _)]
    ·unfold Fx
     rw [Dq (Md h),Dq (by simp;lia)]
  ·refine⟨[],⟨hde,λ_ h=>(by cases h),.nil⟩,λd=>⟨λh=>(by cases h),λh=>?_⟩⟩
   rcases Nat.lt_trichotomy d G.length with hd|hd|hd
   ·rw [bF hd]at h
    have:=wd.gr.bs_lt h
    lia
   ·subst hd;rw [hlast]at h;cases h
   ·unfold Fx at h
    rw [Dq (by simp;lia)]at h
    cases h
 ·intro i y e
  rcases Mm e with e|⟨rfl,rfl⟩
  ·refine⟨(wd.imp _ _ e).1,λk=>((wd.imp _ _ e).2 k).trans ?_⟩
   constructor
   ·rintro⟨j,h1,h2⟩
    exact⟨j,h1,by rw [Xz ((wd.gr.ss _ _ e).2 j h1)];exact h2⟩
   ·rintro⟨j,h1,h2⟩
    exact⟨j,h1,by rw [Xz ((wd.gr.ss _ _ e).2 j h1)]at h2;exact h2⟩
  ·refine⟨by rw [him];exact Ca _,λk=>?_⟩
   rw [him,hss]
   simp [Fk]
theorem mv {W ρ τ:List As} {p:As}:As.le ⟨p::W,ρ++τ⟩ ⟨W,ρ++p::τ⟩:=As.le_perm (by
 show(W++(ρ++p::τ)).Perm (p::W++(ρ++τ))
 rw [<-Ax]
 refine Bv.trans Ff ?_
 rw [Ax]
 exact .refl _)
theorem Acd (a b c d:List As):((a++b)++(c++d)).Perm ((c++a)++(b++d)):=by
 have h1:((a++b)++(c++d)).Perm (a++(c++(b++d))):=by
  rw [Ax]
  refine Bb a ?_
  rw [<-Ax,<-Ax]
  exact Dx d Eu
 refine h1.trans ?_
 rw [<-Ax]
 exact Dx _ Eu
end
section
theorem lU (Γ:Bj):Γ.K.lookup 279=some ⟨.type "function",none,.func (Ka Γ 279 "Specification.__init__" (clsStmt 13 0) (.ref 278) (.ref 272)),#[]⟩:=by kernel_rfl
theorem Uk (Γ:Bj):aE Γ "setBases" 308:=⟨by kernel_rfl,by kernel_rfl⟩
theorem qD (Γ:Bj):cY Γ "key" :=⟨by kernel_rfl,by kernel_rfl⟩
theorem mG (Γ:Bj):cY Γ "_ROOT" :=⟨by kernel_rfl,by kernel_rfl⟩
theorem qJ (Γ:Bj):cY Γ "_dependents" :=⟨by kernel_rfl,by kernel_rfl⟩
theorem qE (Γ:Bj):cY Γ "_implied" :=⟨by kernel_rfl,by kernel_rfl⟩
noncomputable abbrev rS:List (Str×Option Ab):=[("key",none),("_ROOT",none),("_dependents",none),("bases",none),("_implied",none),("iro",none),("sro",none),("declared",none),("inherit",none)]
theorem Gu.k4 {Γ:Bj} {fd:FuncData} {x y z t:Str} {v₁ v₂ v₃ v₄:Ab} (h:∀w₁ w₂ w₃ w₄ s,Γ.K.In (Ba.heap s)->Fa s fd ⟨[w₁,w₂,w₃,w₄],[]⟩ [(x,w₁),(y,w₂),(z,w₃),(t,w₄)]):Gu Γ fd [v₁,v₂,v₃,v₄] [] [(x,v₁),(y,v₂),(z,v₃),(t,v₄)]:=by
 intro ws kws hw hk
 obtain⟨w₁,w₂,w₃,w₄,rfl,e1,e2,e3,e4⟩:=Zw hw
 have:kws=[]:=by simpa using hk
 subst this
 exact⟨_,by simp [e1,e2,e3,e4],λs X=>h _ _ _ _ s X⟩
section
variable {Γ:Bj} {A:Aw} {G:List Nd} {X:List As} {σ:Ay}
theorem bW {τ:List As} {me d C b:Ak} {key:Int} {root:Ab} {bs:List Nat} {Q:Ab->Ay->Prop} (wd:Wd G X) (sok:∀j,j < G.length->Tx G j) (hC:C=364\/C=427) (hkey:key∉G.map (·.key)) (few:G.length < 12) (hroot:root=if G.length=0 then .none else .ref (Fm G 0))
  (hb:Vl X b (refs G bs)\/(Er.obj b,CO.list (refs G bs))∈(⟨Bi G++X,τ⟩:Ay).all) (hn:bs.Nodup) (hl:∀k∈bs,k < G.length) (hA:Rm A 32) (hh:A.handled=none) (hF:AF A ⟨[],τ⟩)
  (h:∀G' X' x,Wd G' X'->Jj (G++[x]) G'->x.me=me->x.d=d->x.C=C->x.key=key->x.bs=bs->x.decl=none->x.inh=none->(∀e∈X,e∈X')->(∀j,j < G'.length->Tx G' j)->Q .none ⟨Bi G'++X',τ⟩):
  ∀ws,ws.map cl=[.ref me,.int key 0,.ref b,root]->TC Γ A ⟨Bi G++X,(.obj d,.ns rS)::(.obj me,.inst C d)::τ⟩ (.ref 279) ws [] Q:=λws hw=>by
 refine Oy (body:=fBody (clsStmt 13 0)) (bs:=[("self",.ref me),("key",.int key 0),("bases",.ref b),("root",root)]) ["self","key","bases","root"] (lU Γ) (by kernel_rfl) hA.room (Gu.k4 λ_ _ _ _ _ X=>kp_binds X λS=>by kernel_rfl) (λL=>?_) (by rfl) (by rfl) (by decide) (by rfl) (by rfl) (by rfl) ws [] hw rfl
 let V:List As:=(.var L "self",.val (some (.ref me)))::(.var L "key",.val (some (.int key 0)))::(.var L "bases",.val (some (.ref b)))::(.var L "root",.val (some root))::τ
 have hA':Rm (A.deeper (Gk "Specification.__init__" (fScope (clsStmt 13 0)) L 279 (.ref 278) [])) 31:=hA.deeper
 have hrc:cl root=root:=by rw [hroot];split<;>rfl
 have hrh:Ln root=true:=by rw [hroot];split<;>rfl
 show T Γ (A.deeper (Gk "Specification.__init__" (fScope (clsStmt 13 0)) L 279 (.ref 278) [])) ⟨Bi G++X,(.var L "self",.val (some (.ref me)))::(.var L "key",.val (some (.int key 0)))::(.var L "bases",.val (some (.ref b)))::(.var L "root",.val (some root))::(.obj d,.ns rS)::(.obj me,.inst C d)::τ⟩ (Cm _ (Gk "Specification.__init__" (fScope (clsStmt 13 0)) L 279 (.ref 278) [])) _
 refine Am (Dj (Ac (v:=.int key 0) (by walk_at "mem") (Ac (v:=.ref me) (by walk_at "mem") (Gp (by walk_at "mem") (by walk_at "upd") (by walk_at "set") ((qD Γ).of hC) ?_))))
 refine Fb.go ?_
 refine Am (Dj (Ac (v:=root) (by walk_at "mem") (Ac (v:=.ref me) (by walk_at "mem") (Gp (by walk_at "mem") (by walk_at "upd") (by walk_at "set") ((mG Γ).of hC) ?_))))
 refine Fb.go ?_
 refine Am (Dj (aA λdep=>(Ac (v:=.ref me) (by walk_at "mem") (Gp (by walk_at "mem") (by walk_at "upd") (by walk_at "set") ((qJ Γ).of hC) ?_))))
 refine Fb.go ?_
 refine Am (Dj (Kh (Ao ⟨by rw [Av];exact Ca _,λtb=>Ac (v:=.ref me) (by walk_at "mem") (Gp (by walk_at "mem") (by walk_at "upd") (by walk_at "set") ((Zb Γ).of hC) ?_)⟩)))
 refine Fb.go ?_
 refine Am (Dj (aA λimp=>(Ac (v:=.ref me) (by walk_at "mem") (Gp (by walk_at "mem") (by walk_at "upd") (by walk_at "set") ((qE Γ).of hC) ?_))))
 refine Fb.go ?_
 refine Am (Dj (Kh (Ao ⟨by rw [Av];exact Ca _,λti=>Ac (v:=.ref me) (by walk_at "mem") (Gp (by walk_at "mem") (by walk_at "upd") (by walk_at "set") ((eN Γ).of hC) ?_)⟩)))
 refine Fb.go ?_
 refine Am (Dj (Kh (Ao ⟨by rw [Av];exact Ca _,λts=>Ac (v:=.ref me) (by walk_at "mem") (Gp (by walk_at "mem") (by walk_at "upd") (by walk_at "set") ((eK Γ).of hC) ?_)⟩)))
 refine Fb.go ?_
 let xf:Nd:=⟨me,d,dep,imp,C,key,root,tb,[],ts,[],.ref ti,[],[],none,none⟩
 let T3:List As:=[(.obj tb,.tup []),(.obj ts,.tup []),(.obj me,.inst C d)]
 refine T.conseq (mv (ρ:=[_,_,_,_,_,_,_,_,_,_])) ?_
 refine T.conseq (mv (ρ:=[])) ?_
 refine T.conseq (mv (ρ:=[_,_])) ?_
 refine T.conseq (mv (ρ:=[_])) ?_
 refine T.conseq (mv (ρ:=[_])) ?_
 refine T.conseq (mv (ρ:=[_,_,_,_,_])) ?_
 refine T.conseq (σ':=⟨Bi (G++[xf])++(T3++X),(.obj ti,.tup [])::V⟩) (As.le_perm ?_) ?_
 ·rw [eS]
  exact Dx _ (Acd xf.ents T3 (Bi G) X)
 have wx':WX (G++[xf]) (T3++X):=WX.new wd (λe he=>Aa _ he) (.tail _ (.tail _ (.head _))) hC (.head _) (.tail _ (.head _)) rfl rfl
 refine T.have (λs R=>zN R wx') λJ=>?_
 have hrV:root=Vy (G++[xf]) G.length:=by
  rw [hroot]
  unfold Vy
  by_cases q:G.length=0
  ·rw [if_pos q,if_pos q]
  ·rw [if_neg q,if_neg q,Su (by lia)]
 have wd':Wd (G++[xf]) (T3++X):=Wd.new wd (λe he=>Aa _ he) (.tail _ (.tail _ (.head _))) hC (.head _) (.tail _ (.head _)) rfl rfl rfl rfl hkey few hrV J
 have hlc:∀j,j < (G++[xf]).length->j≠G.length->cU (G++[xf]) j:=λj hj hne=>by
  have hj':j < G.length:=by simp at hj;lia
  exact(Rc wd.gr (Bx _) sok hj').app wd.gr hj'
 have hrefs:refs (G++[xf]) bs=refs G bs:=Ue hl
 have hFV:∀ρ,AF (A.deeper (Gk "Specification.__init__" (fScope (clsStmt 13 0)) L 279 (.ref 278) [])) ⟨[],ρ++V⟩:=λρ=>hF.push rfl rfl (L:=L) (x:="self") (c:=some (.ref me)) (by walk_at "mem") λp hp=>Aa _ (.tail _ (.tail _ (.tail _ (.tail _ hp))))
 have fin:∀X'' bt ρ,(∀e∈T3++X,e∈X'')->Vl X'' bt (refs G bs)->∀ws,ws.map cl=[.ref me,.ref bt]->T Γ (A.deeper (Gk "Specification.__init__" (fScope (clsStmt 13 0)) L 279 (.ref 278) [])) ⟨Bi (G++[xf])++X'',ρ++V⟩ (call (.ref 308) ws) λ_ σ'=>T Γ (A.deeper (Gk "Specification.__init__" (fScope (clsStmt 13 0)) L 279 (.ref 278) [])) σ' (Cm [] (Gk "Specification.__init__" (fScope (clsStmt 13 0)) L 279 (.ref 278) [])) (Ja Q):=by
  intro X'' bt ρ sub hbt ws hw
  have wd'':Wd (G++[xf]) X'':=⟨wd'.toCo.more sub,wd'.imp⟩
  refine(Vr (x:=xf) (bt:=bt) (bs:=bs) wd'' hlc (hA'.le (by decide)) hh (hFV ρ) (Rz G xf) (by rw [hrefs];exact hbt) hn hl (λG' X' w1 w2 w3 w4=>?_) ws hw).T
  rw [vT]at w2
  exact Ci ⟨_,As.le_sub (τ':=τ) (Cx (.cons _ (.cons _ (.cons _ (.cons _ (.refl _)))))),h G' X' {xf with bt:=bt,bs:=bs} w1 w2 rfl rfl rfl rfl rfl rfl rfl (λe he=>w3 _ (sub _ (Aa _ he))) w4⟩
 refine Am (Fy (Fi (Ac (v:=.ref me) (by walk_at "mem") (Ou wd'.wx.nf (Rz G xf) (Uk Γ) ⟨.inl (by kernel_rfl),?_⟩))))
 refine Ag (Bz (Az (v:=.type "tuple") (by kernel_rfl) (by decide+kernel) (by decide) ⟨.inr (.inr ⟨_,rfl⟩),?_⟩))
 refine Ag (Ac (v:=.ref b) (by walk_at "mem") ?_)
 rcases hb with hb|hb
 ·have hbX:Vl (T3++X) b (refs G bs):=hb.more λe he=>Aa _ he
  refine Ao (Up hbX.right.tup ?_)
  exact Ao λws hw=>fin (T3++X) b [(.obj ti,.tup [])] (λe he=>he) hbX ws hw
 ·have hbm:(Er.obj b,CO.list (refs G bs))∈(⟨Bi (G++[xf])++(T3++X),(.obj ti,.tup [])::V⟩:Ay).all:=by
   rcases Ai.mp hb with hb|hb
   ·refine Af _ ?_
    rcases Ai.mp hb with hb|hb
    ·exact Af _ (by rw [eS];exact Af _ hb)
    ·exact Aa _ (Aa _ hb)
   ·exact Aa _ (.tail _ (.tail _ (.tail _ (.tail _ (.tail _ hb)))))
  have hbl:bs.length<=12:=Bw (Gh _ _ hn hl) (Md few)
  refine Ao (Fp (vs:=refs G bs) hbm (by rw [Bf];lia) λbt=>?_)
  refine Ao λws hw=>T.conseq Rn ?_
  exact fin ((.obj bt,.tup (refs G bs))::(T3++X)) bt [(.obj ti,.tup [])] (λe he=>.tail _ he) (.inl (.head _)) ws hw
end
end
section
theorem zD (Γ:Bj):(plainGet Γ.K 364 "__class__" &&Pl Γ.K 364&&findIn Γ.K (.ref 364) "__class__" ==some (some (.builtin "object.__class__"))&&Pj Γ.K (.builtin "object.__class__") "__get__" ==some (some (.builtin "getset_descriptor.__get__"))&&takesIn Γ.K (.builtin "object.__class__")==some true&&mroIn Γ.K 364 (.type "object")==some true)=true:=by kernel_rfl
theorem zC (Γ:Bj):(plainGet Γ.K 427 "__class__" &&Pl Γ.K 427&&findIn Γ.K (.ref 427) "__class__" ==some (some (.builtin "object.__class__"))&&Pj Γ.K (.builtin "object.__class__") "__get__" ==some (some (.builtin "getset_descriptor.__get__"))&&takesIn Γ.K (.builtin "object.__class__")==some true&&mroIn Γ.K 427 (.type "object")==some true)=true:=by kernel_rfl
theorem nO (Γ:Bj):kitAny Γ.K (.ref 364) [.ref 364,.ref 427]=some true/\kitAny Γ.K (.ref 427) [.ref 364,.ref 427]=some true/\kitAny Γ.K (.type "list") [.ref 364,.ref 427]=some false/\kitAny Γ.K (.type "tuple") [.ref 364,.ref 427]=some false:=
 ⟨by kernel_rfl,by kernel_rfl,by kernel_rfl,by kernel_rfl⟩
section
variable {Γ:Bj} {A:Aw} {G:List Nd} {σ:Ay}
theorem yK {s:Ba} {t a b:Ak} (h:Li Γ s (.obj t) (.tup [.ref a,.ref b])):∃n,s.heap.get? t=some ⟨.type "tuple",none,.seq ([.ref a,.ref b]:List Ab).toArray n,#[]⟩:=by
 obtain⟨ws,n,e,ew⟩:=h
 refine⟨n,?_⟩
 have:ws=([.ref a,.ref b]:List Ab).toArray:=by
  obtain⟨w₁,w₂,q,e1,e2⟩:=Jy ew
  have h1:=Cc e1
  have h2:=Cc e2
  subst h1
  subst h2
  rw [<-q]
 rw [e,this]
theorem nD {W τ:List As} {i:Nat} {x:Nd} {t:Ak} {ws:List Ab} {Q:Ab->Ay->Prop} (nf:NF W G) (hi:G[i]? =some x) (ht:(Er.obj t,CO.tup [.ref 364,.ref 427])∈(⟨W,τ⟩:Ay).all) (hw:ws.map cl=[.ref x.me,.ref t]) (h:Q (.bool true) ⟨W,τ⟩):T Γ A ⟨W,τ⟩ (call (.builtin "isinstance") ws) Q:=λs R=>by
 obtain⟨w₀,w₁,rfl,e0,e1⟩:=Jy hw
 have:=Cc e0
 subst this
 have:=Cc e1
 subst this
 obtain⟨n,hn⟩:=yK (R.ents _ ht).1
 obtain⟨es,m,N,e,I⟩:=Sk R (Ox (nf.inst _ _ hi)) (Ox (nf.ns _ _ hi))
 rcases nf.cls _ _ hi with hc|hc
 ·rw [hc]at I
  have k:=zD Γ
  simp only [Cy,beq_iff_eq]at k
  obtain⟨⟨⟨⟨⟨k1,k2⟩,k3⟩,k4⟩,k5⟩,k6⟩:=k
  exact kia_tup (kitx_own k1 k2 k3 k4 k5 k6) R.kin I hn (nO Γ).1 (by intro e;cases e) λtk=>⟨_,R.toks tk,h⟩
 ·rw [hc]at I
  have k:=zC Γ
  simp only [Cy,beq_iff_eq]at k
  obtain⟨⟨⟨⟨⟨k1,k2⟩,k3⟩,k4⟩,k5⟩,k6⟩:=k
  exact kia_tup (kitx_own k1 k2 k3 k4 k5 k6) R.kin I hn (nO Γ).2.1 (by intro e;cases e) λtk=>⟨_,R.toks tk,h⟩
theorem nJ {W τ:List As} {i:Nat} {x:Nd} {t:Ak} {Q:Ab->Ay->Prop} (nf:NF W G) (hi:G[i]? =some x) (ht:(Er.obj t,CO.tup [.ref 364,.ref 427])∈(⟨W,τ⟩:Ay).all) (h:Q (.bool true) ⟨W,τ⟩):kN Γ A (.builtin "isinstance") Q [.ref x.me,.ref t] ⟨W,τ⟩:=λ_ hw=>nD (nf:=nf) (hi:=hi) (ht:=ht) (hw:=hw) (h:=h)
theorem nE {σ:Ay} {a t:Ak} {vs:List Ab} {ws:List Ab} {Q:Ab->Ay->Prop} (ha:(Er.obj a,CO.list vs)∈σ.all) (ht:(Er.obj t,CO.tup [.ref 364,.ref 427])∈σ.all) (hw:ws.map cl=[.ref a,.ref t]) (h:Q (.bool false) σ):T Γ A σ (call (.builtin "isinstance") ws) Q:=λs R=>by
 obtain⟨w₀,w₁,rfl,e0,e1⟩:=Jy hw
 have:=Cc e0
 subst this
 have:=Cc e1
 subst this
 obtain⟨n,hn⟩:=yK (R.ents _ ht).1
 obtain⟨us,m,e,_⟩:=(R.ents _ ha).1
 exact kia_tup kitx_list R.kin ⟨_,e,rfl⟩ hn (nO Γ).2.2.1 (by intro e;cases e) λtk=>⟨_,R.toks tk,h⟩
theorem rG {σ:Ay} {a t:Ak} {vs:List Ab} {ws:List Ab} {Q:Ab->Ay->Prop} (ha:Ew Γ σ a vs) (ht:(Er.obj t,CO.tup [.ref 364,.ref 427])∈σ.all) (hw:ws.map cl=[.ref a,.ref t]) (h:Q (.bool false) σ):T Γ A σ (call (.builtin "isinstance") ws) Q:=λs R=>by
 obtain⟨w₀,w₁,rfl,e0,e1⟩:=Jy hw
 have:=Cc e0
 subst this
 have:=Cc e1
 subst this
 obtain⟨n,hn⟩:=yK (R.ents _ ht).1
 obtain⟨us,m,e,_⟩:=ha s R
 exact kia_tup kitx_tuple R.kin ⟨_,e,rfl⟩ hn (nO Γ).2.2.2 (by intro e;cases e) λtk=>⟨_,R.toks tk,h⟩
end
end
section
theorem uA (Γ:Bj):Γ.K.lookup 354=some ⟨.type "function",none,.func (Ka Γ 354 "InterfaceClass.__init__" (clsStmt 14 0) (.ref 353) (.ref 347)),#[]⟩:=by kernel_rfl
theorem eM (Γ:Bj):fG Γ.K 336 "__init__" 279=true:=by kernel_rfl
section
variable {Γ:Bj} {A:Aw} {G:List Nd} {X:List As} {σ:Ay}
theorem oL {τ:List As} {b:Ak} {key:Int} {root:Ab} {bs:List Nat} {vs:List Ab} {Q:Ab->Ay->Prop} (wd:Wd G X) (sok:∀j,j < G.length->Tx G j) (hkey:key∉G.map (·.key)) (few:G.length < 12) (hroot:root=if G.length=0 then .none else .ref (Fm G 0))
  (hb:Vl X b (refs G bs)) (hn:bs.Nodup) (hl:∀k∈bs,∃y,G[k]? =some y/\y.C=364) (hA:Rm A 36) (hh:A.handled=none) (hF:AF A ⟨[],τ⟩)
  (hB:∀me,Gu Γ (Ka Γ 354 "InterfaceClass.__init__" (clsStmt 14 0) (.ref 353) (.ref 347)) (.ref me::vs) [] [("self",.ref me),("key",.int key 0),("bases",.ref b),("root",root)])
  (h:∀G' X' x,Wd G' X'->Jj (G++[x]) G'->x.C=364->x.key=key->x.bs=bs->x.decl=none->x.inh=none->(∀e∈X,e∈X')->(∀j,j < G'.length->Tx G' j)->Q (.ref x.me) ⟨Bi G'++X',τ⟩):
  ∀ws,ws.map cl=vs->TC Γ A ⟨Bi G++X,τ⟩ (.ref 364) ws [] Q:=λws hw=>by
 refine aB (fI:=354) rS (by kernel_rfl) (by kernel_rfl) (by decide) (by decide) λme d=>?_
 have hA':Rm (A.under (.builtin "type.__call__" ⟨.ref 364::ws,[]⟩)) 35:=hA.make
 have hl':∀k∈bs,k < G.length:=λk hk=>let ⟨y,e,_⟩:=hl k hk;(Aj.mp e).1
 refine Oy (body:=fBody (clsStmt 14 0)) (bs:=[("self",.ref me),("key",.int key 0),("bases",.ref b),("root",root)]) ["self","key","bases","root"] (uA Γ) (by kernel_rfl) hA'.room (hB me) (λL=>?_) (by rfl) (by rfl) (by decide) (by rfl) (by rfl) (by rfl) _ [] (by simp [hw]) rfl
 have hA2:Rm ((A.under (.builtin "type.__call__" ⟨.ref 364::ws,[]⟩)).deeper (Gk "InterfaceClass.__init__" (fScope (clsStmt 14 0)) L 354 (.ref 353) [])) 34:=hA'.deeper
 have hrc:cl root=root:=by rw [hroot];split<;>rfl
 show T Γ ((A.under (.builtin "type.__call__" ⟨.ref 364::ws,[]⟩)).deeper (Gk "InterfaceClass.__init__" (fScope (clsStmt 14 0)) L 354 (.ref 353) [])) ⟨Bi G++X,(.var L "self",.val (some (.ref me)))::(.var L "key",.val (some (.int key 0)))::(.var L "bases",.val (some (.ref b)))::(.var L "root",.val (some root))::(.obj d,.ns rS)::(.obj me,.inst 364 d)::τ⟩ (Cm _ (Gk "InterfaceClass.__init__" (fScope (clsStmt 14 0)) L 354 (.ref 353) [])) _
 have hnf:=wd.wx.nf
 refine Am (Hs (Nh (Ej (Bz (Az (v:=.builtin "all") (by kernel_rfl) (by decide+kernel) (by decide) ⟨.inr (.inl ⟨_,rfl⟩),?_⟩)))))
 refine Ag (sW (c:=353) (P:=349) (f:=λ_=>.bool true) (by decide) (by kernel_rfl) rfl hA2.room (Ac (v:=.ref b) (by walk_at "mem") (Hf (vs:=refs G bs) hb.right.tup λit=>?_)))
 refine⟨it,_,λσ=>σ.W=Bi G++X,refs G bs,_,_,rfl,rfl,λA' hA=>⟨(Hd hA).weak λσ h=>by
  obtain⟨W,τ'⟩:=σ
  have h:W=Bi G++X:=h
  subst h
  exact hb.right.tup,Qq⟩,λσ ext h=>h,λA' C code σ v hA hv hσ hm=>?_,λga ρg hFd=>?_⟩
 ·obtain⟨W,τ'⟩:=σ
  have h:W=Bi G++X:=hσ
  subst h
  obtain⟨k,hk,rfl⟩:=Bn.mp hv
  obtain⟨y,ey,hy⟩:=hl k hk
  rw [Br ey]at hm
  refine Bz (Az (v:=.builtin "isinstance") (by kernel_rfl) (by decide+kernel) (by decide) ⟨.inr (.inl ⟨_,rfl⟩),?_⟩)
  refine Ag (Di (v:=.ref y.me) hm (.head _) (Ag (Bk (v:=.ref 364) (by kernel_rfl) (Ao (iZ hnf ey ?_)))))
  rw [hy]
  exact⟨rfl,rfl⟩
 refine Ao λws₁ hw₁=>?_
 have hF2:=hFd ((A.under (.builtin "type.__call__" ⟨.ref 364::ws,[]⟩)).deeper (Gk "InterfaceClass.__init__" (fScope (clsStmt 14 0)) L 354 (.ref 353) [])).in1 hh hA2.room
 refine Aei (A:=(A.under (.builtin "type.__call__" ⟨.ref 364::ws,[]⟩)).deeper (Gk "InterfaceClass.__init__" (fScope (clsStmt 14 0)) L 354 (.ref 353) [])) hh hF2.1 hF2.2 rfl (λv hv=>?_) (Fc ⟨λhb=>(by cases hb),λ_=>?_⟩) ws₁ hw₁
 ·obtain⟨_,_,rfl⟩:=Bn.mp hv;rfl
 refine Ci ?_
 refine Fb.go ?_
 refine Am (Fy (Fi (Bk (v:=.ref 336) (by kernel_rfl) (jB (eM Γ) ⟨.inl (by kernel_rfl),?_⟩))))
 refine Ag (Ac (v:=.ref me) (by walk_at "mem") (Ag (Ac (v:=.int key 0) (by walk_at "mem") (Ag (Ac (v:=.ref b) (by walk_at "mem") (Ag (Ac (v:=root) (by walk_at "mem") (Ao λws hw=>?_))))))))
 let V:List As:=(.var L "self",.val (some (.ref me)))::(.var L "key",.val (some (.int key 0)))::(.var L "bases",.val (some (.ref b)))::(.var L "root",.val (some root))::τ
 have hperm:As.le ⟨Bi G++X,(.obj d,.ns rS)::(.obj me,.inst 364 d)::V⟩ ⟨Bi G++X,(.var L "self",.val (some (.ref me)))::(.var L "key",.val (some (.int key 0)))::(.var L "bases",.val (some (.ref b)))::(.var L "root",.val (some root))::(.obj d,.ns rS)::(.obj me,.inst 364 d)::τ⟩:=
  As.le_perm (Bb _ (Yt (.obj d,.ns rS) (.obj me,.inst 364 d) [(.var L "self",.val (some (.ref me))),(.var L "key",.val (some (.int key 0))),(.var L "bases",.val (some (.ref b))),(.var L "root",.val (some root))] τ).symm)
 refine T.conseq hperm ?_
 have hFV:AF ((A.under (.builtin "type.__call__" ⟨.ref 364::ws,[]⟩)).deeper (Gk "InterfaceClass.__init__" (fScope (clsStmt 14 0)) L 354 (.ref 353) [])) ⟨[],V⟩:=hF.push rfl rfl (L:=L) (x:="self") (c:=some (.ref me)) (by walk_at "mem") λp hp=>.tail _ (.tail _ (.tail _ (.tail _ hp)))
 refine(bW (τ:=V) wd sok (.inl rfl) hkey few hroot (.inl hb) hn hl' (hA2.le (by decide)) hh hFV (λG' X' x w1 w2 w3 w4 w5 w6 w7 w8 w9 w10 w11=>?_) ws hw).T
 refine Fb.go (Ci ⟨_,As.le_sub (τ':=τ) (.cons _ (.cons _ (.cons _ (.cons _ (.refl _))))),rfl,?_⟩)
 rw [<-w3]
 exact h G' X' x w1 w2 w5 w6 w7 w8 w9 w10 w11
end
end
section
theorem sP (Γ:Bj):Γ.K.lookup 466=some ⟨.type "function",none,.func (Ka Γ 466 "_normalizeargs" (topStmt 22) (.ref 465) (.ref 459)),#[]⟩:=by kernel_rfl
noncomputable def nL (Γ:Bj) (σ:Ay) (a:Ak) (vs:List Ab):Prop:=(Er.obj a,CO.list vs)∈σ.all\/Ew Γ σ a vs
theorem nL.ext {Γ:Bj} {W ρ τ:List As} {a:Ak} {vs:List Ab} (h:nL Γ ⟨W,τ⟩ a vs):nL Γ ⟨W,ρ++τ⟩ a vs:=h.imp Bq λh=>h.ext
section
variable {Γ:Bj} {A:Aw} {G:List Nd} {σ:Ay}
noncomputable abbrev Xo (L:Ak):Env:=Gk "_normalizeargs" (fScope (topStmt 22)) L 466 (.ref 465) []
noncomputable def Yw (Γ:Bj) (G:List Nd) (W:List As) (n:Nat) (v:Ab) (js:List Nat) (S:List As->Prop):Prop:=
 ∀{A:Aw} {τ':List Nat->List As} {o:Ak} {acc:List Nat} {Q:Ab->Ay->Prop},Rm A n->A.handled=none->(∀acc acc',Qw (τ' acc) (.obj o) (.list (refs G acc)) (.list (refs G acc')) (τ' acc'))->(∀acc,S (τ' acc))->acc.length+js.length<=1000->
  Q (.ref o) ⟨W,τ' (acc++js)⟩->∀ws,ws.map cl=[v,.ref o]->TC Γ A ⟨W,τ' acc⟩ (.ref 466) ws [] Q
theorem pK {W:List As} {L o:Ak} {j:Nat} {x:Nd} {Z:List Nat->List As} {acc:List Nat} {Q:Ab->Ay->Prop} (nf:NF W G) (hj:G[j]? =some x) (h1:∀acc,(Er.var L "sequence",CO.val (some (.ref x.me)))∈Z acc) (h2:∀acc,(Er.var L "output",CO.val (some (.ref o)))∈Z acc)
  (U:∀acc acc',Qw (Z acc) (.obj o) (.list (refs G acc)) (.list (refs G acc')) (Z acc')) (hz:acc.length<=1000) (h:∀ρ,Ja Q (.ret (.ref o)) ⟨W,ρ++Z (acc++[j])⟩):T Γ (A.deeper (Xo L)) ⟨W,Z acc⟩ (Cm ((fBody (topStmt 22)).drop 1) (Xo L)) (Ja Q):=by
 have m1:=h1 acc
 have m2:=h2 acc
 refine Am (Hs (Ej (Bz (Az (v:=.builtin "isinstance") (by kernel_rfl) (by decide+kernel) (by decide) ⟨.inr (.inl ⟨_,rfl⟩),?_⟩))))
 refine Ag (Ac (v:=.ref x.me) (Ae m1) (Ag (Kh (k:=0) (Ag (Bk (v:=.ref 364) (by kernel_rfl) (Ag (Bk (v:=.ref 427) (by kernel_rfl) (Ao ⟨by rw [Av];exact By rfl,λt=>?_⟩))))))))
 refine Ao (nJ nf hj Bs (Fc ⟨λ_=>?_,λhb=>(by cases hb)⟩))
 refine Am (Fy (Fi (Ac (v:=.ref o) (Eb (Ae m2)) (Cz Cr Dp Do (Ik (vs:=refs G acc) (Iy.tau (W:=W) (.there (U acc acc))).mem) ⟨.inr (.inl ⟨_,rfl⟩),?_⟩))))
 refine Ag (Ac (v:=.ref x.me) (Eb (Ae m1)) (Ao (Lo (σ':=⟨W,(.obj t,.tup [.ref 364,.ref 427])::Z (acc++[j])⟩) (.tau (.there (by have:=U acc (acc++[j]);rw [<-Rp,Br hj]at this;exact this))) (by rw [Bf,Av];lia) ?_)))
 refine Fb.go (Ci ?_)
 refine Fb.go ?_
 exact Am (Fj (Ac (v:=.ref o) (Eb (Ae (h2 _))) (h [_])))
theorem rH {a t:Ak} {vs:List Ab} {ws:List Ab} {Q:Ab->Ay->Prop} (ha:nL Γ σ a vs) (ht:(Er.obj t,CO.tup [.ref 364,.ref 427])∈σ.all) (hw:ws.map cl=[.ref a,.ref t]) (h:Q (.bool false) σ):T Γ A σ (call (.builtin "isinstance") ws) Q:=
 ha.elim (λha=>nE ha ht hw h) λha=>rG ha ht hw h
theorem rO {a t:Ak} {vs:List Ab} {Q:Ab->Ay->Prop} (ha:nL Γ σ a vs) (ht:(Er.obj t,CO.tup [.ref 364,.ref 427])∈σ.all) (h:Q (.bool false) σ):kN Γ A (.builtin "isinstance") Q [.ref a,.ref t] σ:=λ_ hw=>rH (ha:=ha) (ht:=ht) (hw:=hw) (h:=h)
noncomputable def kL (Γ:Bj) {ι:Type} (W:List As) (Z:ι->List As) (a:Ak) (vs:List Ab):Prop:=(∀i,(Er.obj a,CO.list vs)∈(⟨W,Z i⟩:Ay).all)\/∀i,Ew Γ ⟨W,Z i⟩ a vs
theorem kL.row {ι:Type} {W:List As} {Z:ι->List As} {a:Ak} {vs:List Ab} (h:kL Γ W Z a vs) (i:ι):nL Γ ⟨W,Z i⟩ a vs:=h.imp (λh=>h i) λh=>h i
theorem cC {ι:Type} {W:List As} {Z:ι->List As} {a:Ak} {vs:List Ab} {v:Ab} {pre:List As} {i:ι} {Q:Ab->Ay->Prop} (hv:cl v=.ref a) (hr:kL Γ W Z a vs)
  (h:∀it st Gc,(∀A':Aw,A'.handled=none->Lb Γ A' it Gc vs [(.obj it,st)])->(∀ρ i,Gc ⟨W,ρ++Z i⟩)->Q (.ref it) ⟨W,(.obj it,st)::(pre++Z i)⟩):T Γ A ⟨W,pre++Z i⟩ (Hu v) Q:=by
 rcases hr with hr|hr
 ·exact Um hv (vs:=vs) (Bq (hr i)) λit=>h it _ _ (λA' hA=>Es (a:=a) (vs:=vs) hA) λρ i=>Bq (hr i)
 ·exact Qb hv (vs:=vs) (hr i).ext λit=>h it _ _ (λA' hA=>Hd (a:=a) (vs:=vs) hA) λρ i=>(hr i).ext
theorem iE {W:List As} {L o a:Ak} {vs:List Ab} {jss:List (List Nat)} {Z:Option Ab×List Nat->List As} {acc:List Nat} {n:Nat} {S:List As->Prop} {Q:Ab->Ay->Prop} (hA:Rm (A.deeper (Xo L)) n) (hh:A.handled=none)
  (h1:∀i,(Er.var L "sequence",CO.val (some (.ref a)))∈Z i) (h2:∀i,(Er.var L "output",CO.val (some (.ref o)))∈Z i)
  (U:∀ov acc acc',Qw (Z (ov,acc)) (.obj o) (.list (refs G acc)) (.list (refs G acc')) (Z (ov,acc'))) (Uv:∀ov v acc,Qw (Z (ov,acc)) (.var L "v") (.val ov) (.val (some v)) (Z (some v,acc)))
  (hR:kL Γ W Z a vs) (hS:∀i,S (Z i)) (Sx:∀ρ τ,S τ->S (ρ++τ)) (hvl:vs.length=jss.length) (hel:∀(k:Nat) v js,vs[k]? =some v->jss[k]? =some js->Yw Γ G W n v js S)
  (hz:acc.length+jss.flatten.length<=1000) (h:∀ρ ov,Ja Q (.ret (.ref o)) ⟨W,ρ++Z (ov,acc++jss.flatten)⟩):T Γ (A.deeper (Xo L)) ⟨W,Z (none,acc)⟩ (Cm ((fBody (topStmt 22)).drop 1) (Xo L)) (Ja Q):=by
 refine Am (Hs (Ej (Bz (Az (v:=.builtin "isinstance") (by kernel_rfl) (by decide+kernel) (by decide) ⟨.inr (.inl ⟨_,rfl⟩),?_⟩))))
 refine Ag (Ac (v:=.ref a) (Ae (h1 _)) (Ag (Kh (k:=0) (Ag (Bk (v:=.ref 364) (by kernel_rfl) (Ag (Bk (v:=.ref 427) (by kernel_rfl) (Ao ⟨by rw [Av];exact By rfl,λt=>?_⟩))))))))
 refine Ao (rO ((hR.row (none,acc)).ext (ρ:=[_])) Bs (Fc ⟨λhb=>(by cases hb),λ_=>?_⟩))
 have hlen:∀k,(jss.take k).flatten.length<=jss.flatten.length:=λk=>by
  have:jss.flatten=(jss.take k).flatten++(jss.drop k).flatten:=by rw [<-List.flatten_append,List.take_append_drop]
  rw [this];simp
 refine Am (Pt (Ac (v:=.ref a) (Eb (Ae (h1 _))) λv hv=>cC (W:=W) (Z:=Z) (i:=(none,acc)) (pre:=[_]) hv hR λit st Gc hFd hGc=>?_))
 refine⟨it,[_],Gc,vs,_,_,⟨rfl,rfl,hFd _ hh⟩,λd σ=>∃ov,d.length<=vs.length/\σ=⟨W,[(.obj t,.tup [.ref 364,.ref 427])]++Z (ov,acc++(jss.take d.length).flatten)⟩,⟨none,Ca _,by simp⟩,?_,?_,?_⟩
 ·rintro d _ ⟨ov,_,rfl⟩
  exact hGc _ _
 ·rintro d v r u ρ _ he hu ⟨ov,hd,rfl⟩ Kq hK
  have hk:vs[d.length]? =some v:=by rw [<-he];simp
  have hdl:d.length < vs.length:=(Aj.mp hk).1
  obtain⟨js,hjs⟩:∃js,jss[d.length]? =some js:=⟨jss[d.length]'(by rw [<-hvl];exact hdl),Bm _⟩
  have hfl:(jss.take (d++[v]).length).flatten=(jss.take d.length).flatten++js:=by
   rw [Ah,Bo,Mu,hjs]
   simp
  refine Ct hu (.tau (.pre (.there (Uv ov v _)))) ?_
  refine Am (Fy (Bz (Bk (v:=.ref 466) (by kernel_rfl) ⟨.inl (by kernel_rfl),?_⟩)))
  have mv':(Er.var L "v",CO.val (some v))∈Z (some v,acc++(jss.take d.length).flatten):=by
   obtain⟨l₁,l₂,_,e⟩:=(Uv ov v (acc++(jss.take d.length).flatten)).split
   rw [e];exact Aa _ (.head _)
  refine Ag (Ac (v:=v) (Ae (Aa _ (.tail _ mv'))) (Ag (Ac (v:=.ref o) (Ae (Aa _ (.tail _ (h2 _)))) (Ao λws hw=>?_))))
  have hl1:=hlen (d++[v]).length
  rw [hfl,Ah]at hl1
  refine(hel d.length v js hk hjs (τ':=λacc=>ρ++((.obj t,.tup [.ref 364,.ref 427])::Z (some v,acc))) hA hh (λa1 a2=>.pre (.there (U _ a1 a2))) (λa1=>Sx _ _ (Sx [_] _ (hS _))) (by rw [Ah];lia) ?_ ws hw).T
  refine Fb.go (Ci (hK .next _ ⟨_,_,As.le_refl _,some v,by simp;lia,?_⟩))
  rw [hfl,Ax]
  rfl
 rintro _ ⟨ov,_,rfl⟩
 rw [hvl,Em]
 refine Ci ?_
 refine Fb.go (Ci ?_)
 refine Fb.go ?_
 exact Am (Fj (Ac (v:=.ref o) (Bq (Ae (h2 _))) (h [_] ov)))
noncomputable abbrev nV (L:Ak) (v:Ab) (o:Ab) (ov:Option Ab) (τ:List As):List As:=(.var L "sequence",.val (some v))::(.var L "output",.val (some o))::(.var L "v",.val ov)::τ
theorem bM {W τ:List As} {o:Ak} {v:Ab} {Q:Ab->Ay->Prop} (hA:Rm A 1) (h:∀L,T Γ (A.deeper (Xo L)) ⟨W,nV L v (.ref o) none τ⟩ (Cm ((fBody (topStmt 22)).drop 1) (Xo L)) (Ja Q)):∀ws,ws.map cl=[v,.ref o]->TC Γ A ⟨W,τ⟩ (.ref 466) ws [] Q:=λws hw=>by
 refine Oy (body:=fBody (topStmt 22)) (bs:=[("sequence",v),("output",.ref o)]) ["sequence","output","v"] (sP Γ) (by kernel_rfl) hA.room ?_ (λL=>?_) (by rfl) (by rfl) (by decide) (by rfl) (by rfl) (by rfl) ws [] hw rfl
 ·intro ws kws hw hk
  obtain⟨w₁,w₂,rfl,e1,e2⟩:=Jy hw
  have:kws=[]:=by simpa using hk
  subst this
  exact⟨[("sequence",w₁),("output",w₂)],by simp [e1,e2],λs X=>kp_binds X λS=>by kernel_rfl⟩
 show T Γ (A.deeper (Xo L)) ⟨W,nV L v (.ref o) none τ⟩ (Cm _ (Xo L)) _
 refine Am (Hs (Ar (Ac (v:=.ref o) (by walk_at "mem") (Jt (Pp (by rfl) ⟨_,rfl,λh=>(by cases h),λ_=>?_⟩)))))
 exact Ci (h L)
theorem tK {W τ:List As} {v:Ab} {Q:Ab->Ay->Prop} (hA:Rm A 1) (h:∀L o,T Γ (A.deeper (Xo L)) ⟨W,(.obj o,.list [])::nV L v (.ref o) none τ⟩ (Cm ((fBody (topStmt 22)).drop 1) (Xo L)) (Ja Q)):∀ws,ws.map cl=[v]->TC Γ A ⟨W,τ⟩ (.ref 466) ws [] Q:=λws hw=>by
 refine Oy (body:=fBody (topStmt 22)) (bs:=[("sequence",v),("output",.none)]) ["sequence","output","v"] (sP Γ) (by kernel_rfl) hA.room ?_ (λL=>?_) (by rfl) (by rfl) (by decide) (by rfl) (by rfl) (by rfl) ws [] hw rfl
 ·intro ws kws hw hk
  obtain⟨w₁,rfl,e1⟩:=Ir hw
  have:kws=[]:=by simpa using hk
  subst this
  exact⟨[("sequence",w₁),("output",.none)],by simp [e1],λs X=>kp_binds X λS=>by kernel_rfl⟩
 show T Γ (A.deeper (Xo L)) ⟨W,(.var L "sequence",.val (some v))::(.var L "output",.val (some .none))::(.var L "v",.val none)::τ⟩ (Cm _ (Xo L)) _
 refine Am (Hs (Ar (Ac (v:=.none) (by walk_at "mem") (Jt (Pp (by rfl) ⟨_,rfl,λ_=>?_,λh=>(by cases h)⟩)))))
 refine Am (Bl (Hv (Ao ⟨by rw [Av];exact Ca _,λo=>⟨_,_,by walk_at "upd",?_⟩⟩)))
 exact Fb.go (Ci (h L o))
theorem Ul {W:List As} {j:Nat} {x:Nd} (nf:NF W G) (hj:G[j]? =some x):Yw Γ G W 1 (.ref x.me) [j] (λ_=>True):=by
 intro A τ' o acc Q hA hh U _ hz h
 refine bM hA λL=>?_
 refine pK (Z:=λacc=>nV L (.ref x.me) (.ref o) none (τ' acc)) nf hj (λ_=>.head _) (λ_=>.tail _ (.head _)) (λa1 a2=>.there (.there (.there (U a1 a2)))) (by simp at hz;lia) λρ=>⟨_,As.le_sub (Cx (.cons _ (.cons _ (.cons _ (.refl _))))),h⟩
theorem bX {W:List As} {a:Ak} {vs:List Ab} {jss:List (List Nat)} {n:Nat} {S:List As->Prop} (Sx:∀ρ τ,S τ->S (ρ++τ)) (hvl:vs.length=jss.length) (hel:∀(k:Nat) v js,vs[k]? =some v->jss[k]? =some js->Yw Γ G W n v js S):
  Yw Γ G W (n+1) (.ref a) jss.flatten (λτ=>Ew Γ ⟨W,τ⟩ a vs/\S τ):=by
 intro A τ' o acc Q hA hh U hS hz h
 refine bM (hA.le (by lia)) λL=>?_
 refine iE (Z:=λi=>nV L (.ref a) (.ref o) i.1 (τ' i.2)) (S:=S) hA.deeper hh (λ_=>.head _) (λ_=>.tail _ (.head _)) (λ_ a1 a2=>.there (.there (.there (U a1 a2)))) (λ_ _ _=>.there (.there .here)) (.inr λi=>(hS i.2).1.ext (ext:=[_,_,_])) (λi=>Sx [_,_,_] _ (hS i.2).2) Sx hvl hel hz λρ ov=>⟨_,As.le_sub (Cx (.cons _ (.cons _ (.cons _ (.refl _))))),h⟩
theorem bY {W τ:List As} {a:Ak} {vs:List Ab} {jss:List (List Nat)} {n:Nat} {S:List As->Prop} {Q:Ab->Ay->Prop} (hA:Rm A (n+1)) (hh:A.handled=none) (hr:nL Γ ⟨W,τ⟩ a vs) (hS:S τ) (Sx:∀ρ τ,S τ->S (ρ++τ)) (hvl:vs.length=jss.length) (hel:∀(k:Nat) v js,vs[k]? =some v->jss[k]? =some js->Yw Γ G W n v js S)
  (hz:jss.flatten.length<=1000) (h:∀o,Q (.ref o) ⟨W,(.obj o,.list (refs G jss.flatten))::τ⟩):∀ws,ws.map cl=[.ref a]->TC Γ A ⟨W,τ⟩ (.ref 466) ws [] Q:=by
 refine tK (hA.le (by lia)) λL o=>?_
 refine iE (o:=o) (acc:=[]) (Z:=λi=>(.obj o,.list (refs G i.2))::nV L (.ref a) (.ref o) i.1 τ) (S:=S) hA.deeper hh (λ_=>.tail _ (.head _)) (λ_=>.tail _ (.tail _ (.head _))) (λ_ a1 a2=>.here) (λ_ _ _=>.there (.there (.there .here))) (hr.imp (λh i=>Bq (ρ:=[_,_,_,_]) h) λh i=>h.ext (ext:=[_,_,_,_])) (λi=>Sx [_,_,_,_] _ hS) Sx hvl hel (by simpa using hz) λρ ov=>⟨_,As.le_sub (Cx (.cons_cons _ (.cons _ (.cons _ (.cons _ (.refl _)))))),?_⟩
 rw [Fq]
 exact h o
theorem Uo (js:List Nat):(js.map λj=>[j]).flatten=js:=by
 induction js with
 |nil=>rfl
 |cons j r ih=>rw [Cf,List.flatten_cons,ih];rfl
theorem Xc {W τ:List As} {a:Ak} {js:List Nat} {Q:Ab->Ay->Prop} (nf:NF W G) (hA:Rm A 2) (hh:A.handled=none) (hr:nL Γ ⟨W,τ⟩ a (refs G js)) (hjs:∀j∈js,j < G.length) (hz:js.length<=1000)
  (h:∀o,Q (.ref o) ⟨W,(.obj o,.list (refs G js))::τ⟩):∀ws,ws.map cl=[.ref a]->TC Γ A ⟨W,τ⟩ (.ref 466) ws [] Q:=by
 have e:=Uo js
 refine bY (jss:=js.map λj=>[j]) (n:=1) (S:=λ_=>True) hA hh hr trivial (λ_ _ _=>trivial) (by simp [refs]) (λk v js' h1 h2=>?_) (by rw [e];exact hz) (by rw [e];exact h)
 rw [Bc,Cw]at h2
 obtain⟨j,hj,rfl⟩:=h2
 have h1':v=.ref (Fm G j):=by
  unfold refs at h1
  rw [Bc,hj]at h1
  exact(Dh h1).symm
 obtain⟨x,ex⟩:=Dl (hjs j (Fd hj))
 rw [h1',Br ex]
 intro A τ' o acc Q b1 b2 b3 b4 b5 b6
 exact Ul nf ex b1 b2 b3 b4 b5 b6
end
end
section
theorem mE (Γ:Bj):Γ.K.lookup 382=some ⟨.type "function",none,.func (Ka Γ 382 "Declaration.__init__" (clsStmt 16 0) (.ref 381) (.ref 375)),#[]⟩:=by kernel_rfl
section
variable {Γ:Bj} {A:Aw} {G:List Nd} {X:List As} {σ:Ay}
theorem zS {τ:List As} {b:Ak} {key:Int} {root:Ab} {bs:List Nat} {Q:Ab->Ay->Prop} (wd:Wd G X) (sok:∀j,j < G.length->Tx G j) (hkey:key∉G.map (·.key)) (few:G.length < 12) (hroot:root=if G.length=0 then .none else .ref (Fm G 0))
  (hb:(Er.obj b,CO.list (refs G bs))∈(⟨Bi G++X,τ⟩:Ay).all) (hn:bs.Nodup) (hl:∀k∈bs,k < G.length) (hA:Rm A 36) (hh:A.handled=none) (hF:AF A ⟨[],τ⟩)
  (h:∀G' X' x,Wd G' X'->Jj (G++[x]) G'->x.C=427->x.key=key->x.bs=bs->x.decl=none->x.inh=none->(∀e∈X,e∈X')->(∀j,j < G'.length->Tx G' j)->Q (.ref x.me) ⟨Bi G'++X',τ⟩):
  ∀ws,ws.map cl=[.int key 0,.ref b,root]->TC Γ A ⟨Bi G++X,τ⟩ (.ref 427) ws [] Q:=λws hw=>by
 refine aB (fI:=382) rS (by kernel_rfl) (by kernel_rfl) (by decide) (by decide) λme d=>?_
 have hA':Rm (A.under (.builtin "type.__call__" ⟨.ref 427::ws,[]⟩)) 35:=hA.make
 have hrc:cl root=root:=by rw [hroot];split<;>rfl
 refine Oy (body:=fBody (clsStmt 16 0)) (bs:=[("self",.ref me),("key",.int key 0),("bases",.ref b),("root",root)]) ["self","key","bases","root"] (mE Γ) (by kernel_rfl) hA'.room (Gu.k4 λ_ _ _ _ _ X=>kp_binds X λS=>by kernel_rfl) (λL=>?_) (by rfl) (by rfl) (by decide) (by rfl) (by rfl) (by rfl) _ [] (by simp [hw]) rfl
 have hA2:Rm ((A.under (.builtin "type.__call__" ⟨.ref 427::ws,[]⟩)).deeper (Gk "Declaration.__init__" (fScope (clsStmt 16 0)) L 382 (.ref 381) [])) 34:=hA'.deeper
 show T Γ ((A.under (.builtin "type.__call__" ⟨.ref 427::ws,[]⟩)).deeper (Gk "Declaration.__init__" (fScope (clsStmt 16 0)) L 382 (.ref 381) [])) ⟨Bi G++X,(.var L "self",.val (some (.ref me)))::(.var L "key",.val (some (.int key 0)))::(.var L "bases",.val (some (.ref b)))::(.var L "root",.val (some root))::(.obj d,.ns rS)::(.obj me,.inst 427 d)::τ⟩ (Cm _ (Gk "Declaration.__init__" (fScope (clsStmt 16 0)) L 382 (.ref 381) [])) _
 have hbl:bs.length<=12:=Bw (Gh _ _ hn hl) (Md few)
 have hbm:∀ρ,(Er.obj b,CO.list (refs G bs))∈(⟨Bi G++X,ρ++τ⟩:Ay).all:=λρ=>Bq hb
 refine Am (Fy (Fi (Bk (v:=.ref 336) (by kernel_rfl) (jB (eM Γ) ⟨.inl (by kernel_rfl),?_⟩))))
 refine Ag (Ac (v:=.ref me) (by walk_at "mem") (Ag (Ac (v:=.int key 0) (by walk_at "mem") (Ag (Bz (Bk (v:=.ref 466) (by kernel_rfl) ⟨.inl (by kernel_rfl),?_⟩))))))
 refine Ag (Ac (v:=.ref b) (by walk_at "mem") (Ao λws hw=>(Xc (js:=bs) wd.wx.nf (hA2.le (by decide)) hh (.inl (by walk_at "memo")) hl (by lia) (λo=>?_) ws hw).T))
 refine Ag (Ac (v:=root) (by walk_at "mem") (Ao λws hw=>?_))
 let V:List As:=(.obj o,.list (refs G bs))::(.var L "self",.val (some (.ref me)))::(.var L "key",.val (some (.int key 0)))::(.var L "bases",.val (some (.ref b)))::(.var L "root",.val (some root))::τ
 have hperm:As.le ⟨Bi G++X,(.obj d,.ns rS)::(.obj me,.inst 427 d)::V⟩ ⟨Bi G++X,(.obj o,.list (refs G bs))::(.var L "self",.val (some (.ref me)))::(.var L "key",.val (some (.int key 0)))::(.var L "bases",.val (some (.ref b)))::(.var L "root",.val (some root))::(.obj d,.ns rS)::(.obj me,.inst 427 d)::τ⟩:=
  As.le_perm (Bb _ (Yt (.obj d,.ns rS) (.obj me,.inst 427 d) [(.obj o,.list (refs G bs)),(.var L "self",.val (some (.ref me))),(.var L "key",.val (some (.int key 0))),(.var L "bases",.val (some (.ref b))),(.var L "root",.val (some root))] τ).symm)
 refine T.conseq hperm ?_
 have hFV:AF ((A.under (.builtin "type.__call__" ⟨.ref 427::ws,[]⟩)).deeper (Gk "Declaration.__init__" (fScope (clsStmt 16 0)) L 382 (.ref 381) [])) ⟨[],V⟩:=hF.push rfl rfl (L:=L) (x:="self") (c:=some (.ref me)) (by walk_at "mem") λp hp=>.tail _ (.tail _ (.tail _ (.tail _ (.tail _ hp))))
 refine(bW (τ:=V) wd sok (.inr rfl) hkey few hroot (.inr (Ae (.head _))) hn hl (hA2.le (by decide)) hh hFV (λG' X' x w1 w2 w3 w4 w5 w6 w7 w8 w9 w10 w11=>?_) ws hw).T
 refine Fb.go (Ci ⟨_,As.le_sub (τ':=τ) (.cons _ (.cons _ (.cons _ (.cons _ (.cons _ (.refl _)))))),rfl,?_⟩)
 rw [<-w3]
 exact h G' X' x w1 w2 w5 w6 w7 w8 w9 w10 w11
end
end
section
section
variable {Γ:Bj} {A:Aw} {σ:Ay} {Φ:End->Ba->Prop} {c:Code} {fs:List Frame} {s:Ba} {env:Env} {K:Fv->Sem Gb} {H:Ab->Sem Gb} {gd:Bool->Bool} {lv:List Ab->List Ab}
theorem sK {α:Type} [Xm α] {t:Sem α} {K:α->Sem Gb} (R:Ea Γ σ s) (h:T Γ (A.over c fs) σ t λv σ'=>∀u,cln u=v->∀s',Ea Γ σ' s'->Hn (Cd Γ.prog Γ.w) A Φ c (K u) fs s'):Hn (Cd Γ.prog Γ.w) A Φ c (t.wrap K H gd lv) fs s:=
 Sw (h.elim R λv s' σ' R' q=>q v rfl s' R')
theorem Kc {st:Jr} {rest:List Jr}
  (h:Hn (Cd Γ.prog Γ.w) A Φ c ((Mx st env).wrap (λf=>match f with|.next=>(Cm rest env).wrap K H gd lv|f=>K f) H gd lv) fs s):Hn (Cd Γ.prog Γ.w) A Φ c ((Cm (st::rest) env).wrap K H gd lv) fs s:=by rw [execs_cons_wrap];exact h
theorem eD {st:Jr} {rest:List Jr} (R:Ea Γ σ s) (h:T Γ (A.over c fs) σ (Mx st env) λf σ'=>f=.next/\∀s',Ea Γ σ' s'->Hn (Cd Γ.prog Γ.w) A Φ c ((Cm rest env).wrap K H gd lv) fs s'):Hn (Cd Γ.prog Γ.w) A Φ c ((Cm (st::rest) env).wrap K H gd lv) fs s:=by
 refine Kc (sK R (h.mono λf σ' q u hu s' R'=>?_))
 rw [q.1]at hu
 cases u<;>first|exact q.2 s' R'|cases hu
theorem Tt {e:Aq} {ypos pos:Pos} (hfs:splitAtGen fs=none) (R:Ea Γ σ s)
  (h:T Γ (A.over c fs) σ (Dr e env) λv σ'=>∀u,cl u=v->∀s',Ea Γ σ' s'->∀g l k p,g=gd false->(∀A' Φ' s'',Hn (Cd Γ.prog Γ.w) A' Φ' c (K .next) fs s''->Hn (Cd Γ.prog Γ.w) A' Φ' c (k (.send .none)) fs s'')->Φ (.susp u g l k c p fs) s')
  (hco:autoParam (env.scope.isCoroutine=false) aR) (hi:autoParam (interactive env=false) aR):Hn (Cd Γ.prog Γ.w) A Φ c ((Mx (.Expr (.Yield (some e) ypos) pos) env).wrap K H gd lv) fs s:=by
 rw [exec_Expr env _ pos hi rfl]
 show Hn _ A Φ c (.at pos λ_=>((Dr e env>>=λv=>(Mr ypos>>=λ_=>yieldOut env v))>>=λx=>dropValue (.Yield (some e) ypos) pos x).wrap K H gd lv) fs s
 have hy:∀v,yieldOut env v=yieldValue v:=λv=>by simp only [yieldOut,hco,Hl,if_false]
 simp only [hy]
 refine fN ?_
 rw [Iu,Iu,Mn,Mn]
 refine sK R (h.mono λv σ' q u hu s' R'=>?_)
 refine fN (bI hfs λp=>?_)
 refine q u hu s' R' _ _ _ p rfl λA' Φ' s'' hx=>hx
theorem hY {target iter:Aq} {body orelse:List Jr} {pos:Pos} (R:Ea Γ σ s)
  (h:T Γ (A.over c fs) σ (Dr iter env) λcv σ₁=>∀v,cl v=cv->T Γ (A.over c fs) σ₁ (Hu v) λci σ₂=>∃it,ci=.ref it/\∀s,Ea Γ σ₂ s->∀k g p,g=gd false->k (.ok .next)=K .next->
   Hn (Cd Γ.prog Γ.w) A Φ (.forLoop target (.ref it) body orelse env) ((Cd Γ.prog Γ.w).den (.forLoop target (.ref it) body orelse env)) (.ret k none g (lv []) c p []::fs) s)
  (hs:autoParam (∀x,Dt iter env x=pure x) aI):Hn (Cd Γ.prog Γ.w) A Φ c ((Mx (.For target iter body orelse pos) env).wrap K H gd lv) fs s:=by
 rw [exec_For]
 refine Dk (Eo ?_)
 refine Dk (h.elim R λv s₁ σ₁ R₁ q₁=>?_)
 refine Dk (Im (hs v) (Dk (Eo (Dk (Dz ((q₁ v rfl).elim R₁ λu s₂ σ₂ R₂ q=>?_))))))
 obtain⟨it,e,q₂⟩:=q
 rw [Cc e]
 exact pF λp=>q₂ s₂ R₂ _ _ p rfl rfl
noncomputable def Abh (target:Aq) (it:Ab) (body orelse:List Jr) (env:Env):Fv->Sem Gb:=λf=>match f with
 |.next|.cont=>.pure (.again (.forLoop target it body orelse env))
 |.brk=>.pure (.done .next)
 |.ret v=>.pure (.done (.ret v))
theorem Yy {W τ ρ:List As} {G:Ay->Prop} {x:Str} {px:Pos} {it:Ak} {body:List Jr} {k:Kw->Sem Gb} {g:Bool} {l:List Ab} {c₁:Code} {p₁:Pos} (Y:Lb Γ (A.over (.forLoop (.Name x px) (.ref it) body [] env) (.ret k none g l c₁ p₁ []::fs)) it G [] ρ) (hG:G ⟨W,τ⟩) (R:Ea Γ ⟨W,ρ++τ⟩ s)
  (h:∀s',Ea Γ ⟨W,τ⟩ s'->Hn (Cd Γ.prog Γ.w) A Φ c₁ (k (.ok .next)) fs s'):
  Hn (Cd Γ.prog Γ.w) A Φ (.forLoop (.Name x px) (.ref it) body [] env) ((Cd Γ.prog Γ.w).den (.forLoop (.Name x px) (.ref it) body [] env)) (.ret k none g l c₁ p₁ []::fs) s:=by
 show Hn _ A Φ _ ((forTurn (.Name x px) (.ref it) body [] env).onRaise (λx=>do Pk x env;theTreesLotGoes x)) _ s
 unfold forTurn
 rw [Jd]
 exact Dk (Eo (Dk (Nu (wpAny_onRaise (Y.stop hG R λs₁ R₁=>Pc rfl (pE (.ok .next) (h s₁ R₁)))))))
theorem Wy {W τ ρ:List As} {G:Ay->Prop} {v:Ab} {vs:List Ab} {x:Str} {px:Pos} {it:Ak} {body:List Jr} {k:Kw->Sem Gb} {g:Bool} {l:List Ab} {c₁:Code} {p₁:Pos} (Y:Lb Γ (A.over (.forLoop (.Name x px) (.ref it) body [] env) (.ret k none g l c₁ p₁ []::fs)) it G (v::vs) ρ) (hG:G ⟨W,τ⟩) (R:Ea Γ ⟨W,ρ++τ⟩ s)
  (h:∀u ρ',cl u=v->Lb Γ (A.over (.forLoop (.Name x px) (.ref it) body [] env) (.ret k none g l c₁ p₁ []::fs)) it G vs ρ'->T Γ (A.over (.forLoop (.Name x px) (.ref it) body [] env) (.ret k none g l c₁ p₁ []::fs)) ⟨W,ρ'++τ⟩ (Ij (.Name x px) env u) λ_ σ''=>∀s'',Ea Γ σ'' s''->∀Hx,Hn (Cd Γ.prog Γ.w) A Φ (.forLoop (.Name x px) (.ref it) body [] env) ((Cm body env).wrap (Abh (.Name x px) (.ref it) body [] env) Hx id id) (.ret k none g l c₁ p₁ []::fs) s''):
  Hn (Cd Γ.prog Γ.w) A Φ (.forLoop (.Name x px) (.ref it) body [] env) ((Cd Γ.prog Γ.w).den (.forLoop (.Name x px) (.ref it) body [] env)) (.ret k none g l c₁ p₁ []::fs) s:=by
 show Hn _ A Φ _ ((forTurn (.Name x px) (.ref it) body [] env).onRaise (λx=>do Pk x env;theTreesLotGoes x)) _ s
 unfold forTurn
 rw [Jd]
 refine Dk (Eo (Dk (Nu (wpAny_onRaise (Y.more hG R λu ρ' s₁ eu R₁ _ Y'=>?_)))))
 refine Dk (Im (rfl:Dn (.Name x px) (.ref it) u=pure ()) (Dk ((h u ρ' eu Y').elim R₁ λ_ s₂ σ₂ R₂ q₂=>?_)))
 rw [Iu,Mn]
 rw [Sem.wrap_congr (Cm body env) _ _ (K':=Abh (.Name x px) (.ref it) body [] env) (H':=_) (λf=>by cases f<;>rfl) (λe=>rfl)]
 exact q₂ s₂ R₂ _
end
end
section
section
variable {Γ:Bj} {A:Aw} {σ:Ay} {Φ:End->Ba->Prop} {c:Code} {fs:List Frame} {s:Ba} {env:Env}
theorem eE {body:List Jr} (h:∀Hx,Hn (Cd Γ.prog Γ.w) A Φ (.func body env) ((Cm body env).wrap (λf=>.pure (.done (.ret (match f with|.ret v=>v|_=>.none)))) Hx id id) fs s):Hn (Cd Γ.prog Γ.w) A Φ (.func body env) ((Cd Γ.prog Γ.w).den (.func body env)) fs s:=by
 show Hn _ A Φ _ (.point [] λ_=>((Cm body env).onRaise (leaving env))>>=_) fs s
 refine lH ?_
 rw [Jd,Iu,Mn]
 rw [Sem.wrap_congr (Cm body env) _ _ (K':=λf=>.pure (.done (.ret (match f with|.ret v=>v|_=>.none)))) (H':=_) (λf=>by cases f<;>rfl) (λe=>rfl)]
 exact h _
theorem yC {W τ:List As} {f:Ak} {oc:Ab} {od:Option Ak} {osl:Array (Option Ab)} {name qual:Str} {params:Arguments} {body:List Jr} {scope:La} {dV kV doc pm cdv ct:Ab} {an:Option Ak} {vs:List Ab} {kw bs:List (Str×Ab)} {Q:Ab->Ay->Prop} (names:List Str)
  (ho:Γ.K.lookup f=some ⟨oc,od,.func (fnX name qual params body scope [] dV kV doc pm an cdv ct),osl⟩) (hcode:codeIn Γ.K cdv qual=true) (hd:A.depth < Gy) (hb:Gu Γ (fnX name qual params body scope [] dV kV doc pm an cdv ct) vs kw bs)
  (h:∀L a g nm qn,Q (.ref a) ⟨W,(.obj a,.raw (Uz g nm qn))::(.gen g,.gst (.fresh (.func body (Gk qual scope L f cdv []))))::(Nt L names bs++τ)⟩)
  (hcell:autoParam ((scope.names.all λx=>x.2 != .cell)=true) aR) (hloc:autoParam ((bs.all λx=>scope.names.lookup x.1==some .local)=true) aR) (hn:autoParam (names.Nodup) aD)
  (hco:autoParam (scope.isCoroutine=false) aR) (hgen:autoParam (scope.isGenerator=true) aR) (hk:autoParam (scope.kind=.function) aR):
  ∀ws kws,ws.map cl=vs->kws.map (λp:Str×Ab=>(p.1,cl p.2))=kw->TC Γ A ⟨W,τ⟩ (.ref f) ws kws Q:=λws kws hw hkw s R=>by
 obtain⟨binds,eb,hbind⟩:=hb ws kws hw hkw
 refine codeAny_call_generator (fd:=fnX name qual params body scope [] dV kV doc pm an cdv ct) (body:=body) hd (R.kin _ _ ho) rfl hco hgen rfl (codeRec_of R.kin hcode) (hbind s R.kin _ _ _ _ ?_)
 have hcell':∀x∈scope.names,x.2≠.cell:=λx hx=>by
  have:=Fu.mp hcell x hx
  simpa using this
 have hloc':∀x∈binds,scope.names.lookup x.1=some .local:=λx hx=>by
  have hx':(x.1,cl x.2)∈bs:=eb▸Cv hx
  have:=Fu.mp hloc _ hx'
  simpa using this
 refine wpAny_newFunctionEnv hcell' hloc' (λh₀ hns hs₀=>?_) hk
 have keep:∀b o,s.heap.get? b=some o->h₀.get? b=some o:=λb o e=>hs₀.extBut b o (Kn (Ds e)) (Al _ e)
 have R₁:Ea Γ ⟨W,τ⟩ {s with heap:=h₀,toks:=s.toks+binds.length}:=R.grow keep rfl rfl
 refine⟨R₁.lim.no,?_⟩
 have R₂:=R₁.adds (Nt s.heap.objs.size names bs) (λp hp=>?_) (Ta hn)
 ·have R₃:=R₂.pushGen (c:=.func body (Gk qual scope s.heap.objs.size f cdv []))
  have R₄:=(R₃.toks (s.toks+binds.length+1+1)).push (c:=.raw (Uz s.gens.size (.str name (s.toks+binds.length)) (.str qual (s.toks+binds.length+1)))) (s':={s with heap:=h₀.push (Uz s.gens.size (.str name (s.toks+binds.length)) (.str qual (s.toks+binds.length+1))),gens:=s.gens.push (.fresh (.func body (Gk qual scope s.heap.objs.size f cdv []))),toks:=s.toks+binds.length+1+1})
   (λ_ _ e=>Al _ e) rfl rfl (Bg _ rfl)
  exact⟨_,R₄,h s.heap.objs.size _ _ _ _⟩
 ·obtain⟨x,hx,rfl⟩:=Bn.mp hp
  refine⟨⟨_,hns,?_⟩,R.freshTop,Jp (σ:=⟨W,τ⟩) (s:=s) rfl (λq hq=>(R.ents q hq).1) (Bx _)⟩
  rw [<-eb,<-List.map_reverse,Oi]
end
noncomputable def Ck (acc:List Nat):List Nat->List Nat
 |[]=>[]
 |x::r=>if acc.contains x then Ck acc r else x::Ck (acc++[x]) r
theorem dF {acc r:List Nat} {j:Nat} (h:acc.contains j=false):Ck acc (j::r)=j::Ck (acc++[j]) r:=by
 rw [Ck,h]
 rfl
theorem dE {acc r:List Nat} {j:Nat} (h:acc.contains j=true):Ck acc (j::r)=Ck acc r:=by
 rw [Ck,h]
 rfl
theorem Ho (b:List Nat):∀(a acc:List Nat),Ck acc (a++b)=Ck acc a++Ck (acc++Ck acc a) b
 |[],acc=>by simp [Ck]
 |x::a,acc=>by
  simp only [Hp,Ck]
  split
  ·exact Ho b a acc
  ·rw [Ho b a (acc++[x])]
   simp
noncomputable def near (G:List Nd):Nat->Nat->List Nat
 |0,_=>[]
 |n+1,i=>match G[i]?with
  |some x=>if x.C=364 then [i]else Ck [] (x.bs.flatMap (near G n))
  |none=>[]
section
variable {Γ:Bj} {A:Aw} {G:List Nd} {W:List As}
noncomputable abbrev fL (Γ:Bj) (A:Aw) (G:List Nd) (W τ:List As) (out:List Nat):End->Ba->Prop:=oX Γ A (λσ=>σ.W=W) (refs G out) ⟨W,τ⟩
theorem Wm {out:List Ab} {gs:Ju} {ρ:List As} (h:∀τ s,Ea Γ ⟨W,ρ++τ⟩ s->Yx (Cd Γ.prog Γ.w) A (oX Γ A (λσ=>σ.W=W) out ⟨W,τ⟩) gs s):nT Γ A (λσ=>σ.W=W) out gs ρ:=λσ s hσ R=>by
 obtain⟨W',τ⟩:=σ
 cases (hσ:W'=W)
 exact h τ s R
noncomputable def Sm (Γ:Bj) (G:List Nd) (W:List As) (n i:Nat) (js:List Nat):Prop:=∀⦃A:Aw⦄ ⦃τ:List As⦄ ⦃x:Nd⦄ ⦃ov:Ab⦄ ⦃pl:Sem Bool⦄ ⦃Q:Ab->Ay->Prop⦄,G[i]? =some x->Rm A 1->cl ov=.ref x.me->
 (∀a ρ,(∀A':Aw,A'.handled=none->Rm A' n->Lb Γ A' a (λσ=>σ.W=W) (refs G js) ρ/\Vk Γ A' a ρ)->Q (.ref a) ⟨W,ρ++τ⟩)->
 T Γ A ⟨W,τ⟩ (Ie ov "interfaces" pl) λfx σ₂=>Qn Γ fx.1/\∀ws,ws.map cl=fx.2++[]->T Γ A σ₂ (call fx.1 ws) Q
theorem qG (Γ:Bj):Γ.K.lookup 361=some ⟨.type "function",none,.func (Ka Γ 361 "InterfaceClass.interfaces" (clsStmt 14 1) (.ref 360) .none),#[]⟩:=by kernel_rfl
theorem qF (Γ:Bj):Γ.K.lookup 325=some ⟨.type "function",none,.func (Ka Γ 325 "Specification.interfaces" (clsStmt 13 7) (.ref 324) .none),#[]⟩:=by kernel_rfl
theorem xT (Γ:Bj):Sh Γ.K 364 "interfaces" 361=true/\Sh Γ.K 427 "interfaces" 325=true:=⟨by kernel_rfl,by kernel_rfl⟩
theorem mN {n i:Nat} {x:Nd} (nf:NF W G) (hi:G[i]? =some x) (hx:x.C=364):Sm Γ G W (n+1) i [i]:=by
 intro A τ x' ov pl Q hi' hA ho h
 rw [hi]at hi'
 cases hi'
 refine Tp ho (Ox (nf.inst _ _ hi)) (Ox (nf.ns _ _ hi)) (by rw [hx];exact(xT Γ).1) (by show _∉Zu;decide) ⟨.inl (by kernel_rfl),λws hw=>?_⟩
 refine(yC (body:=fBody (clsStmt 14 1)) (bs:=[("self",.ref x.me)]) ["self"] (qG Γ) (by kernel_rfl) hA.room (Gu.plain1 λ_ _=>Cg (by rfl)) (λL a g nm qn=>?_) (by rfl) (by rfl) (by decide) (by rfl) (by rfl) (by rfl) ws [] hw rfl).T
 show Q (.ref a) ⟨W,((.obj a,.raw (Uz g nm qn))::(.gen g,.gst (.fresh (.func (fBody (clsStmt 14 1)) (Gk "InterfaceClass.interfaces" (fScope (clsStmt 14 1)) L 361 (.ref 360) []))))::[(.var L "self",.val (some (.ref x.me)))])++τ⟩
 refine h a _ λA' hh' hA'=>⟨aZ hh' hA'.room (λσ ext h=>h) _ _ _ (Wm λτ s R=>?_),aO⟩
 show Hn _ A'.in1 _ _ _ [] s
 refine eE λHx=>Kc (Tt rfl R ?_)
 refine Ac (v:=.ref x.me) (Ae (.head _)) λu hu s' R' g l k p hg hk=>?_
 refine vL.mk u g l k _ p [] [(.var L "self",.val (some (.ref x.me)))] rfl (by rw [hg];rfl) (hu.trans (congrArg Bt (Br hi)).symm) R' (Wm λτ s R=>hk _ _ _ ?_)
 exact aQ (.ok (.ret .none)) (vN.mk _ rfl (.inr rfl) (As.le_sub (.cons _ (.refl _)) _ _ R))
end
end
section
theorem lI {G:List Nd} (hk:(G.map (·.key)).Nodup) {acc:List Nat} (hl:∀j∈acc,j < G.length) {j:Nat} (hj:j < G.length):(Fk (acc.map λj=>(Cu G j,Fl 1 0)) (Cu G j)).isSome=acc.contains j:=by
 induction acc with
 |nil=>rfl
 |cons a r ih=>
  have ih:=ih λk hk=>hl k (.tail _ hk)
  have ha:=hl a (.head _)
  unfold Fk at ih ⊢
  simp only [Cf,Hh,Pg]
  by_cases q:a=j
  ·subst q;simp
  ·have:¬Cu G a=Cu G j:=λe=>q (key_inj hk ha hj e)
   have q':(j==a)=false:=by simpa using λe:j=a=>q e.symm
   simp only [this,decide_false,q',Bool.false_or]
   exact ih
section
variable {Γ:Bj} {A:Aw} {G:List Nd} {W:List As}
theorem vU {Φ:End->Ba->Prop} {c:Code} {fs:List Frame} {s:Ba} {σ:Ay} {env:Env} {K:Fv->Sem Gb} {H:Ab->Sem Gb} {gd:Bool->Bool} {lv:List Ab->List Ab} {test:Aq} {body orelse:List Jr} {pos:Pos} (R:Ea Γ σ s)
  (h:T Γ (A.over c fs) σ (isTrue test env (Dr test env)) λb σ'=>∀s',Ea Γ σ' s'->(b=true->Hn (Cd Γ.prog Γ.w) A Φ c ((Cm body env).wrap K H gd lv) fs s')/\(b=false->Hn (Cd Γ.prog Γ.w) A Φ c ((Cm orelse env).wrap K H gd lv) fs s')):Hn (Cd Γ.prog Γ.w) A Φ c ((Mx (.If test body orelse pos) env).wrap K H gd lv) fs s:=by
 rw [exec_If]
 refine Dk (Eo (Dk (h.elim R λb s' σ' R' q=>?_)))
 cases b with
 |true=>exact(q s' R').1 rfl
 |false=>exact(q s' R').2 rfl
noncomputable abbrev gN (L:Ak):Env:=Gk "Specification.interfaces" (fScope (clsStmt 13 7)) L 325 (.ref 324) []
noncomputable abbrev iV (G:List Nd) (L me sd:Ak) (acc:List Nat) (ob oi:Option Ab) (τ:List As):List As:=
 (.obj sd,.idict (acc.map λj=>(Cu G j,.int 1 0)))::(.var L "self",.val (some (.ref me)))::(.var L "seen",.val (some (.ref sd)))::(.var L "base",.val ob)::(.var L "interface",.val oi)::τ
noncomputable def Agd:List Jr:=match(fBody (clsStmt 13 7)).getD 1 (.Pass ⟨0,0,0,0⟩)with
 |.For _ _ (.For _ _ b _ _::_) _ _=>b
 |_=>[]
noncomputable abbrev kX (L it:Ak) (px:Pos):Code:=.forLoop (.Name "interface" px) (.ref it) Agd [] (gN L)
theorem uE {L me sd it:Ak} {px:Pos} {k:Kw->Sem Gb} {l:List Ab} {c₁:Code} {p₁:Pos} {fs:List Frame} {Rr:List As} {outRest:List Nat->List Nat} (nf:NF W G) (hk:(G.map (·.key)).Nodup) (few:G.length<=12) (hsp:splitAtGen fs=none) (hgd:fs.any Frame.guarded=false)
  (cont:∀acc τ s ob oi,(∀j∈acc,j < G.length)->acc.Nodup->Ea Γ ⟨W,iV G L me sd acc ob oi (Rr++τ)⟩ s->Hn (Cd Γ.prog Γ.w) A (fL Γ A G W τ (outRest acc)) c₁ (k (.ok .next)) fs s):
  ∀(r:List Nat) (ρ₀:List As) (acc:List Nat),(∀j∈r,j < G.length)->(∀j∈acc,j < G.length)->acc.Nodup->Lb Γ (A.over (kX L it px) (.ret k none false l c₁ p₁ []::fs)) it (λσ=>σ.W=W) (refs G r) ρ₀->
  ∀τ s ob oi,Ea Γ ⟨W,ρ₀++iV G L me sd acc ob oi (Rr++τ)⟩ s->
   Hn (Cd Γ.prog Γ.w) A (fL Γ A G W τ (Ck acc r++outRest (acc++Ck acc r))) (kX L it px) ((Cd Γ.prog Γ.w).den (kX L it px)) (.ret k none false l c₁ p₁ []::fs) s:=by
 intro r
 induction r with
 |nil=>
  intro ρ₀ acc _ hacc hnd Y τ s ob oi R
  refine Yy Y rfl R λs' R'=>?_
  show Hn _ A (fL Γ A G W τ (outRest (acc++[]))) _ _ _ _
  rw [Cj]
  exact cont acc τ s' ob oi hacc hnd R'
 |cons j r ih=>
  intro ρ₀ acc hr hacc hnd Y τ s ob oi R
  have hj:=hr j (.head _)
  obtain⟨y,ey⟩:=Dl hj
  have hlen:acc.length<=12:=Bw (Gh _ _ hnd hacc) few
  have hsv:=lI hk hacc hj
  rw [Gd ey]at hsv
  refine Wy Y rfl R λu ρ₁ hu Y'=>Ct (v:=.ref y.me) (hu.trans (congrArg Bt (Br ey))) (.tau (.pre (.there (.there (.there (.there .here)))))) λs₁ R₁ Hx=>Kc (vU R₁ ?_)
  have ih:=λacc h1 h2=>ih ρ₁ acc (λk hk=>hr k (.tail _ hk)) h1 h2 Y'
  refine Ar (Ef (x:=y) nf ey (Ly Γ) (.head _) (Ac (v:=.ref y.me) (Ae (Aa _ (mL 4 rfl))) ⟨rfl,rfl⟩) (Ac (v:=.ref sd) (Ae (Aa _ (mL 2 rfl))) (Xj (Ae (Aa _ (.head _))) ⟨_,rfl,λs₂ R₂=>⟨λhb=>?_,λhb=>?_⟩⟩)))
  ·rw [hsv]at hb
   have hc:acc.contains j=false:=by simpa using hb
   have hnj:j∉acc:=by simpa using hc
   have hvn:Fk (acc.map λj=>(Cu G j,Fl 1 0)) y.key=none:=by
    rw [hc]at hsv
    simpa using hsv
   rw [dF hc,List.append_cons acc j (Ck _ _),Hp]
   have hst:Lj (acc.map λj=>(Cu G j,Fl 1 0)) y.key (.int 1 0)=(acc++[j]).map λj=>(Cu G j,Fl 1 0):=by rw [bH hvn,Bh,List.map_singleton,Gd ey]
   refine eD R₂ (Ky (Dd (Ac (v:=.ref sd) (Ae (Aa _ (mL 2 rfl))) (Ef (x:=y) nf ey (Ly Γ) (.head _) (Ac (v:=.ref y.me) (Ae (Aa _ (mL 4 rfl))) ⟨rfl,rfl⟩) λv ov iv hv ho hi=>Qg ho hi hv (.tau (.pre .here)) (by rw [Ap,Av];lia) ⟨rfl,λs₃ R₃=>?_⟩))))
   rw [hst]at R₃
   refine Kc (Tt (by rw [splitAtGen_ret,hsp];rfl) R₃ ?_)
   refine Ac (v:=.ref y.me) (Ae (Aa _ (mL 4 rfl))) λu hu s₄ R₄ g l' k' p hg hk'=>?_
   refine vL.mk u g l' k' _ p _ (ρ₁++iV G L me sd (acc++[j]) ob (some (.ref y.me)) Rr) rfl (by simp [End.quiet,hg,Frame.guarded,hgd]) (hu.trans (congrArg Bt (Br ey)).symm) (by rw [Ax];exact R₄) (Wm λτ s₅ R₅=>?_)
   rw [Ax]at R₅
   refine hk' _ _ _ (Pc rfl (ih (acc++[j]) (λk hk=>?_) ?_ τ s₅ ob (some (.ref y.me)) R₅))
   ·exact(Ai.mp hk).elim (hacc k) λh=>by rw [Be.mp h];exact hj
   ·exact bN hnd hnj
  ·rw [hsv]at hb
   have hc:acc.contains j=true:=by simpa using hb
   rw [dE hc]
   exact Pc rfl (ih acc hacc hnd τ s₂ ob (some (.ref y.me)) R₂)
end
end
section
section
variable {Γ:Bj} {A:Aw} {G:List Nd} {W:List As}
noncomputable def Adb:List Jr:=match(fBody (clsStmt 13 7)).getD 1 (.Pass ⟨0,0,0,0⟩)with
 |.For _ _ b _ _=>b
 |_=>[]
theorem wE {n:Nat} (h:Rm A (n+1)) {t t':Aq} {it it':Ab} {b b' body:List Jr} {e e' e2:Env} {k k2:Kw->Sem Gb} {g g2:Bool} {l l2:List Ab} {p p2:Pos}:
  Rm (A.over (.forLoop t it b [] e) [.ret k none g l (.forLoop t' it' b' [] e') p [],.ret k2 none g2 l2 (.func body e2) p2 []]) n:=
 ⟨by have:=h.depth;show A.depth+1+0+3 * n < _;lia,by have:=h.units;show A.units+3+0+20 * n < _;lia⟩
theorem iD {n:Nat} (h:Rm A (n+1)) {t:Aq} {it:Ab} {b body:List Jr} {e e2:Env} {k2:Kw->Sem Gb} {g2:Bool} {l2:List Ab} {p2:Pos}:
  Rm (A.over (.forLoop t it b [] e) [.ret k2 none g2 l2 (.func body e2) p2 []]) n:=
 ⟨by have:=h.depth;show A.depth+1+0+3 * n < _;lia,by have:=h.units;show A.units+3+0+20 * n < _;lia⟩
noncomputable abbrev fD (L it:Ak) (px:Pos):Code:=.forLoop (.Name "base" px) (.ref it) Adb [] (gN L)
theorem oI {L me sd:Ak} {acc:List Nat} {ob oi:Option Ab} {ρ τ:List As}:(ρ++iV G L me sd acc ob oi τ).Perm (iV G L me sd acc ob oi (ρ++τ)):=by
 show(ρ++(iV G L me sd acc ob oi []++τ)).Perm (iV G L me sd acc ob oi []++(ρ++τ))
 rw [<-Ax,<-Ax]
 exact Dx _ Eu
theorem uD {L me sd it:Ak} {px:Pos} {k:Kw->Sem Gb} {l:List Ab} {body:List Jr} {p₁:Pos} {n m:Nat} (nf:NF W G) (hk:(G.map (·.key)).Nodup) (few:G.length<=12) (hA:Rm A (n+2)) (hh:A.handled=none)
  (hkf:∀Φ s,Φ (.ret (.ok (.ret .none))) s->Hn (Cd Γ.prog Γ.w) A Φ (.func body (gN L)) (k (.ok .next)) [] s):
  ∀(r:List Nat) (ρ₀:List As) (acc:List Nat),(∀b∈r,b < G.length/\Sm Γ G W n b (near G m b)/\∀j∈near G m b,j < G.length)->(∀j∈acc,j < G.length)->acc.Nodup->
  Lb Γ (A.over (fD L it px) [.ret k none false l (.func body (gN L)) p₁ []]) it (λσ=>σ.W=W) (refs G r) ρ₀->
  ∀τ s ob oi,Ea Γ ⟨W,ρ₀++iV G L me sd acc ob oi τ⟩ s->
   Hn (Cd Γ.prog Γ.w) A (fL Γ A G W τ (Ck acc (r.flatMap (near G m)))) (fD L it px) ((Cd Γ.prog Γ.w).den (fD L it px)) [.ret k none false l (.func body (gN L)) p₁ []] s:=by
 intro r
 induction r with
 |nil=>
  intro ρ₀ acc _ hacc hnd Y τ s ob oi R
  exact Yy Y rfl R λs' R'=>hkf _ _ (vN.mk _ rfl (.inr rfl) (As.le_sub (.cons _ (.cons _ (.cons _ (.cons _ (.cons _ (.refl _)))))) _ _ R'))
 |cons b r ih=>
  intro ρ₀ acc hr hacc hnd Y τ s ob oi R
  obtain⟨hb,hgives,hnear⟩:=hr b (.head _)
  obtain⟨y,ey⟩:=Dl hb
  refine Wy Y rfl R λu ρ₁ hu Y'=>Ct (v:=.ref y.me) (hu.trans (congrArg Bt (Br ey))) (.tau (.pre (.there (.there (.there .here))))) λs₁ R₁ Hx=>Kc (hY R₁ ?_)
  refine Fi (Ac (v:=.ref y.me) (Ae (Aa _ (mL 3 rfl))) λov hov=>(hgives ey ((iD hA).le (by lia)) hov λa ρg hFd=>?_).mono λfx σ₂ q=>⟨q.1,Ao λws hw=>q.2 ws hw⟩)
  intro v hv
  rw [Cc hv]
  refine((hFd (A.over (fD L it px) [.ret k none false l (.func body (gN L)) p₁ []]) hh ((iD hA).le (Nat.le_succ n))).2 W _).mono λc σ₃ q=>⟨a,q.1,λs₂ R₂ k' g p hg hkk=>?_⟩
  rw [q.2]at R₂
  rw [show g=false from hg,Gs,Ho]
  refine uE (me:=me) (sd:=sd) (Rr:=ρ₁) (outRest:=λacc'=>Ck acc' (r.flatMap (near G m))) nf hk few rfl rfl (λacc' τ s ob oi h1 h2 R=>?_) (near G m b) ρg acc hnear hacc hnd (hFd _ (by exact hh) (by exact wE (hA.le (Nat.le_succ _)))).1 τ s₂ (some (.ref y.me)) oi (Wf (Bb ρg oI) R₂)
  rw [hkk]
  exact Pc rfl (ih ρ₁ acc' (λb hb=>hr b (.tail _ hb)) h1 h2 Y' τ s ob oi (Wf oI.symm R))
theorem mM {n m i:Nat} {x:Nd} (nf:NF W G) (gr:Gr G) (hi:G[i]? =some x) (hx:x.C=427) (hb:∀b∈x.bs,Sm Γ G W n b (near G m b)/\∀j∈near G m b,j < G.length):Sm Γ G W (n+3) i (Ck [] (x.bs.flatMap (near G m))):=by
 intro A τ x' ov pl Q hi' hA ho h
 rw [hi]at hi'
 cases hi'
 have hil:=(Aj.mp hi).1
 refine Tp ho (Ox (nf.inst _ _ hi)) (Ox (nf.ns _ _ hi)) (by rw [hx];exact(xT Γ).2) (by show _∉Zu;decide) ⟨.inl (by kernel_rfl),λws hw=>?_⟩
 refine(yC (body:=fBody (clsStmt 13 7)) (bs:=[("self",.ref x.me)]) ["self","seen","base","interface"] (qF Γ) (by kernel_rfl) hA.room (Gu.plain1 λ_ _=>Cg (by rfl)) (λL a g nm qn=>?_) (by rfl) (by rfl) (by decide) (by rfl) (by rfl) (by rfl) ws [] hw rfl).T
 show Q (.ref a) ⟨W,((.obj a,.raw (Uz g nm qn))::(.gen g,.gst (.fresh (.func (fBody (clsStmt 13 7)) (gN L))))::[(.var L "self",.val (some (.ref x.me))),(.var L "seen",.val none),(.var L "base",.val none),(.var L "interface",.val none)])++τ⟩
 refine h a _ λA' hh' hA'=>⟨aZ hh' hA'.room (λσ ext h=>h) _ _ _ (Wm λτ s R=>?_),aO⟩
 show Hn _ A'.in1 _ (.func (fBody (clsStmt 13 7)) (gN L)) _ [] s
 have R:Ea Γ ⟨W,(.var L "self",.val (some (.ref x.me)))::(.var L "seen",.val none)::(.var L "base",.val none)::(.var L "interface",.val none)::τ⟩ s:=R
 refine eE λHx=>eD R (Bl (aA λsd=>⟨_,_,.tau (.there (.there .here)),rfl,λs₁ R₁=>?_⟩))
 refine Kc (hY R₁ ?_)
 refine Ef (x:=x) nf hi (Pu Γ) (.tail _ (.tail _ (.tail _ (.head _)))) (Ac (v:=.ref x.me) (mI 1 rfl) ⟨rfl,rfl⟩) (Hf (vs:=refs G x.bs) ((nf.bt _ _ hi).tup) λit=>⟨it,rfl,λs₂ R₂ k gb p hg hkk=>?_⟩)
 rw [show gb=false from hg]
 refine uD (G:=G) (me:=x.me) (sd:=sd) (n:=n) (m:=m) nf gr.keys gr.few hA'.in1 hh' (λΦ s hΦ=>?_) x.bs [(.obj it,.titer x.bt 0)] [] (λb hb'=>⟨Jh ((gr.bs _ _ hi).2 b hb') hil,hb b hb'⟩) (λ_ h=>(by cases h)) .nil ((Hd (a:=x.bt) (by exact hh')).weak λσ hσ=>?_) τ s₂ none none R₂
 ·rw [hkk]
  exact aQ (.ok (.ret .none)) hΦ
 ·obtain⟨W2,τ2⟩:=σ
  cases (hσ:W2=W)
  exact(nf.bt _ _ hi).tup
set_option tactic.hygienic true in
theorem wG (g:Gr G):∀(m i:Nat),∀j∈near G m i,j < G.length:=by
 intro m
 induction m with
 |zero=>intro i j h;cases h
 |succ m ih=>
  intro i j h
  unfold near at h
  split at h
  ·rename_i x e
   split at h
   ·rw [Be.mp h];exact(Aj.mp e).1
   ·have sub:∀(l acc:List Nat),∀j∈Ck acc l,j∈l:=by
     intro l
     induction l with
     |nil=>intro acc j h;cases h
     |cons a r ihr=>
      intro acc j h
      unfold Ck at h
      split at h
      ·exact .tail _ (ihr _ j h)
      ·rcases Ce.mp h with rfl|h
       ·exact .head _
       ·exact .tail _ (ihr _ j h)
    obtain⟨b,_,hb⟩:=Fg.mp (sub _ _ j h)
    exact ih b j hb
  ·cases h
theorem Sm.le {n n' i:Nat} {js:List Nat} (h:Sm Γ G W n i js) (hn:n<=n'):Sm Γ G W n' i js:=by
 intro A τ x ov pl Q h1 h2 h3 h4
 exact h h1 h2 h3 λa ρ hf=>h4 a ρ λA' a1 a2=>hf A' a1 (a2.le hn)
theorem qO (nf:NF W G) (g:Gr G):∀(m i:Nat),i < m->i < G.length->Sm Γ G W (3 * m) i (near G m i):=by
 intro m
 induction m with
 |zero=>intro i h;lia
 |succ m ih=>
  intro i him hil
  obtain⟨x,hi⟩:=Dl hil
  unfold near
  rw [hi]
  dsimp only
  rcases nf.cls _ _ hi with hx|hx
  ·rw [if_pos hx]
   exact(mN (n:=0) nf hi hx).le (by lia)
  ·rw [if_neg (by rw [hx];decide)]
   refine mM nf g hi hx λb hb=>⟨?_,wG g m b⟩
   have:=(g.bs _ _ hi).2 b hb
   exact ih b (by lia) (by lia)
end
end
section
theorem zJ (Γ:Bj):Γ.K.lookup 256=some ⟨.type "function",none,.func (Ka Γ 256 "SpecificationBase.isOrExtends" (clsStmt 12 0) (.ref 255) .none),#[]⟩:=by kernel_rfl
theorem qI (Γ:Bj):Γ.K.lookup 333=some ⟨.type "function",none,.func (Ka Γ 333 "Specification.extends" (clsStmt 13 8) (.ref 332) (.ref 326)),#[]⟩:=by kernel_rfl
theorem fQ (Γ:Bj):aE Γ "isOrExtends" 256:=⟨by kernel_rfl,by kernel_rfl⟩
theorem mB (Γ:Bj):aE Γ "extends" 333:=⟨by kernel_rfl,by kernel_rfl⟩
theorem aH.has {G:List Nd} {i:Nat} {x:Nd} (h:aH G x) (g:Gr G) (hi:G[i]? =some x) {j:Nat} (hj:j < G.length):(Fk x.imps (Cu G j)).isSome=decide (j∈Hc G i):=by
 rw [We hi]
 have:=h.2 (Cu G j)
 by_cases q:j∈x.ss
 ·rw [decide_eq_true q]
  exact this.mpr ⟨j,q,rfl⟩
 ·rw [decide_eq_false q]
  cases e:(Fk x.imps (Cu G j)).isSome with
  |false=>rfl
  |true=>
   obtain⟨j',h1,h2⟩:=this.mp e
   have:=g.key_inj ((g.ss _ _ hi).2 j' h1) hj h2
   rw [this]at h1
   exact absurd h1 q
section
variable {Γ:Bj} {A:Aw} {G:List Nd} {X:List As} {σ:Ay}
theorem Aeb {x:Aq} {pos:Pos} {env:Env} {Q:Ab->Ay->Prop} (h:T Γ A σ (Dr x env) λc σ₁=>∀v,cl v=c->T Γ A σ₁ (Oz v) λb=>Q (.bool (!b))):T Γ A σ (Dr (.UnaryOp .Not x pos) env) Q:=λs R=>
 wpAny_UnaryOp (h.elim R λv s₁ σ₁ R₁ q=>by
  unfold unaryOp
  refine Dz ?_
  show Cp _ _ (if(UnaryOp.Not==UnaryOp.Not)=true then(do let b<-Oz v;pure (Ab.bool !b))else _) _ _ _
  rw [if_pos (by decide)]
  exact Ad ((q v rfl).elim R₁ λb s₂ σ₂ R₂ q₂=>Au ⟨σ₂,R₂,q₂⟩))
theorem kZ {W τ:List As} {i j:Nat} {x y:Nd} {Q:Ab->Ay->Prop} (nf:NF W G) (g:Gr G) (im:aH G x) (hA:Rm A 1) (hi:G[i]? =some x) (hj:G[j]? =some y) (h:Q (.bool (decide (j∈Hc G i))) ⟨W,τ⟩):∀ws,ws.map cl=[.ref x.me,.ref y.me]->TC Γ A ⟨W,τ⟩ (.ref 256) ws [] Q:=λws hw=>by
 refine Oy (body:=fBody (clsStmt 12 0)) (bs:=[("self",.ref x.me),("interface",.ref y.me)]) ["self","interface"] (zJ Γ) (by kernel_rfl) hA.room (Gu.plain2 λ_ _ _=>Cg (by rfl)) (λL=>?_) (by rfl) (by rfl) (by decide) (by rfl) (by rfl) (by rfl) ws [] hw rfl
 show T Γ _ ⟨W,(.var L "self",.val (some (.ref x.me)))::(.var L "interface",.val (some (.ref y.me)))::τ⟩ _ _
 have hjl:=(Aj.mp hj).1
 have hv:=im.has g hi hjl
 rw [Gd hj]at hv
 refine Am (Fj (Tc (Ef (x:=y) nf hj (Ly Γ) (.head _) (Ac (v:=.ref y.me) (by walk_at "mem") ⟨rfl,rfl⟩) (Ef (x:=x) nf hi (sD Γ) (.tail _ (.tail _ (.tail _ (.tail _ (.head _))))) (Ac (v:=.ref x.me) (by walk_at "mem") ⟨rfl,rfl⟩) (eZ (Ox (nf.imp _ _ hi)) ?_)))))
 rw [hv]
 exact⟨_,As.le_sub (.cons _ (.cons _ (.refl _))),h⟩
theorem qW {W τ:List As} {i j:Nat} {x y:Nd} {Q:Ab->Ay->Prop} (nf:NF W G) (g:Gr G) (im:aH G x) (hA:Rm A 1) (hi:G[i]? =some x) (hj:G[j]? =some y) (h:Q (.bool (decide (j∈Hc G i)&&decide (i≠j))) ⟨W,τ⟩):∀ws,ws.map cl=[.ref x.me,.ref y.me]->TC Γ A ⟨W,τ⟩ (.ref 333) ws [] Q:=λws hw=>by
 refine Oy (body:=fBody (clsStmt 13 8)) (bs:=[("self",.ref x.me),("interface",.ref y.me),("strict",.bool true)]) ["self","interface","strict"] (qI Γ) (by kernel_rfl) hA.room ?_ (λL=>?_) (by rfl) (by rfl) (by decide) (by rfl) (by rfl) (by rfl) ws [] hw rfl
 ·intro ws kws hw hk
  obtain⟨w₁,w₂,rfl,e1,e2⟩:=Jy hw
  have:kws=[]:=by simpa using hk
  subst this
  exact⟨[("self",w₁),("interface",w₂),("strict",.bool true)],by simp [e1,e2],λs X=>kp_binds X λS=>by kernel_rfl⟩
 show T Γ _ ⟨W,(.var L "self",.val (some (.ref x.me)))::(.var L "interface",.val (some (.ref y.me)))::(.var L "strict",.val (some (.bool true)))::τ⟩ _ _
 have hjl:=(Aj.mp hj).1
 have hil:=(Aj.mp hi).1
 have hv:=im.has g hi hjl
 rw [Gd hj]at hv
 have fin:∀b,Q (.bool b) ⟨W,τ⟩->Ja Q (.ret (.bool b)) ⟨W,(.var L "self",.val (some (.ref x.me)))::(.var L "interface",.val (some (.ref y.me)))::(.var L "strict",.val (some (.bool true)))::τ⟩:=λb hb=>⟨_,As.le_sub (.cons _ (.cons _ (.cons _ (.refl _)))),hb⟩
 have hkey:(x.key != y.key)=decide (i≠j):=by
  by_cases q:i=j
  ·subst q;rw [hi]at hj;cases hj;simp
  ·have:x.key≠y.key:=λe=>q (g.key_inj hil hjl (by rw [Gd hi,Gd hj,e]))
   simp [this,q]
 refine Am (Fj (zZ (Tc (Ef (x:=y) nf hj (Ly Γ) (.head _) (Ac (v:=.ref y.me) (by walk_at "mem") ⟨rfl,rfl⟩) (Ef (x:=x) nf hi (sD Γ) (.tail _ (.tail _ (.tail _ (.tail _ (.head _))))) (Ac (v:=.ref x.me) (by walk_at "mem") ⟨rfl,rfl⟩) (eZ (Ox (nf.imp _ _ hi)) ?_))))))
 rw [hv]
 refine(Fc ⟨λhb=>?_,λhb=>?_⟩)
 ·rw [hb]at h ⊢
  exact fin _ h
 ·refine xZ (Aeb (Ac (v:=.bool true) (by walk_at "mem") (Fc (Fc ⟨λh=>(by cases h),λ_=>?_⟩))))
  refine Tc (Ef (x:=x) nf hi (Ly Γ) (.head _) (Ac (v:=.ref x.me) (by walk_at "mem") ⟨rfl,rfl⟩) (Ef (x:=y) nf hj (Ly Γ) (.head _) (Ac (v:=.ref y.me) (by walk_at "mem") ⟨rfl,rfl⟩) (Aca ?_)))
  rw [hkey]
  rw [hb,Bool.true_and]at h
  exact fin _ h
end
end
section
theorem wI (Γ:Bj):Γ.K.lookup 458=some ⟨.type "function",none,.func (Ka Γ 458 "_classImplements_ordered" (topStmt 21) (.ref 457) (.ref 453)),#[]⟩:=by kernel_rfl
theorem wR (Γ:Bj):gO Γ.K 427 "declared" (.ref 424)=true:=by kernel_rfl
theorem zK (Γ:Bj):gO Γ.K 427 "inherit" .none=true:=by kernel_rfl
theorem eO (Γ:Bj):Uy Γ.K 427 "inherit" =true:=by kernel_rfl
theorem bT (Γ:Bj):Uy Γ.K 427 "declared" =true:=by kernel_rfl
theorem eQ (Γ:Bj):Zl Γ.K 427 "inherit" =true:=by kernel_rfl
theorem mF (Γ:Bj):Zl Γ.K 427 "declared" =true:=by kernel_rfl
theorem zB (Γ:Bj):Γ.K.lookup 424=some {cls:=.type "tuple",data:=.seq #[] 0}:=by kernel_rfl
noncomputable def Mp (X:List As) (o:Option Ab) (vs:List Ab):Prop:=(o=none/\vs=[])\/∃t,o=some (.ref t)/\(Er.obj t,CO.tup vs)∈X
noncomputable def Ph (X:List As) (o:Option Ab) (vs:List Ab):Prop:=((o=none\/o=some .none)/\vs=[])\/∃t,o=some (.ref t)/\(Er.obj t,CO.tup vs)∈X
theorem Mp.more {X X':List As} {o:Option Ab} {vs:List Ab} (h:Mp X o vs) (k:∀e∈X,e∈X'):Mp X' o vs:=h.imp id λ⟨t,e,m⟩=>⟨t,e,k _ m⟩
theorem Ph.more {X X':List As} {o:Option Ab} {vs:List Ab} (h:Ph X o vs) (k:∀e∈X,e∈X'):Ph X' o vs:=h.imp id λ⟨t,e,m⟩=>⟨t,e,k _ m⟩
set_option tactic.hygienic true in
theorem Mj:∀(l acc:List Nat),∀j∈Ck acc l,j∈l/\j∉acc
 |[],_,j,h=>by cases h
 |a::r,acc,j,h=>by
  unfold Ck at h
  split at h
  ·exact⟨.tail _ (Mj r acc j h).1,(Mj r acc j h).2⟩
  ·rename_i q
   rcases Ce.mp h with rfl|h
   ·exact⟨.head _,λq'=>q (by simpa using q')⟩
   ·obtain⟨h1,h2⟩:=Mj r _ j h
    exact⟨.tail _ h1,λq'=>h2 (Af _ q')⟩
theorem Jb:∀(l acc:List Nat),(Ck acc l).Nodup
 |[],_=>.nil
 |a::r,acc=>by
  unfold Ck
  split
  ·exact Jb r acc
  ·exact Ey.mpr ⟨λh=>(Mj r _ a h).2 (by simp),Jb r _⟩
theorem Og:∀(l acc:List Nat),(Ck acc l).length<=l.length
 |[],_=>Bx _
 |a::r,acc=>by
  unfold Ck
  split
  ·exact Nat.le_succ_of_le (Og r acc)
  ·exact Jq (Og r _)
theorem qS (acc l:List Nat) (j:Nat):acc++Ck acc (l++[j])=if(acc++Ck acc l).contains j then acc++Ck acc l else(acc++Ck acc l)++[j]:=by
 rw [Ho]
 simp only [Ck]
 split
 ·rw [Cj]
 ·rw [Ax]
section
variable {Γ:Bj} {A:Aw} {G:List Nd} {X:List As} {σ:Ay} {env:Env}
theorem Aeg {W τ:List As} {i:Nat} {x:Nd} {ov:Ab} {expr:Bool} {vs:List Ab} {Q:Ab->Ay->Prop} (nf:NF W G) (hi:G[i]? =some x) (hC:x.C=427) (hd:Ph W x.inh vs) (ho:cl ov=.ref x.me) (h:Q (x.inh.getD .none) ⟨W,τ⟩):T Γ A ⟨W,τ⟩ (Lc ov "inherit" expr) Q:=by
 rcases hd with⟨e|e,rfl⟩|⟨t,e,m⟩
 ·rw [e]at h
  refine Ux (a:=.none) ho (Ox (nf.inst i x hi)) (Ox (nf.ns i x hi)) (by rw [hC];exact zK Γ) (.inl ?_) h
  show _∈Mw x
  unfold Mw
  rw [e]
  exact .tail _ (.tail _ (.tail _ (.tail _ (.tail _ (.tail _ (.tail _ (.tail _ (.head _))))))))
 ·rw [e]at h
  refine Qp (v:=.none) ho (Ox (nf.inst i x hi)) (Ox (nf.ns i x hi)) (by rw [hC];exact eQ Γ) ?_ h (by rfl)
  unfold Mw
  rw [e]
  exact .tail _ (.tail _ (.tail _ (.tail _ (.tail _ (.tail _ (.tail _ (.tail _ (.head _))))))))
 ·rw [e]at h
  refine Qp (v:=.ref t) ho (Ox (nf.inst i x hi)) (Ox (nf.ns i x hi)) (by rw [hC];exact eQ Γ) ?_ h (by rfl)
  unfold Mw
  rw [e]
  exact .tail _ (.tail _ (.tail _ (.tail _ (.tail _ (.tail _ (.tail _ (.tail _ (.head _))))))))
theorem sI {W τ:List As} {i:Nat} {x:Nd} {expr:Bool} {vs:List Ab} {Q:Ab->Ay->Prop} (nf:NF W G) (hi:G[i]? =some x) (hC:x.C=427) (hd:Ph W x.inh vs) (h:Q (x.inh.getD .none) ⟨W,τ⟩):P1 Γ A (λo=>Lc o "inherit" expr) Q (.ref x.me) ⟨W,τ⟩:=λ_ ho=>Aeg (nf:=nf) (hi:=hi) (hC:=hC) (hd:=hd) (ho:=ho) (h:=h)
theorem oB (x:Nd) (v:Ab):Of "declared" v (Mw x) (Mw {x with decl:=some v}):=.there (.there (.there (.there (.there (.there (.there .here))))))
theorem sM (x:Nd) (v:Ab):Of "inherit" v (Mw x) (Mw {x with inh:=some v}):=.there (.there (.there (.there (.there (.there (.there (.there .here)))))))
theorem fH {τ:List As} {i:Nat} {x x':Nd} {name:Str} {ov u v:Ab} {Q:Unit->Ay->Prop} (wx:WX G X) (hi:G[i]? =some x) (hC:x.C=427) (ho:cl ov=.ref x.me) (hu:cl u=v) (k:Uy Γ.K 427 name=true) (hm:Of name v (Mw x) (Mw x')) (e:x'.ents=[(.obj x.d,.ns (Mw x')),(.obj x.dep,.idict x.deps),(.obj x.imp,.idict x.imps)])
  (h:Q () ⟨Bi (G.set i x')++X,τ⟩):T Γ A ⟨Bi G++X,τ⟩ (setAttr ov name u) Q:=
 Vt ho hu (Ox (wx.nf.inst _ _ hi)) (sJ hi e) hm (by rw [hC];exact k) h (by show(Mw x).length<=1000;simp [Mw])
set_option tactic.hygienic true in
theorem Wd.setDI (wd:Wd G X) {i:Nat} {x:Nd} (hi:G[i]? =some x) (d n:Option Ab):Wd (G.set i {x with decl:=d,inh:=n}) X:=by
 have K:Gf G (G.set i {x with decl:=d,inh:=n}):=Ls hi rfl
 have look:∀(j:Nat) (y:Nd),(G.set i {x with decl:=d,inh:=n})[j]? =some y->∃y₀,G[j]? =some y₀/\y.me=y₀.me/\y.C=y₀.C/\y.d=y₀.d/\y.bt=y₀.bt/\y.bs=y₀.bs/\y.st=y₀.st/\y.ss=y₀.ss/\y.deps=y₀.deps/\y.imps=y₀.imps:=λj y e=>by
  rcases Mo e with⟨rfl,rfl⟩|⟨_,e⟩
  ·exact⟨x,hi,rfl,rfl,rfl,rfl,rfl,rfl,rfl,rfl,rfl⟩
  ·exact⟨y,e,rfl,rfl,rfl,rfl,rfl,rfl,rfl,rfl,rfl⟩
 have hbs:∀j,Fx (G.set i {x with decl:=d,inh:=n}) j=Fx G j:=λj=>by
  rw [Wr hi]
  split
  ·rename_i e;rw [e,Pw hi]
  ·rfl
 refine⟨⟨⟨?_,?_,?_,?_⟩,⟨?_,?_,?_,?_⟩,K.inj wd.inj,K.root wd.ro,?_,?_⟩,?_⟩
 ·intro j y e;obtain⟨y₀,e₀,h1,h2,h3,_⟩:=look j y e;rw [h1,h2,h3];exact wd.wx.inst _ _ e₀
 ·intro j y e;obtain⟨y₀,e₀,_,_,_,h4,h5,_⟩:=look j y e;rw [K.refs,h4,h5];exact wd.wx.bt _ _ e₀
 ·intro j y e;obtain⟨y₀,e₀,_,_,_,_,_,h6,h7,_⟩:=look j y e;rw [K.refs,h6,h7];exact wd.wx.st _ _ e₀
 ·intro j y e;obtain⟨y₀,e₀,_,h2,_⟩:=look j y e;rw [h2];exact wd.wx.cls _ _ e₀
 ·rw [K.keys];exact wd.gr.keys
 ·intro j y e;obtain⟨y₀,e₀,_,_,_,_,h5,_⟩:=look j y e;rw [h5];exact wd.gr.bs _ _ e₀
 ·intro j y e;obtain⟨y₀,e₀,_,_,_,_,_,_,h7,_⟩:=look j y e;rw [h7,K.len];exact wd.gr.ss _ _ e₀
 ·rw [K.len];exact wd.gr.few
 ·intro j y e;obtain⟨y₀,e₀,_,_,_,_,_,_,h7,_⟩:=look j y e;rw [h7];exact wd.low _ _ e₀
 ·intro j y e
  obtain⟨y₀,e₀,_,_,_,_,_,_,_,h8,_⟩:=look j y e
  obtain⟨dl,D,E⟩:=wd.dep j y₀ e₀
  exact⟨dl,K.depL D h8,λd=>by rw [hbs];exact E d⟩
 ·intro j y e
  obtain⟨y₀,e₀,_,_,_,_,_,_,h7,_,h9⟩:=look j y e
  unfold aH
  rw [h7,h9]
  refine⟨(wd.imp _ _ e₀).1,λk=>?_⟩
  simp only [K.key]
  exact(wd.imp _ _ e₀).2 k
theorem Wd.more {X':List As} (wd:Wd G X) (k:∀e∈X,e∈X'):Wd G X':=⟨wd.toCo.more k,wd.imp⟩
set_option tactic.hygienic true in
theorem tB {i:Nat} {x:Nd} (hi:G[i]? =some x) (d n:Option Ab) (j:Nat):Hc (G.set i {x with decl:=d,inh:=n}) j=Hc G j:=by
 rw [Wi hi]
 split
 ·rename_i e;rw [e,We hi]
 ·rfl
set_option tactic.hygienic true in
theorem iR {i:Nat} {x:Nd} (hi:G[i]? =some x) (d n:Option Ab) (j:Nat):Fx (G.set i {x with decl:=d,inh:=n}) j=Fx G j:=by
 rw [Wr hi]
 split
 ·rename_i e;rw [e,Pw hi]
 ·rfl
theorem aX {i:Nat} {x:Nd} (hi:G[i]? =some x) (d n:Option Ab) {j:Nat} (h:cU G j):cU (G.set i {x with decl:=d,inh:=n}) j:=λk=>by
 simp only [tB hi,iR hi]
 exact h k
end
end
section
theorem Zg {Γ:Bj} {A:Aw} {ι:Type} {W:List As} {Z:ι->List As} {a:Ak} {vs:List Ab} {v:Ab} {pre:List As} {i:ι} {Q:Ab->Ay->Prop} (hv:cl v=.ref a) (hr:kL Γ W Z a vs)
  (h:∀it st Gc,(∀A':Aw,A'.handled=none->Lb Γ A' it Gc vs [(.obj it,st)])->(∀ρ i,Gc ⟨W,ρ++Z i⟩)->(∀A',Vk Γ A' it [(.obj it,st)])->Q (.ref it) ⟨W,(.obj it,st)::(pre++Z i)⟩):T Γ A ⟨W,pre++Z i⟩ (Hu v) Q:=by
 rcases hr with hr|hr
 ·exact Um hv (vs:=vs) (Bq (hr i)) λit=>h it _ _ (λA' hA=>Es (a:=a) (vs:=vs) hA) (λρ i=>Bq (hr i)) λA'=>Gv
 ·exact Qb hv (vs:=vs) (hr i).ext λit=>h it _ _ (λA' hA=>Hd (a:=a) (vs:=vs) hA) (λρ i=>(hr i).ext) λA'=>Qq
noncomputable def My (G:List Nd) (i:Nat) (js:List Nat):List Nat:=js.filter λj=>!decide (j∈Hc G i)
theorem oK {G:List Nd} {i j:Nat} {a:List Nat} (h:(!decide (j∈Hc G i))=false):My G i (a++[j])=My G i a:=by
 unfold My
 rw [Ez,Gj,if_neg (by rw [h];exact Bool.false_ne_true)]
 exact Cj _
theorem iK {G:List Nd} {i j:Nat} {a:List Nat} (h:(!decide (j∈Hc G i))=true):My G i (a++[j])=My G i a++[j]:=by
 unfold My
 rw [Ez,Gj,if_pos h,Ow]
theorem nL.rowF {Γ:Bj} {ι:Type} {W ρ τ:List As} {a:Ak} {vs:List Ab} (h:nL Γ ⟨W,τ⟩ a vs) {f:ι->List As} (hf:∀i,∃ρ,f i=ρ++τ):kL Γ W f a vs:=by
 rcases h with h|h
 ·exact .inl λi=>by obtain⟨ρ,e⟩:=hf i;rw [e];exact Bq h
 ·exact .inr λi=>by obtain⟨ρ,e⟩:=hf i;rw [e];exact h.ext
noncomputable abbrev Qy (L:Ak):Env:=Gk "_classImplements_ordered" (fScope (topStmt 21)) L 458 (.ref 457) [("spec",L+1)]
noncomputable abbrev oV (L me:Ak) (b a n s l o r:Option Ab) (τ:List As):List As:=(.obj (L+1),.cell (some (.ref me)))::(.var L "before",.val b)::(.var L "after",.val a)::(.var L "new_declared",.val n)::(.var L "seen",.val s)::(.var L "lst",.val l)::(.var L "b",.val o)::(.var L "bases",.val r)::τ
section
variable {Γ:Bj} {A:Aw} {G:List Nd} {X:List As} {σ:Ay}
theorem jE {τ:List As} {i:Nat} {x z:Nd} {L b a:Ak} {jb ja:List Nat} {Q:Fv->Ay->Prop} (wd:Wd G X) (hi:G[i]? =some x) (ez:G[0]? =some z) (hi0:i≠0) (hroot:x.root=.ref z.me) (hA':Rm (A.deeper (Qy L)) 5) (hh:A.handled=none)
  (rb:nL Γ ⟨Bi G++X,τ⟩ b (refs G jb)) (ra:nL Γ ⟨Bi G++X,τ⟩ a (refs G ja)) (hjb:∀j∈jb,0 < j/\j < G.length) (hja:∀j∈ja,0 < j/\j < G.length) (lb:jb.length<=20) (la:ja.length<=20)
  (h:∀r1 r2,T Γ (A.deeper (Qy L)) ⟨Bi G++X,(.obj r2,.list (refs G (My G i ja)))::(.obj r1,.list (refs G (My G i jb)))::oV L x.me (some (.ref r1)) (some (.ref r2)) none none none none none τ⟩ (Cm ((fBody (topStmt 21)).drop 2) (Qy L)) Q):
  T Γ (A.deeper (Qy L)) ⟨Bi G++X,oV L x.me (some (.ref b)) (some (.ref a)) none none none none none τ⟩ (Cm (fBody (topStmt 21)) (Qy L)) Q:=by
 have hz0:0 < G.length:=(Aj.mp ez).1
 refine Am (Qh (Ac (v:=.ref b) (by walk_at "mem") λv hv=>Zg (W:=Bi G++X) (Z:=λ_:Unit=>oV L x.me (some (.ref b)) (some (.ref a)) none none none none none τ) (i:=()) (pre:=[]) hv (rb.rowF (ρ:=[]) λ_=>⟨[_,_,_,_,_,_,_,_],rfl⟩) λit st Gc hFd hGc hSf=>?_))
 refine⟨λj=>.ref (Fm G j),jb,it,[_],Gc,λ_ _=>Bi G++X,λ_ _=>oV L x.me (some (.ref b)) (some (.ref a)) none none none none none τ,λa _=>refs G (My G i a),λ_ _=>True,(),⟨rfl,rfl,hFd _ hh⟩,hSf _,trivial,rfl,λ_ _ _ _=>hGc _ (),λa d _ e _=>?_,λC acc a j d ρ' _ e _=>?_,λr1 _ _=>?_⟩
 ·rw [e,Ah]at lb
  have:=Bu (λj=>!decide (j∈Hc G i)) a
  rw [Bf,Av]
  show(List.filter _ _).length<=_
  lia
 ·have hj:=hjb j (by rw [e];exact Aa _ (.head _))
  obtain⟨y,ey⟩:=Dl hj.2
  rw [Br ey]
  refine Jl (Ep (Po (Nh (Ej (Fi (An (v:=.ref x.me) rfl (by walk_at "mem") (Ou wd.wx.nf hi (fQ Γ) ⟨.inl (by kernel_rfl),?_⟩)))))))
  refine Ag (Di (v:=.ref y.me) (by walk_at "mem") (.head _) (Ao λws hw=>(kZ (x:=x) (y:=y) wd.wx.nf wd.gr (wd.imp _ _ hi) (hA'.le (by decide)) hi ey ?_ ws hw).T))
  refine(Fc ⟨λhb=>?_,λhb=>?_⟩)
  ·refine Po (Ep (Ex (Ar (Di (v:=.ref y.me) (by walk_at "mem") (.head _) (Ef (x:=x) wd.wx.nf hi (fF Γ) (.tail _ (.head _)) (An (v:=.ref x.me) rfl (by walk_at "mem") ⟨rfl,rfl⟩) ?_ (by rw [hroot];rfl))))))
   rw [hroot]
   refine(Wv (Ox (wd.wx.nf.inst _ _ ey)) (Ox (wd.wx.nf.inst _ _ ez)) ⟨_,rfl,λhb'=>?_,λ_=>⟨λ_=>Ws ⟨λhb=>(by cases hb),λ_=>⟨_,_,_,As.le_refl _,(),rfl,by rw [oK hb],trivial⟩⟩,λhb=>(by cases hb)⟩⟩)
   have:=wd.inj j 0 y z ey ez (of_decide_eq_true hb')
   lia
  ·exact⟨λ_=>Di (v:=.ref y.me) (by walk_at "mem") (.head _) ⟨_,_,_,As.le_refl _,(),rfl,by rw [iK hb,Ki,<-Br ey];rfl,trivial⟩,λhb=>(by cases hb)⟩
 refine⟨_,_,by walk_at "upd",?_⟩
 refine Fb.go ?_
 refine Am (Qh (Ac (v:=.ref a) (by walk_at "mem") λv hv=>Zg (W:=Bi G++X) (Z:=λ_:Unit=>((.obj r1,.list (refs G (My G i jb)))::oV L x.me (some (.ref r1)) (some (.ref a)) none none none none none τ)) (i:=()) (pre:=[]) hv (ra.rowF (ρ:=[]) λ_=>⟨[_,_,_,_,_,_,_,_,_],rfl⟩) λit st Gc hFd hGc hSf=>?_))
 refine⟨λj=>.ref (Fm G j),ja,it,[_],Gc,λ_ _=>Bi G++X,λ_ _=>((.obj r1,.list (refs G (My G i jb)))::oV L x.me (some (.ref r1)) (some (.ref a)) none none none none none τ),λa _=>refs G (My G i a),λ_ _=>True,(),⟨rfl,rfl,hFd _ hh⟩,hSf _,trivial,rfl,λ_ _ _ _=>hGc _ (),λa d _ e _=>?_,λC acc a j d ρ' _ e _=>?_,λr2 _ _=>?_⟩
 ·rw [e,Ah]at la
  have:=Bu (λj=>!decide (j∈Hc G i)) a
  rw [Bf,Av]
  show(List.filter _ _).length<=_
  lia
 ·have hj:=hja j (by rw [e];exact Aa _ (.head _))
  obtain⟨y,ey⟩:=Dl hj.2
  rw [Br ey]
  refine Jl (Ep (Po (Nh (Ej (Fi (An (v:=.ref x.me) rfl (by walk_at "mem") (Ou wd.wx.nf hi (fQ Γ) ⟨.inl (by kernel_rfl),?_⟩)))))))
  refine Ag (Di (v:=.ref y.me) (by walk_at "mem") (.head _) (Ao λws hw=>(kZ (x:=x) (y:=y) wd.wx.nf wd.gr (wd.imp _ _ hi) (hA'.le (by decide)) hi ey ?_ ws hw).T))
  refine(Fc ⟨λhb=>?_,λhb=>?_⟩)
  ·refine Po (Ep (Ex (Ar (Di (v:=.ref y.me) (by walk_at "mem") (.head _) (Ef (x:=x) wd.wx.nf hi (fF Γ) (.tail _ (.head _)) (An (v:=.ref x.me) rfl (by walk_at "mem") ⟨rfl,rfl⟩) ?_ (by rw [hroot];rfl))))))
   rw [hroot]
   refine(Wv (Ox (wd.wx.nf.inst _ _ ey)) (Ox (wd.wx.nf.inst _ _ ez)) ⟨_,rfl,λhb'=>?_,λ_=>⟨λ_=>Ws ⟨λhb=>(by cases hb),λ_=>⟨_,_,_,As.le_refl _,(),rfl,by rw [oK hb],trivial⟩⟩,λhb=>(by cases hb)⟩⟩)
   have:=wd.inj j 0 y z ey ez (of_decide_eq_true hb')
   lia
  ·exact⟨λ_=>Di (v:=.ref y.me) (by walk_at "mem") (.head _) ⟨_,_,_,As.le_refl _,(),rfl,by rw [iK hb,Ki,<-Br ey];rfl,trivial⟩,λhb=>(by cases hb)⟩
 refine⟨_,_,by walk_at "upd",?_⟩
 refine Fb.go ?_
 exact h r1 r2
end
end
section
noncomputable abbrev pV (G:List Nd) (L me t r1 r2 nd sn:Ak) (t0:List Ab) (f1 f2:List Nat) (lo bo bb:Option Ab) (acc:List Nat) (τ:List As):List As:=
 (.obj t,.tup t0)::(.obj sn,.iset (acc.map (Cu G)))::(.obj nd,.list (refs G acc))::(.obj r2,.list (refs G f2))::(.obj r1,.list (refs G f1))::oV L me (some (.ref r1)) (some (.ref r2)) (some (.ref nd)) (some (.ref sn)) lo bo bb τ
theorem eB {row:List Nat} {a b:List Nat} {j:Nat} {acc:List Nat} (e:row=a++j::b):acc++Ck acc (row.take (a.length+1))=if(acc++Ck acc a).contains j then acc++Ck acc a else(acc++Ck acc a)++[j]:=by
 have:row.take (a.length+1)=a++[j]:=by
  rw [e,show a++j::b=(a++[j])++b by simp]
  exact Fh (by simp)
 rw [this,qS]
section
variable {Γ:Bj} {A:Aw} {G:List Nd} {X:List As} {σ:Ay}
theorem tH {W τ:List As} {L me r1 r2 dt:Ak} {f1 f2 jd:List Nat} {Q:Fv->Ay->Prop} (nf:NF W G) (g:Gr G) (hh:A.handled=none)
  (hl:∀j∈f1++jd++f2,j < G.length) (hz:(f1++jd++f2).length<=100) (rd:Ew Γ ⟨W,τ⟩ dt (refs G jd))
  (hD:∀τ' Q,(∃ρ,τ'=ρ++τ)->Q (.ref dt) ⟨W,τ'⟩->∀ov,cl ov=.ref me->T Γ (A.deeper (Qy L)) ⟨W,τ'⟩ (Lc ov "declared" true) Q)
  (h:∀t nd sn lo bo,T Γ (A.deeper (Qy L)) ⟨W,pV G L me t r1 r2 nd sn [.ref r1,.ref dt,.ref r2] f1 f2 lo bo none (Ck [] (f1++jd++f2)) τ⟩ (Cm ((fBody (topStmt 21)).drop 5) (Qy L)) Q):
  T Γ (A.deeper (Qy L)) ⟨W,(.obj r2,.list (refs G f2))::(.obj r1,.list (refs G f1))::oV L me (some (.ref r1)) (some (.ref r2)) none none none none none τ⟩ (Cm ((fBody (topStmt 21)).drop 2) (Qy L)) Q:=by
 refine Am (Bl (Hv (Ao ⟨by rw [Av];exact Ca _,λnd=>⟨_,_,by walk_at "upd",?_⟩⟩)))
 refine Fb.go ?_
 refine Am (Bl (Bz (Az (v:=.type "set") (by kernel_rfl) (by decide+kernel) (by decide) ⟨.inr (.inr ⟨_,rfl⟩),?_⟩)))
 refine Ao λws hw=>eX (λsn=>⟨_,_,by walk_at "upd",?_⟩) ws hw
 refine Fb.go ?_
 refine Am (Pt (Kh (k:=0) (Ag (Ac (v:=.ref r1) (by walk_at "mem") (Ag (Iz (An (v:=.ref me) rfl (by walk_at "mem") λo ho=>hD _ _ ⟨[_,_,_,_,_,_,_,_,_,_,_,_],rfl⟩ ?_ o ho)))))))
 refine Ag (Ac (v:=.ref r2) (Ae (.tail _ (.tail _ (.tail _ (.tail _ (.tail _ (.tail _ (.head _)))))))) (Ao ⟨by rw [Av];exact By rfl,λt=>?_⟩))
 let Z:Option Ab×Option Ab×List Nat->List As:=λi=>pV G L me t r1 r2 nd sn [.ref r1,.ref dt,.ref r2] f1 f2 i.1 i.2.1 none i.2.2 τ
 show∀v,cl v=.ref t->T Γ (A.deeper (Qy L)) ⟨W,Z (none,none,[])⟩ (Hu v) _
 intro v hv
 have rows:∀(k:Nat) v,([.ref r1,.ref dt,.ref r2]:List Ab)[k]? =some v->∃a row,v=.ref a/\[f1,jd,f2][k]? =some row/\kL Γ W Z a (refs G row):=by
  intro k v e
  match k,e with
  |0,e=>exact⟨r1,f1,by simpa using e.symm,rfl,.inl λi=>Ae (.tail _ (.tail _ (.tail _ (.tail _ (.head _)))))⟩
  |1,e=>exact⟨dt,jd,by simpa using e.symm,rfl,.inr λi=>rd.ext (ext:=[_,_,_,_,_,_,_,_,_,_,_,_,_])⟩
  |2,e=>exact⟨r2,f2,by simpa using e.symm,rfl,.inl λi=>Ae (.tail _ (.tail _ (.tail _ (.head _))))⟩
 have fl:([f1,jd,f2]:List (List Nat)).flatten=f1++jd++f2:=by simp
 have sub:∀k,∃r,([f1,jd,f2].take k).flatten++r=f1++jd++f2:=λk=>⟨([f1,jd,f2].drop k).flatten,by rw [<-List.flatten_append,List.take_append_drop,fl]⟩
 refine Qb hv (vs:=[.ref r1,.ref dt,.ref r2]) (.of_mem (Ae (.head _))) λit=>?_
 refine⟨it,_,_,_,_,_,⟨rfl,rfl,Hd (a:=t) (vs:=[.ref r1,.ref dt,.ref r2]) hh⟩,λd σ=>∃lo bo,σ=⟨W,Z (lo,bo,Ck [] ([f1,jd,f2].take d.length).flatten)⟩,⟨none,none,rfl⟩,?_,?_,?_⟩
 ·rintro d _ ⟨lo,bo,rfl⟩
  exact .of_mem (Ae (.head _))
 ·rintro d v r u ρ _ he hu ⟨lo,bo,rfl⟩ Kq hK
  have hk:([.ref r1,.ref dt,.ref r2]:List Ab)[d.length]? =some v:=by rw [<-he];simp
  obtain⟨a,row,rfl,hrow,hR⟩:=rows _ _ hk
  have hfl:([f1,jd,f2].take (d++[Bt a]).length).flatten=([f1,jd,f2].take d.length).flatten++row:=by
   rw [Ah,Bo,Mu,hrow]
   simp
  let acc:=Ck [] ([f1,jd,f2].take d.length).flatten
  have hacc:∀n,acc++Ck acc (row.take n)=Ck [] (([f1,jd,f2].take d.length).flatten++row.take n):=λn=>by
   rw [Ho,Fq]
  have hin:∀n,(∀j∈acc++Ck acc (row.take n),j < G.length)/\(acc++Ck acc (row.take n)).length<=100:=λn=>by
   obtain⟨r',e⟩:=sub (d++[Bt a]).length
   rw [hfl]at e
   rw [hacc]
   constructor
   ·intro j hj
    have:=(Mj _ _ j hj).1
    refine hl j ?_
    rw [<-e]
    rcases Ai.mp this with h|h
    ·exact Af _ (Af _ h)
    ·exact Af _ (Aa _ (List.mem_of_mem_take h))
   ·have h1:=Og (([f1,jd,f2].take d.length).flatten++row.take n) []
    have h2:=congrArg Ia e
    simp only [Ah,Fs]at h1 h2 hz ⊢
    lia
  have hrl:∀j∈row,j < G.length:=λj hj=>by
   obtain⟨r',e⟩:=sub (d++[Bt a]).length
   rw [hfl]at e
   exact hl j (by rw [<-e];exact Af _ (Aa _ hj))
  refine Ct hu (by walk_at "upd") ?_
  refine Am (Pt (Ac (v:=.ref a) (by walk_at "mem") λv hv=>cC (W:=W) (Z:=Z) (i:=(some (.ref a),bo,acc)) (pre:=ρ) hv hR λit2 st Gc hFd hGc=>?_))
  refine⟨it2,[_],Gc,refs G row,_,_,⟨rfl,rfl,hFd _ hh⟩,λd' σ=>∃bo',σ=⟨W,ρ++Z (some (.ref a),bo',acc++Ck acc (row.take d'.length))⟩,⟨bo,by simp [Ck,Z,acc]⟩,?_,?_,?_⟩
  ·rintro d' _ ⟨bo',rfl⟩
   exact hGc _ _
  ·rintro d' v r' u' ρ' _ he' hu' ⟨bo',rfl⟩ Kq2 hK2
   obtain⟨a',j,b',e1,e2,rfl,_⟩:=Tl he'
   have hj:=hrl j (by rw [e1];simp)
   obtain⟨y,ey⟩:=Dl hj
   rw [Br ey]at hu'
   have hdl:d'.length=a'.length:=by rw [e2,Bf]
   have ht:row.take d'.length=a':=by rw [hdl,e1];simp
   have hs:=eB (acc:=acc) e1
   have hlen':(d'++[Bt (Fm G j)]).length=a'.length+1:=by rw [Ah,hdl];rfl
   have hin':=hin d'.length
   rw [ht]at hin' ⊢
   have hkc:=Ss g hin'.1 hj
   rw [Gd ey]at hkc
   refine Ct hu' (by walk_at "upd") ?_
   refine Am (Hs (Ar (Ef (x:=y) nf ey (Ly Γ) (.head _) (Ac (v:=.ref y.me) (by walk_at "mem") ⟨rfl,rfl⟩) (Ac (v:=.ref sn) (by walk_at "mem") (Un (ks:=(acc++Ck acc a').map (Cu G)) (by walk_at "mem") ⟨_,rfl,λhb=>?_,λhb=>?_⟩)))))
   ·rw [hkc]at hb
    have hc:(acc++Ck acc a').contains j=false:=by simpa using hb
    rw [hc]at hs
    refine Am (Fy (Fi (Ac (v:=.ref nd) (by walk_at "mem") (Cz Cr Dp Do (Ik (vs:=refs G (acc++Ck acc a')) (by walk_at "mem")) ⟨.inr (.inl ⟨_,rfl⟩),?_⟩))))
    refine Ag (Ac (v:=.ref y.me) (by walk_at "mem") (Ao (Lo (by walk_at "upd") (by rw [Bf,Av];exact Bw hin'.2 (by decide)) ?_)))
    refine Fb.go ?_
    refine Am (Fy (Fi (Ac (v:=.ref sn) (by walk_at "mem") (Cz Qj PySem.F.slot_set_add PySem.F.type_set_add (fM (ks:=(acc++Ck acc a').map (Cu G)) (by walk_at "mem")) ⟨.inr (.inl ⟨_,rfl⟩),?_⟩))))
    refine Ag (Ef (x:=y) nf ey (Ly Γ) (v:=.int y.key 0) (.head _) (Ac (v:=.ref y.me) (by walk_at "mem") ⟨rfl,rfl⟩) (Ao (Yk (by walk_at "upd") (by rw [Ap];exact Hk (Jq hin'.2) (by decide)) ?_)))
    refine Fb.go (Ci ?_)
    refine Fb.go (Ci (hK2 .next _ ⟨_,_,As.le_refl _,some (.ref y.me),?_⟩))
    rw [hlen',hs,if_neg (by decide)]
    have e3:((acc++Ck acc a')++[j]).map (Cu G)=(acc++Ck acc a').map (Cu G)++[y.key]:=by rw [Bh,Cf,Kp,Gd ey]
    have e4:refs G ((acc++Ck acc a')++[j])=refs G (acc++Ck acc a')++[.ref y.me]:=by rw [<-Rp,Br ey]
    show _=(⟨W,ρ++((.obj t,.tup [.ref r1,.ref dt,.ref r2])::(.obj sn,.iset (((acc++Ck acc a')++[j]).map (Cu G)))::(.obj nd,.list (refs G ((acc++Ck acc a')++[j])))::(.obj r2,.list (refs G f2))::(.obj r1,.list (refs G f1))::oV L me (some (.ref r1)) (some (.ref r2)) (some (.ref nd)) (some (.ref sn)) (some (.ref a)) (some (.ref y.me)) none τ)⟩:Ay)
    rw [e3,e4]
   ·rw [hkc]at hb
    have hc:(acc++Ck acc a').contains j=true:=by rw [Jx]at hb;exact hb
    rw [hc]at hs
    refine Ci ?_
    refine Fb.go (Ci (hK2 .next _ ⟨_,_,As.le_refl _,some (.ref y.me),?_⟩))
    rw [hlen',hs,if_pos rfl]
  rintro _ ⟨bo',rfl⟩
  rw [Bf,Em]
  refine Ci ?_
  refine Fb.go (Ci (hK .next _ ⟨W,Z (some (.ref a),bo',acc++Ck acc row),As.le_refl _,some (.ref a),bo',?_⟩))
  rw [hfl,Ho,Fq]
 rintro _ ⟨lo,bo,rfl⟩
 refine Ci ?_
 refine Fb.go ?_
 have:=h t nd sn lo bo
 rw [<-fl]at this
 exact this
end
end
section
theorem Mp.right {W X:List As} {o:Option Ab} {vs:List Ab} (h:Mp X o vs):Mp (W++X) o vs:=h.more λ_ he=>Aa _ he
theorem Ph.right {W X:List As} {o:Option Ab} {vs:List Ab} (h:Ph X o vs):Ph (W++X) o vs:=h.more λ_ he=>Aa _ he
section
variable {Γ:Bj} {A:Aw} {G:List Nd} {X:List As} {σ:Ay}
theorem fR {W:List As} {i:Nat} {x:Nd} {vs:List Ab} (nf:NF W G) (hi:G[i]? =some x) (hC:x.C=427) (hd:Mp W x.decl vs):
  ∃dt,(∀τ,Ew Γ ⟨W,τ⟩ dt vs)/\∀(A:Aw) (τ:List As) (ov:Ab) (expr:Bool) (Q:Ab->Ay->Prop),cl ov=.ref x.me->Q (.ref dt) ⟨W,τ⟩->T Γ A ⟨W,τ⟩ (Lc ov "declared" expr) Q:=by
 rcases hd with⟨e,rfl⟩|⟨t,e,m⟩
 ·refine⟨424,λτ=>.of_K (zB Γ),λA τ ov expr Q ho q=>Ux (a:=.ref 424) ho (Ox (nf.inst i x hi)) (Ox (nf.ns i x hi)) (by rw [hC];exact wR Γ) (.inl ?_) q⟩
  unfold Mw
  rw [e]
  exact .tail _ (.tail _ (.tail _ (.tail _ (.tail _ (.tail _ (.tail _ (.head _)))))))
 ·refine⟨t,λτ=>.of_mem (Ox m),λA τ ov expr Q ho q=>Qp (v:=.ref t) ho (Ox (nf.inst i x hi)) (Ox (nf.ns i x hi)) (by rw [hC];exact mF Γ) ?_ q (by rfl)⟩
  unfold Mw
  rw [e]
  exact .tail _ (.tail _ (.tail _ (.tail _ (.tail _ (.tail _ (.tail _ (.head _)))))))
theorem tG {τ:List As} {i:Nat} {x:Nd} {L t r1 r2 nd sn:Ak} {t0:List Ab} {f1 f2 bs:List Nat} {lo bo:Option Ab} {Q:Fv->Ay->Prop} (wd:Wd G X) (lc:∀j,j < G.length->j≠i->cU G j) (hi:G[i]? =some x) (hA:Rm (A.deeper (Qy L)) 30) (hh:A.handled=none) (hF:AF A ⟨[],τ⟩) (hn:bs.Nodup) (hl:∀b∈bs,b < i) (hz:bs.length<=1000)
  (h:∀G' X' bt ρ,Wd G' X'->Jj (G.set i {x with bt:=bt,bs:=bs}) G'->(∀e∈X,e∈X')->(∀j,j < G'.length->Tx G' j)->Q .next ⟨Bi G'++X',ρ++τ⟩):
  T Γ (A.deeper (Qy L)) ⟨Bi G++X,pV G L x.me t r1 r2 nd sn t0 f1 f2 lo bo (some (.ref nd)) bs τ⟩ (Cm ((fBody (topStmt 21)).drop 8) (Qy L)) Q:=by
 refine Am (Fy (Fi (An (v:=.ref x.me) rfl (by walk_at "mem") (Ou wd.wx.nf hi (Uk Γ) ⟨.inl (by kernel_rfl),?_⟩))))
 refine Ag (Bz (Az (v:=.type "tuple") (by kernel_rfl) (by decide+kernel) (by decide) ⟨.inr (.inr ⟨_,rfl⟩),?_⟩))
 refine Ag (Ac (v:=.ref nd) (by walk_at "mem") (Ao λws hw=>Fp (vs:=refs G bs) (Ae (.tail _ (.tail _ (.head _)))) (by rw [Bf];lia) (λt2=>?_) ws hw))
 refine T.conseq Rn (Ao λws hw=>?_)
 have hFt:AF (A.deeper (Qy L)) ⟨[],pV G L x.me t r1 r2 nd sn t0 f1 f2 lo bo (some (.ref nd)) bs τ⟩:=hF.push rfl rfl (L:=L) (x:="before") (c:=some (.ref r1)) (by walk_at "mem") λp hp=>Aa [_,_,_,_,_,_,_,_,_,_,_,_,_] hp
 refine(Vr (X:=(.obj t2,.tup (refs G bs))::X) (τ:=pV G L x.me t r1 r2 nd sn t0 f1 f2 lo bo (some (.ref nd)) bs τ) (bt:=t2) (bs:=bs) (wd.more λe he=>.tail _ he) lc hA hh hFt hi (.inl (.head _)) hn hl (λG' X' w1 w2 w3 w4=>?_) ws hw).T
 exact Fb.go (Ci (h G' X' t2 [_,_,_,_,_,_,_,_,_,_,_,_,_] w1 w2 (λe he=>w3 _ (.tail _ he)) w4))
theorem pG {τ:List As} {i:Nat} {x:Nd} {L t r1 r2 nd sn ht:Ak} {t0:List Ab} {f1 f2 acc hs:List Nat} {lo bo:Option Ab} {Q:Fv->Ay->Prop} (wd:Wd G X) (hi:G[i]? =some x) (hC:x.C=427) (hh:A.handled=none) (hin:Ph X x.inh (refs G hs)) (he:x.inh=some (.ref ht))
  (hacc:∀j∈acc,j < G.length) (hhs:∀j∈hs,j < G.length) (hz:acc.length+hs.length<=1000)
  (h:∀bo,T Γ (A.deeper (Qy L)) ⟨Bi G++X,pV G L x.me t r1 r2 nd sn t0 f1 f2 lo bo (some (.ref nd)) (acc++Ck acc hs) τ⟩ (Cm ((fBody (topStmt 21)).drop 8) (Qy L)) Q):
  T Γ (A.deeper (Qy L)) ⟨Bi G++X,pV G L x.me t r1 r2 nd sn t0 f1 f2 lo bo (some (.ref nd)) acc τ⟩ (Cm ((fBody (topStmt 21)).drop 7) (Qy L)) Q:=by
 have hm:(Er.obj ht,CO.tup (refs G hs))∈X:=by
  rcases hin with⟨e|e,_⟩|⟨t',e,m⟩
  ·rw [he]at e;cases e
  ·rw [he]at e;cases e
  ·rw [he]at e;cases e;exact m
 refine Am (Hs (Ar (Iz (An (v:=.ref x.me) rfl (by walk_at "mem") (sI wd.wx.nf hi hC hin.right ?_)))))
 rw [he]
 refine Jt (Kr (by rfl) ⟨_,rfl,λ_=>?_,λhb=>(by cases hb)⟩)
 refine Am (Pt (Iz (An (v:=.ref x.me) rfl (by walk_at "mem") (sI wd.wx.nf hi hC hin.right ?_))))
 rw [he]
 let Z:Option Ab->List Nat->List As:=λbo acc=>pV G L x.me t r1 r2 nd sn t0 f1 f2 lo bo (some (.ref nd)) acc τ
 refine(Hf (vs:=refs G hs) (.of_mem (Ox (Aa _ hm))) λit=>?_)
 refine⟨it,_,_,_,_,_,⟨rfl,rfl,Hd (a:=ht) (vs:=refs G hs) hh⟩,λd σ=>∃bo,σ=⟨Bi G++X,Z bo (acc++Ck acc (hs.take d.length))⟩,⟨bo,by simp [Ck,Z]⟩,?_,?_,?_⟩
 ·rintro d _ ⟨bo,rfl⟩
  exact .of_mem (Ox (Aa _ hm))
 ·rintro d v r u ρ _ he' hu ⟨bo,rfl⟩ Kq hK
  obtain⟨a',j,b',e1,e2,rfl,_⟩:=Tl he'
  have hj:=hhs j (by rw [e1];simp)
  obtain⟨y,ey⟩:=Dl hj
  rw [Br ey]at hu
  have hdl:d.length=a'.length:=by rw [e2,Bf]
  have ht':hs.take d.length=a':=by rw [hdl,e1];simp
  have hs':=eB (acc:=acc) e1
  have hlen':(d++[Bt (Fm G j)]).length=a'.length+1:=by rw [Ah,hdl];rfl
  have hin1:∀k∈acc++Ck acc a',k < G.length:=λk hk=>by
   rcases Ai.mp hk with h|h
   ·exact hacc k h
   ·exact hhs k (by rw [e1];exact Af _ (Mj _ _ k h).1)
  have hin2:(acc++Ck acc a').length<=1000:=by
   have h1:=Og a' acc
   have h2:=congrArg Ia e1
   simp only [Ah,Ft]at h2 ⊢
   lia
  rw [ht']
  have hkc:=Ss wd.gr hin1 hj
  rw [Gd ey]at hkc
  refine Ct hu (by walk_at "upd") ?_
  refine Am (Hs (Ar (Ef (x:=y) wd.wx.nf ey (Ly Γ) (.head _) (Ac (v:=.ref y.me) (by walk_at "mem") ⟨rfl,rfl⟩) (Ac (v:=.ref sn) (by walk_at "mem") (Un (ks:=(acc++Ck acc a').map (Cu G)) (by walk_at "mem") ⟨_,rfl,λhb=>?_,λhb=>?_⟩)))))
  ·rw [hkc]at hb
   have hc:(acc++Ck acc a').contains j=false:=by simpa using hb
   rw [hc]at hs'
   refine Am (Fy (Fi (Ac (v:=.ref sn) (by walk_at "mem") (Cz Qj PySem.F.slot_set_add PySem.F.type_set_add (fM (ks:=(acc++Ck acc a').map (Cu G)) (by walk_at "mem")) ⟨.inr (.inl ⟨_,rfl⟩),?_⟩))))
   refine Ag (Ef (x:=y) wd.wx.nf ey (Ly Γ) (v:=.int y.key 0) (.head _) (Ac (v:=.ref y.me) (by walk_at "mem") ⟨rfl,rfl⟩) (Ao (Yk (by walk_at "upd") (by rw [Ap];exact Hk (Jq hin2) (by decide)) ?_)))
   refine Fb.go ?_
   refine Am (Fy (Fi (Ac (v:=.ref nd) (by walk_at "mem") (Cz Cr Dp Do (Ik (vs:=refs G (acc++Ck acc a')) (by walk_at "mem")) ⟨.inr (.inl ⟨_,rfl⟩),?_⟩))))
   refine Ag (Ac (v:=.ref y.me) (by walk_at "mem") (Ao (Lo (by walk_at "upd") (by rw [Bf,Av];exact Bw hin2 (by decide)) ?_)))
   refine Fb.go (Ci ?_)
   refine Fb.go (Ci (hK .next _ ⟨_,_,As.le_refl _,some (.ref y.me),?_⟩))
   rw [hlen',hs',if_neg (by decide)]
   have e3:((acc++Ck acc a')++[j]).map (Cu G)=(acc++Ck acc a').map (Cu G)++[y.key]:=by rw [Bh,Cf,Kp,Gd ey]
   have e4:refs G ((acc++Ck acc a')++[j])=refs G (acc++Ck acc a')++[.ref y.me]:=by rw [<-Rp,Br ey]
   show _=(⟨Bi G++X,(.obj t,.tup t0)::(.obj sn,.iset (((acc++Ck acc a')++[j]).map (Cu G)))::(.obj nd,.list (refs G ((acc++Ck acc a')++[j])))::(.obj r2,.list (refs G f2))::(.obj r1,.list (refs G f1))::oV L x.me (some (.ref r1)) (some (.ref r2)) (some (.ref nd)) (some (.ref sn)) lo (some (.ref y.me)) (some (.ref nd)) τ⟩:Ay)
   rw [e3,e4]
  ·rw [hkc]at hb
   have hc:(acc++Ck acc a').contains j=true:=by rw [Jx]at hb;exact hb
   rw [hc]at hs'
   refine Ci ?_
   refine Fb.go (Ci (hK .next _ ⟨_,_,As.le_refl _,some (.ref y.me),?_⟩))
   rw [hlen',hs',if_pos rfl]
 rintro _ ⟨bo,rfl⟩
 rw [Bf,Em]
 refine Ci ?_
 refine Fb.go (Ci ?_)
 refine Fb.go ?_
 exact h bo
end
end
section
section
variable {Γ:Bj} {A:Aw} {G:List Nd} {X:List As} {σ:Ay}
noncomputable def Ma (G:List Nd) (i:Nat) (jb jd ja:List Nat):List Nat:=Ck [] (My G i jb++jd++My G i ja)
theorem Wp {i:Nat} {js:List Nat}:∀j∈My G i js,j∈js:=λj h=>(Cs.mp h).1
theorem iM {i:Nat} {js:List Nat}:(My G i js).length<=js.length:=Bu _ _
theorem tL {i:Nat} {jb jd ja:List Nat}:∀j∈Ma G i jb jd ja,j∈jb\/j∈jd\/j∈ja:=λj h=>by
 have:=(Mj _ _ j h).1
 rcases Ai.mp this with h|h
 ·rcases Ai.mp h with h|h
  ·exact .inl (Wp j h)
  ·exact .inr (.inl h)
 ·exact .inr (.inr (Wp j h))
theorem Yj {τ:List As} {i:Nat} {x:Nd} {b a:Ak} {jb ja jd hs:List Nat} {Q:Ab->Ay->Prop} (wd:Wd G X) (lc:∀j,j < G.length->j≠i->cU G j) (hi:G[i]? =some x) (hi0:0 < i) (hC:x.C=427) (hd:Mp X x.decl (refs G jd)) (hn:Ph X x.inh (refs G hs)) (hhl:x.inh=none\/x.inh=some .none->hs=[])
  (rb:nL Γ ⟨Bi G++X,τ⟩ b (refs G jb)) (ra:nL Γ ⟨Bi G++X,τ⟩ a (refs G ja)) (hjb:∀j∈jb,0 < j/\j < i) (hja:∀j∈ja,0 < j/\j < i) (hjd:∀j∈jd,j < i) (hhs:∀j∈hs,j < i) (lb:jb.length<=20) (la:ja.length<=20) (ld:jd.length<=20) (lh:hs.length<=20)
  (hA:Rm A 31) (hh:A.handled=none) (hF:AF A ⟨[],τ⟩)
  (h:∀G' X' t bt,Wd G' X'->Jj (G.set i {x with decl:=some (.ref t),bt:=bt,bs:=Ma G i jb jd ja++Ck (Ma G i jb jd ja) hs}) G'->(Er.obj t,CO.tup (refs G (Ma G i jb jd ja)))∈X'->(∀e∈X,e∈X')->(∀j,j < G'.length->Tx G' j)->Q .none ⟨Bi G'++X',τ⟩):
  ∀ws,ws.map cl=[.ref x.me,.ref b,.ref a]->TC Γ A ⟨Bi G++X,τ⟩ (.ref 458) ws [] Q:=λws hw=>by
 have hil:=(Aj.mp hi).1
 obtain⟨z,ez⟩:=Dl (show 0 < G.length by lia)
 have hroot:x.root=.ref z.me:=by rw [wd.ro _ _ hi];unfold Vy;rw [if_neg (by lia),Br ez]
 refine Wb (body:=fBody (topStmt 21)) (bs:=[("spec",.ref x.me),("before",.ref b),("after",.ref a)]) ["before","after","new_declared","seen","lst","b","bases"] (wI Γ) (by kernel_rfl) hA.room ?_ (λL=>?_) (by rfl) (by decide) (by decide) (by rfl) (by rfl) (by rfl) ws [] hw rfl
 ·intro ws kws hw hk
  obtain⟨w₁,w₂,w₃,rfl,e1,e2,e3⟩:=Us hw
  cases Od.mp hk
  exact⟨[("spec",w₁),("before",w₂),("after",w₃)],by simp [e1,e2,e3],λs X=>kp_binds X λS=>by kernel_rfl⟩
 show T Γ (A.deeper (Qy L)) ⟨Bi G++X,oV L x.me (some (.ref b)) (some (.ref a)) none none none none none τ⟩ (Cm _ (Qy L)) _
 have hA':Rm (A.deeper (Qy L)) 30:=hA.deeper
 obtain⟨dt,ht,hD⟩:=fR (Γ:=Γ) wd.wx.nf hi hC hd.right
 have bl:(My G i jb++jd++My G i ja).length<=60:=by
  have h1:=iM (G:=G) (i:=i) (js:=jb)
  have h2:=iM (G:=G) (i:=i) (js:=ja)
  simp only [Ah];lia
 refine jE wd hi ez (by lia) hroot (hA'.le (by decide)) hh rb ra (λj hj=>⟨(hjb j hj).1,by have:=(hjb j hj).2;lia⟩) (λj hj=>⟨(hja j hj).1,by have:=(hja j hj).2;lia⟩) lb la λr1 r2=>?_
 refine tH (dt:=dt) (jd:=jd) wd.wx.nf wd.gr hh (λj hj=>?_) (by lia) (ht τ) (λτ' Q ⟨ρ,e⟩ q ov ho=>hD _ _ ov true Q ho q) λt nd sn lo bo=>?_
 ·have:j∈jb\/j∈jd\/j∈ja:=by
   rcases Ai.mp hj with h|h
   ·rcases Ai.mp h with h|h
    ·exact .inl (Wp j h)
    ·exact .inr (.inl h)
   ·exact .inr (.inr (Wp j h))
  rcases this with h|h|h
  ·have:=(hjb j h).2;lia
  ·have:=hjd j h;lia
  ·have:=(hja j h).2;lia
 have hNl:(Ma G i jb jd ja).length<=60:=Bw (Og _ _) bl
 have hNi:∀j∈Ma G i jb jd ja,j < i:=λj hj=>by
  rcases tL j hj with h|h|h
  ·exact(hjb j h).2
  ·exact hjd j h
  ·exact(hja j h).2
 show T Γ (A.deeper (Qy L)) ⟨Bi G++X,pV G L x.me t r1 r2 nd sn [.ref r1,.ref dt,.ref r2] (My G i jb) (My G i ja) lo bo none (Ma G i jb jd ja) τ⟩ _ _
 refine Am (Dj (Bz (Az (v:=.type "tuple") (by kernel_rfl) (by decide+kernel) (by decide) ⟨.inr (.inr ⟨_,rfl⟩),?_⟩)))
 refine Ag (Ac (v:=.ref nd) (by walk_at "mem") (Ao λws hw=>Fp (vs:=refs G (Ma G i jb jd ja)) (Ae (.tail _ (.tail _ (.head _)))) (by rw [Bf];lia) (λt2=>?_) ws hw))
 refine T.conseq Rn ?_
 have wx1:Wd G ((Er.obj t2,CO.tup (refs G (Ma G i jb jd ja)))::X):=wd.more λe he=>.tail _ he
 refine An (v:=.ref x.me) rfl (by walk_at "mem") λv ov hv ho=>fH (x:=x) (x':={x with decl:=some (.ref t2)}) wx1.wx hi hC ho hv (bT Γ) (oB x _) rfl ?_
 refine Fb.go ?_
 let x1:Nd:={x with decl:=some (.ref t2)}
 let G1:=G.set i x1
 let X1:List As:=(Er.obj t2,CO.tup (refs G (Ma G i jb jd ja)))::X
 have wd1:Wd G1 X1:=wx1.setDI hi (some (.ref t2)) x.inh
 have h1i:G1[i]? =some x1:=Ll hi
 have K1:Gf G G1:=Ls hi rfl
 have lc1:∀j,j < G1.length->j≠i->cU G1 j:=λj hj hne=>aX hi (some (.ref t2)) x.inh (lc j (by rw [K1.len]at hj;exact hj) hne)
 have hR:∀l,refs G1 l=refs G l:=K1.refs
 have hKf:Cu G1=Cu G:=funext K1.key
 refine Am (Bl (Ac (v:=.ref nd) (by walk_at "mem") ⟨_,_,by walk_at "upd",?_⟩))
 refine Fb.go ?_
 have eP:∀lo bo bb acc,pV G L x.me t r1 r2 nd sn [.ref r1,.ref dt,.ref r2] (My G i jb) (My G i ja) lo bo bb acc τ=pV G1 L x1.me t r1 r2 nd sn [.ref r1,.ref dt,.ref r2] (My G i jb) (My G i ja) lo bo bb acc τ:=λlo bo bb acc=>by
  unfold pV
  rw [hR,hR,hR,hKf]
 show T Γ (A.deeper (Qy L)) ⟨Bi G1++X1,pV G L x.me t r1 r2 nd sn [.ref r1,.ref dt,.ref r2] (My G i jb) (My G i ja) lo bo (some (.ref nd)) (Ma G i jb jd ja) τ⟩ _ _
 rw [eP]
 have hn1:Ph X1 x1.inh (refs G1 hs):=by rw [hR];exact hn.more λe he=>.tail _ he
 have fin:∀lo bo,T Γ (A.deeper (Qy L)) ⟨Bi G1++X1,pV G1 L x1.me t r1 r2 nd sn [.ref r1,.ref dt,.ref r2] (My G i jb) (My G i ja) lo bo (some (.ref nd)) (Ma G i jb jd ja++Ck (Ma G i jb jd ja) hs) τ⟩ (Cm ((fBody (topStmt 21)).drop 8) (Qy L)) (Ja Q):=λlo bo=>by
  refine tG wd1 lc1 h1i hA' hh hF ?_ ?_ ?_ λG' X' bt ρ w1 w2 w3 w4=>?_
  ·have:=Jb ((My G i jb++jd++My G i ja)++hs) []
   rw [Ho,Fq]at this
   exact this
  ·intro b hb
   rcases Ai.mp hb with h|h
   ·exact hNi b h
   ·exact hhs b (Mj _ _ b h).1
  ·have:=Og hs (Ma G i jb jd ja)
   simp only [Ah];lia
  ·have e5:G1.set i {x1 with bt:=bt,bs:=Ma G i jb jd ja++Ck (Ma G i jb jd ja) hs}=G.set i {x with decl:=some (.ref t2),bt:=bt,bs:=Ma G i jb jd ja++Ck (Ma G i jb jd ja) hs}:=by
    show(G.set i x1).set i _=_
    rw [Qd]
   rw [e5]at w2
   exact⟨_,As.le_sub (Bp ρ τ),h G' X' t2 bt w1 w2 (w3 _ (.head _)) (λe he=>w3 _ (.tail _ he)) w4⟩
 by_cases hx:∃ht,x.inh=some (.ref ht)
 ·obtain⟨ht2,hx⟩:=hx
  exact pG wd1 h1i hC hh hn1 hx (λj hj=>by rw [K1.len];have:=hNi j hj;lia) (λj hj=>by rw [K1.len];have:=hhs j hj;lia) (by lia) λbo=>fin _ bo
 ·have hx':x.inh=none\/x.inh=some .none:=by
   rcases hn with⟨e,_⟩|⟨t',e,_⟩
   ·exact e
   ·exact absurd ⟨t',e⟩ hx
  have hs0:=hhl hx'
  subst hs0
  refine Am (Hs (Ar (Iz (An (v:=.ref x.me) rfl (by walk_at "mem") (sI (x:=x1) wd1.wx.nf h1i hC hn1.right ?_)))))
  have hg:x1.inh.getD .none=.none:=by
   show x.inh.getD .none=.none
   rcases hx' with e|e<;>rw [e]<;>rfl
  rw [hg]
  refine Jt (Kr (by rfl) ⟨_,rfl,λhb=>(by cases hb),λ_=>?_⟩)
  refine Ci ?_
  refine Fb.go ?_
  have:=fin lo bo
  simp only [Ck,Cj]at this
  exact this
end
end
section
section
variable {Γ:Bj} {A:Aw} {σ σ':Ay} {s s':Ba} {env:Env}
theorem yB {W τ:List As} {f:Ak} {oc:Ab} {od:Option Ak} {osl:Array (Option Ab)} {name qual:Str} {params:Arguments} {body:List Jr} {scope:La} {dV kV doc pm cdv ct:Ab} {an:Option Ak} {v0:Ab} {vs:List Ab} {n0 nr:Str} {Q:Ab->Ay->Prop} (names:List Str)
  (ho:Γ.K.lookup f=some ⟨oc,od,.func (fnX name qual params body scope [] dV kV doc pm an cdv ct),osl⟩) (hcode:codeIn Γ.K cdv qual=true) (hd:A.depth < Gy)
  (hb:∀w ws,ws.length=vs.length->bindArgs (fnX name qual params body scope [] dV kV doc pm an cdv ct) ⟨w::ws,[]⟩=(newTuple ws>>=λt=>pure [(n0,w),(nr,t)])) (hz:vs.length<=Gg)
  (h:∀L t,T Γ (A.deeper (Gk qual scope L f cdv [])) ⟨W,Nt L names [(n0,v0),(nr,.ref t)]++((.obj t,.tup vs)::τ)⟩ (Cm body (Gk qual scope L f cdv [])) (Ja Q))
  (hcell:autoParam ((scope.names.all λx=>x.2 != .cell)=true) aR) (hloc:autoParam ((scope.names.lookup n0==some .local&&scope.names.lookup nr==some .local)=true) aR) (hn:autoParam (names.Nodup) aD)
  (hco:autoParam (scope.isCoroutine=false) aR) (hgen:autoParam (scope.isGenerator=false) aR) (hk:autoParam (scope.kind=.function) aR):
  ∀ws,ws.map cl=v0::vs->TC Γ A ⟨W,τ⟩ (.ref f) ws [] Q:=λws hw s R=>by
 obtain⟨w,rest,rfl,e0,er⟩:∃w rest,ws=w::rest/\cl w=v0/\rest.map cl=vs:=by
  cases ws with
  |nil=>cases hw
  |cons w rest=>simp at hw;exact⟨w,rest,rfl,hw.1,hw.2⟩
 have hl:rest.length=vs.length:=by rw [<-er,Ap]
 refine codeAny_call_function (fd:=fnX name qual params body scope [] dV kV doc pm an cdv ct) (body:=body) hd (R.kin _ _ ho) rfl hco hgen rfl (codeRec_of R.kin hcode) ?_
 rw [hb w rest hl]
 refine Ad (Dy (cA (Γ:=Γ) (A:=A.in1) (W:=W) (τ:=τ) (vs:=rest) (Q:=λv σ'=>∃t,v=.ref t/\σ'=⟨W,(.obj t,.tup vs)::τ⟩) (by rw [hl];exact hz) (λt=>⟨t,rfl,by rw [er]⟩) s R) (λv s₁ zz=>?_) λ_ _ x=>x.elim)
 obtain⟨σ₁,R₁,t,e1,e2⟩:=zz
 subst e2
 refine Au ?_
 simp only [Cy,beq_iff_eq]at hloc
 refine wpAny_newFunctionEnv (λx hx=>?_) (λx hx=>?_) (λh₀ hns hsb=>?_) hk
 ·have:=Fu.mp hcell x hx
  simpa using this
 ·rcases Ce.mp hx with rfl|hx
  ·exact hloc.1
  ·rw [Be.mp hx];exact hloc.2
 ·have hk₀:∀b o,s₁.heap.get? b=some o->h₀.get? b=some o:=λb o e=>hsb.extBut b o (Kn (Ds e)) (Al _ e)
  refine⟨R₁.lim.no.fresh _ hsb,codeAny_func ?_⟩
  have R₂:Ea Γ ⟨W,(.obj t,.tup vs)::τ⟩ {s₁ with heap:=h₀,toks:=s₁.toks+[(n0,w),(nr,v)].length}:=R₁.grow hk₀ rfl rfl
  have eb:([(n0,w),(nr,v)]:List (Str×Ab)).map (λp=>(p.1,cl p.2))=[(n0,v0),(nr,.ref t)]:=by
   have e1':cl v=.ref t:=e1
   simp [e0,e1']
  have R₃:=R₂.adds (Nt s₁.heap.objs.size names [(n0,v0),(nr,.ref t)]) (λp hp=>?_) (Ta hn)
  ·refine Dy (h s₁.heap.objs.size t _ R₃) (λfl s' zz=>?_) λ_ _ x=>x.elim
   obtain⟨σ',R',σ'',le,q⟩:=zz
   refine⟨σ'',le Γ s' R',?_⟩
   cases fl with
   |ret v=>exact q
   |next=>exact q
   |brk=>exact q
   |cont=>exact q
  ·obtain⟨x,hx,rfl⟩:=Bn.mp hp
   refine⟨⟨_,hns,?_⟩,R₁.freshTop,Jp (σ:=⟨W,(.obj t,.tup vs)::τ⟩) (s:=s₁) rfl (λq hq=>(R₁.ents q hq).1) (Bx _)⟩
   rw [<-eb,<-List.map_reverse,Oi]
end
theorem Agc (Γ:Bj):Γ.K.lookup 443=some ⟨.type "function",none,.func (Ka Γ 443 "classImplements" (topStmt 19) (.ref 442) .none),#[]⟩:=by kernel_rfl
theorem Aci (Γ:Bj):Γ.K.lookup 436=some ⟨.type "function",none,.func (Ka Γ 436 "classImplementsOnly" (topStmt 18) (.ref 435) .none),#[]⟩:=by kernel_rfl
theorem Acj (Γ:Bj):Γ.K.lookup 450=some ⟨.type "function",none,.func (Ka Γ 450 "classImplementsFirst" (topStmt 20) (.ref 449) .none),#[]⟩:=by kernel_rfl
theorem uL (Γ:Bj) {n:Nat} (hn:0 < n/\n<=3) (w:Ab) (ws:List Ab) (h:ws.length=n):bindArgs (Ka Γ 443 "classImplements" (topStmt 19) (.ref 442) .none) ⟨w::ws,[]⟩=(newTuple ws>>=λt=>pure ([(("cls" :Str),w),(("interfaces" :Str),t)]:List (Str×Ab))):=by
 match ws,h with
 |[],h=>simp at h;lia
 |[_],_=>rfl
 |[_,_],_=>rfl
 |[_,_,_],_=>rfl
 |_::_::_::_::_,h=>simp at h;lia
theorem qU (Γ:Bj) {n:Nat} (hn:0 < n/\n<=3) (w:Ab) (ws:List Ab) (h:ws.length=n):bindArgs (Ka Γ 436 "classImplementsOnly" (topStmt 18) (.ref 435) .none) ⟨w::ws,[]⟩=(newTuple ws>>=λt=>pure ([(("cls" :Str),w),(("interfaces" :Str),t)]:List (Str×Ab))):=by
 match ws,h with
 |[],h=>simp at h;lia
 |[_],_=>rfl
 |[_,_],_=>rfl
 |[_,_,_],_=>rfl
 |_::_::_::_::_,h=>simp at h;lia
end
section
noncomputable def gW (Γ:Bj) (G:List Nd) (W τ:List As) (vs:List Ab) (js:List Nat):Prop:=
 ∀(A:Aw) (τ':List As) (t:Ak) (Q:Ab->Ay->Prop),Rm A 5->A.handled=none->(∃ρ,τ'=ρ++τ)->Ew Γ ⟨W,τ'⟩ t vs->(∀o,Q (.ref o) ⟨W,(.obj o,.list (refs G js))::τ'⟩)->∀ws,ws.map cl=[.ref t]->TC Γ A ⟨W,τ'⟩ (.ref 466) ws [] Q
noncomputable def Hi (G:List Nd) (jd:List Nat) (j:Nat):Bool:=jd.any λb=>decide (b∈Hc G j)&&decide (j≠b)
noncomputable abbrev Si (L:Ak):Env:=Gk "classImplements" (fScope (topStmt 19)) L 443 (.ref 442) []
noncomputable abbrev rV (L me:Ak) (t s b a f o:Option Ab) (τ:List As):List As:=(.var L "cls",.val (some (.ref me)))::(.var L "interfaces",.val t)::(.var L "spec",.val s)::(.var L "before",.val b)::(.var L "after",.val a)::(.var L "iface",.val f)::(.var L "b",.val o)::τ
section
variable {Γ:Bj} {A:Aw} {G:List Nd} {X:List As} {σ:Ay}
theorem Te {p:Nat->Bool} {js a b:List Nat} {j:Nat} (e:js=a++j::b):(js.take (a.length+1)).filter p=a.filter p++(if p j then [j]else []):=by
 have:js.take (a.length+1)=a++[j]:=by
  rw [e,show a++j::b=(a++[j])++b by simp]
  exact Fh (by simp)
 rw [this,Ez]
 congr 1
 cases h:p j<;>simp [h]
theorem uK {W τ:List As} {i:Nat} {L me t2 bl al:Ak} {js jd:List Nat} {Q:Fv->Ay->Prop} (wd:Wd G X) (hW:W=Bi G++X) (hme:∃x,G[i]? =some x/\x.me=me/\x.C=427/\Mp X x.decl (refs G jd)) (hA:Rm (A.deeper (Si L)) 2) (hh:A.handled=none)
  (hjs:∀j∈js,j < G.length) (hjd:∀j∈jd,j < G.length) (hz:js.length<=100)
  (h:∀fo bo,T Γ (A.deeper (Si L)) ⟨W,(.obj al,.list (refs G (js.filter λj=>!Hi G jd j)))::(.obj bl,.list (refs G (js.filter (Hi G jd))))::(.obj t2,.tup (refs G js))::rV L me (some (.ref t2)) (some (.ref me)) (some (.ref bl)) (some (.ref al)) fo bo τ⟩ (Cm ((fBody (topStmt 19)).drop 5) (Si L)) Q):
  T Γ (A.deeper (Si L)) ⟨W,(.obj al,.list [])::(.obj bl,.list [])::(.obj t2,.tup (refs G js))::rV L me (some (.ref t2)) (some (.ref me)) (some (.ref bl)) (some (.ref al)) none none τ⟩ (Cm ((fBody (topStmt 19)).drop 4) (Si L)) Q:=by
 subst hW
 obtain⟨x,hi,rfl,hC,hd⟩:=hme
 have nf:=wd.wx.nf
 obtain⟨dt,ht,hD⟩:=fR (Γ:=Γ) nf hi hC hd.right
 let Z:Option Ab->Option Ab->Nat->List As:=λfo bo n=>(.obj al,.list (refs G ((js.take n).filter λj=>!Hi G jd j)))::(.obj bl,.list (refs G ((js.take n).filter (Hi G jd))))::(.obj t2,.tup (refs G js))::rV L x.me (some (.ref t2)) (some (.ref x.me)) (some (.ref bl)) (some (.ref al)) fo bo τ
 show T Γ (A.deeper (Si L)) ⟨Bi G++X,Z none none 0⟩ _ _
 refine Am (Pt (Ac (v:=.ref t2) (by walk_at "mem") (Hf (vs:=refs G js) (.of_mem (Ae (.tail _ (.tail _ (.head _))))) λit=>?_)))
 refine⟨it,_,_,_,_,_,⟨rfl,rfl,Hd (a:=t2) (vs:=refs G js) hh⟩,λd σ=>∃fo bo,σ=⟨Bi G++X,Z fo bo d.length⟩,⟨none,none,rfl⟩,?_,?_,?_⟩
 ·rintro d _ ⟨fo,bo,rfl⟩
  exact .of_mem (Ae (.tail _ (.tail _ (.head _))))
 ·rintro d v r u ρ _ he hu ⟨fo,bo,rfl⟩ Kq hK
  obtain⟨a',j,b',e1,e2,rfl,_⟩:=Tl he
  have hj:=hjs j (by rw [e1];simp)
  obtain⟨y,ey⟩:=Dl hj
  rw [Br ey]at hu
  have hdl:d.length=a'.length:=by rw [e2,Bf]
  have hlen':(d++[Bt (Fm G j)]).length=a'.length+1:=by rw [Ah,hdl];rfl
  have f1:=Te (p:=Hi G jd) e1
  have f2:=Te (p:=λj=>!Hi G jd j) e1
  have ht':js.take d.length=a':=by rw [hdl,e1];simp
  have hal:a'.length<=100:=by have:=congrArg Ia e1;simp at this;lia
  have l1:(a'.filter (Hi G jd)).length<=100:=Bw (Bu _ _) hal
  have l2:(a'.filter λj=>!Hi G jd j).length<=100:=Bw (Bu _ _) hal
  show T Γ (A.deeper (Si L)) ⟨Bi G++X,ρ++((.obj al,.list (refs G ((js.take d.length).filter λj=>!Hi G jd j)))::(.obj bl,.list (refs G ((js.take d.length).filter (Hi G jd))))::(.obj t2,.tup (refs G js))::rV L x.me (some (.ref t2)) (some (.ref x.me)) (some (.ref bl)) (some (.ref al)) fo bo τ)⟩ _ _
  rw [ht']
  let Y:Option Ab->List As:=λbo=>(.obj al,.list (refs G (a'.filter λj=>!Hi G jd j)))::(.obj bl,.list (refs G (a'.filter (Hi G jd))))::(.obj t2,.tup (refs G js))::rV L x.me (some (.ref t2)) (some (.ref x.me)) (some (.ref bl)) (some (.ref al)) (some (.ref y.me)) bo τ
  refine Ct hu (by walk_at "upd") ?_
  show T Γ (A.deeper (Si L)) ⟨Bi G++X,ρ++Y bo⟩ _ _
  refine Am (Pt (Iz (Ac (v:=.ref x.me) (by walk_at "mem") λo ho=>hD _ _ o true _ ho (Hf (vs:=refs G jd) (ht _) λit2=>?_))))
  refine⟨it2,_,_,_,_,_,⟨rfl,rfl,Hd (a:=dt) (vs:=refs G jd) hh⟩,λd σ=>∃bo,(jd.take d.length).any (λb=>decide (b∈Hc G j)&&decide (j≠b))=false/\σ=⟨Bi G++X,ρ++Y bo⟩,⟨bo,rfl,rfl⟩,?_,?_,?_⟩
  ·rintro d' _ ⟨bo,_,rfl⟩
   exact ht _
  ·rintro d' v r' u' ρ' _ he' hu' ⟨bo,hno,rfl⟩ Kq2 hK2
   obtain⟨a2,b,b2,g1,g2,rfl,_⟩:=Tl he'
   have hb:=hjd b (by rw [g1];simp)
   obtain⟨w,ew⟩:=Dl hb
   rw [Br ew]at hu'
   have hdl2:d'.length=a2.length:=by rw [g2,Bf]
   have ht2:jd.take d'.length=a2:=by rw [hdl2,g1];simp
   have ht3:jd.take (d'++[Bt (Fm G b)]).length=a2++[b]:=by
    rw [Ah,hdl2,Bo,g1,show a2++b::b2=(a2++[b])++b2 by simp]
    exact Fh (by simp)
   rw [ht2]at hno
   refine Ct hu' (by walk_at "upd") ?_
   show T Γ (A.deeper (Si L)) ⟨Bi G++X,ρ'++(ρ++Y (some (.ref w.me)))⟩ _ _
   refine Am (Hs (Ej (Fi (Ac (v:=.ref y.me) (by walk_at "mem") (Ou nf ey (mB Γ) ⟨.inl (by kernel_rfl),?_⟩)))))
   refine Ag (Ac (v:=.ref w.me) (by walk_at "mem") (Ao λws hw=>(qW (x:=y) (y:=w) nf wd.gr (wd.imp _ _ ey) (hA.le (by decide)) ey ew ?_ ws hw).T))
   refine(Fc ⟨λhb'=>?_,λhb'=>?_⟩)
   ·have hx:Hi G jd j=true:=by
     unfold Hi
     rw [Hb]
     exact⟨b,by rw [g1];simp,hb'⟩
    rw [hx]at f1 f2
    refine Am (Fy (Fi (Ac (v:=.ref bl) (by walk_at "mem") (Cz Cr Dp Do (Ik (vs:=refs G (a'.filter (Hi G jd))) (by walk_at "mem")) ⟨.inr (.inl ⟨_,rfl⟩),?_⟩))))
    refine Ag (Ac (v:=.ref y.me) (by walk_at "mem") (Ao (Lo (by walk_at "upd") (by rw [Bf,Av];exact Bw l1 (by decide)) ?_)))
    refine Fb.go ?_
    refine Am (xN (hK2 .brk _ ?_))
    refine Fb.go (Ci (hK .next _ ⟨Bi G++X,Z (some (.ref y.me)) (some (.ref w.me)) (a'.length+1),?_,some (.ref y.me),some (.ref w.me),by rw [hlen']⟩))
    have e4:refs G ((js.take (a'.length+1)).filter (Hi G jd))=refs G (a'.filter (Hi G jd))++[.ref y.me]:=by rw [f1,if_pos rfl,<-Rp,Br ey]
    have e5:(js.take (a'.length+1)).filter (λj=>!Hi G jd j)=a'.filter (λj=>!Hi G jd j):=by rw [f2];simp
    show As.le ⟨Bi G++X,ρ++((.obj al,.list (refs G ((js.take (a'.length+1)).filter λj=>!Hi G jd j)))::(.obj bl,.list (refs G ((js.take (a'.length+1)).filter (Hi G jd))))::(.obj t2,.tup (refs G js))::rV L x.me (some (.ref t2)) (some (.ref x.me)) (some (.ref bl)) (some (.ref al)) (some (.ref y.me)) (some (.ref w.me)) τ)⟩ _
    rw [e4,e5]
    exact As.le_sub (Bp ρ' _)
   ·refine Ci ?_
    refine Fb.go (Ci (hK2 .next _ ⟨_,_,As.le_refl _,some (.ref w.me),?_,rfl⟩))
    rw [ht3,List.any_append,hno,Bool.false_or]
    simpa using hb'
  ·rintro _ ⟨bo,hno,rfl⟩
   rw [Bf,Em]at hno
   have hx:Hi G jd j=false:=hno
   rw [hx]at f1 f2
   refine Am (Fy (Fi (Ac (v:=.ref al) (by walk_at "mem") (Cz Cr Dp Do (Ik (vs:=refs G (a'.filter λj=>!Hi G jd j)) (by walk_at "mem")) ⟨.inr (.inl ⟨_,rfl⟩),?_⟩))))
   refine Ag (Ac (v:=.ref y.me) (by walk_at "mem") (Ao (Lo (by walk_at "upd") (by rw [Bf,Av];exact Bw l2 (by decide)) ?_)))
   refine Fb.go (Ci ?_)
   refine Fb.go (Ci (hK .next _ ⟨Bi G++X,Z (some (.ref y.me)) bo (a'.length+1),?_,some (.ref y.me),bo,by rw [hlen']⟩))
   have e4:refs G ((js.take (a'.length+1)).filter (λj=>!Hi G jd j))=refs G (a'.filter (λj=>!Hi G jd j))++[.ref y.me]:=by rw [f2];simp [refs,Br ey]
   have e5:(js.take (a'.length+1)).filter (Hi G jd)=a'.filter (Hi G jd):=by rw [f1];simp
   show As.le ⟨Bi G++X,ρ++((.obj al,.list (refs G ((js.take (a'.length+1)).filter λj=>!Hi G jd j)))::(.obj bl,.list (refs G ((js.take (a'.length+1)).filter (Hi G jd))))::(.obj t2,.tup (refs G js))::rV L x.me (some (.ref t2)) (some (.ref x.me)) (some (.ref bl)) (some (.ref al)) (some (.ref y.me)) bo τ)⟩ _
   rw [e4,e5]
   exact As.le_refl _
 rintro _ ⟨fo,bo,rfl⟩
 refine Ci ?_
 refine Fb.go ?_
 have e:js.take (refs G js).length=js:=by rw [Bf,Em]
 show T Γ (A.deeper (Si L)) ⟨Bi G++X,(.obj al,.list (refs G ((js.take (refs G js).length).filter λj=>!Hi G jd j)))::(.obj bl,.list (refs G ((js.take (refs G js).length).filter (Hi G jd))))::(.obj t2,.tup (refs G js))::rV L x.me (some (.ref t2)) (some (.ref x.me)) (some (.ref bl)) (some (.ref al)) fo bo τ⟩ _ _
 rw [e]
 exact h fo bo
end
end
section
theorem pT {A B:List Nd} (K:Jj A B) (i:Nat) {y y':Nd} (e:y.blank4=y'.blank4):Jj (A.set i y) (B.set i y'):=by
 unfold Jj at *
 rw [Ko,Ko,K,e]
noncomputable abbrev Xs (L:Ak):Env:=Gk "classImplementsOnly" (fScope (topStmt 18)) L 436 (.ref 435) []
noncomputable abbrev kY (L:Ak):Env:=Gk "classImplementsFirst" (fScope (topStmt 20)) L 450 (.ref 449) []
section
variable {Γ:Bj} {A:Aw} {G:List Nd} {X:List As} {σ:Ay}
noncomputable abbrev kP (G:List Nd) (X:List As) (τ:List As) (i:Nat) (x:Nd) (nd bs:List Nat) (inh:Option Ab) (Q:Ab->Ay->Prop):Prop:=
 ∀G' X' t bt,Wd G' X'->Jj (G.set i {x with decl:=some (.ref t),bt:=bt,bs:=bs,inh:=inh}) G'->(Er.obj t,CO.tup (refs G nd))∈X'->(∀e∈X,e∈X')->(∀j,j < G'.length->Tx G' j)->Q .none ⟨Bi G'++X',τ⟩
theorem vK {τ:List As} {i:Nat} {x:Nd} {vs:List Ab} {js jd hs:List Nat} {Q:Ab->Ay->Prop} (wd:Wd G X) (lc:∀j,j < G.length->j≠i->cU G j) (hi:G[i]? =some x) (hi0:0 < i) (hC:x.C=427) (hd:Mp X x.decl (refs G jd)) (hn:Ph X x.inh (refs G hs)) (hhl:x.inh=none\/x.inh=some .none->hs=[])
  (hvs:0 < vs.length/\vs.length<=3) (hN:gW Γ G (Bi G++X) τ vs js) (hjs:∀j∈js,0 < j/\j < i) (hjd:∀j∈jd,j < i) (hhs:∀j∈hs,j < i) (lj:js.length<=20) (ld:jd.length<=20) (lh:hs.length<=20)
  (hA:Rm A 32) (hh:A.handled=none) (hF:AF A ⟨[],τ⟩)
  (h:kP G X τ i x (Ma G i (js.filter (Hi G jd)) jd (js.filter λj=>!Hi G jd j)) (Ma G i (js.filter (Hi G jd)) jd (js.filter λj=>!Hi G jd j)++Ck (Ma G i (js.filter (Hi G jd)) jd (js.filter λj=>!Hi G jd j)) hs) x.inh Q):
  ∀ws,ws.map cl=.ref x.me::vs->TC Γ A ⟨Bi G++X,τ⟩ (.ref 443) ws [] Q:=by
 have hil:=(Aj.mp hi).1
 refine yB (body:=fBody (topStmt 19)) ["cls","interfaces","spec","before","after","iface","b"] (Agc Γ) (by kernel_rfl) hA.room (uL Γ hvs) (by rw [Av];lia) (λL t=>?_) (by rfl) (by rfl) (by decide) (by rfl) (by rfl) (by rfl)
 show T Γ (A.deeper (Si L)) ⟨Bi G++X,rV L x.me (some (.ref t)) none none none none none ((.obj t,.tup vs)::τ)⟩ (Cm _ (Si L)) _
 have hA':Rm (A.deeper (Si L)) 31:=hA.deeper
 refine Am (Bl (Ac (v:=.ref x.me) (by walk_at "mem") ⟨_,_,by walk_at "upd",?_⟩))
 refine Fb.go ?_
 refine Am (Bl (Bz (Az (v:=.type "tuple") (by kernel_rfl) (by decide+kernel) (by decide) ⟨.inr (.inr ⟨_,rfl⟩),?_⟩)))
 refine Ag (Bz (Bk (v:=.ref 466) (by kernel_rfl) ⟨.inl (by kernel_rfl),?_⟩))
 refine Ag (Ac (v:=.ref t) (by walk_at "mem") (Ao λws hw=>(hN (A.deeper (Si L)) (rV L x.me (some (.ref t)) (some (.ref x.me)) none none none none ((.obj t,.tup vs)::τ)) t _ (hA'.le (by decide)) hh ⟨[_,_,_,_,_,_,_,_],rfl⟩ (.of_mem (by walk_at "mem")) (λo=>?_) ws hw).T))
 refine Ao λws hw=>Fp (vs:=refs G js) (Ae (.head _)) (by rw [Bf];lia) (λt2=>⟨_,_,by walk_at "upd",?_⟩) ws hw
 refine Fb.go ?_
 refine Am (Bl (Hv (Ao ⟨by rw [Av];exact Ca _,λbl=>⟨_,_,by walk_at "upd",?_⟩⟩)))
 refine Fb.go ?_
 refine Am (Bl (Hv (Ao ⟨by rw [Av];exact Ca _,λal=>⟨_,_,by walk_at "upd",?_⟩⟩)))
 refine Fb.go ?_
 let τ1:List As:=(.obj o,.list (refs G js))::(.obj t,.tup vs)::τ
 refine T.conseq (σ':=⟨Bi G++X,(.obj al,.list [])::(.obj bl,.list [])::(.obj t2,.tup (refs G js))::rV L x.me (some (.ref t2)) (some (.ref x.me)) (some (.ref bl)) (some (.ref al)) none none τ1⟩) (As.le_perm (Bb _ ?_)) ?_
 ·exact(Bv.cons _ (Bv.cons _ (Bv.cons _ (Ff (l₁:=[_,_,_,_,_,_,_])).symm)))
 refine uK (τ:=τ1) (i:=i) (jd:=jd) wd rfl ⟨x,hi,rfl,hC,hd⟩ (hA'.le (by decide)) hh (λj hj=>by have:=(hjs j hj).2;lia) (λj hj=>by have:=hjd j hj;lia) (by lia) λfo bo=>?_
 refine Am (Fy (Bz (Bk (v:=.ref 458) (by kernel_rfl) ⟨.inl (by kernel_rfl),?_⟩)))
 refine Ag (Ac (v:=.ref x.me) (by walk_at "mem") ?_)
 refine Ag (Bz (Az (v:=.type "tuple") (by kernel_rfl) (by decide+kernel) (by decide) ⟨.inr (.inr ⟨_,rfl⟩),?_⟩))
 have lb:(js.filter (Hi G jd)).length<=20:=Bw (Bu _ _) lj
 have la:(js.filter λj=>!Hi G jd j).length<=20:=Bw (Bu _ _) lj
 refine Ag (Ac (v:=.ref bl) (by walk_at "mem") (Ao λws hw=>Fp (vs:=refs G (js.filter (Hi G jd))) (Ae (.tail _ (.head _))) (by rw [Bf];lia) (λt3=>?_) ws hw))
 refine Ag (Bz (Az (v:=.type "tuple") (by kernel_rfl) (by decide+kernel) (by decide) ⟨.inr (.inr ⟨_,rfl⟩),?_⟩))
 refine Ag (Ac (v:=.ref al) (by walk_at "mem") (Ao λws hw=>Fp (vs:=refs G (js.filter λj=>!Hi G jd j)) (Ae (.tail _ (.head _))) (by rw [Bf];lia) (λt4=>?_) ws hw))
 refine Ao λws hw=>?_
 refine(Yj (jb:=js.filter (Hi G jd)) (ja:=js.filter λj=>!Hi G jd j) (jd:=jd) (hs:=hs) wd lc hi hi0 hC hd hn hhl (.inr (.of_mem (Ae (.tail _ (.head _))))) (.inr (.of_mem (Ae (.head _)))) (λj hj=>hjs j (Cs.mp hj).1) (λj hj=>hjs j (Cs.mp hj).1) hjd hhs lb la ld lh hA' hh ?_ (λG' X' t' bt w1 w2 w3 w4 w5=>?_) ws hw).T
 ·refine hF.push rfl rfl (L:=L) (x:="cls") (c:=some (.ref x.me)) (by walk_at "mem") λp hp=>?_
  exact Aa [_,_,_,_,_,_,_,_,_,_,_,_,_,_] hp
 ·refine Fb.go (Ci ⟨_,As.le_sub (Bp [_,_,_,_,_,_,_,_,_,_,_,_,_,_] τ),h G' X' t' bt w1 w2 w3 w4 w5⟩)
theorem Adg {τ:List As} {i j:Nat} {x y:Nd} {jd hs:List Nat} {Q:Ab->Ay->Prop} (wd:Wd G X) (lc:∀j,j < G.length->j≠i->cU G j) (hi:G[i]? =some x) (hj:G[j]? =some y) (hi0:0 < j/\j < i) (hC:x.C=427) (hd:Mp X x.decl (refs G jd)) (hn:Ph X x.inh (refs G hs)) (hhl:x.inh=none\/x.inh=some .none->hs=[])
  (hjd:∀j∈jd,j < i) (hhs:∀j∈hs,j < i) (ld:jd.length<=20) (lh:hs.length<=20) (hA:Rm A 32) (hh:A.handled=none) (hF:AF A ⟨[],τ⟩)
  (h:kP G X τ i x (Ma G i [j] jd []) (Ma G i [j] jd []++Ck (Ma G i [j] jd []) hs) x.inh Q):
  ∀ws,ws.map cl=[.ref x.me,.ref y.me]->TC Γ A ⟨Bi G++X,τ⟩ (.ref 450) ws [] Q:=λws hw=>by
 refine Oy (body:=fBody (topStmt 20)) (bs:=[("cls",.ref x.me),("iface",.ref y.me)]) ["cls","iface","spec"] (Acj Γ) (by kernel_rfl) hA.room (Gu.plain2 λ_ _ _=>Cg (by rfl)) (λL=>?_) (by rfl) (by rfl) (by decide) (by rfl) (by rfl) (by rfl) ws [] hw rfl
 show T Γ (A.deeper (kY L)) ⟨Bi G++X,(.var L "cls",.val (some (.ref x.me)))::(.var L "iface",.val (some (.ref y.me)))::(.var L "spec",.val none)::τ⟩ (Cm _ (kY L)) _
 have hA':Rm (A.deeper (kY L)) 31:=hA.deeper
 refine Am (Bl (Ac (v:=.ref x.me) (by walk_at "mem") ⟨_,_,by walk_at "upd",?_⟩))
 refine Fb.go ?_
 refine Am (Fy (Bz (Bk (v:=.ref 458) (by kernel_rfl) ⟨.inl (by kernel_rfl),?_⟩)))
 refine Ag (Ac (v:=.ref x.me) (by walk_at "mem") ?_)
 refine Ag (Kh (k:=0) (Ag (Ac (v:=.ref y.me) (by walk_at "mem") (Ao ⟨by rw [Av];exact By rfl,λt3=>?_⟩))))
 refine Ag (Kh (k:=0) (Ao ⟨by rw [Av];exact Ca _,λt4=>?_⟩))
 refine Ao λws hw=>?_
 have e1:refs G [j]=[.ref y.me]:=by simp [refs,Br hj]
 refine(Yj (jb:=[j]) (ja:=[]) (jd:=jd) (hs:=hs) wd lc hi (by lia) hC hd hn hhl (.inr (.of_mem (by rw [e1];exact Ae (.tail _ (.head _))))) (.inr (.of_mem (Ae (.head _)))) (λk hk=>by rw [Be.mp hk];exact hi0) (λk hk=>(by cases hk)) hjd hhs (by simp) (by simp) ld lh hA' hh ?_ (λG' X' t' bt w1 w2 w3 w4 w5=>?_) ws hw).T
 ·refine hF.push rfl rfl (L:=L) (x:="cls") (c:=some (.ref x.me)) (by walk_at "mem") λp hp=>?_
  exact Aa [_,_,_,_,_] hp
 ·refine Fb.go (Ci ⟨_,As.le_sub (Bp [_,_,_,_,_] τ),h G' X' t' bt w1 w2 w3 w4 w5⟩)
end
end
section
section
variable {Γ:Bj} {A:Aw} {G:List Nd} {X:List As} {σ:Ay}
theorem lK {i k:Nat} (hb:Fx G i=[]) (h:Ht G i k):k=i:=by
 rcases Ht.cases'.mp h with h|⟨b,hb',_⟩
 ·exact h
 ·rw [hb]at hb';cases hb'
theorem sF {τ:List As} {i:Nat} {x:Nd} {js:List Nat} {Q:Ab->Ay->Prop} (wd:Wd G X) (sok:∀j,j < G.length->Tx G j) (hi:G[i]? =some x) (hi0:0 < i) (hC:x.C=427)
  (hvs:0 < js.length/\js.length<=3) (hjs:∀j∈js,0 < j/\j < i) (hA:Rm A 32) (hh:A.handled=none) (hF:AF A ⟨[],τ⟩)
  (h:kP G X τ i x (Ck [] js) (Ck [] js) (some .none) Q):
  ∀ws,ws.map cl=.ref x.me::refs G js->TC Γ A ⟨Bi G++X,τ⟩ (.ref 436) ws [] Q:=by
 have hil:=(Aj.mp hi).1
 refine yB (body:=fBody (topStmt 18)) ["cls","interfaces","spec"] (Aci Γ) (by kernel_rfl) hA.room (qU Γ (by rw [Bf];exact hvs)) (by rw [Bf,Av];lia) (λL t=>?_) (by rfl) (by rfl) (by decide) (by rfl) (by rfl) (by rfl)
 show T Γ (A.deeper (Xs L)) ⟨Bi G++X,(.var L "cls",.val (some (.ref x.me)))::(.var L "interfaces",.val (some (.ref t)))::(.var L "spec",.val none)::(.obj t,.tup (refs G js))::τ⟩ (Cm _ (Xs L)) _
 have hA':Rm (A.deeper (Xs L)) 31:=hA.deeper
 refine Am (Bl (Ac (v:=.ref x.me) (by walk_at "mem") ⟨_,_,by walk_at "upd",?_⟩))
 refine Fb.go ?_
 let V:List As:=(.var L "cls",.val (some (.ref x.me)))::(.var L "interfaces",.val (some (.ref t)))::(.var L "spec",.val (some (.ref x.me)))::(.obj t,.tup (refs G js))::τ
 show T Γ (A.deeper (Xs L)) ⟨Bi G++X,V⟩ _ _
 have hFV:AF (A.deeper (Xs L)) ⟨[],V⟩:=hF.push rfl rfl (L:=L) (x:="cls") (c:=some (.ref x.me)) (by walk_at "mem") λp hp=>Aa [_,_,_,_] hp
 refine Am (Dj (Kh (k:=0) (Ao ⟨by rw [Av];exact Ca _,λt0=>T.conseq Rn ?_⟩)))
 have wx1:Wd G ((Er.obj t0,CO.tup [])::X):=wd.more λe he=>.tail _ he
 refine Ac (v:=.ref x.me) (by walk_at "mem") λv ov hv ho=>fH (x:=x) (x':={x with decl:=some (.ref t0)}) wx1.wx hi hC ho hv (bT Γ) (oB x _) rfl ?_
 refine Fb.go ?_
 let x1:Nd:={x with decl:=some (.ref t0)}
 let G1:=G.set i x1
 let X1:List As:=(Er.obj t0,CO.tup [])::X
 have wd1:Wd G1 X1:=wx1.setDI hi (some (.ref t0)) x.inh
 have h1i:G1[i]? =some x1:=Ll hi
 show T Γ (A.deeper (Xs L)) ⟨Bi G1++X1,V⟩ _ _
 refine Am (Dj (Jt (k:=0) ?_))
 refine Ac (v:=.ref x.me) (by walk_at "mem") λv ov hv ho=>fH (x:=x1) (x':={x1 with inh:=some .none}) wd1.wx h1i hC ho hv (eO Γ) (sM x1 _) rfl ?_
 refine Fb.go ?_
 let x2:Nd:={x with decl:=some (.ref t0),inh:=some .none}
 let G2:=G.set i x2
 have wd2:Wd G2 X1:=wx1.setDI hi (some (.ref t0)) (some .none)
 have h2i:G2[i]? =some x2:=Ll hi
 have e12:G1.set i {x1 with inh:=some .none}=G2:=by
  show(G.set i x1).set i _=_
  rw [Qd]
 rw [e12]
 have K2:Gf G G2:=Ls hi rfl
 have hlen2:=K2.len
 have cT:∀j,j < G2.length->j≠i->cU G2 j:=λj hj hne=>aX hi (some (.ref t0)) (some .none) (Rc wd.gr (Bx _) sok (by rw [hlen2]at hj;exact hj))
 refine Am (Fy (Fi (Ac (v:=.ref x.me) (by walk_at "mem") (Ou (x:=x2) wd2.wx.nf h2i (Uk Γ) ⟨.inl (by kernel_rfl),?_⟩))))
 refine Ag (Kh (k:=0) (Ao ⟨by rw [Av];exact Ca _,λt1=>T.conseq Rn ?_⟩))
 refine Ao λws hw=>?_
 refine(Vr (X:=(.obj t1,.tup [])::X1) (τ:=V) (x:=x2) (bt:=t1) (bs:=[]) (wd2.more λe he=>.tail _ he) cT (hA'.le (by decide)) hh hFV h2i (.inl (.head _)) .nil (λb hb=>(by cases hb)) (λG3 X3 w1 w2 w3 w4=>?_) ws hw).T
 refine Fb.go ?_
 have e23:G2.set i {x2 with bt:=t1,bs:=[]}=G.set i {x with decl:=some (.ref t0),inh:=some .none,bt:=t1,bs:=[]}:=by
  show(G.set i x2).set i _=_
  rw [Qd]
 rw [e23]at w2
 obtain⟨x3,h3i,hb3⟩:=w2.at' (Ll hi)
 have m3:x3.me=x.me:=by have:=congrArg Nd.me hb3;exact this
 have c3:x3.C=427:=by have:=congrArg Nd.C hb3;exact this.trans hC
 have d3:x3.decl=some (.ref t0):=by have:=congrArg Nd.decl hb3;exact this
 have n3:x3.inh=some .none:=by have:=congrArg Nd.inh hb3;exact this
 have b3:Fx G3 i=[]:=by rw [Pw h3i];have:=congrArg Nd.bs hb3;exact this
 have K3:Gf G G3:=(Ls hi rfl:Gf G (G.set i {x with decl:=some (.ref t0),inh:=some .none,bt:=t1,bs:=[]})).trans w2.i
 have hlen3:=K3.len
 have hR:∀l,refs G3 l=refs G l:=K3.refs
 have hf:My G3 i js=js:=by
  unfold My
  rw [List.filter_eq_self]
  intro j hj
  obtain⟨h1,h2⟩:=hjs j hj
  have:j∉Hc G3 i:=λq=>by
   rcases(Sc w1.gr (Bx _) w4 i i (Bx _) (by lia) j).mp q with q|q
   ·have:=lK b3 q;lia
   ·lia
  simp [this]
 have hnd:Ma G3 i js [] []=Ck [] js:=by
  unfold Ma
  rw [hf]
  simp [My]
 refine Am (Fy (Bz (Bk (v:=.ref 458) (by kernel_rfl) ⟨.inl (by kernel_rfl),?_⟩)))
 refine Ag (Ac (v:=.ref x.me) (by walk_at "mem") ?_)
 refine Ag (Ac (v:=.ref t) (by walk_at "mem") ?_)
 refine Ag (Kh (k:=0) (Ao ⟨by rw [Av];exact Ca _,λt4=>?_⟩))
 refine Ao λws hw=>?_
 have hmt:(Er.obj t,CO.tup (refs G3 js))∈V:=by rw [hR];exact .tail _ (.tail _ (.tail _ (.head _)))
 refine(Yj (b:=t) (a:=t4) (G:=G3) (X:=X3) (x:=x3) (jb:=js) (ja:=[]) (jd:=[]) (hs:=[]) w1 (λj hj _=>Rc w1.gr (Bx _) w4 hj) h3i hi0 c3 (.inr ⟨t0,d3,w3 _ (.tail _ (.head _))⟩) (.inl ⟨.inr n3,rfl⟩) (λ_=>rfl) (.inr (.of_mem (Ae (.tail _ hmt)))) (.inr (.of_mem (Ae (.head _)))) hjs (λk hk=>(by cases hk)) (λk hk=>(by cases hk)) (λk hk=>(by cases hk)) (by lia) (by simp) (by simp) (by simp) hA' hh hFV.cons (λG' X' t' bt v1 v2 v3 v4 v5=>?_) ws (by rw [m3];exact hw)).T
 rw [hnd]at v2 v3
 simp only [Ck,Cj]at v2
 rw [hR]at v3
 refine Fb.go (Ci ⟨_,As.le_sub (Bp [_,_,_,_,_] τ),h G' X' t' bt v1 ?_ v3 (λe he=>v4 _ (w3 _ (.tail _ (.tail _ he)))) v5⟩)
 refine Jj.trans ?_ v2
 have:=pT w2 i (y:={x with decl:=some (.ref t'),bt:=bt,bs:=Ck [] js,inh:=some .none}) (y':={x3 with decl:=some (.ref t'),bt:=bt,bs:=Ck [] js}) ?_
 ·rw [Qd]at this
  exact this
 ·have:=congrArg (λn:Nd=>{n with decl:=some (.ref t'),bt:=bt,bs:=Ck [] js}) hb3
  exact this.symm
end
end
section
section
variable {Γ:Bj} {A:Aw} {σ σ':Ay} {s s':Ba} {env:Env}
noncomputable abbrev cT (elt iter iter2:Aq) (x y:Str) (xp yp:Pos) (scope:La) (pos:Pos):Aq:=.ListComp elt [⟨.Name x xp,iter,[],0⟩,⟨.Name y yp,iter2,[],0⟩] scope pos
theorem jR (elt iter iter2:Aq) (x y:Str) (xp yp:Pos) (scope:La) (pos:Pos) (it acc:Ab) (env:Env):
  compTurn (cT elt iter iter2 x y xp yp scope pos) 0 it acc env=(Mr iter.pos>>=λ_=>Lk it>>=λr=>match r with
   |none=>pure (.done .next)
   |some v=>Dn (.Name x xp) it v>>=λ_=>Ij (.Name x xp) env v>>=λ_=>
    Dr iter2 env>>=λw=>Mr iter2.pos>>=λ_=>Dt iter2 env w>>=λw=>holding [w] (Hu w)>>=λi=>runOwn (.compStart (cT elt iter iter2 x y xp yp scope pos) 1 i acc env) env>>=λ_=>
     again (.compLoop (cT elt iter iter2 x y xp yp scope pos) 0 it acc env)):=by rfl
theorem jQ (elt iter iter2:Aq) (x y:Str) (xp yp:Pos) (scope:La) (pos:Pos) (it acc:Ab) (env:Env):
  compTurn (cT elt iter iter2 x y xp yp scope pos) 1 it acc env=(Mr iter2.pos>>=λ_=>Lk it>>=λr=>match r with
   |none=>pure (.done .next)
   |some v=>Dn (.Name y yp) it v>>=λ_=>Ij (.Name y yp) env v>>=λ_=>
    (Dr elt env>>=λw=>call (.builtin "list.append") [acc,w]>>=λ_=>pure PUnit.unit)>>=λ_=>
     again (.compLoop (cT elt iter iter2 x y xp yp scope pos) 1 it acc env)):=by rfl
theorem gB {M:Jf} {w:Oa} {elt iter iter2:Aq} {x y:Str} {xp yp:Pos} {scope:La} {pos:Pos} {it acc:Ab} {R:Kw->Ba->Prop}
  (h0:Jz (Cd M w) A (.compLoop (cT elt iter iter2 x y xp yp scope pos) 1 it acc env) R s)
  (h:Cp (Cd M w) A (Hu it) (λit' s'=>Jz (Cd M w) A (.compLoop (cT elt iter iter2 x y xp yp scope pos) 1 it' acc env) R s') (notedBy (Cd M w) A env λx s'=>R (.error x) s') s):
  Jz (Cd M w) A (.compStart (cT elt iter iter2 x y xp yp scope pos) 1 it acc env) R s:=by
 refine codeAny_of_tree ?_
 show Cp _ _ ((compStart (cT elt iter iter2 x y xp yp scope pos) 1 it acc env).onRaise (λx=>do Pk x env;Mr theWindowsPlace)) _ _ s
 refine wpAny_notedAt ?_
 unfold compStart
 show Cp _ _ (ask>>=_) _ _ s
 refine Ad (Ny (wpAny_ite ?_))
 split
 ·first
   |exact Ad (Au (Au (And.intro rfl h0)))
   |exact Au (And.intro rfl h0)
 ·first
   |exact Ad (Kx (Ad (Eo (Ad (Dy h (λit' s' h'=>Au (And.intro rfl h')) λ_ _ x=>x)))))
   |(refine Ad (Kx ?_);show Cp _ _ (Mr iter2.pos>>=_) _ _ s;exact Ad (Eo (Ad (Dy h (λit' s' h'=>Au (And.intro rfl h')) λ_ _ x=>x))))
end
end
section
section
variable {Γ:Bj} {A:Aw} {σ σ':Ay} {s s':Ba} {env:Env}
noncomputable abbrev Qx (C acc:Ak) (x y:Str) (o p:Option Ab) (ys:List Int) (τ:List As):List As:=(.obj C,.fr [(x,o),(y,p)])::(.obj acc,.list (At ys))::τ
inductive Afg (Γ:Bj) (A:Aw) (W τ:List As) (C acc it b:Ak) (x y:Str) (o:Option Ab) (fs pre:List Int) (n:Nat) (s:Ba):Prop
 |mk (d r:List Int) (ρ:List As) (p:Option Ab) (R:Ea Γ ⟨W,ρ++Qx C acc x y o p (pre++d) τ⟩ s) (Y:Lb Γ A it (λσ=>(Er.obj b,CO.list (At fs))∈σ.all) (At r) ρ) (e:d++r=fs) (hn:n=r.length)
theorem jS {iter iter2:Aq} {x y:Str} {xp yp ep:Pos} {scope:La} {pos:Pos} {cenv:Env} {W τ:List As} {acc b it2:Ak} {o:Option Ab} {fs pre:List Int} (hh:A.handled=none)
  (hb:(Er.obj b,CO.list (At fs))∈(⟨W,τ⟩:Ay).all) (hz:pre.length+fs.length<=100000) (hk:cenv.scope.kind=.function) (hy:cenv.kindOf y=some .local) (hyd:(y==("__debug__" :Str))=false) (ht:∀it v,Dn (.Name y yp) it v=pure ()) {R:Kw->Ba->Prop}
  (hR:∀s ρ p,Ea Γ ⟨W,ρ++Qx cenv.locals acc x y o p (pre++fs) τ⟩ s->R (.ok .next) s) {p0:Option Ab} (R0:Ea Γ ⟨W,(.obj it2,.liter b 0)::Qx cenv.locals acc x y o p0 pre τ⟩ s):
  Jz (Cd Γ.prog Γ.w) A (.compLoop (cT (.Name y ep) iter iter2 x y xp yp scope pos) 1 (.ref it2) (.ref acc) cenv) R s:=by
 refine codeAny_loop rfl (Afg Γ A W τ cenv.locals acc it2 b x y o fs pre) (λn s hI=>?_) fs.length
  ⟨[],fs,[(.obj it2,.liter b 0)],p0,by rw [Cj];exact R0,Es hh,rfl,rfl⟩
 obtain⟨d,r,ρ,p,R1,Y,he,hn⟩:=hI
 show Cp _ A ((compTurn (cT (.Name y ep) iter iter2 x y xp yp scope pos) 1 (.ref it2) (.ref acc) cenv).onRaise (λx=>do Pk x cenv;theTreesLotGoes x)) _ _ s
 refine wpAny_noted ?_
 rw [jQ]
 have hb':(Er.obj b,CO.list (At fs))∈(⟨W,Qx cenv.locals acc x y o p (pre++d) τ⟩:Ay).all:=Bq (ρ:=[_,_]) hb
 refine Ad (Eo (Ad ?_))
 cases r with
 |nil=>exact Y.stop hb' R1 λs₁ R₁=>Au (hR s₁ [] p (by rw [<-he,Cj];exact R₁))
 |cons v r=>
  refine Y.more hb' R1 λu ρ' s₁ hu R₁ _ Y''=>?_
  dsimp only
  rw [ht]
  refine Ad (Au (Ad ?_))
  refine(Sn (σ':=⟨W,ρ'++Qx cenv.locals acc x y o (some (.int v 0)) (pre++d) τ⟩) hu (.there .here) (.tau (Qw.pre .here)) rfl hk hy).to R₁ λ_ s₂ R₂=>?_
  refine Ad (Ad ((Di (v:=.int v 0) (Ae (Aa _ (.head _))) (.tail _ (.head _)) ⟨rfl,rfl⟩ hk hy hyd).one R₂ λc s₃ e₃ R₃=>?_))
  have hdl:(pre++d).length<=Gg:=by
   rw [<-he,Ah]at hz
   rw [Ah,Av]
   lia
  refine Ad ((bG (ws:=[.ref acc,c]) (a:=acc) (vs:=At (pre++d)) (v:=.int v 0) (σ':=⟨W,ρ'++Qx cenv.locals acc x y o (some (.int v 0)) (pre++(d++[v])) τ⟩) (congrArg (λq=>[Bt acc,q]) e₃) (by
   rw [<-Ax]
   unfold Qx
   rw [show At (pre++d++[v])=At (pre++d)++[.int v 0]from Bh]
   exact .tau (Qw.pre (.there .here))) (by rw [Dw];exact hdl) rfl).to R₃ λ_ s₄ R₄=>?_)
  exact Au (Au ⟨rfl,r.length,by rw [hn];exact Nat.lt_succ_self _,d++[v],r,ρ',some (.int v 0),R₄,Y'',by rw [<-he,Ax];rfl,rfl⟩)
end
end
section
section
variable {Γ:Bj} {A:Aw} {σ σ':Ay} {s s':Ba} {env:Env}
theorem iP {C:Ak} {m:List (Str×Option Ab)} {W τ:List As} {P:Ba->Prop} (R:Ea Γ ⟨W,(.obj C,.fr m)::τ⟩ s)
  (k:∀s',Ea Γ ⟨W,τ⟩ s'->P s'):∃m,s.heap.Ns C m/\∀h',En C s.heap h'->P {s with heap:=h'}:=by
 obtain⟨M,N,_,_⟩:=(R.ents _ Bs).1
 exact⟨M,N,λh' hs=>k _ (Ea.dropObj (s':={s with heap:=h'}) R rfl hs.extBut rfl rfl)⟩
inductive Vd (σ₀:Ay) (W τ:List As) (vs:List Ab) (c:Ab) (σ₁:Ay):Prop
 |mk (a:Ak) (e:c=.ref a) (es:σ₁=σ₀) (m:(Er.obj a,CO.list vs)∈(⟨W,τ⟩:Ay).all)
theorem Vd.run {σ₀:Ay} {W τ:List As} {vs:List Ab} {t:Sem Ab} {K:Ab->Ba->Prop} {E:Ab->Ba->Prop} (h:T Γ A σ t (Vd σ₀ W τ vs)) (R:Ea Γ σ s) (k:∀a s',(Er.obj a,CO.list vs)∈(⟨W,τ⟩:Ay).all->Ea Γ σ₀ s'->K (.ref a) s'):Cp (Cd Γ.prog Γ.w) A t K E s:=
 h.elim R λv s' σ' R' q=>by
  obtain⟨a,e,es,m⟩:=q
  rw [Cc e]
  exact k a s' m (es▸R')
theorem iH {W τ:List As} {a:Ak} {vs:List Ab} {K:Ab->Ba->Prop} {E:Ab->Ba->Prop} (hm:(Er.obj a,CO.list vs)∈(⟨W,τ⟩:Ay).all) (R:Ea Γ ⟨W,τ⟩ s) (k:∀it s',Ea Γ ⟨W,(.obj it,.liter a 0)::τ⟩ s'->K (.ref it) s'):Cp (Cd Γ.prog Γ.w) A (Hu (.ref a)) K E s:=by
 obtain⟨ws,n,e,ew⟩:=(R.ents _ hm).1
 exact wpAny_pyIter_list ⟨_,e,rfl,n,rfl⟩ (k _ _ (R.push (c:=.liter a 0) (s':={s with heap:=s.heap.push _}) (λ_ _ e=>Al _ e) rfl rfl ⟨_,Bg _ rfl,rfl,rfl⟩))
theorem yR {C acc:Ak} {x y:Str} {o p:Option Ab} {ys:List Int} {W τ ρ ρ':List As}:As.le ⟨W,ρ++Qx C acc x y o p ys (ρ'++τ)⟩ ⟨W,ρ++(ρ'++Qx C acc x y o p ys τ)⟩:=As.le_perm (Bb W (Bb ρ (Yt _ _ ρ' τ).symm))
theorem vP {C acc:Ak} {x y:Str} {o p:Option Ab} {ys:List Int} {W τ ρ ρ':List As}:As.le ⟨W,ρ++(ρ'++Qx C acc x y o p ys τ)⟩ ⟨W,ρ++Qx C acc x y o p ys (ρ'++τ)⟩:=As.le_perm (Bb W (Bb ρ (Yt _ _ ρ' τ)))
inductive Aac (Γ:Bj) (A:Aw) (W τ:List As) (C acc it a:Ak) (x y:Str) (ks:List Int) (f:Int->List Int) (n:Nat) (s:Ba):Prop
 |mk (d r:List Int) (ρ:List As) (o p:Option Ab) (R:Ea Γ ⟨W,ρ++Qx C acc x y o p (d.flatMap f) τ⟩ s) (Y:Lb Γ A it (λσ=>(Er.obj a,CO.list (At ks))∈σ.all) (At r) ρ) (e:d++r=ks) (hn:n=r.length)
noncomputable def Aaf (Γ:Bj) (W τ:List As) (C acc:Ak) (x y:Str) (o:Option Ab) (ys:List Int) (r:Kw) (s:Ba):Prop:=match r with|.ok _=>∃p,Ea Γ ⟨W,Qx C acc x y o p ys τ⟩ s|.error _=>False
theorem bU {iter iter2:Aq} {x y:Str} {xp yp ep:Pos} {scope:La} {pos:Pos} {cl₀:List (Str×Ak)} {use:Option (Ab->Sem Unit)} {W τ:List As} {ks:List Int} {f:Int->List Int} {Q:Ab->Ay->Prop} (hh:A.handled=none)
  (h:T Γ A ⟨W,τ⟩ (Dr iter env) (Vd ⟨W,τ⟩ W τ (At ks)))
  (h2:∀k∈ks,∀C acc ρ p ys,T Γ A ⟨W,ρ++Qx C acc x y (some (.int k 0)) p ys τ⟩ (Dr iter2 (Lh scope cl₀ C env)) (Vd ⟨W,ρ++Qx C acc x y (some (.int k 0)) p ys τ⟩ W τ (At (f k))))
  (hz:(ks.flatMap f).length<=100000)
  (done:∀acc,match use with
    |none=>Q (.ref acc) ⟨W,(.obj acc,.list (At (ks.flatMap f)))::τ⟩
    |some u=>∀C m,m.map (·.1)=[x,y]->T Γ A ⟨W,(.obj C,.fr m)::(.obj acc,.list (At (ks.flatMap f)))::τ⟩ (u (.ref acc)) λ_ σ'=>∃τ' m',m'.map (·.1)=[x,y]/\As.le ⟨W,(.obj C,.fr m')::τ'⟩ σ'/\Q .none ⟨W,τ'⟩)
  (hxy:(x==y)=false) (hcells:∀C,Fe (C+1) scope.names []=[]) (hlx:(Lh scope cl₀ 0 env).kindOf x=some .local) (hly:(Lh scope cl₀ 0 env).kindOf y=some .local) (hyd:(y==("__debug__" :Str))=false)
  (hclos:Jv scope env=pure cl₀) (hkind:scope.kind=.function) (hnames:(scope.names.all λx=>x.2 != .local||scope.names.lookup x.1==some .local)=true)
  (hs:∀v,Dt iter env v=pure v) (hs2:∀C v,Dt iter2 (Lh scope cl₀ C env) v=pure v) (ht:∀it v,Dn (.Name x xp) it v=pure ()) (ht2:∀it v,Dn (.Name y yp) it v=pure ()):
  T Γ A ⟨W,τ⟩ (comprehension (cT (.Name y ep) iter iter2 x y xp yp scope pos) scope env (firstIterPos [⟨.Name x xp,iter,[],0⟩,⟨.Name y yp,iter2,[],0⟩] pos) (newList []) false (Dr iter env) use) Q:=λs R=>by
 refine wpAny_comprehension_free (g:=⟨.Name x xp,iter,[],0⟩) (gs:=[⟨.Name y yp,iter2,[],0⟩]) rfl hs hclos hkind (λx hx hl=>?_) (Vd.run h R λa s₁ ham R₁=>iH ham R₁ λit s₂ R₂=>?_)
 ·have:=Fu.mp hnames x hx
  rw [hl]at this
  simpa using this
 refine Et (eJ λh₁ ns cells keep=>?_)
 have hnd:([x,y]:List Str).Nodup:=by
  refine Ey.mpr ⟨λq=>?_,Ey.mpr ⟨λq=>(nomatch q),.nil⟩⟩
  rw [Be.mp q,beq_self_eq_true]at hxy
  cases hxy
 have Re:Ea Γ ⟨W,[(.obj it,.liter a 0)]++Qx _ s₂.heap.objs.size x y none none [] τ⟩ _:=oM (m:=λ_=>[(x,none),(y,none)]) (cE:=λ_ _=>[]) (ρ:=[(.obj it,.liter a 0)]) R₂ (λp hp=>by rcases Ce.mp hp with e|hp;rw [e];rw [Be.mp hp]) hnd (λC=>by rw [hcells];rfl) rfl rfl ns cells keep
 generalize (s₂.heap.push _).objs.size=C at *
 generalize s₂.heap.objs.size=acc at *
 generalize ({s₂ with heap:=h₁}:Ba)=s₃ at Re
 clear ns cells keep R₂ hnd
 have fin:∀m s',m.map (·.1)=[x,y]->Ea Γ ⟨W,(.obj C,.fr m)::(.obj acc,.list (At (ks.flatMap f)))::τ⟩ s'->
   compPost (Cd Γ.prog Γ.w) A (λ_ _=>False) use (λv s'=>fB Γ Q (cln v) s') (.ref acc) C (.ok .next) s':=by
  intro m s' hm R'
  have dn:=done acc
  cases use with
  |none=>exact iP (P:=λs'=>fB Γ Q (cln (.ref acc)) s') R' λs'' R''=>⟨_,R'',dn⟩
  |some u=>
   refine(dn C m hm).elim R' λ_ s₅ σ₅ R₅ zz=>?_
   obtain⟨τ',m',hm',le,q⟩:=zz
   exact iP (P:=λs'=>fB Γ Q .none s') (le Γ s₅ R₅) λs'' R''=>⟨_,R'',q⟩
 have loop:∀s₃,Ea Γ ⟨W,[(.obj it,.liter a 0)]++Qx C acc x y none none [] τ⟩ s₃->Jz (Cd Γ.prog Γ.w) A (.compLoop (cT (.Name y ep) iter iter2 x y xp yp scope pos) 0 (.ref it) (.ref acc) (Lh scope cl₀ C env))
   (compPost (Cd Γ.prog Γ.w) A (λ_ _=>False) use (λv s'=>fB Γ Q (cln v) s') (.ref acc) C) s₃:=by
  intro s₃ Re
  refine codeAny_loop rfl (Aac Γ A W τ C acc it a x y ks f) (λn s hI=>?_) ks.length ⟨[],ks,[(.obj it,.liter a 0)],none,none,Re,Es hh,rfl,rfl⟩
  obtain⟨d,r,ρ,o,p,R1,Y,he,hn⟩:=hI
  show Cp _ A ((compTurn (cT (.Name y ep) iter iter2 x y xp yp scope pos) 0 (.ref it) (.ref acc) (Lh scope cl₀ C env)).onRaise (λx=>do Pk x (Lh scope cl₀ C env);theTreesLotGoes x)) _ _ s
  refine wpAny_noted ?_
  rw [jR]
  have hb':(Er.obj a,CO.list (At ks))∈(⟨W,Qx C acc x y o p (d.flatMap f) τ⟩:Ay).all:=Bq (ρ:=[_,_]) ham
  refine Ad (Eo (Ad ?_))
  cases r with
  |nil=>
   rw [Cj]at he
   rw [he]at R1 hb'
   exact Y.stop hb' R1 λs₁ R₁=>Au (fin _ s₁ rfl R₁)
  |cons v r=>
   refine Y.more hb' R1 λu ρ' s₁ hu R₁ _ Y''=>?_
   have hvk:v∈ks:=by rw [<-he];exact Aa _ (.head _)
   dsimp only
   rw [ht]
   refine Ad (Au (Ad ?_))
   refine(Sn (env:=Lh scope cl₀ C env) (σ':=⟨W,ρ'++Qx C acc x y (some (.int v 0)) p (d.flatMap f) τ⟩) hu .here (.tau (Qw.pre .here)) rfl hkind hlx).to R₁ λ_ s₂ R₂=>?_
   refine Ad (Vd.run (h2 v hvk C acc ρ' p (d.flatMap f)) R₂ λb s₃ hbm R₃=>?_)
   refine Ad (Eo (Ad ?_))
   rw [hs2]
   refine Au (Ad (Dz ?_))
   refine iH (W:=W) (τ:=ρ'++Qx C acc x y (some (.int v 0)) p (d.flatMap f) τ) (Bq (Bq (ρ:=[_,_]) hbm)) R₃ λit2 s₄ R₄=>?_
   have hfl:(d++[v]).flatMap f=d.flatMap f++f v:=by rw [Je,List.flatMap_singleton]
   have hlen:(d.flatMap f).length+(f v).length<=100000:=by
    rw [<-Ah,<-hfl]
    refine Bw ?_ hz
    have e9:ks.flatMap f=(d++[v]).flatMap f++r.flatMap f:=by rw [<-he,List.append_cons d v r];exact Je
    rw [e9,Ah]
    exact Nat.le_add_right _ _
   have go:∀s₅,Ea Γ ⟨W,(.obj it2,.liter b 0)::(ρ'++Qx C acc x y (some (.int v 0)) p (d.flatMap f) τ)⟩ s₅->Jz (Cd Γ.prog Γ.w) A (.compLoop (cT (.Name y ep) iter iter2 x y xp yp scope pos) 1 (.ref it2) (.ref acc) (Lh scope cl₀ C env))
     (Aaf Γ W (ρ'++τ) C acc x y (some (.int v 0)) ((d++[v]).flatMap f)) s₅:=λs₅ R₅=>by
    refine jS (cenv:=Lh scope cl₀ C env) (b:=b) (fs:=f v) (pre:=d.flatMap f) (τ:=ρ'++τ) (o:=some (.int v 0)) (p0:=p) hh (Bq hbm) hlen hkind hly hyd ht2 (λs₆ ρ₂ p' R₆=>?_) (yR (ρ:=[_]) Γ s₅ R₅)
    rw [hfl]
    exact⟨p',As.le_sub (Bp ρ₂ _) _ _ R₆⟩
   refine Ad (wpAny_runOwn (Jg (gB (A:=A) (go s₄ R₄) ((Gv W _).ref R₄ go)) λr' s' z=>?_))
   cases r' with
   |error _=>exact z.elim
   |ok fl=>
    obtain⟨p',R₆⟩:=z
    exact Au ⟨rfl,r.length,by rw [hn];exact Nat.lt_succ_self _,d++[v],r,ρ',some (.int v 0),p',vP (ρ:=[]) Γ s' R₆,Y'',by rw [<-he,Ax];rfl,rfl⟩
 exact codeAny_compStart_list (loop s₃ Re) ((Gv W _).ref Re loop)
end
end
section
section
variable {Γ:Bj} {A:Aw} {σ σ':Ay} {s s':Ba} {env:Env}
theorem xL {iter iter2:Aq} {x y:Str} {xp yp ep:Pos} {scope:La} {pos:Pos} {cl₀:List (Str×Ak)} {W τ:List As} {ks:List Int} {f:Int->List Int} {Q:Ab->Ay->Prop} (hh:A.handled=none)
  (h:T Γ A ⟨W,τ⟩ (Dr iter env) (Vd ⟨W,τ⟩ W τ (At ks)))
  (h2:∀k∈ks,∀C acc ρ p ys,T Γ A ⟨W,ρ++Qx C acc x y (some (.int k 0)) p ys τ⟩ (Dr iter2 (Lh scope cl₀ C env)) (Vd ⟨W,ρ++Qx C acc x y (some (.int k 0)) p ys τ⟩ W τ (At (f k))))
  (hz:(ks.flatMap f).length<=100000) (done:∀acc,Q (.ref acc) ⟨W,(.obj acc,.list (At (ks.flatMap f)))::τ⟩)
  (hxy:autoParam ((x==y)=false) aD) (hcells:autoParam (∀C,Fe (C+1) scope.names []=[]) aI) (hlx:autoParam ((Lh scope cl₀ 0 env).kindOf x=some .local) aR) (hly:autoParam ((Lh scope cl₀ 0 env).kindOf y=some .local) aR) (hyd:autoParam ((y==("__debug__" :Str))=false) aD)
  (hclos:autoParam (Jv scope env=pure cl₀) aR) (hkind:autoParam (scope.kind=.function) aR) (hnames:autoParam ((scope.names.all λx=>x.2 != .local||scope.names.lookup x.1==some .local)=true) aR)
  (hs:autoParam (∀v,Dt iter env v=pure v) aI) (hs2:∀C v,Dt iter2 (Lh scope cl₀ C env) v=pure v:=by intro _ _;rfl) (ht:autoParam (∀it v,Dn (.Name x xp) it v=pure ()) aI) (ht2:∀it v,Dn (.Name y yp) it v=pure ():=by intro _ _;rfl):
  T Γ A ⟨W,τ⟩ (Dr (cT (.Name y ep) iter iter2 x y xp yp scope pos) env) Q:=by
 rw [eval_ListComp]
 exact bU (use:=none) hh h h2 hz done hxy hcells hlx hly hyd hclos hkind hnames hs hs2 ht ht2
theorem cS {iter iter2:Aq} {x y z:Str} {xp yp ep zp spos:Pos} {scope:La} {pos:Pos} {cl₀:List (Str×Ak)} {W τ:List As} {ks:List Int} {f:Int->List Int} {Q:Fv->Ay->Prop} (hh:A.handled=none)
  (h:T Γ A ⟨W,τ⟩ (Dr iter env) (Vd ⟨W,τ⟩ W τ (At ks)))
  (h2:∀k∈ks,∀C acc ρ p ys,T Γ A ⟨W,ρ++Qx C acc x y (some (.int k 0)) p ys τ⟩ (Dr iter2 (Lh scope cl₀ C env)) (Vd ⟨W,ρ++Qx C acc x y (some (.int k 0)) p ys τ⟩ W τ (At (f k))))
  (hz:(ks.flatMap f).length<=100000) (done:∀acc,∃ov τ',Qw ((.obj acc,.list (At (ks.flatMap f)))::τ) (.var env.locals z) (.val ov) (.val (some (.ref acc))) τ'/\Q .next ⟨W,τ'⟩)
  (hk:autoParam (env.scope.kind=.function) aR) (hl:autoParam (env.kindOf z=some .local) aR) (hsw:autoParam (Lq (cT (.Name y ep) iter iter2 x y xp yp scope pos) (some (.Name z zp)) spos.line env=pure true) aR)
  (hxy:autoParam ((x==y)=false) aD) (hcells:autoParam (∀C,Fe (C+1) scope.names []=[]) aI) (hlx:autoParam ((Lh scope cl₀ 0 env).kindOf x=some .local) aR) (hly:autoParam ((Lh scope cl₀ 0 env).kindOf y=some .local) aR) (hyd:autoParam ((y==("__debug__" :Str))=false) aD)
  (hclos:autoParam (Jv scope env=pure cl₀) aR) (hkind:autoParam (scope.kind=.function) aR) (hnames:autoParam ((scope.names.all λx=>x.2 != .local||scope.names.lookup x.1==some .local)=true) aR)
  (hs:autoParam (∀v,Dt iter env v=pure v) aI) (hs2:∀C v,Dt iter2 (Lh scope cl₀ C env) v=pure v:=by intro _ _;rfl) (ht:autoParam (∀it v,Dn (.Name x xp) it v=pure ()) aI) (ht2:∀it v,Dn (.Name y yp) it v=pure ():=by intro _ _;rfl):
  T Γ A ⟨W,τ⟩ (Mx (.Assign [.Name z zp] (cT (.Name y ep) iter iter2 x y xp yp scope pos) spos) env) Q:=by
 rw [exec_Assign_Name_used _ _ _ _ hsw]
 intro s R
 refine Ad (Eo (Ad ?_))
 show Cp _ _ (do let _<-comprehension (cT (.Name y ep) iter iter2 x y xp yp scope pos) scope env (firstIterPos [⟨.Name x xp,iter,[],0⟩,⟨.Name y yp,iter2,[],0⟩] pos) (newList []) false (Dr iter env) (some (Ij (.Name z zp) env))) _ _ _
 refine Ad ((bU (Q:=λ_ σ'=>Q .next σ') (use:=some (Ij (.Name z zp) env)) hh h h2 hz (λacc C m hm=>?_) hxy hcells hlx hly hyd hclos hkind hnames hs hs2 ht ht2).elim R λv s' σ' R' q=>Au (Au ⟨σ',R',q⟩))
 obtain⟨ov,τ',U,q⟩:=done acc
 exact Ct (v:=.ref acc) rfl (.tau (.there U)) ⟨τ',m,hm,As.le_refl _,q⟩ hk hl
end
noncomputable def nv (l:List Nat):List Int:=l.map λk:Nat=>(k:Int)
noncomputable abbrev iv (l:List Nat):List Ab:=At (nv l)
theorem pI (a b:List Nat):nv (a++b)=nv a++nv b:=by simp [nv]
theorem Zy {p:Nat->Bool} {a:List Nat} {j:Nat} (h:p j=true):(a++[j]).filter p=a.filter p++[j]:=by rw [Ez,Gj,if_pos h,Ow]
theorem aK {p:Nat->Bool} {a:List Nat} {j:Nat} (h:p j=false):(a++[j]).filter p=a.filter p:=by rw [Ez,Gj,h];exact Cj _
theorem Sz (a b:List Nat):iv (a++b)=iv a++iv b:=by simp [nv,At]
theorem Wg (a:List Nat) (j:Nat):iv a++[.int (j:Int) 0]=iv (a++[j]):=by simp [nv,At]
theorem Lr (l:List Nat):(nv l).length=l.length:=by simp [nv]
theorem Cq (l:List Nat):(iv l).length=l.length:=by simp [nv,At]
theorem aJ (l:List Nat):iv l=l.map λj=>.int (j:Int) 0:=by
 unfold iv nv At
 rw [Ec]
 rfl
inductive Ahc (m:Nat) (d:List Ab) (v:Ab):Prop
 |mk (ev:v=.int (d.length:Int) 0) (h:d.length < m)
theorem eH {m:Nat} {d r:List Ab} {v:Ab} (h:d++v::r=iv (El m)):Ahc m d v:=by
 have h1:(iv (El m))[d.length]? =some v:=by rw [<-h,Ha (Bx _),Qc];rfl
 rw [aJ,Bc,Cw]at h1
 obtain⟨j,hj,e⟩:=h1
 obtain⟨hl,ej⟩:=Aj.mp hj
 rw [Du]at hl
 rw [Me]at ej
 exact⟨by rw [<-e,<-ej],hl⟩
inductive Aib (js:List Nat) (d r:List Ab) (v:Ab):Prop
 |mk (a:List Nat) (j:Nat) (b:List Nat) (e1:js=a++j::b) (e2:d=iv a) (e3:v=.int (j:Int) 0) (e4:r=iv b)
theorem Wl {js:List Nat} {d r:List Ab} {v:Ab} (h:d++v::r=iv js):Aib js d r v:=by
 induction d generalizing js with
 |nil=>
  match js,h with
  |j::b,h=>
   simp only [Fq,iv,nv,At,Cf,Ib]at h
   exact⟨[],j,b,rfl,rfl,h.1,by rw [h.2];rfl⟩
 |cons x d ih=>
  match js,h with
  |j::js,h=>
   simp only [iv,nv,At,Cf,Hp,Ib]at h
   obtain⟨a,j',b,e1,e2,e3,e4⟩:=ih (js:=js) (by rw [h.2];rfl)
   subst e1;subst e2;exact⟨j::a,j',b,rfl,by rw [h.1];rfl,e3,e4⟩
theorem sL (acc:List Nat) (x:Nat):(nv acc).any (· ==(x:Int))=acc.contains x:=by
 induction acc with
 |nil=>rfl
 |cons a r ih=>
  have:nv (a::r)=(a:Int)::nv r:=rfl
  rw [this,Om,ih,Pg]
  congr 1
  rw [Kf,beq_iff_eq,beq_iff_eq]
  lia
theorem Uj:∀(l acc:List Nat),Lm (nv acc) (nv l)=nv (acc++Ck acc l)
 |[],acc=>by simp [Ck,Lm,nv]
 |x::r,acc=>by
  have:nv (x::r)=(x:Int)::nv r:=rfl
  rw [this]
  unfold Lm Ck
  rw [sL]
  split
  ·exact Uj r acc
  ·have e:nv acc++[(x:Int)]=nv (acc++[x]):=by simp [nv]
   rw [e,Uj r (acc++[x])]
   simp
theorem Sj (l:List Nat):yL (nv l)=nv (Ck [] l):=by
 have:=Uj l []
 rw [Fq]at this
 exact this
theorem bK (l:List Nat) (f:Nat->List Nat):(nv l).flatMap (λk=>nv (f k.toNat))=nv (l.flatMap f):=by
 induction l with
 |nil=>rfl
 |cons a r ih=>
  have:nv (a::r)=(a:Int)::nv r:=rfl
  rw [this,Gs,Gs,ih,pI]
  simp
noncomputable def LL (τ:List As) (a:Ak) (ls:List (List Nat)):Prop:=∃as:List Ak,as.length=ls.length/\(Er.obj a,CO.list (as.map .ref))∈τ/\∀(k:Nat) (b:Ak) (l:List Nat),as[k]? =some b->ls[k]? =some l->(Er.obj b,CO.list (iv l))∈τ
theorem LL.ext {τ ρ:List As} {a:Ak} {ls:List (List Nat)} (h:LL τ a ls):LL (ρ++τ) a ls:=let ⟨as,h1,h2,h3⟩:=h;⟨as,h1,Aa _ h2,λk b l e1 e2=>Aa _ (h3 k b l e1 e2)⟩
theorem LL.sub {τ τ':List As} {a:Ak} {ls:List (List Nat)} (h:LL τ a ls) (k:∀p∈τ,p∈τ'):LL τ' a ls:=let ⟨as,h1,h2,h3⟩:=h;⟨as,h1,k _ h2,λi b l e1 e2=>k _ (h3 i b l e1 e2)⟩
inductive Aia (τ:List As) (a:Ak) (ls:List (List Nat)) (i:Nat):Prop
 |mk (as:List Ak) (b:Ak) (h1:(Er.obj a,CO.list (as.map .ref))∈τ) (h2:(as.map Bt)[((i:Int)).toNat]? =some (.ref b)) (h3:(Er.obj b,CO.list (iv (ls.getD i [])))∈τ)
theorem LL.row {τ:List As} {a:Ak} {ls:List (List Nat)} (h:LL τ a ls) {i:Nat} (hi:i < ls.length):Aia τ a ls i:=by
 obtain⟨as,h1,h2,h3⟩:=h
 have hb:as[i]? =some (as[i]'(by rw [h1];exact hi)):=Bm _
 refine⟨as,as[i]'(by rw [h1];exact hi),h2,by rw [Df,Bc,hb];rfl,h3 i _ _ hb ?_⟩
 rw [Db,Bm hi];rfl
noncomputable abbrev Vi (fa ab sp de ih:Ak):List (Str×Ab):=[("faces",.ref fa),("above",.ref ab),("specs",.ref sp),("declared",.ref de),("inherit",.ref ih)]
structure Zt (τ:List As) (w fa ab sp de ih:Ak) (AB DE IH:List (List Nat)):Prop where
 dict:(Er.obj w,CO.sdict (Vi fa ab sp de ih))∈τ
 above:LL τ ab AB
 decl:LL τ de DE
 inh:LL τ ih IH
theorem Zt.sub {τ τ':List As} {w fa ab sp de ih:Ak} {AB DE IH:List (List Nat)} (h:Zt τ w fa ab sp de ih AB DE IH) (k:∀p∈τ,p∈τ'):Zt τ' w fa ab sp de ih AB DE IH:=⟨k _ h.dict,h.above.sub k,h.decl.sub k,h.inh.sub k⟩
theorem Zt.ext {τ ρ:List As} {w fa ab sp de ih:Ak} {AB DE IH:List (List Nat)} (h:Zt τ w fa ab sp de ih AB DE IH):Zt (ρ++τ) w fa ab sp de ih AB DE IH:=h.sub λ_ hp=>Aa _ hp
structure rU (m:Nat) (AB DE IH:List (List Nat)):Prop where
 m4:m<=4
 lenA:AB.length=m
 A:∀i,(AB.getD i []).length<=4/\∀k∈AB.getD i [],k < m
 lenD:DE.length=4
 D:∀i,(DE.getD i []).Nodup/\∀k∈DE.getD i [],k < m
 lenI:IH.length=4
 I:∀i,(IH.getD i []).length<=3/\∀k∈IH.getD i [],k < i
noncomputable def Lf (AB DE IH:List (List Nat)):Nat->Nat->List Nat
 |0,_=>[]
 |n+1,i=>Ck [] ((DE.getD i []).flatMap (λk=>AB.getD k [])++(IH.getD i []).flatMap (Lf AB DE IH n))
noncomputable def Js (DE IH:List (List Nat)):Nat->Nat->List Nat
 |0,_=>[]
 |n+1,i=>Ck [] (DE.getD i []++(IH.getD i []).flatMap (Js DE IH n))
theorem rU.D4 {m:Nat} {AB DE IH:List (List Nat)} (h:rU m AB DE IH) (i:Nat):(DE.getD i []).length<=4:=Bw (Gh m _ (h.D i).1 (h.D i).2) h.m4
theorem Zx {m:Nat} {AB DE IH:List (List Nat)} (h:rU m AB DE IH):∀n i,(Lf AB DE IH n i).length<=4/\(Lf AB DE IH n i).Nodup/\∀k∈Lf AB DE IH n i,k < m:=by
 intro n
 induction n with
 |zero=>intro i;exact⟨Ca _,.nil,λk hk=>(nomatch hk)⟩
 |succ n ih=>
  intro i
  unfold Lf
  have h1:∀k∈Ck [] ((DE.getD i []).flatMap (λk=>AB.getD k [])++(IH.getD i []).flatMap (Lf AB DE IH n)),k < m:=λk hk=>by
   rcases Ai.mp (Mj _ _ k hk).1 with q|q
   ·obtain⟨j,_,hj⟩:=Fg.mp q
    exact(h.A j).2 k hj
   ·obtain⟨j,_,hj⟩:=Fg.mp q
    exact(ih j).2.2 k hj
  exact⟨Bw (Gh m _ (Jb _ _) h1) h.m4,Jb _ _,h1⟩
theorem Ug {m:Nat} {AB DE IH:List (List Nat)} (h:rU m AB DE IH):∀n i,(Js DE IH n i).length<=4/\(Js DE IH n i).Nodup/\∀k∈Js DE IH n i,k < m:=by
 intro n
 induction n with
 |zero=>intro i;exact⟨Ca _,.nil,λk hk=>(nomatch hk)⟩
 |succ n ih=>
  intro i
  unfold Js
  have h1:∀k∈Ck [] (DE.getD i []++(IH.getD i []).flatMap (Js DE IH n)),k < m:=λk hk=>by
   rcases Ai.mp (Mj _ _ k hk).1 with q|q
   ·exact(h.D i).2 k q
   ·obtain⟨j,_,hj⟩:=Fg.mp q
    exact(ih j).2.2 k hj
  exact⟨Bw (Gh m _ (Jb _ _) h1) h.m4,Jb _ _,h1⟩
theorem Rx {f:Nat->List Nat} {c:Nat}:∀{l:List Nat},(∀k∈l,(f k).length<=c)->(l.flatMap f).length<=l.length * c
 |[],_=>Ca _
 |a::r,h=>by
  rw [Gs,Ah,Ft,Nat.succ_mul]
  have h1:=h a (.head _)
  have h2:=Rx (l:=r) λk hk=>h k (.tail _ hk)
  lia
end
section
theorem zI (Γ:Bj):Γ.K.lookup 478=some ⟨.type "function",none,.func (Ka Γ 478 "_law_implied" (topStmt 25) (.ref 477) .none),#[]⟩:=by kernel_rfl
theorem wN (Γ:Bj):Γ.K.lookup 485=some ⟨.type "function",none,.func (Ka Γ 485 "_law_near" (topStmt 26) (.ref 484) .none),#[]⟩:=by kernel_rfl
noncomputable abbrev gS (L:Ak):Env:=Gk "_law_implied" (fScope (topStmt 25)) L 478 (.ref 477) [("world",L+1)]
noncomputable abbrev gR (L:Ak):Env:=Gk "_law_near" (fScope (topStmt 26)) L 485 (.ref 484) []
noncomputable abbrev liV (L w:Ak) (i:Nat) (r h:Option Ab) (τ:List As):List As:=(.obj (L+1),.cell (some (.ref w)))::(.var L "one",.val (some (.int (i:Int) 0)))::(.var L "row",.val r)::(.var L "heir",.val h)::τ
noncomputable abbrev lnV (L w:Ak) (i:Nat) (r h:Option Ab) (τ:List As):List As:=(.var L "world",.val (some (.ref w)))::(.var L "one",.val (some (.int (i:Int) 0)))::(.var L "row",.val r)::(.var L "heir",.val h)::τ
theorem kS {l:List Nat} {k:Int} (h:k∈nv l):∃n:Nat,k=(n:Int)/\n∈l:=by
 obtain⟨n,h1,h2⟩:=Bn.mp h
 exact⟨n,h2.symm,h1⟩
section
variable {Γ:Bj} {A:Aw} {σ:Ay}
theorem sU {m:Nat} {AB DE IH:List (List Nat)} (wf:rU m AB DE IH):∀(n:Nat) {A:Aw} {W τ:List As} {w fa ab sp de ih:Ak} {i:Nat} {Q:Ab->Ay->Prop},i < n->n<=4->Zt τ w fa ab sp de ih AB DE IH->Rm A (n+2)->A.handled=none->
  (∀r,Q (.ref r) ⟨W,(.obj r,.list (iv (Lf AB DE IH n i)))::τ⟩)->∀ws,ws.map cl=[.ref w,.int (i:Int) 0]->TC Γ A ⟨W,τ⟩ (.ref 478) ws [] Q:=by
 intro n
 induction n with
 |zero=>intro A W τ w fa ab sp de ih i Q hi;lia
 |succ n IHn=>
 intro A W τ w fa ab sp de ih i Q hi hn hL hA hh h ws hw
 refine Wb (body:=fBody (topStmt 25)) (bs:=[("world",.ref w),("one",.int (i:Int) 0)]) ["one","row","heir"] (zI Γ) (by kernel_rfl) hA.room (Gu.plain2 λ_ _ _=>Cg (by rfl)) (λL=>?_) (by rfl) (by decide) (by decide) (by rfl) (by rfl) (by rfl) ws [] hw rfl
 show T Γ (A.deeper (gS L)) ⟨W,liV L w i none none τ⟩ (Cm _ (gS L)) _
 have hA':Rm (A.deeper (gS L)) (n+2):=hA.deeper
 obtain⟨das,db,d1,d2,d3⟩:=hL.decl.row (i:=i) (by rw [wf.lenD];lia)
 have tail4:∀{p:As} r hh,p∈τ->p∈liV L w i r hh τ:=λr hh hp=>.tail _ (.tail _ (.tail _ (.tail _ hp)))
 let base:=(DE.getD i []).flatMap λk=>AB.getD k []
 have hbl:base.length<=16:=by
  have:=Rx (f:=λk=>AB.getD k []) (c:=4) (l:=DE.getD i []) λk _=>(wf.A k).1
  have h4:=wf.D4 i
  show(List.flatMap _ _).length<=_
  lia
 have hfm:((nv (DE.getD i [])).flatMap λk=>nv (AB.getD k.toNat []))=nv base:=bK (DE.getD i []) (λk=>AB.getD k [])
 refine Am (cS (ks:=nv (DE.getD i [])) (f:=λk=>nv (AB.getD k.toNat [])) hh ?_ ?_ (by rw [hfm,Lr];lia) λacc=>?_)
 ·exact Bd (Bd (An (v:=.ref w) rfl (Ae (.head _)) (Kg (Ee (Ae (tail4 _ _ hL.dict)) (v:=.ref de) (by rfl) (Ac (v:=.int (i:Int) 0) (Ae (.tail _ (.head _))) (Gn<|Ch (vs:=das.map .ref) (v:=.ref db) (Ae (tail4 _ _ d1)) (by lia) (by lia) d2 ⟨db,rfl,rfl,Ae (tail4 _ _ d3)⟩))))))
 ·intro k hk C acc ρ p ys
  obtain⟨kn,rfl,hkn⟩:=kS hk
  have hkm:=(wf.D i).2 kn hkn
  obtain⟨aas,abb,a1,a2,a3⟩:=hL.above.row (i:=kn) (by rw [wf.lenA];exact hkm)
  have up:∀{q:As},q∈τ->q∈ρ++Qx C acc "k" "other" (some (.int (kn:Int) 0)) p ys (liV L w i none none τ):=λhq=>Aa _ (.tail _ (.tail _ (tail4 _ _ hq)))
  have m4:=wf.m4
  exact Bd (Bd (An (v:=.ref w) rfl (Ae (Aa _ (.tail _ (.tail _ (.head _))))) (Kg (Ee (Ae (up hL.dict)) (v:=.ref ab) (by rfl) (Di (v:=.int (kn:Int) 0) (Ae (Aa _ (.head _))) (.head _) (Gn<|Ch (vs:=aas.map .ref) (v:=.ref abb) (Ae (up a1)) (by lia) (by lia) a2 ⟨abb,rfl,rfl,by rw [Df];exact Ae (tail4 _ _ a3)⟩))))))
 rw [hfm]
 refine⟨_,_,.there (.there (.there .here)),?_⟩
 refine Fb.go ?_
 obtain⟨has,hb,h1,h2,h3⟩:=hL.inh.row (i:=i) (by rw [wf.lenI];lia)
 have hI:=wf.I i
 let Z:Option Ab->List Nat->List As:=λo ys=>(.obj acc,.list (iv ys))::liV L w i (some (.ref acc)) o τ
 have tail5:∀{p:As} o ys,p∈τ->p∈Z o ys:=λo ys hp=>.tail _ (tail4 _ _ hp)
 show T Γ (A.deeper (gS L)) ⟨W,Z none base⟩ _ _
 refine Am (Pt (Bd (Bd (An (v:=.ref w) rfl (Ae (.tail _ (.head _))) (Kg (Ee (Ae (tail5 _ _ hL.dict)) (v:=.ref ih) (by rfl) (Ac (v:=.int (i:Int) 0) (Ae (.tail _ (.tail _ (.head _)))) (Gn<|Ch (vs:=has.map .ref) (v:=.ref hb) (Ae (tail5 _ _ h1)) (by lia) (by lia) h2 (Eh (vs:=iv (IH.getD i [])) (Ae (tail5 _ _ h3)) λit=>?_)))))))))
 refine⟨it,_,_,_,_,_,⟨rfl,rfl,Es (a:=hb) (vs:=iv (IH.getD i [])) hh⟩,λd σ=>∃o,σ=⟨W,Z o (base++((IH.getD i []).take d.length).flatMap (Lf AB DE IH n))⟩,⟨none,by simp only [List.length_nil,List.take_zero,List.flatMap_nil,Cj];rfl⟩,?_,?_,?_⟩
 ·rintro d _ ⟨o,rfl⟩
  exact Ae (tail5 _ _ h3)
 ·rintro d v r u ρ _ he hu ⟨o,rfl⟩ Kq hK
  obtain⟨a,j,b,e1,e2,rfl,_⟩:=Wl he
  have hj:=hI.2 j (by rw [e1];simp)
  have hdl:d.length=a.length:=by rw [e2,Cq]
  have ht:(IH.getD i []).take d.length=a:=by rw [hdl,e1];simp
  have ht':(IH.getD i []).take (d++[Fl (j:Int) 0]).length=a++[j]:=by
   rw [Ah,hdl,Bo,e1,show a++j::b=(a++[j])++b by simp]
   exact Fh (by simp)
  have hal:a.length<=3:=by have:=congrArg Ia e1;simp only [Ah,Ft]at this;lia
  have hlen:(base++a.flatMap (Lf AB DE IH n)).length<=100:=by
   have:=Rx (f:=Lf AB DE IH n) (c:=4) (l:=a) λk _=>(Zx wf n k).1
   rw [Ah];lia
  have hil:=(Zx wf n j).1
  rw [ht]
  refine Ct hu (by walk_at "upd") ?_
  have hLx:Zt (ρ++Z (some (.int (j:Int) 0)) (base++a.flatMap (Lf AB DE IH n))) w fa ab sp de ih AB DE IH:=hL.sub λp hp=>Aa _ (tail5 _ _ hp)
  show T Γ (A.deeper (gS L)) ⟨W,ρ++Z (some (.int (j:Int) 0)) (base++a.flatMap (Lf AB DE IH n))⟩ _ _
  refine Am (Fy (Fi (Ac (v:=.ref acc) (by walk_at "mem") (Cz Cr Op PySem.F.type_list_extend (Ik (vs:=iv (base++a.flatMap (Lf AB DE IH n))) (by walk_at "mem")) ⟨.inr (.inl ⟨_,rfl⟩),?_⟩))))
  refine Ag (Bz (Bk (v:=.ref 478) (by kernel_rfl) ⟨.inl (by kernel_rfl),?_⟩))
  refine Ag (An (v:=.ref w) rfl (by walk_at "mem") (Ag (Ac (v:=.int (j:Int) 0) (by walk_at "mem") (Ao λws hw=>(IHn (by lia) (by lia) hLx hA' hh (λr=>?_) ws hw).T))))
  refine Ao (jA (vs:=iv (base++a.flatMap (Lf AB DE IH n))) (us:=iv (Lf AB DE IH n j)) (Ae (.head _)) (.tau (.there (.pre .here))) (by rw [Cq,Cq];lia) ?_)
  refine Fb.go (Ci (hK .next _ ⟨W,Z (some (.int (j:Int) 0)) (base++(a++[j]).flatMap (Lf AB DE IH n)),?_,some (.int (j:Int) 0),by rw [ht']⟩))
  have e6:iv (base++(a++[j]).flatMap (Lf AB DE IH n))=iv (base++a.flatMap (Lf AB DE IH n))++iv (Lf AB DE IH n j):=by
   rw [Je,<-Ax,Sz]
   simp
  show As.le ⟨W,ρ++((.obj acc,.list (iv (base++(a++[j]).flatMap (Lf AB DE IH n))))::liV L w i (some (.ref acc)) (some (.int (j:Int) 0)) τ)⟩ _
  rw [e6]
  exact As.le_sub (.cons _ (.refl _))
 rintro _ ⟨o,rfl⟩
 rw [Cq,Em]
 refine Ci ?_
 refine Fb.go ?_
 have hall:(base++(IH.getD i []).flatMap (Lf AB DE IH n)).length<=100:=by
  have:=Rx (f:=Lf AB DE IH n) (c:=4) (l:=IH.getD i []) λk _=>(Zx wf n k).1
  rw [Ah];lia
 refine Am (Fj (Bz (Bk (v:=.ref 473) (by kernel_rfl) ⟨.inl (by kernel_rfl),?_⟩)))
 refine Ag (Ac (v:=.ref acc) (by walk_at "mem") (Ao λws hw=>(Uc (ns:=nv (base++(IH.getD i []).flatMap (Lf AB DE IH n))) (hA'.le (by lia)) hh (Ae (.head _)) (by rw [Lr];lia) (λr=>?_) ws hw).T))
 rw [Sj]
 exact⟨_,As.le_sub (.cons_cons _ (.cons _ (.cons _ (.cons _ (.cons _ (.cons _ (.refl _))))))),h r⟩
end
end
section
section
variable {Γ:Bj} {A:Aw} {σ:Ay}
theorem xA {m:Nat} {AB DE IH:List (List Nat)} (wf:rU m AB DE IH):∀(n:Nat) {A:Aw} {W τ:List As} {w fa ab sp de ih:Ak} {i:Nat} {Q:Ab->Ay->Prop},i < n->n<=4->Zt τ w fa ab sp de ih AB DE IH->Rm A (n+2)->A.handled=none->
  (∀r,Q (.ref r) ⟨W,(.obj r,.list (iv (Js DE IH n i)))::τ⟩)->∀ws,ws.map cl=[.ref w,.int (i:Int) 0]->TC Γ A ⟨W,τ⟩ (.ref 485) ws [] Q:=by
 intro n
 induction n with
 |zero=>intro A W τ w fa ab sp de ih i Q hi;lia
 |succ n IHn=>
 intro A W τ w fa ab sp de ih i Q hi hn hL hA hh h ws hw
 refine Oy (body:=fBody (topStmt 26)) (bs:=[("world",.ref w),("one",.int (i:Int) 0)]) ["world","one","row","heir"] (wN Γ) (by kernel_rfl) hA.room (Gu.plain2 λ_ _ _=>Cg (by rfl)) (λL=>?_) (by rfl) (by rfl) (by decide) (by rfl) (by rfl) (by rfl) ws [] hw rfl
 show T Γ (A.deeper (gR L)) ⟨W,lnV L w i none none τ⟩ (Cm _ (gR L)) _
 have hA':Rm (A.deeper (gR L)) (n+2):=hA.deeper
 obtain⟨das,db,d1,d2,d3⟩:=hL.decl.row (i:=i) (by rw [wf.lenD];lia)
 have tail4:∀{p:As} r hh,p∈τ->p∈lnV L w i r hh τ:=λr hh hp=>.tail _ (.tail _ (.tail _ (.tail _ hp)))
 have hbl:=wf.D4 i
 refine Am (Bl (Bz (Az (v:=.type "list") (by kernel_rfl) (by decide+kernel) (by decide) ⟨.inr (.inr ⟨_,rfl⟩),?_⟩)))
 refine Ag (Bd (Bd (Ac (v:=.ref w) (Ae (.head _)) (Kg (Ee (Ae (tail4 _ _ hL.dict)) (v:=.ref de) (by rfl) (Ac (v:=.int (i:Int) 0) (Ae (.tail _ (.head _))) (Gn<|Ch (vs:=das.map .ref) (v:=.ref db) (Ae (tail4 _ _ d1)) (by lia) (by lia) d2 ?_)))))))
 refine Ao λws hw=>Uq (vs:=iv (DE.getD i [])) (Ae (tail4 _ _ d3)) (by rw [Cq];lia) (λacc=>⟨_,_,by walk_at "upd",?_⟩) ws hw
 refine Fb.go ?_
 obtain⟨has,hb,h1,h2,h3⟩:=hL.inh.row (i:=i) (by rw [wf.lenI];lia)
 have hI:=wf.I i
 let Z:Option Ab->List Nat->List As:=λo ys=>(.obj acc,.list (iv ys))::lnV L w i (some (.ref acc)) o τ
 have tail5:∀{p:As} o ys,p∈τ->p∈Z o ys:=λo ys hp=>.tail _ (tail4 _ _ hp)
 show T Γ (A.deeper (gR L)) ⟨W,Z none (DE.getD i [])⟩ _ _
 refine Am (Pt (Bd (Bd (Ac (v:=.ref w) (Ae (.tail _ (.head _))) (Kg (Ee (Ae (tail5 _ _ hL.dict)) (v:=.ref ih) (by rfl) (Ac (v:=.int (i:Int) 0) (Ae (.tail _ (.tail _ (.head _)))) (Gn<|Ch (vs:=has.map .ref) (v:=.ref hb) (Ae (tail5 _ _ h1)) (by lia) (by lia) h2 (Eh (vs:=iv (IH.getD i [])) (Ae (tail5 _ _ h3)) λit=>?_)))))))))
 refine⟨it,_,_,_,_,_,⟨rfl,rfl,Es (a:=hb) (vs:=iv (IH.getD i [])) hh⟩,λd σ=>∃o,σ=⟨W,Z o (DE.getD i []++((IH.getD i []).take d.length).flatMap (Js DE IH n))⟩,⟨none,by simp only [List.length_nil,List.take_zero,List.flatMap_nil,Cj];rfl⟩,?_,?_,?_⟩
 ·rintro d _ ⟨o,rfl⟩
  exact Ae (tail5 _ _ h3)
 ·rintro d v r u ρ _ he hu ⟨o,rfl⟩ Kq hK
  obtain⟨a,j,b,e1,e2,rfl,_⟩:=Wl he
  have hj:=hI.2 j (by rw [e1];simp)
  have hdl:d.length=a.length:=by rw [e2,Cq]
  have ht:(IH.getD i []).take d.length=a:=by rw [hdl,e1];simp
  have ht':(IH.getD i []).take (d++[Fl (j:Int) 0]).length=a++[j]:=by
   rw [Ah,hdl,Bo,e1,show a++j::b=(a++[j])++b by simp]
   exact Fh (by simp)
  have hal:a.length<=3:=by have:=congrArg Ia e1;simp only [Ah,Ft]at this;lia
  have hlen:(DE.getD i []++a.flatMap (Js DE IH n)).length<=100:=by
   have:=Rx (f:=Js DE IH n) (c:=4) (l:=a) λk _=>(Ug wf n k).1
   rw [Ah];lia
  have hil:=(Ug wf n j).1
  rw [ht]
  refine Ct hu (by walk_at "upd") ?_
  have hLx:Zt (ρ++Z (some (.int (j:Int) 0)) (DE.getD i []++a.flatMap (Js DE IH n))) w fa ab sp de ih AB DE IH:=hL.sub λp hp=>Aa _ (tail5 _ _ hp)
  show T Γ (A.deeper (gR L)) ⟨W,ρ++Z (some (.int (j:Int) 0)) (DE.getD i []++a.flatMap (Js DE IH n))⟩ _ _
  refine Am (Fy (Fi (Ac (v:=.ref acc) (by walk_at "mem") (Cz Cr Op PySem.F.type_list_extend (Ik (vs:=iv (DE.getD i []++a.flatMap (Js DE IH n))) (by walk_at "mem")) ⟨.inr (.inl ⟨_,rfl⟩),?_⟩))))
  refine Ag (Bz (Bk (v:=.ref 485) (by kernel_rfl) ⟨.inl (by kernel_rfl),?_⟩))
  refine Ag (Ac (v:=.ref w) (by walk_at "mem") (Ag (Ac (v:=.int (j:Int) 0) (by walk_at "mem") (Ao λws hw=>(IHn (by lia) (by lia) hLx hA' hh (λr=>?_) ws hw).T))))
  refine Ao (jA (vs:=iv (DE.getD i []++a.flatMap (Js DE IH n))) (us:=iv (Js DE IH n j)) (Ae (.head _)) (.tau (.there (.pre .here))) (by rw [Cq,Cq];lia) ?_)
  refine Fb.go (Ci (hK .next _ ⟨W,Z (some (.int (j:Int) 0)) (DE.getD i []++(a++[j]).flatMap (Js DE IH n)),?_,some (.int (j:Int) 0),by rw [ht']⟩))
  have e6:iv (DE.getD i []++(a++[j]).flatMap (Js DE IH n))=iv (DE.getD i []++a.flatMap (Js DE IH n))++iv (Js DE IH n j):=by
   rw [Je,<-Ax,Sz]
   simp
  show As.le ⟨W,ρ++((.obj acc,.list (iv (DE.getD i []++(a++[j]).flatMap (Js DE IH n))))::lnV L w i (some (.ref acc)) (some (.int (j:Int) 0)) τ)⟩ _
  rw [e6]
  exact As.le_sub (.cons _ (.refl _))
 rintro _ ⟨o,rfl⟩
 rw [Cq,Em]
 refine Ci ?_
 refine Fb.go ?_
 have hall:(DE.getD i []++(IH.getD i []).flatMap (Js DE IH n)).length<=100:=by
  have:=Rx (f:=Js DE IH n) (c:=4) (l:=IH.getD i []) λk _=>(Ug wf n k).1
  rw [Ah];lia
 refine Am (Fj (Bz (Bk (v:=.ref 473) (by kernel_rfl) ⟨.inl (by kernel_rfl),?_⟩)))
 refine Ag (Ac (v:=.ref acc) (by walk_at "mem") (Ao λws hw=>(Uc (ns:=nv (DE.getD i []++(IH.getD i []).flatMap (Js DE IH n))) (hA'.le (by lia)) hh (Ae (.head _)) (by rw [Lr];lia) (λr=>?_) ws hw).T))
 rw [Sj]
 exact⟨_,As.le_sub (.cons_cons _ (.cons _ (.cons _ (.cons _ (.cons _ (.cons _ (.refl _))))))),h r⟩
end
end
section
theorem zH (Γ:Bj):Γ.K.lookup 495=some ⟨.type "function",none,.func (Ka Γ 495 "_law_numbers" (topStmt 28) (.ref 494) .none),#[]⟩:=by kernel_rfl
noncomputable abbrev nM (L:Ak):Env:=Gk "_law_numbers" (fScope (topStmt 28)) L 495 (.ref 494) [("keys",L+1)]
noncomputable def yO (Γ:Bj) (G:List Nd) (W τ ρg:List As) (a:Ak) (js:List Nat) (n:Nat):Prop:=∀⦃A:Aw⦄ ⦃e:List As⦄ ⦃Q:Ab->Ay->Prop⦄,A.handled=none->Rm A n->
 (∀it ρ' Gc,Lb Γ A it Gc (refs G js) ρ'->Vk Γ A it ρ'->(∀e',Gc ⟨W,e'++(e++τ)⟩)->Q (.ref it) ⟨W,ρ'++(e++τ)⟩)->T Γ A ⟨W,e++(ρg++τ)⟩ (Hu (.ref a)) Q
noncomputable def Cb (m:Nat):List Nat:=De 1 m
theorem Rd {m k:Nat} (h:k < m):(Cb m)[k]? =some (k+1):=by unfold Cb;rw [Kv h];congr 1;lia
section
variable {Γ:Bj} {A:Aw} {G:List Nd} {W:List As}
theorem tD {τ:List As} {a:Ak} {js:List Nat} {n:Nat} (h:Ew Γ ⟨W,τ⟩ a (refs G js)):yO Γ G W τ [] a js n:=by
 intro A e Q hh hA k
 exact Qb (v:=.ref a) rfl (vs:=refs G js) (h.ext (ext:=e)) λit=>k it [_] _ (Hd (a:=a) (vs:=refs G js) hh) Qq λe'=>(h.ext (ext:=e)).ext (ext:=e')
theorem tE {τ ρg:List As} {a:Ak} {js:List Nat} {n:Nat} (h:∀A':Aw,A'.handled=none->Rm A' n->Lb Γ A' a (λσ=>σ.W=W) (refs G js) ρg/\Vk Γ A' a ρg):yO Γ G W τ ρg a js n:=by
 intro A e Q hh hA k
 obtain⟨h1,h2⟩:=h A hh hA
 refine T.conseq (σ':=⟨W,ρg++(e++τ)⟩) (As.le_perm (Bb W ?_)) ?_
 ·rw [<-Ax,<-Ax]
  exact Dx _ Eu
 ·exact(h2 W (e++τ)).mono λc σ' ⟨e1,e2⟩=>by subst e1;subst e2;exact k a ρg _ h1 h2 λ_=>rfl
theorem tP (g:Gr G) {m j:Nat} (hm:m < G.length) (hj:1<=j/\j<=m):Cu G j∈(Cb m).map (Cu G)/\((Cb m).map (Cu G)).idxOf (Cu G j)=j - 1:=by
 have hlen:(Cb m).length=m:=by simp [Cb]
 have hmem:Cu G j∈(Cb m).map (Cu G):=Bn.mpr ⟨j,by unfold Cb;rw [List.mem_range'];exact⟨j - 1,by lia,by lia⟩,rfl⟩
 refine⟨hmem,?_⟩
 have h1:=List.idxOf_lt_length_iff.mpr hmem
 have h2:((Cb m).map (Cu G))[((Cb m).map (Cu G)).idxOf (Cu G j)]? =some (Cu G j):=by rw [Bm h1];exact congrArg some (List.getElem_idxOf h1)
 rw [Ap,hlen]at h1
 rw [Bc,Rd h1]at h2
 have:=g.key_inj (by lia) (by lia) (Dh h2)
 lia
theorem sT {τ ρg:List As} {w fa ab sp de ih a:Ak} {js:List Nat} {m n:Nat} {Q:Ab->Ay->Prop} (nf:NF W G) (g:Gr G) (hm:m < G.length) (hd:(Er.obj w,CO.sdict (Vi fa ab sp de ih))∈τ) (hf:(Er.obj fa,CO.list (refs G (Cb m)))∈τ)
  (hjs:∀j∈js,1<=j/\j<=m) (lj:js.length<=100) (hrow:yO Γ G W τ ρg a js n) (hA:Rm A (n+2)) (hh:A.handled=none)
  (h:∀r,Q (.ref r) ⟨W,(.obj r,.list (iv (js.map (· - 1))))::τ⟩):∀ws,ws.map cl=[.ref w,.ref a]->TC Γ A ⟨W,ρg++τ⟩ (.ref 495) ws [] Q:=λws hw=>by
 have few:=g.few
 refine Wb (body:=fBody (topStmt 28)) (bs:=[("world",.ref w),("row",.ref a)]) ["world","row"] (zH Γ) (by kernel_rfl) hA.room (Gu.plain2 λ_ _ _=>Cg (by rfl)) (λL=>?_) (by rfl) (by decide) (by decide) (by rfl) (by rfl) (by rfl) ws [] hw rfl
 let V:Option Ab->List As->List As:=λk τ=>(.obj (L+1),.cell k)::(.var L "world",.val (some (.ref w)))::(.var L "row",.val (some (.ref a)))::τ
 show T Γ (A.deeper (nM L)) ⟨W,V none (ρg++τ)⟩ (Cm _ (nM L)) _
 have up:∀{p:As} k,p∈τ->p∈V k (ρg++τ):=λk hp=>.tail _ (.tail _ (.tail _ (Aa _ hp)))
 have hA':Rm (A.deeper (nM L)) (n+1):=hA.deeper
 have hkeys:∀l:List Nat,(At (l.map (Cu G)))=l.map λj=>Fl (Cu G j) 0:=λl=>by unfold At;rw [Ec];rfl
 have hlm:(Cb m).length=m:=by simp [Cb]
 refine Am (Ga rfl (Qs (Bd (Ac (v:=.ref w) (Ae (.tail _ (.head _))) (Kg (Ee (Ae (up _ hd)) (v:=.ref fa) (by rfl) (Eh (vs:=refs G (Cb m)) (Ae (up _ hf)) λit=>?_)))))))
 refine⟨λj=>.ref (Fm G j),Cb m,it,_,_,λ_ _=>W,λ_ _=>V none (ρg++τ),λa _=>At (a.map (Cu G)),λ_ _=>True,(),⟨rfl,rfl,Es (vs:=refs G (Cb m)) hh⟩,Gv,trivial,rfl,λ_ _ _ _=>?_,λc b _ e _=>?_,λC acc c j b ρ' _ e _=>?_,λkl _ _=>?_⟩
 ·exact Ae (Aa _ (up _ hf))
 ·rw [e,Ah]at hlm
  rw [hkeys,Ap,Av]
  lia
 ·have hj:j∈Cb m:=by rw [e];exact Aa _ (.head _)
  obtain⟨q,hq1,hq2⟩:=List.mem_range'.mp hj
  obtain⟨y,ey⟩:=Dl (show j < G.length by lia)
  rw [Br ey]
  refine Pr ⟨λ_=>?_,λhb=>(by cases hb)⟩
  refine Ef (x:=y) nf ey (Ly Γ) (v:=.int y.key 0) (.head _) (Di (v:=.ref y.me) (by walk_at "mem") (.head _) ⟨rfl,rfl⟩) ⟨_,_,_,As.le_refl _,(),rfl,?_,trivial⟩
  rw [hkeys,hkeys,Bh,<-Gd ey]
  rfl
 refine⟨_,_,.tau (.there .here),?_⟩
 refine Fb.go ?_
 let τ1:List As:=V (some (.ref kl)) τ
 let e0:List As:=(.obj kl,.list (At ((Cb m).map (Cu G))))::(.obj (L+1),.cell (some (.ref kl)))::(.var L "world",.val (some (.ref w)))::[(.var L "row",.val (some (.ref a)))]
 show T Γ (A.deeper (nM L)) ⟨W,e0++(ρg++τ)⟩ _ _
 have hln:((Cb m).map (Cu G)).length<=100:=by rw [Ap];unfold Cb;rw [Jw];lia
 refine Am (Fj (Qs (Ac (v:=.ref a) (Ae (.tail _ (.tail _ (.tail _ (.head _))))) λv hv=>?_)))
 rw [Cc hv]
 refine hrow hh (hA'.le (by lia)) λit ρ' Gc hFd hSf hGc=>?_
 refine⟨λj=>.ref (Fm G j),js,it,ρ',Gc,λ_ _=>W,λ_ _=>e0++τ,λc _=>iv (c.map (· - 1)),λ_ _=>True,(),⟨rfl,rfl,hFd⟩,hSf,trivial,rfl,λ_ _ ext _=>hGc ext,λc b _ e _=>?_,λC acc c j b ρ₂ _ e _=>?_,λres _ _=>?_⟩
 ·rw [e,Ah]at lj
  rw [Cq,Ap,Av]
  lia
 ·have hj:=hjs j (by rw [e];exact Aa _ (.head _))
  obtain⟨y,ey⟩:=Dl (show j < G.length by lia)
  rw [Br ey]
  obtain⟨hk1,hk2⟩:=tP g hm hj
  rw [Gd ey]at hk1 hk2
  refine Pr ⟨λ_=>?_,λhb=>(by cases hb)⟩
  refine Fi (An (v:=.ref kl) rfl (Ae (Aa _ (.tail _ (.tail _ (.tail _ (.head _)))))) (Cz Cr PySem.F.slot_list_index PySem.F.type_list_index (Ik (vs:=At ((Cb m).map (Cu G))) (Ae (Aa _ (.tail _ (.tail _ (.head _)))))) ⟨.inr (.inl ⟨_,rfl⟩),?_⟩))
  refine Ag (Ef (x:=y) nf ey (Ly Γ) (v:=.int y.key 0) (.head _) (Di (v:=.ref y.me) (by walk_at "mem") (.head _) ⟨rfl,rfl⟩) (Ao (xP (Ae (Aa _ (.tail _ (.tail _ (.head _))))) (by lia) hk1 ⟨_,_,_,As.le_refl _,(),rfl,?_,trivial⟩)))
  rw [Bh,hk2,Sz]
  rfl
 exact⟨_,As.le_sub (τ':=(.obj res,.list (iv (js.map (· - 1))))::τ) (.cons_cons _ (.cons _ (.cons _ (.cons _ (.cons _ (.refl _)))))),h res⟩
end
end
section
theorem tW (Γ:Bj):Γ.K.lookup 500=some ⟨.type "function",none,.func (Ka Γ 500 "_law_stands" (topStmt 29) (.ref 499) .none),#[]⟩:=by kernel_rfl
noncomputable abbrev Na (L:Ak):Env:=Gk "_law_stands" (fScope (topStmt 29)) L 500 (.ref 499) [("spec",L+3),("keys",L+2),("world",L+1)]
noncomputable abbrev rT (L w:Ak) (kc sc:Option Ab) (tv:Ab) (o d:Option Ab) (τ:List As):List As:=(.obj (L+3),.cell sc)::(.obj (L+2),.cell kc)::(.obj (L+1),.cell (some (.ref w)))::(.var L "turned",.val (some tv))::(.var L "one",.val o)::(.var L "due",.val d)::τ
theorem eI:∀{l:List Nat},l.Pairwise (· <= ·)->(nv l).Pairwise (· <= ·)
 |[],_=>.nil
 |a::r,h=>by
  rw [Ih]at h
  show((a:Int)::nv r).Pairwise (· <= ·)
  refine Ih.mpr ⟨λb hb=>?_,eI h.2⟩
  obtain⟨n,rfl,hn⟩:=kS hb
  have:=h.1 n hn
  lia
theorem pB {m:Nat} {l:List Nat} {ns:List Int} (hn:l.Nodup) (hl:∀k∈l,k < m) (hp:ns.Perm (nv l)) (hs:ns.Pairwise (· <= ·)):ns=nv ((El m).filter λk=>decide (k∈l)):=by
 have hperm:((El m).filter λk=>decide (k∈l)).Perm l:=by
  rw [List.perm_ext_iff_of_nodup (List.nodup_range.filter _) hn]
  intro a
  rw [Cs,Lu,decide_eq_true_eq]
  exact⟨λh=>h.2,λh=>⟨hl a h,h⟩⟩
 have hs2:((El m).filter λk=>decide (k∈l)).Pairwise (· <= ·):=(List.pairwise_lt_range.imp (λh=>Md h)).filter _
 exact Bv.eq_of_pairwise (le:=(· <= ·)) (λa b _ _ h1 h2=>Int.le_antisymm h1 h2) hs (eI hs2) (hp.trans (hperm.map _).symm)
structure sG (G:List Nd) (X:List As) (m:Nat) (AB DE IH:List (List Nat)) (i:Nat) (x:Nd):Prop where
 at':G[m+1+i]? =some x
 C:x.C=427
 decl:Mp X x.decl (refs G ((DE.getD i []).map (· +1)))
 near:near G 9 (m+1+i)=(Js DE IH 4 i).map (· +1)
 imp:∀k,k < m->(k+1∈Hc G (m+1+i)↔k∈Lf AB DE IH 4 i)
theorem nX (l:List Nat):(l.map (· +1)).map (· - 1)=l:=by
 induction l with
 |nil=>rfl
 |cons a r ih=>simp only [Cf,ih];rfl
theorem Qo {n:Nat} (h:n<=4):Oe 0 (n:Int) 1=true/\Lx 0 (n:Int) 1=n:=by
 match n,h with
 |0,_=>exact⟨by decide,by decide⟩
 |1,_=>exact⟨by decide,by decide⟩
 |2,_=>exact⟨by decide,by decide⟩
 |3,_=>exact⟨by decide,by decide⟩
 |4,_=>exact⟨by decide,by decide⟩
 |n+5,h=>lia
theorem Th (n:Nat):Py 0 1 n=iv (El n):=by
 unfold Py iv nv At
 rw [Ec]
 apply Ge
 intro i _
 simp
section
variable {Γ:Bj} {A:Aw} {G:List Nd} {X:List As}
theorem lD {τ ρ:List As} {L w fa ab sp de ih kl:Ak} {m i:Nat} {AB DE IH:List (List Nat)} {x:Nd} {tv:Ab} {sc:Option Ab} {Q:Fv->Ay->Prop} (wd:Wd G X) (wf:rU m AB DE IH) (hlen:G.length=m+5) (hL:Zt τ w fa ab sp de ih AB DE IH)
  (hf:(Er.obj fa,CO.list (refs G (Cb m)))∈τ) (hs:(Er.obj sp,CO.list (refs G (De (m+1) 4)))∈τ) (hi:i < 4) (S:sG G X m AB DE IH i x) (hA:Rm (A.deeper (Na L)) 40) (hh:A.handled=none)
  (h:∀ρ',Q .next ⟨Bi G++X,ρ'++(ρ++((.obj kl,.list (At ((Cb m).map (Cu G))))::rT L w (some (.ref kl)) (some (.ref x.me)) tv (some (.int (i:Int) 0)) none τ))⟩):
  T Γ (A.deeper (Na L)) ⟨Bi G++X,ρ++((.obj kl,.list (At ((Cb m).map (Cu G))))::rT L w (some (.ref kl)) sc tv (some (.int (i:Int) 0)) none τ)⟩ (match(fBody (topStmt 29)).drop 1 with|.For _ _ body _ _::_=>Cm body (Na L)|_=>pure .next) Q:=by
 have nf:=wd.wx.nf
 have m4:=wf.m4
 let U:Option Ab->List As:=λsc=>ρ++((.obj kl,.list (At ((Cb m).map (Cu G))))::rT L w (some (.ref kl)) sc tv (some (.int (i:Int) 0)) none τ)
 have up:∀{p:As} sc,p∈τ->p∈U sc:=λsc hp=>Aa _ (.tail _ (.tail _ (.tail _ (.tail _ (.tail _ (.tail _ (.tail _ hp)))))))
 have cw:∀sc,(Er.obj (L+1),CO.cell (some (.ref w)))∈U sc:=λsc=>Aa _ (.tail _ (.tail _ (.tail _ (.head _))))
 have ck:∀sc,(Er.obj (L+2),CO.cell (some (.ref kl)))∈U sc:=λsc=>Aa _ (.tail _ (.tail _ (.head _)))
 have cs:(Er.obj (L+3),CO.cell (some (.ref x.me)))∈U (some (.ref x.me)):=Aa _ (.tail _ (.head _))
 have co:∀sc,(Er.var L "one",CO.val (some (.int (i:Int) 0)))∈U sc:=λsc=>Aa _ (.tail _ (.tail _ (.tail _ (.tail _ (.tail _ (.head _))))))
 have hkm:∀sc,(Er.obj kl,CO.list (At ((Cb m).map (Cu G))))∈U sc:=λsc=>Aa _ (.head _)
 have hsp:(refs G (De (m+1) 4))[((i:Int)).toNat]? =some (.ref x.me):=by
  rw [Df]
  unfold refs
  rw [Bc,Kv hi]
  simp [Br S.at']
 have hun:(A.deeper (Na L)).units < cLine:=by have:=hA.units;lia
 obtain⟨das,db,d1,d2,d3⟩:=hL.decl.row (i:=i) (by rw [wf.lenD];lia)
 show T Γ (A.deeper (Na L)) ⟨Bi G++X,U sc⟩ _ _
 refine Am (Ga rfl (Bd (Bd (An (v:=.ref w) rfl (Ae (cw _)) (Kg (Ee (Ae (up _ hL.dict)) (v:=.ref sp) (by rfl) (Ac (v:=.int (i:Int) 0) (Ae (co _)) (Gn<|Ch (vs:=refs G (De (m+1) 4)) (v:=.ref x.me) (Ae (up _ hs)) (by lia) (by lia) hsp ⟨_,_,.tau (.pre (.there .here)),?_⟩))))))))
 refine Fb.go ?_
 show T Γ (A.deeper (Na L)) ⟨Bi G++X,U (some (.ref x.me))⟩ _ _
 obtain⟨dt,ht,hD⟩:=fR (Γ:=Γ) nf S.at' S.C S.decl.right
 have hLU:Zt (U (some (.ref x.me))) w fa ab sp de ih AB DE IH:=hL.sub λp hp=>up _ hp
 refine Am (Hs (Ar (Bz (Bk (v:=.ref 495) (by kernel_rfl) ⟨.inl (by kernel_rfl),?_⟩))))
 refine Ag (An (v:=.ref w) rfl (Ae (cw _)) (Ag (Iz (An (v:=.ref x.me) rfl (Ae cs) λo ho=>hD _ _ o true _ ho (Ao λws hw=>(sT (ρg:=[]) (n:=5) nf wd.gr (by lia) hLU.dict (up _ hf) (λj hj=>?_) ?_ (tD (ht _)) (hA.le (by decide)) hh (λr1=>?_) ws hw).T)))))
 ·obtain⟨k,hk,rfl⟩:=Bn.mp hj
  have:=(wf.D i).2 k hk
  lia
 ·rw [Ap];have:=wf.D4 i;lia
 rw [nX]
 refine Bd (Bd (An (v:=.ref w) rfl (Ae (.tail _ (cw _))) (Kg (Ee (Ae (.tail _ (up _ hL.dict))) (v:=.ref de) (by rfl) (Ac (v:=.int (i:Int) 0) (Ae (.tail _ (co _))) (Gn<|Ch (vs:=das.map .ref) (v:=.ref db) (Ae (.tail _ (up _ d1))) (by lia) (by lia) d2 (Yl hun (Ae (.head _)) (Ae (.tail _ (up _ d3))) ⟨_,rfl,λhb=>?_,λ_=>?_⟩)))))))
 ·simp at hb
 refine Ci ?_
 refine Fb.go ?_
 let U1:List As:=(.obj r1,.list (iv (DE.getD i [])))::U (some (.ref x.me))
 have hLU1:Zt U1 w fa ab sp de ih AB DE IH:=hL.sub λp hp=>.tail _ (up _ hp)
 have few:=wd.gr.few
 show T Γ (A.deeper (Na L)) ⟨Bi G++X,U1⟩ _ _
 have hG:=qO (Γ:=Γ) nf wd.gr 9 (m+1+i) (by lia) (by lia)
 rw [S.near]at hG
 refine Am (Hs (Ar (Bz (Bk (v:=.ref 495) (by kernel_rfl) ⟨.inl (by kernel_rfl),?_⟩))))
 refine Ag (An (v:=.ref w) rfl (Ae (.tail _ (cw _))) ?_)
 refine Ag (Fi (An (v:=.ref x.me) rfl (Ae (.tail _ cs)) λov hov=>(hG S.at' (hA.le (by decide)) hov λa ρg hFd=>?_).mono λfx σ₂ ⟨h1,h2⟩=>⟨h1,Ao λws hw=>h2 ws hw⟩))
 refine Ao λws hw=>(sT (ρg:=ρg) (τ:=U1) (n:=3 * 9) nf wd.gr (by lia) hLU1.dict (.tail _ (up _ hf)) (λj hj=>?_) ?_ (tE hFd) (hA.le (by decide)) hh (λr2=>?_) ws hw).T
 ·obtain⟨k,hk,rfl⟩:=Bn.mp hj
  have:=(Ug wf 4 i).2.2 k hk
  lia
 ·rw [Ap];have:=(Ug wf 4 i).1;lia
 rw [nX]
 let U2:List As:=(.obj r2,.list (iv (Js DE IH 4 i)))::U1
 have hLU2:Zt U2 w fa ab sp de ih AB DE IH:=hL.sub λp hp=>.tail _ (.tail _ (up _ hp))
 show T Γ (A.deeper (Na L)) ⟨Bi G++X,U2⟩ _ _
 refine Bz (Bk (v:=.ref 485) (by kernel_rfl) ⟨.inl (by kernel_rfl),?_⟩)
 refine Ag (An (v:=.ref w) rfl (Ae (.tail _ (.tail _ (cw _)))) (Ag (Ac (v:=.int (i:Int) 0) (Ae (.tail _ (.tail _ (co _)))) (Ao λws hw=>(xA wf 4 hi (by decide) hLU2 (hA.le (by decide)) hh (λr3=>?_) ws hw).T))))
 refine(Yl hun (Ae (.tail _ (.head _))) (Ae (.head _)) ⟨_,rfl,λhb=>?_,λ_=>?_⟩)
 ·simp at hb
 refine Ci ?_
 refine Fb.go ?_
 let U3:List As:=(.obj r3,.list (iv (Js DE IH 4 i)))::U2
 show T Γ (A.deeper (Na L)) ⟨Bi G++X,U3⟩ _ _
 have up3:∀{p:As},p∈U (some (.ref x.me))->p∈U3:=λhp=>.tail _ (.tail _ (.tail _ hp))
 have hkl:((Cb m).map (Cu G)).length=m:=by rw [Ap];unfold Cb;rw [Jw]
 refine Am (Hs (Ar (Qs (Bz (Az (v:=.type "range") (by kernel_rfl) (by decide+kernel) (by decide) ⟨.inr (.inr ⟨_,rfl⟩),?_⟩)))))
 refine Ag (Bz (Az (v:=.builtin "len") (by kernel_rfl) (by decide+kernel) (by decide) ⟨.inr (.inl ⟨_,rfl⟩),?_⟩))
 refine Ag (An (v:=.ref kl) rfl (Ae (up3 (ck _))) (Ao (Hj (vs:=At ((Cb m).map (Cu G))) (Ae (up3 (hkm _))) (by rw [Dw,hkl];lia) ?_)))
 rw [Dw,hkl]
 refine Ao λws hw=>Sa (λrg=>?_) ws hw
 let U4:List As:=(.obj rg,.rng 0 (m:Int) 1)::U3
 have up4:∀{p:As},p∈U (some (.ref x.me))->p∈U4:=λhp=>.tail _ (up3 hp)
 obtain⟨rs1,rs2⟩:=Qo m4
 refine(Ni (Ae (.head _)) rs1 rs2 λit=>?_)
 refine⟨λj:Nat=>.int (j:Int) 0,El m,it,_,_,λ_ _=>Bi G++X,λ_ _=>U4,λc _=>iv (c.filter λk=>decide (k+1∈Hc G (m+1+i))),λ_ _=>True,(),⟨rfl,rfl,by have:=Pm (Γ:=Γ) (A:=A.deeper (Na L)) (it:=it) (x:=0) (c:=1) (n:=m) hh;rw [Th,aJ]at this;exact this⟩,Ut,trivial,rfl,λ_ _ _ _=>trivial,λc b _ e _=>?_,λC acc c j b ρ₂ _ e _=>?_,λr4 _ _=>?_⟩
 ·have:=Bu (λk=>decide (k+1∈Hc G (m+1+i))) c
  have e':=congrArg Ia e
  rw [Du,Ah]at e'
  rw [Cq,Av]
  lia
 ·have hj:j < m:=by rw [<-Lu,e];exact Aa _ (.head _)
  obtain⟨y,ey⟩:=Dl (show j+1 < G.length by lia)
  have hfj:(refs G (Cb m))[((j:Int)).toNat]? =some (.ref y.me):=by
   rw [Df]
   unfold refs
   rw [Bc,Rd hj]
   simp [Br ey]
  have upc:∀{p:As},p∈U (some (.ref x.me))->p∈ρ₂++Tg C acc "k" (some (.int (j:Int) 0)) (iv (c.filter λk=>decide (k+1∈Hc G (m+1+i)))) U4:=λhp=>Aa _ (.tail _ (.tail _ (up4 hp)))
  refine Jl (Ej (Fi (An (v:=.ref x.me) rfl (Ae (upc cs)) (Ou nf S.at' (fQ Γ) ⟨.inl (by kernel_rfl),?_⟩))))
  refine Ag (Bd (Bd (An (v:=.ref w) rfl (Ae (upc (cw _))) (Kg (Ee (Ae (upc (up _ hL.dict))) (v:=.ref fa) (by rfl) (Di (v:=.int (j:Int) 0) (Ae (Aa _ (.head _))) (.head _) (Gn<|Ch (vs:=refs G (Cb m)) (v:=.ref y.me) (Ae (upc (up _ hf))) (by lia) (by lia) hfj ?_)))))))
  refine Ao λws hw=>(kZ (x:=x) (y:=y) nf wd.gr (wd.imp _ _ S.at') (hA.le (by decide)) S.at' ey ?_ ws hw).T
  exact(Fc ⟨λhb=>Di (v:=.int (j:Int) 0) (Ae (Aa _ (.head _))) (.head _) ⟨_,_,_,As.le_refl _,(),rfl,by rw [Zy hb,Wg],trivial⟩,λhb=>⟨_,_,_,As.le_refl _,(),rfl,by rw [aK hb],trivial⟩⟩)
 have hfe:((El m).filter λk=>decide (k+1∈Hc G (m+1+i)))=(El m).filter λk=>decide (k∈Lf AB DE IH 4 i):=by
  apply Iw
  intro k hk
  rw [decide_eq_decide]
  exact S.imp k (Lu.mp hk)
 rw [hfe]
 let U5:List As:=(.obj r4,.list (iv ((El m).filter λk=>decide (k∈Lf AB DE IH 4 i))))::U4
 have up5:∀{p:As},p∈U (some (.ref x.me))->p∈U5:=λhp=>.tail _ (up4 hp)
 have hLU5:Zt U5 w fa ab sp de ih AB DE IH:=hL.sub λp hp=>up5 (up _ hp)
 show T Γ (A.deeper (Na L)) ⟨Bi G++X,U5⟩ _ _
 refine Bz (Az (v:=.builtin "sorted") (by kernel_rfl) (by decide+kernel) (by decide) ⟨.inr (.inl ⟨_,rfl⟩),?_⟩)
 refine Ag (Bz (Bk (v:=.ref 478) (by kernel_rfl) ⟨.inl (by kernel_rfl),?_⟩))
 refine Ag (An (v:=.ref w) rfl (Ae (up5 (cw _))) (Ag (Ac (v:=.int (i:Int) 0) (Ae (up5 (co _))) (Ao λws hw=>(sU wf 4 hi (by decide) hLU5 (hA.le (by decide)) hh (λr5=>?_) ws hw).T))))
 have hio:=Zx wf 4 i
 refine Ao λws hw=>uV (ns:=nv (Lf AB DE IH 4 i)) (Ae (.head _)) (by rw [Lr];lia) (λr6 ns' p1 p2=>?_) ws hw
 rw [pB hio.2.1 hio.2.2 p1 p2]
 refine(Yl hun (Ae (.tail _ (.tail _ (.head _)))) (Ae (.head _)) ⟨_,rfl,λhb=>?_,λ_=>?_⟩)
 ·simp at hb
 refine Ci ?_
 refine Fb.go (Ci ?_)
 exact h [_,_,_,_,_,_,_]
end
end
section
section
variable {Γ:Bj} {A:Aw} {σ:Ay} {env:Env}
inductive Xv (Γ:Bj) (A:Aw) (x:Str) (env':Ak->Env) (elt:Aq) (K:Ab->Ay->Prop) (ci:Ab) (σ:Ay):Prop
 |mk (it:Ak) (ρ:List As) (Gc:Ay->Prop) (vs:List Ab) (W τ:List As) (us:List Ab) (g:gX Γ A ci σ it ρ Gc vs W τ) (slf:Vk Γ A it ρ) (hG:∀ext,Gc ⟨W,ext++τ⟩) (hz:vs.length<=100000) (hu:us.length=vs.length)
  (turn:∀C acc (k:Nat) v u ρ' ys,vs[k]? =some v->us[k]? =some u->T Γ A ⟨W,ρ'++Tg C acc x (some v) ys τ⟩ (Dr elt (env' C)) λy σ'=>y=u/\σ'=⟨W,ρ'++Tg C acc x (some v) ys τ⟩)
  (done:∀acc,K (.ref acc) ⟨W,(.obj acc,.list us)::τ⟩)
theorem Xv.to {x:Str} {env':Ak->Env} {elt:Aq} {K:Ab->Ay->Prop} {ci:Ab} (h:Xv Γ A x env' elt K ci σ):dW Γ A (λC acc o ys τ=>Tg C acc x o ys τ) env' [] elt K ci σ:=by
 obtain⟨it,ρ,Gc,vs,W,τ,us,g,slf,hG,hz,hu,turn,done⟩:=h
 refine⟨it,ρ,Gc,vs,W,τ,g,slf,λd ys σ=>ys=us.take d.length/\σ=⟨W,τ⟩,⟨rfl,rfl⟩,λd ys σ ext h=>by rw [h.2];exact hG ext,λd ys σ h=>?_,λC acc d v r ρ' ys σ he h=>?_,λacc ys σ h=>?_⟩
 ·rw [h.1,Av]
  exact Bw (List.length_take_le' _ _) (hu▸Bw hz (By rfl))
 ·cases h.2
  have hv:vs[d.length]? =some v:=by rw [<-he];simp
  have hus:=Bm (hu▸(Aj.mp hv).1:d.length < us.length)
  refine Pr ⟨λ_=>(turn C acc d.length v _ ρ' ys hv hus).mono λy σ' q=>?_,λhb=>(by cases hb)⟩
  rw [q.2]
  exact⟨_,_,_,As.le_refl _,by rw [h.1,q.1,Ah,Bo,Mu,hus];rfl,rfl⟩
 ·rw [h.1,h.2,<-hu,Em]
  exact done acc
theorem Sl {x:Str} {elt iter:Aq} {scope:La} {pos xp:Pos} {cl₀:List (Str×Ak)} {Q:Ab->Ay->Prop}
  (h:T Γ A σ (Dr iter env) (P1 Γ A Hu (Xv Γ A x (λC=>Lh scope cl₀ C env) elt Q)))
  (hcells:autoParam (∀C,Fe (C+1) scope.names []=[]) aI) (hl:autoParam (scope.kind=.function/\(Lh scope cl₀ 0 env).kindOf x=some .local) aP)
  (hclos:autoParam (Jv scope env=pure cl₀) aR) (hkind:autoParam (scope.kind=.function) aR) (hnames:autoParam ((scope.names.all λx=>x.2 != .local||scope.names.lookup x.1==some .local)=true) aR)
  (hs:autoParam (∀x,Dt iter env x=pure x) aI) (ht:autoParam (∀it v,Dn (.Name x xp) it v=pure ()) aI):
  T Γ A σ (Dr (.ListComp elt [⟨.Name x xp,iter,[],0⟩] scope pos) env) Q:=oO (h.mono λc σ₁ q v hv=>(q v hv).mono λ_ _=>Xv.to) hcells hl hclos hkind hnames hs ht
theorem Sf {x y:Str} {elt iter:Aq} {scope:La} {py pos spos xp:Pos} {cl₀:List (Str×Ak)} {Q:Fv->Ay->Prop}
  (h:T Γ A σ (Dr iter env) (P1 Γ A Hu (Xv Γ A x (λC=>Lh scope cl₀ C env) elt (kM (.var env.locals y) .val Q))))
  (hcells:autoParam (∀C,Fe (C+1) scope.names []=[]) aI) (hlx:autoParam (scope.kind=.function/\(Lh scope cl₀ 0 env).kindOf x=some .local) aP)
  (hk:autoParam (env.scope.kind=.function) aR) (hl:autoParam (env.kindOf y=some .local) aR)
  (hsw:autoParam (Lq (.ListComp elt [⟨.Name x xp,iter,[],0⟩] scope pos) (some (.Name y py)) spos.line env=pure true) aR)
  (hclos:autoParam (Jv scope env=pure cl₀) aR) (hkind:autoParam (scope.kind=.function) aR) (hnames:autoParam ((scope.names.all λx=>x.2 != .local||scope.names.lookup x.1==some .local)=true) aR)
  (hs:autoParam (∀x,Dt iter env x=pure x) aI) (ht:autoParam (∀it v,Dn (.Name x xp) it v=pure ()) aI):
  T Γ A σ (Mx (.Assign [.Name y py] (.ListComp elt [⟨.Name x xp,iter,[],0⟩] scope pos) spos) env) Q:=Ur (h.mono λc σ₁ q v hv=>(q v hv).mono λ_ _=>Xv.to) hcells hlx hk hl hsw hclos hkind hnames hs ht
theorem Rg {js:List Nat} {k:Nat} {v:Ab} (h:(iv js)[k]? =some v):∃j:Nat,js[k]? =some j/\v=.int (j:Int) 0:=by
 unfold iv nv At at h
 rw [Bc,Bc,Option.map_map,Cw]at h
 obtain⟨j,h1,h2⟩:=h
 exact⟨j,h1,h2.symm⟩
end
end
section
noncomputable def tvV:Option Nat->Ab
 |none=>.none
 |some t=>.int (t:Int) 0
noncomputable def aC (DE IH:List (List Nat)) (m t:Nat):List Nat:=(DE.getD t []).map (· +1)++(Ck [] (IH.getD t [])).map (m+1+ ·)
section
variable {Γ:Bj} {A:Aw} {G:List Nd} {X:List As}
theorem oF {js:List Nat} {k:Nat} {u v:Ab} (h1:(refs G js)[k]? =some v) (h2:(At (js.map (Cu G)))[k]? =some u):∃j∈js,v=.ref (Fm G j)/\u=.int (Cu G j) 0:=by
 obtain⟨j,hj,e⟩:=iB h1
 unfold At at h2
 rw [Ec,Bc,hj]at h2
 exact⟨j,Fd hj,e,(Dh h2).symm⟩
theorem lE {τ ρ:List As} {L w fa ab sp de ih kl:Ak} {m t:Nat} {AB DE IH:List (List Nat)} {o sc:Option Ab} {Q:Fv->Ay->Prop} (wd:Wd G X) (wf:rU m AB DE IH) (hlen:G.length=m+5) (hL:Zt τ w fa ab sp de ih AB DE IH)
  (hf:(Er.obj fa,CO.list (refs G (Cb m)))∈τ) (hs:(Er.obj sp,CO.list (refs G (De (m+1) 4)))∈τ) (ht4:t < 4) (hb:Fx G (m+1+t)=aC DE IH m t) (hks:∀j,j < 4->Cu G (m+1+j)=100+(j:Int)) (hA:Rm (A.deeper (Na L)) 40) (hh:A.handled=none)
  (h:∀ρ',Q (.ret (.bool true)) ⟨Bi G++X,ρ'++τ⟩):
  T Γ (A.deeper (Na L)) ⟨Bi G++X,ρ++((.obj kl,.list (At ((Cb m).map (Cu G))))::rT L w (some (.ref kl)) sc (.int (t:Int) 0) o none τ)⟩ (Cm ((fBody (topStmt 29)).drop 3) (Na L)) Q:=by
 have nf:=wd.wx.nf
 have m4:=wf.m4
 have few:=wd.gr.few
 let U:List As:=ρ++((.obj kl,.list (At ((Cb m).map (Cu G))))::rT L w (some (.ref kl)) sc (.int (t:Int) 0) o none τ)
 have up:∀{p:As},p∈τ->p∈U:=λhp=>Aa _ (.tail _ (.tail _ (.tail _ (.tail _ (.tail _ (.tail _ (.tail _ hp)))))))
 have cw:(Er.obj (L+1),CO.cell (some (.ref w)))∈U:=Aa _ (.tail _ (.tail _ (.tail _ (.head _))))
 have ck:(Er.obj (L+2),CO.cell (some (.ref kl)))∈U:=Aa _ (.tail _ (.tail _ (.head _)))
 have ct:(Er.var L "turned",CO.val (some (.int (t:Int) 0)))∈U:=Aa _ (.tail _ (.tail _ (.tail _ (.tail _ (.head _)))))
 have hkm:(Er.obj kl,CO.list (At ((Cb m).map (Cu G))))∈U:=Aa _ (.head _)
 obtain⟨das,db,d1,d2,d3⟩:=hL.decl.row (i:=t) (by rw [wf.lenD];lia)
 obtain⟨has,hb',h1,h2,h3⟩:=hL.inh.row (i:=t) (by rw [wf.lenI];lia)
 have hun:(A.deeper (Na L)).units < cLine:=by have:=hA.units;lia
 have hD:=wf.D t
 have hD4:=wf.D4 t
 have hI:=wf.I t
 have hIl:(Ck [] (IH.getD t [])).length<=3:=Bw (Og _ _) hI.1
 show T Γ (A.deeper (Na L)) ⟨Bi G++X,U⟩ _ _
 refine Am (Bl (Ei ?_))
 refine Sl (Bd (Bd (An (v:=.ref w) rfl (Ae cw) (Kg (Ee (Ae (up hL.dict)) (v:=.ref de) (by rfl) (Ac (v:=.int (t:Int) 0) (Ae ct) (Gn<|Ch (vs:=das.map .ref) (v:=.ref db) (Ae (up d1)) (by lia) (by lia) d2 (Eh (vs:=iv (DE.getD t [])) (Ae (up d3)) λit=>?_))))))))
 refine⟨it,_,_,_,_,_,At ((DE.getD t []).map λk=>Cu G (k+1)),⟨rfl,rfl,Es (a:=db) (vs:=iv (DE.getD t [])) hh⟩,Gv,λext=>Ae (Aa _ (up d3)),by rw [Cq];lia,by rw [Cq,Dw,Ap],?_,λacc=>?_⟩
 ·intro C acc k v u ρ' ys q1 q2
  obtain⟨j,hj,rfl⟩:=Rg q1
  have hjm:=hD.2 j (Fd hj)
  unfold At at q2
  rw [Ec,Bc,hj]at q2
  have:=Dh q2
  subst this
  have hkj:(At ((Cb m).map (Cu G)))[((j:Int)).toNat]? =some (.int (Cu G (j+1)) 0):=by
   rw [Df]
   unfold At
   rw [Bc,Bc,Rd hjm]
   rfl
  exact Bd (An (v:=.ref kl) rfl (Ae (Aa _ (.tail _ (.tail _ ck)))) (Di (v:=.int (j:Int) 0) (Ae (Aa _ (.head _))) (.head _) (Ch (vs:=At ((Cb m).map (Cu G))) (v:=.int (Cu G (j+1)) 0) (Ae (Aa _ (.tail _ (.tail _ hkm)))) (by lia) (by lia) hkj ⟨rfl,rfl⟩)))
 let U1:List As:=(.obj acc,.list (At ((DE.getD t []).map λk=>Cu G (k+1))))::U
 show T Γ (A.deeper (Na L)) ⟨Bi G++X,U1⟩ _ _
 refine Sl (Bz (Bk (v:=.ref 473) (by kernel_rfl) ⟨.inl (by kernel_rfl),?_⟩))
 refine Ag (Bd (Bd (An (v:=.ref w) rfl (Ae (.tail _ cw)) (Kg (Ee (Ae (.tail _ (up hL.dict))) (v:=.ref ih) (by rfl) (Ac (v:=.int (t:Int) 0) (Ae (.tail _ ct)) (Gn<|Ch (vs:=has.map .ref) (v:=.ref hb') (Ae (.tail _ (up h1))) (by lia) (by lia) h2 ?_)))))))
 refine Ao λws hw=>(Uc (ns:=nv (IH.getD t [])) (hA.le (by decide)) hh (Ae (.tail _ (up h3))) (by rw [Lr];lia) (λro=>?_) ws hw).T
 rw [Sj]
 refine(Eh (vs:=iv (Ck [] (IH.getD t []))) (Ae (.head _)) λit2=>?_)
 refine⟨it2,_,_,_,_,_,At ((Ck [] (IH.getD t [])).map λk:Nat=>100+(k:Int)),⟨rfl,rfl,Es (a:=ro) (vs:=iv (Ck [] (IH.getD t []))) hh⟩,Gv,λext=>Ae (Aa _ (.head _)),by rw [Cq];lia,by rw [Cq,Dw,Ap],?_,λacc2=>?_⟩
 ·intro C acc k v u ρ' ys q1 q2
  obtain⟨j,hj,rfl⟩:=Rg q1
  unfold At at q2
  rw [Ec,Bc,hj]at q2
  have:=Dh q2
  subst this
  exact Ei (Dd (Di (v:=.int (j:Int) 0) (Ae (Aa _ (.head _))) (.head _) (Qz ⟨rfl,rfl⟩)))
 refine(Ww (vs:=At ((DE.getD t []).map λk=>Cu G (k+1))) (us:=At ((Ck [] (IH.getD t [])).map λk:Nat=>100+(k:Int))) (Ae (.tail _ (.tail _ (.head _)))) (Ae (.head _)) (by rw [Dw,Dw,Ap,Ap];lia) λrd=>?_)
 refine⟨_,_,.tau (.there (.there (.there (.there (.pre (.there (.there (.there (.there (.there (.there .here))))))))))),?_⟩
 refine Fb.go ?_
 obtain⟨x,hx⟩:=Dl (show m+1+t < G.length by lia)
 have hxb:x.bs=aC DE IH m t:=by rw [<-Pw hx];exact hb
 have hsp:(refs G (De (m+1) 4))[((t:Int)).toNat]? =some (.ref x.me):=by
  rw [Df]
  unfold refs
  rw [Bc,Kv ht4]
  simp [Br hx]
 let Y:List As:=(.obj rd,.list (At ((DE.getD t []).map λk=>Cu G (k+1))++At ((Ck [] (IH.getD t [])).map λk:Nat=>100+(k:Int))))::(.obj acc2,.list (At ((Ck [] (IH.getD t [])).map λk:Nat=>100+(k:Int))))::(.obj ro,.list (iv (Ck [] (IH.getD t []))))::(.obj acc,.list (At ((DE.getD t []).map λk=>Cu G (k+1))))::(ρ++((.obj kl,.list (At ((Cb m).map (Cu G))))::rT L w (some (.ref kl)) sc (.int (t:Int) 0) o (some (.ref rd)) τ))
 show T Γ (A.deeper (Na L)) ⟨Bi G++X,Y⟩ _ _
 have tl:∀{p:As},p∈(.obj kl,.list (At ((Cb m).map (Cu G))))::rT L w (some (.ref kl)) sc (.int (t:Int) 0) o (some (.ref rd)) τ->p∈Y:=λhp=>.tail _ (.tail _ (.tail _ (.tail _ (Aa _ hp))))
 have upY:∀{p:As},p∈τ->p∈Y:=λhp=>tl (.tail _ (.tail _ (.tail _ (.tail _ (.tail _ (.tail _ (.tail _ hp)))))))
 have hblen:x.bs.length<=7:=by rw [hxb];unfold aC;rw [Ah,Ap,Ap];lia
 have hxl:∀j∈x.bs,j < G.length:=λj hj=>by have:=(wd.gr.bs _ _ hx).2 j hj;lia
 refine Am (Fj (Tc (Sl (Ef (x:=x) nf hx (Pu Γ) (.tail _ (.tail _ (.tail _ (.head _)))) (Bd (Bd (An (v:=.ref w) rfl (Ae (tl (.tail _ (.tail _ (.tail _ (.head _)))))) (Kg (Ee (Ae (upY hL.dict)) (v:=.ref sp) (by rfl) (Ac (v:=.int (t:Int) 0) (Ae (tl (.tail _ (.tail _ (.tail _ (.tail _ (.head _))))))) (Gn<|Ch (vs:=refs G (De (m+1) 4)) (v:=.ref x.me) (Ae (upY hs)) (by lia) (by lia) hsp ⟨rfl,rfl⟩))))))) ?_))))
 refine(Hf (vs:=refs G x.bs) ((wd.wx.nf.bt _ _ hx).tup) λit3=>?_)
 refine⟨it3,_,_,_,_,_,At (x.bs.map (Cu G)),⟨rfl,rfl,Hd (a:=x.bt) (vs:=refs G x.bs) hh⟩,Qq,λext=>(wd.wx.nf.bt _ _ hx).tup,by rw [Bf];lia,by rw [Bf,Dw,Ap],?_,λacc3=>?_⟩
 ·intro C acc k v u ρ' ys q1 q2
  obtain⟨j,hj,rfl,rfl⟩:=oF q1 q2
  obtain⟨y,ey⟩:=Dl (hxl j hj)
  rw [Br ey,Gd ey]
  exact Ef (x:=y) nf ey (Ly Γ) (v:=.int y.key 0) (.head _) (Di (v:=.ref y.me) (Ae (Aa _ (.head _))) (.head _) ⟨rfl,rfl⟩) ⟨rfl,rfl⟩
 refine Ac (v:=.ref rd) (Ae (.tail _ (tl (.tail _ (.tail _ (.tail _ (.tail _ (.tail _ (.tail _ (.head _)))))))))) ?_
 have e1:x.bs.map (Cu G)=((DE.getD t []).map λk=>Cu G (k+1))++((Ck [] (IH.getD t [])).map λk:Nat=>100+(k:Int)):=by
  rw [hxb]
  unfold aC
  rw [Bh,Ec,Ec]
  congr 1
  apply Ge
  intro j hj
  have:=hI.2 j (Mj _ _ j hj).1
  exact hks j (by lia)
 refine(rR hun (a:=x.bs.map (Cu G)) (b:=x.bs.map (Cu G)) (Ae (.head _)) (Ae (.tail _ ?_)) ?_)
 ·rw [e1]
  have:At (((DE.getD t []).map λk=>Cu G (k+1))++((Ck [] (IH.getD t [])).map λk:Nat=>100+(k:Int)))=At ((DE.getD t []).map λk=>Cu G (k+1))++At ((Ck [] (IH.getD t [])).map λk:Nat=>100+(k:Int)):=by simp [At]
  rw [this]
  exact .head _
 ·rw [beq_self_eq_true]
  have:=h ((.obj acc3,.list (At (x.bs.map (Cu G))))::(.obj rd,.list (At ((DE.getD t []).map λk=>Cu G (k+1))++At ((Ck [] (IH.getD t [])).map λk:Nat=>100+(k:Int))))::(.obj acc2,.list (At ((Ck [] (IH.getD t [])).map λk:Nat=>100+(k:Int))))::(.obj ro,.list (iv (Ck [] (IH.getD t []))))::(.obj acc,.list (At ((DE.getD t []).map λk=>Cu G (k+1))))::(ρ++((.obj kl,.list (At ((Cb m).map (Cu G))))::rT L w (some (.ref kl)) sc (.int (t:Int) 0) o (some (.ref rd)) [])))
  simp only [rT,Hp,Fq,Ax]at this
  exact this
end
end
section
section
variable {Γ:Bj} {A:Aw} {G:List Nd} {X:List As}
theorem uN {τ:List As} {w fa ab sp de ih:Ak} {m:Nat} {AB DE IH:List (List Nat)} {tv:Option Nat} {Q:Ab->Ay->Prop} (wd:Wd G X) (wf:rU m AB DE IH) (hlen:G.length=m+5) (hL:Zt τ w fa ab sp de ih AB DE IH)
  (hf:(Er.obj fa,CO.list (refs G (Cb m)))∈τ) (hs:(Er.obj sp,CO.list (refs G (De (m+1) 4)))∈τ) (hS:∀i,i < 4->∃x,sG G X m AB DE IH i x) (ht4:∀t,tv=some t->t < 4/\Fx G (m+1+t)=aC DE IH m t) (hks:∀j,j < 4->Cu G (m+1+j)=100+(j:Int)) (hA:Rm A 41) (hh:A.handled=none)
  (h:Q (.bool true) ⟨Bi G++X,τ⟩):∀ws,ws.map cl=[.ref w,tvV tv]->TC Γ A ⟨Bi G++X,τ⟩ (.ref 500) ws [] Q:=λws hw=>by
 have nf:=wd.wx.nf
 have m4:=wf.m4
 have few:=wd.gr.few
 refine Wb (body:=fBody (topStmt 29)) (bs:=[("world",.ref w),("turned",tvV tv)]) ["turned","one","due"] (tW Γ) (by kernel_rfl) hA.room (Gu.plain2 λ_ _ _=>Cg (by rfl)) (λL=>?_) (by rfl) (by decide) (by decide) (by rfl) (by rfl) (by rfl) ws [] hw rfl
 show T Γ (A.deeper (Na L)) ⟨Bi G++X,rT L w none none (tvV tv) none none τ⟩ (Cm _ (Na L)) _
 have hA':Rm (A.deeper (Na L)) 40:=hA.deeper
 have up:∀{p:As} kc sc o d,p∈τ->p∈rT L w kc sc (tvV tv) o d τ:=λkc sc o d hp=>.tail _ (.tail _ (.tail _ (.tail _ (.tail _ (.tail _ hp)))))
 have hlm:(Cb m).length=m:=by simp [Cb]
 refine Am (Ga rfl (Sl (Bd (An (v:=.ref w) rfl (Ae (.tail _ (.tail _ (.head _)))) (Kg (Ee (Ae (up _ _ _ _ hL.dict)) (v:=.ref fa) (by rfl) (Eh (vs:=refs G (Cb m)) (Ae (up _ _ _ _ hf)) λit=>?_)))))))
 refine⟨it,_,_,_,_,_,At ((Cb m).map (Cu G)),⟨rfl,rfl,Es (a:=fa) (vs:=refs G (Cb m)) hh⟩,Gv,λext=>Ae (Aa _ (up _ _ _ _ hf)),by rw [Bf,hlm];lia,by rw [Bf,Dw,Ap],?_,λkl=>?_⟩
 ·intro C acc k v u ρ' ys q1 q2
  obtain⟨j,hj,rfl,rfl⟩:=oF q1 q2
  obtain⟨q,hq1,hq2⟩:=List.mem_range'.mp hj
  obtain⟨y,ey⟩:=Dl (show j < G.length by lia)
  rw [Br ey,Gd ey]
  exact Ef (x:=y) nf ey (Ly Γ) (v:=.int y.key 0) (.head _) (Di (v:=.ref y.me) (Ae (Aa _ (.head _))) (.head _) ⟨rfl,rfl⟩) ⟨rfl,rfl⟩
 refine⟨_,_,.tau (.there (.there .here)),?_⟩
 refine Fb.go ?_
 let KL:As:=(.obj kl,.list (At ((Cb m).map (Cu G))))
 let Z:Option Ab->Option Ab->List As:=λsc o=>KL::rT L w (some (.ref kl)) sc (tvV tv) o none τ
 show T Γ (A.deeper (Na L)) ⟨Bi G++X,Z none none⟩ _ _
 refine Am (Pt (Bz (Az (v:=.type "range") (by kernel_rfl) (by decide+kernel) (by decide) ⟨.inr (.inr ⟨_,rfl⟩),?_⟩)))
 refine Ag (Bz (Az (v:=.builtin "len") (by kernel_rfl) (by decide+kernel) (by decide) ⟨.inr (.inl ⟨_,rfl⟩),?_⟩))
 refine Ag (Bd (An (v:=.ref w) rfl (Ae (.tail _ (.tail _ (.tail _ (.head _))))) (Kg (Ee (Ae (.tail _ (up _ _ _ _ hL.dict))) (v:=.ref sp) (by rfl) ?_))))
 refine Ao (Hj (vs:=refs G (De (m+1) 4)) (Ae (.tail _ (up _ _ _ _ hs))) (by rw [Bf,Jw];lia) ?_)
 rw [Bf,Jw]
 refine Ao λws hw=>Sa (λrg=>?_) ws hw
 obtain⟨rs1,rs2⟩:=Qo (n:=4) (by decide)
 refine(Ni (Ae (.head _)) rs1 rs2 λit2=>?_)
 let RG:As:=(.obj rg,.rng 0 ((4:Nat):Int) 1)
 refine⟨it2,_,_,_,_,RG::Z none none,⟨rfl,rfl,by have:=Pm (Γ:=Γ) (A:=A.deeper (Na L)) (it:=it2) (x:=0) (c:=1) (n:=4) hh;rw [Th]at this;exact this⟩,λd σ=>∃ρ sc o,σ=⟨Bi G++X,ρ++Z sc o⟩,⟨[RG],none,none,rfl⟩,?_,?_,?_⟩
 ·rintro d _ _
  trivial
 ·rintro d v r u ρ' _ he hu ⟨ρ,sc,o,rfl⟩ Kq hK
  obtain⟨a,j,b,e1,e2,rfl,_⟩:=Wl he
  have hj:j < 4:=by rw [<-Lu,e1];simp
  refine Ct (σ':=⟨Bi G++X,ρ'++(ρ++Z sc (some (.int (j:Int) 0)))⟩) hu (.tau (.pre (.pre (.there (.there (.there (.there (.there .here)))))))) ?_
  obtain⟨x,S⟩:=hS j hj
  have e:∀sc o,ρ'++(ρ++Z sc o)=(ρ'++ρ)++Z sc o:=λsc o=>(Ax ..).symm
  rw [e]
  refine lD (ρ:=ρ'++ρ) wd wf hlen hL hf hs hj S hA' hh λρ''=>?_
  refine hK .next _ ⟨Bi G++X,ρ++Z (some (.ref x.me)) (some (.int (j:Int) 0)),As.le_sub ?_,ρ,_,_,rfl⟩
  rw [e]
  exact Bp ρ'' _
 rintro _ ⟨ρ,sc,o,rfl⟩
 refine Ci ?_
 refine Fb.go ?_
 cases tv with
 |none=>
  refine Am (Hs (Ar (Ac (v:=.none) (Ae (Aa _ (.tail _ (.tail _ (.tail _ (.tail _ (.head _))))))) (Jt (Pp (by rfl) ⟨_,rfl,λ_=>?_,λhb=>(by cases hb)⟩)))))
  refine Am (Fj (Xu ?_))
  refine⟨_,As.le_sub (τ':=τ) ?_,h⟩
  exact Cx (.cons _ (.cons _ (.cons _ (.cons _ (.cons _ (.cons _ (.cons _ (.refl _))))))))
 |some t=>
  obtain⟨t4,hbt⟩:=ht4 t rfl
  refine Am (Hs (Ar (Ac (v:=.int (t:Int) 0) (Ae (Aa _ (.tail _ (.tail _ (.tail _ (.tail _ (.head _))))))) (Jt (Pp (by rfl) ⟨_,rfl,λhb=>(by cases hb),λ_=>?_⟩)))))
  refine Ci ?_
  refine Fb.go ?_
  refine lE (ρ:=ρ) wd wf hlen hL hf hs t4 hbt hks hA' hh λρ'=>?_
  exact⟨_,As.le_sub (Bp ρ' τ),h⟩
end
end
section
section
variable {Γ:Bj} {A:Aw} {σ:Ay} {env:Env}
noncomputable abbrev oU (C acc:Ak) (o:Option Ab) (ys:List Ab) (τ:List As):List As:=(.obj C,.fr [])::(.obj (C+1),.cell o)::(.obj acc,.list ys)::τ
theorem vC {x:Str} {elt iter:Aq} {ifs:List Aq} {scope:La} {pos xp:Pos} {cl₀:List (Str×Ak)} {Q:Ab->Ay->Prop}
  (h:T Γ A σ (Dr iter env) (P1 Γ A Hu (dW Γ A (λC acc o ys τ=>oU C acc o ys τ) (λC=>Lh scope cl₀ C env) ifs elt Q)))
  (hcells:autoParam (∀C,Fe (C+1) scope.names []=[(x,C+1)]) aI) (hlk:autoParam (∀C,(Lh scope cl₀ C env).cells.lookup x=some (C+1)) aI) (hl:autoParam (scope.kind=.function/\(Lh scope cl₀ 0 env).kindOf x=some .cell) aP)
  (hclos:autoParam (Jv scope env=pure cl₀) aR) (hkind:autoParam (scope.kind=.function) aR) (hnames:autoParam ((scope.names.all λx=>x.2 != .local||scope.names.lookup x.1==some .local)=true) aR)
  (hs:autoParam (∀x,Dt iter env x=pure x) aI) (ht:autoParam (∀it v,Dn (.Name x xp) it v=pure ()) aI):
  T Γ A σ (Dr (.ListComp elt [⟨.Name x xp,iter,ifs,0⟩] scope pos) env) Q:=by
 rw [eval_ListComp]
 exact Yh (use:=none) (λ_=>[]) (λC o=>[(.obj (C+1),.cell o)]) h (λ_ _ _ _ _ h=>h) (λp hp=>(by cases hp)) .nil (λC=>by rw [hcells];rfl) (λC u o W ρ r=>Qu (env:=Lh scope cl₀ C env) rfl (hlk C) (.tau (Qw.pre (.there .here))) rfl hl.1 hl.2) hclos hkind hnames hs ht
end
theorem wO (Γ:Bj):Γ.K.lookup 490=some ⟨.type "function",none,.func (Ka Γ 490 "_law_declare" (topStmt 27) (.ref 489) .none),#[]⟩:=by kernel_rfl
noncomputable abbrev Ua (L:Ak):Env:=Gk "_law_declare" (fScope (topStmt 27)) L 490 (.ref 489) [("ahead",L+5),("old",L+4),("kind",L+3),("one",L+2),("world",L+1)]
noncomputable abbrev xQ (L w:Ak) (i:Nat) (kd:Int) (oc ac:Option Ab) (nm nw:Option Ab) (τ:List As):List As:=
 (.obj (L+5),.cell ac)::(.obj (L+4),.cell oc)::(.obj (L+3),.cell (some (.int kd 0)))::(.obj (L+2),.cell (some (.int (i:Int) 0)))::(.obj (L+1),.cell (some (.ref w)))::(.var L "named",.val nm)::(.var L "new",.val nw)::τ
noncomputable def Gq (τ:List As) (as:List Ak) (ls:List (List Nat)):Prop:=as.length=ls.length/\∀(k:Nat) (b:Ak) (l:List Nat),as[k]? =some b->ls[k]? =some l->(Er.obj b,CO.list (iv l))∈τ
noncomputable abbrev Jo (de ih:Ak) (das has:List Ak) (τ:List As):List As:=(.obj de,.list (das.map .ref))::(.obj ih,.list (has.map .ref))::τ
theorem Gq.snoc {τ:List As} {as:List Ak} {ls:List (List Nat)} {q:Ak} {l:List Nat} (h:Gq τ as ls) (hq:(Er.obj q,CO.list (iv l))∈τ):Gq τ (as++[q]) (ls++[l]):=by
 refine⟨by rw [Ah,Ah,h.1];rfl,λk b l' q1 q2=>?_⟩
 by_cases hk:k < as.length
 ·rw [Fn hk]at q1
  rw [Fn (h.1▸hk)]at q2
  exact h.2 k b l' q1 q2
 ·have hl:=(Aj.mp q1).1
  rw [Ah,Bo]at hl
  have hk':k=as.length:=Nat.le_antisymm (Nat.le_of_lt_succ hl) (Nat.le_of_not_lt hk)
  rw [Ha (Nat.le_of_eq hk'.symm),hk',Qc]at q1
  rw [Ha (by rw [<-h.1,hk'];exact Bx _),hk',h.1,Qc]at q2
  cases q1
  cases q2
  exact hq
theorem Gq.sub {τ τ':List As} {as:List Ak} {ls:List (List Nat)} (h:Gq τ as ls) (k:∀p∈τ,p∈τ'):Gq τ' as ls:=⟨h.1,λi b l e1 e2=>k _ (h.2 i b l e1 e2)⟩
set_option tactic.hygienic true in
theorem Gq.set {τ:List As} {as:List Ak} {ls:List (List Nat)} (h:Gq τ as ls) {i:Nat} {b:Ak} {l:List Nat} (hb:(Er.obj b,CO.list (iv l))∈τ):Gq τ (as.set i b) (ls.set i l):=by
 refine⟨by rw [List.length_set,List.length_set];exact h.1,λk b' l' e1 e2=>?_⟩
 rw [Iv]at e1 e2
 split at e1
 ·rename_i q
  rw [if_pos q]at e2
  split at e1
  ·rename_i q2
   rw [if_pos (by rw [<-h.1];exact q2)]at e2
   cases e1;cases e2;exact hb
  ·cases e1
 ·rename_i q
  rw [if_neg q]at e2
  exact h.2 k b' l' e1 e2
theorem kU {τ:List As} {w fa ab sp de ih:Ak} {das has:List Ak} {AB DE IH:List (List Nat)} (hd:(Er.obj w,CO.sdict (Vi fa ab sp de ih))∈τ) (ha:LL τ ab AB) (r1:Gq τ das DE) (r2:Gq τ has IH):Zt (Jo de ih das has τ) w fa ab sp de ih AB DE IH:=
 ⟨.tail _ (.tail _ hd),ha.sub λp hp=>.tail _ (.tail _ hp),⟨das,r1.1,.head _,λk b l e1 e2=>.tail _ (.tail _ (r1.2 k b l e1 e2))⟩,⟨has,r2.1,.tail _ (.head _),λk b l e1 e2=>.tail _ (.tail _ (r2.2 k b l e1 e2))⟩⟩
noncomputable def Nc (AB:List (List Nat)) (old new:List Nat) (kd:Int):List Nat:=new.filter λk=>(kd==1)||!(old.filter λo=>decide (o≠k)&&decide (o∈AB.getD k [])).isEmpty
noncomputable def rW (AB DE IH:List (List Nat)) (i:Nat) (named:List Nat):List Nat:=(Ck [] named).filter λk=>!decide (k∈Lf AB DE IH 4 i)
noncomputable def Xn (AB DE IH:List (List Nat)) (i:Nat) (named:List Nat) (kd:Int):List Nat:=
 Nc AB (DE.getD i []) (rW AB DE IH i named) kd++DE.getD i []++(rW AB DE IH i named).filter λk=>!decide (k∈Nc AB (DE.getD i []) (rW AB DE IH i named) kd)
theorem Xr (l:List Nat) (j:Nat):(nv l).any (· ==(j:Int))=decide (j∈l):=by
 rw [sL]
 by_cases h:j∈l
 ·rw [decide_eq_true h];simpa using h
 ·rw [decide_eq_false h];simpa using h
end
section
section
variable {Γ:Bj} {A:Aw} {σ σ':Ay} {env:Env}
theorem Se {o i u v:Ab} {k:Nat} {a:Ak} {vs:List Ab} {Q:Unit->Ay->Prop} (ho:cl o=.ref a) (hi:cl i=.int (k:Int) 0) (hu:cl u=v) (U:Iy σ (.obj a) (.list vs) (.list (vs.set k v)) σ') (hk:k < vs.length) (hf:k < 1000000) (h:Q () σ'):
  T Γ A σ (setItem o i u) Q:=λs R=>by
 obtain⟨t,rfl⟩:=Ev hi
 have:=Cc ho
 subst this
 subst hu
 obtain⟨us,n,L,e⟩:=Hw R U.mem
 have hlen:=Cn e
 refine ki_setAt (n:=n) L (by lia) (by lia) (by lia) ⟨σ',Ea.changeS (s':={s with heap:=s.heap.update a _}) R U rfl (Dg ..).extBut rfl rfl ⟨_,_,L.update _,?_⟩,h⟩
 rw [Df,Array.toList_setIfInBounds,Ko,e]
theorem tM {τ:List As} {W:List As} {L w fa ab sp de ih ol nl:Ak} {i m:Nat} {kd:Int} {AB DE IH:List (List Nat)} {old new:List Nat} {nm:Option Ab} {Q:Fv->Ay->Prop} (wf:rU m AB DE IH) (hL:Zt τ w fa ab sp de ih AB DE IH) (hh:A.handled=none)
  (ho:(Er.obj ol,CO.list (iv old))∈τ) (hn:(Er.obj nl,CO.list (iv new))∈τ) (ln:new.length<=100) (lo:old.length<=100) (hnm:∀k∈new,k < m)
  (h:∀r,Q .next ⟨W,(.obj r,.list (iv (Nc AB old new kd)))::xQ L w i kd (some (.ref ol)) (some (.ref r)) nm (some (.ref nl)) τ⟩):
  T Γ (A.deeper (Ua L)) ⟨W,xQ L w i kd (some (.ref ol)) none nm (some (.ref nl)) τ⟩ (match(fBody (topStmt 27)).drop 4 with|st::_=>Mx st (Ua L)|_=>pure .next) Q:=by
 let U:List As:=xQ L w i kd (some (.ref ol)) none nm (some (.ref nl)) τ
 have up:∀{p:As},p∈τ->p∈U:=λhp=>.tail _ (.tail _ (.tail _ (.tail _ (.tail _ (.tail _ (.tail _ hp))))))
 have m4:=wf.m4
 show T Γ (A.deeper (Ua L)) ⟨W,U⟩ _ _
 refine Ga rfl (vC (Ac (v:=.ref nl) (Ae (.tail _ (.tail _ (.tail _ (.tail _ (.tail _ (.tail _ (.head _)))))))) (Eh (vs:=iv new) (Ae (up hn)) λit=>?_)))
 refine⟨it,_,_,_,_,_,⟨rfl,rfl,Es (a:=nl) (vs:=iv new) hh⟩,Gv,λd ys σ=>d.length<=new.length/\ys=iv (Nc AB old (new.take d.length) kd)/\σ=⟨W,U⟩,⟨Ca _,rfl,rfl⟩,?_,?_,?_,?_⟩
 ·rintro d ys _ ext ⟨_,rfl,rfl⟩
  exact Ae (Aa _ (up hn))
 ·rintro d ys _ ⟨hd,rfl,rfl⟩
  rw [Cq,Av]
  have:=Bu (λk=>(kd==1)||!(old.filter λo=>decide (o≠k)&&decide (o∈AB.getD k [])).isEmpty) (new.take d.length)
  rw [Fs]at this
  show(List.filter _ _).length<=_
  lia
 ·rintro C acc d v r ρ' _ _ he ⟨hd,rfl,rfl⟩
  obtain⟨a',j,b',e1,e2,rfl,_⟩:=Wl he
  have hj:=hnm j (by rw [e1];simp)
  have hdl:(d++[Fl (j:Int) 0]).length<=new.length:=by rw [Ah,e2,Cq,e1];simp
  have ht:new.take d.length=a':=by rw [e2,Cq,e1];simp
  have ht':new.take (d++[Fl (j:Int) 0]).length=a'++[j]:=by
   rw [Ah,e2,Cq,Bo,e1,show a'++j::b'=(a'++[j])++b' by simp]
   exact Fh (by simp)
  rw [ht]
  have hx:∀b:Bool,((kd==1)||!(old.filter λo=>decide (o≠j)&&decide (o∈AB.getD j [])).isEmpty)=b->Nc AB old (a'++[j]) kd=Nc AB old a' kd++(if b then [j]else []):=by
   intro b hb
   unfold Nc
   rw [Ez,Gj,Ow,hb]
  have upc:∀{p:As} o ys,p∈U->p∈ρ'++oU C acc o ys U:=λo ys hp=>Aa _ (.tail _ (.tail _ (.tail _ hp)))
  have done:∀b:Bool,((kd==1)||!(old.filter λo=>decide (o≠j)&&decide (o∈AB.getD j [])).isEmpty)=b->∀ρ₂,rY Γ (A.deeper (Ua L)) true false (Dr (.Name "k" ⟨335,13,335,14⟩) (Lh (match(fBody (topStmt 27)).drop 4 with|.Assign _ (.ListComp _ _ s _) _::_=>s|_=>fScope (topStmt 27)) [("world",L+1),("old",L+4),("kind",L+3)] C (Ua L)))
    (Abi ρ' (λo τ=>oU C acc o (iv (Nc AB old a' kd)) τ) (λys σ=>(d++[Fl (j:Int) 0]).length<=new.length/\ys=iv (Nc AB old (new.take (d++[Fl (j:Int) 0]).length) kd)/\σ=⟨W,U⟩) (iv (Nc AB old a' kd)))
    (Vb ρ' (λo τ=>oU C acc o (iv (Nc AB old a' kd)) τ) λσ=>(d++[Fl (j:Int) 0]).length<=new.length/\iv (Nc AB old a' kd)=iv (Nc AB old (new.take (d++[Fl (j:Int) 0]).length) kd)/\σ=⟨W,U⟩)
    b ⟨W,ρ₂++(ρ'++oU C acc (some (.int (j:Int) 0)) (iv (Nc AB old a' kd)) U)⟩:=by
   intro b hb ρ₂
   refine⟨λhbt=>?_,λhbf=>?_⟩
   ·subst hbt
    refine An (v:=.int (j:Int) 0) rfl (Ae (Aa _ (Aa _ (.tail _ (.head _))))) ⟨_,_,some (.int (j:Int) 0),As.le_sub (Bp ρ₂ _),hdl,?_,rfl⟩
    rw [ht',hx true hb,if_pos rfl,<-Wg]
   ·subst hbf
    refine⟨_,_,some (.int (j:Int) 0),As.le_sub (Bp ρ₂ _),hdl,?_,rfl⟩
    rw [ht',hx false hb,if_neg (by decide),Cj]
  refine Jl (Ep (Po (Ar (An (v:=.int kd 0) rfl (Ae (upc _ _ (.tail _ (.tail _ (.head _))))) (Dd (Nr ⟨_,rfl,λhb=>?_,λhb=>?_⟩))))))
  ·refine Po (Ej (Qs (An (v:=.ref ol) rfl (Ae (upc _ _ (.tail _ (.head _)))) (Eh (vs:=iv old) (Ae (upc _ _ (up ho))) λit2=>?_))))
   let U2:List As:=ρ'++oU C acc (some (.int (j:Int) 0)) (iv (Nc AB old a' kd)) U
   have up2:∀{p:As},p∈τ->p∈U2:=λhp=>upc _ _ (up hp)
   let pf:Nat->Bool:=λo=>decide (o≠j)&&decide (o∈AB.getD j [])
   refine⟨λq:Nat=>.int (q:Int) 0,old,it2,_,_,λ_ _=>W,λ_ _=>U2,λa2 _=>iv (a2.filter pf),λ_ _=>True,(),⟨rfl,rfl,by rw [<-aJ];exact Es (a:=ol) (vs:=iv old) hh⟩,Gv,trivial,rfl,λ_ _ _ _=>?_,λa2 b2 _ e _=>?_,λC2 acc2 a2 q b2 ρ2 _ e _=>?_,λr2 _ _=>?_⟩
   ·exact Ae (Aa _ (up2 ho))
   ·have:=Bu pf a2
    rw [e,Ah]at lo
    rw [Cq,Av]
    lia
   ·have up3:∀{p:As},p∈U2->p∈ρ2++Tg C2 acc2 "other" (some (.int (q:Int) 0)) (iv (a2.filter pf)) U2:=λhp=>Aa _ (.tail _ (.tail _ hp))
    obtain⟨aas,abb,x1,x2,x3⟩:=hL.above.row (i:=j) (by rw [wf.lenA];exact hj)
    have ckC:(Er.obj (C+1),CO.cell (some (.int (j:Int) 0)))∈U2:=Aa _ (.tail _ (.head _))
    refine Jl (Ep (Ex (Ar (Di (v:=.int (q:Int) 0) (Ae (Aa _ (.head _))) (.head _) (An (v:=.int (j:Int) 0) rfl (Ae (up3 ckC)) (Aca ⟨_,rfl,λhb1=>?_,λhb1=>?_⟩))))))
    ·have hqj:q≠j:=by rintro rfl;simp at hb1
     refine Ex (Ar (Di (v:=.int (q:Int) 0) (Ae (Aa _ (.head _))) (.head _) (Bd (Bd (An (v:=.ref w) rfl (Ae (up3 (upc _ _ (.tail _ (.tail _ (.tail _ (.tail _ (.head _)))))))) (Kg (Ee (Ae (up3 (up2 hL.dict))) (v:=.ref ab) (by rfl) (An (v:=.int (j:Int) 0) rfl (Ae (up3 ckC)) (Gn<|Ch (vs:=aas.map .ref) (v:=.ref abb) (Ae (up3 (up2 x1))) (by lia) (by lia) x2 (rQ (ns:=nv (AB.getD j [])) (Ae (up3 (up2 x3))) ⟨_,rfl,λhb2=>?_,λhb2=>?_⟩))))))))))
     ·rw [Xr]at hb2
      have hp:pf q=true:=by show(decide (q≠j)&&decide (q∈AB.getD j []))=true;rw [hb2,decide_eq_true hqj];rfl
      refine Td ⟨λ_=>Di (v:=.int (q:Int) 0) (Ae (Aa _ (.head _))) (.head _) ⟨_,_,_,As.le_refl _,(),rfl,by rw [Zy hp,Wg],trivial⟩,λhb=>(by cases hb)⟩
     ·rw [Xr]at hb2
      have hp:pf q=false:=by show(decide (q≠j)&&decide (q∈AB.getD j []))=false;rw [hb2,Bool.and_false]
      exact⟨λhb=>(by cases hb),λ_=>⟨_,_,_,As.le_refl _,(),rfl,by rw [aK hp],trivial⟩⟩
    ·have hqj:q=j:=Int.ofNat.inj (by simpa using hb1)
     have hp:pf q=false:=by show(decide (q≠j)&&decide (q∈AB.getD j []))=false;rw [decide_eq_false (by simpa using hqj),Bool.false_and]
     exact⟨λhb=>(by cases hb),λ_=>⟨_,_,_,As.le_refl _,(),rfl,by rw [aK hp],trivial⟩⟩
   refine(Oo (vs:=iv (old.filter pf)) (Ae (.head _)) (by rw [Cq];have:=Bu pf old;lia) ?_)
   have hb':(kd==1)=false:=hb
   have hpe:(!(iv (old.filter pf)).isEmpty)=((kd==1)||!(old.filter λo=>decide (o≠j)&&decide (o∈AB.getD j [])).isEmpty):=by
    rw [hb',Bool.false_or]
    show(!(iv (old.filter pf)).isEmpty)=!(old.filter pf).isEmpty
    cases old.filter pf<;>rfl
   rw [hpe]
   refine⟨λhb=>Ws ?_,λhb=>?_⟩
   ·obtain⟨q1,q2⟩:=done _ hb [(.obj r2,.list (iv (old.filter pf)))]
    exact⟨λhb=>(by cases hb),λ_=>q2 rfl⟩
   ·obtain⟨q1,q2⟩:=done _ hb [(.obj r2,.list (iv (old.filter pf)))]
    exact⟨λ_=>q1 rfl,λhb=>(by cases hb)⟩
  ·have hb':(kd==1)=true:=hb
   obtain⟨q1,q2⟩:=done true (by rw [hb'];rfl) []
   exact⟨λ_=>q1 rfl,λhb=>(by cases hb)⟩
 rintro r ys _ ⟨_,rfl,rfl⟩
 have ht:new.take (iv new).length=new:=by rw [Cq];exact Em
 rw [ht]
 exact⟨_,_,.tau (.there .here),h r⟩
end
end
section
section
variable {Γ:Bj} {A:Aw} {σ σ':Ay} {env:Env}
theorem aS (as:List Ak) (i:Nat) (b:Ak):(as.map Bt).set i (.ref b)=(as.set i b).map .ref:=by rw [Ko]
theorem xB {W τ τr:List As} {w fa ab sp de ih nm:Ak} {das has:List Ak} {AB DE IH:List (List Nat)} {named:List Nat} {i m:Nat} {kd:Int} {Q:Ab->Ay->Prop} (wf:rU m AB DE IH) (hi:i < 4) (hd:(Er.obj w,CO.sdict (Vi fa ab sp de ih))∈τ) (ha:LL τ ab AB) (hτr:∀p∈τr,p∈τ) (r1:Gq τr das DE) (r2:Gq τr has IH)
  (hn:(Er.obj nm,CO.list (iv named))∈τ) (ln:named.length<=3) (hnm:∀k∈named,k < m) (hA:Rm A 10) (hh:A.handled=none)
  (h0:kd=2->∀das' has' ρ,Gq (ρ++τr) das' (DE.set i (Ck [] named))->Gq (ρ++τr) has' (IH.set i [])->Q .none ⟨W,Jo de ih das' has' (ρ++τ)⟩)
  (h1:kd≠2->∀das' ρ,Gq (ρ++τr) das' (DE.set i (Xn AB DE IH i named kd))->Q .none ⟨W,Jo de ih das' has (ρ++τ)⟩):
  ∀ws,ws.map cl=[.ref w,.int (i:Int) 0,.ref nm,.int kd 0]->TC Γ A ⟨W,Jo de ih das has τ⟩ (.ref 490) ws [] Q:=λws hw=>by
 refine Wb (body:=fBody (topStmt 27)) (bs:=[("world",.ref w),("one",.int (i:Int) 0),("named",.ref nm),("kind",.int kd 0)]) ["named","new"] (wO Γ) (by kernel_rfl) hA.room ?_ (λL=>?_) (by rfl) (by decide) (by decide) (by rfl) (by rfl) (by rfl) ws [] hw rfl
 ·intro ws kws hw hk
  obtain⟨w₁,w₂,w₃,w₄,rfl,e1,e2,e3,e4⟩:=Zw hw
  have:kws=[]:=by simpa using hk
  subst this
  exact⟨[("world",w₁),("one",w₂),("named",w₃),("kind",w₄)],by simp [e1,e2,e3,e4],λs X=>Cg (by rfl)⟩
 let S:List As:=Jo de ih das has τ
 show T Γ (A.deeper (Ua L)) ⟨W,xQ L w i kd none none (some (.ref nm)) none S⟩ (Cm _ (Ua L)) _
 have hA':Rm (A.deeper (Ua L)) 9:=hA.deeper
 have hLS:Zt S w fa ab sp de ih AB DE IH:=kU hd ha (r1.sub hτr) (r2.sub hτr)
 have upS:∀{p:As},p∈τ->p∈S:=λhp=>.tail _ (.tail _ hp)
 have up:∀{p:As} oc ac nw,p∈S->p∈xQ L w i kd oc ac (some (.ref nm)) nw S:=λoc ac nw hp=>.tail _ (.tail _ (.tail _ (.tail _ (.tail _ (.tail _ (.tail _ hp))))))
 have hdl:das.length=4:=by rw [r1.1,wf.lenD]
 have hhl:has.length=4:=by rw [r2.1,wf.lenI]
 have hldn:=Og named []
 by_cases q:kd=2
 ·subst q
  refine Am (Ga rfl (Px (Ar (An (v:=.int 2 0) rfl (Ae (.tail _ (.tail _ (.head _)))) (Dd (Nr ⟨_,rfl,λ_=>?_,λhb=>(by cases hb)⟩))))))
  refine Hv (Ao ⟨by rw [Av];exact Ca _,λol=>⟨_,_,.tau (.there (.there .here)),?_⟩⟩)
  refine Fb.go ?_
  refine Am (Bl (Bz (Bk (v:=.ref 473) (by kernel_rfl) ⟨.inl (by kernel_rfl),?_⟩)))
  refine Ag (Ac (v:=.ref nm) (Ae (.tail _ (.tail _ (.tail _ (.tail _ (.tail _ (.tail _ (.head _)))))))) (Ao λws hw=>(Uc (ns:=nv named) (hA'.le (by decide)) hh (Ae (.tail _ (up _ _ _ (upS hn)))) (by rw [Lr];lia) (λnl=>?_) ws hw).T))
  rw [Sj]
  refine⟨_,_,.tau (.there (.there (.there (.there (.there (.there (.there (.there .here)))))))),?_⟩
  refine Fb.go ?_
  refine Am (Hs (Ar (An (v:=.int 2 0) rfl (Ae (.tail _ (.tail _ (.tail _ (.tail _ (.head _)))))) (Dd (Nr ⟨_,rfl,λ_=>?_,λhb=>(by cases hb)⟩)))))
  refine Am (Ky (Hv (Ao ⟨by rw [Av];exact Ca _,λel=>?_⟩)))
  refine Bd (An (v:=.ref w) rfl (Ae (.tail _ (.tail _ (.tail _ (.tail _ (.tail _ (.tail _ (.tail _ (.head _))))))))) (Kg (Ee (Ae (.tail _ (.tail _ (.tail _ (up _ _ _ (upS hd)))))) (v:=.ref ih) (by rfl) ?_)))
  refine An (v:=.int (i:Int) 0) rfl (Ae (.tail _ (.tail _ (.tail _ (.tail _ (.tail _ (.tail _ (.head _)))))))) λv ov iv' hv ho hi'=>Se (vs:=has.map .ref) ho hi' hv (.tau (.there (.there (.there (.there (.there (.there (.there (.there (.there (.there (.there .here)))))))))))) (by rw [Ap];lia) (by lia) ?_
  refine Fb.go ?_
  refine Am (Ky (Ac (v:=.ref nl) (Ae (.tail _ (.tail _ (.tail _ (.tail _ (.tail _ (.tail _ (.tail _ (.tail _ (.tail _ (.head _))))))))))) ?_))
  refine Bd (An (v:=.ref w) rfl (Ae (.tail _ (.tail _ (.tail _ (.tail _ (.tail _ (.tail _ (.tail _ (.head _))))))))) (Kg (Ee (Ae (.tail _ (.tail _ (.tail _ (.tail _ (.tail _ (.tail _ (.tail _ (.tail _ (.tail _ (.tail _ (.tail _ (.tail _ hd))))))))))))) (v:=.ref de) (by rfl) ?_)))
  refine An (v:=.int (i:Int) 0) rfl (Ae (.tail _ (.tail _ (.tail _ (.tail _ (.tail _ (.tail _ (.head _)))))))) λv ov iv' hv ho hi'=>Se (vs:=das.map .ref) ho hi' hv (.tau (.there (.there (.there (.there (.there (.there (.there (.there (.there (.there .here))))))))))) (by rw [Ap];lia) (by lia) ?_
  refine Fb.go ?_
  refine Am (dJ ?_)
  rw [aS,aS]
  have hsub:∀p∈τr,p∈[(Er.obj el,CO.list (iv [])),(Er.obj nl,CO.list (iv (Ck [] named)))]++τr:=λp hp=>Aa _ hp
  refine⟨_,?_,h0 rfl (das.set i nl) (has.set i el) [(.obj el,.list (iv [])),(.obj nl,.list (iv (Ck [] named)))] ((r1.sub hsub).set (.tail _ (.head _))) ((r2.sub hsub).set (.head _))⟩
  refine As.le_trans (b:=⟨W,(.obj el,.list [])::(.obj nl,.list (iv (Ck [] named)))::Jo de ih (das.set i nl) (has.set i el) τ⟩) (As.le_perm (Bb W ?_)) (As.le_sub (.cons_cons _ (.cons_cons _ (.cons _ (.cons _ (.cons _ (.cons _ (.cons _ (.cons _ (.cons _ (.cons _ (.refl _))))))))))))
  have pm:∀(a b c d:As),(c::d::a::b::τ).Perm (a::b::c::d::τ):=λa b c d=>by
   have:=Dx τ (Eu (l₁:=[c,d]) (l₂:=[a,b]))
   exact this
  first
   |exact pm _ _ _ _
   |exact(pm _ _ _ _).symm
 ·have hwd:(kd==2)=false:=by simpa using q
  obtain⟨das1,db,d1,d2,d3⟩:=hLS.decl.row (i:=i) (by rw [wf.lenD];lia)
  have m4:=wf.m4
  have hD4:=wf.D4 i
  refine Am (Ga rfl (Px (Ar (An (v:=.int kd 0) rfl (Ae (.tail _ (.tail _ (.head _)))) (Dd (Nr ⟨_,rfl,λhb=>(by rw [hwd]at hb;cases hb),λ_=>?_⟩))))))
  refine Bd (Bd (An (v:=.ref w) rfl (Ae (.tail _ (.tail _ (.tail _ (.tail _ (.head _)))))) (Kg (Ee (Ae (up _ _ _ (upS hd))) (v:=.ref de) (by rfl) (An (v:=.int (i:Int) 0) rfl (Ae (.tail _ (.tail _ (.tail _ (.head _))))) (Gn<|Ch (vs:=das1.map .ref) (v:=.ref db) (Ae (up _ _ _ d1)) (by lia) (by lia) d2 ⟨_,_,.tau (.there .here),?_⟩))))))
  refine Fb.go ?_
  refine Am (Bl (Bz (Bk (v:=.ref 473) (by kernel_rfl) ⟨.inl (by kernel_rfl),?_⟩)))
  refine Ag (Ac (v:=.ref nm) (Ae (.tail _ (.tail _ (.tail _ (.tail _ (.tail _ (.head _))))))) (Ao λws hw=>(Uc (ns:=nv named) (hA'.le (by decide)) hh (Ae (up _ _ _ (upS hn))) (by rw [Lr];lia) (λnl0=>?_) ws hw).T))
  rw [Sj]
  refine⟨_,_,.tau (.there (.there (.there (.there (.there (.there (.there .here))))))),?_⟩
  refine Fb.go ?_
  refine Am (Hs (Ar (An (v:=.int kd 0) rfl (Ae (.tail _ (.tail _ (.tail _ (.head _))))) (Dd (Nr ⟨_,rfl,λhb=>(by rw [hwd]at hb;cases hb),λ_=>?_⟩)))))
  refine Ci ?_
  refine Fb.go ?_
  let Y0:List As:=(.obj nl0,.list (iv (Ck [] named)))::xQ L w i kd (some (.ref db)) none (some (.ref nm)) (some (.ref nl0)) S
  show T Γ (A.deeper (Ua L)) ⟨W,Y0⟩ _ _
  have hL0:Zt Y0 w fa ab sp de ih AB DE IH:=hLS.sub λp hp=>.tail _ (up _ _ _ hp)
  let pf:Nat->Bool:=λk=>!decide (k∈Lf AB DE IH 4 i)
  refine Am (Qh (Ac (v:=.ref nl0) (mI 7 rfl) (Eh (vs:=iv (Ck [] named)) (Ae (.head _)) λit=>?_)))
  refine⟨λj:Nat=>.int (j:Int) 0,Ck [] named,it,_,_,λ_ _=>W,λ_ _=>Y0,λa _=>iv (a.filter pf),λ_ _=>True,(),⟨rfl,rfl,by rw [<-aJ];exact Es (a:=nl0) (vs:=iv (Ck [] named)) hh⟩,Gv,trivial,rfl,λ_ _ ext _=>?_,λa b _ e _=>?_,λC acc a j b ρ' _ e _=>?_,λnl _ _=>?_⟩
  ·exact Ae (Aa _ (.head _))
  ·have:=Bu pf a
   rw [e,Ah]at hldn
   rw [Cq,Av]
   lia
  ·have up2:∀{p:As},p∈Y0->p∈ρ'++Tg C acc "k" (some (.int (j:Int) 0)) (iv (a.filter pf)) Y0:=λhp=>Aa _ (.tail _ (.tail _ hp))
   refine Jl (Ar (Di (v:=.int (j:Int) 0) (Ae (Aa _ (.head _))) (.head _) (Bz (Bk (v:=.ref 478) (by kernel_rfl) ⟨.inl (by kernel_rfl),?_⟩))))
   refine Ag (An (v:=.ref w) rfl (Ae (up2 (mL 5 rfl))) (Ag (An (v:=.int (i:Int) 0) rfl (Ae (up2 (mL 4 rfl))) (Ao λws hw=>(sU wf 4 hi (by decide) (hL0.sub λp hp=>up2 hp) (hA'.le (by decide)) hh (λr3=>?_) ws hw).T))))
   refine(Ts (ns:=nv (Lf AB DE IH 4 i)) (Ae (.head _)) ⟨_,rfl,λhb=>?_,λhb=>?_⟩)
   ·rw [Xr]at hb
    exact Di (v:=.int (j:Int) 0) (Ae (.tail _ (Aa _ (.head _)))) (.head _) ⟨_,_,_,As.le_sub (.cons _ (.refl _)),(),rfl,by rw [Zy hb,Wg],trivial⟩
   ·rw [Xr]at hb
    exact⟨_,_,_,As.le_sub (.cons _ (.refl _)),(),rfl,by rw [aK hb],trivial⟩
  refine⟨_,_,.tau (.there (.there (.there (.there (.there (.there (.there (.there .here)))))))),?_⟩
  refine Fb.go ?_
  let N:List Nat:=rW AB DE IH i named
  have lN:N.length<=3:=by
   have:=Bu pf (Ck [] named)
   show(List.filter pf (Ck [] named)).length<=3
   lia
  have hNm:∀k∈N,k < m:=λk hk=>hnm k (Mj _ _ k (Cs.mp hk).1).1
  let τ2:List As:=(.obj nl,.list (iv N))::(.obj nl0,.list (iv (Ck [] named)))::S
  refine T.conseq (σ':=⟨W,xQ L w i kd (some (.ref db)) none (some (.ref nm)) (some (.ref nl)) τ2⟩) (As.le_perm (Bb W ?_)) ?_
  ·exact Dx S (Eu (l₁:=[_,_]) (l₂:=[_,_,_,_,_,_,_]))
  have up2:∀{p:As},p∈S->p∈τ2:=λhp=>.tail _ (.tail _ hp)
  refine Am (tM (τ:=τ2) (ol:=db) (nl:=nl) (old:=DE.getD i []) (new:=N) wf (hLS.sub λp hp=>up2 hp) hh (up2 d3) (.head _) (by lia) (by lia) hNm λah=>?_)
  refine Fb.go ?_
  let AH:List Nat:=Nc AB (DE.getD i []) N kd
  have lAH:AH.length<=3:=Bw (Bu _ _) lN
  let Y3:List As:=(.obj ah,.list (iv AH))::xQ L w i kd (some (.ref db)) (some (.ref ah)) (some (.ref nm)) (some (.ref nl)) τ2
  show T Γ (A.deeper (Ua L)) ⟨W,Y3⟩ _ _
  refine Am (Ky (Ei (Ei (An (v:=.ref ah) rfl (Ae (.tail _ (.head _))) (An (v:=.ref db) rfl (Ae (.tail _ (.tail _ (.head _)))) (Ww (vs:=iv AH) (us:=iv (DE.getD i [])) (Ae (.head _)) (Ae (.tail _ (.tail _ (.tail _ (.tail _ (.tail _ (.tail _ (.tail _ (.tail _ (up2 d3)))))))))) (by rw [Cq,Cq];lia) λc1=>?_))))))
  rw [<-Sz]
  let Y4:List As:=(.obj c1,.list (iv (AH++DE.getD i [])))::Y3
  show T Γ (A.deeper (Ua L)) ⟨W,Y4⟩ _ _
  let pg:Nat->Bool:=λk=>!decide (k∈AH)
  refine Qs (Ac (v:=.ref nl) (mI 8 rfl) (Eh (vs:=iv N) (Ae (mL 9 rfl)) λit=>?_))
  refine⟨λj:Nat=>.int (j:Int) 0,N,it,_,_,λ_ _=>W,λ_ _=>Y4,λa _=>iv (a.filter pg),λ_ _=>True,(),⟨rfl,rfl,by rw [<-aJ];exact Es (a:=nl) (vs:=iv N) hh⟩,Gv,trivial,rfl,λ_ _ ext _=>?_,λa b _ e _=>?_,λC acc a j b ρ' _ e _=>?_,λc2 _ _=>?_⟩
  ·exact Ae (Aa _ (mL 9 rfl))
  ·have:=Bu pg a
   rw [e,Ah]at lN
   rw [Cq,Av]
   lia
  ·refine Jl (Ar (Di (v:=.int (j:Int) 0) (Ae (Aa _ (.head _))) (.head _) (An (v:=.ref ah) rfl (Ae (Aa _ (mL 4 rfl))) (Ts (ns:=nv AH) (Ae (Aa _ (mL 3 rfl))) ⟨_,rfl,λhb=>?_,λhb=>?_⟩))))
   ·rw [Xr]at hb
    exact Di (v:=.int (j:Int) 0) (Ae (Aa _ (.head _))) (.head _) ⟨_,_,_,As.le_refl _,(),rfl,by rw [Zy hb,Wg],trivial⟩
   ·rw [Xr]at hb
    exact⟨_,_,_,As.le_refl _,(),rfl,by rw [aK hb],trivial⟩
  have lg:=Bu pg N
  refine(Ww (vs:=iv (AH++DE.getD i [])) (us:=iv (N.filter pg)) (Ae (.tail _ (.head _))) (Ae (.head _)) (by rw [Cq,Cq,Ah];lia) λrr=>?_)
  rw [<-Sz]
  refine Bd (An (v:=.ref w) rfl (Ae (.tail _ (.tail _ (.tail _ (.tail _ (.tail _ (.tail _ (.tail _ (.tail _ (.head _)))))))))) (Kg (Ee (Ae (.tail _ (.tail _ (.tail _ (.tail _ (.tail _ (.tail _ (.tail _ (.tail _ (.tail _ (.tail _ (.tail _ (up2 (upS hd)))))))))))))) (v:=.ref de) (by rfl) ?_)))
  refine An (v:=.int (i:Int) 0) rfl (Ae (.tail _ (.tail _ (.tail _ (.tail _ (.tail _ (.tail _ (.tail _ (.head _))))))))) λv ov iv' hv ho hi'=>Se (vs:=das.map .ref) ho hi' hv (.tau (.there (.there (.there (.there (.there (.there (.there (.there (.there (.there (.there (.there (.there .here)))))))))))))) (by rw [Ap];lia) (by lia) ?_
  refine Fb.go (Ci ?_)
  rw [aS]
  have hsub:∀p∈τr,p∈[(Er.obj rr,CO.list (iv (Xn AB DE IH i named kd)))]++τr:=λp hp=>Aa _ hp
  refine⟨_,?_,h1 q (das.set i rr) [(.obj rr,.list (iv (Xn AB DE IH i named kd)))] ((r1.sub hsub).set (.head _))⟩
  refine As.le_trans (b:=⟨W,(.obj rr,.list (iv (Xn AB DE IH i named kd)))::Jo de ih (das.set i rr) has τ⟩) (As.le_perm (Bb W ?_)) (As.le_sub (.cons_cons _ (.cons _ (.cons _ (.cons _ (.cons _ (.cons _ (.cons _ (.cons _ (.cons _ (.cons _ (.cons _ (.cons _ (.cons _ (.refl _)))))))))))))))
  have pm:∀(a b c:As),(c::a::b::τ).Perm (a::b::c::τ):=λa b c=>Dx τ (Eu (l₁:=[c]) (l₂:=[a,b]))
  first
   |exact pm _ _ _
   |exact(pm _ _ _).symm
end
end
section
section
variable {Γ:Bj} {A:Aw} {G:List Nd} {W:List As}
theorem jF {τ:List As} {js:List Nat} (nf:NF W G) (hjs:∀j∈js,j < G.length) (hz:js.length<=1000):gW Γ G W τ (refs G js) js:=by
 intro A τ' t Q hA hh _ ht h
 exact Xc nf (hA.le (by decide)) hh (.inr ht) hjs hz h
theorem jG {q:Ak} {js:List Nat} (nf:NF W G) (hjs:∀j∈js,j < G.length):Yw Γ G W 2 (.ref q) js (λτ=>Ew Γ ⟨W,τ⟩ q (refs G js)/\True):=by
 have e:=Uo js
 have this:Yw Γ G W 2 (.ref q) (js.map λj=>[j]).flatten (λτ=>Ew Γ ⟨W,τ⟩ q (refs G js)/\True):=bX (Γ:=Γ) (G:=G) (W:=W) (a:=q) (vs:=refs G js) (jss:=js.map λj=>[j]) (n:=1) (S:=λ_=>True) (λ_ _ _=>trivial) (by simp [refs]) (λk v js' h1 h2=>by
  rw [Bc,Cw]at h2
  obtain⟨j,hj,rfl⟩:=h2
  obtain⟨j',hj',rfl⟩:=iB h1
  rw [hj]at hj'
  cases hj'
  obtain⟨x,ex⟩:=Dl (hjs j (Fd hj))
  rw [Br ex]
  exact Ul nf ex)
 rw [e]at this
 exact @this
theorem lO {τ:List As} {p q:Ak} {j0:Nat} {js:List Nat} {x:Nd} (nf:NF W G) (hj0:G[j0]? =some x) (hjs:∀j∈js,j < G.length) (hz:js.length<=900) (hp:Ew Γ ⟨W,τ⟩ p [.ref x.me,.ref q]) (hq:Ew Γ ⟨W,τ⟩ q (refs G js)):gW Γ G W τ [.ref p] (j0::js):=by
 intro A τ' t Q hA hh ⟨ρ,e⟩ ht h
 subst e
 have h2:Yw Γ G W 3 (.ref p) ([[j0],js].flatten) (λτ=>Ew Γ ⟨W,τ⟩ p [.ref x.me,.ref q]/\(Ew Γ ⟨W,τ⟩ q (refs G js)/\True)):=by
  refine bX (n:=2) (S:=λτ=>Ew Γ ⟨W,τ⟩ q (refs G js)/\True) (λρ τ h=>⟨h.1.ext,trivial⟩) rfl λk v js' h1 h2=>?_
  match k,h1,h2 with
  |0,h1,h2=>
   cases h1;cases h2
   intro A τ' o acc Q b1 b2 b3 b4 b5 b6
   exact Ul nf hj0 (b1.le (by decide)) b2 b3 (λ_=>trivial) b5 b6
  |1,h1,h2=>
   cases h1;cases h2
   intro A τ' o acc Q b1 b2 b3 b4 b5 b6
   exact jG nf hjs b1 b2 b3 b4 b5 b6
 have e2:[[j0],js].flatten=j0::js:=by simp
 rw [e2]at h2
 have:=bY (Γ:=Γ) (A:=A) (G:=G) (W:=W) (τ:=ρ++τ) (a:=t) (vs:=[.ref p]) (jss:=[j0::js]) (n:=3) (Q:=Q) (S:=λτ=>Ew Γ ⟨W,τ⟩ p [.ref x.me,.ref q]/\(Ew Γ ⟨W,τ⟩ q (refs G js)/\True)) (hA.le (by decide)) hh (.inr ht) ⟨hp.ext,hq.ext,trivial⟩ (λρ τ h=>⟨h.1.ext,h.2.1.ext,trivial⟩) rfl (λk v js' h1 h3=>by
  match k,h1,h3 with
  |0,h1,h3=>
   cases h1;cases h3
   exact @h2) (by simp;lia)
 simp only [List.flatten_cons,List.flatten_nil,Cj]at this
 exact this h
end
end
section
theorem wM (Γ:Bj):Γ.K.lookup 507=some ⟨.type "function",none,.func (Ka Γ 507 "_law_told" (topStmt 30) (.ref 506) .none),#[]⟩:=by kernel_rfl
noncomputable abbrev Mz (L:Ak):Env:=Gk "_law_told" (fScope (topStmt 30)) L 507 (.ref 506) []
noncomputable abbrev Zk (L me rw:Ak) (kd:Int) (wh:Bool) (τ:List As):List As:=(.var L "spec",.val (some (.ref me)))::(.var L "row",.val (some (.ref rw)))::(.var L "kind",.val (some (.int kd 0)))::(.var L "whole",.val (some (.bool wh)))::τ
section
variable {Γ:Bj} {A:Aw} {G:List Nd} {X:List As}
theorem Xx {τ:List As} {js:List Nat} {i:Nat} (wd:Wd G X) (hil:i < G.length) (hjs:∀j∈js,0 < j/\j < i) (lj:js.length<=3):gW Γ G (Bi G++X) τ (refs G js) js:=jF wd.wx.nf (λj hj=>by have:=(hjs j hj).2;lia) (by lia)
theorem So {A:Aw} {σ:Ay} {env:Env} {e:Aq} {Q:Ab->Ay->Prop} (h:T Γ A σ (Dr e env) Q):T Γ A σ (evalPart (some e) env) Q:=h
theorem yW (v:Ab) (vs:List Ab):Ub (v::vs) (some 1) none=vs:=by
 unfold Ub
 have:clipAt (v::vs).length 1=1:=by
  exact(clipAt_nat _ 1).trans (Nat.min_eq_left (Jq (Ca _)))
 simp only [Option.elim_some,Option.elim_none,this,List.drop_succ_cons,List.drop_zero]
 rw [Ft,Nat.add_sub_cancel,Em]
theorem yT {τ:List As} {L rw:Ak} {i:Nat} {x:Nd} {js jd hs:List Nat} {Q:Ab->Ay->Prop} {wh:Bool} (wd:Wd G X) (sok:∀j,j < G.length->Tx G j) (hi:G[i]? =some x) (hi0:0 < i) (hC:x.C=427) (hd:Mp X x.decl (refs G jd)) (hn:Ph X x.inh (refs G hs)) (hhl:x.inh=none\/x.inh=some .none->hs=[])
  (hrw:(Er.obj rw,CO.list (refs G js))∈τ) (l1:0 < js.length) (l3:js.length<=3) (hjs:∀j∈js,0 < j/\j < i) (hjd:∀j∈jd,j < i) (hhs:∀j∈hs,j < i) (ld:jd.length<=20) (lh:hs.length<=20) (hA:Rm (A.deeper (Mz L)) 32) (hh:A.handled=none) (hF:AF A ⟨[],τ⟩)
  (h:∀j,js.head?=some j->kP G X τ i x (Ma G i [j] jd []) (Ma G i [j] jd []++Ck (Ma G i [j] jd []) hs) x.inh Q):
  T Γ (A.deeper (Mz L)) ⟨Bi G++X,Zk L x.me rw 1 wh τ⟩ (Cm (fBody (topStmt 30)) (Mz L)) (Ja Q):=by
 have nf:=wd.wx.nf
 have hil:=(Aj.mp hi).1
 have lc:∀j,j < G.length->j≠i->cU G j:=λj hj _=>Rc wd.gr (Bx _) sok hj
 have up:∀{p:As},p∈τ->p∈Zk L x.me rw 1 wh τ:=λhp=>.tail _ (.tail _ (.tail _ (.tail _ hp)))
 have hFV:AF (A.deeper (Mz L)) ⟨[],Zk L x.me rw 1 wh τ⟩:=hF.push rfl rfl (L:=L) (x:="spec") (c:=some (.ref x.me)) (.head _) λp hp=>up hp
 obtain⟨a,r,hj⟩:∃a r,js=a::r:=by cases js with|nil=>simp at l1|cons a r=>exact⟨a,r,rfl⟩
 obtain⟨ya,eya⟩:=Dl (show a < G.length by have:=(hjs a (by rw [hj];exact .head _)).2;lia)
 refine Am (Hs (Ar (Ac (v:=.int 1 0) (Ae (.tail _ (.tail _ (.head _)))) (Dd (Nr ⟨_,rfl,λ_=>?_,λhb=>(by cases hb)⟩)))))
 refine Am (Fy (Bz (Bk (v:=.ref 450) (by kernel_rfl) ⟨.inl (by kernel_rfl),?_⟩)))
 refine Ag (Ac (v:=.ref x.me) (Ae (.head _)) ?_)
 refine Ag (Bd (Ac (v:=.ref rw) (Ae (.tail _ (.head _))) (Dd (Ch (vs:=refs G js) (v:=.ref ya.me) (Ae (up hrw)) (by decide) (by decide) (by subst hj;simp [refs,Br eya]) ?_))))
 refine Ao λws hw=>(Adg (τ:=Zk L x.me rw 1 wh τ) (jd:=jd) (hs:=hs) wd lc hi eya (hjs a (by rw [hj];exact .head _)) hC hd hn hhl hjd hhs ld lh hA hh hFV (λG' X' t' bt w1 w2 w3 w4 w5=>?_) ws hw).T
 refine Fb.go (Ci ?_)
 refine Fb.go (Ci ?_)
 exact⟨_,As.le_sub (Bp [_,_,_,_] τ),h a (by rw [hj];rfl) G' X' t' bt w1 w2 w3 w4 w5⟩
theorem vQ {τ:List As} {L rw:Ak} {i:Nat} {x:Nd} {js jd hs:List Nat} {Q:Ab->Ay->Prop} (wd:Wd G X) (sok:∀j,j < G.length->Tx G j) (hi:G[i]? =some x) (hi0:0 < i) (hC:x.C=427) (hd:Mp X x.decl (refs G jd)) (hn:Ph X x.inh (refs G hs)) (hhl:x.inh=none\/x.inh=some .none->hs=[])
  (hrw:(Er.obj rw,CO.list (refs G js))∈τ) (l1:0 < js.length) (l3:js.length<=3) (hjs:∀j∈js,0 < j/\j < i) (hjd:∀j∈jd,j < i) (hhs:∀j∈hs,j < i) (ld:jd.length<=20) (lh:hs.length<=20) (hA:Rm (A.deeper (Mz L)) 32) (hh:A.handled=none) (hF:AF A ⟨[],τ⟩)
  (h:kP G X τ i x (Ma G i (js.filter (Hi G jd)) jd (js.filter λj=>!Hi G jd j)) ((Ma G i (js.filter (Hi G jd)) jd (js.filter λj=>!Hi G jd j))++Ck (Ma G i (js.filter (Hi G jd)) jd (js.filter λj=>!Hi G jd j)) hs) x.inh Q):
  T Γ (A.deeper (Mz L)) ⟨Bi G++X,Zk L x.me rw 0 true τ⟩ (Cm (fBody (topStmt 30)) (Mz L)) (Ja Q):=by
 have nf:=wd.wx.nf
 have hil:=(Aj.mp hi).1
 have lc:∀j,j < G.length->j≠i->cU G j:=λj hj _=>Rc wd.gr (Bx _) sok hj
 have up:∀{p:As},p∈τ->p∈Zk L x.me rw 0 true τ:=λhp=>.tail _ (.tail _ (.tail _ (.tail _ hp)))
 have hFV:AF (A.deeper (Mz L)) ⟨[],Zk L x.me rw 0 true τ⟩:=hF.push rfl rfl (L:=L) (x:="spec") (c:=some (.ref x.me)) (.head _) λp hp=>up hp
 obtain⟨a,r,hj⟩:∃a r,js=a::r:=by cases js with|nil=>simp at l1|cons a r=>exact⟨a,r,rfl⟩
 obtain⟨ya,eya⟩:=Dl (show a < G.length by have:=(hjs a (by rw [hj];exact .head _)).2;lia)
 have hrr:refs G js=.ref ya.me::refs G r:=by rw [hj];simp [refs,Br eya]
 refine Am (Hs (Ar (Ac (v:=.int 0 0) (Ae (.tail _ (.tail _ (.head _)))) (Dd (Nr ⟨_,rfl,λhb=>(by cases hb),λ_=>?_⟩)))))
 refine Am (Hs (Ep (Ex (Ar (Ac (v:=.int 0 0) (Ae (.tail _ (.tail _ (.head _)))) (Dd (Nr ⟨_,rfl,λ_=>?_,λhb=>(by cases hb)⟩)))))))
 refine Ex (Ej (Ac (v:=.bool true) (Ae (.tail _ (.tail _ (.tail _ (.head _))))) (Fc ⟨λ_=>?_,λhb=>(by cases hb)⟩)))
 refine Td ⟨λ_=>?_,λhb=>(by cases hb)⟩
 refine Am (Fy (Bz (Bk (v:=.ref 443) (by kernel_rfl) ⟨.inl (by kernel_rfl),?_⟩)))
 refine Ag (Ac (v:=.ref x.me) (Ae (.head _)) ?_)
 refine Ag (Kh (k:=0) ?_)
 refine Ag (Bd (Ac (v:=.ref rw) (Ae (.tail _ (.head _))) (Dd (Ch (vs:=refs G js) (v:=.ref ya.me) (Ae (up hrw)) (by decide) (by decide) (by subst hj;simp [refs,Br eya]) ?_))))
 refine Ag (Bz (Az (v:=.type "tuple") (by kernel_rfl) (by decide+kernel) (by decide) ⟨.inr (.inr ⟨_,rfl⟩),?_⟩))
 refine Ag (fT (Ac (v:=.ref rw) (Ae (.tail _ (.head _))) ?_))
 refine So (Dd (Ze ⟨rw,refs G js,some 1,none,rfl,.of_mem (Ae (up hrw)),by rw [Bf];lia,rfl,rfl,λsl=>?_⟩))
 rw [hrr,yW]
 refine Ao λws hw=>Fp (vs:=refs G r) (Ae (.head _)) (by rw [Bf];rw [hj]at l3;simp at l3;lia) (λq=>?_) ws hw
 refine Ao ⟨by rw [Av];exact By rfl,λp=>?_⟩
 let V2:List As:=(.obj p,.tup [.ref ya.me,.ref q])::(.obj q,.tup (refs G r))::(.obj sl,.list (refs G r))::Zk L x.me rw 0 true τ
 have hN:gW Γ G (Bi G++X) V2 [.ref p] js:=by
  rw [hj]
  refine lO nf eya (λj hj'=>by have:=(hjs j (by rw [hj];exact .tail _ hj')).2;lia) (by rw [hj]at l3;simp at l3;lia) (.of_mem (Ae (.head _))) (.of_mem (Ae (.tail _ (.head _))))
 refine Ao λws hw=>(vK (τ:=V2) (vs:=[.ref p]) (js:=js) (jd:=jd) (hs:=hs) wd lc hi hi0 hC hd hn hhl ⟨by simp,by simp⟩ hN hjs hjd hhs (by lia) ld lh hA hh hFV.cons.cons.cons (λG' X' t' bt w1 w2 w3 w4 w5=>?_) ws hw).T
 refine Fb.go (Ci ?_)
 refine Fb.go (Ci ?_)
 refine Fb.go (Ci ?_)
 exact⟨_,As.le_sub (Bp [_,_,_,_,_,_,_] τ),h G' X' t' bt w1 w2 w3 w4 w5⟩
theorem yU {τ:List As} {L rw:Ak} {i:Nat} {x:Nd} {js jd hs:List Nat} {Q:Ab->Ay->Prop} (wd:Wd G X) (sok:∀j,j < G.length->Tx G j) (hi:G[i]? =some x) (hi0:0 < i) (hC:x.C=427) (hd:Mp X x.decl (refs G jd)) (hn:Ph X x.inh (refs G hs)) (hhl:x.inh=none\/x.inh=some .none->hs=[])
  (hrw:(Er.obj rw,CO.list (refs G js))∈τ) (l1:0 < js.length) (l3:js.length<=3) (hjs:∀j∈js,0 < j/\j < i) (hjd:∀j∈jd,j < i) (hhs:∀j∈hs,j < i) (ld:jd.length<=20) (lh:hs.length<=20) (hA:Rm (A.deeper (Mz L)) 32) (hh:A.handled=none) (hF:AF A ⟨[],τ⟩)
  (h:kP G X τ i x (Ma G i (js.filter (Hi G jd)) jd (js.filter λj=>!Hi G jd j)) ((Ma G i (js.filter (Hi G jd)) jd (js.filter λj=>!Hi G jd j))++Ck (Ma G i (js.filter (Hi G jd)) jd (js.filter λj=>!Hi G jd j)) hs) x.inh Q):
  T Γ (A.deeper (Mz L)) ⟨Bi G++X,Zk L x.me rw 0 false τ⟩ (Cm (fBody (topStmt 30)) (Mz L)) (Ja Q):=by
 have nf:=wd.wx.nf
 have hil:=(Aj.mp hi).1
 have lc:∀j,j < G.length->j≠i->cU G j:=λj hj _=>Rc wd.gr (Bx _) sok hj
 have up:∀{p:As},p∈τ->p∈Zk L x.me rw 0 false τ:=λhp=>.tail _ (.tail _ (.tail _ (.tail _ hp)))
 have hFV:AF (A.deeper (Mz L)) ⟨[],Zk L x.me rw 0 false τ⟩:=hF.push rfl rfl (L:=L) (x:="spec") (c:=some (.ref x.me)) (.head _) λp hp=>up hp
 have hjl:∀j∈js,j < G.length:=λj hj=>by have:=(hjs j hj).2;lia
 have hlen:T Γ (A.deeper (Mz L)) ⟨Bi G++X,Zk L x.me rw 0 false τ⟩ (Dr (.Name "row" ⟨0,0,0,0⟩) (Mz L)) (λc σ=>c=.ref rw/\σ=⟨Bi G++X,Zk L x.me rw 0 false τ⟩):=Ac (v:=.ref rw) (Ae (.tail _ (.head _))) ⟨rfl,rfl⟩
 refine Am (Hs (Ar (Ac (v:=.int 0 0) (Ae (.tail _ (.tail _ (.head _)))) (Dd (Nr ⟨_,rfl,λhb=>(by cases hb),λ_=>?_⟩)))))
 refine Am (Hs (Ep (Ex (Ar (Ac (v:=.int 0 0) (Ae (.tail _ (.tail _ (.head _)))) (Dd (Nr ⟨_,rfl,λ_=>?_,λhb=>(by cases hb)⟩)))))))
 refine Ex (Ej (Ac (v:=.bool false) (Ae (.tail _ (.tail _ (.tail _ (.head _))))) (Fc ⟨λhb=>(by cases hb),λ_=>⟨λhb=>(by cases hb),λ_=>?_⟩⟩)))
 match js,l1,l3 with
 |[a],_,_=>
  obtain⟨ya,eya⟩:=Dl (hjl a (by simp))
  refine Am (Hs (Ep (Ex (Ar (Ac (v:=.int 0 0) (Ae (.tail _ (.tail _ (.head _)))) (Dd (Nr ⟨_,rfl,λ_=>?_,λhb=>(by cases hb)⟩)))))))
  refine Ex (Ar (Bz (Az (v:=.builtin "len") (by kernel_rfl) (by decide+kernel) (by decide) ⟨.inr (.inl ⟨_,rfl⟩),Ag (Ac (v:=.ref rw) (Ae (.tail _ (.head _))) (Ao (Hj (vs:=refs G [a]) (Ae (up hrw)) (by simp [refs]) ?_)))⟩)))
  refine Dd (Nr ⟨_,rfl,λ_=>Td ⟨λ_=>?_,λhb=>(by cases hb)⟩,λhb=>(by cases hb)⟩)
  refine Am (Fy (Bz (Bk (v:=.ref 443) (by kernel_rfl) ⟨.inl (by kernel_rfl),?_⟩)))
  refine Ag (Ac (v:=.ref x.me) (Ae (.head _)) ?_)
  refine Ag (Bd (Ac (v:=.ref rw) (Ae (.tail _ (.head _))) (Dd (Ch (vs:=refs G [a]) (v:=.ref ya.me) (Ae (up hrw)) (by decide) (by decide) (by simp [refs,Br eya]) ?_))))
  have hr:refs G [a]=[.ref ya.me]:=by simp [refs,Br eya]
  refine Ao λws hw=>(vK (τ:=Zk L x.me rw 0 false τ) (vs:=refs G [a]) (js:=[a]) (jd:=jd) (hs:=hs) wd lc hi hi0 hC hd hn hhl ⟨by simp [refs],by simp [refs]⟩ (Xx wd hil hjs (by simp)) hjs hjd hhs (by simp) ld lh hA hh hFV (λG' X' t' bt w1 w2 w3 w4 w5=>?_) ws (by rw [hr];exact hw)).T
  iterate 9 (try refine Fb.go (Ci ?_))
  exact⟨_,As.le_sub (Bp [_,_,_,_] τ),h G' X' t' bt w1 w2 w3 w4 w5⟩
 |[a,b],_,_=>
  obtain⟨ya,eya⟩:=Dl (hjl a (by simp))
  obtain⟨yb,eyb⟩:=Dl (hjl b (by simp))
  refine Am (Hs (Ep (Ex (Ar (Ac (v:=.int 0 0) (Ae (.tail _ (.tail _ (.head _)))) (Dd (Nr ⟨_,rfl,λ_=>?_,λhb=>(by cases hb)⟩)))))))
  refine Ex (Ar (Bz (Az (v:=.builtin "len") (by kernel_rfl) (by decide+kernel) (by decide) ⟨.inr (.inl ⟨_,rfl⟩),Ag (Ac (v:=.ref rw) (Ae (.tail _ (.head _))) (Ao (Hj (vs:=refs G [a,b]) (Ae (up hrw)) (by simp [refs]) ?_)))⟩)))
  refine Dd (Nr ⟨_,rfl,λhb=>(by cases hb),λ_=>⟨λhb=>(by cases hb),λ_=>?_⟩⟩)
  refine Am (Hs (Ep (Ex (Ar (Ac (v:=.int 0 0) (Ae (.tail _ (.tail _ (.head _)))) (Dd (Nr ⟨_,rfl,λ_=>?_,λhb=>(by cases hb)⟩)))))))
  refine Ex (Ar (Bz (Az (v:=.builtin "len") (by kernel_rfl) (by decide+kernel) (by decide) ⟨.inr (.inl ⟨_,rfl⟩),Ag (Ac (v:=.ref rw) (Ae (.tail _ (.head _))) (Ao (Hj (vs:=refs G [a,b]) (Ae (up hrw)) (by simp [refs]) ?_)))⟩)))
  refine Dd (Nr ⟨_,rfl,λ_=>Td ⟨λ_=>?_,λhb=>(by cases hb)⟩,λhb=>(by cases hb)⟩)
  refine Am (Fy (Bz (Bk (v:=.ref 443) (by kernel_rfl) ⟨.inl (by kernel_rfl),?_⟩)))
  refine Ag (Ac (v:=.ref x.me) (Ae (.head _)) ?_)
  refine Ag (Bd (Ac (v:=.ref rw) (Ae (.tail _ (.head _))) (Dd (Ch (vs:=refs G [a,b]) (v:=.ref ya.me) (Ae (up hrw)) (by decide) (by decide) (by simp [refs,Br eya]) ?_))))
  refine Ag (Bd (Ac (v:=.ref rw) (Ae (.tail _ (.head _))) (Dd (Ch (vs:=refs G [a,b]) (v:=.ref yb.me) (Ae (up hrw)) (by decide) (by decide) (by simp [refs,Br eyb]) ?_))))
  have hr:refs G [a,b]=[.ref ya.me,.ref yb.me]:=by simp [refs,Br eya,Br eyb]
  refine Ao λws hw=>(vK (τ:=Zk L x.me rw 0 false τ) (vs:=refs G [a,b]) (js:=[a,b]) (jd:=jd) (hs:=hs) wd lc hi hi0 hC hd hn hhl ⟨by simp [refs],by simp [refs]⟩ (Xx wd hil hjs (by simp)) hjs hjd hhs (by simp) ld lh hA hh hFV (λG' X' t' bt w1 w2 w3 w4 w5=>?_) ws (by rw [hr];exact hw)).T
  iterate 9 (try refine Fb.go (Ci ?_))
  exact⟨_,As.le_sub (Bp [_,_,_,_] τ),h G' X' t' bt w1 w2 w3 w4 w5⟩
 |[a,b,c],_,_=>
  obtain⟨ya,eya⟩:=Dl (hjl a (by simp))
  obtain⟨yb,eyb⟩:=Dl (hjl b (by simp))
  obtain⟨yc,eyc⟩:=Dl (hjl c (by simp))
  refine Am (Hs (Ep (Ex (Ar (Ac (v:=.int 0 0) (Ae (.tail _ (.tail _ (.head _)))) (Dd (Nr ⟨_,rfl,λ_=>?_,λhb=>(by cases hb)⟩)))))))
  refine Ex (Ar (Bz (Az (v:=.builtin "len") (by kernel_rfl) (by decide+kernel) (by decide) ⟨.inr (.inl ⟨_,rfl⟩),Ag (Ac (v:=.ref rw) (Ae (.tail _ (.head _))) (Ao (Hj (vs:=refs G [a,b,c]) (Ae (up hrw)) (by simp [refs]) ?_)))⟩)))
  refine Dd (Nr ⟨_,rfl,λhb=>(by cases hb),λ_=>⟨λhb=>(by cases hb),λ_=>?_⟩⟩)
  refine Am (Hs (Ep (Ex (Ar (Ac (v:=.int 0 0) (Ae (.tail _ (.tail _ (.head _)))) (Dd (Nr ⟨_,rfl,λ_=>?_,λhb=>(by cases hb)⟩)))))))
  refine Ex (Ar (Bz (Az (v:=.builtin "len") (by kernel_rfl) (by decide+kernel) (by decide) ⟨.inr (.inl ⟨_,rfl⟩),Ag (Ac (v:=.ref rw) (Ae (.tail _ (.head _))) (Ao (Hj (vs:=refs G [a,b,c]) (Ae (up hrw)) (by simp [refs]) ?_)))⟩)))
  refine Dd (Nr ⟨_,rfl,λhb=>(by cases hb),λ_=>⟨λhb=>(by cases hb),λ_=>?_⟩⟩)
  refine Am (Hs (Ar (Ac (v:=.int 0 0) (Ae (.tail _ (.tail _ (.head _)))) (Dd (Nr ⟨_,rfl,λ_=>?_,λhb=>(by cases hb)⟩)))))
  refine Am (Fy (Bz (Bk (v:=.ref 443) (by kernel_rfl) ⟨.inl (by kernel_rfl),?_⟩)))
  refine Ag (Ac (v:=.ref x.me) (Ae (.head _)) ?_)
  refine Ag (Bd (Ac (v:=.ref rw) (Ae (.tail _ (.head _))) (Dd (Ch (vs:=refs G [a,b,c]) (v:=.ref ya.me) (Ae (up hrw)) (by decide) (by decide) (by simp [refs,Br eya]) ?_))))
  refine Ag (Bd (Ac (v:=.ref rw) (Ae (.tail _ (.head _))) (Dd (Ch (vs:=refs G [a,b,c]) (v:=.ref yb.me) (Ae (up hrw)) (by decide) (by decide) (by simp [refs,Br eyb]) ?_))))
  refine Ag (Bd (Ac (v:=.ref rw) (Ae (.tail _ (.head _))) (Dd (Ch (vs:=refs G [a,b,c]) (v:=.ref yc.me) (Ae (up hrw)) (by decide) (by decide) (by simp [refs,Br eyc]) ?_))))
  have hr:refs G [a,b,c]=[.ref ya.me,.ref yb.me,.ref yc.me]:=by simp [refs,Br eya,Br eyb,Br eyc]
  refine Ao λws hw=>(vK (τ:=Zk L x.me rw 0 false τ) (vs:=refs G [a,b,c]) (js:=[a,b,c]) (jd:=jd) (hs:=hs) wd lc hi hi0 hC hd hn hhl ⟨by simp [refs],by simp [refs]⟩ (Xx wd hil hjs (by simp)) hjs hjd hhs (by simp) ld lh hA hh hFV (λG' X' t' bt w1 w2 w3 w4 w5=>?_) ws (by rw [hr];exact hw)).T
  iterate 9 (try refine Fb.go (Ci ?_))
  exact⟨_,As.le_sub (Bp [_,_,_,_] τ),h G' X' t' bt w1 w2 w3 w4 w5⟩
theorem yS {τ:List As} {L rw:Ak} {i:Nat} {x:Nd} {js jd hs:List Nat} {Q:Ab->Ay->Prop} {wh:Bool} (wd:Wd G X) (sok:∀j,j < G.length->Tx G j) (hi:G[i]? =some x) (hi0:0 < i) (hC:x.C=427) (hd:Mp X x.decl (refs G jd)) (hn:Ph X x.inh (refs G hs)) (hhl:x.inh=none\/x.inh=some .none->hs=[])
  (hrw:(Er.obj rw,CO.list (refs G js))∈τ) (l1:0 < js.length) (l3:js.length<=3) (hjs:∀j∈js,0 < j/\j < i) (hjd:∀j∈jd,j < i) (hhs:∀j∈hs,j < i) (ld:jd.length<=20) (lh:hs.length<=20) (hA:Rm (A.deeper (Mz L)) 32) (hh:A.handled=none) (hF:AF A ⟨[],τ⟩)
  (h:kP G X τ i x (Ck [] js) (Ck [] js) (some .none) Q):
  T Γ (A.deeper (Mz L)) ⟨Bi G++X,Zk L x.me rw 2 wh τ⟩ (Cm (fBody (topStmt 30)) (Mz L)) (Ja Q):=by
 have nf:=wd.wx.nf
 have hil:=(Aj.mp hi).1
 have lc:∀j,j < G.length->j≠i->cU G j:=λj hj _=>Rc wd.gr (Bx _) sok hj
 have up:∀{p:As},p∈τ->p∈Zk L x.me rw 2 wh τ:=λhp=>.tail _ (.tail _ (.tail _ (.tail _ hp)))
 have hFV:AF (A.deeper (Mz L)) ⟨[],Zk L x.me rw 2 wh τ⟩:=hF.push rfl rfl (L:=L) (x:="spec") (c:=some (.ref x.me)) (.head _) λp hp=>up hp
 have hjl:∀j∈js,j < G.length:=λj hj=>by have:=(hjs j hj).2;lia
 have hlen:T Γ (A.deeper (Mz L)) ⟨Bi G++X,Zk L x.me rw 2 wh τ⟩ (Dr (.Name "row" ⟨0,0,0,0⟩) (Mz L)) (λc σ=>c=.ref rw/\σ=⟨Bi G++X,Zk L x.me rw 2 wh τ⟩):=Ac (v:=.ref rw) (Ae (.tail _ (.head _))) ⟨rfl,rfl⟩
 refine Am (Hs (Ar (Ac (v:=.int 2 0) (Ae (.tail _ (.tail _ (.head _)))) (Dd (Nr ⟨_,rfl,λhb=>(by cases hb),λ_=>?_⟩)))))
 refine Am (Hs (Ep (Ex (Ar (Ac (v:=.int 2 0) (Ae (.tail _ (.tail _ (.head _)))) (Dd (Nr ⟨_,rfl,λhb=>(by cases hb),λ_=>⟨λhb=>(by cases hb),λ_=>?_⟩⟩)))))))
 refine Am (Hs (Ep (Ex (Ar (Ac (v:=.int 2 0) (Ae (.tail _ (.tail _ (.head _)))) (Dd (Nr ⟨_,rfl,λhb=>(by cases hb),λ_=>⟨λhb=>(by cases hb),λ_=>?_⟩⟩)))))))
 refine Am (Hs (Ep (Ex (Ar (Ac (v:=.int 2 0) (Ae (.tail _ (.tail _ (.head _)))) (Dd (Nr ⟨_,rfl,λhb=>(by cases hb),λ_=>⟨λhb=>(by cases hb),λ_=>?_⟩⟩)))))))
 refine Am (Hs (Ar (Ac (v:=.int 2 0) (Ae (.tail _ (.tail _ (.head _)))) (Dd (Nr ⟨_,rfl,λhb=>(by cases hb),λ_=>?_⟩)))))
 match js,l1,l3 with
 |[a],_,_=>
  obtain⟨ya,eya⟩:=Dl (hjl a (by simp))
  refine Am (Hs (Ar (Bz (Az (v:=.builtin "len") (by kernel_rfl) (by decide+kernel) (by decide) ⟨.inr (.inl ⟨_,rfl⟩),Ag (Ac (v:=.ref rw) (Ae (.tail _ (.head _))) (Ao (Hj (vs:=refs G [a]) (Ae (up hrw)) (by simp [refs]) ?_)))⟩))))
  refine Dd (Nr ⟨_,rfl,λ_=>?_,λhb=>(by cases hb)⟩)
  refine Am (Fy (Bz (Bk (v:=.ref 436) (by kernel_rfl) ⟨.inl (by kernel_rfl),?_⟩)))
  refine Ag (Ac (v:=.ref x.me) (Ae (.head _)) ?_)
  refine Ag (Bd (Ac (v:=.ref rw) (Ae (.tail _ (.head _))) (Dd (Ch (vs:=refs G [a]) (v:=.ref ya.me) (Ae (up hrw)) (by decide) (by decide) (by simp [refs,Br eya]) ?_))))
  have hr:refs G [a]=[.ref ya.me]:=by simp [refs,Br eya]
  refine Ao λws hw=>(sF (τ:=Zk L x.me rw 2 wh τ) (js:=[a]) wd sok hi hi0 hC ⟨by simp,by simp⟩ hjs hA hh hFV (λG' X' t' bt w1 w2 w3 w4 w5=>?_) ws (by rw [hr];exact hw)).T
  iterate 9 (try refine Fb.go (Ci ?_))
  exact⟨_,As.le_sub (Bp [_,_,_,_] τ),h G' X' t' bt w1 w2 w3 w4 w5⟩
 |[a,b],_,_=>
  obtain⟨ya,eya⟩:=Dl (hjl a (by simp))
  obtain⟨yb,eyb⟩:=Dl (hjl b (by simp))
  refine Am (Hs (Ar (Bz (Az (v:=.builtin "len") (by kernel_rfl) (by decide+kernel) (by decide) ⟨.inr (.inl ⟨_,rfl⟩),Ag (Ac (v:=.ref rw) (Ae (.tail _ (.head _))) (Ao (Hj (vs:=refs G [a,b]) (Ae (up hrw)) (by simp [refs]) ?_)))⟩))))
  refine Dd (Nr ⟨_,rfl,λhb=>(by cases hb),λ_=>?_⟩)
  refine Am (Hs (Ar (Bz (Az (v:=.builtin "len") (by kernel_rfl) (by decide+kernel) (by decide) ⟨.inr (.inl ⟨_,rfl⟩),Ag (Ac (v:=.ref rw) (Ae (.tail _ (.head _))) (Ao (Hj (vs:=refs G [a,b]) (Ae (up hrw)) (by simp [refs]) ?_)))⟩))))
  refine Dd (Nr ⟨_,rfl,λ_=>?_,λhb=>(by cases hb)⟩)
  refine Am (Fy (Bz (Bk (v:=.ref 436) (by kernel_rfl) ⟨.inl (by kernel_rfl),?_⟩)))
  refine Ag (Ac (v:=.ref x.me) (Ae (.head _)) ?_)
  refine Ag (Bd (Ac (v:=.ref rw) (Ae (.tail _ (.head _))) (Dd (Ch (vs:=refs G [a,b]) (v:=.ref ya.me) (Ae (up hrw)) (by decide) (by decide) (by simp [refs,Br eya]) ?_))))
  refine Ag (Bd (Ac (v:=.ref rw) (Ae (.tail _ (.head _))) (Dd (Ch (vs:=refs G [a,b]) (v:=.ref yb.me) (Ae (up hrw)) (by decide) (by decide) (by simp [refs,Br eyb]) ?_))))
  have hr:refs G [a,b]=[.ref ya.me,.ref yb.me]:=by simp [refs,Br eya,Br eyb]
  refine Ao λws hw=>(sF (τ:=Zk L x.me rw 2 wh τ) (js:=[a,b]) wd sok hi hi0 hC ⟨by simp,by simp⟩ hjs hA hh hFV (λG' X' t' bt w1 w2 w3 w4 w5=>?_) ws (by rw [hr];exact hw)).T
  iterate 9 (try refine Fb.go (Ci ?_))
  exact⟨_,As.le_sub (Bp [_,_,_,_] τ),h G' X' t' bt w1 w2 w3 w4 w5⟩
 |[a,b,c],_,_=>
  obtain⟨ya,eya⟩:=Dl (hjl a (by simp))
  obtain⟨yb,eyb⟩:=Dl (hjl b (by simp))
  obtain⟨yc,eyc⟩:=Dl (hjl c (by simp))
  refine Am (Hs (Ar (Bz (Az (v:=.builtin "len") (by kernel_rfl) (by decide+kernel) (by decide) ⟨.inr (.inl ⟨_,rfl⟩),Ag (Ac (v:=.ref rw) (Ae (.tail _ (.head _))) (Ao (Hj (vs:=refs G [a,b,c]) (Ae (up hrw)) (by simp [refs]) ?_)))⟩))))
  refine Dd (Nr ⟨_,rfl,λhb=>(by cases hb),λ_=>?_⟩)
  refine Am (Hs (Ar (Bz (Az (v:=.builtin "len") (by kernel_rfl) (by decide+kernel) (by decide) ⟨.inr (.inl ⟨_,rfl⟩),Ag (Ac (v:=.ref rw) (Ae (.tail _ (.head _))) (Ao (Hj (vs:=refs G [a,b,c]) (Ae (up hrw)) (by simp [refs]) ?_)))⟩))))
  refine Dd (Nr ⟨_,rfl,λhb=>(by cases hb),λ_=>?_⟩)
  refine Am (Fy (Bz (Bk (v:=.ref 436) (by kernel_rfl) ⟨.inl (by kernel_rfl),?_⟩)))
  refine Ag (Ac (v:=.ref x.me) (Ae (.head _)) ?_)
  refine Ag (Bd (Ac (v:=.ref rw) (Ae (.tail _ (.head _))) (Dd (Ch (vs:=refs G [a,b,c]) (v:=.ref ya.me) (Ae (up hrw)) (by decide) (by decide) (by simp [refs,Br eya]) ?_))))
  refine Ag (Bd (Ac (v:=.ref rw) (Ae (.tail _ (.head _))) (Dd (Ch (vs:=refs G [a,b,c]) (v:=.ref yb.me) (Ae (up hrw)) (by decide) (by decide) (by simp [refs,Br eyb]) ?_))))
  refine Ag (Bd (Ac (v:=.ref rw) (Ae (.tail _ (.head _))) (Dd (Ch (vs:=refs G [a,b,c]) (v:=.ref yc.me) (Ae (up hrw)) (by decide) (by decide) (by simp [refs,Br eyc]) ?_))))
  have hr:refs G [a,b,c]=[.ref ya.me,.ref yb.me,.ref yc.me]:=by simp [refs,Br eya,Br eyb,Br eyc]
  refine Ao λws hw=>(sF (τ:=Zk L x.me rw 2 wh τ) (js:=[a,b,c]) wd sok hi hi0 hC ⟨by simp,by simp⟩ hjs hA hh hFV (λG' X' t' bt w1 w2 w3 w4 w5=>?_) ws (by rw [hr];exact hw)).T
  iterate 9 (try refine Fb.go (Ci ?_))
  exact⟨_,As.le_sub (Bp [_,_,_,_] τ),h G' X' t' bt w1 w2 w3 w4 w5⟩
end
end
set_option tactic.hygienic true in
theorem Wk:∀(l acc:List Nat) (k:Nat),k∈acc++Ck acc l↔k∈acc\/k∈l
 |[],acc,k=>by simp [Ck]
 |a::r,acc,k=>by
  unfold Ck
  split
  ·rename_i h
   have ha:a∈acc:=by simpa using h
   rw [Wk r acc k,Ce]
   constructor
   ·rintro(h|h)
    ·exact .inl h
    ·exact .inr (.inr h)
   ·rintro(h|h|h)
    ·exact .inl h
    ·rw [h];exact .inl ha
    ·exact .inr h
  ·have:=Wk r (acc++[a]) k
   rw [Ax]at this
   simp only [List.singleton_append]at this
   rw [this,Ai,Be,Ce,or_assoc]
theorem Jc (l:List Nat) (k:Nat):k∈Ck [] l↔k∈l:=by
 have:=Wk l [] k
 simpa using this
theorem eU:∀(l acc:List Nat),(∀k∈l,k∈acc)->Ck acc l=[]
 |[],_,_=>rfl
 |a::r,acc,h=>by
  unfold Ck
  rw [if_pos (by simpa using h a (.head _))]
  exact eU r acc λk hk=>h k (.tail _ hk)
theorem eT:∀(l acc:List Nat),l.Nodup->(∀k∈l,k∉acc)->Ck acc l=l
 |[],_,_,_=>rfl
 |a::r,acc,hn,h=>by
  rw [Ey]at hn
  unfold Ck
  rw [if_neg (by simpa using h a (.head _))]
  rw [eT r (acc++[a]) hn.2 λk hk q=>by
   rcases Ai.mp q with q|q
   ·exact h k (.tail _ hk) q
   ·rw [Be]at q;subst q;exact hn.1 hk]
theorem Sd:∀(l acc acc':List Nat),(∀k∈l,k∈acc↔k∈acc')->Ck acc l=Ck acc' l
 |[],_,_,_=>rfl
 |a::r,acc,acc',h=>by
  have ha:=h a (.head _)
  unfold Ck
  by_cases q:a∈acc
  ·rw [if_pos (by simpa using q),if_pos (by simpa using ha.mp q)]
   exact Sd r acc acc' λk hk=>h k (.tail _ hk)
  ·rw [if_neg (by simpa using q),if_neg (by simpa using λp=>q (ha.mpr p))]
   congr 1
   exact Sd r _ _ λk hk=>by
    rw [Ai,Ai,h k (.tail _ hk)]
theorem Kk (p:Nat->Bool):∀(l acc:List Nat),Ck acc (l.filter p)=(Ck acc l).filter p
 |[],_=>rfl
 |a::r,acc=>by
  by_cases hp:p a=true
  ·rw [List.filter_cons_of_pos hp]
   unfold Ck
   split
   ·exact Kk p r acc
   ·rw [List.filter_cons_of_pos hp,Kk p r]
  ·rw [List.filter_cons_of_neg hp,Kk p r acc]
   conv=>rhs;unfold Ck
   split
   ·rfl
   ·rw [List.filter_cons_of_neg hp]
    rw [<-Kk p r acc,<-Kk p r (acc++[a])]
    refine Sd _ _ _ λk hk=>?_
    rw [Ai,Be]
    refine⟨.inl,λh=>h.elim id λh=>?_⟩
    subst h
    exact absurd (Cs.mp hk).2 hp
theorem Sv {g:Nat->Nat} (hg:∀a b,g a=g b->a=b):∀(l acc:List Nat),Ck (acc.map g) (l.map g)=(Ck acc l).map g
 |[],_=>rfl
 |a::r,acc=>by
  have hc:(acc.map g).contains (g a)=acc.contains a:=by
   rw [Kf,Mq,Mq,Bn]
   exact⟨λ⟨b,hb,e⟩=>by rw [<-hg _ _ e];exact hb,λh=>⟨a,h,rfl⟩⟩
  rw [Cf]
  unfold Ck
  rw [hc]
  split
  ·exact Sv hg r acc
  ·have:=Sv hg r (acc++[a])
   rw [Bh,Cf,Kp]at this
   rw [Cf,this]
set_option tactic.hygienic true in
theorem Yg (f:Nat->List Nat):∀(l seen acc:List Nat),(∀j∈seen,∀k∈f j,k∈acc)->Ck acc ((Ck seen l).flatMap f)=Ck acc (l.flatMap f)
 |[],_,_,_=>rfl
 |a::r,seen,acc,h=>by
  rw [Gs,Ho]
  have e:Ck seen (a::r)=if seen.contains a then Ck seen r else a::Ck (seen++[a]) r:=rfl
  rw [e]
  split
  ·rename_i hs
   have ha:a∈seen:=by simpa using hs
   rw [eU (f a) acc (h a ha),Cj,Fq]
   exact Yg f r seen acc h
  ·rw [Gs,Ho]
   congr 1
   refine Yg f r (seen++[a]) _ λj hj k hk=>?_
   rw [Wk]
   rcases Ai.mp hj with q|q
   ·exact .inl (h j q k hk)
   ·rw [Be]at q;subst q;exact .inr hk
theorem mU {a b c:List Nat} (hb:b.Nodup) (hab:∀k∈a,k∉b) (hac:∀k∈a,k∉c) (hbc:∀k∈b,k∉c):Ck [] (a++b++c)=Ck [] a++b++Ck [] c:=by
 rw [Ho,Ho,Fq,Fq]
 have h1:Ck (Ck [] a) b=b:=eT b _ hb λk hk q=>hab k ((Jc a k).mp q) hk
 rw [h1]
 congr 1
 refine Sd c _ _ λk hk=>⟨λq=>?_,λq=>by cases q⟩
 rcases Ai.mp q with q|q
 ·exact absurd hk (hac k ((Jc a k).mp q))
 ·exact absurd hk (hbc k q)
section
inductive lB (G:List Nd) (X:List As) (m:Nat) (DE IH:List (List Nat)) (i:Nat):Prop
 |mk (x:Nd) (e:G[m+1+i]? =some x) (C:x.C=427) (d:Mp X x.decl (refs G ((DE.getD i []).map (· +1)))) (h:Ph X x.inh (refs G ((IH.getD i []).map (m+1+ ·)))) (n:x.inh=none\/x.inh=some .none->IH.getD i []=[])
theorem lB.of {G:List Nd} {X:List As} {m:Nat} {DE IH:List (List Nat)} {i:Nat} {x:Nd} (e:G[m+1+i]? =some x) (C:x.C=427) (h:Mp X x.decl (refs G ((DE.getD i []).map (· +1)))/\Ph X x.inh (refs G ((IH.getD i []).map (m+1+ ·)))/\(x.inh=none\/x.inh=some .none->IH.getD i []=[])):lB G X m DE IH i:=⟨x,e,C,h.1,h.2.1,h.2.2⟩
structure Va (G:List Nd) (X:List As) (m:Nat) (AB DE IH:List (List Nat)):Prop where
 wd:Wd G X
 sok:∀j,j < G.length->Tx G j
 wf:rU m AB DE IH
 len:G.length=m+5
 face:∀k,k < m->∃x,G[k+1]? =some x/\x.C=364
 reach:∀k,k < m->∀j,Ht G (k+1) j↔∃o∈AB.getD k [],j=o+1
 self:∀k,k < m->k∈AB.getD k []
 spec:∀i,i < 4->lB G X m DE IH i
 due:∀i,i < 4->Fx G (m+1+i)=aC DE IH m i
 keys:∀j,j < 4->Cu G (m+1+j)=100+(j:Int)
section
variable {G:List Nd} {X:List As} {m:Nat} {AB DE IH:List (List Nat)}
theorem pM (I:Va G X m AB DE IH):∀(i:Nat),i < 4->∀n n',i+2<=n->i < n'->near G n (m+1+i)=(Js DE IH n' i).map (· +1):=by
 intro i
 induction i using Nat.strongRecOn with
 |ind i ih=>
 intro hi n n' hn hn'
 obtain⟨n,rfl⟩:∃k,n=k+1:=⟨n - 1,by lia⟩
 obtain⟨n',rfl⟩:∃k,n'=k+1:=⟨n' - 1,by lia⟩
 obtain⟨x,ex,hC,_⟩:=I.spec i hi
 have hb:x.bs=aC DE IH m i:=by rw [<-Pw ex];exact I.due i hi
 unfold near
 rw [ex]
 dsimp only
 rw [if_neg (by rw [hC];decide),hb]
 unfold aC Js
 have hD:=I.wf.D i
 have hI:=I.wf.I i
 have e1:((DE.getD i []).map (· +1)).flatMap (near G n)=(DE.getD i []).map (· +1):=by
  have:∀l:List Nat,(∀k∈l,k < m)->(l.map (· +1)).flatMap (near G n)=l.map (· +1):=by
   intro l
   induction l with
   |nil=>intro _;rfl
   |cons a r ihr=>
    intro h
    obtain⟨y,ey,hy⟩:=I.face a (h a (.head _))
    have ha:near G n (a+1)=[a+1]:=by
     obtain⟨q,rfl⟩:∃k,n=k+1:=⟨n - 1,by lia⟩
     unfold near
     rw [ey]
     dsimp only
     rw [if_pos hy]
    rw [Cf,Gs,ha,ihr λk hk=>h k (.tail _ hk)]
    rfl
  exact this _ hD.2
 have e2:((Ck [] (IH.getD i [])).map (m+1+ ·)).flatMap (near G n)=((Ck [] (IH.getD i [])).flatMap (Js DE IH n')).map (· +1):=by
  have:∀l:List Nat,(∀j∈l,j < i)->(l.map (m+1+ ·)).flatMap (near G n)=(l.flatMap (Js DE IH n')).map (· +1):=by
   intro l
   induction l with
   |nil=>intro _;rfl
   |cons a r ihr=>
    intro h
    have ha:=h a (.head _)
    rw [Cf,Gs,Gs,Bh,ihr λk hk=>h k (.tail _ hk),ih a ha (by lia) n n' (by lia) (by lia)]
  exact this _ λj hj=>hI.2 j ((Jc _ j).mp hj)
 rw [Je,e1,e2,<-Bh]
 have e3:=Sv (g:=(· +1)) (λa b h=>by simpa using h) (DE.getD i []++(Ck [] (IH.getD i [])).flatMap (Js DE IH n')) []
 rw [Kp]at e3
 rw [e3]
 congr 1
 rw [Ho,Ho]
 congr 1
 exact Yg _ _ _ _ λj hj=>by cases hj
theorem bJ (I:Va G X m AB DE IH):∀(i:Nat),i < 4->∀n,i < n->∀k,k < m->(Ht G (m+1+i) (k+1)↔k∈Lf AB DE IH n i):=by
 intro i
 induction i using Nat.strongRecOn with
 |ind i ih=>
 intro hi n hn k hk
 obtain⟨n,rfl⟩:∃q,n=q+1:=⟨n - 1,by lia⟩
 have hD:=I.wf.D i
 have hI:=I.wf.I i
 rw [Ht.cases',I.due i hi]
 unfold Lf aC
 rw [Jc,Ai,Fg,Fg]
 constructor
 ·rintro(h|⟨b,hb,hr⟩)
  ·lia
  ·rcases Ai.mp hb with hb|hb
   ·obtain⟨d,hd,rfl⟩:=Bn.mp hb
    obtain⟨o,ho,e⟩:=(I.reach d (hD.2 d hd) _).mp hr
    have:o=k:=by lia
    subst this
    exact .inl ⟨d,hd,ho⟩
   ·obtain⟨j,hj,rfl⟩:=Bn.mp hb
    have hj':=(Jc _ j).mp hj
    exact .inr ⟨j,hj',(ih j (hI.2 j hj') (by have:=hI.2 j hj';lia) n (by have:=hI.2 j hj';lia) k hk).mp hr⟩
 ·rintro(⟨d,hd,ho⟩|⟨j,hj,hr⟩)
  ·exact .inr ⟨d+1,Af _ (Bn.mpr ⟨d,hd,rfl⟩),(I.reach d (hD.2 d hd) _).mpr ⟨k,ho,rfl⟩⟩
  ·exact .inr ⟨m+1+j,Aa _ (Bn.mpr ⟨j,(Jc _ j).mpr hj,rfl⟩),(ih j (hI.2 j hj) (by have:=hI.2 j hj;lia) n (by have:=hI.2 j hj;lia) k hk).mpr hr⟩
theorem Wh (I:Va G X m AB DE IH) {j k:Nat} (hj:j < G.length) (hk:k≠0):k∈Hc G j↔Ht G j k:=by
 rw [Sc I.wd.gr (Bx _) I.sok j j (Bx _) hj k]
 exact⟨λh=>h.elim id λh=>absurd h hk,.inl⟩
theorem Va.shows (I:Va G X m AB DE IH) {i:Nat} (hi:i < 4):∃x,sG G X m AB DE IH i x:=by
 obtain⟨x,ex,hC,hd,hn,_⟩:=I.spec i hi
 refine⟨x,ex,hC,hd,pM I i hi 9 4 (by lia) hi,λk hk=>?_⟩
 have:=I.len
 rw [Wh I (by lia) (by lia),bJ I i hi 4 hi k hk]
end
end
section
theorem iI {α:Type} {l:List (List α)} {i j:Nat} {r:List α} (hi:i < l.length):(l.set i r).getD j []=if j=i then r else l.getD j []:=by
 rw [Db,Db,Iv]
 by_cases h:i=j
 ·subst h;rw [if_pos rfl,if_pos hi,if_pos rfl];rfl
 ·rw [if_neg h,if_neg (Ld h)]
theorem Ht.under {G G':List Nd} (g:Gr G) {n:Nat} (h:∀j,j < n->Fx G' j=Fx G j) {j k:Nat} (r:Ht G j k):j < n->Ht G' j k:=by
 induction r with
 |refl=>intro _;exact .refl _
 |step h1 _ ih=>
  intro hj
  have:=g.bs_lt h1
  exact .step (by rw [h _ hj];exact h1) (ih (by lia))
section
variable {G:List Nd} {X:List As} {m:Nat} {AB DE IH:List (List Nat)}
set_option tactic.hygienic true in
theorem Va.deed (I:Va G X m AB DE IH) {i:Nat} (hi:i < 4) {x:Nd} (ex:G[m+1+i]? =some x) {G':List Nd} {X':List As} {t bt:Ak} {bs row hs:List Nat} {inh:Option Ab} (w1:Wd G' X') (w2:Jj (G.set (m+1+i) {x with decl:=some (.ref t),bt:=bt,bs:=bs,inh:=inh}) G')
  (w3:(Er.obj t,CO.tup (refs G (row.map (· +1))))∈X') (w4:∀e∈X,e∈X') (w5:∀j,j < G'.length->Tx G' j) (hbs:bs=row.map (· +1)++(Ck [] hs).map (m+1+ ·)) (hinh:Ph X' inh (refs G (hs.map (m+1+ ·)))) (hnil:inh=none\/inh=some .none->hs=[])
  (hrow:row.Nodup/\∀k∈row,k < m) (hhs:hs.length<=3/\∀j∈hs,j < i):Va G' X' m AB (DE.set i row) (IH.set i hs):=by
 have K0:Gf G (G.set (m+1+i) {x with decl:=some (.ref t),bt:=bt,bs:=bs,inh:=inh}):=Ls ex rfl
 have K:Gf G G':=K0.trans w2.i
 have hR:=K.refs
 have hD:∀j,(DE.set i row).getD j []=if j=i then row else DE.getD j []:=λj=>iI (by rw [I.wf.lenD];exact hi)
 have hH:∀j,(IH.set i hs).getD j []=if j=i then hs else IH.getD j []:=λj=>iI (by rw [I.wf.lenI];exact hi)
 have hbsO:∀j,Fx G' j=if j=m+1+i then bs else Fx G j:=λj=>by rw [w2.bs,Wr ex]
 have look:∀(j:Nat) (y:Nd),G[j]? =some y->∃y',G'[j]? =some y'/\y'.C=y.C/\(j≠m+1+i->y'.decl=y.decl/\y'.inh=y.inh)/\(j=m+1+i->y'.decl=some (.ref t)/\y'.inh=inh):=λj y e=>by
  by_cases q:j=m+1+i
  ·subst q
   rw [ex]at e
   cases e
   obtain⟨y',e',hb⟩:=w2.at' (Ll ex)
   have c:y'.C=x.C:=by have:=congrArg Nd.C hb;exact this
   have d:y'.decl=some (.ref t):=by have:=congrArg Nd.decl hb;exact this
   have n:y'.inh=inh:=by have:=congrArg Nd.inh hb;exact this
   exact⟨y',e',c,λq=>absurd rfl q,λ_=>⟨d,n⟩⟩
  ·have e2:(G.set (m+1+i) {x with decl:=some (.ref t),bt:=bt,bs:=bs,inh:=inh})[j]? =some y:=by rw [Gz (Ld q)];exact e
   obtain⟨y',e',hb⟩:=w2.at' e2
   have c:y'.C=y.C:=by have:=congrArg Nd.C hb;exact this
   have d:y'.decl=y.decl:=by have:=congrArg Nd.decl hb;exact this
   have n:y'.inh=y.inh:=by have:=congrArg Nd.inh hb;exact this
   exact⟨y',e',c,λ_=>⟨d,n⟩,λq'=>absurd q' q⟩
 have hlow:∀j,j < m+1->Fx G' j=Fx G j:=λj hj=>by rw [hbsO,if_neg (by lia)]
 refine⟨w1,w5,⟨I.wf.m4,I.wf.lenA,I.wf.A,by rw [List.length_set];exact I.wf.lenD,λj=>?_,by rw [List.length_set];exact I.wf.lenI,λj=>?_⟩,by rw [K.len];exact I.len,λk hk=>?_,λk hk j=>?_,I.self,λj hj=>?_,λj hj=>?_,λj hj=>?_⟩
 ·rw [hD];split;exact hrow;exact I.wf.D j
 ·rw [hH]
  split
  ·rename_i q;rw [q];exact hhs
  ·exact I.wf.I j
 ·obtain⟨y,ey,hy⟩:=I.face k hk
  obtain⟨y',ey',c,_⟩:=look _ _ ey
  exact⟨y',ey',by rw [c];exact hy⟩
 ·rw [<-I.reach k hk j]
  exact⟨λr=>r.under w1.gr (n:=m+1) (λj hj=>(hlow j hj).symm) (by lia),λr=>r.under I.wd.gr (n:=m+1) hlow (by lia)⟩
 ·obtain⟨y,ey,hy,hd,hn,hn2⟩:=I.spec j hj
  obtain⟨y',ey',c,f1,f2⟩:=look _ _ ey
  refine .of ey' (by rw [c];exact hy) ?_
  rw [hD,hH,hR,hR]
  by_cases q:j=i
  ·subst q
   obtain⟨d,n⟩:=f2 rfl
   rw [if_pos rfl,if_pos rfl,d,n]
   exact⟨.inr ⟨t,rfl,w3⟩,hinh,hnil⟩
  ·obtain⟨d,n⟩:=f1 (by lia)
   rw [if_neg q,if_neg q,d,n]
   exact⟨hd.more w4,hn.more w4,hn2⟩
 ·rw [hbsO]
  unfold aC
  rw [hD,hH]
  by_cases q:j=i
  ·subst q
   rw [if_pos rfl,if_pos rfl,if_pos rfl,hbs]
  ·rw [if_neg (by lia),if_neg q,if_neg q]
   exact I.due j hj
 ·rw [K.key];exact I.keys j hj
theorem tC {l:List (List Nat)} {i:Nat} (hi:i < l.length):l.set i (l.getD i [])=l:=by
 rw [Db,Bm hi]
 simp
theorem gA (I:Va G X m AB DE IH) {i k:Nat} (hk:k∈DE.getD i []):k∈Lf AB DE IH 4 i:=by
 have:=(I.wf.D i).2 k hk
 show k∈Ck [] _
 rw [Jc,Ai,Fg]
 exact .inl ⟨k,hk,I.self k this⟩
theorem iL (I:Va G X m AB DE IH) {i:Nat} (hi:i < 4) {ks:List Nat} (hks:∀k∈ks,k < m):My G (m+1+i) (ks.map (· +1))=(ks.filter λk=>!decide (k∈Lf AB DE IH 4 i)).map (· +1):=by
 unfold My
 rw [Kd]
 congr 1
 apply Iw
 intro k hk
 have:=I.len
 have h1:=hks k hk
 show(!decide (k+1∈Hc G (m+1+i)))=_
 congr 1
 rw [decide_eq_decide,Wh I (by lia) (by lia),bJ I i hi 4 hi k h1]
theorem iN (I:Va G X m AB DE IH) {k:Nat} (hk:k < m) {ds:List Nat} (hds:∀d∈ds,d < m):Hi G (ds.map (· +1)) (k+1)=!(ds.filter λo=>decide (o≠k)&&decide (o∈AB.getD k [])).isEmpty:=by
 unfold Hi
 have:=I.len
 rw [List.any_map]
 have e:(ds.any ((λb=>decide (b∈Hc G (k+1))&&decide (k+1≠b))∘λx=>x+1))=ds.any λo=>decide (o≠k)&&decide (o∈AB.getD k []):=by
  rw [Kf,Hb,Hb]
  have key:∀d∈ds,(((λb=>decide (b∈Hc G (k+1))&&decide (k+1≠b))∘λx=>x+1) d=true↔(decide (d≠k)&&decide (d∈AB.getD k []))=true):=λd hd=>by
   simp only [Function.comp_apply,Cy,decide_eq_true_eq]
   rw [Wh I (by lia) (by lia),I.reach k hk]
   constructor
   ·rintro⟨⟨o,ho,e⟩,h2⟩
    have:o=d:=by lia
    subst this
    exact⟨by lia,ho⟩
   ·rintro⟨h1,h2⟩
    exact⟨⟨d,h2,rfl⟩,by lia⟩
  exact⟨λ⟨d,hd,h⟩=>⟨d,hd,(key d hd).mp h⟩,λ⟨d,hd,h⟩=>⟨d,hd,(key d hd).mpr h⟩⟩
 rw [e]
 induction ds with
 |nil=>rfl
 |cons a r ihr=>
  rw [Om,Gj]
  cases h:(decide (a≠k)&&decide (a∈AB.getD k []))
  ·rw [Bool.false_or,if_neg (by decide)]
   refine ihr (λd hd=>hds d (.tail _ hd)) ?_
   rw [Kf,Hb,Hb]
   have key:∀d∈r,(((λb=>decide (b∈Hc G (k+1))&&decide (k+1≠b))∘λx=>x+1) d=true↔(decide (d≠k)&&decide (d∈AB.getD k []))=true):=λd hd=>by
    have:=hds d (.tail _ hd)
    simp only [Function.comp_apply,Cy,decide_eq_true_eq]
    rw [Wh I (by lia) (by lia),I.reach k hk]
    constructor
    ·rintro⟨⟨o,ho,e⟩,h2⟩
     have:o=d:=by lia
     subst this
     exact⟨by lia,ho⟩
    ·rintro⟨h1,h2⟩
     exact⟨⟨d,h2,rfl⟩,by lia⟩
   exact⟨λ⟨d,hd,h⟩=>⟨d,hd,(key d hd).mp h⟩,λ⟨d,hd,h⟩=>⟨d,hd,(key d hd).mpr h⟩⟩
  ·rfl
end
end
section
section
variable {G:List Nd} {X:List As} {m:Nat} {AB DE IH:List (List Nat)}
noncomputable def kI (AB:List (List Nat)) (old:List Nat) (k:Nat):Bool:=!(old.filter λo=>decide (o≠k)&&decide (o∈AB.getD k [])).isEmpty
theorem fO (I:Va G X m AB DE IH) (i:Nat) (named:List Nat) (kd:Int):
  Xn AB DE IH i named kd=Ck [] (((named.filter λk=>(kd==1)||kI AB (DE.getD i []) k).filter λk=>!decide (k∈Lf AB DE IH 4 i))++DE.getD i []++((named.filter λk=>!((kd==1)||kI AB (DE.getD i []) k)).filter λk=>!decide (k∈Lf AB DE IH 4 i))):=by
 have hD:=I.wf.D i
 have notin:∀(l:List Nat) k,k∈l.filter (λk=>!decide (k∈Lf AB DE IH 4 i))->k∉DE.getD i []:=λl k hk q=>by
  have h1:=(Cs.mp hk).2
  have h2:=gA I q
  simp [h2]at h1
 rw [mU hD.1 (λk hk=>notin _ k hk) (λk hk q=>?_) (λk hk q=>notin _ k q hk)]
 ·unfold Xn Nc rW
  rw [Kk,Kk,Kk,Kk]
  have e1:∀(p q:Nat->Bool) (l:List Nat),(l.filter p).filter q=(l.filter q).filter p:=λp q l=>by
   rw [List.filter_filter,List.filter_filter]
   apply Iw
   intro a _
   rw [Bool.and_comm]
  rw [e1 (λk=>(kd==1)||kI AB (DE.getD i []) k),e1 (λk=>!((kd==1)||kI AB (DE.getD i []) k))]
  congr 1
  apply Iw
  intro k hk
  show(!decide (k∈List.filter (λk=>(kd==1)||kI AB (DE.getD i []) k) _))=_
  congr 1
  rw [Kf,decide_eq_true_eq,Cs]
  exact⟨λh=>h.2,λh=>⟨hk,h⟩⟩
 ·have h1:=(Cs.mp (Cs.mp hk).1).2
  have h2:=(Cs.mp (Cs.mp q).1).2
  rw [h1]at h2
  cases h2
theorem iF (I:Va G X m AB DE IH) {i:Nat} (hi:i < 4) {as bs:List Nat} (ha:∀k∈as,k < m) (hb:∀k∈bs,k < m):
  Ma G (m+1+i) (as.map (· +1)) ((DE.getD i []).map (· +1)) (bs.map (· +1))=(Ck [] ((as.filter λk=>!decide (k∈Lf AB DE IH 4 i))++DE.getD i []++(bs.filter λk=>!decide (k∈Lf AB DE IH 4 i)))).map (· +1):=by
 unfold Ma
 rw [iL I hi ha,iL I hi hb,<-Bh,<-Bh]
 have:=Sv (g:=(· +1)) (λa b h=>by simpa using h) ((as.filter λk=>!decide (k∈Lf AB DE IH 4 i))++DE.getD i []++(bs.filter λk=>!decide (k∈Lf AB DE IH 4 i))) []
 rw [Kp]at this
 exact this
theorem dZ (I:Va G X m AB DE IH) {i:Nat} (hi:i < 4) {named:List Nat} (hn:∀k∈named,k < m):
  Ma G (m+1+i) ((named.map (· +1)).filter (Hi G ((DE.getD i []).map (· +1)))) ((DE.getD i []).map (· +1)) ((named.map (· +1)).filter λj=>!Hi G ((DE.getD i []).map (· +1)) j)=(Xn AB DE IH i named 0).map (· +1):=by
 have hD:=I.wf.D i
 have e1:(named.map (· +1)).filter (Hi G ((DE.getD i []).map (· +1)))=(named.filter λk=>((0:Int)==1)||kI AB (DE.getD i []) k).map (· +1):=by
  rw [Kd]
  congr 1
  apply Iw
  intro k hk
  show Hi G _ (k+1)=_
  rw [iN I (hn k hk) hD.2]
  rfl
 have e2:((named.map (· +1)).filter λj=>!Hi G ((DE.getD i []).map (· +1)) j)=(named.filter λk=>!(((0:Int)==1)||kI AB (DE.getD i []) k)).map (· +1):=by
  rw [Kd]
  congr 1
  apply Iw
  intro k hk
  show(!Hi G _ (k+1))=_
  rw [iN I (hn k hk) hD.2]
  rfl
 rw [e1,e2,iF I hi (λk hk=>hn k (Cs.mp hk).1) (λk hk=>hn k (Cs.mp hk).1),fO I]
theorem oY (I:Va G X m AB DE IH) {i k:Nat} (hi:i < 4) (hk:k < m):
  Ma G (m+1+i) [k+1] ((DE.getD i []).map (· +1)) []=(Xn AB DE IH i [k] 1).map (· +1):=by
 have:=iF I hi (as:=[k]) (bs:=[]) (λq hq=>by rw [Be.mp hq];exact hk) (λq hq=>by cases hq)
 rw [fO I]
 exact this
theorem vV (I:Va G X m AB DE IH) (i:Nat) {named:List Nat} (hn:∀k∈named,k < m) (kd:Int):(Xn AB DE IH i named kd).Nodup/\∀k∈Xn AB DE IH i named kd,k < m:=by
 rw [fO I]
 refine⟨Jb _ _,λk hk=>?_⟩
 rcases Ai.mp ((Jc _ k).mp hk)with h|h
 ·rcases Ai.mp h with h|h
  ·exact hn k (Cs.mp (Cs.mp h).1).1
  ·exact(I.wf.D i).2 k h
 ·exact hn k (Cs.mp (Cs.mp h).1).1
theorem qN {row hs:List Nat} (hr:∀k∈row,k < m):Ck (row.map (· +1)) (hs.map (m+1+ ·))=(Ck [] hs).map (m+1+ ·):=by
 have h1:=Sv (g:=(m+1+ ·)) (λa b h=>by simpa using h) hs []
 rw [Kp]at h1
 rw [<-h1]
 refine Sd _ _ _ λk hk=>⟨λq=>?_,λq=>by cases q⟩
 obtain⟨a,ha,rfl⟩:=Bn.mp hk
 obtain⟨b,hb,e⟩:=Bn.mp q
 have:=hr b hb
 lia
noncomputable def Ri (AB DE IH:List (List Nat)) (i:Nat) (named:List Nat) (kd:Int):List (List Nat):=if kd=2 then DE.set i (Ck [] named)else DE.set i (Xn AB DE IH i named kd)
noncomputable def Rh (IH:List (List Nat)) (i:Nat) (kd:Int):List (List Nat):=if kd=2 then IH.set i []else IH
theorem sE (I:Va G X m AB DE IH) {i:Nat} (hi:i < 4) {x:Nd} (ex:G[m+1+i]? =some x) {named:List Nat} (hn:∀k∈named,k < m) {kd:Int} (hk:kd≠2) {G':List Nd} {X':List As} {t bt:Ak} {nd:List Nat} (hnd:nd=(Xn AB DE IH i named kd).map (· +1)) (w1:Wd G' X')
  (w2:Jj (G.set (m+1+i) {x with decl:=some (.ref t),bt:=bt,bs:=nd++Ck nd ((IH.getD i []).map (m+1+ ·)),inh:=x.inh}) G') (w3:(Er.obj t,CO.tup (refs G nd))∈X') (w4:∀e∈X,e∈X') (w5:∀j,j < G'.length->Tx G' j):Va G' X' m AB (Ri AB DE IH i named kd) (Rh IH i kd):=by
 subst hnd
 obtain⟨x0,ex0,hC,hd,hin,hnil⟩:=I.spec i hi
 rw [ex]at ex0
 cases ex0
 have hr:=vV I i hn kd
 unfold Ri Rh
 rw [if_neg hk,if_neg hk]
 have:=I.deed hi ex w1 w2 w3 w4 w5 (hs:=IH.getD i []) (by rw [qN hr.2]) (hin.more w4) hnil hr (I.wf.I i)
 rw [tC (by rw [I.wf.lenI];exact hi)]at this
 exact this
theorem Ada (I:Va G X m AB DE IH) {i:Nat} (hi:i < 4) {x:Nd} (ex:G[m+1+i]? =some x) {named:List Nat} (hn:∀k∈named,k < m) {G':List Nd} {X':List As} {t bt:Ak} (w1:Wd G' X')
  (w2:Jj (G.set (m+1+i) {x with decl:=some (.ref t),bt:=bt,bs:=Ck [] (named.map (· +1)),inh:=some .none}) G') (w3:(Er.obj t,CO.tup (refs G (Ck [] (named.map (· +1)))))∈X') (w4:∀e∈X,e∈X') (w5:∀j,j < G'.length->Tx G' j):Va G' X' m AB (Ri AB DE IH i named 2) (Rh IH i 2):=by
 unfold Ri Rh
 rw [if_pos rfl,if_pos rfl]
 have e:=Sv (g:=(· +1)) (λa b h=>by simpa using h) named []
 rw [Kp]at e
 rw [e]at w2 w3
 refine I.deed hi ex w1 w2 w3 w4 w5 (hs:=[]) (by simp [Ck]) (.inl ⟨.inr rfl,rfl⟩) (λ_=>rfl) ⟨Jb _ _,λk hk=>hn k ((Jc _ k).mp hk)⟩ ⟨Ca _,λj hj=>by cases hj⟩
end
end
section
section
variable {Γ:Bj} {A:Aw} {G:List Nd} {X:List As} {m:Nat} {AB DE IH:List (List Nat)}
theorem wZ {τ:List As} {rw:Ak} {i:Nat} {x:Nd} {named:List Nat} {kd:Int} {wh:Bool} {Q:Ab->Ay->Prop} (I:Va G X m AB DE IH) (hi:i < 4) (ex:G[m+1+i]? =some x) (hrw:(Er.obj rw,CO.list (refs G (named.map (· +1))))∈τ) (l1:0 < named.length) (l3:named.length<=3) (hn:∀k∈named,k < m)
  (hkd:kd=0\/kd=1\/kd=2) (hk1:kd=1->named.length=1) (hA:Rm A 33) (hh:A.handled=none) (hF:AF A ⟨[],τ⟩)
  (h:∀G' X',Va G' X' m AB (Ri AB DE IH i named kd) (Rh IH i kd)->Gf G G'->(∀e∈X,e∈X')->Q .none ⟨Bi G'++X',τ⟩):
  ∀ws,ws.map cl=[.ref x.me,.ref rw,.int kd 0,.bool wh]->TC Γ A ⟨Bi G++X,τ⟩ (.ref 507) ws [] Q:=λws hw=>by
 refine Oy (body:=fBody (topStmt 30)) (bs:=[("spec",.ref x.me),("row",.ref rw),("kind",.int kd 0),("whole",.bool wh)]) ["spec","row","kind","whole"] (wM Γ) (by kernel_rfl) hA.room ?_ (λL=>?_) (by rfl) (by rfl) (by decide) (by rfl) (by rfl) (by rfl) ws [] hw rfl
 ·intro ws kws hw hk
  obtain⟨w₁,w₂,w₃,w₄,rfl,e1,e2,e3,e4⟩:=Zw hw
  have:kws=[]:=by simpa using hk
  subst this
  exact⟨[("spec",w₁),("row",w₂),("kind",w₃),("whole",w₄)],by simp [e1,e2,e3,e4],λs X=>Cg (by rfl)⟩
 show T Γ (A.deeper (Mz L)) ⟨Bi G++X,Zk L x.me rw kd wh τ⟩ (Cm _ (Mz L)) _
 have hA':Rm (A.deeper (Mz L)) 32:=hA.deeper
 obtain⟨x0,ex0,hC,hd,hin,hnil⟩:=I.spec i hi
 rw [ex]at ex0
 cases ex0
 have hl:(named.map (· +1)).length=named.length:=by simp
 have hjs:∀j∈named.map (· +1),0 < j/\j < m+1+i:=λj hj=>by
  obtain⟨k,hk,rfl⟩:=Bn.mp hj
  have:=hn k hk
  lia
 have hD:=I.wf.D i
 have hD4:=I.wf.D4 i
 have hI:=I.wf.I i
 have hjd:∀j∈(DE.getD i []).map (· +1),j < m+1+i:=λj hj=>by
  obtain⟨k,hk,rfl⟩:=Bn.mp hj
  have:=hD.2 k hk
  lia
 have hhs:∀j∈(IH.getD i []).map (m+1+ ·),j < m+1+i:=λj hj=>by
  obtain⟨k,hk,rfl⟩:=Bn.mp hj
  have:=hI.2 k hk
  lia
 have hnil':x.inh=none\/x.inh=some .none->(IH.getD i []).map (m+1+ ·)=[]:=λq=>by rw [hnil q];rfl
 have ki:∀{d b bs n G'},Jj (G.set (m+1+i) {x with decl:=d,bt:=b,bs:=bs,inh:=n}) G'->Gf G G':=λ{d b bs n G'} w=>by
  have k0:Gf G (G.set (m+1+i) {x with decl:=d,bt:=b,bs:=bs,inh:=n}):=Ls ex rfl
  exact k0.trans w.i
 rcases hkd with rfl|rfl|rfl
 ·cases wh with
  |true=>exact vQ (jd:=(DE.getD i []).map (· +1)) (hs:=(IH.getD i []).map (m+1+ ·)) I.wd I.sok ex (by lia) hC hd hin hnil' hrw (by lia) (by lia) hjs hjd hhs (by rw [Ap];lia) (by rw [Ap];lia) hA' hh hF λG' X' t bt w1 w2 w3 w4 w5=>h G' X' (sE I hi ex hn (by decide) (dZ I hi hn) w1 w2 w3 w4 w5) (ki w2) w4
  |false=>exact yU (jd:=(DE.getD i []).map (· +1)) (hs:=(IH.getD i []).map (m+1+ ·)) I.wd I.sok ex (by lia) hC hd hin hnil' hrw (by lia) (by lia) hjs hjd hhs (by rw [Ap];lia) (by rw [Ap];lia) hA' hh hF λG' X' t bt w1 w2 w3 w4 w5=>h G' X' (sE I hi ex hn (by decide) (dZ I hi hn) w1 w2 w3 w4 w5) (ki w2) w4
 ·refine yT (jd:=(DE.getD i []).map (· +1)) (hs:=(IH.getD i []).map (m+1+ ·)) I.wd I.sok ex (by lia) hC hd hin hnil' hrw (by lia) (by lia) hjs hjd hhs (by rw [Ap];lia) (by rw [Ap];lia) hA' hh hF λj hj G' X' t bt w1 w2 w3 w4 w5=>?_
  have l1:=hk1 rfl
  match named,l1 with
  |[k],_=>
   have:j=k+1:=by simpa using hj.symm
   subst this
   exact h G' X' (sE I hi ex hn (by decide) (oY I hi (hn k (.head _))) w1 w2 w3 w4 w5) (ki w2) w4
 ·exact yS (jd:=(DE.getD i []).map (· +1)) (hs:=(IH.getD i []).map (m+1+ ·)) I.wd I.sok ex (by lia) hC hd hin hnil' hrw (by lia) (by lia) hjs hjd hhs (by rw [Ap];lia) (by rw [Ap];lia) hA' hh hF λG' X' t bt w1 w2 w3 w4 w5=>h G' X' (Ada I hi ex hn w1 w2 w3 w4 w5) (ki w2) w4
theorem Xb {τ:List As} {w fa ab sp de ih:Ak} {tv:Option Nat} {Q:Ab->Ay->Prop} (I:Va G X m AB DE IH) (hL:Zt τ w fa ab sp de ih AB DE IH) (hf:(Er.obj fa,CO.list (refs G (Cb m)))∈τ) (hs:(Er.obj sp,CO.list (refs G (De (m+1) 4)))∈τ) (ht:∀t,tv=some t->t < 4) (hA:Rm A 41) (hh:A.handled=none)
  (h:Q (.bool true) ⟨Bi G++X,τ⟩):∀ws,ws.map cl=[.ref w,tvV tv]->TC Γ A ⟨Bi G++X,τ⟩ (.ref 500) ws [] Q:=
 uN I.wd I.wf I.len hL hf hs (λ_ hi=>I.shows hi) (λt e=>⟨ht t e,I.due t (ht t e)⟩) I.keys hA hh h
end
end
section
noncomputable instance:Xm (List (Ab×Ab)):=⟨List.map λp=>(cl p.1,cl p.2)⟩
theorem bV (Γ:Bj):∀(es:List (Str×Ab)) (vs:List (Ab×Ab)),vs.map (λp=>(cl p.1,cl p.2))=es.map (λp=>(Ab.str p.1 0,p.2))->∃kvs:List (Str×Ab),Carries (strKind Γ.prog Γ.w) vs kvs/\kvs.map (λp=>(p.1,cl p.2))=es
 |[],[],_=>⟨[],trivial,rfl⟩
 |(k,v)::es,(a,b)::vs,h=>by
  simp only [Cf,Ib,Prod.mk.injEq]at h
  obtain⟨⟨h1,h2⟩,h3⟩:=h
  obtain⟨kvs,c1,c2⟩:=bV Γ es vs h3
  obtain⟨t,rfl⟩:=sS h1
  exact⟨(k,b)::kvs,⟨by simp [PySem.strKind,Ab.isStrOf],rfl,c1⟩,by rw [Cf,c2,h2]⟩
 |[],_::_,h=>by simp at h
 |_::_,[],h=>by simp at h
theorem bP:∀(kvs acc:List (Str×Ab)),((acc++kvs).map (·.1)).Nodup->merged acc kvs=acc++kvs
 |[],acc,_=>by simp [merged]
 |(k,v)::r,acc,h=>by
  have hno:(acc.any λkv=>decide (kv.1=k))=false:=by
   rw [List.any_eq_false]
   intro p hp q
   rw [Bh,Hz]at h
   exact h.2.2 p.1 (Cv hp) k (.head _) (of_decide_eq_true q)
  have e:Lj acc k v=acc++[(k,v)]:=by unfold Lj;rw [hno];rfl
  have:=bP r (acc++[(k,v)]) (by simpa using h)
  show merged (Lj acc k v) r=_
  rw [e,this]
  simp
section
variable {Γ:Bj} {A:Aw} {σ:Ay} {env:Env}
theorem xK {keys:List (Option Aq)} {values:List Aq} {pos:Pos} {W τ:List As} {Q:Ab->Ay->Prop}
  (h:∀d,T Γ A ⟨W,(.obj d,.sdict [])::τ⟩ (evalPairs (pairTrees keys values env pos)) λcvs σ₁=>∃(es:List (Str×Ab)) (τ₁:List As),cvs=es.map (λp=>(Ab.str p.1 0,p.2))/\(es.map (·.1)).Nodup/\σ₁=⟨W,(.obj d,.sdict [])::τ₁⟩/\Q (.ref d) ⟨W,(.obj d,.sdict es)::τ₁⟩)
  (hall:autoParam (keys.all (·.isSome)=true) aR) (hl:autoParam (keys.length=values.length) aR) (h0:keys≠[]:=by decide) (hlen:autoParam (keys.length<=15) aD):
  T Γ A ⟨W,τ⟩ (Dr (.Dict keys values pos) env) Q:=λs R=>by
 have R1:Ea Γ ⟨W,(.obj s.heap.objs.size,.sdict [])::τ⟩ {s with heap:=s.heap.push {cls:=.type "dict",data:=.dict #[]}}:=R.push (c:=.sdict []) (λ_ _ e=>Al _ e) rfl rfl ⟨[],Heap.DictOf.new s.heap,rfl⟩
 refine wpAny_Dict_walk (knd:=strKind Γ.prog Γ.w) hall hl h0 hlen (Dy (h _ _ R1) (λvs s₁ zz=>?_) λ_ _ x=>x.elim)
 obtain⟨σ₁,R₁,es,τ₁,e1,hn,e2,q⟩:=zz
 subst e2
 obtain⟨kvs,c1,c2⟩:=bV Γ es vs e1
 obtain⟨kvs',D,e⟩:=(R₁.ents _ Bs).1
 have e':kvs'=[]:=by simpa using e
 subst e'
 have hm:merged [] kvs=kvs:=by
  have:=bP kvs [] (by
   have:kvs.map (·.1)=es.map (·.1):=by rw [<-c2,Ec];rfl
   rw [Fq,this];exact hn)
  simpa using this
 refine⟨kvs,c1,D,λh' D' hs=>?_⟩
 rw [hm]at D'
 exact⟨_,Ea.changeS (c':=.sdict es) (s':={s₁ with heap:=h',toks:=s₁.toks+vs.length}) R₁ (.tau .here) rfl hs.extBut rfl rfl ⟨kvs,D',c2⟩,q⟩
theorem jU {pos:Pos} {Q:List (Ab×Ab)->Ay->Prop} (h:Q [] σ):T Γ A σ (evalPairs (pairTrees [] [] env pos)) Q:=λ_ R=>pairTrees_nil_walk ⟨σ,R,h⟩
theorem Qa {k v:Aq} {ks:List (Option Aq)} {vs:List Aq} {pos:Pos} {Q:List (Ab×Ab)->Ay->Prop}
  (h:T Γ A σ (Dr k env) λck σ₁=>T Γ A σ₁ (Dr v env) λcv σ₂=>T Γ A σ₂ (evalPairs (pairTrees ks vs env pos)) λr=>Q ((ck,cv)::r)):T Γ A σ (evalPairs (pairTrees (some k::ks) (v::vs) env pos)) Q:=λs R=>
 pairTrees_cons_walk (h.elim R λkv s₁ σ₁ R₁ q₁=>q₁.elim R₁ λvv s₂ σ₂ R₂ q₂=>q₂.elim R₂ λr s₃ σ₃ R₃ q=>⟨σ₃,R₃,q⟩)
end
end
section
section
variable {Γ:Bj} {A:Aw} {σ:Ay} {env:Env}
theorem dH {x y:Str} {px py pos:Pos} {k:Nat} {u v₁ v₂:Ab} {a c:Ak} {ov₁ ov₂:Option Ab} {σ₁ σ₂:Ay} {Q:Unit->Ay->Prop} (hh:A.handled=none) (hu:cl u=.ref a) (hm:Ew Γ σ a [v₁,v₂]) (U₁:Iy σ (.var env.locals x) (.val ov₁) (.val (some v₁)) σ₁) (hc:env.cells.lookup y=some c) (U₂:Iy σ₁ (.obj c) (.cell ov₂) (.cell (some v₂)) σ₂) (h:Q () σ₂)
  (hk:autoParam (env.scope.kind=.function) aR) (hx:autoParam (env.kindOf x=some .local) aR) (hy:autoParam (env.kindOf y=some .cell) aR):T Γ A σ (Ij (.Tuple [.Name x px,.Name y py] k pos) env u) Q:=λs R=>by
 have:=Cc hu
 subst this
 obtain⟨us,n,L,e⟩:=hm s R
 have hsz:=Cn e
 refine wpAny_assign_Tuple hh ⟨_,L,rfl,n,rfl⟩ (by rw [hsz];rfl) (by rfl) λh' hx'=>?_
 have R1:=R.grow (s':={s with heap:=h'}) (λb o e=>hx' b o (Kn (Ds e)) e) rfl rfl
 obtain⟨w₁,w₂,h2,e1,e2⟩:=Jy e
 rw [h2]
 show Cp _ _ (do holding [w₂] (Ij (.Name x px) env w₁);holding [] (Ij (.Name y py) env w₂);pure ()) _ _ _
 refine Ad (Dz ((Ct (Q:=λ_ σ=>σ=σ₁) e1 U₁ rfl hk hx).elim R1 λ_ s₁ σ' R₁ e=>?_))
 subst e
 exact Ad (Dz ((Qu (Q:=λ_ σ=>σ=σ₂) e2 hc U₂ rfl hk hy).elim R₁ λ_ s₂ σ' R₂ e=>Au (by subst e;exact⟨_,R₂,h⟩)))
theorem gK {elts:List Aq} {k:Nat} {tpos pos:Pos} {value:Aq} {Q:Fv->Ay->Prop}
  (h:T Γ A σ (Dr value env) λc σ₁=>∀v,cl v=c->T Γ A σ₁ (Ij (.Tuple elts k tpos) env v) λ_=>Q .next)
  (hs:autoParam (swapsWithSole [.Tuple elts k tpos] value pos.line env=pure false) aR) (hw:autoParam (swappedStores [.Tuple elts k tpos] value env=pure none) aR):T Γ A σ (Mx (.Assign [.Tuple elts k tpos] value pos) env) Q:=λs R=>
 Assign_Tuple (h.elim R λv s₁ σ₁ R₁ q=>(q v rfl).elim R₁ λ_ s₂ σ₂ R₂ q=>⟨σ₂,R₂,q⟩) hs hw
end
theorem Ach (Γ:Bj):Γ.K.lookup 512=some ⟨.type "function",none,.func (Ka Γ 512 "law" (topStmt 31) (.ref 511) .none),#[]⟩:=by kernel_rfl
noncomputable abbrev Dc (L:Ak):Env:=Gk "law" (fScope (topStmt 31)) L 512 (.ref 511) [("more",L+8),("one",L+7),("world",L+6),("number",L+5),("k",L+4),("above",L+3),("faces",L+2),("many",L+1)]
noncomputable abbrev wV (L:Ak) (mo on wo nu kk ab fa ma sc he ro rw hr oc sp ns at' kd nm:Option Ab) (τ:List As):List As:=
 (.obj (L+8),.cell mo)::(.obj (L+7),.cell on)::(.obj (L+6),.cell wo)::(.obj (L+5),.cell nu)::(.obj (L+4),.cell kk)::(.obj (L+3),.cell ab)::(.obj (L+2),.cell fa)::(.obj (L+1),.cell ma)::
 (.var L "script",.val sc)::(.var L "head",.val he)::(.var L "root",.val ro)::(.var L "row",.val rw)::(.var L "heirs",.val hr)::(.var L "once",.val oc)::(.var L "spec",.val sp)::(.var L "numbers",.val ns)::(.var L "at",.val at')::(.var L "kind",.val kd)::(.var L "named",.val nm)::τ
noncomputable def kindOf (n:Int):Int:=([0,0,0,1,2]:List Int).getD (n.fmod 5).toNat 0
noncomputable def Rq (n:Int):Nat:=((n.fdiv 5).fmod 4).toNat
noncomputable def Mb (m:Nat) (mo:Int):List Nat:=(El (1+mo.fmod 3).toNat).map λk=>(((mo.fdiv 6).fdiv ((m:Int) ^ k)).fmod m).toNat
theorem Il {a:Int} {n:Nat} (h:0 < n):a.fmod n=((a.fmod n).toNat:Nat)/\(a.fmod n).toNat < n:=by
 have h1:0<=a.fmod n:=Int.fmod_nonneg_of_pos a (by lia)
 have h2:a.fmod n < n:=Int.fmod_lt_of_pos a (by lia)
 exact⟨by lia,by lia⟩
theorem pS (n:Int):kindOf n=0\/kindOf n=1\/kindOf n=2:=by
 unfold kindOf
 have:=(Il (a:=n) (n:=5) (by decide)).2
 have h5:(n.fmod 5).toNat < 5:=this
 generalize (n.fmod 5).toNat=q at h5
 revert q
 decide
theorem lQ (n:Int):([.int 0 0,.int 0 0,.int 0 0,.int 1 0,.int 2 0]:List Ab)[(n.fmod 5).toNat]? =some (.int (kindOf n) 0):=by
 unfold kindOf
 have:=(Il (a:=n) (n:=5) (by decide)).2
 have h5:(n.fmod 5).toNat < 5:=this
 generalize (n.fmod 5).toNat=q at h5
 revert q
 decide
theorem bO {m:Nat} (hm:0 < m) (mo:Int):0 < (Mb m mo).length/\(Mb m mo).length<=3/\∀k∈Mb m mo,k < m:=by
 unfold Mb
 have h:=Il (a:=mo) (n:=3) (by decide)
 have h1:mo.fmod 3=((mo.fmod 3).toNat:Nat):=h.1
 have h2:(mo.fmod 3).toNat < 3:=h.2
 refine⟨by rw [Ap,Du];lia,by rw [Ap,Du];lia,λk hk=>?_⟩
 obtain⟨q,_,rfl⟩:=Bn.mp hk
 exact(Il (n:=m) hm).2
end
section
noncomputable abbrev Nf:List Jr:=match(fBody (topStmt 31)).drop 10 with|.For _ _ body _ _::_=>body|_=>[]
noncomputable abbrev dS (L w ab fa nl m:Nat) (nu kk sc he ro rw hr oc sp:Option Ab) (mo on at' kd nm:Option Ab) (τ:List As):List As:=
 wV L mo on (some (.ref w)) nu kk (some (.ref ab)) (some (.ref fa)) (some (.int (m:Int) 0)) sc he ro rw hr oc sp (some (.ref nl)) at' kd nm τ
theorem aT {m k:Nat} (hm:m<=4) (hk:k<=3):(Builtin.Int.intBits (m:Int):Int) * (k:Int)<=2 ^ 27:=by
 match m,hm,k,hk with
 |0,_,0,_|0,_,1,_|0,_,2,_|0,_,3,_|1,_,0,_|1,_,1,_|1,_,2,_|1,_,3,_|2,_,0,_|2,_,1,_|2,_,2,_|2,_,3,_|3,_,0,_|3,_,1,_|3,_,2,_|3,_,3,_|4,_,0,_|4,_,1,_|4,_,2,_|4,_,3,_=>decide
 |m+5,h,_,_=>lia
 |0,_,k+4,h|1,_,k+4,h|2,_,k+4,h|3,_,k+4,h|4,_,k+4,h=>lia
theorem Xy {m k:Nat} (hm:0 < m/\m<=4) (hk:k<=3):((m:Int) ^ k).natAbs < 1073741824/\((m:Int) ^ k)≠0:=by
 match m,hm,k,hk with
 |1,_,0,_|1,_,1,_|1,_,2,_|1,_,3,_|2,_,0,_|2,_,1,_|2,_,2,_|2,_,3,_|3,_,0,_|3,_,1,_|3,_,2,_|3,_,3,_|4,_,0,_|4,_,1,_|4,_,2,_|4,_,3,_=>decide
 |0,h,_,_=>lia
 |m+5,h,_,_=>lia
 |1,_,k+4,h|2,_,k+4,h|3,_,k+4,h|4,_,k+4,h=>lia
section
variable {Γ:Bj} {A:Aw}
set_option maxHeartbeats 2000000 in
theorem mT {W τ:List As} {L w ab fa nl m:Nat} {nu kk sc he ro rw hr oc sp mo0 on0 kd0 nm0:Option Ab} {ns:List Int} {a:Nat} {n:Int} {Q:Fv->Ay->Prop} (hm:0 < m/\m<=4) (hns:(Er.obj nl,CO.list (At ns))∈τ) (hnl:ns.length<=100) (hn:ns[a]? =some n) (hA:Rm (A.deeper (Dc L)) 41) (hh:A.handled=none)
  (h:∀tt dl,T Γ (A.deeper (Dc L)) ⟨W,(.obj tt,.tup [.int (kindOf n) 0,.int (Rq n:Int) 0])::(.obj dl,.list [.int 0 0,.int 0 0,.int 0 0,.int 1 0,.int 2 0])::dS L w ab fa nl m nu kk sc he ro rw hr oc sp mo0 (some (.int (Rq n:Int) 0)) (some (.int (a:Int) 0)) (some (.int (kindOf n) 0)) nm0 τ⟩ (Cm (Nf.drop 1) (Dc L)) Q):
  T Γ (A.deeper (Dc L)) ⟨W,dS L w ab fa nl m nu kk sc he ro rw hr oc sp mo0 on0 (some (.int (a:Int) 0)) kd0 nm0 τ⟩ (Cm Nf (Dc L)) Q:=by
 have hal:=(Aj.mp hn).1
 have up:∀{p:As} mo on kd nm,p∈τ->p∈dS L w ab fa nl m nu kk sc he ro rw hr oc sp mo on (some (.int (a:Int) 0)) kd nm τ:=λmo on kd nm hp=>Aa [_,_,_,_,_,_,_,_,_,_,_,_,_,_,_,_,_,_,_] hp
 have hna:(At ns)[((a:Int)).toNat]? =some (.int n 0):=by rw [Df];unfold At;rw [Bc,hn];rfl
 obtain⟨o1,o2⟩:=Il (a:=n.fdiv 5) (n:=4) (by decide)
 refine Am (gK (Kh (k:=0) ?_))
 refine Ag (Bd (Hv (Ag (Dd (k:=0) (pos:=⟨0,0,0,0⟩) (Ag (Dd (k:=0) (pos:=⟨0,0,0,0⟩) (Ag (Dd (k:=0) (pos:=⟨0,0,0,0⟩) (Ag (Dd (k:=0) (pos:=⟨0,0,0,0⟩) (Ag (Dd (k:=0) (pos:=⟨0,0,0,0⟩) (Ao ⟨by rw [Av];exact By rfl,λdl=>?_⟩)))))))))))))
 refine Ei (Bd (Ac (v:=.ref nl) (by walk_at "mem") (Ac (v:=.int (a:Int) 0) (by walk_at "mem") (Ch (vs:=At ns) (v:=.int n 0) (Ae (.tail _ (up _ _ _ _ hns))) (by lia) (by lia) hna (Dd (Vc (by decide) ?_))))))
 refine(Gn<|Ch (vs:=[.int 0 0,.int 0 0,.int 0 0,.int 1 0,.int 2 0]) (v:=.int (kindOf n) 0) (Ae (.head _)) (by have:=(Il (a:=n) (n:=5) (by decide)).1;have h5:n.fmod 5=((n.fmod 5).toNat:Nat):=this;lia) (by have:=(Il (a:=n) (n:=5) (by decide)).2;have h5:(n.fmod 5).toNat < 5:=this;lia) (lQ n) ?_)
 refine Ag (Ei (Ei (Bd (Ac (v:=.ref nl) (by walk_at "mem") (Ac (v:=.int (a:Int) 0) (by walk_at "mem") (Ch (vs:=At ns) (v:=.int n 0) (Ae (.tail _ (up _ _ _ _ hns))) (by lia) (by lia) hna (Dd (Nj (by decide) (by decide) (Dd (Vc (by decide) ?_))))))))))
 refine Ao ⟨by rw [Av];exact By rfl,λtt=>?_⟩
 have eo:(n.fdiv 5).fmod 4=(Rq n:Int):=o1
 rw [eo]
 refine λv hv=>dH hh hv (.of_mem (Ae (.head _))) (by walk_at "upd") rfl (by walk_at "upd") ?_
 refine Fb.go ?_
 exact h tt dl
end
end
section
section
variable {Γ:Bj} {A:Aw}
set_option maxHeartbeats 2000000 in
theorem mS {W τ ρ:List As} {L w ab fa nl m:Nat} {nu kk sc he ro rw hr oc sp mo0 on0 kd0 nm0:Option Ab} {ns:List Int} {a:Nat} {Q:Fv->Ay->Prop} (hns:(Er.obj nl,CO.list (At ns))∈τ) (hnl:ns.length<=100) (hal:a < ns.length)
  (h:T Γ (A.deeper (Dc L)) ⟨W,ρ++dS L w ab fa nl m nu kk sc he ro rw hr oc sp (some (.int (ns.getD (a+1) 0) 0)) on0 (some (.int (a:Int) 0)) kd0 nm0 τ⟩ (Cm (Nf.drop 2) (Dc L)) Q):
  T Γ (A.deeper (Dc L)) ⟨W,ρ++dS L w ab fa nl m nu kk sc he ro rw hr oc sp mo0 on0 (some (.int (a:Int) 0)) kd0 nm0 τ⟩ (Cm (Nf.drop 1) (Dc L)) Q:=by
 have up:∀{p:As} mo,p∈τ->p∈ρ++dS L w ab fa nl m nu kk sc he ro rw hr oc sp mo on0 (some (.int (a:Int) 0)) kd0 nm0 τ:=λmo hp=>Aa _ (Aa [_,_,_,_,_,_,_,_,_,_,_,_,_,_,_,_,_,_,_] hp)
 have mns:(Er.var L "numbers",CO.val (some (.ref nl)))∈ρ++dS L w ab fa nl m nu kk sc he ro rw hr oc sp mo0 on0 (some (.int (a:Int) 0)) kd0 nm0 τ:=Aa _ (.tail _ (.tail _ (.tail _ (.tail _ (.tail _ (.tail _ (.tail _ (.tail _ (.tail _ (.tail _ (.tail _ (.tail _ (.tail _ (.tail _ (.tail _ (.head _))))))))))))))))
 have mat:(Er.var L "at",CO.val (some (.int (a:Int) 0)))∈ρ++dS L w ab fa nl m nu kk sc he ro rw hr oc sp mo0 on0 (some (.int (a:Int) 0)) kd0 nm0 τ:=Aa _ (.tail _ (.tail _ (.tail _ (.tail _ (.tail _ (.tail _ (.tail _ (.tail _ (.tail _ (.tail _ (.tail _ (.tail _ (.tail _ (.tail _ (.tail _ (.tail _ (.head _)))))))))))))))))
 refine Am (Ga rfl (Px (Ar (Ei (Ac (v:=.int (a:Int) 0) (Ae mat) (Dd (Qz ?_)))))))
 refine Bz (Az (v:=.builtin "len") (by kernel_rfl) (by decide+kernel) (by decide) ⟨.inr (.inl ⟨_,rfl⟩),?_⟩)
 refine Ag (Ac (v:=.ref nl) (Ae mns) (Ao (Hj (vs:=At ns) (Ae (up _ hns)) (by rw [Dw];lia) ?_)))
 rw [Dw]
 refine(vO ⟨_,rfl,λhb=>?_,λhb=>?_⟩)
 ·have hlt:a+1 < ns.length:=by have:=of_decide_eq_true hb;lia
  have hg:ns.getD (a+1) 0=ns[a+1]:=by rw [Db,Bm hlt];rfl
  have hna:(At ns)[((a:Int)+1).toNat]? =some (.int (ns.getD (a+1) 0) 0):=by
   rw [show((a:Int)+1).toNat=a+1 by lia,hg]
   unfold At
   rw [Bc,Bm hlt]
   rfl
  refine Bd (Ac (v:=.ref nl) (Ae mns) (Ei (Ac (v:=.int (a:Int) 0) (Ae mat) (Dd (Qz (Ch (vs:=At ns) (v:=.int (ns.getD (a+1) 0) 0) (Ae (up _ hns)) (by lia) (by lia) hna ⟨_,_,.tau (.pre .here),?_⟩))))))
  exact Fb.go h
 ·have hge:ns.length<=a+1:=by have:=of_decide_eq_false hb;lia
  have hg:ns.getD (a+1) 0=0:=by rw [Db,Dq hge];rfl
  rw [hg]at h
  exact Dd ⟨_,_,.tau (.pre .here),Fb.go h⟩
end
end
section
section
variable {Γ:Bj} {A:Aw}
set_option maxHeartbeats 2000000 in
theorem mR {W τ ρ:List As} {L w ab fa nl m:Nat} {nu kk sc he ro rw hr oc sp on0 kd0 at0 nm0:Option Ab} {mo:Int} {Q:Fv->Ay->Prop} (hm:0 < m/\m<=4) (hh:A.handled=none)
  (h:∀rg r,T Γ (A.deeper (Dc L)) ⟨W,(.obj r,.list (iv (Mb m mo)))::(.obj rg,.rng 0 (1+mo.fmod 3) 1)::(ρ++dS L w ab fa nl m nu kk sc he ro rw hr oc sp (some (.int mo 0)) on0 at0 kd0 (some (.ref r)) τ)⟩ (Cm (Nf.drop 3) (Dc L)) Q):
  T Γ (A.deeper (Dc L)) ⟨W,ρ++dS L w ab fa nl m nu kk sc he ro rw hr oc sp (some (.int mo 0)) on0 at0 kd0 nm0 τ⟩ (Cm (Nf.drop 2) (Dc L)) Q:=by
 obtain⟨f1,f2⟩:=Il (a:=mo) (n:=3) (by decide)
 have f1':mo.fmod 3=((mo.fmod 3).toNat:Nat):=f1
 have f2':(mo.fmod 3).toNat < 3:=f2
 have ec:(1+mo.fmod 3)=(((1+mo.fmod 3).toNat:Nat):Int):=by lia
 have hcl:(1+mo.fmod 3).toNat<=3:=by lia
 refine Am (Sf (Bz (Az (v:=.type "range") (by kernel_rfl) (by decide+kernel) (by decide) ⟨.inr (.inr ⟨_,rfl⟩),?_⟩)))
 refine Ag (Ei (Dd (Ei (An (v:=.int mo 0) rfl (Ae (Aa _ (.head _))) (Dd (Vc (by decide) (Qz ?_)))))))
 refine Ao λws hw=>Sa (λrg=>?_) ws hw
 obtain⟨rs1,rs2⟩:=Qo (n:=(1+mo.fmod 3).toNat) (by lia)
 rw [<-ec]at rs1 rs2
 refine(Ni (n:=(1+mo.fmod 3).toNat) (Ae (.head _)) rs1 (rs2.trans ec) λit=>?_)
 let X:List As:=(.obj rg,.rng 0 (1+mo.fmod 3) 1)::(ρ++dS L w ab fa nl m nu kk sc he ro rw hr oc sp (some (.int mo 0)) on0 at0 kd0 nm0 τ)
 refine⟨it,_,_,iv (El (1+mo.fmod 3).toNat),_,X,iv (Mb m mo),⟨rfl,rfl,by have:=Pm (Γ:=Γ) (A:=A.deeper (Dc L)) (it:=it) (x:=0) (c:=1) (n:=(1+mo.fmod 3).toNat) hh;rw [Th]at this;exact this⟩,Ut,λext=>trivial,by rw [Cq,Du];lia,by rw [Cq,Cq];unfold Mb;rw [Ap],?_,λacc=>⟨_,_,.tau (.there (.there (.pre (.there (.there (.there (.there (.there (.there (.there (.there (.there (.there (.there (.there (.there (.there (.there (.there (.there (.there .here))))))))))))))))))))),Fb.go (h rg acc)⟩⟩
 intro C acc k v u ρ' ys q1 q2
 obtain⟨j,hj,rfl⟩:=Rg q1
 obtain⟨y,hy,rfl⟩:=Rg q2
 obtain⟨hjl,hjv⟩:=Aj.mp hj
 rw [Du]at hjl
 rw [Me]at hjv
 subst hjv
 have hy':y=(((mo.fdiv 6).fdiv ((m:Int) ^ k)).fmod m).toNat:=by
  unfold Mb at hy
  rw [Bc,hj]at hy
  exact(Dh hy).symm
 have hme:=Il (a:=(mo.fdiv 6).fdiv ((m:Int) ^ k)) (n:=m) hm.1
 obtain⟨p1,p2⟩:=Xy (k:=k) hm (by lia)
 have cm:(Er.obj (L+1),CO.cell (some (.int (m:Int) 0)))∈ρ'++Tg C acc "k" (some (.int (k:Int) 0)) ys X:=Aa _ (.tail _ (.tail _ (.tail _ (Aa _ (.tail _ (.tail _ (.tail _ (.tail _ (.tail _ (.tail _ (.tail _ (.head _))))))))))))
 have cmo:(Er.obj (L+8),CO.cell (some (.int mo 0)))∈ρ'++Tg C acc "k" (some (.int (k:Int) 0)) ys X:=Aa _ (.tail _ (.tail _ (.tail _ (Aa _ (.head _)))))
 refine Ei (Ei (Ei (An (v:=.int mo 0) rfl (Ae cmo) (Dd (Nj (by decide) (by decide) ?_)))))
 refine Ei (An (v:=.int (m:Int) 0) rfl (Ae cm) (Di (v:=.int (k:Int) 0) (Ae (Aa _ (.head _))) (.head _) (sH (by lia) (aT hm.2 (by lia)) ?_)))
 rw [Df]
 refine(Nj p2 p1 ?_)
 refine An (v:=.int (m:Int) 0) rfl (Ae cm) (Vc (by lia) ⟨?_,rfl⟩)
 rw [hy',<-hme.1]
end
end
section
noncomputable def Qr (m:Nat) (kd mo:Int):List Nat:=if kd=1 then(Mb m mo).take 1 else Mb m mo
set_option tactic.hygienic true in
theorem uJ {m:Nat} (hm:0 < m) (kd mo:Int):0 < (Qr m kd mo).length/\(Qr m kd mo).length<=3/\(∀k∈Qr m kd mo,k < m)/\(kd=1->(Qr m kd mo).length=1):=by
 obtain⟨h1,h2,h3⟩:=bO hm mo
 unfold Qr
 split
 ·rename_i q
  rw [Fs]
  exact⟨by lia,by lia,λk hk=>h3 k (List.mem_of_mem_take hk),λ_=>by lia⟩
 ·rename_i q
  exact⟨h1,h2,h3,λe=>absurd e q⟩
theorem vS (vs:List Ab) (h:0 < vs.length):Ub vs none (some 1)=vs.take 1:=by
 unfold Ub
 have:clipAt vs.length 1=1:=by
  exact(clipAt_nat _ 1).trans (Nat.min_eq_left h)
 simp only [Option.elim_some,Option.elim_none,this,List.drop_zero,Nat.sub_zero]
section
variable {Γ:Bj} {A:Aw}
set_option maxHeartbeats 2000000 in
theorem mQ {W τ ρ:List As} {L w ab fa nl m r:Nat} {nu kk sc he ro rw hr oc sp on0 at0 mo0:Option Ab} {kd mo:Int} {Q:Fv->Ay->Prop} (hm:0 < m) (hr':(Er.obj r,CO.list (iv (Mb m mo)))∈ρ)
  (h:∀ρ' r',(Er.obj r',CO.list (iv (Qr m kd mo)))∈ρ'->T Γ (A.deeper (Dc L)) ⟨W,ρ'++dS L w ab fa nl m nu kk sc he ro rw hr oc sp mo0 on0 at0 (some (.int kd 0)) (some (.ref r')) τ⟩ (Cm (Nf.drop 4) (Dc L)) Q):
  T Γ (A.deeper (Dc L)) ⟨W,ρ++dS L w ab fa nl m nu kk sc he ro rw hr oc sp mo0 on0 at0 (some (.int kd 0)) (some (.ref r)) τ⟩ (Cm (Nf.drop 3) (Dc L)) Q:=by
 obtain⟨h1,h2,h3⟩:=bO hm mo
 have mkd:(Er.var L "kind",CO.val (some (.int kd 0)))∈ρ++dS L w ab fa nl m nu kk sc he ro rw hr oc sp mo0 on0 at0 (some (.int kd 0)) (some (.ref r)) τ:=Aa _ (.tail _ (.tail _ (.tail _ (.tail _ (.tail _ (.tail _ (.tail _ (.tail _ (.tail _ (.tail _ (.tail _ (.tail _ (.tail _ (.tail _ (.tail _ (.tail _ (.tail _ (.head _))))))))))))))))))
 have mnm:(Er.var L "named",CO.val (some (.ref r)))∈ρ++dS L w ab fa nl m nu kk sc he ro rw hr oc sp mo0 on0 at0 (some (.int kd 0)) (some (.ref r)) τ:=Aa _ (.tail _ (.tail _ (.tail _ (.tail _ (.tail _ (.tail _ (.tail _ (.tail _ (.tail _ (.tail _ (.tail _ (.tail _ (.tail _ (.tail _ (.tail _ (.tail _ (.tail _ (.tail _ (.head _)))))))))))))))))))
 refine Am (Bl (Px (Ar (Ac (v:=.int kd 0) (Ae mkd) (Dd (Nr ⟨_,rfl,λhb=>?_,λhb=>?_⟩))))))
 ·have hk:kd=1:=by simpa using hb
  refine fT (Ac (v:=.ref r) (Ae mnm) (Ze (So (Dd ⟨r,iv (Mb m mo),none,some 1,rfl,.of_mem (Ae (Af _ hr')),by rw [Cq];lia,rfl,rfl,λr2=>?_⟩))))
  rw [vS _ (by rw [Cq];exact h1)]
  refine⟨_,_,.tau (.there (.pre (.there (.there (.there (.there (.there (.there (.there (.there (.there (.there (.there (.there (.there (.there (.there (.there (.there (.there .here)))))))))))))))))))),Fb.go ?_⟩
  refine h ((.obj r2,.list ((iv (Mb m mo)).take 1))::ρ) r2 ?_
  have:iv (Qr m kd mo)=(iv (Mb m mo)).take 1:=by
   unfold Qr
   rw [if_pos hk]
   unfold iv nv At
   rw [Ok,Ok]
  rw [this]
  exact .head _
 ·have hk:kd≠1:=by simpa using hb
  refine Ac (v:=.ref r) (Ae mnm) ⟨_,_,.tau (.pre (.there (.there (.there (.there (.there (.there (.there (.there (.there (.there (.there (.there (.there (.there (.there (.there (.there (.there .here))))))))))))))))))),Fb.go ?_⟩
  refine h ρ r ?_
  unfold Qr
  rw [if_neg hk]
  exact hr'
end
end
section
section
variable {Γ:Bj} {A:Aw} {G:List Nd} {X:List As} {m:Nat} {AB DE IH:List (List Nat)}
set_option maxHeartbeats 2000000 in
theorem wU {τ1 τ2 ρ ρ1:List As} {L w ab fa sp de ih nl i:Nat} {das has:List Ak} {nu kk sc he ro rw hr oc sv at0:Option Ab} {r:Ak} {named:List Nat} {kd mo:Int} {Q:Fv->Ay->Prop} (I:Va G X m AB DE IH) (hi:i < 4) (hτ:τ1=ρ1++Jo de ih das has τ2)
  (hd:(Er.obj w,CO.sdict (Vi fa ab sp de ih))∈τ2) (ha:LL τ2 ab AB) (hf:(Er.obj fa,CO.list (refs G (Cb m)))∈τ2) (hs:(Er.obj sp,CO.list (refs G (De (m+1) 4)))∈τ2) (r1:Gq τ2 das DE) (r2:Gq τ2 has IH)
  (hr':(Er.obj r,CO.list (iv named))∈ρ) (l1:0 < named.length) (l3:named.length<=3) (hn:∀k∈named,k < m) (hkd:kd=0\/kd=1\/kd=2) (hk1:kd=1->named.length=1) (hA:Rm (A.deeper (Dc L)) 42) (hh:A.handled=none) (hF:AF A ⟨[],[]⟩)
  (h:∀G' X' das' has' ρ2,Va G' X' m AB (Ri AB DE IH i named kd) (Rh IH i kd)->Gf G G'->
   Gq (ρ2++τ2) das' (Ri AB DE IH i named kd)->Gq (ρ2++τ2) has' (Rh IH i kd)->
   T Γ (A.deeper (Dc L)) ⟨Bi G'++X',Jo de ih das' has' (ρ2++(ρ++dS L w ab fa nl m nu kk sc he ro rw hr oc sv (some (.int mo 0)) (some (.int (i:Int) 0)) at0 (some (.int kd 0)) (some (.ref r)) (ρ1++τ2)))⟩ (Cm (Nf.drop 6) (Dc L)) Q):
  T Γ (A.deeper (Dc L)) ⟨Bi G++X,ρ++dS L w ab fa nl m nu kk sc he ro rw hr oc sv (some (.int mo 0)) (some (.int (i:Int) 0)) at0 (some (.int kd 0)) (some (.ref r)) τ1⟩ (Cm (Nf.drop 4) (Dc L)) Q:=by
 subst hτ
 have m4:=I.wf.m4
 obtain⟨x,ex,_⟩:=I.spec i hi
 let V:List As->List As:=λT=>dS L w ab fa nl m nu kk sc he ro rw hr oc sv (some (.int mo 0)) (some (.int (i:Int) 0)) at0 (some (.int kd 0)) (some (.ref r)) T
 let Y:List As:=ρ++V (ρ1++Jo de ih das has τ2)
 have up:∀{p:As},p∈τ2->p∈Y:=λhp=>Aa _ (Aa [_,_,_,_,_,_,_,_,_,_,_,_,_,_,_,_,_,_,_] (Aa _ (.tail _ (.tail _ hp))))
 have cmo:(Er.obj (L+8),CO.cell (some (.int mo 0)))∈Y:=Aa _ (.head _)
 have con:(Er.obj (L+7),CO.cell (some (.int (i:Int) 0)))∈Y:=Aa _ (.tail _ (.head _))
 have cwo:(Er.obj (L+6),CO.cell (some (.ref w)))∈Y:=Aa _ (.tail _ (.tail _ (.head _)))
 have cfa:(Er.obj (L+2),CO.cell (some (.ref fa)))∈Y:=Aa _ (.tail _ (.tail _ (.tail _ (.tail _ (.tail _ (.tail _ (.head _)))))))
 have msc:(Er.var L "script",CO.val sc)∈Y:=Aa _ (.tail _ (.tail _ (.tail _ (.tail _ (.tail _ (.tail _ (.tail _ (.tail _ (.head _)))))))))
 have mkd:(Er.var L "kind",CO.val (some (.int kd 0)))∈Y:=Aa _ (.tail _ (.tail _ (.tail _ (.tail _ (.tail _ (.tail _ (.tail _ (.tail _ (.tail _ (.tail _ (.tail _ (.tail _ (.tail _ (.tail _ (.tail _ (.tail _ (.tail _ (.head _))))))))))))))))))
 have mnm:(Er.var L "named",CO.val (some (.ref r)))∈Y:=Aa _ (.tail _ (.tail _ (.tail _ (.tail _ (.tail _ (.tail _ (.tail _ (.tail _ (.tail _ (.tail _ (.tail _ (.tail _ (.tail _ (.tail _ (.tail _ (.tail _ (.tail _ (.tail _ (.head _)))))))))))))))))))
 have hsp:(refs G (De (m+1) 4))[((i:Int)).toNat]? =some (.ref x.me):=by
  rw [Df]
  unfold refs
  rw [Bc,Kv hi]
  simp [Br ex]
 show T Γ (A.deeper (Dc L)) ⟨Bi G++X,Y⟩ _ _
 refine Am (Fy (Bz (Bk (v:=.ref 507) (by kernel_rfl) ⟨.inl (by kernel_rfl),?_⟩)))
 refine Ag (Bd (Bd (An (v:=.ref w) rfl (Ae cwo) (Kg (Ee (Ae (up hd)) (v:=.ref sp) (by rfl) (An (v:=.int (i:Int) 0) rfl (Ae con) (Gn<|Ch (vs:=refs G (De (m+1) 4)) (v:=.ref x.me) (Ae (up hs)) (by lia) (by lia) hsp ?_)))))))
 refine Ag (Sl (Ac (v:=.ref r) (Ae mnm) (Eh (vs:=iv named) (Ae (Af _ hr')) λit=>?_)))
 refine⟨it,_,_,iv named,_,Y,refs G (named.map (· +1)),⟨rfl,rfl,Es (a:=r) (vs:=iv named) hh⟩,Gv,λext=>Ae (Aa _ (Af _ hr')),by rw [Cq];lia,by rw [Cq,Bf,Ap],?_,λrl=>?_⟩
 ·intro C acc k v u ρ' ys q1 q2
  obtain⟨j,hj,rfl⟩:=Rg q1
  have hjm:=hn j (Fd hj)
  have hu:u=.ref (Fm G (j+1)):=by
   unfold refs at q2
   rw [Bc,Bc,hj]at q2
   exact(Dh q2).symm
  subst hu
  have hfj:(refs G (Cb m))[((j:Int)).toNat]? =some (.ref (Fm G (j+1))):=by
   rw [Df]
   unfold refs
   rw [Bc,Rd hjm]
   rfl
  exact Bd (An (v:=.ref fa) rfl (Ae (Aa _ (.tail _ (.tail _ cfa)))) (Di (v:=.int (j:Int) 0) (Ae (Aa _ (.head _))) (.head _) (Ch (vs:=refs G (Cb m)) (v:=.ref (Fm G (j+1))) (Ae (Aa _ (.tail _ (.tail _ (up hf))))) (by lia) (by lia) hfj ⟨rfl,rfl⟩)))
 refine Ag (Ac (v:=.int kd 0) (Ae (.tail _ mkd)) ?_)
 refine Ag (Tc (Ei (Ei (An (v:=.int mo 0) rfl (Ae (.tail _ cmo)) (Dd (Nj (by decide) (by decide) (Dd (Vc (by decide) (Dd (Nr ?_))))))))))
 refine Ao λws hw=>?_
 have hFY:AF (A.deeper (Dc L)) ⟨[],(.obj rl,.list (refs G (named.map (· +1))))::Y⟩:=hF.push rfl rfl (L:=L) (x:="script") (c:=sc) (.tail _ msc) λp hp=>by cases hp
 refine(wZ (τ:=(.obj rl,.list (refs G (named.map (· +1))))::Y) (rw:=rl) I hi ex (.head _) l1 l3 hn hkd hk1 (hA.le (by decide)) hh hFY (λG' X' I' K w4=>?_) ws hw).T
 refine Fb.go ?_
 let ρ3:List As:=(.obj rl,.list (refs G (named.map (· +1))))::ρ
 have pm:∀(B:List As) (a b:As) (T:List As),(B++a::b::T).Perm (a::b::(B++T)):=λB a b T=>Ff.trans (Bv.cons _ Ff)
 let Z:List As:=ρ3++V (ρ1++τ2)
 have hperm:((.obj rl,.list (refs G (named.map (· +1))))::Y).Perm (Jo de ih das has Z):=by
  have e1:(.obj rl,.list (refs G (named.map (· +1))))::Y=(ρ3++(V []++ρ1))++(.obj de,.list (das.map .ref))::(.obj ih,.list (has.map .ref))::τ2:=by simp [Y,ρ3,V]
  have e2:Z=(ρ3++(V []++ρ1))++τ2:=by simp [Z,ρ3,V]
  rw [e1]
  show Bv _ ((.obj de,.list (das.map .ref))::(.obj ih,.list (has.map .ref))::Z)
  rw [e2]
  exact pm _ _ _ _
 refine T.conseq (σ':=⟨Bi G'++X',Jo de ih das has Z⟩) (As.le_perm (Bb _ hperm)) ?_
 have upZ:∀{p:As},p∈τ2->p∈Z:=λhp=>Aa _ (Aa [_,_,_,_,_,_,_,_,_,_,_,_,_,_,_,_,_,_,_] (Aa _ hp))
 have inZ:∀{p:As} T,p∈V []->p∈Jo de ih das has (ρ3++V T):=λ{p} T hp=>by
  have:p∈V T:=by
   have e:V T=V []++T:=rfl
   rw [e];exact Af _ hp
  exact .tail _ (.tail _ (Aa _ this))
 have e0:∀ρ2:List As,ρ2++Z=(ρ2++[(.obj rl,.list (refs G (named.map (· +1))))])++(ρ++V (ρ1++τ2)):=λρ2=>by simp [Z,ρ3]
 refine Am (Fy (Bz (Bk (v:=.ref 490) (by kernel_rfl) ⟨.inl (by kernel_rfl),?_⟩)))
 refine Ag (An (v:=.ref w) rfl (Ae (inZ _ (.tail _ (.tail _ (.head _))))) ?_)
 refine Ag (An (v:=.int (i:Int) 0) rfl (Ae (inZ _ (.tail _ (.head _)))) ?_)
 refine Ag (Ac (v:=.ref r) (Ae (inZ _ (.tail _ (.tail _ (.tail _ (.tail _ (.tail _ (.tail _ (.tail _ (.tail _ (.tail _ (.tail _ (.tail _ (.tail _ (.tail _ (.tail _ (.tail _ (.tail _ (.tail _ (.tail _ (.head _))))))))))))))))))))) ?_)
 refine Ag (Ac (v:=.int kd 0) (Ae (inZ _ (.tail _ (.tail _ (.tail _ (.tail _ (.tail _ (.tail _ (.tail _ (.tail _ (.tail _ (.tail _ (.tail _ (.tail _ (.tail _ (.tail _ (.tail _ (.tail _ (.tail _ (.head _)))))))))))))))))))) ?_)
 refine Ao λws hw=>(xB (τ:=Z) (nm:=r) (W:=Bi G'++X') I.wf hi (upZ hd) (ha.sub λp hp=>upZ hp) (τr:=τ2) (λp hp=>upZ hp) r1 r2 (Af _ (.tail _ hr')) l3 hn (hA.le (by decide)) hh (λq das' has' ρ2 k1 k2=>?_) (λq das' ρ2 k1=>?_) ws hw).T
 ·refine Fb.go ?_
  rw [e0]
  have mv:∀p∈ρ2++τ2,p∈(ρ2++[(.obj rl,.list (refs G (named.map (· +1))))])++τ2:=λp hp=>(Ai.mp hp).elim (λq=>Af _ (Af _ q)) λq=>Aa _ q
  replace k1:=k1.sub mv
  replace k2:=k2.sub mv
  have d1:Ri AB DE IH i named kd=DE.set i (Ck [] named):=by unfold Ri;rw [if_pos q]
  have d2:Rh IH i kd=IH.set i []:=by unfold Rh;rw [if_pos q]
  exact h G' X' das' has' _ I' K (by rw [d1];exact k1) (by rw [d2];exact k2)
 ·refine Fb.go ?_
  rw [e0]
  have mv:∀p∈ρ2++τ2,p∈(ρ2++[(.obj rl,.list (refs G (named.map (· +1))))])++τ2:=λp hp=>(Ai.mp hp).elim (λq=>Af _ (Af _ q)) λq=>Aa _ q
  replace k1:=k1.sub mv
  have k2:Gq ((ρ2++[(.obj rl,.list (refs G (named.map (· +1))))])++τ2) has IH:=r2.sub λp hp=>Aa _ hp
  have d1:Ri AB DE IH i named kd=DE.set i (Xn AB DE IH i named kd):=by unfold Ri;rw [if_neg q]
  have d2:Rh IH i kd=IH:=by unfold Rh;rw [if_neg q]
  exact h G' X' das' has _ I' K (by rw [d1];exact k1) (by rw [d2];exact k2)
end
end
section
theorem vW {n:Nat} (h:n<=8):Oe 0 (n:Int) 2=true/\Lx 0 (n:Int) 2=((n+1) / 2:Nat):=by
 match n,h with
 |0,_|1,_|2,_|3,_|4,_|5,_|6,_|7,_|8,_=>exact⟨by decide,by decide⟩
 |n+9,h=>lia
theorem tA {n q:Nat} {v:Ab} (h:(Py 0 2 n)[q]? =some v):q < n/\v=.int ((2 * q:Nat):Int) 0:=by
 obtain⟨h1,h2⟩:=Wx h
 refine⟨h1,?_⟩
 rw [h2]
 congr 1
 push_cast
 lia
section
variable {Γ:Bj} {A:Aw} {G0:List Nd} {m:Nat} {AB:List (List Nat)}
set_option maxHeartbeats 4000000 in
theorem qR {G:List Nd} {X ρ ρ' τ2:List As} {DE IH:List (List Nat)} {L w ab fa sp de ih nl a:Nat} {das has:List Ak} {nu kk sc he ro rw hr oc sv mo0 on0 kd0 nm0:Option Ab} {ns:List Int} {n:Int} {Q:Fv->Ay->Prop} (I:Va G X m AB DE IH) (K0:Gf G0 G) (hm:0 < m)
  (hd:(Er.obj w,CO.sdict (Vi fa ab sp de ih))∈τ2) (ha:LL τ2 ab AB) (hf:(Er.obj fa,CO.list (refs G0 (Cb m)))∈τ2) (hs:(Er.obj sp,CO.list (refs G0 (De (m+1) 4)))∈τ2) (r1:Gq (ρ++τ2) das DE) (r2:Gq (ρ++τ2) has IH)
  (hns:(Er.obj nl,CO.list (At ns))∈τ2) (hnl:ns.length<=100) (hn:ns[a]? =some n) (hA:Rm (A.deeper (Dc L)) 43) (hh:A.handled=none) (hF:AF A ⟨[],[]⟩)
  (h:∀G' X' DE' IH' das' has' ρ2 mo on kd nm,Va G' X' m AB DE' IH'->Gf G0 G'->Gq (ρ2++(ρ++τ2)) das' DE'->Gq (ρ2++(ρ++τ2)) has' IH'->Q .next ⟨Bi G'++X',ρ'++Jo de ih das' has' ((ρ2++ρ)++dS L w ab fa nl m nu kk sc he ro rw hr oc sv mo on (some (.int (a:Int) 0)) kd nm τ2)⟩):
  T Γ (A.deeper (Dc L)) ⟨Bi G++X,ρ'++Jo de ih das has (ρ++dS L w ab fa nl m nu kk sc he ro rw hr oc sv mo0 on0 (some (.int (a:Int) 0)) kd0 nm0 τ2)⟩ (Cm Nf (Dc L)) Q:=by
 have m4:=I.wf.m4
 have hal:=(Aj.mp hn).1
 let V:Option Ab->Option Ab->Option Ab->Option Ab->List As->List As:=λmo on kd nm T=>dS L w ab fa nl m nu kk sc he ro rw hr oc sv mo on (some (.int (a:Int) 0)) kd nm T
 have eV:∀mo on kd nm T,V mo on kd nm T=V mo on kd nm []++T:=λ_ _ _ _ _=>rfl
 let τ1:List As:=ρ'++Jo de ih das has (ρ++τ2)
 have upτ:∀{p:As},p∈τ2->p∈τ1:=λhp=>Aa _ (.tail _ (.tail _ (Aa _ hp)))
 refine T.conseq (σ':=⟨Bi G++X,V mo0 on0 kd0 nm0 τ1⟩) (As.le_perm (Bb _ ?_)) ?_
 ·have e1:ρ'++Jo de ih das has (ρ++V mo0 on0 kd0 nm0 τ2)=(ρ'++Jo de ih das has ρ)++(V mo0 on0 kd0 nm0 []++τ2):=by rw [eV];simp
  have e2:V mo0 on0 kd0 nm0 τ1=V mo0 on0 kd0 nm0 []++((ρ'++Jo de ih das has ρ)++τ2):=by rw [eV];simp [τ1]
  show Bv (ρ'++Jo de ih das has (ρ++V mo0 on0 kd0 nm0 τ2)) (V mo0 on0 kd0 nm0 τ1)
  rw [e1,e2,<-Ax,<-Ax]
  exact Dx _ Eu
 refine mT (τ:=τ1) ⟨hm,m4⟩ (upτ hns) hnl hn (hA.le (by decide)) hh λtt dl=>?_
 let ρa:List As:=[(.obj tt,.tup [.int (kindOf n) 0,.int (Rq n:Int) 0]),(.obj dl,.list [.int 0 0,.int 0 0,.int 0 0,.int 1 0,.int 2 0])]
 refine mS (ρ:=ρa) (τ:=τ1) (upτ hns) hnl hal ?_
 refine mR (ρ:=ρa) (τ:=τ1) ⟨hm,m4⟩ hh λrg r=>?_
 let mo:=ns.getD (a+1) 0
 let ρb:List As:=(.obj r,.list (iv (Mb m mo)))::(.obj rg,.rng 0 (1+mo.fmod 3) 1)::ρa
 refine mQ (ρ:=ρb) (τ:=τ1) (kd:=kindOf n) (mo:=mo) hm (.head _) λρc r' hr'=>?_
 obtain⟨q1,q2,q3,q4⟩:=uJ hm (kindOf n) mo
 have hi:Rq n < 4:=(Il (a:=n.fdiv 5) (n:=4) (by decide)).2
 have hf':(Er.obj fa,CO.list (refs G (Cb m)))∈ρ++τ2:=by rw [K0.refs];exact Aa _ hf
 have hs':(Er.obj sp,CO.list (refs G (De (m+1) 4)))∈ρ++τ2:=by rw [K0.refs];exact Aa _ hs
 refine wU (τ1:=τ1) (τ2:=ρ++τ2) (ρ:=ρc) (ρ1:=ρ') (r:=r') (kd:=kindOf n) (mo:=mo) I hi rfl (Aa _ hd) (ha.sub λp hp=>Aa _ hp) hf' hs' r1 r2 hr' q1 q2 q3 (pS n) q4 (hA.le (by decide)) hh hF λG' X' das' has' ρ2 I' K k1 k2=>?_
 have K':Gf G0 G':=K0.trans K
 let Z:List As:=ρ2++(ρc++V (some (.int mo 0)) (some (.int (Rq n:Int) 0)) (some (.int (kindOf n) 0)) (some (.ref r')) (ρ'++(ρ++τ2)))
 have upZ:∀{p:As},p∈τ2->p∈Z:=λhp=>Aa _ (Aa _ (Aa [_,_,_,_,_,_,_,_,_,_,_,_,_,_,_,_,_,_,_] (Aa _ (Aa _ hp))))
 have kz:∀p∈ρ2++(ρ++τ2),p∈Z:=λp hp=>(Ai.mp hp).elim (λq=>Af _ q) λq=>Aa _ (Aa _ (Aa [_,_,_,_,_,_,_,_,_,_,_,_,_,_,_,_,_,_,_] (Aa _ q)))
 have inZ:∀{p:As},p∈V (some (.int mo 0)) (some (.int (Rq n:Int) 0)) (some (.int (kindOf n) 0)) (some (.ref r')) (ρ'++(ρ++τ2))->p∈Jo de ih das' has' Z:=λhp=>.tail _ (.tail _ (Aa _ (Aa _ hp)))
 have hL:Zt (Jo de ih das' has' Z) w fa ab sp de ih AB (Ri AB DE IH (Rq n) (Qr m (kindOf n) mo) (kindOf n)) (Rh IH (Rq n) (kindOf n)):=kU (upZ hd) (ha.sub λp hp=>upZ hp) (k1.sub kz) (k2.sub kz)
 refine Am (Hs (Nh (Ej (Bz (Bk (v:=.ref 500) (by kernel_rfl) ⟨.inl (by kernel_rfl),?_⟩)))))
 refine Ag (An (v:=.ref w) rfl (Ae (inZ (.tail _ (.tail _ (.head _))))) ?_)
 refine Ag (An (v:=.int (Rq n:Int) 0) rfl (Ae (inZ (.tail _ (.head _)))) ?_)
 refine Ao λws hw=>(Xb (tv:=some (Rq n)) I' hL (.tail _ (.tail _ (by rw [K'.refs];exact upZ hf))) (.tail _ (.tail _ (by rw [K'.refs];exact upZ hs))) (λt e=>by cases e;exact hi) (hA.le (by decide)) hh (Fc ⟨λhb=>(by cases hb),λ_=>?_⟩) ws hw).T
 refine Ci ?_
 refine Fb.go (T.conseq (σ':=⟨Bi G'++X',ρ'++Jo de ih das' has' (((ρ2++ρc)++ρ)++V (some (.int mo 0)) (some (.int (Rq n:Int) 0)) (some (.int (kindOf n) 0)) (some (.ref r')) τ2)⟩) (As.le_perm (Bb _ ?_)) (Ci ?_))
 ·let V0:=V (some (.int mo 0)) (some (.int (Rq n:Int) 0)) (some (.int (kindOf n) 0)) (some (.ref r')) []
  let H:List As:=[(.obj de,.list (das'.map .ref)),(.obj ih,.list (has'.map .ref))]
  have e1:Jo de ih das' has' Z=((H++(ρ2++ρc))++(V0++(ρ'++ρ)))++τ2:=by simp [Z,H,V0,V]
  have e2:ρ'++Jo de ih das' has' (((ρ2++ρc)++ρ)++V (some (.int mo 0)) (some (.int (Rq n:Int) 0)) (some (.int (kindOf n) 0)) (some (.ref r')) τ2)=((ρ'++((H++(ρ2++ρc))++ρ))++V0)++τ2:=by simp [H,V0,V]
  show Bv (Jo de ih das' has' Z) (ρ'++Jo de ih das' has' (((ρ2++ρc)++ρ)++V (some (.int mo 0)) (some (.int (Rq n:Int) 0)) (some (.int (kindOf n) 0)) (some (.ref r')) τ2))
  rw [e1,e2]
  refine Dx τ2 ?_
  have p1:((H++(ρ2++ρc))++(V0++(ρ'++ρ))).Perm ((H++(ρ2++ρc))++((ρ'++ρ)++V0)):=Bb _ Eu
  have p2:((H++(ρ2++ρc))++((ρ'++ρ)++V0))=(((H++(ρ2++ρc))++ρ')++ρ)++V0:=by simp
  have p3:((ρ'++((H++(ρ2++ρc))++ρ))++V0)=((ρ'++(H++(ρ2++ρc)))++ρ)++V0:=by simp
  rw [p3]
  refine p1.trans ?_
  rw [p2]
  exact Dx V0 (Dx ρ Eu)
 ·have mv:∀p∈ρ2++(ρ++τ2),p∈(ρ2++ρc)++(ρ++τ2):=λp hp=>(Ai.mp hp).elim (λq=>Af _ (Af _ q)) λq=>Aa _ q
  exact h G' X' _ _ das' has' (ρ2++ρc) _ _ _ _ I' K' (k1.sub mv) (k2.sub mv)
end
end
section
section
variable {Γ:Bj} {A:Aw} {m:Nat} {AB:List (List Nat)}
inductive Afi (G0:List Nd) (m:Nat) (AB:List (List Nat)) (L w ab fa de ih nl:Nat) (nu kk sc he ro rw hr oc sv:Option Ab) (τ2:List As) (σ:Ay):Prop
 |mk (G:List Nd) (X:List As) (DE IH:List (List Nat)) (das has:List Ak) (ρf ρ:List As) (mo on at' kd nm:Option Ab) (I:Va G X m AB DE IH) (K:Gf G0 G) (r1:Gq (ρ++τ2) das DE) (r2:Gq (ρ++τ2) has IH) (e:σ=⟨Bi G++X,ρf++Jo de ih das has (ρ++dS L w ab fa nl m nu kk sc he ro rw hr oc sv mo on at' kd nm τ2)⟩)
set_option maxHeartbeats 4000000 in
theorem pR {G0:List Nd} {X0 ρ0 τ2:List As} {DE0 IH0:List (List Nat)} {L w ab fa sp de ih nl:Nat} {das0 has0:List Ak} {nu kk sc he ro rw hr oc sv mo0 on0 at0 kd0 nm0:Option Ab} {ns:List Int} {Q:Fv->Ay->Prop} (I0:Va G0 X0 m AB DE0 IH0) (hm:0 < m)
  (hd:(Er.obj w,CO.sdict (Vi fa ab sp de ih))∈τ2) (ha:LL τ2 ab AB) (hf:(Er.obj fa,CO.list (refs G0 (Cb m)))∈τ2) (hs:(Er.obj sp,CO.list (refs G0 (De (m+1) 4)))∈τ2) (r1:Gq (ρ0++τ2) das0 DE0) (r2:Gq (ρ0++τ2) has0 IH0)
  (hns:(Er.obj nl,CO.list (At ns))∈τ2) (hnl:ns.length<=8) (hA:Rm (A.deeper (Dc L)) 43) (hh:A.handled=none) (hF:AF A ⟨[],[]⟩) (h:∀σ,Q (.ret (.bool true)) σ):
  T Γ (A.deeper (Dc L)) ⟨Bi G0++X0,Jo de ih das0 has0 (ρ0++dS L w ab fa nl m nu kk sc he ro rw hr oc sv mo0 on0 at0 kd0 nm0 τ2)⟩ (Cm ((fBody (topStmt 31)).drop 10) (Dc L)) Q:=by
 let V:Option Ab->Option Ab->Option Ab->Option Ab->Option Ab->List As:=λmo on at' kd nm=>dS L w ab fa nl m nu kk sc he ro rw hr oc sv mo on at' kd nm τ2
 have upV:∀{p:As} mo on at' kd nm,p∈τ2->p∈V mo on at' kd nm:=λmo on at' kd nm hp=>Aa [_,_,_,_,_,_,_,_,_,_,_,_,_,_,_,_,_,_,_] hp
 have mns:(Er.var L "numbers",CO.val (some (.ref nl)))∈V mo0 on0 at0 kd0 nm0:=.tail _ (.tail _ (.tail _ (.tail _ (.tail _ (.tail _ (.tail _ (.tail _ (.tail _ (.tail _ (.tail _ (.tail _ (.tail _ (.tail _ (.tail _ (.head _)))))))))))))))
 refine Am (Pt (Bz (Az (v:=.type "range") (by kernel_rfl) (by decide+kernel) (by decide) ⟨.inr (.inr ⟨_,rfl⟩),?_⟩)))
 refine Ag (Dd (k:=0) (pos:=⟨0,0,0,0⟩) ?_)
 refine Ag (Bz (Az (v:=.builtin "len") (by kernel_rfl) (by decide+kernel) (by decide) ⟨.inr (.inl ⟨_,rfl⟩),?_⟩))
 refine Ag (Ac (v:=.ref nl) (Ae (.tail _ (.tail _ (Aa _ mns)))) (Ao (Hj (vs:=At ns) (Ae (.tail _ (.tail _ (Aa _ (upV _ _ _ _ _ hns))))) (by rw [Dw];lia) ?_)))
 rw [Dw]
 refine Ag (Dd (k:=0) (pos:=⟨0,0,0,0⟩) (Ao λws hw=>uW (by decide) (by decide) (λrg=>?_) ws hw))
 obtain⟨rs1,rs2⟩:=vW hnl
 refine(Ni (n:=(ns.length+1) / 2) (Ae (.head _)) rs1 rs2 λit=>?_)
 let RG:As:=(.obj rg,.rng 0 (ns.length:Int) 2)
 refine⟨it,_,_,_,_,RG::Jo de ih das0 has0 (ρ0++V mo0 on0 at0 kd0 nm0),⟨rfl,rfl,Pm (Γ:=Γ) (A:=A.deeper (Dc L)) (it:=it) (x:=0) (c:=2) (n:=(ns.length+1) / 2) hh⟩,
  λ_=>Afi G0 m AB L w ab fa de ih nl nu kk sc he ro rw hr oc sv τ2,
  ⟨G0,X0,DE0,IH0,das0,has0,[RG],ρ0,mo0,on0,at0,kd0,nm0,I0,rfl,r1,r2,rfl⟩,λ_ _ _=>trivial,?_,?_⟩
 ·intro d v r u ρ' σ he' hu z Kq hK
  obtain⟨G,X,DE,IH,das,has,ρf,ρ,mo,on,at',kd,nm,I,K,k1,k2,e⟩:=z
  rw [e]
  obtain⟨q1,ev⟩:=tA (n:=(ns.length+1) / 2) (q:=d.length) (v:=v) (by rw [<-he',Ha (Bx _),Qc];rfl)
  rw [ev]at hu
  have hlt:2 * d.length < ns.length:=by lia
  have hn:=Bm hlt
  refine Ct (σ':=⟨Bi G++X,ρ'++(ρf++Jo de ih das has (ρ++V mo on (some (.int ((2 * d.length:Nat):Int) 0)) kd nm))⟩) hu (.tau (.pre (.pre (.there (.there (.pre (.there (.there (.there (.there (.there (.there (.there (.there (.there (.there (.there (.there (.there (.there (.there (.there .here)))))))))))))))))))))) ?_
  have e1:∀das has ρ mo on at' kd nm,ρ'++(ρf++Jo de ih das has (ρ++V mo on at' kd nm))=(ρ'++ρf)++Jo de ih das has (ρ++V mo on at' kd nm):=λ_ _ _ _ _ _ _ _=>(Ax ..).symm
  rw [e1]
  refine qR (ρ':=ρ'++ρf) (a:=2 * d.length) I K hm hd ha hf hs k1 k2 hns (by lia) hn hA hh hF λG' X' DE' IH' das' has' ρ2 mo' on' kd' nm' I' K' k1' k2'=>?_
  refine hK .next _ ⟨Bi G'++X',ρf++Jo de ih das' has' ((ρ2++ρ)++V mo' on' (some (.int ((2 * d.length:Nat):Int) 0)) kd' nm'),?_,G',X',DE',IH',das',has',ρf,ρ2++ρ,mo',on',_,kd',nm',I',K',by rw [Ax];exact k1',by rw [Ax];exact k2',rfl⟩
  rw [e1]
  exact As.le_refl _
 ·exact λσ _=>Ci (Fb.go (Am (Fj (Xu (h _)))))
end
end
section
noncomputable def Qm (m:Nat) (script:List Int):List Int:=(script.drop (clipAt script.length (5+(m:Int)))).take (clipAt script.length (13+(m:Int)) - clipAt script.length (5+(m:Int)))
theorem lM (m:Nat) (script:List Int):Ub (At script) (some (5+(m:Int))) (some (13+(m:Int)))=At (Qm m script):=by
 unfold Ub Qm At
 simp only [Option.elim_some,Ap]
 rw [Ok,List.map_drop]
theorem tI (m:Nat) (script:List Int):(Qm m script).length<=8:=by
 unfold Qm
 rw [Fs]
 have h1:clipAt script.length (13+(m:Int))=min (13+m) script.length:=clipAt_nat _ (13+m)
 have h2:clipAt script.length (5+(m:Int))=min (5+m) script.length:=clipAt_nat _ (5+m)
 rw [h1,h2]
 refine Bw (Nat.min_le_left ..) (Nat.sub_le_iff_le_add.mpr ?_)
 rcases Nat.le_total (5+m) script.length with h|h
 ·rw [Nat.min_eq_left h];exact Bw (Nat.min_le_left ..) (by rw [<-Nat.add_assoc];exact Bx _)
 ·rw [Nat.min_eq_right h];exact Bw (Nat.min_le_right ..) (Nat.le_add_left ..)
section
variable {Γ:Bj} {A:Aw} {m:Nat} {AB:List (List Nat)}
set_option maxHeartbeats 4000000 in
theorem tN {G:List Nd} {X ρ τ2:List As} {DE IH:List (List Nat)} {L w ab fa sp de ih sa:Nat} {das has:List Ak} {mo on nu kk he ro rw hr oc sv ns0 at0 kd0 nm0:Option Ab} {script:List Int} {Q:Fv->Ay->Prop} (I:Va G X m AB DE IH) (hm:0 < m)
  (hd:(Er.obj w,CO.sdict (Vi fa ab sp de ih))∈τ2) (ha:LL τ2 ab AB) (hf:(Er.obj fa,CO.list (refs G (Cb m)))∈τ2) (hs:(Er.obj sp,CO.list (refs G (De (m+1) 4)))∈τ2) (r1:Gq (ρ++τ2) das DE) (r2:Gq (ρ++τ2) has IH)
  (hsc:cV Γ sa (At script)) (hsl:script.length<=63) (hA:Rm (A.deeper (Dc L)) 43) (hh:A.handled=none) (hF:AF A ⟨[],[]⟩) (h:∀σ,Q (.ret (.bool true)) σ):
  T Γ (A.deeper (Dc L)) ⟨Bi G++X,Jo de ih das has (ρ++wV L mo on (some (.ref w)) nu kk (some (.ref ab)) (some (.ref fa)) (some (.int (m:Int) 0)) (some (.ref sa)) he ro rw hr oc sv ns0 at0 kd0 nm0 τ2)⟩ (Cm ((fBody (topStmt 31)).drop 8) (Dc L)) Q:=by
 let V:Option Ab->List As->List As:=λns T=>wV L mo on (some (.ref w)) nu kk (some (.ref ab)) (some (.ref fa)) (some (.int (m:Int) 0)) (some (.ref sa)) he ro rw hr oc sv ns at0 kd0 nm0 T
 let Z:List As:=ρ++V ns0 τ2
 have upZ:∀{p:As},p∈τ2->p∈Z:=λhp=>Aa _ (Aa [_,_,_,_,_,_,_,_,_,_,_,_,_,_,_,_,_,_,_] hp)
 have kz:∀p∈ρ++τ2,p∈Z:=λp hp=>(Ai.mp hp).elim (λq=>Af _ q) λq=>upZ q
 have inZ:∀{p:As},p∈V ns0 τ2->p∈Jo de ih das has Z:=λhp=>.tail _ (.tail _ (Aa _ hp))
 have hL:Zt (Jo de ih das has Z) w fa ab sp de ih AB DE IH:=kU (upZ hd) (ha.sub λp hp=>upZ hp) (r1.sub kz) (r2.sub kz)
 show T Γ (A.deeper (Dc L)) ⟨Bi G++X,Jo de ih das has Z⟩ _ _
 refine Am (Hs (Nh (Ej (Bz (Bk (v:=.ref 500) (by kernel_rfl) ⟨.inl (by kernel_rfl),?_⟩)))))
 refine Ag (An (v:=.ref w) rfl (Ae (inZ (.tail _ (.tail _ (.head _))))) ?_)
 refine Ag (Jt (k:=0) (pos:=⟨0,0,0,0⟩) ?_)
 refine Ao λws hw=>(Xb (tv:=none) I hL (.tail _ (.tail _ (upZ hf))) (.tail _ (.tail _ (upZ hs))) (λt e=>by cases e) (hA.le (by decide)) hh (Fc ⟨λhb=>(by cases hb),λ_=>?_⟩) ws hw).T
 refine Ci ?_
 refine Fb.go ?_
 have cm:(Er.obj (L+1),CO.cell (some (.int (m:Int) 0)))∈Jo de ih das has Z:=inZ (.tail _ (.tail _ (.tail _ (.tail _ (.tail _ (.tail _ (.tail _ (.head _))))))))
 have msc:(Er.var L "script",CO.val (some (.ref sa)))∈Jo de ih das has Z:=inZ (.tail _ (.tail _ (.tail _ (.tail _ (.tail _ (.tail _ (.tail _ (.tail _ (.head _)))))))))
 refine Am (Bl (fT (Ac (v:=.ref sa) (Ae msc) (So (Ei (Dd (An (v:=.int (m:Int) 0) rfl (Ae cm) (Qz (So (Ei (Dd (An (v:=.int (m:Int) 0) rfl (Ae cm) (Qz ⟨sa,At script,some (5+(m:Int)),some (13+(m:Int)),rfl,hsc.has,by rw [Dw];lia,rfl,rfl,λnl=>?_⟩)))))))))))))
 rw [lM]
 refine⟨_,_,.tau (.there (.there (.there (.pre (.there (.there (.there (.there (.there (.there (.there (.there (.there (.there (.there (.there (.there (.there (.there .here))))))))))))))))))),?_⟩
 refine Fb.go ?_
 refine T.conseq (σ':=⟨Bi G++X,Jo de ih das has (ρ++V (some (.ref nl)) ((.obj nl,.list (At (Qm m script)))::τ2))⟩) (As.le_perm (Bb _ ?_)) ?_
 ·have e1:(.obj nl,.list (At (Qm m script)))::Jo de ih das has (ρ++V (some (.ref nl)) τ2)=(Er.obj nl,CO.list (At (Qm m script)))::((Jo de ih das has (ρ++V (some (.ref nl)) []))++τ2):=by simp [V]
  have e2:Jo de ih das has (ρ++V (some (.ref nl)) ((.obj nl,.list (At (Qm m script)))::τ2))=(Jo de ih das has (ρ++V (some (.ref nl)) []))++(Er.obj nl,CO.list (At (Qm m script)))::τ2:=by simp [V]
  show Bv ((.obj nl,.list (At (Qm m script)))::Jo de ih das has (ρ++V (some (.ref nl)) τ2)) (Jo de ih das has (ρ++V (some (.ref nl)) ((.obj nl,.list (At (Qm m script)))::τ2)))
  rw [e1,e2]
  exact Ff.symm
 have mv:∀p∈ρ++τ2,p∈ρ++((.obj nl,.list (At (Qm m script)))::τ2):=λp hp=>(Ai.mp hp).elim (λq=>Af _ q) λq=>Aa _ (.tail _ q)
 exact pR (ρ0:=ρ) (τ2:=(.obj nl,.list (At (Qm m script)))::τ2) I hm (.tail _ hd) (ha.sub λp hp=>.tail _ hp) (.tail _ hf) (.tail _ hs) (r1.sub mv) (r2.sub mv) (.head _) (tI m script) hA hh hF h
end
end
section
theorem yQ:Wd [] []:=by
 refine⟨⟨⟨?_,?_,?_,?_⟩,⟨.nil,?_,?_,by decide⟩,?_,?_,?_,?_⟩,?_⟩<;>intro i x<;>intros<;>simp_all
noncomputable def Ru (script:List Int):Int:=script.getD 0 0
noncomputable def Pa (script:List Int):Nat:=(2+(Ru script).fmod 3).toNat
theorem oE (script:List Int):2<=Pa script/\Pa script<=4/\2+(Ru script).fmod 3=(Pa script:Int):=by
 unfold Pa
 have h:=Il (a:=Ru script) (n:=3) (by decide)
 have h1:(Ru script).fmod 3=(((Ru script).fmod 3).toNat:Nat):=h.1
 have h2:((Ru script).fmod 3).toNat < 3:=h.2
 lia
section
variable {Γ:Bj} {A:Aw}
set_option maxHeartbeats 4000000 in
theorem pO {τ:List As} {L sa:Ak} {script:List Int} {Q:Fv->Ay->Prop} (hsc:cV Γ sa (At script)) (hsl:script.length<=63) (hA:Rm (A.deeper (Dc L)) 43) (hh:A.handled=none) (hF:AF A ⟨[],[]⟩)
  (h:∀G X x fa ab,Wd G X->Jj [x] G->x.C=364->x.key=99->x.bs=[]->x.decl=none->x.inh=none->(∀j,j < G.length->Tx G j)->
   T Γ (A.deeper (Dc L)) ⟨Bi G++X,(.obj ab,.list [])::(.obj fa,.list [])::wV L none none none none none (some (.ref ab)) (some (.ref fa)) (some (.int (Pa script:Int) 0)) (some (.ref sa)) (some (.int (Ru script) 0)) (some (.ref x.me)) none none none none none none none none τ⟩ (Cm ((fBody (topStmt 31)).drop 5) (Dc L)) Q):
  T Γ (A.deeper (Dc L)) ⟨[],wV L none none none none none none none none (some (.ref sa)) none none none none none none none none none none τ⟩ (Cm (fBody (topStmt 31)) (Dc L)) Q:=by
 obtain⟨m1,m2,m3⟩:=oE script
 have msc:∀ma he ro,(Er.var L "script",CO.val (some (.ref sa)))∈wV L none none none none none none none ma (some (.ref sa)) he ro none none none none none none none none τ:=λma he ro=>.tail _ (.tail _ (.tail _ (.tail _ (.tail _ (.tail _ (.tail _ (.tail _ (.head _))))))))
 have up:∀{p:As} ma he ro,p∈τ->p∈wV L none none none none none none none ma (some (.ref sa)) he ro none none none none none none none none τ:=λma he ro hp=>Aa [_,_,_,_,_,_,_,_,_,_,_,_,_,_,_,_,_,_,_] hp
 have toHead:T Γ (A.deeper (Dc L)) ⟨[],wV L none none none none none none none none (some (.ref sa)) (some (.int (Ru script) 0)) none none none none none none none none none τ⟩ (Cm ((fBody (topStmt 31)).drop 1) (Dc L)) Q:=by
  refine Am (Ga rfl (Ei (Dd (Ei (Ac (v:=.int (Ru script) 0) (Ae (.tail _ (.tail _ (.tail _ (.tail _ (.tail _ (.tail _ (.tail _ (.tail _ (.tail _ (.head _))))))))))) (Dd (Vc (by decide) (Qz ?_))))))))
  rw [m3]
  refine⟨_,_,.tau (.there (.there (.there (.there (.there (.there (.there .here))))))),?_⟩
  refine Fb.go ?_
  let V1:List As:=wV L none none none none none none none (some (.int (Pa script:Int) 0)) (some (.ref sa)) (some (.int (Ru script) 0)) none none none none none none none none none τ
  have hFV:AF (A.deeper (Dc L)) ⟨[],V1⟩:=hF.push rfl rfl (L:=L) (x:="script") (c:=some (.ref sa)) (msc _ _ _) λp hp=>by cases hp
  show T Γ (A.deeper (Dc L)) ⟨Bi []++[],V1⟩ _ _
  refine Am (Bl (Bz (Bk (v:=.ref 364) (by kernel_rfl) ⟨.inl (by kernel_rfl),?_⟩)))
  refine Ag (Dd (k:=0) (pos:=⟨0,0,0,0⟩) ?_)
  refine Ao λws hw=>(oL (τ:=V1) (b:=346) (key:=99) (root:=.none) (bs:=[]) (vs:=[.int 99 0]) yQ (λj hj=>by cases hj) (by decide) (by decide) rfl (.inr ⟨rfl,rfl⟩) .nil (λk hk=>by cases hk) (hA.le (by decide)) hh hFV (λme=>?_) (λG' X' x w1 w2 w3 w4 w5 w6 w7 w8 w9=>?_) ws hw).T
  ·intro ws kws hw hk
   obtain⟨w₁,w₂,rfl,e1,e2⟩:=Jy hw
   have:kws=[]:=by simpa using hk
   subst this
   exact⟨[("self",w₁),("key",w₂),("bases",.ref 346),("root",.none)],by simp [e1,e2],λs X=>kp_binds X λS=>by kernel_rfl⟩
  ·refine⟨_,_,.tau (.there (.there (.there (.there (.there (.there (.there (.there (.there (.there .here)))))))))),?_⟩
   refine Fb.go ?_
   refine Am (Ga rfl (Hv (Ao ⟨by rw [Av];exact Ca _,λfa=>⟨_,_,.tau (.there (.there (.there (.there (.there (.there (.there .here))))))),?_⟩⟩)))
   refine Fb.go ?_
   refine Am (Ga rfl (Hv (Ao ⟨by rw [Av];exact Ca _,λab=>⟨_,_,.tau (.there (.there (.there (.there (.there (.there (.there .here))))))),?_⟩⟩)))
   refine Fb.go ?_
   exact h G' X' x fa ab w1 w2 w3 w4 w5 w6 w7 w9
 refine Am (Bl (Px (Ej (Ac (v:=.ref sa) (Ae (msc _ _ _)) (Xh (vs:=At script) hsc.has (by rw [Dw];lia) ⟨λhb=>?_,λhb=>?_⟩)))))
 ·cases script with
  |nil=>simp [At]at hb
  |cons a r=>
   refine Bd (Ac (v:=.ref sa) (Ae (msc _ _ _)) (Dd (Tq (vs:=At (a::r)) (v:=.int a 0) hsc.has (by decide) (by decide) rfl ⟨_,_,.tau (.there (.there (.there (.there (.there (.there (.there (.there (.there .here))))))))),Fb.go toHead⟩)))
 ·cases script with
  |cons a r=>simp [At]at hb
  |nil=>exact Dd ⟨_,_,.tau (.there (.there (.there (.there (.there (.there (.there (.there (.there .here))))))))),Fb.go toHead⟩
end
end
section
section
variable {Γ:Bj} {A:Aw}
set_option maxHeartbeats 4000000 in
theorem pN {W ρ τ:List As} {L fa ab:Ak} {mo on nu kk ma sc he ro rw hr oc sv ns at' kd nm:Option Ab} {Q:Fv->Ay->Prop}
  (h:∀w sp de ih d0 d1 d2 d3,T Γ (A.deeper (Dc L)) ⟨W,(.obj w,.sdict (Vi fa ab sp de ih))::(.obj ih,.list [])::(.obj de,.list [.ref d0,.ref d1,.ref d2,.ref d3])::(.obj d3,.list [])::(.obj d2,.list [])::(.obj d1,.list [])::(.obj d0,.list [])::(.obj sp,.list [])::(ρ++wV L mo on (some (.ref w)) nu kk (some (.ref ab)) (some (.ref fa)) ma sc he ro rw hr oc sv ns at' kd nm τ)⟩ (Cm ((fBody (topStmt 31)).drop 7) (Dc L)) Q):
  T Γ (A.deeper (Dc L)) ⟨W,ρ++wV L mo on none nu kk (some (.ref ab)) (some (.ref fa)) ma sc he ro rw hr oc sv ns at' kd nm τ⟩ (Cm ((fBody (topStmt 31)).drop 6) (Dc L)) Q:=by
 let Y:List As:=ρ++wV L mo on none nu kk (some (.ref ab)) (some (.ref fa)) ma sc he ro rw hr oc sv ns at' kd nm τ
 have cfa:(Er.obj (L+2),CO.cell (some (.ref fa)))∈Y:=Aa _ (.tail _ (.tail _ (.tail _ (.tail _ (.tail _ (.tail _ (.head _)))))))
 have cab:(Er.obj (L+3),CO.cell (some (.ref ab)))∈Y:=Aa _ (.tail _ (.tail _ (.tail _ (.tail _ (.tail _ (.head _))))))
 have z:∀{n:Nat},n<=10->n<=Gg:=λh=>by rw [Av];lia
 show T Γ (A.deeper (Dc L)) ⟨W,Y⟩ _ _
 refine Am (Ga rfl (xK λd=>?_))
 refine Qa (Kg (An (v:=.ref fa) rfl (Ae (.tail _ cfa)) ?_))
 refine Qa (Kg (An (v:=.ref ab) rfl (Ae (.tail _ cab)) ?_))
 refine Qa (Kg (Hv (Ao ⟨z (by decide),λsp=>?_⟩)))
 refine Qa (Kg (Hv ?_))
 refine Ag (Hv (Ao ⟨z (by decide),λd0=>?_⟩))
 refine Ag (Hv (Ao ⟨z (by decide),λd1=>?_⟩))
 refine Ag (Hv (Ao ⟨z (by decide),λd2=>?_⟩))
 refine Ag (Hv (Ao ⟨z (by decide),λd3=>?_⟩))
 refine Ao ⟨z (By rfl),λde=>?_⟩
 refine Qa (Kg (Hv (Ao ⟨z (by decide),λih=>?_⟩)))
 let N:List As:=(.obj ih,.list [])::(.obj de,.list [.ref d0,.ref d1,.ref d2,.ref d3])::(.obj d3,.list [])::(.obj d2,.list [])::(.obj d1,.list [])::(.obj d0,.list [])::[(.obj sp,.list [])]
 refine T.conseq (σ':=⟨W,(.obj d,.sdict [])::(N++Y)⟩) (As.le_perm (Bb W (Ff (l₁:=N)))) ?_
 refine jU ⟨Vi fa ab sp de ih,N++Y,rfl,(by show(["faces","above","specs","declared","inherit"]:List Str).Nodup;decide),rfl,?_⟩
 have hU:Qw Y (.obj (L+6)) (.cell none) (.cell (some (.ref d))) (ρ++wV L mo on (some (.ref d)) nu kk (some (.ref ab)) (some (.ref fa)) ma sc he ro rw hr oc sv ns at' kd nm τ):=Qw.pre (.there (.there .here))
 refine⟨_,_,.tau (.there (.there (.there (.there (.there (.there (.there (.there hU)))))))),?_⟩
 exact Fb.go (h d sp de ih d0 d1 d2 d3)
end
end
structure Zm (G:List Nd) (X:List As) (k:Nat) (AB:List (List Nat)):Prop where
 wd:Wd G X
 sok:∀j,j < G.length->Tx G j
 len:G.length=k+1
 C:∀j,j < k+1->∃x,G[j]? =some x/\x.C=364
 keys:G.map (·.key)=99::([31,8,20,5]:List Int).take k
 lenA:AB.length=k
 A:∀j,j < k->(AB.getD j []).Nodup/\∀o∈AB.getD j [],o<=j
 reach:∀j,j < k->∀i,Ht G (j+1) i↔∃o∈AB.getD j [],i=o+1
 self:∀j,j < k->j∈AB.getD j []
theorem eW {G:List Nd} {x:Nd} (j:Nat):Fx (G++[x]) j=if j=G.length then x.bs else Fx G j:=by
 unfold Fx
 by_cases h:j=G.length
 ·subst h;rw [if_pos rfl];simp
 ·rw [if_neg h]
  by_cases h2:j < G.length
  ·rw [Fn h2]
  ·rw [Dq (by rw [Ah];simp;lia),Dq (by lia)]
theorem Wo {AB:List (List Nat)} {r:List Nat} (j:Nat):(AB++[r]).getD j []=if j=AB.length then r else AB.getD j []:=by
 rw [Db,Db]
 by_cases h:j=AB.length
 ·subst h;simp
 ·rw [if_neg h]
  by_cases h2:j < AB.length
  ·rw [Fn h2]
  ·rw [Dq (by rw [Ah];simp;lia),Dq (by lia)]
set_option tactic.hygienic true in
theorem Zm.step {G:List Nd} {X:List As} {k:Nat} {AB:List (List Nat)} (F:Zm G X k AB) (hk:k < 4) {G':List Nd} {X':List As} {x:Nd} {row:List Nat} (hrow:∀o∈row,o < k) (w1:Wd G' X') (w2:Jj (G++[x]) G') (hC:x.C=364) (hkey:x.key=([31,8,20,5]:List Int).getD k 0) (hbs:x.bs=row.map (· +1)) (w5:∀j,j < G'.length->Tx G' j):
  Zm G' X' (k+1) (AB++[Ck [] (k::row.flatMap λo=>AB.getD o [])]):=by
 have hb:∀j,Fx G' j=if j=k+1 then row.map (· +1)else Fx G j:=λj=>by rw [w2.bs,eW,F.len,hbs]
 have hlow:∀j,j < k+1->Fx G' j=Fx G j:=λj hj=>by rw [hb,if_neg (by lia)]
 have hlen:G'.length=k+2:=by rw [w2.i.len,Ah,F.len];rfl
 have hold:∀j,j < k->∀i,Ht G' (j+1) i↔∃o∈AB.getD j [],i=o+1:=λj hj i=>by
  rw [<-F.reach j hj i]
  exact⟨λr=>r.under w1.gr (n:=k+1) (λj hj=>(hlow j hj).symm) (by lia),λr=>r.under F.wd.gr (n:=k+1) hlow (by lia)⟩
 refine⟨w1,w5,hlen,λj hj=>?_,?_,by rw [Ah,F.lenA];rfl,λj hj=>?_,λj hj i=>?_,λj hj=>?_⟩
 ·have:∃y,(G++[x])[j]? =some y/\y.C=364:=by
   by_cases q:j < k+1
   ·obtain⟨y,ey,hy⟩:=F.C j q
    exact⟨y,by rw [Fn (by rw [F.len];exact q)];exact ey,hy⟩
   ·have:j=G.length:=by rw [F.len];lia
    subst this
    exact⟨x,by simp,hC⟩
  obtain⟨y,ey,hy⟩:=this
  obtain⟨y',ey',hb'⟩:=w2.at' ey
  exact⟨y',ey',by have:=congrArg Nd.C hb';exact this.trans hy⟩
 ·rw [w2.i.keys,Bh,F.keys,Cf,Kp,hkey]
  exact(by decide:∀k,k < 4->(99::([31,8,20,5]:List Int).take k)++[([31,8,20,5]:List Int).getD k 0]=99::([31,8,20,5]:List Int).take (k+1)) k hk
 ·rw [Wo,F.lenA]
  split
  ·rename_i q
   subst q
   refine⟨Jb _ _,λo ho=>?_⟩
   rcases Ce.mp ((Jc _ o).mp ho)with h|h
   ·lia
   ·obtain⟨p,hp,ho'⟩:=Fg.mp h
    have h1:=hrow p hp
    have h2:=(F.A p h1).2 o ho'
    lia
  ·exact F.A j (by lia)
 ·rw [Wo,F.lenA]
  split
  ·rename_i q
   subst q
   rw [Ht.cases',hb,if_pos rfl]
   constructor
   ·rintro(h|⟨b,hb',hr⟩)
    ·exact⟨j,(Jc _ j).mpr (.head _),h⟩
    ·obtain⟨p,hp,rfl⟩:=Bn.mp hb'
     obtain⟨o,ho,e⟩:=(hold p (hrow p hp) i).mp hr
     exact⟨o,(Jc _ o).mpr (.tail _ (Fg.mpr ⟨p,hp,ho⟩)),e⟩
   ·rintro⟨o,ho,e⟩
    rcases Ce.mp ((Jc _ o).mp ho)with h|h
    ·exact .inl (by lia)
    ·obtain⟨p,hp,ho'⟩:=Fg.mp h
     exact .inr ⟨p+1,Bn.mpr ⟨p,hp,rfl⟩,(hold p (hrow p hp) i).mpr ⟨o,ho',e⟩⟩
  ·exact hold j (by lia) i
 ·rw [Wo,F.lenA]
  split
  ·rename_i q
   rw [q]
   exact(Jc _ k).mpr (.head _)
  ·exact F.self j (by lia)
section
noncomputable abbrev Ry:List Jr:=match(fBody (topStmt 31)).drop 5 with|.For _ _ body _ _::_=>body|_=>[]
section
variable {Γ:Bj} {A:Aw}
set_option maxHeartbeats 2000000 in
theorem jO {W τ ρ:List As} {L sa k:Nat} {mo on wo nu0 ab fa ma he ro rw hr oc sv ns at' kd nm:Option Ab} {script:List Int} {Q:Fv->Ay->Prop} (hsc:cV Γ sa (At script)) (hsl:script.length<=63)
  (h:T Γ (A.deeper (Dc L)) ⟨W,ρ++wV L mo on wo (some (.int (script.getD (1+k) (k:Int)) 0)) (some (.int (k:Int) 0)) ab fa ma (some (.ref sa)) he ro rw hr oc sv ns at' kd nm τ⟩ (Cm (Ry.drop 1) (Dc L)) Q):
  T Γ (A.deeper (Dc L)) ⟨W,ρ++wV L mo on wo nu0 (some (.int (k:Int) 0)) ab fa ma (some (.ref sa)) he ro rw hr oc sv ns at' kd nm τ⟩ (Cm Ry (Dc L)) Q:=by
 let Y:List As:=ρ++wV L mo on wo nu0 (some (.int (k:Int) 0)) ab fa ma (some (.ref sa)) he ro rw hr oc sv ns at' kd nm τ
 have up:∀{p:As},p∈τ->p∈Y:=λhp=>Aa _ (Aa [_,_,_,_,_,_,_,_,_,_,_,_,_,_,_,_,_,_,_] hp)
 have msc:(Er.var L "script",CO.val (some (.ref sa)))∈Y:=Aa _ (.tail _ (.tail _ (.tail _ (.tail _ (.tail _ (.tail _ (.tail _ (.tail _ (.head _)))))))))
 have ck:(Er.obj (L+4),CO.cell (some (.int (k:Int) 0)))∈Y:=Aa _ (.tail _ (.tail _ (.tail _ (.tail _ (.head _)))))
 have hU:∀v,Qw Y (.obj (L+5)) (.cell nu0) (.cell (some v)) (ρ++wV L mo on wo (some v) (some (.int (k:Int) 0)) ab fa ma (some (.ref sa)) he ro rw hr oc sv ns at' kd nm τ):=λv=>Qw.pre (.there (.there (.there .here)))
 show T Γ (A.deeper (Dc L)) ⟨W,Y⟩ _ _
 refine Am (Ga rfl (Px (Ar (Ei (Dd (An (v:=.int (k:Int) 0) rfl (Ae ck) (Qz ?_)))))))
 refine Bz (Az (v:=.builtin "len") (by kernel_rfl) (by decide+kernel) (by decide) ⟨.inr (.inl ⟨_,rfl⟩),?_⟩)
 refine Ag (Ac (v:=.ref sa) (Ae msc) (Ao (Ym (vs:=At script) hsc.has (by rw [Dw];lia) ?_)))
 rw [Dw]
 refine(vO ⟨_,rfl,λhb=>?_,λhb=>?_⟩)
 ·have hlt:1+k < script.length:=by have:=of_decide_eq_true hb;lia
  have hg:script.getD (1+k) (k:Int)=script[1+k]:=by rw [Db,Bm hlt];rfl
  have hna:(At script)[(1+(k:Int)).toNat]? =some (.int (script.getD (1+k) (k:Int)) 0):=by
   rw [show(1+(k:Int)).toNat=1+k by lia,hg]
   unfold At
   rw [Bc,Bm hlt]
   rfl
  exact Bd (Ac (v:=.ref sa) (Ae msc) (Ei (Dd (An (v:=.int (k:Int) 0) rfl (Ae ck) (Qz (Tq (vs:=At script) (v:=.int (script.getD (1+k) (k:Int)) 0) hsc.has (by lia) (by lia) hna ⟨_,_,.tau (hU _),Fb.go h⟩))))))
 ·have hge:script.length<=1+k:=by have:=of_decide_eq_false hb;lia
  have hg:script.getD (1+k) (k:Int)=(k:Int):=by rw [Db,Dq hge];rfl
  rw [hg]at h
  exact An (v:=.int (k:Int) 0) rfl (Ae ck) ⟨_,_,.tau (hU _),Fb.go h⟩
end
end
section
noncomputable def Nb (c k:Nat) (num:Int):List Nat:=(El (if 0 < k then(num.fmod c).toNat else 0)).map λt=>(((num.fdiv c).fdiv (((k+1:Nat):Int) ^ t)).fmod k).toNat
theorem bA {c k:Nat} (hc:0 < c) (num:Int):(Nb c k num).length < c/\∀o∈Nb c k num,o < k:=by
 unfold Nb
 have h:=Il (a:=num) (n:=c) hc
 refine⟨by rw [Ap,Du];split<;>lia,λo ho=>?_⟩
 obtain⟨t,ht,rfl⟩:=Bn.mp ho
 rw [Lu]at ht
 by_cases q:0 < k
 ·exact(Il (n:=k) q).2
 ·rw [if_neg q]at ht;lia
section
variable {Γ:Bj} {A:Aw}
set_option maxHeartbeats 2000000 in
theorem uG {W τ ρ:List As} {L k:Nat} {num:Int} {mo on wo ab fa ma sc he ro rw0 hr oc sv ns at' kd nm:Option Ab} {Q:Fv->Ay->Prop} (hk:k < 4) (hA:Rm (A.deeper (Dc L)) 3) (hh:A.handled=none)
  (h:∀ρ' r,(Er.obj r,CO.list (iv (Ck [] (Nb 3 k num))))∈ρ'->T Γ (A.deeper (Dc L)) ⟨W,ρ'++(ρ++wV L mo on wo (some (.int num 0)) (some (.int (k:Int) 0)) ab fa ma sc he ro (some (.ref r)) hr oc sv ns at' kd nm τ)⟩ (Cm (Ry.drop 2) (Dc L)) Q):
  T Γ (A.deeper (Dc L)) ⟨W,ρ++wV L mo on wo (some (.int num 0)) (some (.int (k:Int) 0)) ab fa ma sc he ro rw0 hr oc sv ns at' kd nm τ⟩ (Cm (Ry.drop 1) (Dc L)) Q:=by
 let V:Option Ab->List As:=λr=>wV L mo on wo (some (.int num 0)) (some (.int (k:Int) 0)) ab fa ma sc he ro r hr oc sv ns at' kd nm τ
 let Y:List As:=ρ++V rw0
 have cnu:(Er.obj (L+5),CO.cell (some (.int num 0)))∈Y:=Aa _ (.tail _ (.tail _ (.tail _ (.head _))))
 have ck:(Er.obj (L+4),CO.cell (some (.int (k:Int) 0)))∈Y:=Aa _ (.tail _ (.tail _ (.tail _ (.tail _ (.head _)))))
 have hfm:num.fmod 3=((num.fmod 3).toNat:Nat)/\(num.fmod 3).toNat < 3:=Il (a:=num) (n:=3) (by decide)
 let cnt:Nat:=if 0 < k then(num.fmod 3).toNat else 0
 have hcnt:cnt<=2:=by show(if 0 < k then(num.fmod 3).toNat else 0)<=2;split<;>lia
 show T Γ (A.deeper (Dc L)) ⟨W,Y⟩ _ _
 have rest:T Γ (A.deeper (Dc L)) ⟨W,Y⟩ (Dr (.Constant .none 0 ⟨0,0,0,0⟩) (Dc L)) (λ_ σ=>σ=⟨W,Y⟩):=Jt rfl
 refine Am (Bl (Bz (Bk (v:=.ref 473) (by kernel_rfl) ⟨.inl (by kernel_rfl),?_⟩)))
 refine Ag (Sl (Bz (Az (v:=.type "range") (by kernel_rfl) (by decide+kernel) (by decide) ⟨.inr (.inr ⟨_,rfl⟩),?_⟩)))
 refine Ag ((Px (pos:=⟨379,78,379,104⟩) (Q:=λc σ=>c=.int (cnt:Int) 0/\σ=⟨W,Y⟩) (Ar (An (v:=.int (k:Int) 0) rfl (Ae ck) (Dd (Acb ⟨_,rfl,λhb=>?_,λhb=>?_⟩))))).mono λc σ ⟨e1,e2⟩=>?_)
 ·have hk0:0 < k:=by have:=of_decide_eq_true hb;lia
  refine Ei (An (v:=.int num 0) rfl (Ae cnu) (Dd (Vc (by decide) ⟨?_,rfl⟩)))
  show Fl (num.fmod 3) 0=.int ((if 0 < k then(num.fmod 3).toNat else 0:Nat):Int) 0
  rw [if_pos hk0,<-hfm.1]
 ·have hk0:¬0 < k:=by have:=of_decide_eq_false hb;lia
  refine Dd ⟨?_,rfl⟩
  show Fl 0 0=.int ((if 0 < k then(num.fmod 3).toNat else 0:Nat):Int) 0
  rw [if_neg hk0]
  rfl
 subst e1
 subst e2
 refine Ao λws hw=>Sa (λrg=>?_) ws hw
 obtain⟨rs1,rs2⟩:=Qo (n:=cnt) (by lia)
 refine(Ni (n:=cnt) (Ae (.head _)) rs1 rs2 λit=>?_)
 let X:List As:=(.obj rg,.rng 0 (cnt:Int) 1)::Y
 refine⟨it,_,_,iv (El cnt),_,X,iv (Nb 3 k num),⟨rfl,rfl,by have:=Pm (Γ:=Γ) (A:=A.deeper (Dc L)) (it:=it) (x:=0) (c:=1) (n:=cnt) hh;rw [Th]at this;exact this⟩,Ut,λext=>trivial,by rw [Cq,Du];lia,by rw [Cq,Cq,Du];unfold Nb;rw [Ap,Du];rfl,?_,λacc=>?_⟩
 ·intro C acc t v u ρ' ys q1 q2
  obtain⟨j,hj,rfl⟩:=Rg q1
  obtain⟨y,hy,rfl⟩:=Rg q2
  obtain⟨hjl,hjv⟩:=Aj.mp hj
  rw [Du]at hjl
  rw [Me]at hjv
  subst hjv
  have hk0:0 < k:=by
   by_cases q:0 < k
   ·exact q
   ·have:cnt=0:=if_neg q
    lia
  have hy':y=(((num.fdiv 3).fdiv (((k+1:Nat):Int) ^ t)).fmod k).toNat:=by
   unfold Nb at hy
   have hj':(El (if 0 < k then(num.fmod (3:Nat)).toNat else 0))[t]? =some t:=hj
   rw [Bc,hj']at hy
   exact(Dh hy).symm
  have hme:=Il (a:=(num.fdiv 3).fdiv (((k+1:Nat):Int) ^ t)) (n:=k) hk0
  obtain⟨p1,p2⟩:=Xy (m:=k+1) (k:=t) ⟨by lia,by lia⟩ (by lia)
  have upX:∀{p:As},p∈Y->p∈ρ'++Tg C acc "turn" (some (.int (t:Int) 0)) ys X:=λhp=>Aa _ (.tail _ (.tail _ (.tail _ hp)))
  refine Ei (Ei (Ei (An (v:=.int num 0) rfl (Ae (upX cnu)) (Dd (Nj (by decide) (by decide) ?_)))))
  refine Ei (Ei (An (v:=.int (k:Int) 0) rfl (Ae (upX ck)) (Dd (Qz ?_))))
  refine Di (v:=.int (t:Int) 0) (Ae (Aa _ (.head _))) (.head _) (sH (a:=((k+1:Nat):Int)) (by lia) (aT (m:=k+1) (by lia) (by lia)) ?_)
  rw [Df]
  refine(Nj p2 p1 ?_)
  refine An (v:=.int (k:Int) 0) rfl (Ae (upX ck)) (Vc (by lia) ⟨?_,rfl⟩)
  rw [hy',<-hme.1]
 ·have hl:=(bA (c:=3) (k:=k) (by decide) num).1
  refine Ao λws hw=>(Uc (ns:=nv (Nb 3 k num)) (hA.le (by decide)) hh (Ae (.head _)) (by rw [Lr];lia) (λr=>?_) ws hw).T
  rw [Sj]
  have hU:Qw Y (.var L "row") (.val rw0) (.val (some (.ref r))) (ρ++V (some (.ref r))):=Qw.pre (.there (.there (.there (.there (.there (.there (.there (.there (.there (.there (.there .here)))))))))))
  exact⟨_,_,.tau (.there (.there (.there hU))),Fb.go (h [_,_,_] r (.head _))⟩
end
end
section
section
variable {Γ:Bj} {A:Aw}
set_option maxHeartbeats 2000000 in
theorem mO {W τ ρ:List As} {L k ab r:Nat} {aas:List Ak} {AB:List (List Nat)} {row:List Nat} {mo on wo nu fa ma sc he ro hr oc sv ns at' kd nm:Option Ab} {Q:Fv->Ay->Prop} (hk:k < 4) (hr':(Er.obj r,CO.list (iv row))∈ρ) (lr:row.length<=4) (hrow:∀o∈row,o < k) (hAB:AB.length=k) (hA4:∀j,(AB.getD j []).length<=10) (rows:Gq (ρ++τ) aas AB) (hA:Rm (A.deeper (Dc L)) 3) (hh:A.handled=none)
  (h:∀ρ' q,(Er.obj q,CO.list (iv (Ck [] (k::row.flatMap λo=>AB.getD o []))))∈ρ'->Q .next ⟨W,ρ'++((.obj ab,.list ((aas++[q]).map .ref))::(ρ++wV L mo on wo nu (some (.int (k:Int) 0)) (some (.ref ab)) fa ma sc he ro (some (.ref r)) hr oc sv ns at' kd nm τ))⟩):
  T Γ (A.deeper (Dc L)) ⟨W,(.obj ab,.list (aas.map .ref))::(ρ++wV L mo on wo nu (some (.int (k:Int) 0)) (some (.ref ab)) fa ma sc he ro (some (.ref r)) hr oc sv ns at' kd nm τ)⟩ (Cm (Ry.drop 3) (Dc L)) Q:=by
 let Y:List As:=(.obj ab,.list (aas.map .ref))::(ρ++wV L mo on wo nu (some (.int (k:Int) 0)) (some (.ref ab)) fa ma sc he ro (some (.ref r)) hr oc sv ns at' kd nm τ)
 have up:∀{p:As},p∈ρ++τ->p∈Y:=λhp=>.tail _ ((Ai.mp hp).elim (λq=>Af _ q) λq=>Aa _ (Aa [_,_,_,_,_,_,_,_,_,_,_,_,_,_,_,_,_,_,_] q))
 have ck:(Er.obj (L+4),CO.cell (some (.int (k:Int) 0)))∈Y:=.tail _ (Aa _ (.tail _ (.tail _ (.tail _ (.tail _ (.head _))))))
 have cab:(Er.obj (L+3),CO.cell (some (.ref ab)))∈Y:=.tail _ (Aa _ (.tail _ (.tail _ (.tail _ (.tail _ (.tail _ (.head _)))))))
 have mrow:(Er.var L "row",CO.val (some (.ref r)))∈Y:=.tail _ (Aa _ (.tail _ (.tail _ (.tail _ (.tail _ (.tail _ (.tail _ (.tail _ (.tail _ (.tail _ (.tail _ (.tail _ (.head _)))))))))))))
 let fl:=row.flatMap λo=>AB.getD o []
 have hfl:fl.length<=40:=by
  have:=Rx (f:=λo=>AB.getD o []) (c:=10) (l:=row) λo _=>hA4 o
  show(List.flatMap _ _).length<=40
  lia
 have hfm:((nv row).flatMap λo=>nv (AB.getD o.toNat []))=nv fl:=bK row (λo=>AB.getD o [])
 have hal:aas.length=k:=by rw [rows.1,hAB]
 show T Γ (A.deeper (Dc L)) ⟨W,Y⟩ _ _
 refine Am (Fy (Fi (An (v:=.ref ab) rfl (Ae cab) (Cz Cr Dp Do (Ik (vs:=aas.map .ref) (Ae (.head _))) ⟨.inr (.inl ⟨_,rfl⟩),?_⟩))))
 refine Ag (Bz (Bk (v:=.ref 473) (by kernel_rfl) ⟨.inl (by kernel_rfl),?_⟩))
 refine Ag (Ei (Hv (Ag (An (v:=.int (k:Int) 0) rfl (Ae ck) (Ao ⟨by rw [Av];exact By rfl,λl1=>?_⟩)))))
 refine xL (ks:=nv row) (f:=λo=>nv (AB.getD o.toNat [])) hh (Ac (v:=.ref r) (Ae (.tail _ mrow)) ⟨r,rfl,rfl,Ae (.tail _ (up (Af _ hr')))⟩) (λo ho C acc ρ2 p ys=>?_) (by rw [hfm,Lr];lia) λacc=>?_
 ·obtain⟨on',rfl,hon⟩:=kS ho
  have hok:=hrow on' hon
  have hb:aas[on']? =some (aas[on']'(by lia)):=Bm _
  have hl:AB[on']? =some (AB.getD on' []):=by rw [Db,Bm (by lia)];rfl
  have hm:=rows.2 on' _ _ hb hl
  exact Bd (An (v:=.ref ab) rfl (Ae (Aa _ (.tail _ (.tail _ (.tail _ cab))))) (Di (v:=.int (on':Int) 0) (Ae (Aa _ (.head _))) (.head _) (Ch (vs:=aas.map .ref) (v:=.ref (aas[on']'(by lia))) (Ae (Aa _ (.tail _ (.tail _ (.tail _ (.head _)))))) (by lia) (by lia) (by rw [Df,Bc,hb];rfl) ⟨_,rfl,rfl,by rw [Df];exact Ae (.tail _ (up hm))⟩)))
 rw [hfm]
 refine(Ww (vs:=[.int (k:Int) 0]) (us:=iv fl) (Ae (.tail _ (.head _))) (Ae (.head _)) (by rw [Cq];simp;lia) λcc=>?_)
 have ecc:[Fl (k:Int) 0]++iv fl=iv (k::fl):=rfl
 rw [ecc]
 refine Ao λws hw=>(Uc (ns:=nv (k::fl)) (hA.le (by decide)) hh (Ae (.head _)) (by rw [Lr];simp;lia) (λq=>?_) ws hw).T
 rw [Sj]
 refine Ao (Lo (vs:=aas.map .ref) (.tau (.there (.there (.there (.there .here))))) (by rw [Ap,Av];lia) ?_)
 refine Fb.go (Ci ?_)
 have:=h [(.obj q,.list (iv (Ck [] (k::fl)))),(.obj cc,.list (iv (k::fl))),(.obj acc,.list (iv fl)),(.obj l1,.list [.int (k:Int) 0])] q (.head _)
 rw [Bh]at this
 exact this
end
end
section
section
variable {Γ:Bj} {A:Aw} {G:List Nd} {X:List As}
set_option maxHeartbeats 2000000 in
theorem qP {AB:List (List Nat)} {τ ρ:List As} {L k fa r:Nat} {z:Nd} {row:List Nat} {mo on wo nu ab ma sc he hr oc sv ns at' kd nm:Option Ab} {Q:Fv->Ay->Prop} (F:Zm G X k AB) (ez:G[0]? =some z) (hk:k < 4) (hr':(Er.obj r,CO.list (iv row))∈ρ) (lr:row.length<=4) (hrow:∀o∈row,o < k) (hnd:row.Nodup) (hA:Rm (A.deeper (Dc L)) 36) (hh:A.handled=none) (hF:AF A ⟨[],[]⟩)
  (h:∀G' X' x ρ',Wd G' X'->Jj (G++[x]) G'->x.C=364->x.key=([31,8,20,5]:List Int).getD k 0->x.bs=row.map (· +1)->(∀j,j < G'.length->Tx G' j)->T Γ (A.deeper (Dc L)) ⟨Bi G'++X',ρ'++((.obj fa,.list (refs G (Cb k)++[.ref x.me]))::(ρ++wV L mo on wo nu (some (.int (k:Int) 0)) ab (some (.ref fa)) ma sc he (some (.ref z.me)) (some (.ref r)) hr oc sv ns at' kd nm τ))⟩ (Cm (Ry.drop 3) (Dc L)) Q):
  T Γ (A.deeper (Dc L)) ⟨Bi G++X,(.obj fa,.list (refs G (Cb k)))::(ρ++wV L mo on wo nu (some (.int (k:Int) 0)) ab (some (.ref fa)) ma sc he (some (.ref z.me)) (some (.ref r)) hr oc sv ns at' kd nm τ)⟩ (Cm (Ry.drop 2) (Dc L)) Q:=by
 let Y:List As:=(.obj fa,.list (refs G (Cb k)))::(ρ++wV L mo on wo nu (some (.int (k:Int) 0)) ab (some (.ref fa)) ma sc he (some (.ref z.me)) (some (.ref r)) hr oc sv ns at' kd nm τ)
 have ck:(Er.obj (L+4),CO.cell (some (.int (k:Int) 0)))∈Y:=.tail _ (Aa _ (.tail _ (.tail _ (.tail _ (.tail _ (.head _))))))
 have cfa:(Er.obj (L+2),CO.cell (some (.ref fa)))∈Y:=.tail _ (Aa _ (.tail _ (.tail _ (.tail _ (.tail _ (.tail _ (.tail _ (.head _))))))))
 have msc:(Er.var L "script",CO.val sc)∈Y:=.tail _ (Aa _ (.tail _ (.tail _ (.tail _ (.tail _ (.tail _ (.tail _ (.tail _ (.tail _ (.head _))))))))))
 have mro:(Er.var L "root",CO.val (some (.ref z.me)))∈Y:=.tail _ (Aa _ (.tail _ (.tail _ (.tail _ (.tail _ (.tail _ (.tail _ (.tail _ (.tail _ (.tail _ (.tail _ (.head _))))))))))))
 have mrow:(Er.var L "row",CO.val (some (.ref r)))∈Y:=.tail _ (Aa _ (.tail _ (.tail _ (.tail _ (.tail _ (.tail _ (.tail _ (.tail _ (.tail _ (.tail _ (.tail _ (.tail _ (.head _)))))))))))))
 have hlen:=F.len
 have hkey:([.int 31 0,.int 8 0,.int 20 0,.int 5 0]:List Ab)[((k:Int)).toNat]? =some (.int (([31,8,20,5]:List Int).getD k 0) 0):=by
  rw [Df]
  exact(by decide:∀k,k < 4->([.int 31 0,.int 8 0,.int 20 0,.int 5 0]:List Ab)[k]? =some (.int (([31,8,20,5]:List Int).getD k 0) 0)) k hk
 show T Γ (A.deeper (Dc L)) ⟨Bi G++X,Y⟩ _ _
 refine Am (Fy (Fi (An (v:=.ref fa) rfl (Ae cfa) (Cz Cr Dp Do (Ik (vs:=refs G (Cb k)) (Ae (.head _))) ⟨.inr (.inl ⟨_,rfl⟩),?_⟩))))
 refine Ag (Bz (Bk (v:=.ref 364) (by kernel_rfl) ⟨.inl (by kernel_rfl),?_⟩))
 refine Ag (Bd (Hv (Ag (Dd (k:=0) (pos:=⟨0,0,0,0⟩) (Ag (Dd (k:=0) (pos:=⟨0,0,0,0⟩) (Ag (Dd (k:=0) (pos:=⟨0,0,0,0⟩) (Ag (Dd (k:=0) (pos:=⟨0,0,0,0⟩) (Ao ⟨by rw [Av];exact By rfl,λdl=>?_⟩)))))))))))
 refine An (v:=.int (k:Int) 0) rfl (Ae (.tail _ ck)) (Gn<|Ch (vs:=[.int 31 0,.int 8 0,.int 20 0,.int 5 0]) (v:=.int (([31,8,20,5]:List Int).getD k 0) 0) (Ae (.head _)) (by lia) (by lia) hkey ?_)
 refine Ag (Bz (Az (v:=.type "tuple") (by kernel_rfl) (by decide+kernel) (by decide) ⟨.inr (.inr ⟨_,rfl⟩),?_⟩))
 let Y1:List As:=(.obj dl,.list [.int 31 0,.int 8 0,.int 20 0,.int 5 0])::Y
 have mr:(Er.obj r,CO.list (iv row))∈Y1:=.tail _ (.tail _ (Af _ hr'))
 refine Ag (Sl (Ac (v:=.ref r) (Ae (.tail _ mrow)) (Eh (vs:=iv row) (Ae mr) λit=>?_)))
 refine⟨it,_,_,iv row,_,Y1,refs G (row.map (· +1)),⟨rfl,rfl,Es (a:=r) (vs:=iv row) hh⟩,Gv,λext=>Ae (Aa _ mr),by rw [Cq];lia,by rw [Cq,Bf,Ap],?_,λbl=>?_⟩
 ·intro C acc t v u ρ' ys q1 q2
  obtain⟨j,hj,rfl⟩:=Rg q1
  have hjk:=hrow j (Fd hj)
  have hu:u=.ref (Fm G (j+1)):=by
   unfold refs at q2
   rw [Bc,Bc,hj]at q2
   exact(Dh q2).symm
  subst hu
  have hfj:(refs G (Cb k))[((j:Int)).toNat]? =some (.ref (Fm G (j+1))):=by
   rw [Df]
   unfold refs
   rw [Bc,Rd hjk]
   rfl
  exact Bd (An (v:=.ref fa) rfl (Ae (Aa _ (.tail _ (.tail _ (.tail _ cfa))))) (Di (v:=.int (j:Int) 0) (Ae (Aa _ (.head _))) (.head _) (Ch (vs:=refs G (Cb k)) (v:=.ref (Fm G (j+1))) (Ae (Aa _ (.tail _ (.tail _ (.tail _ (.head _)))))) (by lia) (by lia) hfj ⟨rfl,rfl⟩)))
 refine Ao λws hw=>Fp (vs:=refs G (row.map (· +1))) (Ae (.head _)) (by rw [Bf,Ap];lia) (λbt=>T.conseq Rn ?_) ws hw
 let Y2:List As:=(.obj bl,.list (refs G (row.map (· +1))))::Y1
 refine Ag (Ac (v:=.ref z.me) (Ae (.tail _ (.tail _ mro))) ?_)
 have hFY:AF (A.deeper (Dc L)) ⟨[],Y2⟩:=hF.push rfl rfl (L:=L) (x:="script") (c:=sc) (.tail _ (.tail _ msc)) λp hp=>by cases hp
 have hk99:([31,8,20,5]:List Int).getD k 0∉G.map (·.key):=by
  rw [F.keys]
  exact(by decide:∀k,k < 4->([31,8,20,5]:List Int).getD k 0∉(99::([31,8,20,5]:List Int).take k)) k hk
 refine Ao λws hw=>(oL (X:=(.obj bt,.tup (refs G (row.map (· +1))))::X) (τ:=Y2) (b:=bt) (key:=([31,8,20,5]:List Int).getD k 0) (root:=.ref z.me) (bs:=row.map (· +1)) (vs:=[.int (([31,8,20,5]:List Int).getD k 0) 0,.ref bt,.ref z.me]) (F.wd.more λe he=>.tail _ he) F.sok hk99 (by lia) (by rw [if_neg (by lia),Br ez]) (.inl (.head _)) ?_ (λq hq=>?_) (hA.le (by decide)) hh hFY (λme=>?_) (λG' X' x w1 w2 w3 w4 w5 w6 w7 w8 w9=>?_) ws hw).T
 ·refine List.pairwise_map.mpr (List.Pairwise.imp ?_ hnd)
  intro a b h e
  exact h (by lia)
 ·obtain⟨o,ho,rfl⟩:=Bn.mp hq
  exact F.C (o+1) (by have:=hrow o ho;lia)
 ·intro ws kws hw hk'
  obtain⟨w₁,w₂,w₃,w₄,rfl,e1,e2,e3,e4⟩:=Zw hw
  have:kws=[]:=by simpa using hk'
  subst this
  exact⟨[("self",w₁),("key",w₂),("bases",w₃),("root",w₄)],by simp [e1,e2,e3,e4],λs X=>kp_binds X λS=>by kernel_rfl⟩
 ·refine Ao (Lo (vs:=refs G (Cb k)) (.tau (.there (.there .here))) (by rw [Bf,Av];unfold Cb;rw [Jw];lia) ?_)
  exact Fb.go (h G' X' x [(.obj bl,.list (refs G (row.map (· +1)))),(.obj dl,.list [.int 31 0,.int 8 0,.int 20 0,.int 5 0])] w1 w2 w3 w4 w5 w9)
end
end
section
theorem Rw {α:Type} {a b:List α} (h:∀ [DecidableEq α] (x:α),a.count x=b.count x):a.Perm b:=by
 classical
 exact List.perm_iff_count.mpr h
theorem wD {α:Type} (r2 r1 rf r v:List α) (a b:α):(r2++((r1++(rf++a::b::r))++v)).Perm (b::((r2++(r1++(rf++a::r)))++v)):=by
 refine Rw λx=>?_
 simp only [Ix,Ke]
 lia
theorem wC {α:Type} (r3 r2 r1 rf r v:List α) (a b:α):(r3++(b::((r2++(r1++(rf++a::r)))++v))).Perm (a::((r3++b::(r2++(r1++(rf++r))))++v)):=by
 refine Rw λx=>?_
 simp only [Ix,Ke]
 lia
theorem wB {α:Type} (r4 r3 r2 r1 rf r v:List α) (a b:α):(r4++(a::((r3++b::(r2++(r1++(rf++r))))++v))).Perm (r1++(rf++a::b::((r4++(r3++(r2++r)))++v))):=by
 refine Rw λx=>?_
 simp only [Ix,Ke]
 lia
theorem fZ (k:Nat):Cb (k+1)=Cb k++[k+1]:=by
 unfold Cb
 rw [List.range'_concat]
 congr 2
 lia
theorem Wz {G G':List Nd} {x:Nd} {l:List Nat} {n:Nat} (K:Gf (G++[x]) G') (hl:G.length=n) (h:∀q∈l,q < n):refs G l++[.ref x.me]=refs G' (l++[n]):=by
 subst hl
 rw [K.refs,Ki,Ue h]
 have:refs (G++[x]) [G.length]=[.ref x.me]:=by
  unfold refs
  rw [List.map_singleton,Br (Rz G x)]
 rw [this]
theorem cL {G G':List Nd} {x:Nd} {k:Nat} (K:Gf (G++[x]) G') (hl:G.length=k+1):refs G (Cb k)++[.ref x.me]=refs G' (Cb (k+1)):=by
 rw [fZ]
 refine Wz K hl λq hq=>?_
 unfold Cb at hq
 rw [List.mem_range'_1]at hq
 lia
theorem Vg {AB:List (List Nat)} {j:Nat} (h:AB.length<=j):AB.getD j []=[]:=by
 rw [Db,Dq h];rfl
theorem Zm.ten {G:List Nd} {X:List As} {k:Nat} {AB:List (List Nat)} (F:Zm G X k AB) (hk:k<=4) (j:Nat):(AB.getD j []).length<=4:=by
 by_cases h:j < k
 ·obtain⟨h1,h2⟩:=F.A j h
  have:=Gh (j+1) _ h1 λo ho=>Nat.lt_succ_of_le (h2 o ho)
  lia
 ·rw [Vg (by rw [F.lenA];lia)]
  exact Ca _
theorem zO {G:List Nd} {X:List As} {x:Nd} (w:Wd G X) (k:Jj [x] G) (hC:x.C=364) (hk:x.key=99) (sok:∀j,j < G.length->Tx G j):Zm G X 0 []:=by
 refine⟨w,sok,by rw [k.i.len];rfl,λj hj=>?_,?_,rfl,λj hj=>by lia,λj hj=>by lia,λj hj=>by lia⟩
 ·have:j=0:=by lia
  subst this
  obtain⟨x',e,hb⟩:=k.at' (i:=0) (x:=x) rfl
  exact⟨x',e,by have:=congrArg Nd.C hb;exact this.trans hC⟩
 ·rw [k.i.keys,Cf,hk]
  rfl
section
variable {Γ:Bj} {A:Aw}
inductive Afh (L sa fa ab rt m:Nat) (he:Option Ab) (τ:List As) (n:Nat) (σ:Ay):Prop
 |mk (G:List Nd) (X:List As) (AB:List (List Nat)) (aas:List Ak) (ρf ρ:List As) (nu kk rw:Option Ab) (F:Zm G X n AB) (ert:Fm G 0=rt) (rows:Gq (ρ++τ) aas AB) (e:σ=⟨Bi G++X,ρf++(.obj ab,.list (aas.map .ref))::(.obj fa,.list (refs G (Cb n)))::(ρ++wV L none none none nu kk (some (.ref ab)) (some (.ref fa)) (some (.int (m:Int) 0)) (some (.ref sa)) he (some (.ref rt)) rw none none none none none none none τ)⟩)
set_option maxHeartbeats 4000000 in
theorem pQ {G0:List Nd} {X0 τ:List As} {L sa fa ab rt m:Nat} {he:Option Ab} {script:List Int} {Q:Fv->Ay->Prop} (F0:Zm G0 X0 0 []) (e0:Fm G0 0=rt) (hm:m<=4)
  (hsc:cV Γ sa (At script)) (hsl:script.length<=63) (hA:Rm (A.deeper (Dc L)) 43) (hh:A.handled=none) (hF:AF A ⟨[],[]⟩)
  (h:∀G X AB aas ρ nu kk rw,Zm G X m AB->Fm G 0=rt->Gq (ρ++τ) aas AB->
   T Γ (A.deeper (Dc L)) ⟨Bi G++X,(.obj ab,.list (aas.map .ref))::(.obj fa,.list (refs G (Cb m)))::(ρ++wV L none none none nu kk (some (.ref ab)) (some (.ref fa)) (some (.int (m:Int) 0)) (some (.ref sa)) he (some (.ref rt)) rw none none none none none none none τ)⟩ (Cm ((fBody (topStmt 31)).drop 6) (Dc L)) Q):
  T Γ (A.deeper (Dc L)) ⟨Bi G0++X0,(.obj ab,.list [])::(.obj fa,.list [])::wV L none none none none none (some (.ref ab)) (some (.ref fa)) (some (.int (m:Int) 0)) (some (.ref sa)) he (some (.ref rt)) none none none none none none none none τ⟩ (Cm ((fBody (topStmt 31)).drop 5) (Dc L)) Q:=by
 let V:Option Ab->Option Ab->Option Ab->List As:=λnu kk rw=>wV L none none none nu kk (some (.ref ab)) (some (.ref fa)) (some (.int (m:Int) 0)) (some (.ref sa)) he (some (.ref rt)) rw none none none none none none none τ
 refine Am (Pt (Bz (Az (v:=.type "range") (by kernel_rfl) (by decide+kernel) (by decide) ⟨.inr (.inr ⟨_,rfl⟩),?_⟩)))
 refine Ag (An (v:=.int (m:Int) 0) rfl (Ae (.tail _ (.tail _ (.tail _ (.tail _ (.tail _ (.tail _ (.tail _ (.tail _ (.tail _ (.head _))))))))))) ?_)
 refine Ao λws hw=>Sa (λrg=>?_) ws hw
 obtain⟨rs1,rs2⟩:=Qo (n:=m) hm
 refine(Ni (n:=m) (Ae (.head _)) rs1 rs2 λit=>?_)
 let RG:As:=(.obj rg,.rng 0 (m:Int) 1)
 refine⟨it,_,_,iv (El m),_,RG::(.obj ab,.list [])::(.obj fa,.list [])::V none none none,⟨rfl,rfl,by have:=Pm (Γ:=Γ) (A:=A.deeper (Dc L)) (it:=it) (x:=0) (c:=1) (n:=m) hh;rw [Th]at this;exact this⟩,
  λd=>Afh L sa fa ab rt m he τ d.length,
  ⟨G0,X0,[],[],[RG],[],none,none,none,F0,e0,⟨rfl,λk b l e1 e2=>by cases e1⟩,rfl⟩,λ_ _ _=>trivial,?_,?_⟩
 ·intro d v r u ρ' σ he' hu zz Kq hK
  obtain⟨ev,hjm⟩:=eH he'
  obtain⟨G,X,AB,aas,ρf,ρ,nu,kk,rw',F,ert,rows,e⟩:=zz
  rw [e]
  rw [ev]at hu
  rw [Ah,Bo]at hK
  generalize d.length=j at *
  have hj4:j < 4:=Pf hjm hm
  obtain⟨z,ez⟩:=Dl (G:=G) (i:=0) (by rw [F.len];exact Nat.succ_pos _)
  have hz:z.me=rt:=by rw [<-Br ez];exact ert
  subst hz
  let EA:As:=(.obj ab,.list (aas.map .ref))
  let EF:As:=(.obj fa,.list (refs G (Cb j)))
  let number:Int:=script.getD (1+j) (j:Int)
  refine Qu (v:=.int (j:Int) 0) (σ':=⟨Bi G++X,ρ'++(ρf++EA::EF::(ρ++V nu (some (.int (j:Int) 0)) rw'))⟩) hu rfl (.tau (.pre (.pre (.there (.there (.pre (.there (.there (.there (.there .here)))))))))) ?_
  have eA:∀nu kk rw',ρ'++(ρf++EA::EF::(ρ++V nu kk rw'))=(ρ'++(ρf++EA::EF::ρ))++V nu kk rw':=λnu kk rw'=>by simp
  rw [eA]
  refine jO (τ:=τ) (ρ:=ρ'++(ρf++EA::EF::ρ)) (k:=j) hsc hsl ?_
  refine uG (ρ:=ρ'++(ρf++EA::EF::ρ)) (k:=j) (num:=number) hj4 (hA.le (by decide)) hh λρ2 r2 hr2=>?_
  let row:List Nat:=Ck [] (Nb 3 j number)
  have hd:=bA (c:=3) (k:=j) (by decide) number
  have hrow:∀o∈row,o < j:=λo ho=>hd.2 o ((Jc _ o).mp ho)
  have hrl:row.length<=4:=by have:=Og (Nb 3 j number) [];show(Ck [] (Nb 3 j number)).length<=4;lia
  let V1:List As:=V (some (.int number 0)) (some (.int (j:Int) 0)) (some (.ref r2))
  refine T.conseq (σ':=⟨Bi G++X,EF::((ρ2++(ρ'++(ρf++EA::ρ)))++V1)⟩) (As.le_perm (Bb _ (wD ρ2 ρ' ρf ρ V1 EA EF))) ?_
  refine qP (ρ:=ρ2++(ρ'++(ρf++EA::ρ))) (z:=z) F ez hj4 (Af _ hr2) hrl hrow (Jb _ _) (hA.le (by decide)) hh hF λG' X' x ρ3 w1 w2 w3 w4 w5 w6=>?_
  have F':=F.step hj4 (row:=row) hrow w1 w2 w3 w4 w5 w6
  let EF':As:=(.obj fa,.list (refs G (Cb j)++[.ref x.me]))
  have eF':=cL w2.i F.len
  refine T.conseq (σ':=⟨Bi G'++X',EA::((ρ3++EF'::(ρ2++(ρ'++(ρf++ρ))))++V1)⟩) (As.le_perm (Bb _ (wC ρ3 ρ2 ρ' ρf ρ V1 EA EF'))) ?_
  have rows':Gq ((ρ3++EF'::(ρ2++(ρ'++(ρf++ρ))))++τ) aas AB:=rows.sub λp hp=>by
   rcases Ai.mp hp with q|q
   ·exact Af _ (Aa _ (.tail _ (Aa _ (Aa _ (Aa _ q)))))
   ·exact Aa _ q
  refine mO (ρ:=ρ3++EF'::(ρ2++(ρ'++(ρf++ρ)))) (row:=row) (aas:=aas) (AB:=AB) hj4 (Aa _ (.tail _ (Af _ hr2))) hrl hrow F.lenA (λq=>Bw (F.ten (by lia) q) (by decide)) rows' (hA.le (by decide)) hh λρ4 q hq=>?_
  let EA':As:=(.obj ab,.list ((aas++[q]).map .ref))
  refine hK .next _ ⟨Bi G'++X',ρf++EA'::EF'::((ρ4++(ρ3++(ρ2++ρ)))++V1),As.le_perm (Bb _ (wB ρ4 ρ3 ρ2 ρ' ρf ρ V1 EA' EF')),G',X',AB++[Ck [] (j::row.flatMap λo=>AB.getD o [])],aas++[q],ρf,ρ4++(ρ3++(ρ2++ρ)),some (.int number 0),some (.int (j:Int) 0),some (.ref r2),F',?_,(rows.sub λp hp=>?_).snoc (Af _ (Af _ hq)),?_⟩
  ·rw [w2.i.me,Su (by rw [F.len];lia)]
   exact ert
  ·exact(Ai.mp hp).elim (λq=>Af _ (Aa _ (Aa _ (Aa _ q)))) (Aa _)
  ·show(⟨Bi G'++X',ρf++EA'::EF'::((ρ4++(ρ3++(ρ2++ρ)))++V1)⟩:Ay)=_
   rw [show EF'=(.obj fa,.list (refs G' (Cb (j+1)))) by rw [<-eF']]
 ·intro σ z
  rw [Cq,Du]at z
  obtain⟨G,X,AB,aas,ρf,ρ,nu,kk,rw',F,ert,rows,e⟩:=z
  rw [e]
  refine Ci ?_
  refine Fb.go ?_
  refine T.conseq (σ':=⟨Bi G++X,(.obj ab,.list (aas.map .ref))::(.obj fa,.list (refs G (Cb m)))::(ρ++V nu kk rw')⟩) (As.le_sub (Bp _ _)) ?_
  exact h G X AB aas ρ nu kk rw' F ert rows
end
end
inductive Ael (G:List Nd) (X:List As) (m:Nat) (row:List Nat) (j:Nat):Prop
 |mk (x:Nd) (e:G[m+1+j]? =some x) (C:x.C=427) (d:x.decl=none) (t:Ak) (h:x.inh=some (.ref t)) (ht:(Er.obj t,CO.tup (refs G (row.map (m+1+ ·))))∈X)
structure Vx (G:List Nd) (X:List As) (m:Nat) (AB:List (List Nat)) (i:Nat) (IH:List (List Nat)):Prop where
 wd:Wd G X
 sok:∀j,j < G.length->Tx G j
 len:G.length=m+1+i
 face:∀k,k < m->∃x,G[k+1]? =some x/\x.C=364
 reach:∀k,k < m->∀j,Ht G (k+1) j↔∃o∈AB.getD k [],j=o+1
 spec:∀j,j < i->Ael G X m (IH.getD j []) j
 due:∀j,j < i->Fx G (m+1+j)=(Ck [] (IH.getD j [])).map (m+1+ ·)
 keys:G.map (·.key)=(99::([31,8,20,5]:List Int).take m)++(El i).map λj:Nat=>100+(j:Int)
 lenI:IH.length=i
 I:∀j,(IH.getD j []).length<=3/\∀k∈IH.getD j [],k < j
theorem Vx.of {G:List Nd} {X:List As} {m:Nat} {AB:List (List Nat)} (F:Zm G X m AB):Vx G X m AB 0 []:=
 ⟨F.wd,F.sok,by rw [F.len],λk hk=>F.C (k+1) (by lia),F.reach,λj hj=>by lia,λj hj=>by lia,by rw [F.keys];simp,rfl,λj=>⟨Ca _,λk hk=>by cases hk⟩⟩
set_option tactic.hygienic true in
theorem Vx.step {G:List Nd} {X:List As} {m i:Nat} {AB IH:List (List Nat)} (S:Vx G X m AB i IH) {G':List Nd} {X' X'':List As} {x y:Nd} {hs:List Nat} {t:Ak} (hl:hs.length<=3) (hlt:∀k∈hs,k < i)
  (w1:Wd G' X') (w2:Jj (G++[x]) G') (hC:x.C=427) (hkey:x.key=100+(i:Int)) (hbs:x.bs=(Ck [] hs).map (m+1+ ·)) (hdecl:x.decl=none) (w4:∀e∈X,e∈X') (w5:∀j,j < G'.length->Tx G' j)
  (ey:G'[m+1+i]? =some y) (w6:∀e∈X',e∈X'') (ht:(Er.obj t,CO.tup (refs G (hs.map (m+1+ ·))))∈X''):
  Vx (G'.set (m+1+i) {y with inh:=some (.ref t)}) X'' m AB (i+1) (IH++[hs]):=by
 have K2:Gf G' (G'.set (m+1+i) {y with inh:=some (.ref t)}):=Ls ey rfl
 have hlen':G'.length=m+1+i+1:=by rw [w2.i.len,Ah,S.len];rfl
 have hb:∀j,Fx (G'.set (m+1+i) {y with inh:=some (.ref t)}) j=if j=m+1+i then(Ck [] hs).map (m+1+ ·)else Fx G j:=λj=>by
  have h1:Fx (G'.set (m+1+i) {y with inh:=some (.ref t)}) j=Fx G' j:=iR ey y.decl (some (.ref t)) j
  rw [h1,w2.bs,eW,S.len,hbs]
 have hlow:∀j,j < m+1->Fx (G'.set (m+1+i) {y with inh:=some (.ref t)}) j=Fx G j:=λj hj=>by rw [hb,if_neg (by lia)]
 have wd2:Wd (G'.set (m+1+i) {y with inh:=some (.ref t)}) X'':=(w1.more w6).setDI ey y.decl (some (.ref t))
 have look:∀(j:Nat) (y0:Nd),j < m+1+i->G[j]? =some y0->∃y',(G'.set (m+1+i) {y with inh:=some (.ref t)})[j]? =some y'/\y'.C=y0.C/\y'.decl=y0.decl/\y'.inh=y0.inh:=λj y0 hj e=>by
  obtain⟨y',e',hb'⟩:=w2.at' (zW (x:=x) e)
  refine⟨y',by rw [Gz (by lia)];exact e',?_,?_,?_⟩
  ·have:=congrArg Nd.C hb';exact this
  ·have:=congrArg Nd.decl hb';exact this
  ·have:=congrArg Nd.inh hb';exact this
 have hI:∀j,(IH++[hs]).getD j []=if j=i then hs else IH.getD j []:=λj=>by rw [Wo,S.lenI]
 have hR:∀l:List Nat,(∀q∈l,q < i)->refs (G'.set (m+1+i) {y with inh:=some (.ref t)}) (l.map (m+1+ ·))=refs G (l.map (m+1+ ·)):=λl h=>by
  rw [K2.refs,w2.i.refs,Ue λq hq=>?_]
  obtain⟨a,ha,rfl⟩:=Bn.mp hq
  have:=h a ha
  rw [S.len];lia
 refine⟨wd2,λj hj=>?_,by rw [K2.len,hlen'];rfl,λk hk=>?_,λk hk j=>?_,λj hj=>?_,λj hj=>?_,?_,by rw [Ah,S.lenI];rfl,λj=>?_⟩
 ·rw [K2.len]at hj
  exact(aX ey y.decl (some (.ref t)) (Rc w1.gr (Bx _) w5 hj)).ok
 ·obtain⟨y0,e0,h0⟩:=S.face k hk
  obtain⟨y',e',c,_⟩:=look (k+1) y0 (by lia) e0
  exact⟨y',e',by rw [c];exact h0⟩
 ·rw [<-S.reach k hk j]
  exact⟨λr=>r.under wd2.gr (n:=m+1) (λj hj=>(hlow j hj).symm) (by lia),λr=>r.under S.wd.gr (n:=m+1) hlow (by lia)⟩
 ·rw [hI]
  by_cases q:j=i
  ·subst q
   rw [if_pos rfl]
   have hat:(G++[x])[m+1+j]? =some x:=by rw [<-S.len];exact Rz G x
   obtain⟨y',e',hb'⟩:=w2.at' hat
   rw [ey]at e'
   cases e'
   have c:y.C=x.C:=by have:=congrArg Nd.C hb';exact this
   have d:y.decl=x.decl:=by have:=congrArg Nd.decl hb';exact this
   refine⟨{y with inh:=some (.ref t)},Ll ey,by show y.C=427;rw [c,hC],by show y.decl=none;rw [d,hdecl],t,rfl,?_⟩
   rw [hR hs hlt]
   exact ht
  ·rw [if_neg q]
   obtain⟨y0,e0,h0,hd,t0,ht0,mem0⟩:=S.spec j (by lia)
   obtain⟨y',e',c,d,n⟩:=look _ y0 (by lia) e0
   refine⟨y',e',by rw [c];exact h0,by rw [d];exact hd,t0,by rw [n];exact ht0,?_⟩
   rw [hR _ λq hq=>by have:=(S.I j).2 q hq;lia]
   exact w6 _ (w4 _ mem0)
 ·rw [hI,hb]
  by_cases q:j=i
  ·subst q
   rw [if_pos rfl,if_pos rfl]
  ·rw [if_neg q,if_neg (by lia)]
   exact S.due j (by lia)
 ·rw [K2.keys,w2.i.keys,Bh,S.keys,List.range_succ,Bh,<-Ax]
  congr 1
  show [x.key]=_
  rw [hkey]
  rfl
 ·rw [hI]
  split
  ·rename_i q
   rw [q]
   exact⟨hl,hlt⟩
  ·exact S.I j
theorem yM (i:Nat):([[],[],[],[]]:List (List Nat)).getD i []=[]:=by
 match i with
 |0|1|2|3=>rfl
 |n+4=>rfl
theorem Vx.key {G:List Nd} {X:List As} {m i:Nat} {AB IH:List (List Nat)} (S:Vx G X m AB i IH) (hm:m<=4) {j:Nat} (hj:j < i):Cu G (m+1+j)=100+(j:Int):=by
 obtain⟨x,ex⟩:=Dl (G:=G) (i:=m+1+j) (by rw [S.len];lia)
 rw [Gd ex]
 have h1:(G.map (·.key))[m+1+j]? =some x.key:=by simp [ex]
 rw [S.keys,Ha (by simp;lia)]at h1
 have h2:(99::([31,8,20,5]:List Int).take m).length=m+1:=by simp;lia
 rw [h2,show m+1+j - (m+1)=j by lia,Bc,List.getElem?_range hj]at h1
 exact(Dh h1).symm
theorem Vx.inv {G:List Nd} {X:List As} {m:Nat} {AB IH:List (List Nat)} (S:Vx G X m AB 4 IH) (hm:m<=4) (hA:AB.length=m) (hA2:∀i,(AB.getD i []).length<=4/\∀k∈AB.getD i [],k < m) (hself:∀k,k < m->k∈AB.getD k []):Va G X m AB [[],[],[],[]] IH:=by
 refine⟨S.wd,S.sok,⟨hm,hA,hA2,rfl,λi=>?_,S.lenI,S.I⟩,by rw [S.len],S.face,S.reach,hself,λi hi=>?_,λi hi=>?_,λj hj=>S.key hm hj⟩
 ·rw [yM];exact⟨.nil,λk hk=>by cases hk⟩
 ·obtain⟨x,ex,hC,hd,t,ht,mt⟩:=S.spec i hi
  refine⟨x,ex,hC,.inl ⟨hd,by rw [yM];rfl⟩,.inr ⟨t,ht,mt⟩,λh=>?_⟩
  rw [ht]at h
  rcases h with h|h<;>cases h
 ·rw [S.due i hi]
  unfold aC
  rw [yM]
  rfl
section
noncomputable abbrev Ud:List Jr:=match(fBody (topStmt 31)).drop 7 with|.For _ _ body _ _::_=>body|_=>[]
section
variable {Γ:Bj} {A:Aw}
set_option maxHeartbeats 2000000 in
theorem jC {W τ ρ:List As} {L sa m i:Nat} {mo wo nu0 kk ab fa he ro rw hr oc sv ns at' kd nm:Option Ab} {script:List Int} {Q:Fv->Ay->Prop} (hsc:cV Γ sa (At script)) (hsl:script.length<=63)
  (h:T Γ (A.deeper (Dc L)) ⟨W,ρ++wV L mo (some (.int (i:Int) 0)) wo (some (.int (script.getD (1+m+i) (i:Int)) 0)) kk ab fa (some (.int (m:Int) 0)) (some (.ref sa)) he ro rw hr oc sv ns at' kd nm τ⟩ (Cm (Ud.drop 1) (Dc L)) Q):
  T Γ (A.deeper (Dc L)) ⟨W,ρ++wV L mo (some (.int (i:Int) 0)) wo nu0 kk ab fa (some (.int (m:Int) 0)) (some (.ref sa)) he ro rw hr oc sv ns at' kd nm τ⟩ (Cm Ud (Dc L)) Q:=by
 let Y:List As:=ρ++wV L mo (some (.int (i:Int) 0)) wo nu0 kk ab fa (some (.int (m:Int) 0)) (some (.ref sa)) he ro rw hr oc sv ns at' kd nm τ
 have up:∀{p:As},p∈τ->p∈Y:=λhp=>Aa _ (Aa [_,_,_,_,_,_,_,_,_,_,_,_,_,_,_,_,_,_,_] hp)
 have msc:(Er.var L "script",CO.val (some (.ref sa)))∈Y:=Aa _ (.tail _ (.tail _ (.tail _ (.tail _ (.tail _ (.tail _ (.tail _ (.tail _ (.head _)))))))))
 have con:(Er.obj (L+7),CO.cell (some (.int (i:Int) 0)))∈Y:=Aa _ (.tail _ (.head _))
 have cm:(Er.obj (L+1),CO.cell (some (.int (m:Int) 0)))∈Y:=Aa _ (.tail _ (.tail _ (.tail _ (.tail _ (.tail _ (.tail _ (.tail _ (.head _))))))))
 have hU:∀v,Qw Y (.obj (L+5)) (.cell nu0) (.cell (some v)) (ρ++wV L mo (some (.int (i:Int) 0)) wo (some v) kk ab fa (some (.int (m:Int) 0)) (some (.ref sa)) he ro rw hr oc sv ns at' kd nm τ):=λv=>Qw.pre (.there (.there (.there .here)))
 have em:(1+(m:Int))+(i:Int)=((1+m+i:Nat):Int):=by lia
 show T Γ (A.deeper (Dc L)) ⟨W,Y⟩ _ _
 refine Am (Ga rfl (Px (Ar (Ei (Ei (Dd (An (v:=.int (m:Int) 0) rfl (Ae cm) (Qz (An (v:=.int (i:Int) 0) rfl (Ae con) (Qz ?_))))))))))
 refine Bz (Az (v:=.builtin "len") (by kernel_rfl) (by decide+kernel) (by decide) ⟨.inr (.inl ⟨_,rfl⟩),?_⟩)
 refine Ag (Ac (v:=.ref sa) (Ae msc) (Ao (Ym (vs:=At script) hsc.has (by rw [Dw];lia) ?_)))
 rw [Dw]
 refine(vO ⟨_,rfl,λhb=>?_,λhb=>?_⟩)
 ·have hlt:1+m+i < script.length:=by have:=of_decide_eq_true hb;lia
  have hg:script.getD (1+m+i) (i:Int)=script[1+m+i]:=by rw [Db,Bm hlt];rfl
  have hna:(At script)[((1+(m:Int))+(i:Int)).toNat]? =some (.int (script.getD (1+m+i) (i:Int)) 0):=by
   rw [show((1+(m:Int))+(i:Int)).toNat=1+m+i by lia,hg]
   unfold At
   rw [Bc,Bm hlt]
   rfl
  exact Bd (Ac (v:=.ref sa) (Ae msc) (Ei (Ei (Dd (An (v:=.int (m:Int) 0) rfl (Ae cm) (Qz (An (v:=.int (i:Int) 0) rfl (Ae con) (Qz (Tq (vs:=At script) (v:=.int (script.getD (1+m+i) (i:Int)) 0) hsc.has (by lia) (by lia) hna ⟨_,_,.tau (hU _),Fb.go h⟩)))))))))
 ·have hge:script.length<=1+m+i:=by have:=of_decide_eq_false hb;lia
  have hg:script.getD (1+m+i) (i:Int)=(i:Int):=by rw [Db,Dq hge];rfl
  rw [hg]at h
  exact An (v:=.int (i:Int) 0) rfl (Ae con) ⟨_,_,.tau (hU _),Fb.go h⟩
set_option maxHeartbeats 2000000 in
theorem lG {W τ ρ:List As} {L k:Nat} {num:Int} {mo wo kk ab fa ma sc he ro rw hr0 oc sv ns at' kd nm:Option Ab} {Q:Fv->Ay->Prop} (hk:k < 4) (hh:A.handled=none)
  (h:∀ρ' r,(Er.obj r,CO.list (iv (Nb 4 k num)))∈ρ'->T Γ (A.deeper (Dc L)) ⟨W,ρ'++(ρ++wV L mo (some (.int (k:Int) 0)) wo (some (.int num 0)) kk ab fa ma sc he ro rw (some (.ref r)) oc sv ns at' kd nm τ)⟩ (Cm (Ud.drop 2) (Dc L)) Q):
  T Γ (A.deeper (Dc L)) ⟨W,ρ++wV L mo (some (.int (k:Int) 0)) wo (some (.int num 0)) kk ab fa ma sc he ro rw hr0 oc sv ns at' kd nm τ⟩ (Cm (Ud.drop 1) (Dc L)) Q:=by
 let V:Option Ab->List As:=λr=>wV L mo (some (.int (k:Int) 0)) wo (some (.int num 0)) kk ab fa ma sc he ro rw r oc sv ns at' kd nm τ
 let Y:List As:=ρ++V hr0
 have cnu:(Er.obj (L+5),CO.cell (some (.int num 0)))∈Y:=Aa _ (.tail _ (.tail _ (.tail _ (.head _))))
 have ck:(Er.obj (L+7),CO.cell (some (.int (k:Int) 0)))∈Y:=Aa _ (.tail _ (.head _))
 have hfm:num.fmod 4=((num.fmod 4).toNat:Nat)/\(num.fmod 4).toNat < 4:=Il (a:=num) (n:=4) (by decide)
 let cnt:Nat:=if 0 < k then(num.fmod 4).toNat else 0
 have hcnt:cnt<=3:=by show(if 0 < k then(num.fmod 4).toNat else 0)<=3;split<;>lia
 show T Γ (A.deeper (Dc L)) ⟨W,Y⟩ _ _
 refine Am (Sf (Bz (Az (v:=.type "range") (by kernel_rfl) (by decide+kernel) (by decide) ⟨.inr (.inr ⟨_,rfl⟩),?_⟩)))
 refine Ag ((Px (pos:=⟨385,74,385,102⟩) (Q:=λc σ=>c=.int (cnt:Int) 0/\σ=⟨W,Y⟩) (Ar (An (v:=.int (k:Int) 0) rfl (Ae ck) (Dd (Acb ⟨_,rfl,λhb=>?_,λhb=>?_⟩))))).mono λc σ ⟨e1,e2⟩=>?_)
 ·have hk0:0 < k:=by have:=of_decide_eq_true hb;lia
  refine Ei (An (v:=.int num 0) rfl (Ae cnu) (Dd (Vc (by decide) ⟨?_,rfl⟩)))
  show Fl (num.fmod 4) 0=.int ((if 0 < k then(num.fmod 4).toNat else 0:Nat):Int) 0
  rw [if_pos hk0,<-hfm.1]
 ·have hk0:¬0 < k:=by have:=of_decide_eq_false hb;lia
  refine Dd ⟨?_,rfl⟩
  show Fl 0 0=.int ((if 0 < k then(num.fmod 4).toNat else 0:Nat):Int) 0
  rw [if_neg hk0]
  rfl
 subst e1
 subst e2
 refine Ao λws hw=>Sa (λrg=>?_) ws hw
 obtain⟨rs1,rs2⟩:=Qo (n:=cnt) (by lia)
 refine(Ni (n:=cnt) (Ae (.head _)) rs1 rs2 λit=>?_)
 let X:List As:=(.obj rg,.rng 0 (cnt:Int) 1)::Y
 refine⟨it,_,_,iv (El cnt),_,X,iv (Nb 4 k num),⟨rfl,rfl,by have:=Pm (Γ:=Γ) (A:=A.deeper (Dc L)) (it:=it) (x:=0) (c:=1) (n:=cnt) hh;rw [Th]at this;exact this⟩,Ut,λext=>trivial,by rw [Cq,Du];lia,by rw [Cq,Cq,Du];unfold Nb;rw [Ap,Du];rfl,?_,λacc=>?_⟩
 ·intro C acc t v u ρ' ys q1 q2
  obtain⟨j,hj,rfl⟩:=Rg q1
  obtain⟨y,hy,rfl⟩:=Rg q2
  obtain⟨hjl,hjv⟩:=Aj.mp hj
  rw [Du]at hjl
  rw [Me]at hjv
  subst hjv
  have hk0:0 < k:=by
   by_cases q:0 < k
   ·exact q
   ·have:cnt=0:=if_neg q
    lia
  have hy':y=(((num.fdiv 4).fdiv (((k+1:Nat):Int) ^ t)).fmod k).toNat:=by
   unfold Nb at hy
   have hj':(El (if 0 < k then(num.fmod (4:Nat)).toNat else 0))[t]? =some t:=hj
   rw [Bc,hj']at hy
   exact(Dh hy).symm
  have hme:=Il (a:=(num.fdiv 4).fdiv (((k+1:Nat):Int) ^ t)) (n:=k) hk0
  obtain⟨p1,p2⟩:=Xy (m:=k+1) (k:=t) ⟨by lia,by lia⟩ (by lia)
  have upX:∀{p:As},p∈Y->p∈ρ'++Tg C acc "turn" (some (.int (t:Int) 0)) ys X:=λhp=>Aa _ (.tail _ (.tail _ (.tail _ hp)))
  refine Ei (Ei (Ei (An (v:=.int num 0) rfl (Ae (upX cnu)) (Dd (Nj (by decide) (by decide) ?_)))))
  refine Ei (Ei (An (v:=.int (k:Int) 0) rfl (Ae (upX ck)) (Dd (Qz ?_))))
  refine Di (v:=.int (t:Int) 0) (Ae (Aa _ (.head _))) (.head _) (sH (a:=((k+1:Nat):Int)) (by lia) (aT (m:=k+1) (by lia) (by lia)) ?_)
  rw [Df]
  refine(Nj p2 p1 ?_)
  refine An (v:=.int (k:Int) 0) rfl (Ae (upX ck)) (Vc (by lia) ⟨?_,rfl⟩)
  rw [hy',<-hme.1]
 ·have hU:Qw Y (.var L "heirs") (.val hr0) (.val (some (.ref acc))) (ρ++V (some (.ref acc))):=Qw.pre (.there (.there (.there (.there (.there (.there (.there (.there (.there (.there (.there (.there .here))))))))))))
  exact⟨_,_,.tau (.there (.there hU)),Fb.go (h [_,_] acc (.head _))⟩
end
end
section
theorem hV (G:List Nd) {m i j:Nat} (h:j < i):(refs G (De (m+1) i))[((j:Int)).toNat]? =some (.ref (Fm G (m+1+j))):=by
 rw [Df]
 unfold refs
 rw [Bc,Kv h]
 simp
theorem iA {G:List Nd} {l:List Nat} {f:Nat->Nat} {k j:Nat} {u:Ab} (h:(refs G (l.map f))[k]? =some u) (e:l[k]? =some j):u=.ref (Fm G (f j)):=by
 unfold refs at h
 rw [Bc,Bc,e]at h
 exact(Dh h).symm
theorem cK {G G':List Nd} {x:Nd} {m i:Nat} (K:Gf (G++[x]) G') (hl:G.length=m+1+i):refs G (De (m+1) i)++[.ref x.me]=refs G' (De (m+1) (i+1)):=by
 rw [List.range'_concat,Nat.one_mul]
 refine Wz K hl λq hq=>?_
 rw [List.mem_range'_1]at hq
 lia
section
variable {Γ:Bj} {A:Aw} {G:List Nd} {X:List As}
set_option maxHeartbeats 4000000 in
theorem pA {AB IH:List (List Nat)} {τ ρ:List As} {L w fa ab sp de ih hl rt m i:Nat} {num:Int} {has:List Ak} {mo nu kk fa' ab' ma sc he rw oc0 sv0 ns at' kd nm:Option Ab} {Q:Fv->Ay->Prop} (S:Vx G X m AB i IH) (hm:m<=4) (ert:Fm G 0=rt) (hi:i < 4)
  (hw:(Er.obj w,CO.sdict (Vi fa ab sp de ih))∈τ) (hhl:(Er.obj hl,CO.list (iv (Nb 4 i num)))∈ρ) (hlen:has.length=i) (hA:Rm (A.deeper (Dc L)) 43) (hh:A.handled=none) (hF:AF A ⟨[],[]⟩)
  (h:∀G2 X2 ρ5 oc sv,Vx G2 X2 m AB (i+1) (IH++[Nb 4 i num])->(∀j,j < m+1+i->Fm G2 j=Fm G j)->
   Q .next ⟨Bi G2++X2,ρ5++((.obj ih,.list ((has++[hl]).map .ref))::(.obj sp,.list (refs G2 (De (m+1) (i+1))))::(ρ++wV L mo (some (.int (i:Int) 0)) (some (.ref w)) nu kk ab' fa' ma sc he (some (.ref rt)) rw (some (.ref hl)) oc sv ns at' kd nm τ))⟩):
  T Γ (A.deeper (Dc L)) ⟨Bi G++X,(.obj ih,.list (has.map .ref))::(.obj sp,.list (refs G (De (m+1) i)))::(ρ++wV L mo (some (.int (i:Int) 0)) (some (.ref w)) nu kk ab' fa' ma sc he (some (.ref rt)) rw (some (.ref hl)) oc0 sv0 ns at' kd nm τ)⟩ (Cm (Ud.drop 2) (Dc L)) Q:=by
 let V:Option Ab->Option Ab->List As:=λoc sv=>wV L mo (some (.int (i:Int) 0)) (some (.ref w)) nu kk ab' fa' ma sc he (some (.ref rt)) rw (some (.ref hl)) oc sv ns at' kd nm τ
 let Y:Option Ab->Option Ab->List As:=λoc sv=>(.obj ih,.list (has.map .ref))::(.obj sp,.list (refs G (De (m+1) i)))::(ρ++V oc sv)
 have con:∀oc sv,(Er.obj (L+7),CO.cell (some (.int (i:Int) 0)))∈Y oc sv:=λoc sv=>.tail _ (.tail _ (Aa _ (.tail _ (.head _))))
 have cwo:∀oc sv,(Er.obj (L+6),CO.cell (some (.ref w)))∈Y oc sv:=λoc sv=>.tail _ (.tail _ (Aa _ (.tail _ (.tail _ (.head _)))))
 have msc:∀oc sv,(Er.var L "script",CO.val sc)∈Y oc sv:=λoc sv=>.tail _ (.tail _ (Aa _ (.tail _ (.tail _ (.tail _ (.tail _ (.tail _ (.tail _ (.tail _ (.tail _ (.head _)))))))))))
 have mro:∀oc sv,(Er.var L "root",CO.val (some (.ref rt)))∈Y oc sv:=λoc sv=>.tail _ (.tail _ (Aa _ (.tail _ (.tail _ (.tail _ (.tail _ (.tail _ (.tail _ (.tail _ (.tail _ (.tail _ (.tail _ (.head _)))))))))))))
 have mhr:∀oc sv,(Er.var L "heirs",CO.val (some (.ref hl)))∈Y oc sv:=λoc sv=>.tail _ (.tail _ (Aa _ (.tail _ (.tail _ (.tail _ (.tail _ (.tail _ (.tail _ (.tail _ (.tail _ (.tail _ (.tail _ (.tail _ (.tail _ (.head _)))))))))))))))
 have moc:∀oc sv,(Er.var L "once",CO.val oc)∈Y oc sv:=λoc sv=>.tail _ (.tail _ (Aa _ (.tail _ (.tail _ (.tail _ (.tail _ (.tail _ (.tail _ (.tail _ (.tail _ (.tail _ (.tail _ (.tail _ (.tail _ (.tail _ (.head _))))))))))))))))
 have msv:∀oc sv,(Er.var L "spec",CO.val sv)∈Y oc sv:=λoc sv=>.tail _ (.tail _ (Aa _ (.tail _ (.tail _ (.tail _ (.tail _ (.tail _ (.tail _ (.tail _ (.tail _ (.tail _ (.tail _ (.tail _ (.tail _ (.tail _ (.tail _ (.head _)))))))))))))))))
 have mw:∀oc sv,(Er.obj w,CO.sdict (Vi fa ab sp de ih))∈Y oc sv:=λoc sv=>.tail _ (.tail _ (Aa _ (Aa [_,_,_,_,_,_,_,_,_,_,_,_,_,_,_,_,_,_,_] hw)))
 have mhl:∀oc sv,(Er.obj hl,CO.list (iv (Nb 4 i num)))∈Y oc sv:=λoc sv=>.tail _ (.tail _ (Af _ hhl))
 have msp:∀oc sv,(Er.obj sp,CO.list (refs G (De (m+1) i)))∈Y oc sv:=λoc sv=>.tail _ (.head _)
 have hdr:=bA (c:=4) (k:=i) (by decide) num
 let hs:List Nat:=Nb 4 i num
 have hlS:=S.len
 show T Γ (A.deeper (Dc L)) ⟨Bi G++X,Y oc0 sv0⟩ _ _
 refine Am (Sf (Bz (Bk (v:=.ref 473) (by kernel_rfl) ⟨.inl (by kernel_rfl),?_⟩)))
 refine Ag (Ac (v:=.ref hl) (Ae (mhr _ _)) ?_)
 refine Ao λws hw'=>(Uc (τ:=Y oc0 sv0) (ns:=nv hs) (hA.le (by decide)) hh (Ae (mhl _ _)) (by rw [Lr];show(Nb 4 i num).length<=_;lia) (λrr=>?_) ws hw').T
 rw [Sj]
 let os:List Nat:=Ck [] hs
 have hos:∀o∈os,o < i:=λo ho=>hdr.2 o ((Jc _ o).mp ho)
 have hol:os.length<=3:=by have:=Og hs [];have:hs.length < 4:=hdr.1;show(Ck [] hs).length<=3;lia
 refine(Eh (vs:=iv os) (Ae (.head _)) λit=>?_)
 refine⟨it,_,_,iv os,_,(.obj rr,.list (iv os))::Y oc0 sv0,refs G (os.map (m+1+ ·)),⟨rfl,rfl,Es (a:=rr) (vs:=iv os) hh⟩,Gv,λext=>Ae (Aa _ (.head _)),by rw [Cq];lia,by rw [Cq,Bf,Ap],?_,λol=>?_⟩
 ·intro C acc t v u ρ' ys q1 q2
  obtain⟨j,hj,rfl⟩:=Rg q1
  have hji:=hos j (Fd hj)
  have hu:=iA q2 hj
  subst hu
  have upY:∀{p:As},p∈Y oc0 sv0->p∈ρ'++Tg C acc "other" (some (.int (j:Int) 0)) ys ((.obj rr,.list (iv os))::Y oc0 sv0):=λhp=>Aa _ (.tail _ (.tail _ (.tail _ hp)))
  refine Bd (Bd (An (v:=.ref w) rfl (Ae (upY (cwo _ _))) (Kg (Ee (Ae (upY (mw _ _))) (v:=.ref sp) (by rfl) ?_))))
  exact Di (v:=.int (j:Int) 0) (Ae (Aa _ (.head _))) (.head _) (Gn<|Ch (vs:=refs G (De (m+1) i)) (v:=.ref (Fm G (m+1+j))) (Ae (upY (msp _ _))) (by lia) (by lia) (hV G hji) ⟨rfl,rfl⟩)
 let P1:List As:=[(.obj ol,.list (refs G (os.map (m+1+ ·)))),(.obj rr,.list (iv os))]
 refine⟨oc0,⟨Bi G++X,P1++Y (some (.ref ol)) sv0⟩,.tau (.there (.there (.there (.there (.pre (.there (.there (.there (.there (.there (.there (.there (.there (.there (.there (.there (.there (.there .here)))))))))))))))))),Fb.go ?_⟩
 let Y1:List As:=P1++Y (some (.ref ol)) sv0
 show T Γ (A.deeper (Dc L)) ⟨Bi G++X,Y1⟩ _ _
 have up1:∀{p:As},p∈Y (some (.ref ol)) sv0->p∈Y1:=λhp=>.tail _ (.tail _ hp)
 refine Am (Bl (Bz (Bk (v:=.ref 427) (by kernel_rfl) ⟨.inl (by kernel_rfl),?_⟩)))
 refine Ag (Ei (Dd (An (v:=.int (i:Int) 0) rfl (Ae (up1 (con _ _))) (Qz ?_))))
 refine Ag (Ac (v:=.ref ol) (Ae (up1 (moc _ _))) (Ag (Ac (v:=.ref rt) (Ae (up1 (mro _ _))) ?_)))
 have hFY:AF (A.deeper (Dc L)) ⟨[],Y1⟩:=hF.push rfl rfl (L:=L) (x:="script") (c:=sc) (up1 (msc _ _)) λp hp=>by cases hp
 have hkn:(100+(i:Int))∉G.map (·.key):=by
  rw [S.keys,Ai,Ce,Bn]
  rintro((q|q)|⟨a,ha,e⟩)
  ·lia
  ·have:=List.mem_of_mem_take q
   simp at this
   lia
  ·rw [Lu]at ha
   lia
 refine Ao λws hw'=>(zS (τ:=Y1) (b:=ol) (key:=100+(i:Int)) (root:=.ref rt) (bs:=os.map (m+1+ ·)) S.wd S.sok hkn (by lia) (by rw [if_neg (by lia),ert]) (Ae (.head _)) ?_ (λq hq=>?_) (hA.le (by decide)) hh hFY (λG' X' x w1 w2 w3 w4 w5 w6 w7 w8 w9=>?_) ws hw').T
 ·refine List.pairwise_map.mpr (List.Pairwise.imp ?_ (Jb hs []))
  intro a b h e
  exact h (by lia)
 ·obtain⟨o,ho,rfl⟩:=Bn.mp hq
  have:=hos o ho
  lia
 have hlen':G'.length=m+1+i+1:=by rw [w2.i.len,Ah,S.len];rfl
 obtain⟨y,ey,hby⟩:=w2.at' (i:=m+1+i) (x:=x) (by rw [<-S.len];exact Rz G x)
 have my:y.me=x.me:=by have:=congrArg Nd.me hby;exact this
 have cy:y.C=427:=by have:=congrArg Nd.C hby;exact this.trans w3
 have ny:y.inh=none:=by have:=congrArg Nd.inh hby;exact this.trans w7
 let Y2:List As:=P1++Y (some (.ref ol)) (some (.ref x.me))
 have up2:∀{p:As},p∈Y (some (.ref ol)) (some (.ref x.me))->p∈Y2:=λhp=>.tail _ (.tail _ hp)
 refine⟨sv0,⟨Bi G'++X',Y2⟩,.tau (.there (.there (.there (.there (.pre (.there (.there (.there (.there (.there (.there (.there (.there (.there (.there (.there (.there (.there (.there .here))))))))))))))))))),Fb.go ?_⟩
 refine Am (Dj (Bz (Az (v:=.type "tuple") (by kernel_rfl) (by decide+kernel) (by decide) ⟨.inr (.inr ⟨_,rfl⟩),?_⟩)))
 refine Ag (Sl (Ac (v:=.ref hl) (Ae (up2 (mhr _ _))) (Eh (vs:=iv hs) (Ae (up2 (mhl _ _))) λit=>?_)))
 refine⟨it,_,_,iv hs,_,Y2,refs G (hs.map (m+1+ ·)),⟨rfl,rfl,Es (a:=hl) (vs:=iv hs) hh⟩,Gv,λext=>Ae (Aa _ (up2 (mhl _ _))),by rw [Cq];show(Nb 4 i num).length<=_;lia,by rw [Cq,Bf,Ap],?_,λbl=>?_⟩
 ·intro C acc t v u ρ' ys q1 q2
  obtain⟨j,hj,rfl⟩:=Rg q1
  have hji:=hdr.2 j (Fd hj)
  have hu:=iA q2 hj
  subst hu
  have upY:∀{p:As},p∈Y (some (.ref ol)) (some (.ref x.me))->p∈ρ'++Tg C acc "other" (some (.int (j:Int) 0)) ys Y2:=λhp=>Aa _ (.tail _ (.tail _ (up2 hp)))
  refine Bd (Bd (An (v:=.ref w) rfl (Ae (upY (cwo _ _))) (Kg (Ee (Ae (upY (mw _ _))) (v:=.ref sp) (by rfl) ?_))))
  exact Di (v:=.int (j:Int) 0) (Ae (Aa _ (.head _))) (.head _) (Gn<|Ch (vs:=refs G (De (m+1) i)) (v:=.ref (Fm G (m+1+j))) (Ae (upY (msp _ _))) (by lia) (by lia) (hV G hji) ⟨rfl,rfl⟩)
 refine Ao λws hw'=>Fp (vs:=refs G (hs.map (m+1+ ·))) (Ae (.head _)) (by rw [Bf,Ap];show(Nb 4 i num).length<=_;lia) (λbt=>T.conseq Rn ?_) ws hw'
 let X2:List As:=(.obj bt,.tup (refs G (hs.map (m+1+ ·))))::X'
 have wx2:Wd G' X2:=w1.more λe he=>.tail _ he
 refine Ac (v:=.ref x.me) (Ae (.tail _ (up2 (msv _ _)))) λv ov hv ho=>fH (x:=y) (x':={y with inh:=some (.ref bt)}) wx2.wx ey cy (by rw [ho,my]) hv (eO Γ) (sM y _) rfl ?_
 refine Fb.go ?_
 let G2:List Nd:=G'.set (m+1+i) {y with inh:=some (.ref bt)}
 have S2:Vx G2 X2 m AB (i+1) (IH++[hs]):=S.step (by have:hs.length < 4:=hdr.1;lia) hdr.2 w1 w2 w3 w4 w5 w6 w8 w9 ey (λe he=>.tail _ he) (.head _)
 have hme:∀j,j < m+1+i->Fm G2 j=Fm G j:=λj hj=>by
  have K2:Gf G' G2:=Ls ey rfl
  rw [K2.me,w2.i.me,Su (by rw [S.len];exact hj)]
 have hsp2:refs G (De (m+1) i)++[.ref x.me]=refs G2 (De (m+1) (i+1)):=by
  have K2:Gf G' G2:=Ls ey rfl
  rw [K2.refs]
  exact cK w2.i S.len
 let P2:List As:=(.obj bl,.list (refs G (hs.map (m+1+ ·))))::P1
 let EI:As:=(.obj ih,.list (has.map .ref))
 let ES:As:=(.obj sp,.list (refs G (De (m+1) i)++[.ref x.me]))
 let V3:List As:=ρ++V (some (.ref ol)) (some (.ref x.me))
 have up3:∀{p:As},p∈Y (some (.ref ol)) (some (.ref x.me))->p∈P2++Y (some (.ref ol)) (some (.ref x.me)):=λhp=>Aa _ hp
 show T Γ (A.deeper (Dc L)) ⟨Bi G2++X2,P2++Y (some (.ref ol)) (some (.ref x.me))⟩ _ _
 refine Am (Fy (Fi (Bd (An (v:=.ref w) rfl (Ae (up3 (cwo _ _))) (Kg (Ee (Ae (up3 (mw _ _))) (v:=.ref sp) (by rfl) (Cz Cr Dp Do (Ik (vs:=refs G (De (m+1) i)) (Ae (up3 (msp _ _)))) ⟨.inr (.inl ⟨_,rfl⟩),?_⟩)))))))
 refine Ag (Ac (v:=.ref x.me) (Ae (up3 (msv _ _))) (Ao (Lo (vs:=refs G (De (m+1) i)) (σ':=⟨Bi G2++X2,P2++EI::ES::V3⟩) (.tau (.there (.there (.there (.there .here))))) (by rw [Bf,Av,Jw];lia) ?_)))
 refine Fb.go ?_
 have upI:∀{p:As},p∈V3->p∈P2++EI::ES::V3:=λhp=>Aa _ (.tail _ (.tail _ hp))
 have cwo3:(Er.obj (L+6),CO.cell (some (.ref w)))∈V3:=Aa _ (.tail _ (.tail _ (.head _)))
 have mw3:(Er.obj w,CO.sdict (Vi fa ab sp de ih))∈V3:=Aa _ (Aa [_,_,_,_,_,_,_,_,_,_,_,_,_,_,_,_,_,_,_] hw)
 have mhr3:(Er.var L "heirs",CO.val (some (.ref hl)))∈V3:=Aa _ (.tail _ (.tail _ (.tail _ (.tail _ (.tail _ (.tail _ (.tail _ (.tail _ (.tail _ (.tail _ (.tail _ (.tail _ (.head _)))))))))))))
 refine Am (Fy (Fi (Bd (An (v:=.ref w) rfl (Ae (upI cwo3)) (Kg (Ee (Ae (upI mw3)) (v:=.ref ih) (by rfl) (Cz Cr Dp Do (Ik (vs:=has.map .ref) (Ae (.tail _ (.tail _ (.tail _ (.head _)))))) ⟨.inr (.inl ⟨_,rfl⟩),?_⟩)))))))
 refine Ag (Ac (v:=.ref hl) (Ae (upI mhr3)) (Ao (Lo (vs:=has.map .ref) (σ':=⟨Bi G2++X2,P2++(Er.obj ih,CO.list (has.map Bt++[Bt hl]))::ES::V3⟩) (.tau (.there (.there (.there .here)))) (by rw [Ap,Av];lia) ?_)))
 refine Fb.go (Ci ?_)
 have:=h G2 X2 P2 (some (.ref ol)) (some (.ref x.me)) S2 hme
 rw [Bh,<-hsp2]at this
 exact this
end
end
section
theorem wA {α:Type} (r2 r1 rf r v:List α) (a b:α):(r2++((r1++(rf++a::b::r))++v)).Perm (a::b::((r2++(r1++(rf++r)))++v)):=by
 refine Rw λx=>?_
 simp only [Ix,Ke]
 lia
theorem vZ {α:Type} (r5 r2 r1 rf r v:List α) (a b:α):(r5++(a::b::((r2++(r1++(rf++r)))++v))).Perm (r1++(rf++a::b::((r5++(r2++r))++v))):=by
 refine Rw λx=>?_
 simp only [Ix,Ke]
 lia
section
variable {Γ:Bj} {A:Aw}
inductive Aek (G0:List Nd) (AB:List (List Nat)) (L w sa fa ab sp ih rt m:Nat) (kk rw he:Option Ab) (τ:List As) (n:Nat) (σ:Ay):Prop
 |mk (G:List Nd) (X:List As) (IH:List (List Nat)) (has:List Ak) (ρf ρ:List As) (on nu hr oc sv:Option Ab) (S:Vx G X m AB n IH) (hme:∀j,j < m+1->Fm G j=Fm G0 j) (rows:Gq ρ has IH)
  (e:σ=⟨Bi G++X,ρf++(.obj ih,.list (has.map .ref))::(.obj sp,.list (refs G (De (m+1) n)))::(ρ++wV L none on (some (.ref w)) nu kk (some (.ref ab)) (some (.ref fa)) (some (.int (m:Int) 0)) (some (.ref sa)) he (some (.ref rt)) rw hr oc sv none none none none τ)⟩)
set_option maxHeartbeats 4000000 in
theorem pP {G0:List Nd} {X0 τ:List As} {AB:List (List Nat)} {L w sa fa ab sp de ih rt m:Nat} {nu0 kk rw he:Option Ab} {script:List Int} {Q:Fv->Ay->Prop} (F0:Zm G0 X0 m AB) (e0:Fm G0 0=rt) (hm:m<=4)
  (hw:(Er.obj w,CO.sdict (Vi fa ab sp de ih))∈τ) (hsc:cV Γ sa (At script)) (hsl:script.length<=63) (hA:Rm (A.deeper (Dc L)) 43) (hh:A.handled=none) (hF:AF A ⟨[],[]⟩)
  (h:∀G X IH has ρ on nu hr oc sv,Vx G X m AB 4 IH->(∀j,j < m+1->Fm G j=Fm G0 j)->Gq ρ has IH->
   T Γ (A.deeper (Dc L)) ⟨Bi G++X,(.obj ih,.list (has.map .ref))::(.obj sp,.list (refs G (De (m+1) 4)))::(ρ++wV L none on (some (.ref w)) nu kk (some (.ref ab)) (some (.ref fa)) (some (.int (m:Int) 0)) (some (.ref sa)) he (some (.ref rt)) rw hr oc sv none none none none τ)⟩ (Cm ((fBody (topStmt 31)).drop 8) (Dc L)) Q):
  T Γ (A.deeper (Dc L)) ⟨Bi G0++X0,(.obj ih,.list [])::(.obj sp,.list [])::wV L none none (some (.ref w)) nu0 kk (some (.ref ab)) (some (.ref fa)) (some (.int (m:Int) 0)) (some (.ref sa)) he (some (.ref rt)) rw none none none none none none none τ⟩ (Cm ((fBody (topStmt 31)).drop 7) (Dc L)) Q:=by
 let V:Option Ab->Option Ab->Option Ab->Option Ab->Option Ab->List As:=λon nu hr oc sv=>wV L none on (some (.ref w)) nu kk (some (.ref ab)) (some (.ref fa)) (some (.int (m:Int) 0)) (some (.ref sa)) he (some (.ref rt)) rw hr oc sv none none none none τ
 refine Am (Pt (Bz (Az (v:=.type "range") (by kernel_rfl) (by decide+kernel) (by decide) ⟨.inr (.inr ⟨_,rfl⟩),?_⟩)))
 refine Ag (Dd (k:=0) (pos:=⟨0,0,0,0⟩) ?_)
 refine Ao λws hws=>Sa (λrg=>?_) ws hws
 obtain⟨rs1,rs2⟩:=Qo (n:=4) (Bx _)
 refine(Ni (n:=4) (Ae (.head _)) rs1 rs2 λit=>?_)
 let RG:As:=(.obj rg,.rng 0 4 1)
 refine⟨it,_,_,iv (El 4),_,RG::(.obj ih,.list [])::(.obj sp,.list [])::V none nu0 none none none,⟨rfl,rfl,by have:=Pm (Γ:=Γ) (A:=A.deeper (Dc L)) (it:=it) (x:=0) (c:=1) (n:=4) hh;rw [Th]at this;exact this⟩,
  λd=>Aek G0 AB L w sa fa ab sp ih rt m kk rw he τ d.length,
  ⟨G0,X0,[],[],[RG],[],none,nu0,none,none,none,.of F0,λ_ _=>rfl,⟨rfl,λk b l e1 e2=>by cases e1⟩,rfl⟩,λ_ _ _=>trivial,?_,?_⟩
 ·intro d v r u ρ' σ he' hu zz Kq hK
  obtain⟨ev,hj4⟩:=eH he'
  obtain⟨G,X,IH,has,ρf,ρ,on,nu,hr,oc,sv,S,hme,rows,e⟩:=zz
  rw [e]
  rw [ev]at hu
  rw [Ah,Bo]at hK
  generalize d.length=j at *
  let EI:As:=(.obj ih,.list (has.map .ref))
  let ES:As:=(.obj sp,.list (refs G (De (m+1) j)))
  let number:Int:=script.getD (1+m+j) (j:Int)
  refine Qu (v:=.int (j:Int) 0) (σ':=⟨Bi G++X,ρ'++(ρf++EI::ES::(ρ++V (some (.int (j:Int) 0)) nu hr oc sv))⟩) hu rfl (.tau (.pre (.pre (.there (.there (.pre (.there .here))))))) ?_
  have eA:∀on nu hr oc sv,ρ'++(ρf++EI::ES::(ρ++V on nu hr oc sv))=(ρ'++(ρf++EI::ES::ρ))++V on nu hr oc sv:=λon nu hr oc sv=>by simp
  rw [eA]
  refine jC (τ:=τ) (ρ:=ρ'++(ρf++EI::ES::ρ)) (i:=j) hsc hsl ?_
  refine lG (ρ:=ρ'++(ρf++EI::ES::ρ)) (k:=j) (num:=number) hj4 hh λρ2 r2 hr2=>?_
  let V1:List As:=V (some (.int (j:Int) 0)) (some (.int number 0)) (some (.ref r2)) oc sv
  refine T.conseq (σ':=⟨Bi G++X,EI::ES::((ρ2++(ρ'++(ρf++ρ)))++V1)⟩) (As.le_perm (Bb _ (wA ρ2 ρ' ρf ρ V1 EI ES))) ?_
  refine pA (ρ:=ρ2++(ρ'++(ρf++ρ))) (num:=number) S hm (by rw [hme 0 (by lia)];exact e0) hj4 hw (Af _ hr2) (by rw [rows.1,S.lenI]) hA hh hF λG2 X2 ρ5 oc' sv' S2 hme2=>?_
  refine hK .next _ ⟨Bi G2++X2,ρf++(.obj ih,.list ((has++[r2]).map .ref))::(.obj sp,.list (refs G2 (De (m+1) (j+1))))::((ρ5++(ρ2++ρ))++V (some (.int (j:Int) 0)) (some (.int number 0)) (some (.ref r2)) oc' sv'),As.le_perm (Bb _ (vZ ρ5 ρ2 ρ' ρf ρ (V (some (.int (j:Int) 0)) (some (.int number 0)) (some (.ref r2)) oc' sv') _ _)),G2,X2,IH++[Nb 4 j number],has++[r2],ρf,ρ5++(ρ2++ρ),_,_,_,oc',sv',S2,λq hq=>?_,(rows.sub λp hp=>Aa _ (Aa _ hp)).snoc (Aa _ (Af _ hr2)),rfl⟩
  rw [hme2 q (by lia),hme q hq]
 ·intro σ z
  rw [Cq,Du]at z
  obtain⟨G,X,IH,has,ρf,ρ,on,nu,hr,oc,sv,S,hme,rows,e⟩:=z
  rw [e]
  refine Ci ?_
  refine Fb.go ?_
  refine T.conseq (σ':=⟨Bi G++X,(.obj ih,.list (has.map .ref))::(.obj sp,.list (refs G (De (m+1) 4)))::(ρ++V on nu hr oc sv)⟩) (As.le_sub (Bp _ _)) ?_
  exact h G X IH has ρ on nu hr oc sv S hme rows
end
end
section
theorem yX {α:Type} (w i de d3 d2 d1 d0 s a f:α) (r v t:List α):(w::i::de::d3::d2::d1::d0::s::((a::f::r)++(v++t))).Perm (i::s::(v++(w::de::d3::d2::d1::d0::a::f::(r++t)))):=by
 refine Rw λx=>?_
 simp only [Ix,Ke]
 lia
theorem yY {α:Type} (w i de d3 d2 d1 d0 s a f:α) (r v t:List α):(i::s::(r++(v++(w::de::d3::d2::d1::d0::a::f::t)))).Perm (de::i::(r++(v++(s::w::d3::d2::d1::d0::a::f::t)))):=by
 refine Rw λx=>?_
 simp only [Ix,Ke]
 lia
section
variable {Γ:Bj} {A:Aw}
set_option maxHeartbeats 4000000 in
theorem tO {τ:List As} {L sa:Ak} {script:List Int} {Q:Fv->Ay->Prop} (hsc:cV Γ sa (At script)) (hsl:script.length<=63) (hA:Rm (A.deeper (Dc L)) 43) (hh:A.handled=none) (hF:AF A ⟨[],[]⟩) (h:∀σ,Q (.ret (.bool true)) σ):
  T Γ (A.deeper (Dc L)) ⟨[],wV L none none none none none none none none (some (.ref sa)) none none none none none none none none none none τ⟩ (Cm (fBody (topStmt 31)) (Dc L)) Q:=by
 obtain⟨m1,m2,_⟩:=oE script
 refine pO hsc hsl hA hh hF λG X x fa ab w1 w2 w3 w4 w5 w6 w7 w8=>?_
 have e0:Fm G 0=x.me:=by rw [w2.i.me];rfl
 refine pQ (m:=Pa script) (zO w1 w2 w3 w4 w8) e0 m2 hsc hsl hA hh hF λG1 X1 AB aas ρ nu kk rw F ert rows=>?_
 refine pN (ρ:=(.obj ab,.list (aas.map .ref))::(.obj fa,.list (refs G1 (Cb (Pa script))))::ρ) λw sp de ih d0 d1 d2 d3=>?_
 let V:Option Ab->Option Ab->Option Ab->Option Ab->Option Ab->List As->List As:=λon nu hr oc sv T=>wV L none on (some (.ref w)) nu kk (some (.ref ab)) (some (.ref fa)) (some (.int (Pa script:Int) 0)) (some (.ref sa)) (some (.int (Ru script) 0)) (some (.ref x.me)) rw hr oc sv none none none none T
 let EW:As:=(.obj w,.sdict (Vi fa ab sp de ih))
 let ED:As:=(.obj de,.list [.ref d0,.ref d1,.ref d2,.ref d3])
 let E3:As:=(.obj d3,.list [])
 let E2:As:=(.obj d2,.list [])
 let E1:As:=(.obj d1,.list [])
 let E0:As:=(.obj d0,.list [])
 let EA:As:=(.obj ab,.list (aas.map .ref))
 let EF:As:=(.obj fa,.list (refs G1 (Cb (Pa script))))
 let τ1:List As:=EW::ED::E3::E2::E1::E0::EA::EF::(ρ++τ)
 refine T.conseq (σ':=⟨Bi G1++X1,(.obj ih,.list [])::(.obj sp,.list [])::V none nu none none none τ1⟩) (As.le_perm (Bb _ (yX EW (.obj ih,.list []) ED E3 E2 E1 E0 (.obj sp,.list []) EA EF ρ (V none nu none none none []) τ))) ?_
 refine pP (τ:=τ1) (de:=de) (AB:=AB) F ert m2 (.head _) hsc hsl hA hh hF λG2 X2 IH has ρ2 on nu2 hr oc sv S hme rows2=>?_
 let ES:As:=(.obj sp,.list (refs G2 (De (Pa script+1) 4)))
 let τ2:List As:=ES::EW::E3::E2::E1::E0::EA::EF::(ρ++τ)
 refine T.conseq (σ':=⟨Bi G2++X2,Jo de ih [d0,d1,d2,d3] has (ρ2++V on nu2 hr oc sv τ2)⟩) (As.le_perm (Bb _ (yY EW (.obj ih,.list (has.map .ref)) ED E3 E2 E1 E0 ES EA EF ρ2 (V on nu2 hr oc sv []) (ρ++τ)))) ?_
 have I:Va G2 X2 (Pa script) AB [[],[],[],[]] IH:=S.inv m2 F.lenA (λi=>⟨F.ten m2 i,λk hk=>?_⟩) F.self
 ·have hfa:refs G1 (Cb (Pa script))=refs G2 (Cb (Pa script)):=by
   unfold refs
   apply Ge
   intro q hq
   unfold Cb at hq
   rw [List.mem_range'_1]at hq
   rw [hme q (by lia)]
  have mv:∀p∈ρ++τ,p∈τ2:=λp hp=>.tail _ (.tail _ (.tail _ (.tail _ (.tail _ (.tail _ (.tail _ (.tail _ hp)))))))
  refine tN (τ2:=τ2) (ρ:=ρ2) I (by lia) (.tail _ (.head _)) ⟨aas,rows.1,.tail _ (.tail _ (.tail _ (.tail _ (.tail _ (.tail _ (.head _)))))),λk b l q1 q2=>mv _ (rows.2 k b l q1 q2)⟩ ?_ (.head _) ⟨rfl,λk b l q1 q2=>?_⟩ (rows2.sub λp hp=>Af _ hp) hsc hsl hA hh hF h
  ·rw [<-hfa]
   exact .tail _ (.tail _ (.tail _ (.tail _ (.tail _ (.tail _ (.tail _ (.head _)))))))
  ·refine Aa _ ?_
   match k with
   |0=>cases q1;cases q2;exact .tail _ (.tail _ (.tail _ (.tail _ (.tail _ (.head _)))))
   |1=>cases q1;cases q2;exact .tail _ (.tail _ (.tail _ (.tail _ (.head _))))
   |2=>cases q1;cases q2;exact .tail _ (.tail _ (.tail _ (.head _)))
   |3=>cases q1;cases q2;exact .tail _ (.tail _ (.head _))
   |n+4=>cases q1
 ·by_cases q:i < Pa script
  ·have:=(F.A i q).2 k hk
   lia
  ·rw [Vg (by rw [F.lenA];lia)]at hk
   cases hk
end
end
section
section
variable {Γ:Bj} {A:Aw}
theorem Adf {τ:List As} {sa:Ak} {script:List Int} {Q:Ab->Ay->Prop} (hA:Rm A 44) (hh:A.handled=none) (hF:AF A ⟨[],[]⟩) (hsc:cV Γ sa (At script)) (hsl:script.length<=63) (h:∀σ,Q (.bool true) σ):∀ws,ws.map cl=[.ref sa]->TC Γ A ⟨[],τ⟩ (.ref 512) ws [] Q:=λws hw=>by
 refine Wb (body:=fBody (topStmt 31)) (bs:=[("script",.ref sa)]) ["script","head","root","row","heirs","once","spec","numbers","at","kind","named"] (Ach Γ) (by kernel_rfl) hA.room (Gu.plain1 λ_ _=>Cg (by rfl)) (λL=>?_) (by rfl) (by decide) (by decide) (by rfl) (by rfl) (by rfl) ws [] hw rfl
 show T Γ (A.deeper (Dc L)) ⟨[],wV L none none none none none none none none (some (.ref sa)) none none none none none none none none none none τ⟩ (Cm _ (Dc L)) _
 exact tO hsc hsl hA.deeper hh hF λσ=>⟨σ,As.le_refl _,h σ⟩
end
end
theorem well_ints {P:Ob} {h:Heap}:∀{ns:List Int} {vs:List Ab},WellAll P h vs (ofPys (ns.map PyData.int))->vs.map cl=At ns
 |[],_,.nil=>rfl
 |n::ns,_,.cons a b=>by
  cases a
  rw [Cf,well_ints b]
  rfl
theorem rm_caller:Rm callerA 44:=⟨by decide+kernel,by decide+kernel⟩
theorem af_caller:AF callerA ⟨[],[]⟩:=⟨[],rfl,λ_ h=>nomatch h⟩
theorem rel_0 {Γ:Bj} {s:Ba} (e:s.heap=Γ.h₁) (hl:s.heap.NoLimit) (ho:s.os=Γ.os) (hg:s.gens=#[]):Ea Γ ⟨[],[]⟩ s:=
 ⟨by rw [e];exact .refl _,⟨hl,λP hP=>⟨#[],by rw [e];exact Γ.tabs P hP,trivial⟩⟩,λo h=>by rw [e];exact h,ho,.of_eq hg,λ_ h=>(nomatch h),.nil⟩
theorem joinB:WalkO (qB pwB) looseB (XL (qB pwB) []) (Hook.says hkB) rB.toRowW dB [] λf vs=>PySem.call f vs:=by
 intro w s₀ s₁ mg mb G Y fa o pm cd doc dV kV ho hd hcd hD hmg hg args vals as hpre hlay hrd hwl hlo
 have KX:=km_in_of Y
 have KT:=km_tabs_of Y
 clear Y hcd hD hd
 refine Ground.open G ?_
 intro T B D TE TW
 obtain⟨bm,ob,BM⟩:=bmod_of_top T
 clear G D TE TW
 wrow_args hpre hlay hrd hwl hlo
 refine enter_call ?_
 have hW:= ‹Well _ _ _ _›
 have hL:= ‹¬_ < _›
 cases hW with
 |list hget hall=>
 have hcl:=well_ints hall
 let Γ:Bj:=⟨pwB,qB pwB,w,s₁.heap,s₁.os,mg,mb,looseW (qB pwB) looseB,topRead_of T,KX,KT,bm,ob,BM.name,BM.ne,BM.obj,BM.cls,BM.dict,BM.data⟩
 have e:fa=512:=by
  have:=mg_of KX T.g (n:="law") (v:=.ref 512) (by kernel_rfl)
  exact Bt.inj (Dh (hmg.symm.trans this))
 subst e
 refine Jg (Adf (Γ:=Γ) (A:=callerA) (Q:=λv _=>v=.bool true) rm_caller rfl af_caller ⟨_,0,hget,hcl⟩ (by lia) (λ_=>rfl) _ rfl s₁ (rel_0 rfl T.nolimit rfl hg)) λr s' z=>?_
 rcases r with e|(v|_|_|_)<;>first|exact z.elim|skip
 obtain⟨σ',R,q⟩:=z
 cases fS q
 exact⟨.inl ⟨_,_,_,rfl,λ_=>rfl,.bool _,by wrow_post,λ_=>⟨.nil,λ_ h=>(nomatch h)⟩⟩,R.old,R.os,R.bare⟩
end Mine
theorem PySem.Challenge.cw_jp0056_01_holds : PySem.Challenge.rw_jp0056_01.Holds :=
 Mine.head_of Mine.joinB
