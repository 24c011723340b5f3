import PyProof.Rows.All
import Wide.All
import OpenK.AllK
import Wide.FinOn
import KE.KSortAsk
import KE.KSortKey
import KE.KIsAll
import PyProof.ExcBaseAll.Exception
import PyProof.Rows.SetFrom
import PySem.Challenge.RW_jm0010_01
set_option Elab.async false
set_option linter.unusedVariables false
set_option genSizeOf false
set_option genInjectivity false
set_option maxRecDepth 100000
set_option tactic.hygienic false
open PySem PySem.W PyProof.Rows PySem.SeqAt
local macro_rules |`(tactic|rfl')=>`(tactic|kernel_rfl)
local macro_rules |`(⋯)=>`(by kernel_rfl)
open And renaming intro->Fw
open _root_.Array renaming getElem?_eq_getElem->tg,toList_inj->ze,length_toList->Fo,getElem?_eq_none->Ka,getElem?_push->KI,size->SP,toList_map->Tc,getElem?_toList->af4,toList_filterMap->agf,getElem?_push_size->agz,getElem?_eq_some_iff->ag2
open Bool renaming false_ne_true->dy,and_eq_true->mI,or_eq_false_iff->rh,not_eq_true'->tj,or_false->yG,false_eq_true->yM,and_false->Fy,eq_iff_iff->FA,and_true->Ki,or_eq_true_iff->Lb,and_eq_true_iff->TS
open Classical renaming byContradiction->y8
open Decidable renaming byContradiction->af5
open Eq renaming mpr->mE,trans->yS
open ForInStep renaming yield->uN
open Function renaming comp_apply->agH
open HAppend renaming hAppend->agV
open Iff renaming trans->KJ
open Int renaming natCast_nonneg->fP,le_trans->ic,lt_of_lt_of_le->lC,le_of_lt->mH,add_assoc->mO,le_of_eq->oD,lt_of_le_of_lt->pQ,le_refl->tw,add_zero->uL,add_comm->uY,ofNat_inj->wR,natCast_add->wS,lt_trans->yz,zero_mul->yI,not_le->y5,le_antisymm->y6,ofNat_lt->za,fmod->zb,natCast_pos->zf,lt_irrefl->Cj,fdiv->Co,fdiv_eq_ediv_of_nonneg->Fi,add_mul->FX,zero_add->FY,ofNat_sub->F4,add_le_add->F6,add_right_comm->F7,natAbs_of_nonneg->Kd,fmod_eq_emod_of_nonneg->Ke,mul_one->Kg,sub_zero->Kj,toNat_natCast->KC,sub_add_cancel->KM,add_nonneg->KV,mul_add->KX,toNat_le->Lc,toNat_of_nonneg->Su,ne_of_gt->Tm,max_eq_right->Tx,max_eq_left->Tz,lt_asymm->TA,mul_zero->TH,neg_neg_of_pos->TM,ofNat_le->TN,natCast_mul->TO,lt_iff_le_and_ne->TX,mul_neg_of_neg_of_pos->agE,add_pos_of_nonneg_of_pos->agT,mul_le_mul_left->ag0
open Int.ofNat renaming inj->FM
open _root_.List renaming range->ax,length_map->bi,length_range->cF,length_append->da,not_mem_nil->eX,mem_append_right->fE,append_nil->gO,range'->gW,size_toArray->i4,map_map->jr,getElem?_eq_getElem->jL,mem_cons->jN,replicate->kr,append_assoc->kt,contains_iff_mem->kx,map_append->mP,getElem?_map->ot,map_cons->oz,mem_filter->oC,map_congr_left->pT,filter_append->pU,mapM_cons->qV,mem_map_of_mem->qW,getElem?_toArray->q0,length_filter_le->re,mem_map->rg,mem_append_left->tn,getD_eq_getElem?_getD->tv,filter_cons_of_pos->tx,filter_sublist->uT,take_nil->uW,filter_cons_of_neg->uZ,nodup_range->u0,any_eq_false->u3,length_cons->wB,forIn_cons->wF,nodup_nil->wJ,nodup_append->wU,sum->yx,range_succ_eq_map->yA,length->yD,range_eq_range'->yF,forIn_nil->yK,getElem?_eq_none->yY,take_of_length_le->y9,length_eq_zero_iff->zc,getElem?_eq_some_iff->zd,drop_eq_getElem_cons->B4,filterMap_cons->B5,lookup->B6,length_nil->Ca,exists_cons_of_ne_nil->Ch,ne_nil_of_mem->Ci,range_succ->Ck,filter_nil->Cm,filter_congr->Cn,lookup_cons->Fu,drop_nil->FH,length_take->FI,length_drop->FJ,reverse_perm->FZ,perm_ext_iff_of_nodup->F5,mem_singleton->F8,map_inj_left->F9,pairwise_cons->Ga,mem_flatMap->Gc,filter_eq_self->Gd,filter_eq_nil_iff->Ge,pairwise_append->Gf,all_cons->Kf,map_id'->KG,all_eq_true->KN,flatMap_cons->KP,length_range'->KQ,nil_append->KS,mem_range->KZ,mem_of_mem_take->K0,filter_map->K4,mem_append->K6,any_eq_true->Ld,cons_ne_nil->Sn,all_map->Sv,take_sublist->Sw,getElem_range->Sx,getElem_mem->SM,forIn_toArray->SV,nil_sublist->S4,take_length->S5,foldl_cons->S6,take_append_drop->Tl,pairwise_singleton->Tt,mem_of_getElem?->Tu,pairwise_map->Tv,pairwise_iff_getElem->Tw,pairwise_lt_range->TF,length_reverse->TK,mem_reverse->TL,map_eq_nil_iff->TT,not_lt->TV,mem_range'_1->TW,contains_cons->af9,filterMap_cons_some->af',zip_nil_right->aga,toList_toArray->agr,getElem?_range->agG,getElem?_concat_length->agJ,eq_nil_or_concat->agL,concat_eq_append->agM,perm_cons_erase->agP,take_append_of_le_length->agS,sublist_append_left->agW,getElem_idxOf->agZ,mem_filterMap->ag1,length_filter_lt_length_iff_exists->ag3,length_pos_iff->ag4,idxOf_lt_length_iff->ag5,pairwise_flatten->ag6
open _root_.List.Perm renaming refl->BS,eq_of_pairwise->agI
open Nat renaming le_trans->aq,le_of_eq->aD,lt_of_le_of_lt->aQ,lt_of_lt_of_le->ba,le_refl->bf,zero_le->cu,le_of_lt->cy,lt_irrefl->cV,le_add_right->cW,le_of_not_lt->cZ,succ_pos->eE,lt_trans->eN,add_assoc->fC,ne_of_gt->fO,zero_add->f5,add_comm->gj,ne_of_lt->gE,le_succ->iH,add_sub_cancel'->iK,add_le_add_left->i3,lt_succ_self->i5,lt_of_lt_of_eq->i6,le_add_left->i7,succ->jp,le_of_lt_succ->jt,lt_succ_of_le->kz,sub_le->kD,le_of_succ_le->lB,add_le_add_right->mF,le_antisymm->mK,le_sub_one_of_lt->mM,lt_of_not_le->oj,lt_asymm->oB,add_right_comm->pP,lt_of_le_of_ne->pR,lt_add_of_pos_right->qU,succ_ne_zero->q8,sub_pos_of_lt->q9,exists_eq_succ_of_ne_zero->uX,succ_add_eq_add_succ->wD,min_eq_left->wM,add_sub_cancel->wO,succ_le_succ->yE,le_succ_of_le->yT,not_lt_zero->yW,sub_lt->y0,sub_self->y4,one_mul->y7,add_le_add->BV,zero_mul->BY,mul_le_mul->BZ,mod_lt->Cf,sub_add_cancel->FQ,sub_sub->FR,add_sub_cancel_left->FU,gcd->FV,pow_pos->F0,mul_le_mul_left->Kb,div_le_self->Kc,le_of_succ_le_succ->Kt,lt_succ_of_lt->KB,sub_le_sub_right->KO,le_sub_of_add_le->KR,le_total->KU,add_left_cancel->KW,one_pos->KY,mul_assoc->K5,lt_one_iff->Lf,pow_le_pow_right->Ss,mul_le_mul_right->SO,add_sub_add_right->Tg,mul_one->To,mul_pos->Tp,lt_or_eq_of_le->Tq,add_left_comm->Tr,sub_sub_self->Ts,add_le_of_le_sub->TC,exists_eq_add_of_le->TD,lt_add_of_pos_left->TE,lt_trichotomy->TG,le_mul_of_pos_right->TI,sub_lt_iff_lt_add'->TJ,min_eq_right->TP,add_lt_add_left->TQ,pos_of_ne_zero->TR,le_zero->TU,sub_le_iff_le_add'->TY,le_one_iff_eq_zero_or_eq_one->TZ,lt_of_succ_lt_succ->agh,add_lt_add_iff_left->ago,lt_sub_of_add_lt->agw,succ_pred_eq_of_pos->agx,gcd_pos_of_pos_left->agB,le_sub_of_add_le'->agK,pred_eq_of_eq_succ->agN,sub_le_of_le_add->agO,add_add_add_comm->agQ,sub_lt_sub_right->agR,exists_eq_add_of_le'->agX,mod_two_eq_zero_or_one->agY
open Nat.le renaming intro->TB
open Nat.succ renaming inj->wA
open Ne renaming symm->gV
open Option renaming none->aP,map->eP,map_eq_some_iff->tz,isSome_iff_exists->tA,or_eq_some_iff->Cq,isNone_iff_eq_none->Gb,bind_some->Sl,bind_assoc->agU
open Option.some renaming inj->ay
open PUnit renaming unit->Cg
open Prod renaming snd->ou,fst->wG
open PyProof.Rows renaming listItems_at->f6,oneType'->wP,subscriptTail->Fj,isTrue_plain->Ko,get?_update_seq->KD,seqEpoch_at->KE,assignInOrder_cons->Sy
open PyProof.Rows.F renaming plain_set_update_loop->SW,entry_set_update_loop->agi
open PyProof.Rows.SortSt renaming mk'->Tb
open PySem renaming Value->ac,wpAny_bind->ae,Shared->ag,model->ah,wpAny->ai,Heap->am,Addr->ao,wpAny_pure->au,Stmt->aH,Expr->aT,SetTable->a8,Around->bh,call->bC,Pos->b8,Params->cD,World->cO,wpAny_mono->cQ,rawInt->c6,wpAny_holding->dO,codeAny->eO,Keyword->fj,Scope->fk,Model->f4,pyIter->gk,pyNext->gm,Stmt->gQ,NameKind->gU,Operator->ia,seg_bind_wrap->ib,CmpOp->iF,exec->iI,plainId_quiet->iJ,GenState->jo,wpAny_standAt->jq,Comprehension->jK,compareOp->jM,codeAny_builtin->jO,Str->kq,starEach->lA,mainGlobals->mD,binaryOp->mG,Result->mJ,Scope->oi,spliced->om,backTo->oo,wpAny_askSetting->oA,treeTable->pM,DictEntry->pN,sizeLine->qT,wpAny_call->qY,wpAny_isInstance->qZ,cLine->ti,typeOf->tq,execs->tu,builtinsNs->uF,getAttr->uI,wpAny_evalAll_nil->uK,assign->uM,wpAny_rule->uO,wpAny_newObj_type->uP,wpAny_call_entry->uS,hashInt->uU,intKind->uV,OsState->ww,clipAt->wz,wpAny_truthy_bool->wC,callWith->wE,wpAny_Call_Name_kw->wH,leaving->wK,wpAny_letGo->wL,entryFor->yv,importedModules->yw,seqIndex?->yy,truthy->yB,getItem->yC,letOwnedTupleGo->yH,assignEach->yJ,holding->yL,foldedForSure->yN,constantsAlone->yO,wpAny_Expr_any->yP,wpAny_Assign_Name->yQ,codeAmong->BU,storeName->B0,getMethod->B2,wpAny_of_eq->B3,cellsFrom->B8,compTurn->B9,wpAny_Name->Cb,setsByText->Ce,call_meets->Fh,wpAny_specialOf->Fk,wpAny_load->Ft,codeAny_of_tree->Fv,wpAny_execs_nil->FB,wpAny_execs_cons->FC,dunder->FD,richCompare->FF,codeAny_mono->FG,relayAll->FK,setAddHashed->FL,wpAny_typeOf->FN,wpAny_tryCatch->FO,seg_again->FT,entryFor_alias->J4,Comprehension->J7,Const->J8,TypeParam->J9,Tok->J',wpAny_list_append_plain->Kk,compStart->Kl,inplaceOp->Km,interactive->Kp,wpAny_callSpecial?_slot->Kq,sizeLine_eq->Kr,bindL->Ku,intKind_is->Kw,sub_set_self->Kx,wpAny_attempt->Kz,firstArgMember->KA,wpAny_newList->KF,importedNames->K8,moduleNames->K9,entryFor_of_tree->Sk,call->Sm,Arguments->Sp,Value->Sq,recursionLimit->Sr,wpAny_assign_Name->Sz,newFunctionEnv->SA,wpAny_items_nil->SB,wpAny_Constant_int->SC,wpAny_Constant_str->SD,wpAny_cRoomFor->SG,codeAny_call_builtin->SZ,wpAny_runValue->S1,wpAny_setField_rec->S2,call_function_tree->Ta,wpAny_ite_split->Tf,ExceptHandler->af0,filterMap_getElem?_range->agg,compTurn_gen->agy,callSpecialIfBoundUnlessNone?->agA
open PySem.Around renaming under_plainId->kA
open PySem.Builtin renaming divisionGoesByPylong->af1
open PySem.Builtin.Builtins renaming bindParams->agq
open PySem.Builtin.Frozenset renaming addrOf->yX,updateFrom->Ky,isAnySet->SQ,unchanged->SR,intersection->SU
open PySem.Builtin.Generator renaming genWake->agv
open PySem.Builtin.Int renaming intBits->BW,intTooBig->af2
open PySem.Builtin.List renaming listExtendWith->KH,listUpdate->Td,listLengthHint->Te,listSameRef->agu
open PySem.Builtin.Range renaming rangeSize->af3
open PySem.Calls renaming spliced_cons->wI,spliced_nil->Cc,call_function_entry->agb
open PySem.Challenge renaming rw_jm0010_01->La
open PySem.F renaming plain_max_loop->yZ,plain_extend_loop->FP,slot_list_append->SE,type_list_append->SF,slot_list_gt->S7,slot_list_lt->S8,entry_max_loop->S9,plain_all_loop->Tj,plain_any_loop->Tk,slot_list_insert->af6,slot_list_pop->af7,plain_set_new->agj,sub_list_set->agk,sub_list_frozenset->agl,slot_set_iter->agm,slot_set_intersection->agn,sub_list_list->agp,plain_list_iadd->ags,entry_extend_loop->agt
open PySem.Heap renaming get?_push_of_some->c5,SameBut->dD,get?_push_size->ft,lt_size->fB,size_push->oy,get?_update_self->af8
open PySem.Heap.SameBut renaming update->uR,refl->Cd
open PySem.NameKind renaming cell->tm,free->B7
open PySem.Obj renaming cls->uQ,mapSeq->Fx
open PySem.PyData renaming keyHash->pO
open PySem.Sem renaming onRaise_eq_wrap->FS,bind_eq_wrap'->Th,wrap_wrap->Ti
open PySem.SeqAt renaming EqAt->gD,RcAt->ol,RcNeAt->uG
open PySem.SetTable renaming sizeAbove->mL,below->pS,grown->wN,fill->Fn,laid->SH,bits->SI,has->SJ,turns->SK,insertAt->SL,probe->agc,toList_insertAt->agd,relaid->age
open PySem.Shared renaming TypeIs->SY
open PySem.Str renaming ofString->dw
open PySem.Value renaming type->iE,none->oh,ref->pL,int->qS,str->BR,bool->J5
open PySem.W renaming look_both->dE,findIn->fN,Looks->iG,Frag->km,isFn->oq,any_some->qX,dictOf->uH,plainGet_of->uJ,behindTheImports->wx,boot_heap->wy,kas_rev->wQ,namesMeet->wT,putL->yR,looks_findIn->yU,emptyDict->yV,plainGet->B1,builtinNamed->Cp,topFrame->Fg,hasDictIn->Fq,lookIn_dict->Fs,CmpBack->FE,boot_drawn->J6,specialIn->Kh,selfFirst->Kv,noRoadLSs->K7
open PySem.pickOrder renaming go->SN
open Rat renaming mkRat_self->FW,num_mkRat->Tn,mkRat_mul_mkRat->agC,mkRat_add_mkRat->agD,mkRat_mul_right->agF
namespace PySem.F
theorem T1:Manifest.owners.lookup (String.ofList ['r','o','t','a','r','e','t','i','_','t','e','s'].reverse)=some Manifest.sig_set_iterator:=⋯
theorem T2:Slot "set_iterator" "__iter__" "set_iterator.__iter__":=
 .of (owner:="set_iterator") (n:="__iter__") (by rw[typeLookup_type,builtinLookup_eq_fast];rfl') (by decide+kernel) (by decide+kernel) (by decide+kernel)
  (by first|exact .inl (by decide+kernel)|exact .inr (by decide+kernel)) (by rw[isSubtype_type];rfl')
theorem ag7:yv table "set_iterator.__iter__"=some Builtin.«dict_keyiterator.__iter__»:=
 J4 (id':="dict_keyiterator.__iter__") ⋯ (by first|rfl|decide+kernel|(unfold String.splitOn;simp+decide [String.splitOnAux])) (by decide+kernel) ⋯
theorem ag8(a:ac):argsOk "set_iterator.__iter__" ⟨[a],[]⟩:=by
 unfold argsOk;rw[signature?_of (id:="set_iterator.__iter__") (n:=['_','_','r','e','t','i','_','_']) (o:=['r','o','t','a','r','e','t','i','_','t','e','s']) ⋯ T1];rfl'
theorem zg:Slot "set_iterator" "__next__" "set_iterator.__next__":=
 .of (owner:="set_iterator") (n:="__next__") (by rw[typeLookup_type,builtinLookup_eq_fast];rfl') (by decide+kernel) (by decide+kernel) (by decide+kernel)
  (by first|exact .inl (by decide+kernel)|exact .inr (by decide+kernel)) (by rw[isSubtype_type];rfl')
theorem T3:yv table "set_iterator.__next__"=some Builtin.«set_iterator.__next__»:=Sk ⋯
theorem T4(a:ac):argsOk "set_iterator.__next__" ⟨[a],[]⟩:=by
 unfold argsOk;rw[signature?_of (id:="set_iterator.__next__") (n:=['_','_','t','x','e','n','_','_']) (o:=['r','o','t','a','r','e','t','i','_','t','e','s']) ⋯ T1];rfl'
theorem ag9:yv table "set.__iter__"=some Builtin.«frozenset.__iter__»:=
 J4 (id':="frozenset.__iter__") ⋯ rfl (by decide+kernel) ⋯
end PySem.F
noncomputable section
namespace Mine
@[elab_as_elim] theorem aa{α:Type}{a b:α}{m:α->Prop}(h:a=b)(k:m b):m a:=h▸k
local macro_rules |`(tactic|erw [$e:term])=>`(tactic|refine aa $e ?_)
section
set_option maxHeartbeats 0
noncomputable abbrev pw:=PySem.Challenge.pw_jm0010_01
def Ai:Env:={scope:=pw.main.scope,locals:=mainNs,globals:=mainNs,cells:=[],code:=.ref 13,frame:=some 14}
noncomputable abbrev qP:Pos:=⟨0,0,0,0⟩
noncomputable def o11:Obj:={cls:=iE "tuple",data:=Data.seq #[]}
noncomputable def o12:Obj:={cls:=oh,data:=Data.fields #[]}
noncomputable def o13:Obj:={cls:=iE "code",data:=Data.fields (
 #[BR (dw "<module>") 182,BR (dw "<module>") 183,BR (dw "/claim/cut.py") 184,qS 1 0,qS 0 0,qS 0 0,qS 0 0,
  qS 0 0,pL 11,J5 false,qS 181 0,pL 12,oh,oh,oh,oh,qS 185 0,qS 1 0,BR (dw "/claim/cut.py") 186])}
noncomputable def Ζ:Obj:={cls:=iE "frame",slots:= #[some (pL 13),some (pL 3),some (pL 3),none,some (BR (dw "__main__") 164),none,some (pL 0)]}
noncomputable def T0(P:cD):BT:=
 .node (boot_o_0 P)
  (.node (boot_o_1 P) (.node (boot_o_3 P) (.node (boot_o_7 P) .nil .nil) (.node o11 .nil .nil)) (.node (boot_o_5 P) (.node (boot_o_9 P) .nil .nil) (.node o13 .nil .nil)))
  (.node (boot_o_2 P) (.node (boot_o_4 P) (.node (boot_o_8 P) .nil .nil) (.node o12 .nil .nil)) (.node (boot_o_6 P) (.node (boot_o_10 P) .nil .nil) (.node Ζ .nil .nil)))
def S0(w:cO)(os:ww):SharedT:=⟨T0 w.params,15,{},#[],J6,187,os⟩
abbrev cE:Code:=.body (wx pw) Ai
noncomputable abbrev vT:Option ac:=some (.ref 6)
theorem aaM:∀(w:cO) (os:ww),topGo pM pw w 11 vT 12 ⟨wy w.params,#[],J6,boot_toks,os⟩ (topStub pw)=
  some ((S0 w os).abs,⟨denote pM cE,cE,qP,[Fg qP]⟩):=by
 intro w os;rfl'
theorem M_:∀(w:cO) (os:ww),segRun pM pw w 11 vT 1 1 (S0 w os).abs (blockOf (wx pw) Ai cE qP [Fg qP])=
  some (.next,(S0 w os).abs,cE,qP):=by
 intro w os;rfl'
theorem Wq:∀w:cO,(fencedOpening pM pw w 10000).map (λs=>(s.heap,s.gens,s.drawn,s.toks))=some (wy w.params,Array.mk [],J6,boot_toks):=
 boot_open ⋯ ⋯ (λs=>⋯)
noncomputable def aJ:List aH->Nat->aH
 |[],_=>.Pass default
 |s::_,0=>s
 |_::r,n+1=>aJ r n
def cm(i:Nat):aH:=aJ (wx pw) i
def c7(i j:Nat):aH:=match cm i with
 |.ClassDef _ _ _ body _ _ _ _ _ _ _=>aJ body j
 |s=>s
noncomputable def ch(st:aH)(qual:String)(dflt pm code:ac)(clo:List (Str×ao))(ct:ac):Obj:=match st with
 |.FunctionDef name args body _ _ _ scope _ _ _=>
  {cls:=.type "function",data:=.func {name:=name,qualname:=dw qual,params:=args,body:=.stmts body,scope:=scope,globals:=3,closure:=clo,defaults:=dflt,kwdefaults:=.none,doc:=.none,pyModule:=pm,annotations:=none,code:=code,closureTuple:=ct,builtins:=0}}
 |_=>default
noncomputable def iu(l:List ac):Obj:={cls:=.type "tuple",data:=.seq ⟨l⟩}
noncomputable def m9(l:List ac):Obj:={cls:=.type "list",data:=.seq ⟨l⟩}
noncomputable def afF(l:List ac):Obj:={cls:=.type "code",data:=.fields ⟨l⟩}
noncomputable def XB(l:List ac):Obj:={cls:=.type "property",data:=.fields ⟨l⟩}
noncomputable def kl(l:List ac):Obj:={cls:=.type "getset_descriptor",data:=.fields ⟨l⟩}
noncomputable def bQ:Obj:={cls:=.none,data:=.fields #[]}
noncomputable def en(P:cD)(k:String)(t:Nat)(v:ac):pN:=⟨pO P (dw k),.str (dw k) t,v⟩
noncomputable def vz(n:Nat)(l:List pN):Obj:={cls:=.type "dict",data:=.dict ⟨l⟩ n}
noncomputable def yi(name:String)(bases mro:List ac)(ns:ao)(hd:Bool)(sl:List (Option ac)):Obj:=
 {cls:=.type "type",data:=.cls {name:=dw name,bases:=bases,mro:=mro,ns:=ns,qualname:=dw name,hasDict:=hd},slots:=⟨sl⟩}
noncomputable def A5(t:Nat):ac:=.str (dw "/claim/cut.py") t
noncomputable def st(s:String)(t:Nat):ac:=.str (dw s) t
noncomputable def m1:ac:=.str (dw "abcvoting.misc") 194
noncomputable def m2:ac:=.str (dw "abcvoting.abcrules") 574
noncomputable def m3:ac:=.str (dw "abcvoting.scores") 416
noncomputable def m4:ac:=.str (dw "abcvoting.preferences") 849
noncomputable def m5:ac:=.str (dw "apportionment.methods") 1042
def Qg(n q:String)(t:Nat)(L c f:Int)(x y:ac)(r:List ac):Obj:=afF ([st n t,st q (t+1),A5 (t+2),.int L 0,.int c 0,.int 0 0,.int 0 0,.int f 0,x,.bool true,.int 181 0,y,.none]++r)
def cA(n q:String)(t:Nat)(L c f:Int)(e a:Nat):Obj:=Qg n q t L c f (.ref (a-5)) (.ref (a-4)) [.ref (a-3),.ref (a-2),.ref (a-1),.int (e:Nat) 0,.int L 0,A5 (e+1)]
def cB(n q:String)(t:Nat)(L c f:Int)(e a:Nat):Obj:=Qg n q t L c f (.ref (a-3)) (.ref (a-2)) [.none,.none,.ref (a-1),.int (e:Nat) 0,.int L 0,A5 (e+1)]
def KL(P:cD):km:=[
 (3,vz 54 [en P "__name__" 165 (st "law_jm0010_01" 1119),en P "__doc__" 166 .none,en P "__package__" 167 .none,en P "__loader__" 168 (.builtin "__main__.__loader__#opaque"),en P "__spec__" 169 .none,en P "__annotations__" 170 (.ref 6),en P "__builtins__" 171 (.ref 4),en P "__file__" 173 (st "/claim/cut.py" 172),en P "__cached__" 174 .none,en P "_wall" 193 (.ref 21),en P "CandidateSet" 206 (.ref 30),en P "sorted_committees" 213 (.ref 37),en P "str_set_of_candidates" 223 (.ref 45),en P "combinations" 229 (.ref 50),en P "Fraction" 406 (.ref 194),en P "total" 415 (.ref 205),en P "UnknownScoreFunctionError" 446 (.ref 224),en P "MarginalScoreFct" 485 (.ref 252),en P "get_marginal_scorefct" 495 (.ref 264),en P "thiele_score" 509 (.ref 271),en P "geometric_marginal_score_fct" 517 (.ref 278),en P "pav_score_fct" 524 (.ref 285),en P "adams_score_fct" 531 (.ref 292),en P "slav_score_fct" 538 (.ref 299),en P "av_score_fct" 545 (.ref 306),en P "cc_score_fct" 552 (.ref 313),en P "at_least_ell_fct" 560 (.ref 320),en P "marginal_thiele_scores_add" 573 (.ref 327),en P "MAX_NUM_OF_COMMITTEES_DEFAULT" 576 .none,en P "Rule" 641 (.ref 362),en P "UnknownRuleIDError" 670 (.ref 385),en P "UnknownAlgorithm" 700 (.ref 407),en P "NoAvailableAlgorithm" 730 (.ref 429),en P "available_algorithms" 735 (.ref 433),en P "compute_thiele_method" 752 (.ref 441),en P "_thiele_methods_bruteforce" 769 (.ref 449),en P "_thiele_methods_branchandbound" 795 (.ref 457),en P "compute_pav" 808 (.ref 465),en P "compute_slav" 821 (.ref 473),en P "_adams_bruteforce" 827 (.ref 478),en P "compute_adams" 842 (.ref 486),en P "_seq_thiele_resolute" 848 (.ref 491),en P "Profile" 993 (.ref 613),en P "Voter" 1041 (.ref 650),en P "TiesException" 1063 (.ref 664),en P "compute" 1075 (.ref 675),en P "apply_threshold" 1087 (.ref 682),en P "largest_remainder" 1093 (.ref 688),en P "divisor" 1099 (.ref 694),en P "_divzero_fewerseatsthanparties" 1112 (.ref 701),en P "quota" 1118 (.ref 707),en P "_law_orders" 1143 (.ref 718),en P "_law_shared" 1149 (.ref 723),en P "law" 1155 (.ref 728)]),
 (4,{cls:=.type "module",dict:=some 0,data:=.plain}),
 (23,iu [(.ref 22),.none]),
 (29,cA "CandidateSet" "CandidateSet" 196 5 2 3 204 29),
 (30,ch (cm 2) "CandidateSet" (.ref 23) m1 (.ref 29) [] .none),
 (36,cA "sorted_committees" "sorted_committees" 207 17 1 3 211 36),
 (37,ch (cm 3) "sorted_committees" .none m1 (.ref 36) [] .none),
 (38,iu [.none]),
 (44,cA "str_set_of_candidates" "str_set_of_candidates" 214 19 2 3 221 44),
 (45,ch (cm 4) "str_set_of_candidates" (.ref 38) m1 (.ref 44) [] .none),
 (47,bQ),
 (49,cB "combinations" "combinations" 224 25 2 3 227 49),
 (50,ch (cm 5) "combinations" .none m1 (.ref 49) [] .none),
 (58,iu [(.int 0 242),(.int 1 243)]),
 (60,bQ),
 (64,cA "__init__" "Fraction.__init__" 244 35 3 3 254 64),
 (65,ch (c7 6 0) "Fraction.__init__" (.ref 58) m1 (.ref 64) [] .none),
 (95,bQ),
 (99,cA "__neg__" "Fraction.__neg__" 285 75 1 3 289 99),
 (100,ch (c7 6 5) "Fraction.__neg__" .none m1 (.ref 99) [] .none),
 (102,bQ),
 (106,cA "__add__" "Fraction.__add__" 292 78 2 3 297 106),
 (107,ch (c7 6 6) "Fraction.__add__" .none m1 (.ref 106) [] .none),
 (130,bQ),
 (134,cA "__mul__" "Fraction.__mul__" 324 96 2 3 329 134),
 (135,ch (c7 6 10) "Fraction.__mul__" .none m1 (.ref 134) [] .none),
 (158,bQ),
 (162,cA "__eq__" "Fraction.__eq__" 356 116 2 3 361 162),
 (163,ch (c7 6 14) "Fraction.__eq__" .none m1 (.ref 162) [] .none),
 (165,bQ),
 (169,cA "__lt__" "Fraction.__lt__" 364 123 2 3 369 169),
 (170,ch (c7 6 15) "Fraction.__lt__" .none m1 (.ref 169) [] .none),
 (179,bQ),
 (183,cA "__gt__" "Fraction.__gt__" 380 137 2 3 385 183),
 (184,ch (c7 6 17) "Fraction.__gt__" .none m1 (.ref 183) [] .none),
 (186,bQ),
 (190,cA "__ge__" "Fraction.__ge__" 388 144 2 3 393 190),
 (191,ch (c7 6 18) "Fraction.__ge__" .none m1 (.ref 190) [] .none),
 (193,vz 5 [en P "__module__" 237 m1,en P "__firstlineno__" 241 (.int 33 240),en P "__init__" 256 (.ref 65),en P "__bool__" 263 (.ref 72),en P "floor" 270 (.ref 79),en P "ceil" 277 (.ref 86),en P "__str__" 284 (.ref 93),en P "__neg__" 291 (.ref 100),en P "__add__" 299 (.ref 107),en P "__radd__" 307 (.ref 114),en P "__sub__" 315 (.ref 121),en P "__rsub__" 323 (.ref 128),en P "__mul__" 331 (.ref 135),en P "__rmul__" 339 (.ref 142),en P "__truediv__" 347 (.ref 149),en P "__rtruediv__" 355 (.ref 156),en P "__eq__" 363 (.ref 163),en P "__lt__" 371 (.ref 170),en P "__le__" 379 (.ref 177),en P "__gt__" 387 (.ref 184),en P "__ge__" 395 (.ref 191),en P "__static_attributes__" 398 (.ref 192),en P "__dict__" 400 (.ref 195),en P "__weakref__" 402 (.ref 196),en P "__doc__" 403 .none,en P "__hash__" 404 .none]),
 (194,yi "Fraction" [(.type "object")] [(.ref 194),(.type "object")] 193 true [none,none,some (st "Fraction" 230),some (st "Fraction" 238),some (.builtin "object.__new__"),some (.bool true)]),
 (195,kl [(st "__dict__" 399),(.ref 194),(.builtin "function.__dict__"),(.builtin "function.__dict__#set")]),
 (196,kl [(st "__weakref__" 401),(.ref 194),(.builtin "ExceptionGroup.__weakref__"),.none]),
 (200,bQ),
 (204,cA "total" "total" 407 150 1 3 413 204),
 (205,ch (cm 7) "total" .none m1 (.ref 204) [] .none),
 (225,kl [(st "__weakref__" 442),(.ref 224),(.builtin "ExceptionGroup.__weakref__"),.none]),
 (235,iu [.none]),
 (237,bQ),
 (241,cA "__init__" "MarginalScoreFct.__init__" 459 163 3 3 465 241),
 (242,ch (c7 10 0) "MarginalScoreFct.__init__" (.ref 235) m3 (.ref 241) [] .none),
 (244,bQ),
 (248,cA "__call__" "MarginalScoreFct.__call__" 468 167 2 3 473 248),
 (249,ch (c7 10 1) "MarginalScoreFct.__call__" .none m3 (.ref 248) [] .none),
 (251,vz 4 [en P "__module__" 454 m3,en P "__firstlineno__" 458 (.int 161 457),en P "__init__" 467 (.ref 242),en P "__call__" 475 (.ref 249),en P "__static_attributes__" 478 (.ref 250),en P "__dict__" 480 (.ref 253),en P "__weakref__" 482 (.ref 254),en P "__doc__" 483 .none]),
 (252,yi "MarginalScoreFct" [(.type "object")] [(.ref 252),(.type "object")] 251 true [none,none,some (st "MarginalScoreFct" 447),some (st "MarginalScoreFct" 455),some (.builtin "object.__new__"),some (.bool true)]),
 (253,kl [(st "__dict__" 479),(.ref 252),(.builtin "function.__dict__"),(.builtin "function.__dict__#set")]),
 (254,kl [(st "__weakref__" 481),(.ref 252),(.builtin "ExceptionGroup.__weakref__"),.none]),
 (257,iu [.none]),
 (259,bQ),
 (263,cA "get_marginal_scorefct" "get_marginal_scorefct" 486 181 2 3 493 263),
 (264,ch (cm 11) "get_marginal_scorefct" (.ref 257) m3 (.ref 263) [] .none),
 (266,bQ),
 (270,cA "thiele_score" "thiele_score" 496 199 3 3 507 270),
 (271,ch (cm 12) "thiele_score" .none m3 (.ref 270) [] .none),
 (280,bQ),
 (284,cA "pav_score_fct" "pav_score_fct" 518 212 1 3 522 284),
 (285,ch (cm 14) "pav_score_fct" .none m3 (.ref 284) [] .none),
 (287,bQ),
 (291,cA "adams_score_fct" "adams_score_fct" 525 216 1 3 529 291),
 (292,ch (cm 15) "adams_score_fct" .none m3 (.ref 291) [] .none),
 (294,bQ),
 (298,cA "slav_score_fct" "slav_score_fct" 532 222 1 3 536 298),
 (299,ch (cm 16) "slav_score_fct" .none m3 (.ref 298) [] .none),
 (308,bQ),
 (312,cA "cc_score_fct" "cc_score_fct" 546 230 1 3 550 312),
 (313,ch (cm 18) "cc_score_fct" .none m3 (.ref 312) [] .none),
 (322,bQ),
 (326,cA "marginal_thiele_scores_add" "marginal_thiele_scores_add" 561 238 3 3 571 326),
 (327,ch (cm 20) "marginal_thiele_scores_add" .none m3 (.ref 326) [] .none),
 (335,iu [(st "gurobi" 589),(st "pulp-highs" 590),(st "pulp-cbc" 591),(st "branch-and-bound" 592),(st "brute-force" 593)]),
 (336,iu [(.bool false),(.bool true)]),
 (337,iu [(.bool true),(.bool false)]),
 (339,bQ),
 (343,cA "__init__" "Rule.__init__" 597 254 2 3 606 343),
 (344,ch (c7 23 3) "Rule.__init__" .none m2 (.ref 343) [] .none),
 (346,bQ),
 (350,cA "fastest_available_algorithm" "Rule.fastest_available_algorithm" 609 431 1 3 613 350),
 (351,ch (c7 23 4) "Rule.fastest_available_algorithm" .none m2 (.ref 350) [] .none),
 (352,iu [.none]),
 (354,bQ),
 (358,cA "verify_compute_parameters" "Rule.verify_compute_parameters" 616 436 6 3 625 358),
 (359,ch (c7 23 5) "Rule.verify_compute_parameters" (.ref 352) m2 (.ref 358) [] .none),
 (361,vz 4 [en P "__module__" 584 m2,en P "__firstlineno__" 588 (.int 249 587),en P "_THIELE_ALGORITHMS" 594 (.ref 335),en P "_RESOLUTE_VALUES_FOR_OPTIMIZATION_BASED_RULES" 595 (.ref 336),en P "_RESOLUTE_VALUES_FOR_SEQUENTIAL_RULES" 596 (.ref 337),en P "__init__" 608 (.ref 344),en P "fastest_available_algorithm" 615 (.ref 351),en P "verify_compute_parameters" 627 (.ref 359),en P "__static_attributes__" 634 (.ref 360),en P "__dict__" 636 (.ref 363),en P "__weakref__" 638 (.ref 364),en P "__doc__" 639 .none]),
 (362,yi "Rule" [(.type "object")] [(.ref 362),(.type "object")] 361 true [none,none,some (st "Rule" 577),some (st "Rule" 585),some (.builtin "object.__new__"),some (.bool true)]),
 (363,kl [(st "__dict__" 635),(.ref 362),(.builtin "function.__dict__"),(.builtin "function.__dict__#set")]),
 (364,kl [(st "__weakref__" 637),(.ref 362),(.builtin "ExceptionGroup.__weakref__"),.none]),
 (386,kl [(st "__weakref__" 666),(.ref 385),(.builtin "ExceptionGroup.__weakref__"),.none]),
 (408,kl [(st "__weakref__" 696),(.ref 407),(.builtin "ExceptionGroup.__weakref__"),.none]),
 (430,kl [(st "__weakref__" 726),(.ref 429),(.builtin "ExceptionGroup.__weakref__"),.none]),
 (433,m9 [(st "branch-and-bound" 731),(st "brute-force" 732),(st "standard" 733),(st "standard-fractions" 734)]),
 (434,iu [(st "fastest" 736),(.bool false),.none,(.bool false)]),
 (436,bQ),
 (440,cA "compute_thiele_method" "compute_thiele_method" 737 467 7 3 750 440),
 (441,ch (cm 28) "compute_thiele_method" (.ref 434) m2 (.ref 440) [] .none),
 (442,iu [.none]),
 (444,bQ),
 (448,cA "_thiele_methods_bruteforce" "_thiele_methods_bruteforce" 753 479 5 3 767 448),
 (449,ch (cm 29) "_thiele_methods_bruteforce" (.ref 442) m2 (.ref 448) [] .none),
 (450,iu [.none]),
 (452,bQ),
 (456,cA "_thiele_methods_branchandbound" "_thiele_methods_branchandbound" 770 497 5 3 793 456),
 (457,ch (cm 30) "_thiele_methods_branchandbound" (.ref 450) m2 (.ref 456) [] .none),
 (458,iu [(st "fastest" 796),(.bool false),.none,(.bool false)]),
 (460,bQ),
 (464,cA "compute_pav" "compute_pav" 797 531 6 3 806 464),
 (465,ch (cm 31) "compute_pav" (.ref 458) m2 (.ref 464) [] .none),
 (466,iu [(st "fastest" 809),(.bool false),.none,(.bool false)]),
 (468,bQ),
 (472,cA "compute_slav" "compute_slav" 810 533 6 3 819 472),
 (473,ch (cm 32) "compute_slav" (.ref 466) m2 (.ref 472) [] .none),
 (475,bQ),
 (477,cB "_adams_bruteforce" "_adams_bruteforce" 822 535 4 3 825 477),
 (478,ch (cm 33) "_adams_bruteforce" .none m2 (.ref 477) [] .none),
 (479,iu [(st "fastest" 828),(.bool false),.none]),
 (481,bQ),
 (485,cA "compute_adams" "compute_adams" 829 560 5 3 840 485),
 (486,ch (cm 34) "compute_adams" (.ref 479) m2 (.ref 485) [] .none),
 (488,bQ),
 (490,cB "_seq_thiele_resolute" "_seq_thiele_resolute" 843 571 3 3 846 490),
 (491,ch (cm 35) "_seq_thiele_resolute" .none m2 (.ref 490) [] .none),
 (499,iu [.none]),
 (501,bQ),
 (503,cB "__init__" "Profile.__init__" 863 587 3 3 866 503),
 (504,ch (c7 37 0) "Profile.__init__" (.ref 499) m4 (.ref 503) [] .none),
 (506,bQ),
 (510,cA "num_cand" "Profile.num_cand" 869 598 1 3 873 510),
 (511,ch (c7 37 1) "Profile.num_cand" .none m4 (.ref 510) [] .none),
 (512,XB [(.ref 511),.none,.none,.none,(st "num_cand" 876),(.bool false)]),
 (521,bQ),
 (525,cA "__len__" "Profile.__len__" 884 605 1 3 888 525),
 (526,ch (c7 37 3) "Profile.__len__" .none m4 (.ref 525) [] .none),
 (528,bQ),
 (532,cA "_unique_voter" "Profile._unique_voter" 891 608 2 3 897 532),
 (533,ch (c7 37 4) "Profile._unique_voter" .none m4 (.ref 532) [] .none),
 (535,bQ),
 (539,cA "add_voter" "Profile.add_voter" 900 615 2 3 905 539),
 (540,ch (c7 37 5) "Profile.add_voter" .none m4 (.ref 539) [] .none),
 (577,bQ),
 (581,cA "__iter__" "Profile.__iter__" 944 633 1 35 949 581),
 (582,ch (c7 37 11) "Profile.__iter__" .none m4 (.ref 581) [] .none),
 (612,vz 4 [en P "__module__" 858 m4,en P "__firstlineno__" 862 (.int 585 861),en P "__init__" 868 (.ref 504),en P "num_cand" 876 (.ref 512),en P "approved_candidates" 883 (.ref 519),en P "__len__" 890 (.ref 526),en P "_unique_voter" 899 (.ref 533),en P "add_voter" 907 (.ref 540),en P "add_voters" 915 (.ref 547),en P "total_weight" 922 (.ref 554),en P "has_unit_weights" 929 (.ref 561),en P "convert_to_unit_weights" 936 (.ref 568),en P "convert_to_weighted" 943 (.ref 575),en P "__iter__" 951 (.ref 582),en P "__getitem__" 959 (.ref 589),en P "__setitem__" 968 (.ref 596),en P "copy" 975 (.ref 603),en P "is_party_list" 982 (.ref 610),en P "__static_attributes__" 986 (.ref 611),en P "__dict__" 988 (.ref 614),en P "__weakref__" 990 (.ref 615),en P "__doc__" 991 .none]),
 (613,yi "Profile" [(.type "object")] [(.ref 613),(.type "object")] 612 true [none,none,some (st "Profile" 851),some (st "Profile" 859),some (.builtin "object.__new__"),some (.bool true)]),
 (614,kl [(st "__dict__" 987),(.ref 613),(.builtin "function.__dict__"),(.builtin "function.__dict__#set")]),
 (615,kl [(st "__weakref__" 989),(.ref 613),(.builtin "ExceptionGroup.__weakref__"),.none]),
 (625,iu [(.int 1 1006),.none]),
 (627,bQ),
 (631,cA "__init__" "Voter.__init__" 1007 650 4 3 1014 631),
 (632,ch (c7 38 0) "Voter.__init__" (.ref 625) m4 (.ref 631) [] .none),
 (649,vz 4 [en P "__module__" 1001 m4,en P "__firstlineno__" 1005 (.int 648 1004),en P "__init__" 1016 (.ref 632),en P "__str__" 1023 (.ref 639),en P "str_with_names" 1031 (.ref 647),en P "__static_attributes__" 1034 (.ref 648),en P "__dict__" 1036 (.ref 651),en P "__weakref__" 1038 (.ref 652),en P "__doc__" 1039 .none]),
 (650,yi "Voter" [(.type "object")] [(.ref 650),(.type "object")] 649 true [none,none,some (st "Voter" 994),some (st "Voter" 1002),some (.builtin "object.__new__"),some (.bool true)]),
 (651,kl [(st "__dict__" 1035),(.ref 650),(.builtin "function.__dict__"),(.builtin "function.__dict__#set")]),
 (652,kl [(st "__weakref__" 1037),(.ref 650),(.builtin "ExceptionGroup.__weakref__"),.none]),
 (663,vz 3 [en P "__module__" 1051 m5,en P "__firstlineno__" 1055 (.int 662 1054),en P "__static_attributes__" 1056 (.ref 662),en P "__weakref__" 1058 (.ref 665),en P "__doc__" 1059 .none]),
 (664,yi "TiesException" [(.type "Exception")] [(.ref 664),(.type "Exception"),(.type "BaseException"),(.type "object")] 663 true [some (.ref 655),none,some (st "TiesException" 1044),some (st "TiesException" 1052),some (.builtin "Exception.__new__"),some (.bool true)]),
 (665,kl [(st "__weakref__" 1057),(.ref 664),(.builtin "ExceptionGroup.__weakref__"),.none]),
 (668,iu [.none,(.bool true)]),
 (670,bQ),
 (674,cA "compute" "compute" 1064 664 5 3 1073 674),
 (675,ch (cm 41) "compute" (.ref 668) m5 (.ref 674) [] .none),
 (677,bQ),
 (681,cA "apply_threshold" "apply_threshold" 1076 674 2 3 1085 681),
 (682,ch (cm 42) "apply_threshold" .none m5 (.ref 681) [] .none),
 (689,iu [(.bool true)]),
 (691,bQ),
 (693,cB "divisor" "divisor" 1094 708 4 3 1097 693),
 (694,ch (cm 44) "divisor" (.ref 689) m5 (.ref 693) [] .none),
 (696,bQ),
 (700,cA "_divzero_fewerseatsthanparties" "_divzero_fewerseatsthanparties" 1100 760 3 3 1110 700),
 (701,ch (cm 45) "_divzero_fewerseatsthanparties" .none m5 (.ref 700) [] .none),
 (708,m9 [(.int 0 1121),(.int 1 1122)]),
 (709,m9 [(.int 1 1123),(.int 0 1124)]),
 (710,m9 [(.ref 708),(.ref 709)]),
 (711,m9 [(.int 0 1125),(.int 1 1126),(.int 2 1127)]),
 (712,m9 [(.int 0 1128),(.int 2 1129),(.int 1 1130)]),
 (713,m9 [(.int 1 1131),(.int 0 1132),(.int 2 1133)]),
 (714,m9 [(.int 1 1134),(.int 2 1135),(.int 0 1136)]),
 (715,m9 [(.int 2 1137),(.int 0 1138),(.int 1 1139)]),
 (716,m9 [(.int 2 1140),(.int 1 1141),(.int 0 1142)]),
 (717,m9 [(.ref 711),(.ref 712),(.ref 713),(.ref 714),(.ref 715),(.ref 716)]),
 (718,m9 [(.ref 710),(.ref 717)]),
 (720,bQ),
 (722,cB "_law_shared" "_law_shared" 1144 792 5 3 1147 722),
 (723,ch (cm 49) "_law_shared" .none (st "law_jm0010_01" 1119) (.ref 722) [] .none)]
def KT:km:=[(25,bQ),(32,bQ),(40,bQ)]
noncomputable def Ph:List ao:=[3,4,23,29,30,36,37,38,44,45,47,49,50,58,60,64,65,95,99,100,102,106,107,130,134,135,158,162,163,165,169,170,179,183,184,186,190,191,193,194,195,196,200,204,205,225,235,237,241,242,244,248,249,251,252,253,254,257,259,263,264,266,270,271,280,284,285,287,291,292,294,298,299,308,312,313,322,326,327,335,336,337,339,343,344,346,350,351,352,354,358,359,361,362,363,364,386,408,430,433,434,436,440,441,442,444,448,449,450,452,456,457,458,460,464,465,466,468,472,473,475,477,478,479,481,485,486,488,490,491,499,501,503,504,506,510,511,512,521,525,526,528,532,533,535,539,540,577,581,582,612,613,614,615,625,627,631,632,649,650,651,652,663,664,665,668,670,674,675,677,681,682,689,691,693,694,696,700,701,708,709,710,711,712,713,714,715,716,717,718,720,722,723]
noncomputable def Do(s:ag):Nat×List (Option Obj)×List (Option Obj):=(s.heap.objs.size,Ph.map s.heap.get?,[25,32,40].map s.heap.get?)
def w8(w:cO):Nat×List (Option Obj)×List (Option Obj):=(729,(KL w.params).map (λp=>some p.2),KT.map (λp=>some p.2))
def s_:List aH:=(wx pw).drop 50
def qv:Program:={pw with main:={pw.main with body:=s_}}
def tT:List Str:=pw.boundNames.filter (λx=>x !=("law":Str))
noncomputable def IY(w:cO)(S:ag):=
 ((staticsOk (yw pw.main.body) (wy w.params) S.heap&&namesBound pw S.heap&&gensDone S&&laidKept (wy w.params) S.heap),
  openSeen qv tT (yw pw.main.body) (λ_=>true) true S,Do S)
def QX(w:cO)(os:ww):=PySem.W.Fast.tw10110043849684766642 PySem.W.Fast.tw14364793385576792824 pw w 11 vT 1 4800 (S0 w os) (piecesOf (wx pw) Ai cE qP [Fg qP])
theorem f_:∀(w:cO) (os:ww),(QX w os).map (λr=>(r.1,IY w r.2.1.abs,r.2.2.1,r.2.2.2))=
  some (.next,(true,openGood qv tT,w8 w),cE,⟨807,0,855,74⟩):=by
 intro w os;rfl'
theorem Xh(w:cO)(os:ww):(segRunT pM pw w 11 vT 1 4800 (S0 w os) (piecesOf (wx pw) Ai cE qP [Fg qP])).map (λr=>(r.1,IY w r.2.1.abs,r.2.2.1,r.2.2.2))=
  some (.next,(true,openGood qv tT,w8 w),cE,⟨807,0,855,74⟩):=by
 have h:=f_ w os;unfold QX at h;rw[<-PySem.W.Fast.te10110043849684766642,<-PySem.W.Fast.te14364793385576792824] at h;exact h
end
section
set_option maxHeartbeats 400000
theorem U2:∀w:cO,((wy w.params).isNs mD&&(#[]:Array jo).size==0,(wy w.params).objs.size,(wy w.params).nsMap mD "__annotations__")=(true,11,vT):=by
 intro w;rfl'
theorem Ϛ(w:cO)(S:SharedT):topRun pM pw w 11 vT 10 S.abs (restOf [] Ai cE ⟨807,0,855,74⟩ [Fg qP])=some S.abs:=by
 rfl'
theorem Q6{α β γ δ:Type}{a a':α}{b b':β}{c c':γ}{d d':δ}(h:(a,b,c,d)=(a',b',c',d')):a=a'/\b=b'/\c=c'/\d=d':=by
 cases h;exact⟨rfl,rfl,rfl,rfl⟩
theorem I7{α β γ:Type}{a a':α}{b b':β}{c c':γ}(h:(a,b,c)=(a',b',c')):a=a'/\b=b'/\c=c':=by
 cases h;exact⟨rfl,rfl,rfl⟩
end
section
set_option maxHeartbeats 400000
theorem Ϣ(w:cO)(os:ww):∃S:SharedT,topRun pM pw w 11 vT 10000 ⟨wy w.params,Array.mk [],J6,boot_toks,os⟩ (topStub pw)=some S.abs/\IY w S.abs=(true,openGood qv tT,w8 w):=by
 obtain⟨⟨f,S,c,p⟩,hr,hl⟩:=tz.mp (Xh w os);obtain⟨h1,hl,h3,h4⟩:=Q6 hl;dsimp only at h1 h3 h4;subst h1 h3 h4;have r2:=piece_app (rest:=[]) (segRun_of hr) (Ϛ w S);rw[gO] at r2;have r3:=piece_block (M_ w os) r2;have r4:=go_top (aaM w os) r3;have r:=topRun_mono 5177 _ _ _ _ r4;exact⟨S,r,hl⟩
end
section
set_option maxHeartbeats 400000
theorem afs{p:Program}{w:cO}{N Cr:Nat}{s s':ag}{ann:Option ac}(h1:(s.heap.isNs mD&&s.gens.size==0,s.heap.objs.size,s.heap.nsMap mD "__annotations__")=(true,Cr,ann))
(h2:topRun pM p w Cr ann N s (topStub p)=some s')
(h3:(staticsOk (yw p.main.body) s.heap s'.heap&&namesBound p s'.heap&&gensDone s'&&laidKept s.heap s'.heap)=true):topFrom pM p w N s=some s':=by
 obtain⟨z1,z2,z3⟩:=I7 h1;unfold topFrom;rw[z1,z2,z3,h2];dsimp only[Sl];rw[h3]
theorem WZ{p q:Program}{loose:List Str}{Xt:ag->Bool}{α:Type}{Yf:ag->α}{Ya:cO->α}{N:Nat}{wV:cD->am}{Lg:Array jo}{T5:Drawn}{T6:Nat}{Cr:Nat}{ann:Option ac}
(Gg:∀w:cO,(fencedOpening pM p w N).map (λs=>(s.heap,s.gens,s.drawn,s.toks))=some (wV w.params,Lg,T5,T6))
(size:∀w:cO,((wV w.params).isNs mD&&Lg.size==0,(wV w.params).objs.size,(wV w.params).nsMap mD "__annotations__")=(true,Cr,ann))
(run:∀(w:cO) (os:ww),∃S:SharedT,topRun pM p w Cr ann N ⟨wV w.params,Lg,T5,T6,os⟩ (topStub p)=some S.abs/\
   ((staticsOk (yw p.main.body) (wV w.params) S.abs.heap&&namesBound p S.abs.heap&&gensDone S.abs&&laidKept (wV w.params) S.abs.heap),
    openSeen q loose (yw p.main.body) Xt true S.abs,Yf S.abs)=(true,openGood q loose,Ya w)):LeftO p q loose Xt Yf Ya N:=λw=>by
 obtain⟨⟨h,gs,d,k,os⟩,e,e'⟩:=tz.mp (Gg w);obtain⟨e1,e2,e3,e4⟩:=Q6 (ay (congrArg some e'));dsimp only at e1 e2 e3 e4;subst e1 e2 e3 e4;obtain⟨S,hr,hl⟩:=run w os;obtain⟨l1,l2,l3⟩:=I7 hl;have t:=afs (size w) hr l1;unfold openEnds;rw[e];show(topFrom pM p w N _).map _=_;rw[t];exact congrArg some (Prod.ext l2 l3)
theorem left:LeftO pw qv tT (λ_=>true) Do w8 10000:=WZ Wq U2 Ϣ
end
section
set_option maxHeartbeats 400000
def Ri:aH:=cm 50
theorem Ϭ:(defOf qv ("law":Str)).isSome=true:=⋯
def nQ:DefRec:=((defOf qv ("law":Str)).get Ϭ).1
abbrev uE(w:cO)(h:am):Prop:=(KL w.params).In h/\KT.In h
theorem hY(w:cO)(s:ag)(e:Do s=w8 w):uE w s.heap:=by
 obtain⟨_,h2,h3⟩:=I7 e;exact⟨km.in_of (as:=Ph) ⋯ h2,km.in_of (as:=[25,32,40]) ⋯ h3⟩
noncomputable abbrev ef:OpenRow:=La.row
theorem abK:defOf qv ("law":Str)=some (nQ,[]):=⋯
theorem okL:(chainsOk qv&&opensWell ef.prog&&(frees ef.toRowW&&ef.toRowW.within.isEmpty))=true:=⋯
theorem Wm:ef.prog.bare:=by
 unfold Program.bare;exact⟨rfl,rfl,rfl,rfl,by rfl,⋯⟩
theorem ahF(k1:ef.wellSaid=true)(hw:ef.toRowW.promised)
(bC:WalkO qv tT (λ_ _=>True) uE ef.toRowW nQ [] λf vs=>Sm f vs):ef.Holds:=
 holds_open (q:=qv) (loose:=tT) (Xt:=λ_=>true) (XP:=λ_ _=>True) (Yf:=Do) (Ya:=w8) (YP:=uE) (d:=nQ) (kwd:=[]) left hY (λw h h' x k=>⟨x.1.keeps k,x.2.keeps k⟩) (λ_ _=>trivial) (λ_ _ _ _ _=>trivial)
  abK ⋯ ⋯ (λs _=>recFacts_nil rfl) ⋯ k1 okL Wm hw bC
end
section
universe u v
theorem af{α:Sort u}{β:Sort v}{T7 a₂:α}(f:α->β)(h:T7=a₂):f T7=f a₂:=congrArg f h
theorem iP{c:Prop}{_:Decidable c}(h:c){α:Sort u}{a b:α}:ite c a b=a:=if_pos h
theorem iN{c:Prop}{_:Decidable c}(h:¬c){α:Sort u}{a b:α}:ite c a b=b:=if_neg h
theorem dT{p:Prop}{_:Decidable p}(h:p):decide p=true:=decide_eq_true h
theorem cC{p:Prop}{_:Decidable p}(h:decide p=true):p:=of_decide_eq_true h
theorem dF{p:Prop}{_:Decidable p}(h:¬p):decide p=false:=decide_eq_false h
theorem iM{p:Prop}{_:Decidable p}(h:decide p=false):¬p:=of_decide_eq_false h
section
variable{α β:Type}{P:Prop}{c:Prop}[Decidable c]{a b:α}{x:Option α}{g:α->Option β}{r:β}{k:α->β}
theorem aj(h:x.bind g=some r)(K:∀a,x=some a->g a=some r->P):P:=by
 cases x with
 |none=>injection h
 |some a=>exact K a rfl h
@[elab_as_elim] theorem fH{m:β->Prop}(h:x.map k=some r)(K:∀a,x=some a->m (k a)):m r:=by
 cases x with
 |none=>injection h
 |some a=>injection h with h;exact h▸K a rfl
theorem fM(h:x.map k=some r)(K:∀a,x=some a->k a=r->P):P:=by
 cases x with
 |none=>injection h
 |some a=>injection h with h;exact K a rfl h
theorem aL(h:(if c then x else none)=some a)(K:c->x=some a->P):P:=by
 by_cases q:c
 ·rw[if_pos q] at h;exact K q h
 ·rw[if_neg q] at h;injection h
theorem fU(h:(if c then none else x)=some a)(K:¬c->x=some a->P):P:=by
 by_cases q:c
 ·rw[if_pos q] at h;injection h
 ·rw[if_neg q] at h;exact K q h
@[elab_as_elim] theorem oI{m:α->Prop}(h:some a=some b)(K:m a):m b:=by injection h with h;exact h▸K
theorem nS(h:none=some a):P:=by injection h
theorem ff(h:false=true):P:=absurd h dy
theorem tf(h:true=false):P:=absurd h.symm dy
theorem sN(h:some a=none):P:=nS h.symm
theorem mN(h:a∈([]:List α)):P:=absurd h eX
theorem nl{l:List α}(h:[]=a::l):P:=absurd h.symm (Sn a l)
theorem ln{l:List α}(h:a::l=[]):P:=absurd h (Sn a l)
end
theorem aW{a b:Bool}(h:(a&&b)=true):a=true/\b=true:=TS.mp h
theorem lQ{a b:Bool}(h:(a||b)=true):a=true\/b=true:=Lb.mp h
theorem a5{α:Type}[BEq α][LawfulBEq α]{a b:α}(h:(a==b)=true):a=b:=beq_iff_eq.mp h
theorem jV{α:Type}[BEq α][LawfulBEq α]{a b:α}(h:a=b):(a==b)=true:=beq_iff_eq.mpr h
theorem li{α:Type}[BEq α][LawfulBEq α]{a b:α}(h:a≠b):(a==b)=false:=beq_eq_false_iff_ne.mpr h
theorem bw{α:Type}{a b:α}{l:List α}(h:a∈b::l):a=b\/a∈l:=jN.mp h
theorem b7{α:Type}{p:α->Bool}{l:List α}(h:l.all p=true):∀x∈l,p x=true:=KN.mp h
theorem cY{α:Type}{a b:α}(h:a∈[b]):a=b:=F8.mp h
theorem dJ{m n:Nat}(h:m<n):m∈ax n:=KZ.mpr h
theorem eK{m n:Nat}(h:m∈ax n):m<n:=KZ.mp h
theorem eL{α:Type}{p:α->Bool}{l:List α}{x:α}(h:x∈l.filter p):x∈l/\p x=true:=oC.mp h
theorem o5{α:Type}{p:α->Bool}{l:List α}{x:α}(h:x∈l/\p x=true):x∈l.filter p:=oC.mpr h
theorem fv{p q:Prop}{_:Decidable p}{_:Decidable q}(h:p↔q):decide p=decide q:=decide_eq_decide.mpr h
theorem gN{m n:Nat}(h:n<=m):¬m<n:=Nat.not_lt.mpr h
theorem nh{m n:Nat}(h:n<m):¬m<=n:=Nat.not_le.mpr h
theorem im{m n:Int}(h:n<=m):¬m<n:=Int.not_lt.mpr h
theorem jA{m n:Int}(h:¬m<n):n<=m:=Int.not_lt.mp h
theorem iV{α:Type}{a:α}{l:List α}(h:(a::l).Nodup):a∉l/\l.Nodup:=List.nodup_cons.mp h
theorem nL{α:Type}{a:α}{l:List α}(h:a∉l/\l.Nodup):(a::l).Nodup:=List.nodup_cons.mpr h
theorem jc{m n:Nat}(h:m<n):(m:Int)<n:=za.mpr h
theorem pJ{m n:Nat}(h:m<=n):(m:Int)<=n:=TN.mpr h
theorem jF{α:Type}{l:List α}(h:l.isEmpty=true):l=[]:=List.isEmpty_iff.mp h
theorem mj{α:Type}{R:α->α->Prop}{a:α}{l:List α}(h:(a::l).Pairwise R):(∀b∈l,R a b)/\l.Pairwise R:=Ga.mp h
theorem lN{α:Type}{a:α}{s t:List α}(h:a∈s++t):a∈s\/a∈t:=K6.mp h
theorem n3{a:Bool}(h:a≠true):a=false:=Bool.eq_false_iff.mpr h
theorem qt{α:Type}[BEq α][LawfulBEq α]{a:α}{l:List α}(h:l.contains a=true):a∈l:=kx.mp h
theorem bE{P:Prop}(h:∀G:Prop,(P->G)->G):P:=h P id
end
section
variable{kE oE tB zh Lh:Type}{G:Prop}
section
variable{P0 P1 P2 P3 P4 P5 P6:Prop}
theorem dS(h:P0/\P1)(K:P0->P1->G):G:=K h.1 h.2
theorem fb(h:P0/\P1/\P2)(K:P0->P1->P2->G):G:=K h.1 h.2.1 h.2.2
theorem afh(h:P0/\P1/\P2/\P3)(K:P0->P1->P2->P3->G):G:=K h.1 h.2.1 h.2.2.1 h.2.2.2
theorem adS(h:P0/\P1/\P2/\P3/\P4/\P5/\P6)(K:P0->P1->P2->P3->P4->P5->P6->G):G:=K h.1 h.2.1 h.2.2.1 h.2.2.2.1 h.2.2.2.2.1 h.2.2.2.2.2.1 h.2.2.2.2.2.2
end
section
variable{P0 P1 P2 P3 P4 P5 P6:kE->Prop}
theorem dN(h:∃x,P0 x)(K:∀x,P0 x->G):G:=by obtain⟨x,h0⟩:=h;exact K x h0
theorem aB(h:∃x,P0 x/\P1 x)(K:∀x,P0 x->P1 x->G):G:=by obtain⟨x,h0,h1⟩:=h;exact K x h0 h1
theorem cP(h:∃x,P0 x/\P1 x/\P2 x)(K:∀x,P0 x->P1 x->P2 x->G):G:=by obtain⟨x,h0,h1,h2⟩:=h;exact K x h0 h1 h2
theorem kU(h:∃x,P0 x/\P1 x/\P2 x/\P3 x)(K:∀x,P0 x->P1 x->P2 x->P3 x->G):G:=by obtain⟨x,h0,h1,h2,h3⟩:=h;exact K x h0 h1 h2 h3
theorem adT(h:∃x,P0 x/\P1 x/\P2 x/\P3 x/\P4 x/\P5 x)(K:∀x,P0 x->P1 x->P2 x->P3 x->P4 x->P5 x->G):G:=by obtain⟨x,h0,h1,h2,h3,h4,h5⟩:=h;exact K x h0 h1 h2 h3 h4 h5
end
section
variable{P0 P1 P2 P3 P4 P5 P6:kE->oE->Prop}
theorem jZ(h:∃x y,P0 x y)(K:∀x y,P0 x y->G):G:=by obtain⟨x,y,h0⟩:=h;exact K x y h0
theorem eH(h:∃x y,P0 x y/\P1 x y)(K:∀x y,P0 x y->P1 x y->G):G:=by obtain⟨x,y,h0,h1⟩:=h;exact K x y h0 h1
theorem sH(h:∃x y,P0 x y/\P1 x y/\P2 x y)(K:∀x y,P0 x y->P1 x y->P2 x y->G):G:=by obtain⟨x,y,h0,h1,h2⟩:=h;exact K x y h0 h1 h2
theorem D5(h:∃x y,P0 x y/\P1 x y/\P2 x y/\P3 x y)(K:∀x y,P0 x y->P1 x y->P2 x y->P3 x y->G):G:=by obtain⟨x,y,h0,h1,h2,h3⟩:=h;exact K x y h0 h1 h2 h3
theorem aeq(h:∃x y,P0 x y/\P1 x y/\P2 x y/\P3 x y/\P4 x y)(K:∀x y,P0 x y->P1 x y->P2 x y->P3 x y->P4 x y->G):G:=by obtain⟨x,y,h0,h1,h2,h3,h4⟩:=h;exact K x y h0 h1 h2 h3 h4
end
section
variable{P0 P1 P2 P3 P4 P5 P6:kE->oE->tB->Prop}
theorem ue(h:∃x y z,P0 x y z/\P1 x y z)(K:∀x y z,P0 x y z->P1 x y z->G):G:=by obtain⟨x,y,z,h0,h1⟩:=h;exact K x y z h0 h1
theorem jz(h:∃x y z,P0 x y z/\P1 x y z/\P2 x y z)(K:∀x y z,P0 x y z->P1 x y z->P2 x y z->G):G:=by obtain⟨x,y,z,h0,h1,h2⟩:=h;exact K x y z h0 h1 h2
theorem xA(h:∃x y z,P0 x y z/\P1 x y z/\P2 x y z/\P3 x y z)(K:∀x y z,P0 x y z->P1 x y z->P2 x y z->P3 x y z->G):G:=by obtain⟨x,y,z,h0,h1,h2,h3⟩:=h;exact K x y z h0 h1 h2 h3
theorem DG(h:∃x y z,P0 x y z/\P1 x y z/\P2 x y z/\P3 x y z/\P4 x y z)(K:∀x y z,P0 x y z->P1 x y z->P2 x y z->P3 x y z->P4 x y z->G):G:=by obtain⟨x,y,z,h0,h1,h2,h3,h4⟩:=h;exact K x y z h0 h1 h2 h3 h4
end
section
variable{P0 P1 P2 P3 P4 P5 P6:kE->oE->tB->zh->Prop}
theorem aa9(h:∃x y z u,P0 x y z u)(K:∀x y z u,P0 x y z u->G):G:=by obtain⟨x,y,z,u,h0⟩:=h;exact K x y z u h0
theorem tI(h:∃x y z u,P0 x y z u/\P1 x y z u)(K:∀x y z u,P0 x y z u->P1 x y z u->G):G:=by obtain⟨x,y,z,u,h0,h1⟩:=h;exact K x y z u h0 h1
theorem aeZ(h:∃x y z u,P0 x y z u/\P1 x y z u/\P2 x y z u)(K:∀x y z u,P0 x y z u->P1 x y z u->P2 x y z u->G):G:=by obtain⟨x,y,z,u,h0,h1,h2⟩:=h;exact K x y z u h0 h1 h2
theorem NL(h:∃x y z u,P0 x y z u/\P1 x y z u/\P2 x y z u/\P3 x y z u)(K:∀x y z u,P0 x y z u->P1 x y z u->P2 x y z u->P3 x y z u->G):G:=by obtain⟨x,y,z,u,h0,h1,h2,h3⟩:=h;exact K x y z u h0 h1 h2 h3
theorem Mc(h:∃x y z u,P0 x y z u/\P1 x y z u/\P2 x y z u/\P3 x y z u/\P4 x y z u)(K:∀x y z u,P0 x y z u->P1 x y z u->P2 x y z u->P3 x y z u->P4 x y z u->G):G:=by obtain⟨x,y,z,u,h0,h1,h2,h3,h4⟩:=h;exact K x y z u h0 h1 h2 h3 h4
end
section
variable{P0 P1 P2 P3 P4 P5 P6:kE->oE->tB->zh->Lh->Prop}
theorem v7(h:∃x y z u v,P0 x y z u v/\P1 x y z u v)(K:∀x y z u v,P0 x y z u v->P1 x y z u v->G):G:=by obtain⟨x,y,z,u,v,h0,h1⟩:=h;exact K x y z u v h0 h1
end
section
variable{P0 P1 P2 P3 P4 P5 P6:Prop}
theorem ej(h0:P0)(h1:P1)(h2:P2):P0/\P1/\P2:=⟨h0,h1,h2⟩
theorem zK(h0:P0)(h1:P1)(h2:P2)(h3:P3):P0/\P1/\P2/\P3:=⟨h0,h1,h2,h3⟩
theorem Rq(h0:P0)(h1:P1)(h2:P2)(h3:P3)(h4:P4):P0/\P1/\P2/\P3/\P4:=⟨h0,h1,h2,h3,h4⟩
theorem ae4(h0:P0)(h1:P1)(h2:P2)(h3:P3)(h4:P4)(h5:P5)(h6:P6):P0/\P1/\P2/\P3/\P4/\P5/\P6:=⟨h0,h1,h2,h3,h4,h5,h6⟩
end
section
variable{P0 P1 P2 P3 P4 P5 P6:kE->Prop}(x:kE)
theorem az(h0:P0 x)(h1:P1 x):∃x,P0 x/\P1 x:=⟨x,h0,h1⟩
theorem cz(h0:P0 x)(h1:P1 x)(h2:P2 x):∃x,P0 x/\P1 x/\P2 x:=⟨x,h0,h1,h2⟩
theorem vn(h0:P0 x)(h1:P1 x)(h2:P2 x)(h3:P3 x):∃x,P0 x/\P1 x/\P2 x/\P3 x:=⟨x,h0,h1,h2,h3⟩
theorem aby(h0:P0 x)(h1:P1 x)(h2:P2 x)(h3:P3 x)(h4:P4 x)(h5:P5 x):∃x,P0 x/\P1 x/\P2 x/\P3 x/\P4 x/\P5 x:=⟨x,h0,h1,h2,h3,h4,h5⟩
end
section
variable{P0 P1 P2 P3 P4 P5 P6:kE->oE->Prop}(x:kE)(y:oE)
theorem jH(h0:P0 x y):∃x y,P0 x y:=⟨x,y,h0⟩
theorem du(h0:P0 x y)(h1:P1 x y):∃x y,P0 x y/\P1 x y:=⟨x,y,h0,h1⟩
theorem yg(h0:P0 x y)(h1:P1 x y)(h2:P2 x y):∃x y,P0 x y/\P1 x y/\P2 x y:=⟨x,y,h0,h1,h2⟩
theorem uw(h0:P0 x y)(h1:P1 x y)(h2:P2 x y)(h3:P3 x y):∃x y,P0 x y/\P1 x y/\P2 x y/\P3 x y:=⟨x,y,h0,h1,h2,h3⟩
theorem ND(h0:P0 x y)(h1:P1 x y)(h2:P2 x y)(h3:P3 x y)(h4:P4 x y):∃x y,P0 x y/\P1 x y/\P2 x y/\P3 x y/\P4 x y:=⟨x,y,h0,h1,h2,h3,h4⟩
end
section
variable{P0 P1 P2 P3 P4 P5 P6:kE->oE->tB->Prop}(x:kE)(y:oE)(z:tB)
theorem zt(h0:P0 x y z)(h1:P1 x y z):∃x y z,P0 x y z/\P1 x y z:=⟨x,y,z,h0,h1⟩
theorem jS(h0:P0 x y z)(h1:P1 x y z)(h2:P2 x y z):∃x y z,P0 x y z/\P1 x y z/\P2 x y z:=⟨x,y,z,h0,h1,h2⟩
theorem xy(h0:P0 x y z)(h1:P1 x y z)(h2:P2 x y z)(h3:P3 x y z):∃x y z,P0 x y z/\P1 x y z/\P2 x y z/\P3 x y z:=⟨x,y,z,h0,h1,h2,h3⟩
theorem GB(h0:P0 x y z)(h1:P1 x y z)(h2:P2 x y z)(h3:P3 x y z)(h4:P4 x y z):∃x y z,P0 x y z/\P1 x y z/\P2 x y z/\P3 x y z/\P4 x y z:=⟨x,y,z,h0,h1,h2,h3,h4⟩
theorem abG(h0:P0 x y z)(h1:P1 x y z)(h2:P2 x y z)(h3:P3 x y z)(h4:P4 x y z)(h5:P5 x y z):∃x y z,P0 x y z/\P1 x y z/\P2 x y z/\P3 x y z/\P4 x y z/\P5 x y z:=⟨x,y,z,h0,h1,h2,h3,h4,h5⟩
end
section
variable{P0 P1 P2 P3 P4 P5 P6:kE->oE->tB->zh->Prop}(x:kE)(y:oE)(z:tB)(u:zh)
theorem aeb(h0:P0 x y z u):∃x y z u,P0 x y z u:=⟨x,y,z,u,h0⟩
theorem vR(h0:P0 x y z u)(h1:P1 x y z u)(h2:P2 x y z u)(h3:P3 x y z u):∃x y z u,P0 x y z u/\P1 x y z u/\P2 x y z u/\P3 x y z u:=⟨x,y,z,u,h0,h1,h2,h3⟩
theorem Bm(h0:P0 x y z u)(h1:P1 x y z u)(h2:P2 x y z u)(h3:P3 x y z u)(h4:P4 x y z u):∃x y z u,P0 x y z u/\P1 x y z u/\P2 x y z u/\P3 x y z u/\P4 x y z u:=⟨x,y,z,u,h0,h1,h2,h3,h4⟩
end
section
variable{P0 P1 P2 P3 P4 P5 P6:kE->oE->tB->zh->Lh->Prop}(x:kE)(y:oE)(z:tB)(u:zh)(v:Lh)
theorem N2(h0:P0 x y z u v)(h1:P1 x y z u v):∃x y z u v,P0 x y z u v/\P1 x y z u v:=⟨x,y,z,u,v,h0,h1⟩
theorem Zk(h0:P0 x y z u v)(h1:P1 x y z u v)(h2:P2 x y z u v)(h3:P3 x y z u v)(h4:P4 x y z u v):∃x y z u v,P0 x y z u v/\P1 x y z u v/\P2 x y z u v/\P3 x y z u v/\P4 x y z u v:=⟨x,y,z,u,v,h0,h1,h2,h3,h4⟩
end
end
@[elab_as_elim] theorem hZ{α:Type}{a b:α}{m:α->Prop}(h:b=a)(k:m b):m a:=h▸k
@[elab_as_elim] theorem qN{α:Type}{m:Option α->Prop}(t:Option α)(none:m none)(some:∀a,m (some a)):m t:=Option.casesOn (motive:=m) t none some
@[elab_as_elim] theorem bO{α:Type}{m:List α->Prop}(t:List α)(nil:m [])(cons:∀a l,m (a::l)):m t:=List.casesOn (motive:=m) t nil cons
@[elab_as_elim] theorem je{m:Bool->Prop}(t:Bool)(false:m false)(true:m true):m t:=Bool.casesOn (motive:=m) t false true
@[elab_as_elim] theorem n7{m:Nat->Prop}(t:Nat)(zero:m 0)(succ:∀n,m (n+1)):m t:=Nat.casesOn (motive:=m) t zero succ
@[elab_as_elim] theorem eB{m:aT->Prop}(t:aT)(BoolOp:∀(x0:PySem.BoolOp) (x1:_root_.List aT) (x2:b8),m (.BoolOp x0 x1 x2))(NamedExpr:∀(x0:aT) (x1:aT) (x2:b8),m (.NamedExpr x0 x1 x2))(BinOp:∀(x0:aT) (x1:PySem.Operator) (x2:aT) (x3:b8),m (.BinOp x0 x1 x2 x3))(UnaryOp:∀(x0:PySem.UnaryOp) (x1:aT) (x2:b8),m (.UnaryOp x0 x1 x2))(Lambda:∀(x0:Sp) (x1:aT) (x2:oi) (x3:b8),m (.Lambda x0 x1 x2 x3))(IfExp:∀(x0:aT) (x1:aT) (x2:aT) (x3:b8),m (.IfExp x0 x1 x2 x3))(Dict:∀(x0:_root_.List (Option aT)) (x1:_root_.List aT) (x2:b8),m (.Dict x0 x1 x2))(Set:∀(x0:_root_.List aT) (x1:Nat) (x2:b8),m (.Set x0 x1 x2))(ListComp:∀(x0:aT) (x1:_root_.List J7) (x2:oi) (x3:b8),m (.ListComp x0 x1 x2 x3))(SetComp:∀(x0:aT) (x1:_root_.List J7) (x2:oi) (x3:b8),m (.SetComp x0 x1 x2 x3))(DictComp:∀(x0:aT) (x1:aT) (x2:_root_.List J7) (x3:oi) (x4:b8),m (.DictComp x0 x1 x2 x3 x4))(GeneratorExp:∀(x0:aT) (x1:_root_.List J7) (x2:oi) (x3:b8),m (.GeneratorExp x0 x1 x2 x3))(Await:∀(x0:aT) (x1:b8),m (.Await x0 x1))(Yield:∀(x0:Option aT) (x1:b8),m (.Yield x0 x1))(YieldFrom:∀(x0:aT) (x1:b8),m (.YieldFrom x0 x1))(Compare:∀(x0:aT) (x1:_root_.List PySem.CmpOp) (x2:_root_.List aT) (x3:b8),m (.Compare x0 x1 x2 x3))(Call:∀(x0:aT) (x1:_root_.List aT) (x2:_root_.List PySem.Keyword) (x3:b8),m (.Call x0 x1 x2 x3))(FormattedValue:∀(x0:aT) (x1:Int) (x2:Option aT) (x3:b8),m (.FormattedValue x0 x1 x2 x3))(JoinedStr:∀(x0:_root_.List aT) (x1:b8),m (.JoinedStr x0 x1))(Constant:∀(x0:J8) (x1:Nat) (x2:b8),m (.Constant x0 x1 x2))(Attribute:∀(x0:aT) (x1:kq) (x2:b8),m (.Attribute x0 x1 x2))(Subscript:∀(x0:aT) (x1:aT) (x2:b8),m (.Subscript x0 x1 x2))(Starred:∀(x0:aT) (x1:b8),m (.Starred x0 x1))(Name:∀(x0:kq) (x1:b8),m (.Name x0 x1))(List:∀(x0:_root_.List aT) (x1:b8),m (.List x0 x1))(Tuple:∀(x0:_root_.List aT) (x1:Nat) (x2:b8),m (.Tuple x0 x1 x2))(Slice:∀(x0:Option aT) (x1:Option aT) (x2:Option aT) (x3:b8),m (.Slice x0 x1 x2 x3)):m t:=aT.casesOn (motive_1:=m) t BoolOp NamedExpr BinOp UnaryOp Lambda IfExp Dict Set ListComp SetComp DictComp GeneratorExp Await Yield YieldFrom Compare Call FormattedValue JoinedStr Constant Attribute Subscript Starred Name List Tuple Slice
@[elab_as_elim] theorem PX{m:gQ->Prop}(t:gQ)(FunctionDef:∀(x0:kq) (x1:Sp) (x2:_root_.List gQ) (x3:_root_.List aT) (x4:Option aT) (x5:_root_.List J9) (x6:oi) (x7:Option oi) (x8:kq) (x9:b8),m (.FunctionDef x0 x1 x2 x3 x4 x5 x6 x7 x8 x9))(AsyncFunctionDef:∀(x0:kq) (x1:Sp) (x2:_root_.List gQ) (x3:_root_.List aT) (x4:Option aT) (x5:_root_.List J9) (x6:oi) (x7:Option oi) (x8:kq) (x9:b8),m (.AsyncFunctionDef x0 x1 x2 x3 x4 x5 x6 x7 x8 x9))(ClassDef:∀(x0:kq) (x1:_root_.List aT) (x2:_root_.List PySem.Keyword) (x3:_root_.List gQ) (x4:_root_.List aT) (x5:_root_.List J9) (x6:oi) (x7:Option oi) (x8:kq) (x9:_root_.List kq) (x10:b8),m (.ClassDef x0 x1 x2 x3 x4 x5 x6 x7 x8 x9 x10))(Return:∀(x0:Option aT) (x1:b8),m (.Return x0 x1))(Delete:∀(x0:_root_.List aT) (x1:b8),m (.Delete x0 x1))(Assign:∀(x0:_root_.List aT) (x1:aT) (x2:b8),m (.Assign x0 x1 x2))(TypeAlias:∀(x0:aT) (x1:_root_.List J9) (x2:aT) (x3:oi) (x4:Option oi) (x5:kq) (x6:b8),m (.TypeAlias x0 x1 x2 x3 x4 x5 x6))(AugAssign:∀(x0:aT) (x1:PySem.Operator) (x2:aT) (x3:b8),m (.AugAssign x0 x1 x2 x3))(AnnAssign:∀(x0:aT) (x1:aT) (x2:Option aT) (x3:Int) (x4:b8),m (.AnnAssign x0 x1 x2 x3 x4))(For:∀(x0:aT) (x1:aT) (x2:_root_.List gQ) (x3:_root_.List gQ) (x4:b8),m (.For x0 x1 x2 x3 x4))(AsyncFor:∀(x0:aT) (x1:aT) (x2:_root_.List gQ) (x3:_root_.List gQ) (x4:b8),m (.AsyncFor x0 x1 x2 x3 x4))(While:∀(x0:aT) (x1:_root_.List gQ) (x2:_root_.List gQ) (x3:b8),m (.While x0 x1 x2 x3))(If:∀(x0:aT) (x1:_root_.List gQ) (x2:_root_.List gQ) (x3:b8),m (.If x0 x1 x2 x3))(With:∀(x0:_root_.List PySem.WithItem) (x1:_root_.List gQ) (x2:b8),m (.With x0 x1 x2))(AsyncWith:∀(x0:_root_.List PySem.WithItem) (x1:_root_.List gQ) (x2:b8),m (.AsyncWith x0 x1 x2))(Match:∀(x0:aT) (x1:_root_.List PySem.MatchCase) (x2:b8),m (.Match x0 x1 x2))(Raise:∀(x0:Option aT) (x1:Option aT) (x2:b8),m (.Raise x0 x1 x2))(Try:∀(x0:_root_.List gQ) (x1:_root_.List af0) (x2:_root_.List gQ) (x3:_root_.List gQ) (x4:b8),m (.Try x0 x1 x2 x3 x4))(TryStar:∀(x0:_root_.List gQ) (x1:_root_.List af0) (x2:_root_.List gQ) (x3:_root_.List gQ) (x4:b8),m (.TryStar x0 x1 x2 x3 x4))(Assert:∀(x0:aT) (x1:Option aT) (x2:b8),m (.Assert x0 x1 x2))(Import:∀(x0:_root_.List PySem.Alias) (x1:b8),m (.Import x0 x1))(ImportFrom:∀(x0:Option kq) (x1:_root_.List PySem.Alias) (x2:Option Int) (x3:b8),m (.ImportFrom x0 x1 x2 x3))(Global:∀(x0:_root_.List kq) (x1:b8),m (.Global x0 x1))(Nonlocal:∀(x0:_root_.List kq) (x1:b8),m (.Nonlocal x0 x1))(Expr:∀(x0:aT) (x1:b8),m (.Expr x0 x1))(Pass:∀(x0:b8),m (.Pass x0))(Break:∀(x0:b8),m (.Break x0))(Continue:∀(x0:b8),m (.Continue x0)):m t:=gQ.casesOn (motive_2:=m) t FunctionDef AsyncFunctionDef ClassDef Return Delete Assign TypeAlias AugAssign AnnAssign For AsyncFor While If With AsyncWith Match Raise Try TryStar Assert Import ImportFrom Global Nonlocal Expr Pass Break Continue
@[elab_as_elim] theorem AZ{m:Sq->Prop}(t:Sq)(none:m (.none))(ellipsis:m (.ellipsis))(notImplemented:m (.notImplemented))(bool:∀(x0:Bool),m (.bool x0))(int:∀(x0:Int) (x1:J'),m (.int x0 x1))(float:∀(x0:UInt64) (x1:J'),m (.float x0 x1))(str:∀(x0:kq) (x1:J'),m (.str x0 x1))(bytes:∀(x0:Array UInt8) (x1:J'),m (.bytes x0 x1))(type:∀(x0:String),m (.type x0))(builtin:∀(x0:String),m (.builtin x0))(ref:∀(x0:PySem.Addr),m (.ref x0)):m t:=Sq.casesOn (motive:=m) t none ellipsis notImplemented bool int float str bytes type builtin ref
@[elab_as_elim] theorem csC{m:J8->Prop}(t:J8)(none:m (.none))(bool:∀(x0:Bool),m (.bool x0))(int:∀(x0:Int),m (.int x0))(float:∀(x0:UInt64),m (.float x0))(complex:∀(x0:UInt64) (x1:UInt64),m (.complex x0 x1))(str:∀(x0:kq),m (.str x0))(bytes:∀(x0:List UInt8),m (.bytes x0))(ellipsis:m (.ellipsis)):m t:=J8.casesOn (motive:=m) t none bool int float complex str bytes ellipsis
inductive PV where
 |none|bool (b:Bool)|int (i:Int)|str (s:Str)
 |tup (l:List PV)|list (l:List PV)|set (l:List Nat)|d8 (lo hi:Int)
 |inst (c:Nat) (fs:List (Str×PV))
 |any
 deriving Inhabited
@[elab_as_elim] theorem dh{m:PV->Prop}(t:PV)(none:m (.none))(bool:∀(x0:Bool),m (.bool x0))(int:∀(x0:Int),m (.int x0))(str:∀(x0:Str),m (.str x0))(tup:∀(x0:List PV),m (.tup x0))(list:∀(x0:List PV),m (.list x0))(set:∀(x0:List Nat),m (.set x0))(d8:∀(x0:Int) (x1:Int),m (.d8 x0 x1))(inst:∀(x0:Nat) (x1:List (Str×PV)),m (.inst x0 x1))(any:m (.any)):m t:=PV.casesOn (motive_1:=m) t none bool int str tup list set d8 inst any
abbrev bj:=List (Str×PV)
abbrev aN:=List (Str×gU)
structure aK where
 fn:Str->List PV->List (Str×PV)->Option PV
 bM:Nat->Str->List PV->List (Str×PV)->Option PV
 attr:Nat->Str->PV->Option PV
 bin:ia->PV->PV->Option PV
 cmp:iF->PV->PV->Option Bool
 make:Str->List PV->List (Str×PV)->Option (Nat×List (Str×PV)×List Str)
 mw:Nat->List (Str×PV)->List Str->Str->List PV->Option (List (Str×PV))
 nW:Str->List PV->List (Str×PV)->Bool
 gens:Bool
noncomputable def dm:Nat:=194
noncomputable def qz:Nat:=252
noncomputable def cK:Nat:=362
noncomputable def bx:Nat:=613
noncomputable def iy:Nat:=650
noncomputable def ak{α:Type}(l:List (Str×α))(x:Str):Option α:=match l with
 |[]=>aP
 |(y,v)::r=>if y=x then some v else ak r x
noncomputable def b9{α:Type}(l:List (Str×α))(x:Str)(v:α):List (Str×α):=match l with
 |[]=>[(x,v)]
 |(y,u)::r=>if y=x then(x,v)::r else(y,u)::b9 r x v
noncomputable def PV.isScalar:PV->Bool
 |.none|.bool _|.int _|.str _=>true
 |_=>false
noncomputable def PV.oL:PV->Bool
 |.inst ..=>true
 |_=>false
noncomputable def PV.Et:PV->Option Unit
 |.none=>some ()
 |_=>aP
noncomputable def PV.ei:PV->Option Int
 |.int i=>some i
 |_=>aP
noncomputable def PV.vO:PV->Option Str
 |.str i=>some i
 |_=>aP
noncomputable def PV.yc:PV->Option Bool
 |.bool i=>some i
 |_=>aP
noncomputable def PV.ij:PV->Option (List PV)
 |.list i=>some i
 |_=>aP
noncomputable def PV.Eh:PV->Option (List PV)
 |.tup i=>some i
 |_=>aP
noncomputable def PV.Ab:PV->Option (List Nat)
 |.set i=>some i
 |_=>aP
section
variable{p:PV}{m:PV->Prop}
@[elab_as_elim] theorem Bb{i:Unit}(h:p.Et=some i)(K:m .none):m p:=by
 induction p using dh with
 |none=>exact K
 |_=>exact nS h
@[elab_as_elim] theorem eA{i:Int}(h:p.ei=some i)(K:m (.int i)):m p:=by
 induction p using dh with
 |int j=>exact ay h▸K
 |_=>exact nS h
@[elab_as_elim] theorem Bs{i:Str}(h:p.vO=some i)(K:m (.str i)):m p:=by
 cases p with
 |str j=>exact ay h▸K
 |_=>exact nS h
@[elab_as_elim] theorem Eo{i:Bool}(h:p.yc=some i)(K:m (.bool i)):m p:=by
 induction p using dh with
 |bool j=>exact ay h▸K
 |_=>exact nS h
@[elab_as_elim] theorem pI{i:List PV}(h:p.ij=some i)(K:m (.list i)):m p:=by
 induction p using dh with
 |list j=>exact ay h▸K
 |_=>exact nS h
@[elab_as_elim] theorem I1{i:List PV}(h:p.Eh=some i)(K:m (.tup i)):m p:=by
 induction p using dh with
 |tup j=>exact ay h▸K
 |_=>exact nS h
@[elab_as_elim] theorem XV{i:List Nat}(h:p.Ab=some i)(K:m (.set i)):m p:=by
 induction p using dh with
 |set j=>exact ay h▸K
 |_=>exact nS h
end
noncomputable def PV.truth:PV->Option Bool
 |.none=>some false
 |.bool b=>some b
 |.int i=>some (decide (i≠0))
 |.list l=>some (!l.isEmpty)
 |_=>aP
noncomputable def dk:Nat->PV->PV->Option Bool
 |0,_,_=>aP
 |n+1,a,b=>match a with
  |.int i=>b.ei.map λj=>i==j
  |.str i=>b.vO.map λj=>i==j
  |.bool i=>b.yc.map λj=>i==j
  |.list l=>b.ij.bind λm=>if l.length=m.length then qp (dk n) l m else some false
  |_=>aP
where
 qp (f:PV->PV->Option Bool):List PV->List PV->Option Bool
  |[],_=>some true
  |x::l,m=>(match m with
   |[]=>some true
   |y::m=>(f x y).bind λr=>(qp f l m).map λq=>r&&q)
noncomputable def rZ(a b:Str):Bool:=decide (a.cps.toList<b.cps.toList)
def fh(O:aK)(a b:PV):Option Bool:=match a with
 |.int i=>b.ei.map λj=>decide (i<j)
 |.str i=>b.vO.map λj=>rZ i j
 |.list l=>b.ij.bind λm=>ph l m
 |.inst c fs=>O.cmp .Lt (.inst c fs) b
 |_=>aP
where
 ph:List PV->List PV->Option Bool
  |[],m=>(match m with
   |[]=>some false
   |y::_=>y.ei.map λ_=>true)
  |x::l,m=>x.ei.bind λi=>(match m with
   |[]=>some false
   |y::m=>y.ei.bind λj=>if i=j then ph l m else some (decide (i<j)))
noncomputable def p6{α:Type}(cmp:Nat->Nat->Option Bool):KasT α->Option α
 |.ret a=>some a
 |.ask i j k=>(cmp i j).bind λb=>p6 cmp (k b)
def ll{α:Type}(lt:α->α->Option Bool)(l:List α):Option (List α):=
 if l.length<2 then some l
 else if l.length<64 then(p6 (λi j=>(l[i]?).bind λa=>(l[j]?).bind (lt a)) (kas_sort l.length)).bind λp=>p.toList.mapM λi=>l[i]?
 else none
def qj{β:Type}(l:List Nat)(k:List PV->Option β):Option β:=
 open Classical in if h:∃r,∀l':List Nat,l'.Perm l->k (l'.map λn:Nat=>PV.int n)=some r then some h.choose else aP
theorem xg{β:Type}{l:List Nat}{k:List PV->Option β}{r:β}(h:qj l k=some r){l':List Nat}(p:l'.Perm l):k (l'.map λn:Nat=>PV.int n)=some r:=by
 unfold qj at h;split at h
 ·rename_i x;cases h;exact x.choose_spec l' p
 ·injection h
theorem MJ{β:Type}{l:List Nat}{k:List PV->Option β}{r:β}(h:∀l':List Nat,l'.Perm l->k (l'.map λn:Nat=>PV.int n)=some r):qj l k=some r:=by
 unfold qj;have x:∃r,∀l':List Nat,l'.Perm l->k (l'.map λn:Nat=>PV.int n)=some r:=⟨r,h⟩;erw[dif_pos x];have:=x.choose_spec l (BS l);rw[h l (BS l)] at this;exact this.symm
def yb:PV->Option (List PV)
 |.tup l|.list l=>some l
 |.d8 lo hi=>some ((ax (hi-lo).toNat).map λk:Nat=>.int (lo+k))
 |.inst c fs=>if c=bx then(ak fs "_voters").bind PV.ij else aP
 |_=>aP
def over{β:Type}(v:PV)(k:List PV->Option β):Option β:=v.Ab.elim ((yb v).bind k) λl=>qj l k
def eJ{β:Type}(v:PV)(k:List PV->Option β):Option β:=if v.oL=true then aP else over v k
noncomputable def jC{α:Type}(l:List α)(lo hi:Option Int):List α:=
 (l.drop (lo.elim 0 (wz l.length))).take (hi.elim l.length (wz l.length) -lo.elim 0 (wz l.length))
noncomputable def fA(n:Nat):List Nat->List Nat
 |[]=>[n]
 |m::r=>if n<m then n::m::r else if n=m then m::r else m::fA n r
def setOf:List PV->Option (List Nat)
 |[]=>some []
 |p::r=>p.ei.bind λi=>if 0<=i/\i<6 then(setOf r).map (fA i.toNat) else aP
noncomputable def d3:Nat:=1152921504606846976
noncomputable def aA:Nat:=100000
def fw(op:ia)(i j:Int):Option PV:=match op with
 |.Add=>some (.int (i+j))
 |.Sub=>some (.int (i-j))
 |.Mult=>if j.natAbs<d3\/i.natAbs<d3 then some (.int (i*j)) else aP
 |.FloorDiv=>if j≠0/\j.natAbs<d3 then some (.int (i.fdiv j)) else aP
 |.Mod=>if j≠0 then some (.int (i.fmod j)) else aP
 |.Pow=>if i=2/\0<=j/\j<8 then some (.int (2^j.toNat)) else aP
 |.RShift=>if 0<=i/\0<=j/\j<8 then some (.int (i.fdiv (2^j.toNat))) else aP
 |.BitAnd=>if 0<=i/\j=1 then some (.int (i.fmod 2)) else aP
 |_=>aP
def Ny(op:ia)(l:List PV)(b:PV):Option PV:=
 if op=.Add then b.ij.bind λm=>if l.length+m.length<=aA then some (.list (l++m)) else aP
 else if op=.Mult then b.ei.bind λj=>if 0<=j/\j<=100/\l.length<=100 then some (.list (kr j.toNat l).flatten) else aP
 else aP
def fW(O:aK)(op:ia)(a b:PV):Option PV:=match a with
 |.int i=>b.ei.bind λj=>fw op i j
 |.list l=>Ny op l b
 |.tup l=>if op=.Add then b.Eh.bind λm=>if l.length+m.length<=aA then some (.tup (l++m)) else aP else aP
 |.str s=>if op=.Add then b.vO.bind λt=>if s.length+t.length<=aA then some (.str (s++t)) else aP else aP
 |.set l=>if op=.BitAnd then b.Ab.map λm=>.set (l.filter λx=>m.contains x) else aP
 |.inst c fs=>O.bin op (.inst c fs) b
 |_=>aP
def l9(n:Nat)(x:PV):List PV->Option Bool
 |[]=>some false
 |y::r=>(dk n y x).bind λa=>(l9 n x r).map λb=>a||b
noncomputable def xL(k:Int->Int->Bool)(a b:PV):Option Bool:=a.ei.bind λi=>b.ei.map λj=>k i j
noncomputable def Bp(O:aK)(op:iF)(a b:PV)(r:Option Bool):Option Bool:=match a with
 |.inst c fs=>O.cmp op (.inst c fs) b
 |_=>r
noncomputable def HX(a b:PV):Option Bool:=match a with
 |.none=>b.Et.map λ_=>true
 |.list _|.int _|.tup _=>b.Et.map λ_=>false
 |_=>aP
def HW(a b:PV):Option Bool:=match b with
 |.list l|.tup l=>l9 4 a l
 |_=>aP
def fe(O:aK)(op:iF)(a b:PV):Option Bool:=match op with
 |.Eq=>Bp O .Eq a b (dk 4 a b)
 |.NotEq=>(dk 4 a b).map not
 |.Lt=>xL (λi j=>decide (i<j)) a b
 |.LtE=>xL (λi j=>decide (i<=j)) a b
 |.Gt=>Bp O .Gt a b (xL (λi j=>decide (j<i)) a b)
 |.GtE=>Bp O .GtE a b (xL (λi j=>decide (j<=i)) a b)
 |.Is=>HX a b
 |.IsNot=>(HX a b).map not
 |.In=>HW a b
 |.NotIn=>(HW a b).map not
def oL(v:PV)(c:Str):Option Bool:=match v with
 |.int _=>if c=("int":Str) then some true else if c=("Fraction":Str) then some false else aP
 |.inst k _=>if k=dm then(if c=("int":Str) then some false else if c=("Fraction":Str) then some true else aP)
  else if k=iy/\c=("Voter":Str) then some true else aP
 |_=>aP
structure EA(α:Type) where
 d:α
 l5:Str->Pos->α:=λ_ _=>d
 yk:List aT->Nat->Pos->α:=λ_ _ _=>d
 vM:aT->List aT->List fj->Pos->α:=λ_ _ _ _=>d
 Ad:aT->ia->aT->Pos->α:=λ_ _ _ _=>d
 vI:aT->Str->Pos->α:=λ_ _ _=>d
 A9:aT->List jK->fk->Pos->α:=λ_ _ _ _=>d
 MS:Option aT->Option aT->Option aT->Pos->α:=λ_ _ _ _=>d
 BD:List aT->Pos->α:=λ_ _=>d
 Dc:Const->Nat->Pos->α:=λ_ _ _=>d
 xX:aT->aT->Pos->α:=λ_ _ _=>d
 HU:List (Option aT)->List aT->Pos->α:=λ_ _ _=>d
 AD:aT->List jK->fk->Pos->α:=λ_ _ _ _=>d
 Da:PySem.UnaryOp->aT->Pos->α:=λ_ _ _=>d
 E7:PySem.BoolOp->List aT->Pos->α:=λ_ _ _=>d
 Dh:aT->List iF->List aT->Pos->α:=λ_ _ _ _=>d
 Ms:aT->Pos->α:=λ_ _=>d
 O0:aT->aT->aT->Pos->α:=λ_ _ _ _=>d
noncomputable def EA.on{α:Type}(f:EA α)(e:Expr):α:=match e with
 |.Name a b=>f.l5 a b
 |.Tuple a b c=>f.yk a b c
 |.Call a b c d=>f.vM a b c d
 |.BinOp a b c d=>f.Ad a b c d
 |.Attribute a b c=>f.vI a b c
 |.GeneratorExp a b c d=>f.A9 a b c d
 |.Slice a b c d=>f.MS a b c d
 |.List a b=>f.BD a b
 |.Constant a b c=>f.Dc a b c
 |.Subscript a b c=>f.xX a b c
 |.Dict a b c=>f.HU a b c
 |.ListComp a b c d=>f.AD a b c d
 |.UnaryOp a b c=>f.Da a b c
 |.BoolOp a b c=>f.E7 a b c
 |.Compare a b c d=>f.Dh a b c d
 |.Starred a b=>f.Ms a b
 |.IfExp a b c d=>f.O0 a b c d
 |_=>f.d
def iq:Expr->Option Str:=EA.on {d:=aP,l5:=λx _=>some x}
def MI:Expr->Option (List Str):=EA.on {d:=aP,l5:=λx _=>some [x],yk:=λes _ _=>es.mapM iq}
def iU(v:PV):List Str->Option Bool
 |[]=>some false
 |c::r=>(oL v c).bind λb=>if b=true then some true else iU v r
noncomputable def Ib(x:Str):Option PV:=
 if x=("available_algorithms":Str) then some (.list [.str "branch-and-bound",.str "brute-force",.str "standard",.str "standard-fractions"])
 else if x=("_law_orders":Str) then
  let il (l:List Int):PV:=.list (l.map .int)
  some (.list [.list [il [0,1],il [1,0]],.list [il [0,1,2],il [0,2,1],il [1,0,2],il [1,2,0],il [2,0,1],il [2,1,0]]])
 else aP
def zw(c:Nat)(x:Str):Option PV:=
 if c=cK then
  if x=("_THIELE_ALGORITHMS":Str) then some (.tup [.str "gurobi",.str "pulp-highs",.str "pulp-cbc",.str "branch-and-bound",.str "brute-force"])
  else if x=("_RESOLUTE_VALUES_FOR_OPTIMIZATION_BASED_RULES":Str) then some (.tup [.bool false,.bool true])
  else aP
 else aP
def gY{α:Type}(nm:aN)(x:Str)(v:α)(σ:List (Str×α)):Option (List (Str×α)):=if ak nm x=some .local\/ak nm x=some .cell then some (b9 σ x v) else aP
def Ay{S:Type}(put:Str->PV->S->Option S):List Expr->List PV->S->Option S
 |[],l,σ=>if l.isEmpty=true then some σ else aP
 |e::es,l,σ=>(match l with
  |[]=>aP
  |v::l=>(iq e).bind λx=>(put x v σ).bind (Ay put es l))
def fT{S:Type}(put:Str->PV->S->Option S)(t:Expr)(v:PV)(σ:S):Option S:=EA.on {d:=aP,l5:=λx _=>put x v σ,yk:=λes _ _=>v.Eh.bind λl=>Ay put es l σ} t
def wl:Expr->List Str:=EA.on {d:=[],l5:=λx _=>[x],yk:=λes _ _=>es.filterMap iq}
def mq(t:Expr)(σ:bj):Bool:=(wl t).all λx=>(ak σ x).isNone
def pA(nm:aN):Bool:=(ak nm ("str_set_of_candidates":Str)).isSome||(ak nm ("candset":Str)).isSome||((ak nm ("approved":Str)).isSome&&(ak nm ("candidates":Str)).isSome)
noncomputable def wt:ac->Bool
 |.ref c=>c==29||c==36||c==44
 |_=>false
noncomputable def H'(sc:fk):Bool:= !sc.isCoroutine&&sc.names.lookup (".0":Str)==some .local&&sc.names.all λp=>p.2 !=.cell
def AT(nm:aN)(sc:fk):Bool:=(sc.kind==.function&& !pA sc.names)&&sc.names.all λp=>ak sc.names p.1==some p.2&&(match p.2 with
 |.free=>(ak nm p.1==some .cell||ak nm p.1==some .free)&&p.1 !=("__classdict__":Str)
 |.local|.cell|.globalImplicit=>true
 |_=>false)
def lX(sc:fk)(σ:bj):bj:=σ.filter λp=>ak sc.names p.1==some .free
def p5(l:List PV):Option (List Int):=l.mapM PV.ei
def qa(l:List PV):Option Int:=(p5 l).map yx
noncomputable def ve(gt:PV->PV->Option Bool):PV->List PV->Option PV
 |m,[]=>some m
 |m,x::r=>(gt x m).bind λb=>if b=true then ve gt x r else ve gt m r
def xm(O:aK)(a b:PV):Option Bool:=match a with
 |.inst c fs=>O.cmp .Gt (.inst c fs) b
 |.list l=>b.ij.bind λm=>fh.ph m l
 |.int i=>b.ei.map λj=>decide (j<i)
 |_=>aP
def G4(l:List PV):Option (List Str):=l.mapM PV.vO
noncomputable def Fe(sep:Str):List Str->Str
 |[]=> ""
 |x::r=>if r.isEmpty=true then x else x++sep++Fe sep r
def J1(sep:Str)(l:List PV):Option Str:=(G4 l).bind λl=>if(l.map λx=>x.length+sep.length).sum<=aA then some (Fe sep l) else aP
noncomputable def QU(v:PV):Option PV:=v.ei.map λi=>.int (-i)
def v9:List (Nat×Str):=[(dm,"numerator"),(dm,"denominator"),(qz,"name"),(qz,"param"),(cK,"rule_id"),(cK,"algorithms"),(cK,"resolute_values"),(cK,"available_algorithms"),
 (bx,"candidates"),(bx,"_voters"),(iy,"approved"),(iy,"weight")]
noncomputable def PV.iU:PV->Bool
 |.any=>true
 |_=>false
def ac2(O:aK)(x:Str)(c:Nat)(fs:List (Str×PV)):Option PV:=match ak fs x with
 |some v=>if v9.contains (c,x)=true/\v.iU=false then some v else aP
 |aP=>match zw c x with
  |some v=>some v
  |aP=>O.attr c x (.inst c fs)
def JC(O:aK)(x:Str):PV->Option PV
 |.inst c fs=>ac2 O x c fs
 |_=>aP
noncomputable def bP(a b:PV):Option PV:=match a with
 |.list l|.tup l=>b.ei.bind λi=>(yy i l.length).bind λj=>l[j]?
 |_=>aP
noncomputable def pC{α:Type}:List α->Option α
 |[a]=>some a
 |_=>aP
noncomputable def qG{α:Type}:List α->Option (α×α)
 |[a,b]=>some (a,b)
 |_=>aP
def lG(vs:List PV)(ks:List (Str×PV)):Option PV:=if ks.isEmpty=true then pC vs else aP
def Mm(vs:List PV)(ks:List (Str×PV)):Option (PV×PV):=if ks.isEmpty=true then qG vs else aP
def H3(O:aK)(m:Str)(v:PV)(vs:List PV)(ks:List (Str×PV)):Option PV:=match v with
 |.inst c fs=>if(ak fs m).isNone=true then O.bM c m (.inst c fs::vs) ks else aP
 |.set l=>if m=("intersection":Str) then(lG vs ks).bind λu=>u.ij.bind λv=>(p5 v).map λdW=>.set (l.filter λx=>dW.contains (x:Int)) else aP
 |.str s=>if m=("join":Str) then(lG vs ks).bind λu=>u.ij.bind λl=>(J1 s l).map .str else aP
 |_=>aP
noncomputable def IV(O:aK)(v:PV):Option PV:=match v with
 |.list l|.tup l=>some (.int l.length)
 |.set l=>some (.int l.length)
 |.inst c fs=>O.fn "len" [.inst c fs] []
 |_=>aP
def gh(a b:Int):Option PV:=if a.natAbs<d3/\b.natAbs<d3/\b-a<=(aA:Nat) then some (.d8 a b) else aP
def uC(O:aK)(l:List PV):Option PV:=match l with
 |x::r=>ve (xm O) x r
 |[]=>aP
def pq(mk:List PV->PV)(l:List PV):Option PV:=if l.length<=aA then some (mk l) else aP
def nY(O:aK)(f:Str)(vs:List PV)(ks:List (Str×PV)):Option PV:=
 if f=("len":Str) then(lG vs ks).bind (IV O)
 else if f=("range":Str) then(if vs.length=1 then(lG vs ks).bind λv=>v.ei.bind (gh 0) else(Mm vs ks).bind λp=>p.1.ei.bind λa=>p.2.ei.bind (gh a))
 else if f=("sum":Str) then(lG vs ks).bind λv=>v.ij.bind λl=>(qa l).map .int
 else if f=("max":Str) then(lG vs ks).bind λv=>v.ij.bind (uC O)
 else if f=("abs":Str) then(lG vs ks).bind λv=>v.ei.map λi=>.int i.natAbs
 else if f=("int":Str) then(lG vs ks).bind λv=>v.ei.map .int
 else if f=("str":Str) then(lG vs ks).bind λv=>v.ei.bind λi=>if i.natAbs<d3 then some (.str (dw (toString i))) else aP
 else if f=("set":Str) then(lG vs ks).bind λv=>(eJ v setOf).map .set
 else if f=("list":Str) then(lG vs ks).bind λv=>if v.oL=true then aP else(yb v).bind (pq .list)
 else O.fn f vs ks
def jX:PV->Nat
 |.int _=>1
 |.str _=>2
 |.list _=>3
 |.inst c _=>if c=dm then 4 else 0
 |_=>0
def oN(l:List PV):Bool:=match l with
 |[]=>true
 |p::r=>jX p !=0&&r.all λq=>jX q==jX p
noncomputable def n9(O:aK)(k:Str)(vs:List PV):Option (List (PV×PV)):=vs.mapM λv=>(O.fn k [v] []).map λu=>(u,v)
def eD(O:aK)(nm:aN)(vs:List PV):List fj->Option PV
 |[]=>if oN vs=true then(ll (fh O) vs).map .list else none
 |k::r=>if r.isEmpty=true/\k.arg=some ("key":Str) then(iq k.value).bind λg=>if g≠("__debug__":Str)/\ak nm g=some .globalImplicit/\vs≠[] then(n9 O g vs).bind λks=>
   if oN (ks.map (·.1))=true then(ll (λa b=>fh O a.1 b.1) ks).map λl=>.list (l.map (·.2)) else none
  else none else none
noncomputable def PV.zC(b:Bool):PV->Bool
 |.bool c=>c==b
 |_=>false
def xT(b:Bool)(l:List PV):Option PV:=if(l.all (PV.zC b))=true then some (.bool b) else aP
def ZC:Expr->Bool:=EA.on {d:=false,l5:=λ_ _=>true,vM:=λ_ _ _ _=>true,Ad:=λ_ _ _ _=>true,vI:=λ_ _ _=>true}
def AF:Expr->Bool:=EA.on {d:=false,l5:=λ_ _=>true,vM:=λ_ _ _ _=>true}
def ON(nm:aN)(cs:List Str):Bool:=decide (0<cs.length/\cs.length<=100)&&cs.all λx=>ak nm x==some .globalImplicit&&(x==("int":Str)||x==("Fraction":Str)||x==("Voter":Str))
def ug:Expr->Bool:=EA.on {d:=false,vM:=λf as ks _=>(iq f).isSome&&(as.isEmpty&&ks.isEmpty)}
structure Ip where
 e:aN->bj->Expr->Option PV
 t:aN->bj->Expr->Option Bool
noncomputable def iS(ev:Expr->Option PV):List Expr->Option (List PV)
 |[]=>some []
 |e::r=>(ev e).bind λv=>(iS ev r).map λvs=>v::vs
noncomputable def sP(ev:Expr->Option PV):List fj->Option (List (Str×PV))
 |[]=>some []
 |k::r=>k.arg.bind λa=>(ev k.value).bind λv=>(sP ev r).map λvs=>(a,v)::vs
noncomputable def GW(ev:Expr->Option PV):Option Expr->Option (Option Int)
 |aP=>some aP
 |some e=>(ev e).bind λv=>v.ei.map some
noncomputable def Dw:BoolOp->Bool
 |.And=>false
 |.Or=>true
noncomputable def pZ(te:Expr->Option Bool)(o:Bool):List Expr->Option Bool
 |[]=>some (!o)
 |x::r=>(te x).bind λb=>if b=o then some o else pZ te o r
noncomputable def Im(ev:Expr->Option PV)(o:Bool):List Expr->Option PV
 |[]=>aP
 |x::r=>(ev x).bind λv=>if r.isEmpty=true then some v else v.yc.bind λb=>if b=o then some (.bool o) else Im ev o r
def pH(body:bj->Option (List PV))(te:bj->Expr->Option Bool)(nm:aN)(t:Expr)(ifs:List Expr)(σ:bj):List PV->Option (List PV)
 |[]=>some []
 |v::src=>if mq t σ=true then(fT (gY nm) t v σ).bind λσ'=>(pZ (te σ') false ifs).bind λok=>(if ok=true then body σ' else some []).bind λhere=>(pH body te nm t ifs σ src).map λmore=>here++more else aP
def rV(I:Ip)(nm:aN)(elt:Expr):List jK->bj->Option (List PV)
 |[],σ=>(I.e nm σ elt).map λx=>[x]
 |g::gs,σ=>(I.e nm σ g.iter).bind λv=>(yb v).bind (pH (rV I nm elt gs) (I.t nm) nm g.target g.ifs σ)
def lx(ev:bj->Expr->Option PV)(nm:aN)(t elt:Expr)(σ:bj):List PV->Option (List PV)
 |[]=>some []
 |v::src=>if mq t σ=true then(fT (gY nm) t v σ).bind λσ'=>(ev σ' elt).bind λx=>(lx ev nm t elt σ src).map λmore=>x::more else aP
noncomputable def Rx:Const->Option PV
 |.none=>some .none
 |.bool b=>some (.bool b)
 |.int i=>some (.int i)
 |.str s=>some (.str s)
 |_=>aP
def G8(nm:aN)(σ:bj)(x:Str):Option PV:=if x=("__debug__":Str) then aP else if ak nm x=some .globalImplicit then Ib x else ak σ x
def DT(O:aK)(ev:Expr->Option PV)(l:Expr)(ops:List iF)(rs:List Expr):Option Bool:=(pC ops).bind λop=>(pC rs).bind λr=>(ev l).bind λa=>(ev r).bind λb=>fe O op a b
def Ej(I:Ip)(nm:aN)(σ:bj)(elt:Expr)(sc:fk):List jK->Option PV
 |[]=>aP
 |g::gs=>if AT nm sc=true/\g.is_async=0/\(gs.all λg=>g.is_async==0&&AF g.iter)=true then(I.e nm σ g.iter).bind λv=>over v λsrc=>
   (pH (rV I sc.names elt gs) (I.t sc.names) sc.names g.target g.ifs (lX sc σ) src).bind (pq .list) else aP
def NR(ev:Expr->Option PV)(a:PV)(i:Expr):Option PV:=EA.on {d:=(ev i).bind (bP a),MS:=λlo hi st _=>if st.isNone=true then(GW ev lo).bind λlo=>(GW ev hi).bind λhi=>a.ij.map λl=>.list (jC l lo hi) else aP} i
def vi(O:aK)(I J:Ip)(nm:aN)(σ:bj)(fr:Bool)(K:List PV->Option PV):Expr->Option PV:=EA.on {d:=aP,A9:=λelt gs sc _=>((pC gs).bind λg=>if((fr||sc.names.all λp=>p.2 !=.free)&&O.gens&&pA nm&&H' sc&&AF g.iter&&AT nm sc&&g.ifs.isEmpty&&g.is_async==0)=true then(I.e nm σ g.iter).bind λv=>eJ v λsrc=>(lx (J.e sc.names) sc.names g.target elt (lX sc σ) src).bind K else aP)}
def abA:Expr->Bool:=EA.on {d:=false,A9:=λ_ _ _ _=>true}
def Rb(O:aK)(I J:Ip)(nm:aN)(σ:bj)(f:Str)(args:List Expr)(kws:List fj):Option PV:=
 if f=("isinstance":Str) then(if kws.isEmpty=true then(qG args).bind λp=>(I.e nm σ p.1).bind λv=>(MI p.2).bind λcs=>if ON nm cs=true then(iU v cs).map .bool else aP else aP)
 else if f=("all":Str)\/f=("any":Str) then(if kws.isEmpty=true then(pC args).bind (vi O I J nm σ true (xT (f==("all":Str)))) else aP)
 else if f=("sorted":Str) then(pC args).bind λa=>if abA a=true then vi O I J nm σ false (λvs=>eD O nm vs kws) a else(I.e nm σ a).bind λv=>eJ v λl=>eD O nm l kws
 else(iS (I.e nm σ) args).bind λvs=>(sP (I.e nm σ) kws).bind λks=>nY O f vs ks
noncomputable def RP(O:aK)(vs:List PV):PV->Option PV
 |.inst c fs=>O.bM c "__call__" (.inst c fs::vs) []
 |_=>aP
def NV(O:aK)(I J:Ip)(nm:aN)(σ:bj)(args:List Expr)(kws:List fj)(p:Pos):Expr->Option PV:=EA.on {d:=aP,vI:=λo m ap=>(if ug o=true\/ap.endLine≠p.line\/20<args.length+kws.length then aP else(I.e nm σ o).bind λv=>(iS (I.e nm σ) args).bind λvs=>(sP (I.e nm σ) kws).bind λks=>H3 O m v vs ks),l5:=λf _=>(if f=("__debug__":Str) then aP else if ak nm f=some .globalImplicit then Rb O I J nm σ f args kws else
   (iS (I.e nm σ) args).bind λvs=>(ak σ f).bind λc=>if kws.isEmpty=true then RP O vs c else aP)}
def o0(O:aK)(I J:Ip)(nm:aN)(σ:bj):Expr->Option PV:=EA.on {d:=aP,Dc:=λc _ _=>Rx c,l5:=λx _=>G8 nm σ x,Ad:=λl op r _=>((I.e nm σ l).bind λa=>(I.e nm σ r).bind λb=>fW O op a b),Da:=λop x _=>if op=.USub then(I.e nm σ x).bind QU else aP,E7:=λop vs _=>Im (I.e nm σ) (Dw op) vs,O0:=λt b c _=>((I.t nm σ t).bind λr=>if r=true then I.e nm σ b else I.e nm σ c),Dh:=λl ops rs _=>(DT O (I.e nm σ) l ops rs).map .bool,HU:=λks vs _=>if ks.isEmpty=true/\vs.isEmpty=true then some .any else aP,BD:=λes _=>(iS (I.e nm σ) es).bind (pq .list),yk:=λes _ _=>(iS (I.e nm σ) es).bind (pq .tup),AD:=λelt gs sc _=>Ej I nm σ elt sc gs,vI:=λo x _=>if ug o=true then aP else(I.e nm σ o).bind (JC O x),xX:=λo i _=>((I.e nm σ o).bind λa=>NR (I.e nm σ) a i),vM:=λf args kws p=>NV O I J nm σ args kws p f}
def L8(I:Ip)(nm:aN)(σ:bj)(e:Expr):Option Bool:=if ZC e=true then(I.e nm σ e).bind PV.truth else aP
def CV(O:aK)(I:Ip)(nm:aN)(σ:bj)(e:Expr):Option Bool:=EA.on {d:=L8 I nm σ e,Da:=λop x _=>if op=.Not then(I.t nm σ x).map not else aP,E7:=λop vs _=>pZ (I.t nm σ) (Dw op) vs,Dh:=λl ops rs _=>DT O (I.e nm σ) l ops rs} e
def ip:Nat->aK->Ip:=Nat.rec (λ_=>⟨λ_ _ _=>aP,λ_ _ _=>aP⟩) λ_ ih O=>⟨o0 O (ih O) (ih {O with gens:=false}),CV O (ih O)⟩
abbrev cI(O:aK)(n:Nat):aN->bj->Expr->Option PV:=(ip n O).e
abbrev fF(O:aK)(n:Nat):aN->bj->Expr->Option Bool:=(ip n O).t
section
variable{a:ao}{us:List ac}{s i8:ag}{h':am}{d:Nat}{u:ac}
abbrev Fz:=ao->Option Obj
def dA(a:Nat):Prop:=a=25\/a=32\/a=40
noncomputable def Er(f:Fz)(a:ao)(o:Obj):Fz:=λb=>if b=a then some o else f b
section
variable{f:Fz}{b:ao}{o p:Obj}
theorem pk:Er f a o a=some o:=iP rfl
theorem PJ(n:∀p,f a=some p->p=o)(e:f b=some p):Er f a o b=some p:=by
 by_cases q:b=a
 ·exact(iP q).trans (af some (n p (q▸e)).symm)
 ·exact(iN q).trans e
theorem EI{P:Prop}(e:Er f a o b=some p)(k1:b=a->p=o->P)(k2:f b=some p->P):P:=by
 by_cases q:b=a
 ·exact k1 q (ay (e.symm.trans (iP q)))
 ·exact k2 ((iN q).symm.trans e)
end
def vE(h:am)(x:ac)(q:Str):Prop:=∃c o vs t,x=.ref c/\h.get? c=some o/\o.cls=.type "code"/\o.data=.fields vs/\vs[1]?=some (.str q t)
theorem vE.keeps{h h':am}{x:ac}{q:Str}(y:vE h x q)(k:∀b o,h.get? b=some o->(o.cls=.type "code"/\∃vs,o.data=.fields vs)->h'.get? b=some o):vE h' x q:=by refine Mc y λc o vs t a b e r z=>?_;exact(Bm c o vs t a (k c o b ⟨e,vs,r⟩) e r z)
def io(h:am):Prop:=∀c P:ao,((c=29/\P=25)\/(c=36/\P=32)\/(c=44/\P=40))->
 ∃ps,h.IsCode c P ps/\h.TableAt c P ps/\∀pos x,BU pos ps.toList=some x->∃q,vE h x q
theorem io.keeps{h h':am}(x:io h)(k:∀b o,h.get? b=some o->h'.get? b=some o):io h':=λc P q=>
 by
 obtain⟨ps,a,b,r⟩:=x c P q;exact(cz ps (a.keeps k) (b.keeps k) (λpos x e=>by refine dN (r pos x e) λq z=>?_;exact⟨q,z.keeps λb o e _=>k b o e⟩))
theorem io.but{h h':am}(x:io h)(k:∀b o,h.get? b=some o->b<719\/(o.cls=.type "code"/\∃vs,o.data=.fields vs)->h'.get? b=some o):io h':=λc P q=>by
 obtain⟨ps,a,b,r⟩:=x c P q;have l:c<719/\P<719:=by rcases q with⟨rfl,rfl⟩|⟨rfl,rfl⟩|⟨rfl,rfl⟩<;>decide
 have e1:h'.get? c=h.get? c:=by obtain⟨⟨o,vs,e,_⟩,_⟩:=b;exact(k c o e (.inl l.1)).trans e.symm
 have e2:h'.get? P=h.get? P:=(k P _ b.2 (.inl l.2)).trans b.2.symm;refine(cz ps (?_) (?_) (λpos y e=>by refine dN (r pos y e) λq z=>?_;exact⟨q,z.keeps λb o e c=>k b o e (.inr c)⟩))
 ·unfold am.IsCode at a⊢;erw[e1];erw[e2];exact a
 ·unfold am.TableAt at b⊢;erw[e1];erw[e2];exact b
structure Cx where
 w:cO
 h₀:am
 K:(KL w.params).In h₀
 g:∃mg,h₀.Ns mD mg
 b:∃mb,h₀.Ns uF mb/\∀x:Str,x≠ "__name__"->mb x=bootBuiltins x
 nolimit:h₀.NoLimit
 jg:∀a,dA a->h₀.get? a=none
def jQ(c:Cx):List (Str×ac)->List pN->Prop
 |[],es=>es=[]
 |p::l,es=> ∃t r,es=⟨pO c.w.params p.1,.str p.1 t,p.2⟩::r/\jQ c l r
structure eS(P:cD)(l:List Nat)(t:a8):Prop where
 place:t.place=l.toArray
 dummies:t.dummies= #[]
 mask:t.mask=7\/t.mask=15\/t.mask=31
 room:l.length*5<t.mask*3
 finger:t.finger=0
 plain:t.plain=true
 led:t.led= !P.followText "set-order"
 up:l.Pairwise (· < ·)
 small:∀x∈l,x<6
def bS:List (Int×ac)->List Nat->Prop
 |es,[]=>es=[]
 |es,n::l=> ∃tk r,es=((n:Int),.int n tk)::r/\bS r l
noncomputable def bu(vs:List ac)(n:Nat):Obj:={cls:=.type "list",data:=.seq vs.toArray n}
noncomputable def fS(vs:List ac)(n:Nat):Obj:={cls:=.type "tuple",data:=.seq vs.toArray n}
noncomputable def Bo(lo hi:Int)(t u v:Tok):Obj:={cls:=.type "range",data:=.fields #[.int lo t,.int hi u,.int 1 v]}
noncomputable def dH(es:Array (Int×ac))(n:Nat)(t:a8):Obj:={cls:=.type "set",data:=.set es n t}
noncomputable def l4(c dx:ao):Obj:={cls:=.ref c,dict:=some dx,data:=.plain}
noncomputable def rR(es:List pN)(n:Nat):Obj:={cls:=.type "dict",data:=.dict es.toArray n}
def nJ(f:Fz)(o:List ac->Nat->Obj)(l:List PV)(q:List ac->Prop)(v:ac):Prop:=∃a n vs,v=.ref a/\f a=some (o vs n)/\q vs/\l.length<=aA
def wk(c:Cx)(f:Fz)(l:List Nat)(v:ac):Prop:=∃a es n t,v=.ref a/\f a=some (dH es n t)/\bS es.toList l/\eS c.w.params l t
def vN(f:Fz)(lo hi:Int)(v:ac):Prop:=∃a t u z,v=.ref a/\f a=some (Bo lo hi t u z)/\lo.natAbs<d3/\hi.natAbs<d3/\hi-lo<=(aA:Nat)
def v5(c:Cx)(f:Fz)(k:Nat)(q:List (Str×ac)->Prop)(v:ac):Prop:=∃a dx n es vs,v=.ref a/\f a=some (l4 k dx)/\f dx=some (rR es n)/\jQ c vs es/\q vs
def lY{α:Type}(r:α->Prop)(q:List α->Prop)(vs:List α):Prop:=∃u us,vs=u::us/\r u/\q us
def aV(c:Cx)(f:Fz)(v:ac)(p:PV):Prop:=p.rec (motive_1:=λ_=>ac->Prop) (motive_2:=λ_=>List ac->Prop) (motive_3:=λ_=>List (Str×ac)->Prop) (motive_4:=λ_=>Str×ac->Prop)
 (λv=>v=.none) (λb v=>v=.bool b) (λi v=> ∃t,v=.int i t) (λs v=> ∃t,v=.str s t) (nJ f fS) (nJ f bu) (wk c f) (vN f) (λk _=>v5 c f k) (λ_=>True)
 (λvs=>vs=[]) (λ_ _=>lY) (λvs=>vs=[]) (λ_ _=>lY) (λx _ r u=>u.1=x/\r u.2) v
def aR(c:Cx)(f:Fz)(v:List ac)(p:List PV):Prop:=PV.rec_1 (motive_1:=λ_=>ac->Prop) (motive_2:=λ_=>List ac->Prop) (motive_3:=λ_=>List (Str×ac)->Prop) (motive_4:=λ_=>Str×ac->Prop)
 (λv=>v=.none) (λb v=>v=.bool b) (λi v=> ∃t,v=.int i t) (λs v=> ∃t,v=.str s t) (nJ f fS) (nJ f bu) (wk c f) (vN f) (λk _=>v5 c f k) (λ_=>True)
 (λvs=>vs=[]) (λ_ _=>lY) (λvs=>vs=[]) (λ_ _=>lY) (λx _ r u=>u.1=x/\r u.2) p v
def bN(c:Cx)(f:Fz)(v:List (Str×ac))(p:List (Str×PV)):Prop:=PV.rec_2 (motive_1:=λ_=>ac->Prop) (motive_2:=λ_=>List ac->Prop) (motive_3:=λ_=>List (Str×ac)->Prop) (motive_4:=λ_=>Str×ac->Prop)
 (λv=>v=.none) (λb v=>v=.bool b) (λi v=> ∃t,v=.int i t) (λs v=> ∃t,v=.str s t) (nJ f fS) (nJ f bu) (wk c f) (vN f) (λk _=>v5 c f k) (λ_=>True)
 (λvs=>vs=[]) (λ_ _=>lY) (λvs=>vs=[]) (λ_ _=>lY) (λx _ r u=>u.1=x/\r u.2) p v
section
variable{f:Fz}{v:ac}{m:ac->Prop}
theorem nJ.on{o:List ac->Nat->Obj}{l:List PV}{q:List ac->Prop}(h:nJ f o l q v)(K:∀{a n vs},f a=some (o vs n)->q vs->l.length<=aA->m (.ref a)):m v:=by obtain⟨_,_,_,e,h,r,z⟩:=h;subst e;exact K h r z
theorem lY.on{α:Type}{vs:List α}{m:List α->Prop}{r:α->Prop}{q:List α->Prop}(h:lY r q vs)(K:∀{u us},r u->q us->m (u::us)):m vs:=by refine sH h λ_ _ e a b=>?_;subst e;exact K a b
theorem wk.on{c:Cx}{l:List Nat}(h:wk c f l v)(K:∀{a es n t},f a=some (dH es n t)->bS es.toList l->eS c.w.params l t->m (.ref a)):m v:=by obtain⟨_,_,_,_,e,h,r,z⟩:=h;subst e;exact K h r z
theorem vN.on{lo hi:Int}(h:vN f lo hi v)(K:∀{a t u z},f a=some (Bo lo hi t u z)->lo.natAbs<d3->hi.natAbs<d3->hi-lo<=(aA:Nat)->m (.ref a)):m v:=by obtain⟨_,_,_,_,e,h,g,r,z⟩:=h;subst e;exact K h g r z
theorem v5.on{c:Cx}{k:Nat}{q:List (Str×ac)->Prop}(h:v5 c f k q v)(K:∀{a dx n es vs},f a=some (l4 k dx)->f dx=some (rR es n)->jQ c vs es->q vs->m (.ref a)):m v:=by obtain⟨_,_,_,_,_,e,h,g,r,z⟩:=h;subst e;exact K h g r z
end
section
variable{c:Cx}{f f':Fz}{v:ac}{m:ac->Prop}{dx:ao}{n:Nat}{vs:List ac}{l k:List PV}{lv:List (Str×ac)}{lf:List (Str×PV)}{x:Str}{p:PV}
theorem aV.none:aV c f .none .none:=Eq.refl (a:=oh)
theorem aV.bool{b:Bool}:aV c f (.bool b) (.bool b):=Eq.refl (a:=J5 b)
theorem aV.int{i:Int}{t:Tok}:aV c f (.int i t) (.int i):=⟨t,rfl⟩
theorem aV.str{s:Str}{t:Tok}:aV c f (.str s t) (.str s):=⟨t,rfl⟩
theorem aV.any:aV c f v .any:=trivial
theorem aV.tup(h:f a=some (fS vs n))(r:aR c f vs l)(hn:l.length<=aA):aV c f (.ref a) (.tup l):=show nJ f fS l (λvs=>aR c f vs l) _ from(xy a n vs rfl h r hn)
theorem aV.list(h:f a=some (bu vs n))(r:aR c f vs l)(hn:l.length<=aA):aV c f (.ref a) (.list l):=show nJ f bu l (λvs=>aR c f vs l) _ from(xy a n vs rfl h r hn)
theorem aV.set{es:Array (Int×ac)}{t:a8}{l:List Nat}(h:f a=some (dH es n t))(he:bS es.toList l)(ht:eS c.w.params l t):aV c f (.ref a) (.set l):=show wk c f l _ from(vR a es n t rfl h he ht)
theorem aV.d8{lo hi:Int}{t u z:Tok}(h:f a=some (Bo lo hi t u z))(h1:lo.natAbs<d3)(h2:hi.natAbs<d3)(hn:hi-lo<=(aA:Nat)):aV c f (.ref a) (.d8 lo hi):=show vN f lo hi _ from(Bm a t u z rfl h h1 h2 hn)
theorem aV.inst{k:Nat}{es:List pN}(h:f a=some (l4 k dx))(hd:f dx=some (rR es n))(he:jQ c lv es)(r:bN c f lv lf):aV c f (.ref a) (.inst k lf):=show v5 c f k (λvs=>bN c f vs lf) _ from(Zk a dx n es lv rfl h hd he r)
theorem aR.nil:aR c f [] []:=Eq.refl (a:=([]:List ac))
theorem aR.cons(a:aV c f v p)(r:aR c f vs l):aR c f (v::vs) (p::l):=show lY (λv=>aV c f v p) (λvs=>aR c f vs l) _ from(yg v vs rfl a r)
theorem bN.nil:bN c f [] []:=Eq.refl (a:=([]:List (Str×ac)))
theorem bN.cons(a:aV c f v p)(r:bN c f lv lf):bN c f ((x,v)::lv) ((x,p)::lf):=show lY (λu=>u.1=x/\aV c f u.2 p) (λvs=>bN c f vs lf) _ from(yg _ lv rfl ⟨rfl,a⟩ r)
@[elab_as_elim] theorem qC(r:aV c f v .none)(K:m .none):m v:=mE (af m r) K
@[elab_as_elim] theorem lH{b:Bool}(r:aV c f v (.bool b))(K:m (.bool b)):m v:=mE (af m r) K
@[elab_as_elim] theorem bU{i:Int}(r:aV c f v (.int i))(K:∀t,m (.int i t)):m v:=let⟨t,e⟩:=r;mE (af m e) (K t)
@[elab_as_elim] theorem jh{x:Str}(r:aV c f v (.str x))(K:∀t,m (.str x t)):m v:=let⟨t,e⟩:=r;mE (af m e) (K t)
@[elab_as_elim] theorem dY(r:aV c f v (.list l))(K:∀{a n vs},f a=some (bu vs n)->aR c f vs l->l.length<=aA->m (.ref a)):m v:=nJ.on (o:=bu) (q:=λvs=>aR c f vs l) r K
@[elab_as_elim] theorem iX(r:aV c f v (.tup l))(K:∀{a n vs},f a=some (fS vs n)->aR c f vs l->l.length<=aA->m (.ref a)):m v:=nJ.on (o:=fS) (q:=λvs=>aR c f vs l) r K
@[elab_as_elim] theorem ly{l:List Nat}(r:aV c f v (.set l))(K:∀{a es n t},f a=some (dH es n t)->bS es.toList l->eS c.w.params l t->m (.ref a)):m v:=wk.on r K
@[elab_as_elim] theorem sV{k:Nat}(r:aV c f v (.inst k lf))(K:∀{a dx n es vs},f a=some (l4 k dx)->f dx=some (rR es n)->jQ c vs es->bN c f vs lf->m (.ref a)):m v:=v5.on (q:=λvs=>bN c f vs lf) r K
@[elab_as_elim] theorem p9{lo hi:Int}(r:aV c f v (.d8 lo hi))(K:∀{a t u z},f a=some (Bo lo hi t u z)->lo.natAbs<d3->hi.natAbs<d3->hi-lo<=(aA:Nat)->m (.ref a)):m v:=vN.on r K
@[elab_as_elim] theorem iR{m:List ac->Prop}(r:aR c f vs [])(K:m []):m vs:=mE (af m r) K
@[elab_as_elim] theorem eC{m:List ac->Prop}(r:aR c f vs (p::l))(K:∀{v us},aV c f v p->aR c f us l->m (v::us)):m vs:=lY.on (r:=λv=>aV c f v p) (q:=λvs=>aR c f vs l) r K
@[elab_as_elim] theorem sR{m:List (Str×ac)->Prop}(r:bN c f lv [])(K:m []):m lv:=mE (af m r) K
@[elab_as_elim] theorem pg{m:List (Str×ac)->Prop}(r:bN c f lv ((x,p)::lf))(K:∀{v us},aV c f v p->bN c f us lf->m ((x,v)::us)):m lv:=lY.on (r:=λu:Str×ac=>u.1=x/\aV c f u.2 p) (q:=λvs=>bN c f vs lf) r λ{u us} a b=>by obtain⟨_,_⟩:=u;obtain⟨rfl,a⟩:=a;exact K a b
abbrev Sub(f f':Fz):Prop:=∀a o,f a=some o->f' a=some o
theorem aV.mono(hs:Sub f f')(r:aV c f v p):aV c f' v p:=
 PV.rec (motive_1:=λp=> ∀v,aV c f v p->aV c f' v p) (motive_2:=λl=> ∀v,aR c f v l->aR c f' v l) (motive_3:=λl=> ∀v,bN c f v l->bN c f' v l) (motive_4:=λq=> ∀v,aV c f v q.2->aV c f' v q.2)
  (λ_ r=>r) (λ_ _ r=>r) (λ_ _ r=>r) (λ_ _ r=>r) (λ_ ih _ r=>iX r λh r z=>.tup (hs _ _ h) (ih _ r) z) (λ_ ih _ r=>dY r λh r z=>.list (hs _ _ h) (ih _ r) z)
  (λ_ _ r=>ly r λh=>.set (hs _ _ h)) (λ_ _ _ r=>p9 r λh=>.d8 (hs _ _ h)) (λ_ _ ih _ r=>sV r λh g e r=>.inst (hs _ _ h) (hs _ _ g) e (ih _ r)) (λ_ r=>r)
  (λ_ r=>r) (λ_ _ a b _ r=>eC r λu us=>.cons (a _ u) (b _ us)) (λ_ r=>r) (λ_ _ a b _ r=>pg r λu us=>.cons (a _ u) (b _ us)) (λ_ _ a=>a) p v r
theorem aR.mono(hs:Sub f f')(r:aR c f vs l):aR c f' vs l:=by
 induction l generalizing vs with
 |nil=>exact r
 |cons p l ih=>exact eC r λa r=>.cons (a.mono hs) (ih r)
theorem bN.mono(hs:Sub f f')(r:bN c f lv lf):bN c f' lv lf:=by
 induction lf generalizing lv with
 |nil=>exact r
 |cons p l ih=>exact pg r λa r=>.cons (a.mono hs) (ih r)
theorem aR.length{vs:List ac}{l:List PV}(r:aR c f vs l):vs.length=l.length:=by
 induction l generalizing vs with
 |nil=>exact iR r rfl
 |cons p l ih=>exact eC r λ_ r=>af jp (ih r)
theorem aR.get{l:List PV}:∀{vs:List ac},aR c f vs l->∀{i:Nat} {p},l[i]?=some p->∃v,vs[i]?=some v/\aV c f v p:=by
 induction l with
 |nil=>exact λ_ _ _ h=>nS h
 |cons q l ih=>exact λr i p h=>eC r λ{v _} a r=>match i,h with
   |0,h=>(az v rfl (ay h▸a))
   |_+1,h=>ih r h
theorem aR.append{l m:List PV}{us:List ac}(b:aR c f us m):∀{vs:List ac},aR c f vs l->aR c f (vs++us) (l++m):=by
 induction l with
 |nil=>exact λr=>iR r b
 |cons q l ih=>exact λr=>eC r λa r=>.cons a (ih r)
theorem aR.at{vs:List ac}{l:List PV}(r:aR c f vs l){j:Nat}(hj:j<vs.length):∃p,l[j]?=some p/\aV c f vs[j] p:=
 let h:j<l.length:=r.length▸hj
 let⟨v,h1,h2⟩:=r.get (jL h)
 (az _ (jL h) (ay (h1.symm.trans (jL hj))▸h2))
theorem aV.scalar{v p}(r:aV c f v p)(h:p.isScalar=true):aV c f' v p:=by
 induction p using dh with
 |none=>exact qC r .none
 |bool b=>exact lH r .bool
 |int i=>exact bU r λ_=>.int
 |str s=>exact jh r λ_=>.str
 |_=>exact absurd h dy
end
structure e8(s s':ag):Prop where
 keep:∀b o,s.heap.get? b=some o->¬dA b->s'.heap.get? b=some o
 gens:∀(i:Nat) (x:jo),s.gens[i]?=some x->s'.gens[i]?=some x
 bare:∀(i:Nat) (x:jo),s.gens.size<=i->s'.gens[i]?=some x->x.bare=true
 os:s'.os=s.os
section
variable{s':ag}
theorem tO{s:Array jo}{i:Nat}{x:jo}{P:Prop}(l:s.size<=i)(e:s[i]?=some x):P:=nS ((Ka l).symm.trans e)
theorem e8.de(x:e8 s s'):s.gens.size<=s'.gens.size:=cZ λq=>tO (bf _) (x.gens _ _ (tg q))
theorem e8.refl(s:ag):e8 s s:=⟨λ_ _ h _=>h,λ_ _ h=>h,λ_ _=>tO,rfl⟩
theorem e8.Oh(x:e8 s s'){g:Nat}(h:∀(i:Nat) (x:jo),g<=i->s.gens[i]?=some x->x.bare=true)(i:Nat)(z:jo)(l:g<=i)(e:s'.gens[i]?=some z):z.bare=true:=by
 by_cases q:s.gens.size<=i
 ·exact x.bare i z q e
 ·have h1:=tg (oj q);exact h i z l (h1.trans (af some (ay ((x.gens _ _ h1).symm.trans e))))
theorem e8.trans(x:e8 s s')(y:e8 s' i8):e8 s i8:=
 ⟨λb o h t=>y.keep b o (x.keep b o h t) t,λi z h=>y.gens i z (x.gens i z h),y.Oh x.bare,y.os.trans x.os⟩
theorem e8.Qf{h':am}{t:Nat}(k:∀b o,s.heap.get? b=some o->¬dA b->h'.get? b=some o):e8 s {s with heap:=h',toks:=t}:=
 ⟨k,λ_ _ h=>h,λ_ _=>tO,rfl⟩
theorem e8.back(x:e8 s s'){b:ao}(t:¬dA b)(h:s'.heap.get? b=none):s.heap.get? b=none:=by
 cases e:s.heap.get? b with
 |none=>rfl
 |some o=>exact nS (h.symm.trans (x.keep b o e t))
end
theorem eQ(h:am):h.get? h.objs.size=none:=by
 cases e:h.get? h.objs.size with
 |none=>rfl
 |some o=>exact absurd (fB e) (cV _)
structure Pt(c:Cx) where
 s:ag
 f:Fz
 keep:∀b o,c.h₀.get? b=some o->s.heap.get? b=some o
 tab:io s.heap
 K:∀a o,(KL c.w.params).lookup a=some o->f a=some o
 nt:∀a o,f a=some o->¬dA a
 hs:∀a o,f a=some o->s.heap.get? a=some o
section
variable{c:Cx}{x y z:Pt c}{b:ao}{o:Obj}{t:Nat}{s':ag}
structure Le(x y:Pt c):Prop where
 e:e8 x.s y.s
 sub:Sub x.f y.f
 new:∀a o,y.f a=some o->x.f a=some o\/x.s.heap.get? a=none
theorem Le.refl(x:Pt c):Le x x:=⟨.refl _,λ_ _ e=>e,λ_ _=>.inl⟩
theorem Le.trans(l:Le x y)(m:Le y z):Le x z:=⟨l.e.trans m.e,λa o e=>m.sub a o (l.sub a o e),λa o e=>(m.new a o e).elim (l.new a o) λn=>.inr (l.e.back (z.nt a o e) n)⟩
theorem Pt.cT(x:Pt c):(KL c.w.params).In x.s.heap:=c.K.keeps x.keep
theorem Pt.big(x:Pt c):718<x.s.heap.objs.size:=dN (tA.mp (⋯:((KL c.w.params).lookup 718).isSome=true)) λo e=>fB (x.cT 718 _ e)
theorem QV(q:dA a):a<=718:=by rcases q with rfl|rfl|rfl<;>decide
theorem Pt.j5(x:Pt c)(h:x.s.heap.objs.size<=a):¬dA a:=λq=>cV _ (ba x.big (aq h (QV q)))
theorem Pt.nolimit(x:Pt c):x.s.heap.NoLimit:=c.nolimit.keeps x.keep
theorem Pt.E5(x:Pt c)(e:x.s.heap.get? a=none):x.f a=none:=by
 cases q:x.f a with
 |none=>rfl
 |some o=>exact nS (e.symm.trans (x.hs _ _ q))
theorem Pt.h0(c:Cx){P:Prop}(q:dA a)(e:c.h₀.get? a=some o):P:=nS ((c.jg a q).symm.trans e)
noncomputable def Pt.to(x:Pt c)(s':ag)(e:e8 x.s s')(t:io s'.heap):Pt c where
 s:=s'
 f:=x.f
 keep b o h:=e.keep b o (x.keep b o h) λq=>Pt.h0 c q h
 tab:=t
 K:=x.K
 nt:=x.nt
 hs a o h:=e.keep a o (x.hs a o h) (x.nt a o h)
theorem Le.to(e:e8 x.s s')(t:io s'.heap):Le x (x.to s' e t):=⟨e,λ_ _ e=>e,λ_ _=>.inl⟩
noncomputable def Pt.grow(x:Pt c)(h':am)(t:Nat)(k:∀b o,x.s.heap.get? b=some o->h'.get? b=some o):Pt c:=x.to {x.s with heap:=h',toks:=t} (.Qf λb o e _=>k b o e) (x.tab.keeps k)
theorem Pt.cG{h':am}{t:Nat}(x:Pt c)(k:∀b o,x.s.heap.get? b=some o->h'.get? b=some o):Le x (x.grow h' t k):=.to _ _
noncomputable def Pt.tok(x:Pt c)(t:Nat):Pt c:=x.grow x.s.heap t λ_ _ e=>e
noncomputable def Pt.push(x:Pt c)(o:Obj)(t:Nat):Pt c:=x.grow (x.s.heap.push o) t λ_ _=>c5 _
def Pt.add(x:Pt c)(a:ao)(o:Obj)(e:x.s.heap.get? a=some o)(n:¬dA a):Pt c where
 s:=x.s
 f:=Er x.f a o
 keep:=x.keep
 tab:=x.tab
 K b p h:=PJ (λq k=>ay ((x.hs _ _ k).symm.trans e)) (x.K b p h)
 nt b p h:=EI h (λq _=>q▸n) (x.nt b p)
 hs b p h:=EI h (λq r=>q▸r▸e) (x.hs b p)
theorem Pt.zA{e:x.s.heap.get? a=some o}{n:¬dA a}:Sub x.f (x.add a o e n).f:=λ_ _=>PJ λq k=>ay ((x.hs _ _ k).symm.trans e)
theorem Le.add(l:Le x y)(e:y.s.heap.get? a=some o)(n:¬dA a)(h:x.s.heap.get? a=none):Le x (y.add a o e n):=
 ⟨l.e,λb p q=>Pt.zA b p (l.sub b p q),λb p q=>EI q (λq _=>.inr (q▸h)) (l.new b p)⟩
structure jE(d:Nat)(A:bh):Prop where
 handled:A.handled=none
 depth:A.depth+4*d<Sr
 units:A.units+40*d+40<ti
structure Am(d:Nat) where
 A:bh
 ok:jE d A
section
variable{e:Nat}
noncomputable def Am.mono(A:Am d)(h:e<=d):Am e:=⟨A.A,A.ok.handled,aQ (i3 (Kb _ h) _) A.ok.depth,aQ (mF (i3 (Kb _ h) _) _) A.ok.units⟩
theorem Am.room(A:Am d){n:Nat}(h:n<=40):A.A.units+n<ti:=aQ (BV (cW _ _) h) A.ok.units
theorem jE.to{A B:bh}(x:jE (d+1) A)(h:B.handled=none)(h1:B.depth<=A.depth+4)(h2:B.units<=A.units+40):jE d B:=
 ⟨h,aQ (mF h1 _) (aQ (aD ((pP A.depth 4 (4*d)).trans (fC ..))) x.depth),
  aQ (mF (mF h2 _) _) (aQ (aD (af (· +40) ((pP A.units 40 (40*d)).trans (fC ..)))) x.units)⟩
theorem oS{n k m:Nat}(h:k<=m):n+k<=n+m:=i3 h n
noncomputable def Am.deeper(A:Am (d+1))(env:Env):Am d:=⟨A.A.deeper env,A.ok.to A.ok.handled (oS (by decide)) (oS (by decide))⟩
noncomputable def Am.in1(A:Am (d+1)):Am d:=⟨A.A.in1,A.ok.to A.ok.handled (cW _ _) (oS (by decide))⟩
end
end
abbrev No:ac->ag->Prop:=λ_ _=>False
@[reducible] def Rd{c:Cx}(p:PV)(x:Pt c)(v:ac):Prop:=aV c x.f v p
@[reducible] def bt{c:Cx}(l:List PV)(x:Pt c)(vs:List ac):Prop:=aR c x.f vs l
@[reducible] def Is{c:Cx}(b:Bool)(_:Pt c)(v:Bool):Prop:=v=b
def aE{c:Cx}{d:Nat}{α:Type}(A:Am d)(t:Sem α)(x:Pt c)(P:Pt c->α->Prop):Prop:=∀(Q:α->ag->Prop) (E:ac->ag->Prop),(∀v y,Le x y->P y v->Q v y.s)->ai (ah pw c.w) A.A t Q E x.s
section
variable{c:Cx}{x y z:Pt c}{A:Am d}{α β:Type}{t:Sem α}{P:Pt c->α->Prop}{R:Pt c->β->Prop}{Q:α->ag->Prop}{E:ac->ag->Prop}{v:α}{o:Obj}{p:PV}{l:List PV}
theorem aE.bind{k:α->Sem β}(g:aE A t x P)(K:∀v y,Le x y->P y v->aE A (k v) y R):aE A (t>>=k) x R:=λQ E q=>ae (g _ _ λv y l p=>K v y l p Q E λu z m r=>q u z (l.trans m) r)
theorem aE.pure(p:P x v):aE A (pure v) x P:=λQ E k=>au (k v x (.refl x) p)
theorem aE.from(g:aE A t y P)(l:Le x y)(k:∀v y,Le x y->P y v->Q v y.s):ai (ah pw c.w) A.A t Q E y.s:=g Q E λv z m p=>k v z (l.trans m) p
noncomputable def Pt.new(x:Pt c)(o:Obj)(t:Nat)(hf:o.isFreed=false):Pt c:=(x.push o t).add x.s.heap.objs.size o (ft _ hf) (x.j5 (bf _))
theorem Le.fresh{t:Nat}{hf:o.isFreed=false}:Le x (x.new o t hf):=Le.add (x.cG _) _ _ (eQ _)
theorem E8{t n:Nat}{hf:(bu us n).isFreed=false}(r:bt l x us)(z:l.length<=aA):Rd (.list l) (x.new (bu us n) t hf) (.ref x.s.heap.objs.size):=.list pk (r.mono Le.fresh.sub) z
theorem OE{t n:Nat}{hf:(fS us n).isFreed=false}(r:bt l x us)(z:l.length<=aA):Rd (.tup l) (x.new (fS us n) t hf) (.ref x.s.heap.objs.size):=.tup pk (r.mono Le.fresh.sub) z
section
variable{Q:ac->ag->Prop}(K:∀v y,Le x y->Rd p y v->Q v y.s)
include K
theorem k_here(r:Rd p x u):Q u x.s:=K u x (.refl x) r
theorem jI{t:Nat}(r:Rd p x u):Q u {x.s with toks:=t}:=K u (x.tok t) (x.cG _) r
theorem sQ{t:Nat}(hf:o.isFreed=false)(r:Rd p (x.new o t hf) u):Q u {x.s with heap:=x.s.heap.push o,toks:=t}:=K u (x.new o t hf) .fresh r
end
end
section
variable{c:Cx}{x y:Pt c}{A:Am d}{f:Fz}{v:ac}{i j:Int}{l m:List PV}{vs:List ac}{n:Nat}{p q:PV}{b:Bool}
theorem pn{Q:ac->ag->Prop}(K:∀v y,Le x y->Rd (.int i) y v->Q v y.s):(Made.int i).post Q x.s:=jI K .int
theorem xJ{B:Nat}(h:i.natAbs<B): -(B:Int)<i/\i<B:=by lia
theorem O2(h:i.natAbs<d3):BW i<=64:=intBits_le_64 (pQ (by decide) (xJ h).1) (yz (xJ h).2 (by decide))
theorem Qv{n:Nat}(h:n<d3):n.log2<60:=by
 by_cases z:n=0
 ·erw[z];decide
 ·exact(Nat.log2_lt z).mpr h
theorem WJ(h:j.natAbs<d3):¬af1 i j=true:=by
 unfold af1;have:decide (j.natAbs.log2/30+1>300)=false:=dF (gN (Nat.succ_le_of_lt (aQ (Kc _ _) (eN (Qv h) (by decide)))));dsimp only;split
 ·exact dy
 ·erw[this];exact dy
theorem kG(h:x.f a=some (bu vs n)):x.s.heap.IsList a vs.toArray:=⟨_,x.hs _ _ h,rfl,_,rfl⟩
theorem A7(h:x.f a=some (fS vs n)):x.s.heap.IsTuple a vs.toArray:=⟨_,x.hs _ _ h,rfl,_,rfl⟩
theorem rM(h:n<=aA):n<=qT:=aq h (by decide)
theorem lM{k:Nat}(r:aR c f vs l)(z:l.length+k<=aA){r':aR c f us m}(e:m.length=k):vs.toArray.size+us.toArray.size<=qT:=by
 erw[i4];erw[i4];erw[r.length];erw[r'.length];erw[e];exact rM z
theorem Ng:vs.toArray++us.toArray=(vs++us).toArray:=by simp
theorem add_list(rv:Rd (.list l) x v)(ru:Rd (.list m) x u)(hz:l.length+m.length<=aA):aE A (mG .Add v u) x (Rd (.list (l++m))):=
 dY rv λh1 r1 _=>dY ru λh2 r2 _=>λQ E K=>P.add_list (x.hs _ _ h1) (x.hs _ _ h2) (Ng.symm▸sQ K rfl (E8 (aR.append r2 r1) (by erw[da];exact hz))) (lM r1 (r':=r2) hz rfl)
theorem L7{x:Str}(h:(x.length==0)=true):x=Str.empty:=by
 obtain⟨c⟩:=x;erw[Array.eq_empty_of_size_eq_zero (xs:=c) (a5 h)];rfl
theorem add_str{y z:Str}(rv:Rd (.str y) x v)(ru:Rd (.str z) x u)(hz:y.length+z.length<=aA):aE A (mG .Add v u) x (Rd (.str (y++z))):=
 jh rv λt=>jh ru λt'=>λQ E K=>P.add_str (by
  split
  ·rename_i e;exact k_here K (by erw[L7 e];rw[Str.empty_append];exact .str)
  ·split
   ·rename_i e;exact k_here K (by erw[L7 e];rw[Str.append_empty];exact .str)
   ·exact⟨aq (aD (Str.length_append y z)) (rM hz),jI K .str⟩)
theorem Hx(h:vs≠[]):¬vs.toArray.isEmpty=true:=by induction vs using bO with
 |nil=>exact absurd rfl h
 |cons=>exact dy
theorem WO(rv:Rd (.tup l) x v)(ru:Rd (.tup m) x u)(hz:l.length+m.length<=aA):aE A (mG .Add v u) x (Rd (.tup (l++m))):=by
 refine iX rv λ{a n vs} h1 r1 z1=>iX ru λ{b n' ws} h2 r2 z2=>λQ E K=>?_;have g1:=x.hs _ _ h1;have g2:=x.hs _ _ h2;by_cases e1:vs=[]
 ·subst e1;have e:l=[]:=zc.mp r1.length.symm;subst e;exact concat_meets (az _ g1 rfl) (az _ g2 rfl) noFill_tuple_add seq_tuple_add F.slot_tuple_add F.entry_tuple_add (F.args_tuple_add_2 _ _) (PyProof.Rows.tuple_addW0 _ _ [].toArray ws.toArray _ _ none none #[] #[] rfl) (ej g1 g2 (k_here K (.tup h2 r2 z2)))
 ·by_cases e2:ws=[]
  ·subst e2;have e:m=[]:=zc.mp r2.length.symm;subst e;exact concat_meets (az _ g1 rfl) (az _ g2 rfl) noFill_tuple_add seq_tuple_add F.slot_tuple_add F.entry_tuple_add (F.args_tuple_add_2 _ _) (PyProof.Rows.tuple_addW1 _ _ vs.toArray [].toArray _ _ none none #[] #[] (Hx e1) rfl) (ej g1 g2 (k_here K ((gO l).symm▸ .tup h1 r1 z1)))
  ·exact P.add_tuple g1 g2 (Hx e1) (Hx e2) (Ng.symm▸sQ K rfl (OE (aR.append r2 r1) (by erw[da];exact hz))) (lM r1 (r':=r2) hz rfl)
theorem aR.rep(r:aR c f vs l)(k:Nat):aR c f (kr k vs).flatten (kr k l).flatten:=by
 induction k with
 |zero=>exact .nil
 |succ k ih=>exact aR.append ih r
theorem UM(k:Nat):(kr k l).flatten.length=k*l.length:=by
 induction k with
 |zero=>exact(BY _).symm
 |succ k ih=>rw[List.replicate_succ,List.flatten_cons,da,ih,Nat.succ_mul,gj]
theorem aer(k:Nat):List.foldl (λx1 x2=>x1++x2) #[] (kr (if vs.toArray.isEmpty=true then 0 else k) vs.toArray)=(kr k vs).flatten.toArray:=by
 induction vs using bO with
 |nil=>simp
 |cons v r=>
  erw[iN (by simp)];rw[listMul_foldl];simp
theorem Pq{Q E:ac->ag->Prop}(rv:Rd (.list l) x v)(ru:Rd (.int j) x u)(h1:0<=j)(h2:j<=100)(hz:l.length<=100)(k:∀{vs},bt (kr j.toNat l).flatten x vs->(kr j.toNat l).flatten.length<=aA->Q (.ref x.s.heap.objs.size) {x.s with heap:=x.s.heap.push (bu vs 0)}):ai (ah pw c.w) A.A (mG .Mult v u) Q E x.s:=by
 refine dY rv λ{a n vs} e r1 z1=>bU ru λt=>?_;have e1:=x.hs _ _ e;have hm:vs.toArray.size*j.toNat<=100*100:=BZ (by erw[i4];erw[r1.length];exact hz) (Lc.mpr h2);refine wpAny_binaryOp_repeat_ref (T:="list") (U:="int") (by decide) ⟨_,e1,rfl⟩ (λs'=>typeIs_int s' j t) noFill_list_mul F.fills_int_mul F.slot_int_rmul repeat_list F.slot_int_index.lookup
  (Fh F.slot_int_rmul (typeIs_int x.s j t) F.entry_int_rmul (F.args_int_rmul_2 _ _) (int___rmul___int_list j t a vs.toArray n)
   (zK e1 rfl ⟨_,e1,rfl⟩ (Fh F.slot_list_mul ⟨_,e1,rfl⟩ F.entry_list_mul (F.args_list_mul_2 _ _)
    (AutoListH.list___mul___list_int_3 a vs.toArray n j t (by simp[Builtin.List.listFitsIndex];lia) (by lia) (by simp[Builtin.List.listTooLong,qT] at hm⊢;lia))
    ⟨e1,?_⟩)))
 exact(aer _).symm▸k (r1.rep _) (by rw[UM];exact aq (BZ (Lc.mpr h2:j.toNat<=100) hz) (by decide))
theorem XC(rv:Rd (.list l) x v)(ru:Rd (.int j) x u)(h1:0<=j)(h2:j<=100)(hz:l.length<=100):aE A (mG .Mult v u) x (Rd (.list (kr j.toNat l).flatten)):=λQ E K=>Pq rv ru h1 h2 hz λr z=>sQ K rfl (E8 r z)
theorem W8(h0:0<=j)(h1:j<8):¬af2 (((BW 2:Nat):Int)*j)=true:=by
 erw[(show(BW 2:Nat)=2 by decide+kernel)];unfold af2 bitsLine;erw[decide_eq_true_eq];lia
theorem XX(i:Int):i.natAbs<2^BW i:=by
 unfold BW;split
 ·rename_i q;erw[a5 q];decide
 ·exact Nat.lt_log2_self
theorem YW(rv:Rd (.int i) x v)(ru:Rd (.int j) x u)(c0:0<=i)(c1:0<=j):aE A (mG .RShift v u) x (Rd (.int (i.fdiv (2^j.toNat)))):=by
 refine bU rv λt=>bU ru λt'=>λQ E K=>?_;by_cases z:j>=((BW i:Nat):Int)
 ·have h:i.natAbs<2^j.toNat:=ba (XX i) (Ss (by decide) (Int.le_toNat c1|>.mpr z));have:i.fdiv (2^j.toNat)=0:=aa (Fi _ (mH (Int.pow_pos (by decide)))) (Int.ediv_eq_zero_of_lt c0 (by have:=jc h;rw[Kd c0] at this;simpa using this));exact AutoIntOps.rshift_1 (im c1) z ((iN (im c0)).symm▸this.symm▸pn (this▸K))
 ·exact AutoIntOps.rshift_2 (im c1) z (pn K)
theorem Ρ(c0:0<=i):Builtin.bitAnd i 1=i.fmod 2:=by
 unfold Builtin.bitAnd;refine aa (dT c0) (aa (dT (by decide:(0:Int)<=1)) ?_);dsimp only;rw[show(1:Int).toNat=1 from rfl,Nat.and_one_is_mod,Ke _ (by decide)];exact(Int.natCast_emod ..).trans (af (· %(2:Int)) (Su c0))
theorem afu{op:ia}(h:fw op i j=some p)(rv:Rd (.int i) x v)(ru:Rd (.int j) x u):aE A (mG op v u) x (Rd p):=by
 cases op with
 |RShift=>exact aL h λc h=>oI h (YW rv ru c.1 c.2.1)
 |Add=>exact oI h (bU rv λt=>bU ru λt'=>λQ E K=>AutoIntOps.add_0 (pn K))
 |Sub=>exact oI h (bU rv λt=>bU ru λt'=>λQ E K=>AutoIntOps.sub_0 (pn K))
 |Mult=>exact aL h λc h=>oI h (bU rv λt=>bU ru λt'=>λQ E K=>AutoIntOps.mul_0 (pn K) (c.elim (λc=>IntMulOk.of_right (O2 c)) λc=>IntMulOk.of_left (O2 c)))
 |Mod=>exact aL h λc h=>oI h (bU rv λt=>bU ru λt'=>λQ E K=>AutoIntOps.mod_1 (λe=>c (a5 e)) (pn K))
 |BitAnd=>exact aL h λc h=>oI h (bU rv λt=>bU ru λt'=>λQ E K=>and_int (by erw[c.2];erw[Ρ c.1];exact jI K .int))
 |FloorDiv=>exact aL h λc h=>oI h (bU rv λt=>bU ru λt'=>λQ E K=>AutoIntOps.floordiv_1 (λe=>c.1 (a5 e)) (WJ c.2) (pn K))
 |Pow=>
  refine aL h λc h=>oI h (bU rv λt=>bU ru λt'=>λQ E K=>?_);obtain⟨rfl,c1,c2⟩:=c;by_cases q:j=0
  ·subst q;exact AutoIntOps.pow_0 (by decide) (by decide) (pn K)
  ·exact AutoIntOps.pow_4 c1 (λe=>q (a5 e)) (by decide) (by decide) (W8 c1 c2) (pn K)
 |_=>exact nS h
@[elab_as_elim] theorem Ig{m:PV->PV->Bool->Prop}(h:dk (n+1) p q=some b)(kI:∀i j,m (.int i) (.int j) (i==j))(kS:∀i j,m (.str i) (.str j) (i==j))(kB:∀i j,m (.bool i) (.bool j) (i==j))
(kL:∀{l l' b},l.length=l'.length->dk.qp (dk n) l l'=some b->m (.list l) (.list l') b)(kN:∀{l l'},l.length≠l'.length->m (.list l) (.list l') false):m p q b:=by
 induction p using dh with
 |int i=>exact fM h λj e r=>r▸eA e (kI i j)
 |str i=>exact fM h λj e r=>r▸Bs e (kS i j)
 |bool i=>exact fM h λj e r=>r▸Eo e (kB i j)
 |list l=>exact aj h λk e h=>pI e (by
   by_cases c:l.length=k.length
   ·exact kL c ((iP c).symm.trans h)
   ·exact oI ((iN c).symm.trans h) (kN c))
 |_=>exact nS h
@[elab_as_elim] theorem Nm{y z:PV}{M:Bool->Prop}(h:dk.qp (dk n) (y::l) (z::m)=some b)(K:∀r q,dk n y z=some r->dk.qp (dk n) l m=some q->M (r&&q)):M b:=aj h λr e h=>fH h λq e'=>K r q e e'
theorem Nc(h:f a=some (bu vs n))(r:aV c f (.ref a) (.list l)):aR c f vs l:=by
 revert h;exact dY (m:=λv=> ∀a,v=.ref a->f a=some (bu vs n)->aR c f vs l) r (λg r _ b e h=>by
  injection e with e;subst e
  have e:=g.symm.trans h;injection e with e;injection e with _ _ e;injection e with e;injection e with e;exact e▸r) a rfl
theorem afU{t:Tok}(r:aV c f (.int i t) (.int j)):i=j:=by refine dN r λ_ e=>?_;injection e
theorem UR{i j:Str}{t:Tok}(r:aV c f (.str i t) (.str j)):i=j:=by refine dN r λ_ e=>?_;injection e
theorem aaz{i j:Bool}(r:aV c f (.bool i) (.bool j)):i=j:=J5.inj r
theorem LV{m:List PV->Prop}(r:aR c f (v::vs) l)(K:∀{p l},aV c f v p->aR c f vs l->m (p::l)):m l:=by
 induction l using bO with
 |nil=>injection(r:v::vs=[])
 |cons p l=>refine sH ((show lY (λv=>aV c f v p) (λvs=>aR c f vs l) _ from r)) λ_ _ e a r=>?_;injection e with e1 e2;subst e1 e2;exact K a r
theorem Zx(ih:∀{v:ac} {p q:PV} {b:Bool},dk n p q=some b->aV c f v p->aV c f v q->b=true):∀{l m:List PV} {vs:List ac} {b:Bool},aR c f vs l->aR c f vs m->dk.qp (dk n) l m=some b->b=true:=by
 intro l;induction l with
 |nil=>exact λ_ _ h=>(ay h).symm
 |cons y l il=>exact λ{m vs b} r=>eC r λa r r'=>LV (m:=λm=>dk.qp (dk n) (y::l) m=some b->b=true) r' λa' r' h=>Nm h λc d e1 e2=>by erw[ih e1 a a'];erw[il r r' e2];rfl
theorem Φ(n:Nat):∀{v:ac} {p q:PV} {b:Bool},dk n p q=some b->aV c f v p->aV c f v q->b=true:=by
 induction n with
 |zero=>exact λh=>nS h
 |succ n ih=>
  exact λ{v p q b} h=>Ig (m:=λp q b=>aV c f v p->aV c f v q->b=true) h
   (λ_ _ rp=>bU rp λ_ rq=>jV (afU rq)) (λ_ _ rp=>jh rp λ_ rq=>jV (UR rq)) (λ_ _ rp=>lH rp λrq=>jV (aaz rq))
   (λ_ h rp=>dY rp λe r _ rq=>Zx ih r (Nc e rq) h) (λc rp=>dY rp λe r _ rq=>absurd (r.length.symm.trans (Nc e rq).length) c)
theorem aaX(n:Nat){l:List PV}:∀{m:List PV} {b:Bool},dk.qp (dk n) l m=some b->l.length=m.length->
  ∃e:Nat->Bool,b=(ax l.length).all e/\∀j x y,l[j]?=some x->m[j]?=some y->dk n x y=some (e j):=by
 induction l with
 |nil=>exact λh _=>(az (λ_=>true) ((ay h).symm) (λj x y hx=>nS hx))
 |cons x l ih=>
  intro m b h hl;induction m using bO with
  |nil=>injection hl
  |cons y m=>
   exact Nm h λr q e1 e2=>by
    refine aB (ih e2 (wA hl)) λe he hj=>(az (λj=>j.casesOn r e) (?_) (λj x' y' hx hy=>?_))
    ·erw[wB];erw[yA];erw[Kf];erw[Sv];erw[he];rfl
    ·induction j using n7 with
     |zero=>exact ay hx▸ay hy▸e1
     |succ j=>exact hj j x' y' hx hy
theorem Oj{A:bh}{a a':ao}(R:ol A s (.ref a) (.ref a') b)(S:pL a=.ref a'->b=true):gD A s (.ref a) (.ref a') b:=by
 by_cases e:a=a'
 ·have:=S (af _ e);subst e this;exact gD.same _
 ·exact gD.of_refs e R
@[elab_as_elim] theorem Dj{M:ac->ac->Prop}(rp:Rd (.list l) x v)(rq:Rd (.list m) x u)
(K:∀{a a'} {vs us:Array ac},x.s.heap.IsList a vs->x.s.heap.IsList a' us->vs.size=l.length->us.size=m.length->(∀j (h1:j<vs.size) (h2:j<us.size),∃z y,l[j]?=some z/\m[j]?=some y/\Rd z x vs[j]/\Rd y x us[j])->M (.ref a) (.ref a')):M v u:=
 dY rp λh1 r1 _=>dY rq λh2 r2 _=>K (kG h1) (kG h2) r1.length r2.length λ_ q1 q2=>aB (r1.at q1) λz x1 x2=>aB (r2.at q2) λy y1 y2=>(uw z y x1 y1 x2 y2)
theorem Qh{a b c d:Nat}(h1:a=c)(h2:b=d)(h:c≠d):(a !=b)=true:=by erw[h1];erw[h2];exact bne_iff_ne.mpr h
theorem JW{A:bh}(hu:A.units<ti)(El:∀{v u:ac} {p q:PV} {b:Bool},dk n p q=some b->Rd p x v->Rd q x u->gD A.in1 x.s v u b)(h:dk (n+1) p q=some b)(rp:Rd p x v)(rq:Rd q x u):ol A x.s v u b/\uG A x.s v u !b:=
 Ig (m:=λp q b=>Rd p x v->Rd q x u->ol A x.s v u b/\uG A x.s v u !b) h
  (λ_ _ rp=>bU rp λ_ rq=>bU rq λ_=>⟨ol.int_int _ _ _ _,uG.int_int _ _ _ _⟩)
  (λ_ _ rp=>jh rp λ_ rq=>jh rq λ_=>⟨ol.str_str _ _ _ _,uG.str_str _ _ _ _⟩)
  (λ_ _ rp=>lH rp λrq=>lH rq ⟨ol.bool_bool _ _,uG.bool_bool _ _⟩)
  (λhl h rp rq=>Dj (M:=λv u=>ol A x.s v u _/\uG A x.s v u !_) rp rq λ{_ _ vs us} i1 i2 z1 z2 el=>by
   refine aB (aaX n h hl) λk bY hk=>?_;subst bY;have e:=z1.trans (hl.trans z2.symm);have he:∀j (h1:j<vs.size) (h2:j<us.size),gD A.in1 x.s vs[j] us[j] (k j):=λj q1 q2=>D5 (el j q1 q2) λz y x1 y1 r1 r2=>El (hk j z y x1 y1) r1 r2;exact z1▸⟨ol.lists i1 i2 e hu he,uG.lists i1 i2 e hu he⟩)
  (λc rp rq=>Dj (M:=λv u=>ol A x.s v u false/\uG A x.s v u true) rp rq λi1 i2 z1 z2 _=>⟨ol.lists_lengths i1 i2 (Qh z1 z2 c) hu,uG.lists_lengths i1 i2 (Qh z1 z2 c) hu⟩) rp rq
theorem Hg(n:Nat):∀{A:bh},A.units+n<ti->∀{v u:ac} {p q:PV} {b:Bool},dk n p q=some b->Rd p x v->Rd q x u->gD A x.s v u b:=by
 induction n with
 |zero=>exact λ_ _ _ _ _ _ h=>nS h
 |succ n ih=>
  intro A hu v u p q b h rp rq;have R:=(JW (A:=A) (aQ (cW _ _) hu) (ih (A:=A.in1) (by show A.units+1+n<_;rw[fC,gj 1];exact hu)) h rp rq).1;have S:=λe:v=u=>Φ _ h rp (e▸rq);revert R S;exact Ig (m:=λp q b=>Rd p x v->Rd q x u->ol A x.s v u b->(v=u->b=true)->gD A x.s v u b) h
   (λ_ _ rp=>bU rp λ_ rq=>bU rq λ_ _ _=>gD.int_int _ _ _ _) (λ_ _ rp=>jh rp λ_ rq=>jh rq λ_ _ _=>gD.str_str _ _ _ _) (λ_ _ rp=>lH rp λrq=>lH rq λ_ _=>gD.bool_bool _ _)
   (λ_ _ rp rq=>Dj (M:=λv u=>ol A x.s v u _->(v=u->_=true)->gD A x.s v u _) rp rq λ_ _ _ _ _ R S=>Oj R S)
   (λ_ rp rq=>Dj (M:=λv u=>ol A x.s v u false->(v=u->false=true)->gD A x.s v u false) rp rq λ_ _ _ _ _ R S=>Oj R S) rp rq
theorem Am.Jq(A:Am d){n:Nat}(h:n+1<=40):A.A.in1.units+n<ti:=by show A.A.units+1+n<_;rw[fC,gj 1];exact A.room h
theorem ZM(h:dk 4 p q=some b)(rp:Rd p x v)(rq:Rd q x u):aE A (jM .Eq v u) x (Rd (.bool b)):=λQ E K=>
 (JW (A.room (n:=0) (by decide)) (Hg 3 (A.Jq (by decide))) h rp rq).1 _ _ _ _ (k_here K .bool)
theorem abq(h:dk 4 p q=some b)(rp:Rd p x v)(rq:Rd q x u):aE A (jM .NotEq v u) x (Rd (.bool !b)):=λQ E K=>
 (JW (A.room (n:=0) (by decide)) (Hg 3 (A.Jq (by decide))) h rp rq).2 _ _ _ _ (k_here K .bool)
@[elab_as_elim] theorem abE{M:Bool->Prop}(h:l9 n p (q::l)=some b)(K:∀r k,dk n q p=some r->l9 n p l=some k->M (r||k)):M b:=aj h λr e h=>fH h λk e'=>K r k e e'
structure Gy(A:bh)(s:ag)(v:ac)(vs:List ac)(b:Bool):Prop where
 all:∀y∈vs,∃c,gD A s y v c
 yes:b=true->∃y∈vs,gD A s y v true
 no:b=false->∀y∈vs,gD A s y v false
theorem X9{A:bh}{c q:Bool}(hy:gD A s u v c)(I:Gy A s v vs q):Gy A s v (u::vs) (c||q) where
 all z m:=(bw m).elim (λe=>⟨c,e▸hy⟩) (I.all z)
 yes e:=by
  induction c using je with
  |true=>exact(az _ (.head _) hy)
  |false=>exact(I.yes e).elim λz k=>(az z (.tail _ k.1) k.2)
 no e z m:=(bw m).elim (λk=>k▸(rh.mp e).1▸hy) (I.no (rh.mp e).2 z)
theorem aae{A:bh}(rv:Rd p x v)(hu:A.units+n<ti){l:List PV}:∀{vs:List ac} {b:Bool},bt l x vs->l9 n p l=some b->Gy A x.s v vs b:=by
 induction l with
 |nil=>exact λ{vs b} r h=>iR r (ay h▸⟨λ_ m=>absurd m eX,λe=>absurd e dy,λ_ _ m=>absurd m eX⟩)
 |cons y l ih=>exact λ{vs b} r h=>eC r λa r=>abE h λc q e1 e2=>X9 (Hg n hu e1 a rv) (ih r e2)
open Classical in
theorem PN{A:bh}(rv:Rd p x v)(hu:A.units+4<ti)(r:bt l x vs)(h:l9 4 p l=some b):∃e:ac->Bool,vs.toArray.any e=b/\∀y∈vs.toArray,gD A x.s y v (e y):=by
 have I:=aae rv hu r h;rw[show(∃e:ac->Bool,vs.toArray.any e=b/\∀y∈vs.toArray,gD A x.s y v (e y))=∃e:ac->Bool,vs.any e=b/\∀y∈vs,gD A x.s y v (e y) by simp only[List.any_toArray,List.mem_toArray]];induction b using je with
 |false=>exact(az (λ_=>false) (u3.mpr λ_ _=>dy) (I.no rfl))
 |true=>
  refine aB (I.yes rfl) λz m k=>(az (λy=>if gD A x.s y v true then true else false) (Ld.mpr (az z m (iP k))) (λy m=>dN (I.all y m) λc hc=>?_));by_cases q:gD A x.s y v true
  ·exact(af (gD A x.s y v) (iP q)).mpr q
  ·induction c using je with
   |true=>exact absurd hc q
   |false=>exact(af (gD A x.s y v) (iN q)).mpr hc
theorem QY(h:HW p q=some b)(rp:Rd p x v)(rq:Rd q x u):aE A (jM .In v u) x (Rd (.bool b))/\aE A (jM .NotIn v u) x (Rd (.bool !b)):=by
 have hu:A.A.in1.units+4<ti:=A.Jq (by decide);induction q using dh with
 |list l=>
  exact dY rq λhl r _=>by
   obtain⟨e,rfl,he⟩:=PN rp hu r h;exact⟨λQ E K=>in_listAt e (kG hl) he (k_here K .bool),λQ E K=>notIn_listAt e (kG hl) he (k_here K .bool)⟩
 |tup l=>
  exact iX rq λhl r _=>by
   obtain⟨e,rfl,he⟩:=PN rp hu r h;exact⟨λQ E K=>in_tupleAt e (A7 hl) he (k_here K .bool),λQ E K=>notIn_tupleAt e (A7 hl) he (k_here K .bool)⟩
 |_=>exact nS h
theorem Ea{op:iF}{k:Int->Int->Bool}(h:xL k p q=some b)(rp:Rd p x v)(rq:Rd q x u)(K:∀{i j t t'} {Q E},Q (.bool (k i j)) x.s->ai (ah pw c.w) A.A (jM op (.int i t) (.int j t')) Q E x.s):aE A (jM op v u) x (Rd (.bool b)):=by
 revert rp rq;exact aj h λi e h=>fH h λj e'=>eA e (eA e' λrp rq=>bU rp λ_=>bU rq λ_=>λQ E k=>K (k_here k .bool))
theorem C4(h:plainIs v u=true)(e:(v==u)=b):aE A (jM .Is v u) x (Rd (.bool b))/\aE A (jM .IsNot v u) x (Rd (.bool !b)):=
 ⟨λQ E K=>wpAny_is_plain h (k_here K (e▸ .bool)),λQ E K=>wpAny_isNot_plain h (k_here K (e▸ .bool))⟩
theorem OD(h:HX p q=some b)(rp:Rd p x v)(rq:Rd q x u):aE A (jM .Is v u) x (Rd (.bool b))/\aE A (jM .IsNot v u) x (Rd (.bool !b)):=by
 induction p using dh with
 |none=>exact fH h λ_ e=>Bb (m:=λq=>Rd q x u->_) e (λrq=>qC rp (qC rq (C4 rfl rfl))) rq
 |list l=>exact fH h λ_ e=>Bb (m:=λq=>Rd q x u->_) e (λrq=>dY rp λ_ _ _=>qC rq (C4 rfl rfl)) rq
 |int i=>exact fH h λ_ e=>Bb (m:=λq=>Rd q x u->_) e (λrq=>bU rp λ_=>qC rq (C4 rfl rfl)) rq
 |tup l=>exact fH h λ_ e=>Bb (m:=λq=>Rd q x u->_) e (λrq=>iX rp λ_ _ _=>qC rq (C4 rfl rfl)) rq
 |_=>exact nS h
theorem ae7(h:p.truth=some b)(rp:Rd p x v):aE A (yB v) x (Is b):=by
 induction p using dh with
 |none=>exact oI h (qC rp λ_ _ K=>λ_ _ _=>K _ x (.refl x) rfl)
 |bool c=>exact oI h (lH rp (λ_ _ K=>wC (K _ x (.refl x) rfl)))
 |int i=>exact oI h (bU rp λ_=>λ_ _ K=>truthy_int (K _ x (.refl x) (by by_cases z:i=0<;>simp[z])))
 |list l=>exact oI h (dY rp λ{_ _ vs} h1 r1 hz=>λ_ _ K=>wpAny_truthy_list (kG h1) (pQ (pJ (aq (aD r1.length) hz:vs.toArray.size<=aA)) (by decide)) (K _ (x.tok _) (x.cG _) (show(!vs.toArray.isEmpty)= !l.isEmpty by
   induction l using bO with
   |nil=>exact iR r1 rfl
   |cons=>exact eC r1 λ_ _=>rfl)))
 |_=>exact nS h
theorem abJ(h:QU p=some q)(r:Rd p x v):aE A (unaryOp .USub v) x (Rd q):=fH h λi e=>eA (m:=λp=>Rd p x v->_) e (λr=>bU r λ_=>λQ E K=>neg_int (jI K .int)) r
end
structure ci(W:ao->Prop)(g:Nat)(s s':ag):Prop where
 keep:∀b o,s.heap.get? b=some o->¬dA b->¬W b->s'.heap.get? b=some o
 gens:∀(i:Nat) (x:jo),i<g->s.gens[i]?=some x->s'.gens[i]?=some x
 de:s.gens.size<=s'.gens.size
 bare:(∀(i:Nat) (x:jo),g<=i->s.gens[i]?=some x->x.bare=true)->∀(i:Nat) (x:jo),g<=i->s'.gens[i]?=some x->x.bare=true
 os:s'.os=s.os
section
variable{s':ag}{W W':ao->Prop}{g g0:Nat}{b:ao}
theorem ci.refl(s:ag):ci W g s s:=⟨λ_ _ h _ _=>h,λ_ _ _ h=>h,bf _,λh=>h,rfl⟩
theorem ci.trans(x:ci W g s s')(y:ci W g s' i8):ci W g s i8:=
 ⟨λb o h t k=>y.keep b o (x.keep b o h t k) t k,λi z q h=>y.gens i z q (x.gens i z q h),aq x.de y.de,λh=>y.bare (x.bare h),y.os.trans x.os⟩
theorem ci.weaken(x:ci W g s s')(k:∀b,W b->W' b):ci W' g s s':=⟨λb o h t n=>x.keep b o h t λq=>n (k b q),x.gens,x.de,x.bare,x.os⟩
theorem e8.n8(x:e8 s s'):ci W g s s':=⟨λb o h t _=>x.keep b o h t,λi z _ h=>x.gens i z h,x.de,x.Oh,x.os⟩
theorem ci.toe8(x:ci W s.gens.size s s')(k:∀b,W b->s.heap.get? b=none):e8 s s':=
 ⟨λb o h t=>x.keep b o h t λq=>nS ((k b q).symm.trans h),λi z h=>x.gens i z (oj λq=>tO q h) h,x.bare λ_ _=>tO,x.os⟩
theorem ci.shrink(x:ci W' g s s')(h:∀b,W' b->W b\/s.heap.get? b=none):ci W g s s':=
 ⟨λb o e t n=>x.keep b o e t λq=>(h b q).elim n λz=>nS (z.symm.trans e),x.gens,x.de,x.bare,x.os⟩
theorem ci.lower(x:ci W g s s')(h:g0<=g)(hs:g<=s.gens.size):ci W g0 s s':=
 ⟨x.keep,λi z q e=>x.gens i z (ba q h) e,x.de,λb i z q e=>by
  by_cases c:g<=i
  ·exact x.bare (λj y q e=>b j y (aq h q) e) i z c e
  ·have h1:=tg (ba (oj c) hs);exact b i z q (h1.trans (af some (ay ((x.gens _ _ (oj c) h1).symm.trans e)))),x.os⟩
theorem ci.back(x:ci W g s s')(t:¬dA b)(h:s'.heap.get? b=none):s.heap.get? b=none\/W b:=by
 by_cases q:W b
 ·exact .inr q
 ·cases e:s.heap.get? b with
  |none=>exact .inl rfl
  |some o=>exact nS (h.symm.trans (x.keep b o e t q))
theorem ci.Q8{t:Nat}(x:dD a s.heap h')(k:W a):ci W g s {s with heap:=h',toks:=t}:=
 ⟨λb o e _ n=>(x.2 b λq=>n (q▸k)).trans e,λ_ _ _ h=>h,bf _,λh=>h,rfl⟩
theorem io.one{h h':am}{a:ao}(x:io h)(y:dD a h h')(k:719<=a)(n:∀o,h.get? a=some o->¬(o.cls=.type "code"/\∃vs,o.data=.fields vs)):io h':=
 x.but λb o e c=>(y.2 b λq=>c.elim (λl=>cV _ (ba (q▸l) k)) λc=>n o (q▸e) c).trans e
theorem cN(h:719<=b):¬dA b:=λq=>cV _ (ba h (QV q))
end
structure bV{c:Cx}(x:Pt c)(b:ao):Prop where
 f:x.f b=none
 h₀:c.h₀.get? b=none
 hi:719<=b
structure Wr{c:Cx}(W:ao->Prop)(g:Nat)(x y:Pt c):Prop where
 f:y.f=x.f
 e:ci W g x.s y.s
section
variable{c:Cx}{x y z:Pt c}{W W':ao->Prop}{g:Nat}{b:ao}{s':ag}{p:PV}{v:ac}
theorem bV.le(n:bV x b)(l:Le x y)(t:∃o,x.s.heap.get? b=some o):bV y b:=by
 refine⟨?_,n.h₀,n.hi⟩;cases e:y.f b with
 |none=>rfl
 |some o=>exact(l.new b o e).elim (λq=>nS (n.f.symm.trans q)) λq=>t.elim λo' q'=>nS (q.symm.trans q')
theorem Pt.EO(x:Pt c)(h:x.s.heap.get? a=none):c.h₀.get? a=none:=by
 cases e:c.h₀.get? a with
 |none=>rfl
 |some o=>exact nS (h.symm.trans (x.keep a o e))
theorem Pt.hi(x:Pt c)(h:x.s.heap.objs.size<=a):719<=a:=aq x.big h
theorem Pt.free(x:Pt c)(h:x.s.heap.objs.size<=a)(n:x.s.heap.get? a=none):bV x a:=⟨x.E5 n,x.EO n,x.hi h⟩
theorem Wr.refl:Wr W g x x:=⟨rfl,.refl _⟩
theorem Wr.trans(a:Wr W g x y)(b:Wr W g y z):Wr W g x z:=⟨b.f.trans a.f,a.e.trans b.e⟩
theorem Wr.rd(w:Wr W g x y)(r:Rd p x v):Rd p y v:=mE (af (λf=>aV c f v p) w.f) r
theorem Wr.sub(w:Wr W g x y):Sub x.f y.f:=λa o e=>(congrFun w.f a).trans e
theorem Wr.free(w:Wr W g x y)(n:bV x b):bV y b:=⟨(congrFun w.f b).trans n.f,n.h₀,n.hi⟩
noncomputable def Pt.wr(x:Pt c)(s':ag)(e:ci W g x.s s')(t:io s'.heap)(k:∀b,W b->c.h₀.get? b=none/\x.f b=none):Pt c where
 s:=s'
 f:=x.f
 keep b o h:=e.keep b o (x.keep b o h) (λq=>Pt.h0 c q h) λq=>nS ((k b q).1.symm.trans h)
 tab:=t
 K:=x.K
 nt:=x.nt
 hs b o h:=e.keep b o (x.hs b o h) (x.nt b o h) λq=>nS ((k b q).2.symm.trans h)
noncomputable def Pt.but(x:Pt c){t:Nat}(hs:dD a x.s.heap h')(n:bV x a)(k:∀o,x.s.heap.get? a=some o->¬(o.cls=.type "code"/\∃vs,o.data=.fields vs)):Pt c:=
 x.wr (W:=λb=>b=a) (g:=0) {x.s with heap:=h',toks:=t} (.Q8 hs rfl) (x.tab.one hs n.hi k) λb q=>q▸⟨n.h₀,n.f⟩
theorem Wr.but{t:Nat}{hs:dD a x.s.heap h'}{n:bV x a}{k:∀o,x.s.heap.get? a=some o->¬(o.cls=.type "code"/\∃vs,o.data=.fields vs)}(w:W a):Wr W g x (x.but (t:=t) hs n k):=⟨rfl,.Q8 hs w⟩
end
structure br{c:Cx}(W:ao->Prop)(g:Nat)(x y:Pt c):Prop where
 sub:Sub x.f y.f
 new:∀a o,y.f a=some o->x.f a=some o\/x.s.heap.get? a=none\/W a
 e:ci W g x.s y.s
section
variable{c:Cx}{x y z:Pt c}{W W':ao->Prop}{g g':Nat}{b:ao}{p:PV}{v:ac}
theorem br.refl:br W g x x:=⟨λ_ _ e=>e,λ_ _=>.inl,.refl _⟩
theorem br.trans(l:br W g x y)(m:br W g y z):br W g x z:=⟨λa o e=>m.sub a o (l.sub a o e),λa o e=>(m.new a o e).elim (l.new a o) λq=>.inr (q.elim (λn=>l.e.back (z.nt a o e) n) .inr),l.e.trans m.e⟩
theorem Le.st(l:Le x y):br W g x y:=⟨l.sub,λa o e=>(l.new a o e).imp id .inl,l.e.n8⟩
theorem Wr.st(w:Wr W g x y):br W g x y:=⟨w.sub,λa o e=>.inl ((congrFun w.f a).symm.trans e),w.e⟩
theorem br.weaken(l:br W g x y)(k:∀b,W b->W' b):br W' g x y:=⟨l.sub,λa o e=>(l.new a o e).imp id (.imp id (k a)),l.e.weaken k⟩
theorem br.shrink(l:br W' g x y)(k:∀b,W' b->W b\/x.s.heap.get? b=none):br W g x y:=⟨l.sub,λa o e=>(l.new a o e).imp id λq=>q.elim .inl λq=>(k a q).symm,l.e.shrink k⟩
theorem br.lower(l:br W g x y)(h:g'<=g)(hs:g<=x.s.gens.size):br W g' x y:=⟨l.sub,l.new,l.e.lower h hs⟩
theorem br.le(l:br W x.s.gens.size x y)(k:∀b,W b->x.s.heap.get? b=none):Le x y:=⟨l.e.toe8 k,l.sub,λa o e=>(l.new a o e).imp id λq=>q.elim id (k a)⟩
theorem br.rd(l:br W g x y)(r:Rd p x v):Rd p y v:=r.mono l.sub
abbrev cH(W:ao->Prop)(x y:Pt c):Prop:=br W x.s.gens.size x y
theorem cH.trans(l:cH W x y)(m:cH W y z):cH W x z:=br.trans l (m.lower l.e.de (bf _))
end
theorem Jm{h:am}{a:ao}{m:Str->Option ac}(n:h.Ns a m)(o:Obj)(e:h.get? a=some o):¬(o.cls=.type "code"/\∃vs,o.data=.fields vs):=λk=>by
 obtain⟨_,vs,q⟩:=k;refine jz n λo' es ep e1 e2 _=>?_;rw[<-ay (e.symm.trans e1),q] at e2;injection e2
theorem afO{h:am}{a:ao}{v:Option ac}(n:h.IsCell a v)(o:Obj)(e:h.get? a=some o):¬(o.cls=.type "code"/\∃vs,o.data=.fields vs):=λk=>by
 obtain⟨_,vs,q⟩:=k;refine aB n λo' e1 e2=>?_;rw[<-ay (e.symm.trans e1),q] at e2;injection e2
def dB(env:Env)(h:am)(x:Str)(v:ac):Prop:=
 (env.kindOf x=some .local/\∃m,h.Ns env.locals m/\m x=some v)\/
 ((env.kindOf x=some .cell\/(env.kindOf x=some .free/\(x==("__classdict__":Str))=false))/\∃c,env.cells.lookup x=some c/\h.IsCell c (some v))
structure Fm where
 env:Env
 nm:aN
 kind:env.scope.kind=.function
 glob:env.globals=mD
 blt:env.builtins=uF
 names:∀x,ak nm x=some .globalImplicit->env.kindOf x=some .globalImplicit
 cells:∀x,(ak nm x=some .cell\/ak nm x=some .free)->x≠("__classdict__":Str)->(env.kindOf x=some .cell\/env.kindOf x=some .free)/\(env.cells.lookup x).isSome=true
 jg:¬dA env.locals/\∀x c,env.cells.lookup x=some c->¬dA c
 cl:∀x c,env.cells.lookup x=some c->c≠env.locals
 apart:∀x y c,env.cells.lookup x=some c->env.cells.lookup y=some c->x=y
 code:pA nm=true->wt env.code=true
structure bB{c:Cx}(F:Fm)(x:Pt c)(σ:bj):Prop where
 cR:∀z a,F.env.cells.lookup z=some a->∃v,x.s.heap.IsCell a v
 var:∀z p,ak σ z=some p->∃v,dB F.env x.s.heap z v/\Rd p x v
def dq(env:Env)(b:ao):Prop:=b=env.locals\/∃x,env.cells.lookup x=some b
def t7(F:Fm)(b:ao):Prop:=b=F.env.locals\/∃x,ak F.nm x=some .cell/\F.env.cells.lookup x=some b
structure jG{c:Cx}(F:Fm)(x:Pt c):Prop where
 ns:∃m,x.s.heap.Ns F.env.locals m
 own:bV x F.env.locals
 loc:∀z,ak F.nm z=some .local->F.env.kindOf z=some .local
 kQ:∀z,ak F.nm z=some .cell->F.env.kindOf z=some .cell/\∃a,F.env.cells.lookup z=some a/\bV x a
section
variable{c:Cx}{x y:Pt c}{F:Fm}{env:Env}{h:am}{z q:Str}{v:ac}{σ σ':bj}{m:Str->Option ac}{p:PV}{W:ao->Prop}{g t:Nat}{M:f4}{E Q:ac->ag->Prop}
theorem nX{b:ao}(q:t7 F b):dq F.env b:=q.imp id λq=>q.imp λ_ q=>q.2
theorem qM{b:ao}(q:dq F.env b):¬dA b:=q.elim (λe=>e▸F.jg.1) λq=>q.elim λx e=>F.jg.2 x b e
theorem dB.keep(V:dB env h z v)(k:∀b o,dq env b->h.get? b=some o->h'.get? b=some o):dB env h' z v:=by
 refine V.imp (λV=>⟨V.1,?_⟩) λV=>⟨V.1,?_⟩
 ·exact aB V.2 λm n e=>(az m (n.at' λo e=>k _ o (.inl rfl) e) e)
 ·obtain⟨b,n,o,e1,e2⟩:=V.2;exact⟨b,n,o,k b o (.inr ⟨z,n⟩) e1,e2⟩
theorem bB.keep(X:bB F x σ)(k:∀b o,dq F.env b->x.s.heap.get? b=some o->y.s.heap.get? b=some o)(hf:Sub x.f y.f):bB F y σ where
 cR z a e:=by refine eH (X.cR z a e) λv o e1 e2=>?_;exact(du v o (k a o (.inr ⟨z,e⟩) e1) e2)
 var z p e:=by refine aB (X.var z p e) λv V r=>?_;exact(az v (V.keep k) (r.mono hf))
theorem bB.le(X:bB F x σ)(l:Le x y):bB F y σ:=X.keep (λb o w e=>l.e.keep b o e (qM w)) l.sub
theorem bB.weaken(X:bB F x σ)(k:∀z p,ak σ' z=some p->ak σ z=some p):bB F x σ':=⟨X.cR,λz p e=>X.var z p (k z p e)⟩
theorem jG.keep(Z:∀z a,F.env.cells.lookup z=some a->∃v,x.s.heap.IsCell a v)(X:jG F x)(k:∀b o,dq F.env b->x.s.heap.get? b=some o->y.s.heap.get? b=some o)(kf:∀b,dq F.env b->bV x b->(∃o,x.s.heap.get? b=some o)->bV y b):jG F y where
 ns:=by obtain⟨m,n⟩:=X.ns;exact⟨m,n.at' λo e=>k _ o (.inl rfl) e⟩
 own:=kf _ (.inl rfl) X.own (by refine tI X.ns λm o es ep e _=>?_;exact⟨o,e⟩)
 loc:=X.loc
 kQ z e:=by
  obtain⟨k1,a,b,n⟩:=X.kQ z e;exact eH (Z z a b) λv o e1 _=>⟨k1,a,b,kf a (.inr ⟨z,b⟩) n ⟨o,e1⟩⟩
theorem jG.le(X:jG F x)(V:bB F x σ)(l:Le x y):jG F y:=X.keep V.cR (λb o w e=>l.e.keep b o e (qM w)) λb _ n t=>n.le l t
theorem zL(F:Fm)(V:dB F.env x.s.heap z v)(h:Q v x.s):ai M A (loadName F.env z) Q E x.s:=by
 rcases V with⟨a,m,n,e⟩|⟨a,c,n,e⟩
 ·exact wpAny_loadName_local F.kind a n e h
 ·exact a.elim (λa=>wpAny_loadName_cell F.kind a n e h) λa=>wpAny_loadName_free F.kind a.1 n e h a.2
def di(P:cD)(x:Str):Option ac:=(nsIn (KL P) mD x).bind λv=>match v with
 |some v=>some v
 |none=>if x=("__name__":Str) then none else bootBuiltins x
theorem OM{A:bh}(F:Fm)(x:Pt c)(hx:F.env.kindOf z=some .globalImplicit)(e:di c.w.params z=some v)(h:Q v x.s):ai M A (loadName F.env z) Q E x.s:=by
 have go:ai M A (loadGlobal F.env z) Q E x.s:=by
  obtain⟨mg,g⟩:=c.g;have g':x.s.heap.Ns F.env.globals mg:=F.glob▸g.keeps x.keep;refine aj e λo q e=>?_;induction o using qN with
  |some v'=>exact Calls.loadGlobal_global g' (mg_of c.K g (q.trans (af some e))) h
  |none=>
   refine fU e λn e=>aB c.b λmb b hb=>?_;have b':x.s.heap.Ns F.env.builtins mb:=F.blt▸b.keeps x.keep;exact Calls.loadGlobal_builtin g' (mg_none_of c.K g q) b' ((hb z n).trans e) h
 exact aa (loadName_read F.kind hx) (go)
theorem vA{α:Type}{l:List (Str×α)}{x y:Str}{v:α}:ak (b9 l x v) y=if y=x then some v else ak l y:=by
 induction l with
 |nil=>
  show(if x=y then some v else none)=_;by_cases e:x=y
  ·refine aa (iP e) (aa (iP e.symm) ?_);rfl
  ·erw[iN e];erw[iN (gV e)];rfl
 |cons q r ih=>
  obtain⟨z,u⟩:=q;by_cases e:z=x
  ·erw[(show b9 ((z,u)::r) x v=(x,v)::r from iP e)];show(if x=y then some v else ak r y)=if y=x then some v else(if z=y then some u else ak r y);by_cases q:x=y
   ·refine aa (iP q) (aa (iP q.symm) ?_);rfl
   ·refine aa (iN q) (aa (iN (gV q)) (aa (iN λk=>q (e.symm.trans k)) ?_));rfl
  ·erw[(show b9 ((z,u)::r) x v=(z,u)::b9 r x v from iN e)];show(if z=y then some u else ak (b9 r x v) y)=if y=x then some v else(if z=y then some u else ak r y);erw[ih];by_cases q:z=y
   ·refine aa (iP q) (aa (iN λk=>e (q.trans k)) (aa (iP q) ?_));rfl
   ·refine aa (iN q) (aa (iN q) ?_);rfl
theorem sY{α:Type}{P:Prop}{l:List (Str×α)}{x y:Str}{v u:α}(h:ak (b9 l x v) y=some u)(k1:y=x->u=v->P)(k2:y≠x->ak l y=some u->P):P:=by
 by_cases q:y=x
 ·exact k1 q (ay (((vA.trans (iP q)).symm.trans h)).symm)
 ·exact k2 q ((vA.trans (iN q)).symm.trans h)
structure zD{c:Cx}(F:Fm)(z:Str)(u:ac)(x y:Pt c):Prop where
 at_:dB F.env y.s.heap z u
 old:∀q v,q≠z->dB F.env x.s.heap q v->dB F.env y.s.heap q v
 cR:∀z a,F.env.cells.lookup z=some a->∃v,y.s.heap.IsCell a v
 r:jG F y
 wr:∀g,Wr (t7 F) g x y
 gens:y.s.gens=x.s.gens
theorem zD.vars(S:zD F z u x y)(X:bB F x σ)(r:Rd p x u):bB F y (b9 σ z p) where
 cR:=S.cR
 var q p' e:=sY e (λe1 e2=>(az u (e1▸S.at_) (e2▸(S.wr 0).rd r))) λn e=>by refine aB (X.var q p' e) λv V r=>?_;exact(az v (S.old q v n V) ((S.wr 0).rd r))
theorem Pk{M:f4}{A:bh}{Q:Unit->ag->Prop}(X:∀z a,F.env.cells.lookup z=some a->∃v,x.s.heap.IsCell a v)(Y:jG F x)(hx:ak F.nm z=some .local\/ak F.nm z=some .cell)(k:∀y,zD F z u x y->Q () y.s):ai M A (B0 F.env z u) Q E x.s:=by
 rcases hx with e|e
 ·obtain⟨m,n⟩:=Y.ns;refine wpAny_storeName_local (Y.loc z e) n (λh' hn hs=>k (x.but (t:=x.s.toks+1) hs Y.own (Jm n)) {
   at_:=.inl ⟨Y.loc z e,_,hn,iP rfl⟩
   old:=λq v ne V=>V.imp (λV=>⟨V.1,_,hn,(iN ne).trans (by refine aB V.2 λm' n' e=>?_;rw[n.agree n',e])⟩) λV=>⟨V.1,by refine aB V.2 λa b i=>?_;exact(az a b (i.sameBut hs (F.cl q a b)))⟩
   cR:=λq a b=>by obtain⟨v,i⟩:=X q a b;exact⟨v,i.sameBut hs (F.cl q a b)⟩
   r:=⟨⟨_,hn⟩,(Wr.but (W:=t7 F) (g:=0) (.inl rfl)).free Y.own,Y.loc,λq e=>by obtain⟨k,a,b,n⟩:=Y.kQ q e;exact⟨k,a,b,n.f,n.h₀,n.hi⟩⟩
   wr:=λg=>.but (.inl rfl)
   gens:=rfl}) (by erw[F.kind];rfl)
 ·obtain⟨k1,a,b,n⟩:=Y.kQ z e;obtain⟨v,i⟩:=X z a b;exact wpAny_storeName_cell F.kind k1 b i λh' hn hs=>k (x.but (t:=x.s.toks) hs n (afO i)) {
   at_:=.inr ⟨.inl k1,a,b,hn⟩
   old:=λq v ne V=>V.imp (λV=>⟨V.1,by refine aB V.2 λm' n' e=>?_;exact(az m' (n'.sameBut hs (gV (F.cl z a b))) e)⟩) λV=>⟨V.1,by refine aB V.2 λa' b' i=>?_;exact(az a' b' (i.sameBut hs λe=>ne (F.apart q z a' b' (e▸b))))⟩
   cR:=λq a' b'=>by
    obtain⟨v,i⟩:=X q a' b';by_cases e:a'=a
    ·exact⟨u,e▸hn⟩
    ·exact⟨v,i.sameBut hs e⟩
   r:=⟨by refine dN Y.ns λm n=>?_;exact⟨m,n.sameBut hs (gV (F.cl z a b))⟩,⟨Y.own.f,Y.own.h₀,Y.own.hi⟩,Y.loc,λq e=>by obtain⟨k,a,b,n⟩:=Y.kQ q e;exact⟨k,a,b,n.f,n.h₀,n.hi⟩⟩
   wr:=λg=>.but (.inr (az z e b))
   gens:=rfl}
end
end
section
variable{c:Cx}{x y:Pt c}{d:Nat}{A:Am d}{v:ac}{l:List PV}{vs us:List ac}{p:PV}
section
variable{f:Fz}{u:ac}{i j:Int}{m:List PV}{a:ao}{n k:Nat}{q r:PV}{b:Bool}{O:aK}{s:ag}
theorem DW{w:cO}{A:bh}{value slice:Expr}{o i:ac}{T id:String}{Q:ac->ag->Prop}{E:ac->ag->Prop}(hT:s.TypeIs o T)
(hl:typeLookup (.type T) "__getitem__"=pure (some (.builtin id)))(h:ai (ah pw w) A (yC o i) Q E s):ai (ah pw w) A (Fj value slice o i) Q E s:=by
 unfold Fj;refine ae (aa (getitemInPython_of_ne hT.not_modules) (ae (Fk hT hl ?_)));have op:∀l,ai (ah pw w) A (operate l (yC o i)) (λr Gh=>ai (ah pw w) A (letTemporaryGo value o r>>=λ_=>pure r) Q E Gh) E s:=λl=>wpAny_operating (cQ h (λr Gh ag'=>ae (wpAny_letTemporaryGo (au ag'))) λ_ _ x=>x);have fin:ai (ah pw w) A (subscripted slice false o i) (λr Gh=>ai (ah pw w) A (letTemporaryGo value o r>>=λ_=>pure r) Q E Gh) E s:=by
  induction slice using eB with
  |Slice lo hi st=>induction st using qN with
   |none=>exact op _
   |some=>exact op _
  |_=>exact op _
 first
  |exact au (ae fin)
  |exact ae (au (ae fin))
  |exact ae fin
theorem JK(h:yy i n=some k)(z:n<=aA): -2^63<=i/\i<2^63/\((0<=i/\k=i.toNat)\/(i<0/\ -(n:Int)<=i/\k=(i+n).toNat)):=by
 have h:(if(decide (0<=(if i<0 then i+n else i))&&decide ((if i<0 then i+n else i)<n))=true then some (if i<0 then i+n else i).toNat else none)=some k:=h;refine aL h λq h=>oI h ?_;rw[mI,decide_eq_true_eq,decide_eq_true_eq] at q;unfold aA at z;by_cases z:i<0
 ·rw[iP z] at q⊢;exact⟨by lia,by lia,.inr (ej z (by lia) rfl)⟩
 ·rw[iN z] at q⊢;exact⟨by lia,by lia,.inl ⟨q.1,rfl⟩⟩
theorem CM{k:Nat}(e:vs[k]?=some v):vs.toArray[k]?=some v:=q0.trans e
theorem PS(z:l.length<=aA)(r:aR c f vs l):((vs.toArray.size:Nat):Int)<2^63:=pQ (pJ (aq (aD r.length) z:vs.toArray.size<=aA)) (by decide)
theorem abc(r:Rd (.list l) x v)(ru:Rd (.int i) x u){k:Nat}(e1:yy i l.length=some k)(e2:l[k]?=some p):aE A (yC v u) x (Rd p)/\∃a vs,v=.ref a/\x.s.heap.IsList a vs:=by
 refine dY r λ{a n vs} h rl z=>bU ru λt=>⟨λQ E K=>?_,a,_,rfl,kG h⟩;obtain⟨h1,h2,c⟩:=JK e1 z;obtain⟨v,e3,rv⟩:=rl.get e2;have hs:vs.toArray.size=l.length:=rl.length;rcases c with⟨c1,rfl⟩|⟨c1,c2,rfl⟩
 ·exact wpAny_getItem_list (kG h) c1 h2 (CM e3) (k_here K rv)
 ·exact wpAny_getItem_list_neg (kG h) c1 (hs▸c2) h1 (by erw[hs];exact CM e3) (k_here K rv)
theorem Wa(r:Rd (.tup l) x v)(ru:Rd (.int i) x u){k:Nat}(e1:yy i l.length=some k)(e2:l[k]?=some p):aE A (yC v u) x (Rd p)/\∃a vs,v=.ref a/\x.s.heap.IsTuple a vs:=by
 refine iX r λ{a n vs} h rl z=>bU ru λt=>⟨λQ E K=>?_,a,_,rfl,A7 h⟩;obtain⟨h1,h2,_⟩:=JK e1 z;obtain⟨v,e3,rv⟩:=rl.get e2;exact P.getItem_tuple (k:=k) (y:=v) (x.hs _ _ h) h1 h2 (by erw[i4];erw[rl.length];exact e1) (CM e3) (k_here K rv)
theorem YI{value slice:Expr}(h:bP p q=some r)(rp:Rd p x v)(rq:Rd q x u):aE A (yC v u) x (Rd r)/\aE A (Fj value slice v u) x (Rd r):=by
 revert rq;induction p using dh with
 |list l=>
  exact aj h λi e h=>aj h λk e1 e2=>eA e λrq=>by
   obtain⟨g,a,vs,rfl,z⟩:=abc (A:=A) rp rq e1 e2;exact⟨g,λQ E K=>DW z.typeIs list_getitem_lookup (g Q E K)⟩
 |tup l=>
  exact aj h λi e h=>aj h λk e1 e2=>eA e λrq=>by
   obtain⟨g,a,vs,rfl,o,e,c,_⟩:=Wa (A:=A) rp rq e1 e2;exact⟨g,λQ E K=>DW (T:="tuple") (az o e c) F.slot_tuple_getitem.lookup (g Q E K)⟩
 |_=>exact nS h
theorem aR.take:∀{vs:List ac} {l:List PV} (k:Nat),aR c f vs l->aR c f (vs.take k) (l.take k):=by
 intro vs l;induction l generalizing vs with
 |nil=>exact λk r=>iR r (by cases k<;>exact .nil)
 |cons p l ih=>
  intro k r;refine eC r λa r=>?_;induction k using n7 with
  |zero=>exact .nil
  |succ k=>exact .cons a (ih k r)
theorem aR.drop:∀{vs:List ac} {l:List PV} (k:Nat),aR c f vs l->aR c f (vs.drop k) (l.drop k):=by
 intro vs l;induction l generalizing vs with
 |nil=>exact λk r=>iR r (by cases k<;>exact .nil)
 |cons p l ih=>
  intro k r;induction k using n7 with
  |zero=>exact r
  |succ k=>exact eC r λ_ r=>ih k r
theorem ϗ(l:List PV)(lo hi:Option Int):(jC l lo hi).length<=l.length:=aq (Sw _ _).length_le (List.drop_sublist _ _).length_le
noncomputable def Ba(vl vu:ac):Obj:={cls:=.type "slice",data:=.fields #[vl,vu,.none]}
theorem adn{value slice:Expr}{vl vu:ac}{zl zu:Option Int}(r:Rd (.list l) x v)(pl:IsPart vl zl)(pu:IsPart vu zu):aE A (Fj value slice v (.ref x.s.heap.objs.size)) (x.push (Ba vl vu) x.s.toks) (Rd (.list (jC l zl zu))):=
 dY r λ{a n vs} h rl z=>λQ E K=>by
  have hl:=(kG h).push (Ba vl vu);refine DW (T:="list") (s:=(x.push (Ba vl vu) x.s.toks).s) hl.typeIs list_getitem_lookup (wpAny_getItem_list_slice (s:=(x.push (Ba vl vu) x.s.toks).s) hl (am.IsSliceOf.new ..) pl pu .none (by simp) ?_ (lM (us:=[]) (m:=[]) rl z (r':=.nil) rfl));have e:slicePick vs.toArray zl zu none=(jC vs zl zu).toArray:=by rw[slicePick_plain];unfold jC;erw[i4];rfl
  exact aa (e) (sQ (x:=x.push (Ba vl vu) x.s.toks) K rfl (E8 (by
   unfold jC;erw[rl.length];exact(rl.drop _).take _) (aq (ϗ _ _ _) z)))
theorem OT:∀{l:List Nat} {es:List (Int×ac)},bS es l->es.length=l.length:=by
 intro l;induction l with
 |nil=>exact λh=>af yD h
 |cons n l ih=>exact λh=>by obtain⟨_,_,rfl,h⟩:=h;exact af jp (ih h)
theorem aal{l:List Nat}:∀n,l.Pairwise (· < ·)->(∀x∈l,x<6)->(∀x∈l,n<=x)->n<=6->n+l.length<=6:=by
 induction l with
 |nil=>exact λ_ _ _ _ h=>h
 |cons x l ih=>
  intro n h k m _;have g:=mj h;have:=ih (x+1) g.2 (λy hy=>k y (.tail _ hy)) g.1 (k x (.head _));exact aq (aq (aD (pP n l.length 1)) (mF (yE (m x (.head _))) _)) this
theorem CP{l:List Nat}(h:l.Pairwise (· < ·))(k:∀x∈l,x<6):l.length<=6:=f5 l.length▸aal 0 h k (λ_ _=>cu _) (cu _)
theorem DF{t:a8}{P:cD}{l:List Nat}(h:eS P l t):t.fits l.length=true:=by
 unfold a8.fits Fn;refine aa (h.place) (aa (h.dummies) ?_);have:=h.room;simp;rcases h.mask with e|e|e<;>rw[e] at this⊢ <;>lia
theorem adU(h:IV O p=some q)(hn:p.oL=false)(r:Rd p x v):aE A (bC (.builtin "len") [v]) x (Rd q):=by
 induction p using dh with
 |list l=>exact oI h (dY r λ{a n vs} h rl z=>λQ E K=>Calls.call_len_list (kG h) (PS z rl) (jI K (by rw[i4,rl.length];exact .int)))
 |tup l=>exact oI h (iX r λ{a n vs} h rl z=>λQ E K=>P.len_tuple (x.hs _ _ h) (y5.mpr (PS z rl)) (jI K (by rw[i4,rl.length];exact .int)))
 |set l=>
  exact oI h (ly r λ{a es n t} h he ht=>λQ E K=>by
   have e:es.size=l.length:=Fo.symm.trans (OT he);exact call_len_set (x.hs _ _ h) (ej rfl rfl rfl) rfl (e▸DF ht) (by have:=CP ht.up ht.small;lia) (jI K (e▸ .int)))
 |inst=>injection hn
 |_=>exact nS h
theorem ε(h:gh 0 j=some p)(r:Rd (.int j) x v):aE A (bC (.type "range") [v]) x (Rd p):=aL h λz h=>oI h (bU r λt=>λQ E K=>call_range_1 (sQ K rfl (.d8 pk (by decide) z.2.1 z.2.2)))
theorem Wy(h:gh i j=some p)(r:Rd (.int i) x v)(r':Rd (.int j) x u):aE A (bC (.type "range") [v,u]) x (Rd p):=aL h λz h=>oI h (bU r λt=>bU r' λt=>λQ E K=>call_range_2 (sQ K rfl (.d8 pk z.1 z.2.1 z.2.2)))
theorem aeD:(if i<0 then-i else i)=(i.natAbs:Int):=by
 by_cases h:i<0
 ·exact(iP h).trans (Int.ofNat_natAbs_of_nonpos (mH h)).symm
 ·exact(iN h).trans (Kd (jA h)).symm
theorem Α(r:Rd (.int i) x v):aE A (bC (.builtin "abs") [v]) x (Rd (.int i.natAbs)):=bU r λt=>λQ E K=>
 call_abs_int λu tk=>jI K ((aeD:(if i<0 then-i else i)=(i.natAbs:Int)).symm▸ .int)
theorem VL(r:Rd (.int i) x v):aE A (bC (.type "int") [v]) x (Rd (.int i)):=bU r λt=>λQ E K=>call_int_int (k_here K .int)
theorem X6(h:i.natAbs<d3)(r:Rd (.int i) x v):aE A (bC (.type "str") [v]) x (Rd (.str (dw (toString i)))):=bU r λt=>λQ E K=>
 P.str_of_int (by have:=Qv h;lia) (jI K .str)
theorem Ji{o:Obj}{Q:ac->ag->Prop}{h':am}{t:Nat}(K:∀v y,Le x y->Rd p y v->Q v y.s)(k:∀b o,x.s.heap.get? b=some o->h'.get? b=some o)(e:h'.get? x.s.heap.objs.size=some o)(r:Rd p ((x.grow h' t k).add _ o e (x.j5 (bf _))) v):Q v {x.s with heap:=h',toks:=t}:=
 K v ((x.grow h' t k).add _ o e (x.j5 (bf _))) (.add (x.cG _) _ _ (eQ _)) r
theorem Hf{h':am}{t:Nat}{k:∀b o,x.s.heap.get? b=some o->h'.get? b=some o}{e:h'.get? x.s.heap.objs.size=some (bu vs n)}(r:bt l x vs)(z:l.length<=aA):Rd (.list l) ((x.grow h' t k).add _ _ e (x.j5 (bf _))) (.ref x.s.heap.objs.size):=.list pk (r.mono (Pt.zA (x:=x.grow h' t k))) z
theorem Gz{lo hi:Int}:af3 lo hi 1=(((hi-lo).toNat:Nat):Int):=by
 rw[rangeSize_one];by_cases h:lo<hi
 ·exact(iP h).trans (Su (Int.sub_nonneg.mpr (mH h))).symm
 ·rw[Int.toNat_of_nonpos (Int.sub_nonpos_of_le (jA h))];exact iN h
theorem RH{lo hi:Int}(h1:lo.natAbs<d3)(h2:hi.natAbs<d3):Builtin.Range.small lo hi 1=true:=
 small_one (mH (pQ (by decide) (xJ h1).1)) (yz (xJ h1).2 (by decide)) (mH (pQ (by decide) (xJ h2).1)) (yz (xJ h2).2 (by decide))
theorem ad9{g:Nat->PV}:∀(n m:Nat) {vs:List ac},vs.length=n->(∀(i:Nat) (v:ac),vs[i]?=some v->aV c f v (g (m+i)))->aR c f vs ((gW m n).map g):=by
 intro n;induction n with
 |zero=>exact λm vs h _=>zc.mp h▸ .nil
 |succ n ih=>
  intro m vs h k;induction vs using bO with
  |nil=>injection h
  |cons v vs=>exact .cons (k 0 v rfl) (ih (m+1) (wA h) λi v e=>wD m i▸k (i+1) v e)
theorem ac9(hn:p.oL=false)(h:yb p=some l)(z:l.length<=aA)(r:Rd p x v):aE A (bC (.type "list") [v]) x (Rd (.list l)):=by
 induction p using dh with
 |list m=>exact ay h▸dY r λ{a n vs} h rl z=>λQ E K=>call_list_seq (hsz:=lM (us:=[]) (m:=[]) rl z (r':=.nil) rfl) a (.inl rfl) (x.hs _ _ h) rfl rfl λh' c' hk hD=>Ji K hk hD (Hf rl z)
 |tup m=>exact ay h▸iX r λ{a n vs} h rl z=>λQ E K=>call_list_seq (hsz:=lM (us:=[]) (m:=[]) rl z (r':=.nil) rfl) a (.inr rfl) (x.hs _ _ h) rfl rfl λh' c' hk hD=>Ji K hk hD (Hf rl z)
 |d8 lo hi=>
  have e:=ay h;subst e;refine p9 r λ{a t u w} h h1 h2 hn=>λQ E K=>call_list_range A.ok.handled (x.hs _ _ h) (RH h1 h2) Gz (by unfold aA at hn;lia) λh' tk acc c' hk hD hI=>Ji K hk hD (Hf ?_ z);refine aa (yF) (ad9 _ 0 (by erw[Fo];exact hI.1) λi v q=>?_);obtain⟨t,e⟩:=hI.2 i v (by refine hZ (af4) ?_;exact q);rw[e,Kg,f5];exact .int
 |inst=>injection hn
 |_=>exact nS h
end
section
variable{f:Fz}{u g:ac}{m:List PV}{a:ao}{n k:Nat}{q r:PV}{b:Bool}{z:Str}{fs:List (Str×PV)}{E Q:ac->ag->Prop}
noncomputable def ϥ(K:km)(c:ao)(x:Str):Bool:=B1 K c x&&Fq K c&&(match fN K (.ref c) x with
 |some a=>noGet K a
 |none=>false)
theorem O5(P:cD):v9.all (λp=>ϥ (KL P) p.1 p.2)=true:=⋯
theorem AS{a b c:Bool}(h:(a&&b&&c)=true):a=true/\b=true/\c=true:=by
 cases a
 ·injection h
 ·cases b
  ·injection h
  ·exact(ej rfl rfl h)
theorem ZX:∀{vs:List (Str×ac)} {es:List pN},jQ c vs es->(es.find? (·.key.isStr z)).map (·.val)=ak vs z/\es.any (·.refKey)=false:=by
 intro vs;induction vs with
 |nil=>exact λh=>h▸⟨rfl,rfl⟩
 |cons q vs ih=>
  intro es h;obtain⟨t,r,rfl,h⟩:=h;obtain⟨y,u⟩:=q;refine⟨?_,(ih h).2⟩;erw[List.find?_cons];refine aa (show(BR y t).isStr z=(y==z) from rfl) (aa (show ak ((y,u)::vs) z=if y=z then some u else ak vs z from rfl) ?_);by_cases e:y=z
  ·erw[iP e];erw[jV e];rfl
  ·erw[iN e];erw[li e];exact(ih h).1
theorem xK{vs:List (Str×ac)}{es:List pN}(h:jQ c vs es):getL z es=some (ak vs z):=by
 have key:=ZX (z:=z) h;unfold getL;refine hZ (key.1) ?_;cases e:es.find? (·.key.isStr z) with
 |some v=>rfl
 |none=>dsimp only;erw[key.2];rfl
theorem GR:∀{vs:List (Str×ac)} {fs:List (Str×PV)},bN c f vs fs->(∀p,ak fs z=some p->∃v,ak vs z=some v/\aV c f v p)/\(ak fs z=none->ak vs z=none):=by
 intro vs fs;induction fs generalizing vs with
 |nil=>exact λr=>sR r ⟨λp h=>nS h,λ_=>rfl⟩
 |cons q fs ih=>
  obtain⟨y,q⟩:=q;refine λr=>pg r λ{v us} a r=>?_;show(∀p,(if y=z then some q else ak fs z)=some p->∃u,(if y=z then some v else ak us z)=some u/\aV c f u p)/\((if y=z then some q else ak fs z)=none->(if y=z then some v else ak us z)=none);by_cases e:y=z
  ·erw[iP e];erw[iP e];exact⟨λp h=>(az v rfl (ay h▸a)),λh=>sN h⟩
  ·erw[iN e];erw[iN e];exact ih r
theorem NF(r:Rd p x v)(h:p.iU=false):handedIn v=true:=by
 induction p using dh with
 |none=>exact qC r rfl
 |bool=>exact lH r rfl
 |int=>exact bU r λ_=>rfl
 |str=>exact jh r λ_=>rfl
 |tup=>exact iX r λ_ _ _=>rfl
 |list=>exact dY r λ_ _ _=>rfl
 |set=>exact ly r λ_ _ _=>rfl
 |d8=>exact p9 r λ_ _ _ _=>rfl
 |inst=>exact sV r λ_ _ _ _=>rfl
 |any=>injection h
@[elab_as_elim] theorem m8{M:ac->Prop}(r:Rd (.inst k fs) x v)(K:∀{a ox es n vs},InstAt x.s.heap a ox k (some (uH es n))->jQ c vs es->bN c x.f vs fs->Rd (.inst k fs) x (.ref a)->M (.ref a)):M v:=
 sV r λ{a dx n es vs} h hd he r=>K ⟨x.hs _ _ h,rfl,rfl,x.hs _ _ hd⟩ he r (.inst h hd he r)
theorem NW(h:ak fs z=some p)(ht:v9.contains (k,z)=true)(hp:p.iU=false)(r:Rd (.inst k fs) x v):∃u,Rd p x u/\∀{y:Pt c} {A:bh} {Q:ac->ag->Prop} {E:ac->ag->Prop},Sub x.f y.f->(∀t,Q u {y.s with toks:=t})->ai (ah pw c.w) A (uI v z true) Q E y.s:=
 sV r λ{a dx n es vs} e1 e2 he rf=>by
  have ok:=AS (b7 (O5 c.w.params) _ (qt ht));refine aB ((GR rf).1 p h) λv e3 rv=>fb ok λo1 o2 o3=>(az v rv (λ{y A Q E} s q=>?_));split at o3
  ·rename_i at_ e;exact get_value y.cT (⟨y.hs _ _ (s _ _ e1),rfl,rfl,y.hs _ _ (s _ _ e2)⟩:InstAt y.s.heap a (l4 k dx) k (some (uH es n))) (uJ o1).1 (findObj_own o2 e o3 (by rw[Fs,xK he,e3])) (NF rv hp) (q _)
  ·injection o3
theorem acr(h:ak fs z=some p)(ht:v9.contains (k,z)=true)(hp:p.iU=false)(r:Rd (.inst k fs) x v):aE A (uI v z true) x (Rd p):=λQ E K=>aB (NW h ht hp r) λu r' g=>g (λ_ _ e=>e) λt=>jI K r'
def DN(P:cD)(k:Nat):Bool:=B1 (KL P) k "__class__" &&Fq (KL P) k&&fN (KL P) (.ref k) "__class__"==some (some (.builtin "object.__class__"))
  &&Kh (KL P) (.builtin "object.__class__") "__get__"==some (some (.builtin "getset_descriptor.__get__"))&&takesIn (KL P) (.builtin "object.__class__")==some true&&mroIn (KL P) k (.type "object")==some true
theorem ZI(P:cD):DN P dm=true:=⋯
theorem Yi(P:cD):DN P iy=true:=⋯
theorem NK{P:cD}{a:ao}{ox od:Obj}(h:DN P k=true):KitX (KL P) (.ref a) (.ref k) (λh=>InstAt h a ox k (some od)):=by
 unfold DN at h;simp only[mI,beq_iff_eq] at h;obtain⟨⟨⟨⟨⟨h1,h2⟩,h3⟩,h4⟩,h5⟩,h6⟩:=h;exact kitx_own h1 h2 h3 h4 h5 h6
noncomputable def Jg:PV->ac
 |.inst k _=>.ref k
 |_=>.type "int"
theorem ET(P:cD):di P "int"=some (.type "int"):=⋯
theorem Hw(P:cD):di P "Fraction"=some (.ref dm):=⋯
theorem Mf(P:cD):di P "Voter"=some (.ref iy):=⋯
structure p_(c:Cx)(p:PV)(z:Str)(b:Bool)(v:ac):Prop where
 g:di c.w.params z=some v
 one:kitOne (KL c.w.params) (Jg p) v=some b
theorem JV(h:oL p z=some b)(r:Rd p x v):(∃g,p_ c p z b g)/\(∃Hp:am->Prop,KitX (KL c.w.params) v (Jg p) Hp/\Hp x.s.heap)/\v≠ .builtin "__main__.__loader__#opaque":=by
 induction p using dh with
 |int i=>
  refine⟨?_,bU r λt=>⟨(az _ kitx_int trivial),nofun⟩⟩;have h:(if z=("int":Str) then some true else if z=("Fraction":Str) then some false else none)=some b:=h;by_cases e:z=("int":Str)
  ·exact oI ((iP e).symm.trans h) ⟨_,e▸ET _,⋯⟩
  ·exact aL ((iN e).symm.trans h) λe h=>oI h ⟨_,e▸Hw _,⋯⟩
 |inst k fs=>
  have h:(if k=dm then(if z=("int":Str) then some false else if z=("Fraction":Str) then some true else none) else if k=iy/\z=("Voter":Str) then some true else none)=some b:=h;by_cases ek:k=dm
  ·subst ek;replace h:=(iP rfl).symm.trans h;refine⟨?_,m8 r λI _ _ _=>⟨(az _ (NK (ZI _)) I),nofun⟩⟩;by_cases e:z=("int":Str)
   ·exact oI ((iP e).symm.trans h) ⟨_,e▸ET _,⋯⟩
   ·exact aL ((iN e).symm.trans h) λe h=>oI h ⟨_,e▸Hw _,⋯⟩
  ·refine aL ((iN ek).symm.trans h) λe h'=>?_;obtain⟨e1,e⟩:=e;subst e1;exact⟨ay h'▸⟨_,e▸Mf _,⋯⟩,m8 r λI _ _ _=>⟨(az _ (NK (Yi _)) I),nofun⟩⟩
 |_=>exact nS h
theorem ZF(r:Rd p x v):∀{zs:List Str} {b:Bool},iU p zs=some b->∀cs,(zs.map λz=>di c.w.params z)=cs.map some->kitAny (KL c.w.params) (Jg p) cs=some b:=by
 intro zs;induction zs with
 |nil=>exact λh cs e=>TT.mp e.symm▸h
 |cons z zs ih=>
  intro b h cs e;induction cs using bO with
  |nil=>injection e
  |cons k cs=>
   injection e with e1 e2
   refine aj h λb' h1 h2=>?_;obtain⟨⟨g,G⟩,_⟩:=JV h1 r;unfold kitAny;refine hZ (ay (G.g.symm.trans e1)) (aa (G.one) ?_);cases b' with
   |true=>exact h2
   |false=>exact ih h2 cs e2
theorem VK(r:Rd p x v)(h:oL p z=some b)(e:di c.w.params z=some u):aE A (bC (.builtin "isinstance") [v,u]) x (Rd (.bool b)):=λQ E K=>by
 obtain⟨⟨g,G⟩,⟨Hp,Z,hp⟩,hx⟩:=JV h r;exact kia_one Z x.cT hp (ay (G.g.symm.trans e)▸G.one) hx λtk=>jI K .bool
theorem ϯ{zs:List Str}{cs:List ac}(r:Rd p x v)(h:iU p zs=some b)(jP:zs≠[])(e:(zs.map λz=>di c.w.params z)=cs.map some)(htp:x.s.heap.get? a=some (fS cs n)):aE A (bC (.builtin "isinstance") [v,.ref a]) x (Rd (.bool b)):=λQ E K=>by
 induction zs using bO with
 |nil=>exact absurd rfl jP
 |cons z zs=>
  refine aj h λb' h1 _=>?_;obtain⟨_,⟨Hp,Z,hp⟩,hx⟩:=JV h1 r;exact kia_tup Z x.cT hp htp (ZF r h cs e) hx λtk=>jI K .bool
theorem HR{M:f4}{A:bh}{s:ag}{args:List (Bool×Sem ac)}{kws:List (Option Str×Sem ac)}{Q:Args->ag->Prop}(ha:args.any (·.1)=false)(hk:kws.all (·.1.isSome)=true)
(h:ai M A (om args) (λvs bI=>ai M A (evalAll (kws.map (·.2))) (λks fQ=>Q ⟨vs,(kws.filterMap (·.1)).zip ks⟩ fQ) E bI) E s):ai M A (evalArgs g true args kws) Q E s:=by
 have fin:∀(vs:List ac) (bI:ag),ai M A (evalAll (kws.map (·.2))) (λks fQ=>Q ⟨vs,(kws.filterMap (·.1)).zip ks⟩ fQ) E bI->
   ai M A (do
    let kw:=(kws.filterMap (·.1)).zip (<-evalAll (kws.map (·.2)))
    return⟨<-(pure vs:Sem (List ac)),kw⟩) Q E bI:=λvs bI mQ=>
  ae (cQ mQ (λks fQ Cs=>ae (au (au Cs))) λ_ _ x=>x)
 unfold evalArgs;induction args using bO with
 |nil=>
  refine ae (m:=om []) (cQ h (λvs bI mQ=>dO ?_) λ_ _ x=>x);exact aa (iP hk) (fin vs bI mQ)
 |cons x rest=>
  obtain⟨b,t⟩:=x;have hb:b=false:=by cases b with
   |false=>rfl
   |true=>injection ha
  subst hb;refine ae (m:=om ((false,t)::rest)) (cQ h (λvs bI mQ=>dO ?_) λ_ _ x=>x);exact aa (iP hk) (fin vs bI mQ)
def oO(P:cD)(g:ac):Prop:=(∃id,g=.builtin id)\/(∃T,g=.type T)\/keepIn (KL P) g=true
theorem V5{w:cO}(k:oO w.params g)(h:am)(X:(KL w.params).In h):∃k,(k=Keeper.frame\/k=Keeper.machine\/k=Keeper.boundFrame)/\iG (ah pw w) h (keeperOf g) k:=by
 rcases k with⟨id,rfl⟩|⟨T,rfl⟩|k
 ·exact(az .machine (.inr (.inl rfl)) (iG.of_pure rfl))
 ·exact(az .machine (.inr (.inl rfl)) (iG.of_pure rfl))
 ·exact keeps_K k h X
theorem ad'{kws:List (Option Str×Sem ac)}(hk:kws.all (·.1.isSome)=true):kws.any (·.1.isNone)=false:=u3.mpr λx hx h=>by
 have:=b7 hk x hx;cases e:x.1<;>rw[e] at this h
 ·injection this
 ·injection h
theorem sK{w:cO}{A:bh}{s:ag}{pos:Pos}{first:List ac}{args:List (Bool×Sem ac)}{kws:List (Option Str×Sem ac)}(ha:args.any (·.1)=false)(hk:kws.all (·.1.isSome)=true)(k:oO w.params g)
(h:ai (ah pw w) A (om args) (λvs bI=>ai (ah pw w) A (evalAll (kws.map (·.2))) (λks fQ=>(KL w.params).In fQ.heap/\ai (ah pw w) A (bC g (first++vs) ((kws.filterMap (·.1)).zip ks)) Q E fQ) E bI) E s):
  ai (ah pw w) A (wE pos g first args kws) Q E s:=
 callWith_of (P:=λh=>(KL w.params).In h) (by erw[ha];exact ad' hk) (V5 k) (HR ha hk h)
theorem aaR{M:f4}{A:bh}{s:ag}{pos:Pos}{o:Obj}{args:List (Bool×Sem ac)}(ha:args.any (·.1)=false)
(h:ai M A (om args) (λvs bI=>(bI.heap.get? a=some o/\o.data=.plain)/\ai M A (bC (.ref a) vs []) Q E bI) E s):
  ai M A (wE pos (.ref a) [] args []) Q E s:=by
 unfold wE;refine ae (dO (HR ha rfl (cQ h (λvs bI mQ=>uK ?_) λ_ _ x=>x)));refine ae (jq ?_);simp only[ha,List.any_nil,yG];refine ae (m:=keeperOf (.ref a)) ?_;unfold keeperOf;exact ae (Ft mQ.1.1 (aa (mQ.1.2) (au (ae (wpAny_operating (cQ mQ.2 (λr fQ hr=>ae (dO (wpAny_point (au hr)))) λ_ _ x=>x))))))
def ik:Expr->Bool:=EA.on {d:=false,Ms:=λ_ _=>true}
theorem Pe{env:Env}{e:Expr}{r:List Expr}(h:ik e=false):lA (e::r) env=(false,eval e env)::lA r env:=by
 cases e<;>first|rfl|injection h
theorem vJ{env:Env}{pos:Pos}:∀{es:List Expr},(∀e∈es,ik e=false)->oo pos (lA es env)=es.map λe=>(false,eval e env):=by
 intro es h;have:lA es env=es.map λe=>(false,eval e env):=by
  induction es with
  |nil=>rfl
  |cons e r ih=>erw[Pe (h e (.head _))];erw[(ih λe m=>h e (.tail _ m))];rfl
 erw[this];unfold oo;erw[jr];rfl
theorem lq{env:Env}{pos:Pos}{es:List Expr}(h:∀e∈es,ik e=false):(oo pos (lA es env)).any (·.1)=false:=aa (vJ h) (u3.mpr λx m=>by refine aB (rg.mp m) λe _ bZ=>?_;subst bZ;exact dy)
noncomputable def Db(env:Env)(pos:Pos)(kws:List fj):List (Option Str×Sem ac):=backToKw pos (keywordEach kws env)
theorem R4{env:Env}{o:Expr}{name:Str}{whole:Sem ac}(h:ug o=false):attributeBase o name env whole=whole:=by
 induction o using eB with
 |Call f args kws p=>induction f using eB with
  |Name=>induction args using bO with
   |nil=>induction kws using bO with
    |nil=>injection h
    |cons=>rfl
   |cons=>rfl
  |_=>rfl
 |_=>rfl
theorem Jp{M:f4}{A:bh}{s:ag}{env:Env}{o:Expr}{name:Str}{apos pos:Pos}{args:List Expr}{kws:List fj}(hb:ug o=false)(hl:apos.endLine=pos.line)(ha:∀e∈args,ik e=false)
(hk:(Db env pos kws).all (·.1.isSome)=true)(hn:args.length+kws.length<=20)
(h:ai M A (eval o env) (λov bI=> ∀pl,ai M A (B2 ov name pl) (λfx fQ=>ai M A (wE pos fx.1 fx.2 (oo pos (lA args env)) (Db env pos kws)) Q E fQ) E bI) E s):
  ai M A (eval (.Call (.Attribute o name apos) args kws pos) env) Q E s:=by
 have iW:methodCallForm (args.length+kws.length) (oo pos (lA args env)) (backToKw pos (keywordEach kws env))=true:=by
  unfold methodCallForm;rw[show(backToKw pos (keywordEach kws env)).all (·.1.isSome)=true from hk,Ki,mI];constructor
  ·exact KN.mpr λx m=>by
    have:=u3.mp (lq (env:=env) (pos:=pos) ha) x m;cases e:x.1 with
    |false=>rfl
    |true=>exact absurd e this
  ·erw[decide_eq_true_eq];split<;>lia
 have aha:methodCallPos true o env apos pos=pure pos:=by unfold methodCallPos;simp[hl]
 rw[arm_eval_Call,R4 hb];refine ae (cQ h (λov bI mQ=>?_) λ_ _ x=>x);refine ae (jq ?_);unfold methodCall;refine aa (iW) (ae (dO (cQ (mQ _) (λfx fQ Cs=>?_) λ_ _ x=>x)));obtain⟨g,first⟩:=fx;exact ae (B3 aha Cs)
theorem JT{w:cO}{A:bh}{s:ag}{env:Env}{o:Expr}{name:Str}{pos:Pos}(hb:ug o=false)
(h:ai (ah pw w) A (eval o env) (λov bI=>ai (ah pw w) A (uI ov name true) Q E bI) E s):ai (ah pw w) A (eval (.Attribute o name pos) env) Q E s:=by
 rw[arm_eval_Attribute,R4 hb];refine ae (cQ h (λov bI mQ=>ae (jq (ae (dO (cQ mQ (λr fQ Cs=>?_) λ_ _ x=>x))))) λ_ _ x=>x);exact ae (wpAny_letTemporaryGo (au Cs))
noncomputable def vH(K:km)(c:ao)(m:Str)(g:ao):Bool:=B1 K c m&&fN K (.ref c) m==some (some (.ref g))&&oq K (.ref g)&&keepIn K (.ref g)
theorem PU{K:km}{m:Str}{g:ao}(h:vH K k m g=true):keepIn K (.ref g)=true:=(aW h).2
theorem ae0{m:Str}{g:ao}{pl:Sem Bool}{Q:ac×List ac->ag->Prop}(hm:vH (KL c.w.params) k m g=true)(hn:ak fs m=none)(r:Rd (.inst k fs) x v)
(h:Q (.ref g,[v]) x.s):ai (ah pw c.w) A.A (B2 v m pl) Q E x.s:=by
 revert h;refine m8 r λ{a ox es n vs} I he rf _ h=>?_;have h3:=(aW hm).1;exact fb (AS h3) λh1 h2 h3=>method_fn x.cT I (uJ h1).1 (uJ h1).2 (a5 h2) (a5 h3) (by show(lookIn m (uH es n)).map _=_;rw[Fs,xK he,(GR rf).2 hn];rfl) h
theorem Vy{l:List (Int×Tok)}:aR c f (l.map λp=>.int p.1 p.2) (l.map λp=>.int p.1):=by
 induction l with
 |nil=>exact .nil
 |cons p l ih=>exact .cons .int ih
theorem L0{l:List (Str×Tok)}:aR c f (l.map λp=>.str p.1 p.2) (l.map λp=>.str p.1):=by
 induction l with
 |nil=>exact .nil
 |cons p l ih=>exact .cons .str ih
theorem tK{l:List (Int×Tok)}(h:(KL c.w.params).lookup a=some (bu (l.map λp=>qS p.1 p.2) 0))(z:l.length<=aA):Rd (.list (l.map λp=>.int p.1)) x (.ref a):=
 .list (x.K _ _ h) Vy (by rw[bi];exact z)
noncomputable def G3:List (Str×Tok):=[("branch-and-bound",731),("brute-force",732),("standard",733),("standard-fractions",734)]
theorem Z1(h:Ib z=some p):∃v,di c.w.params z=some v/\Rd p x v:=by
 have h:(if z=("available_algorithms":Str) then _ else if z=("_law_orders":Str) then _ else none)=some p:=h;by_cases e:z=("available_algorithms":Str)
 ·subst e;exact oI ((iP rfl).symm.trans h) (az (.ref 433) ⋯ (.list (vs:=G3.map λp=>.str p.1 p.2) (n:=0) (x.K 433 _ ⋯) L0 (by decide)))
 ·refine aL ((iN e).symm.trans h) λe h=>oI h ?_;subst e;refine(az (.ref 718) ⋯ (?_));have r2:Rd (.list [.list [.int 0,.int 1],.list [.int 1,.int 0]]) x (.ref 710):=
   .list (vs:=[.ref 708,.ref 709]) (n:=0) (x.K 710 _ ⋯) (.cons (tK (l:=[(0,1121),(1,1122)]) ⋯ (by decide)) (.cons (tK (l:=[(1,1123),(0,1124)]) ⋯ (by decide)) .nil)) (by decide)
  have r3:Rd (.list [.list [.int 0,.int 1,.int 2],.list [.int 0,.int 2,.int 1],.list [.int 1,.int 0,.int 2],.list [.int 1,.int 2,.int 0],.list [.int 2,.int 0,.int 1],.list [.int 2,.int 1,.int 0]]) x (.ref 717):=
   .list (vs:=[.ref 711,.ref 712,.ref 713,.ref 714,.ref 715,.ref 716]) (n:=0) (x.K 717 _ ⋯)
    (.cons (tK (l:=[(0,1125),(1,1126),(2,1127)]) ⋯ (by decide)) (.cons (tK (l:=[(0,1128),(2,1129),(1,1130)]) ⋯ (by decide)) (.cons (tK (l:=[(1,1131),(0,1132),(2,1133)]) ⋯ (by decide))
    (.cons (tK (l:=[(1,1134),(2,1135),(0,1136)]) ⋯ (by decide)) (.cons (tK (l:=[(2,1137),(0,1138),(1,1139)]) ⋯ (by decide)) (.cons (tK (l:=[(2,1140),(1,1141),(0,1142)]) ⋯ (by decide)) .nil)))))) (by decide)
  exact .list (vs:=[.ref 710,.ref 717]) (n:=0) (x.K 718 _ ⋯) (.cons r2 (.cons r3 .nil)) (by decide)
noncomputable def EU(K:km)(c:ao)(x:Str)(v:ac):Bool:=B1 K c x&&Fq K c&&fN K (.ref c) x==some (some v)&&Kh K v "__get__"==some none&&handedIn v&& !copiedNames.contains x
theorem aaa(P:cD):(EU (KL P) cK "_THIELE_ALGORITHMS" (.ref 335)&&EU (KL P) cK "_RESOLUTE_VALUES_FOR_OPTIMIZATION_BASED_RULES" (.ref 336))=true:=⋯
noncomputable def WE:List (Str×Tok):=[("gurobi",589),("pulp-highs",590),("pulp-cbc",591),("branch-and-bound",592),("brute-force",593)]
theorem Zc(h:zw k z=some p):∃v,EU (KL c.w.params) k z v=true/\Rd p x v:=by
 have ok:=aW (aaa c.w.params);refine aL h λe h=>?_;subst e;by_cases e:z=("_THIELE_ALGORITHMS":Str)
 ·subst e;exact oI ((iP rfl).symm.trans h) (az _ ok.1 (.tup (vs:=WE.map λp=>.str p.1 p.2) (n:=0) (x.K 335 _ ⋯) L0 (by decide)))
 ·refine aL ((iN e).symm.trans h) λe h=>oI h ?_;subst e;exact(az _ ok.2 (.tup (vs:=[.bool false,.bool true]) (n:=0) (x.K 336 _ ⋯) (.cons .bool (.cons .bool .nil)) (by decide)))
theorem ae2(h:zw k z=some p)(hn:ak fs z=none)(r:Rd (.inst k fs) x v):aE A (uI v z true) x (Rd p):=
 m8 r λ{a ox es n vs} I he rf _=>λQ E K=>by
  refine aB (Zc (x:=x) h) λu ok ru=>?_;unfold EU at ok;simp only[mI,beq_iff_eq,tj] at ok;obtain⟨⟨⟨⟨⟨k1,k2⟩,k3⟩,k4⟩,k5⟩,k6⟩:=ok;exact get_value x.cT I (uJ k1).1 (findObj_cls k2 k3 k4 k5 k6 (by rw[Fs,xK he,(GR rf).2 hn])) k5 (jI K ru)
end
structure ir{c:Cx}(K:ao->Prop)(G:Nat->Prop)(x y:Pt c):Prop where
 sub:Sub x.f y.f
 k:∀b o,K b->x.s.heap.get? b=some o->y.s.heap.get? b=some o
 f:∀b,K b->y.f b=none
 g:∀(j:Nat) (z:jo),G j->x.s.gens[j]?=some z->y.s.gens[j]?=some z
def lD{c:Cx}(K:ao->Prop)(x:Pt c):Prop:=∀b,K b->bV x b/\∃o,x.s.heap.get? b=some o
def rG{c:Cx}(d:Nat)(I:ao)(G:Nat->Prop)(K:ao->Prop)(x:Pt c)(N:Pt c->Am d->Prop):Prop:=lD K x/\∀(y:Pt c) (A:Am d),ir K G x y->
 (∀Q E,Q (.ref I) y.s->ai (ah pw c.w) A.A (gk (.ref I)) Q E y.s)/\(∀v t Q E,Q () y.s->ai (ah pw c.w) A.A (yH t (.ref I) v) Q E y.s)/\N y A
def dM{c:Cx}(d:Nat)(I:ao)(g:Nat):List PV->(ao->Prop)->Pt c->Prop
 |[],K,x=>rG d I (· <=g) K x λy A=> ∀Q E,(∀z,br K g y z->Q none z.s)->ai (ah pw c.w) A.A (gm (.ref I)) Q E y.s
 |p::l,K,x=>rG d I (· <=g) K x λy A=> ∀Q E,(∀v K' z,Rd p z v->dM d I g l K' z->br K g y z->(∀b,K b->K' b)->(∀b,K' b->K b\/y.s.heap.get? b=none)->Q (some v) z.s)->ai (ah pw c.w) A.A (gm (.ref I)) Q E y.s
def nF{c:Cx}(d:Nat)(I:ao):List PV->Pt c->Prop
 |[],x=>rG d I (λ_=>False) (· =I) x λy A=> ∀Q E,(∀z,(∀g,Wr (· =I) g y z)->Q none z.s)->ai (ah pw c.w) A.A (gm (.ref I)) Q E y.s
 |p::l,x=>rG d I (λ_=>False) (· =I) x λy A=> ∀Q E,(∀v z,Rd p z v->nF d I l z->(∀g,Wr (· =I) g y z)->Q (some v) z.s)->ai (ah pw c.w) A.A (gm (.ref I)) Q E y.s
section
variable{z:Pt c}{e:Nat}{I a:ao}{g:Nat}{G:Nat->Prop}{K W:ao->Prop}{m:List PV}{lo hi:Int}
theorem ir.refl(h:lD K x):ir K G x x:=⟨λ_ _ e=>e,λ_ _ _ e=>e,λb k=>(h b k).1.f,λ_ _ _ e=>e⟩
theorem ir.trans(l:ir K G x y)(m:ir K G y z):ir K G x z:=⟨λa o e=>m.sub a o (l.sub a o e),λb o k e=>m.k b o k (l.k b o k e),m.f,λj z q e=>m.g j z q (l.g j z q e)⟩
theorem cH.later(l:cH W x y)(h:lD K x)(d:∀b,K b->¬W b):ir K G x y where
 sub:=l.sub
 k b o k e:=l.e.keep b o e (cN (h b k).1.hi) (d b k)
 f b k:=by
  cases e:y.f b with
  |none=>rfl
  |some o=>exact(l.new b o e).elim (λq=>nS ((h b k).1.f.symm.trans q)) λq=>q.elim (λq=>(h b k).2.elim λo q'=>nS (q.symm.trans q')) λq=>absurd q (d b k)
 g j z _ e:=l.e.gens j z (oj λq=>tO q e) e
theorem lD.later(h:lD K x)(l:ir K G x y):lD K y:=λb k=>⟨⟨l.f b k,(h b k).1.h₀,(h b k).1.hi⟩,(h b k).2.elim λo e=>⟨o,l.k b o k e⟩⟩
theorem rG.later{N:Pt c->Am d->Prop}(i:rG d I G K x N)(l:ir K G x y):rG d I G K y N:=⟨i.1.later l,λz A m=>i.2 z A (l.trans m)⟩
theorem dM.live(i:dM d I g l K x):lD K x:=by cases l<;>exact i.1
theorem dM.later(i:dM d I g l K x)(m:ir K (· <=g) x y):dM d I g l K y:=by cases l<;>exact rG.later i m
theorem ir.none(l:ir K G x y):ir K (λ_=>False) x y:=⟨l.sub,l.k,l.f,λ_ _ q=>q.elim⟩
theorem nF.live(i:nF d I l x):lD (· =I) x:=by cases l<;>exact i.1
theorem nF.later(i:nF d I l x)(m:ir (· =I) (λ_=>False) x y):nF d I l y:=by cases l<;>exact rG.later i m
theorem nF.iter:∀{l:List PV} {x:Pt c},nF d I l x->dM d I g l (· =I) x:=by
 intro l;induction l with
 |nil=>exact λi=>⟨i.1,λy A m=>(ej ((i.2 y A m.none).1) ((i.2 y A m.none).2.1) (λQ E k=>(i.2 y A m.none).2.2 Q E λz w=>k z (w g).st))⟩
 |cons p l ih=>exact λi=>⟨i.1,λy A m=>(ej ((i.2 y A m.none).1) ((i.2 y A m.none).2.1) (λQ E k=>(i.2 y A m.none).2.2 Q E λv z r i w=>k v _ z r (ih i) (w g).st (λ_ q=>q) λ_=>.inl))⟩
theorem dM.go(i:dM d I g l K x)(A:Am d){t:Expr}{Q:Unit->ag->Prop}{E:ac->ag->Prop}(q:Q () x.s):ai (ah pw c.w) A.A (yH t (.ref I) v) Q E x.s:=by
 cases l<;>exact(i.2 x A (.refl i.1)).2.1 v t Q E q
theorem dM.self(i:dM d I g l K x)(A:Am d){Q:ac->ag->Prop}{E:ac->ag->Prop}(q:Q (.ref I) x.s):ai (ah pw c.w) A.A (gk (.ref I)) Q E x.s:=by
 cases l<;>exact(i.2 x A (.refl i.1)).1 Q E q
theorem dM.next(i:dM d I g (p::l) K x)(A:Am d){Q:Option ac->ag->Prop}{E:ac->ag->Prop}(k:∀v K' z,Rd p z v->dM d I g l K' z->br K g x z->(∀b,K b->K' b)->(∀b,K' b->K b\/x.s.heap.get? b=none)->Q (some v) z.s):ai (ah pw c.w) A.A (gm (.ref I)) Q E x.s:=(i.2 x A (.refl i.1)).2.2 Q E k
theorem dM.done(i:dM d I g [] K x)(A:Am d){Q:Option ac->ag->Prop}{E:ac->ag->Prop}(k:∀z,br K g x z->Q none z.s):ai (ah pw c.w) A.A (gm (.ref I)) Q E x.s:=(i.2 x A (.refl i.1)).2.2 Q E k
theorem dM.mono(h:d<=e):∀{l:List PV} {K:ao->Prop} {x:Pt c},dM d I g l K x->dM e I g l K x:=by
 intro l;induction l with
 |nil=>exact λi=>⟨i.1,λy A m=>i.2 y (A.mono h) m⟩
 |cons p l ih=>exact λi=>⟨i.1,λy A m=>(ej ((i.2 y (A.mono h) m).1) ((i.2 y (A.mono h) m).2.1) (λQ E k=>(i.2 y (A.mono h) m).2.2 Q E λv K' z r i=>k v K' z r (ih i)))⟩
def qA(A:Am d)(t:Sem ac)(x:Pt c)(l:List PV):Prop:=∀(Q:ac->ag->Prop) (E:ac->ag->Prop),(∀y I K g,Le x y->dM d I g l K y->(∀b,K b->x.s.heap.get? b=none)->x.s.gens.size<=g->g<=y.s.gens.size->Q (.ref I) y.s)->ai (ah pw c.w) A.A t Q E x.s
def t6(A:Am d)(t:Sem ac)(x:Pt c)(l:List PV):Prop:=∀(Q:ac->ag->Prop) (E:ac->ag->Prop),(∀y,Le x y->y.f=x.f->nF d x.s.heap.objs.size l y->Q (.ref x.s.heap.objs.size) y.s)->ai (ah pw c.w) A.A t Q E x.s
theorem t6.i{t:Sem ac}(h:t6 A t x l):qA A t x l:=λQ E k=>h Q E λy le _ i=>k y _ _ x.s.gens.size le i.iter (λb q=>q▸eQ _) (bf _) le.e.de
noncomputable def EC(T:String):Bool:=["enumerate","zip","dict_itemiterator","dict_reverseitemiterator","odict_iterator","itertools.zip_longest","itertools.pairwise"].contains T
theorem Eu{M:f4}{A:bh}{s:ag}{o:Obj}{n:String}{t:Expr}{Q:Unit->ag->Prop}{E:ac->ag->Prop}(ho:s.heap.get? I=some o)(hc:o.cls=.type n)(hn:EC n=false)(h:Q () s):ai M A (yH t (.ref I) v) Q E s:=by
 have body:ai M A (do
   let(.ref r,.ref a):=(pL I,v)|return
   let o<-load r
   match o.cls,o.data with
   |.type n,.fields vs=>
    if EC n&&vs[0]?==some (c6 a) then
     rule "for.unpacks-the-owned-tuple"
     updateField r 0 .none
   |_,_=>pure ()) Q E s:=by
  induction v using AZ with
  |ref a=>
   refine ae (Ft ho (aa (hc) ?_));cases o.data with
   |fields vs=>
    dsimp only;erw[hn];rw[Bool.false_and];exact au h
   |_=>exact au h
  |_=>exact au h
 induction t using eB with
 |Tuple=>exact body
 |List=>exact body
 |_=>exact au h
theorem Yc(A:Am d){fp:List ao}{n:Nat}{P:Nat->ac->Prop}{St:Nat->am->Prop}{T:String}{f:Fz}{xs:List PV}(W:∀A:Am d,Walks pw c.w A.A I fp [I] n P St)(hn:n=xs.length)(hP:∀i v p,P i v->xs[i]?=some p->aV c f v p)(Li:∀b∈fp,b=I\/∃o,f b=some o)
(hT:∀i h,St i h->∃o,h.get? I=some o/\o.cls=.type T)(hc:("code"==T)=false)(ht:EC T=false):∀(l:List PV) (i:Nat) (x:Pt c),xs.drop i=l->i+l.length=xs.length->Sub f x.f->bV x I->St i x.s.heap->nF d I l x:=by
 intro l;have mv:∀{i:Nat} {y:Pt c} {h':am} {tk:Nat},bV y I->St i y.s.heap->(∀b o,b∉[I]->y.s.heap.get? b=some o->h'.get? b=some o)->∃z:Pt c,z.s={y.s with heap:=h',toks:=tk}/\∀g,Wr (λb=>b=I) g y z:=λ{i y h' tk} n st k=>
  have e:∀g,ci (λb=>b=I) g y.s {y.s with heap:=h',toks:=tk}:=λg=>⟨λb o e _ n=>k b o (λq=>n (cY q)) e,λ_ _ _ h=>h,bf _,λh=>h,rfl⟩
  (az (y.wr _ (e 0) (y.tab.but λb o e' q=>k b o (λm=>by
   cases cY m;refine q.elim (λq=>cV _ (ba q n.hi)) λq=>aB (hT i _ st) λo' e1 e2=>?_;rw[<-ay (e'.symm.trans e1),q.1] at e2;injection e2 with e2;rw[e2,beq_self_eq_true] at hc;injection hc) e') λb q=>q▸⟨n.h₀,n.f⟩) rfl (λg=>⟨rfl,e g⟩))
 have base:∀{i:Nat} {x:Pt c},Sub f x.f->bV x I->St i x.s.heap->lD (λb=>b=I) x/\∀{y:Pt c},ir (λb=>b=I) (λ_=>False) x y->Sub f y.f/\bV y I/\St i y.s.heap:=λ{i x} s n st=>
  have live:lD (λb=>b=I) x:=λb q=>q▸⟨n,(hT i _ st).elim λo e=>⟨o,e.1⟩⟩
  ⟨live,λ{y} m=>(ej (λa o e=>m.sub a o (s a o e)) ((live.later m I rfl).1) ((W A).frame i _ _ st λb hb o e=>(Li b hb).elim (λq=>m.k b o q e) λq=>q.elim λo' q=>y.hs b o (m.sub b o (ay ((x.hs b o' (s b o' q)).symm.trans e)▸s b o' q))))⟩
 induction l with
 |nil=>
  intro i x hd hl s fr st;have B:=base s fr st;refine⟨B.1,λy A m=>?_⟩;have z:=(B.2 m).2;refine(ej (λQ E q=>(W A).self i y.s Q E z.2 q) (λv t Q E q=>(by refine aB (hT i _ z.2) λo e1 e2=>?_;exact Eu e1 e2 ht q)) (λQ E k=>(W A).done y.s Q E ((hl.trans hn.symm:i=n)▸z.2) λh' tk k'=>?_));exact aB (mv (tk:=tk) z.1 z.2 k') λw e W=>e▸k w W
 |cons p l ih=>
  intro i x hd hl s fr st;have B:=base s fr st;refine⟨B.1,λy A m=>?_⟩;have z:=(B.2 m).2;refine(ej (λQ E q=>(W A).self i y.s Q E z.2 q) (λv t Q E q=>(by refine aB (hT i _ z.2) λo e1 e2=>?_;exact Eu e1 e2 ht q)) (λQ E k=>?_));have hi:i<xs.length:=ba (qU (eE _)) (aD hl);have hx:=B4 hi;rw[hd] at hx;injection hx with e1 e2
  refine(W A).item i y.s Q E (hn▸hi) z.2 λv h' tk hv st' k'=>aB (mv (tk:=tk) z.1 z.2 k') λw e W=>?_;have sw:Sub f w.f:=λa o e=>(W 0).sub a o ((B.2 m).1 a o e);exact e▸k v w (aV.mono sw (hP i v p hv (e1▸jL hi))) (ih (i+1) w e2.symm (by refine hZ (hl) ?_;erw[wB];lia) sw ((W 0).free z.1) (by erw[e];exact st')) W
theorem EP{o:Obj}{n:Nat}{P:Nat->ac->Prop}{St:Nat->am->Prop}{fp:List ao}{xs:List PV}{T:String}{t:Sem ac}(W:∀A:Am d,Walks pw c.w A.A x.s.heap.objs.size fp [x.s.heap.objs.size] n P St)(hn:n=xs.length)
(hP:∀i v p,P i v->xs[i]?=some p->Rd p x v)(Li:∀b∈fp,b=x.s.heap.objs.size\/∃o,x.f b=some o)(hT:∀i h,St i h->∃o,h.get? x.s.heap.objs.size=some o/\o.cls=.type T)(hc:("code"==T)=false)(ht:EC T=false)
(s0:St 0 (x.s.heap.push o))(run:∀(Q:ac->ag->Prop) E,Q (.ref x.s.heap.objs.size) {x.s with heap:=x.s.heap.push o}->ai (ah pw c.w) A.A t Q E x.s):t6 A t x xs:=λQ E k=>
 run Q E (k (x.push o x.s.toks) (x.cG _) rfl (Yc A W hn hP Li hT hc ht xs 0 (x.push o x.s.toks) rfl (f5 _) (λ_ _ e=>e) ⟨x.E5 (eQ _),x.EO (eQ _),x.hi (bf _)⟩ s0))
theorem HT(r:Rd (.list l) x v):t6 A (gk v) x l:=dY r λ{a n vs} h rl z=>by
 have jP:a≠x.s.heap.objs.size:=λe=>cV _ (e▸fB (x.hs _ _ h));refine EP (o:={cls:=.type "list_iterator",data:=.fields #[.ref a,c6 0]}) (T:="list_iterator") (λA=>Walks.list A.ok.handled x.s.heap.objs.size a jP vs.toArray) (by rw[i4];exact rl.length) (λi v p e1 e2=>?_) (λb hb=>?_) (λi h st=>?_) (by decide) (by decide) ⟨(cz _ (ft _ rfl) rfl rfl),(kG h).push _⟩ (λQ E q=>wpAny_pyIter_list (kG h) q)
 ·obtain⟨v',e3,r⟩:=rl.get e2;exact ay (e3.symm.trans (q0.symm.trans e1))▸r
 ·exact(bw hb).imp id λq=>⟨_,(af x.f (cY q)).trans h⟩
 ·exact cP st.1 λo e1 e2 _=>(az o e1 e2)
theorem QZ(r:Rd (.tup l) x v):t6 A (gk v) x l:=iX r λ{a n vs} h rl z=>by
 have jP:a≠x.s.heap.objs.size:=λe=>cV _ (e▸fB (x.hs _ _ h));refine EP (o:={cls:=.type "tuple_iterator",data:=.fields #[.ref a,c6 0]}) (T:="tuple_iterator") (λA=>Walks.tuple A.ok.handled x.s.heap.objs.size a jP vs.toArray) (by rw[i4];exact rl.length) (λi v p e1 e2=>?_) (λb hb=>?_) (λi h st=>?_) (by decide) (by decide) ⟨(cz _ (ft _ rfl) rfl rfl),⟨_,c5 _ (x.hs _ _ h),rfl,n,rfl⟩⟩ (λQ E q=>wpAny_pyIter_tuple (A7 h) q)
 ·obtain⟨v',e3,r⟩:=rl.get e2;exact ay (e3.symm.trans (q0.symm.trans e1))▸r
 ·exact(bw hb).imp id λq=>⟨_,(af x.f (cY q)).trans h⟩
 ·exact cP st.1 λo e1 e2 _=>(az o e1 e2)
theorem Os(r:Rd (.d8 lo hi) x v):t6 A (gk v) x ((ax (hi-lo).toNat).map λk:Nat=>.int (lo+k)):=p9 r λ{a t u z} h h1 h2 hn=>by
 refine EP (o:={cls:=.type "range_iterator",data:=.fields #[c6 lo,c6 (af3 lo hi 1),c6 1]}) (T:="range_iterator") (λA=>Walks.range A.ok.handled x.s.heap.objs.size lo 1 (hi-lo).toNat) (by rw[bi,cF]) (λi v p e1 e2=>?_) (λb hb=>.inl (cY hb)) (λi h st=>(az _ st rfl)) (by decide) (by decide) ?_ (λQ E q=>wpAny_pyIter_range (x.hs _ _ h) (RH h1 h2) q)
 ·obtain⟨t,rfl⟩:=e1;rw[ot] at e2;refine fH e2 λk e3=>?_;have:k=i:=by
   obtain⟨_,e⟩:=zd.mp e3;exact e.symm.trans (Sx _)
  subst this;rw[Kg];exact .int
 ·show am.get? _ _=_;rw[Gz,ft _ rfl,Int.ofNat_zero,yI,uL,Kj]
theorem DB(r:Rd (.list l) x v):qA A (gk v) x l:=(HT r).i
theorem MB(r:Rd (.tup l) x v):qA A (gk v) x l:=(QZ r).i
theorem JY(r:Rd (.d8 lo hi) x v):qA A (gk v) x ((ax (hi-lo).toNat).map λk:Nat=>.int (lo+k)):=(Os r).i
end
section
variable{S:Type}{put:Str->PV->S->Option S}{St:S->Pt c->Prop}{env:Env}{F:Fm}{σ σ':S}{t e:Expr}{es:List Expr}{E:ac->ag->Prop}{Q:Unit->ag->Prop}
@[elab_as_elim] theorem zR{m:Expr->Prop}{z:Str}(h:iq e=some z)(K:∀p,m (.Name z p)):m e:=by
 induction e using eB with
 |Name z' p=>exact ay h▸K p
 |_=>exact nS h
def HC(St:S->Pt c->Prop)(put:Str->PV->S->Option S)(env:Env):Prop:=∀{M:f4} {A:bh} {z:Str} {p:PV} {σ σ':S} {x:Pt c} {u:ac} {Q:Unit->ag->Prop} {E:ac->ag->Prop},put z p σ=some σ'->St σ x->Rd p x u->(∀y,St σ' y->Sub x.f y.f->Q () y.s)->ai M A (B0 env z u) Q E x.s
theorem aeB{M:f4}{A:bh}(P:HC St put env):∀{es:List Expr} {l:List PV} {σ:S} {x:Pt c} {vs:List ac},Ay put es l σ=some σ'->St σ x->bt l x vs->(∀y,St σ' y->Q () y.s)->ai M A (assignInOrder ((yJ es env).map (·.2)) vs) Q E x.s:=by
 intro es;induction es with
 |nil=>
  intro l σ x vs h s r k;induction l using bO with
  |nil=>exact iR r (assignInOrder_nil (k x (ay h▸s)))
  |cons=>exact nS h
 |cons e es ih=>
  intro l σ x vs h s r k;induction l using bO with
  |nil=>exact nS h
  |cons p l=>exact eC r λa r=>aj h λz e h=>aj h λσ₁ h1 h2=>zR (m:=λe=>ai M A (assignInOrder ((yJ (e::es) env).map (·.2)) _) Q E x.s) e λpos=>Sy (Sz (P h1 s a λy s' b=>ih h2 s' (r.mono b) k))
theorem abm:∀{es:List Expr} {l:List PV} {σ:S},Ay put es l σ=some σ'->(yJ es env).length=l.length/\(yJ es env).findIdx? (·.1)=none:=by
 intro es;induction es with
 |nil=>
  intro l σ h;induction l using bO with
  |nil=>exact⟨rfl,rfl⟩
  |cons=>exact nS h
 |cons e es ih=>
  intro l σ h;induction l using bO with
  |nil=>exact nS h
  |cons p l=>
   refine aj h λz e h=>aj h λσ₁ h1 h2=>zR (m:=λe=>(yJ (e::es) env).length=_/\(yJ (e::es) env).findIdx? (·.1)=none) e λpos=>?_;have i:=ih h2;refine⟨af jp i.1,?_⟩;show List.findIdx? (·.1) ((false,uM (.Name z pos) env)::yJ es env)=none;erw[List.findIdx?_cons];erw[i.2];rfl
theorem Ps(P:HC St put env)(gr:∀{σ:S} {x:Pt c} {h':am} {k:∀b o,x.s.heap.get? b=some o->h'.get? b=some o},St σ x->St σ (x.grow h' x.s.toks k))(h:fT put t p σ=some σ')(s:St σ x)(r:Rd p x v)(k:∀y,St σ' y->Q () y.s):ai (ah pw c.w) A.A (uM t env v) Q E x.s:=by
 induction t using eB with
 |Name z pos=>exact Sz (P h s r λy s' _=>k y s')
 |Tuple es n pos=>
  revert r;refine aj h λl e h=>I1 e λr=>iX r λ{a n vs} e rl z=>?_;have f:=abm (env:=env) h;refine wpAny_assign_Tuple A.ok.handled (items:=vs.toArray) (A7 e) (by erw[f.1];erw[i4];erw[rl.length];rfl) f.2 λh' k'=>?_;exact aeB (x:=x.grow h' x.s.toks λb o e=>k' b o (gE (fB e)) e) P h (gr s) rl k
 |_=>exact nS h
structure D8(F:Fm)(x:Pt c)(σ:bj)(y:Pt c):Prop where
 v:bB F y σ
 o:jG F y
 w:∀g,Wr (t7 F) g x y
theorem Af{z:Str}{α:Type}{w:α}{σ σ':List (Str×α)}(h:gY F.nm z w σ=some σ'):(ak F.nm z=some .local\/ak F.nm z=some .cell)/\b9 σ z w=σ':=aL h λq h=>⟨q,ay h⟩
theorem ad1:HC (λσ y=>D8 F x σ y) (gY F.nm) F.env:=λh s r k=>by
 refine dS (Af h) λq bY=>?_;subst bY;exact Pk s.v.cR s.o q λy S=>k y ⟨S.vars s.v r,S.r,λg=>(s.w g).trans (S.wr g)⟩ (S.wr 0).sub
theorem QN{σ σ':bj}(h:fT (gY F.nm) t p σ=some σ')(X:bB F x σ)(Y:jG F x)(r:Rd p x v)(k:∀y,D8 F x σ' y->Q () y.s):ai (ah pw c.w) A.A (uM t F.env v) Q E x.s:=
 Ps (St:=λσ y=>D8 F x σ y) ad1 (λ{σ y h' k} s=>⟨s.v.le (y.cG k),s.o.le s.v (y.cG k),λg=>(s.w g).trans ⟨rfl,(y.cG k).e.n8⟩⟩) h ⟨X,Y,λg=>.refl⟩ r k
theorem abp{σ':bj}{z:Str}{q:PV}:∀{es:List Expr} {l:List PV} {σ:bj},Ay (gY F.nm) es l σ=some σ'->z∉es.filterMap iq->ak σ z=some q->ak σ' z=some q:=by
 intro es;induction es with
 |nil=>
  intro l σ h _ e;induction l using bO with
  |nil=>exact ay h▸e
  |cons=>exact nS h
 |cons e es ih=>
  intro l σ h n e';induction l using bO with
  |nil=>exact nS h
  |cons p l=>
   refine aj h λz' e h=>aj h λσ₁ h1 h2=>?_;rw[B5,e] at n;refine dS (Af h1) λ_ bY=>?_;subst bY;exact ih h2 (λm=>n (.tail _ m)) ((vA.trans (iN λq=>n (jN.mpr (.inl q)))).trans e')
theorem MC{σ σ':bj}{z:Str}{q:PV}(h:fT (gY F.nm) t p σ=some σ')(f:mq t σ=true)(e:ak σ z=some q):ak σ' z=some q:=by
 have n:z∉wl t:=λm=>by have:=b7 f z m;rw[e] at this;injection this
 induction t using eB with
 |Name z' pos=>refine dS (Af h) λ_ bY=>?_;subst bY;exact(vA.trans (iN λq=>n (F8.mpr q))).trans e
 |Tuple es k pos=>exact aj h λl _ h=>abp h n e
 |_=>exact nS h
end
end
section
variable{c:Cx}{x y:Pt c}{d:Nat}{A:Am d}{F:Fm}{σ:bj}{sc:fk}{α:Type}{D I:ao}{ys here:List PV}{W:ao->Prop}{elt:Expr}{gens:List jK}{pos:Pos}
section
variable{env:Env}{nm:aN}{z q:Str}{a:ao}{h:am}{acc cs:List (Str×ao)}
theorem wv{l:List (Str×α)}{v:α}:B6 z ((q,v)::l)=if z=q then some v else l.lookup z:=by
 erw[Fu];by_cases e:z=q
 ·refine aa (iP e) (aa (jV e) ?_);rfl
 ·refine aa (iN e) (aa (li e) ?_);rfl
theorem gM{l:List (Str×α)}{v:α}(h:ak l z=some v):(z,v)∈l:=by
 induction l with
 |nil=>exact nS h
 |cons p r ih=>
  obtain⟨y,u⟩:=p;by_cases e:y=z
  ·exact e▸ay ((iP e).symm.trans h)▸ .head _
  ·exact .tail _ (ih ((iN e).symm.trans h))
noncomputable def iO(env:Env):aN->List (Str×ao)->List (Str×ao)
 |[],acc=>acc
 |(n,k)::r,acc=>if k==.free then iO env r ((n,(env.cells.lookup n).getD 0)::acc) else iO env r acc
theorem NO(h:∀p∈sc.names,p.2=.free->(env.cells.lookup p.1).isSome=true):closureFor sc env=pure (iO env sc.names []):=by
 have go:∀(names:aN) (acc:List (Str×ao)),(∀p∈names,p.2=.free->(env.cells.lookup p.1).isSome=true)->
   (forIn names acc λ(x:Str×gU) (cs:List (Str×ao))=>(if x.2==.free then do let a<-cellOf env x.1;pure (uN ((x.1,a)::cs)) else pure (uN cs):Sem (ForInStep (List (Str×ao)))))=pure (iO env names acc):=by
  intro names;induction names with
  |nil=>intro acc _;rfl
  |cons p r ih=>
   intro acc hp;obtain⟨n,k⟩:=p;rw[wF];unfold iO;by_cases q:(k==.free)=true
   ·refine dN (tA.mp (hp (n,k) (.head _) (a5 q))) λc hc=>?_;rw[iP q,iP q,hc,show cellOf env n=pure c by unfold cellOf;erw[hc];rfl];exact ih _ λp h=>hp p (.tail _ h)
   ·exact aa (iN q) (aa (iN q) (ih _ λp h=>hp p (.tail _ h)))
 have:=go sc.names [] h;unfold closureFor
 first
  |exact this
  |(rw[this];rfl)
  |(simp only[] at this⊢;erw[this];rfl)
theorem RJ:∀{names:aN} {acc:List (Str×ao)},(∀n,(n,B7)∈names->(env.cells.lookup n).isSome=true)->(iO env names acc).lookup z=some a->env.cells.lookup z=some a\/acc.lookup z=some a:=by
 intro names;induction names with
 |nil=>exact λ_ h=>.inr h
 |cons p r ih=>
  intro acc hp h;obtain⟨n,k⟩:=p;have u4:=λn m=>hp n (.tail _ m);by_cases q:(k==.free)=true
  ·refine(ih u4 ((af (B6 z) (iP q)).symm.trans h)).elim .inl λe=>?_;rw[wv] at e;by_cases y:z=n
   ·refine dN (tA.mp (hp n (a5 q▸ .head _))) λb hb=>?_;rw[iP y,hb] at e;exact .inl (y▸hb.trans e)
   ·exact .inr ((iN y).symm.trans e)
  ·exact ih u4 ((af (B6 z) (iN q)).symm.trans h)
theorem Es:∀{names:aN} {acc:List (Str×ao)},(acc.lookup z).isSome=true\/(z,B7)∈names->((iO env names acc).lookup z).isSome=true:=by
 intro names;induction names with
 |nil=>exact λh=>h.elim id λh=>nomatch h
 |cons p r ih=>
  intro acc h;obtain⟨n,k⟩:=p;by_cases q:(k==.free)=true
  ·refine mE (af (λl=>(B6 z l).isSome=true) (iP q)) (ih (aa (wv) ?_));by_cases y:z=n
   ·erw[iP y];exact .inl rfl
   ·exact aa (iN y) (h.imp id λm=>(bw m).elim (λe=>absurd (af wG e) y) id)
  ·refine mE (af (λl=>(B6 z l).isSome=true) (iN q)) (ih (h.imp id λm=>(bw m).elim (λe=>absurd (jV (af ou e).symm) q) id))
structure aai(h:am)(acc:List (Str×ao))(names:aN)(cs:List (Str×ao))(h':am):Prop where
 keep:∀b o,h.get? b=some o->h'.get? b=some o
 cell:∀x c,cs.lookup x=some c->∃v,h'.IsCell c v
 inj:∀x y c,cs.lookup x=some c->cs.lookup y=some c->x=y
 new:∀x c,cs.lookup x=some c->acc.lookup x=some c\/h.objs.size<=c
 own:∀x,(x,tm)∈names->∃c,cs.lookup x=some c/\h.objs.size<=c
 old:∀x,(x,tm)∉names->cs.lookup x=acc.lookup x
noncomputable def Du:Obj:={cls:=.type "cell",data:=.cell none}
theorem laid(names:aN):∀(h:am) (acc:List (Str×ao)),(∀x c,acc.lookup x=some c->∃v,h.IsCell c v)->(∀x y c,acc.lookup x=some c->acc.lookup y=some c->x=y)->
  aai h acc names (B8 h.objs.size names acc) (pushCells h names):=by
 induction names with
 |nil=>exact λh acc a b=>⟨λ_ _ e=>e,a,b,λ_ _ e=>.inl e,λ_ e=>(nomatch e),λ_ _=>rfl⟩
 |cons p r ih=>
  intro h acc a b;obtain⟨n,k⟩:=p;unfold B8 pushCells;by_cases q:(k==.cell)=true
  ·refine aa (iP q) (aa (iP q) ?_);have lt:∀x c,acc.lookup x=some c->c<h.objs.size:=λx c e=>by refine dN (a x c e) λv i=>?_;exact i.lt
   have two:∀{z c} {P:Prop},((n,h.objs.size)::acc).lookup z=some c->(z=n->c=h.objs.size->P)->(acc.lookup z=some c->P)->P:=λ{z c P} e k1 k2=>by
    rw[wv] at e;by_cases y:z=n
    ·exact k1 y (ay ((iP y).symm.trans e)).symm
    ·exact k2 ((iN y).symm.trans e)
   have L:=ih (h.push Du) ((n,h.objs.size)::acc) (λx c e=>two e (λ_ e=>e▸(du none _ (ft _ rfl) rfl)) λe=>by obtain⟨v,i⟩:=a x c e;exact⟨v,i.keeps λb o e=>c5 _ e⟩)
    λx y c e1 e2=>two e1 (λz1 e=>two e2 (λz2 _=>z1.trans z2.symm) λe2=>absurd (e▸lt _ _ e2) (cV _)) λe1=>two e2 (λ_ e=>absurd (e▸lt _ _ e1) (cV _)) (b x y c e1)
   rw[show(h.push Du).objs.size=h.objs.size+1 from oy ..] at L;refine⟨λb o e=>L.keep b o (c5 _ e),L.cell,L.inj,λx c e=>(L.new x c e).elim (λe=>two e (λ_ e=>.inr (aD e.symm)) .inl) λl=>.inr (aq (iH _) (aq (aD (oy h Du).symm) l)),λx e=>?_,λx e=>?_⟩
   ·by_cases m:(x,tm)∈r
    ·exact aB (L.own x m) λc e1 e2=>(az c e1 (aq (iH _) (aq (aD (oy h Du).symm) e2)))
    ·exact aa (L.old x m) (aa (wv) ((bw e).elim (λe=>(az _ (iP (af wG e)) (bf _))) λe=>absurd e m))
   ·refine aa (L.old x λz=>e (.tail _ z)) (aa (wv) ?_);rw[iN];rintro rfl;exact e (a5 q▸ .head _)
  ·refine aa (iN q) (aa (iN q) ?_);have L:=ih h acc a b;exact⟨L.keep,L.cell,L.inj,L.new,λx e=>(bw e).elim (λe=>absurd (jV (af ou e).symm) q) (L.own x),λx e=>L.old x λz=>e (.tail _ z)⟩
structure uz(nm:aN)(sc:fk):Prop where
 kind:sc.kind=.function
 ng:pA sc.names=false
 one:∀x k,(x,k)∈sc.names->ak sc.names x=some k
 free:∀x,(x,B7)∈sc.names->(ak nm x=some .cell\/ak nm x=some .free)/\x≠("__classdict__":Str)
theorem It(h:AT nm sc=true):uz nm sc:=by
 have h1:=aW h;have h3:=aW h1.1;have h2:=b7 h1.2;refine⟨a5 h3.1,tj _▸h3.2,λx k m=>a5 (aW (h2 _ m)).1,λx m=>?_⟩;have k:=aW (aW (h2 _ m)).2;exact⟨(lQ k.1).imp a5 a5,bne_iff_ne.mp k.2⟩
noncomputable def ut(env:Env)(x:Str):Option gU->Option gU
 |some .free=>if env.kindOf x=some .cell then some .cell else some .free
 |k=>k
theorem I4:ut env z (some .free)=some .cell\/ut env z (some .free)=some .free:=by
 by_cases e:env.kindOf z=some .cell
 ·exact .inl (iP e)
 ·exact .inr (iN e)
theorem Xg(hk:env.scope.kind=.function):∀{names:aN},
  (names.map λ(n,k)=>if(k==B7&&env.scope.kind==.function&&env.kindOf n==some .cell) then(n,tm) else(n,k)).lookup z=ut env z (ak names z):=by
 intro names;induction names with
 |nil=>rfl
 |cons p r ih=>
  obtain⟨n,k⟩:=p;have one:(if(k==B7&&env.scope.kind==.function&&env.kindOf n==some .cell)=true then(n,tm) else(n,k))=(n,(ut env n (some k)).getD k):=by
   erw[hk];by_cases q:k=.free
   ·subst q;by_cases z:env.kindOf n=some .cell
    ·erw[z];unfold ut;erw[iP z];rfl
    ·unfold ut;erw[iN z];rw[iN];rfl;exact λh=>z (a5 (aW h).2)
   ·erw[li q];cases k<;>first|rfl|exact absurd rfl q
  erw[oz];show B6 z ((if _ then _ else _)::_)=_;refine aa (one) (aa (wv) (aa (ih) ?_));show _=ut env z (if n=z then some k else ak r z);by_cases e:n=z
  ·refine aa (iP e) (aa (iP e.symm) (aa (e) ?_));cases k<;>first|rfl|exact I4.elim (λe=>by erw[e];rfl) λe=>by erw[e];rfl
  ·refine aa (iN e) (aa (iN (gV e)) ?_);rfl
theorem Oa{p:PV}(h:ak (lX sc σ) z=some p):ak σ z=some p/\ak sc.names z=some .free:=by
 induction σ with
 |nil=>exact nS h
 |cons q r ih=>
  obtain⟨y,u⟩:=q;unfold lX at h ih;rw[List.filter_cons] at h;show(if y=z then some u else ak r z)=some p/\_;by_cases k:(ak sc.names y==some .free)=true
  ·replace h:=(af (λl=>ak l z) (iP k)).symm.trans h;by_cases e:y=z
   ·exact⟨(iP e).trans ((iP e).symm.trans h),e▸a5 k⟩
   ·have i:=ih ((iN e).symm.trans h);exact⟨(iN e).trans i.1,i.2⟩
  ·have i:=ih ((af (λl=>ak l z) (iN k)).symm.trans h);exact⟨(iN λe=>k (jV ((af (ak sc.names) e).trans i.2))).trans i.1,i.2⟩
def xC(env:Env)(sc:fk)(L:ao):Env:=
 {scope:=relabel sc env,locals:=L,globals:=env.globals,cells:=B8 (L+1) sc.names (iO env sc.names []),qual:=env.qual,func:=none,code:=env.code,frame:=env.frame,builtins:=env.builtins}
noncomputable def BF:Obj:={cls:=.type "dict",data:=.dict #[]}
def Eg(x:Pt c)(sc:fk):am:=pushCells (x.s.heap.push BF) sc.names
structure OQ(F:Fm)(x:Pt c)(σ:bj)(sc:fk)(G:Fm)(y:Pt c):Prop where
 env:G.env=xC F.env sc x.s.heap.objs.size
 nm:G.nm=sc.names
 s:y.s={x.s with heap:=Eg x sc}
 le:Le x y
 v:bB G y (lX sc σ)
 o:jG G y
 new:∀b,t7 G b->x.s.heap.get? b=none
 old:∀b,dq G.env b->(∃x,F.env.cells.lookup x=some b)\/x.s.heap.objs.size<=b
theorem C8{h:am}(l:h.objs.size<=a):h.get? a=none:=by
 cases q:h.get? a with
 |none=>rfl
 |some o=>exact absurd (fB q) (gN l)
theorem CU(X:uz F.nm sc)(n:Str)(m:(n,B7)∈sc.names):(F.env.cells.lookup n).isSome=true:=(F.cells n (X.free n m).1 (X.free n m).2).2
theorem VC(X:bB F x σ)(S:uz F.nm sc):∃G y,OQ F x σ sc G y:=by
 have wW:∀{z a},(iO F.env sc.names []).lookup z=some a->F.env.cells.lookup z=some a:=λe=>(RJ (CU S) e).elim id λe=>nS e;have L:=laid sc.names (x.s.heap.push BF) (iO F.env sc.names []) (λz a e=>by
  obtain⟨v,i⟩:=X.cR z a (wW e);exact⟨v,i.keeps λb o e=>c5 _ e⟩) λz q a e1 e2=>F.apart z q a (wW e1) (wW e2)
 rw[show(x.s.heap.push BF).objs.size=x.s.heap.objs.size+1 from oy ..] at L;have ge:∀{a:Nat},(x.s.heap.push BF).objs.size<=a->x.s.heap.objs.size<a:=λl=>ba (i5 _) (aq (aD (oy x.s.heap BF).symm) l);have kind:∀z,(xC F.env sc x.s.heap.objs.size).kindOf z=ut F.env z (ak sc.names z):=λz=>Xg F.kind;have look:∀{z a},(xC F.env sc x.s.heap.objs.size).cells.lookup z=some a->F.env.cells.lookup z=some a\/x.s.heap.objs.size<a:=λ{z a} e=>(L.new z a e).imp wW ge;have Gi:∀{z},ak sc.names z=some .free->(z,tm)∉sc.names:=λe m=>nomatch (S.one _ _ m).symm.trans e;have lt:∀{z a},F.env.cells.lookup z=some a->a<x.s.heap.objs.size:=λ{z a} e=>by refine dN (X.cR z a e) λv i=>?_;exact i.lt
 have keep:∀b o,x.s.heap.get? b=some o->(Eg x sc).get? b=some o:=λb o e=>L.keep b o (c5 _ e);have free:∀{a:Nat},x.s.heap.objs.size<=a->bV (x.grow (Eg x sc) x.s.toks keep) a:=λl=>by
  have f:=x.free l (C8 l);exact⟨f.f,f.h₀,f.hi⟩
 let G:Fm:={
  env:=xC F.env sc x.s.heap.objs.size,nm:=sc.names,kind:=S.kind,glob:=F.glob,blt:=F.blt,code:=λg=>nomatch S.ng.symm.trans g
  names:=λz e=>(kind z).trans (by erw[e];rfl)
  cells:=λz e n=>by
   rw[kind];rcases e with e|e
   ·refine aB (L.own z (gM e)) λa e' _=>aa (e) ?_;exact⟨.inl rfl,tA.mpr ⟨a,e'⟩⟩
   ·exact aa (e) (⟨I4,(af Option.isSome (L.old z (Gi e))).trans (Es (.inr (gM e)))⟩)
  jg:=⟨x.j5 (bf _),λz a e=>(look e).elim (F.jg.2 z a) λl=>x.j5 (cy l)⟩
  cl:=λz a e q=>(look e).elim (λe=>cV _ (i6 (lt e) q.symm)) λl=>cV _ (i6 l q)
  apart:=L.inj}
 refine⟨G,x.grow (Eg x sc) x.s.toks keep,rfl,rfl,rfl,x.cG _,⟨L.cell,λz p e=>?_⟩,⟨⟨_,(am.Ns.new x.s.heap (.type "dict")).keeps L.keep⟩,free (bf _),λz e=>(kind z).trans (by erw[(e:ak sc.names z=some .local)];rfl),λz e=>?_⟩,λb q=>?_,λb q=>?_⟩
 ·refine dS (Oa e) λe1 e2=>aB (X.var z p e1) λv V r=>dS (S.free z (gM e2)) λa b=>?_;have k:=F.cells z a b;rcases V with V|⟨_,a',e3,i⟩
  ·rw[V.1] at k;nomatch k.1
  ·refine(az v (.inr ⟨?_,a',?_,i.keeps keep⟩) r)
   ·show(xC F.env sc x.s.heap.objs.size).kindOf z=some .cell\/(xC F.env sc x.s.heap.objs.size).kindOf z=some .free/\_;rw[kind,e2];exact I4.imp id λe=>⟨e,li b⟩
   ·exact dN (tA.mp (Es (env:=F.env) (acc:=[]) (.inr (gM e2)))) λa'' e4=>(L.old z (Gi e2)).trans (e4.trans ((wW e4).symm.trans e3))
 ·exact aB (L.own z (gM e)) λa e1 l=>⟨(kind z).trans (by erw[(e:ak sc.names z=some .cell)];rfl),a,e1,free (cy (ge l))⟩
 ·rcases q with rfl|⟨z,e1,e2⟩
  ·exact eQ _
  ·exact aB (L.own z (gM e1)) λa e3 l=>C8 (ay (e3.symm.trans e2)▸cy (ge l))
 ·rcases q with rfl|⟨z,e⟩
  ·exact .inr (bf _)
  ·exact(look e).imp (λe=>⟨z,e⟩) cy
theorem ad0{M:f4}{A:bh}{E:ac->ag->Prop}{Q:Env->ag->Prop}(X:bB F x σ)(S:uz F.nm sc)(h:∀G y,OQ F x σ sc G y->∀Gj,{Gj with scope:=relabel sc F.env}=G.env->Gj.locals=G.env.locals->Q Gj y.s):
  ai M A (SA sc F.env.globals (iO F.env sc.names []) [] F.env.qual none .none (some F.env)) Q E x.s:=by
 refine jZ (VC X S) λG y K=>?_;unfold SA;refine ae (wpAny_alloc (ae (wpAny_layCells _ (λname kind cells=>by cases hkc:kind==tm<;>simp[hkc]) _ _ _ _ ?_)));simp only[Option.isSome_some,if_true,yK,pure_bind];refine au ?_;have h:=h G y K;rw[K.s,K.env] at h;refine h _ ?_ rfl;rw[oy];rfl
end
noncomputable def ql:Expr->Bool
 |.Constant ..|.Name ..|.BinOp ..|.UnaryOp ..|.BoolOp ..|.IfExp ..|.Compare ..|.Dict ..|.List ..|.Tuple ..|.ListComp ..|.Attribute ..|.Subscript ..|.Call ..=>true
 |_=>false
structure aX(c:Cx)(d:Nat)(I:Ip):Prop where
 nn:∀{nm σ e p},I.e nm σ e=some p->ql e=true
 tup:∀{nm σ es k ps p},I.e nm σ (.Tuple es k ps)=some p->∀e∈es,ik e=false
 lst:∀{nm σ es ps p},I.e nm σ (.List es ps)=some p->∃l,p=.list l
 ev:∀{A:Am d} {x:Pt c} {F:Fm} {σ e p},I.e F.nm σ e=some p->bB F x σ->aE A (eval e F.env) x (Rd p)
 te:∀{A:Am d} {x:Pt c} {F:Fm} {σ e b},I.t F.nm σ e=some b->bB F x σ->aE A (isTrue e F.env (eval e F.env)) x (Is b)
def Ov(c:Cx)(d:Nat):Prop:=∀{β:Type} {k:List PV->Option β} {r:β} {v:ac} {p:PV} {A:Am d} {x:Pt c},over p k=some r->Rd p x v->∃xs,k xs=some r/\qA A (gk v) x xs
theorem afT{p:PV}{l:List PV}(h:yb p=some l):over p some=some l:=by
 induction p using dh with
 |set=>exact nS h
 |_=>exact(af (λo:Option (List PV)=>o.bind some) h)
theorem A3{e:Expr}(h:ql e=true)(env:Env)(v:ac):foldedSetIterable e env v=pure v:=by
 cases e<;>first|rfl|exact absurd h dy
theorem zU{e:Expr}(h:ql e=true):ik e=false:=by
 cases e<;>first|rfl|exact absurd h dy
theorem adX{e:Expr}{op:iF}(h:ql e=true):behindInMarks op e=false:=by
 cases e<;>first|rfl|exact absurd h dy
noncomputable def Ef(env:Env)(ifs:List Expr):Sem Bool:=forIn ifs true λc r=>if r=true then do let ok<-isTrue c env (eval c env);pure (uN ok) else pure (uN r)
noncomputable def xt(elt:Expr)(gens:List jK)(sc:fk)(pos:Pos)(k:Nat)(acc:ac)(env:Env):Sem Unit:=match gens[k+1]? with
 |some g'=>do
  let x<-eval g'.iter env
  standAt g'.iter.pos
  let x<-foldedSetIterable g'.iter env x
  let it<-yL [x] (gk x)
  let _<-runOwn (.compStart (.ListComp elt gens sc pos) (k+1) it acc env) env
  pure ()
 |none=>do let _<-bC (.builtin "list.append") [acc,<-eval elt env]
theorem compTurn_gen{env:Env}{sc:fk}{elt:Expr}{gens:List jK}{pos:Pos}{k:Nat}{g:jK}{it acc:ac}(h:gens[k]?=some g)(h0:g.is_async=0)(h':∀g,gens[k+1]?=some g->g.is_async=0):
  B9 (.ListComp elt gens sc pos) k it acc env=(do
   standAt g.iter.pos
   match<-gm it with
   |none=>pure (.done .next)
   |some v=>
    yH g.target it v
    uM g.target env v
    let ok<-Ef env g.ifs
    if ok=true then xt elt gens sc pos k acc env else pure ()
    again (.compLoop (.ListComp elt gens sc pos) k it acc env)):=by
 obtain⟨t,iter,ifs,n⟩:=g;cases h0;unfold B9;dsimp only;erw[h];unfold Ef xt;dsimp only;congr 1;funext _;show(gm it>>=_)=(gm it>>=_);congr 1;funext r;induction r using qN with
 |none=>rfl
 |some v=>
  dsimp only;congr 1;funext _;congr 1;funext _;congr 1;funext ok;induction ok using je with
  |false=>rfl
  |true=>
   refine aa (iP rfl) (aa (iP rfl) ?_);cases e:gens[k+1]? with
   |none=>simp
   |some g'=>simp[h' g' e]
section
variable{z:Pt c}{σ':bj}{v:ac}{p:PV}{K:ao->Prop}{g:Nat}{Ip:Ip}{es:List Expr}{b:Bool}{k:Nat}
theorem π{env:Env}:(forIn es false λ(c:Expr) (r:Bool)=>if r=true then do let ok<-isTrue c env (eval c env);pure (uN ok) else pure (uN r):Sem Bool)=pure false:=by
 induction es with
 |nil=>rfl
 |cons x r ih=>rw[wF];simp only[yM,if_false,pure_bind];exact ih
theorem abd(S:aX c d Ip):∀{x:Pt c},pZ (Ip.t F.nm σ) false es=some b->bB F x σ->aE A (Ef F.env es) x (Is b):=by
 induction es with
 |nil=>exact λh X=>oI h (.pure rfl)
 |cons e r ih=>
  intro x h X;refine aj h λc h1 h2=>?_;unfold Ef;rw[wF];simp only[if_true,bind_assoc,pure_bind];refine aE.bind (S.te h1 X) λv y l q=>?_;have q:v=c:=q;subst q;induction v using je with
  |false=>exact oI h2 (mE (af (λt=>aE A t y (Is false)) π) (.pure rfl))
  |true=>exact ih h2 (X.le l)
structure gy(F:Fm)(D:ao)(x:Pt c)(σ:bj)(ys:List PV):Prop where
 v:bB F x σ
 o:jG F x
 d:∃vals n,x.s.heap.get? D=some (bu vals n)/\bt ys x vals
 fd:bV x D
 nd:¬dq F.env D
def Zn(F:Fm)(D b:ao):Prop:=t7 F b\/b=D
theorem bV.step{b:ao}(n:bV x b)(l:br W g x y)(t:∃o,x.s.heap.get? b=some o)(h:¬W b):bV y b:=by
 refine⟨?_,n.h₀,n.hi⟩;cases e:y.f b with
 |none=>rfl
 |some o=>exact(l.new b o e).elim (λq=>nS (n.f.symm.trans q)) λq=>q.elim (λq=>t.elim λo' q'=>nS (q.symm.trans q')) λq=>absurd q h
theorem gy.at(C:gy F D x σ ys):∃o,x.s.heap.get? D=some o:=by refine eH C.d λ_ _ e _=>?_;exact⟨_,e⟩
theorem gy.xw(C:gy F D x σ ys){a:ao}(h:dq F.env a\/a=D):∃o,x.s.heap.get? a=some o:=by
 rcases h with(rfl|⟨z,e⟩)|rfl
 ·refine tI C.o.ns λm o es ep e _=>?_;exact⟨o,e⟩
 ·refine eH (C.v.cR z a e) λv o e _=>?_;exact⟨o,e⟩
 ·exact C.at
theorem gy.step(C:gy F D x σ ys)(l:br W g x y)(h:∀b,W b->¬dq F.env b/\b≠D):gy F D y σ ys:=by
 have kv:∀b o,dq F.env b->x.s.heap.get? b=some o->y.s.heap.get? b=some o:=λb o w e=>l.e.keep b o e (qM w) λq=>(h b q).1 w;have nw:∀b,W b->b=D->False:=λb q e=>(h b q).2 e;refine⟨C.v.keep kv l.sub,?_,?_,C.fd.step l C.at λq=>nw D q rfl,C.nd⟩
 ·refine⟨by obtain⟨m,n⟩:=C.o.ns;exact⟨m,n.at' λo e=>kv _ o (.inl rfl) e⟩,C.o.own.step l (C.xw (.inl (.inl rfl))) λq=>(h _ q).1 (.inl rfl),C.o.loc,λz e=>?_⟩;obtain⟨k1,a,b,n⟩:=C.o.kQ z e;exact⟨k1,a,b,n.step l (C.xw (.inl (.inr ⟨z,b⟩))) λq=>(h _ q).1 (.inr ⟨z,b⟩)⟩
 ·exact eH C.d λvals n e r=>(du vals n (l.e.keep D _ e (cN C.fd.hi) λq=>nw D q rfl) (r.mono l.sub))
theorem gy.le(C:gy F D x σ ys)(l:Le x y):gy F D y σ ys:=C.step (W:=λ_=>False) (g:=0) l.st λ_ q=>q.elim
theorem gy.bound(C:gy F D x σ ys)(B:D8 F x σ' y):gy F D y σ' ys:=
 ⟨B.v,B.o,by refine eH C.d λvals n e r=>?_;exact(du vals n ((B.w 0).e.keep D _ e (cN C.fd.hi) λq=>C.nd (nX q)) (r.mono (B.w 0).sub)),(B.w 0).free C.fd,C.nd⟩
theorem gy.append{E:ac->ag->Prop}{Q:ac->ag->Prop}(C:gy F D x σ ys)(r:Rd p x v)(hz:ys.length<aA)(h:∀y,gy F D y σ (ys++[p])->cH (Zn F D) x y->Q .none y.s):ai (ah pw c.w) A.A (bC (.builtin "list.append") [.ref D,v]) Q E x.s:=by
 refine eH C.d λvals n e rl=>Kk (items:=vals.toArray) (hsz:=lM (us:=[]) (m:=[]) rl (cy hz) (r':=.nil) rfl) ⟨n,e⟩ λh' hp hs=>?_;have nc:∀o,x.s.heap.get? D=some o->¬(o.cls=.type "code"/\∃vs,o.data=.fields vs):=λo e' k=>by
  obtain⟨_,vs,q⟩:=k;rw[<-ay (e.symm.trans e')] at q;injection q
 have w:Wr (Zn F D) x.s.gens.size x (x.but (t:=x.s.toks) hs C.fd nc):=.but (.inr rfl);have kv:∀b o,dq F.env b->x.s.heap.get? b=some o->h'.get? b=some o:=λb o q e'=>(hs.2 b λz=>C.nd (z▸q)).trans e';refine dN hp λn' hp=>h (x.but (t:=x.s.toks) hs C.fd nc) ⟨C.v.keep kv λ_ _ e=>e,C.o.keep C.v.cR kv λb _ n _=>w.free n,(du (vals++[v]) n' (?_) (aR.append (.cons r .nil) rl)),w.free C.fd,C.nd⟩ w.st;show h'.get? D=_;erw[hp];rw[bu];congr;simp
def LW(A:Am d)(c:Cx)(F:Fm)(D:ao)(σ:bj)(ys here:List PV)(t:Sem Unit):Prop:=
 ∀(x:Pt c) Q E,gy F D x σ ys->(∀y,cH (Zn F D) x y->gy F D y σ (ys++here)->Q () y.s)->ai (ah pw c.w) A.A t Q E x.s
def Y1(A:Am d)(c:Cx)(F:Fm)(D:ao)(co:Code)(I:ao)(g:Nat)(σ:bj)(src ys out:List PV):Prop:=
 ∀(x:Pt c) (K:ao->Prop) (R:mJ->ag->Prop),dM d I g src K x->(∀b,K b->¬dq F.env b/\b≠D)->g<=x.s.gens.size->gy F D x σ ys->
  (∀y,br (λb=>Zn F D b\/K b) g x y->gy F D y σ (ys++out)->R (.ok .next) y.s)->eO (ah pw c.w) A.A co R x.s
theorem Mi(S:aX c d Ip){cl:jK}{body:bj->Option (List PV)}(hg:gens[k]?=some cl)(h0:cl.is_async=0)(hn:∀g,gens[k+1]?=some g->g.is_async=0)
(hb:∀{σ ys here},body σ=some here->ys.length+here.length<=aA->LW A c F D σ ys here (xt elt gens sc pos k (.ref D) F.env)):
  ∀{src ys out:List PV},pH body (Ip.t F.nm) F.nm cl.target cl.ifs σ src=some out->ys.length+out.length<=aA->Y1 A c F D (.compLoop (.ListComp elt gens sc pos) k (.ref I) (.ref D) F.env) I g σ src ys out:=by
 have Gg:∀{R:mJ->ag->Prop} {x:Pt c},ai (ah pw c.w) A.A (B9 (.ListComp elt gens sc pos) k (.ref I) (.ref D) F.env) (λfin s'=>match fin with
   |.done f=>R (.ok f) s'
   |.again c'=>c'.quiet=true/\eO (ah pw c.w) A.A c' R s') No x.s->eO (ah pw c.w) A.A (.compLoop (.ListComp elt gens sc pos) k (.ref I) (.ref D) F.env) R x.s:=λ{R x} h=>by
  refine Fv ?_;show ai _ A.A ((B9 (.ListComp elt gens sc pos) k (.ref I) (.ref D) F.env).onRaise (λx=>do noteFrame x F.env;theTreesLotGoes x)) _ _ x.s;exact wpAny_noted (cQ h (λ_ _ z=>z) λ_ _ z=>z.elim)
 intro src;induction src with
 |nil=>
  intro ys out h hz x K R i hK Lj C q;refine Gg ((compTurn_gen hg h0 hn).symm▸ae (jq (ae (i.done A λz st=>au (q z (st.weaken λ_=>.inr) ?_)))));cases ay h;exact(gO ys).symm▸C.step st hK
 |cons p src ih=>
  intro ys out h hz x K R i hK Lj C q;refine bE λgG hG=>aL h λhf h=>aj h λσ' rm h=>aj h λok hi h=>aj h λhr hh h=>aB (tz.mp h) λmore hm bZ=>?_;subst bZ;rw[da,<-fC] at hz;refine hG (Gg ((compTurn_gen hg h0 hn).symm▸ae (jq (ae (i.next A λv K' z r i' st up dn=>?_)))));have kF:∀b,K' b->¬dq F.env b/\b≠D:=λb q=>(dn b q).elim (hK b) λn=>⟨λw=>(C.xw (.inl w)).elim λo e=>nS (n.symm.trans e),λw=>(C.xw (.inr w)).elim λo e=>nS (n.symm.trans e)⟩;have nz:∀b,K' b->¬Zn F D b:=λb q w=>w.elim (λw=>(kF b q).1 (nX w)) (kF b q).2;have Cz:=C.step st hK;refine ae (i'.go A (ae (QN rm Cz.v Cz.o r λy B=>?_)));have Cy:=Cz.bound B;have ahb:cH (Zn F D) z y:=(B.w _).st.weaken λ_=>.inl;have rest:∀{y},cH (Zn F D) z y->gy F D y σ' (ys++hr)->ai (ah pw c.w) A.A (again (.compLoop (.ListComp elt gens sc pos) k (.ref I) (.ref D) F.env)) (λfin s'=>match fin with
   |.done f=>R (.ok f) s'
   |.again c'=>c'.quiet=true/\eO (ah pw c.w) A.A c' R s') No y.s:=λ{y} L C=>
   au ⟨rfl,ih hm (by erw[da];exact hz) y K' R (i'.later (L.later i'.live nz)) kF (aq Lj (aq st.e.de L.e.de)) {C with v:=C.v.weaken λz p e=>MC rm hf e} λw sw Cw=>q w
    (((st.weaken λb q=>.inr (up b q)).trans (((L.lower (aq Lj st.e.de) (bf _)).weaken λ_=>.inl).trans sw)).shrink λb q=>q.elim (λq=>.inl (.inl q)) λq=>(dn b q).imp .inr id) (kt ..▸Cw)⟩
  refine ae (abd S hi Cy.v _ _ λb' w l e=>?_);have e:b'=ok:=e;subst e;have Cw:=Cy.le l;have T8:cH (Zn F D) z w:=ahb.trans l.st;cases b' with
  |false=>
   refine bE λgG hG=>?_;cases ay hh;exact hG (rest T8 ((gO ys).symm▸Cw))
  |true=>exact ae (hb hh (aq (cW _ _) hz) w _ _ Cw λu L Cu=>rest (T8.trans L) Cu)
theorem NS{w:cO}{A:bh}{s:ag}{env:Env}{R:mJ->ag->Prop}{it:ac}{acc:ac}{g:jK}(hg:gens[k]?=some g)(hs:g.is_async=0)
(h0:eO (ah pw w) A (.compLoop (.ListComp elt gens sc pos) k it acc env) R s)
(h:ai (ah pw w) A (gk it) (λu5 s'=>eO (ah pw w) A (.compLoop (.ListComp elt gens sc pos) k u5 acc env) R s') No s):
  eO (ah pw w) A (.compStart (.ListComp elt gens sc pos) k it acc env) R s:=by
 refine Fv ?_;show ai _ _ ((Kl (.ListComp elt gens sc pos) k it acc env).onRaise (λx=>do noteFrame x env;standAt theWindowsPlace)) _ _ s;refine wpAny_notedAt (cQ (E:=No) ?_ (λ_ _ z=>z) (λ_ _ z=>z.elim));unfold Kl;rw[show(clausesOf (.ListComp elt gens sc pos))[k]?=some g from hg];simp only[Option.elim_some,hs,bne_self_eq_false,yM,if_false];show ai _ _ (ask>>=_) _ _ s;refine ae (oA (wpAny_ite ?_));split
 ·first
   |exact ae (au (au (Fw rfl h0)))
   |exact au (Fw rfl h0)
 ·refine ae (uO (ae (jq (ae (cQ h (λu5 s' h'=>au (Fw rfl h')) λ_ _ x=>x)))))
end
section
variable{z:Pt c}{v:ac}{p:PV}{K:ao->Prop}{g:Nat}{Ip:Ip}{gs:List jK}{k:Nat}
theorem QM{l r:List α}{a:α}(h:l.drop k=a::r):l[k]?=some a/\l.drop (k+1)=r:=⟨(List.head?_drop).symm.trans (af List.head? h),(List.tail_drop).symm.trans (af List.tail h)⟩
theorem drop_nil{l:List α}(h:l.drop k=[]):l[k]?=none:=(List.head?_drop).symm.trans (af List.head? h)
theorem Β(S:aX c d Ip)(ov:Ov c d):∀{gs:List jK} {k:Nat},gens.drop (k+1)=gs->(∀g∈gs,g.is_async=0)->∀{σ:bj} {ys here:List PV},rV Ip F.nm elt gs σ=some here->ys.length+here.length<=aA->LW A c F D σ ys here (xt elt gens sc pos k (.ref D) F.env):=by
 intro gs;induction gs with
 |nil=>
  intro k hd _ σ ys here h hz x Q E C q;refine fM h λp hp e=>?_;subst e;unfold xt;exact aa (drop_nil hd) (ae (S.ev hp C.v _ _ λv y l r=>ae ((C.le l).append r hz λz Cz L=>au (q z (cH.trans l.st L) Cz))))
 |cons g gs ih=>
  intro k hd h0 σ ys here h hz x Q E C q;obtain⟨e1,e2⟩:=QM hd;refine aj h λv hv h=>aj h λsrc hs h=>?_;unfold xt;erw[e1];dsimp only;refine ae (S.ev hv C.v _ _ λu y l r=>ae (jq ?_));rw[A3 (S.nn hv)];refine aB (ov (A:=A) (afT hs) r) λxs Lk it=>?_;cases ay Lk;refine ae (au (ae (dO (it _ _ λz I K g' l' i hK Ll Ct=>?_))));have Cz:=(C.le l).le l';have nz:∀b,K b->¬dq F.env b/\b≠D:=λb q=>⟨λw=>((C.le l).xw (.inl w)).elim λo e=>nS ((hK b q).symm.trans e),λw=>((C.le l).xw (.inr w)).elim λo e=>nS ((hK b q).symm.trans e)⟩;have hgx:x.s.gens.size<=g':=aq l.e.de Ll;have loop:=Mi (A:=A) (gens:=gens) (k:=k+1) (I:=I) (g:=g') (D:=D) (sc:=sc) (pos:=pos) (elt:=elt) S e1 (h0 g (.head _)) (λg' e=>by
   induction gs using bO with
   |nil=>exact nS ((drop_nil e2).symm.trans e)
   |cons Ln gs=>exact ay ((QM e2).1.symm.trans e)▸h0 Ln (.tail _ (.head _))) (ih e2 λg m=>h0 g (.tail _ m)) h hz z K (λr s'=>match r with|.ok f=>ai (ah pw c.w) A.A (pure ():Sem Unit) Q E s'|.error e=>cameBackBy (ah pw c.w) A.A F.env E e s') i nz Ct Cz λw st Cw=>au (q w ((((l.trans l').st).trans (st.lower hgx Ct)).shrink λb q=>q.imp id λq=>l.e.back (cN (i.live b q).1.hi) (hK b q)) Cw)
  exact ae (wpAny_runOwn (NS e1 (h0 g (.head _)) loop (i.self A loop)))
theorem ID{l:List (Str×α)}{z:Str}:l.lookup z=ak l z:=by
 induction l with
 |nil=>rfl
 |cons p r ih=>
  obtain⟨y,u⟩:=p;refine aa (wv) (aa (ih) ?_);show _=if y=z then some u else ak r z;by_cases e:y=z
  ·refine aa (iP e) (aa (iP e.symm) ?_);rfl
  ·refine aa (iN e) (aa (iN (gV e)) ?_);rfl
structure lV(x y:Pt c)(D:ao)(l:List PV):Prop where
 le:Le x y
 d:∃vals n,y.s.heap.get? D=some (bu vals n)/\bt l y vals
 len:l.length<=aA
 fr:bV y D
 nw:x.s.heap.get? D=none
structure Rg(x y:Pt c)(D C:ao):Prop where
 nw:x.s.heap.get? C=none
 ne:C≠D
 fr:bV y C
 ns:∃m,y.s.heap.Ns C m
theorem acm{β:Type}{k:List PV->Option β}{r:β}{T:Prop}(h:over p k=some r)(t:∀src,k src=some r->T):T:=by
 unfold over at h;cases e:p.Ab with
 |some l=>rw[e] at h;exact t _ (xg h (BS l))
 |none=>rw[e] at h;exact aj h λsrc _ h=>t src h
theorem xZ(h:Ej Ip F.nm σ elt sc gens=some p):∃t it ifs gs l,gens=⟨t,it,ifs,0⟩::gs/\p=.list l:=by
 induction gens using bO with
 |nil=>exact nS h
 |cons g gs=>
  obtain⟨t,it,ifs,n⟩:=g;refine aL h λok h=>aj h λv hv h=>acm h λsrc h=>aj h λl _ h=>aL h λ_ h5=>?_;cases(show n=0 from ok.2.1);exact(N2 t it ifs gs l rfl ((ay h5).symm))
theorem CT{t iter:Expr}{ifs:List Expr}{l:List PV}{Gk:Pos}{use:Option (ac->Sem Unit)}{Q E:ac->ag->Prop}(S:aX c d Ip)(ov:Ov c d)(h:Ej Ip F.nm σ elt sc (⟨t,iter,ifs,0⟩::gs)=some (.list l))(X:bB F x σ)
(q:∀y D C,lV x y D l->Rg x y D C->compPost (ah pw c.w) A.A E use Q (.ref D) C (.ok .next) y.s):ai (ah pw c.w) A.A (comprehension (.ListComp elt (⟨t,iter,ifs,0⟩::gs) sc pos) sc F.env Gk (newList []) false (eval iter F.env) use) Q E x.s:=by
 refine aL h λok h=>aj h λv hv h=>?_;have So:=It ok.1;have h0:∀g∈gs,g.is_async=0:=λg m=>a5 (aW (b7 ok.2.2 g m)).1;refine wpAny_comprehension_free (e:=.ListComp elt (⟨t,iter,ifs,0⟩::gs) sc pos) (use:=use) (cl:=iO F.env sc.names []) rfl (A3 (S.nn hv) _) (NO λz m e=>CU So z.1 (e▸m)) So.kind (λz m e=>ID.trans (So.one z.1 .local (e▸m))) (S.ev hv X _ _ λu ahH l₁ ahc=>aB (ov (A:=A) h ahc) λxs Lk it=>aj Lk λout hc Lo=>aL Lo λhz Lo=>?_);cases ay Lo;refine it _ _ λgH I K g' l₂ i hK Ll Ct=>uP ?_;have ahd:bB F (gH.push (bu [] 0) gH.s.toks) σ:=((X.le l₁).le l₂).le (gH.cG _);refine ad0 (x:=gH.push (bu [] 0) gH.s.toks) ahd So λG CA C Gj hce wW=>aa (hce) (aa (wW) ?_);have sz:(gH.push (bu [] 0) gH.s.toks).s.heap.objs.size=gH.s.heap.objs.size+1:=oy ..;have zi:Le gH CA:=(gH.cG _).trans C.le;have ahe:Le x CA:=(l₁.trans l₂).trans zi;have T9:∀{b:ao},dq G.env b->(∃z,F.env.cells.lookup z=some b)\/gH.s.heap.objs.size<b:=λw=>(C.old _ w).imp id λl=>ba (i5 _) (aq (aD sz.symm) l);have cell:∀{b:ao} {y:Pt c},Le x y->(∃z,F.env.cells.lookup z=some b)->∃o,y.s.heap.get? b=some o:=λl e=>dN e λz e=>eH ((X.le l).cR z _ e) λv o e _=>⟨o,e⟩;have nK:∀b,K b->¬dq G.env b/\b≠gH.s.heap.objs.size:=λb q=>dN ((i.live b q).2) λo e=>⟨λw=>(T9 w).elim (λw=>(cell l₁ w).elim λo e=>nS ((hK b q).symm.trans e)) λl=>oB l (fB e),λw=>cV _ (w▸fB e)⟩;have fD:bV (gH.push (bu [] 0) gH.s.toks) gH.s.heap.objs.size:=by have f:=gH.free (bf _) (eQ _);exact⟨f.f,f.h₀,f.hi⟩
 have Ua:dM d I g' xs K CA:=i.later (cH.later (W:=λ_=>False) zi.st i.live λ_ _=>id);have Cv:gy G gH.s.heap.objs.size CA (lX sc σ) []:=⟨C.v,C.o,(du ([]) 0 (C.le.e.keep _ _ (ft _ rfl) (gH.j5 (bf _))) .nil),
  fD.le C.le ⟨_,ft _ rfl⟩,λw=>(T9 w).elim (λw=>(cell (l₁.trans l₂) w).elim λo e=>cV _ (fB e)) (cV _)⟩
 have loop:=Mi (A:=A) (gens:=⟨t,iter,ifs,0⟩::gs) (k:=0) (I:=I) (g:=g') (D:=gH.s.heap.objs.size) (sc:=sc) (pos:=pos) (elt:=elt) S rfl rfl (λg e=>by
  induction gs using bO with
  |nil=>exact nS e
  |cons Ln gs=>exact ay e▸h0 Ln (.head _)) (Β (F:=G) (gens:=⟨t,iter,ifs,0⟩::gs) (gs:=gs) S ov rfl h0) (C.nm.symm▸hc) (by erw[Ca];rw[f5];exact hz) CA K (compPost (ah pw c.w) A.A E use Q (.ref gH.s.heap.objs.size) G.env.locals)
  Ua nK (aq Ct zi.e.de) Cv λy st Cy=>by
   have fr:∀b,Zn G gH.s.heap.objs.size b\/K b->x.s.heap.get? b=none:=λb w=>w.elim (λw=>w.elim (λw=>((l₁.trans l₂).trans (gH.cG _)).e.back (qM (nX w)) (C.new b w)) λw=>(l₁.trans l₂).e.back (cN fD.hi|>λh=>w▸h) (w▸eQ _)) λw=>l₁.e.back (cN (i.live b w).1.hi) (hK b w);exact q y _ _ ⟨((ahe.st).trans (st.lower (aq l₁.e.de Ll) (aq Ct zi.e.de))).le fr,Cy.d,hz,Cy.fd,fr _ (.inl (.inr rfl))⟩ ⟨fr _ (.inl (.inl (.inl rfl))),λe=>Cy.nd (.inl e.symm),Cy.o.own,Cy.o.ns⟩
 exact NS rfl rfl loop (Ua.self A loop)
theorem lV.but{l:List PV}{C:ao}{h':am}(g:lV x y D l)(k:Rg x y D C)(hs:dD C y.s.heap h'):∃z,lV x z D l/\z.s={y.s with heap:=h'}:=by
 refine dN k.ns λm ns=>?_;have w:Wr (λb=>b=C) x.s.gens.size y (y.but (t:=y.s.toks) hs k.fr (Jm ns)):=.but rfl;exact eH g.d λvals n e r=>(az _ ⟨(g.le.st.trans w.st).le λb e=>e▸k.nw,(du vals n ((hs.2 D k.ne.symm).trans e) r),g.len,w.free g.fr,g.nw⟩ rfl)
theorem lV.rd{l:List PV}{Q:ac->ag->Prop}(g:lV x y D l)(k:∀v z,Le x z->Rd (.list l) z v->Q v z.s):Q (.ref D) y.s:=eH g.d λvals n e r=>k (.ref D) (y.add D _ e (cN g.fr.hi)) (g.le.add e _ g.nw) (.list pk (r.mono Pt.zA) g.len)
theorem ael(S:aX c d Ip)(ov:Ov c d)(h:Ej Ip F.nm σ elt sc gens=some p)(X:bB F x σ):aE A (eval (.ListComp elt gens sc pos) F.env) x (Rd p):=λQ E q=>by
 refine v7 (xZ h) λt it ifs gs l tD qe6=>?_;subst tD;subst qe6;rw[eval_ListComp];exact CT (use:=none) S ov h X λy D C g k=>by
  obtain⟨m,ns⟩:=k.ns;exact(az m ns (λh' hs=>by refine aB (g.but k hs) λz g' e=>?_;exact e▸g'.rd q))
end
end
section
variable{c:Cx}{x y:Pt c}{d:Nat}{A:Am d}{F:Fm}{σ:bj}{O:aK}{p q r:PV}{v u g:ac}{I:Ip}{e l t b:Expr}{es args:List Expr}{kws:List fj}{ls vs fp:List PV}{ks:List (Str×PV)}{pos:Pos}{z m:Str}{bo:Bool}
def qc(c:Cx)(d:Nat)(g:ac)(vs:List PV)(ks:List (Str×PV))(p:PV):Prop:=∀{A:Am d} {x:Pt c} {us kv},bt vs x us->bN c x.f kv ks->aE A (bC g us kv) x (Rd p)
structure cg(c:Cx)(O:aK)(d:Nat):Prop where
 fn:∀{z vs ks p},O.fn z vs ks=some p->∃g,di c.w.params z=some g/\oO c.w.params g/\qc c d g vs ks p
 bM:∀{k fs m vs ks p},O.bM k m (.inst k fs::vs) ks=some p->ak fs m=none->∃g,vH (KL c.w.params) k m g=true/\qc c d (.ref g) (.inst k fs::vs) ks p
 Ao:∀{k fs vs p},O.bM k "__call__" (.inst k fs::vs) []=some p->∀{A:Am d} {x:Pt c} {v us},Rd (.inst k fs) x v->bt vs x us->aE A (bC v us []) x (Rd p)
 attr:∀{k fs z p},O.attr k z (.inst k fs)=some p->ak fs z=none->∀{A:Am d} {x:Pt c} {v},Rd (.inst k fs) x v->aE A (uI v z true) x (Rd p)
 bin:∀{op k fs q p},O.bin op (.inst k fs) q=some p->∀{A:Am d} {x:Pt c} {v u},Rd (.inst k fs) x v->Rd q x u->aE A (mG op v u) x (Rd p)/\aE A (Km op v u) x (Rd p)
 cmp:∀{op k fs q b},O.cmp op (.inst k fs) q=some b->∀{A:Am d} {x:Pt c} {v u},Rd (.inst k fs) x v->Rd q x u->aE A (jM op v u) x (Rd (.bool b))
 lt:∀{k fs q b},O.cmp .Lt (.inst k fs) q=some b->∃g,fN (KL c.w.params) (.ref k) "__lt__"=some (some (.ref g))/\oq (KL c.w.params) (.ref g)=true/\∀{A:Am d} {x:Pt c} {v u},Rd (.inst k fs) x v->Rd q x u->aE A (bC (.ref g) [v,u]) x (Rd (.bool b))
structure oQ(c:Cx)(O:aK)(d:Nat):Prop where
 OY:∀{A:Am d} {x:Pt c} {v u l m},Rd (.set l) x v->Rd (.set m) x u->aE A (mG .BitAnd v u) x (Rd (.set (l.filter λx=>m.contains x)))
 sum:∀{A:Am d} {x:Pt c} {v l i},qa l=some i->Rd (.list l) x v->aE A (bC (.builtin "sum") [v]) x (Rd (.int i))
 max:∀{A:Am d} {x:Pt c} {v l p},uC O l=some p->Rd (.list l) x v->aE A (bC (.builtin "max") [v]) x (Rd p)
 set:∀{A:Am d} {x:Pt c} {v p l},eJ p setOf=some l->Rd p x v->aE A (bC (.type "set") [v]) x (Rd (.set l))
 inter:∀{A:Am d} {x:Pt c} {v u l m dW},p5 m=some dW->Rd (.set l) x v->Rd (.list m) x u->aE A (bC (.builtin "set.intersection") [v,u]) x (Rd (.set (l.filter λx=>dW.contains (x:Int))))
 Qe:∀{A:Am d} {x:Pt c} {v l pl} {Q:ac×List ac->ag->Prop} {E},Rd (.set l) x v->Q (.builtin "set.intersection",[v]) x.s->ai (ah pw c.w) A.A (B2 v "intersection" pl) Q E x.s
 join:∀{A:Am d} {x:Pt c} {v u z l r},J1 z l=some r->Rd (.str z) x v->Rd (.list l) x u->aE A (bC (.builtin "str.join") [v,u]) x (Rd (.str r))
section
variable{first:List ac}
theorem XA{op:ia}{l:List PV}(rp:Rd (.list l) x v)(rq:Rd q x u)(h:Ny op l q=some r):aE A (mG op v u) x (Rd r):=by
 revert rq;by_cases e:op=.Add
 ·cases e;exact aj h λm e h=>aL h λz h=>oI h (pI e λrq=>add_list rp rq z)
 ·refine aL ((iN e).symm.trans h) λe h=>?_;cases e;exact aj h λj e h=>aL h λz h=>oI h (eA e λrq=>XC rp rq z.1 z.2.1 z.2.2)
theorem Vo{op:ia}(Or:cg c O d)(Re:oQ c O d)(h:fW O op p q=some r)(rp:Rd p x v)(rq:Rd q x u):aE A (mG op v u) x (Rd r):=by
 revert rq;induction p using dh with
 |int i=>exact aj h λj e h=>eA e λrq=>afu h rp rq
 |list l=>exact λrq=>XA rp rq h
 |tup l=>exact aL h λo h=>aj h λm e h=>aL h λz h=>oI h (I1 e λrq=>o▸WO rp rq z)
 |str s=>exact aL h λo h=>aj h λm e h=>aL h λz h=>oI h (Bs e λrq=>o▸add_str rp rq z)
 |set l=>exact aL h λo h=>fH h λm e=>XV e λrq=>o▸Re.OY rp rq
 |inst k fs=>exact λrq=>(Or.bin h rp rq).1
 |_=>exact nS h
theorem Hs{op:iF}{o:Option Bool}(Or:cg c O d)(h:Bp O op p q o=some bo)(rp:Rd p x v)(rq:Rd q x u)(K:o=some bo->aE A (jM op v u) x (Rd (.bool bo))):aE A (jM op v u) x (Rd (.bool bo)):=by
 induction p using dh with
 |inst k fs=>exact Or.cmp h rp rq
 |_=>exact K h
theorem W_{op:iF}(Or:cg c O d)(h:fe O op p q=some bo)(rp:Rd p x v)(rq:Rd q x u):aE A (jM op v u) x (Rd (.bool bo)):=by
 cases op with
 |Eq=>exact Hs Or h rp rq λh=>ZM h rp rq
 |NotEq=>exact fM h λb h e=>e▸abq h rp rq
 |Lt=>exact Ea h rp rq λq=>lt_int q
 |LtE=>exact Ea h rp rq λq=>le_int q
 |Gt=>exact Hs Or h rp rq λh=>Ea h rp rq λq=>gt_int q
 |GtE=>exact Hs Or h rp rq λh=>Ea h rp rq λq=>ge_int q
 |Is=>exact(OD h rp rq).1
 |IsNot=>exact fM h λb h e=>e▸(OD h rp rq).2
 |In=>exact(QY h rp rq).1
 |NotIn=>exact fM h λb h e=>e▸(QY h rp rq).2
@[elab_as_elim] theorem qf{α:Type}{l:List α}{a:α}{m:List α->Prop}(h:pC l=some a)(K:m [a]):m l:=by
 cases l with
 |nil=>exact nS h
 |cons b l=>induction l using bO with
  |nil=>exact ay h▸K
  |cons=>exact nS h
@[elab_as_elim] theorem xP{α:Type}{l:List α}{a:α×α}{m:List α->Prop}(h:qG l=some a)(K:m [a.1,a.2]):m l:=by
 induction l using bO with
 |nil=>exact nS h
 |cons b l=>induction l using bO with
  |nil=>exact nS h
  |cons b' l=>induction l using bO with
   |nil=>cases ay h;exact K
   |cons=>exact nS h
theorem si{α β:Type}{l:List α}{o:Option β}{b:β}{P:Prop}(h:(if l.isEmpty=true then o else none)=some b)(K:l=[]->o=some b->P):P:=aL h λe h=>K (jF e) h
theorem qh(h:lG vs ks=some p)(K:∀{A:Am d} {x:Pt c} {v},Rd p x v->aE A (bC g [v]) x (Rd q)):qc c d g vs ks q:=by
 refine si h λe h=>?_;subst e;exact qf h λrl rk=>eC rl λr rl=>iR rl (sR rk (K r))
theorem Iv{p:PV×PV}(h:Mm vs ks=some p)(K:∀{A:Am d} {x:Pt c} {v u},Rd p.1 x v->Rd p.2 x u->aE A (bC g [v,u]) x (Rd q)):qc c d g vs ks q:=by
 refine si h λe h=>?_;subst e;exact xP h λrl rk=>eC rl λr rl=>eC rl λr' rl=>iR rl (sR rk (K r r'))
theorem sX(P:cD):di P "len"=some (.builtin "len")/\di P "range"=some (.type "range")/\di P "sum"=some (.builtin "sum")/\di P "max"=some (.builtin "max")/\di P "abs"=some (.builtin "abs")/\
  di P "str"=some (.type "str")/\di P "set"=some (.type "set")/\di P "list"=some (.type "list"):=
 ⟨⋯,⋯,⋯,⋯,⋯,⋯,⋯,⋯⟩
def D0(c:Cx)(d:Nat)(z:Str)(vs:List PV)(ks:List (Str×PV))(p:PV):Prop:=∃g,di c.w.params z=some g/\oO c.w.params g/\qc c d g vs ks p
theorem Ek{z:Str}{id:String}(e:di c.w.params z=some (.builtin id))(k:qc c d (.builtin id) vs ks p):D0 c d z vs ks p:=(cz _ e (.inl ⟨_,rfl⟩) k)
theorem yr{z:Str}{id:String}(e:di c.w.params z=some (.type id))(k:qc c d (.type id) vs ks p):D0 c d z vs ks p:=(cz _ e (.inr (.inl ⟨_,rfl⟩)) k)
theorem d6{α:Type}{c:Prop}[Decidable c]{P:Prop}{a b r:α}(h:(if c then a else b)=r)(k1:c->a=r->P)(k2:¬c->b=r->P):P:=by
 by_cases q:c
 ·exact k1 q ((iP q).symm.trans h)
 ·exact k2 q ((iN q).symm.trans h)
theorem Xu(Or:cg c O d)(h1:lG vs ks=some q)(h:IV O q=some p):D0 c d "len" vs ks p:=by
 by_cases i:q.oL=true
 ·induction q using dh with
  |inst k fs=>
   exact cP (Or.fn h) λg a b k=>(cz g a b (qh h1 λr=>k (.cons r .nil) .nil))
  |_=>injection i
 ·exact Ek (sX _).1 (qh h1 (adU h (n3 i)))
theorem VB(Or:cg c O d)(Re:oQ c O d)(h:nY O z vs ks=some p):D0 c d z vs ks p:=by
 refine d6 h (λe h=>e▸aj h λq h1 h=>Xu Or h1 h) λ_ h=>d6 h (λe h=>e▸ ?_) λ_ h=>d6 h (λe h=>e▸aj h λq h1 h=>aj h λl e h=>fH h λi h2=>Ek (sX _).2.2.1 (qh h1 λr=>Re.sum h2 (pI (m:=λq=>Rd q _ _->Rd (.list l) _ _) e id r)))
  λ_ h=>d6 h (λe h=>e▸aj h λq h1 h=>aj h λl e h=>Ek (sX _).2.2.2.1 (qh h1 λr=>Re.max h (pI (m:=λq=>Rd q _ _->Rd (.list l) _ _) e id r)))
  λ_ h=>d6 h (λe h=>e▸aj h λq h1 h=>fH h λi e=>Ek (sX _).2.2.2.2.1 (qh h1 λr=>Α (eA (m:=λq=>Rd q _ _->Rd (.int i) _ _) e id r)))
  λ_ h=>d6 h (λe h=>e▸aj h λq h1 h=>fH h λi e=>yr (ET _) (qh h1 λr=>VL (eA (m:=λq=>Rd q _ _->Rd (.int i) _ _) e id r)))
  λ_ h=>d6 h (λe h=>e▸aj h λq h1 h=>aj h λi e h=>aL h λz h=>oI h (yr (sX _).2.2.2.2.2.1 (qh h1 λr=>X6 z (eA (m:=λq=>Rd q _ _->Rd (.int i) _ _) e id r))))
  λ_ h=>d6 h (λe h=>e▸aj h λq h1 h=>fH h λl h2=>yr (sX _).2.2.2.2.2.2.1 (qh h1 λr=>Re.set h2 r))
  λ_ h=>d6 h (λe h=>e▸aj h λq h1 h=>fU h λi h=>aj h λl h2 h=>aL h λz h=>oI h (yr (sX _).2.2.2.2.2.2.2 (qh h1 λr=>ac9 (n3 i) h2 z r)))
  λ_ h=>Or.fn h
 exact d6 h (λ_ h=>aj h λq h1 h=>aj h λj e h=>yr (sX _).2.1 (qh h1 λr=>ε h (eA (m:=λq=>Rd q _ _->Rd (.int j) _ _) e id r)))
  λ_ h=>aj h λq h1 h=>aj h λi e h=>aj h λj e' h=>yr (sX _).2.1 (Iv h1 λr r'=>Wy h (eA (m:=λq=>Rd q _ _->Rd (.int i) _ _) e id r) (eA (m:=λq=>Rd q _ _->Rd (.int j) _ _) e' id r'))
theorem sg(S:aX c d I):∀{es:List Expr} {ls:List PV},iS (I.e F.nm σ) es=some ls->(∀e∈es,ik e=false)/\∀{x:Pt c},bB F x σ->aE A (om (oo pos (lA es F.env))) x (bt ls):=by
 intro es;induction es with
 |nil=>exact λh=>oI h ⟨nofun,λX Q E k=>SB (k _ _ (.refl _) .nil)⟩
 |cons e es ih=>
  intro ls h;refine aj h λv h1 h=>fH h λvs h2=>?_;have i:=ih h2;have s:=zU (S.nn h1);exact⟨λe' m=>(bw m).elim (λq=>q▸s) (i.1 e'),λX Q E k=>wpAny_items_cons (S.ev h1 X _ _ λu y l r=>i.2 (X.le l) _ _ λus z l' r'=>k _ z (l.trans l') (.cons (r.mono l'.sub) r')) (Pe s)⟩
def IN(A:Am d)(kws:List (Option Str×Sem ac))(x:Pt c)(ks:List (Str×PV)):Prop:=aE A (evalAll (kws.map (·.2))) x λy us=>bN c y.f ((kws.filterMap (·.1)).zip us) ks
theorem DH(S:aX c d I):∀{kws:List fj} {ks:List (Str×PV)},sP (I.e F.nm σ) kws=some ks->(Db F.env pos kws).all (·.1.isSome)=true/\∀{x:Pt c},bB F x σ->IN A (Db F.env pos kws) x ks:=by
 intro kws;induction kws with
 |nil=>exact λh=>oI h ⟨rfl,λX Q E k=>uK (k _ _ (.refl _) .nil)⟩
 |cons k kws ih=>
  obtain⟨a,e,ps⟩:=k;intro ks h;refine aj h λa' ha h=>aj h λv h1 h=>fH h λvs h2=>?_;cases(show a=some a' from ha);have i:=ih h2;exact⟨i.1,λX Q E k=>wpAny_evalAll_cons (ae (S.ev h1 X _ _ λu y l r=>ae (jq (au (i.2 (X.le l) _ _ λus z l' r'=>k _ z (l.trans l') (.cons (r.mono l'.sub) r'))))))⟩
theorem DC{args:List (Bool×Sem ac)}{kws:List (Option Str×Sem ac)}(rf:bt fp x first)(ha:args.any (·.1)=false)(hk:kws.all (·.1.isSome)=true)(kp:oO c.w.params g)(C:qc c d g (fp++vs) ks q)
(each:aE A (om args) x (bt vs))(kw:∀y,Le x y->IN A kws y ks):aE A (wE pos g first args kws) x (Rd q):=λQ E k=>
 sK ha hk kp (each _ _ λus y l r=>kw y l _ _ λws z l' r'=>⟨z.cT,C (aR.append (r.mono l'.sub) (rf.mono (l.trans l').sub)) r' _ _ λu w wX=>k u w ((l.trans l').trans wX)⟩)
theorem adr{pl:Sem Bool}{args:List (Bool×Sem ac)}{kws:List (Option Str×Sem ac)}(Or:cg c O d)(Re:oQ c O d)(r:Rd p x v)(h:H3 O m p vs ks=some q)(ha:args.any (·.1)=false)(hk:kws.all (·.1.isSome)=true)
(each:aE A (om args) x (bt vs))(kw:∀y,Le x y->IN A kws y ks){Q E}(k:∀v y,Le x y->Rd q y v->Q v y.s):ai (ah pw c.w) A.A (B2 v m pl) (λfx fQ=>ai (ah pw c.w) A.A (wE pos fx.1 fx.2 args kws) Q E fQ) E x.s:=by
 revert k;induction p using dh with
 |inst c fs=>
  intro k;refine aL h λe h=>?_;have e:=Gb.mp e;exact aB (Or.bM h e) λg hm C=>ae0 hm e r (DC (fp:=[.inst c fs]) (.cons r .nil) ha hk (.inr (.inr (PU hm))) C each kw Q E k)
 |set l=>exact aL h λe h=>e▸aj h λp' h1 h=>aj h λl' e h=>fH h λdW h2 k=>Re.Qe r (DC (fp:=[.set l]) (.cons r .nil) ha hk (.inl ⟨_,rfl⟩) (Iv (p:=(.set l,p')) (si h1 λe h=>e▸qf h rfl) λr r'=>Re.inter h2 r (pI (m:=λq=>Rd q _ _->Rd (.list l') _ _) e id r')) each kw Q E k)
 |str s=>exact aL h λe h=>e▸aj h λp' h1 h=>aj h λl' e h=>fH h λw h2 k=>jh r λt=>GM.join (DC (fp:=[.str s]) (.cons .str .nil) ha hk (.inl ⟨_,rfl⟩) (Iv (p:=(.str s,p')) (si h1 λe h=>e▸qf h rfl) λr r'=>Re.join h2 r (pI (m:=λq=>Rd q _ _->Rd (.list l') _ _) e id r')) each kw Q E k)
 |_=>exact nS h
theorem ac4(Or:cg c O d)(h:JC O z p=some q)(r:Rd p x v):aE A (uI v z true) x (Rd q):=by
 induction p using dh with
 |inst k fs=>
  have h:(match ak fs z with
   |some v=>if v9.contains (k,z)=true/\v.iU=false then some v else none
   |none=>match zw k z with
    |some v=>some v
    |none=>O.attr k z (.inst k fs))=some q:=h
  cases e:ak fs z with
  |some v=>rw[e] at h;exact aL h λc h=>acr (e.trans h) (c.1) (ay h▸c.2) r
  |none=>
   rw[e] at h;dsimp only at h;cases e':zw k z with
   |some v=>rw[e'] at h;exact ae2 (e'.trans h) e r
   |none=>rw[e'] at h;exact Or.attr h e r
 |_=>exact nS h
end
structure BJ(c:Cx)(O:aK)(d:Nat)(I J:Ip):Prop where
 N0:∀{A:Am d} {x:Pt c} {F:Fm} {σ:bj} {z e np pos p},ak F.nm z=some .globalImplicit->(z=("all":Str)\/z=("any":Str))->vi O I J F.nm σ true (xT (z==("all":Str))) e=some p->bB F x σ->aE A (eval (.Call (.Name z np) [e] [] pos) F.env) x (Rd p)
 My:∀{A:Am d} {x:Pt c} {F:Fm} {σ:bj} {e np pos p kws},ak F.nm ("sorted":Str)=some .globalImplicit->vi O I J F.nm σ false (λvs=>eD O F.nm vs kws) e=some p->bB F x σ->aE A (eval (.Call (.Name "sorted" np) [e] kws pos) F.env) x (Rd p)
 Mq:∀{A:Am d} {x:Pt c} {F:Fm} {σ:bj} {e np pos v p kws},ak F.nm ("sorted":Str)=some .globalImplicit->I.e F.nm σ e=some v->(eJ v λl=>eD O F.nm l kws)=some p->bB F x σ->aE A (eval (.Call (.Name "sorted" np) [e] kws pos) F.env) x (Rd p)
section
variable{J:Ip}{o i:Expr}{np ap:Pos}{k:Nat}
theorem ac8{cn:Const}(h:Rx cn=some p):aE A (eval (.Constant cn k pos) F.env) x (Rd p):=by
 cases cn with
 |none=>exact oI h λQ E K=>wpAny_Constant_none (k_here K .none)
 |bool=>exact oI h λQ E K=>wpAny_Constant_bool (k_here K .bool)
 |int=>exact oI h λQ E K=>SC (jI K .int)
 |str=>exact oI h λQ E K=>SD (jI K .str)
 |_=>exact nS h
theorem nH{Q E}(X:ak F.nm z=some .globalImplicit)(h:di c.w.params z=some v)(hd:z≠("__debug__":Str))(x:Pt c)(k:Q v x.s):ai (ah pw c.w) A.A (eval (.Name z pos) F.env) Q E x.s:=Cb (OM F x (F.names z X) h k) (li hd)
theorem M6(h:G8 F.nm σ z=some p)(X:bB F x σ):aE A (eval (.Name z pos) F.env) x (Rd p):=λQ E K=>fU h λhd h=>d6 h (λe h=>by
  obtain⟨v,e1,r⟩:=Z1 (x:=x) h;exact nH e e1 hd x (k_here K r)) λ_ h=>by
  obtain⟨v,V,r⟩:=X.var z p h;exact Cb (zL F V (k_here K r)) (li hd)
theorem aa1{op:ia}(S:aX c d I)(Or:cg c O d)(Re:oQ c O d)(h:((I.e F.nm σ l).bind λa=>(I.e F.nm σ e).bind λb=>fW O op a b)=some p)(X:bB F x σ):aE A (eval (.BinOp l op e pos) F.env) x (Rd p):=λQ E K=>
 aj h λ_ h1 h=>aj h λ_ h2 h=>wpAny_BinOp (S.ev h1 X _ _ λ_ _ l r=>S.ev h2 (X.le l) _ _ λ_ _ l' r'=>(Vo Or Re h (r.mono l'.sub) r').from (l.trans l') K)
theorem ο(S:aX c d I)(h:((I.t F.nm σ t).bind λr=>if r=true then I.e F.nm σ b else I.e F.nm σ e)=some p)(X:bB F x σ):aE A (eval (.IfExp t b e pos) F.env) x (Rd p):=λQ E K=>
 aj h λr h1 h=>(arm_eval_IfExp ..).symm▸ae (S.te h1 X _ _ λr' y l q=>by
  have q:r'=r:=q;subst q;cases r' with
  |false=>exact(S.ev h (X.le l)).from l K
  |true=>exact(S.ev h (X.le l)).from l K)
theorem PW{rs:List Expr}{ops:List iF}{Q E}(S:aX c d I)(Or:cg c O d)(h:DT O (I.e F.nm σ) l ops rs=some bo)(X:bB F x σ)(K:∀y,Le x y->Q (.bool bo) y.s):
  ∃op r,ops=[op]/\rs=[r]/\behindInMarks op r=false/\ai (ah pw c.w) A.A (eval l F.env) (λa bI=>ai (ah pw c.w) A.A (eval r F.env) (λb fQ=>ai (ah pw c.w) A.A (jM op a b) Q E fQ) E bI) E x.s:=by
 exact aj h λop e1 h=>aj h λr e2 h=>aj h λa h1 h=>aj h λb h2 h=>(uw op r (qf e1 rfl) (qf e2 rfl) (adX (S.nn h2)) (S.ev h1 X _ _ λu y l r=>S.ev h2 (X.le l) _ _ λv z l' r'=>W_ Or h (r.mono l'.sub) r' _ _ λw y wX q=>(q:w=.bool bo)▸K y ((l.trans l').trans wX)))
theorem aet{rs:List Expr}{ops:List iF}(S:aX c d I)(Or:cg c O d)(h:DT O (I.e F.nm σ) l ops rs=some bo)(X:bB F x σ):aE A (eval (.Compare l ops rs pos) F.env) x (Rd (.bool bo)):=λQ E K=>by
 refine D5 (PW (A:=A) (E:=E) S Or h X λy l=>K _ y l .bool) λop r bZ c4 hm w=>?_;subst bZ;subst c4;exact wpAny_Compare1 w hm
theorem WX(S:aX c d I)(h:(iS (I.e F.nm σ) es).bind (pq .list)=some p)(X:bB F x σ):aE A (eval (.List es pos) F.env) x (Rd p):=λQ E K=>
 aj h λl h1 h=>aL h λz h=>wpAny_List ((sg S h1).2 X _ _ λus y le r=>⟨lM (us:=[]) (m:=[]) r z (r':=.nil) rfl,sQ (t:=y.s.toks) (λv w l' q=>K v w (le.trans l') q) rfl (ay h▸E8 r z)⟩)
theorem Xs(S:aX c d I)(h:(iS (I.e F.nm σ) es).bind (pq .tup)=some p)(X:bB F x σ):aE A (eval (.Tuple es k pos) F.env) x (Rd p):=λQ E K=>
 aj h λl h1 h=>aL h λz h=>wpAny_Tuple ((sg S h1).2 X _ _ λus y le r=>⟨lM (us:=[]) (m:=[]) r z (r':=.nil) rfl,sQ (t:=y.s.toks) (λv w l' q=>K v w (le.trans l') q) rfl (ay h▸OE r z)⟩)
theorem ϙ(S:aX c d I)(Or:cg c O d)(h:(if ug o=true then none else(I.e F.nm σ o).bind (JC O z))=some p)(X:bB F x σ):aE A (eval (.Attribute o z pos) F.env) x (Rd p):=λQ E K=>
 fU h λhb h=>aj h λa h1 h=>JT (n3 hb) (S.ev h1 X _ _ λu y l r=>(ac4 Or h r).from l K)
theorem Sa{eo:Option Expr}{zo:Option Int}(S:aX c d I)(h:GW (I.e F.nm σ) eo=some zo)(X:bB F x σ):aE A (valueOrNone (evalOpt eo F.env)) x λ_ v=>IsPart v zo:=by
 induction eo using qN with
 |none=>exact oI h λQ E K=>au (K _ _ (.refl _) .none)
 |some e=>exact aj h λv h1 h=>fH h λi e=>λQ E K=>S.ev h1 X _ _ λu y l r=>K u y l (bU (eA (m:=λq=>Rd q y u->Rd (.int i) y u) e id r) λ_=>.int _ _)
theorem Vn(S:aX c d I)(h:((I.e F.nm σ o).bind λa=>NR (I.e F.nm σ) a i)=some p)(X:bB F x σ):aE A (eval (.Subscript o i pos) F.env) x (Rd p):=λQ E K=>by
 refine aj h λa h1 h=>Subscript_ (S.ev h1 X _ _ λu y l r=>?_);have plain:(I.e F.nm σ i).bind (bP a)=some p->ai (ah pw c.w) A.A (eval i F.env) (λi_1 fQ=>ai (ah pw c.w) A.A (Fj o i u i_1) Q E fQ) E y.s:=λh=>
  aj h λb h2 h=>S.ev h2 (X.le l) _ _ λw z l' r'=>(YI h (r.mono l'.sub) r').2.from (l.trans l') K
 induction i using eB with
 |Slice lo hi st pp=>
  refine bE λgG hG=>aL h λe h=>aj h λzl h2 h=>aj h λzu h3 h4=>aB (tz.mp h4) λl' e' bZ=>?_;subst bZ;cases Gb.mp e;refine hG ?_;rw[arm_eval_Slice];exact ae (Sa S h2 (X.le l) _ _ λvl ahI l₂ ahf=>ae (dO (Sa S h3 ((X.le l).le l₂) _ _ λvu Lq Ub ahg=>ae (dO (au (uP (adn (A:=A) (pI (m:=λq=>Rd q Lq u->Rd (.list l') Lq u) e' id ((r.mono l₂.sub).mono Ub.sub)) ahf ahg _ _ λv w zi q=>K v w (((l.trans l₂).trans Ub).trans ((Lq.cG _).trans zi)) q)))))))
 |_=>exact plain h
theorem Vz(S:aX c d I)(Or:cg c O d)(Re:oQ c O d)(h:(if ug o=true\/ap.endLine≠pos.line\/20<args.length+kws.length then none else(I.e F.nm σ o).bind λv=>(iS (I.e F.nm σ) args).bind λvs=>(sP (I.e F.nm σ) kws).bind λks=>H3 O m v vs ks)=some p)(X:bB F x σ):aE A (eval (.Call (.Attribute o m ap) args kws pos) F.env) x (Rd p):=λQ E K=>
 fU h λn h=>aj h λov h1 h=>aj h λvs h2 h=>aj h λks h3 h=>by
  have ea:=sg (A:=A) (pos:=pos) S h2;have ka:=DH (A:=A) (pos:=pos) S h3;exact Jp (n3 λq=>n (.inl q)) (af5 λq=>n (.inr (.inl q))) ea.1 ka.1 (cZ λq=>n (.inr (.inr q))) (S.ev h1 X _ _ λu y l r=>λpl=>adr Or Re r h (lq ea.1) ka.1 (ea.2 (X.le l)) (λz l'=>ka.2 ((X.le l).le l')) λv z m=>K v z (l.trans m))
theorem aaJ(S:aX c d I)(Or:cg c O d)(Re:oQ c O d)(hk:ak F.nm z=some .globalImplicit)(hd:z≠("__debug__":Str))(h2:iS (I.e F.nm σ) args=some vs)(h3:sP (I.e F.nm σ) kws=some ks)(h4:nY O z vs ks=some p)(X:bB F x σ):aE A (eval (.Call (.Name z np) args kws pos) F.env) x (Rd p):=λQ E K=>by
 refine cP (VB (d:=d) Or Re h4) λg hg kp C=>?_;have ea:=sg (A:=A) (pos:=pos) S h2;have ka:=DH (A:=A) (pos:=pos) S h3;exact wH (nH hk hg hd x (DC (fp:=[]) .nil (lq ea.1) ka.1 kp C (ea.2 X) (λy l=>ka.2 (X.le l)) Q E K))
theorem XJ(S:aX c d I)(Or:cg c O d)(hd:z≠("__debug__":Str))(h2:iS (I.e F.nm σ) args=some vs)(h3:ak σ z=some q)(h4:RP O vs q=some p)(X:bB F x σ):aE A (eval (.Call (.Name z np) args [] pos) F.env) x (Rd p):=λQ E K=>by
 have ea:=sg (A:=A) (pos:=pos) S h2;refine aB (X.var z q h3) λv V r=>?_;induction q using dh with
 |inst k fs=>
  have key:∀{v},Rd (.inst k fs) x v->ai (ah pw c.w) A.A (wE pos v [] (oo pos (lA args F.env)) []) Q E x.s:=λr=>
   sV (m:=λv=>Rd (.inst k fs) x v->ai (ah pw c.w) A.A (wE pos v [] (oo pos (lA args F.env)) []) Q E x.s) r (λ{a dx n es vs} h _ _ _ r=>aaR (o:=l4 k dx) (lq ea.1) (ea.2 X _ _ λus y l r'=>⟨⟨y.hs _ _ (l.sub _ _ h),rfl⟩,(Or.Ao h4 (r.mono l.sub) r').from l K⟩)) r
  exact wH (Cb (zL F V (key r)) (li hd))
 |_=>exact nS h4
theorem X_(P:cD):di P "isinstance"=some (.builtin "isinstance"):=⋯
noncomputable def C6(z:Str):Bool:=z==("int":Str)||z==("Fraction":Str)||z==("Voter":Str)
theorem IW(P:cD)(h:C6 z=true):∃c,di P z=some c/\z≠("__debug__":Str):=by
 rcases lQ h with h|h
 ·rcases lQ h with h|h
  ·exact a5 h▸(az _ (ET P) (by decide))
  ·exact a5 h▸(az _ (Hw P) (by decide))
 ·exact a5 h▸(az _ (Mf P) (by decide))
theorem RE{cs:Expr}(S:aX c d I)(hk:ak F.nm ("isinstance":Str)=some .globalImplicit)(h1:I.e F.nm σ e=some q)(hs:ik cs=false)(X:bB F x σ)
(K:∀{v} {y:Pt c} {Q:ac->ag->Prop} {E},Rd q y v->(∀u z,Le y z->aE A (bC (.builtin "isinstance") [v,u]) z (Rd p)->Q u z.s)->ai (ah pw c.w) A.A (eval cs F.env) Q E y.s):aE A (eval (.Call (.Name "isinstance" np) [e,cs] [] pos) F.env) x (Rd p):=λQ E k=>by
 have ns:∀e'∈[e,cs],ik e'=false:=λe' m=>(bw m).elim (λq=>q▸zU (S.nn h1)) λm=>cY m▸hs;exact wH (nH hk (X_ _) (by decide) x (sK (lq ns) rfl (.inl ⟨_,rfl⟩) (aa (vJ ns) (wI (S.ev h1 X _ _ λv y l r=>wI (K r λu z l' g=>Cc (uK ⟨z.cT,g.from (l.trans l') k⟩)))))))
theorem ab8{Q:List ac->ag->Prop}{E}:∀{es:List Expr} {zs:List Str} {cs:List ac},es.mapM iq=some zs->(∀z∈zs,ak F.nm z=some .globalImplicit/\C6 z=true)->(zs.map λz=>di c.w.params z)=cs.map some->Q cs x.s->ai (ah pw c.w) A.A (om (oo pos (lA es F.env))) Q E x.s:=by
 intro es;induction es generalizing Q with
 |nil=>
  intro zs cs h _ e q;cases ay h;exact SB (TT.mp e.symm▸q)
 |cons e es ih=>
  intro zs cs h k g q;refine bE λgG hG=>?_;rw[qV] at h;refine aj h λz h1 h=>aj h λzs' h2 h=>?_;cases ay h;refine hG ?_;induction cs using bO with
  |nil=>injection g
  |cons g' cs=>
   injection g with g1 g2
   exact aB (IW c.w.params (k z (.head _)).2) λ_ _ hd=>zR (m:=λe=>ai _ A.A (om (oo pos (lA (e::es) F.env))) Q E x.s) h1 λnp=>wpAny_items_cons (nH (k z (.head _)).1 g1 hd x (ih h2 (λz m=>k z (.tail _ m)) g2 q)) rfl
theorem XW(P:cD):∀{zs:List Str},(∀z∈zs,C6 z=true)->∃vs:List ac,(zs.map λz=>di P z)=vs.map some:=by
 intro zs;induction zs with
 |nil=>exact λ_=>⟨[],rfl⟩
 |cons z zs ih=>
  intro h;refine aB (IW P (h z (.head _))) λc e _=>?_;obtain⟨vs,e'⟩:=ih λy m=>h y (.tail _ m);exact⟨c::vs,by erw[oz];erw[oz];erw[e];erw[e'];rfl⟩
theorem afz{e cs:Expr}{zs:List Str}(S:aX c d I)(hk:ak F.nm ("isinstance":Str)=some .globalImplicit)(h1:I.e F.nm σ e=some q)(h2:MI cs=some zs)(hc:ON F.nm zs=true)(h3:iU q zs=some bo)(X:bB F x σ):aE A (eval (.Call (.Name "isinstance" np) [e,cs] [] pos) F.env) x (Rd (.bool bo)):=by
 have hc:=aW hc;have hz:=cC hc.1;have ok:∀z∈zs,ak F.nm z=some .globalImplicit/\C6 z=true:=λz m=>(aW (b7 hc.2 z m)).imp a5 id;refine dN (XW c.w.params λz m=>(ok z m).2) λvs hv=>?_;induction cs using eB with
 |Name z zp=>
  refine bE λgG hG=>?_;cases ay h2;refine aB (IW c.w.params (ok z (.head _)).2) λg e1 hd=>?_;have h3:oL q z=some bo:=aj h3 λb e h=>d6 h (λq h=>e.trans (af some (q.trans (ay h)))) λq h=>e.trans (af some ((n3 q).trans (ay h)));exact hG (RE S hk h1 rfl X λr k=>nH (ok z (.head _)).1 e1 hd _ (k g _ (.refl _) (VK r h3 e1)))
 |Tuple es n tp=>
  refine RE S hk h1 rfl X λ{v y Q E} r k=>wpAny_Tuple (ab8 h2 ok hv ⟨?_,k _ (y.push (fS vs 0) y.s.toks) (y.cG _) (ϯ r h3 (λe=>absurd hz.1 (by erw[e];decide)) hv (ft _ rfl))⟩);have:=af yD hv;rw[bi,bi] at this;exact aq (aq (aD this.symm) hz.2) (by decide)
 |_=>exact nS h2
theorem afR(S:aX c d I)(Or:cg c O d)(Re:oQ c O d)(G:BJ c O d I J)(hk:ak F.nm z=some .globalImplicit)(hd:z≠("__debug__":Str))(h:Rb O I J F.nm σ z args kws=some p)(X:bB F x σ):aE A (eval (.Call (.Name z np) args kws pos) F.env) x (Rd p):=by
 refine d6 h (λe h=>?_) λ_ h=>d6 h (λe h=>si h λe' h=>e'▸aj h λa h1 h=>qf (m:=λargs=>aE A (eval (.Call (.Name z np) args [] pos) F.env) x (Rd p)) h1 (G.N0 hk e h X)) λ_ h=>d6 h (λe h=>?_) λ_ h=>
  aj h λvs h1 h=>aj h λks h2 h=>aaJ S Or Re hk hd h1 h2 h X
 ·subst e;exact si h λe' h=>e'▸aj h λa h1 h=>aj h λv h2 h=>aj h λcs h3 h=>aL h λhc h=>fH h λb h4=>xP (m:=λargs=>aE A (eval (.Call (.Name "isinstance" np) args [] pos) F.env) x (Rd (.bool b))) h1 (afz S hk h2 h3 hc h4 X)
 ·subst e;exact aj h λa h1 h=>qf (m:=λargs=>aE A (eval (.Call (.Name "sorted" np) args kws pos) F.env) x (Rd p)) h1 (d6 h (λ_ h=>G.My hk h X) λ_ h=>aj h λv h1 h=>G.Mq hk h1 h X)
theorem ad4{f:Expr}(S:aX c d I)(Or:cg c O d)(Re:oQ c O d)(G:BJ c O d I J)(h:NV O I J F.nm σ args kws pos f=some p)(X:bB F x σ):aE A (eval (.Call f args kws pos) F.env) x (Rd p):=by
 induction f using eB with
 |Attribute o m ap=>exact Vz S Or Re h X
 |Name z np=>exact fU h λhd h=>d6 h (λhk h=>afR S Or Re G hk hd h X) λ_ h=>aj h λvs h1 h=>aj h λq h2 h=>si h λe h=>e▸XJ S Or hd h1 h2 h X
 |_=>exact nS h
theorem YG(S:aX c d I){op:BoolOp}:∀{es:List Expr} {x:Pt c},Im (I.e F.nm σ) (Dw op) es=some p->bB F x σ->aE A (boolOp pos op (evalEach es F.env)) x (Rd p):=by
 intro es;induction es with
 |nil=>exact λh=>nS h
 |cons e r ih=>
  intro x h X;refine aj h λv h1 h=>d6 h (λe h=>?_) λne h=>aj h λb e2 h=>?_
  ·refine bE λgG hG=>?_;cases jF e;exact hG (ay h▸S.ev h1 X)
  ·induction r using bO with
   |nil=>exact absurd rfl ne
   |cons e' r=>
    intro Q E K;show ai _ A.A (do
     let v<-eval e F.env
     standAt pos
     let t<-yL [v] (yB v)
     match op,t with
     |.And,false|.Or,true=>pure v
     |_,_=>boolOp pos op (evalEach (e'::r) F.env)) _ _ x.s
    refine ae (S.ev h1 X _ _ λu y l r'=>ae (jq (lH (m:=λu=>ai _ A.A (yL [u] (yB u)>>=λt=>match op,t with
     |.And,false|.Or,true=>pure u
     |_,_=>boolOp pos op (evalEach (e'::r) F.env)) Q E y.s) (Eo (m:=λq=>Rd q y u->Rd (.bool b) y u) e2 id r') (ae (dO (wC ?_))))))
    have g:=λh=>(ih h (X.le l)).from (E:=E) l K;cases op with
    |And=>induction b using je with
     |false=>exact au (K _ y l (ay h▸ .bool))
     |true=>exact g h
    |Or=>induction b using je with
     |false=>exact g h
     |true=>exact au (K _ y l (ay h▸ .bool))
theorem VM(S:aX c d I){op:BoolOp}:∀{es:List Expr} {x:Pt c},pZ (I.t F.nm σ) (Dw op) es=some bo->bB F x σ->aE A (allTrue op es F.env) x (Is bo):=by
 intro es;induction es with
 |nil=>intro x h X;cases op<;>exact oI h (.pure rfl)
 |cons e r ih=>
  intro x h X;refine aj h λb h1 h=>aE.bind (S.te h1 X) λb' y l q=>?_;have q:b'=b:=q;subst q;have g:=λh=>ih (x:=y) h (X.le l);cases op with
  |And=>cases b' with
   |false=>exact ay h▸ .pure rfl
   |true=>exact g h
  |Or=>cases b' with
   |false=>exact g h
   |true=>exact ay h▸ .pure rfl
theorem abo(S:aX c d I)(h:L8 I F.nm σ e=some bo)(X:bB F x σ):aE A (isTrue e F.env (eval e F.env)) x (Is bo):=λQ E K=>aL h λhp h=>aj h λv h1 h=>by
 have go:ai (ah pw c.w) A.A (eval e F.env) (λv bI=>ai (ah pw c.w) A.A (yB v) Q E bI) E x.s:=S.ev h1 X _ _ λu y l r=>(ae7 h r).from l K;induction e using eB with
 |Name=>exact Ko go
 |Call=>exact Ko go
 |BinOp=>exact Ko go
 |Attribute=>exact Ko go
 |_=>injection hp
theorem WM(S:aX c d I)(Or:cg c O d)(h:CV O I F.nm σ e=some bo)(X:bB F x σ):aE A (isTrue e F.env (eval e F.env)) x (Is bo):=by
 induction e using eB with
 |UnaryOp op e ps=>
  exact aL h λo h=>fM h λb h e=>o▸λQ E K=>isTrue_not (S.te h X _ _ λb' y l q=>K _ y l (e▸af not q))
 |BoolOp op es ps=>exact λQ E K=>wpAny_isTrue_BoolOp (VM S h X Q E K)
 |Compare l ops rs ps=>
  intro Q E K;refine D5 (PW (A:=A) (E:=E) (Q:=λv s=>ai (ah pw c.w) A.A (yB v) Q E s) S Or h X λy l=>wC (K _ y l rfl)) λop r bZ c4 hm w=>?_;subst bZ;subst c4;exact wpAny_isTrue_Compare1 w hm
 |_=>exact abo S h X
theorem afH(S:aX c d I)(ov:Ov c d)(Or:cg c O d)(Re:oQ c O d)(G:BJ c O d I J)(h:o0 O I J F.nm σ e=some p)(X:bB F x σ):aE A (eval e F.env) x (Rd p):=by
 induction e using eB with
 |Constant=>exact ac8 h
 |Name=>exact M6 h X
 |BinOp=>exact aa1 S Or Re h X
 |UnaryOp op e ps=>exact aL h λo h=>aj h λa h1 h=>o▸λQ E K=>wpAny_UnaryOp (S.ev h1 X _ _ λu y l r=>(abJ h r).from l K)
 |BoolOp op es ps=>exact(arm_eval_BoolOp ..).symm▸YG S h X
 |IfExp=>exact ο S h X
 |Compare=>exact fH h λb h=>aet S Or h X
 |List=>exact WX S h X
 |Tuple=>exact Xs S h X
 |Attribute=>exact ϙ S Or h X
 |Dict ks vs ps=>
  refine aL h λe h=>?_;cases jF e.1;cases jF e.2;exact λQ E K=>wpAny_Dict_empty (sQ (t:=x.s.toks) K rfl (ay h▸ .any))
 |ListComp=>exact ael S ov h X
 |Subscript=>exact Vn S h X
 |Call=>exact ad4 S Or Re G h X
 |_=>exact nS h
theorem aed{nm:aN}(S:aX c d I)(h:iS (I.e nm σ) es=some ls):∀e∈es,ik e=false:=by
 induction es generalizing ls with
 |nil=>exact nofun
 |cons e es ih=>exact aj h λv h1 h=>fM h λvs h2 _=>λe' m=>(bw m).elim (λq=>q▸zU (S.nn h1)) (ih h2 e')
structure G1(c:Cx)(O:aK)(d:Nat):Prop where
 ov:Ov c d
 Pm:cg c O d
 rest:oQ c O d
 gen:∀n,aX c d (ip n O)->aX c d (ip n {O with gens:=false})->BJ c O d (ip n O) (ip n {O with gens:=false})
theorem GS{nm:aN}(h:o0 O I J nm σ e=some p):ql e=true:=by
 cases e<;>first|rfl|exact nS h
theorem RX:∀n {O:aK},G1 c O d->G1 c {O with gens:=false} d->aX c d (ip n O):=by
 intro n;induction n with
 |zero=>exact λ_ _=>⟨λh=>nS h,λh=>nS h,λh=>nS h,λh=>nS h,λh=>nS h⟩
 |succ n ih=>
  intro O L L';have S:=ih L L';exact⟨GS,λh=>aj h λl h _=>aed S h,λh=>aj h λl _ h=>aL h λ_ h=>⟨l,(ay h).symm⟩,afH S L.ov L.Pm L.rest (L.gen n S (ih L' L')),WM S L.Pm⟩
end
end
inductive AV where
 |pv (p:PV)|own (l:List PV)|a7 (c:Nat) (fs:List (Str×PV)) (ow:List Str)|dl (ks:List Str) (n:Nat)
@[elab_as_elim] theorem lh{m:AV->Prop}(t:AV)(pv:∀p,m (.pv p))(own:∀l,m (.own l))(a7:∀c fs ow,m (.a7 c fs ow))(dl:∀ks n,m (.dl ks n)):m t:=AV.casesOn (motive:=m) t pv own a7 dl
abbrev ar:=List (Str×AV)
noncomputable def AV.val:AV->PV
 |.pv p=>p
 |.own l=>.list l
 |.a7 c fs _=>.inst c fs
 |.dl ..=>.any
noncomputable def AV.uf:AV->Option PV
 |.pv p=>some p
 |_=>none
noncomputable def bA(σ:ar):bj:=σ.map λp=>(p.1,p.2.val)
noncomputable def fJ(σ:ar):bj:=σ.filterMap λp=>p.2.uf.map λv=>(p.1,v)
noncomputable def PV.kind:PV->Nat
 |.none=>0|.bool _=>1|.int _=>2|.str _=>3|.tup _=>4|.list _=>5|.set _=>6|.d8 ..=>7|.any=>8
 |.inst c _=>9+c
def CY(p q:PV):Bool:=p.iU||q.iU||p.kind==q.kind
def nB(l m:List PV):Bool:=match l with
 |[]=>m.isEmpty
 |a::_=>match m with
  |[]=>false
  |b::_=>CY a b
mutual
def cf(ls:List (List PV))(cs:List (Nat×List Str)):PV->Bool
 |.tup l=>iw ls cs l
 |.list l=>ls.any (λm=>nB m l)||iw ls cs l
 |.inst c fs=>cs.any (λq=>q.1==c||q.2==fs.map (·.1))||vr ls cs fs
 |_=>false
def iw(ls:List (List PV))(cs:List (Nat×List Str)):List PV->Bool
 |[]=>false
 |p::r=>cf ls cs p||iw ls cs r
def vr(ls:List (List PV))(cs:List (Nat×List Str)):List (Str×PV)->Bool
 |[]=>false
 |(_,p)::r=>cf ls cs p||vr ls cs r
end
def wj(fs:List (Str×PV))(ow:List Str):List (List PV):=fs.filterMap λq=>if ow.contains q.1=true then q.2.ij else none
def I':AV->List (List PV)
 |.own l=>[l]
 |.a7 _ fs ow=>wj fs ow
 |_=>[]
noncomputable def GC:AV->List (Nat×List Str)
 |.a7 c fs _=>[(c,fs.map (·.1))]
 |_=>[]
def AV.seen(p:PV)(v:AV):Bool:=cf (I' v) (GC v) p
noncomputable def AV.kW:AV->Bool
 |.a7 ..=>true
 |_=>false
def fz(p:PV)(v:AV):AV:=match v with
 |.own l=>if cf [l] [] p=true then .pv (.list l) else .own l
 |v=>v
def dX(p:PV)(σ:ar):ar:=σ.map λq=>(q.1,fz p q.2)
inductive fZ where
 |next|ret (p:PV)|exc
noncomputable def fZ.g9:fZ->Bool
 |.next=>true
 |_=>false
abbrev aZ:=Option (fZ×ar)
def Wj:Expr->Bool:=EA.on {d:=false,BD:=λ_ _=>true}
def ry:Expr->Bool:=EA.on {d:=false,BD:=λ_ _=>true,AD:=λ_ _ _ _=>true,Ad:=λl op _ _=>Wj l&&op==.Mult}
def kh(σ:ar)(x:Str):Option AV:=if x=("__debug__":Str) then none else ak σ x
noncomputable def AV.own?:AV->Option (List PV)
 |.own l=>some l
 |_=>none
def gu(σ:ar)(x:Str):Option (List PV):=(kh σ x).bind AV.own?
def jU(l:List PV)(i v:PV):Option (List PV):=i.ei.bind λk=>if 0<=k/\k<l.length then some (l.set k.toNat v) else none
def uB(σ:ar)(x:Str):Bool:=((ak σ x).map AV.kW).getD false
def putN(nm:aN)(x:Str)(v:AV)(σ:ar):Option ar:=if(uB σ x&& !v.kW)=true then none else gY nm x v σ
def rO(nm:aN)(x:Str)(p:PV)(σ:ar):Option ar:=putN nm x (.pv p) σ
noncomputable def qF{α β:Type}(o:Option α)(f:α->Option β)(g:Option β):Option β:=match o with
 |some a=>f a
 |none=>g
def bX(ev:bj->Expr->Option PV)(σ:ar)(e:Expr):Option (PV×ar):=qF (ev (fJ σ) e) (λp=>some (p,σ))<|(ev (bA σ) e).bind λp=>if σ.any (λq=>q.2.kW&&q.2.seen p)=true then none else some (p,dX p σ)
noncomputable def C1(b:Bool)(p:PV):AV:=if b=true then(match p with
 |.list l=>.own l
 |p=>.pv p) else .pv p
def Js:Expr->Option Str:=EA.on {d:=none,Dc:=λc _ _=>(match c with
  |.str k=>some k
  |_=>none)}
def H5:Expr->Bool:=EA.on {d:=false,Dc:=λc _ _=>(match c with
  |.int i=>i==0
  |_=>false)}
def MQ:Expr->Option (List Expr):=EA.on {d:=none,BD:=λes _=>some es}
def vd:List (Option Expr)->List Expr->Option (List Str)
 |[],vs=>if vs.isEmpty=true then some [] else none
 |k::ks,vs=>(match vs with
  |[]=>none
  |v::vs=>k.bind λk=>(Js k).bind λk=>(MQ v).bind λes=>if es.isEmpty=true then(vd ks vs).map λr=>k::r else none)
def Av:Expr->Option (Expr×List Expr×List fj×Pos):=EA.on {d:=none,vM:=λf args kws p=>(some (f,args,kws,p))}
def JO:Expr->Option (Expr×Str×Pos):=EA.on {d:=none,vI:=λo m p=>(some (o,m,p))}
def H0:Expr->Option (Str×Pos):=EA.on {d:=none,l5:=λx p=>(some (x,p))}
def Iy(nm:aN)(v:Expr×Expr)(a b:Str×Pos):Bool:=ak nm a.1==some .local&&ak nm b.1==some .local&&a.1 !=b.1&&a.2.line==b.2.line&& !(yN 8 v.1&&yN 8 v.2)&& !(yO 8 v.1&&yO 8 v.2)
def V1(nm:aN)(es vs:List Expr):Bool:=((qG es).bind λe=>(qG vs).bind λv=>(H0 e.1).bind λa=>(H0 e.2).map (Iy nm v a))==some true
def X7(nm:aN)(es:List Expr)(p:PV)(σ:ar):Option ar:=(qG es).bind λe=>(iq e.1).bind λa=>(iq e.2).bind λb=>(p.Eh.bind qG).bind λq=>(rO nm b q.2 σ).bind (rO nm a q.1)
def IK(nm:aN)(es:List Expr)(k:Nat)(tp:Pos)(p:PV)(σ:ar):Expr->Option ar
 |.Tuple vs _ _=>if V1 nm es vs=true then X7 nm es p σ else none
 |.List ..|.Set ..=>none
 |_=>fT (rO nm) (.Tuple es k tp) p σ
def tV(O:aK)(op:ia)(a b:PV):Option PV:=match a with
 |.int i=>b.ei.bind λj=>if op=.Add then some (.int (i+j)) else if op=.Sub then some (.int (i-j)) else none
 |.inst c fs=>O.bin op (.inst c fs) b
 |_=>none
def Al:List (Nat×Str):=[(dm,"numerator"),(dm,"denominator"),(qz,"name"),(qz,"param"),(cK,"rule_id"),(cK,"shortname"),(cK,"longname"),(cK,"algorithms"),(cK,"resolute_values"),(cK,"available_algorithms"),
 (bx,"candidates"),(bx,"cand_names"),(bx,"_voters"),(iy,"approved"),(iy,"weight")]
def zG(fresh:Bool)(c:Nat)(fs:List (Str×PV))(ow:List Str)(y:Str)(p:PV):AV:=.a7 c (b9 fs y p) (if fresh=true/\p.ij.isSome=true then y::ow else ow.filter (· !=y))
noncomputable def Yh(xs:List Str)(q:Str×AV):Bool:= !(xs.contains q.1&&q.2.uf.isSome)
def zS(xs:List Str)(σ:ar):ar:=σ.filter (Yh xs)
noncomputable def eh(o:Option ar):aZ:=o.map λσ=>(.next,σ)
def xh(args:List Expr)(kws:List fj):Option Expr:=if kws.isEmpty=true then pC args else none
noncomputable def AV.lK:AV->Option (Nat×List (Str×PV)×List Str)
 |.a7 c fs ow=>some (c,fs,ow)
 |_=>none
noncomputable def AV.DK:AV->Option (List Str×Nat)
 |.dl ks n=>some (ks,n)
 |_=>none
section
variable(O:aK)(I:Ip)(nm:aN)(mu:List Str)(σ:ar)
def Sb(x:Str)(f:List PV->PV->List PV)(e:Expr):aZ:=(bX (I.e nm) σ e).bind λq=>(gu q.2 x).bind λl=>eh (putN nm x (.own (f l q.1)) q.2)
def afW(x m:Str)(args:List Expr)(kws:List fj)(l:List PV):aZ:=
 if l.length<aA then(if m=("append":Str) then(xh args kws).bind (Sb I nm σ x λl p=>l++[p])
  else if m=("insert":Str)/\kws.isEmpty=true then(qG args).bind λq=>if H5 q.1=true then Sb I nm σ x (λl p=>p::l) q.2 else none else none) else none
def VQ(x m:Str)(args:List Expr)(kws:List fj)(c:Nat)(fs:List (Str×PV))(ow:List Str):aZ:=
 (xh args kws).bind λe=>(bX (I.e nm) σ e).bind λq=>(O.mw c fs ow m [q.1]).bind λeY=>eh (putN nm x (.a7 c eY ow) q.2)
def NG(x m:Str)(args:List Expr)(kws:List fj)(same:Bool)(bC:aZ):Option AV->aZ
 |some (.own l)=>if same=true then afW I nm σ x m args kws l else none
 |some (.a7 c fs ow)=>if same=true then VQ O I nm σ x m args kws c fs ow else none
 |_=>bC
def aam(x f:Str)(args:List Expr)(kws:List fj):aZ:=(kh σ x).bind λv=>v.lK.bind λi=>if v9.contains (i.1,f)=true then(xh args kws).bind λe=>(bX (I.e nm) σ e).bind λq=>
 (ak i.2.1 f).bind λw=>w.ij.bind λl=>if i.2.2.contains f=true/\l.length<aA then eh (putN nm x (.a7 i.1 (b9 i.2.1 f (.list (l++[q.1]))) i.2.2) q.2) else none else none
def xDl(x k:Str)(args:List Expr)(kws:List fj):aZ:=(kh σ x).bind λv=>v.DK.bind λi=>if i.1.contains k=true/\i.2<aA then(xh args kws).bind λe=>(bX (I.e nm) σ e).bind λq=>eh (putN nm x (.dl i.1 (i.2+1)) q.2) else none
def L9(m:Str)(args:List Expr)(kws:List fj)(same:Bool)(bC:aZ):Expr->aZ:=EA.on {d:=none,l5:=λx _=>NG O I nm σ x m args kws same bC (kh σ x),vI:=λb f _=>((iq b).bind λx=>if m=("append":Str)/\same=true then aam I nm σ x f args kws else none),xX:=λb i _=>((iq b).bind λx=>(Js i).bind λk=>if m=("append":Str)/\same=true then xDl I nm σ x k args kws else none)}
def zO(e:Expr):aZ:=(I.e nm (bA σ) e).map λ_=>(.next,σ)
def Q3(e:Expr):aZ:=(Av e).bind λq=>qF (JO q.1) (λa=>L9 O I nm σ a.2.1 q.2.1 q.2.2.1 (a.2.2.endLine==q.2.2.2.line) (zO I nm σ e) a.1) (zO I nm σ e)
def Rf(e:Expr):Option Str:=(Av e).bind λq=>(JO q.1).bind λa=>(iq a.1).bind λy=>(xh q.2.1 q.2.2.1).bind λi=>if H5 i=true/\a.2.1=("pop":Str)/\a.2.2.endLine=q.2.2.2.line then some y else none
def Ye:Expr->Option (List (Option Expr)×List Expr):=EA.on {d:=none,HU:=λks vs _=>(if ks.isEmpty=true then none else some (ks,vs))}
def aaV(x C:Str)(args:List Expr)(kws:List fj):aZ:=(iS (I.e nm (fJ σ)) args).bind λvs=>(sP (I.e nm (fJ σ)) kws).bind λks=>if ak nm C=some .globalImplicit/\C≠("__debug__":Str)/\uB σ x=false then(O.make C vs ks).bind λr=>eh (putN nm x (.a7 r.1 r.2.1 r.2.2) σ) else none
def ZL(x y:Str):Option (List PV)->aZ
 |some (p::l)=>(putN nm y (.own l) σ).bind λσ=>eh (putN nm x (.pv p) σ)
 |_=>none
def IT(x:Str)(e:Expr):aZ:=(bX (I.e nm) σ e).bind λq=>eh (putN nm x (C1 (ry e&&mu.contains x) q.1) q.2)
def E6(e:Expr):Option (Str×List Expr×List fj):=(Av e).bind λq=>(iq q.1).map λC=>(C,q.2.1,q.2.2.1)
def OF(x:Str)(e:Expr):aZ:=qF (Rf e) (λy=>ZL nm σ x y (gu σ y))<|
 qF (Ye e) (λq=>(vd q.1 q.2).bind λr=>if r.Nodup/\r.length<=15 then eh (putN nm x (.dl r 0) σ) else none)<|
 qF (E6 e) (λq=>if mu.contains x=true then aaV O I nm σ x q.1 q.2.1 q.2.2 else IT I nm mu σ x e) (IT I nm mu σ x e)
def H2(e:Expr):Expr->aZ:=EA.on {d:=none,l5:=λx _=>OF O I nm mu σ x e,yk:=λes k tp=>((bX (I.e nm) σ e).bind λq=>eh (IK nm es k tp q.1 q.2 e)),xX:=λb i _=>((iq b).bind λx=>(bX (I.e nm) σ e).bind λq=>(gu q.2 x).bind λl=>(I.e nm (bA q.2) i).bind λk=>(jU l k q.1).bind λl'=>eh (putN nm x (.own l') q.2)),vI:=λb f _=>((iq b).bind λx=>(bX (I.e nm) σ e).bind λq=>(kh q.2 x).bind λv=>v.lK.bind λi=>if Al.contains (i.1,f)=true/\i.2.1.length<=100 then eh (putN nm x (zG (ry e) i.1 i.2.1 i.2.2 f q.1) q.2) else none)}
def O4(op:ia)(e:Expr):Expr->aZ:=EA.on {d:=none,l5:=λx _=>((kh σ x).bind λv=>v.uf.bind λa=>(bX (I.e nm) σ e).bind λq=>(tV O op a q.1).bind λp=>eh (putN nm x (.pv p) q.2)),xX:=λb i _=>((iq b).bind λx=>(gu σ x).bind λl=>(I.e nm (bA σ) i).bind λk=>(bP (.list l) k).bind λa=>(bX (I.e nm) σ e).bind λq=>
    (tV O op a q.1).bind λp=>(gu q.2 x).bind λl=>(jU l k p).bind λl'=>eh (putN nm x (.own l') q.2))}
def raises(σ:bj)(e:Expr):Bool:=((E6 e).bind λq=>if ak nm q.1=some .globalImplicit/\q.1≠("__debug__":Str) then(iS (I.e nm σ) q.2.1).bind λvs=>(sP (I.e nm σ) q.2.2).map λks=>O.nW q.1 vs ks else none).getD false
def sO(e:Expr):aZ:=qF (I.e nm (bA σ) e) (λp=>some (.ret p,σ))<|if raises O I nm (bA σ) e=true then some (.exc,σ) else none
def acy(e c:Option Expr):aZ:=if c.isNone=true then e.bind λe=>(E6 e).bind λq=>if q.1=("TiesException":Str)/\q.2.2.isEmpty=true/\ak nm q.1=some .globalImplicit then(iS (I.e nm (fJ σ)) q.2.1).bind λvs=>if vs.length<=aA then some (.exc,σ) else none else none else none
end
noncomputable def aS(X:ar->aH->aZ):List aH->ar->aZ
 |[],σ=>some (.next,σ)
 |st::r,σ=>(X σ st).bind λq=>if q.1.g9=true then aS X r q.2 else some q
def dZ(body:ar->aZ)(nm:aN)(t:Expr):List PV->ar->aZ
 |[],σ=>some (.next,σ)
 |v::r,σ=>(fT (rO nm) t v σ).bind λσ=>(body σ).bind λq=>if q.1.g9=true then dZ body nm t r q.2 else some q
def lu(t:Expr)(p:PV)(r:fZ×ar):aZ:=match p with
 |.inst ..=>if r.1.g9=true then some r else none
 |.set _=>some (r.1,zS (wl t) r.2)
 |_=>some r
def QT(O:aK)(I:Ip)(X:aN->List Str->ar->aH->aZ)(nm:aN)(mu:List Str)(σ:ar):aH->aZ
 |.Expr e _=>Q3 O I nm σ e
 |.Assign ts e _=>(pC ts).bind (H2 O I nm mu σ e)
 |.AugAssign t op e _=>O4 O I nm σ op e t
 |.If t b c _=>(I.t nm (bA σ) t).bind λr=>aS (X nm mu) (if r=true then b else c) σ
 |.While t b CB pos=>if CB.isEmpty=true then(I.t nm (bA σ) t).bind λr=>if r=true then(aS (X nm mu) b σ).bind λq=>if q.1.g9=true then X nm mu q.2 (.While t b [] pos) else some q else some (.next,σ) else none
 |.For t it b CB _=>if CB.isEmpty=true then(bX (I.e nm) σ it).bind λq=>over q.1 λsrc=>(dZ (aS (X nm mu) b) nm t src q.2).bind (lu t q.1) else none
 |.Return e _=>e.bind (sO O I nm σ)
 |.Raise e c _=>acy I nm σ e c
 |_=>none
def aw(O:aK):Nat->aN->List Str->ar->aH->aZ:=Nat.rec (λ_ _ _ _=>none) λn ih=>QT O (ip n O) ih
abbrev a9(O:aK)(n:Nat)(nm:aN)(mu:List Str)(σ:ar)(b:List aH):aZ:=aS (aw O n nm mu) b σ
section
variable{c:Cx}{b:ao}{u:ac}{p:PV}{V:List ao}{o:Obj}{F:Fm}{σ':ar}
section
variable{f f':Fz}{h h':am}{a:ao}{l m:List PV}{v:ac}{q:PV}{as N:List ao}{vs us:List (Str×ac)}{fs:List (Str×PV)}{ow:List Str}{x:Str}{k n:Nat}{ls:List (List PV)}{cs:List (Nat×List Str)}{D:ao->Prop}
def uu(c:Cx)(f:Fz)(h:am)(a:ao)(l:List PV):Prop:=(∃vals n,h.get? a=some (bu vals n)/\aR c f vals l)/\l.length<=aA
def sj(c:Cx)(f:Fz)(h:am)(ow:List Str)(x:Str)(v:ac)(p:PV)(N:List ao):Prop:=(ow.contains x=false/\aV c f v p/\N=[])\/(ow.contains x=true/\∃a l,v=.ref a/\p=.list l/\uu c f h a l/\N=[a])
def jj(c:Cx)(f:Fz)(h:am)(ow:List Str):List (Str×PV)->List (Str×ac)->List ao->Prop
 |[],vs,as=>vs=[]/\as=[]
 |p::fs,vs,as=> ∃v r N f7,vs=(p.1,v)::r/\as=N++f7/\sj c f h ow p.1 v p.2 N/\jj c f h ow fs r f7
def pz(c:Cx)(f:Fz)(h:am)(k:Nat)(fs:List (Str×PV))(ow:List Str)(a:ao)(U:List ao):Prop:=
 ∃dx es n vs as,h.get? a=some (l4 k dx)/\h.get? dx=some (rR es n)/\jQ c vs es/\jj c f h ow fs vs as/\U=a::dx::as/\(a::dx::as).Nodup/\(vs.map (·.1)).Nodup
def pe(h:am)(n:Nat):List (Str×ac)->List ao->Prop
 |[],as=>as=[]
 |p::vs,as=> ∃a r,p.2=.ref a/\as=a::r/\(∃vals k,h.get? a=some (bu vals k)/\vals.length<=n)/\pe h n vs r
def acE(c:Cx)(h:am)(ks:List Str)(n:Nat)(a:ao)(U:List ao):Prop:=∃vs as,h.DictOf (strKind pw c.w) a vs/\pe h n vs as/\vs.map (·.1)=ks/\U=a::as/\(a::as).Nodup
def jd(c:Cx)(f:Fz)(h:am)(v:AV)(u:ac)(U:List ao):Prop:=match v with
 |.pv p=>aV c f u p/\U=[]
 |.own l=> ∃a,u=.ref a/\uu c f h a l/\U=[a]
 |.a7 k fs ow=> ∃a,u=.ref a/\pz c f h k fs ow a U
 |.dl ks n=> ∃a,u=.ref a/\acE c h ks n a U
theorem uu.mono(o:uu c f h a l)(hk:∀o,h.get? a=some o->h'.get? a=some o)(hf:Sub f f'):uu c f' h' a l:=by
 obtain⟨⟨vals,n,e,r⟩,z⟩:=o;exact⟨(du vals n (hk _ e) (r.mono hf)),z⟩
theorem sj.mono(e:sj c f h ow x v p N)(hk:∀b o,b∈N->h.get? b=some o->h'.get? b=some o)(hf:Sub f f'):sj c f' h' ow x v p N:=by
 rcases e with⟨a,r,e⟩|⟨a,d,l,e1,e2,o,rfl⟩
 ·exact .inl (ej a (r.mono hf) e)
 ·exact .inr ⟨a,d,l,e1,e2,o.mono (λo e=>hk d o (.head _) e) hf,rfl⟩
theorem jj.mono(s:jj c f h ow fs vs as)(hk:∀b o,b∈as->h.get? b=some o->h'.get? b=some o)(hf:Sub f f'):jj c f' h' ow fs vs as:=by
 induction fs generalizing vs as with
 |nil=>exact s
 |cons q fs ih=>
  obtain⟨v,r,N,f7,e1,rfl,e,s⟩:=s;exact(vR v r N f7 e1 rfl (e.mono (λb o m=>hk b o (tn _ m)) hf) (ih s λb o m=>hk b o (fE _ m)))
theorem pe.mono{n':Nat}(s:pe h n vs as)(hk:∀b o,b∈as->h.get? b=some o->h'.get? b=some o)(hn:n<=n'):pe h' n' vs as:=by
 induction vs generalizing as with
 |nil=>exact s
 |cons q vs ih=>
  obtain⟨a,r,e,rfl,⟨vals,k,e1,z⟩,s⟩:=s;exact(uw a r e rfl (du vals k (hk a _ (.head _) e1) (aq z hn)) (ih s λb o m=>hk b o (.tail _ m)))
theorem jd.mono{v:AV}(s:jd c f h v u V)(hk:∀b o,b∈V->h.get? b=some o->h'.get? b=some o)(hf:Sub f f'):jd c f' h' v u V:=by
 cases v with
 |pv p=>exact⟨s.1.mono hf,s.2⟩
 |own l=>refine cP s λa e o c4=>?_;subst c4;exact(cz a e (o.mono (λo=>hk a o (.head _)) hf) rfl)
 |a7 k fs ow=>
  refine bE λgG hG=>?_;obtain⟨a,e,dx,es,n,vs,as,h1,h2,h3,h4,rfl,h6⟩:=s;exact hG (⟨a,e,dx,es,n,vs,as,hk _ _ (.head _) h1,hk _ _ (.tail _ (.head _)) h2,h3,h4.mono (λb o m=>hk b o (.tail _ (.tail _ m))) hf,rfl,h6⟩)
 |dl ks n=>
  refine bE λgG hG=>?_;obtain⟨a,e,vs,as,h1,h2,h3,rfl,h4⟩:=s;exact hG (⟨a,e,vs,as,h1.at λo=>hk a o (.head _),h2.mono (λb o m=>hk b o (.tail _ m)) (bf _),h3,rfl,h4⟩)
theorem jj.there(s:jj c f h ow fs vs as):∀b∈as,∃l,l∈wj fs ow/\uu c f h b l:=by
 induction fs generalizing vs as with
 |nil=>exact λb m=>mN (s.2▸m)
 |cons q fs ih=>
  obtain⟨v,r,N,f7,e1,rfl,e,s⟩:=s;intro b m;unfold wj;erw[B5];rcases e with⟨a,_,rfl⟩|⟨a,d,l,_,e2,o,rfl⟩
  ·erw[a];exact ih s b m
  ·refine aa (a) (aa (e2) ?_);rcases bw m with rfl|m
   ·exact(az l (.head _) o)
   ·refine aB (ih s b m) λl' k1 k2=>?_;exact(az l' (.tail _ k1) k2)
theorem pe.there(s:pe h n vs as):∀b∈as,∃o,h.get? b=some o:=by
 induction vs generalizing as with
 |nil=>exact λb m=>mN (s▸m)
 |cons q vs ih=>
  obtain⟨a,r,e,rfl,⟨vals,k,e1,z⟩,s⟩:=s;intro b m;rcases bw m with rfl|m
  ·exact⟨_,e1⟩
  ·exact ih s b m
theorem jd.there{v:AV}(s:jd c f h v u V)(b:ao)(m:b∈V):∃o,h.get? b=some o:=by
 cases v with
 |pv p=>exact mN (s.2▸m)
 |own l=>obtain⟨a,_,⟨⟨vals,n,e,_⟩,_⟩,rfl⟩:=s;exact cY m▸⟨_,e⟩
 |a7 k fs ow=>
  obtain⟨a,e,dx,es,n,vs,as,h1,h2,h3,h4,rfl,h6⟩:=s;rcases bw m with rfl|m
  ·exact⟨_,h1⟩
  ·rcases bw m with rfl|m
   ·exact⟨_,h2⟩
   ·obtain⟨_,_,⟨_,_,e,_⟩,_⟩:=h4.there b m;exact⟨_,e⟩
 |dl ks n=>
  refine bE λgG hG=>?_;obtain⟨a,e,vs,as,h1,h2,h3,rfl,h4⟩:=s;refine hG ?_;rcases bw m with rfl|m
  ·refine aB (am.dictOf_iff.mp h1) λo e _=>?_;exact⟨o,e⟩
  ·exact h2.there b m
def qy(f:Fz)(D:ao->Prop):Fz:=λa=>open Classical in if D a then none else f a
open Classical in
theorem Gx(e:qy f D a=some o):f a=some o/\¬D a:=fU e λn e=>⟨e,n⟩
open Classical in
theorem r9(e:f a=some o)(n:¬D a):qy f D a=some o:=(iN n).trans e
open Classical in
theorem Pu(e:¬D a->f a=none):qy f D a=none:=by
 by_cases q:D a
 ·exact iP q
 ·exact(iN q).trans (e q)
def s9(c:Cx)(f:Fz)(ls:List (List PV))(cs:List (Nat×List Str))(o:Obj):Prop:=
 (∃l∈ls,∃vals n,o=bu vals n/\aR c f vals l)\/(∃q∈cs,∃dx,o=l4 q.1 dx)\/(∃q∈cs,∃es n vs,o=rR es n/\jQ c vs es/\vs.map (·.1)=q.2)
theorem s9.mono{mR:List (List PV)}{mS:List (Nat×List Str)}(h1:∀l∈ls,l∈mR)(h2:∀q∈cs,q∈mS)(d:s9 c f ls cs o):s9 c f mR mS o:=
 d.imp (λd=>d.imp λl d=>⟨h1 l d.1,d.2⟩) λd=>d.imp (λd=>d.imp λq d=>⟨h2 q d.1,d.2⟩) λd=>d.imp λq d=>⟨h2 q d.1,d.2⟩
noncomputable def JI(o:Obj):Nat:=match o.cls with
 |.ref k=>9+k
 |.type t=>if t="tuple" then 4 else if t="list" then 5 else if t="set" then 6 else 7
 |_=>0
def Ou(f:Fz):ac->Nat
 |.none=>0|.bool _=>1|.int ..=>2|.str ..=>3
 |.ref a=>((f a).map JI).getD 0
 |_=>0
theorem Pp(r:aV c f v p):p.iU=true\/p.kind=Ou f v:=by
 have ref:∀{a o},f a=some o->Ou f (.ref a)=JI o:=λ{a o} e=>show((f a).map JI).getD 0=_ by erw[e];rfl
 induction p using dh with
 |none=>exact qC r (.inr rfl)
 |bool=>exact lH r (.inr rfl)
 |int=>exact bU r λ_=>.inr rfl
 |str=>exact jh r λ_=>.inr rfl
 |tup=>exact iX r λh _ _=>.inr (ref h).symm
 |list=>exact dY r λh _ _=>.inr (ref h).symm
 |set=>exact ly r λh _ _=>.inr (ref h).symm
 |d8=>exact p9 r λh _ _ _=>.inr (ref h).symm
 |inst=>exact sV r λh _ _ _=>.inr (ref h).symm
 |any=>exact .inl rfl
theorem XQ{vs:List ac}(r:aR c f vs l)(r':aR c f vs m):nB l m=true:=by
 induction l using bO with
 |nil=>induction m using bO with
  |nil=>rfl
  |cons=>exact iR (m:=λvs=>aR c f vs (_::_)->_) r (λr=>(eC (m:=λvs=>vs=[]->_) r λ_ _ e=>ln e) rfl) r'
 |cons p l=>induction m using bO with
  |nil=>exact iR (m:=λvs=>aR c f vs (_::_)->_) r' (λr=>(eC (m:=λvs=>vs=[]->_) r λ_ _ e=>ln e) rfl) r
  |cons q m=>
   refine eC (m:=λvs=>aR c f vs (q::m)->CY p q=true) r (λa _ r'=>?_) r';refine LV (m:=λl=>l=q::m->CY p q=true) r' (λb _ e=>?_) rfl;injection e with e
   subst e;unfold CY;rcases Pp a with a|a
   ·erw[a];rfl
   ·rcases Pp b with b|b
    ·erw[b];rw[Bool.or_true];rfl
    ·rw[a,b,beq_self_eq_true,Bool.or_true]
theorem adt{es:List pN}(e:jQ c vs es)(e':jQ c us es):vs.map (·.1)=us.map (·.1):=by
 induction vs generalizing us es with
 |nil=>
  cases(e:es=[]);induction us using bO with
  |nil=>rfl
  |cons=>refine eH e' λ_ _ e' _=>?_;exact nl e'
 |cons p vs ih=>
  obtain⟨t,r,rfl,e⟩:=e;induction us using bO with
  |nil=>exact ln (e':_::_=[])
  |cons q us=>
   refine eH e' λt' r' e1 e'=>?_;injection e1 with e1 e2
   subst e2;injection e1 with _ e1
   injection e1 with e1
   refine aa (oz) (aa (oz) (aa (ih e e') (aa (e1) ?_)));rfl
theorem Xl(r:bN c f vs fs):vs.map (·.1)=fs.map (·.1):=by
 induction fs generalizing vs with
 |nil=>exact sR r rfl
 |cons q fs ih=>exact pg r λ_ r=>af (q.1:: ·) (ih r)
theorem De{s t:String}{o o':Obj}{P:Prop}(e:o=o')(h:o.cls=.type s)(h':o'.cls=.type t)(n:s≠t):P:=absurd (iE.inj (h.symm.trans ((af uQ e).trans h'))) n
theorem s9.G6{s:String}(d:s9 c f ls cs o)(e:o.cls=.type s)(h1:s≠ "list")(h2:s≠ "dict"):False:=by
 rcases d with⟨_,_,_,_,q,_⟩|⟨_,_,_,q⟩|⟨_,_,_,_,_,q,_⟩
 ·exact De q e rfl h1
 ·nomatch e.symm.trans (af uQ q)
 ·exact De q e rfl h2
theorem eT{a b:Bool}(h:(a||b)=false):a=false/\b=false:=rh.mp h
theorem aV.gL(hD:∀a o,D a->f a=some o->s9 c f ls cs o)(r:aV c f v p)(q:cf ls cs p=false):aV c (qy f D) v p:=
 PV.rec (motive_1:=λp=> ∀v,aV c f v p->cf ls cs p=false->aV c (qy f D) v p) (motive_2:=λl=> ∀v,aR c f v l->iw ls cs l=false->aR c (qy f D) v l) (motive_3:=λl=> ∀v,bN c f v l->vr ls cs l=false->bN c (qy f D) v l) (motive_4:=λq=> ∀v,aV c f v q.2->cf ls cs q.2=false->aV c (qy f D) v q.2)
  (λ_ r _=>r) (λ_ _ r _=>r) (λ_ _ r _=>r) (λ_ _ r _=>r) (λ_ ih _ r q=>iX r λh r z=>.tup (r9 h λk=>(hD _ _ k h).G6 rfl (by decide) (by decide)) (ih _ r q) z)
  (λl ih _ r q=>dY r λ{a n vs} h r z=>.list (r9 h λk=>by
   rcases hD _ _ k h with⟨l',m,vals,n',e,rl⟩|⟨_,_,_,e⟩|⟨_,_,_,_,_,e,_⟩
   ·injection e with _ _ e;injection e with e;injection e with e
    exact u3.mp (eT q).1 _ m (XQ rl (e▸r))
   ·nomatch af uQ e
   ·exact De e rfl rfl (by decide)) (ih _ r (eT q).2) z)
  (λ_ _ r _=>ly r λh=>.set (r9 h λk=>(hD _ _ k h).G6 rfl (by decide) (by decide))) (λ_ _ _ r _=>p9 r λh=>.d8 (r9 h λk=>(hD _ _ k h).G6 rfl (by decide) (by decide)))
  (λk fs ih _ r q=>sV r λ{a dx n es vs} h g e r=>.inst (r9 h λkk=>by
   rcases hD _ _ kk h with⟨_,_,_,_,e,_⟩|⟨q',m,_,e⟩|⟨_,_,_,_,_,e,_⟩
   ·nomatch af uQ e
   ·exact u3.mp (eT q).1 _ m (Lb.mpr (.inl (jV (pL.inj (af uQ e)).symm)))
   ·nomatch af uQ e) (r9 g λkk=>by
   rcases hD _ _ kk g with⟨_,_,_,_,e,_⟩|⟨_,_,_,e⟩|⟨q',m,d0,n',wY,e1,e2,e3⟩
   ·exact De e rfl rfl (by decide)
   ·nomatch af uQ e
   ·injection e1 with _ _ e1;injection e1 with e1;injection e1 with e1
    exact u3.mp (eT q).1 _ m (Lb.mpr (.inr (jV (e3.symm.trans ((adt e2 (e1▸e)).trans (Xl r))))))) e (ih _ r (eT q).2)) (λ_ r _=>r)
  (λ_ r _=>r) (λ_ _ a b _ r q=>eC r λu us=>.cons (a _ u (eT q).1) (b _ us (eT q).2)) (λ_ r _=>r) (λ_ _ a b _ r q=>pg r λu us=>.cons (a _ u (eT q).1) (b _ us (eT q).2)) (λ_ _ a=>a) p v r q
theorem aR.gL{vs:List ac}(hD:∀a o,D a->f a=some o->s9 c f ls cs o)(r:aR c f vs l)(q:iw ls cs l=false):aR c (qy f D) vs l:=by
 induction l generalizing vs with
 |nil=>exact r
 |cons p l ih=>exact eC r λa r=>.cons (a.gL hD (eT q).1) (ih r (eT q).2)
noncomputable def AV.ja:AV->Bool
 |.own _|.a7 ..=>true
 |_=>false
theorem aaj(s:jj c f h ow fs vs as)(hf:Sub f f')(hk:∀b o,b∈as->h.get? b=some o->f' b=some o):bN c f' vs fs:=by
 induction fs generalizing vs as with
 |nil=>exact s.1▸ .nil
 |cons q fs ih=>
  obtain⟨v,r,N,f7,rfl,rfl,e,s⟩:=s;refine .cons ?_ (ih s λb o m=>hk b o (fE _ m));rcases e with⟨_,r,_⟩|⟨_,a,l,rfl,e2,⟨⟨vals,n,e,r⟩,z⟩,rfl⟩
  ·exact r.mono hf
  ·erw[e2];exact .list (hk _ _ (.head _) e) (r.mono hf) z
theorem HK{v:AV}(s:jd c f h v u V)(hf:Sub f f')(hk:v.ja=true->∀b o,b∈V->h.get? b=some o->f' b=some o):aV c f' u v.val:=by
 induction v using lh with
 |pv p=>exact s.1.mono hf
 |own l=>obtain⟨a,rfl,⟨⟨vals,n,e,r⟩,z⟩,rfl⟩:=s;exact .list (hk rfl _ _ (.head _) e) (r.mono hf) z
 |a7 k fs ow=>
  refine bE λgG hG=>?_;obtain⟨a,rfl,dx,es,n,vs,as,h1,h2,h3,h4,rfl,h6⟩:=s;exact hG (.inst (hk rfl _ _ (.head _) h1) (hk rfl _ _ (.tail _ (.head _)) h2) h3 (aaj h4 hf λb o m=>hk rfl b o (.tail _ (.tail _ m))))
 |dl=>exact .any
theorem R7(s:jj c f h ow fs vs as):vs.map (·.1)=fs.map (·.1):=by
 induction fs generalizing vs as with
 |nil=>exact s.1▸rfl
 |cons q fs ih=>obtain⟨v,r,N,f7,rfl,rfl,e,s⟩:=s;exact af (q.1:: ·) (ih s)
theorem ad7{v:AV}(s:jd c f h v u V)(hv:v.ja=true)(hf:Sub f f')(m:b∈V)(e:h.get? b=some o):s9 c f' (I' v) (GC v) o:=by
 induction v using lh with
 |pv=>injection hv
 |dl=>injection hv
 |own l=>
  refine bE λgG hG=>?_;obtain⟨a,rfl,⟨⟨vals,n,e',r⟩,z⟩,rfl⟩:=s;cases cY m;exact hG (oI (e'.symm.trans e) (.inl ⟨l,.head _,vals,n,rfl,r.mono hf⟩))
 |a7 k fs ow=>
  refine bE λgG hG=>?_;obtain⟨a,rfl,dx,es,n,vs,as,h1,h2,h3,h4,rfl,h6⟩:=s;refine hG ?_;rcases bw m with rfl|m
  ·exact oI (h1.symm.trans e) (.inr (.inl ⟨_,.head _,dx,rfl⟩))
  ·rcases bw m with rfl|m
   ·exact oI (h2.symm.trans e) (.inr (.inr ⟨_,.head _,es,n,vs,rfl,h3,R7 h4⟩))
   ·refine bE λgG hG=>?_;obtain⟨l,k1,⟨vals,n',e',r⟩,z⟩:=h4.there b m;exact hG (oI (e'.symm.trans e) (.inl ⟨l,k1,vals,n',rfl,r.mono hf⟩))
theorem ϓ{mR:List (List PV)}{mS:List (Nat×List Str)}:cf ls cs p=false->cf mR mS p=false->cf (ls++mR) (cs++mS) p=false:=
 PV.rec (motive_1:=λp=>cf ls cs p=false->cf mR mS p=false->cf (ls++mR) (cs++mS) p=false) (motive_2:=λl=>iw ls cs l=false->iw mR mS l=false->iw (ls++mR) (cs++mS) l=false) (motive_3:=λl=>vr ls cs l=false->vr mR mS l=false->vr (ls++mR) (cs++mS) l=false) (motive_4:=λq=>cf ls cs q.2=false->cf mR mS q.2=false->cf (ls++mR) (cs++mS) q.2=false)
  (λh _=>h) (λ_ h _=>h) (λ_ h _=>h) (λ_ h _=>h) (λ_ ih=>ih) (λ_ ih h h'=>rh.mpr ⟨List.any_append.trans (rh.mpr ⟨(eT h).1,(eT h').1⟩),ih (eT h).2 (eT h').2⟩) (λ_ h _=>h) (λ_ _ h _=>h)
  (λ_ _ ih h h'=>rh.mpr ⟨List.any_append.trans (rh.mpr ⟨(eT h).1,(eT h').1⟩),ih (eT h).2 (eT h').2⟩) (λh _=>h) (λh _=>h) (λ_ _ a b h h'=>rh.mpr ⟨a (eT h).1 (eT h').1,b (eT h).2 (eT h').2⟩) (λh _=>h) (λ_ _ a b h h'=>rh.mpr ⟨a (eT h).1 (eT h').1,b (eT h).2 (eT h').2⟩) (λ_ _ a=>a) p
theorem J2:cf [] [] p=false:=
 PV.rec (motive_1:=λp=>cf [] [] p=false) (motive_2:=λl=>iw [] [] l=false) (motive_3:=λl=>vr [] [] l=false) (motive_4:=λq=>cf [] [] q.2=false) rfl (λ_=>rfl) (λ_=>rfl) (λ_=>rfl) (λ_ ih=>ih) (λ_ ih=>ih) (λ_=>rfl) (λ_ _=>rfl) (λ_ _ ih=>ih) rfl
  rfl (λ_ _ a b=>rh.mpr ⟨a,b⟩) rfl (λ_ _ a b=>rh.mpr ⟨a,b⟩) (λ_ _ a=>a) p
def BE(σ:ar):List (List PV):=σ.flatMap λq=>I' q.2
def AH(σ:ar):List (Nat×List Str):=σ.flatMap λq=>GC q.2
theorem aar{σ:ar}(h:∀q∈σ,q.2.seen p=false):cf (BE σ) (AH σ) p=false:=by
 induction σ with
 |nil=>exact J2
 |cons q σ ih=>exact ϓ (h q (.head _)) (ih λq m=>h q (.tail _ m))
end
section
variable{α β:Type}{l:List (Str×α)}{z y:Str}{v:α}
theorem Hc(nd:(l.map (·.1)).Nodup)(m:(z,v)∈l):ak l z=some v:=by
 induction l with
 |nil=>exact mN m
 |cons q r ih=>
  have n:=iV nd;rcases bw m with e|m
  ·subst e;exact iP rfl
  ·exact(iN λe:q.1=z=>n.1 (e.symm▸qW (f:=(·.1)) m:q.1∈r.map (·.1))).trans (ih n.2 m)
theorem G7{g:α->β}:ak (l.map λq=>(q.1,g q.2)) z=(ak l z).map g:=by
 induction l with
 |nil=>rfl
 |cons q r ih=>
  obtain⟨y,u⟩:=q;show(if y=z then some (g u) else ak (r.map λq=>(q.1,g q.2)) z)=(if y=z then some u else ak r z).map g;by_cases e:y=z
  ·erw[iP e];erw[iP e];rfl
  ·refine aa (iN e) (aa (iN e) (aa (ih) ?_));rfl
theorem Xa(h:y∈(b9 l z v).map (·.1)):y=z\/y∈l.map (·.1):=by
 induction l with
 |nil=>exact .inl (cY h)
 |cons q r ih=>
  obtain⟨k,u⟩:=q;by_cases e:k=z
  ·rw[show b9 ((k,u)::r) z v=(z,v)::r from iP e] at h;exact(bw h).imp id λh=>.tail _ h
  ·rw[show b9 ((k,u)::r) z v=(k,u)::b9 r z v from iN e] at h;exact(bw h).elim (λh=>.inr (h▸ .head _)) λh=>(ih h).imp id λh=>.tail _ h
theorem PT(h:(l.map (·.1)).Nodup):((b9 l z v).map (·.1)).Nodup:=by
 induction l with
 |nil=>exact nL ⟨eX,wJ⟩
 |cons q r ih=>
  obtain⟨k,u⟩:=q;have n:=iV h;by_cases e:k=z
  ·erw[(show b9 ((k,u)::r) z v=(z,v)::r from iP e)];exact nL ⟨e▸n.1,n.2⟩
  ·erw[(show b9 ((k,u)::r) z v=(k,u)::b9 r z v from iN e)];exact nL ⟨λm=>(Xa m).elim e n.1,ih n.2⟩
end
noncomputable def xE(U:Str->List ao)(x:Str)(V:List ao):Str->List ao:=λy=>if y=x then V else U y
structure St(c:Cx)(F:Fm) where
 x:Pt c
 σ:ar
 U:Str->List ao
 nd:(σ.map (·.1)).Nodup
 cR:∀z a,F.env.cells.lookup z=some a->∃v,x.s.heap.IsCell a v
 o:jG F x
 own:∀z v,ak σ z=some v->∃u,dB F.env x.s.heap z u/\jd c x.f x.s.heap v u (U z)
 fresh:∀z v,ak σ z=some v->∀b∈U z,bV x b/\¬dq F.env b
 dj:∀z y v u,z≠y->ak σ z=some v->ak σ y=some u->∀b∈U z,b∉U y
def WU{c:Cx}{F:Fm}(P:St c F)(b:ao):Prop:=t7 F b\/∃z v,ak P.σ z=some v/\b∈P.U z
structure bD{c:Cx}{F:Fm}(P Q:St c F):Prop where
 st:cH (WU P) P.x Q.x
 wu:∀b,WU Q b->WU P b\/P.x.s.heap.get? b=none
 a7:∀z k fs ow a,ak P.σ z=some (.a7 k fs ow)->dB F.env P.x.s.heap z (.ref a)->(∃eY ow',ak Q.σ z=some (.a7 k eY ow'))/\dB F.env Q.x.s.heap z (.ref a)
section
variable{P Q R:St c F}{y w:Pt c}{z q:Str}{v:AV}{D:ao}{W:ao->Prop}{g:Nat}{ex:Str->Prop}
theorem U7{σ:ar}(nd:(σ.map (·.1)).Nodup)(h:ak (fJ σ) z=some p):ak σ z=some (.pv p):=by
 obtain⟨⟨y,v⟩,m,e⟩:=ag1.mp (gM h);refine aB (tz.mp e) λp' e1 e2=>?_;induction v using lh with
 |pv p''=>cases ay e1;injection e2 with e2 e3;subst e2 e3;exact Hc nd m
 |_=>exact nS e1
theorem St.vars(P:St c F):bB F P.x (fJ P.σ):=⟨P.cR,λz p h=>aB (P.own z _ (U7 P.nd h)) λu V a=>(az u V a.1)⟩
theorem St.G9(P:St c F)(h:dq F.env b):∃o,P.x.s.heap.get? b=some o:=by
 rcases h with rfl|⟨z,e⟩
 ·refine tI P.o.ns λm o es ep e _=>?_;exact⟨o,e⟩
 ·refine eH (P.cR z b e) λv o e _=>?_;exact⟨o,e⟩
theorem St.there(P:St c F)(h:ak P.σ z=some v)(m:b∈P.U z):∃o,P.x.s.heap.get? b=some o:=by refine aB (P.own z v h) λu _ a=>?_;exact a.there b m
theorem St.Z7(P:St c F)(h:WU P b):¬dA b:=h.elim (λh=>qM (nX h)) λh=>by refine eH h λz v h m=>?_;exact cN (P.fresh z v h b m).1.hi
theorem St.wi(P:St c F)(n:P.x.s.heap.get? b=none):¬dq F.env b:=λh=>(P.G9 h).elim λo e=>nS (n.symm.trans e)
theorem St.xc(P:St c F)(n:P.x.s.heap.get? b=none)(h:ak P.σ z=some v):b∉P.U z:=λm=>(P.there h m).elim λo e=>nS (n.symm.trans e)
structure kT(P:St c F)(y:Pt c)(ex:Str->Prop):Prop where
 sub:Sub P.x.f y.f
 old:∀q v,¬ex q->dB F.env P.x.s.heap q v->dB F.env y.s.heap q v
 cR:∀z a,F.env.cells.lookup z=some a->∃v,y.s.heap.IsCell a v
 o:jG F y
 keep:∀q v,¬ex q->ak P.σ q=some v->∀b∈P.U q,bV y b/\∀o,P.x.s.heap.get? b=some o->y.s.heap.get? b=some o
theorem kT.Nj(U:kT P y ex)(n:¬ex q)(h:ak P.σ q=some v):∃u,dB F.env y.s.heap q u/\jd c y.f y.s.heap v u (P.U q):=aB (P.own q v h) λu V a=>(az u (U.old q u n V) (a.mono (λb o m e=>(U.keep q v n h b m).2 o e) U.sub))
theorem kT.yj(l:br W g P.x y)(h1:∀b,W b->¬dq F.env b)(h2:∀q v,¬ex q->ak P.σ q=some v->∀b∈P.U q,¬W b):kT P y ex:=by
 have kv:∀b o,dq F.env b->P.x.s.heap.get? b=some o->y.s.heap.get? b=some o:=λb o w e=>l.e.keep b o e (qM w) λq=>h1 b q w;refine⟨l.sub,λq v _ V=>V.keep kv,λz a e=>?_,⟨?_,P.o.own.step l (P.G9 (.inl rfl)) λq=>h1 _ q (.inl rfl),P.o.loc,λz e=>?_⟩,λq v n h b m=>⟨(P.fresh q v h b m).1.step l (P.there h m) (h2 q v n h b m),λo e=>l.e.keep b o e (cN (P.fresh q v h b m).1.hi) (h2 q v n h b m)⟩⟩
 ·refine eH (P.cR z a e) λv o e1 e2=>?_;exact(du v o (kv a o (.inr ⟨z,e⟩) e1) e2)
 ·obtain⟨m,n⟩:=P.o.ns;exact⟨m,n.at' λo e=>kv _ o (.inl rfl) e⟩
 ·obtain⟨k1,a,b,n⟩:=P.o.kQ z e;exact⟨k1,a,b,n.step l (P.G9 (.inr ⟨z,b⟩)) λq=>h1 _ q (.inr ⟨z,b⟩)⟩
theorem kT.adh(S:zD F z u P.x y):kT P y (· =z):=⟨(S.wr 0).sub,λq v n V=>S.old q v n V,S.cR,S.r,λq v n h b m=>⟨(S.wr 0).free (P.fresh q v h b m).1,λo e=>(S.wr 0).e.keep b o e (cN (P.fresh q v h b m).1.hi) λw=>(P.fresh q v h b m).2 (nX w)⟩⟩
noncomputable def St.move(P:St c F)(y:Pt c)(U:kT P y λ_=>False):St c F where
 x:=y
 σ:=P.σ
 U:=P.U
 nd:=P.nd
 cR:=U.cR
 o:=U.o
 own z v h:=U.Nj id h
 fresh z v h b m:=⟨(U.keep z v id h b m).1,(P.fresh z v h b m).2⟩
 dj:=P.dj
structure Ep(P:St c F)(y:Pt c)(z:Str)(v:AV)(V:List ao):Prop where
 nv:∃u,dB F.env y.s.heap z u/\jd c y.f y.s.heap v u V
 fr:∀b∈V,bV y b/\¬dq F.env b
 ap:∀b∈V,∀q v,q≠z->ak P.σ q=some v->b∉P.U q
theorem I_{U:Str->List ao}:xE U z V z=V:=iP rfl
theorem Z_{U:Str->List ao}(n:q≠z):xE U z V q=U q:=iN n
theorem xk{U:Str->List ao}(e:q=z)(m:b∈xE U z V q):b∈V:=Eq.mp (af (b∈ ·) (iP e)) m
theorem sG{U:Str->List ao}(e:q≠z)(m:b∈xE U z V q):b∈U q:=Eq.mp (af (b∈ ·) (iN e)) m
def St.put(P:St c F)(y:Pt c)(z:Str)(v:AV)(V:List ao)(U:kT P y (· =z))(N:Ep P y z v V):St c F where
 x:=y
 σ:=b9 P.σ z v
 U:=xE P.U z V
 nd:=PT P.nd
 cR:=U.cR
 o:=U.o
 own q u h:=sY h (λe e'=>by erw[e];erw[e'];erw[I_];exact N.nv) λn h=>by erw[Z_ n];exact U.Nj n h
 fresh q u h b m:=sY h (λe _=>N.fr b (xk e m)) λn h=>⟨(U.keep q u n h b (sG n m)).1,(P.fresh q u h b (sG n m)).2⟩
 dj q r a d n h1 h2 b m m':=sY h1 (λe _=>sY h2 (λe' _=>n (e.trans e'.symm)) λn' h2=>N.ap b (xk e m) r d n' h2 (sG n' m'))
  λn' h1=>sY h2 (λe _=>N.ap b (xk e m') q a n' h1 (sG n' m)) λn'' h2=>P.dj q r a d n h1 h2 b (sG n' m) (sG n'' m')
noncomputable def St.weak(P:St c F)(σ':ar)(nd:(σ'.map (·.1)).Nodup)(h:∀z v,ak σ' z=some v->ak P.σ z=some v):St c F:=
 {P with σ:=σ',nd:=nd,own:=λz v e=>P.own z v (h z v e),fresh:=λz v e=>P.fresh z v (h z v e),dj:=λz y v u n e1 e2=>P.dj z y v u n (h z v e1) (h y u e2)}
theorem bD.refl(P:St c F):bD P P:=⟨.refl,λ_=>.inl,λ_ _ fs ow _ h V=>⟨(jH fs ow h),V⟩⟩
theorem bD.DD(a:bD P Q)(l:cH W Q.x y)(h:∀b,W b->WU P b\/P.x.s.heap.get? b=none):cH (WU P) P.x y:=br.shrink (W':=λb=>WU P b\/P.x.s.heap.get? b=none) (cH.trans (a.st.weaken λ_=>.inl) (l.weaken h)) λ_=>id
theorem bD.trans(a:bD P Q)(b:bD Q R):bD P R where
 st:=a.DD b.st a.wu
 wu c q:=(b.wu c q).elim (a.wu c) λn=>(a.st.e.back (R.Z7 q) n).symm
 a7 z k fs ow x h V:=by
  obtain⟨⟨eY,ow',h'⟩,V'⟩:=a.a7 z k fs ow x h V;exact b.a7 z k eY ow' x h' V'
theorem bD.move(a:bD P Q){U:kT Q y λ_=>False}(l:cH W Q.x y)(h:∀b,W b->WU P b\/P.x.s.heap.get? b=none):bD P (Q.move y U):=⟨a.DD l h,a.wu,λz k fs ow x e V=>(a.a7 z k fs ow x e V).imp id (U.old z _ id)⟩
theorem bD.put(a:bD P Q){U:kT Q y (· =z)}{N:Ep Q y z v V}(l:cH W Q.x y)(h:∀b,W b->WU P b\/P.x.s.heap.get? b=none)(hV:∀b∈V,WU P b\/P.x.s.heap.get? b=none)
(sl:∀k fs ow a,ak Q.σ z=some (.a7 k fs ow)->dB F.env Q.x.s.heap z (.ref a)->(∃eY ow',v=.a7 k eY ow')/\dB F.env y.s.heap z (.ref a)):bD P (Q.put y z v V U N) where
 st:=a.DD l h
 wu b q:=q.elim (λq=>a.wu b (.inl q)) λq=>eH q λr d h m=>sY h (λe _=>hV b (xk e m)) λn h=>a.wu b (.inr (du r d h (sG n m)))
 a7 r k fs ow d h V':=by
  obtain⟨⟨eY,ow',h'⟩,Uc⟩:=a.a7 r k fs ow d h V';by_cases e:r=z
  ·subst e;obtain⟨⟨fs2,Ud,e⟩,V3⟩:=sl k eY ow' d h' Uc;exact⟨(jH fs2 Ud (vA.trans ((iP rfl).trans (af some e)))),V3⟩
  ·exact⟨(jH eY ow' (vA.trans ((iN e).trans h'))),U.old r _ e Uc⟩
theorem bD.weak{nd:(σ'.map (·.1)).Nodup}{h:∀z v,ak σ' z=some v->ak P.σ z=some v}(s:∀z k fs ow,ak P.σ z=some (.a7 k fs ow)->ak σ' z=some (.a7 k fs ow)):bD P (P.weak σ' nd h):=
 ⟨.refl,λb q=>.inl (q.imp id λ⟨z,v,e,m⟩=>(du z v (h z v e) m)),λz k fs ow a e V=>⟨(jH fs ow (s z k fs ow e)),V⟩⟩
theorem kT.le(l:Le P.x y):kT P y ex:=.yj (W:=λ_=>False) (g:=0) l.st (λ_=>False.elim) λ_ _ _ _ _ _=>id
noncomputable def St.le(P:St c F)(l:Le P.x y):St c F:=P.move y (.le l)
theorem bD.le(l:Le P.x y):bD P (P.le l):=(bD.refl P).move (W:=λ_=>False) l.st λ_=>False.elim
def mA(P:St c F)(σ:ar)(b:ao):Prop:=∃z v,ak σ z=some v/\v.ja=true/\b∈P.U z
def AK(P:St c F):Fz:=λb=>open Classical in if mA P P.σ b then P.x.s.heap.get? b else P.x.f b
open Classical in
theorem Df{X:Prop}(e:AK P b=some o)(k1:mA P P.σ b->P.x.s.heap.get? b=some o->X)(k2:P.x.f b=some o->X):X:=d6 e k1 λ_=>k2
open Classical in
theorem OA(h:mA P P.σ b):AK P b=P.x.s.heap.get? b:=iP h
open Classical in
theorem RS(h:¬mA P P.σ b):AK P b=P.x.f b:=iN h
theorem mA.free(h:mA P P.σ b):bV P.x b/\¬dq F.env b:=by refine sH h λz v h _ m=>?_;exact P.fresh z v h b m
theorem zI:Sub P.x.f (AK P):=λb o e=>(RS λq=>nS (q.free.1.f.symm.trans e)).trans e
def St.ja(P:St c F):Pt c where
 s:=P.x.s
 f:=AK P
 keep:=P.x.keep
 tab:=P.x.tab
 K a o e:=zI a o (P.x.K a o e)
 nt a o e:=Df e (λq _=>cN q.free.1.hi) (P.x.nt a o)
 hs a o e:=Df e (λ_=>id) (P.x.hs a o)
theorem St.sM(P:St c F):bB F P.ja (bA P.σ):=⟨P.cR,λz p h=>by
 refine aB (tz.mp (G7.symm.trans h)) λv h' bZ=>?_;subst bZ;exact aB (P.own z v h') λu V a=>(az u V (HK a zI λhv b o m e=>(OA (yg z v h' hv m)).trans e))⟩
theorem OL(h:(fz p v).ja=true):fz p v=v:=by
 induction v using lh with
 |own l=>
  by_cases q:cf [l] [] p=true
  ·rw[show fz p (.own l)=.pv (.list l) from iP q] at h;injection h
  ·exact iN q
 |_=>rfl
theorem A2:ak (dX p P.σ) z=(ak P.σ z).map (fz p):=G7
theorem W6{σ:ar}:(dX p σ).map (·.1)=σ.map (·.1):=by unfold dX;erw[jr];rfl
theorem Jl(h:mA P (dX p P.σ) b):mA P P.σ b:=by
 refine sH h λz v' h hv m=>aB (tz.mp (A2.symm.trans h)) λv h' bZ=>?_;subst bZ;exact(yg z v h' (OL hv▸hv) m)
def Pt.drop(y:Pt c)(D:ao->Prop)(h:∀a o,(KL c.w.params).lookup a=some o->¬D a):Pt c where
 s:=y.s
 f:=qy y.f D
 keep:=y.keep
 tab:=y.tab
 K a o e:=r9 (y.K a o e) (h a o e)
 nt a o e:=y.nt a o (Gx e).1
 hs a o e:=y.hs a o (Gx e).1
structure Ox(P:St c F)(p:PV)(y:Pt c)(Q:St c F):Prop where
 R:bD P Q
 s:Q.x.s=y.s
 σ:Q.σ=dX p P.σ
 rd:∀v q,Rd q y v->cf (BE (dX p P.σ)) (AH (dX p P.σ)) q=false->Rd q Q.x v
 Wk:∀vs l,bt l y vs->iw (BE (dX p P.σ)) (AH (dX p P.σ)) l=false->bt l Q.x vs
 n:∀a,y.f a=none->Q.x.f a=none
 back:∀z v,ak Q.σ z=some v->∀b∈Q.U z,∃v',ak P.σ z=some v'/\b∈P.U z
 U:∀z v,ak Q.σ z=some v->v.uf=none->Q.U z=P.U z
theorem RY{σ:ar}(h:σ.any (λq=>q.2.kW&&q.2.seen p)=false):cf (BE (dX p σ)) (AH (dX p σ)) p=false:=aar λq m=>by
 obtain⟨⟨z,v⟩,m',rfl⟩:=rg.mp m;show(fz p v).seen p=false;induction v using lh with
 |own l=>
  by_cases q:cf [l] [] p=true
  ·erw[(show fz p (.own l)=.pv (.list l) from iP q)];exact J2
  ·erw[(show fz p (.own l)=.own l from iN q)];exact n3 q
 |a7 k fs ow=>exact n3 λe=>u3.mp h (z,.a7 k fs ow) m' (TS.mpr ⟨rfl,e⟩)
 |_=>exact J2
end
section
variable{P Q R:St c F}{y w:Pt c}{z q:Str}{v:AV}{g d:Nat}{A:Am d}{I:Ip}{e t:Expr}{l:List PV}{E:ac->ag->Prop}
noncomputable def As(v:AV)(V:List ao):List ao:=match v with
 |.pv _=>[]
 |_=>V
theorem D3(m:b∈As v V):b∈V/\v.uf=none:=by
 induction v using lh with
 |pv=>exact absurd m eX
 |_=>exact⟨m,rfl⟩
theorem RU(h:(fz p v).uf=none):fz p v=v:=by
 induction v using lh with
 |own l=>
  by_cases q:cf [l] [] p=true
  ·rw[show fz p (.own l)=.pv (.list l) from iP q] at h;injection h
  ·exact iN q
 |_=>rfl
theorem Oq(P:St c F)(hs:P.σ.any (λq=>q.2.kW&&q.2.seen p)=false)(l:Le P.ja y):∃Q,Ox P p y Q:=by
 have hK:∀a o,(KL c.w.params).lookup a=some o->¬mA P (dX p P.σ) a:=λa o e q=>nS ((Jl q).free.1.f.symm.trans (P.x.K a o e));have get:∀{z v'},ak (dX p P.σ) z=some v'->∃v,ak P.σ z=some v/\fz p v=v':=λh=>tz.mp (A2.symm.trans h);have sub:Sub P.x.f (y.drop _ hK).f:=λa o e=>r9 (l.sub a o (zI a o e)) λq=>nS ((Jl q).free.1.f.symm.trans e);have vk:∀{z u},dB F.env P.x.s.heap z u->dB F.env y.s.heap z u:=λV=>V.keep λb o w e=>l.e.keep b o e (qM w);have uk:∀{z v},ak P.σ z=some v->∀b o,b∈P.U z->P.x.s.heap.get? b=some o->y.s.heap.get? b=some o:=λh b o m e=>l.e.keep b o e (cN (P.fresh _ _ h b m).1.hi);have at_:∀{b o},mA P P.σ b->P.x.s.heap.get? b=some o->y.f b=some o:=λq e=>l.sub _ _ ((OA q).trans e);have hU:∀{z v'},ak (dX p P.σ) z=some v'->As ((ak (dX p P.σ) z).getD (.pv .none)) (P.U z)=As v' (P.U z):=λh=>by erw[h];rfl
 have X:=P.sM.le l;have none_:∀{b},P.x.f b=none->(∃o,P.x.s.heap.get? b=some o)->(mA P P.σ b->mA P (dX p P.σ) b)->(y.drop _ hK).f b=none:=λ{b} n t k=>Pu λnd=>by
  cases e:y.f b with
  |none=>rfl
  |some o=>exact(l.new b o e).elim (λq=>nS (((RS λq=>nd (k q)).trans n).symm.trans q)) λq=>t.elim λo' e'=>nS (q.symm.trans e')
 let Q:St c F:={
  x:=y.drop _ hK
  σ:=dX p P.σ
  U:=λz=>As ((ak (dX p P.σ) z).getD (.pv .none)) (P.U z)
  nd:=W6.symm▸P.nd
  cR:=X.cR
  o:=P.o.keep P.cR (λb o w e=>l.e.keep b o e (qM w)) λb w n t=>⟨none_ n.f t λq=>absurd w q.free.2,n.h₀,n.hi⟩
  own:=λz v' h=>by
   refine aB (get h) λv h1 bZ=>?_;subst bZ;refine aB (P.own z v h1) λu V a=>aa (hU h) ((az u (vk V) (?_)));have keep:(fz p v)=v->jd c (y.drop _ hK).f y.s.heap (fz p v) u (As (fz p v) (P.U z)):=λe=>by
    erw[e];have a':=a.mono (λb o m=>uk h1 b o m) sub;induction v using lh with
    |pv=>exact⟨a'.1,rfl⟩
    |_=>exact a'
   induction v using lh with
   |own l'=>
    by_cases s:cf [l'] [] p=true
    ·refine aa (show fz p (.own l')=.pv (.list l') from iP s) (⟨HK (v:=.own l') a sub λ_ b o m e=>r9 (at_ (yg z _ h1 rfl m) e) λq=>?_,rfl⟩);refine sH q λz' v' h2 hv m'=>aB (get h2) λv2 h3 e3=>?_;by_cases ez:z=z'
     ·subst ez;obtain rfl:=ay (h1.symm.trans h3);rw[<-e3,show fz p (.own l')=.pv (.list l') from iP s] at hv;injection hv
     ·exact P.dj z z' _ _ ez h1 h3 b m m'
    ·exact keep (iN s)
   |_=>exact keep rfl
  fresh:=λz v' h b m=>by
   refine aB (get h) λv h1 bZ=>?_;subst bZ;rw[hU h] at m;have mm:=D3 m;have f:=P.fresh z v h1 b mm.1;refine⟨⟨none_ f.1.f (P.there h1 mm.1) λq=>?_,f.1.h₀,f.1.hi⟩,f.2⟩;refine sH q λz2 v2 h2 hv m2=>?_;by_cases ez:z=z2
   ·subst ez;obtain rfl:=ay (h1.symm.trans h2);exact(yg z _ h ((RU mm.2).symm▸hv) m2)
   ·exact absurd m2 (P.dj z z2 _ _ ez h1 h2 b mm.1)
  dj:=λz y v' u' n h1 h2 b m m'=>by
   refine aB (get h1) λv h3 _=>aB (get h2) λu h4 _=>?_;rw[hU h1] at m;rw[hU h2] at m';exact P.dj z y v u n h3 h4 b (D3 m).1 (D3 m').1}
 have back:∀z v,ak Q.σ z=some v->∀b∈Q.U z,∃v',ak P.σ z=some v'/\b∈P.U z:=λz v h b m=>aB (get h) λv' h1 _=>(az v' h1 ((D3 (Eq.mp (af (b∈ ·) (hU h)) m)).1));have hD:∀a o,mA P (dX p P.σ) a->y.f a=some o->s9 c y.f (BE (dX p P.σ)) (AH (dX p P.σ)) o:=λa o q e=>by
  have qb:=Jl q;refine sH q λz v' h hv m=>aB (get h) λv h1 bZ=>?_;subst bZ;refine aB (P.own z v h1) λu _ ua=>dN (P.there h1 m) λo' e'=>?_;obtain rfl:=ay (e.symm.trans (at_ qb e'));rw[OL hv] at h hv;exact(ad7 ua hv (λb o e=>l.sub b o (zI b o e)) m e').mono (λl k=>Gc.mpr (az _ (gM h) k)) λq k=>Gc.mpr (az _ (gM h) k)
 exact⟨Q,⟨⟨sub,λa o e=>(l.new a o (Gx e).1).elim (λq=>Df q (λq _=>.inr (.inr (.inr (by refine sH q λz v h _ m=>?_;exact(du z v h m))))) .inl) λq=>.inr (.inl q),l.e.n8⟩,
   λb q=>.inl (q.imp id λq=>by refine eH q λz v h m=>?_;refine dN (back z v h b m) λv' k=>?_;exact(jH z v' k)),λz k fs ow a h V=>⟨(jH fs ow (A2.trans (af (eP (fz p)) h))),vk V⟩⟩,rfl,rfl,λv q r n=>r.gL hD n,λvs l r n=>r.gL hD n,λa e=>Pu λ_=>e,back,λz v h n=>(hU h).trans (by cases v<;>first|rfl|exact nS n.symm)⟩
structure f9(P:St c F)(σ':ar)(Q:St c F):Prop where
 R:bD P Q
 σ:Q.σ=σ'
 e:e8 P.x.s Q.x.s
 back:∀z v,ak Q.σ z=some v->∀b∈Q.U z,∃v',ak P.σ z=some v'/\b∈P.U z
 U:∀z v,ak Q.σ z=some v->v.uf=none->Q.U z=P.U z
 a7:∀z v,ak P.σ z=some v->v.kW=true\/v.DK.isSome=true->ak σ' z=some v
theorem f9.var(X:f9 P σ' Q)(V:dB F.env P.x.s.heap z u):dB F.env Q.x.s.heap z u:=V.keep λb o w e=>X.e.keep b o e (qM w)
theorem f9.le(l:Le P.x y):f9 P P.σ (P.le l):=⟨.le l,rfl,l.e,λz v h b m=>(az v h m),λ_ _ _ _=>rfl,λz v h _=>h⟩
theorem f9.seen(s:Ox P p y Q)(e:e8 P.x.s y.s):f9 P (dX p P.σ) Q:=⟨s.R,s.σ,s.s▸e,s.back,s.U,λz v h k=>A2.trans (by
 erw[h];induction v using lh with
 |own=>exact k.elim ff ff
 |_=>rfl)⟩
theorem ux{α β:Type}{o:Option α}{f:α->Option β}{g:Option β}{b:β}{X:Prop}(h:qF o f g=some b)(k1:∀a,o=some a->f a=some b->X)(k2:o=none->g=some b->X):X:=by
 induction o using qN with
 |none=>exact k2 rfl h
 |some a=>exact k1 a rfl h
theorem rL{X:Prop}{ev:bj->Expr->Option PV}{σ:ar}(h:bX ev σ e=some (p,σ'))(k1:ev (fJ σ) e=some p->σ'=σ->X)(k2:ev (bA σ) e=some p->σ.any (λq=>q.2.kW&&q.2.seen p)=false->σ'=dX p σ->X):X:=
 ux h (λp' e1 h=>by cases ay h;exact k1 e1 rfl) λ_ h=>aj h λp' e2 h=>fU h λn h=>by cases ay h;exact k2 e2 (n3 n) rfl
theorem qH(S:aX c d I)(h:bX (I.e F.nm) P.σ e=some (p,σ')){K:ac->ag->Prop}(k:∀u Q,f9 P σ' Q->Rd p Q.x u->K u Q.x.s):ai (ah pw c.w) A.A (eval e F.env) K E P.x.s:=
 rL h (λh e=>S.ev h P.vars _ _ λu y l r=>k u (P.le l) (e▸ .le l) r) λh hs e=>S.ev (x:=P.ja) h P.sM _ _ λu y l r=>by
  obtain⟨Q,s⟩:=Oq (p:=p) P hs l;exact s.s▸k u Q (e▸ .seen s l.e) (s.rd u p r (RY hs))
theorem PK(l:Le P.ja y):Le P.x (P.x.to y.s l.e y.tab):=.to _ _
theorem NJ(S:aX c d I){b:Bool}(h:I.t F.nm (bA P.σ) t=some b){K:Bool->ag->Prop}(k:∀Q,f9 P P.σ Q->K b Q.x.s):ai (ah pw c.w) A.A (isTrue t F.env (eval t F.env)) K E P.x.s:=
 S.te (x:=P.ja) h P.sM _ _ λb' y l e=>(e:b'=b)▸k (P.le (PK l)) (.le _)
theorem JJ(S:aX c d I)(h:I.e F.nm (bA P.σ) e=some p){K:ac->ag->Prop}(k:∀u Q,f9 P P.σ Q->(p.isScalar=true->Rd p Q.x u)->K u Q.x.s):ai (ah pw c.w) A.A (eval e F.env) K E P.x.s:=
 S.ev (x:=P.ja) h P.sM _ _ λu y l r=>k u (P.le (PK l)) (.le _) λs=>r.scalar s
theorem lP{σ₀:ar}(h:putN F.nm z v σ₀=some σ'):(ak F.nm z=some .local\/ak F.nm z=some .cell)/\b9 σ₀ z v=σ'/\(uB σ₀ z=true->v.kW=true):=by
 refine fU h λn h=>(ej ((Af h).1) ((Af h).2) (λe=>?_));cases q:v.kW with
 |true=>rfl
 |false=>exact absurd (TS.mpr ⟨e,by erw[q];rfl⟩) n
theorem abh{σ:ar}{k fs ow}(h:ak σ z=some (.a7 k fs ow)):uB σ z=true:=by unfold uB;erw[h];rfl
theorem zE{M:f4}{A:bh}{K:Unit->ag->Prop}(R:bD P Q)(h:putN F.nm z v Q.σ=some σ')(ns:uB Q.σ z=false)(a:jd c Q.x.f Q.x.s.heap v u V)(fr:∀b∈V,bV Q.x b/\¬dq F.env b)(ap:∀b∈V,∀q v,q≠z->ak Q.σ q=some v->b∉Q.U q)(hV:∀b∈V,WU P b\/P.x.s.heap.get? b=none)
(k:∀Q',bD P Q'->Q'.σ=σ'->Q'.U=xE Q.U z V->zD F z u Q.x Q'.x->K () Q'.x.s):ai M A (B0 F.env z u) K E Q.x.s:=by
 refine fb (lP h) λq bY _=>?_;subst bY;exact Pk Q.cR Q.o q λy S=>k (Q.put y z v V (.adh S) ⟨(az u S.at_ (a.mono (λb o m e=>(S.wr 0).e.keep b o e (cN (fr b m).1.hi) λw=>(fr b m).2 (nX w)) (S.wr 0).sub)),λb m=>⟨(S.wr 0).free (fr b m).1,(fr b m).2⟩,ap⟩)
  (R.put (S.wr _).st (λb q=>.inl (.inl q)) hV λk fs ow a h _=>ff (ns.symm.trans (abh h))) rfl rfl S
theorem Ff(h:putN F.nm z v Q.σ=some σ')(n:v.kW=false):uB Q.σ z=false:=n3 λe=>ff (n.symm.trans ((lP h).2.2 e))
theorem vU{M:f4}{A:bh}{K:Unit->ag->Prop}(R:bD P Q)(h:putN F.nm z (.pv p) Q.σ=some σ')(r:Rd p Q.x u)(k:∀Q',bD P Q'->Q'.σ=σ'->Sub Q.x.f Q'.x.f->K () Q'.x.s):ai M A (B0 F.env z u) K E Q.x.s:=
 zE (V:=[]) R h (Ff h rfl) ⟨r,rfl⟩ (λ_ m=>mN m) (λ_ m=>mN m) (λ_ m=>mN m) λQ' R e _ S=>k Q' R e (S.wr 0).sub
theorem O9{K:Unit->ag->Prop}(R:bD P Q)(h:fT (rO F.nm) t p Q.σ=some σ')(r:Rd p Q.x u)(k:∀Q',bD P Q'->Q'.σ=σ'->K () Q'.x.s):ai (ah pw c.w) A.A (uM t F.env u) K E Q.x.s:=
 Ps (St:=λσ y=> ∃Q,bD P Q/\Q.σ=σ/\Q.x=y) (λh s r k=>by
  obtain⟨Q,R,rfl,rfl⟩:=s;exact vU R h r λQ' R' e b=>k Q'.x (cz Q' R' e rfl) b) (λ{σ x h' k} s=>by
  refine cP s λQ R e c4=>?_;subst c4;exact(cz (Q.le (Q.x.cG k)) (R.trans (.le _)) e rfl)) h (cz Q R rfl rfl) r λy s=>by
  refine cP s λQ R e c4=>?_;subst c4;exact k Q R e
end
end
section
variable{c:Cx}{F:Fm}{P Q R:St c F}{x y w:Pt c}{z q:Str}{v v':AV}{u:ac}{V:List ao}{a b:ao}{d k n:Nat}{p r:PV}{σ' cJ:ar}{σ:bj}{o:Obj}{A:Am d}{I:Ip}{e t i:Expr}{O:aK}{l:List PV}{E K:ac->ag->Prop}{vals:List ac}{cp pos xp ap tp:Pos}{args:List Expr}{op:ia}
section
variable{D C:ao}{g:Nat}{J:Ip}{m:List PV}
theorem Nh{t:Nat}(r:bt l x vals)(hz:l.length<=aA):lV x (x.push (bu vals n) t) x.s.heap.objs.size l:=by
 have f:=x.free (bf _) (eQ _);exact⟨x.cG _,(du vals n (ft _ rfl) r),hz,⟨f.f,f.h₀,f.hi⟩,eQ _⟩
theorem lV.pre(le:Le x y)(g:lV y w D l):lV x w D l:=⟨le.trans g.le,g.d,g.len,g.fr,le.e.back (cN g.fr.hi) g.nw⟩
def aan(A:Am d)(t:Sem ac)(x:Pt c)(l:List PV):Prop:=∀(K:ac->ag->Prop) E,(∀y D,lV x y D l->K (.ref D) y.s)->ai (ah pw c.w) A.A t K E x.s
theorem MX(S:aX c d I)(ov:Ov c d)(h:o0 O I J F.nm σ e=some (.list l))(hf:ry e=true)(X:bB F x σ):aan A (eval e F.env) x l:=λK E k=>by
 induction e using eB with
 |List es ps=>
  exact aj h λl' h1 h=>aL h λz h=>by
   cases ay h;exact wpAny_List ((sg S h1).2 X _ _ λus y le r=>⟨lM (us:=[]) (m:=[]) r z (r':=.nil) rfl,k _ _ ((Nh (t:=y.s.toks) (n:=0) r z).pre le)⟩)
 |BinOp e1 op e2 ps=>
  have hf:=aW hf;cases a5 hf.2;refine aj h λp h1 h=>aj h λq h2 h=>?_;obtain⟨m,rfl⟩:∃m,p=.list m:=by
   induction e1 using eB with
   |List es ps=>exact S.lst h1
   |_=>exact ff hf.1
  refine aj (show(q.ei.bind λj=>if 0<=j/\j<=100/\m.length<=100 then some (PV.list (kr j.toNat m).flatten) else none)=some (.list l) from h) λj hj h=>aL h λc h=>?_;cases ay h;exact wpAny_BinOp (S.ev h1 X _ _ λu y le r=>S.ev h2 (X.le le) _ _ λu' w tE r'=>Pq (r.mono tE.sub) (eA (m:=λq=>Rd q w u'->Rd (.int j) w u') hj id r') c.1 c.2.1 c.2.2 λr z=>k _ _ ((Nh (t:=w.s.toks) (n:=0) r z).pre (le.trans tE)))
 |ListComp elt gens sc ps=>
  refine v7 (xZ h) λt it ifs gs l' tD e=>?_;subst tD;cases e;rw[eval_ListComp];exact CT (use:=none) S ov h X λy D C g q=>by
   obtain⟨m,ns⟩:=q.ns;exact(az m ns (λh' hs=>by refine aB (g.but q hs) λw g' e=>?_;exact e▸k w D g'))
 |_=>exact ff hf
structure sZ(P Q:St c F)(D:ao)(l:List PV):Prop where
 d:∃vals n,Q.x.s.heap.get? D=some (bu vals n)/\bt l Q.x vals
 len:l.length<=aA
 fr:bV Q.x D
 nw:P.x.s.heap.get? D=none
 env:¬dq F.env D
 U:∀q v,ak Q.σ q=some v->D∉Q.U q
theorem sZ.mk'(nw:P.x.s.heap.get? D=none)(X:f9 P σ' Q)(d:∃vals n,Q.x.s.heap.get? D=some (bu vals n)/\bt l Q.x vals)(len:l.length<=aA)(fr:bV Q.x D):sZ P Q D l:=⟨d,len,fr,nw,P.wi nw,λq v h m=>aB (X.back q v h D m) λv' h' m'=>P.xc nw h' m'⟩
theorem Yo{ls:List (List PV)}{cs:List (Nat×List Str)}(h:cf ls cs (.list l)=false):iw ls cs l=false:=(eT h).2
theorem QD(g:lV P.x y D l):∃Q,f9 P P.σ Q/\sZ P Q D l/\Q.x.s=y.s/\∀a,y.f a=none->Q.x.f a=none:=(vn (P.le g.le) (.le _) (.mk' g.nw (.le g.le) g.d g.len g.fr) rfl (λ_ e=>e))
theorem PE(hs:P.σ.any (λq=>q.2.kW&&q.2.seen (.list l))=false)(g:lV P.ja y D l):∃Q,f9 P (dX (.list l) P.σ) Q/\sZ P Q D l/\Q.x.s=y.s/\∀a,y.f a=none->Q.x.f a=none:=by
 refine dN (Oq (p:=.list l) P hs g.le) λQ s=>?_;have X:f9 P (dX (.list l) P.σ) Q:=.seen s g.le.e;exact eH g.d λvals n e r=>(vn Q X (.mk' g.nw X (du vals n (s.s.symm▸e) (s.Wk _ _ r (Yo (RY hs)))) g.len ⟨s.n _ g.fr.f,g.fr.h₀,g.fr.hi⟩) s.s s.n)
theorem Io(S:aX c d I)(ov:Ov c d)(h:bX (o0 O I J F.nm) P.σ e=some (.list l,σ'))(hf:ry e=true){K:ac->ag->Prop}(k:∀Q D,f9 P σ' Q->sZ P Q D l->K (.ref D) Q.x.s):ai (ah pw c.w) A.A (eval e F.env) K E P.x.s:=
 rL h (λh e=>MX S ov h hf P.vars _ _ λy D g=>by refine kU (QD g) λQ X L s _=>?_;exact s▸k Q D (e▸X) L)
  λh hs e=>MX (x:=P.ja) S ov h hf P.sM _ _ λy D g=>by refine kU (PE hs g) λQ X L s _=>?_;exact s▸k Q D (e▸X) L
theorem sZ.take(R:bD P Q)(L:sZ P Q D l):∃Q',bD P Q'/\Q'.σ=Q.σ/\Q'.x.s=Q.x.s/\Rd (.list l) Q'.x (.ref D)/\(∀a,a≠D->Q.x.f a=none->Q'.x.f a=none)/\Q'.U=Q.U:=by
 refine eH L.d λvals n e r=>?_;have st:∀g,br (λb=>b=D) g Q.x (Q.x.add D _ e (cN L.fr.hi)):=λg=>⟨Pt.zA,λa o q=>EI q (λq _=>.inr (.inr q)) .inl,.refl _⟩;refine(aby (Q.move _ (.yj (st 0) (λb q=>q▸L.env) λq v _ h b m q'=>L.U q v h (q'▸m))) (R.move (st _) λb q=>.inr (q▸L.nw)) rfl rfl (.list pk (r.mono (st 0).sub) L.len) (λa n h=>(iN n).trans h) rfl)
theorem H1{M:f4}{A:bh}{b:Bool}{K:Unit->ag->Prop}(X:f9 P σ' Q)(L:sZ P Q D l)(h:putN F.nm z (if b=true then .own l else .pv (.list l)) Q.σ=some cJ)
(k:∀R,bD P R->R.σ=cJ->(∀q v,ak cJ q=some v->∀a∈R.U q,a=D\/∃o,P.x.s.heap.get? a=some o)->(∀a,a≠D->Q.x.f a=none->R.x.f a=none)->(∀a o,Q.x.s.heap.get? a=some o->¬dA a->¬dq F.env a->R.x.s.heap.get? a=some o)->K () R.x.s):ai M A (B0 F.env z (.ref D)) K E Q.x.s:=by
 have old:∀q v,ak Q.σ q=some v->∀a∈Q.U q,∃o,P.x.s.heap.get? a=some o:=λq v h a m=>aB (X.back q v h a m) λv' h' m'=>P.there h' m';induction b using je with
 |true=>
  refine zE (V:=[D]) X.R h (Ff h rfl) (cz D rfl ⟨L.d,L.len⟩ rfl) (λb m=>cY m▸⟨L.fr,L.env⟩) (λb m q v _ h=>cY m▸L.U q v h) (λb m=>.inr (cY m▸L.nw)) λR r e u S=>k R r e (λq v h' a m=>?_) (λa n f=>((S.wr 0).sub|>λ_=>congrFun (S.wr 0).f a).trans f) λa o e t n=>(S.wr 0).e.keep a o e t λw=>n (nX w);refine fb (lP h) λ_ bY _=>?_;subst bY;rw[u] at m;exact sY h' (λe _=>.inl (cY (xk e m))) λn h'=>.inr (old q v h' a (sG n m))
 |false=>
  refine adT (L.take X.R) λQ' R' e1 e2 r f u'=>e2▸zE (v:=.pv (.list l)) (V:=[]) R' (e1.symm▸h) (e1.symm▸Ff h rfl) ⟨r,rfl⟩ (λ_ m=>mN m) (λ_ m=>mN m) (λ_ m=>mN m) λR r e u S=>k R r e (λq v h' a m=>?_) (λa n h=>(congrFun (S.wr 0).f a).trans (f a n h)) λa o e t n=>(S.wr 0).e.keep a o (e2▸e) t λw=>n (nX w);refine fb (lP h) λ_ bY _=>?_;subst bY;rw[u] at m;exact sY h' (λe _=>mN (xk e m)) λn h'=>.inr (old q v h' a (u'▸sG n m))
def Nx(A:Am d)(P:St c F)(st:aH)(σ':ar):Prop:=∀(K:Flow->ag->Prop) E,(∀Q,bD P Q->Q.σ=σ'->K .next Q.x.s)->ai (ah pw c.w) A.A (iI st F.env) K E P.x.s
theorem vZ:Kp F.env=false:=by unfold Kp;erw[F.kind];rfl
theorem aen{f:Expr}{kws:List fj}(S:aX c d I)(h:I.e F.nm (bA P.σ) (.Call f args kws cp)=some p):Nx A P (.Expr (.Call f args kws cp) pos) P.σ:=λK E k=>yP (JJ S h λu Q X _=>k Q X.R X.σ) vZ rfl
theorem ML{t:Option Expr}{line:Nat}{env:Env}(h:ql e=true)(hc:∀elt gens sc pos,e≠ .ListComp elt gens sc pos):swapsWith e t line env=pure false:=by
 cases e<;>first|rfl|exact absurd h dy|exact absurd rfl (hc _ _ _ _)
theorem sx(S:aX c d I)(h:bX (I.e F.nm) P.σ e=some (p,σ')):ql e=true:=rL h (λh _=>S.nn h) λh _ _=>S.nn h
theorem W1(S:aX c d I)(h:bX (I.e F.nm) P.σ e=some (p,σ'))(hp:putN F.nm z (.pv p) σ'=some cJ)(hc:∀elt gens sc pos,e≠ .ListComp elt gens sc pos):Nx A P (.Assign [.Name z xp] e pos) cJ:=λK E k=>
 yQ (qH S h λu Q X r=>vU X.R (X.σ.symm▸hp) r λR r e _=>k R r e) (ML (sx S h) hc)
theorem aeo{b:Bool}(S:aX c d I)(ov:Ov c d)(h:bX (o0 O I J F.nm) P.σ e=some (.list l,σ'))(hf:ry e=true)(hp:putN F.nm z (if b=true then .own l else .pv (.list l)) σ'=some cJ)(hc:∀elt gens sc pos,e≠ .ListComp elt gens sc pos):Nx A P (.Assign [.Name z xp] e pos) cJ:=λK E k=>
 yQ (Io S ov h hf λQ D X L=>H1 X L (X.σ.symm▸hp) λR r e _ _ _=>k R r e) (ML (rL h (λh _=>GS h) λh _ _=>GS h) hc)
theorem acL{elt:Expr}{gens:List jK}{sc:fk}{b:Bool}(S:aX c d I)(ov:Ov c d)(h:bX (o0 O I J F.nm) P.σ (.ListComp elt gens sc cp)=some (.list l,σ'))(hp:putN F.nm z (if b=true then .own l else .pv (.list l)) σ'=some cJ):Nx A P (.Assign [.Name z xp] (.ListComp elt gens sc cp) pos) cJ:=λK E k=>by
 obtain⟨sw,hb⟩:∃b,swapsWith (.ListComp elt gens sc cp) (some (.Name z xp)) pos.line F.env=pure b:=⟨_,rfl⟩;induction sw using je with
 |false=>exact yQ (Io S ov h rfl λQ D X L=>H1 X L (X.σ.symm▸hp) λR r e _ _ _=>k R r e) hb
 |true=>
  erw[exec_Assign_Name_used _ _ _ _ hb];have fin:∀{y:Pt c} {Q:St c F} {D C:ao},f9 P σ' Q->sZ P Q D l->Q.x.s=y.s->(∀a,y.f a=none->Q.x.f a=none)->P.x.s.heap.get? C=none->C≠D->bV y C->(∃m,y.s.heap.Ns C m)->
    ai (ah pw c.w) A.A (uM (.Name z xp) F.env (.ref D)) (λ_ i8=> ∃m,i8.heap.Ns C m/\∀h',dD C i8.heap h'->K .next {i8 with heap:=h'}) E y.s:=λ{y Q D C} X L s f nw ne fr ns=>by
   refine tI ns λm o es ep e1 e2=>?_;rw[<-s] at e1⊢;refine Sz (H1 X L (X.σ.symm▸hp) λR r e hU hf hk=>?_);have cw:=P.wi nw;have ns:R.x.s.heap.Ns C m:=(zt o es ep (hk C o e1 (cN fr.hi) cw) e2);refine(az m ns (λh' hs=>?_));have w:∀g,Wr (λb=>b=C) g R.x (R.x.but (t:=R.x.s.toks) hs ⟨hf C ne (f C fr.f),fr.h₀,fr.hi⟩ (Jm ns)):=λg=>.but rfl;exact k (R.move _ (.yj (w 0).st (λb q=>q▸cw) λq v _ h b m q'=>(hU q v (e▸h) b m).elim (λq=>ne (q'.symm.trans q)) λq=>q.elim λo e=>nS (nw.symm.trans (q'▸e)))) (r.move (w _).st λb q=>.inr (q▸nw)) e
  refine ae (jq (ae (rL h (λh e=>?_) λh hs e=>?_)))
  ·refine v7 (xZ h) λt it ifs gs l' tD e'=>?_;subst tD;cases e';exact ae (cQ (CT (A:=A) (use:=some (uM (.Name z xp) F.env)) (Q:=λ_ s'=>K .next s') S ov h P.vars λy D C g q=>by refine kU (QD g) λQ X L s f=>?_;exact fin (e▸X) L s f q.nw q.ne q.fr q.ns) (λ_ s' hq=>au (au hq)) λ_ _ e=>e)
  ·refine v7 (xZ h) λt it ifs gs l' tD e'=>?_;subst tD;cases e';exact ae (cQ (CT (A:=A) (x:=P.ja) (use:=some (uM (.Name z xp) F.env)) (Q:=λ_ s'=>K .next s') S ov h P.sM λy D C g q=>by refine kU (PE hs g) λQ X L s f=>?_;exact fin (e▸X) L s f q.nw q.ne q.fr q.ns) (λ_ s' hq=>au (au hq)) λ_ _ e=>e)
end
section
variable{m:Str}{l':List PV}{es:List Expr}
theorem Qw{y:Str×Pos}(h:H0 e=some y):e=.Name y.1 y.2:=by
 induction e using eB with
 |Name=>cases ay h;rfl
 |_=>exact nS h
structure acN(O:Prop)(ts:List Expr)(n:Nat)(env:Env)(e:Expr):Prop where
 as:O
 Vs:swapsWithSole ts e n env=pure false
 sw:swappedStores ts e env=pure none
theorem afb{nm:aN}{G:Prop}(hp:IK nm es k tp p σ' e=some cJ)(K1:∀vs j vp,e=.Tuple vs j vp->G)(K2:acN (fT (rO nm) (.Tuple es k tp) p σ'=some cJ) [.Tuple es k tp] n env e->G):G:=by
 induction e using eB with
 |Tuple vs j vp=>exact K1 vs j vp rfl
 |List=>exact nS hp
 |Set=>exact nS hp
 |_=>exact K2 ⟨hp,rfl,rfl⟩
theorem Ν{env:Env}{v1 v2:Expr}{a b:Str×Pos}{vp:Pos}{j:Nat}(ns:∀e∈[v1,v2],ik e=false)(bk:env.blockKind=.function)(l1:env.kindOf a.1=some .local)(l2:env.kindOf b.1=some .local)(k3:¬a.1=b.1)(k4:a.2.line=b.2.line)
(k5:yN 8 v1=false\/yN 8 v2=false)(k6:yO 8 v1=false\/yO 8 v2=false):swappedStores [.Tuple [.Name a.1 a.2,.Name b.1 b.2] k tp] (.Tuple [v1,v2] j vp) env=pure (some [a.1,b.1]):=by
 have e5:¬([v1,v2].all (yN 8))=true:=by simp only[Kf,List.all_nil,Ki,mI];rcases k5 with q|q<;>simp[q]
 have e6:¬([v1,v2].all (yO 8))=true:=by simp only[Kf,List.all_nil,Ki,mI];rcases k6 with q|q<;>simp[q]
 have nb:(b.1==a.1)=false:=li (gV k3);refine(iN ?_).trans ?_
 ·simp[bk]
 refine(iN ?_).trans ?_
 ·rw[Bool.not_eq_true];refine u3.mpr λe m=>?_;have:=ns e m;clear m;induction e using eB with
  |Starred=>exact tf this
  |_=>exact dy
 rw[show(([Expr.Name a.1 a.2,Expr.Name b.1 b.2].head?.map (·.pos.line)).getD 0)=a.2.line from rfl];refine(iN ?_).trans ?_
 ·simp[l1,l2,k4,List.eraseDups_cons,nb]
 refine(iN e5).trans ((iN e6).trans ?_);simp[l1,l2,k4]
theorem Ϩ{nm:aN}{v:Expr×Expr}{a b:Str×Pos}(h:Iy nm v a b=true)(G:Prop)(K:ak nm a.1=some .local->ak nm b.1=some .local->¬a.1=b.1->a.2.line=b.2.line->(yN 8 v.1=false\/yN 8 v.2=false)->(yO 8 v.1=false\/yO 8 v.2=false)->G):G:=by
 unfold Iy at h;simp only[mI,beq_iff_eq,bne_iff_ne,ne_eq,tj,Bool.and_eq_false_iff] at h;exact K h.1.1.1.1.1 h.1.1.1.1.2 h.1.1.1.2 h.1.1.2 h.1.2 h.2
theorem afY(S:aX c d I)(h:bX (I.e F.nm) P.σ e=some (p,σ'))(hp:IK F.nm es k tp p σ' e=some cJ):Nx A P (.Assign [.Tuple es k tp] e pos) cJ:=λK E kk=>
 afb (n:=pos.line) (env:=F.env) hp (λvs j vp eq=>by
  subst eq;have ns:∀e∈vs,ik e=false:=rL h (λh _=>S.tup h) λh _ _=>S.tup h;refine bE λgG hG=>aL hp λok hp=>aj hp λee h1 hp=>aj hp λa ha hp=>aj hp λb hb hp=>aj hp λpr Lr hp=>aj hp λahJ g1 g2=>?_;have ok:=a5 ok;refine aj ok λe2 h2 ok=>aj ok λv2 hv ok=>aj ok λa' rn ok=>fM ok λb' rm okk=>?_;obtain rfl:=ay (h1.symm.trans h2);have ea:=Qw rn;have eb:=Qw rm;rw[ea] at ha;rw[eb] at hb;obtain rfl:=ay ha;obtain rfl:=ay hb;have ee':es=[.Name a'.1 a'.2,.Name b'.1 b'.2]:=ea▸eb▸xP h1 rfl;have vv:vs=[v2.1,v2.2]:=xP hv rfl;refine Ϩ okk _ λk1 k2 k3 k4 k5 k6=>hG ?_;subst ee' vv;refine Assign_Tuple_swapped (names:=[a'.1,b'.1]) (qH S h λu Q X r=>?_) rfl (Ν ns (by unfold Env.blockKind;erw[F.kind];rfl) (P.o.loc _ k1) (P.o.loc _ k2) k3 k4 k5 k6);revert r;refine aj Lr λl hl Lr=>I1 hl λr=>xP (m:=λl=>Rd (.tup l) Q.x u->_) Lr (λr=>?_) r;refine iX r λ{ad n vs} e rl _=>?_;revert e;refine eC rl λ{w1 _} r1 rl=>eC rl λ{w2 _} r2 rl=>iR rl λe=>unpackItems_tuple A.ok.handled (items:= #[w1,w2]) ⟨_,Q.x.hs _ _ e,rfl,n,rfl⟩ λh' k'=>?_;have le:=Q.x.cG (t:=Q.x.s.toks) (h':=h') λb o e=>k' b o (gE (fB e)) e;exact Sy (bindName_ (vU (Q:=Q.le le) (X.R.trans (.le le)) (X.σ.symm▸g1) r2 λR r e b=>Sy (bindName_ (vU r (e.symm▸g2) (r1.mono b) λR r e _=>assignInOrder_nil (kk R r e))))))
  λq=>Assign_Tuple (qH S h λu Q X r=>O9 X.R (X.σ.symm▸q.as) r λR r e=>kk R r e) q.Vs q.sw
theorem NT(Or:cg c O d)(h:tV O op p r=some p')(rp:Rd p x u)(rq:Rd r x u'):aE A (Km op u u') x (Rd p'):=by
 induction p using dh with
 |int i=>
  revert rq;exact aj h λj e h=>eA e λrq=>bU rp λt=>bU rq λt'=>d6 h (λo h=>o▸oI h λQ E K=>AutoIntOps.iadd_0 (pn K)) λ_ h=>aL h λo h=>o▸oI h λQ E K=>AutoIntOps.isub_0 (pn K)
 |inst k fs=>exact(Or.bin h rp rq).2
 |_=>exact nS h
theorem tU{σ:ar}(h:kh σ z=some v):ak σ z=some v/\z≠("__debug__":Str):=fU h λn h=>⟨h,n⟩
theorem CZ{σ:ar}(h:gu σ z=some l):ak σ z=some (.own l)/\z≠("__debug__":Str):=aj h λv h1 h2=>by
 induction v using lh with
 |own l'=>exact ay h2▸tU h1
 |_=>exact nS h2
theorem abi(S:aX c d I)(Or:cg c O d)(hx:ak P.σ z=some (.pv p))(h:bX (I.e F.nm) P.σ e=some (r,σ'))(hb:tV O op p r=some p')(hp:putN F.nm z (.pv p') σ'=some cJ):Nx A P (.AugAssign (.Name z xp) op e pos) cJ:=λK E k=>aB (P.own z _ hx) λu V a=>wpAny_AugAssign_Name (zL F V (qH S h λu' Q X r'=>NT Or hb (X.R.st.rd a.1) r' _ _ λw y l r2=>vU (Q:=Q.le l) (X.R.trans (.le l)) (X.σ.symm▸hp) r2 λR r e _=>k R r e))
theorem dB.vf{env:Env}{h:am}{u u':ac}(a:dB env h z u)(b:dB env h z u'):u=u':=by
 rcases a with⟨k1,m1,n1,e1⟩|⟨k1,c1,l1,o1,a1,a2⟩
 ·refine bE λgG hG=>?_;rcases b with⟨k2,m2,n2,e2⟩|⟨k2,_⟩
  refine hG ?_
  ·exact ay (e1.symm.trans ((n1.agree n2 z).trans e2))
  ·nomatch k1▸k2
 ·rcases b with⟨k2,_⟩|⟨k2,c2,l2,o2,b1,b2⟩
  ·nomatch k2▸k1
  ·obtain rfl:=ay (l1.symm.trans l2);obtain rfl:=ay (a1.symm.trans b1);injection a2.symm.trans b2 with e
   exact ay e
theorem bD.RT(R:bD P Q)(h:ak Q.σ z=some v)(hv:dB F.env Q.x.s.heap z u)(l:cH (· ∈Q.U z) Q.x y)(ua:jd c y.f y.s.heap v' u V)(hV:∀b∈V,b∈Q.U z\/Q.x.s.heap.get? b=none)(fr:∀b∈V,bV y b)(sl:∀k fs ow,v=.a7 k fs ow->∃eY ow',v'=.a7 k eY ow'):
  ∃R',bD P R'/\R'.σ=b9 Q.σ z v'/\R'.x=y:=by
 have kv:∀b o,dq F.env b->Q.x.s.heap.get? b=some o->y.s.heap.get? b=some o:=λb o w e=>l.e.keep b o e (qM w) λm=>(Q.fresh z v h b m).2 w;have N:Ep Q y z v' V:=⟨(az u (hv.keep kv) ua),λb m=>⟨fr b m,(hV b m).elim (λm=>(Q.fresh z v h b m).2) Q.wi⟩,λb m q v' n h'=>(hV b m).elim (λm m'=>Q.dj z q v v' n.symm h h' b m m') λn=>Q.xc n h'⟩;exact(cz (Q.put y z v' V (.yj l (λb m=>(Q.fresh z v h b m).2) λq v' n h' b m m'=>Q.dj q z v' v n h' h b m m') N) (R.put l (λb m=>R.wu b (.inr (du z v h m))) (λb m=>(hV b m).elim (λm=>R.wu b (.inr (du z v h m))) λn=>(R.st.e.back (cN (fr b m).hi) n).symm) (λk fs ow a h' V'=>⟨sl k fs ow (ay (h.symm.trans h')),V'.keep kv⟩)) rfl rfl)
theorem bD.but{h':am}{t:Nat}(R:bD P Q)(h:ak Q.σ z=some v)(hv:dB F.env Q.x.s.heap z u)(m:b∈Q.U z)(hs:dD b Q.x.s.heap h')(nc:∀o,Q.x.s.heap.get? b=some o->¬(o.cls=.type "code"/\∃vs,o.data=.fields vs))(ua:jd c Q.x.f h' v' u V)(hV:∀b∈V,b∈Q.U z\/(bV Q.x b/\Q.x.s.heap.get? b=none))(sl:∀k fs ow,v=.a7 k fs ow->∃eY ow',v'=.a7 k eY ow'):
  ∃R',bD P R'/\R'.σ=b9 Q.σ z v'/\R'.x.s={Q.x.s with heap:=h',toks:=t}:=by
 have w:Wr (· ∈Q.U z) Q.x.s.gens.size Q.x (Q.x.but (t:=t) hs (Q.fresh z v h b m).1 nc):=.but m;exact cP (R.RT (y:=Q.x.but (t:=t) hs (Q.fresh z v h b m).1 nc) h hv w.st ua (λb m=>(hV b m).imp id And.right) (λb m=>w.free ((hV b m).elim (λm=>(Q.fresh z v h b m).1) And.left)) sl) λR' r e ex=>(cz R' r e (ex▸rfl))
theorem Hm{h:am}{vals:List ac}(e:h.get? a=some (bu vals n))(o:Obj)(e':h.get? a=some o):¬(o.cls=.type "code"/\∃vs,o.data=.fields vs):=λk=>by
 obtain⟨_,vs,q⟩:=k;rw[<-ay (e.symm.trans e')] at q;injection q
theorem bD.own{h':am}{t:Nat}(R:bD P Q)(h:ak Q.σ z=some (.own l))(hv:dB F.env Q.x.s.heap z (.ref a))(hs:dD a Q.x.s.heap h')(e:h'.get? a=some (bu vals n))(r:bt l' Q.x vals)(hz:l'.length<=aA):∃R',bD P R'/\R'.σ=b9 Q.σ z (.own l')/\R'.x.s={Q.x.s with heap:=h',toks:=t}:=by
 refine bE λgG hG=>?_;obtain⟨u,V,a',e',⟨⟨mT,n',e1,r1⟩,z1⟩,eU⟩:=Q.own z _ h;cases e'▸V.vf hv;exact hG (R.but (V:=[a]) h hv (eU▸ .head _) hs (Hm e1) (cz a rfl ⟨(du vals n e r),hz⟩ rfl) (λb m=>.inl (eU▸m)) nofun)
theorem tN(h:ak Q.σ z=some (.own l)):∃a vals n,dB F.env Q.x.s.heap z (.ref a)/\Q.x.s.heap.get? a=some (bu vals n)/\bt l Q.x vals/\l.length<=aA:=by
 refine bE λgG hG=>?_;obtain⟨u,V,a,rfl,⟨⟨vals,n,e,r⟩,hz⟩,_⟩:=Q.own z _ h;exact hG ((xy a vals n V e r hz))
theorem qJ(P:St c F)(V:dB F.env P.x.s.heap z u)(hd:z≠("__debug__":Str)){M:f4}{A:bh}(h:K u P.x.s):ai M A (eval (.Name z xp) F.env) K E P.x.s:=Cb (zL F V h) (li hd)
theorem f9.own(X:f9 P σ' Q)(h:ak P.σ z=some (.own l))(h':ak σ' z=some (.own l'))(hs:σ'=P.σ\/σ'=dX p P.σ):l'=l:=by
 rcases hs with rfl|rfl
 ·cases ay (h.symm.trans h');rfl
 ·have q:=(A2 (P:=P)).symm.trans h';rw[h] at q;have q:=ay q;have k:=RU (p:=p) (v:=.own l) (by erw[q];rfl);cases k.symm.trans q;rfl
theorem Yp{ev:bj->Expr->Option PV}(h:bX ev P.σ e=some (p,σ')):σ'=P.σ\/σ'=dX p P.σ:=rL h (λ_ e=>.inl e) λ_ _ e=>.inr e
theorem z8{env:Env}{s:ag}{A:bh}{w:cO}{o:Expr}{id:String}{K:ac->ag->Prop}(hb:ug o=false)(hl:ap.endLine=cp.line)(hs:∀e∈args,ik e=false)(hn:args.length<=20)(slot:Slot "list" m id)(ty:tq (.builtin id)=pure (.type "method_descriptor"))
(h:ai (ah pw w) A (eval o env) (λov bI=> ∃a vals n,ov=.ref a/\bI.heap.get? a=some (bu vals n)/\ai (ah pw w) A (om (oo cp (lA args env))) (λvs fQ=>(KL w.params).In fQ.heap/\ai (ah pw w) A (bC (.builtin id) (.ref a::vs) []) K E fQ) E bI) E s):
  ai (ah pw w) A (eval (.Call (.Attribute o m ap) args [] cp) env) K E s:=by
 refine Jp hb hl hs rfl hn (cQ h (λov bI z=>λpl=>?_) λ_ _ z=>z);obtain⟨a,vals,n,rfl,e,z⟩:=z;exact getMethod_builtin (az _ e rfl) PySem.F.plainAttrs_list slot ty (λb q=>by injection q with q;subst q;exact(az _ e rfl)) (sK (lq hs) rfl (.inl ⟨_,rfl⟩) (cQ z (λvs fQ z=>uK z) λ_ _ z=>z))
theorem vD(h:ql e=true):∀e'∈[e],ik e'=false:=λe' m=>cY m▸zU h
theorem D9(S:aX c d I)(h:bX (I.e F.nm) P.σ e=some (p,σ')){K:List ac->ag->Prop}(k:∀u Q,f9 P σ' Q->Rd p Q.x u->K [u] Q.x.s):ai (ah pw c.w) A.A (om (oo cp (lA [e] F.env))) K E P.x.s:=aa (vJ (vD (sx S h))) (wI (qH S h λu Q X r=>Cc (k u Q X r)))
theorem Hk(X:f9 P σ' Q)(h:bX (I.e F.nm) P.σ e=some (p,σ'))(h0:ak P.σ z=some (.own l'))(h1:gu σ' z=some l)(V:dB F.env P.x.s.heap z (.ref a)):l=l'/\ak Q.σ z=some (.own l)/\dB F.env Q.x.s.heap z (.ref a)/\∃vals n,Q.x.s.heap.get? a=some (bu vals n)/\bt l Q.x vals/\l.length<=aA:=by
 refine bE λgG hG=>?_;have h1:=(CZ h1).1;refine xA (tN (Q:=Q) (X.σ.symm▸h1)) λa' vals n V' e r hz=>?_;cases V'.vf (X.var V);exact hG (⟨X.own h0 h1 (Yp h),X.σ.symm▸h1,X.var V,vals,n,e,r,hz⟩)
theorem abX(S:aX c d I)(h0:kh P.σ z=some (.own l'))(hl:ap.endLine=cp.line)(hz:l'.length<aA)(he:bX (I.e F.nm) P.σ e=some (p,σ'))(h1:gu σ' z=some l)(hp:putN F.nm z (.own (l++[p])) σ'=some cJ):Nx A P (.Expr (.Call (.Attribute (.Name z xp) "append" ap) [e] [] cp) pos) cJ:=λK E k=>by
 have h0:=tU h0;refine jz (tN h0.1) λa vals n V e1 _=>yP (z8 rfl hl (vD (sx S he)) (by show 1<=20;decide) SE SF (qJ P V h0.2 (jS a _ n rfl e1 (D9 S he λu Q X r=>⟨Q.x.cT,?_⟩)))) vZ rfl;obtain⟨rfl,hx,V',mT,n',e2,r2,z2⟩:=Hk X he h0.1 h1 V;refine Kk (items:=mT.toArray) (hsz:=lM (us:=[]) (m:=[]) r2 z2 (r':=.nil) rfl) ⟨n',e2⟩ λh' u4 mW=>dN u4 λk' e3=>?_;rw[show mT.toArray.push u=(mT++[u]).toArray by simp] at e3;refine fb (lP (σ₀:=Q.σ) (X.σ.symm▸hp)) λ_ bY _=>?_;subst bY;refine cP (X.R.own (t:=Q.x.s.toks) hx V' mW e3 (aR.append (.cons r .nil) r2) (by erw[da];exact hz)) λR r' e s=>?_;exact s▸k R r' e
end
section
variable{m:Str}{σ₁:ar}{l':List PV}{Gl:Pos}{f:Fz}{h h':am}
theorem W2:(have k:=if(0:Int)<0 then(0+((vals.toArray.size:Nat):Int)).toNat else min (0:Int).toNat vals.toArray.size;(vals.toArray.extract 0 k).push u++vals.toArray.extract k)=(u::vals).toArray:=by
 simp
theorem Xj{k0:Nat}(S:aX c d I)(h0:kh P.σ z=some (.own l'))(hl:ap.endLine=cp.line)(hz:l'.length<aA)(he:bX (I.e F.nm) P.σ e=some (p,σ'))(h1:gu σ' z=some l)(hp:putN F.nm z (.own (p::l)) σ'=some cJ):Nx A P (.Expr (.Call (.Attribute (.Name z xp) "insert" ap) [.Constant (.int 0) k0 Gl,e] [] cp) pos) cJ:=λK E k=>by
 have h0:=tU h0;refine jz (tN h0.1) λa vals n V e1 _=>?_;have ns:∀e'∈[.Constant (.int 0) k0 Gl,e],ik e'=false:=λe' m=>(bw m).elim (λq=>q▸rfl) (vD (sx S he) e');have le:=P.x.cG (t:=P.x.s.toks+1) (h':=P.x.s.heap) λ_ _ e=>e;refine yP (z8 rfl hl ns (by show 2<=20;decide) af6 PySem.F.type_list_insert (qJ P V h0.2 (jS a _ n rfl e1 (?_)))) vZ rfl;refine aa (vJ ns) (wI (SC (wI (qH (P:=P.le le) S he λu Q X r=>Cc ⟨Q.x.cT,?_⟩))));refine bE λgG hG=>?_;obtain⟨rfl,hx,V',mT,n',e2,r2,z2⟩:=Hk X he h0.1 h1 V;refine hG (Fh af6 (az _ e2 rfl) PySem.F.entry_list_insert (PySem.F.args_list_insert_3 _ _ _) (AutoSeq1.list_insert_list_int_val_1 a mT.toArray n' 0 P.x.s.toks u (by decide) (lM (us:=[]) (m:=[]) r2 z2 (r':=.nil) rfl)) ⟨e2,?_⟩);have e3:=IsL.update (n:=n') (items:=mT.toArray) e2 (λxs=>have k:=if(0:Int)<0 then(0+(xs.size:Int)).toNat else min (0:Int).toNat xs.size;(xs.extract 0 k).push u++xs.extract k);rw[W2] at e3;refine fb (lP (σ₀:=Q.σ) (X.σ.symm▸hp)) λ_ bY _=>?_;subst bY;exact cP (X.R.own (t:=Q.x.s.toks) hx V' (uR ..) e3 (.cons r r2) hz) λR r' e s=>s▸k R ((bD.le le).trans r') e
theorem abF:(u::vals).toArray.eraseIdxIfInBounds 0=vals.toArray:=by
 unfold Array.eraseIdxIfInBounds;erw[dif_pos (by simp)];simp
theorem adc{k0:Nat}{yp:Pos}{y:Str}(h0:gu P.σ y=some (p::l))(hl:ap.endLine=cp.line)(hp1:putN F.nm y (.own l) P.σ=some σ₁)(hp:putN F.nm z (.pv p) σ₁=some cJ):Nx A P (.Assign [.Name z xp] (.Call (.Attribute (.Name y yp) "pop" ap) [.Constant (.int 0) k0 Gl] [] cp) pos) cJ:=λK E k=>by
 have h0:=CZ h0;refine xA (tN h0.1) λa vals n V e1 r1 z1=>?_;have ns:∀e'∈[Expr.Constant (.int 0) k0 Gl],ik e'=false:=λe' m=>cY m▸rfl;refine yQ (z8 rfl hl ns (by show 1<=20;decide) af7 PySem.F.type_list_pop (qJ P V h0.2 (jS a _ n rfl e1 (?_)))) rfl;refine aa (vJ ns) (wI (SC (Cc ⟨(P.x.tok (P.x.s.toks+1)).cT,?_⟩)));revert e1;refine eC r1 λ{u us} ru rl e1=>Fh af7 (az _ e1 rfl) PySem.F.entry_list_pop (PySem.F.args_list_pop_2 _ _) (MeetsSeq.list_pop_at a (u::us).toArray n 0 P.x.s.toks 0 u (by decide) (by simp[yy]) (by simp) (lM (us:=[]) (m:=[]) (.cons ru rl) z1 (r':=.nil) rfl)) ⟨e1,?_⟩;refine bE λgG hG=>?_;have e3:=IsL.update (n:=n) (items:=(u::us).toArray) e1 (λxs=>xs.eraseIdxIfInBounds 0);rw[abF] at e3;refine fb (lP hp1) λ_ bY _=>?_;subst bY;exact cP ((bD.refl P).own (t:=P.x.s.toks+1) h0.1 V (uR ..) e3 rl (lB z1)) λR r' e s=>hG (s▸vU r' (e.symm▸hp) (r'.st.rd ru) λR r e _=>k R r e)
theorem aR.set{vals:List ac}(r:aR c f vals l)(b:aV c f u p)(k:Nat):aR c f (vals.set k u) (l.set k p):=by
 induction l generalizing vals k with
 |nil=>exact iR r .nil
 |cons q l ih=>
  refine eC r λa r=>?_;induction k using n7 with
  |zero=>exact .cons b r
  |succ k=>exact .cons a (ih r k)
theorem adb{s:ag}{A:bh}{w:cO}{items:Array ac}{k:Int}{t:Tok}{v:ac}{Q:Unit->ag->Prop}(hl:s.heap.get? a=some {cls:=.type "list",data:=.seq items n})(h0:0<=k)(Gm:k<2^63)(hn:k.toNat<items.size)
(hQ:Q () {s with heap:=s.heap.update a (Fx (·.setIfInBounds k.toNat v))}):ai (ah pw w) A (setItem (.ref a) (.int k t) v) Q E s:=by
 have ht:s.TypeIs (.ref a) "list":=(az _ hl rfl);unfold setItem
 try with_reducible refine dO ?_
 first|refine ae (au ?_)|skip
 refine ae (wpAny_sequenceKey ht (by decide) (ae (Kq (name:=dw "__setitem__") ht slot_list_setitem (uS slot_list_setitem ht entry_list_setitem ?_ (args_list_setitem _ _ _)))));show ai _ _ (Builtin.List.listSubscript? (.int k t)>>=_) _ _ s;refine ae (wpAny_listSubscript_int (fitsIndex_of h0 Gm) ?_);clear Gm;obtain⟨j,rfl⟩:=Int.eq_ofNat_of_zero_le h0;have hj:items[j]?=some items[j]:=tg hn
 skip
 refine ae (ae (wpAny_seqItemAt hl rfl (au (hj.symm▸ ?_))))
 skip
 refine ae (wpAny_setSeqItemAt hl rfl ?_)
 first
  |exact ae (au (au (jH .none rfl (au hQ))))
  |exact au (az .none rfl (au hQ))
theorem Si{iv:ac}{j:PV}{K:Unit->ag->Prop}(R:bD P Q)(h:ak Q.σ z=some (.own l))(hv:dB F.env Q.x.s.heap z (.ref a))(hs:jU l j p=some l')(rj:Rd j Q.x iv)(r:Rd p Q.x u)(k:∀R,bD P R->R.σ=b9 Q.σ z (.own l')->K () R.x.s):ai (ah pw c.w) A.A (setItem (.ref a) iv u) K E Q.x.s:=by
 revert rj;refine aj hs λi hj hs=>aL hs λb hs=>eA hj λrj=>bU rj λt=>bE λgG hG=>xA (tN h) λa' vals n V e rl hz=>?_;cases V.vf hv;cases ay hs;have e3:=IsL.update (n:=n) (items:=vals.toArray) e (·.setIfInBounds i.toNat u);rw[show vals.toArray.setIfInBounds i.toNat u=(vals.set i.toNat u).toArray by simp] at e3;refine cP (R.own (t:=Q.x.s.toks) h V (uR ..) e3 (rl.set r _) (by erw[List.length_set];exact hz)) λR' r' e' s=>?_;exact hG (adb e b.1 (yz b.2 (pQ (pJ hz) (by decide))) (by erw[i4];erw[rl.length];exact(Int.toNat_lt b.1).mpr b.2) (s▸k R' r' e'))
theorem Xb{j:PV}{k:Int}(h:j.ei=some k):j.isScalar=true:=eA (m:=λj=>j.isScalar=true) h rfl
theorem Nt{j:PV}(hs:jU l j p=some l'):j.isScalar=true:=aj hs λ_ h _=>Xb h
theorem acx{k:PV}(S:aX c d I)(he:bX (I.e F.nm) P.σ e=some (p,σ'))(h1:gu σ' z=some l)(hi:I.e F.nm (bA σ') i=some k)(hs:jU l k p=some l')(hp:putN F.nm z (.own l') σ'=some cJ):Nx A P (.Assign [.Subscript (.Name z xp) i tp] e pos) cJ:=λK E kk=>by
 have h1:=CZ h1;refine wpAny_Assign_Subscript (qH S he λu Q X r=>?_) (by cases e<;>rfl);refine ue (tN (Q:=Q) (X.σ.symm▸h1.1)) λa vals n V _=>qJ Q V h1.2 (JJ S (X.σ.symm▸hi) λiv Q' X' r'=>fb (lP (σ₀:=Q.σ) (X.σ.symm▸hp)) λ_ bY _=>?_);subst bY;exact Si (X.R.trans X'.R) (X'.σ.symm▸X.σ.symm▸h1.1) (X'.var V) hs (r' (Nt hs)) (X'.R.st.rd r) λR r e=>kk R r (by erw[e];erw[X'.σ];rfl)
theorem aay{k b r:PV}{l0:List PV}(S:aX c d I)(Or:cg c O d)(h0:gu P.σ z=some l0)(hi:I.e F.nm (bA P.σ) i=some k)(hg:bP (.list l0) k=some b)(he:bX (I.e F.nm) P.σ e=some (r,σ'))(hb:tV O op b r=some p)(h1:gu σ' z=some l)(hs:jU l k p=some l')(hp:putN F.nm z (.own l') σ'=some cJ):Nx A P (.AugAssign (.Subscript (.Name z xp) i tp) op e pos) cJ:=λK E kk=>by
 have h0:=CZ h0;refine xA (tN h0.1) λa vals n V e1 r1 z1=>wpAny_AugAssign_SubscriptAny (qJ P V h0.2 (JJ S hi λiv Q X ri=>?_)) (by have:=S.nn hi;cases i<;>first|(intros;rfl)|exact absurd this dy);have hx:ak Q.σ z=some (.own l0):=X.σ.symm▸h0.1;refine xA (tN hx) λa' mT n' V' e2 r2 z2=>?_;cases V'.vf (X.var V);have rk:=ri (Nt hs);have item:∃v,Rd b Q.x v/\∀{K:ac->ag->Prop},K v Q.x.s->ai (ah pw c.w) A.A (yC (.ref a) iv) K E Q.x.s:=by
  obtain⟨j,rfl,bd⟩:∃j,k=.int j/\0<=j:=aj hs λj hj hs=>aL hs λb _=>(az j (eA (m:=λk=>k=.int j) hj rfl) b.1);refine bU (m:=λiv=> ∃v,Rd b Q.x v/\∀{K:ac->ag->Prop},K v Q.x.s->ai (ah pw c.w) A.A (yC (.ref a) iv) K E Q.x.s) rk λt=>bE λgG hG=>aj (show(yy j l0.length).bind (λi=>l0[i]?)=some b from hg) λi' Go hg=>aB (r2.get hg) λv e3 rv=>fb (JK Go z2) λb1 b2 c'=>hG ((az v rv (λq=>?_)));rcases c' with⟨c1,rfl⟩|⟨c1,_⟩
  ·exact wpAny_getItem_list ⟨_,e2,rfl,n',rfl⟩ c1 b2 (CM e3) q
  ·exact absurd bd (y5.mpr c1)
 refine aB item λv rv get=>get (qH (P:=Q) S (X.σ.symm▸he) λu Ls CC rc=>NT Or hb (CC.R.st.rd rv) rc _ _ λt y le r3=>afh (Hk CC (X.σ.symm▸he) hx h1 V') λqe0 hx2 V2 _=>?_);subst qe0;refine fb (lP (σ₀:=Ls.σ) (CC.σ.symm▸hp)) λ_ bY _=>?_;subst bY;exact Si (Q:=Ls.le le) ((X.R.trans CC.R).trans (.le le)) hx2 ((f9.le (P:=Ls) le).var V2) hs (((CC.R.trans (.le le)).st.rd rk)) r3 kk
end
end
section
variable{c:Cx}{F:Fm}{P Q R:St c F}{w:Pt c}{z q m:Str}{u:ac}{V N as:List ao}{a b D dx:ao}{d k n:Nat}{p r:PV}{σ' cJ:ar}{I:Ip}{t i:Expr}{O:aK}{ow:List Str}{pos xp ap cp:Pos}{es:List Expr}{fs eY:List (Str×PV)}{vs:List (Str×ac)}{f:Fz}{h h':am}{env:Env}{v':AV}
section
set_option tactic.hygienic true
variable{y:Pt c}{v:AV}{o:Obj}{A:Am d}{J:Ip}{e:Expr}{l:List PV}{E:ac->ag->Prop}{vals:List ac}{K:ac->ag->Prop}{ow':List Str}
theorem VP{es:List pN}{t:Tok}(e:jQ c vs es):jQ c (b9 vs z u) (yR z (pO c.w.params z) (.str z t) u es):=by
 induction vs generalizing es with
 |nil=>exact(e:es=[])▸(du t ([]) rfl rfl)
 |cons q vs ih=>
  obtain⟨y,u'⟩:=q;obtain⟨t',r,rfl,e⟩:=e;by_cases k:y=z
  ·exact aa (show b9 ((y,u')::vs) z u=(z,u)::vs from iP k) (aa (show yR z (pO c.w.params z) (.str z t) u (⟨pO c.w.params y,.str y t',u'⟩::r)=_ from iP (show(y==z)=true from jV k)) ((du t' r (k▸rfl) e)))
  ·exact aa (show b9 ((y,u')::vs) z u=(y,u')::b9 vs z u from iN k) (aa (show yR z (pO c.w.params z) (.str z t) u (⟨pO c.w.params y,.str y t',u'⟩::r)=_ from iN (show ¬(y==z)=true from λq=>k (a5 q))) ((du t' _ rfl (ih e))))
noncomputable def Hd(K:km)(p:Nat×Str):Bool:=plainOver K p.1&&takerIn K p.1 p.2==some none&&(clsIn K p.1).any (·.hasDict)&&fN K (.ref p.1) "__setattr__"==some (some (.builtin "object.__setattr__"))
theorem abx(P:cD):Al.all (Hd (KL P))=true:=⋯
theorem afw{es:List pN}{k:ac}{hh:Int}:(yR z hh k u es).length<=es.length+1:=by
 induction es with
 |nil=>exact bf _
 |cons e r ih=>
  unfold yR;split
  ·exact iH _
  ·exact yE ih
theorem ϔ{s:ag}{A:bh}{w:cO}{es:List pN}{K:Unit->ag->Prop}(X:(KL w.params).In s.heap)(h1:s.heap.get? a=some (l4 k dx))(h2:s.heap.get? dx=some (rR es n))(ok:Hd (KL w.params) (k,z)=true)(hl:(getL z es).isSome=true)(hz:es.length<=1000)
(h:∀h' t t',dD dx s.heap h'->h'.get? dx=some (rR (yR z (pO w.params z) (.str z t) u es) (PySem.W.putN z es n))->K () {s with heap:=h',toks:=t'}):
  ai (ah pw w) A (setAttr (.ref a) z u) K E s:=by
 unfold Hd at ok;simp only[mI,beq_iff_eq] at ok;obtain⟨⟨⟨o1,o2⟩,o3⟩,o4⟩:=ok;have I:InstAt s.heap a (l4 k dx) k (some (uH es n)):=⟨h1,rfl,rfl,h2⟩;refine set_plain X I o4 (osa_open (s:={s with toks:=s.toks+1}) X I o1 o2 λb=>aB (qX o3) λcd hc Lu=>?_);have e:=putName_dict z (pO w.params z) (.str z (s.toks+1)) u es n;have D':(s.heap.update dx (Obj.putName z (pO w.params z) (.str z (s.toks+1)) u)).get? dx=some (uH (yR z (pO w.params z) (.str z (s.toks+1)) u es) (PySem.W.putN z es n)):=
  (af some e)▸af8 _ h2 (by erw[e];rfl)
 refine ae (au (ae (ae (wpAny_loadPart h1 (ae (iG.here (s:={s with toks:=s.toks+1}) (looks_clsIn X hc) (Lu.symm▸(au (a:=some dx) (ae (au (ae ?_)))))))))));unfold nsSet;refine ae (ae (oA (au (ae (wpAny_mkText (ae (wpAny_loadPart h2 ?_)))))));unfold rR;dsimp only;have nk:(!es.toArray.any (·.key.isStr z)&&es.toArray.any (·.refKey))=false:=by
  refine hZ (Array.any_toList) (hZ (Array.any_toList) ?_);unfold getL at hl;split at hl
  ·rename_i en he;erw[Ld.mpr (az en (List.mem_of_find?_eq_some he) (List.find?_some he))];rfl
  ·split at hl
   ·injection hl
   ·rename_i z;rw[Bool.not_eq_true] at z;erw[z];rw[Fy]
 rw[aRefKeyMayBeTheName_at,nk];refine wpAny_updatePart h2 (ae (wpAny_lookBehind D' (pastItsLine_dict (by erw[i4];erw[Kr];have:=afw (z:=z) (u:=u) (es:=es) (k:=.str z (s.toks+1)) (hh:=pO w.params z);lia)) ?_));exact au (h _ _ _ (uR ..) D')
theorem sj.Em(s:sj c f h ow z u p N)(k:ow'.contains z=ow.contains z):sj c f h ow' z u p N:=s.imp (λs=>⟨k.trans s.1,s.2⟩) λs=>⟨k.trans s.1,s.2⟩
theorem jj.Em(s:jj c f h ow fs vs as)(k:∀z∈vs.map (·.1),ow'.contains z=ow.contains z):jj c f h ow' fs vs as:=by
 induction fs generalizing vs as with
 |nil=>exact s
 |cons q fs ih=>
  obtain⟨v,r,N,f7,rfl,e2,e,s⟩:=s;exact(vR v r N f7 rfl e2 (e.Em (k _ (.head _))) (ih s λz m=>k z (.tail _ m)))
theorem adD(s:jj c f h ow fs vs as)(e:sj c f h ow' z u p N)(jP:∀y,y≠z->ow'.contains y=ow.contains y)(nd:(vs.map (·.1)).Nodup):
  ∃f7,jj c f h ow' (b9 fs z p) (b9 vs z u) f7/\(∀b∈f7,b∈as\/b∈N)/\(as.Nodup->N.Nodup->(∀b∈N,b∉as)->f7.Nodup):=by
 induction fs generalizing vs as with
 |nil=>
  obtain⟨rfl,rfl⟩:=s;exact(cz N (Bm u ([]) N ([]) rfl ((gO N).symm) e rfl rfl) (λb=>.inr) (λ_ h _=>h))
 |cons q fs ih=>
  obtain⟨v,r,N',f7,rfl,rfl,e',s⟩:=s;have n:=iV nd;obtain⟨y,p'⟩:=q;by_cases k:y=z
  ·exact aa (show b9 ((y,p')::fs) z p=(z,p)::fs from iP k) (aa (show b9 ((y,v)::r) z u=(z,u)::r from iP k) ((cz (N++f7) (vR u r N f7 rfl rfl e (s.Em λy' m=>jP y' λq=>n.1 (show y∈_ from k.trans q.symm▸m))) (λb m=>(lN m).elim .inr λm=>.inl (fE _ m)) (λh1 h2 h3=>wU.mpr (ej h2 ((wU.mp h1).2.1) (λa ma b mb q=>h3 a ma (q▸fE _ mb)))))))
  ·exact aa (show b9 ((y,p')::fs) z p=(y,p')::b9 fs z p from iN k) (aa (show b9 ((y,v)::r) z u=(y,v)::b9 r z u from iN k) (cP (ih s n.2) λUe k1 k2 k3=>(cz (N'++Ue) (vR v _ N' Ue rfl rfl (e'.Em (jP y k)) k1) (λb m=>(lN m).elim (λm=>.inl (tn _ m)) λm=>(k2 b m).imp (fE _) id) (λh1 h2 h3=>by
    have h1:=wU.mp h1;exact wU.mpr (ej h1.1 (k3 h1.2.1 h2 λb mb q=>h3 b mb (fE _ q)) (λa ma b mb q=>(k2 b mb).elim (λm=>h1.2.2 a ma b m q) λm=>h3 b m (q▸tn _ ma)))))))
theorem Υ(s:jj c f h ow fs vs as):vs.length=fs.length:=by have:=af yD (R7 s);rwa[bi,bi] at this
theorem afZ{es:List pN}(e:jQ c vs es):vs.length=es.length:=by
 induction vs generalizing es with
 |nil=>exact(e:es=[])▸rfl
 |cons q vs ih=>obtain⟨t,r,rfl,e⟩:=e;exact af jp (ih e)
theorem Nd{K:Unit->ag->Prop}(R:bD P Q)(hx:ak Q.σ z=some (.a7 k fs ow))(hv:dB F.env Q.x.s.heap z (.ref a))(ht:Al.contains (k,q)=true)(hz:fs.length<=100)
(en:∀h',(∀b o,b∈N->Q.x.s.heap.get? b=some o->h'.get? b=some o)->sj c Q.x.f h' ow' q u p N)(jP:∀y,y≠q->ow'.contains y=ow.contains y)(nN:N.Nodup)(hN:∀b∈N,bV Q.x b/\¬dq F.env b/\(∀y v,ak Q.σ y=some v->b∉Q.U y)/\P.x.s.heap.get? b=none)
(kk:∀R,bD P R->R.σ=b9 Q.σ z (.a7 k (b9 fs q p) ow')->K () R.x.s):ai (ah pw c.w) A.A (setAttr (.ref a) q u) K E Q.x.s:=by
 obtain⟨u',V',a',rfl,dx,es,n,vs,as,h1,h2,h3,h4,hU,h6,h7⟩:=Q.own z _ hx;cases V'.vf hv;have zj:dx∈Q.U z:=hU▸ .tail _ (.head _);have nd:=iV h6;have zk:=iV nd.2;refine ϔ Q.x.cT h1 h2 (b7 (abx c.w.params) _ (qt ht)) (by erw[xK h3];rfl) (by have:=afZ h3;have:=Υ h4;lia) λh' t t' hs e=>?_;have keep:∀b o,b≠dx->Q.x.s.heap.get? b=some o->h'.get? b=some o:=λb o ne e=>(hs.2 b ne).trans e;refine cP (adD (h4.mono (h':=h') (λb o mb e=>keep b o (λq=>zk.1 (q▸mb)) e) λ_ _ e=>e) (en h' λb o mb e=>keep b o (λq=>(hN b mb).2.2.1 z _ hx (q▸zj)) e) jP h7) λf7 k1 k2 k3=>?_;have no:∀b,b∈a::dx::as->b∉N:=λb m q=>(hN b q).2.2.1 z _ hx (hU▸m);have w:Wr (· ∈Q.U z) Q.x.s.gens.size Q.x (Q.x.but (t:=t') hs (Q.fresh z _ hx dx zj).1 λo e' k=>by obtain⟨_,vs,q⟩:=k;rw[<-ay (h2.symm.trans e')] at q;injection q):=.but zj;have mem:∀b∈a::dx::f7,b∈Q.U z\/b∈N:=λb m=>(bw m).elim (λq=>.inl (hU▸q▸ .head _)) λm=>(bw m).elim (λq=>.inl (q▸zj)) λm=>(k2 b m).imp (λm=>hU▸ .tail _ (.tail _ m)) id;have N':Ep Q _ z (.a7 k (b9 fs q p) ow') (a::dx::f7):=⟨⟨.ref a,hv.keep λb o w e=>keep b o (λq=>(Q.fresh z _ hx dx zj).2 (q▸w)) e,a,rfl,dx,_,_,b9 vs q u,f7,keep _ _ (λq=>nd.1 (q▸ .head _)) h1,e,VP h3,k1,rfl,
   nL ⟨λm=>(bw m).elim (λq=>nd.1 (q▸ .head _)) λm=>(k2 _ m).elim (λm=>nd.1 (.tail _ m)) (no _ (.head _)),nL ⟨λm=>(k2 _ m).elim zk.1 (no _ (.tail _ (.head _))),k3 zk.2 nN λb mb q=>no b (.tail _ (.tail _ q)) mb⟩⟩,PT h7⟩,
  λb m=>(mem b m).elim (λm=>⟨w.free (Q.fresh z _ hx b m).1,(Q.fresh z _ hx b m).2⟩) λm=>⟨w.free (hN b m).1,(hN b m).2.1⟩,λb m q v n h'=>(mem b m).elim (λm m'=>Q.dj z q _ v n.symm hx h' b m m') λm=>(hN b m).2.2.1 q v h'⟩
 exact kk (Q.put _ z _ _ (.yj w.st (λb m=>(Q.fresh z _ hx b m).2) λq v n h' b m m'=>Q.dj q z v _ n h' hx b m m') N') (R.put w.st (λb m=>R.wu b (.inr (du z _ hx m))) (λb m=>(mem b m).elim (λm=>R.wu b (.inr (du z _ hx m))) λm=>.inr (hN b m).2.2.2)
  λk' eY Ud a2 h' V2=>⟨by cases ay (hx.symm.trans h');exact(jH _ _ rfl),V2.keep λb o w e=>keep b o (λq=>(Q.fresh z _ hx dx zj).2 (q▸w)) e⟩) rfl
theorem Rk{y:Str}:(ow.filter (· !=z)).contains y=(ow.contains y&&y !=z):=by
 rw[FA,kx,oC,mI,kx]
theorem lK{v:AV}{i:Nat×List (Str×PV)×List Str}(h:v.lK=some i):v=.a7 i.1 i.2.1 i.2.2:=by
 induction v using lh with
 |a7=>cases ay h;rfl
 |_=>exact nS h
theorem WN{i:Nat×List (Str×PV)×List Str}{y:Str}(S:aX c d I)(S':aX c d ⟨o0 O I J,CV O I⟩)(ov:Ov c d)(he:bX (o0 O I J F.nm) P.σ e=some (p,σ'))(hx:kh σ' z=some v)(hi:v.lK=some i)(ht:Al.contains (i.1,y)=true)(hz:i.2.1.length<=100)(hp:putN F.nm z (zG (ry e) i.1 i.2.1 i.2.2 y p) σ'=some cJ):Nx A P (.Assign [.Attribute (.Name z xp) y ap] e pos) cJ:=λK E k=>by
 cases lK hi;have hx:=tU hx;refine plainObj_wpAny_Assign_Attribute ?_ (by cases e<;>rfl);refine fb (lP hp) λ_ hσ _=>?_;by_cases q:ry e=true/\p.ij.isSome=true
 ·refine dN (tA.mp q.2) λl hl=>?_;have hl:p=.list l:=pI (m:=λp=>p=.list l) hl rfl;subst hl;refine Io S ov he q.1 λQ D X L=>?_;obtain⟨u,V,a,rfl,_⟩:=Q.own z _ (X.σ.symm▸hx.1);refine eH L.d λvals n e1 rl=>qJ Q V hx.2 (Nd (N:=[D]) (ow':=y::i.2.2) X.R (X.σ.symm▸hx.1) V ht hz (λh' kk=>.inr ⟨by erw[af9];rw[beq_self_eq_true];rfl,D,l,rfl,rfl,⟨(du vals n (kk D _ (.head _) e1) rl),L.len⟩,rfl⟩) (λz ne=>by erw[af9];erw[li ne];rfl) (nL ⟨eX,wJ⟩) (λb m=>cY m▸(zK L.fr L.env L.U L.nw)) λR r e=>k R r (e.trans (X.σ▸yS (by unfold zG;erw[iP q];rfl) hσ)))
 ·refine qH S' he λu Q X r=>?_;obtain⟨_,V,a,rfl,_⟩:=Q.own z _ (X.σ.symm▸hx.1);refine qJ Q V hx.2 (Nd (N:=[]) (ow':=i.2.2.filter (· !=y)) X.R (X.σ.symm▸hx.1) V ht hz (λh' kk=>.inl (ej (by rw[Rk,bne_self_eq_false,Fy]) r rfl)) (λz ne=>by erw[Rk];erw[bne_iff_ne.mpr ne];rw[Ki]) wJ (λb m=>mN m) λR r e=>k R r (e.trans (X.σ▸yS (by unfold zG;erw[iN q];rfl) hσ)))
end
noncomputable abbrev wp(l:List Env):List ao:=l.filterMap (·.frame)
structure aeP(h₀ h:am)(W:ao->Prop)(e:Env)(L:ao)(o:Obj):Prop where
 kind:e.scope.kind≠ .module
 at_:e.frame=some L
 old:h₀.get? L=none
 low:719<=L
 there:h.get? L=some o
 data:∀vs,o.data≠ .fields vs
 out:¬W L
def nG(h₀ h:am)(W:ao->Prop)(l:List Env):Prop:=∀e∈l,∃L o,aeP h₀ h W e L o
structure i9(l:List Env)(W:ao->Prop)(s:ag)(v:ac)(s':ag)(B:am)(e:ao):Prop where
 v:v=.ref e
 tab:io B
 keep:∀b o,s.heap.get? b=some o->¬dA b->¬W b->b∉wp l->B.get? b=some o
 Hi:∃a0,am.FlyingW B l e (.ref 664) a0 s'.heap
 slots:∀b o,s.heap.get? b=some o->¬dA b->¬W b->(∀vs,o.data≠ .fields vs)->∃sl,s'.heap.get? b=some {o with slots:=sl}
 x:ci (λ_=>True) s.gens.size s s'
section
variable{h₀:am}{s s' cX:ag}{W wZ:ao->Prop}{l outer:List Env}{v:ac}{B:am}{e L:ao}{A:bh}{M:f4}{E:ac->ag->Prop}{K:Unit->ag->Prop}
theorem ci.any{g:Nat}(x:ci W g s s'):ci (λ_=>True) g s s':=x.weaken λ_ _=>trivial
theorem ci.heap{h:am}{t:Nat}(s:ag):ci (λ_=>True) s.gens.size s {s with heap:=h,toks:=t}:=⟨λ_ _ _ _ n=>absurd trivial n,λ_ _ _ h=>h,bf _,λh=>h,rfl⟩
theorem i9.pre(x:ci wZ cX.gens.size cX s)(k:∀b,W b->wZ b\/cX.heap.get? b=none)(F:i9 l W s v s' B e):i9 l wZ cX v s' B e:=
 have nw:∀b o,cX.heap.get? b=some o->¬wZ b->¬W b:=λb o q n z=>(k b z).elim n λy=>nS (y.symm.trans q)
 ⟨F.v,F.tab,λb o q t n m=>F.keep b o (x.keep b o q t n) t (nw b o q n) m,F.Hi,λb o q t n=>F.slots b o (x.keep b o q t n) t (nw b o q n),x.any.trans (F.x.lower x.de (bf _))⟩
theorem nG.step(X:nG h₀ s.heap W l)(x:ci W s.gens.size s s')(k:∀b,wZ b->W b\/s.heap.get? b=none):nG h₀ s'.heap wZ l:=λenv m=>jZ (X env m) λL o F=>⟨L,o,F.kind,F.at_,F.old,F.low,x.keep L o F.there (cN F.low) F.out,F.data,λq=>(k L q).elim F.out λz=>nS (z.symm.trans F.there)⟩
theorem nG.ext(X:nG h₀ s.heap (λ_=>False) l)(x:e8 s s'):nG h₀ s'.heap (λ_=>False) l:=X.step x.n8 λ_ z=>z.elim
theorem i9.ext(x:e8 cX s)(F:i9 l (λ_=>False) s v s' B e):i9 l (λ_=>False) cX v s' B e:=F.pre x.n8 λ_ z=>z.elim
theorem o_(X:nG h₀ h W l)(k:∀a∈wp l,B.get? a=none):h.FunFrames B l:=by
 induction l with
 |nil=>exact trivial
 |cons env l ih=>
  refine jZ (X env (.head _)) λL o F=>?_;have e:wp (env::l)=L::wp l:=af' F.at_;rw[e] at k;exact(ej F.kind (uw L o F.at_ (k L (.head _)) F.there F.data) (ih (λe m=>X e (.tail _ m)) λa m=>k a (.tail _ m)))
theorem Ih(hf:env.frame=some L):wp (env::outer)=L::wp outer:=af' hf
theorem aeV(F:i9 (env::outer) W s v s' B e)(hA:A.frames=some (env::outer))(hf:env.frame=some L)(hL:s.heap.get? L=none\/W L)
(h:∀h',i9 outer W s v {s' with heap:=h'} B e->K () {s' with heap:=h'}):ai M A (wK env v) K E s':=by
 refine dN F.Hi λa0 y=>aa (F.v) (wpAny_leaves_onW hA hf y λh' y u=>h h' ⟨F.v,F.tab,λb o q t n m=>F.keep b o q t n λz=>?_,⟨a0,y⟩,λb o q t n k=>?_,F.x.trans ((ci.heap (t:=s'.toks) s').lower F.x.de (bf _))⟩)
 ·rw[Ih hf] at z;exact(bw z).elim (λz=>hL.elim (λhL=>nS (hL.symm.trans (z▸q))) λhL=>n (z▸hL)) m
 ·exact dN (F.slots b o q t n k) λsl q'=>dN (u b {o with slots:=sl} q' k) λUf q2=>⟨Uf,q2⟩
theorem X5{h':am}{args:List ac}(tab:io s.heap)(X:nG h₀ s.heap wZ (env::outer))(m:am.MadeExcOf s.heap h' e (.ref 664) args)(hA:A.frames=some (env::outer))(hf:env.frame=some L)(hL:W L)
(h:∀Gp B,i9 outer W s (.ref e) {s with heap:=Gp} B e->K () {s with heap:=Gp}):ai M A (wK env (.ref e)) K E {s with heap:=h'}:=by
 refine wpAny_leaves_madeW (base:=hideAll s.heap (wp (env::outer))) (h:=s.heap) hA hf (λb o q=>of_hideAll _ q) (o_ X λa z=>hideAll_none _ z) m λGp t y _ _ u=>h Gp _ ⟨rfl,tab.but λb o q k=>hideAll_get _ q λz=>?_,λb o q _ n z=>hideAll_get _ q λz'=>?_,⟨_,y⟩,λb o q _ _ k=>u b o (m.keeps b o q) k,.heap (t:=s.toks) s⟩
 ·refine aB (ag1.mp z) λahh me hf=>jZ (X ahh me) λL o' F=>?_;obtain rfl:=ay (F.at_.symm.trans hf);refine k.elim (λk=>cV _ (ba k F.low)) λk=>?_;obtain⟨_,vs,k⟩:=k;obtain rfl:=ay (q.symm.trans F.there);exact F.data vs k
 ·rw[Ih hf] at z';exact(bw z').elim (λz'=>n (z'▸hL)) z
end
section
variable{A:Am d}{outer:List Env}{v:ac}{s':ag}{B:am}{e:ao}
def rJ(A:Am d)(P:St c F)(outer:List Env)(v:ac)(s':ag):Prop:=ai (ah pw c.w) A.A (wK F.env v) (λ_ i8=> ∃B e,i9 outer (WU P) P.x.s v i8 B e) No s'
structure Fc(A:Am d)(P:St c F)(outer:List Env):Prop where
 stack:A.A.frames=some (F.env::outer)
 own:F.env.frame=some F.env.locals
 ins:nG c.h₀ P.x.s.heap (WU P) outer
theorem Fc.step(x:Fc A P outer)(a:bD P Q):Fc A Q outer:=⟨x.stack,x.own,x.ins.step a.st.e a.wu⟩
theorem rJ.pre(a:bD P Q)(b:rJ A Q outer v s'):rJ A P outer v s':=cQ b (λ_ _ h=>by refine jZ h λB e f=>?_;exact(jH B e (f.pre a.st.e a.wu))) λ_ _ z=>z
theorem YZ:PassesOwnAt (ah pw c.w) A.A A.A F.env (rJ A P outer):=PassesOwnAt.leavingOf (SameStack.refl A.A)
theorem Fc.frames(F':Fc A P outer):nG c.h₀ P.x.s.heap (λ_=>False) (F.env::outer):=λe m=>by
 rcases bw m with rfl|m
 ·exact aeZ P.o.ns λm o es ep q q2 _=>⟨_,o,by erw[F.kind];exact nofun,F'.own,P.o.own.h₀,P.o.own.hi,q,(λvs z=>by rw[q2] at z;injection z),id⟩
 ·exact jZ (F'.ins e m) λL o f=>⟨L,o,f.kind,f.at_,f.old,f.low,f.there,f.data,id⟩
theorem i9.after(f:Fc A P outer)(b:i9 (F.env::outer) (λ_=>False) P.x.s v s' B e):rJ A P outer v s':=
 aeV (b.pre (.refl P.x.s) λ_ z=>z.elim) f.stack f.own (.inr (.inl (.inl rfl))) λ_ y=>(jH B e y)
theorem acZ{s:ag}{h':am}{args:List ac}(f:Fc A P outer)(x:e8 P.x.s s)(tab:io s.heap)(m:am.MadeExcOf s.heap h' e (.ref 664) args):rJ A P outer (.ref e) {s with heap:=h'}:=
 X5 (W:=WU P) tab (f.frames.ext x) m f.stack f.own (.inl (.inl rfl)) λ_ B y=>(jH B e (y.pre x.n8 λ_ z=>.inl z))
end
structure hH(c:Cx)(O:aK)(d:Nat):Prop where
 mw:∀{k fs ow m q eY},O.mw k fs ow m [q]=some eY->∃g,vH (KL c.w.params) k m g=true/\ak fs m=none/\∀{A:Am d} {x:Pt c} {a V v} {K:ac->ag->Prop} {E},pz c x.f x.s.heap k fs ow a V->(∀b∈V,bV x b)->Rd q x v->
  (∀u y V',cH (· ∈V) x y->pz c y.f y.s.heap k eY ow a V'->(∀b∈V',b∈V\/x.s.heap.get? b=none)->(∀b∈V',bV y b)->K u y.s)->ai (ah pw c.w) A.A (bC (.ref g) [.ref a,v] []) K E x.s
 make:∀{C vs ks r},O.make C vs ks=some r->∃g,di c.w.params C=some g/\oO c.w.params g/\∀{A:Am d} {x:Pt c} {us kv} {K:ac->ag->Prop} {E},bt vs x us->bN c x.f kv ks->
  (∀y a V,Le x y->pz c y.f y.s.heap r.1 r.2.1 r.2.2 a V->(∀b∈V,bV y b/\x.s.heap.get? b=none)->K (.ref a) y.s)->ai (ah pw c.w) A.A (bC g us kv) K E x.s
 nW:∀{z vs ks},O.nW z vs ks=true->∃g,di c.w.params z=some g/\oO c.w.params g/\∀{A:Am d} {x:Pt c} {us kv l} {K:ac->ag->Prop} {E},bt vs x us->bN c x.f kv ks->A.A.frames=some l->nG c.h₀ x.s.heap (λ_=>False) l->
  (∀v s' B e,i9 l (λ_=>False) x.s v s' B e->E v s')->ai (ah pw c.w) A.A (bC g us kv) K E x.s
section
variable{x y:Pt c}{v:AV}{C:ao}{W:ao->Prop}{g:Nat}{o:Obj}{A:Am d}{e:Expr}{l l':List PV}{E:ac->ag->Prop}{vals:List ac}{K:ac->ag->Prop}{np:Pos}{args:List Expr}{kws:List fj}{outer:List Env}
theorem YX(s:jj c f h ow fs vs as)(hk:ak fs z=some p)(ho:ow.contains z=true)(nd:as.Nodup):
  ∃D l,p=.list l/\ak vs z=some (.ref D)/\D∈as/\uu c f h D l/\∀h' f' l',Sub f f'->(∀b o,b∈as->b≠D->h.get? b=some o->h'.get? b=some o)->uu c f' h' D l'->jj c f' h' ow (b9 fs z (.list l')) vs as:=by
 induction fs generalizing vs as with
 |nil=>exact nS hk
 |cons q fs ih=>
  obtain⟨v,r,N,f7,rfl,rfl,e,s⟩:=s;obtain⟨y,p'⟩:=q;have nd:=wU.mp nd;by_cases k:y=z
  ·obtain rfl:=ay ((iP k).symm.trans hk);rcases e with⟨e,_⟩|⟨e,D,l,rfl,rfl,o,rfl⟩
   ·exact ff (e▸k▸ho:false=true)
   ·exact(ND D l rfl (iP k) (.head _) o (λh' f' l' hf kp o'=>aa (show b9 ((y,PV.list l)::fs) z (.list l')=(z,.list l')::fs from iP k) ((vR (.ref D) r ([D]) f7 (k▸rfl) rfl (.inr ⟨ho,D,l',rfl,rfl,o',rfl⟩) (s.mono (λb o m=>kp b o (.tail _ m) λq=>nd.2.2 D (.head _) b m q.symm) hf)))))
  ·exact aeq (ih s ((iN k).symm.trans hk) nd.2.1) λD l e1 e2 m o kk=>(ND D l e1 ((iN k).trans e2) (fE _ m) o (λh' f' l' hf kp o'=>aa (show b9 ((y,p')::fs) z (.list l')=(y,p')::b9 fs z (.list l') from iN k) ((vR v r N f7 rfl rfl (e.mono (λb o mb=>kp b o (tn _ mb) (nd.2.2 b mb D m)) hf) (kk h' f' l' hf (λb o m=>kp b o (fE _ m)) o')))))
theorem f9.nU(X:f9 P σ' Q)(h:ak P.σ z=some v)(k:v.kW=true\/v.DK.isSome=true):ak Q.σ z=some v/\Q.U z=P.U z/\∀b o,b∈P.U z->P.x.s.heap.get? b=some o->Q.x.s.heap.get? b=some o:=by
 have e:ak Q.σ z=some v:=X.σ▸X.a7 z v h k;refine(ej e (X.U z v e ?_) (λb o m e=>X.e.keep b o e (cN (P.fresh z v h b m).1.hi)));cases v<;>first|rfl|exact k.elim ff ff
theorem acQ{i:Nat×List (Str×PV)×List Str}{y:Str}{yp:Pos}(S:aX c d I)(h0:kh P.σ z=some v)(hi:v.lK=some i)(hl:ap.endLine=cp.line)(ht:v9.contains (i.1,y)=true)(he:bX (I.e F.nm) P.σ e=some (p,σ'))(hf:ak i.2.1 y=some r)(hr:r.ij=some l)(ho:i.2.2.contains y=true)(hz:l.length<aA)(hp:putN F.nm z (.a7 i.1 (b9 i.2.1 y (.list (l++[p]))) i.2.2) σ'=some cJ):
  Nx A P (.Expr (.Call (.Attribute (.Attribute (.Name z xp) y yp) "append" ap) [e] [] cp) pos) cJ:=λK E kk=>by
 refine bE λgG hG=>?_;cases lK hi;have h0:=tU h0;obtain⟨u,V,a,rfl,dx,es,n,vs,as,h1,h2,h3,h4,hU,h6,h7⟩:=P.own z _ h0.1;have nd:=iV h6;have zk:=iV nd.2;obtain⟨D,l',rfl,k1,k2,⟨⟨vals,n',k3,k4⟩,k5⟩,k6⟩:=YX h4 hf ho zk.2;cases ay hr;refine fb (AS (b7 (O5 c.w.params) _ (qt ht))) λo1 o2 o3=>?_;have look:getL y es=some (some (.ref D)):=by erw[xK h3];erw[k1];rfl
 have le:=P.x.cG (t:=P.x.s.toks+1) (h':=P.x.s.heap) λ_ _ e=>e;refine hG (yP (z8 rfl hl (vD (sx S he)) (by show 1<=20;decide) SE SF (JT rfl (qJ P V h0.2 ?_))) vZ rfl);split at o3
 ·rename_i at_ eat;refine get_value (ox:=l4 i.1 dx) (od:=some (uH es n)) P.x.cT ⟨h1,rfl,rfl,h2⟩ (uJ o1).1 (findObj_own o2 eat o3 (by rw[Fs,look])) rfl (jS D _ n' rfl k3 (D9 (P:=P.le le) S he λu Q X r=>⟨Q.x.cT,?_⟩));refine fb (X.nU h0.1 (.inl rfl)) λhx eU kp=>?_;have mU:∀b∈a::dx::as,b∈P.U z:=λb m=>hU▸m;have DU:=mU D (.tail _ (.tail _ k2));have e2:=kp D _ DU k3;refine Kk (items:=vals.toArray) (hsz:=lM (us:=[]) (m:=[]) k4 k5 (r':=.nil) rfl) ⟨n',e2⟩ λh' u4 mW=>dN u4 λk' e3=>?_;rw[show vals.toArray.push u=(vals++[u]).toArray by simp] at e3;refine fb (lP (σ₀:=Q.σ) (X.σ.symm▸hp)) λ_ bY _=>?_;subst bY;have zm:∀b o,b∈P.U z->b≠D->P.x.s.heap.get? b=some o->h'.get? b=some o:=λb o m ne e=>(mW.2 b ne).trans (kp b o m e);obtain⟨R,r',e,s⟩:=((bD.le le).trans X.R).but (t:=Q.x.s.toks) (v':=.a7 i.1 (b9 i.2.1 y (.list (l++[p]))) i.2.2) (V:=a::dx::as) hx (X.var V) (eU▸DU) mW (Hm e2) ⟨a,rfl,dx,es,n,vs,as,zm a _ (mU a (.head _)) (λq=>nd.1 (.tail _ (q▸k2))) h1,zm dx _ (mU dx (.tail _ (.head _))) (λq=>zk.1 (q▸k2)) h2,h3,
   k6 h' _ _ X.R.st.sub (λb o m ne=>zm b o (mU b (.tail _ (.tail _ m))) ne) ⟨(du _ _ e3 (aR.append (.cons r .nil) (k4.mono X.R.st.sub))),by erw[da];exact hz⟩,rfl,h6,h7⟩ (λb m=>.inl (eU▸mU b m)) λ_ _ _ e=>by cases e;exact(jH _ _ rfl)
  exact s▸kk R r' e
 ·injection o3
theorem ι{g:ao}{pl:Sem Bool}{K:ac×List ac->ag->Prop}(ua:pz c x.f x.s.heap k fs ow a V)(hm:vH (KL c.w.params) k m g=true)(hn:ak fs m=none)(h:K (.ref g,[.ref a]) x.s):ai (ah pw c.w) A.A (B2 (.ref a) m pl) K E x.s:=by
 refine bE λgG hG=>fb (AS (aW hm).1) λh1 h2 h3=>?_;obtain⟨dx,es,n,vs,as,e1,e2,e3,e4,z1,z2,z3⟩:=ua;have kn:ak vs m=none:=by
  clear z1 z2 z3 e1 e2 e3;induction fs generalizing vs as with
  |nil=>exact e4.1▸rfl
  |cons q fs ih=>
   refine NL e4 λv r N f7 pV _ _ s=>?_;subst pV;by_cases k:q.1=m
   ·exact sN ((iP k).symm.trans hn)
   ·exact(iN k).trans (ih ((iN k).symm.trans hn) _ _ s)
 exact hG (method_fn (ox:=l4 k dx) (od:=some (uH es n)) x.cT ⟨e1,rfl,rfl,e2⟩ (uJ h1).1 (uJ h1).2 (a5 h2) (a5 h3) (by show(lookIn m (uH es n)).map _=_;rw[Fs,xK e3,kn];rfl) h)
theorem Λ(S:aX c d I)(Mu:hH c O d)(h0:kh P.σ z=some (.a7 k fs ow))(hl:ap.endLine=cp.line)(he:bX (I.e F.nm) P.σ e=some (p,σ'))(hm:O.mw k fs ow m [p]=some eY)(hp:putN F.nm z (.a7 k eY ow) σ'=some cJ):Nx A P (.Expr (.Call (.Attribute (.Name z xp) m ap) [e] [] cp) pos) cJ:=λK E kk=>by
 refine bE λgG hG=>?_;have h0:=tU h0;obtain⟨u,V,a,rfl,ua⟩:=P.own z _ h0.1;refine cP (Mu.mw hm) λg k1 k2 k3=>hG (yP (Jp rfl hl (vD (sx S he)) rfl (by show 1<=20;decide) (qJ P V h0.2 λpl=>ι (A:=A) ua k1 k2 (sK (lq (vD (sx S he))) rfl (.inr (.inr (PU k1))) (D9 S he λu Q X r=>uK ⟨Q.x.cT,?_⟩)))) vZ rfl);refine fb (X.nU h0.1 (.inl rfl)) λhx eU kp=>?_;obtain⟨u',V',a',rfl,ua'⟩:=Q.own z _ hx;cases V'.vf (X.var V);refine k3 ua' (λb m=>(Q.fresh z _ hx b m).1) r λ_ y V2 l ua2 hV fr=>fb (lP (σ₀:=Q.σ) (X.σ.symm▸hp)) λ_ bY _=>?_;subst bY;obtain⟨R,r',e,s⟩:=X.R.RT hx (X.var V) l (v':=.a7 k eY ow) (az a rfl ua2) hV fr λ_ _ _ e=>by cases e;exact(jH _ _ rfl)
 exact s▸kk R r' e
theorem n_{ks:List (Str×PV)}{us:List PV}{C:Str}{r:Nat×List (Str×PV)×List Str}(S:aX c d I)(Mu:hH c O d)(h1:iS (I.e F.nm (fJ P.σ)) args=some us)(h2:sP (I.e F.nm (fJ P.σ)) kws=some ks)(hk:ak F.nm C=some .globalImplicit)(hd:C≠("__debug__":Str))(ns:uB P.σ z=false)(hm:O.make C us ks=some r)(hp:putN F.nm z (.a7 r.1 r.2.1 r.2.2) P.σ=some cJ):Nx A P (.Assign [.Name z xp] (.Call (.Name C np) args kws cp) pos) cJ:=λK E kk=>by
 refine cP (Mu.make hm) λg hg kp k3=>?_;have ea:=sg (A:=A) (pos:=cp) S h1;have ka:=DH (A:=A) (pos:=cp) S h2;refine yQ (wH (nH hk hg hd P.x (sK (lq ea.1) ka.1 kp (ea.2 P.vars _ _ λus y l r=>ka.2 (P.vars.le l) _ _ λws y' l' r'=>⟨y'.cT,k3 (r.mono l'.sub) r' λw a V wX ua hV=>?_⟩)))) rfl;have L:=(l.trans l').trans wX;have hn:∀b∈V,P.x.s.heap.get? b=none:=λb m=>(l.trans l').e.back (cN (hV b m).1.hi) (hV b m).2;exact zE (Q:=P.le L) (V:=V) (.le L) hp ns (az a rfl ua) (λb m=>⟨(hV b m).1,P.wi (hn b m)⟩) (λb m q v _ h=>P.xc (hn b m) h) (λb m=>.inr (hn b m)) λR r e _ _=>kk R r e
end
section
variable{y:Pt c}{y:Str}{v:AV}{A:Am d}{e:Expr}{sp dp kp:Pos}{vx:List Expr}{rs:List Str}{s:ag}
theorem QE(h:Js e=some m):∃k p,e=.Constant (.str m) k p:=by
 induction e using eB with
 |Constant cn k p=>cases cn with
  |str y=>cases ay h;exact(jH k p rfl)
  |_=>exact nS h
 |_=>exact nS h
theorem afQ(h:MQ e=some es):∃p,e=.List es p:=by
 induction e using eB with
 |List d0 p=>cases ay h;exact⟨p,rfl⟩
 |_=>exact nS h
@[elab_as_elim] theorem PI{ks:List (Option Expr)}{K:Option Expr->List Expr->List Str->Prop}{k:Option Expr}(h:vd (k::ks) vx=some rs)(kk:∀{y j p q vs rs},vd ks vs=some rs->K (some (.Constant (.str y) j p)) (.List [] q::vs) (y::rs)):K k vx rs:=by
 induction vx using bO with
 |nil=>exact nS h
 |cons v vs=>
  exact aj h λe h1 g1=>aj g1 λy h2 g2=>aj g2 λes h3 g3=>aL g3 λh4 g4=>fM g4 λrs h5 g5=>by
   refine jZ (QE h2) λj p bZ=>?_;subst bZ;obtain⟨q,rfl⟩:=afQ h3;cases jF h4;cases g5;cases h1;exact kk h5
structure abz(h:am)(ks:List Str)(out:List (ac×ac))(as:List ao)(h':am):Prop where
 str:allStrKeys out=true
 keys:(strPairs out).map (·.1)=ks
 dl:pe h' 0 (strPairs out) as
 keep:∀b o,h.get? b=some o->h'.get? b=some o
 size:h.objs.size<=h'.objs.size
 new:∀b∈as,h.objs.size<=b
 nd:as.Nodup
theorem afe{M:cO}{A:bh}{E:ac->ag->Prop}{ks:List (Option Expr)}{Q:List (ac×ac)->ag->Prop}(h:vd ks vx=some rs)(k:∀out as h' t,abz s.heap rs out as h'->Q out {s with heap:=h',toks:=t}):ai (ah pw M) A (evalPairs (pairTrees ks vx env pos)) Q E s:=by
 induction ks generalizing vx rs s Q with
 |nil=>
  exact aL h λe h=>by
   cases jF e;cases ay h;exact pairTrees_nil_walk (k [] [] s.heap s.toks ⟨rfl,rfl,rfl,λ_ _ e=>e,bf _,λb m=>absurd m eX,wJ⟩)
 |cons _ ks ih=>
  revert k;refine PI h λ{y j p q vs rs} h k=>pairTrees_cons_walk (SD (wpAny_List (SB ⟨cu _,ih (s:={s with toks:=s.toks+1,heap:=s.heap.push (bu [] 0)}) h λout as h' t o=>?_⟩)));have sz:(s.heap.push (bu [] 0)).objs.size=s.heap.objs.size+1:=oy ..;have lt:s.heap.objs.size<h'.objs.size:=ba (i6 (i5 _) sz.symm) o.size;have nw:∀b∈as,s.heap.objs.size<b:=λb m=>ba (i6 (i5 _) sz.symm) (o.new b m);exact k _ (s.heap.objs.size::as) h' t ⟨o.str,af (y:: ·) o.keys,(uw _ as rfl rfl (du ([]) 0 (o.keep _ _ (ft _ rfl)) (bf _)) o.dl),λb p e=>o.keep b p (c5 _ e),cy lt,λb m=>(bw m).elim (λe=>aD e.symm) λm=>cy (nw b m),nL ⟨λm=>cV _ (nw _ m),o.nd⟩⟩
theorem Zm{ks:List (Option Expr)}(h:vd ks vx=some rs):ks.all (·.isSome)=true/\ks.length=vx.length/\rs.length=ks.length:=by
 induction ks generalizing vx rs with
 |nil=>
  exact aL h λe h=>by
   cases jF e;cases ay h;exact(ej rfl rfl rfl)
 |cons _ ks ih=>
  exact PI (K:=λk vx rs=>(k::ks).all (·.isSome)=true/\(k::ks).length=vx.length/\rs.length=(k::ks).length) h λh=>fb (ih h) λa b e=>(ej a (af jp b) (af jp e))
theorem aaT{ks:List (Option Expr)}(hk:vd ks vx=some rs)(h0:ks.isEmpty=false)(hn:rs.Nodup)(hz:rs.length<=15)(hp:putN F.nm z (.dl rs 0) P.σ=some cJ):Nx A P (.Assign [.Name z xp] (.Dict ks vx dp) pos) cJ:=λK E kk=>by
 refine fb (Zm hk) λa1 a2 a3=>yQ ?_ rfl;refine wpAny_Dict_walk (knd:=strKind pw c.w) a1 a2 (λh=>by rw[h] at h0;exact tf h0) (by lia) (afe hk λout as h' t o=>?_);have hd0:h'.DictOf (strKind pw c.w) P.x.s.heap.objs.size []:=am.DictOf.at (h:=P.x.s.heap.push {cls:=.type "dict",data:=.dict #[]}) (am.DictOf.new P.x.s.heap) λp e=>o.keep _ p e;refine display_done_str (P:=λh2=>ai (ah pw c.w) A.A (B0 F.env z (.ref P.x.s.heap.objs.size)) (λ_=>K .next) E _) o.str (by exact o.keys.symm▸hn) hd0 λh2 qG Ug=>?_;have nw:∀b∈as,P.x.s.heap.objs.size<b:=λb m=>ba (i6 (i5 _) (oy ..).symm) (o.new b m);have le:=P.x.cG (t:=t+out.length) (h':=h2) λb p e=>(Ug.2 b (gE (fB e))).trans (o.keep b p (c5 _ e));have low:∀b∈P.x.s.heap.objs.size::as,P.x.s.heap.objs.size<=b:=λb m=>(bw m).elim (λe=>aD e.symm) λm=>cy (nw b m);have fresh:∀b∈P.x.s.heap.objs.size::as,P.x.s.heap.get? b=none:=λb m=>by
  cases q:P.x.s.heap.get? b with
  |none=>rfl
  |some p=>exact absurd (fB q) (gN (low b m))
 exact zE (Q:=P.le le) (V:=P.x.s.heap.objs.size::as) (.le le) hp (Ff hp rfl) ⟨_,rfl,strPairs out,as,qG,o.dl.mono (λb p m e=>(Ug.2 b λq=>cV _ (q▸nw b m)).trans e) (bf _),o.keys,rfl,nL ⟨λm=>cV _ (nw _ m),o.nd⟩⟩
  (λb m=>⟨⟨P.x.E5 (fresh b m),P.x.EO (fresh b m),P.x.hi (low b m)⟩,P.wi (fresh b m)⟩) (λb m q v _ h=>P.xc (fresh b m) h) (λb m=>.inr (fresh b m)) λR r e _ _=>kk R r e
theorem pe.item(s:pe h n vs as)(hk:m∈vs.map (·.1))(nd:as.Nodup):∃D vals j,valueAt vs m=some (.ref D)/\D∈as/\h.get? D=some (bu vals j)/\vals.length<=n/\
  ∀h',(∀b o,b∈as->b≠D->h.get? b=some o->h'.get? b=some o)->(∃mT m',h'.get? D=some (bu mT m')/\mT.length<=n+1)->pe h' (n+1) vs as:=by
 induction vs generalizing as with
 |nil=>exact mN hk
 |cons q vs ih=>
  refine bE λgG hG=>?_;obtain⟨a,r,e,rfl,⟨vals,j,e1,hz⟩,s⟩:=s;have nd:=iV nd;refine hG ?_;by_cases k:q.1=m
  ·exact(GB a vals j (by show((q::vs).find? _).map _=_;erw[List.find?_cons_of_pos (by exact jV k)];exact af some e) (.head _) e1 hz (λh' kp o=>(uw a r e rfl o (s.mono (λb o mb=>kp b o (.tail _ mb) λq=>nd.1 (q▸mb)) (iH _)))))
  ·exact DG (ih s ((bw hk).elim (λe=>absurd e.symm k) id) nd.2) λD mT m' k1 k2 k3 k4 k5=>(GB D mT m' (by show((q::vs).find? _).map _=_;erw[List.find?_cons_of_neg (by exact λe=>k (a5 e))];exact k1) (.tail _ k2) k3 k4 (λh' kp o=>(uw a r e rfl (du vals j (kp a _ (.head _) (λq=>nd.1 (q▸k2)) e1) (yT hz)) (k5 h' (λb o mb ne e=>kp b o (.tail _ mb) ne e) o))))
theorem Xm{kk:Nat}{ks:List Str}(S:aX c d I)(h0:kh P.σ z=some (.dl ks n))(hl:ap.endLine=cp.line)(hk:ks.contains m=true)(hz:n<aA)(he:bX (I.e F.nm) P.σ e=some (p,σ'))(hp:putN F.nm z (.dl ks (n+1)) σ'=some cJ):
  Nx A P (.Expr (.Call (.Attribute (.Subscript (.Name z xp) (.Constant (.str m) kk kp) sp) "append" ap) [e] [] cp) pos) cJ:=λK E kk=>by
 refine bE λgG hG=>?_;have h0:=tU h0;obtain⟨u,V,a,rfl,vs,as,h1,h3,h4,hU,h6⟩:=P.own z _ h0.1;have nd:=iV h6;refine DG (h3.item (h4.symm▸qt hk) nd.2) λD vals j k1 k2 k3 k4 k5=>?_;have mU:∀b∈a::as,b∈P.U z:=λb m=>hU▸m;have le:=P.x.cG (t:=P.x.s.toks+1+1) (h':=P.x.s.heap) λ_ _ e=>e;have hT:({P.x.s with toks:=P.x.s.toks+1}:ag).TypeIs (.ref a) "dict":=am.DictOf.typeIs (s:={P.x.s with toks:=P.x.s.toks+1}) h1;refine hG (yP (z8 rfl hl (vD (sx S he)) (by show 1<=20;decide) SE SF (Subscript_ (qJ P V h0.2 (SD (DW hT slot_dict_getitem.lookup (wpAny_getItem_of (s:={P.x.s with toks:=P.x.s.toks+1}) (knd:=PySem.strKind pw c.w) (k:=m) (by simp[PySem.strKind,ac.isStrOf]) h1.mapOf k1
  (jS D _ j rfl k3 (D9 (P:=P.le le) S he λu Q X r=>⟨Q.x.cT,?_⟩)))))))) vZ rfl)
 refine fb (X.nU h0.1 (.inr rfl)) λhx eU kp=>?_;have DU:=mU D (.tail _ k2);have e2:=kp D _ DU k3;refine Kk (items:=vals.toArray) (hsz:=by exact i4.symm▸rM (aq k4 (cy hz))) ⟨j,e2⟩ λh' u4 mW=>dN u4 λk' e3=>?_;rw[show vals.toArray.push u=(vals++[u]).toArray by simp] at e3;refine fb (lP (σ₀:=Q.σ) (X.σ.symm▸hp)) λ_ bY _=>?_;subst bY;have zm:∀b o,b∈P.U z->b≠D->P.x.s.heap.get? b=some o->h'.get? b=some o:=λb o m ne e=>(mW.2 b ne).trans (kp b o m e);exact cP (((bD.le le).trans X.R).but (t:=Q.x.s.toks) (v':=.dl ks (n+1)) (V:=a::as) hx (X.var V) (eU▸DU) mW (Hm e2) ⟨a,rfl,vs,as,h1.at λo e=>zm a o (mU a (.head _)) (λq=>nd.1 (q▸k2)) e,k5 h' (λb o m ne e=>zm b o (mU b (.tail _ m)) ne e) (du (vals++[u]) k' e3 (by exact da.symm▸yE k4)),h4,rfl,h6⟩ (λb m=>.inl (eU▸mU b m)) nofun) λR r' e s=>s▸kk R r' e
end
end
section
variable{c:Cx}{F:Fm}{P:St c F}{d k n:Nat}{A:Am d}{O:aK}{I:Ip}{e t:Expr}{p:PV}{σ' σ₁:ar}{pos cp np:Pos}{mu:List Str}{r:fZ×ar}{outer:List Env}{K:Flow->ag->Prop}{E:ac->ag->Prop}{z:Str}{v:AV}{l:List PV}{args:List Expr}{kws:List fj}
section
variable{Q R:St c F}{it:Expr}{b:List aH}{fl:fZ}{st:aH}{B W:ao->Prop}{g i:Nat}{w:Pt c}
def Kn(A:Am d)(P:St c F)(r:fZ×ar)(outer:List Env)(K:Flow->ag->Prop)(E:ac->ag->Prop):Prop:=match r.1 with
 |.next=> ∀Q,bD P Q->Q.σ=r.2->K .next Q.x.s
 |.ret p=> ∀y v,cH (WU P) P.x y->Rd p y v->K (.ret v) y.s
 |.exc=>Fc A P outer/\∀v s',rJ A P outer v s'->E v s'
theorem Kn.pre(a:bD P Q)(k:Kn A P r outer K E):Kn A Q r outer K E:=by
 obtain⟨fl,σ⟩:=r;cases fl with
 |next=>exact λR b e=>k R (a.trans b) e
 |ret p=>exact λy v l=>k y v (a.DD l a.wu)
 |exc=>exact⟨k.1.step a,λv s' l=>k.2 v s' (l.pre a)⟩
def Ex(A:Am d)(P:St c F)(t:Sem Flow)(r:fZ×ar):Prop:=∀outer K E,Kn A P r outer K E->ai (ah pw c.w) A.A t K E P.x.s
theorem Nx.ex(h:Nx A P st σ'):Ex A P (iI st F.env) (.next,σ'):=λ_ K E k=>h K E k
def Sd(c:Cx)(d:Nat)(X:aN->List Str->ar->aH->aZ):Prop:=∀{F:Fm} {P:St c F} {A:Am d} {mu st r},X F.nm mu P.σ st=some r->Ex A P (iI st F.env) r
theorem Kn.seq{o:aZ}{q:fZ×ar}{K':Flow->ag->Prop}{E':ac->ag->Prop}(h:(if q.1.g9=true then o else some q)=some r)(k:Kn A P r outer K E)(nx:o=some r->∀Q:St c F,bD P Q->Q.σ=q.2->Kn A Q r outer K E->K' .next Q.x.s)(rt:∀v s,K (.ret v) s->K' (.ret v) s)(ex:∀v s,E v s->E' v s):Kn A P q outer K' E':=by
 obtain⟨fl,σ⟩:=q;cases fl with
 |next=>exact λQ a e=>nx h Q a e (k.pre a)
 |ret p=>
  obtain rfl:=ay h;exact λy v l r=>rt v _ (k y v l r)
 |exc=>
  obtain rfl:=ay h;exact⟨k.1,λv s l=>ex v s (k.2 v s l)⟩
theorem vL{X:aN->List Str->ar->aH->aZ}(S:Sd c d X):∀{b:List aH} {P:St c F} {r},aS (X F.nm mu) b P.σ=some r->Ex A P (tu b F.env) r:=by
 intro b;induction b with
 |nil=>
  intro P r h outer K E k;obtain rfl:=ay h;exact FB (k P (.refl P) rfl)
 |cons st b ih=>exact λ{P r} h outer K E k=>aj h λq h1 h2=>FC (S h1 outer _ _ (k.seq h2 (λh Q a e k=>ih (e.symm▸h) outer K E k) (λ_ _ z=>z) λ_ _ z=>z))
def Lv(A:Am d)(P:St c F)(outer:List Env):fZ->ac->ag->Prop
 |.exc=>rJ A P outer
 |_=>No
theorem PZ:PassesOwnAt (ah pw c.w) A.A A.A F.env (Lv A P outer fl):=by
 cases fl with
 |exc=>exact YZ
 |_=>exact λ_ _ z=>z.elim
theorem Kn.lv(k:Kn A P r outer K E)(h:Kn A P r outer K (Lv A P outer r.1)->ai (ah pw c.w) A.A (iI st F.env) K (Lv A P outer r.1) P.x.s):ai (ah pw c.w) A.A (iI st F.env) K E P.x.s:=by
 obtain⟨fl,σ⟩:=r;cases fl with
 |next=>exact cQ (h k) (λ_ _ z=>z) λ_ _ z=>z.elim
 |ret p=>exact cQ (h k) (λ_ _ z=>z) λ_ _ z=>z.elim
 |exc=>exact cQ (h ⟨k.1,λ_ _ z=>z⟩) (λ_ _ z=>z) k.2
theorem ads{c':List aH}(S:aX c d I){X:aN->List Str->ar->aH->aZ}(ih:Sd c d X)(h:((I.t F.nm (bA P.σ) t).bind λr=>aS (X F.nm mu) (if r=true then b else c') P.σ)=some r):Ex A P (iI (.If t b c' pos) F.env) r:=λouter K E k=>aj h λv h1 h2=>wpAny_If (NJ S h1 λQ X=>by
 have h2:=X.σ.symm▸h2;induction v using je with
 |true=>exact vL ih h2 outer K E (k.pre X.R)
 |false=>exact vL ih h2 outer K E (k.pre X.R))
theorem i_(S:∀n,aX c d (ip n O))(ih:∀m,m<=n->Sd c d (aw O m))(h:aw O (n+1) F.nm mu P.σ (.While t b [] pos)=some r):Ex A P (iI (.While t b [] pos) F.env) r:=λouter K E k=>k.lv λk=>wpAny_While (codeAny_whileLoop
 (λm s'=>m<=n+1/\∃Q:St c F,bD P Q/\Q.x.s=s'/\aw O m F.nm mu Q.σ (.While t b [] pos)=some r) (λm s' z=>by
  obtain⟨hm,Q,a,rfl,h⟩:=z;induction m using n7 with
  |zero=>exact nS h
  |succ m=>
   refine aj (show((ip m O).t F.nm (bA Q.σ) t).bind (λr=>if r=true then(aS (aw O m F.nm mu) b Q.σ).bind λq=>if q.1.g9=true then aw O m F.nm mu q.2 (.While t b [] pos) else some q else some (.next,Q.σ))=some r from h) λv h1 h2=>NJ (S m) h1 λR X=>?_;have k:=k.pre (a.trans X.R);induction v using je with
   |false=>
    obtain rfl:=ay h2;exact FB (k R (.refl R) X.σ)
   |true=>exact aj h2 λq h3 h4=>vL (ih m (Kt hm)) (X.σ.symm▸h3) outer _ _ (k.seq h4 (λh Z b e _=>⟨m,i5 m,lB hm,Z,(a.trans X.R).trans b,rfl,e.symm▸h⟩) (λ_ _ z=>z) λv s z=>PZ v s z))
 (n+1) ⟨bf _,P,.refl P,rfl,h⟩)
theorem bD.step{y:Pt c}(a:bD P Q){U:kT Q y λ_=>False}(l:br W g Q.x y)(h1:P.x.s.gens.size<=g)(h2:g<=Q.x.s.gens.size)(h:∀b,W b->WU P b\/P.x.s.heap.get? b=none):bD P (Q.move y U):=
 ⟨br.shrink (W':=λb=>WU P b\/P.x.s.heap.get? b=none) (br.trans (a.st.weaken λ_=>.inl) ((l.lower h1 h2).weaken h)) λ_=>id,a.wu,λz k fs ow x e V=>(a.a7 z k fs ow x e V).imp id (U.old z _ id)⟩
structure Lp(d:Nat)(P Q:St c F)(i g:Nat)(l:List PV)(B:ao->Prop):Prop where
 R:bD P Q
 it:dM d i g l B Q.x
 back:∀b,B b->WU P b\/P.x.s.heap.get? b=none
 env:∀b,B b->¬dq F.env b
 U:∀b,B b->∀z v,ak Q.σ z=some v->b∉Q.U z
 g1:P.x.s.gens.size<=g
 g2:g<=Q.x.s.gens.size
theorem Lp.move(L:Lp d P Q i g l B)(st:br B g Q.x w):∃Z:St c F,bD P Z/\Z.x=w/\Z.σ=Q.σ/\Z.U=Q.U:=(vn (Q.move w (.yj st L.env λq v _ h b m k=>L.U b k q v h m)) (L.R.step st L.g1 L.g2 L.back) rfl rfl rfl)
theorem Lp.next{m:List PV}{B':ao->Prop}{Z R:St c F}(L:Lp d P Q i g l B)(st:br B g Q.x Z.x)(it:dM d i g m B' Z.x)(dn:∀b,B' b->B b\/Q.x.s.heap.get? b=none)(e1:Z.σ=Q.σ)(e2:Z.U=Q.U)(a:bD P Z)(b:bD Z R):Lp d P R i g m B':=by
 have env:∀b,B' b->¬dq F.env b:=λb k=>(dn b k).elim (L.env b) Q.wi;have U:∀b,B' b->¬WU Z b:=λb k q=>q.elim (λq=>env b k (nX q)) λq=>by
  refine eH q λz v h m=>?_;rw[e1] at h;rw[e2] at m;exact(dn b k).elim (λk=>L.U b k z v h m) λn=>Q.xc n h m
 exact⟨a.trans b,it.later (b.st.later it.live U),λb k=>(dn b k).elim (L.back b) λn=>(L.R.st.e.back (cN (it.live b k).1.hi) n).symm,env,λb' k z v h m=>(b.wu b' (.inr (du z v h m))).elim (U b' k) λn=>(it.live b' k).2.elim λo e=>nS (n.symm.trans e),L.g1,aq L.g2 (aq st.e.de b.st.e.de)⟩
theorem ac7{xs:List Str}{σ:ar}(nd:(σ.map (·.1)).Nodup)(h:ak (zS xs σ) z=some v):ak σ z=some v:=Hc nd (eL (gM h)).1
theorem R3{xs:List Str}{σ:ar}(nd:(σ.map (·.1)).Nodup):((zS xs σ).map (·.1)).Nodup:=(List.Sublist.map _ uT).nodup nd
theorem Kn.lu{q:fZ×ar}(h:lu t p q=some r)(k:Kn A P r outer K E):Kn A P q outer K E:=by
 induction p using dh with
 |inst=>exact aL h λ_ h=>ay h▸k
 |set=>
  obtain rfl:=ay h;obtain⟨fl,σ⟩:=q;cases fl with
  |next=>exact λQ a e=>k (Q.weak (zS (wl t) Q.σ) (R3 Q.nd) λz v=>ac7 Q.nd) (a.trans (.weak λz k fs ow h=>Hc (R3 Q.nd) (o5 ⟨gM h,by show(!(_&&false))=true;rw[Fy];rfl⟩))) (af _ e)
  |_=>exact k
 |_=>exact ay h▸k
theorem ab3{X:aN->List Str->ar->aH->aZ}(S:aX c d I)(ov:Ov c d)(ih:Sd c d X)(h:((bX (I.e F.nm) P.σ it).bind λq=>over q.1 λsrc=>(dZ (aS (X F.nm mu) b) F.nm t src q.2).bind (lu t q.1))=some r):Ex A P (iI (.For t it b [] pos) F.env) r:=λouter K E k=>k.lv λk=>
 aj h λq h1 h2=>wpAny_For (qH S h1 λu Q Y rd=>by
  refine aB (ov (A:=A) h2 rd) λxs h3 gi=>aj h3 λr' h4 h5=>gi _ _ λy i B g le u5 nw g1 g2=>?_;have k:=k.lu h5;refine codeAny_forLoop_any (λm s'=> ∃(Q:St c F) (l:List PV) (B:ao->Prop),l.length=m/\Q.x.s=s'/\Lp d P Q i g l B/\dZ (aS (X F.nm mu) b) F.nm t l Q.σ=some r') (λm s' z=>?_) xs.length (xy (Q.le le) xs B rfl rfl ⟨Y.R.trans (.le le),u5,λb m=>(Y.R.st.e.back (cN (u5.live b m).1.hi) (nw b m)).symm,λb m=>Q.wi (nw b m),λb m z v=>Q.xc (nw b m),aq Y.R.st.e.de g1,g2⟩ (Y.σ.symm▸h4));refine xA z λQ l B c4 pV L h=>?_;subst c4;subst pV;induction l using bO with
  |nil=>
   obtain rfl:=ay h;refine L.it.done A λw st=>kU (L.move st) λZ a bZ e _=>?_;subst bZ;exact FB (k Z a e)
  |cons p l=>
   refine aj h λσ₁ h6 h7=>aj h7 λq h8 h9=>L.it.next A λv B' w rd u5 st up dn=>kU (L.move st) λZ a bZ e e'=>?_;subst bZ;exact u5.go A (O9 (.refl Z) (e.symm▸h6) rd λR b er=>vL ih (er.symm▸h8) outer _ _ ((k.pre (a.trans b)).seq h9 (λh R' b' e2 _=>⟨l.length,i5 _,R',l,B',rfl,rfl,L.next st u5 dn e e' a (b.trans b'),e2.symm▸h⟩) (λ_ _ z=>z) λv s z=>PZ v s z))) (A3 (sx S h1) F.env)
end
section
variable{J:Ip}{i ob fn:Expr}{cJ:ar}{xp ap:Pos}{m y:Str}{op:ia}
theorem Jx{q:Expr×List Expr×List fj×Pos}(h:Av e=some q):e=.Call q.1 q.2.1 q.2.2.1 q.2.2.2:=by
 induction e using eB with
 |Call=>cases ay h;rfl
 |_=>exact nS h
theorem Np{q:Expr×Str×Pos}(h:JO e=some q):e=.Attribute q.1 q.2.1 q.2.2:=by
 induction e using eB with
 |Attribute=>cases ay h;rfl
 |_=>exact nS h
theorem t4(h:iq e=some z):∃p,e=.Name z p:=by
 induction e using eB with
 |Name x p=>cases ay h;exact⟨p,rfl⟩
 |_=>exact nS h
theorem PG(h:H5 e=true):∃k p,e=.Constant (.int 0) k p:=by
 induction e using eB with
 |Constant cn k p=>induction cn using csC with
  |int j=>
   obtain rfl:=a5 (h:(j==0)=true);exact(jH k p rfl)
  |_=>exact ff h
 |_=>exact ff h
theorem EV{q:Str×List Expr×List fj}(h:E6 e=some q):∃np p,e=.Call (.Name q.1 np) q.2.1 q.2.2 p:=aj h λa h1 h2=>fM h2 λC h3 h4=>by
 obtain⟨np,e⟩:=t4 h3;exact(jH np a.2.2.2 (h4▸e▸Jx h1))
@[elab_as_elim] theorem zV{m:List Expr->List fj->Prop}(h:xh args kws=some e)(K:m [e] []):m args kws:=by
 induction kws using bO with
 |nil=>exact qf h K
 |cons=>exact nS h
@[elab_as_elim] theorem kR{o:Option ar}{m:fZ×ar->Prop}(h:eh o=some r)(K:∀σ,o=some σ->m (.next,σ)):m r:=fH h K
@[elab_as_elim] theorem VE{m:AV->Prop}(h:v.uf=some p)(K:m (.pv p)):m v:=by
 induction v using lh with
 |pv=>exact ay h▸K
 |_=>exact nS h
@[elab_as_elim] theorem afn{m:AV->Prop}{q:List Str×Nat}(h:v.DK=some q)(K:m (.dl q.1 q.2)):m v:=by
 cases v with
 |dl=>cases ay h;exact K
 |_=>exact nS h
theorem WP(h:Rf e=some y):∃yp p2 k ip p3,e=.Call (.Attribute (.Name y yp) "pop" p2) [.Constant (.int 0) k ip] [] p3/\p2.endLine=p3.line:=aj h λq h1 h=>aj h λa h2 h=>aj h λy' h3 h=>aj h λi h4 h=>aL h λhc h=>by
 refine fb hc λhi hm hl=>?_;obtain rfl:=ay h;refine jZ (PG hi) λk ip bZ=>?_;subst bZ;obtain⟨yp,e3⟩:=t4 h3;exact(N2 yp a.2.2 k ip q.2.2.2 ((Jx h1).trans (zV (m:=λx y=>Expr.Call q.1 x y q.2.2.2=_) h4 (by erw[Np h2];erw[e3];erw[hm];rfl))) hl)
theorem GF(S:aX c d I)(h:zO I F.nm P.σ (.Call fn args kws cp)=some r):Ex A P (iI (.Expr (.Call fn args kws cp) pos) F.env) r:=fH h λp h1=>(aen S h1).ex
theorem Y2{o:Option AV}(S:aX c d I)(Mu:hH c O d)(hk:kh P.σ z=o)(h:NG O I F.nm P.σ z m args kws (ap.endLine==cp.line) (zO I F.nm P.σ (.Call (.Attribute (.Name z xp) m ap) args kws cp)) o=some r):
  Ex A P (iI (.Expr (.Call (.Attribute (.Name z xp) m ap) args kws cp) pos) F.env) r:=by
 induction o using qN with
 |none=>exact GF S h
 |some v=>induction v using lh with
  |own l=>
   refine aL h λhl g=>aL g λhz g1=>d6 g1 (λhm g2=>aj g2 λe h1 g3=>aj g3 λq h2 g4=>aj g4 λl' h3 g5=>kR g5 λσ hp=>?_) λ_ g2=>aL g2 λhm g3=>aj g3 λw h1 g4=>aL g4 λh0 g5=>aj g5 λq h2 g6=>aj g6 λl' h3 g7=>kR g7 λσ hp=>?_
   ·cases hm;exact zV h1 (abX S hk (a5 hl) hz h2 h3 hp).ex
   ·obtain⟨rfl,hm⟩:=hm;obtain rfl:=jF hm;exact jZ (PG h0) λk0 ip e0=>xP h1 (aa (e0) ((Xj S hk (a5 hl) hz h2 h3 hp).ex))
  |a7=>exact aL h λhl h=>aj h λe h1 h=>aj h λq h2 h=>aj h λeY h3 h=>kR h λσ hp=>zV h1 (Λ S Mu hk (a5 hl) h2 h3 hp).ex
  |_=>exact GF S h
theorem acM(S:aX c d I)(Mu:hH c O d)(h:L9 O I F.nm P.σ m args kws (ap.endLine==cp.line) (zO I F.nm P.σ (.Call (.Attribute ob m ap) args kws cp)) ob=some r):Ex A P (iI (.Expr (.Call (.Attribute ob m ap) args kws cp) pos) F.env) r:=by
 induction ob using eB with
 |Name=>exact Y2 S Mu rfl h
 |Attribute b f yp=>
  refine aj h λx hx h=>aL h λhm h=>aj h λv h1 h=>aj h λi h2 h=>aL h λht h=>aj h λe h3 h=>aj h λq h4 h=>aj h λw h5 h=>aj h λl h6 h=>aL h λho h=>kR h λσ hp=>?_;obtain⟨xp,rfl⟩:=t4 hx;obtain⟨rfl,hl⟩:=hm;exact zV h3 (acQ S h1 h2 (a5 hl) ht h4 h5 h6 ho.1 ho.2 hp).ex
 |Subscript b i sp=>
  refine aj h λx hx h=>aj h λk hk h=>aL h λhm h=>aj h λv h1 h=>aj h λi h2 h=>aL h λht h=>aj h λe h3 h=>aj h λq h4 h=>kR h λσ hp=>?_;obtain⟨xp,rfl⟩:=t4 hx;refine jZ (QE hk) λ_ _ bZ=>?_;subst bZ;obtain⟨rfl,hl⟩:=hm;revert h1;exact afn h2 λh1=>zV h3 (Xm S h1 (a5 hl) ht.1 ht.2 h4 hp).ex
 |_=>exact nS h
theorem adK(S:aX c d I)(Mu:hH c O d)(h:Q3 O I F.nm P.σ e=some r):Ex A P (iI (.Expr e pos) F.env) r:=aj h λq h1 h=>by
 obtain⟨fn,args,kws,cp⟩:=q;cases Jx h1;refine ux h (λa h2 g=>?_) λ_ h=>GF S h;cases Np h2;exact acM S Mu g
theorem XY{b:Bool}(h:b=true->p.ij=none):C1 b p=.pv p:=by
 induction b using je with
 |false=>rfl
 |true=>cases p<;>first|rfl|exact nS (h rfl).symm
theorem Κ{b:Bool}(S:aX c d I)(ov:Ov c d)(S':aX c d ⟨o0 O I J,CV O I⟩)(h:bX (o0 O I J F.nm) P.σ e=some (p,σ'))(hp:putN F.nm z (C1 (ry e&&b) p) σ'=some cJ):Nx A P (.Assign [.Name z xp] e pos) cJ:=by
 by_cases q:∃elt gens sc cp,e=.ListComp elt gens sc cp
 ·refine aa9 q λelt gens sc cp pV=>?_;subst pV;obtain⟨l,rfl⟩:∃l,p=.list l:=rL h (λh _=>by refine v7 (xZ h) λ_ _ _ _ l _ e=>?_;exact⟨l,e⟩) λh _ _=>by refine v7 (xZ h) λ_ _ _ _ l _ e=>?_;exact⟨l,e⟩
  exact acL S ov h hp
 ·have hc:∀elt gens sc pos,e≠ .ListComp elt gens sc pos:=λa b c d e=>q (aeb a b c d e);by_cases z:ry e=true/\∃l,p=.list l
  ·obtain⟨z,l,rfl⟩:=z;rw[z] at hp;exact aeo S ov h z hp hc
  ·rw[XY λe=>?_] at hp
   ·exact W1 S' h hp hc
   ·induction p using dh with
    |list l=>exact absurd ⟨(aW e).1,l,rfl⟩ z
    |_=>rfl
theorem Rl{e:Expr}{q:PV×ar}{nm:aN}{σ:ar}(h:bX ((ip n O).e nm) σ e=some q):∃m,n=m+1:=by
 induction n using n7 with
 |zero=>exact rL h (λh _=>nS h) λh _ _=>nS h
 |succ n=>exact⟨n,rfl⟩
variable(S:∀n,aX c d (ip n O))(ov:Ov c d)(Mu:hH c O d)(Or:cg c O d)
include S ov Mu
theorem aeA(h:OF O (ip n O) F.nm mu P.σ z e=some r):Ex A P (iI (.Assign [.Name z xp] e pos) F.env) r:=by
 have plain:IT (ip n O) F.nm mu P.σ z e=some r->Ex A P (iI (.Assign [.Name z xp] e pos) F.env) r:=λh=>aj h λq h1 h=>kR h λσ hp=>by
  obtain⟨n,rfl⟩:=Rl h1;exact(Κ (S n) ov (S (n+1)) h1 hp).ex
 refine ux h (λy h1 g=>?_) λ_ h=>ux h (λq h1 h=>aj h λrs h2 h=>aL h λhz h=>kR h λσ hp=>?_) λ_ h=>ux h (λq h1 h=>d6 h (λ_ h=>aj h λus h2 h=>aj h λks h3 h=>aL h λhk h=>aj h λo h4 h=>kR h λσ hp=>?_) λ_=>plain) λ_=>plain
 ·refine v7 (WP h1) λyp p2 k ip p3 tD hl=>?_;subst tD;cases ho:gu P.σ y with
  |none=>rw[ho] at g;exact nS g
  |some l=>
   rw[ho] at g;induction l using bO with
   |nil=>exact nS g
   |cons p l=>exact aj g λσ₁ h1 h=>kR h λσ hp=>(adc ho hl h1 hp).ex
 ·induction e using eB with
  |Dict ks vs dp=>
   have h1:(if ks.isEmpty=true then none else some (ks,vs))=some q:=h1;refine fU h1 λh0 h1=>?_;obtain rfl:=ay h1;exact(aaT h2 (n3 h0) hz.1 hz.2 hp).ex
  |_=>exact nS h1
 ·refine jZ (EV h1) λnp cp bZ=>?_;subst bZ;exact(n_ (S n) Mu h2 h3 hk.1 hk.2.1 hk.2.2 h4 hp).ex
theorem ab4(h:H2 O (ip n O) F.nm mu P.σ e t=some r):Ex A P (iI (.Assign [t] e pos) F.env) r:=by
 induction t using eB with
 |Name=>exact aeA S ov Mu h
 |Tuple=>exact aj h λq h1 h=>kR h λσ hp=>(afY (S n) h1 hp).ex
 |Subscript b i=>
  refine aj h λx hx h=>aj h λq h1 h=>aj h λl h2 h=>aj h λk h3 h=>aj h λl' h4 h=>kR h λσ hp=>?_;obtain⟨xp,rfl⟩:=t4 hx;exact(acx (S n) h1 h2 h3 h4 hp).ex
 |Attribute b=>
  refine aj h λx hx h=>aj h λq h1 h=>aj h λv h2 h=>aj h λi h3 h=>aL h λht h=>kR h λσ hp=>dN (t4 hx) λxp bY=>?_;subst bY;obtain⟨n,rfl⟩:=Rl h1;exact(WN (S n) (S (n+1)) ov h1 h2 h3 ht.1 ht.2 hp).ex
 |_=>exact nS h
include Or
theorem acf(h:O4 O (ip n O) F.nm P.σ op e t=some r):Ex A P (iI (.AugAssign t op e pos) F.env) r:=by
 induction t using eB with
 |Name x xp=>
  refine aj h λv h1 h=>aj h λa h2 h=>aj h λq h3 h=>aj h λp h4 h=>kR h λσ hp=>?_;revert h1;exact VE h2 λh1=>(abi (S n) Or (tU h1).1 h3 h4 hp).ex
 |Subscript b i=>
  refine aj h λx hx h=>aj h λl h1 h=>aj h λk h2 h=>aj h λa h3 h=>aj h λq h4 h=>aj h λp h5 h=>aj h λl h6 h=>aj h λl' h7 h=>kR h λσ hp=>dN (t4 hx) λxp bY=>?_;subst bY;exact(aay (S n) Or h1 h2 h3 h4 h5 h6 h7 hp).ex
 |_=>exact nS h
end
section
variable{m:Str}{y:Pt c}
theorem Zi(l:Le P.ja y):cH (WU P) P.x y:=⟨λa o e=>l.sub a o (zI a o e),λa o e=>(l.new a o e).elim (λq=>Df q (λq _=>.inr (.inr (.inr (by refine sH q λz v h _ m=>?_;exact(du z v h m))))) .inl) λq=>.inr (.inl q),l.e.n8⟩
theorem MY{o:Option Bool}(h:o.getD false=true):o=some true:=by
 induction o using qN with
 |none=>exact ff h
 |some b=>exact af some h
theorem PQ(S:aX c d I)(Mu:hH c O d)(h:raises O I F.nm (bA P.σ) e=true)(f:Fc A P outer){K:ac->ag->Prop}(k:∀v s' B e,i9 (F.env::outer) (λ_=>False) P.x.s v s' B e->E v s'):ai (ah pw c.w) A.A (eval e F.env) K E P.x.s:=by
 refine bE λgG hG=>aj (MY h) λq h1 h=>aL h λhk h=>aj h λvs h2 h=>fM h λks h3 h4=>jZ (EV h1) λnp pos bZ=>?_;subst bZ;refine cP (Mu.nW h4) λg hg kp k3=>?_;have ea:=sg (A:=A) (pos:=pos) S h2;have ka:=DH (A:=A) (pos:=pos) S h3;exact hG (wH (nH hk.1 hg hk.2 P.ja (sK (lq ea.1) ka.1 kp (ea.2 P.sM _ _ λus y l r=>ka.2 (P.sM.le l) _ _ λws y' l' r'=>⟨y'.cT,k3 (A:=A) (r.mono l'.sub) r' f.stack (f.frames.ext (l.trans l').e) λv s' B e fl=>k v s' B e (fl.ext (l.trans l').e)⟩))))
theorem b_(S:aX c d I)(Mu:hH c O d)(h:raises O I F.nm (bA P.σ) e=true)(f:Fc A P outer){K:ac->ag->Prop}(k:∀v s',rJ A P outer v s'->E v s'):ai (ah pw c.w) A.A (eval e F.env) K E P.x.s:=PQ S Mu h f λv s' B e fl=>k v s' (i9.after f fl)
theorem aeX(S:aX c d I)(Mu:hH c O d)(h:sO O I F.nm P.σ e=some r):Ex A P (iI (.Return (some e) pos) F.env) r:=λouter K E k=>by
 refine ux h (λp h1 h=>?_) λ_ h=>aL h λh1 h=>?_
 ·obtain rfl:=ay h;exact wpAny_Return_some (S.ev (x:=P.ja) h1 P.sM _ _ λu y l r=>k y u (Zi l) r)
 ·obtain rfl:=ay h;exact wpAny_Return_some (b_ S Mu h1 k.1 k.2)
theorem MH(P:cD):(nsOkIn (KL P) 663&&nsIn (KL P) 663 "__init__"==some none&&di P "TiesException"==some (.ref 664))=true:=⋯
theorem Ow(P:cD):∃nm q bs hdct sn sub ab col dd k0 k1 k2 k3 k5,(KL P).lookup 664=some (excClassObj nm q 664 663 bs [.type "Exception",.type "BaseException",.type "object"] hdct sn sub ab col dd k0 k1 k2 k3 k5 "Exception.__new__"):=⟨_,_,_,_,_,_,_,_,_,_,_,_,_,_,rfl⟩
theorem G_{vs:List PV}(S:aX c d I)(hk:ak F.nm ("TiesException":Str)=some .globalImplicit)(h:iS (I.e F.nm (fJ P.σ)) args=some vs)(hz:vs.length<=aA):Ex A P (iI (.Raise (some (.Call (.Name "TiesException" np) args [] cp)) none pos) F.env) (.exc,σ'):=λouter K E k=>by
 refine bE λgG hG=>?_;have z:=MH c.w.params;simp only[mI,beq_iff_eq] at z;obtain⟨⟨z1,z2⟩,z3⟩:=z;obtain⟨n',q,bs,hdct,sn,sub,ab,col,dd,k0,k1,k2,k3,k5,ho⟩:=Ow c.w.params;have ea:=sg (A:=A) (pos:=cp) S h;exact hG (wpAny_Raise_call_sub (C:=664) (N:=663) (nm:=n') (q:=q) (bs:=bs) (hdct:=hdct) (sn:=sn) (sub:=sub) (ab:=ab) (col:=col) (dd:=dd) (k0:=k0) (k1:=k1) (k2:=k2) (k3:=k3) (k5:=k5) PySem.F.excBase_Exception A.ok.handled (lq ea.1) (mN:=(c.h₀.nsMap 663)) (nsMap_none_of_in c.K z1 z2)
  (nH hk z3 (by decide) P.x ⟨rfl,HR (kws:=[]) (lq ea.1) rfl (ea.2 P.vars _ _ λus y l r=>uK (Rq rfl (rM (r.length▸hz)) (y.cT 664 _ ho) ((am.Ns.of_isNs (isNs_of_in c.K z1)).keeps y.keep) (λh' e m=>k.2 _ _ (acZ k.1 l.e y.tab m))))⟩))
theorem c_{O:aK}(S:∀n,aX c d (ip n O))(ov:Ov c d)(Mu:hH c O d)(Or:cg c O d)(ih:∀m,m<=n->Sd c d (aw O m)):Sd c d (aw O (n+1)):=λ{F P A mu st r} h=>by
 have h':QT O (ip n O) (aw O n) F.nm mu P.σ st=some r:=h;induction st using PX with
 |Expr=>exact adK (S n) Mu h'
 |Assign ts e pos=>
  exact aj h' λt h1 h2=>qf (m:=λts=>Ex A P (iI (.Assign ts e pos) F.env) r) h1 (ab4 S ov Mu h2)
 |AugAssign=>exact acf S ov Mu Or h'
 |If=>exact ads (S n) (ih n (bf n)) h'
 |While t b CB=>
  refine si h' λe _=>?_;cases e;exact i_ S ih h
 |For t it b CB=>
  refine si h' λe h=>?_;cases e;exact ab3 (S n) ov (ih n (bf n)) h
 |Return e=>
  induction e using qN with
  |none=>exact nS h'
  |some e=>exact aeX (S n) Mu h'
 |Raise e cc=>
  refine aL h' λh0 h1=>aj h1 λe' h2 h3=>aj h3 λq h4 h5=>aL h5 λhk h6=>aj h6 λvs h7 h8=>aL h8 λhz h9=>?_;obtain rfl:=ay h9;cases h2;refine jZ (EV h4) λnp cp bZ=>?_;subst bZ;induction cc using qN with
  |none=>
   refine fb hk λh1 h2 h3=>?_;rw[h1] at h3;exact aa (h1) (aa (jF h2) (G_ (S n) h3 h7 hz))
  |some=>exact ff h0
 |_=>exact nS h'
theorem Vx{O:aK}(S:∀n,aX c d (ip n O))(ov:Ov c d)(Mu:hH c O d)(Or:cg c O d)(n:Nat):Sd c d (aw O n):=Nat.strongRecOn (motive:=λn=>Sd c d (aw O n)) n λn ih=>by
 induction n using n7 with
 |zero=>exact λh=>nS h
 |succ n=>exact c_ S ov Mu Or λm hm=> @ih m (kz hm)
end
end
section
variable{α:Type}
noncomputable def xR(names:List Str):List (Str×α)->List (Str×α)->Option (List (Str×α))
 |[],l=>some l
 |q::r,l=>if names.contains q.1=true then(if(l.lookup q.1).isSome=true then none else xR names r (l++[q])) else none
noncomputable def ui:List (Str×α)->List (Str×α)->List (Str×α)
 |[],l=>l
 |q::r,l=>ui r (if(l.lookup q.1).isNone=true then l++[q] else l)
def j9(names:List Str)(ds vs:List α)(ks:List (Str×α)):Option (List (Str×α)):=
 (xR names ks (names.zip vs)).bind λslots=>if names.length<vs.length then none else
  if((names.take (names.length- (ds.drop (ds.length-names.length)).length)).filter λn=>(slots.lookup n).isNone).isEmpty=true then
   some (names.filterMap λn=>((ui ((names.drop (names.length- (ds.drop (ds.length-names.length)).length)).zip (ds.drop (ds.length-names.length))) slots).lookup n).map (n,·)) else none
end
section
variable{α σ:Type}{names:List Str}{ks l r:List (Str×α)}{s:ag}{ds vs:List α}{q:Str×α}{n:Str}{ns:List Str}{v:α}
theorem acn(get:σ->List (Str×α))(put:σ->List (Str×α)->σ)(hp:∀st l,get (put st l)=l)(hpp:∀st l m,put (put st l) m=put st m)(hg:∀st,put st (get st)=st)(g:Str×α->σ->Sem (ForInStep σ))
(Lw:∀k v st,names.contains k=true->((get st).lookup k).isSome=false->g (k,v) st=pure (.yield (put st (get st++[(k,v)]))))(st:σ)(h:xR names ks (get st)=some l):forIn ks st g=pure (put st l):=by
 induction ks generalizing st l with
 |nil=>cases ay h;erw[yK];rw[hg]
 |cons q r ih=>
  refine aL h λh1 h=>fU h λh2 h=>?_;rw[wF,Lw q.1 q.2 st h1 (n3 h2),pure_bind];exact(ih (put st (get st++[(q.1,q.2)])) (by rw[hp];exact h)).trans (by rw[hpp])
theorem aab(g:Str×α->List (Str×α)->Sem (ForInStep (List (Str×α))))(Lw:∀k v st,g (k,v) st=pure (.yield (if(st.lookup k).isNone=true then st++[(k,v)] else st)))(l:List (Str×α)):forIn ks l g=pure (ui ks l):=by
 induction ks generalizing l with
 |nil=>rfl
 |cons q r ih=>rw[wF,Lw q.1 q.2,pure_bind];exact ih _
noncomputable def zv(p:Arguments):Bool:=p.posonlyargs.isEmpty&&p.vararg.isNone&&p.kwonlyargs.isEmpty&&p.kwarg.isNone
def Dm(s:ag)(v:ac)(o:Option (Array ac)):Prop:=∀(M:f4) (A:bh) (E:ac->ag->Prop) (Q:Option (Array ac)->ag->Prop),Q o s->ai M A (seqItems? v) Q E s
noncomputable def Q1(l:List Arg)(kd:List (Option Expr))(df:List Expr):Arguments:=⟨[],l,none,[],kd,none,df⟩
theorem Ι{p:Arguments}(h:zv p=true):∃l kd df,p=Q1 l kd df:=by
 obtain⟨po,l,va,ko,kd,kw,df⟩:=p;refine dS (aW h) λh p4=>dS (aW h) λh p3=>dS (aW h) λp1 p2=>?_;obtain rfl:=jF p1;obtain rfl:=Gb.mp p2;obtain rfl:=jF p3;obtain rfl:=Gb.mp p4;exact⟨l,kd,df,rfl⟩
section
variable{β:Type}{M:f4}{A:bh}{E:ac->ag->Prop}{Q:β->ag->Prop}{t u:Sem β}{b:Prop}[Decidable b]
theorem I3{t:Sem σ}{x:σ}{k:σ->Sem β}(h:t=pure x)(K:ai M A (k x) Q E s):ai M A (t>>=k) Q E s:=ae (h▸au K)
theorem NM(h:¬b)(K:ai M A u Q E s):ai M A (if b then t else u) Q E s:=(iN h).symm▸K
end
theorem Jf{fd:FuncData}{vals ds:List ac}{kv binds:List (Str×ac)}{o:Option (Array ac)}(hp:zv fd.params=true)(hd:Dm s fd.defaults o)
(ho:(o.getD #[]).toList=ds)(h:j9 (fd.params.args.map (·.arg)) ds vals kv=some binds):BindsTo s fd ⟨vals,kv⟩ binds:=by
 intro M A E Q hq;obtain⟨nm,qn,p,bd,sc,gl,cl,df,kd,dc,pm,an,co,ct⟩:=fd;obtain⟨l,kdf,dfs,e⟩:=Ι hp;obtain rfl:p=Q1 l kdf dfs:=e;subst ho;refine aj h λslots h1 h2=>fU h2 λLx h3=>aL h3 λahi h4=>?_;obtain rfl:=ay h4;refine(show ai M A (forIn kv ((l.map (·.arg)).zip vals,([]:List (Str×ac))) _>>=_) Q E s from I3 (acn (λst:List (Str×ac)×List (Str×ac)=>st.1) (λst l=>(l,st.2)) (λ_ _=>rfl) (λ_ _ _=>rfl) (λ_=>rfl) _ (λk v st a b=>(iP (Lb.mpr (.inl a))).trans (iN (ne_true_of_eq_false b))) _ h1) (ae (hd _ _ _ _ (NM (λq=>Lx (cC (aW q).1)) (NM (λq=>dy ((af not ahi).symm.trans q)) ?_)))));exact I3 (aab _ (λk v st=>(apply_ite (λl=>(pure (uN l):Sem (ForInStep (List (Str×ac))))) ..).symm) _) (I3 yK ((gO (l.map (·.arg))).symm▸au hq))
theorem WF(h:xR names ks (q::l)=some r):∃r',r=q::r':=by
 induction ks generalizing l with
 |nil=>exact⟨l,(ay h).symm⟩
 |cons _ _ ih=>exact aL h λ_ h=>fU h λ_ h=>ih h
theorem acW:∃r',ui ks (q::l)=q::r':=by
 induction ks generalizing l with
 |nil=>exact⟨l,rfl⟩
 |cons p _ ih=>
  unfold ui;by_cases c:((q::l).lookup p.1).isNone=true
  ·erw[iP c];exact ih
  ·erw[iN c];exact ih
theorem aaF(h:j9 (n::ns) ds (v::vs) ks=some r):∃r',r=(n,v)::r':=aj h λm h1 h2=>fU h2 λ_ h3=>aL h3 λ_ h4=>by
 cases ay h4;obtain⟨m',rfl⟩:=WF h1;obtain⟨r',e⟩:=acW (ks:=((n::ns).drop ((n::ns).length- (ds.drop (ds.length- (n::ns).length)).length)).zip (ds.drop (ds.length- (n::ns).length))) (q:=(n,v)) (l:=m');refine aa (B5) (aa (e) (aa (Fu) ?_));rw[beq_self_eq_true];exact⟨_,rfl⟩
theorem We(h:j9 ns ds (v::vs) ks=some (q::r)):q.2=v:=by
 induction ns using bO with
 |nil=>exact aj h λ_ _ g=>fU g λc _=>absurd (Nat.zero_lt_succ _) c
 |cons n ns=>exact(aaF h).elim λ_ e=>af ou (List.cons.inj e).1
theorem aek(nd:ns.Nodup):((ns.filterMap λn=>(l.lookup n).map (n,·)).map (·.1)).Nodup/\∀x∈(ns.filterMap λn=>(l.lookup n).map (n,·)).map (·.1),x∈ns:=by
 induction ns with
 |nil=>exact⟨wJ,λx m=>mN m⟩
 |cons n ns ih=>
  have nd:=iV nd;have i:=ih nd.2;erw[B5];cases l.lookup n with
  |none=>exact⟨i.1,λx m=>.tail _ (i.2 x m)⟩
  |some a=>exact⟨nL ⟨λm=>nd.1 (i.2 _ m),i.1⟩,λx m=>(bw m).elim (λe=>e▸ .head _) λm=>.tail _ (i.2 x m)⟩
theorem JB(h:j9 names ds vs ks=some r)(nd:names.Nodup):(r.map (·.1)).Nodup/\∀x∈r.map (·.1),x∈names:=aj h λm h1 h2=>fU h2 λ_ h3=>aL h3 λ_ h4=>by
 cases ay h4;exact aek nd
end
section
variable{c:Cx}{f:Fz}{vs ds:List ac}{l es:List PV}{lv kv:List (Str×ac)}{lf kf r:List (Str×PV)}{z:Str}{names ns:List Str}
theorem bN.look{X:Prop}(h:bN c f lv lf)(z:Str)(k1:lv.lookup z=none->lf.lookup z=none->X)(k2:∀v p,lv.lookup z=some v->lf.lookup z=some p->aV c f v p->X):X:=by
 induction lf generalizing lv with
 |nil=>
  revert k1;exact sR h λk1=>k1 rfl rfl
 |cons q lf ih=>
  revert k1 k2;obtain⟨y,p⟩:=q;refine pg h λ{v us} a h k1 k2=>?_;rw[Fu,Fu] at k1 k2;cases e:z==y with
  |true=>rw[e] at k2;exact k2 _ _ rfl rfl a
  |false=>rw[e] at k1 k2;exact ih h k1 k2
theorem bN.append(b:bN c f kv kf)(h:bN c f lv lf):bN c f (lv++kv) (lf++kf):=by
 induction lf generalizing lv with
 |nil=>exact sR h b
 |cons q lf ih=>exact pg h λa h=>.cons a (ih h)
theorem aR.zip(h:aR c f vs l)(ns:List Str):bN c f (ns.zip vs) (ns.zip l):=by
 induction l generalizing vs ns with
 |nil=>exact iR h (by erw[aga];erw[aga];exact .nil)
 |cons p l ih=>
  refine eC h λa h=>?_;induction ns using bO with
  |nil=>exact .nil
  |cons n ns=>exact .cons a (ih h ns)
theorem Ze(h:bN c f kv kf)(g:bN c f lv lf)(e:xR names kf lf=some r):∃q,xR names kv lv=some q/\bN c f q r:=by
 induction kf generalizing kv lv lf with
 |nil=>exact sR h (by cases ay e;exact(az lv rfl g))
 |cons q kf ih=>
  refine aL e λh1 e=>fU e λh2 e=>?_;revert h1 h2 e;obtain⟨y,p⟩:=q;exact pg h λ{v us} a h h1 h2 e=>aB (ih h ((bN.cons (x:=y) a .nil).append g) e) λq k1 k2=>g.look y (λn _=>(az q ((iP h1).trans ((iN (by erw[n];exact dy)).trans k1)) k2)) λ_ _ _ n _=>absurd (by erw[n];rfl) h2
theorem u_(h:bN c f kv kf)(g:bN c f lv lf):bN c f (ui kv lv) (ui kf lf):=by
 induction kf generalizing kv lv lf with
 |nil=>exact sR h g
 |cons q kf ih=>
  obtain⟨y,p⟩:=q;refine pg h λ{v us} a h=>?_;unfold ui;refine g.look y (λe1 e2=>?_) λ_ _ e1 e2 _=>?_
  ·erw[e1];erw[e2];exact ih h ((bN.cons a .nil).append g)
  ·erw[e1];erw[e2];exact ih h g
theorem abf(h:bN c f lv lf):bN c f (ns.filterMap λn=>(lv.lookup n).map (n,·)) (ns.filterMap λn=>(lf.lookup n).map (n,·)):=by
 induction ns with
 |nil=>exact .nil
 |cons n ns ih=>
  refine aa (B5) (aa (B5) (h.look n (λe1 e2=>?_) λ_ _ e1 e2 r=>?_))
  ·erw[e1];erw[e2];exact ih
  ·erw[e1];erw[e2];exact .cons r ih
theorem Qc(hd:aR c f ds es)(hv:aR c f vs l)(hk:bN c f kv kf)(h:j9 names es l kf=some r):∃q,j9 names ds vs kv=some q/\bN c f q r:=aj h λm h1 h2=>fU h2 λc1 h3=>aL h3 λc2 h4=>by
 cases ay h4;refine aB (Ze hk (hv.zip names) h1) λq k1 k2=>?_;have e:(λn=>(q.lookup n).isNone)=λn=>(m.lookup n).isNone:=funext λn=>k2.look n (λe1 e2=>by erw[e1];erw[e2];rfl) λ_ _ e1 e2 _=>by erw[e1];erw[e2];rfl
 unfold j9;rw[k1,Sl,hv.length,hd.length,(hd.drop _).length,iN c1,e,iP c2];exact(az _ rfl (abf (u_ ((hd.drop _).zip _) k2)))
end
section
variable{c:Cx}{F:Fm}{d:Nat}{sc:fk}{binds kv:List (Str×ac)}{vs:List PV}{ks fs:List (Str×PV)}{V:List ao}{ow:List Str}
def HI(sc:fk):Bool:=sc.kind==.function&& !sc.isCoroutine&& !sc.isGenerator&&sc.names.all λp=>ak sc.names p.1==some p.2&&(p.2==.local||p.2==.cell||p.2==.globalImplicit)
structure DQ(sc:fk):Prop where
 kind:sc.kind=.function
 co:sc.isCoroutine=false
 free:∀x,ak sc.names x≠some .free
 one:∀x k,(x,k)∈sc.names->ak sc.names x=some k
theorem DM{sc:fk}(h:HI sc=true):DQ sc/\sc.isGenerator=false:=by
 refine dS (aW h) λh3 h4=>?_;obtain⟨h2,h3⟩:=aW h3;exact dS (aW h2) λh1 h2=>⟨⟨a5 h1,tj _▸h2,λx m=>(ff ((aW (b7 h4 _ (gM m))).2)),λx k m=>a5 (aW (b7 h4 _ m)).1⟩,tj _▸h3⟩
structure HB{c:Cx}(sc:fk)(binds:List (Str×ac))(x:Pt c)(F:Fm)(y:Pt c):Prop where
 nm:F.nm=sc.names
 Vv:F.env.scope=sc
 fr:F.env.frame=some F.env.locals
 le:Le x y
 f:y.f=x.f
 gens:y.s.gens=x.s.gens
 kp:∀b o,x.s.heap.get? b=some o->y.s.heap.get? b=some o
 own:jG F y
 cR:∀z a,F.env.cells.lookup z=some a->∃v,y.s.heap.IsCell a v
 var:∀z v,(z,v)∈binds->dB F.env y.s.heap z v
 new:∀b,dq F.env b->x.s.heap.get? b=none
 only:∀z a,F.env.cells.lookup z=some a->ak sc.names z=some .cell
section
variable{x y:Pt c}{A:Am (d+1)}{z:Str}{v:ac}{b:ao}
theorem MD{ko:Str->Option gU}{m:Str->Option ac}(n:z∉binds.map (·.1)):Ku ko binds m z=m z/\bindC ko binds m z=m z:=by
 induction binds generalizing m with
 |nil=>exact⟨rfl,rfl⟩
 |cons p r ih=>
  have n:=not_or.mp λq=>n (jN.mpr q);unfold Ku bindC;by_cases q:ko p.1=some .local
  ·erw[iP q];erw[iP q];exact⟨(ih n.2).1.trans (iN n.1),(ih n.2).2⟩
  ·erw[iN q];erw[iN q];exact⟨(ih n.2).1,(ih n.2).2.trans (iN n.1)⟩
theorem NC{ko:Str->Option gU}{m:Str->Option ac}(nd:(binds.map (·.1)).Nodup)(h:(z,v)∈binds):(ko z=some .local->Ku ko binds m z=some v)/\(ko z=some .cell->bindC ko binds m z=some v):=by
 induction binds generalizing m with
 |nil=>exact mN h
 |cons p r ih=>
  have nd:=iV nd;unfold Ku bindC;rcases bw h with h|h
  ·cases h;exact⟨λk=>by erw[iP k];exact(MD nd.1).1.trans (iP rfl),λk=>by erw[iN (by refine aa (k) ?_;exact nofun)];exact(MD nd.1).2.trans (iP rfl)⟩
  ·exact⟨(ih nd.2 h).1,(ih nd.2 h).2⟩
theorem Pt.top(x:Pt c)(h:x.s.heap.objs.size<=b):x.s.heap.get? b=none:=by
 cases q:x.s.heap.get? b with
 |none=>rfl
 |some o=>exact absurd (fB q) (gN h)
theorem H7{M:f4}{A:bh}{E:ac->ag->Prop}{qual:Str}{fa:Option ao}{code:ac}{Q:Env->ag->Prop}(S:DQ sc)(nd:(binds.map (·.1)).Nodup)(hk:∀q∈binds,ak sc.names q.1=some .local\/ak sc.names q.1=some .cell)(Gq:pA sc.names=true->wt code=true)
(h:∀F y,HB sc binds x F y->Q F.env y.s):ai M A (SA sc mD [] binds qual fa code none uF) Q E x.s:=by
 have L:=laid sc.names (x.s.heap.push {cls:=.type "frame",data:=.dict #[]}) [] (λx c e=>nS e) (λx y c e=>nS e);rw[show(x.s.heap.push {cls:=.type "frame",data:=.dict #[]}).objs.size=x.s.heap.objs.size+1 from oy ..] at L;have own:∀z,ak sc.names z=some .cell->∃a,(B8 (x.s.heap.objs.size+1) sc.names []).lookup z=some a:=λz e=>(L.own z (gM e)).imp λ_=>And.left;have look:∀z,sc.names.lookup z=ak sc.names z:=λz=>ID;refine wpAny_newFunctionEnv_cells S.kind (λq m=>?_) λenv he s' i=>?_
 ·rw[look];exact(hk q m).imp id λe=>⟨e,tA.mpr (own _ e)⟩
 ·subst he;refine eH i.done λhh tt bZ keep=>?_;subst bZ;have up:∀z a,(B8 (x.s.heap.objs.size+1) sc.names []).lookup z=some a->x.s.heap.objs.size<a:=λz a e=>i.above z a (mem_of_lookup e);have fr:∀a,x.s.heap.objs.size<=a->bV (x.grow hh tt keep) a:=λa l=>have f:=x.free l (x.top l);⟨f.f,f.h₀,f.hi⟩;refine h {
   env:=newEnv sc x.s.heap.objs.size mD (B8 (x.s.heap.objs.size+1) sc.names []) qual fa code none uF
   nm:=sc.names
   kind:=S.kind
   glob:=rfl
   blt:=rfl
   names:=λz e=>(look z).trans e
   cells:=λz e _=>e.elim (λe=>⟨.inl ((look z).trans e),tA.mpr (own z e)⟩) λe=>absurd e (S.free z)
   jg:=⟨x.j5 (bf _),λz a e=>x.j5 (cy (up z a e))⟩
   cl:=λz a e=>fO (up z a e)
   apart:=λz y a e1 e2=>name_of_addr i.apart (mem_of_lookup e1) (mem_of_lookup e2)
   code:=Gq} (x.grow hh tt keep) ⟨rfl,rfl,rfl,x.cG keep,rfl,rfl,keep,⟨⟨_,i.toInCall.ns⟩,fr _ (bf _),λz e=>(look z).trans e,λz e=>?_⟩,λz a e=>⟨_,i.cell z a e⟩,λz v m=>?_,λb q=>?_,λz a e=>af5 λn=>nS ((L.old z λm=>n (S.one z _ m)).symm.trans e)⟩
  ·obtain⟨a,e1⟩:=own z e;exact⟨(look z).trans e,a,e1,fr a (cy (up z a e1))⟩
  ·rcases hk (z,v) m with e|e
   ·exact .inl ⟨(look z).trans e,_,i.toInCall.ns,(NC nd m).1 ((look z).trans e)⟩
   ·exact dN (own z e) λa e1=>.inr ⟨.inl ((look z).trans e),a,e1,(Eq.mp (af (am.IsCell hh a) ((NC nd m).2 ((look z).trans e))) (i.cell z a e1))⟩
  ·exact q.elim (λq=>q▸eQ _) λq=>q.elim λz e=>x.top (cy (up z b e))
end
structure aY where
 addr:ao
 st:aH
 qual:String
 dflt:ac
 pm:ac
 code:ac
 ds:List PV
 mu:List Str
noncomputable def aY.body(R:aY):List aH:=match R.st with
 |.FunctionDef _ _ body _ _ _ _ _ _ _=>body
 |_=>[]
noncomputable def aY.scope(R:aY):fk:=match R.st with
 |.FunctionDef _ _ _ _ _ _ scope _ _ _=>scope
 |_=>default
noncomputable def aY.names(R:aY):List Str:=match R.st with
 |.FunctionDef _ args _ _ _ _ _ _ _ _=>args.args.map (·.arg)
 |_=>[]
def Nf(t:aH):Bool:=match t with
 |.FunctionDef _ args _ _ _ _ _ _ _ _=>zv args
 |_=>false
def aY.plain(R:aY):Bool:=Nf R.st
def MP(v:ac)(p:PV):Bool:=p.iU||match v with
 |.none=>p.Et.isSome
 |.bool b=>p.yc==some b
 |.int i _=>p.ei==some i
 |.str s _=>p.vO==some s
 |_=>false
def I0:List ac->List PV->Bool
 |[],ps=>ps.isEmpty
 |v::vs,ps=>(match ps with
  |[]=>false
  |p::ps=>MP v p&&I0 vs ps)
noncomputable def Of(o:Obj):Option (Array ac):=match o.data with
 |.seq items _=>some items
 |_=>none
def OW(K:km)(v:ac)(ds:List PV):Bool:=match v with
 |.none=>ds.isEmpty
 |.ref T=>((K.lookup T).bind Of).any λl=>I0 l.toList ds
 |_=>false
def N8(K:km)(R:aY):Bool:=OW K R.dflt R.ds
def QW(K:km)(R:aY):Bool:=HI R.scope&&(R.plain&&(codeIn K R.code (dw R.qual)&&((!pA R.scope.names||wt R.code)&&(N8 K R&&(decide R.names.Nodup&&R.names.all λx=>ak R.scope.names x==some .local||ak R.scope.names x==some .cell)))))
noncomputable def mh(l:List (Str×PV)):ar:=l.map λq=>(q.1,.pv q.2)
noncomputable def cq(o:aZ):Option PV:=o.bind λr=>match r.1 with
 |.ret p=>some p
 |.next=>some .none
 |.exc=>none
noncomputable def fZ.isExc:fZ->Bool
 |.exc=>true
 |_=>false
section
variable(O:aK)(N:Nat)(R:aY)
def Bz(l:ar):aZ:=a9 O N R.scope.names R.mu l R.body
def bm(vs:List PV)(ks:List (Str×PV)):Option PV:=(j9 R.names R.ds vs ks).bind λl=>cq (Bz O N R (mh l))
def MR(vs:List PV)(ks:List (Str×PV)):Bool:=((j9 R.names R.ds vs ks).bind λl=>Bz O N R (mh l)).any λr=>r.1.isExc
def xD(k:Nat)(fs:List (Str×PV))(ow:List Str)(vs:List PV)(ks:List (Str×PV)):Option (List (Str×PV)×List Str):=(j9 R.names R.ds (.any::vs) ks).bind λl=>l.head?.bind λq=>
 (Bz O N R ((q.1,.a7 k fs ow)::mh l.tail)).bind λr=>if r.1.g9=true then(ak r.2 q.1).bind λv=>v.lK.bind λi=>if i.1=k then some i.2 else none else none
end
structure jm(P:cD)(R:aY):Prop where
 at_:(KL P).lookup R.addr=some (ch R.st R.qual R.dflt R.pm R.code [] .none)
 sc:DQ R.scope
 gen:R.scope.isGenerator=false
 plain:R.plain=true
 code:codeIn (KL P) R.code (dw R.qual)=true
 tab:pA R.scope.names=true->wt R.code=true
 df:N8 (KL P) R=true
 nd:R.names.Nodup
 nk:∀x∈R.names,ak R.scope.names x=some .local\/ak R.scope.names x=some .cell
theorem acz{P:cD}{R:aY}(h1:(KL P).lookup R.addr=some (ch R.st R.qual R.dflt R.pm R.code [] .none))(h2:QW (KL P) R=true):jm P R:=by
 refine dS (aW h2) λk1 k2=>dS (aW k2) λk2 k3=>dS (aW k3) λk3 k4=>?_;obtain⟨k4,k5⟩:=aW k4;exact dS (aW k5) λk5 k6=>dS (aW k6) λk6 k7=>⟨h1,(DM k1).1,(DM k1).2,k2,k3,λg=>by rw[g] at k4;exact k4,k5,cC k6,λx m=>(lQ (b7 k7 x m)).imp a5 a5⟩
section
variable{x y:Pt c}{N k:Nat}{A:Am (d+1)}{O:aK}{z:Str}{v:ac}{b a:ao}{R:aY}{vals ds:List ac}{l:List (Str×PV)}{Q:mJ->ag->Prop}{p:PV}{f:Fz}{σ:ar}{U:Str->List ao}{ow':List Str}{lv:List (Str×ac)}{lf:List (Str×PV)}
theorem afJ(h:MP v p=true):aV c f v p:=by
 cases lQ h with
 |inl h=>
  cases p with
  |any=>exact .any
  |_=>exact ff h
 |inr h=>induction v using AZ with
  |none=>exact(tA.mp h).elim λ_ e=>Bb e .none
  |bool b=>exact Eo (a5 h) .bool
  |int i t=>exact eA (a5 h) .int
  |str s t=>exact Bs (a5 h) .str
  |_=>exact ff h
theorem U8{vs:List ac}{ps:List PV}(h:I0 vs ps=true):aR c f vs ps:=by
 induction vs generalizing ps with
 |nil=>exact jF h▸ .nil
 |cons v vs ih=>induction ps using bO with
  |nil=>exact ff h
  |cons p ps=>exact .cons (afJ (aW h).1) (ih (aW h).2)
theorem ab9{o:Obj}{l:Array ac}:Of o=some l->∃n,o.data=.seq l n:=by
 obtain⟨cl,dt,d,sl⟩:=o;cases d with
 |seq items m=>exact λh=>ay h▸⟨m,rfl⟩
 |_=>exact nS
theorem U4{ps:List PV}(x:Pt c):OW (KL c.w.params) v ps=true->∃o,bt ps x (o.getD #[]).toList/\Dm x.s v o:=by
 induction v using AZ with
 |none=>exact λh=>⟨none,jF h▸ .nil,λ_ _ _ _ q=>au q⟩
 |ref T=>exact λh=>aB (qX h) λl h1 h2=>aj h1 λo h3 h4=>(ab9 h4).elim λ_ hd=>⟨some l,U8 h2,λM A E Q q=>wpAny_seqItems (x.cT _ _ h3) hd q⟩
 |_=>exact ff
theorem M5(ok:jm c.w.params R)(x:Pt c):∃o,bt R.ds x (o.getD #[]).toList/\Dm x.s R.dflt o:=U4 x ok.df
noncomputable def OH:Flow->ac
 |.ret v=>v
 |_=>.none
theorem VR{t:aH}:Nf t=true->∃name args body dl rt tp scope ts bd pos,t=.FunctionDef name args body dl rt tp scope ts bd pos:=by
 induction t using PX with
 |FunctionDef=>exact λ_=>⟨_,_,_,_,_,_,_,_,_,_,rfl⟩
 |_=>exact ff
theorem Jb(h:R.plain=true):∃name args body dl rt tp scope ts bd pos,R.st=.FunctionDef name args body dl rt tp scope ts bd pos:=VR h
theorem MK{o:Option (Array ac)}(ok:jm c.w.params R)(hdv:Dm x.s R.dflt o)(hb:j9 R.names (o.getD #[]).toList vals kv=some binds)
(h:∀F y,HB R.scope binds x F y->ai (ah pw c.w) (A.deeper F.env).A (tu R.body F.env) (λfl s=>Q (.ok (.ret (OH fl))) s) (λv s=>ai (ah pw c.w) (A.deeper F.env).A (wK F.env v) (λ_ s=>Q (.error v) s) (λv s=>Q (.error v) s) s) y.s):
  eO (ah pw c.w) A.A (.call (.ref R.addr) ⟨vals,kv⟩) Q x.s:=by
 refine bE λgG hG=>dS (JB hb ok.nd) λn1 n2=>?_;have ha:=x.cT _ _ ok.at_;have S:=ok.sc;have gn:=ok.gen;have cd:=codeRec_of x.cT ok.code;have pl:=ok.plain;have tb:=ok.tab;have nk:∀q∈binds,ak R.scope.names q.1=some .local\/ak R.scope.names q.1=some .cell:=λq m=>ok.nk _ (n2 _ (qW (f:=(·.1)) m));clear ok n2;obtain⟨addr,st,qual,dflt,pm,code,Ly,mu⟩:=R;obtain⟨name,args,body,dl,rt,tp,scope,ts,bd,pos,rfl⟩:=Jb (R:=⟨addr,st,qual,dflt,pm,code,Ly,mu⟩) pl;refine hG ?_
 ·exact codeAny_call_function (o:=ch (.FunctionDef name args body dl rt tp scope ts bd pos) qual dflt pm code [] .none) (aQ (cW _ _) A.ok.depth) ha rfl S.co gn rfl cd (Jf (show zv args=true from pl) hdv rfl (show j9 (args.args.map (·.arg)) _ vals kv=some binds from hb) _ _ _ _ (H7 S n1 nk tb λF y e=>⟨x.nolimit.keeps e.kp,codeAny_func (cQ (h F y e) (λfl _ z=>by cases fl<;>exact z) λ_ _ z=>z)⟩))
theorem HM(e:HB sc binds x F y)(nd:(σ.map (·.1)).Nodup)(h:∀z av,ak σ z=some av->∃v,(z,v)∈binds/\jd c x.f x.s.heap av v (U z))(fr:∀z,∀b∈U z,bV x b/\∃o,x.s.heap.get? b=some o)(dj:∀z q b,z≠q->b∈U z->b∉U q):∃P:St c F,P.x=y/\P.σ=σ/\∀b,WU P b->x.s.heap.get? b=none\/∃z,b∈U z:=
 ⟨{x:=y
   σ:=σ
   U:=U
   nd:=nd
   cR:=e.cR
   o:=e.own
   own:=λz v q=>by refine aB (h z v q) λu m a=>?_;exact(az u (e.var z u m) (a.mono (λb o _=>e.kp b o) e.le.sub))
   fresh:=λz v _ b m=>⟨(fr z b m).1.le e.le (fr z b m).2,λq=>(fr z b m).2.elim λo k=>nS ((e.new b q).symm.trans k)⟩
   dj:=λz q v u n _ _ b m=>dj z q b n m},rfl,rfl,λb q=>q.imp (λq=>e.new b (nX q)) λq=>q.elim λz q=>q.elim λ_ q=>⟨z,q.2⟩⟩
theorem Se:ak (mh l) z=(ak l z).map .pv:=G7
theorem Sc:(mh l).map (·.1)=l.map (·.1):=by unfold mh;erw[jr];rfl
theorem bN.find(r:bN c f lv lf)(h:ak lf z=some p):∃v,(z,v)∈lv/\aV c f v p:=by
 induction lf generalizing lv with
 |nil=>exact nS h
 |cons q lf ih=>
  revert h;obtain⟨w,q⟩:=q;exact pg r λ{v us} a r h=>d6 h (λe h=>(az v (e▸ .head _) (ay h▸a))) λ_ h=>aB (ih r h) λv m a=>(az v (.tail _ m) a)
theorem Ml(ok:jm c.w.params R)(h1:j9 R.names R.ds vs ks=some l)(rv:bt vs x vals)(rk:bN c x.f kv ks)
(h:∀(F:Fm) (P:St c F),F.nm=R.scope.names->P.σ=mh l->F.env.frame=some F.env.locals->Le x P.x->(∀b,WU P b->x.s.heap.get? b=none)->
   ai (ah pw c.w) (A.deeper F.env).A (tu R.body F.env) (λfl s=>Q (.ok (.ret (OH fl))) s) (λv s=>ai (ah pw c.w) (A.deeper F.env).A (wK F.env v) (λ_ s=>Q (.error v) s) (λv s=>Q (.error v) s) s) P.x.s):
  eO (ah pw c.w) A.A (.call (.ref R.addr) ⟨vals,kv⟩) Q x.s:=by
 refine aB (M5 ok x) λds d1 d2=>aB (Qc d1 rv rk h1) λbinds b1 b2=>MK ok d2 b1 λF y e=>?_;obtain⟨P,rfl,e2,hW⟩:=HM (U:=λ_=>[]) e (σ:=mh l) (by erw[Sc];exact(JB h1 ok.nd).1) (λz av q=>by
  rw[Se] at q;exact fH (m:=λav=> ∃v,(z,v)∈binds/\jd c x.f x.s.heap av v []) q λp k=>by refine aB (b2.find k) λv m a=>?_;exact(cz v m a rfl)) (λz b m=>mN m) λ_ _ _ _ m=>mN m
 exact h F P e.nm e2 e.fr e.le λb q=>(hW b q).elim id λq=>q.elim λ_ m=>mN m
theorem aaW{α:Type}{l:List α}{q:α}(h:l.head?=some q):l=q::l.tail:=by
 induction l using bO with
 |nil=>exact nS h
 |cons a l=>exact af (· ::l) (ay h)
theorem zy{z Lz:Str}(m:b∈(if z=Lz then V else[])):z=Lz/\b∈V:=by
 by_cases q:z=Lz
 ·rw[iP q] at m;exact⟨q,m⟩
 ·rw[iN q] at m;exact mN m
theorem ae1{r:fZ×ar}(h:r.1.g9=true):r=(.next,r.2):=by
 obtain⟨f,σ⟩:=r;cases f with
 |next=>rfl
 |_=>exact ff h
variable(S:∀n,Sd c d (aw O n))
include S
theorem IX{F:Fm}{P:St c F}{A:Am d}{r:fZ×ar}(h:Bz O N R σ=some r)(e1:F.nm=R.scope.names)(e2:P.σ=σ):Ex A P (tu R.body F.env) r:=vL (mu:=R.mu) (S N) (aa (e1) (aa (e2) (h)))
theorem I5(ok:jm c.w.params R)(h:bm O N R vs ks=some p)(rv:bt vs x vals)(rk:bN c x.f kv ks)(K:∀y v,Le x y->Rd p y v->Q (.ok (.ret v)) y.s):eO (ah pw c.w) A.A (.call (.ref R.addr) ⟨vals,kv⟩) Q x.s:=
 aj h λl h1 h2=>aj h2 λr hr h3=>Ml ok h1 rv rk λF P e1 e2 _ le hW=>IX S hr e1 e2 [] _ _ (by
  obtain⟨fl,σ⟩:=r;cases fl with
  |next=>
   refine bE λgG hG=>?_;obtain rfl:=ay h3;exact hG (λQ' a _=>K Q'.x .none (br.le (cH.trans le.st a.st) hW) .none)
  |ret p=>
   obtain rfl:=ay h3;exact λy v l r=>K y v (br.le (cH.trans le.st l) hW) r
  |exc=>exact nS h3)
theorem xI(ok:jm c.w.params R)(h:bm O N R vs ks=some p)(rv:bt vs x vals)(rk:bN c x.f kv ks):aE A (bC (.ref R.addr) vals kv) x (Rd p):=λQ E K=>qY (I5 S ok h rv rk λy v l r=>K v y l r)
theorem Wv{E:ac->ag->Prop}{Q:ac->ag->Prop}{l:List Env}(ok:jm c.w.params R)(h:MR O N R vs ks=true)(rv:bt vs x vals)(rk:bN c x.f kv ks)(hl:A.A.frames=some l)(hi:nG c.h₀ x.s.heap (λ_=>False) l)
(K:∀v s' B e,i9 l (λ_=>False) x.s v s' B e->E v s'):ai (ah pw c.w) A.A (bC (.ref R.addr) vals kv) Q E x.s:=by
 refine aB (qX h) λr h1 h2=>?_;obtain⟨fl,σ⟩:=r;cases fl with
 |exc=>exact qY (aj h1 λb h1 hr=>Ml ok h1 rv rk λF P e1 e2 fr le hW=>IX S hr e1 e2 l _ _ ⟨⟨bh.frames_deeper hl,fr,hi.step le.e.n8 λb q=>.inr (hW b q)⟩,λv s' y=>cQ y (λ_ s3 z=>by refine jZ z λB e z=>?_;exact K v s3 B e (z.pre le.e.n8 λb q=>.inr (hW b q))) λ_ _ z=>z.elim⟩)
 |_=>exact ff h2
theorem abV{m:List (Str×PV)}{p₀:PV}(ok:jm c.w.params R)(h1:j9 R.names R.ds (.any::vs) ks=some ((z,p₀)::m))(h5:Bz O N R ((z,.a7 k fs ow)::mh m)=some (.next,σ))(h8:ak σ z=some (.a7 k lf ow'))(sl:pz c x.f x.s.heap k fs ow a V)(fr:∀b∈V,bV x b)(rv:bt vs x vals)(rk:bN c x.f kv ks)
(K:∀y V',cH (· ∈V) x y->pz c y.f y.s.heap k lf ow' a V'->(∀b∈V',b∈V\/x.s.heap.get? b=none)->(∀b∈V',bV y b)->Q (.ok (.ret .none)) y.s):eO (ah pw c.w) A.A (.call (.ref R.addr) ⟨.ref a::vals,kv⟩) Q x.s:=
 aB (M5 ok x) λo d1 d2=>aB (Qc d1 (.cons (v:=.ref a) (p:=.any) .any rv) rk h1) λbinds b1 b2=>
 aB (pg (m:=λl=>j9 R.names (o.getD #[]).toList (.ref a::vals) kv=some l->∃bs,l=(z,.ref a)::bs/\bN c x.f bs m) b2 (λ{_ us} _ r e=>⟨us,af (λv=>(z,v)::us) (We e),r⟩) b1:∃bs,binds=(z,.ref a)::bs/\bN c x.f bs m) λbs eb b3=>
 MK ok d2 (b1.trans (af some eb)) λF y e=>by
  obtain⟨P,rfl,e2,hW⟩:=HM (U:=λq=>if q=z then V else[]) e (σ:=(z,.a7 k fs ow)::mh m) (by erw[oz];erw[Sc];exact(JB h1 ok.nd).1) (λq av h=>d6 h (λe h=>by
    obtain rfl:=ay h;exact⟨.ref a,e▸ .head _,a,rfl,(iP e.symm).symm▸sl⟩) λn h=>by
    rw[Se] at h;refine aB (tz.mp h) λp k1 bZ=>?_;subst bZ;exact aB (b3.find k1) λv m1 r=>(cz v (.tail _ m1) r (iN λe=>n e.symm))) (λq b m=>⟨fr b (zy m).2,jd.there (v:=.a7 k fs ow) (u:=.ref a) (az a rfl sl) b (zy m).2⟩) λq q' b n m m'=>n ((zy m).1.trans (zy m').1.symm)
  have hW:∀b,WU P b->b∈V\/x.s.heap.get? b=none:=λb q=>(hW b q).symm.imp (λq=>q.elim λz m=>(zy m).2) id;exact IX S h5 e.nm e2 [] _ _ λQ' r e3=>by
   have hf:ak Q'.σ z=some (.a7 k lf ow'):=e3▸h8;obtain⟨u,Va,a',rfl,ua⟩:=Q'.own z _ hf;cases(r.a7 z k fs ow a (e2▸iP rfl) (e.var z _ (.head _))).2.vf Va;have lg:cH (λb=>b∈V\/x.s.heap.get? b=none) x Q'.x:=cH.trans e.le.st (r.st.weaken hW);exact K Q'.x (Q'.U z) (lg.shrink λb q=>q) ua (λb m=>(r.wu b (.inr (du z _ hf m))).elim (hW b) λn=>.inr (e.le.e.back (cN (Q'.fresh z _ hf b m).1.hi) n)) λb m=>(Q'.fresh z _ hf b m).1
theorem R9{i:List (Str×PV)×List Str}(ok:jm c.w.params R)(h:xD O N R k fs ow vs ks=some i)(sl:pz c x.f x.s.heap k fs ow a V)(fr:∀b∈V,bV x b)(rv:bt vs x vals)(rk:bN c x.f kv ks)
(K:∀y V',cH (· ∈V) x y->pz c y.f y.s.heap k i.1 i.2 a V'->(∀b∈V',b∈V\/x.s.heap.get? b=none)->(∀b∈V',bV y b)->Q (.ok (.ret .none)) y.s):eO (ah pw c.w) A.A (.call (.ref R.addr) ⟨.ref a::vals,kv⟩) Q x.s:=
 bE λgG hG=>aj h λl h1 h2=>aj h2 λq h3 h4=>aj h4 λr h5 h6=>aL h6 λhn h7=>aj h7 λv h8 h9=>aj h9 λi' CD CE=>aL CE λhc CF=>
  hG (abV S (z:=q.1) (p₀:=q.2) (σ:=r.2) ok (h1.trans (af some (aaW h3))) (h5.trans (af some (ae1 hn))) (h8.trans (by rw[lK CD,hc,ay CF])) sl fr rv rk K)
end
section
set_option tactic.hygienic true
variable{w:cO}{A:bh}{s s':ag}{K:km}{x C g:ao}{ox:Obj}{od:Option Obj}{E:ac->ag->Prop}
noncomputable def xj(K:km)(C:ao)(nm:String)(tb:ac):Bool:=tb==.ref C||match tb with
 |.type T=>subIn K tb (.ref C)==some false&&(((fN K tb (FD nm)).any λfo=>(fN K tb (dunderR nm)).any λro=>(fo.isSome&& !isSeqSlot fo)||(ro.isSome&& !isSeqSlot ro))&&(fN K (.ref C) (dunderR nm)).any λrc=>rc.all λv=>match v with
  |.ref _=>true
  |_=>false)
 |_=>false
theorem RD{nm:String}{b tb:ac}{Q:ac->ag->Prop}(X:K.In s.heap)(I:InstAt s.heap x ox C od)(hb:iG (ah pw w) s.heap (tq b) tb)(hr:xj K C nm tb=true)(hc:Kv K C=true)(hs:fN K (.ref C) (FD nm)=some (some (.ref g)))(hf:oq K (.ref g)=true)
(h:ai (ah pw w) A (bC (.ref g) [.ref x,b]) (FE Q) E s):ai (ah pw w) A (binaryOp1 nm (.ref x) b) (λr s'=> ∃v,r=some v/\Q v s') E s:=by
 refine eH (ksp_first hc) λcd rest w0 hm=>?_;have one:=ksp_try X I hs hf h;have L3:iG (ah pw w) s.heap (fillsNumberSlot (.ref C) nm) true:=fills_K X w0 hm hs;refine ae (I.type.here (ae (hb.here (ae (L3.here ?_)))));by_cases e:(pL C==tb)=true
 ·exact aa (iP e) (ae (au (ae (au (ae (m:=tryMethod (.ref x) _ b) (cQ one (λr s' z=>by
   refine aB z λv bY hq=>?_;subst bY;exact au (az v rfl hq)) λ_ _ e=>e))))))
 ·erw[iN e];cases lQ hr with
  |inl q=>exact absurd (by erw[a5 q];exact beq_self_eq_true _) e
  |inr hr=>cases tb with
   |type T=>
    refine bE λgG hG=>?_;have hr:=aW hr;have h2:=aW hr.2;refine aB (qX h2.1) λfo h3 h4=>aB (qX h4) λro h5 h6=>aB (qX h2.2) λrc h7 h8=>?_;have L4:iG (ah pw w) s.heap (fillsNumberSlot (.type T) nm) true:=h6▸ksp_fillsT X h3 h5;have L5:iG (ah pw w) s.heap (isSubtype (.type T) (.ref C)) false:=looks_subIn X (a5 hr.1);have L6:iG (ah pw w) s.heap (numberSlotInPython (.ref C) nm) true:=ksp_inPy X hs h7 (by
     induction rc using qN with
     |none=>exact .inl rfl
     |some v=>induction v using AZ with
      |ref g=>exact .inr ⟨g,rfl⟩
      |_=>exact ff h8)
    refine hG (ae (L4.here (ae (L5.here (ae (L6.here (ae (au (ae ((yU X h5).here (ae (m:=tryMethod (.ref x) _ b) (cQ one (λr s' z=>?_) λ_ _ e=>e))))))))))));refine aB z λv bY hq=>?_;subst bY;exact au (az v rfl hq)
   |_=>exact ff hr
theorem UT{op:ia}{b tb:ac}{Q:ac->ag->Prop}(X:K.In s.heap)(I:InstAt s.heap x ox C od)(hb:iG (ah pw w) s.heap (tq b) tb)(hr:xj K C op.info.2 tb=true)(hc:Kv K C=true)(hs:fN K (.ref C) (FD op.info.2)=some (some (.ref g)))(hf:oq K (.ref g)=true)
(h:ai (ah pw w) A (bC (.ref g) [.ref x,b]) (FE Q) E s):ai (ah pw w) A (mG op (.ref x) b) Q E s:=by
 have one:=RD X I hb hr hc hs hf h;refine dO (ae (cQ one (λr s' z=>?_) λ_ _ e=>e));refine aB z λv bY hq=>?_;subst bY;exact au hq
noncomputable def NZ(K:km)(C:ao)(nm:String):Bool:=(clsIn K C).any λcd=>cd.mro==[.ref C,.type "object"]&&fN K (.ref C) (dunderI nm)==some none&&fN K (.type "object") (dunderI nm)==some none
theorem acq{op:ia}{b tb:ac}{Q:ac->ag->Prop}(X:K.In s.heap)(I:InstAt s.heap x ox C od)(hb:iG (ah pw w) s.heap (tq b) tb)(hr:xj K C op.info.2 tb=true)(hc:Kv K C=true)(hs:fN K (.ref C) (FD op.info.2)=some (some (.ref g)))(hf:oq K (.ref g)=true)(hi:NZ K C op.info.2=true)
(h:ai (ah pw w) A (bC (.ref g) [.ref x,b]) (FE Q) E s):ai (ah pw w) A (Km op (.ref x) b) Q E s:=by
 have one:=RD X I hb hr hc hs hf h;refine aB (qX hi) λcd w0 hm=>?_;simp only[mI,beq_iff_eq] at hm;obtain⟨⟨m1,m2⟩,m3⟩:=hm;have L1:iG (ah pw w) s.heap (tq (.ref x)) (.ref C):=I.type;have Lm:iG (ah pw w) s.heap (mroOf (.ref C)) cd.mro:=(looks_clsIn X w0).andThen (f:=λcd=>pure cd.mro) .now;have L2:iG (ah pw w) s.heap (typeLookup (.ref C) (dunderI op.info.2)) none:=yU X m2;have L3:iG (ah pw w) s.heap (typeLookup (.type "object") (dunderI op.info.2)) none:=yU X m3;refine dO (ae (L1.here ?_));have fin:ai (ah pw w) A (fillsInplaceSlot (.ref C) op.info.2 (op==.Add)) (λr s'=>r=false/\s'=s) E s:=ae (Lm.here (aa (m1) (aa (List.anyM_cons) (ae (ae (L2.here (au (aa (List.anyM_cons) (ae (ae (L3.here (au (au ⟨rfl,rfl⟩)))))))))))));refine ae (cQ fin (λr s' z=>?_) λ_ _ e=>e);obtain⟨rfl,rfl⟩:=z;refine ae (cQ one (λr s' z=>?_) λ_ _ e=>e);refine aB z λv bY hq=>?_;subst bY;exact au hq
theorem Z8{op:iF}{b tb:ac}{Q:ac->ag->Prop}(hu:A.units<ti)(X:K.In s.heap)(I:InstAt s.heap x ox C od)(hb:iG (ah pw w) s.heap (tq b) tb)(hn:notFirst K C tb=true)(hs:fN K (.ref C) (cmpInfo op).2.1=some (some (.ref g)))(hf:oq K (.ref g)=true)
(h:ai (ah pw w) A (bC (.ref g) [.ref x,b]) (FE Q) E s):ai (ah pw w) A (FF op (.ref x) b) Q E s:=by
 have one:ai (ah pw w) A (tryCompare (.ref x) (cmpInfo op).2.1 b) (λr s'=> ∃v,r=some v/\Q v s') E s:=by
  unfold tryCompare;refine ae (ifBound_K X I hs hf (cQ h (λv s' hv=>?_) λ_ _ e=>e));cases v<;>first|exact hv.elim|exact au (az _ rfl hv)
 unfold FF;simp only[oneThing_ref];refine dO (ae (SG hu (ae (I.type.here (ae (hb.here ?_))))));have go:∀{α:Type} {k:Option ac->Sem α} {R:α->ag->Prop},(∀v s',Q v s'->ai (ah pw w) A (k (some v)) R E s')->ai (ah pw w) A (tryCompare (.ref x) (cmpInfo op).2.1 b>>=k) R E s:=λ{α k R} hk=>
  ae (cQ one (λr s' z=>by refine aB z λv bY hq=>?_;subst bY;exact hk v s' hq) λ_ _ e=>e)
 split
 ·rename_i q;have e:subIn K tb (.ref C)=some false:=by
   rcases lQ hn with e|e
   ·rw[a5 e] at q;simp at q
   ·exact a5 e
  exact ae ((looks_subIn X e).here (go λv s' hq=>au hq))
 ·refine ae (au ?_);simp only[yM,if_false];exact go λv s' hq=>au hq
theorem J_{Q:ac->ag->Prop}(X:K.In s.heap)(I:InstAt s.heap x ox C od)(hs:fN K (.ref C) "__len__"=some (some (.ref g)))(hf:oq K (.ref g)=true)
(h:ai (ah pw w) A.in1 (bC (.ref g) [.ref x]) (λv s'=> ∃n t,v=.int n t/\0<=n/\n<2^63/\Q (.int n s'.toks) {s' with toks:=s'.toks+1}) E s):ai (ah pw w) A (bC (.builtin "len") [.ref x]) Q E s:=by
 refine agb kind_len plain_len entry_len (args_len1 _) (ae (m:=oneArg "len" _) (au (ae (m:=callSpecial? (.ref x) (dw "__len__")) (special_fn X I hs (a5 hf) (cQ h (λr s' hr=>?_) λ_ _ y=>y)))));refine D5 hr λn u bZ h0 h1 hq=>?_;subst bZ;exact ae (dO (au (ae (wL (aa (iN (by lia)) (aa (iN (by lia)) (ae (wpAny_mkInt (au (az _ rfl hq))))))))))
theorem WS{name:Str}{p fget:ao}{rest:List ac}{od:Obj}{Q:ac->ag->Prop}(X:K.In s.heap)(I:InstAt s.heap x ox C (some od))(hg:B1 K C name=true)(hh:Fq K C=true)
(ha:fN K (.ref C) name=some (some (.ref p)))(hn:Kh K (.ref p) "__get__"=some (some (.builtin "property.__get__")))(ht:takesIn K (.ref p)=some true)(hp:recIn K p "property"=some (.ref fget::rest))
(h:eO (ah pw w) A.in1 (.call (.ref fget) ⟨[.ref x],[]⟩) (λr s'=>match r with|.ok (.ret v)=>handedIn v=true/\Q v s'|_=>False) {s with toks:=s.toks+1}):
  ai (ah pw w) A (uI (.ref x) name true) Q No s:=by
 refine get_bind X I (uJ hg).1 (findObj_data (by refine aB (qX hh) λcd hc _=>?_;erw[hc];rfl) ha hn ht) (uJ hg).2 (qY (prop_get (s:={s with toks:=s.toks+1}) X hp (FG h λr s' z=>?_)));rcases r with e|(v|_|_|_)<;>first|exact z.elim|skip
 rename_i v;have z:handedIn v=true/\Q v s':=z;show ai (ah pw w) A (handedOut v) Q No s';exact(handedOut_of z.1).symm▸(au z.2)
theorem aaS{og:Obj}{fd:FuncData}{vals:List ac}{Q:mJ->ag->Prop}(X:K.In s.heap)(I:InstAt s.heap x ox C od)(hox:ox.data=.plain)(hs:fN K (.ref C) "__call__"=some (some (.ref g)))(hf:oq K (.ref g)=true)(ho:K.lookup g=some og)(hd:og.data=.func fd)
(h:eO (ah pw w) A (.call (.ref g) ⟨.ref x::vals,[]⟩) Q s):eO (ah pw w) A (.call (.ref x) ⟨vals,[]⟩) Q s:=by
 exact Fv (ae (Ft I.at_ (hox.symm▸(ae (ae (I.type.here ((yU X hs).here (ae ((bind_fn X _ (a5 hf)).here (ae (ae (Ft (X _ _ ho) (hd.symm▸(au (au ⟨rfl,h⟩)))))))))))))))
end
structure HS(P:cD)(C:Nat)(R:aY):Prop where
 fn:jm P R
 makes:makesIn (KL P) C=true
 init:fN (KL P) (.ref C) "__init__"=some (some (.ref R.addr))
 Y7:typeIn (KL P) (.ref R.addr)=some (.type "function")
section
variable{x y:Pt c}{N C:Nat}{A:Am (d+2)}{O:aK}{v:ac}{a:ao}{R:aY}{vals:List ac}{i:List (Str×PV)×List Str}
noncomputable def Am.Wg(A:Am (d+2)):Am (d+1):=⟨A.A.under (.builtin "type.__call__" ⟨.ref C::vals,kv⟩),A.ok.to A.ok.handled (oS (show 1<=4 by decide)) (oS (show 1<=40 by decide))⟩
theorem Pt.t8{o:Obj}{t:Nat}(hf:o.isFreed=false):bV (x.push o t) x.s.heap.objs.size/\(x.push o t).s.heap.get? x.s.heap.objs.size=some o:=by
 have f:=x.free (bf _) (eQ _);exact⟨⟨f.f,f.h₀,f.hi⟩,ft _ hf⟩
variable(S:∀n,Sd c d (aw O n))
include S
theorem NX{K:ac->ag->Prop}{E:ac->ag->Prop}(ok:HS c.w.params C R)(h:xD O N R C [] [] vs ks=some i)(rv:bt vs x vals)(rk:bN c x.f kv ks)
(k:∀y a V,Le x y->pz c y.f y.s.heap C i.1 i.2 a V->(∀b∈V,bV y b/\x.s.heap.get? b=none)->K (.ref a) y.s):ai (ah pw c.w) A.A (bC (.ref C) vals kv) K E x.s:=by
 have p1:=x.t8 (o:=yV) (t:=x.s.toks) rfl;have p2:=(x.push yV x.s.toks).t8 (o:=instObj C x.s.heap.objs.size) (t:=x.s.toks) rfl;have le:Le x ((x.push yV x.s.toks).push (instObj C x.s.heap.objs.size) x.s.toks):=(x.cG _).trans (Pt.cG _ _);have f1:=p1.1.le (Pt.cG (t:=x.s.toks) (x.push yV x.s.toks) λ_ _=>c5 (instObj C x.s.heap.objs.size)) ⟨_,p1.2⟩;have e1:=c5 (instObj C x.s.heap.objs.size) p1.2;have sz:(x.s.heap.push yV).objs.size=x.s.heap.objs.size+1:=oy ..;have n2:x.s.heap.get? (x.s.heap.objs.size+1)=none:=x.top (iH _);have hV:∀b∈[x.s.heap.objs.size+1,x.s.heap.objs.size],x.s.heap.get? b=none:=λb m=>(bw m).elim (λe=>e▸n2) λm=>cY m▸eQ _;refine qY (make_core (makes_of x.cT ok.makes) (yU x.cT ok.init) (λself=>bind_fn x.cT self ok.Y7) (.inl rfl) ?_);rw[show(x.push yV x.s.toks).s.heap.objs.size=x.s.heap.objs.size+1 from sz] at p2;refine FG (R9 (A:=A.Wg) (x:=(x.push yV x.s.toks).push (instObj C x.s.heap.objs.size) x.s.toks) (V:=[x.s.heap.objs.size+1,x.s.heap.objs.size]) (Q:=λr s'=>r=.ok (.ret .none)/\K (.ref (x.s.heap.objs.size+1)) s') S ok.fn h ⟨_,[],0,[],[],p2.2,e1,rfl,⟨rfl,rfl⟩,rfl,by simp,wJ⟩
  (λb m=>(bw m).elim (λe=>e▸p2.1) λm=>cY m▸f1) (rv.mono le.sub) (rk.mono le.sub) λy V' l sl mV fr=>⟨rfl,k y _ V' (br.le (cH.trans le.st l) hV) sl λb m=>⟨fr b m,(mV b m).elim (hV b) λn=>le.e.back (cN (fr b m).hi) n⟩⟩) λr s' z=>by
  obtain⟨rfl,z⟩:=z;exact⟨rfl,z⟩
omit S in
theorem Wz(le:Le x y)(sl:pz c y.f y.s.heap C fs ow a V)(hV:∀b∈V,bV y b/\x.s.heap.get? b=none):∃w:Pt c,Le x w/\w.s=y.s/\Rd (.inst C fs) w (.ref a):=by
 classical
 have sub:Sub y.f (λb=>if b∈V then y.s.heap.get? b else y.f b):=λb o e=>(iN λm=>nS ((hV b m).1.f.symm.trans e)).trans e;exact(cz ⟨y.s,λb=>if b∈V then y.s.heap.get? b else y.f b,y.keep,y.tab,λa o e=>sub a o (y.K a o e),λa o e=>d6 e (λm _=>cN (hV a m).1.hi) λ_=>y.nt a o,λa o e=>d6 e (λ_ e=>e) λ_=>y.hs a o⟩ ⟨le.e,λa o e=>sub a o (le.sub a o e),λa o e=>d6 e (λm _=>.inr (hV a m).2) λ_=>le.new a o⟩ rfl (HK (v:=.a7 C fs ow) (az a rfl sl) sub λ_ b o m e=>(iP m).trans e))
theorem V4(ok:HS c.w.params C R)(h:xD O N R C [] [] vs ks=some i)(rv:bt vs x vals)(rk:bN c x.f kv ks):aE A (bC (.ref C) vals kv) x (Rd (.inst C i.1)):=λQ E K=>NX S ok h rv rk λy a V le sl hV=>cP (Wz le sl hV) λw l e r=>e▸K _ w l r
end
end
def vw:aY:=⟨30,cm 2,"CandidateSet",(.ref 23),m1,(.ref 29),[.any,.none],[]⟩
def AU:aY:=⟨37,cm 3,"sorted_committees",.none,m1,(.ref 36),[],[]⟩
def qI:aY:=⟨45,cm 4,"str_set_of_candidates",(.ref 38),m1,(.ref 44),[.none],[]⟩
def IM:aY:=⟨50,cm 5,"combinations",.none,m1,(.ref 49),[],[]⟩
def nV:aY:=⟨65,c7 6 0,"Fraction.__init__",(.ref 58),m1,(.ref 64),[.int 0,.int 1],[]⟩
def AB:aY:=⟨107,c7 6 6,"Fraction.__add__",.none,m1,(.ref 106),[],[]⟩
def Hh:aY:=⟨135,c7 6 10,"Fraction.__mul__",.none,m1,(.ref 134),[],[]⟩
def IE:aY:=⟨163,c7 6 14,"Fraction.__eq__",.none,m1,(.ref 162),[],[]⟩
def IA:aY:=⟨170,c7 6 15,"Fraction.__lt__",.none,m1,(.ref 169),[],[]⟩
def AE:aY:=⟨184,c7 6 17,"Fraction.__gt__",.none,m1,(.ref 183),[],[]⟩
def Hu:aY:=⟨191,c7 6 18,"Fraction.__ge__",.none,m1,(.ref 190),[],[]⟩
def A':aY:=⟨205,cm 7,"total",.none,m1,(.ref 204),[],[]⟩
def aej:aY:=⟨242,c7 10 0,"MarginalScoreFct.__init__",(.ref 235),m3,(.ref 241),[.none],[]⟩
def XH:aY:=⟨249,c7 10 1,"MarginalScoreFct.__call__",.none,m3,(.ref 248),[],[]⟩
def r_:aY:=⟨264,cm 11,"get_marginal_scorefct",(.ref 257),m3,(.ref 263),[.none],[]⟩
def qi:aY:=⟨271,cm 12,"thiele_score",.none,m3,(.ref 270),[],[]⟩
def ZQ:aY:=⟨285,cm 14,"pav_score_fct",.none,m3,(.ref 284),[],[]⟩
def ac5:aY:=⟨292,cm 15,"adams_score_fct",.none,m3,(.ref 291),[],[]⟩
def afX:aY:=⟨299,cm 16,"slav_score_fct",.none,m3,(.ref 298),[],[]⟩
def adQ:aY:=⟨313,cm 18,"cc_score_fct",.none,m3,(.ref 312),[],[]⟩
def Bi:aY:=⟨327,cm 20,"marginal_thiele_scores_add",.none,m3,(.ref 326),[],["marginal"]⟩
def Yv:aY:=⟨344,c7 23 3,"Rule.__init__",.none,m2,(.ref 343),[],[]⟩
def h_:aY:=⟨351,c7 23 4,"Rule.fastest_available_algorithm",.none,m2,(.ref 350),[],[]⟩
def v8:aY:=⟨359,c7 23 5,"Rule.verify_compute_parameters",(.ref 352),m2,(.ref 358),[.none],[]⟩
def Bf:aY:=⟨441,cm 28,"compute_thiele_method",(.ref 434),m2,(.ref 440),[.str "fastest",.bool false,.none,.bool false],[]⟩
def A1:aY:=⟨449,cm 29,"_thiele_methods_bruteforce",(.ref 442),m2,(.ref 448),[.none],["opt_committees"]⟩
def AL:aY:=⟨457,cm 30,"_thiele_methods_branchandbound",(.ref 450),m2,(.ref 456),[.none],["best_committees","part_coms"]⟩
def Bn:aY:=⟨465,cm 31,"compute_pav",(.ref 458),m2,(.ref 464),[.str "fastest",.bool false,.none,.bool false],[]⟩
def BN:aY:=⟨473,cm 32,"compute_slav",(.ref 466),m2,(.ref 472),[.str "fastest",.bool false,.none,.bool false],[]⟩
def Bg:aY:=⟨478,cm 33,"_adams_bruteforce",.none,m2,(.ref 477),[],["best_committees","final_committees"]⟩
def Az:aY:=⟨486,cm 34,"compute_adams",(.ref 479),m2,(.ref 485),[.str "fastest",.bool false,.none],[]⟩
def zx:aY:=⟨491,cm 35,"_seq_thiele_resolute",.none,m2,(.ref 490),[],["committee"]⟩
def RR:aY:=⟨504,c7 37 0,"Profile.__init__",(.ref 499),m4,(.ref 503),[.none],[]⟩
def Ho:aY:=⟨511,c7 37 1,"Profile.num_cand",.none,m4,(.ref 510),[],[]⟩
def EJ:aY:=⟨526,c7 37 3,"Profile.__len__",.none,m4,(.ref 525),[],[]⟩
def AI:aY:=⟨533,c7 37 4,"Profile._unique_voter",.none,m4,(.ref 532),[],[]⟩
def wb:aY:=⟨540,c7 37 5,"Profile.add_voter",.none,m4,(.ref 539),[],[]⟩
def rU:aY:=⟨632,c7 38 0,"Voter.__init__",(.ref 625),m4,(.ref 631),[.int 1,.none],[]⟩
def Iu:aY:=⟨675,cm 41,"compute",(.ref 668),m5,(.ref 674),[.none,.bool true],[]⟩
def ϧ:aY:=⟨682,cm 42,"apply_threshold",.none,m5,(.ref 681),[],[]⟩
def xu:aY:=⟨694,cm 44,"divisor",(.ref 689),m5,(.ref 693),[.bool true],["representatives"]⟩
def BO:aY:=⟨723,cm 49,"_law_shared",.none,(st "law_jm0010_01" 1119),(.ref 722),[],["given"]⟩
def Bh:List (Str×aY):=[("CandidateSet",vw),("sorted_committees",AU),("str_set_of_candidates",qI),("combinations",IM),("total",A'),("get_marginal_scorefct",r_),
 ("thiele_score",qi),("pav_score_fct",ZQ),("adams_score_fct",ac5),("slav_score_fct",afX),("cc_score_fct",adQ),("marginal_thiele_scores_add",Bi),
 ("compute_thiele_method",Bf),("_thiele_methods_bruteforce",A1),("_thiele_methods_branchandbound",AL),("compute_pav",Bn),("compute_slav",BN),
 ("_adams_bruteforce",Bg),("compute_adams",Az),("_seq_thiele_resolute",zx),("compute",Iu),("apply_threshold",ϧ),("divisor",xu),("_law_shared",BO)]
def QA:List (Str×Nat×aY):=[("Fraction",dm,nV),("MarginalScoreFct",qz,aej),("Rule",cK,Yv),("Voter",iy,rU)]
def EX:List (Str×Nat×aY):=("Profile",bx,RR)::QA
def RA:List ((Nat×Str)×aY):=[((qz,"__call__"),XH),((cK,"fastest_available_algorithm"),h_),((cK,"verify_compute_parameters"),v8),((bx,"_unique_voter"),AI)]
def E0:List ((Nat×Str)×aY):=((bx,"add_voter"),wb)::RA
def C5:List (ia×aY):=[(.Add,AB),(.Mult,Hh)]
def wd:List (iF×aY):=[(.Eq,IE),(.Lt,IA),(.Gt,AE),(.GtE,Hu)]
def Di:List aY:=[EJ,Ho]++(Bh.map (·.2)++(EX.map (·.2.2)++(E0.map (·.2)++(C5.map (·.2)++wd.map (·.2)))))
def D4:PV->Bool
 |.int _=>true
 |.inst c _=>c==dm
 |_=>false
noncomputable def PV.Dk:PV->Option (Nat×List (Str×PV))
 |.inst c fs=>some (c,fs)
 |_=>aP
def E3(p:PV):Option PV:=if p.iU=true then none else some p
def next(N:Nat)(O:aK):aK where
 fn z vs ks:=qF (Bh.lookup z) (λR=>bm O N R vs ks)<|qF (QA.lookup z) (λq=>(xD O N q.2 q.1 [] [] vs ks).map λr=>.inst q.1 r.1)<|
  if z=("len":Str)/\ks.isEmpty=true then(pC vs).bind λv=>v.Dk.bind λi=>if i.1=bx then(bm O N EJ [v] []).bind λp=>p.ei.bind λj=>if 0<=j/\j<2^63 then some (.int j) else none else none else none
 bM k m vs ks:=(RA.lookup (k,m)).bind λR=>bm O N R vs ks
 attr k z v:=if k=bx/\z=("num_cand":Str) then(bm O N Ho [v] []).bind E3 else none
 bin op a b:=a.Dk.bind λi=>if i.1=dm/\D4 b=true then(C5.lookup op).bind λR=>(bm O N R [a,b] []).bind E3 else none
 cmp op a b:=a.Dk.bind λi=>if i.1=dm/\D4 b=true then(wd.lookup op).bind λR=>(bm O N R [a,b] []).bind PV.yc else none
 make C vs ks:=if C=("Profile":Str) then(xD O N RR bx [] [] vs ks).map λr=>(bx,r.1,r.2) else none
 mw k fs ow m vs:=if k=bx/\m=("add_voter":Str)/\(ak fs m).isNone=true then(xD O N wb bx fs ow vs []).bind λr=>if r.2=ow then some r.1 else none else none
 nW z vs ks:=(Bh.lookup z).any λR=>MR O N R vs ks
 gens:=true
noncomputable def Bt:aK:=⟨λ_ _ _=>none,λ_ _ _ _=>none,λ_ _ _=>none,λ_ _ _=>none,λ_ _ _=>none,λ_ _ _=>none,λ_ _ _ _ _=>none,λ_ _ _=>false,true⟩
def aI(N:Nat):Nat->aK:=Nat.rec Bt λ_=>next N
theorem xn{α β:Type}[BEq α][LawfulBEq α]{l:List (α×β)}{x:α}{b:β}(h:l.lookup x=some b):(x,b)∈l:=by
 induction l with
 |nil=>exact nS h
 |cons q r ih=>
  rw[show(q::r).lookup x=_ from Fu] at h;cases e:x==q.1 with
  |true=>rw[e] at h;cases ay h;erw[a5 e];exact .head _
  |false=>rw[e] at h;exact .tail _ (ih h)
theorem abB(P:cD):Di.map (λR=>(KL P).lookup R.addr)=Di.map λR=>some (ch R.st R.qual R.dflt R.pm R.code [] .none):=⋯
theorem abI(P:cD):Di.all (QW (KL P))=true:=⋯
theorem wq(P:cD){R:aY}(m:R∈Di):jm P R:=acz (F9.mp (abB P) R m) (b7 (abI P) R m)
section
variable{P:cD}{q:Str×aY}{r:Str×Nat×aY}{m:(Nat×Str)×aY}{o:ia×aY}{k:iF×aY}
theorem QF(h:q∈Bh):jm P q.2:=wq P (fE _ (tn _ (qW (f:=(·.2)) h)))
theorem afx(h:r∈EX):jm P r.2.2:=wq P (fE _ (fE _ (tn _ (qW (f:=(·.2.2)) h))))
theorem Mh(h:m∈E0):jm P m.2:=wq P (fE _ (fE _ (fE _ (tn _ (qW (f:=(·.2)) h)))))
theorem adH(h:o∈C5):jm P o.2:=wq P (fE _ (fE _ (fE _ (fE _ (tn _ (qW (f:=(·.2)) h))))))
theorem Nl(h:k∈wd):jm P k.2:=wq P (fE _ (fE _ (fE _ (fE _ (fE _ (qW (f:=(·.2)) h))))))
end
theorem Oi(P:cD):Bh.all (λq=>di P q.1==some (.ref q.2.addr)&&keepIn (KL P) (.ref q.2.addr))=true:=⋯
theorem acO(P:cD):EX.all (λq=>(di P q.1==some (.ref q.2.1)&&keepIn (KL P) (.ref q.2.1))&&(makesIn (KL P) q.2.1&&(fN (KL P) (.ref q.2.1) "__init__"==some (some (.ref q.2.2.addr))&&typeIn (KL P) (.ref q.2.2.addr)==some (.type "function"))))=true:=⋯
theorem NP(P:cD):E0.all (λq=>vH (KL P) q.1.1 q.1.2 q.2.addr)=true:=⋯
theorem afI(P:cD):C5.all (λq=>(xj (KL P) dm q.1.info.2 (.type "int")&&xj (KL P) dm q.1.info.2 (.ref dm))&&(Kv (KL P) dm&&(fN (KL P) (.ref dm) (FD q.1.info.2)==some (some (.ref q.2.addr))&&(oq (KL P) (.ref q.2.addr)&&NZ (KL P) dm q.1.info.2))))=true:=⋯
theorem Oy(P:cD):wd.all (λq=>(notFirst (KL P) dm (.type "int")&&notFirst (KL P) dm (.ref dm))&&(fN (KL P) (.ref dm) (cmpInfo q.1).2.1==some (some (.ref q.2.addr))&&oq (KL P) (.ref q.2.addr)))=true:=⋯
theorem acV(P:cD):(fN (KL P) (.ref bx) "__len__"==some (some (.ref EJ.addr))&&oq (KL P) (.ref EJ.addr))=true:=⋯
theorem aa'(P:cD):(B1 (KL P) bx "num_cand" &&(Fq (KL P) bx&&(fN (KL P) (.ref bx) "num_cand"==some (some (.ref 512))&&(Kh (KL P) (.ref 512) "__get__"==some (some (.builtin "property.__get__"))&&(takesIn (KL P) (.ref 512)==some true&&(recIn (KL P) 512 "property").any λl=>l.head?==some (.ref Ho.addr))))))=true:=⋯
theorem Pg{P:cD}{q:Str×Nat×aY}(h:q∈EX):(di P q.1=some (.ref q.2.1)/\keepIn (KL P) (.ref q.2.1)=true)/\HS P q.2.1 q.2.2:=by
 obtain⟨a,b⟩:=aW (b7 (acO P) _ h);obtain⟨a,a'⟩:=aW a;obtain⟨b,b'⟩:=aW b;obtain⟨b',b''⟩:=aW b';exact⟨⟨a5 a,a'⟩,afx h,b,a5 b',a5 b''⟩
section
variable{c:Cx}{x y:Pt c}{d N k:Nat}{A:Am (d+3)}{O:aK}{v u:ac}{a:ao}{z m:Str}{vs:List PV}{ks fs:List (Str×PV)}{p q:PV}{b:Bool}{us:List ac}
@[elab_as_elim] theorem YE{m:PV->Prop}{i:Nat×List (Str×PV)}(h:p.Dk=some i)(K:m (.inst i.1 i.2)):m p:=by
 induction p using dh with
 |inst=>cases ay h;exact K
 |_=>exact nS h
@[elab_as_elim] theorem PP{m:PV->Prop}(h:E3 p=some q)(K:q.iU=false->m q):m p:=fU h λn h=>by
 cases ay h;exact K (n3 n)
theorem Jw{Q:ac->ag->Prop}{s:ag}(r:Rd p x v)(h:p.iU=false)(q:Q v s):FE Q v s:=by
 revert q;induction p using dh with
 |none=>exact qC r id
 |bool=>exact lH r id
 |int=>exact bU r λ_=>id
 |str=>exact jh r λ_=>id
 |tup=>exact iX r λ_ _ _=>id
 |list=>exact dY r λ_ _ _=>id
 |set=>exact ly r λ_ _ _=>id
 |d8=>exact p9 r λ_ _ _ _=>id
 |inst=>exact sV r λ_ _ _ _=>id
 |any=>exact tf h
theorem Mg(r:Rd q x u)(h:D4 q=true):∃tb,iG (ah pw c.w) x.s.heap (tq u) tb/\(tb=.type "int"\/tb=.ref dm):=by
 induction q using dh with
 |int=>exact bU r λ_=>(az _ (.of_pure rfl) (.inl rfl))
 |inst k fs=>
  cases a5 (h:(k==dm)=true);exact m8 r λI _ _ _=>(az _ I.type (.inr rfl))
 |_=>exact ff h
variable(S:∀n,Sd c d (aw O n))
include S
theorem abv(h:(next N O).fn z vs ks=some p):∃g,di c.w.params z=some g/\oO c.w.params g/\qc c (d+3) g vs ks p:=by
 refine ux h (λR e h=>?_) λ_ h=>ux h (λq e h=>fH h λr h=>?_) λ_ h=>aL h λe g=>?_
 ·have m:=xn e;have g:=aW (b7 (Oi c.w.params) _ m);exact(cz _ (a5 g.1) (.inr (.inr g.2)) (λ{A x us kv} rv rk=>xI (A:=A.mono (e:=d+1) (by lia)) S (QF m) h rv rk))
 ·obtain⟨rfl,e⟩:=e;cases jF e;refine(cz (.builtin "len") ⋯ (.inl ⟨_,rfl⟩) (λ{A x us kv} rv rk=>?_));revert rv;refine aj g λv h1 g1=>qf h1 λrv=>?_;revert rv;refine aj g1 λi h2 g2=>?_;revert g2;refine YE h2 λg2=>aL g2 λhc g3=>aj g3 λp h3 g4=>aj g4 λj h4 g5=>aL g5 λhj g6=>?_;cases ay g6;revert h3;refine eA h4 λh3 rv=>eC rv λr rv=>iR rv (sR rk λQ E K=>?_);have z:=aW (acV c.w.params);refine m8 r λI _ _ r'=>J_ x.cT (hc▸I) (a5 z.1) z.2 (xI (A:=(A.mono (e:=d+2) (by lia)).in1) S (wq _ (.head _)) h3 (.cons r' .nil) .nil _ _ λv y le r=>bU r λt=>(uw _ _ rfl hj.1 hj.2 (K _ (y.tok _) (le.trans (y.cG _)) .int)))
 ·have g:=Pg (P:=c.w.params) (.tail _ (xn e));exact(cz _ g.1.1 (.inr (.inr g.1.2)) (λ{A x us kv} rv rk=>V4 (A:=A.mono (e:=d+2) (by lia)) S g.2 h rv rk))
theorem Oo(h:(next N O).bM k m vs ks=some p):∃R:aY,vH (KL c.w.params) k m R.addr=true/\jm c.w.params R/\bm O N R vs ks=some p:=aj h λR e h=>
 have m:=List.mem_cons_of_mem _ (xn e)
 (cz R (b7 (NP c.w.params) _ m) (Mh m) h)
theorem abk(h:(next N O).bM k "__call__" (.inst k fs::vs) []=some p)(r:Rd (.inst k fs) x v)(rv:bt vs x us):aE A (bC v us []) x (Rd p):=by
 refine bE λgG hG=>cP (Oo S h) λR hm ok hr=>fb (AS (aW hm).1) λh1 h2 h3=>?_;obtain⟨name,args,body,dl,rt,tp,scope,ts,bd,pos,e⟩:=Jb ok.plain;have ha:=e▸ok.at_;have r':=r;refine hG ?_;revert r';exact sV r λ{a dx n es vs} i1 i2 _ _ r' Q E K=>qY (aaS (ox:=l4 k dx) (od:=some (uH es n)) x.cT ⟨x.hs _ _ i1,rfl,rfl,x.hs _ _ i2⟩ rfl (a5 h2) h3 ha rfl (I5 (A:=A.mono (e:=d+1) (by lia)) S ok hr (.cons r' rv) .nil λy v l r=>K v y l r))
theorem ξ(h:(next N O).attr k z (.inst k fs)=some p)(r:Rd (.inst k fs) x v):aE A (uI v z true) x (Rd p):=aL h λe h=>aj h λq h1 h2=>by
 obtain⟨rfl,rfl⟩:=e;revert h1;refine PP h2 λhq h1=>bE λgG hG=>dS (aW (aa' c.w.params)) λz1 z=>dS (aW z) λz2 z=>dS (aW z) λz3 z=>dS (aW z) λz4 z=>dS (aW z) λz5 z=>aB (qX z) λl z6 z7=>hG ?_;induction l using bO with
 |nil=>exact ff z7
 |cons a' rest=>
  cases ay (a5 z7);exact m8 r λI _ _ r' Q E K=>cQ (WS x.cT I z1 z2 (a5 z3) (a5 z4) (a5 z5) z6 (I5 (A:=(A.mono (e:=d+2) (by lia)).in1) (x:=x.tok (x.s.toks+1)) S (wq _ (.tail _ (.head _))) h1 (.cons r' .nil) .nil λy v l r=>⟨NF r hq,K v y ((x.cG _).trans l) r⟩)) (λ_ _ z=>z) λ_ _ z=>z.elim
theorem aa6{op:ia}(h:(next N O).bin op (.inst k fs) q=some p)(r:Rd (.inst k fs) x v)(rq:Rd q x u):aE A (mG op v u) x (Rd p)/\aE A (Km op v u) x (Rd p):=aL h λe h=>aj h λR e1 h=>aj h λp' h1 h2=>by
 obtain⟨rfl,hn⟩:=e;revert h1;refine PP h2 λhq h1=>?_;have m:=xn e1;obtain⟨z1,z⟩:=aW (b7 (afI c.w.params) _ m);obtain⟨z2,z⟩:=aW z;obtain⟨z3,z⟩:=aW z;obtain⟨z4,z5⟩:=aW z;refine aB (Mg rq hn) λtb L1 ht=>?_;have hr:xj (KL c.w.params) dm op.info.2 tb=true:=ht.elim (λe=>e▸(aW z1).1) λe=>e▸(aW z1).2;refine m8 r λI _ _ r'=>?_;have k:=xI (A:=A.mono (e:=d+1) (by lia)) S (adH m) h1 (.cons r' (.cons rq .nil)) .nil;exact⟨λQ E K=>UT x.cT I L1 hr z2 (a5 z3) z4 (k _ _ λv y l r=>Jw r hq (K v y l r)),λQ E K=>acq x.cT I L1 hr z2 (a5 z3) z4 z5 (k _ _ λv y l r=>Jw r hq (K v y l r))⟩
omit S in
theorem afN{op:iF}{R:aY}(m:(op,R)∈wd):∀a b:ac,jM op a b=FF op a b:=by
 simp only[wd,jN,Prod.mk.injEq,eX,or_false] at m;rcases m with⟨rfl,_⟩|⟨rfl,_⟩|⟨rfl,_⟩|⟨rfl,_⟩<;>exact λ_ _=>rfl
theorem OX{op:iF}(h:(next N O).cmp op (.inst k fs) q=some b):∃R:aY,(op,R)∈wd/\k=dm/\D4 q=true/\bm O N R [.inst k fs,q] []=some (.bool b):=aL h λe h=>aj h λR e1 h=>aj h λp' h1 h2=>(vn R (xn e1) e.1 e.2 (Eo (m:=λp=>_=some p->_=some (PV.bool b)) h2 id h1))
theorem aeT{op:iF}(h:(next N O).cmp op (.inst k fs) q=some b)(r:Rd (.inst k fs) x v)(rq:Rd q x u):aE A (jM op v u) x (Rd (.bool b)):=λQ E K=>by
 refine kU (OX S h) λR m bZ hn h1=>?_;subst bZ;obtain⟨z1,z⟩:=aW (b7 (Oy c.w.params) _ m);have z:=aW z;refine aB (Mg rq hn) λtb L1 ht=>?_;have hr:notFirst (KL c.w.params) dm tb=true:=ht.elim (λe=>e▸(aW z1).1) λe=>e▸(aW z1).2;rw[afN m];exact m8 r λI _ _ r'=>Z8 (A.room (n:=0) (by lia)) x.cT I L1 hr (a5 z.1) z.2 (xI (A:=A.mono (e:=d+1) (by lia)) S (Nl m) h1 (.cons r' (.cons rq .nil)) .nil _ _ λv y l r=>Jw r rfl (K v y l r))
theorem U0:cg c (next N O) (d+3) where
 fn:=abv S
 bM h _:=cP (Oo S h) λR hm ok hr=>(az _ hm (λ{A x us kv} rv rk=>xI (A:=A.mono (e:=d+1) (by lia)) S ok hr rv rk))
 Ao h _ _ _ _:=abk S h
 attr h _ _ _ _:=ξ S h
 bin h _ _ _ _:=aa6 S h
 cmp h _ _ _ _:=aeT S h
 lt h:=by
  refine kU (OX S h) λR m bZ hn h1=>?_;subst bZ;have z:=aW (aW (b7 (Oy c.w.params) _ m)).2;exact(cz _ (a5 z.1) z.2 (λ{A x v u} r rq=>xI (A:=A.mono (e:=d+1) (by lia)) S (Nl m) h1 (.cons r (.cons rq .nil)) .nil))
theorem ab7:hH c (next N O) (d+3) where
 mw h:=aL h λe g=>aj g λr h1 g1=>aL g1 λe1 g2=>by
  obtain⟨rfl,rfl,hk⟩:=e;cases ay g2;have m:((bx,("add_voter":Str)),wb)∈E0:=.head _;exact(cz _ (b7 (NP c.w.params) _ m) (Gb.mp hk) (λ{A x a V v K E} sl fr rq k=>qY (R9 (A:=A.mono (e:=d+1) (by lia)) S (Mh m) h1 sl fr (.cons rq .nil) .nil λy V' l sl mV fr=>k _ y V' l (e1▸sl) mV fr)))
 make h:=aL h λe h=>by
  refine aB (tz.mp h) λr h1 bZ=>?_;subst bZ;have g:=Pg (P:=c.w.params) (.head _);exact(cz _ (e▸g.1.1) (.inr (.inr g.1.2)) (λ{A x us kv K E} rv rk k=>NX (A:=A.mono (e:=d+2) (by lia)) S g.2 h1 rv rk k))
 nW h:=by
  refine aB (qX h) λR e h=>?_;have m:=xn e;have g:=aW (b7 (Oi c.w.params) _ m);exact(cz _ (a5 g.1) (.inr (.inr g.2)) (λ{A x us kv l K E} rv rk hl hi k=>Wv (A:=A.mono (e:=d+1) (by lia)) S (QF m) h rv rk hl hi k))
omit S
theorem Z3:cg c Bt d:=⟨λh=>nS h,λh=>nS h,λh=>nS h,λh=>nS h,λh=>nS h,λh=>nS h,λh=>nS h⟩
theorem Wb:hH c Bt d:=⟨λh=>nS h,λh=>nS h,λh=>ff h⟩
end
section
variable{n k x:Nat}{l m:List Nat}{P:cD}{o:Obj}{t to:a8}{a:ao}{s:ag}{w:cO}{A:bh}{E:ac->ag->Prop}{h:am}
section
set_option tactic.hygienic true
noncomputable def oH:Nat->Nat->List (List Nat)
 |_,0=>[[]]
 |k,n+1=>oH (k+1) n++(oH (k+1) n).map (k:: ·)
theorem RF(n:Nat):∀{k:Nat} {l:List Nat},l.Pairwise (· < ·)->(∀x∈l,k<=x/\x<k+n)->l∈oH k n:=by
 induction n with
 |zero=>
  intro k l _ h;induction l using bO with
  |nil=>exact .head _
  |cons a l=>exact absurd (h a (.head _)).2 (gN (h a (.head _)).1)
 |succ n ih=>
  intro k l p h;have up:∀{l:List Nat},l.Pairwise (· < ·)->(∀x∈l,k<x/\x<k+(n+1))->l∈oH (k+1) n:=λp h=>ih p λx m=>⟨(h x m).1,i6 (h x m).2 (pP k n 1)⟩;induction l using bO with
  |nil=>exact tn _ (up p λx m=>mN m)
  |cons a l=>
   have p':=mj p;have ha:=h a (.head _);by_cases e:a=k
   ·subst e;exact fE _ (qW (up p'.2 λx m=>⟨p'.1 x m,(h x (.tail _ m)).2⟩))
   ·have la:=pR ha.1 (gV e);exact tn _ (up p λx m=>⟨(bw m).elim (λe=>e▸la) λm=>eN la (p'.1 x m),(h x m).2⟩)
theorem Eb{a:Nat}(p:(a::l).Pairwise (· < ·))(h:x∈a::l):a<=x:=(bw h).elim (λe=>aD e.symm) λm=>cy ((mj p).1 x m)
theorem t5(p:l.Pairwise (· < ·))(q:m.Pairwise (· < ·))(h:∀x,x∈l↔x∈m):l=m:=by
 induction l generalizing m with
 |nil=>induction m using bO with
  |nil=>rfl
  |cons b m=>nomatch (h b).mpr (.head _)
 |cons a l ih=>induction m using bO with
  |nil=>nomatch (h a).mp (.head _)
  |cons b m=>
   obtain rfl:=mK (Eb p ((h b).mpr (.head _))) (Eb q ((h a).mp (.head _)));have p':=mj p;have q':=mj q;exact af _ (ih p'.2 q'.2 λx=>⟨λk=>(bw ((h x).mp (.tail _ k))).elim (λe=>absurd (p'.1 x k) (e▸cV _)) id,λk=>(bw ((h x).mpr (.tail _ k))).elim (λe=>absurd (q'.1 x k) (e▸cV _)) id⟩)
theorem pj:x∈fA n l↔x=n\/x∈l:=by
 induction l with
 |nil=>exact jN
 |cons m r ih=>
  unfold fA;by_cases a:n<m
  ·erw[iP a];exact jN
  ·erw[iN a];by_cases b:n=m
   ·erw[iP b];exact⟨.inr,λh=>h.elim (λe=>e▸b▸ .head _) id⟩
   ·rw[iN b,jN,ih,jN];exact or_left_comm
theorem rK(p:l.Pairwise (· < ·)):(fA n l).Pairwise (· < ·):=by
 induction l with
 |nil=>exact Ga.mpr ⟨λ_ h=>(nomatch h),.nil⟩
 |cons m r ih=>
  have p':=mj p;unfold fA;by_cases a:n<m
  ·erw[iP a];exact Ga.mpr ⟨λx h=>ba a (Eb p h),p⟩
  ·erw[iN a];by_cases b:n=m
   ·erw[iP b];exact p
   ·erw[iN b];exact Ga.mpr ⟨λx h=>(pj.mp h).elim (λe=>e▸pR (cZ a) (gV b)) (p'.1 x),ih p'.2⟩
theorem Z2(p:l.Pairwise (· < ·))(m:x∈l):fA x l=l:=t5 (rK p) p λy=>pj.trans ⟨λh=>h.elim (λe=>e▸m) id,.inr⟩
def UW(l:List Nat)(x:Nat):Bool:=l.contains x||(decide (pS l.toArray x<=l.length)&&(l.take (pS l.toArray x)++x::l.drop (pS l.toArray x)==fA x l)&&(l.toArray[pS l.toArray x]? !=some x))
theorem abM:(oH 0 6).all (λl=>(ax 6).all λx=>UW l x)=true:=⋯
noncomputable def JR(m:Nat)(l:List Nat):Bool:=(SH m 0 0 true true (l.map (λn:Nat=>(n:Int))).toArray).any λt=>t.1.place==l.toArray&&t.2==(ax l.length).toArray
theorem Ϟ:[7,15,31].all (λm=>(oH 0 6).all λl=>JR m l)=true:=⋯
theorem Yg:(ax 6).all (λn=>uU (n:Int)==(n:Int))=true:=⋯
theorem Hy{m:Nat}{l:List Nat}{fi mv:Nat}{le pl:Bool}(h:JR m l=true):SH m fi mv le pl (l.map (λn:Nat=>(n:Int))).toArray=some ({mask:=m,place:=l.toArray,dummies:= #[],finger:=fi,led:=le,moves:=mv,plain:=pl},(ax l.length).toArray):=by
 refine aB (qX h) λt h1 h2=>?_;obtain⟨h2,h3⟩:=aW h2;unfold SH at h1⊢;refine aj h1 λow e h4=>aa (e) ?_;obtain rfl:=ay h4;have h2:=a5 h2;have h3:=a5 h3;dsimp only at h2 h3;simp only[Option.bind_eq_bind,Sl,Option.pure_def,h2,h3]
def cU(P:cD)(l:List Nat)(o:Obj):Prop:=∃es n t,o=dH es n t/\bS es.toList l/\eS P l t
section
variable{es d0:List (Int×ac)}
theorem eS.sub(h:eS P l t):l∈oH 0 6:=RF 6 h.up λx m=>⟨cu _,i6 (h.small x m) (f5 6).symm⟩
theorem eS.len(h:eS P l t):l.length<=6:=CP h.up h.small
theorem eS.lay(h:eS P l t){m:Nat}(hm:m=7\/m=15\/m=31):JR m l=true:=b7 (b7 Ϟ m (by rcases hm with rfl|rfl|rfl<;>decide)) l h.sub
theorem DE(h:n<6):uU (n:Int)=(n:Int):=a5 (b7 Yg n (dJ h))
theorem bS.NA(h:bS es l)(hs:∀x∈l,x<6):ElemsOf (uV pw w) es:=by
 induction l generalizing es with
 |nil=>cases(h:es=[]);exact λ_ m=>mN m
 |cons n l ih=>
  obtain⟨tk,r,rfl,h⟩:=h;exact λe m=>(bw m).elim (λq=>q▸⟨(az _ (Kw _ _ _ _) ((DE (hs _ (.head _))).symm)),rfl⟩) λm=>ih h (λx hx=>hs x (.tail _ hx)) e m
theorem bS.mem(h:bS es l)(k:Int):(∃e∈es,(uV pw w).is k e.2=true)↔∃n∈l,(n:Int)=k:=by
 induction l generalizing es with
 |nil=>cases(h:es=[]);simp
 |cons n l ih=>
  obtain⟨tk,r,rfl,h⟩:=h;have e0:(uV pw w).is k (.int (n:Int) tk)=true↔(n:Int)=k:=by
   show ac.isInt k (.int (n:Int) tk)=true↔_;unfold ac.isInt;simp
  simp only[jN,exists_eq_or_imp,e0,ih h]
theorem bS.size{es:Array (Int×ac)}(h:bS es.toList l):es.size=l.length:=Fo.symm.trans (OT h)
theorem cU.at_(h:cU P l o):∃es n t,o=dH es n t/\bS es.toList l/\eS P l t/\es.size=l.length/\t.fits es.size=true:=jz h λes n t e h1 h2=>(GB es n t e h1 h2 h1.size (h1.size▸DF h2))
theorem IL{k:Nat}(h:k<=6):k<scanBound:=by unfold scanBound;lia
theorem cU.setOf(x:cU w.params l o)(ho:h.get? a=some o):h.SetOf (uV pw w) a (λk=>decide (∃n∈l,(n:Int)=k)) l.length:=by
 refine DG x.at_ λes n t c4 h1 h2 h3 h4=>?_;subst c4;exact⟨_,es,n,t,ho,(ej rfl rfl rfl),rfl,h1.NA h2.small,λk=>by erw[decide_eq_true_eq];exact(h1.mem k).symm,h3▸IL h2.len,h4,h3⟩
theorem N4{x:Int}{tk:Tok}{Q:Option Nat->ag->Prop}(hx:cU w.params l o)(ho:s.heap.get? a=some o)(h:∀r:Option Nat,r.isSome=decide (∃n∈l,(n:Int)=x)->Q r s):ai (ah pw w) A (setFind a (.int x tk) (uU x)) Q E s:=
 wpAny_setFind_of (knd:=uV pw w) (Kw _ _ _ _) rfl (hx.setOf ho) h
theorem bS.take(h:bS es l)(k:Nat):bS (es.take k) (l.take k):=by
 induction l generalizing es k with
 |nil=>cases(h:es=[]);erw[uW];erw[uW];exact rfl
 |cons n l ih=>
  obtain⟨tk,r,rfl,h⟩:=h;induction k using n7 with
  |zero=>exact rfl
  |succ k=>exact(du tk _ rfl (ih h k))
theorem bS.drop(h:bS es l)(k:Nat):bS (es.drop k) (l.drop k):=by
 induction l generalizing es k with
 |nil=>cases(h:es=[]);erw[FH];erw[FH];exact rfl
 |cons n l ih=>
  obtain⟨tk,r,rfl,h⟩:=h;induction k using n7 with
  |zero=>exact(du tk r rfl h)
  |succ k=>exact ih h k
theorem bS.append(h:bS es l)(h':bS d0 m):bS (es++d0) (l++m):=by
 induction l generalizing es with
 |nil=>cases(h:es=[]);exact h'
 |cons n l ih=>
  obtain⟨tk,r,rfl,h⟩:=h;exact(du tk _ rfl (ih h))
theorem bS.hashes(h:bS es l):es.map (·.1)=l.map λn:Nat=>(n:Int):=by
 induction l generalizing es with
 |nil=>cases(h:es=[]);rfl
 |cons n l ih=>
  obtain⟨tk,r,rfl,h⟩:=h;exact af (List.cons _) (ih h)
theorem bS.Je{es:Array (Int×ac)}(h:bS es.toList l):es.map (·.1)=(l.map (λn:Nat=>(n:Int))).toArray:=ze.mp (Tc.trans h.hashes)
theorem Z5(h:eS P l t)(hx:x<6)(hn:x∉l):t.freeSlot (x:Int)=some (x,false)/\pS l.toArray x<=l.length/\l.take (pS l.toArray x)++x::l.drop (pS l.toArray x)=fA x l:=by
 have k:=(lQ (b7 (b7 abM l h.sub) x (dJ hx))).resolve_left λk=>hn (qt k);simp only[mI,decide_eq_true_eq,beq_iff_eq,bne_iff_ne,ne_eq] at k;refine(ej (?_) k.1.1 k.1.2);have hj:(t.probeStart (x:Int)).j=x:=by
  have hb:SI (x:Int)=x:=by
   unfold SI;erw[Int.emod_eq_of_lt (by lia) (by lia)];rfl
  show SI (x:Int)%(t.mask+1)=x;erw[hb];rcases h.mask with e|e|e<;>refine aa (e) ?_<;>lia
 have hs:t.slot x=.empty:=by
  unfold a8.slot;refine aa (h.place) (aa (h.dummies) ((iN (by simpa using k.2)).trans (iN ?_)));unfold SJ;simp
 unfold a8.freeSlot agc;erw[(show 10*SK t.mask=(10*SK t.mask-1)+1 by unfold SK;lia)];unfold agc.go;refine aa (hj) (aa (hs) ?_);rfl
theorem Ξ{es:Array (Int×ac)}{tk:Tok}(h1:bS es.toList l)(h:eS P l t)(hx:x<6)(hn:x∉l):
  ∃d0,layNew t es (x:Int) (.int (x:Int) tk)=(d0,{t with place:=(fA x l).toArray},false,false)/\bS d0.toList (fA x l):=by
 refine fb (Z5 h hx hn) λk1 k2 k3=>?_;have ent:bS (SL es (pS l.toArray x) ((x:Int),.int (x:Int) tk)).toList (fA x l):=by
  rw[agd,<-k3];exact(h1.take _).append (du tk _ rfl (h1.drop _))
 refine(az (SL es (pS l.toArray x) ((x:Int),.int (x:Int) tk)) (?_) ent);have ahj:(fA x l).length=l.length+1:=by refine hZ (k3) ?_;erw[da];erw[wB];erw[FI];erw[FJ];erw[wM k2];lia
 have Gm:({t with place:=(fA x l).toArray}:a8).fits (fA x l).length=true:=by
  unfold a8.fits Fn;simp only[i4,beq_self_eq_true,Bool.true_and,decide_eq_true_eq];refine aa (h.dummies) (aa (ahj) ?_);have:=h.room;have:=h.len;rcases h.mask with e|e|e<;>rw[e] at* <;>simp<;>lia
 have ahk:t.put x=({t with place:=(fA x l).toArray},pS l.toArray x):=by
  unfold a8.put;rw[h.dummies,show SJ #[] x=false by unfold SJ;simp,h.place,<-show SL l.toArray (pS l.toArray x) x=(fA x l).toArray from ze.mp ((agd ..).trans k3)];rfl
 unfold layNew;erw[k1];dsimp only;erw[ahk];dsimp only;unfold a8.orStandIn;refine aa (ent.size) (aa (Gm) ?_);rfl
end
end
section
variable{b:ao}{es d0:Array (Int×ac)}
theorem fK{α:Type}{M:f4}{c:Prop}[Decidable c]{t u:Sem α}{Q:α->ag->Prop}(n:¬c)(h:ai M A u Q E s):ai M A (if c then t else u) Q E s:=(iN n).symm▸h
theorem pG{α:Type}{M:f4}{c:Prop}[Decidable c]{t u:Sem α}{Q:α->ag->Prop}(n:c)(h:ai M A t Q E s):ai M A (if c then t else u) Q E s:=(iP n).symm▸h
theorem O8:mL (wN 5)=32/\mL (wN 6)=32:=by decide+kernel
theorem aev{n:Nat}(h:n<=6)(h5:5<=n):mL (wN n)=32:=(Nat.eq_or_lt_of_le h5).elim (λe=>e▸O8.1) λe=>mK e h▸O8.2
theorem ae8(h1:bS es.toList l)(up:l.Pairwise (· < ·))(sm:∀x∈l,x<6)(h5:5<=l.length)(f0:t.finger=0)(pl:t.plain=true)(ld:t.led= !P.followText "set-order"):
  ∃t',FK t es (wN es.size)=(es,t',false)/\eS P l t':=by
 have hsz:=h1.size;have h6:=CP up sm;have LA:eS P l {mask:=31,place:=l.toArray,dummies:= #[],finger:=t.finger,led:=t.led,moves:=t.movedTo 31,plain:=t.plain}:=
  ⟨rfl,rfl,.inr (.inr rfl),by show l.length*5<31*3;lia,f0,pl,ld,up,sm⟩
 have hr:t.relaid (es.map (·.1)) (wN es.size)=some ({mask:=31,place:=l.toArray,dummies:= #[],finger:=t.finger,led:=t.led,moves:=t.movedTo 31,plain:=t.plain},(ax l.length).toArray):=by
  unfold age;exact aa (hsz) (aa (aev h6 h5) (aa (h1.Je) (Hy (LA.lay (.inr (.inr rfl))))))
 refine(az _ (?_) LA);unfold FK;erw[hr];dsimp only;have hf:(ax l.length).toArray.filterMap (es[·]?)=es:=by
  apply ze.mp;exact aa (agf) (hZ (hsz) (agg es))
 have hc:coversAll (ax l.length).toArray es.size=true:=by
  unfold coversAll;exact aa (hsz) (List.isPerm_iff.mpr (BS _))
 refine aa (hf) (aa (hc) (aa (hsz) (aa (DF LA) ?_)));rfl
theorem AP{Q:Unit->ag->Prop}{t':a8}(ho:s.heap.get? a=some (dH d0 n to))(hz:es.size<=qT)(h:∀h',dD a s.heap h'->h'.get? a=some (dH es (n+1) t')->Q () {s with heap:=h'}):ai (ah pw w) A (storeSet a es t') Q E s:=by
 refine wpAny_storeSet_of ho rfl (h _ (uR s.heap a _) ?_) hz;have:=af8 (Obj.putSet es t') ho (by erw[(putSet_of es t' rfl:Obj.putSet es t' (dH d0 n to)=_)];rfl);rw[show Obj.putSet es t' (dH d0 n to)=_ from putSet_of es t' rfl] at this;exact this
theorem OJ(h:es.size<=6):es.size<=qT:=fits_of_scanBound (IL h)
theorem Vg{g:Bool->Sem Unit}(hg:∀(bI:ag) (Q':Unit->ag->Prop),Q' () bI->ai (ah pw w) A (g false) Q' E bI){R:Option Bool->ag->Prop}
(ho:s.heap.get? a=some (dH d0 n to))(h1:bS es.toList l)(up:l.Pairwise (· < ·))(sm:∀x∈l,x<6)(hp:t.place=l.toArray)(hd:t.dummies= #[])(hm:t.mask=7\/t.mask=15\/t.mask=31)(f0:t.finger=0)(pl:t.plain=true)(ld:t.led= !w.params.followText "set-order")
(h:∀h' o',dD a s.heap h'->h'.get? a=some o'->cU w.params l o'->R (some true) {s with heap:=h'}):
  ai (ah pw w) A (do
    storeSet a es t
    if(!false&&t.tooFull)=true then do
      g (FK t es (wN es.size)).2.2
      storeSet a (FK t es (wN es.size)).1 (FK t es (wN es.size)).2.1
      pure (some true)
     else pure (some true)) R E s:=by
 have h6:=CP up sm;have hz:=OJ (h1.size▸h6);have hf:t.tooFull=decide (l.length*5>=t.mask*3):=by
  unfold a8.tooFull Fn;refine aa (hp) (aa (hd) ?_);simp
 refine ae (AP ho hz λh1' b1 g1=>aa (hf) ?_);by_cases q:l.length*5>=t.mask*3
 ·exact aB (ae8 (P:=w.params) (t:=t) h1 up sm (by rcases hm with e|e|e<;>rw[e] at q<;>lia) f0 pl ld) λt' e1 e2=>aa (dT q) (aa (e1) (ae (hg _ _ (ae (AP (s:={s with heap:=h1'}) g1 hz λh2 b2 g2=>au (h _ _ (b1.trans b2) g2 (jS es _ t' rfl h1 e2)))))))
 ·exact aa (dF q) (au (h _ _ b1 g1 ⟨es,n+1,t,rfl,h1,hp,hd,hm,oj q,f0,pl,ld,up,sm⟩))
theorem GH{tk:Tok}{Q:Bool->ag->Prop}(hx:cU w.params l o)(ho:s.heap.get? a=some o)(h6:x<6)
(h:∀h' o',dD a s.heap h'->h'.get? a=some o'->cU w.params (fA x l) o'->Q (!decide (x∈l)) {s with heap:=h'}):
  ai (ah pw w) A (FL a (.int (x:Int) tk) (uU (x:Int))) Q E s:=by
 refine DG hx.at_ λes n t c4 h1 h2 h3 h4=>?_;subst c4;have hk:(uV pw w).is (x:Int) (.int (x:Int) tk)=true:=Kw _ _ _ _;have Uh:=h1.NA (w:=w) h2.small;have hb:es.size<scanBound:=h3▸IL h2.len;unfold FL setAddHashedIn;refine dO (ae (wpAny_setState_of ho rfl h4 ?_));dsimp only;erw[byScan_of (x:=.int (x:Int) tk) rfl hb Uh];simp only[↓reduceIte];unfold setAddByScan;refine ae (ae (uO (ae (wpAny_setScan_of (knd:=uV pw w) hk ho rfl h4 Uh ?_))));cases hr:List.findIdx? (λe=>(uV pw w).is (x:Int) e.2) es.toList with
 |some j=>
  obtain⟨hj,hpj,_⟩:=List.findIdx?_eq_some_iff_getElem.mp hr;refine aB ((h1.mem (w:=w) (x:Int)).mp (az (es.toList[j]) (SM hj) hpj)) λm hm e=>?_;obtain rfl:=FM e;have:=h s.heap _ (Cd a s.heap) ho (by erw[Z2 h2.up hm];exact hx);rw[dT hm] at this;exact au (au this)
 |none=>
  have hn:x∉l:=λm=>aB ((h1.mem (w:=w) (x:Int)).mpr (az x m rfl)) λe he hp=>ff ((List.findIdx?_eq_none_iff.mp hr e he).symm.trans hp);refine aB (Ξ (tk:=tk) h1 h2 h6 hn) λd0 hl he=>?_;have hgw:∀(b:Bool) {bI:ag} {Q':Unit->ag->Prop},Q' () bI->ai (ah pw w) A (match b with|true=>rule "set.scan.the-table-gave-way" |false=>pure ()) Q' E bI:=
   λb bI Q' hq=>by cases b<;>first|exact au hq|exact uO hq
  have Ui:layNew t es (uU (x:Int)) (.int (x:Int) tk)=(d0,{t with place:=(fA x l).toArray},false,false):=(DE h6).symm▸hl;generalize layNew t es (uU (x:Int)) (.int (x:Int) tk)=L at Ui⊢;subst Ui;refine ae (hgw false (aa (iP h2.plain) (ae (aa (hashByValue_scannable (x:=.int (x:Int) tk) 8 rfl) (au (Vg (t:={t with place:=(fA x l).toArray}) (R:=λr s'=>ai (ah pw w) A _ Q E s') (λbI Q' hq=>au hq) ho he (rK h2.up) (λy m=>(pj.mp m).elim (λe=>e▸h6) (h2.small y)) rfl h2.dummies h2.mask h2.finger h2.plain h2.led λh' o' k1 k2 k3=>?_))))));have:=h h' o' k1 k2 k3;rw[dF hn] at this;exact au this
theorem Rr{n mv:Nat}:cU P [] (dH #[] n (.fresh 0 mv (!P.followText "set-order"))):=⟨#[],n,_,rfl,rfl,rfl,rfl,.inl rfl,by show 0<7*3;lia,rfl,rfl,rfl,.nil,λ_ m=>mN m⟩
theorem Jv{Q:ac->ag->Prop}(h:∀o,cU w.params [] o->o.isFreed=false->Q (.ref s.heap.objs.size) {s with heap:=s.heap.push o}):ai (ah pw w) A (newSet (.type "set")) Q E s:=by
 unfold newSet Ce;refine ae (ae (oA (au ?_)));simp only[newObj];exact ae (wpAny_alloc (au (h _ Rr rfl)))
theorem acG{α:Type}(l:List α):∀(i:Nat) (h:i<l.length),(l[i]::l.eraseIdx i).Perm l:=by
 induction l with
 |nil=>exact λi h=>absurd h (yW _)
 |cons a l ih=>
  intro i h;induction i using n7 with
  |zero=>exact .refl _
  |succ i=>exact(List.Perm.swap _ _ _).trans ((ih i (agh h)).cons a)
theorem aex{α:Type}(next:Nat->Nat)(Gr:Nat):∀(k:Nat) (left:List α) (out:Array α),Gr=left.length->(SN next Gr k left out).toList.Perm (out.toList++left):=by
 induction Gr with
 |zero=>
  intro k left out h;obtain rfl:=zc.mp h.symm;unfold SN;rw[gO]
 |succ Gr ih=>
  intro k left out h;unfold SN;have hi:next k%left.length<left.length:=Cf _ (h▸eE _);erw[jL hi];refine(ih (k+1) (left.eraseIdx (next k%left.length)) (out.push left[next k%left.length]) (by erw[List.length_eraseIdx_of_lt hi];refine hZ (h) ?_;rfl)).trans ?_;erw[Array.toList_push];rw[kt];exact List.Perm.append_left _ (acG _ _ hi)
theorem OO{α:Type}(next:Nat->Nat)(xs:Array α):(pickOrder next xs).toList.Perm xs.toList:=aex next xs.size 0 xs.toList #[] Fo.symm
theorem bS.perm{es d0:List (Int×ac)}(p:d0.Perm es):∀{l:List Nat},bS es l->∃l',bS d0 l'/\l'.Perm l:=by
 have hd:∀{x:Int×ac} {es:List (Int×ac)} {l:List Nat},bS (x::es) l->∃n tk m,l=n::m/\x=((n:Int),.int n tk)/\bS es m:=λ{x es l} h=>by
  induction l using bO with
  |nil=>exact ln (h:x::es=[])
  |cons n m=>
   refine eH h λtk r e h=>?_;injection e with e1 e2
   exact(jS n tk m rfl e1 (e2▸h))
 induction p with
 |nil=>exact λh=>(az _ h (.refl _))
 |cons x _ ih=>
  intro l h;refine jz (hd h) λn tk m c4 pV g=>?_;subst c4;subst pV;exact aB (ih g) λl' h1 h2=>(az (n::l') (du tk _ rfl h1) (h2.cons _))
 |swap x y es=>
  intro l h;refine jz (hd h) λn tk m c4 pV g=>?_;subst c4;subst pV;refine jz (hd g) λn' tk' m c4 pV k=>?_;subst c4;subst pV;exact(az (n'::n::m) ⟨tk',_,rfl,tk,_,rfl,k⟩ (.swap _ _ _))
 |trans _ _ ih1 ih2=>
  intro l h;exact aB (ih2 h) λl' h1 h2=>aB (ih1 h1) λwX h3 h4=>(az wX h3 (h4.trans h2))
theorem lI{Q:(Array (Int×ac)×Nat×a8)->ag->Prop}(x:bS es.toList l)(y:eS P l t)(ho:s.heap.get? a=some (dH es n t))(h:Q (es,n,t) s):ai (ah pw w) A (setState a) Q E s:=wpAny_setState_of ho rfl (x.size▸DF y) h
theorem aca{Q:Array (Int×ac)->ag->Prop}(x:cU w.params l o)(ho:s.heap.get? a=some o)(h:∀d0 l',bS d0.toList l'->l'.Perm l->Q d0 s):ai (ah pw w) A (setWalk a) Q E s:=by
 refine jz x λes n t c4 h1 h2=>?_;subst c4;unfold setWalk Ce;refine ae (lI h1 h2 ho (ae (ae (oA (au ?_)))));cases hb:w.params.followText "set-order" with
 |true=>
  refine aa (iP (hb:(ah pw w).w.params.followText "set-order"=true)) (ae (oA (au ?_)));obtain⟨l',k1,k2⟩:=h1.perm (OO _ es);exact h _ l' k1 k2
 |false=>
  refine aa (iN (Bool.eq_false_iff.mp hb:¬(ah pw w).w.params.followText "set-order"=true)) (fK (c:=(!t.plain&&decide (es.size>1))=true) (by erw[h2.plain];exact dy) (ae (fK (c:=(!t.led&&decide (es.size>1))=true) (by erw[h2.led];erw[hb];exact dy) (au (au (h _ l h1 (.refl _)))))))
end
section
variable{ob oa:Obj}{b:ao}{es d0:Array (Int×ac)}
theorem Zs:(ax 7).all (λk=>(mL (k*2)==8&&decide (k<=3))||(mL (k*2)==16))=true:=by decide+kernel
theorem acU(h:k<=6):mL (k*2)<=qT/\(mL (k*2) -1=7\/mL (k*2) -1=15)/\k*5<(mL (k*2) -1)*3:=by
 have e:=Kr;rcases lQ (b7 Zs k (dJ (kz h))) with q|q
 ·exact dS (aW q) λq z=>aa (a5 q) ((ej (by erw[e];decide) (.inl rfl) (aQ (SO 5 (cC z)) (by decide))))
 ·exact aa (a5 q) ((ej (by erw[e];decide) (.inr rfl) (aQ (SO 5 h) (by decide))))
theorem aff{Q:Unit->ag->Prop}(x:cU w.params [] o)(ho:s.heap.get? a=some o)(hk:k<=6)
(h:∀h' n t,dD a s.heap h'->h'.get? a=some (dH #[] n t)->eS w.params [] t->k*5<t.mask*3->Q () {s with heap:=h'}):ai (ah pw w) A (setRoomFor a k) Q E s:=by
 refine jz x λes n t c4 h1 h2=>?_;subst c4;obtain rfl:es= #[]:=ze.mp h1;unfold setRoomFor;refine ae (lI h1 h2 ho ?_);dsimp only;have hr:t.roomFor k=if k*5>=t.mask*3 then some (k*2) else none:=by
  unfold a8.roomFor Fn;refine aa (h2.place) (aa (h2.dummies) ?_);simp
 erw[hr];by_cases q:k*5>=t.mask*3
 ·refine aa (iP q) (fb (acU hk) λz1 z2 z3=>?_);have hm:mL (k*2) -1=7\/mL (k*2) -1=15\/mL (k*2) -1=31:=z2.imp id .inl;have hr:t.relaid (Array.map (·.1) (#[]:Array (Int×ac))) (k*2)=some ({mask:=mL (k*2) -1,place:= #[],dummies:= #[],finger:=t.finger,led:=t.led,moves:=t.movedTo (mL (k*2) -1),plain:=t.plain},#[]):=by
   unfold age;rw[bS.Je (es:= #[]) (l:=[]) rfl];exact Hy (l:=[]) (h2.lay hm)
  unfold setRelay;refine ae (lI h1 h2 ho ?_);dsimp only;exact aa (iN (gN z1)) (aa (hr) (ae (au (AP ho (cu _) λh' b g=>h h' _ _ b g ⟨rfl,rfl,hm,by show 0*5<_;exact aQ (SO 5 (cu k)) z3,h2.finger,h2.plain,h2.led,.nil,λ_ m=>mN m⟩ z3))))
 ·exact aa (iN q) (au (h s.heap n t (Cd a s.heap) ho h2 (oj q)))
theorem R1{each:Sem Unit}{Q:Unit->ag->Prop}(x:cU w.params [] o)(ho:s.heap.get? a=some o)(y:cU w.params l ob)(hb:s.heap.get? b=some ob)(ne:a≠b)
(h:∀h' o',dD a s.heap h'->h'.get? a=some o'->cU w.params l o'->Q () {s with heap:=h'}):ai (ah pw w) A (setMerge a b each) Q E s:=by
 refine jz y λeo no to c4 k1 k2=>?_;subst c4;unfold setMerge;refine fK (by simpa using ne) (ae (lI k1 k2 hb ?_));dsimp only;by_cases q:eo.isEmpty=true
 ·erw[iP q];obtain rfl:eo= #[]:=Array.isEmpty_iff.mp q;obtain rfl:l=[]:=zc.mp k1.size.symm;exact au (h s.heap o (Cd a s.heap) ho x)
 ·refine aa (iN q) (ae (aff x ho (k1.size▸k2.len) λh1 n1 t1 b1 g1 z2 ahl=>ae (lI (s:={s with heap:=h1}) (es:= #[]) (l:=[]) rfl z2 g1 ?_)));have led:(t1.led&&to.led)= !w.params.followText "set-order":=by erw[z2.led];erw[k2.led];rw[Bool.and_self]
  have pl:(t1.plain&&to.plain)=true:=by erw[z2.plain];erw[k2.plain];rfl
  have hf:t1.fill=0:=by unfold Fn;erw[z2.place];erw[z2.dummies];rfl
  have sz:=OJ (k1.size▸k2.len);dsimp only;unfold a8.road;erw[hf];simp only[bne_self_eq_false,yM,if_false];by_cases hm:(t1.mask==to.mask&&to.dummies.isEmpty)=true
  ·exact aa (iP hm) (AP (s:={s with heap:=h1}) g1 sz λh' c g=>h h' _ (b1.trans c) g ⟨_,_,_,rfl,k1,k2.place,k2.dummies,k2.mask,k2.room,z2.finger,pl,led,k2.up,k2.small⟩)
  ·erw[iN hm];dsimp only;have Uj:Array.filterMap (λi=>eo[i]?) (ax l.length).toArray=eo:=by
    apply ze.mp;exact aa (agf) (hZ (k1.size) (agg eo))
   refine aa (k1.Je) (aa (Hy (k2.lay z2.mask)) (ae (fK (c:=(SP (Array.filterMap (λi=>eo[i]?) (ax l.length).toArray) !=SP eo)=true) (by erw[Uj];simp) (au ?_))));dsimp only;exact aa (Uj) (AP (s:={s with heap:=h1}) g1 sz λh' c g=>h h' _ (b1.trans c) g ⟨_,_,_,rfl,k1,rfl,rfl,z2.mask,k1.size▸ahl,z2.finger,pl,led,k2.up,k2.small⟩)
theorem Rh{others:List ao}{fl:Option ao}{Q:Array (Int×ac)->ag->Prop}(x:cU w.params l o)(ho:s.heap.get? a=some o)(h:∀d0 l',bS d0.toList l'->l'.Perm l->Q d0 s):ai (ah pw w) A (setWalkUnseen a others fl) Q E s:=by
 refine jz x λes n t c4 h1 h2=>?_;subst c4;unfold setWalkUnseen Ce;refine ae (lI h1 h2 ho (ae (ae (oA (au (pG (c:=((ah pw w).w.params.followText "set-order" ||t.led&&t.plain||decide (es.size<=1))=true) ?_ (aca (jS es n t rfl h1 h2) ho h)))))));refine aa (h2.led) (aa (h2.plain) ?_);show(w.params.followText "set-order" || !w.params.followText "set-order" &&true||_)=true;cases w.params.followText "set-order" <;>rfl
theorem zT{Q:Nat->ag->Prop}(x:cU w.params l o)(ho:s.heap.get? a=some o)(h:Q l.length s):ai (ah pw w) A (Builtin.Frozenset.sizeOf a) Q E s:=by
 refine jz x λes n t c4 h1 h2=>?_;subst c4;exact ae (ae (lI h1 h2 ho (au (au (h1.size▸h)))))
theorem cU.cls(x:cU P l o):o.cls=.type "set":=by refine ue x λ_ _ _ c4 _=>?_;subst c4;rfl
theorem G2{Q:ac->ag->Prop}(x:cU w.params l o)(ho:s.heap.get? a=some o)(h:Q (.type "set") s):ai (ah pw w) A (Builtin.Frozenset.baseOf a) Q E s:=ae (qZ ⟨_,ho,x.cls⟩ Kx (au h))
theorem Dd{Q:Bool->ag->Prop}(x:cU w.params l o)(ho:s.heap.get? a=some o)(h:Q true s):ai (ah pw w) A (SQ (.ref a)) Q E s:=ae (qZ ⟨_,ho,x.cls⟩ Kx (au h))
def oP(m:List Nat)(acc:List Nat)(n:Nat):List Nat:=if n∈m then fA n acc else acc
theorem WB{acc:List Nat}{n:Nat}:x∈oP m acc n↔x∈acc\/(x=n/\x∈m):=by
 unfold oP;by_cases q:n∈m
 ·erw[iP q];rw[pj];exact⟨λh=>h.elim (λe=>.inr ⟨e,e▸q⟩) .inl,λh=>h.elim .inr λh=>.inl h.1⟩
 ·erw[iN q];exact⟨.inl,λh=>h.elim id λh=>absurd (h.1▸h.2) q⟩
theorem ϛ{acc:List Nat}{n:Nat}(h:acc.Pairwise (· < ·)):(oP m acc n).Pairwise (· < ·):=by
 unfold oP;by_cases q:n∈m
 ·erw[iP q];exact rK h
 ·erw[iN q];exact h
theorem Pz{ns acc:List Nat}(h:acc.Pairwise (· < ·)):(ns.foldl (oP m) acc).Pairwise (· < ·)/\∀x,x∈ns.foldl (oP m) acc↔x∈acc\/(x∈ns/\x∈m):=by
 induction ns generalizing acc with
 |nil=>exact⟨h,λx=>⟨.inl,λh=>h.elim id λh=>mN h.1⟩⟩
 |cons n ns ih=>
  refine dS (ih (ϛ (m:=m) (n:=n) h)) λa b=>⟨a,λx=>(b x).trans ?_⟩;rw[WB,or_assoc,<-or_and_right,jN]
theorem Pj{ns:List Nat}(p:ns.Perm l)(up:l.Pairwise (· < ·)):ns.foldl (oP m) []=l.filter λx=>m.contains x:=t5 (Pz .nil).1 (up.filter _) λx=>by
 rw[(Pz .nil).2,oC,kx,p.mem_iff];exact⟨λh=>h.elim (λh=>mN h) id,.inr⟩
theorem UN(up:l.Pairwise (· < ·))(um:m.Pairwise (· < ·)):(m.filter λx=>l.contains x)=l.filter λx=>m.contains x:=t5 (um.filter _) (up.filter _) λx=>by
 rw[oC,oC,kx,kx];exact and_comm
theorem Yd{la:List Nat}:decide (∃m∈la,(m:Int)=(n:Int))=decide (n∈la):=fv ⟨λh=>by refine aB h λm a b=>?_;exact FM b▸a,λm=>(az n m rfl)⟩
theorem PH{id:String}{la lw acc:List Nat}{asked walked r:ao}{n:Nat}{es:Array (Int×ac)}{t:a8}{ew:List (Int×ac)}{ns:List Nat}{Q:ag->Prop}(ya:cU w.params la oa)(k1:bS es.toList lw)(k2:eS w.params lw t)(n1:asked≠r)(n2:walked≠r)(sm:∀x∈ns,x<6)
(ga:s.heap.get? asked=some oa)(gw:s.heap.get? walked=some (dH es n t))(he:bS ew ns)(gr:s.heap.get? r=some o)(xr:cU w.params acc o)(h:∀h' o',dD r s.heap h'->h'.get? r=some o'->cU w.params (ns.foldl (oP la) acc) o'->Q {s with heap:=h'}):
  ai (ah pw w) A (forIn ew Cg λp _=>do
    yL [p.2] do
     if(<-setFind asked p.2 p.1).isSome then
      let _<-FL r p.2 p.1
    SR id walked n
    pure (uN Cg)) (λ_ s'=>Q s') E s:=by
 induction ns generalizing s acc ew o with
 |nil=>
  obtain rfl:ew=[]:=he;exact aa (yK) (au (h _ _ (Cd _ _) gr xr))
 |cons i ns ih=>
  obtain⟨tk,ew,rfl,he⟩:=he;have h6:=sm i (.head _);have un:∀{R:ForInStep PUnit->ag->Prop} {h':am},h'.get? walked=some (dH es n t)->R (.yield Cg) {s with heap:=h'}->ai (ah pw w) A (SR id walked n>>=λ_=>pure (uN Cg)) R E {s with heap:=h'}:=λ{R h'} g4 r=>by
   unfold SR setEpoch;exact ae (ae (ae (lI (s:={s with heap:=h'}) k1 k2 g4 (au (fK (by simp) (au (au r)))))))
  have fin:=λ(h':am) (o':Obj) (b1:dD r s.heap h') (b2:h'.get? r=some o') (b3:cU w.params (oP la acc i) o')=>ih (s:={s with heap:=h'}) (λx m=>sm x (.tail _ m)) ((b1.2 asked n1).trans ga) ((b1.2 walked n2).trans gw) he b2 b3 λh2 o2 c=>h h2 o2 (b1.trans c);rw[wF];refine ae (ae (dO (ae (aa (show setFind asked (.int (i:Int) tk) (i:Int)=setFind asked (.int (i:Int) tk) (uU (i:Int)) by erw[DE h6];rfl) ?_))));erw[(show FL r (.int (i:Int) tk) (i:Int)=FL r (.int (i:Int) tk) (uU (i:Int)) by refine aa (DE h6) ?_;rfl)];refine N4 ya ga λq hq=>aa (hq.trans Yd) ?_;by_cases c:i∈la
  ·exact aa (dT c) (ae (GH xr gr h6 λh' o' b1 b2 b3=>au (un ((b1.2 walked n2).trans gw) (fin h' o' b1 b2 (by unfold oP;erw[iP c];exact b3)))))
  ·exact aa (dF c) (au (un gw (fin s.heap o (Cd _ _) gr (by unfold oP;erw[iN c];exact xr))))
end
end
section
variable{c:Cx}{x:Pt c}{l m:List Nat}{a:ao}{s:ag}{w:cO}{E:ac->ag->Prop}{d:Nat}{u:ac}{p:PV}
section
variable{y z:Pt c}{r acc:List Nat}{o ob oa:Obj}{t:a8}{n k:Nat}{b S I:ao}{h h':am}{es:Array (Int×ac)}{g:Nat}{A:Am d}{Ar:bh}{v:ac}{xs:List PV}{K:ao->Prop}
theorem DR(sb:dD s.heap.objs.size (s.heap.push o) h'):∀b ob,s.heap.get? b=some ob->h'.get? b=some ob:=λb ob e=>(sb.2 b (gE (fB e))).trans (c5 _ e)
theorem C9{Q:Nat->ag->Prop}(h1:bS es.toList l)(h2:eS w.params l t)(ho:s.heap.get? a=some (dH es n t))(h:Q n s):ai (ah pw w) Ar (setEpoch a) Q E s:=ae (lI h1 h2 ho (au h))
theorem V0{id:String}{Q:ac->ag->Prop}(xa:cU w.params l oa)(xb:cU w.params m ob)(ga:s.heap.get? a=some oa)(gb:s.heap.get? b=some ob)
(h:∀h' o',(∀c oc,s.heap.get? c=some oc->h'.get? c=some oc)->h'.get? s.heap.objs.size=some o'->cU w.params (l.filter λx=>m.contains x) o'->Q (.ref s.heap.objs.size) {s with heap:=h'}):
  ai (ah pw w) Ar (SU id a (.ref b)) Q E s:=by
 have na:=gE (fB ga);have nb:=gE (fB gb);have xa':=xa;have xb':=xb;refine jz xa' λea ka ta c4 Uk zn=>?_;subst c4;refine jz xb' λeb kb tb c4 Ul u6=>?_;subst c4;unfold SU;by_cases e:a=b
 ·subst e;rw[ga] at gb;obtain⟨rfl,rfl,rfl⟩:ea=eb/\ka=kb/\ta=tb:=by unfold dH at gb;simpa using gb
  obtain rfl:l=m:=by
   have q:=zn.place.symm.trans u6.place;injection q
  refine pG (beq_self_eq_true _) ?_;unfold Builtin.Frozenset.copyOf;refine ae (G2 xa ga (ae (Jv λo xo hf=>ae (m:=yX _) (au (ae (R1 (s:={s with heap:=s.heap.push o}) xo (ft _ hf) xa (c5 _ ga) (gV na) λh' o' sb g' x'=>au (h h' o' (DR sb) g' ?_)))))));exact aa (Gd.mpr λx m=>kx.mpr m) (x')
 ·refine fK (by simpa using gV e) (ae (G2 xa ga (ae (Jv λo xo hf=>ae (m:=yX _) (au ?_)))));have u7:(s.heap.push o).get? a=some (dH ea ka ta):=c5 _ ga;have zq:(s.heap.push o).get? b=some (dH eb kb tb):=c5 _ gb;have Um:(s.heap.push o).get? s.heap.objs.size=some o:=ft _ hf;refine ae (dO (ae (Dd (s:={s with heap:=s.heap.push o}) xb zq (ae (m:=yX _) (au (ae (zT (s:={s with heap:=s.heap.push o}) xb zq (ae (zT (s:={s with heap:=s.heap.push o}) xa u7 ?_)))))))));by_cases q:m.length>l.length
  ·refine aa (iP q) (ae (C9 (s:={s with heap:=s.heap.push o}) Uk zn u7 (ae (Rh (s:={s with heap:=s.heap.push o}) xa u7 λd0 l' k1 k2=>ae (aa (by simp:d0=d0.toList.toArray) ?_)))));rw[SV];refine PH (s:={s with heap:=s.heap.push o}) xb Uk zn nb na (λx mx=>zn.small x (k2.mem_iff.mp mx)) zq u7 k1 Um xo λh' o' sb g' x'=>au (au (h h' o' (DR sb) g' ?_));rw[Pj k2 zn.up] at x';exact x'
  ·refine aa (iN q) (ae (C9 (s:={s with heap:=s.heap.push o}) Ul u6 zq (ae (Rh (s:={s with heap:=s.heap.push o}) xb zq λd0 l' k1 k2=>ae (aa (by simp:d0=d0.toList.toArray) ?_)))));rw[SV];refine PH (s:={s with heap:=s.heap.push o}) xa Ul u6 na nb (λx mx=>u6.small x (k2.mem_iff.mp mx)) u7 zq k1 Um xo λh' o' sb g' x'=>au (au (h h' o' (DR sb) g' ?_));rw[Pj k2 u6.up,UN zn.up u6.up] at x';exact x'
theorem g_:yv table "set.__and__"=some Builtin.«frozenset.__and__»:=
 J4 (id':="frozenset.__and__") ⋯ rfl (by decide+kernel) ⋯
theorem cU.rd(g:cU c.w.params l o)(e:y.f a=some o):Rd (.set l) y (.ref a):=by
 refine jz g λes n t c4 h1 h2=>?_;subst c4;exact .set e h1 h2
theorem RB{Q:ac->ag->Prop}{tk:Nat}(K:∀v y,Le x y->Rd (.set l) y v->Q v y.s)(k:∀b o,x.s.heap.get? b=some o->h'.get? b=some o)(g:h'.get? x.s.heap.objs.size=some o)(xo:cU c.w.params l o):Q (.ref x.s.heap.objs.size) {x.s with heap:=h',toks:=tk}:=
 K _ ((x.grow h' tk k).add x.s.heap.objs.size o g (x.j5 (bf _))) (.add (x.cG k) g _ (eQ _)) (xo.rd pk)
theorem aeC(ra:Rd (.set l) x v)(rb:Rd (.set m) x u):aE A (mG .BitAnd v u) x (Rd (.set (l.filter λx=>m.contains x))):=ly ra λ{a es n t} ea a1 a2=>ly rb λ{b d0 n' t'} eb b1 b2 Q E K=>by
 have xa:cU c.w.params l (dH es n t):=(jS es n t rfl a1 a2);have xb:cU c.w.params m (dH d0 n' t'):=(jS d0 n' t' rfl b1 b2);have ga:=x.hs _ _ ea;have gb:=x.hs _ _ eb;refine wpAny_binaryOp_same (T:="set") (id:="set.__and__") ⟨_,ga,rfl⟩ (az _ gb rfl) F.fills_set_and F.slot_set_and (uS F.slot_set_and ⟨_,ga,rfl⟩ g_ ?_ (F.args_set_and_2 _ _));unfold Builtin.«frozenset.__and__»;refine ae (m:=Builtin.Frozenset.slot1 _ _) (au ?_);dsimp only;exact ae (aa (iN dy) (ae (Dd xa ga (Dd xb gb (aa (iN (dy:¬(!true)=true)) (ae (m:=yX _) (au (ae (V0 xa xb ga gb λh' o' k g z=>au (cz _ rfl (λq=>nomatch q) (RB K k g z)))))))))))
@[elab_as_elim] theorem MA{M:PV->Prop}(h:setOf (p::xs)=some l)(k:∀n l',n<6->setOf xs=some l'->fA n l'=l->M (.int (n:Int))):M p:=aj h λi h1 h2=>aL h2 λhi h3=>fM h3 λl' h4 h5=>eA h1 (by
 have e:=Su hi.1;exact e▸k i.toNat l' (by lia) h4 h5)
theorem OK(h:setOf xs=some l):l.Pairwise (· < ·):=by
 induction xs generalizing l with
 |nil=>exact ay h▸ .nil
 |cons p xs ih=>exact MA (M:=λ_=>_) h λn l' _ h1 e=>e▸rK (ih h1)
theorem adl(up:l.Pairwise (· < ·))(h:setOf (l.map λn:Nat=>PV.int n)=some r):r=l:=t5 (OK h) up λx=>by
 have go:∀{l r:List Nat},setOf (l.map λn:Nat=>PV.int n)=some r->(x∈r↔x∈l):=λ{l}=>by
  induction l with
  |nil=>exact λh=>ay h▸Iff.rfl
  |cons n l ih=>exact λh=>aL (h:(if 0<=(n:Int)/\(n:Int)<6 then _ else none)=some _) λ_ h=>fM h λl' h1 e=>e▸pj.trans ((or_congr Iff.rfl (ih h1)).trans jN.symm)
 exact go h
structure vS{c:Cx}(S:ao)(l:List Nat)(K:ao->Prop)(x:Pt c):Prop where
 fr:bV x S
 o:∃o,x.s.heap.get? S=some o/\cU c.w.params l o
 nK:¬K S
theorem cU.nc(g:cU c.w.params l o)(e:x.s.heap.get? S=some o)(o':Obj)(e':x.s.heap.get? S=some o'):¬(o'.cls=.type "code"/\∃vs,o'.data=.fields vs):=λk=>by
 obtain rfl:=ay (e.symm.trans e');rw[g.cls] at k;exact absurd k.1 (by decide)
theorem vS.step{K':ao->Prop}(F:vS S l K x)(st:br K g x y)(dn:∀b,K' b->K b\/x.s.heap.get? b=none):vS S l K' y:=by
 refine aB F.o λo e z=>⟨⟨?_,F.fr.h₀,F.fr.hi⟩,(az o (st.e.keep S o e (cN F.fr.hi) F.nK) z),λk=>(dn S k).elim F.nK λq=>nS (q.symm.trans e)⟩;cases q:y.f S with
 |none=>rfl
 |some o=>exact(st.new S o q).elim (λq=>nS (F.fr.f.symm.trans q)) λq=>q.elim (λq=>nS (q.symm.trans e)) λq=>absurd q F.nK
theorem vS.add{tk:Nat}(F:vS S l K x)(i:dM d I g xs K x)(sb:dD S x.s.heap h')(e:h'.get? S=some o)(z:cU c.w.params m o):∃y:Pt c,y.s={x.s with heap:=h',toks:=tk}/\vS S m K y/\dM d I g xs K y/\∀g,br (λb=>b=S) g x y:=by
 refine aB F.o λo' e' z'=>?_;have w:∀g,Wr (λb=>b=S) g x (x.but (t:=tk) sb F.fr (z'.nc e')):=λ_=>.but rfl;exact(vn _ rfl ⟨(w 0).free F.fr,(az o e z),F.nK⟩ (i.later ⟨(w 0).sub,λb o k q=>(sb.2 b λe=>F.nK (e▸k)).trans q,λb k=>(i.live b k).1.f,λ_ _ _ q=>q⟩) (λg=>(w g).st))
structure Fl{c:Cx}(d:Nat)(x y:Pt c)(S I g:Nat)(xs:List PV)(acc:List Nat)(K:ao->Prop):Prop where
 st:cH (λb=>x.s.heap.get? b=none) x y
 it:dM d I g xs K y
 fl:vS S acc K y
 nK:∀b,K b->x.s.heap.get? b=none
 nS:x.s.heap.get? S=none
 g1:x.s.gens.size<=g
 g2:g<=y.s.gens.size
theorem Fl.next{K':ao->Prop}{CG:List PV}(F:Fl d x y S I g xs acc K)(st:br K g y z)(i:dM d I g CG K' z)(dn:∀b,K' b->K b\/y.s.heap.get? b=none):Fl d x z S I g CG acc K':=
 ⟨br.trans F.st ((st.lower F.g1 F.g2).weaken F.nK),i,F.fl.step st dn,λb k=>(dn b k).elim (F.nK b) λn=>(F.st.e.back (cN (i.live b k).1.hi) n).elim id id,F.nS,F.g1,aq F.g2 st.e.de⟩
theorem Fl.add{tk:Nat}(F:Fl d x y S I g xs acc K)(sb:dD S y.s.heap h')(e:h'.get? S=some o)(z:cU c.w.params m o):∃w:Pt c,w.s={y.s with heap:=h',toks:=tk}/\Fl d x w S I g xs m K:=kU (F.fl.add (tk:=tk) F.it sb e z) λw e f i st=>⟨w,e,br.trans F.st ((st _).weaken λb q=>q▸F.nS),i,f,F.nK,F.nS,F.g1,by erw[e];exact F.g2⟩
theorem Fl.tok(F:Fl d x y S I g xs acc K)(tk:Nat):∃w:Pt c,w.s={y.s with toks:=tk}/\Fl d x w S I g xs acc K:=aB F.fl.o λo e z=>F.add (Cd S y.s.heap) e z
theorem Fl.done(F:Fl d x y S I g xs acc K)(st:br K g y z):∃w:Pt c,w.s=z.s/\Le x w/\Rd (.set acc) w (.ref S):=by
 have f:=F.fl.step (K':=λ_=>False) st λ_ q=>q.elim;exact aB f.o λo e xo=>(cz (z.add S o e (cN f.fr.hi)) rfl (.add (br.le (br.trans F.st ((st.lower F.g1 F.g2).weaken F.nK)) λ_ q=>q) e _ F.nS) (xo.rd pk))
theorem M3{A:bh}{tk:Tok}{i:Int}{Q:Int->ag->Prop}(h:Q (uU i) {s with toks:=s.toks+1}):ai (ah pw w) A (pyHash (.int i tk)) Q E s:=(uV pw w).pyHash (k:=i) (Kw _ _ _ _) h
theorem Vp{A:Am (d+1)}{R:mJ->ag->Prop}(k:∀(w:Pt c),Le x w->∀r,Rd (.set r) w (.ref S)->(∀i,i∈r↔m.contains i=true)->r.Pairwise (· < ·)->R (.ok (.ret .none)) w.s):∀{xs:List PV} {l acc:List Nat} {y:Pt c} {K:ao->Prop},setOf xs=some l->acc.Pairwise (· < ·)->(∀i,i∈m↔i∈acc\/i∈l)->Fl d x y S I g xs acc K->eO (ah pw c.w) A.A (.builtin "set.update.loop" ⟨[.ref S,.ref I],[]⟩) R y.s:=by
 intro xs;induction xs with
 |nil=>
  intro l acc y K hs up hm F;obtain rfl:=ay hs;exact jO agi (aa (kA SW _) (ae (F.it.done A.in1 λz st=>cP (F.done st) λw e le r=>au (e▸k w le acc r (λi=>⟨λh=>kx.mpr ((hm i).mpr (.inl h)),λh=>((hm i).mp (qt h)).elim id λh=>mN h⟩) up))))
 |cons p xs ih=>
  intro l acc y K hs up hm F;refine jO agi (aa (kA SW _) (ae (F.it.next A.in1 λv K' z rd i st _ dn=>?_)));have F:=F.next st i dn;revert rd;refine MA hs λn l' h6 h1 e rd=>bU rd λtk=>aB F.fl.o λo g1 xo=>ae (dO ?_);unfold setAdd;refine dO (ae (M3 (GH (s:={z.s with toks:=z.s.toks+1}) xo g1 h6 λh' o' sb g' x'=>au ⟨iJ SW _,?_⟩)));exact aB (F.add (tk:=z.s.toks+1) sb g' x') λw ew F=>ew▸ih h1 (rK up) (λi=>by rw[hm i,<-e,pj,pj,or_assoc,or_left_comm]) F
end
section
variable{A:bh}
theorem aba(a:ac){Q₁:ac->ag->Prop}(h:Q₁ (.ref s.heap.objs.size) {s with heap:=s.heap.push {cls:=.type "set",dict:=none,data:=.set #[] 0 (.fresh 0 0 (!w.params.followText "set-order"))}}):
  eO (ah pw w) A (.call (.builtin "set.__new__") ⟨[.type "set",a],[]⟩) (wants Q₁ E) s:=by
 refine Fv ?_;show ai _ A.in1 (do checkBuiltinCall "set.__new__" ⟨[.type "set",a],[]⟩;again (.builtin "set.__new__" ⟨[.type "set",a],[]⟩)) _ _ s;refine ae (B3 (PySem.F.newCall_set_1 a) (au ⟨iJ agj _,jO PySem.F.entry_set_new ?_⟩));erw[kA agj _];unfold Builtin.«set.__new__» Builtin.Frozenset.newClass;have ahm:=Kx;obtain⟨hp,g,d,tk,os⟩:=s;dsimp only
 wp_walk
 refine oA (au ?_);dsimp only;simp only[newObj];exact ae (wpAny_alloc (au (au h)))
set_option maxHeartbeats 3200000 in
theorem PY{u:ac}{Q:ac->ag->Prop}(h:∀o,cU w.params [] o->o.isFreed=false->ai (ah pw w) A.in1.in1 (Ky "set.__init__" s.heap.objs.size u) (λ_ s'=>Q (.ref s.heap.objs.size) s') E {s with heap:=s.heap.push o}):
  ai (ah pw w) A (bC (.type "set") [u]) Q E s:=by
 refine jZ PySem.F.called_set.mro λc tl ahK=>?_;have ahL:=PySem.F.called_set.made;have ahm:=PySem.F.called_set.sub;refine qY (Fv ?_);show ai _ _ (callAny (.type "set") _) _ _ _;refine au ⟨Code.quiet_builtin _ (by decide+kernel),jO PySem.F.entry_type_call ?_⟩;rw[bh.under_plain (weight_type_call_type "set" [u] []) rfl];have h1:=PySem.F.called_set.notType;have h2:=PySem.F.called_set.canCreate;have hct:=PySem.F.typeCall_set_1 u
 repeat (any_goals (first|assumption|wp_step))
 refine FG (aba u (E:=E) (Q₁:=λobj bI=>obj=.ref s.heap.objs.size/\bI={s with heap:=s.heap.push {cls:=.type "set",dict:=none,data:=.set #[] 0 (.fresh 0 0 (!w.params.followText "set-order"))}}) ⟨rfl,rfl⟩) λr bI hr=>?_;have hu:=h _ (Rr (n:=0) (mv:=0)) rfl;generalize (!w.params.followText "set-order")=led at hr hu;cases r with
 |error e=>exact hr
 |ok fl=>
  cases fl with
  |ret obj=>
   obtain⟨rfl,rfl⟩:=hr;have hS:(s.heap.push {cls:=.type "set",dict:=none,data:=.set #[] 0 (.fresh 0 0 led)}).get? s.heap.objs.size=some {cls:=.type "set",dict:=none,data:=.set #[] 0 (.fresh 0 0 led)}:=ft _ rfl;have hT:SY {s with heap:=s.heap.push {cls:=.type "set",dict:=none,data:=.set #[] 0 (.fresh 0 0 led)}} (.ref s.heap.objs.size) "set":=(az _ hS rfl);have hli:=PySem.F.called_set.init.lookup;have hbi:=PySem.F.called_set.init.bind (.ref s.heap.objs.size)
   repeat (any_goals (first|assumption|wp_step))
   refine FG (SZ (R:=wants (λr fQ=>r=.none/\Q (.ref s.heap.objs.size) fQ) E) PySem.F.called_set.init.plain PySem.F.entry_set_init (check_set_init_1 hT ?_)) λLB fQ LC=>?_
   ·unfold Builtin.«set.__init__» noKeywords;generalize hT:Ky "set.__init__"=T at hu⊢
    wp_walk
    exact cQ hu (λ_ s' z=>au ⟨rfl,z⟩) λ_ _ z=>z
   ·cases LB with
    |error e=>exact LC
    |ok ahn=>
     cases ahn with
     |ret r=>
      obtain⟨rfl,hq⟩:=LC
      repeat (any_goals (first|assumption|wp_step))
     |_=>exact LC.elim
  |_=>exact hr.elim
end
section
variable{A:Am (d+3)}{xs:List PV}
theorem Hb{T:String}(hs:setOf xs=some l)(hT:x.s.TypeIs (.ref a) T)(h1:isSubtype (.type T) (.type "set")=pure false)(h2:isSubtype (.type T) (.type "frozenset")=pure false)(h3:(iE T==iE "dict")=false)
(it:∀{A:Am d} {y:Pt c},Le x y->qA A (gk (.ref a)) y xs):aE A (bC (.type "set") [.ref a]) x (Rd (.set l)):=λQ E K=>PY λo xo hf=>by
 have zr:SY {x.s with heap:=x.s.heap.push o} (.ref a) T:=aB hT λoa e1 e2=>(az oa (c5 _ e1) e2);have n:=x.t8 (t:=x.s.toks) hf;unfold Ky SQ;refine ae (ae (qZ zr h1 (qZ zr h2 (fK dy (ae (FN zr (aa (h3) (fK dy (ae (it (A:=(A.in1.in1).mono (iH d)) (y:=x.push o x.s.toks) (x.cG _) _ _ λy I K' g le i nw g1 g2=>ae (S1 ?_)))))))))));have nS:=eQ x.s.heap;have nK:∀b,K' b->x.s.heap.get? b=none:=λb k=>by
  cases e:x.s.heap.get? b with
  |none=>rfl
  |some ob=>nomatch (nw b k).symm.trans (c5 _ e:am.get? (x.s.heap.push o) b=some ob)
 have F:Fl d x y x.s.heap.objs.size I g xs [] K':=⟨cH.trans (x.cG (t:=x.s.toks) λ_ _=>c5 o).st le.st,i,⟨n.1.le le ⟨_,n.2⟩,(az o (le.e.keep _ _ n.2 (cN n.1.hi)) xo),λk=>nomatch (nw _ k).symm.trans n.2⟩,nK,nS,g1,g2⟩;exact Vp (m:=l) (A:=A.in1.in1) (R:=λr s'=>match r with
  |.ok (.ret v)=>ai (ah pw c.w) A.in1.in1.A (pure Cg) (λ_ s'=>Q (.ref x.s.heap.objs.size) s') E s'
  |.ok _=>False
  |.error e=>E e s') (λw le r rd hr up=>au (K _ w le (t5 up (OK hs) (λi=>(hr i).trans kx)▸rd))) hs .nil (λi=>⟨.inr,λh=>h.elim (λh=>mN h) id⟩) F
theorem ZT(h:eJ p setOf=some l)(r:Rd p x u):aE A (bC (.type "set") [u]) x (Rd (.set l)):=fU h λhn h=>by
 induction p using dh with
 |tup xs=>exact iX r λ{a n vs} e rl z=>Hb (xs:=xs) h (az _ (x.hs _ _ e) rfl) PySem.F.sub_tuple_set PySem.F.sub_tuple_frozenset (by decide) λle=>MB (.tup (le.sub _ _ e) (rl.mono le.sub) z)
 |list xs=>exact dY r λ{a n vs} e rl z=>Hb (xs:=xs) h (az _ (x.hs _ _ e) rfl) agk agl (by decide) λle=>DB (.list (le.sub _ _ e) (rl.mono le.sub) z)
 |d8 lo hi=>exact p9 r λ{a t u z} e z1 z2 z3=>Hb h (az _ (x.hs _ _ e) rfl) PySem.F.sub_range_set PySem.F.sub_range_frozenset (by decide) λle=>JY (.d8 (le.sub _ _ e) z1 z2 z3)
 |set m=>
  refine ly r λ{a es n t} e he ht Q E K=>?_;obtain rfl:=adl ht.up (xg (h:qj m setOf=some l) (BS _));have ga:=x.hs _ _ e;refine PY λo xo hf=>?_;have xa:cU c.w.params l (dH es n t):=(jS es n t rfl he ht);have LD:(x.s.heap.push o).get? a=some (dH es n t):=c5 _ ga;unfold Ky;refine ae (Dd (s:={x.s with heap:=x.s.heap.push o}) xa LD (pG rfl (ae (m:=yX _) (au ?_))));unfold Builtin.Frozenset.merge;exact ae (C9 (s:={x.s with heap:=x.s.heap.push o}) he ht LD (R1 (s:={x.s with heap:=x.s.heap.push o}) xo (ft _ hf) xa LD (fO (fB ga)) λh' o' sb g' x'=>RB K (DR sb) g' x'))
 |inst=>exact absurd rfl hn
 |_=>exact nS h
end
section
variable{A:bh}{o:Obj}{it:ao}{es:Array (Int×ac)}{ep k:Nat}{t:a8}
noncomputable def qE(w:cO)(a:ao)(ep:Nat)(es:Array (Int×ac)):Array (Int×ac):=if w.params.followText "set-order"=true then pickOrder (w.params.setOrder a ep) es else es
noncomputable def vB(w:cO)(l:List Nat)(k:Nat):Nat:=if w.params.followText "set-order"=true then 0 else if k=0 then 0 else l.getD (k-1) 0+1
theorem acb:(oH 0 6).all (λl=>(ax (l.length+1)).all λk=>pS l.toArray (if k=0 then 0 else l.getD (k-1) 0+1)==k)=true:=⋯
theorem acK{Q:Option (ac×Nat)->ag->Prop}(h1:bS es.toList l)(h2:eS w.params l t)(ho:s.heap.get? a=some (dH es ep t))(hk:k<=l.length)
(h:Q (((qE w a ep es)[k]?).map λe=>(e.2,vB w l (k+1))) s):ai (ah pw w) A (setNext a (vB w l k) k ep) Q E s:=by
 unfold qE vB at h;unfold setNext Ce vB;refine ae (lI h1 h2 ho (ae (ae (oA (au ?_)))));cases hb:w.params.followText "set-order" with
 |true=>
  rw[hb] at h;refine aa (hb:(ah pw w).w.params.followText "set-order"=true) (pG rfl (fK (by simp) ?_));unfold setWalk Ce;refine ae (ae (lI h1 h2 ho (ae (ae (oA (au (pG hb (ae (oA (au (au h)))))))))))
 |false=>
  rw[hb] at h;refine aa (hb:(ah pw w).w.params.followText "set-order"=false) (fK dy (fK (c:=(!t.plain&&decide (es.size>1))=true) (by erw[h2.plain];exact dy) (ae (fK (c:=(!t.led&& !es.isEmpty)=true) (by erw[h2.led];erw[hb];exact dy) (au ?_)))));simp only[yM,if_false] at h⊢;refine aa (h2.place) (aa (a5 (b7 (b7 acb l h2.sub) k (dJ (kz hk)))) ?_);by_cases c:k<l.length
  ·have e1:es[k]?=some (es[k]'(h1.size.symm▸c)):=tg _;rw[e1] at h;refine aa (e1) (aa (q0) ?_);erw[jL c];simp only[Option.map_some,q8,if_false,wO] at h;rw[tv,jL c] at h;exact au h
  ·have e1:es[k]?=none:=Ka (h1.size▸cZ c);rw[e1] at h⊢;exact au h
def v3(w:cO)(l:List Nat)(h:am)(it a:ao)(ep k:Nat):Prop:=h.get? it=some {cls:=.type "set_iterator",data:=.fields #[c6 (vB w l k),c6 k,.ref a,c6 l.length,c6 ep]}
theorem MF(h:bS es.toList l):∃l',bS (qE w a ep es).toList l'/\l'.Perm l:=by
 unfold qE;by_cases q:w.params.followText "set-order"=true
 ·erw[iP q];exact h.perm (OO _ es)
 ·erw[iN q];exact(az l h (.refl _))
theorem Jh(h:bS es.toList l):(qE w a ep es).size=l.length:=aB (MF (w:=w) (a:=a) (ep:=ep) h) λl' k1 k2=>k1.size.trans k2.length_eq
theorem bS.at_{es:List (Int×ac)}(h:bS es l){e:Int×ac}(q:es[k]?=some e):∃(n:Nat) (t:Tok),l[k]?=some n/\e.2=.int (n:Int) t:=by
 induction l generalizing es k with
 |nil=>obtain rfl:es=[]:=h;exact nS q
 |cons n l ih=>
  obtain⟨tk,r,rfl,h⟩:=h;induction k using n7 with
  |zero=>exact(du n tk rfl (ay q▸rfl))
  |succ k=>exact ih h q
theorem P9{Q:ac->ag->Prop}(hit:v3 w l s.heap it a ep k)(h1:bS es.toList l)(h2:eS w.params l t)(ho:s.heap.get? a=some (dH es ep t))(hk:k<=l.length)
(h:ai (ah pw w) A (match((qE w a ep es)[k]?).map λe=>(e.2,vB w l (k+1)) with
   |some (x,next)=>do
    setField (.ref it) 0 (c6 next)
    setField (.ref it) 1 (c6 ((k:Int)+1))
    ret x
   |none=>do setField (.ref it) 2 .none;raiseNew (<-newExc (.type "StopIteration") [])) (λfin s'=> ∃v,fin=.done (.ret v)/\Q v s') E s):
  ai (ah pw w) A (Builtin.«set_iterator.__next__» ⟨[.ref it],[]⟩) (λfin s'=> ∃v,fin=.done (.ret v)/\Q v s') E s:=by
 unfold Builtin.«set_iterator.__next__»;refine ae (m:=slotArgs _ _ _) (au ?_);dsimp only;refine ae (wpAny_fieldsOf hit rfl ?_);dsimp only[c6];unfold setEntries;refine ae (ae (lI h1 h2 ho (au (fK (by erw[h1.size];simp) ?_))));exact ae (acK h1 h2 ho hk h)
theorem Ε{e:Int×ac}{Q:Option ac->ag->Prop}(hit:v3 w l s.heap it a ep k)(h1:bS es.toList l)(h2:eS w.params l t)(ho:s.heap.get? a=some (dH es ep t))(he:(qE w a ep es)[k]?=some e)
(h:∀h',v3 w l h' it a ep (k+1)->dD it s.heap h'->Q (some e.2) {s with heap:=h'}):ai (ah pw w) A (gm (.ref it)) Q E s:=by
 have hk:k<=l.length:=Jh (w:=w) (a:=a) (ep:=ep) h1▸cZ λq=>nS ((Ka (cy q)).symm.trans he);have hT:s.TypeIs (.ref it) "set_iterator":=(az _ hit rfl);unfold gm;refine ae (Kz (Kq (name:=dw "__next__") hT PySem.F.zg
  (uS PySem.F.zg hT PySem.F.T3 (P9 hit h1 h2 ho hk ?_) (PySem.F.T4 _))))
 erw[he];dsimp only[Option.map_some];refine ae (S2 hit (by simp) λg1 e1 b1=>ae (S2 (s:={s with heap:=g1}) e1 (by simp) λg2 e2 b2=>au (az _ rfl (au (h g2 ?_ (b1.trans b2))))));unfold v3;erw[e2];rfl
theorem Yw{Q:Option ac->ag->Prop}(hh:A.handled=none)(hit:v3 w l s.heap it a ep l.length)(h1:bS es.toList l)(h2:eS w.params l t)(ho:s.heap.get? a=some (dH es ep t))
(h:∀h',am.ExtBut it s.heap h'->Q none {s with heap:=h'}):ai (ah pw w) A (gm (.ref it)) Q E s:=by
 have he:(qE w a ep es)[l.length]?=none:=Ka (aD (Jh h1));have hT:s.TypeIs (.ref it) "set_iterator":=(az _ hit rfl);unfold gm;refine ae (Kz (Kq (name:=dw "__next__") hT PySem.F.zg
  (uS PySem.F.zg hT PySem.F.T3 (P9 hit h1 h2 ho (bf _) ?_) (PySem.F.T4 _))))
 erw[he];dsimp only[Option.map_none];refine ae (S2 hit (by simp) λg1 e1 b1=>ae ?_);simp only[newExc,newTuple];refine ae (uP ?_ (by size_fits));refine ae (m:=KA _ _) (B3 (a:=oh) (by first|rfl|(simp only[KA];rfl)) (uP ?_ (by size_fits)));simp only[raiseNew];refine ae (wpAny_handled (aa (hh:A.in1.handled=none) (ae (au (wpAny_throw ?_)))));refine ae (qZ (T:="StopIteration") (b:=true) (az _ (ft _ rfl) rfl) isSubtype_stop ?_);exact au (h _ (((dD.extBut b1).push _).push _))
theorem Walks.set{I:ao}(hh:A.handled=none)(jP:a≠I)(h1:bS es.toList l)(h2:eS w.params l t):
  Walks pw w A I [I,a] [I] l.length (λi v=> ∃e,(qE w a ep es)[i]?=some e/\e.2=v) (λi h=>v3 w l h I a ep i/\h.get? a=some (dH es ep t)) where
 sub:=λb hb=>by simp at hb;simp[hb]
 frame:=λ_ _ _ st hk=>⟨hk I (by simp) _ st.1,hk a (by simp) _ st.2⟩
 item:=λi s Q E hi st hQ=>by
  have eZ:i<(qE w a ep es).size:=(Jh h1).symm▸hi;refine Ε st.1 h1 h2 st.2 (tg eZ) λh' aho mW=>?_;exact hQ _ h' s.toks (az _ (tg eZ) rfl) ⟨aho,by erw[mW.2 a jP];exact st.2⟩ λb o hb e=>mW.extBut b o (λh=>hb (by simp[h])) e
 done:=λs Q E st hQ=>Yw hh st.1 h1 h2 st.2 λh' he'=>hQ h' s.toks λb o hb e=>he' b o (λh=>hb (by simp[h])) e
 self:=λ_ s Q E st hQ=>by
  have hT:s.TypeIs (.ref I) "set_iterator":=(az _ st.1 rfl);refine wpAny_pyIter_slot hT PySem.F.T2 (uS PySem.F.T2 hT PySem.F.ag7 ?_ (PySem.F.ag8 _));show ai _ _ (ret (.ref I)) _ _ s;exact au ⟨_,rfl,"set_iterator",_,hT,PySem.F.zg.lookup,hQ⟩
theorem abP{Q:ac->ag->Prop}(h1:bS es.toList l)(h2:eS w.params l t)(ho:s.heap.get? a=some (dH es ep t))
(h:Q (.ref s.heap.objs.size) {s with heap:=s.heap.push {cls:=.type "set_iterator",data:=.fields #[c6 0,c6 0,.ref a,c6 l.length,c6 ep]}}):ai (ah pw w) A (gk (.ref a)) Q E s:=by
 have hT:s.TypeIs (.ref a) "set":=(az _ ho rfl);refine wpAny_pyIter_slot hT agm (uS agm hT PySem.F.ag9 ?_ (PySem.F.args_set_iter_1 _));unfold Builtin.«frozenset.__iter__»;refine ae (m:=Builtin.Frozenset.slot0 _ _) (au (ae (zT (jS es ep t rfl h1 h2) ho ?_)));unfold setDrawn Ce;refine ae (ae (lI h1 h2 ho (ae (ae (oA (au (au (fK (c:=(!w.params.followText "set-order" &&(!t.plain&&decide (es.size>1)))=true) (by erw[h2.plain];simp) (ae (au (ae (C9 h1 h2 ho ?_))))))))))));exact ae (uP (au ⟨_,rfl,"set_iterator",_,(az _ (ft _ rfl) rfl),PySem.F.zg.lookup,h⟩))
end
section
variable{A:Am d}{v:ac}{β:Type}{k:List PV->Option β}{r:β}
theorem MM(rd:Rd (.set l) x v):∃l':List Nat,l'.Perm l/\∀{A:Am d} {x':Pt c},Sub x.f x'.f->t6 A (gk v) x' (l'.map λn:Nat=>PV.int n):=ly rd λ{a es ep t} h0 he ht=>by
 refine aB (MF (w:=c.w) (a:=a) (ep:=ep) he) λl' k1 k2=>(az l' k2 (λ{A x} sub=>?_));have h:=sub _ _ h0;have jP:a≠x.s.heap.objs.size:=gE (fB (x.hs _ _ h));refine EP (o:={cls:=.type "set_iterator",data:=.fields #[c6 0,c6 0,.ref a,c6 l.length,c6 ep]}) (T:="set_iterator") (λA=>Walks.set (I:=x.s.heap.objs.size) (ep:=ep) A.ok.handled jP he ht) (by rw[bi,k2.length_eq]) (λi v p e1 e2=>?_) (λb hb=>?_) (λi h st=>(az _ st.1 rfl)) (by decide) (by decide) ⟨?_,c5 _ (x.hs _ _ h)⟩ (λQ E q=>abP he ht (x.hs _ _ h) q)
 ·refine aB e1 λe e3 bZ=>?_;subst bZ;rw[<-af4] at e3;refine eH (k1.at_ e3) λn tk e4 e5=>?_;rw[ot,e4] at e2;exact ay e2▸e5▸ .int
 ·exact(bw hb).imp id λq=>⟨_,(af x.f (cY q)).trans h⟩
 ·unfold v3 vB;erw[iP rfl];rw[ite_self];exact ft _ rfl
theorem Qs(rd:Rd (.set l) x v):∃l':List Nat,l'.Perm l/\∀{A:Am d} {x':Pt c},Sub x.f x'.f->qA A (gk v) x' (l'.map λn:Nat=>PV.int n):=aB (MM (d:=d) rd) λl' p g=>(az l' p (λs=>(g s).i))
theorem XS(h:over p k=some r)(hn:p.oL=false)(rd:Rd p x v):∃xs,k xs=some r/\qA A (gk v) x xs:=by
 induction p using dh with
 |tup l=>exact⟨l,h,MB rd⟩
 |list l=>exact⟨l,h,DB rd⟩
 |d8=>exact(az _ h (JY rd))
 |set l=>
  exact aB (Qs (d:=d) rd) λl' p g=>(az _ (xg (h:qj l k=some r) p) (g λ_ _ e=>e))
 |inst=>exact tf hn
 |_=>exact nS h
end
end
section
variable{c:Cx}{x y:Pt c}{d g:Nat}{v u:ac}{a S:ao}{xs:List PV}{O:aK}
section
set_option tactic.hygienic true
theorem Nn:yv table "frozenset.intersection.loop"=some Builtin.«frozenset.intersection.loop»:=Sk ⋯
theorem D7:plainId "frozenset.intersection.loop"=true:=by decide+kernel
theorem ab5:yv table "set.intersection"=some Builtin.«frozenset.intersection»:=
 J4 (id':="frozenset.intersection") ⋯ rfl (by decide+kernel) ⋯
section
variable{l m acc:List Nat}{I:ao}{dW:List Int}{n:Nat}{es:Array (Int×ac)}{t:a8}{K:ao->Prop}{ls:List PV}
theorem MT(h:p5 ls=some dW):ls=dW.map PV.int:=by
 induction ls generalizing dW with
 |nil=>refine hZ (ay h) ?_;rfl
 |cons p ls ih=>
  unfold p5 at h ih;rw[qV] at h;refine aj h λi h1 h=>aj h λr h2 h=>?_;obtain rfl:=ay h;exact eA h1 (af _ (ih h2))
theorem w_(ul:l.Pairwise (· < ·)):∀{m:List Nat},m.Pairwise (· < ·)->(∀x∈m,x∈l)->m.Sublist l:=by
 induction l with
 |nil=>
  intro m _ h;induction m using bO with
  |nil=>exact .slnil
  |cons a m=>exact mN (h a (.head _))
 |cons a l ih=>
  intro m um h;have ul:=mj ul;have rest:∀{m:List Nat},m.Pairwise (· < ·)->(∀x∈m,x∈a::l)->(∀x∈m,a<x)->m.Sublist l:=λum h g=>ih ul.2 um λx mx=>(bw (h x mx)).elim (λq=>absurd (g x mx) (q▸cV _)) id;induction m using bO with
  |nil=>exact S4 _
  |cons b m=>
   have Un:=mj um;by_cases e:b=a
   ·subst e;exact .cons_cons _ (rest Un.2 (λx mx=>h x (.tail _ mx)) Un.1)
   ·have lb:=ul.1 b ((bw (h b (.head _))).resolve_left e);exact .cons _ (rest um h λx mx=>ba lb (Eb um mx))
theorem B_{r:List Nat}(up:l.Pairwise (· < ·))(ur:r.Pairwise (· < ·))(h:∀x,x∈r↔x∈l/\(x:Int)∈dW):r=l.filter λx:Nat=>dW.contains (x:Int):=
 t5 ur (up.filter _) λx=>by rw[h x,oC,kx]
theorem abZ{A:Am (d+1)}{R:mJ->ag->Prop}{ep:Nat}(ea:x.f a=some (dH es ep t))(a1:bS es.toList l)(a2:eS c.w.params l t)(k:∀(w:Pt c),Le x w->∀r,Rd (.set r) w (.ref S)->r.Pairwise (· < ·)->(∀i,i∈r↔i∈l/\(i:Int)∈dW)->R (.ok (.ret .none)) w.s):
  ∀{js:List Int} {acc:List Nat} {y:Pt c} {K:ao->Prop},acc.Pairwise (· < ·)->(∀i:Nat,i∈l/\(i:Int)∈dW↔i∈acc\/(i∈l/\(i:Int)∈js))->Fl d x y S I g (js.map PV.int) acc K->eO (ah pw c.w) A.A (.builtin "frozenset.intersection.loop" ⟨[.ref a,.ref I,.ref S],[]⟩) R y.s:=by
 intro js;have xa:cU c.w.params l (dH es ep t):=(jS es ep t rfl a1 a2);induction js with
 |nil=>
  intro acc y K up hm F;exact jO Nn (aa (kA D7 _) (ae (F.it.done A.in1 λz st=>cP (F.done st) λw e le r=>au (e▸k w le acc r up λi=>⟨λh=>(hm i).mpr (.inl h),λh=>((hm i).mp h).elim id λh=>mN h.2⟩))))
 |cons j js ih=>
  intro acc y K up hm F;refine jO Nn (aa (kA D7 _) (ae (F.it.next A.in1 λv K' z rd i st _ dn=>?_)));have F1:=F.next st i dn;have sub:∀{z:Pt c},cH (λb=>x.s.heap.get? b=none) x z->z.s.heap.get? a=some (dH es ep t):=λl=>_root_.Mine.Pt.hs _ _ _ (l.sub _ _ ea);refine bU rd λtk=>ae (dO (M3 (ae (dO (N4 (s:={z.s with toks:=z.s.toks+1}) xa (sub F1.st) λq hq=>?_)))));by_cases c:∃n∈l,(n:Int)=j
  ·obtain⟨n,hn,rfl⟩:=c;have CH:∀i:Nat,i∈l/\(i:Int)∈dW↔i∈fA n acc\/(i∈l/\(i:Int)∈js):=λi=>(hm i).trans ⟨λh=>h.elim (λh=>.inl (pj.mpr (.inr h))) λh=>(bw h.2).elim (λe=>.inl (pj.mpr (.inl (FM e)))) λq=>.inr ⟨h.1,q⟩,λh=>h.elim (λh=>(pj.mp h).elim (λe=>.inr ⟨e▸hn,e▸ .head _⟩) .inl) λh=>.inr ⟨h.1,.tail _ h.2⟩⟩;refine aB F1.fl.o λo g1 xo=>pG (hq.trans (dT (az n hn rfl))) (ae (dO (GH (s:={z.s with toks:=z.s.toks+1}) xo g1 (a2.small n hn) λh' o' sb g' x'=>aB (F1.add (tk:=z.s.toks+1) sb g' x') λw ew F2=>?_)));have gw:h'.get? a=some (dH es ep t):=af (λs:ag=>s.heap.get? a) ew▸sub F2.st;refine ae (zT (s:={z.s with heap:=h',toks:=z.s.toks+1}) x' g' (ae (zT (s:={z.s with heap:=h',toks:=z.s.toks+1}) xa gw ?_)));by_cases cl:l.length<=(fA n acc).length
   ·have e:=(w_ a2.up (rK up) λi h=>((CH i).mpr (.inl h)).1).eq_of_length_le cl;exact cP (F2.done .refl) λw' e' le r=>pG cl (ae (uO (au (ew▸e'▸k w' le _ r (rK up) λi=>⟨λh=>(CH i).mpr (.inl h),λh=>e.symm▸h.1⟩))))
   ·exact fK cl (au ⟨iJ D7 _,ew▸ih (rK up) CH F2⟩)
  ·obtain⟨w,ew,F2⟩:=F1.tok (z.s.toks+1);exact fK (by erw[hq];erw[dF c];exact dy) (au ⟨iJ D7 _,ew▸ih up (λi=>(hm i).trans ⟨λh=>h.imp id λh=>⟨h.1,(bw h.2).elim (λe=>absurd ⟨i,h.1,e⟩ c) id⟩,λh=>h.imp id λh=>⟨h.1,.tail _ h.2⟩⟩) F2⟩)
theorem adA{A:Am (d+3)}(hv:p5 ls=some dW)(ra:Rd (.set l) x v)(rb:Rd (.list ls) x u):aE A (bC (.builtin "set.intersection") [v,u]) x (Rd (.set (l.filter λx:Nat=>dW.contains (x:Int)))):=by
 have LF:=rb;revert LF;obtain rfl:=MT hv;refine ly ra λ{a es n t} ea a1 a2=>dY rb λ{b m vs} eb _ _ LF Q E K=>?_;have xa:cU c.w.params l (dH es n t):=(jS es n t rfl a1 a2);have ga:=x.hs _ _ ea;refine uS agn (az _ ga rfl) ab5 ?_ (PySem.F.args_set_intersection_2 _ _);unfold Builtin.«frozenset.intersection»;refine ae (m:=Builtin.Frozenset.manyOthers _ _) (au (fK dy (ae ?_)));rw[wF];refine ae (ae (dO (ae (m:=yX _) (au ?_))));unfold SU;refine fK (λq=>by
  cases a5 q;exact absurd (af uQ (ay (ea.symm.trans eb))) (by show ¬(iE "set"=iE "list");decide)) (ae (G2 xa ga (ae (Jv λo xo hf=>ae (m:=yX _) (au (ae (dO (ae ?_))))))))
 have n:=x.t8 (t:=x.s.toks) hf;have zr:SY {x.s with heap:=x.s.heap.push o} (.ref b) "list":=(az _ (c5 _ (x.hs _ _ eb)) rfl);unfold SQ;refine ae (qZ zr agk (qZ zr agl (fK dy (ae (DB (A:=(A.in1).mono (e:=d) (by lia)) (x:=x.push o x.s.toks) LF _ _ λy I K' g le i nw g1 g2=>ae (S1 ?_))))));have nS:=eQ x.s.heap;have nK:∀b,K' b->x.s.heap.get? b=none:=λb k=>by
  cases e:x.s.heap.get? b with
  |none=>rfl
  |some ob=>nomatch (nw b k).symm.trans (c5 _ e:am.get? (x.s.heap.push o) b=some ob)
 have F:Fl d x y x.s.heap.objs.size I g (dW.map PV.int) [] K':=⟨cH.trans (x.cG (t:=x.s.toks) λ_ _=>c5 o).st le.st,i,⟨n.1.le le ⟨_,n.2⟩,(az o (le.e.keep _ _ n.2 (cN n.1.hi)) xo),λk=>nomatch (nw _ k).symm.trans n.2⟩,nK,nS,g1,g2⟩;refine abZ (A:=(A.in1).mono (e:=d+1) (by lia)) ea a1 a2 (λw le r rd up hr=>?_) .nil (λi=>⟨.inr,λh=>h.elim (λh=>mN h) id⟩) F;refine au (au (au ?_));dsimp only;exact aa (yK) (au (au (az _ rfl (K _ w le (B_ a2.up up hr▸rd)))))
theorem Yx{A:Am d}{pl:Sem Bool}{Q:ac×List ac->ag->Prop}{E:ac->ag->Prop}(r:Rd (.set l) x v)(h:Q (.builtin "set.intersection",[v]) x.s):ai (ah pw c.w) A.A (B2 v "intersection" pl) Q E x.s:=by
 revert h;refine ly r λ{a es n t} ea _ _ h=>getMethod_builtin (az _ (x.hs _ _ ea) rfl) PySem.F.plainAttrs_set agn PySem.F.type_set_intersection (λb e=>?_) h;injection e with e
 exact e▸(az _ (x.hs _ _ ea) rfl)
end
end
structure Bx{c:Cx}(x y:Pt c)(S:ao)(φ:Obj->Prop):Prop where
 st:cH (λb=>x.s.heap.get? b=none) x y
 o:∃o,y.s.heap.get? S=some o/\φ o
 fr:bV y S
 nS:x.s.heap.get? S=none
structure BI{c:Cx}(d:Nat)(x y:Pt c)(S I g:Nat)(xs:List PV)(K:ao->Prop)(φ:Obj->Prop):Prop where
 b:Bx x y S φ
 it:dM d I g xs K y
 nK:∀b,K b->x.s.heap.get? b=none
 dj:¬K S
 g1:x.s.gens.size<=g
 g2:g<=y.s.gens.size
def ed(us:List ac)(o:Obj):Prop:=∃n,o=bu us n
section
variable{z w:Pt c}{I:ao}{φ ψ:Obj->Prop}{K K':ao->Prop}{CG:List PV}{h':am}{o:Obj}{tk:Nat}{us:List ac}{ps:List PV}
theorem Bx.new(hf:o.isFreed=false)(p:φ o):Bx x (x.push o tk) x.s.heap.objs.size φ:=⟨(x.cG _).st,(az o (ft _ hf) p),(Pt.t8 hf).1,eQ _⟩
theorem Bx.le(b:Bx x y S φ)(l:Le y z):Bx x z S φ:=aB b.o λo e p=>⟨cH.trans b.st l.st,(az o (l.e.keep S o e (cN b.fr.hi)) p),b.fr.le l ⟨o,e⟩,b.nS⟩
theorem Bx.but(b:Bx x y S φ)(nc:∀o,φ o->o.cls≠ .type "code")(sb:dD S y.s.heap h')(e:h'.get? S=some o)(p:ψ o):∃w:Pt c,w.s={y.s with heap:=h',toks:=tk}/\w.f=y.f/\Bx x w S ψ/\∀g,br (λb=>b=S) g y w:=by
 refine aB b.o λo' e' p'=>?_;have n:∀o,y.s.heap.get? S=some o->¬(o.cls=.type "code"/\∃vs,o.data=.fields vs):=λo k q=>nc o (ay (e'.symm.trans k)▸p') q.1;have w:∀g,Wr (λb=>b=S) g y (y.but (t:=tk) sb b.fr n):=λ_=>.but rfl;exact(vn (y.but (t:=tk) sb b.fr n) rfl rfl ⟨br.trans b.st ((w _).st.weaken λq k=>k▸b.nS),(az o e p),(w 0).free b.fr,b.nS⟩ (λg=>(w g).st))
theorem Bx.to(b:Bx x y S φ):Le x y:=br.le b.st λ_ q=>q
theorem BI.next(F:BI d x y S I g xs K φ)(st:br K g y z)(i:dM d I g CG K' z)(dn:∀b,K' b->K b\/y.s.heap.get? b=none):BI d x z S I g CG K' φ:=by
 refine aB F.b.o λo e p=>?_;have nf:z.f S=none:=by
  cases q:z.f S with
  |none=>rfl
  |some o'=>exact(st.new S o' q).elim (λq=>nS (F.b.fr.f.symm.trans q)) λq=>q.elim (λq=>nS (q.symm.trans e)) λq=>absurd q F.dj
 exact⟨⟨br.trans F.b.st ((st.lower F.g1 F.g2).weaken F.nK),(az o (st.e.keep S o e (cN F.b.fr.hi) F.dj) p),⟨nf,F.b.fr.h₀,F.b.fr.hi⟩,F.b.nS⟩,i,λb k=>(dn b k).elim (F.nK b) λn=>(F.b.st.e.back (cN (i.live b k).1.hi) n).elim id id,λk=>(dn S k).elim F.dj λq=>nS (q.symm.trans e),F.g1,aq F.g2 st.e.de⟩
theorem BI.end_(F:BI d x y S I g xs K φ)(st:br K g y z):Bx x z S φ:=by
 refine aB F.b.o λo e p=>?_;have nf:z.f S=none:=by
  cases q:z.f S with
  |none=>rfl
  |some o'=>exact(st.new S o' q).elim (λq=>nS (F.b.fr.f.symm.trans q)) λq=>q.elim (λq=>nS (q.symm.trans e)) λq=>absurd q F.dj
 exact⟨br.trans F.b.st ((st.lower F.g1 F.g2).weaken F.nK),(az o (st.e.keep S o e (cN F.b.fr.hi) F.dj) p),⟨nf,F.b.fr.h₀,F.b.fr.hi⟩,F.b.nS⟩
theorem BI.le(F:BI d x y S I g xs K φ)(l:Le y z):BI d x z S I g xs K φ:=⟨F.b.le l,F.it.later (cH.later (W:=λ_=>False) l.st F.it.live λ_ _=>id),F.nK,F.dj,F.g1,aq F.g2 l.e.de⟩
theorem BI.but(F:BI d x y S I g xs K φ)(nc:∀o,φ o->o.cls≠ .type "code")(sb:dD S y.s.heap h')(e:h'.get? S=some o)(p:ψ o):∃w:Pt c,w.s={y.s with heap:=h',toks:=tk}/\w.f=y.f/\BI d x w S I g xs K ψ:=by
 refine kU (F.b.but (tk:=tk) nc sb e p) λw e1 e2 b st=>⟨w,e1,e2,b,F.it.later (cH.later (st _) F.it.live λb k q=>F.dj (q▸k)),F.nK,F.dj,F.g1,?_⟩;exact aa (e1) (F.g2)
theorem BI.mk'(b:Bx x y S φ)(l:Le y z)(i:dM d I g xs K z)(nw:∀b,K b->y.s.heap.get? b=none)(g1:y.s.gens.size<=g)(g2:g<=z.s.gens.size):BI d x z S I g xs K φ:=aB b.o λo e p=>⟨b.le l,i,λq k=>(b.st.e.back (cN (i.live q k).1.hi) (nw q k)).elim id id,λk=>nS ((nw S k).symm.trans e),aq b.st.e.de g1,g2⟩
theorem ed.nc(o:Obj)(h:ed us o):o.cls≠ .type "code":=by
 obtain⟨n,rfl⟩:=h;show(iE "list")≠iE "code";decide
theorem Bx.rd(b:Bx x y S (ed us))(r:bt ps y us)(hz:ps.length<=aA):∃w:Pt c,w.s=y.s/\Le x w/\Rd (.list ps) w (.ref S):=by
 refine bE λgG hG=>?_;obtain⟨o,e,n,rfl⟩:=b.o;exact hG ((cz (y.add S _ e (cN b.fr.hi)) rfl (.add b.to e _ b.nS) (.list pk (r.mono Pt.zA) hz)))
end
section
variable{A:Am d}{l:List PV}{i:Int}{z r:Str}
theorem adp(dW:List Int)(j:Nat)(h:j<=dW.length):preSum (λi=>dW.getD i 0) j=(dW.take j).sum:=by
 induction j with
 |zero=>rfl
 |succ j ih=>
  unfold preSum;refine aa (ih (cy h)) (aa (List.take_succ_eq_append_getElem h) (aa (List.sum_append) (aa (tv) ?_)));erw[jL h];exact af _ (uL _).symm
theorem ZB(h:qa l=some i)(r:Rd (.list l) x v):aE A (bC (.builtin "sum") [v]) x (Rd (.int i)):=fM h λdW h1 h2=>by
 subst h2;obtain rfl:=MT h1;refine dY r λ{a n vs} e rl hz Q E K=>?_;have hl:x.s.heap.IsList a vs.toArray:=kG e;have hn:vs.length=dW.length:=rl.length.trans (bi _);have la:=fB (x.hs _ _ e);refine call_sum_walkG (wpAny_pyIter_list hl ⟨_,_,_,_,_,_,λi=>dW.getD i 0,rfl,Walks.list (A:=A.A.in1) A.ok.handled x.s.heap.objs.size a (gE la) vs.toArray,⟨(cz _ (ft _ rfl) rfl rfl),hl.push _⟩,λb hb=>?_,λi v e=>?_,λh' tk t' k=>?_⟩)
 ·rw[oy];exact(bw hb).elim (λe=>e▸i5 _) λhb=>cY hb▸KB la
 ·have e':vs[i]?=some v:=q0.symm.trans e;have hi:i<dW.length:=hn▸(zd.mp e').1;refine aB (rl.get (i:=i) (p:=.int dW[i]) (by erw[ot];erw[jL hi];rfl)) λu e1 e2=>?_;obtain rfl:=ay (e'.symm.trans e1);exact bU e2 λtk=>⟨tk,by show qS dW[i] tk=qS (dW.getD i 0) tk;erw[tv];erw[jL hi];rfl⟩
 ·erw[(show preSum (λi=>dW.getD i 0) vs.toArray.size=dW.sum by refine aa (i4) ?_;refine aa (hn) ?_;refine aa (adp dW _ (bf _)) ?_;refine aa (S5) ?_;rfl)];exact K _ (x.grow h' tk λb o q=>k b o (λm=>gE (fB q) (cY m)) (c5 _ q)) (x.cG _) .int
theorem d_:∀ts:List Str,Fe z ts=kq.join z ts:=by
 intro ts;induction ts with
 |nil=>rfl
 |cons y ts ih=>induction ts using bO with
  |nil=>rfl
  |cons t ts=>exact af (λr=>y++z++r) ih
theorem acR{f:Fz}:∀{l:List PV} {ts:List Str} {vs:List ac},G4 l=some ts->aR c f vs l->∃q:List (Str×Tok),strValues q=vs/\q.map (·.1)=ts:=by
 intro l;induction l with
 |nil=>exact λh r=>(az ([]) (iR r rfl) (ay h))
 |cons p l ih=>
  intro ts vs h r;unfold G4 at h ih;rw[qV] at h;refine aj h λy h1 h=>aj h λys h2 h=>?_;obtain rfl:=ay h;exact eC (m:=λvs=> ∃q:List (Str×Tok),strValues q=vs/\q.map (·.1)=y::ys) r λ{v us} r1 r2=>by
   refine aB (ih h2 r2) λq bY bZ=>?_;subst bY;subst bZ;exact Bs (m:=λp=>aV c f v p->_) h1 (λr1=>jh r1 λt=>(az ((y,t)::q) rfl rfl)) r1
theorem VA{l:List PV}(h:J1 z l=some r)(rz:Rd (.str z) x v)(rl:Rd (.list l) x u):aE A (bC (.builtin "str.join") [v,u]) x (Rd (.str r)):=aj h λts h1 h2=>aL h2 λhz h3=>jh rz λt=>dY rl λ{a n vs} e r hl Q E K=>by
 refine bE λgG hG=>?_;obtain rfl:=ay h3;refine aB (acR h1 r) λq bY bZ=>?_;subst bY;subst bZ;have hs:∀(ts:List Str) (a:Nat),ts.foldl (λa p=>a+p.length+z.length) a=a+(ts.map λx=>x.length+z.length).sum:=λts=>by
  induction ts with
  |nil=>exact λa=>rfl
  |cons y ts ih=>exact λa=>by rw[S6,ih,oz,List.sum_cons,fC,fC,fC]
 have w3:JoinOk z (q.map (·.1))=true:=by
  unfold JoinOk Builtin.Str.tooLong;rw[tj,decide_eq_false_iff_not];show ¬(q.map (·.1)).toArray.foldl (λa p=>a+p.length+z.length) 0>qT;rw[List.foldl_toArray' (h:=rfl),hs,f5];exact gN (aq hz (by erw[Kr];decide))
 unfold JoinOk at w3;rw[tj] at w3;refine hG (Fh PySem.F.slot_str_join (typeIs_str _ _ _) PySem.F.entry_str_join (PySem.F.args_str_join_2 _ _) (meets_str_join_list z t a q w3) ⟨kG e,post_join q ⟨joinFit_length w3,λt' k=>?_⟩⟩);exact aa (show Txt.join z (q.map (·.1))=Fe z (q.map (·.1)) from(StrLaws.glued_eq_join ..).trans (d_ _).symm) (jI K .str)
end
theorem Pn:yv table "list.__eq__.loop"=some Builtin.«list.__eq__.loop»:=Sk ⋯
theorem xH:plainId "list.__eq__.loop"=true:=by decide+kernel
def JG(gt:Bool)(l m:List PV):Option Bool:=if gt=true then fh.ph m l else fh.ph l m
noncomputable def Ee(gt:Bool):Int:=if gt=true then 4 else 0
noncomputable def C7(gt:Bool)(m n:Nat):Bool:=if gt=true then decide (m>n) else decide (m<n)
noncomputable def PB(gt:Bool)(m n:Int):Bool:=if gt=true then decide (m>n) else decide (m<n)
section
variable{A:Am d}{l m k:List PV}{i j:Int}{r b:Bool}{gt:Bool}{s:ag}{w:cO}{Ar:bh}{E:ac->ag->Prop}{n n' p:Nat}{e:ao}{vs ws:List ac}{f:Fz}{R:mJ->ag->Prop}{pv qv:PV}
theorem O'{X:Prop}(h:fh.ph l m=some r)(k1:l=[]->m=[]->r=false->X)(k2:∀j m',l=[]->m=.int j::m'->r=true->X)(k3:∀i l',l=.int i::l'->m=[]->r=false->X)(k4:∀i l' j m',l=.int i::l'->m=.int j::m'->(if i=j then fh.ph l' m' else some (decide (i<j)))=some r->X):X:=by
 induction l using bO with
 |nil=>induction m using bO with
  |nil=>exact k1 rfl rfl (ay h).symm
  |cons q m=>exact fM h λj h1 h2=>k2 j m rfl (eA h1 rfl) h2.symm
 |cons q l=>
  refine aj h λi h1 h=>?_;induction m using bO with
  |nil=>exact k3 i l (eA h1 rfl) rfl (ay h).symm
  |cons q m=>exact aj h λj h2 h=>k4 i l j m (eA h1 rfl) (eA h2 rfl) h
theorem Pf{X:Prop}(h:JG gt l m=some r)(k1:(l=[]\/m=[])->r=C7 gt l.length m.length->X)(k2:∀i l' j m',l=.int i::l'->m=.int j::m'->(if i=j then JG gt l' m' else some (PB gt i j))=some r->X):X:=by
 induction gt using je with
 |false=>exact O' h (λe1 e2 e=>k1 (.inl e1) (by erw[e1];erw[e2];erw[e];rfl)) (λj m' e1 e2 e=>k1 (.inl e1) (by erw[e1];erw[e2];erw[e];rfl)) (λi l' e1 e2 e=>k1 (.inr e2) (by erw[e1];erw[e2];erw[e];rfl)) k2
 |true=>exact O' h (λe1 e2 e=>k1 (.inr e1) (by erw[e1];erw[e2];erw[e];rfl)) (λj m' e1 e2 e=>k1 (.inr e1) (by erw[e1];erw[e2];erw[e];rfl)) (λi l' e1 e2 e=>k1 (.inl e2) (by erw[e1];erw[e2];erw[e];rfl)) λi l' j m' e1 e2 h=>k2 j m' i l' e2 e1 (d6 h (λe h=>(iP e.symm).trans h) λe h=>(iN (gV e)).trans h)
theorem N9:C7 gt (p+n) (p+n')=C7 gt n n':=by
 induction gt using je with
 |false=>exact fv (ago)
 |true=>exact fv (ago)
theorem xz(r:aR c f (vs.drop p) l)(h:p<=vs.length):vs.length=p+l.length:=by
 refine hZ (r.length) (aa (FJ) (aa (iK h) ?_));rfl
theorem Oz{v:ac}{us:List ac}(e:vs.drop p=v::us):vs[p]?=some v/\vs.drop (p+1)=us/\p<vs.length:=by
 have h:p<vs.length:=oj λq=>nl ((List.drop_eq_nil_of_le q).symm.trans e);have e2:=(B4 h).symm.trans e;injection e2 with e2 e3
 exact(ej ((jL h).trans (af some e2)) e3 h)
variable(ha:s.heap.get? a=some (bu vs n))(hb:s.heap.get? e=some (bu ws n'))
include ha hb
theorem Mw(hn:vs[p]?=none\/ws[p]?=none)(q:R (.ok (.ret (.bool (C7 gt vs.length ws.length)))) s):eO (ah pw w) Ar (.builtin "list.__eq__.loop" ⟨[.ref a,.ref e,c6 p,c6 (Ee gt)],[]⟩) R s:=by
 refine jO Pn (aa (kA xH _) ?_);induction gt using je with
 |false=>
  refine ae (f6 ha rfl (ae (f6 hb rfl ?_)));simp only[KC,q0];rcases hn with e1|e1
  ·erw[e1];exact ae (f6 ha rfl (ae (f6 hb rfl (au q))))
  ·erw[e1];cases vs[p]?<;>exact ae (f6 ha rfl (ae (f6 hb rfl (au q))))
 |true=>
  refine ae (f6 ha rfl (ae (f6 hb rfl ?_)));simp only[KC,q0];rcases hn with e1|e1
  ·erw[e1];exact ae (f6 ha rfl (ae (f6 hb rfl (au q))))
  ·erw[e1];cases vs[p]?<;>exact ae (f6 ha rfl (ae (f6 hb rfl (au q))))
theorem C_{t t':Tok}(v1:vs[p]?=some (.int i t))(u1:ws[p]?=some (.int j t'))(Uo:i=j->eO (ah pw w) Ar (.builtin "list.__eq__.loop" ⟨[.ref a,.ref e,c6 ((p+1:Nat):Int),c6 (Ee gt)],[]⟩) R s)(q:i≠j->R (.ok (.ret (.bool (PB gt i j)))) s):
  eO (ah pw w) Ar (.builtin "list.__eq__.loop" ⟨[.ref a,.ref e,c6 p,c6 (Ee gt)],[]⟩) R s:=by
 refine jO Pn (aa (kA xH _) ?_);induction gt using je with
 |false=>
  refine ae (f6 ha rfl (ae (f6 hb rfl ?_)));simp only[KC,q0,v1,u1];refine ae (wpAny_eqBool_int ?_);by_cases q':i=j
  ·exact pG (c:=decide (i=j)=true) (dT q') (au ⟨iJ xH _,Uo q'⟩)
  ·refine fK (c:=decide (i=j)=true) (by rw[dF q'];exact dy) (ae (f6 ha rfl (ae (f6 hb rfl ?_))));simp only[q0,v1,u1];exact ae (lt_int (au (q q')))
 |true=>
  refine ae (f6 ha rfl (ae (f6 hb rfl ?_)));simp only[KC,q0,v1,u1];refine ae (wpAny_eqBool_int ?_);by_cases q':i=j
  ·exact pG (c:=decide (i=j)=true) (dT q') (au ⟨iJ xH _,Uo q'⟩)
  ·refine fK (c:=decide (i=j)=true) (by rw[dF q'];exact dy) (ae (f6 ha rfl (ae (f6 hb rfl ?_))));simp only[q0,v1,u1];exact ae (gt_int (au (q q')))
theorem O1(q:R (.ok (.ret (.bool r))) s):∀{l k:List PV} {p:Nat},aR c f (vs.drop p) l->aR c f (ws.drop p) k->JG gt l k=some r->p<=vs.length->p<=ws.length->eO (ah pw w) Ar (.builtin "list.__eq__.loop" ⟨[.ref a,.ref e,c6 p,c6 (Ee gt)],[]⟩) R s:=by
 intro l;induction l with
 |nil=>exact λ{k p} r1 r2 h z1 z2=>Pf h (λ_ e1=>Mw ha hb (.inl (yY (aD (xz r1 z1)))) (by erw[xz r1 z1];erw[xz r2 z2];erw[N9];refine hZ (e1) ?_;exact q)) λ_ _ _ _ e=>nl e
 |cons x l ih=>
  intro k p r1 r2 h z1 z2;refine Pf h (λhn e1=>Mw ha hb (.inr (by
   obtain rfl:k=[]:=hn.resolve_left ln;exact yY (aD (xz r2 z2)))) (by erw[xz r1 z1];erw[xz r2 z2];erw[N9];refine hZ (e1) ?_;exact q)) λi l' j m' e1 e2 hc=>?_
  injection e1 with e1 e3
  subst e1 e3 e2;generalize h1:vs.drop p=d1 at r1;generalize h2:ws.drop p=d2 at r2;revert h1 h2;refine eC r1 λa1 r1=>eC r2 λa2 r2 h1 h2=>?_;have h1:=Oz h1;have h2:=Oz h2;revert h1 h2;refine bU a1 λt=>bU a2 λt' h1 h2=>C_ ha hb h1.1 h2.1 (λe=>ih (h1.2.1.symm▸r1) (h2.2.1.symm▸r2) ((iP e).symm.trans hc) h1.2.2 h2.2.2) λe=>ay ((iN e).symm.trans hc)▸q
end
section
variable{A:Am d}{l m:List PV}{r b:Bool}{pv qv:PV}{E:ac->ag->Prop}
theorem JX(ru:Rd (.list l) x u):x.s.TypeIs u "list":=dY ru λ{a n vs} e _ _=>(az _ (x.hs _ _ e) rfl)
theorem ad3{A:bh}{Q:ac->ag->Prop}(h:fh.ph l m=some b)(ru:Rd (.list l) x u)(rv:Rd (.list m) x v)(q:Q (.bool b) x.s):ai (ah pw c.w) A (bC (.builtin "list.__lt__") [u,v]) Q E x.s:=dY ru λ{a n vs} e1 r1 _=>dY rv λ{a' n' ws} e2 r2 _=>by
 refine qY (SZ S8.plain PySem.F.entry_list_lt (S8.check _ _ _ _ _ _ _ _ ⟨_,x.hs _ _ e1,rfl⟩ (PySem.F.args_list_lt_2 _ _) ?_));show ai _ _ (do
   if !(<-isInstance (.ref a') (.type "list")) then return<-ret .notImplemented
   again (.builtin "list.__eq__.loop" ⟨[.ref a,.ref a',c6 0,c6 0],[]⟩)) _ _ x.s
 exact ae (qZ (T:="list") ⟨_,x.hs _ _ e2,rfl⟩ agp (au ⟨iJ xH _,O1 (gt:=false) (p:=0) (x.hs _ _ e1) (x.hs _ _ e2) (R:=wants Q E) q r1 r2 h (cu _) (cu _)⟩))
theorem Xf{A:bh}{Q:ac->ag->Prop}(h:fh.ph m l=some b)(ru:Rd (.list l) x u)(rv:Rd (.list m) x v)(q:Q (.bool b) x.s):ai (ah pw c.w) A (bC (.builtin "list.__gt__") [u,v]) Q E x.s:=dY ru λ{a n vs} e1 r1 _=>dY rv λ{a' n' ws} e2 r2 _=>by
 refine qY (SZ S7.plain PySem.F.entry_list_gt (S7.check _ _ _ _ _ _ _ _ ⟨_,x.hs _ _ e1,rfl⟩ (PySem.F.args_list_gt_2 _ _) ?_));show ai _ _ (do
   if !(<-isInstance (.ref a') (.type "list")) then return<-ret .notImplemented
   again (.builtin "list.__eq__.loop" ⟨[.ref a,.ref a',c6 0,c6 4],[]⟩)) _ _ x.s
 exact ae (qZ (T:="list") ⟨_,x.hs _ _ e2,rfl⟩ agp (au ⟨iJ xH _,O1 (gt:=true) (p:=0) (x.hs _ _ e1) (x.hs _ _ e2) (R:=wants Q E) q r1 r2 h (cu _) (cu _)⟩))
theorem acH(h:xm O pv qv=some b)(Or:cg c O d)(ru:Rd pv x u)(rv:Rd qv x v):aE A (FF .Gt u v) x (Rd (.bool b)):=by
 induction pv using dh with
 |int i=>
  revert rv;exact fM h λj h1 h2=>eA h1 λrv=>bU ru λt=>bU rv λt' Q E K=>gt_int (h2▸k_here K .bool)
 |list l=>
  revert rv;exact aj h λm h1 h2=>pI h1 λrv Q E K=>wpAny_richCompare_same_room (JX ru) (JX rv) S7 (Xf h2 ru rv ⟨nofun,k_here K .bool⟩) (A.room (n:=0) (by lia))
 |inst k fs=>exact Or.cmp h ru rv
 |_=>exact nS h
theorem aat{Q:Bool->ag->Prop}(h:fh O pv qv=some b)(Or:cg c O d)(ru:Rd pv x u)(rv:Rd qv x v)(K:∀y,Le x y->Q b y.s):ai (ah pw c.w) A.A (keyLt' wP u v) Q E x.s:=by
 have hu:=A.room (n:=0) (by lia);rw[keyLt'_oneType];induction pv using dh with
 |int i=>
  revert rv;exact fM h λj h1 h2=>eA h1 λrv=>bU ru λt=>bU rv λt'=>oneLt_int (h2▸K x (.refl x))
 |str i=>
  revert rv;exact fM h λj h1 h2=>Bs h1 λrv=>jh ru λt=>jh rv λt'=>oneLt_str (h2▸K x (.refl x):Q (rZ i j) x.s)
 |list l=>
  revert rv;refine aj h λm h1 h2=>pI h1 λrv=>?_;rw[oneLt'_eq];exact ae (SG hu (ae (wpAny_callSpecialIfBound?_slot (JX ru) S8 (ad3 h2 ru rv (wC (K x (.refl x)))))))
 |inst k fs=>
  refine cP (Or.lt h) λg' h1 h2 h3=>?_;rw[oneLt'_eq];exact m8 ru λI _ _ ru=>ae (SG hu (ae (ifBound_K x.cT I h1 h2 (h3 (A:=A) ru rv _ _ λw y l r=>(r:w=J5 b)▸wC (K y l)))))
 |_=>exact nS h
end
theorem EF:(toString "max" ++toString ".loop":String)="max.loop":=by decide
section
variable{z:Pt c}{n:Nat}{vb:ac}{l:List PV}{r p:PV}{I:ao}{us:List ac}{K:ao->Prop}
theorem BI.seq{M:f4}{A:bh}{E:ac->ag->Prop}{Q:Unit->ag->Prop}{f:Array ac->Array ac}{us':List ac}(F:BI d x y S I g xs K (ed us))(e:f us.toArray=us'.toArray)(k:∀w:Pt c,w.f=y.f->BI d x w S I g xs K (ed us')->Q () w.s)(h1:us.toArray.size<=qT)(h2:(f us.toArray).size<=qT+1):ai M A (updateSeq S f) Q E y.s:=by
 obtain⟨o,go,n,rfl⟩:=F.b.o;have e':=KD go f;rw[e] at e';exact cP (F.but (tk:=y.s.toks) ed.nc (uR y.s.heap S (Fx f)) e' (ψ:=ed us') ⟨_,rfl⟩) λw e1 e2 F'=>wpAny_updateSeq go rfl (e1▸k w e2 F') h1 h2
theorem BI.items{M:f4}{A:bh}{E:ac->ag->Prop}{Q:Option (Array ac)->ag->Prop}(F:BI d x y S I g xs K (ed us))(q:Q (some us.toArray) y.s):ai M A (seqItems? (.ref S)) Q E y.s:=by
 obtain⟨o,go,n,rfl⟩:=F.b.o;exact wpAny_seqItems go rfl q
theorem J0(e:y.f=x.f)(r:Rd p x v):Rd p y v:=mE (af (λf=>aV c f v p) e) r
theorem uv{k:Nat}(h:us.length<=2):us.toArray.size<=qT+k:=aa (i4) (aa (Kr) (aq h (aq (by decide) (cW _ k))))
theorem ade{A:Am (d+1)}{R:mJ->ag->Prop}(Or:cg c O d)(k:∀v (w:Pt c),Le x w->Rd r w v->R (.ok (.ret v)) w.s):∀{xs:List PV} {K:ao->Prop} {y:Pt c} {vb:ac} {p:PV},BI d x y S I g xs K (ed [vb,vb])->Rd p y vb->ve (xm O) p xs=some r->eO (ah pw c.w) A.A (.builtin "max.loop" ⟨[.ref I,.none,.ref S],[]⟩) R y.s:=by
 intro xs;induction xs with
 |nil=>
  intro K y vb p F rp h;refine bE λgG hG=>?_;obtain rfl:=ay h;refine hG (jO S9 (aa (kA yZ _) (ae (F.items ?_))));show ai _ A.in1.A (tryCatch (gm (.ref I)) _>>=_) _ _ _;refine ae (FO (F.it.done A.in1 λz st=>bE λgG hG=>?_));have b:=F.end_ st;obtain⟨o,go,n,rfl⟩:=b.o;refine kU (b.but (tk:=z.s.toks) ed.nc (uR z.s.heap S (Fx λ_=> #[])) (KD go λ_=> #[]) (ψ:=λ_=>True) trivial) λw e1 e2 b' _=>?_;exact hG (ae (wpAny_updateSeq go rfl (ae (wL (au (e1▸k vb w b'.to (J0 e2 (st.rd rp))))))))
 |cons q xs ih=>
  intro K y vb p F rp h;refine aj h λb h1 h2=>jO S9 (aa (kA yZ _) (ae (F.items ?_)));show ai _ A.in1.A (tryCatch (gm (.ref I)) _>>=_) _ _ _;refine ae (FO (F.it.next A.in1 λv K' z rv i st _ dn=>?_));have F1:=F.next st i dn;show ai _ A.in1.A (tryCatch (yL [v,v] (FF .Gt v vb>>=_)) _>>=_) _ _ _;refine ae (FO (dO (ae (acH (A:=A.in1) h1 Or rv (st.rd rp) _ _ λrr w le e=>?_))));obtain rfl:rr=.bool b:=e;have F2:=F1.le le;refine ae (dO (wC (ae (wL (au ?_)))));induction b using je with
  |true=>
   refine ae (F2.seq (us':=[v,v]) rfl (λw' e F3=>ae (wL ?_)) (uv (k:=0) (bf _)) (uv (us:=[v,v]) (bf _)));exact aa (EF) (au ⟨iJ yZ _,ih F3 (J0 e (rv.mono le.sub)) h2⟩)
  |false=>
   exact ae (wL (aa (EF) (au ⟨iJ yZ _,ih F2 ((st.rd rp).mono le.sub) h2⟩)))
theorem Vh{A:Am (d+2)}(hm:uC O l=some r)(Or:cg c O d)(ra:Rd (.list l) x v):aE A (bC (.builtin "max") [v]) x (Rd r):=λQ E K=>by
 induction l using bO with
 |nil=>exact nS hm
 |cons q xs=>
  refine Ta PySem.F.kind_max PySem.F.plain_max PySem.F.entry_max (PySem.F.args_max1 _) ?_;show ai _ A.in1.A (agq "max" ["key","default"] 0 ⟨[],[]⟩>>=_) _ _ x.s;refine ae (B3 (show agq "max" ["key","default"] 0 ⟨[],[]⟩=pure [none,none] from rfl) (ae (au (ae (DB (A:=A.in1.mono (e:=d) (iH d)) ra _ _ λy I K' g le i nw g1 g2=>ae (uP (aa (EF) (au ⟨iJ yZ _,jO S9 ?_⟩))))))));erw[kA yZ _];have b:Bx x (y.push (bu [] 0) y.s.toks) y.s.heap.objs.size (ed []):=⟨cH.trans le.st (y.cG (t:=y.s.toks) λ_ _=>c5 _).st,⟨_,ft _ rfl,0,rfl⟩,(Pt.t8 rfl).1,le.e.back (y.j5 (bf _)) (eQ _)⟩;have F:BI d x (y.push (bu [] 0) y.s.toks) y.s.heap.objs.size I g (q::xs) K' (ed []):=⟨b,i.later (cH.later (W:=λ_=>False) (y.cG (t:=y.s.toks) λ_ _=>c5 _).st i.live λ_ _=>id),nw,λk=>(i.live _ k).2.elim λo e=>nS ((eQ _).symm.trans e),g1,g2⟩;refine ae (F.items ?_);show ai _ A.in1.A (tryCatch (gm (.ref I)) _>>=_) _ _ _;refine ae (FO (F.it.next (A.in1.mono (e:=d) (iH d)) λv K2 z rv i st _ dn=>?_));show ai _ A.in1.A (updateSeq _ (λ_=> #[v,v])>>=_) _ _ _;refine ae ((F.next st i dn).seq (us':=[v,v]) rfl (λw e F3=>?_) (uv (k:=0) (by decide)) (uv (us:=[v,v]) (bf _)));exact aa (EF) (au ⟨iJ yZ _,ade (A:=A.mono (e:=d+1) (iH _)) Or (λv w l r=>K v w l r) F3 (J0 e rv) hm⟩)
end
end
section
variable{c:Cx}{x y:Pt c}{d n:Nat}{u v:ac}{ps xs:List PV}{O:aK}{us vs keys items:List ac}{E:ac->ag->Prop}{S:ao}
def vt(n:Nat):ac:=if n=4 then .ref dm else .type (if n=1 then"int" else if n=2 then"str" else"list")
section
variable{e:Nat}{A:Am d}{p q:PV}{α:Type}{l r:List α}{k w:α->PV}{kind:SortKind}
theorem Ra{α β:Type}{M:f4}{A:bh}{s:ag}{c:Prop}[Decidable c]{X Y:Sem α}{k:α->Sem β}{Q:β->ag->Prop}(h:ai M A ((if c then X else Y)>>=k) Q E s):ai M A (if c then X>>=k else Y>>=k) Q E s:=by
 by_cases q:c
 ·rw[iP q] at h⊢;exact h
 ·rw[iN q] at h⊢;exact h
theorem x_(h:jX q≠0)(r:Rd q x v):iG (ah pw c.w) x.s.heap (tq v) (vt (jX q)):=by
 induction q using dh with
 |int=>exact bU r λ_=>.of_pure rfl
 |str=>exact jh r λ_=>.of_pure rfl
 |list=>exact λ_ _ _ _ k q=>dY r (λ{a n vs} e _ _ q=>FN (T:="list") (az _ (k _ _ (x.hs _ _ e)) rfl) q) q
 |inst k fs=>
  by_cases e:k=dm
  ·obtain rfl:=e;exact m8 r λI _ _ _=>I.type
  ·exact absurd (iN e) h
 |_=>exact absurd rfl h
theorem Nq:(vt n !=iE "tuple")=true/\(vt n==vt n)=true:=by
 refine⟨?_,beq_self_eq_true _⟩;unfold vt;by_cases h:n=4
 ·erw[iP h];decide
 ·erw[iN h];by_cases h:n=1
  ·erw[iP h];decide
  ·erw[iN h];by_cases h:n=2
   ·erw[iP h];decide
   ·erw[iN h];decide
theorem adk(h:oN ps=true)(jP:ps≠[])(r:bt ps x vs):∃p,∀v∈vs,iG (ah pw c.w) x.s.heap (tq v) (vt (jX p)):=by
 induction ps using bO with
 |nil=>exact absurd rfl jP
 |cons p ps=>
  obtain⟨h1,h2⟩:=aW h;have hp:jX p≠0:=λe=>by rw[e] at h1;exact ff h1
  have go:∀{ps:List PV} {vs:List ac},(∀q∈ps,jX q=jX p)->bt ps x vs->∀v∈vs,iG (ah pw c.w) x.s.heap (tq v) (vt (jX p)):=λ{ps}=>by
   induction ps with
   |nil=>exact λ_ r=>iR r λ_ m=>mN m
   |cons q ps ih=>exact λh r=>eC r λa r v m=>(bw m).elim (λe=>e▸h q (.head _)▸x_ (h q (.head _)▸hp) a) λm=>ih (λq m=>h q (.tail _ m)) r v m
  exact⟨p,go (λq m=>(bw m).elim (λe=>e▸rfl) λm=>a5 (b7 h2 q m)) r⟩
theorem Mn{Q:SortKind->ag->Prop}(hn:n=keys.length)(ty:oN ps=true)(rk:bt ps x keys)(h:∀k,(¬n<2->k=wP)->Q k x.s):ai (ah pw c.w) A.A (if n<2 then pure general' else keyKind' keys.toArray) Q E x.s:=by
 by_cases c:n<2
 ·exact pG c (au (h _ λq=>absurd c q))
 ·refine dN (adk ty (λe=>c (by erw[hn];erw[rk.length];erw[e];decide)) rk) λp t=>?_;exact fK c (kas_kind (hn▸cZ c) t Nq.1 Nq.2 (h _ λ_=>rfl))
theorem Mz(hl:keys.length=items.length){i:Nat}(hi:i<keys.length):kas_item (keys.toArray.zip items.toArray) i=(keys.getD i oh,items.getD i oh):=by
 have h2:i<items.length:=hl▸hi;have hz:i<(keys.toArray.zip items.toArray).size:=by simp;exact Nat.lt_min.mpr ⟨hi,h2⟩
 unfold kas_item Array.getD;erw[dif_pos hz];simp[hi,h2]
theorem Pr{i:Nat}(e:us[i]?=some u):us.getD i oh=u:=by erw[tv];erw[e];rfl
theorem aeI(r:bt (l.map w) x items):∀{ps:List Nat} {out:List α},(ps.mapM λi=>l[i]?)=some out->bt (out.map w) x (ps.map λi=>items.getD i oh)/\∀i∈ps,i<l.length:=by
 intro ps;induction ps with
 |nil=>exact λh=>ay h▸⟨.nil,λ_ m=>mN m⟩
 |cons i ps ih=>
  intro out h;rw[qV] at h;refine aj h λa h1 h2=>aj h2 λo h3 h4=>?_;obtain rfl:=ay h4;obtain⟨k1,k2⟩:=ih h3;refine aB (r.get (i:=i) (p:=w a) (by erw[ot];erw[h1];rfl)) λu e1 e2=>?_;refine⟨?_,λj m=>(bw m).elim (λe=>e▸(zd.mp h1).1) (k2 j)⟩;exact aa (oz) (aa (oz) (aa (Pr e1) (.cons e2 k1)))
theorem Ω{β:Type}{it:Array Keyed}(Or:cg c O d)(hk:∀i a,l[i]?=some a->Rd (k a) x (kas_item it i).1)(t:KasT β):∀{r:β} {y:Pt c} {Q:β->ag->Prop},p6 (λi j=>(l[i]?).bind λa=>(l[j]?).bind λb=>fh O (k a) (k b)) t=some r->Le x y->(∀z:Pt c,Le x z->Q r z.s)->t.kasWp (kas_cmp pw c.w A.A wP it) Q y.s:=by
 induction t with
 |ret b=>exact λh le K=>ay h▸K _ le
 |ask i j kk ih=>exact λh le K=>aj h λb h1 h2=>aj h1 λa h3 h4=>aj h4 λa' h5 h6=>aat (A:=A) h6 Or ((hk i a h3).mono le.sub) ((hk j a' h5).mono le.sub) λz l=>ih b h2 (le.trans l) K
theorem RN{Q:Unit×SortSt->ag->Prop}(hs:ll (λa b=>fh O (k a) (k b)) l=some r)(Or:cg c O d)(rk:bt (l.map k) x keys)(ri:bt (l.map w) x items)(hk:¬items.length<2->kind=wP)
(K:∀(y:Pt c) z us,Le x y->(arrOf z.2).map (·.2)=us.toArray->bt (r.map w) y us->failedOf z.2=none->r.length=l.length->Q z y.s):ai (ah pw c.w) A.A ((if items.length<2 then pure () else sortRuns').run (Tb kind (keys.toArray.zip items.toArray) #[] 7 none)) Q E x.s:=by
 have l1:keys.length=l.length:=rk.length.trans (bi _);have l2:items.length=l.length:=ri.length.trans (bi _);refine d6 hs (λcc hs=>?_) λcc hs=>aL hs λu8 hs=>aj hs λp h1 h2=>?_
 ·refine bE λgG hG=>?_;obtain rfl:=ay hs;refine hG (aa (iP (l2.symm▸cc)) ?_);rw[StateT.run_pure];exact au (K x _ items (.refl x) (ze.mp (by
   show((keys.toArray.zip items.toArray).map (·.2)).toList=items;refine aa (Tc) (aa (Array.toList_zip) ?_);exact List.map_snd_zip (aD (l2.trans l1.symm)))) ri rfl rfl)
 ·refine aa (iN (l2.symm▸cc)) (aa (hk (l2.symm▸cc)) ?_);have hn:(keys.toArray.zip items.toArray).size=l.length:=by simp[l1,l2]
  have run:=kas_runs (prog:=pw) (w:=c.w) (A:=A.A) (E:=No) (n:=l.length) (it:=keys.toArray.zip items.toArray) (κ:=wP) (Q:=λa st' s'=>Q (a,st') s') (G:=λp' s'=>p'=p/\∃y:Pt c,Le x y/\s'=y.s) (s:=x.s)
   (cZ cc) u8 (λp' st' s' a1 a2 a3 a4=>by
    obtain⟨rfl,y,le,rfl⟩:=a4;refine dS (aeI (ri.mono le.sub) h2) λk1 k2=>K y ((),st') _ le ?_ k1 a3 (by have:=k1.length;rw[bi,bi,Fo,a1] at this;exact this.symm);show(arrOf st').map (·.2)=_;erw[a2];apply ze.mp;refine aa (Array.map_map) (aa (Tc) ?_);refine pT λi m=>?_;show(kas_item (keys.toArray.zip items.toArray) i).2=_;erw[Mz (l1.trans l2.symm) (l1.symm▸k2 i m)];rfl)
   (Ω (A:=A) Or (λi a e=>by
    refine aB (rk.get (i:=i) (p:=k a) (by erw[ot];erw[e];rfl)) λu e1 e2=>?_;erw[Mz (l1.trans l2.symm) (zd.mp e1).1];exact(Pr e1).symm▸e2) (kas_sort l.length) h1 (.refl x) λz le=>⟨rfl,z,le,rfl⟩)
  have est:kas_st wP (keys.toArray.zip items.toArray) (List.toArray (ax l.length))=Tb wP (keys.toArray.zip items.toArray) #[] 7 none:=by
   have e:=kas_range (keys.toArray.zip items.toArray);rw[hn] at e;exact af (λz=>Tb wP z #[] 7 none) e
  rw[est] at run;exact cQ run (λ_ _ z=>z) λ_ _ z=>z.elim
end
section
variable{z:Pt c}{A:Am d}{out:List PV}{p:PV}{k:Str}{r:List (PV×PV)}{o:Obj}
theorem xS(h:us.length<=aA):us.toArray.size<=qT:=by erw[i4];exact rM h
theorem BA{M:f4}{A:bh}{f:Array ac->Array ac}{Q:Unit->ag->Prop}{φ:Obj->Prop}(b:Bx x y S φ)(CI:∀o,φ o->∃n,o=bu us n)(e:f us.toArray=vs.toArray)(h1:us.length<=aA)(h2:vs.length<=aA)
(k:∀(w:Pt c) n,w.f=y.f->Bx x w S (· =bu vs n)->Q () w.s):ai M A (Td (.ref S) f) Q E y.s:=by
 have nc:∀o,φ o->o.cls≠ .type "code":=λo p=>ed.nc o (CI o p);have b':=b;refine aB b'.o λo go p=>?_;obtain⟨n,rfl⟩:=CI o p;have e':=KD go f;rw[e] at e';exact kU (b.but (tk:=y.s.toks) nc (uR y.s.heap S (Fx f)) e' (ψ:=(· =seqObj "list" vs.toArray _)) rfl) λw e1 e2 F _=>listUpdate_at go rfl (e1▸k w _ e2 F) (xS h1) (by erw[e];exact yT (xS h2))
theorem Bx.at_(b:Bx x y S (· =o)):y.s.heap.get? S=some o:=by
 refine aB b.o λ_ e bZ=>?_;subst bZ;exact e
theorem Zz{Q:PySem.Fin->ag->Prop}(hs:ll (fh O) ps=some out)(ty:oN ps=true)(Or:cg c O d)(b:Bx x y S (ed us))(rd:bt ps y us)(hz:ps.length<=aA)
(K:∀(w:Pt c) us',Bx x w S (ed us')->bt out w us'->out.length=ps.length->Q (.done (.ret .none)) w.s):ai (ah pw c.w) A.A (Builtin.«list.sort» ⟨[.ref S],[]⟩) Q E y.s:=by
 refine bE λgG hG=>?_;obtain⟨o,go,n,rfl⟩:=b.o;have hl:us.length<=aA:=rd.length▸hz;refine hG ?_;rw[list_sort_plain];refine ae (f6 go rfl (ae (BA (vs:=[]) b (λ_=>id) rfl hl (cu _) λw n1 e1 b1=>ae (KE b1.at_ rfl (ae (wpAny_newTuple (ae (KF ?_ (cu _))) (by erw[agr];exact rM hl)))))));have le:=(w.cG (t:=w.s.toks) λ_ _=>c5 (fS us 0)).trans (Pt.cG (t:=w.s.toks) (w.push (fS us 0) w.s.toks) λ_ _=>c5 (bu [] 0));have r1:bt ps ((w.push (fS us 0) w.s.toks).push (bu [] 0) w.s.toks) us:=(mE (af (λf=>aR c f us ps) e1) rd:bt ps w us).mono le.sub;refine dO (Ra (ae (Mn (A:=A) (x:=(w.push (fS us 0) w.s.toks).push (bu [] 0) w.s.toks) (keys:=us) (ps:=ps) (n:=us.toArray.size) i4 ty r1 λkd hk=>ae (RN (A:=A) (α:=PV) (l:=ps) (r:=out) (k:=λx=>x) (w:=λx=>x) (keys:=us) (items:=us) hs Or (by rw[KG];exact r1) (by rw[KG];exact r1) hk λy3 z us' Gs e3 r3 f3 l3=>?_))));rw[KG] at r3;have b3:=(b1.le le).le Gs;have LG:us'.length<=aA:=r3.length▸l3▸hz;obtain⟨u,st⟩:=z;dsimp only at e3 f3⊢;refine ae (KE b3.at_ rfl (ae (BA (us:=[]) (vs:=us') b3 (λo e=>⟨_,e⟩) e3 (cu _) LG λw4 n4 e4 b4=>aa (f3) (fK (by simp) (au (K w4 us' ⟨b4.st,⟨_,b4.at_,n4,rfl⟩,b4.fr,b4.nS⟩ (mE (af (λf=>aR c f us' out) e4) r3) l3))))))
end
section
variable{z:Pt c}{A:Am d}{g:ac}{kd:List PV}{p q:PV}{T:ao}{k:Str}{ks r:List (PV×PV)}{o:Obj}
theorem GD{X:Prop}{ks:List (PV×PV)}(h:n9 O k (p::ps)=some ks)(K:∀u r,O.fn k [p] []=some u->n9 O k ps=some r->ks=(u,p)::r->X):X:=by
 unfold n9 at h K;rw[qV] at h;exact aj h λq h1 h2=>aj h2 λr h3 h4=>fM h1 λu h5 h6=>K u r h5 h3 (h6▸(ay h4).symm)
theorem OI(h:n9 O k ps=some ks):ks.map (·.2)=ps:=by
 induction ps generalizing ks with
 |nil=>exact ay h▸rfl
 |cons p ps ih=>exact GD h λu r _ h2 e=>e▸af (List.cons p) (ih h2)
theorem Bx.acX{φ:Obj->Prop}{w:Pt c}(b:Bx x y S φ)(ne:S≠T)(st:br (λb=>b=T) 0 y w)(f:w.f=y.f)(l:cH (λb=>x.s.heap.get? b=none) x w):Bx x w S φ:=aB b.o λo e p=>⟨l,(az o (st.e.keep S o e (cN b.fr.hi) ne) p),⟨(congrFun f S).trans b.fr.f,b.fr.h₀,b.fr.hi⟩,b.nS⟩
theorem QC{M:f4}{A:bh}{f:Array ac->Array ac}{Q:Unit->ag->Prop}{φ ψ:Obj->Prop}(b:Bx x y T φ)(b':Bx x y S ψ)(ne:S≠T)(CI:∀o,φ o->∃n,o=bu us n)(e:f us.toArray=vs.toArray)(h1:us.length<=aA)(h2:vs.length<=aA)
(k:∀(w:Pt c) n,w.f=y.f->Bx x w T (· =bu vs n)->Bx x w S ψ->Q () w.s):ai M A (Td (.ref T) f) Q E y.s:=by
 have nc:∀o,φ o->o.cls≠ .type "code":=λo p=>ed.nc o (CI o p);have bb:=b;refine aB bb.o λo go p=>dN (CI o p) λn bY=>?_;subst bY;have e':=KD go f;rw[e] at e';exact kU (b.but (tk:=y.s.toks) nc (uR y.s.heap T (Fx f)) e' (ψ:=(· =seqObj "list" vs.toArray _)) rfl) λw e1 e2 F st=>listUpdate_at go rfl (e1▸k w _ e2 F (b'.acX ne (st 0) e2 F.st)) (xS h1) (by erw[e];exact yT (xS h2))
theorem wc{w:Pt c}(e:w.f=y.f)(r:bt ps y us):bt ps w us:=mE (af (λf=>aR c f us ps) e) r
theorem adO{ψ:Obj->Prop}{Q:PUnit->ag->Prop}{body:ac->PUnit->Sem (ForInStep PUnit)}(hb:∀(v:ac) (s:ag) (Q:ForInStep PUnit->ag->Prop),(∀E',ai (ah pw c.w) A.A (bC g [v]) (λk s=>ai (ah pw c.w) A.A (Td (.ref T) (·.push k)) (λ_ s=>Q (.yield ⟨⟩) s) E s) E' s)->ai (ah pw c.w) A.A (body v ⟨⟩) Q E s)
(CJ:∀{p q:PV} {v:ac} {y:Pt c},O.fn k [p] []=some q->Rd p y v->aE A (bC g [v]) y (Rd q))(ne:S≠T)(hz:kd.length+ks.length<=aA)
(hk:n9 O k ps=some ks)(r1:bt ps y us)(r2:bt kd y vs)(b:Bx x y T (ed vs))(b':Bx x y S ψ)(K:∀(w:Pt c) wY,Sub y.f w.f->Bx x w T (ed wY)->Bx x w S ψ->bt (kd++ks.map (·.1)) w wY->Q ⟨⟩ w.s):
  ai (ah pw c.w) A.A (forIn us Cg body) Q E y.s:=by
 induction ps generalizing y us vs kd ks with
 |nil=>
  obtain rfl:[]=ks:=ay hk;exact iR r1 (aa (yK) (au (K y vs (λ_ _ e=>e) b b' (by erw[List.map_nil];rw[gO];exact r2))))
 |cons p ps ih=>
  refine eC r1 λ{v us} a r1=>GD hk λu r h1 h2 e=>?_;subst e;rw[wF];refine ae (hb _ _ _ λE'=>CJ h1 a _ _ λkv z le rk=>?_);have hv:vs.length+1<=aA:=by erw[r2.length];exact aq (i3 (eE _) _) hz
  refine QC (vs:=vs++[kv]) (b.le le) (b'.le le) ne (λ_=>id) (by simp) (lB hv) (by erw[da];exact hv) λw n e1 b1 b2=>?_;refine ih (kd:=kd++[u]) (by rw[da,fC,gj [u].length];exact hz) h2 (wc e1 (r1.mono le.sub)) (wc e1 (aR.append (.cons rk .nil) (r2.mono le.sub))) ⟨b1.st,⟨_,b1.at_,n,rfl⟩,b1.fr,b1.nS⟩ b2 λw' wY sub c1 c2 rd=>K w' wY (λa o q=>sub a o ((congrFun e1 a).trans (le.sub a o q))) c1 c2 ?_;rw[kt] at rd;exact rd
theorem K_{Q:PySem.Fin->ag->Prop}(ht:∀a,Builtin.«list.sort» ⟨[.ref a],[(dw "key",g)]⟩=ksk_tree a g false)(hk:n9 O k ps=some ks)(ty:oN (ks.map (·.1))=true)(hs:ll (λa b=>fh O a.1 b.1) ks=some r)(Or:cg c O d)
(CJ:∀{p q:PV} {v:ac} {y:Pt c},O.fn k [p] []=some q->Rd p y v->aE A (bC g [v]) y (Rd q))(b:Bx x y S (ed us))(rd:bt ps y us)(hz:ps.length<=aA)
(K:∀(w:Pt c) us',Bx x w S (ed us')->bt (r.map (·.2)) w us'->(r.map (·.2)).length=ps.length->Q (.done (.ret .none)) w.s):ai (ah pw c.w) A.A (Builtin.«list.sort» ⟨[.ref S],[(dw "key",g)]⟩) Q E y.s:=by
 refine bE λgG hG=>?_;obtain⟨o,go,n,rfl⟩:=b.o;have hl:us.length<=aA:=rd.length▸hz;have lk:ks.length=ps.length:=by refine hZ (OI hk) ?_;rw[bi]
 refine hG ?_;rw[ht];refine ae (f6 go rfl (ae (BA (vs:=[]) b (λ_=>id) rfl hl (cu _) λw n1 e1 b1=>ae (KE b1.at_ rfl (ae (wpAny_newTuple (ae (KF ?_ (cu _))) (by erw[agr];exact rM hl)))))));have l1:=w.cG (t:=w.s.toks) λ_ _=>c5 (fS us 0);have l2:=Pt.cG (t:=w.s.toks) (w.push (fS us 0) w.s.toks) λ_ _=>c5 (bu [] 0);have bT:Bx x ((w.push (fS us 0) w.s.toks).push (bu [] 0) w.s.toks) (w.push (fS us 0) w.s.toks).s.heap.objs.size (ed []):=by
  have n:=(w.push (fS us 0) w.s.toks).t8 (o:=bu [] 0) (t:=w.s.toks) rfl;exact⟨((b1.le l1).le l2).st,⟨_,n.2,0,rfl⟩,n.1,((b1.le l1).st.e.back (cN n.1.hi) (eQ _)).elim id id⟩
 have ne:S≠(w.push (fS us 0) w.s.toks).s.heap.objs.size:=gE (fB (b1.le l1).at_);have r1:bt ps ((w.push (fS us 0) w.s.toks).push (bu [] 0) w.s.toks) us:=(wc e1 rd).mono (l1.trans l2).sub;refine dO (ae (uO ?_));rw[SV];refine ae (adO (A:=A) (O:=O) (k:=k) (g:=g) (kd:=[]) (vs:=[]) (y:=(w.push (fS us 0) w.s.toks).push (bu [] 0) w.s.toks) (λv s Q h=>ae (Kz (cQ (h _) (λ_ _ z=>ae (cQ z (λ_ _ z=>au z) λ_ _ z=>z)) λ_ _ z=>z))) CJ ne (by erw[lk];erw[Ca];rw[f5];exact hz) hk r1 .nil bT ((b1.le l1).le l2) λw2 ku sub Uq b2 rk=>?_);refine bE λgG hG=>?_;have rk:bt (ks.map (·.1)) w2 ku:=rk;have Ur:ku.length=us.length:=rk.length.trans ((bi _).trans (lk.trans rd.length.symm));have hku:ku.length<=aA:=Ur▸hl;obtain⟨_,gT,nT,rfl⟩:=Uq.o;have ri:bt (ks.map (·.2)) w2 us:=OI hk▸r1.mono sub;refine hG (ae (f6 gT rfl (Ra (ae (Mn (A:=A) (x:=w2) (keys:=ku) (ps:=ks.map (·.1)) (n:=us.toArray.size) (i4.trans Ur.symm) ty rk λkd hkd=>ae (RN (A:=A) (α:=PV×PV) (l:=ks) (r:=r) (k:=(·.1)) (w:=(·.2)) (keys:=ku) (items:=us) hs Or rk ri hkd λy3 z us' Gs e3 r3 f3 l3=>?_))))));have LG:us'.length<=aA:=r3.length▸(bi (f:=(·.2)) (as:=r))▸l3▸lk▸hz;obtain⟨u,st⟩:=z;dsimp only at e3 f3⊢;exact ae (QC (us:=ku) (vs:=[]) (Uq.le Gs) (b2.le Gs) ne (λ_=>id) rfl hku (cu _) λw4 n4 e4 b4 b5=>ae (wL (ae (KE b5.at_ rfl (ae (BA (us:=[]) (vs:=us') b5 (λo e=>⟨_,e⟩) e3 (cu _) LG λw5 n5 e5 b6=>aa (f3) (fK (by simp) (au (K w5 us' ⟨b6.st,⟨_,b6.at_,n5,rfl⟩,b6.fr,b6.nS⟩ (wc e5 (wc e4 r3)) ((bi _).trans (l3.trans lk)))))))))))
end
def HO(Q:List ac->ag->Prop)(v:ac)(s:ag):Prop:=∃a us n,v=.ref a/\s.heap.get? a=some (bu us n)/\Q us s
def JL(Q:List ac->ag->Prop)(r:mJ)(s:ag):Prop:=∃v,r=.ok (.ret v)/\HO Q v s
def GY{c:Cx}{d:Nat}(A:Am d)(u:ac)(x:Pt c)(ps:List PV):Prop:=∀(Q:List ac->ag->Prop) E,(∀y us,Le x y->bt ps y us->Q us y.s)->ai (ah pw c.w) A.A (collect u) Q E x.s
section
variable{z:Pt c}{g:Nat}{res:ac}{all:List PV}{I a:ao}{K:ao->Prop}{s:ag}{w:cO}{A:bh}{Q:List ac->ag->Prop}
theorem M7(h:ai (ah pw w) A.in1 (KH (.ref s.heap.objs.size) u (.ref s.heap.objs.size)) (λfin s'=>match fin with
    |.done fl=>JL Q (.ok fl) s'
    |.again c'=>c'.quiet=true/\eO (ah pw w) A c' (JL Q) s') No {s with heap:=s.heap.push (bu [] 0)}):ai (ah pw w) A (collect u) Q E s:=by
 have fin:∀v s',HO Q v s'->ai (ah pw w) A (match v with
   |.ref a=>do match(<-load a).data with
    |.seq xs _=>pure xs.toList
    |_=>unsupported "internal:collect"
   |_=>unsupported "internal:collect") Q E s':=λv s' z=>by
  refine jz z λa us n c4 ga q=>?_;subst c4;exact ae (Ft ga (au q))
 unfold collect;refine ae (S1 (jO PySem.F.entry_proto_collect (aa (kA PySem.F.plain_proto_collect _) (ae (m:=newList []) (uP (au ⟨iJ ags _,jO PySem.F.entry_list_iadd ?_⟩))))));erw[kA ags _];show ai _ A.in1 (KH (.ref s.heap.objs.size) u (.ref s.heap.objs.size)) _ _ _;refine cQ h (λahp s' z=>?_) λ_ _ z=>z.elim;cases ahp with
 |done fl=>
  refine aB z λv e z=>?_;injection e with e
  exact e▸fin v s' z
 |again c'=>
  refine⟨z.1,FG z.2 λr i8 q=>?_⟩;obtain⟨v,rfl,q⟩:=q;exact fin v i8 q
theorem Bx.NE(b:Bx x y S (ed us))(r:bt ps y us)(K:∀y us,Le x y->bt ps y us->Q us y.s):HO Q (.ref S) y.s:=by
 obtain⟨o,e,n,rfl⟩:=b.o;exact(jS S us n rfl e (K y us b.to r))
theorem ado{A:Am (d+1)}{R:mJ->ag->Prop}(hz:all.length<=aA)(k:∀(w:Pt c) us',Bx x w S (ed us')->bt all w us'->R (.ok (.ret res)) w.s):∀{xs ps:List PV} {K:ao->Prop} {y:Pt c} {us:List ac},BI d x y S I g xs K (ed us)->bt ps y us->ps++xs=all->eO (ah pw c.w) A.A (.builtin "list.extend.loop" ⟨[.ref S,.ref I,res],[]⟩) R y.s:=by
 intro xs;induction xs with
 |nil=>
  intro ps K y us F r e;exact jO agt (aa (kA FP _) (ae (F.it.done A.in1 λz st=>au (k z us (F.end_ st) ((gO ps).symm.trans e▸r.mono st.sub)))))
 |cons p xs ih=>
  intro ps K y us F r e;refine jO agt (aa (kA FP _) (ae (F.it.next A.in1 λv K' z rv i st _ dn=>?_)));show ai _ A.in1.A (updateSeq S (·.push v)>>=_) _ _ _;have hl:us.length+1<=aA:=by
   refine aa (r.length) (aq ?_ hz);exact hZ (e) (aa (da) (aa (wB) (i3 (eE _) _)))
  exact ae ((F.next st i dn).seq (us':=us++[v]) (by simp) (λw e1 F2=>au ⟨iJ FP _,ih (ps:=ps++[p]) F2 (wc e1 (aR.append (.cons rv .nil) (r.mono st.sub))) (by rw[kt];exact e)⟩) (xS (lB hl)) (by rw[Array.size_push];exact yE (xS (lB hl))))
theorem Mx{A:Am d}{T:String}(hT:T="list"\/T="tuple")(ha:x.f a=some {cls:=.type T,data:=.seq vs.toArray n})(r:bt ps x vs)(hz:ps.length<=aA):GY A (.ref a) x ps:=λQ E K=>by
 have u7:=c5 (bu [] 0) (x.hs _ _ ha);have hl:vs.length<=aA:=r.length▸hz;refine M7 ?_;unfold KH;refine ae (FN (T:=T) (az _ u7 rfl) (pG (by rcases hT with rfl|rfl<;>simp) (ae (f6 u7 rfl (ae (f6 (xs:= #[]) (n:=0) (ft _ rfl) rfl (fK (by simp) ?_)))))));exact ae (BA (x:=x) (y:=x.push (bu [] 0) x.s.toks) (us:=[]) (vs:=vs) (Bx.new (φ:=ed []) rfl ⟨0,rfl⟩) (λ_=>id) (by simp) (cu _) hl λw n e b=>au (az _ rfl (Bx.NE ⟨b.st,⟨_,b.at_,n,rfl⟩,b.fr,b.nS⟩ (wc e (r.mono (x.cG (t:=x.s.toks) λ_ _=>c5 (bu [] 0)).sub)) K)))
def BH(w:cO)(a:ao)(s:ag):Prop:=∀{A:bh} {Q:Bool->ag->Prop},(∀b t,Q b {s with toks:=t})->ai (ah pw w) A (Te (.ref a)) Q No s
end
section
variable{z:Pt c}{g:Nat}{I a:ao}{K:ao->Prop}{s:ag}{w:cO}{es:Array (Int×ac)}{t:a8}{lo hi:Int}{p:PV}{β:Type}{k:List PV->Option β}{r:β}{Q:List ac->ag->Prop}
theorem adf(ga:s.heap.get? a=some (dH es n t)):BH w a s:=λ{A Q} h=>by
 have hT:s.TypeIs (.ref a) "set":=(az _ ga rfl);unfold Te;refine ae (Fk hT PySem.F.slot_set_len.lookup ?_);generalize Us:("set.__len__":String)=id0;dsimp only;erw[(by subst Us;decide+kernel:splitId id0=some ("set","__len__"))];subst Us;refine ae (qZ (T:="set") (b:=true) hT Kx (Tf (λLH=>absurd LH (by decide)) (λ_=>Tf (λ_=>?_) (λLH=>absurd (by decide+kernel) LH))));exact ae (FN hT (au (h false s.toks)))
theorem WH{t1 t2 t3:Tok}(e:s.heap.get? a=some (Bo lo hi t1 t2 t3))(hn:hi-lo<=(aA:Nat)):BH w a s:=λ{A Q} h=>wpAny_hint_range (n:=(hi-lo).toNat) e Gz (by unfold aA at hn;lia) (h _ _)
theorem MG{x0:Pt c}{A:Am (d+1)}{T:String}(Ut:Le x0 x)(hT:x.s.TypeIs (.ref a) T)(h1:(iE T==iE "list")=false)(h2:(iE T==iE "tuple")=false)(hz:xs.length<=aA)
(it:∀{y:Pt c} {S:ao} {Q:ac->ag->Prop} {E},Le x y->Bx x0 y S (ed [])->x.s.heap.get? S=none->(∀z I K g,BI d x0 z S I g xs K (ed [])->BH c.w a z.s->Q (.ref I) z.s)->ai (ah pw c.w) A.in1.A (gk (.ref a)) Q E y.s)
(K:∀y us,Le x0 y->bt xs y us->Q us y.s):ai (ah pw c.w) A.A (collect (.ref a)) Q E x.s:=by
 refine aB hT λo e1 e2=>?_;have le:=x.cG (t:=x.s.toks) λ_ _=>c5 (bu [] 0);have b:Bx x0 (x.push (bu [] 0) x.s.toks) x.s.heap.objs.size (ed []):=⟨cH.trans Ut.st le.st,⟨_,ft _ rfl,0,rfl⟩,(Pt.t8 rfl).1,Ut.e.back (x.j5 (bf _)) (eQ _)⟩;refine M7 ?_;unfold KH;refine ae (FN (T:=T) (az o (c5 _ e1) e2) ?_);have h3:agu (.ref x.s.heap.objs.size) (.ref a)=false:=by simp[agu,fO (fB e1)]
 simp only[h1,h2,h3,yG,yM,if_false];refine ae (it le b (eQ _) λz I K' g F hint=>ae (dO (hint λroom tk=>?_)));have F:=F.le (z.cG (h':=z.s.heap) (t:=tk) λ_ _ e=>e);have fin:∀{y:Pt c},BI d x0 y x.s.heap.objs.size I g xs K' (ed [])->eO (ah pw c.w) A.A (.builtin "list.extend.loop" ⟨[.ref x.s.heap.objs.size,.ref I,.ref x.s.heap.objs.size],[]⟩) (JL Q) y.s:=λF=>ado hz (λw us' b r=>⟨_,rfl,b.NE r K⟩) F .nil rfl;refine Tf (λ_=>ae (uO ?_)) (λ_=>au ⟨iJ FP _,fin F⟩);unfold Builtin.List.listTouch;refine ae (ae (F.seq (us':=[.none]) rfl (λw1 _ F1=>F1.seq (us':=[]) rfl (λw2 _ F2=>au ⟨iJ FP _,fin F2⟩) (uv (k:=0) (by decide)) (uv (us:=[]) (by decide))) (uv (k:=0) (by decide)) (uv (us:=[.none]) (by decide))))
theorem N5{A:Am (d+1)}{T:String}(hT:x.s.TypeIs (.ref a) T)(h1:(iE T==iE "list")=false)(h2:(iE T==iE "tuple")=false)(hint:∀{y:Pt c},Le x y->BH c.w a y.s)(hz:xs.length<=aA)(it:∀{A:Am d} {y:Pt c},Le x y->qA A (gk (.ref a)) y xs):GY A (.ref a) x xs:=λQ E K=>
 MG (.refl x) hT h1 h2 hz (λle b _ k=>it le _ _ λz I K g l i nw g1 g2=>k z I K g (BI.mk' b l i nw g1 g2) (hint (le.trans l))) K
theorem ac6{A:Am (d+1)}(h:eJ p k=some r)(rd:Rd p x u):∃ps,k ps=some r/\ps.length<=aA/\GY A u x ps:=fU h λhn h=>by
 induction p using dh with
 |tup l=>exact iX rd λ{a n vs} e rl z=>⟨l,h,z,Mx (T:="tuple") (.inr rfl) e rl z⟩
 |list l=>exact dY rd λ{a n vs} e rl z=>⟨l,h,z,Mx (T:="list") (.inl rfl) e rl z⟩
 |d8 lo hi=>
  exact p9 rd λ{a t1 t2 t3} e z1 z2 hz=>by
   have Uu:((ax (hi-lo).toNat).map λk:Nat=>PV.int (lo+k)).length<=aA:=by
    rw[bi,cF];exact Lc.mpr hz
   exact(cz _ h Uu (N5 (T:="range") (az _ (x.hs _ _ e) rfl) (by decide) (by decide) (λle=>WH (Pt.hs _ _ _ (le.sub _ _ e)) hz) Uu λle=>JY (.d8 (le.sub _ _ e) z1 z2 hz)))
 |set l=>
  have LI:=rd;revert LI;exact ly rd λ{a es n t} e he ht LI=>by
   refine aB (Qs (d:=d) LI) λl' p g=>?_;have hz:(l'.map λn:Nat=>PV.int n).length<=aA:=by
    rw[bi,p.length_eq];exact aq ht.len (by decide)
   exact(cz _ (xg (h:qj l k=some r) p) hz (N5 (T:="set") (az _ (x.hs _ _ e) rfl) (by decide) (by decide) (λle=>adf (Pt.hs _ _ _ (le.sub _ _ e))) hz λle=>g le.sub))
 |inst=>exact absurd rfl hn
 |_=>exact nS h
end
end
section
variable{c:Cx}{x y:Pt c}{d:Nat}{A:Am (d+2)}{u g:ac}{ps:List PV}{O:aK}{k:Str}
section
variable{out:List PV}{s:ag}{ks r:List (PV×PV)}{Q:ac->ag->Prop}{E:ac->ag->Prop}
def Bl(x:Pt c)(A:bh)(u:ac)(ps:List PV)(s:ag):Prop:=∀(Q:List ac->ag->Prop) E,(∀y us,Le x y->bt ps y us->Q us y.s)->ai (ah pw c.w) A (collect u) Q E s
theorem Yk(hs:ll (fh O) ps=some out)(ty:oN ps=true)(Or:cg c O d)(hz:ps.length<=aA)(hc:Bl x A.A.in1 u ps s)(K:∀v y,Le x y->Rd (.list out) y v->Q v y.s):ai (ah pw c.w) A.A (bC (.builtin "sorted") [u]) Q E s:=by
 refine agb kind_sorted plain_sorted entry_sorted (args_sorted1 _) ?_;unfold Builtin.«sorted»;refine ae (m:=checkCount "sorted" 1 1 _) (au (ae (hc _ _ λy us le rd=>ae (KF ?_ (rM (rd.length▸hz))))));refine ae (dO (uS slot_list_sort (az _ (ft _ rfl) rfl) entry_list_sort ?_ (args_list_sort _)));exact Zz (A:=A.in1.in1) hs ty Or (Bx.new (x:=y) (o:=bu us 0) (tk:=y.s.toks) (φ:=ed us) rfl ⟨0,rfl⟩) (rd.mono (y.cG (t:=y.s.toks) λ_ _=>c5 (bu us 0)).sub) hz λw us' b r hl=>cP (b.rd r (hl▸hz)) λw' e l rr=>(az _ rfl (au (az _ rfl (e▸K _ w' (le.trans l) rr))))
theorem aei(ht:∀a,Builtin.«list.sort» ⟨[.ref a],[(dw "key",g)]⟩=ksk_tree a g false)(hk:n9 O k ps=some ks)(ty:oN (ks.map (·.1))=true)(hs:ll (λa b=>fh O a.1 b.1) ks=some r)(Or:cg c O d)
(CJ:∀{A:Am d} {p q:PV} {v:ac} {y:Pt c},O.fn k [p] []=some q->Rd p y v->aE A (bC g [v]) y (Rd q))(hz:ps.length<=aA)(hc:Bl x A.A.in1 u ps s)(K:∀v y,Le x y->Rd (.list (r.map (·.2))) y v->Q v y.s):ai (ah pw c.w) A.A (bC (.builtin "sorted") [u] [(dw "key",g)]) Q E s:=by
 refine call_function_entry_kw kind_sorted plain_sorted entry_sorted (ksk_s1 _ _) ?_;unfold Builtin.«sorted»;refine ae (m:=checkCount "sorted" 1 1 _) (au (ae (hc _ _ λy us le rd=>ae (KF ?_ (rM (rd.length▸hz))))));refine ae (dO (wpAny_call_entry_kw slot_list_sort (az _ (ft _ rfl) rfl) entry_list_sort ?_ (ksk_l1 _ _)));exact K_ (A:=A.in1.in1) ht hk ty hs Or CJ (Bx.new (x:=y) (o:=bu us 0) (tk:=y.s.toks) (φ:=ed us) rfl ⟨0,rfl⟩) (rd.mono (y.cG (t:=y.s.toks) λ_ _=>c5 (bu us 0)).sub) hz λw us' b r hl=>cP (b.rd r (hl▸hz)) λw' e l rr=>(az _ rfl (au (az _ rfl (e▸K _ w' (le.trans l) rr))))
end
section
variable{p v:PV}{F:Fm}{np pos:Pos}{e:Expr}{kws:List fj}{I:Ip}{σ:bj}
theorem MV(P:cD):di P "sorted"=some (.builtin "sorted"):=⋯
theorem abH{P:cD}(h:oO P g)(a:ao):Builtin.«list.sort» ⟨[.ref a],[(dw "key",g)]⟩=ksk_tree a g false:=by
 rcases h with⟨id,rfl⟩|⟨T,rfl⟩|h
 ·rfl
 ·rfl
 ·induction g using AZ with
  |ref q=>rfl
  |builtin=>rfl
  |type=>rfl
  |_=>exact ff h
theorem Sh(Or:cg c O d)(hk:ak F.nm ("sorted":Str)=some .globalImplicit)(hs:ik e=false)(hex:∃ps,eD O F.nm ps kws=some p)
(h:∀(Q:ac->ag->Prop) E,(∀(y:Pt c) u ps,Le x y->eD O F.nm ps kws=some p->ps.length<=aA->Bl x A.A.in1 u ps y.s->Q u y.s)->ai (ah pw c.w) A.A (eval e F.env) Q E x.s):aE A (eval (.Call (.Name "sorted" np) [e] kws pos) F.env) x (Rd p):=λQ E K=>by
 have hs:∀e'∈[e],ik e'=false:=λe' m=>cY m▸hs;have sp:∀{Q:List ac->ag->Prop},(∀(y:Pt c) u ps,Le x y->eD O F.nm ps kws=some p->ps.length<=aA->Bl x A.A.in1 u ps y.s->Q [u] y.s)->ai (ah pw c.w) A.A (om (oo pos (lA [e] F.env))) Q E x.s:=λ{Q} hh=>aa (vJ hs) (wI (h _ _ λy u ps le a b c=>Cc (hh y u ps le a b c)));induction kws using bO with
 |nil=>
  exact wH (nH hk (MV _) (by decide) x (sK (lq hs) rfl (.inl ⟨_,rfl⟩) (sp λy u ps le hp hz hc=>uK ⟨y.cT,aL hp λty hp=>fM hp λout q1 q2=>Yk q1 ty Or hz hc (q2▸K)⟩)))
 |cons kw r=>
  obtain⟨Uv,hex⟩:=hex;refine aL hex λh1 hex=>aj hex λkn h2 hex=>aL hex λh3 hex=>aj hex λks0 h4 _=>?_;obtain⟨ky,ex,kp⟩:=kw;obtain⟨h0,h1⟩:=h1;obtain rfl:=jF h0;obtain rfl:ky=some ("key":Str):=h1;obtain⟨ahM,rfl⟩:=t4 h2;obtain⟨gv,g1,g2,g3⟩:∃g,di c.w.params kn=some g/\oO c.w.params g/\∀{p q:PV},O.fn kn [p] []=some q->qc c d g [p] [] q:=by
   induction Uv using bO with
   |nil=>exact absurd rfl h3.2.2
   |cons p0 Uv=>
    exact GD h4 λu r hf _ _=>by
     refine cP (Or.fn hf) λg g1 g2 _=>(cz g g1 g2 (λhf'=>?_));obtain⟨g',e1,_,e3⟩:=Or.fn hf';cases ay (g1.symm.trans e1);exact e3
  refine wH (nH hk (MV _) (by decide) x (sK (lq hs) rfl (.inl ⟨_,rfl⟩) (sp λy u ps le hp hz hc=>bE λgG hG=>?_)));have hp:(if kn≠("__debug__":Str)/\ak F.nm kn=some .globalImplicit/\ps≠[] then(n9 O kn ps).bind λks=>if oN (ks.map (·.1))=true then(ll (λa b=>fh O a.1 b.1) ks).map λl=>PV.list (l.map (·.2)) else none else none)=some p:=hp;refine aL hp λ_ hp=>aj hp λks k1 hp=>aL hp λty hp=>fM hp λout q1 q2=>hG (wpAny_evalAll_cons (ae (nH h3.2.1 g1 h3.1 y (ae (jq (au (uK ⟨y.cT,?_⟩)))))));exact aei (abH g2) k1 ty q1 Or (λhf r=>g3 hf (.cons r .nil) .nil) hz hc (q2▸K)
theorem Qi{β:Type}{k:List PV->Option β}{r:β}(h:eJ v k=some r):∃ps,k ps=some r:=fU h λ_ h=>by
 unfold over at h;cases e:v.Ab with
 |none=>rw[e] at h;exact aj h λps _ h=>⟨ps,h⟩
 |some l=>rw[e] at h;exact⟨_,xg h (BS _)⟩
theorem Zd(S:aX c (d+2) I)(Or:cg c O d)(hk:ak F.nm ("sorted":Str)=some .globalImplicit)(h1:I.e F.nm σ e=some v)(h2:(eJ v λl=>eD O F.nm l kws)=some p)(X:bB F x σ):aE A (eval (.Call (.Name "sorted" np) [e] kws pos) F.env) x (Rd p):=
 Sh Or hk (zU (S.nn h1)) (Qi h2) λQ E K=>S.ev h1 X _ _ λu y l r=>cP (ac6 (A:=A.in1) h2 r) λps q1 q2 q3=>K y u ps l q1 q2 λQ E k=>q3 Q E λz us le=>k z us (l.trans le)
end
end
section
variable{c:Cx}{d e:Nat}{O:aK}
theorem Py(Or:cg c O d)(h:d+3<=e):oQ c O e where
 OY ra rb:=aeC ra rb
 sum h r:=ZB h r
 max {A x v l p} hm r:=Vh (A:=A.mono (e:=d+2) (aq (iH _) h)) hm Or r
 set {A x v p l} hs r:=ZT (A:=A.mono (e:=0+3) (aq (mF (cu d) 3) h)) hs r
 inter {A x v u l m dW} hv ra rb:=adA (A:=A.mono (e:=0+3) (aq (mF (cu d) 3) h)) hv ra rb
 Qe r q:=Yx r q
 join h rz rl:=VA h rz rl
theorem cg.mono(x:cg c O d)(h:d<=e):cg c O e where
 fn k:=by refine cP (x.fn k) λg a b r=>?_;exact(cz g a b (λ{A}=>r (A:=A.mono h)))
 bM k n:=by refine aB (x.bM k n) λg a r=>?_;exact(az g a (λ{A}=>r (A:=A.mono h)))
 Ao k A _ _ _:=x.Ao k (A:=A.mono h)
 attr k n A _ _:=x.attr k n (A:=A.mono h)
 bin k A _ _ _:=x.bin k (A:=A.mono h)
 cmp k A _ _ _:=x.cmp k (A:=A.mono h)
 lt k:=by refine cP (x.lt k) λg a b r=>?_;exact(cz g a b (λ{A}=>r (A:=A.mono h)))
end
section
variable{w:cO}{A:bh}{s s':ag}{E:ac->ag->Prop}{a:ao}{g n:Nat}{gs y:jo}{K:ao->Prop}
theorem abR{R:GenEnd}{Y:Protocol}{Q:Option ac->ag->Prop}(hh:A.handled=none)(hl:s.heap.NoLimit)(ahq:A.depth<Sr)(hg:s.heap.IsGen a g)(Uw:s.gens[g]?=some gs)(hR:∀{n cX r bI},R n cX r bI->r=.ok .next\/r=.ok (.ret .none))
(Ux:gs.Goes (ah pw w) A.in1 R Y n (.send .none) (s.setGen g .running))
(hY:∀v bI ie,ie.bare=true->Y (n-1) (s.setGen g .running) v bI (λr' i8=>match n with
    |0=>False
    |m+1=>ie.Goes (ah pw w) A.in1 R Y m r' i8)->Q (some v) (bI.setGen g ie))
(hP:∀r bI,R n (s.setGen g .running) r bI->∀h',(∀b o,bI.heap.get? b=some o->h'.get? b=some o)->Q none {bI.setGen g .finished with heap:=h'}):
  ai (ah pw w) A (gm (.ref a)) Q E s:=by
 have stop:∀{bI:ag} {k:Unit->Sem Fin},(∀h',(∀b o,bI.heap.get? b=some o->h'.get? b=some o)->Q none {bI with heap:=h'})->ai (ah pw w) A.in1 (newExc (.type "StopIteration") []>>=λe=>raiseNew e>>=k) (λfin s'=> ∃v,fin=.done (.ret v)/\Q (some v) s') (λe s'=>s'.TypeIs e "StopIteration"/\Q none s') bI:=λq=>by
  unfold newExc newTuple raiseNew;refine ae (ae (uP (ae (m:=KA _ _) (B3 (a:=oh) (by unfold KA;rfl) (uP (ae (ae (wpAny_handled ?_))) (by size_fits)))) (by size_fits)));exact aa (hh:A.in1.handled=none) (wpAny_throw ⟨(az _ (ft _ rfl) rfl),q _ λb o q=>c5 _ (c5 _ q)⟩)
 have go:(gs=.running\/gs=.finished->False)->ai (ah pw w) A.in1 (agv (.ref a) (.send .none)) (λfin s'=> ∃v,fin=.done (.ret v)/\Q (some v) s') (λe s'=>s'.TypeIs e "StopIteration"/\Q none s') s:=λnr=>by
  unfold agv;refine ae (dO (wpAny_genNumber hg (ae (wpAny_genState Uw ?_))));cases gs with
  |running=>exact(nr (.inl rfl)).elim
  |finished=>exact(nr (.inr rfl)).elim
  |_=>
   refine ae (wpAny_roomToWake hl ahq ?_);show ai _ A.in1 (.resume g (.send .none) [] _) _ _ s;exact wpAny_resumeQ Uw Ux (λx bI hx=>(hR hx).elim (λe=>by subst e;exact stop (hP _ bI hx)) λe=>by subst e;exact stop (hP _ bI hx)) λv bI ie hb hv=>au (az v rfl (hY v bI ie hb hv))
 unfold gm;refine ae (Kz (Kq (name:=dw "__next__") hg.typeIs slot_gen_next (uS slot_gen_next hg.typeIs entry_gen_next ?_ (args_gen_next _))));refine cQ (go (λq=>by rcases q with rfl|rfl<;>exact Ux)) (λfin s' z=>?_) (λe s' z=>?_)
 ·refine aB z λv bY q=>?_;subst bY;exact(az v rfl (au q))
 ·exact ae (qZ z.1 isSubtype_stop (au z.2))
theorem CS{i:Nat}(h:i≠g):(s.setGen g y).gens[i]?=s.gens[i]?:=by
 unfold ag.setGen;exact Array.getElem?_setIfInBounds_ne (gV h)
theorem LZ:(s.setGen g y).gens.size=s.gens.size:=Array.size_setIfInBounds
theorem Ql(hg:s.gens[g]?=some gs)(hy:y.bare=true)(X:ci K (g+1) (s.setGen g .running) s'):s'.gens[g]?=some .running/\ci K g s (s'.setGen g y):=by
 have r:=X.gens g _ (i5 g) (setGen_self hg);refine⟨r,X.keep,λi z q e=>(CS (gE q)).trans (X.gens i z (KB q) ((CS (gE q)).trans e)),aq (aD (LZ (s:=s) (g:=g) (y:=.running)).symm) (aq X.de (aD LZ.symm)),λhb i z q e=>?_,X.os⟩;by_cases c:i=g
 ·subst c;rw[setGen_self r] at e;exact ay e▸hy
 ·rw[CS c] at e;exact X.bare (λj u q' e'=>hb j u (lB q') ((CS (fO q')).symm.trans e')) i z (pR q (gV c)) e
end
noncomputable def iL(d:Nat):bh:=⟨none,Sr-4*d-1,none,none,ti- (40*d+40) -1⟩
section
variable{c:Cx}{x y z p:Pt c}{d g m n:Nat}{A:Am d}{a b:ao}{gs:jo}{s:ag}{E:ac->ag->Prop}{Q:Option ac->ag->Prop}{o:Obj}{l:List PV}
theorem Qq{L b:Nat}(h:b<L):L-b-1+b<L:=aD (FQ h)
theorem PL{L b n:Nat}(h:n+b<L):n<=L-b-1:=mM (agw h)
theorem Am.top(A:Am d):jE d (iL d):=⟨rfl,Qq (aQ (i7 _ _) A.ok.depth),aQ (aD (fC ..)) (Qq (aQ (mF (i7 ..) _) A.ok.units))⟩
theorem Am.up{α:Type}{M:f4}{t:Sem α}{Q:α->ag->Prop}(A:Am d)(h:ai M (iL d) t Q E s):ai M A.A t Q E s:=λΓ p i=>h Γ p
 (Rq (i.1.trans A.ok.handled) (aq i.2.1 (PL A.ok.depth)) (λ_ h=>(nS h)) (λ_ h=>(nS h)) (aq i.2.2.2.2 (PL (aQ (aD (fC ..).symm) A.ok.units))))
noncomputable def Pt.base(y p:Pt c)(h:Sub p.f y.f):Pt c:={y with f:=p.f,K:=p.K,nt:=λa o e=>y.nt a o (h a o e),hs:=λa o e=>y.hs a o (h a o e)}
noncomputable def Pt.gen(y:Pt c)(g:Nat)(gs:jo):Pt c:={y with s:=y.s.setGen g gs}
noncomputable def Pt.join(y z:Pt c)(h:∀b o,y.f b=some o->z.s.heap.get? b=some o):Pt c where
 s:=z.s
 f b:=(y.f b).or (z.f b)
 keep:=z.keep
 tab:=z.tab
 K b o e:=by erw[y.K b o e];rfl
 nt b o e:=(Cq.mp e).elim (y.nt b o) λq=>z.nt b o q.2
 hs b o e:=(Cq.mp e).elim (h b o) λq=>z.hs b o q.2
theorem U5{h:∀b o,y.f b=some o->z.s.heap.get? b=some o}:Sub z.f (y.join z h).f:=λb o e=>by
 show(y.f b).or (z.f b)=some o;cases q:y.f b with
 |none=>exact e
 |some o'=>exact(h b o' q).symm.trans (z.hs b o e)
structure Gn(c:Cx) where
 p:Pt c
 a:ao
 g:Nat
 K:ao->Prop
 o:List PV
 T:Nat->Pt c->Prop
variable{G:Gn c}
def Gn.At(G:Gn c)(m:Nat)(s:ag):Prop:=∃y:Pt c,y.s=s/\y.f=G.p.f/\G.T m y
def Gn.R(G:Gn c):GenEnd:=λn cX r s=>(r=.ok .next\/r=.ok (.ret .none))/\n=0/\(∃z:Pt c,z.s=s)/\ci G.K (G.g+1) cX s
def Gn.Y(G:Gn c):Protocol:=λm cX v s CK=>(∃z:Pt c,z.s=s/\((∀b o,z.f b=some o->G.p.f b=some o\/cX.heap.get? b=none)/\∀b,G.K b->z.f b=none)/\∃p,G.o[G.o.length-1-m]?=some p/\Rd p z v)/\ci G.K (G.g+1) cX s/\G.At m s/\∀i8,G.At m i8->CK (.send .none) i8
def Gn.O(G:Gn c)(b:ao):Prop:=G.K b\/b=G.a
structure Gn.Ok(G:Gn c):Prop where
 st:∀{m u v},G.T m u->u.f=G.p.f->v.f=G.p.f->(∀b o,G.K b->u.s.heap.get? b=some o->v.s.heap.get? b=some o)->G.T m v
 lv:∀{m u},G.T m u->∀b,G.K b->∃o,u.s.heap.get? b=some o
 na:¬G.K G.a
structure Gn.Is(G:Gn c)(d m:Nat)(gs:jo)(x:Pt c):Prop where
 sub:Sub G.p.f x.f
 lv:lD G.O x
 ob:x.s.heap.IsGen G.a G.g
 gen:x.s.gens[G.g]?=some gs
 go:∀s,G.At m s->gs.Goes (ah pw c.w) (iL d).in1 G.R G.Y m (.send .none) s
 t:∃u:Pt c,u.f=G.p.f/\G.T m u/\∀b o,G.K b->u.s.heap.get? b=some o->x.s.heap.get? b=some o
theorem Gn.Is.later(i:G.Is d m gs x)(ok:G.Ok)(l:ir G.O (· <=G.g) x y):G.Is d m gs y where
 sub a o e:=l.sub a o (i.sub a o e)
 lv:=i.lv.later l
 ob:=by refine ue i.ob λo nm qn e r=>?_;exact(zt o nm qn (l.k _ _ (.inr rfl) e) r)
 gen:=l.g _ _ (bf _) i.gen
 go:=i.go
 t:=by refine cP i.t λu e t k=>?_;exact(cz u e t (λb o q e=>l.k b o (.inl q) (k b o q e)))
theorem Gn.step(ok:G.Ok)(A:Am d)(sub:Sub G.p.f y.f)(lv:∀b,G.O b->bV y b)(ob:y.s.heap.IsGen G.a G.g)(gen:y.s.gens[G.g]?=some gs)(go:gs.Goes (ah pw c.w) (iL d).in1 G.R G.Y n (.send .none) (y.s.setGen G.g .running))(kd:n=0->∀z,br G.K G.g y z->Q none z.s)(ki:∀m v p ie z,n=m+1->G.o[G.o.length-n]?=some p->Rd p z v->br G.K G.g y z->G.Is d m ie z->Q (some v) z.s):ai (ah pw c.w) A.A (gm (.ref G.a)) Q E y.s:=by
 have old:∀{s':ag},ci G.K (G.g+1) (y.s.setGen G.g .running) s'->∀b o,y.f b=some o->s'.heap.get? b=some o:=λX b o e=>X.keep b o (y.hs b o e) (y.nt b o e) λq=>nS ((lv b (.inl q)).f.symm.trans e);refine A.up (abR (A:=iL d) rfl y.nolimit (aQ (cW _ _) A.top.depth) ob gen (λq=>q.1) go (λv bI ie hb hv=>?_) λr bI hp h' k=>?_)
 ·obtain⟨⟨z,rfl,⟨new,kf⟩,p,e,r⟩,X,⟨u,e1,e2,t⟩,hk⟩:=hv;induction n using n7 with
  |zero=>exact(hk z.s (cz u e1 e2 t)).elim
  |succ m=>
   refine dS (Ql gen hb X) λrun X'=>?_;have Uy:∀b o,(y.join z (old X)).f b=some o->y.f b=some o\/z.f b=some o/\y.s.heap.get? b=none:=λb o e=>(Cq.mp e).elim .inl λq=>(new b o q.2).imp (sub b o) λn=>⟨q.2,n⟩;have hu:u.s.heap=z.s.heap:=af _ e1;refine ue ob λo nm qn ea ra=>?_;have Uz:=X.keep _ _ ea (cN (lv _ (.inr rfl)).hi) ok.na;refine ki m v p ie ((y.join z (old X)).gen G.g ie) rfl (by erw[gj m 1];rw[<-FR];exact e) (aV.mono (U5 (h:=old X)) r) ⟨λb o e=>Cq.mpr (.inl e),λb o e=>(Uy b o e).imp id λq=>.inl q.2,X'⟩
    ⟨λb o e=>Cq.mpr (.inl (sub b o e)),λb q=>⟨⟨?_,(lv b q).h₀,(lv b q).hi⟩,?_⟩,(zt o nm qn Uz ra),setGen_self run,hk,u,e2,t,λb o q e=>(af (λh=>h.get? b) hu).symm.trans e⟩
   ·cases q':(y.join z (old X)).f b with
    |none=>exact q'
    |some o=>exact(Uy b o q').elim (λe=>nS ((lv b q).f.symm.trans e)) λe=>q.elim (λq=>nS ((kf b q).symm.trans e.1)) λq=>nS (e.2.symm.trans (q▸ea))
   ·exact q.elim (λq=>(ok.lv t b q).elim λo e=>⟨o,(af (λh=>h.get? b) hu).symm.trans e⟩) λq=>⟨o,q▸Uz⟩
 ·obtain⟨_,hn,⟨z,rfl⟩,X⟩:=hp;obtain⟨run,X'⟩:=Ql (y:=.finished) gen rfl X;exact kd hn ((((y.join z (old X)).base y λb o e=>Cq.mpr (.inl e)).gen G.g .finished).grow h' z.s.toks k) ⟨λ_ _ e=>e,λ_ _=>.inl,⟨λb o e t q=>k b o (X'.keep b o e t q),X'.gens,X'.de,X'.bare,X'.os⟩⟩
theorem Gn.Is.next(i:G.Is d n gs y)(ok:G.Ok)(A:Am d)(kd:n=0->∀z,br G.K G.g y z->Q none z.s)(ki:∀m v p ie z,n=m+1->G.o[G.o.length-n]?=some p->Rd p z v->br G.K G.g y z->G.Is d m ie z->Q (some v) z.s):ai (ah pw c.w) A.A (gm (.ref G.a)) Q E y.s:=cP i.t λu e t k=>Gn.step ok A i.sub (λb q=>(i.lv b q).1) i.ob i.gen (i.go _ (cz ((y.base G.p i.sub).gen G.g .running) rfl rfl (ok.st t e rfl k))) kd ki
theorem Gn.iter(ok:G.Ok):∀{l:List PV} {x:Pt c} {gs:jo},G.o.drop (G.o.length-l.length)=l->l.length<=G.o.length->G.Is d l.length gs x->dM d G.a G.g l G.O x:=by
 have two:∀{n:Nat} {y:Pt c} {gs:jo} {A:Am d},G.Is d n gs y->(∀Q E,Q (.ref G.a) y.s->ai (ah pw c.w) A.A (gk (.ref G.a)) Q E y.s)/\(∀v t Q E,Q () y.s->ai (ah pw c.w) A.A (yH t (.ref G.a) v) Q E y.s):=λj=>aB j.ob.typeIs λo h1 h2=>⟨λQ E q=>wpAny_pyIter_gen j.ob q,λv t Q E q=>Eu h1 h2 (by decide) q⟩;intro l;induction l with
 |nil=>
  intro x gs hd hl i;refine⟨i.lv,λy A m=>?_⟩;have j:=i.later ok m;exact(ej ((two j).1) ((two j).2) (λQ E q=>j.next ok A (λ_ z st=>q z (st.weaken λ_=>.inl)) λm v p ie z e=>nomatch e))
 |cons p l ih=>
  intro x gs hd hl i;refine⟨i.lv,λy A m=>?_⟩;have j:=i.later ok m;have lt:G.o.length- (l.length+1)<G.o.length:=y0 (ba (eE _) hl) (eE _);have Lu:=(B4 lt).symm.trans hd;injection Lu with d1 d2
  refine(ej ((two j).1) ((two j).2) (λQ E q=>j.next ok A (λe=>nomatch e) λm' v p' ie z e1 e2 r st j'=>?_));cases wA e1;cases(jL lt).symm.trans e2;exact q v G.O z (d1▸r) (ih ((af (List.drop · G.o) ((Nat.sub_add_comm hl).symm.trans (Tg ..))).symm.trans d2) (lB hl) j') (st.weaken λ_=>.inl) (λ_ q=>q) λ_=>.inl
end
section
variable{c:Cx}{F G:Fm}{sc:fk}{a:ao}{d e g:Nat}{σ:bj}{v:ac}{pos:Pos}{iter:Expr}
section
variable{x y z:Pt c}{A:bh}{E:ac->ag->Prop}{C I:ao}{code:ac}{m:Nat}{q:Str}
theorem afV{h:am}{c P:ao}{ps:Array ac}(t:h.TableAt c P ps)(r:h.CodeRec (.ref c) q):vE h (.ref c) q:=by
 refine bE λgG hG=>?_;obtain⟨⟨o,vs,e1,e2,e3,_⟩,_⟩:=t;refine NL r λc' o' wY tk a1 a2 a3 a4=>?_;cases a1;cases ay (e1.symm.trans a2);exact hG ((Bm c o wY tk rfl e1 e2 a3 a4))
theorem RW{h h':am}{x:ac}{P:ao}(y:vE h x q)(k:am.ExtBut P h h')(n:∀o,h.get? P=some o->o.cls≠ .type "code"):vE h' x q:=Mc y λc o vs t a b e r z=>(Bm c o vs t a (k c o (λq=>n o (q▸b) e) b) e r z)
theorem V6{c:ao}(h:wt (.ref c)=true):∃P:ao,dA P/\((c=29/\P=25)\/(c=36/\P=32)\/(c=44/\P=40)):=by
 rcases lQ h with h|h
 ·rcases lQ h with h|h
  ·exact(az 25 (.inl rfl) (.inl ⟨a5 h,rfl⟩))
  ·exact(az 32 (.inr (.inl rfl)) (.inr (.inl ⟨a5 h,rfl⟩)))
 ·exact(az 40 (.inr (.inr rfl)) (.inr (.inr ⟨a5 h,rfl⟩)))
theorem Zq{pos:Pos}{a b:Int}{c x:ac}{l:List ac}:TriplesOk l->BU pos (l++[c6 a,c6 b,c])=some x->BU pos l=some x\/x=c:=
 TriplesOk.induct_unfolding (λl T=>T->BU pos (l++[c6 a,c6 b,c])=some x->BU pos l=some x\/x=c)
  (λ_ h=>.inr (aL (c:=(a==(pos.line:Int)&&b==(pos.col:Int))=true) h λ_ h=>(ay h).symm))
  (λi _ j _ _ _ ih k h=>d6 (c:=(i==(pos.line:Int)&&j==(pos.col:Int))=true) h (λq h=>.inl ((iP q).trans h)) λq h=>(ih k h).imp_left (iN q).trans) (λ_ _ _ k=>k.elim) l
theorem Zg{pos:Pos}{Q:ac->ag->Prop}(hc:wt F.env.code=true)(hQ:∀v y,Le x y->y.f=x.f->Q v y.s):ai (ah pw c.w) A (genexprCode F.env pos q sc) Q E x.s:=by
 cases ec:F.env.code with
 |ref cc=>
  rw[ec] at hc;refine aB (V6 hc) λP tP hm=>cP (x.tab cc P hm) λps i t r=>?_;have nP:∀o,x.s.heap.get? P=some o->o.cls≠ .type "code":=λo e h=>by
   cases ay (t.2.symm.trans e);nomatch h
  cases hf:BU pos ps.toList with
  |some c'=>exact wpAny_genexprCode_hit ec i hf (hQ _ x (.refl x) rfl)
  |none=>
   refine wpAny_genexprCodeX ec i t hf λc' h' tk k1 k2 k3 k4 k5 k6 k7=>cP k7 λP' k8 _ k9=>?_;have new:=afV k9 k5;have T:io h':=λLJ UA LK=>by
    by_cases hP:UA=P
    ·have hcc:LJ=cc:=by
      subst hP;rcases hm with⟨rfl,rfl⟩|⟨rfl,rfl⟩|⟨rfl,rfl⟩<;>rcases LK with⟨rfl,h⟩|⟨rfl,h⟩|⟨rfl,h⟩<;>first|rfl|nomatch h
     subst hP hcc;refine(cz _ k4 k6 (λpos' x e=>?_));have htr:TriplesOk ps.toList:=by obtain⟨_,_,_,_,_,_,_,_,_,_,_,_,_,_,_,_,_,_,_,z,_⟩:=i;exact z
     rw[show(ps++ #[c6 pos.line,c6 pos.col,pL c']).toList=ps.toList++[c6 pos.line,c6 pos.col,.ref c'] from Array.toList_append] at e;rcases Zq htr e with e|rfl
     ·exact dN (r pos' x e) λq' z=>⟨q',RW z k1 nP⟩
     ·exact⟨_,new⟩
    ·refine cP (x.tab LJ UA LK) λahr ahs aht LB=>?_;have UB:LJ≠P:=λe=>by
      refine bE λgG hG=>?_;subst e;refine hG ?_;rcases hm with⟨rfl,h⟩|⟨rfl,h⟩|⟨rfl,h⟩<;>rcases LK with⟨h',rfl⟩|⟨h',rfl⟩|⟨h',rfl⟩<;>rw[h'] at h<;>nomatch h
     exact(cz ahr (ahs.extBut k1 UB hP) (aht.extBut k1 UB hP) (λpos' x e=>dN (LB pos' x e) λq' z=>⟨q',RW z k1 nP⟩))
   exact hQ _ (x.to _ (.Qf λb o e n=>k1 b o (λq=>n (q▸tP)) e) T) (Le.to _ _) rfl
 |_=>rw[ec] at hc;exact ff hc
def PA(F:Fm)(sc:fk)(C:ao)(code:ac):Env:=genEnv sc (iO F.env sc.names []) C code uF F.env
theorem p7(S:uz F.nm sc)(h:(iO F.env sc.names []).lookup q=some a):F.env.cells.lookup q=some a:=(RJ (CU S) h).elim id λh=>nS h
theorem Ey:(PA F sc C code).kindOf q=ak sc.names q:=ID
def Q4(F:Fm)(sc:fk)(C:ao)(code:ac)(S:uz F.nm sc)(hn:∀y∈sc.names,y.2≠tm)(nC:¬dA C)(old:∀z a,F.env.cells.lookup z=some a->a≠C):Fm where
 env:=PA F sc C code
 nm:=sc.names
 kind:=S.kind
 glob:=F.glob
 blt:=rfl
 names x e:=Ey.trans e
 cells x e n:=e.elim (λe=>absurd rfl (hn _ (gM e))) λe=>⟨.inr (Ey.trans e),Es (.inr (gM e))⟩
 jg:=⟨nC,λx a e=>F.jg.2 x a (p7 S e)⟩
 cl x a e:=old x a (p7 S e)
 apart x y a e1 e2:=F.apart x y a (p7 S e1) (p7 S e2)
 code g:=by rw[S.ng] at g;exact ff g
structure sJ(G:Fm)(x:Pt c)(σ:bj):Prop where
 v:bB G x σ
 o:jG G x
def Ec(G:Fm)(f:Fz):Prop:=∀z b,G.env.cells.lookup z=some b->∃o,f b=some o
theorem adz(hc:Ec G x.f)(hf:Sub x.f y.f)(k:∀o,x.s.heap.get? G.env.locals=some o->y.s.heap.get? G.env.locals=some o)(b:ao)(o:Obj)(w:dq G.env b)(e:x.s.heap.get? b=some o):y.s.heap.get? b=some o:=w.elim (λq=>by subst q;exact k o e) λq=>q.elim λz q=>(hc z b q).elim λo' e'=>y.hs b o (hf b o (ay ((x.hs b o' e').symm.trans e)▸e'))
theorem sJ.keep(r:sJ G x σ)(hc:Ec G x.f)(hf:y.f=x.f)(k:∀o,x.s.heap.get? G.env.locals=some o->y.s.heap.get? G.env.locals=some o):sJ G y σ:=
 have k:=adz hc (λb o e=>(congrFun hf b).trans e) k
 ⟨r.v.keep k λb o e=>(congrFun hf b).trans e,r.o.keep r.v.cR k λb _ n _=>⟨(congrFun hf b).trans n.f,n.h₀,n.hi⟩⟩
structure GP(c:Cx) where
 p:Pt c
 a:ao
 g:Nat
 e:Nat
 F:Fm
 I:ao
 J:Ip
 t:Expr
 elt:Expr
 σ:bj
 o:List PV
variable{B:GP c}{cX:ag}{Q:ac->ag->Prop}
def GP.K(B:GP c)(b:ao):Prop:=b=B.F.env.locals\/b=B.I
def GP.T(B:GP c)(m:Nat)(u:Pt c):Prop:=sJ B.F u B.σ/\∃src,(src.length=m/\m<=B.o.length)/\nF B.e B.I src u/\lx (B.J.e B.F.nm) B.F.nm B.t B.elt B.σ src=some (B.o.drop (B.o.length-m))
noncomputable def GP.gn(B:GP c):Gn c:=⟨B.p,B.a,B.g,B.K,B.o,B.T⟩
structure GP.Ok(B:GP c):Prop where
 co:B.F.env.scope.isCoroutine=false
 uD:Ec B.F B.p.f
 na:¬B.K B.a
 nI:¬dq B.F.env B.I
 ow:∀b,t7 B.F b->b=B.F.env.locals
 S:aX c B.e B.J
theorem GP.Ok.gn(k:B.Ok):B.gn.Ok where
 st {m u v} h hu hv kp:=by
  obtain⟨r,src,h1,h2,h3⟩:=h;have hf:v.f=u.f:=hv.trans hu.symm;exact⟨r.keep (λz b q=>hu▸k.uD z b q) hf λo=>kp _ o (.inl rfl),src,h1,h2.later ⟨λb o e=>(congrFun hf b).trans e,λb o q=>kp b o (.inr q),λb q=>(congrFun hf b).trans (h2.live b q).1.f,λ_ _ q=>q.elim⟩,h3⟩
 lv {m u} h b q:=by
  refine bE λgG hG=>?_;obtain⟨r,src,h1,h2,h3⟩:=h;exact hG (q.elim (λq=>by subst q;refine tI r.o.ns λm o es ep e _=>?_;exact⟨o,e⟩) λq=>(h2.live b q).2)
 na:=k.na
structure GP.E9(B:GP c)(m:Nat)(cX:ag)(v:ac)(z:Pt c):Prop where
 f:z.f=B.p.f
 x:ci B.K (B.g+1) cX z.s
 r:sJ B.F z B.σ
 ex:∃v0 σ' px src,((src.length=m/\m+1<=B.o.length)/\nF B.e B.I src z/\lx (B.J.e B.F.nm) B.F.nm B.t B.elt B.σ src=some (B.o.drop (B.o.length-m)))/\B.o[B.o.length-1-m]?=some px/\mq B.t B.σ=true/\fT (gY B.F.nm) B.t v0 B.σ=some σ'/\B.J.e B.F.nm σ' B.elt=some px/\Rd v0 z v
structure GP.Qn(B:GP c)(m:Nat)(cX:ag)(px:PV)(σ':bj)(y:Pt c):Prop where
 f:y.f=B.p.f
 x:ci B.K (B.g+1) cX y.s
 v:bB B.F y σ'
 o:B.o[B.o.length-1-m]?=some px
 e:B.J.e B.F.nm σ' B.elt=some px
 t:B.T m y
theorem GP.Ok.done(k:B.Ok)(A:Am B.e){u:Pt c}(x:ci B.K (B.g+1) cX u.s)(h:B.T 0 u){Q:Option ac->ag->Prop}(q:∀z:Pt c,ci B.K (B.g+1) cX z.s->Q none z.s):ai (ah pw c.w) A.A (gm (.ref B.I)) Q E u.s:=by
 refine bE λgG hG=>?_;obtain⟨r,src,h1,h2,h3⟩:=h;cases List.eq_nil_of_length_eq_zero h1.1;exact hG ((h2.2 u A (.refl h2.1)).2.2 _ _ λz w=>q z (x.trans ((w _).e.weaken λ_=>.inr)))
theorem GP.Ok.next(k:B.Ok)(A:Am B.e){u:Pt c}(hu:u.f=B.p.f)(x:ci B.K (B.g+1) cX u.s)(h:B.T (m+1) u){Q:Option ac->ag->Prop}(q:∀v z,B.E9 m cX v z->Q (some v) z.s):ai (ah pw c.w) A.A (gm (.ref B.I)) Q E u.s:=by
 refine bE λgG hG=>?_;obtain⟨r,src,h1,h2,h3⟩:=h;refine hG ?_;induction src using bO with
 |nil=>nomatch h1.1
 |cons v0 src=>
  refine bE λgG hG=>aL h3 λhf h3=>aj h3 λσ' hb h3=>aj h3 λpx hv h3=>fM h3 λmore h4 h5=>?_;have lt:B.o.length- (m+1)<B.o.length:=y0 (ba (eE _) h1.2) (eE _);have hd:=h5.trans (B4 lt);injection hd with d1 d2
  refine hG ((h2.2 u A (.refl h2.1)).2.2 _ _ λv z rv i w=>q v z ⟨(w 0).f.trans hu,x.trans ((w _).e.weaken λ_=>.inr),r.keep (λz b q=>hu▸k.uD z b q) (w 0).f λo e'=>(w 0).e.keep _ o e' B.F.jg.1 λq=>k.nI (.inl q.symm),v0,σ',px,src,(ej ⟨wA h1.1,h1.2⟩ i (h4.trans (af some (d2.trans (af (B.o.drop ·) ?_))))),?_,hf,hb,hv,rv⟩)
  ·rw[Nat.sub_succ];exact agx (q9 h1.2)
  ·rw[FR,gj 1];exact(jL lt).trans (af some d1.symm)
theorem GP.E9.go{z:Pt c}(M:B.E9 m cX v z)(A:Am B.e){Q:Unit->ag->Prop}(q:Q () z.s):ai (ah pw c.w) A.A (yH B.t (.ref B.I) v) Q E z.s:=by
 refine bE λgG hG=>?_;obtain⟨v0,σ',px,src,⟨_,i,_⟩,_⟩:=M.ex;exact hG ((i.iter (g:=0)).go A q)
theorem GP.Ok.put(k:B.Ok){z:Pt c}(M:B.E9 m cX v z)(A:Am B.e){Q:Unit->ag->Prop}(q:∀px σ' y,B.Qn m cX px σ' y->Q () y.s):ai (ah pw c.w) A.A (uM B.t B.F.env v) Q E z.s:=by
 refine bE λgG hG=>?_;obtain⟨v0,σ',px,src,⟨h1,i,h4⟩,ho,hf,hb,hv,rv⟩:=M.ex;exact hG (QN hb M.r.v M.r.o rv λy b=>q px σ' y ⟨(b.w 0).f.trans M.f,M.x.trans ((b.w _).e.weaken λb q=>.inl (k.ow b q)),b.v,ho,hv,⟨b.v.weaken λz q e=>MC hb hf e,b.o⟩,src,⟨h1.1,lB h1.2⟩,i.later (cH.later (b.w _).st i.live λb q h=>k.nI (q▸nX h)),h4⟩)
theorem GP.Ok.give(k:B.Ok){y y':Pt c}{px:PV}{σ':bj}{CK:Resume->ag->Prop}(T:B.Qn m cX px σ' y)(le:Le y y')(r:Rd px y' v)(h:∀u:Pt c,u.f=B.p.f->B.T m u->CK (.send .none) u.s):B.gn.Y m cX v y'.s CK:=by
 have sub:Sub B.p.f y'.f:=T.f▸le.sub;have hi:∀b,B.K b->¬dA b:=λb q=>q.elim (λq=>q▸cN T.t.1.o.own.hi) λq=>T.t.2.elim λsrc h=>q▸cN (h.2.1.live B.I rfl).1.hi;exact(zK ⟨y',rfl,⟨λb o q=>(le.new b o q).imp (λq=>(congrFun T.f b).symm.trans q) λq'=>(T.x.back (y'.nt b o q) q').elim id λz=>(k.gn.lv T.t b z).elim λo e=>nS (q'.symm.trans e),λb q=>(bV.le (q.elim (λq=>q▸T.t.1.o.own) λq=>T.t.2.elim λsrc h=>q▸(h.2.1.live B.I rfl).1) le (k.gn.lv T.t b q)).f⟩,px,T.o,r⟩ (T.x.trans le.e.n8) (cz (y'.base B.p sub) rfl rfl (k.gn.st T.t T.f rfl λb o q e=>le.e.keep b o e (hi b q))) (λi8 q=>by refine cP q λu bY e t=>?_;subst bY;exact h u e t))
theorem jE.over{A:bh}{d:Nat}{G:Fm}{elt:Expr}{gens:List jK}{it acc:ac}(x:jE (d+1) A):jE d (A.over (.compLoop (.GeneratorExp elt gens sc pos) 0 it acc G.env) []):=x.to x.handled (oS (show 1<=4 by decide)) (oS (show 3<=40 by decide))
noncomputable def GP.G5(B:GP c)(iter:Expr)(sc:fk)(pos:Pos):Code:=.compLoop (.GeneratorExp B.elt [⟨B.t,iter,[],0⟩] sc pos) 0 (.ref B.I) .none B.F.env
theorem WR(k:B.Ok)(hA:jE B.e (((iL (B.e+2)).in1).over (B.G5 iter sc pos) [])):∀(m:Nat) (u:Pt c),u.f=B.p.f->B.T m u->Seg (ah pw c.w) (iL (B.e+2)).in1 B.gn.R B.gn.Y m u.s (B.G5 iter sc pos) ((ah pw c.w).den (B.G5 iter sc pos)) [] u.s:=by
 intro m;induction m with
 |zero=>
  intro u hu h;show Seg _ _ _ _ _ u.s _ ((B9 (.GeneratorExp B.elt [⟨B.t,iter,[],0⟩] sc pos) 0 (.ref B.I) .none B.F.env).onRaise (wK B.F.env)) [] u.s;rw[agy,FS];exact ib (jq (ib (k.done ⟨_,hA⟩ (.refl _) h λz x=>seg_end (.ok .next) (zK (.inl rfl) rfl ⟨z,rfl⟩ x))))
 |succ m ih=>
  intro u hu h;show Seg _ _ _ _ _ u.s _ ((B9 (.GeneratorExp B.elt [⟨B.t,iter,[],0⟩] sc pos) 0 (.ref B.I) .none B.F.env).onRaise (wK B.F.env)) [] u.s;rw[agy,FS];refine ib (jq (ib (k.next ⟨_,hA⟩ hu (.refl _) h λv z M=>ib (M.go ⟨_,hA⟩ (ib (k.put M ⟨_,hA⟩ λpx σ' y T=>?_))))));simp only[yK,pure_bind,if_true];have hyo:∀v,yieldOut B.F.env v=yieldValue v:=λv=>by simp only[yieldOut,k.co,yM,if_false]
  simp only[hyo];rw[Th,Th,Ti,Ti];exact seg_wrap (k.S.ev (A:=(⟨_,hA⟩:Am B.e)) T.e T.v _ _ λv' y' le LL=>seg_at (seg_yield rfl rfl rfl (k.give T le LL λu e t=>FT rfl (ih u e t))))
end
section
variable{x y z w:Pt c}{b:ao}{elt:Expr}{outs ps:List PV}{p:PV}{u:ac}{β:Type}{k:List PV->Option β}{r:β}{n:Nat}
theorem aag{B:GP c}(k:B.Ok)(hA:jE (B.e+1) ((iL (B.e+2)).in1)){u:Pt c}(hu:u.f=B.p.f)(h:B.T n u):Seg (ah pw c.w) (iL (B.e+2)).in1 B.gn.R B.gn.Y n u.s (.compStart (.GeneratorExp B.elt [⟨B.t,iter,[],0⟩] sc pos) 0 (.ref B.I) .none B.F.env) ((ah pw c.w).den (.compStart (.GeneratorExp B.elt [⟨B.t,iter,[],0⟩] sc pos) 0 (.ref B.I) .none B.F.env)) [] u.s:=by
 refine bE λgG hG=>?_;have o:=jE.over (sc:=sc) (G:=B.F) (gens:=[⟨B.t,iter,[],0⟩]) (elt:=B.elt) (pos:=pos) (it:=.ref B.I) (acc:=.none) hA;have loop:=WR k o n u hu h;obtain⟨r,src,h1,h2,h3⟩:=h;refine hG ?_;show Seg _ _ _ _ _ u.s _ ((Kl (.GeneratorExp B.elt [⟨B.t,iter,[],0⟩] sc pos) 0 (.ref B.I) .none B.F.env).onRaise (wK B.F.env)) [] u.s;unfold Kl;rw[FS];show Seg _ _ _ _ _ u.s _ ((ask>>=_).wrap _ _ _ _) [] u.s;refine ib (oA ?_);split
 ·exact FT rfl loop
 ·have hA':jE B.e ((iL (B.e+2)).in1.over (.compStart (.GeneratorExp B.elt [⟨B.t,iter,[],0⟩] sc pos) 0 (.ref B.I) .none B.F.env) []):=⟨o.handled,o.depth,o.units⟩;exact ib (uO (ib (jq (ib ((h2.iter (g:=0)).self (A:=(⟨_,hA'⟩:Am B.e)) (FT rfl loop))))))
theorem VD{env:Env}{l:aN}{acc:List (Str×ao)}(h:l.all (λp=>p.2 !=.free)=true):iO env l acc=acc:=by
 induction l with
 |nil=>rfl
 |cons p l ih=>
  obtain⟨h1,h2⟩:=aW h;unfold iO;exact aa (iN λq=>bne_iff_ne.mp h1 (a5 q)) (ih h2)
open Classical in
def Pt.kQ(x:Pt c)(F:Fm):Pt c where
 s:=x.s
 f b:=if∃z,F.env.cells.lookup z=some b then x.s.heap.get? b else x.f b
 keep:=x.keep
 tab:=x.tab
 K a o e:=by
  by_cases q:∃z,F.env.cells.lookup z=some a
  ·exact(iP q).trans (x.cT a o e)
  ·exact(iN q).trans (x.K a o e)
 nt a o e:=by
  by_cases q:∃z,F.env.cells.lookup z=some a
  ·exact q.elim λz q=>F.jg.2 z a q
  ·exact x.nt a o ((iN q).symm.trans e)
 hs a o e:=by
  by_cases q:∃z,F.env.cells.lookup z=some a
  ·exact(iP q).symm.trans e
  ·exact x.hs a o ((iN q).symm.trans e)
structure Ac(F:Fm)(sc:fk)(x y:Pt c):Prop where
 s:y.s=x.s
 sub:Sub x.f y.f
 uD:∀z b,(iO F.env sc.names []).lookup z=some b->∃o,y.f b=some o
theorem Ac.kQ(X:bB F x σ)(S:uz F.nm sc):Ac F sc x (x.kQ F) where
 s:=rfl
 sub b o e:=by
  by_cases q:∃z,F.env.cells.lookup z=some b
  ·exact(iP q).trans (x.hs b o e)
  ·exact(iN q).trans e
 uD z b e:=eH (X.cR z b (p7 S e)) λv o e1 _=>⟨o,(iP ⟨z,p7 S e⟩).trans e1⟩
theorem Ac.id(h:sc.names.all (λp=>p.2 !=.free)=true):Ac F sc x x:=⟨rfl,λ_ _ e=>e,λz b e=>by rw[VD h] at e;exact nS e⟩
theorem afm(h:eJ p k=some r)(rd:Rd p x u):∃ps,k ps=some r/\ps.length<=aA/\∀{A:Am d} {y:Pt c},Sub x.f y.f->t6 A (gk u) y ps:=fU h λhn h=>by
 induction p using dh with
 |tup l=>exact⟨l,h,(iX rd λ_ _ z=>⟨l,rfl,z⟩:∃z,_/\_).elim λ_ q=>q.2,λs=>QZ (rd.mono s)⟩
 |list l=>exact⟨l,h,(dY rd λ_ _ z=>⟨l,rfl,z⟩:∃z,_/\_).elim λ_ q=>q.2,λs=>HT (rd.mono s)⟩
 |d8 lo hi=>exact(cz _ h (by
   rw[bi,cF];exact p9 (m:=λ_=>(hi-lo).toNat<=aA) rd λ_ _ _ hz=>Lc.mpr hz) (λs=>Os (rd.mono s)))
 |set l=>
  exact aB (MM (d:=d) rd) λl' p g=>(cz _ (xg (h:qj l k=some r) p) (by
   rw[bi,p.length_eq];exact ly (m:=λ_=>l.length<=aA) rd λ_ _ ht=>aq ht.len (by decide)) g)
 |inst=>exact absurd rfl hn
 |_=>exact nS h
theorem adx(P:cD):nsIn (KL P) mD "__builtins__"=some (some (.ref 4)):=⋯
theorem WV(P:cD):(KL P).lookup 4=some {cls:=.type "module",dict:=some 0,data:=.plain}:=⋯
theorem abT{A:bh}{E:ac->ag->Prop}{Q:ao->ag->Prop}(x:Pt c)(h:Q uF x.s):ai (ah pw c.w) A (builtinsFor mD uF) Q E x.s:=dN c.g λmg g=>wpAny_builtinsFor (g.keeps x.keep) (mg_of c.K g (adx _)) (by decide) (x.cT 4 _ (WV _)) rfl rfl rfl h
structure AY(d:Nat)(x w:Pt c)(u:ac)(outs:List PV):Prop where
 le:Le x w
 it:∃a K g,u=.ref a/\K a/\dM d a g outs K w/\(∀b,K b->x.s.heap.get? b=none)/\x.s.gens.size<=g/\g<=w.s.gens.size
 ty:w.s.TypeIs u "generator"
end
end
section
variable{c:Cx}{x:Pt c}{F:Fm}{d e:Nat}{σ:bj}{I J:Ip}{O:aK}{ex:Expr}{pos:Pos}{p v:PV}
section
variable{y z w:Pt c}{sc:fk}{A:Am d}{t elt it:Expr}{outs ps:List PV}{kk:List PV->Option PV}{fr:Bool}{Q:ac->ag->Prop}{E:ac->ag->Prop}{ev:bj->Expr->Option PV}{nm:aN}
theorem χ:∀{ps outs:List PV},lx ev nm t elt σ ps=some outs->outs.length=ps.length:=by
 intro ps;induction ps with
 |nil=>exact λh=>ay h▸rfl
 |cons v ps ih=>exact λh=>aL h λ_ h=>aj h λ_ _ h=>aj h λ_ _ h=>fM h λmore h e=>e▸af jp (ih h)
theorem Op{m:Expr->Prop}(h:vi O I J nm σ fr kk ex=some p)(K:∀elt t it sc pos v,(fr=true\/(sc.names.all λp=>p.2 !=.free)=true)->O.gens=true->pA nm=true->H' sc=true->AF it=true->AT nm sc=true->I.e nm σ it=some v->(eJ v λsrc=>(lx (J.e sc.names) sc.names t elt (lX sc σ) src).bind kk)=some p->m (.GeneratorExp elt [⟨t,it,[],0⟩] sc pos)):m ex:=by
 induction ex using eB with
 |GeneratorExp elt gs sc pos=>
  refine aj h λg h1 h=>aL h λq h=>aj h λv h2 h3=>dS (aW q) λr1 q1=>dS (aW r1) λr2 q2=>dS (aW r2) λr3 q3=>?_;obtain⟨r4,q4⟩:=aW r3;obtain⟨r5,q5⟩:=aW r4;obtain⟨r6,q6⟩:=aW r5;refine dS (aW r6) λr7 q7=>?_;obtain⟨t,it,ifs,as⟩:=g;cases jF q2;cases a5 q1;induction gs using bO with
  |nil=>exact nS h1
  |cons g gs=>induction gs using bO with
   |nil=>cases ay h1;exact K elt t it sc pos v (lQ r7) q7 q6 q5 q4 q3 h2 h3
   |cons=>exact nS h1
 |_=>exact nS h
theorem afj{env:Env}(h:AF it=true)(k:ql it=true):genFold it env=pure:=funext λv=>by
 induction it using eB with
 |Name=>exact A3 k env v
 |Call=>exact A3 k env v
 |_=>exact ff h
theorem ZG{C:ao}{code:ac}{c3:∀y∈sc.names,y.2≠tm}{nC:¬dA C}{old:∀z a,F.env.cells.lookup z=some a->a≠C}(so:uz F.nm sc)(X:bB F y σ)(k:∀b o,y.s.heap.get? b=some o->¬dA b->w.s.heap.get? b=some o)(sub:Sub y.f w.f):bB (Q4 F sc C code so c3 nC old) w (lX sc σ) where
 cR z a e:=eH (X.cR z a (p7 so e)) λv o e1 e2=>(du v o (k a o e1 (F.jg.2 z a (p7 so e))) e2)
 var z p e:=by
  refine dS (Oa e) λe1 e2=>aB (X.var z p e1) λv V r=>dS (so.free z (gM e2)) λa b=>?_;have kk:=F.cells z a b;refine(az v (.inr ⟨.inr ⟨Ey.trans e2,li b⟩,?_⟩) (r.mono sub));rcases V with⟨q,_⟩|⟨q,c0,e3,o,i1,i2⟩
  ·rw[q] at kk;exact kk.1.elim (λq=>nomatch q) λq=>nomatch q
  ·obtain⟨c',e4⟩:=tA.mp (Es (env:=F.env) (acc:=[]) (.inr (gM e2)));cases ay ((p7 so e4).symm.trans e3);exact⟨_,e4,o,k _ o i1 (F.jg.2 z _ e3),i2⟩
theorem Ob{C:Pt c->Pt c->Prop}(S:aX c d I)(S':aX c e J)(he:e+2<=d)(hg:pA F.nm=true)(CL:H' sc=true)(hp:AF it=true)(hs:AT F.nm sc=true)(h1:I.e F.nm σ it=some v)(h2:(eJ v λsrc=>(lx (J.e sc.names) sc.names t elt (lX sc σ) src).bind kk)=some p)(X:bB F x σ)
(A5:∀{y:Pt c},bB F y σ->∃y',C y y'/\Ac F sc y y')(k:∀y y' w u outs,Le x y->C y y'->kk outs=some p->outs.length<=aA->AY (e+2) y' w u outs->Q u w.s):ai (ah pw c.w) A.A (eval (.GeneratorExp elt [⟨t,it,[],0⟩] sc pos) F.env) Q E x.s:=by
 have so:=It hs;obtain⟨c1,c3⟩:=aW CL;refine dS (aW c1) λc1 c2=>?_;have c3:∀y∈sc.names,y.2≠tm:=λy m=>bne_iff_ne.mp (b7 c3 y m);refine wpAny_GeneratorExp_make (tj _▸c1) (NO λq m e=>CU so q.1 (e▸m)) c3 (a5 c2) so.kind (aQ (cW _ _) A.ok.depth) (S.ev h1 X _ _ λxv y le r=>?_) λv=>?_
 rotate_left
 ·exact congrFun (afj hp (S.nn h1)) v
 refine bE λgG hG=>cP (afm (d:=e) h2 r) λps q1 q2 q3=>aj q1 λouts q4 q5=>aB (A5 (X.le le)) λy' hC ct=>hG (hZ (ct.s) (q3 (A:=A.mono (aq (cW _ 2) he)) ct.sub _ _ λy1 E2 _ i=>⟨y1.nolimit,Zg (F.code hg) λcode z UC hz=>?_⟩));have nI:=eQ y'.s.heap;generalize y'.s.heap.objs.size=Ia at i nI⊢;refine aa (F.glob) (aa (F.blt) (abT z λh' hn mW=>?_));have tE:=E2.trans UC;have keep:∀{ob:Obj} b o,z.s.heap.get? b=some o->(h'.push ob).get? b=some o:=λb o e=>c5 _ (mW.extBut b o (gE (fB e)) (c5 _ e));have hsz:h'.objs.size=z.s.heap.objs.size+1:=by erw[mW.1];rw[oy]
 have Iz:=(i.later ((cH.later (W:=λ_=>False) UC.st i.live λ_ _=>id)));have ahu:∀z' a,F.env.cells.lookup z'=some a->a<z.s.heap.objs.size:=λz' a q=>eH ((X.le le).cR z' a q) λv o e _=>fB (tE.e.keep a o (ct.s▸e) (F.jg.2 z' a q));have nC:∀b,z.s.heap.objs.size<=b->y'.s.heap.get? b=none/\bV z b:=λb l=>⟨tE.e.back (z.j5 l) (C8 l),z.free l (C8 l)⟩;have old:=λz' a q=>gE (ahu z' a q);have ltI:Ia<z.s.heap.objs.size:=(Iz.live Ia rfl).2.elim λo e=>fB e;have hl:=χ q4;generalize hG:Q4 F sc z.s.heap.objs.size code so c3 (z.j5 (bf _)) old=G;have hE:G.env=genEnv sc (iO F.env sc.names []) z.s.heap.objs.size code uF F.env:=hG▸rfl;have hN:G.nm=sc.names:=hG▸rfl;have hL:G.env.locals=z.s.heap.objs.size:=hE▸rfl;refine hZ (hE) ?_;generalize pW:({cls:=.type "generator",data:=.fields #[.int z.s.gens.size 0,.str "<genexpr>" (z.s.toks+1),.str (F.env.qual++ "<genexpr>") (z.s.toks+1+1)]}:Obj)=ob;have LM:ob.isFreed=false:=pW▸rfl;have x3:e8 z.s {z.s with gens:=z.s.gens.push (.fresh (.compStart (.GeneratorExp elt [⟨t,it,[],0⟩] sc pos) 0 (.ref Ia) .none G.env)),toks:=z.s.toks+1+1+1,heap:=h'.push ob}:=⟨λb o e _=>keep b o e,λi x e=>by
   erw[KI];erw[iN (gE (ag2.mp e).1)];exact e,λi x l e=>by
   rw[KI] at e;by_cases q:i=z.s.gens.size
   ·rw[iP q] at e;cases ay e;rfl
   ·rw[iN q] at e;exact tO l e,rfl⟩
 have lw:Le z (z.to _ x3 (z.tab.keeps keep)):=Le.to _ _;generalize hw:z.to _ x3 (z.tab.keeps keep)=w at lw;have ws:w.s={z.s with gens:=z.s.gens.push (.fresh (.compStart (.GeneratorExp elt [⟨t,it,[],0⟩] sc pos) 0 (.ref Ia) .none G.env)),toks:=z.s.toks+1+1+1,heap:=h'.push ob}:=hw▸rfl;have wf:w.f=z.f:=hw▸rfl;have Iw:=Iz.later (cH.later (W:=λ_=>False) lw.st Iz.live λ_ _=>id);have fr:∀b,z.s.heap.objs.size<=b->bV w b:=λb l=>⟨(congrFun wf b).trans (nC b l).2.f,(nC b l).2.h₀,(nC b l).2.hi⟩;have sub:Sub y'.f w.f:=λb o e=>lw.sub b o (tE.sub b o e);have V:sJ G w (lX sc σ):=by
  subst hG;exact⟨ZG so (X.le le) (λb o e n=>(tE.trans lw).e.keep b o (ct.s▸e) n) λb o e=>sub b o (ct.sub b o e),⟨_,by erw[ws];exact hn.push _⟩,fr _ (bf _),λq e=>Ey.trans e,λq e=>absurd rfl (c3 _ (gM e))⟩
 have uD:Ec G w.f:=λz' b q=>by
  subst hG;exact(ct.uD z' b q).elim λo e=>⟨o,sub b o e⟩
 have sa:z.s.heap.objs.size<=h'.objs.size:=hsz▸iH _;have na:¬(h'.objs.size=G.env.locals\/h'.objs.size=Ia):=λq=>q.elim (λq=>Nat.succ_ne_self _ (hsz.symm.trans (q.trans hL))) λq=>cV _ (aQ sa (q▸ltI));have nI':¬dq G.env Ia:=λq=>q.elim (λq=>cV _ (hL▸q▸ltI)) λq=>q.elim λz' q=>by
  subst hG;exact eH ((X.le le).cR z' Ia (p7 so q)) λv o e _=>nS (nI.symm.trans (ct.s▸e))
 have gs:w.s.gens[z.s.gens.size]?=some (.fresh (.compStart (.GeneratorExp elt [⟨t,it,[],0⟩] sc pos) 0 (.ref Ia) .none G.env)):=by erw[ws];exact agz
 have ga:w.s.heap.get? h'.objs.size=some ob:=by erw[ws];exact ft _ LM
 have H:GP.Ok ⟨w,h'.objs.size,z.s.gens.size,e,G,Ia,J,t,elt,lX sc σ,outs⟩:=⟨by show G.env.scope.isCoroutine=false;erw[hE];exact tj _▸c1,uD,na,nI',λb q=>q.elim id λq=>q.elim λx q=>absurd rfl (c3 _ (gM (hN▸q.1))),S'⟩;have Is:(GP.gn ⟨w,h'.objs.size,z.s.gens.size,e,G,Ia,J,t,elt,lX sc σ,outs⟩).Is (e+2) outs.length (.fresh (.compStart (.GeneratorExp elt [⟨t,it,[],0⟩] sc pos) 0 (.ref Ia) .none G.env)) w:={
  sub:=λ_ _ e=>e
  lv:=λb q=>q.elim (λq=>q.elim (λq=>q▸⟨V.o.own,V.o.ns.elim λm n=>by refine ue n λo es ep e _=>?_;exact⟨o,e⟩⟩) λq=>Iw.live b q) λq=>by subst q;exact⟨fr _ sa,ob,ga⟩
  ob:=(xy ob (.str "<genexpr>" (z.s.toks+1)) (.str (F.env.qual++ "<genexpr>") (z.s.toks+1+1)) ga (pW▸rfl) (pW▸rfl) (pW▸rfl))
  gen:=gs
  go:=λs h=>by obtain⟨u,rfl,hu,h⟩:=h;exact⟨rfl,aag H (Am.in1 (d:=e+1) ⟨iL (e+2),(A.mono he).top⟩).ok hu h⟩
  t:=(cz w rfl ⟨V,ps,⟨hl.symm,bf _⟩,Iw,by show lx (J.e G.nm) G.nm t elt (lX sc σ) ps=some (outs.drop (outs.length-outs.length));erw[hN];rw[y4];exact q4⟩ (λb o _ e=>e))}
 exact hZ (ws) (k y y' w _ outs le hC q5 (hl▸q2) ⟨tE.trans lw,(abG _ _ z.s.gens.size rfl (.inr rfl) (Gn.iter H.gn (show outs.drop (outs.length-outs.length)=outs by rw[y4];rfl) (bf _) Is) (λb q=>q.elim (λq=>q.elim (λq=>(nC b (aD (hL.symm.trans q.symm))).1) λq=>q▸nI) λq=>(nC b (q▸sa)).1) tE.e.de lw.e.de),ob,ga,pW▸rfl⟩)
end
noncomputable def Zt(I:ao):Option ac->Sem Fin
 |none=>do rule "all.exhausted";ret (.bool true)
 |some v=>do
  let yes<-yL [v] (yB v)
  letGo [v]
  if yes then again (.builtin "all.loop" ⟨[.ref I],[]⟩) else(do rule "all.false-item";ret (.bool false))
noncomputable def ϕ(I:ao):Option ac->Sem Fin
 |none=>do rule "any.exhausted";ret (.bool false)
 |some v=>do
  let yes<-yL [v] (yB v)
  letGo [v]
  if yes then(do rule "any.true-item";ret (.bool true)) else again (.builtin "any.loop" ⟨[.ref I],[]⟩)
section
variable{y z w:Pt c}{g:Nat}{outs l:List PV}{u:ac}{a:ao}{K:ao->Prop}{b:Bool}
theorem aew{w:cO}{s:ag}(hT:s.TypeIs (.ref a) "generator"):BH w a s:=λ{A Q} h=>by
 unfold Te;refine ae (Fk hT PySem.F.gen_no_len ?_);show ai _ A (specialOf (pL a) (dw "__length_hint__")>>=_) _ _ _;exact ae (Fk hT PySem.F.gen_no_hint (au (h true s.toks)))
theorem acJ{A:Am (d+1)}(i:AY d x w u outs)(hz:outs.length<=aA):Bl x A.A u outs w.s:=λQ E k=>by
 refine bE λgG hG=>?_;obtain⟨le,⟨a,K,g,rfl,ka,i,nw,g1,g2⟩,ty⟩:=i;refine hG (MG (A:=A) le ty (by decide) (by decide) hz (λ{y S Q E} l b nS q=>?_) k);have i':=i.later (cH.later (W:=λ_=>False) l.st i.live λ_ _=>id);exact aB ty λo t1 t2=>i'.self A.in1 (q y a K g ⟨b,i',nw,λk=>(i.live S k).2.elim λo e=>Mine.nS (nS.symm.trans e),g1,aq g2 l.e.de⟩ (aew (az o (l.e.keep _ _ t1 (cN (i.live a ka).1.hi)) t2)))
theorem Le.on(l:Le x y)(st:br K g y z)(nK:∀b,K b->x.s.heap.get? b=none)(g1:x.s.gens.size<=g)(g2:g<=y.s.gens.size):Le x z:=br.le (br.trans l.st ((st.lower g1 g2).weaken nK)) λ_ q=>q
theorem QG{A:Am (d+1)}{R:mJ->ag->Prop}{L:String}{kk:Option ac->Sem Fin}(ahv:(Code.builtin L ⟨[.ref a],[]⟩).quiet=true)
(Gq:∀{s:ag},ai (ah pw c.w) A.in1.A (gm (.ref a)>>=kk) (λfin s'=>match fin with|.done f=>R (.ok f) s'|.again c'=>c'.quiet=true/\eO (ah pw c.w) A.A c' R s') No s->eO (ah pw c.w) A.A (.builtin L ⟨[.ref a],[]⟩) R s)
(hd:∀{Q:Fin->ag->Prop} {s:ag},Q (.done (.ret (.bool b))) s->ai (ah pw c.w) A.in1.A (kk none) Q No s)(hi:∀{Q:Fin->ag->Prop} {s:ag},Q (.again (.builtin L ⟨[.ref a],[]⟩)) s->ai (ah pw c.w) A.in1.A (kk (some (.bool b))) Q No s)
(k:∀z,Le x z->R (.ok (.ret (.bool b))) z.s)(g1:x.s.gens.size<=g):∀{l:List PV} {K:ao->Prop} {y:Pt c},l.all (PV.zC b)=true->Le x y->dM d a g l K y->(∀b,K b->x.s.heap.get? b=none)->g<=y.s.gens.size->eO (ah pw c.w) A.A (.builtin L ⟨[.ref a],[]⟩) R y.s:=by
 intro l;induction l with
 |nil=>exact λhb le i nK g2=>Gq (ae (i.done A.in1 λz st=>hd (k z (le.on st nK g1 g2))))
 |cons p l ih=>
  intro K y hb le i nK g2;refine dS (aW hb) λhp u6=>Gq (ae (i.next A.in1 λv K' z rv i' st _ dn=>?_));revert rv;cases p with
  |bool b'=>
   cases a5 hp;exact λrv=>lH rv (hi ⟨ahv,ih u6 (le.on st nK g1 g2) i' (λq h=>(dn q h).elim (nK q) λn=>le.e.back (cN (i'.live q h).1.hi) n) (aq g2 st.e.de)⟩)
  |_=>exact ff hp
theorem ZP{A:Am (d+2)}{Q E}(i:AY d x w u outs)(hb:outs.all (PV.zC true)=true)(k:∀z,Le x z->Q (.bool true) z.s):ai (ah pw c.w) A.A (bC (.builtin "all") [u]) Q E w.s:=by
 refine bE λgG hG=>?_;obtain⟨le,⟨a,K,g,rfl,ka,i,nw,g1,g2⟩,ty⟩:=i;refine hG (Ta PySem.F.kind_all PySem.F.plain_all PySem.F.entry_all (PySem.F.args_all1 _) ?_);unfold Builtin.«all»;refine ae (m:=oneArg "all" _) (au (ae (i.self (A.in1.mono (e:=d) (iH d)) (au ⟨iJ Tj _,QG (A:=A.mono (e:=d+1) (iH _)) (kk:=Zt a) (iJ Tj _) (λh=>jO PySem.F.entry_all_loop (by
  erw[kA Tj _];exact cQ h (λ_ _ z=>z) λ_ _ z=>z.elim)) (λq=>ae (uO (au q))) (λq=>ae (dO (wC (ae (wL (au q)))))) k g1 hb le i nw g2⟩))))
theorem aac{A:Am (d+2)}{Q E}(i:AY d x w u outs)(hb:outs.all (PV.zC false)=true)(k:∀z,Le x z->Q (.bool false) z.s):ai (ah pw c.w) A.A (bC (.builtin "any") [u]) Q E w.s:=by
 refine bE λgG hG=>?_;obtain⟨le,⟨a,K,g,rfl,ka,i,nw,g1,g2⟩,ty⟩:=i;refine hG (Ta PySem.F.kind_any PySem.F.plain_any PySem.F.entry_any (PySem.F.args_any1 _) ?_);unfold Builtin.«any»;refine ae (m:=oneArg "any" _) (au (ae (i.self (A.in1.mono (e:=d) (iH d)) (au ⟨iJ Tk _,QG (A:=A.mono (e:=d+1) (iH _)) (kk:=ϕ a) (iJ Tk _) (λh=>jO PySem.F.entry_any_loop (by
  erw[kA Tk _];exact cQ h (λ_ _ z=>z) λ_ _ z=>z.elim)) (λq=>ae (uO (au q))) (λq=>ae (dO (wC (ae (wL (au q)))))) k g1 hb le i nw g2⟩))))
theorem U_(P:cD):di P "all"=some (.builtin "all"):=⋯
theorem afM(P:cD):di P "any"=some (.builtin "any"):=⋯
end
section
variable{A:Am (d+2)}{np:Pos}{kws:List fj}{nm:Str}
theorem X2(S:aX c (d+2) I)(S':O.gens=true->aX c e J)(he:e+4<=d+2)(hk:ak F.nm nm=some .globalImplicit)(hx:nm=("all":Str)\/nm=("any":Str))(h:vi O I J F.nm σ true (xT (nm==("all":Str))) ex=some p)(X:bB F x σ):aE A (eval (.Call (.Name nm np) [ex] [] pos) F.env) x (Rd p):=
 Op (m:=λex=>aE A (eval (.Call (.Name nm np) [ex] [] pos) F.env) x (Rd p)) h λelt t it sc gp v _ hO hg CL hp hs h1 h2 Q E K=>by
  have go:∀(g:ac) (b:Bool),(nm==("all":Str))=b->di c.w.params nm=some g->oO c.w.params g->nm≠("__debug__":Str)->(∀{y w:Pt c} {u:ac} {outs:List PV} {Q E},AY (e+2) y w u outs->outs.all (PV.zC b)=true->(∀z,Le y z->Q (.bool b) z.s)->ai (ah pw c.w) A.A (bC g [u]) Q E w.s)->
    ai (ah pw c.w) A.A (eval (.Call (.Name nm np) [.GeneratorExp elt [⟨t,it,[],0⟩] sc gp] [] pos) F.env) Q E x.s:=λg b hb gv kg nd fin=>by
   have UD:∀e'∈[Expr.GeneratorExp elt [⟨t,it,[],0⟩] sc gp],ik e'=false:=λe' m=>cY m▸rfl;refine wH (nH hk gv nd x (sK (lq UD) rfl kg (aa (vJ UD) (wI (Ob (C:=λy y'=>y'.s=y.s) S (S' hO) (aq (i3 (by decide) e) he) hg CL hp hs h1 h2 X (λ{y} X=>(az (y.kQ F) rfl (.kQ X (It hs)))) λy y' w u outs le ce q1 q2 gi=>Cc (uK ⟨w.cT,?_⟩))))));rw[hb] at q1;exact aL q1 λq e=>fin gi q λz lz=>K _ (y.to z.s (ce▸lz.e) z.tab) (le.trans (Le.to _ _)) (ay e▸ .bool)
  rcases hx with rfl|rfl
  ·exact go _ true rfl (U_ _) (.inl ⟨_,rfl⟩) (by decide) λgi q k=>ZP (A:=A.mono he) gi q k
  ·exact go _ false rfl (afM _) (.inl ⟨_,rfl⟩) (by decide) λgi q k=>aac (A:=A.mono he) gi q k
theorem Zp(Or:cg c O d)(S:aX c (d+2) I)(S':O.gens=true->aX c e J)(he:e+4<=d+2)(hk:ak F.nm ("sorted":Str)=some .globalImplicit)(h:vi O I J F.nm σ false (λvs=>eD O F.nm vs kws) ex=some p)(X:bB F x σ):aE A (eval (.Call (.Name "sorted" np) [ex] kws pos) F.env) x (Rd p):=
 Op (m:=λex=>aE A (eval (.Call (.Name "sorted" np) [ex] kws pos) F.env) x (Rd p)) h λelt t it sc gp v nf hO hg CL hp hs h1 h2=>by
  refine dN (Qi h2) λps q=>Sh Or hk rfl (aj q λouts _ q=>⟨outs,q⟩) λQ E K=>Ob (C:=λy y'=>y'=y) S (S' hO) (aq (i3 (by decide) e) he) hg CL hp hs h1 h2 X (λX=>(az _ rfl (.id (nf.resolve_left dy)))) λy y' w u outs le ce q1 q2 gi=>?_;subst ce;exact K w u outs (le.trans gi.le) q1 q2 λQ E k=>acJ (A:=A.in1.mono (Kt he)) gi q2 Q E λz us l=>k z us (le.trans l)
theorem Pw(Or:cg c O d)(S:aX c (d+2) I)(S':O.gens=true->aX c e J)(he:e+4<=d+2):BJ c O (d+2) I J where
 N0 hk hx h X:=X2 S S' he hk hx h X
 My hk h X:=Zp Or S S' he hk h X
 Mq hk h1 h2 X:=Zd S Or hk h1 h2 X
end
end
section
variable{c:Cx}{x y z w:Pt c}{d:Nat}{v:ac}{yp ey py ps pa:Pos}{l:List PV}
def kM:Ip:=⟨λnm σ e=>(iq e).bind λx=>G8 nm σ x,λ_ _ _=>none⟩
section
variable{B:GP c}{m:Nat}{cX:ag}{UE:Pos}{kk:mJ->Sem Fin}{hd:Option ac}{lv kp:List ac}{cc:Code}
theorem XD:aX c d kM where
 nn h:=aj h λz e _=>zR (m:=λe=>ql e=true) e λ_=>rfl
 tup h:=nS h
 lst h:=nS h
 ev {A x F σ e p} h X:=aj h λz e h=>zR (m:=λe=>aE A (eval e F.env) x (Rd p)) e λ_=>M6 h X
 te h:=nS h
theorem XI{env:Env}(h:env.scope.kind=.function):Kp env=false:=by unfold Kp;erw[h];rfl
noncomputable def GP.Ht(B:GP c)(yp ey:Pos):Code:=.forLoop B.t (.ref B.I) [.Expr (.Yield (some B.elt) yp) ey] [] B.F.env
theorem Vu(k:B.Ok)(hA:jE B.e ((iL (B.e+2)).in1.over (B.Ht yp ey) [.ret kk hd false lv cc UE kp]))
(hk:∀cX (z:Pt c),ci B.K (B.g+1) cX z.s->Seg (ah pw c.w) (iL (B.e+2)).in1 B.gn.R B.gn.Y 0 cX cc (kk (.ok .next)) [] z.s):
  ∀(m:Nat) (cX:ag) (u:Pt c),u.f=B.p.f->B.T m u->ci B.K (B.g+1) cX u.s->Seg (ah pw c.w) (iL (B.e+2)).in1 B.gn.R B.gn.Y m cX (B.Ht yp ey) ((ah pw c.w).den (B.Ht yp ey)) [.ret kk hd false lv cc UE kp] u.s:=by
 intro m;induction m with
 |zero=>
  intro cX u hu h X;show Seg _ _ _ _ _ cX _ ((forTurn B.t (.ref B.I) [.Expr (.Yield (some B.elt) yp) ey] [] B.F.env).onRaise _) _ u.s;rw[FS];unfold forTurn;exact ib (jq (ib (wpAny_onRaise (k.done ⟨_,hA⟩ X h λz x=>FT rfl (seg_leaf (.ok .next) (hk cX z x))))))
 |succ m ih=>
  intro cX u hu h X;show Seg _ _ _ _ _ cX _ ((forTurn B.t (.ref B.I) [.Expr (.Yield (some B.elt) yp) ey] [] B.F.env).onRaise _) _ u.s;rw[FS];unfold forTurn;refine ib (jq (ib (wpAny_onRaise (k.next ⟨_,hA⟩ hu X h λv z M=>ib (M.go ⟨_,hA⟩ (ib (k.put M ⟨_,hA⟩ λpx σ' y T=>?_)))))));rw[Th,Ti];exact seg_execs_cons (seg_Expr_Yield rfl rfl rfl (k.S.ev (A:=(⟨_,hA⟩:Am B.e)) T.e T.v _ _ λv' y' le LL CK ahw=>k.give T le LL λu e t=>ahw .none u.s (FT rfl (ih u.s u e t (.refl _)))) k.co (XI B.F.kind))
end
section
variable{F:Fm}{e g m:Nat}{A:Am d}{a:ao}{z1:Str}{px pos:Pos}
theorem Ϧ{w:cO}{A:bh}{s:ag}{E:ac->ag->Prop}{K:km}{x C c:ao}{ox:Obj}{od:Option Obj}{Q:ac->ag->Prop}(X:K.In s.heap)(J:InstAt s.heap x ox C od)(hs:fN K (.ref C) "__iter__"=some (some (.ref c)))(hf:oq K (.ref c)=true)
(h:ai (ah pw w) A (bC (.ref c) [.ref x]) (λit s'=>s'.TypeIs it "generator"/\Q it s') E s):ai (ah pw w) A (gk (.ref x)) Q E s:=by
 have key:∀t:Sem ac,ai (ah pw w) A (agA (.ref x) "__iter__" t) (λr s'=> ∃v,r=some v/\s'.TypeIs v "generator"/\Q v s') E s:=λt=>by
  unfold agA bindSpecialIfBound?;refine dO (ae (ae (ae (J.type.here ((yU X hs).here (ae (oA (wpAny_ite ?_))))))));have last:ai (ah pw w) A (bC (.ref c) [.ref x]>>=λv=>pure (some v)) (λr s'=> ∃v,r=some v/\s'.TypeIs v "generator"/\Q v s') E s:=
   ae (cQ h (λv s' z=>au (az v rfl z)) λ_ _ z=>z)
  split
  ·exact ae ((bind_fn X _ (a5 hf)).here (au (by exact last)))
  ·exact FO (ae ((bind_fn X _ (a5 hf)).here (au (by exact last))))
 unfold gk;refine ae (ae (J.type.here ((yU X hs).here (ae (cQ (key _) (λr s' z=>?_) λ_ _ z=>z)))));refine cP z λv bY T q=>?_;subst bY;exact ae (Fk T slot_gen_next.lookup (au q))
theorem aad{nm:aN}{σ:bj}(hx:ak nm z1=some .local)(hd:z1≠("__debug__":Str))(hσ:ak σ z1=none):lx (kM.e nm) nm (.Name z1 px) (.Name z1 py) σ l=some l:=by
 induction l with
 |nil=>rfl
 |cons v l ih=>
  have h1:mq (.Name z1 px) σ=true:=by show(wl (.Name z1 px)).all _=true;unfold wl;erw[Kf];erw[hσ];rfl
  have h2:fT (gY nm) (.Name z1 px) v σ=some (b9 σ z1 v):=iP (.inl hx);have h3:kM.e nm (b9 σ z1 v) (.Name z1 py)=some v:=by
   show(if z1=("__debug__":Str) then none else if ak nm z1=some .globalImplicit then Ib z1 else ak (b9 σ z1 v) z1)=some v;refine aa (iN hd) (aa (hx) (aa (iN (by decide)) (aa (vA) (aa (iP rfl) ?_))));rfl
  show(if mq (.Name z1 px) σ=true then(fT (gY nm) (.Name z1 px) v σ).bind λσ'=>(kM.e nm σ' (.Name z1 py)).bind λx=>(lx (kM.e nm) nm (.Name z1 px) (.Name z1 py) σ l).map λmore=>x::more else none)=_;refine aa (iP h1) (aa (h2) (aa (ih) ?_));show((kM.e nm (b9 σ z1 v) (.Name z1 py)).bind _)=_;erw[h3];rfl
noncomputable def rP(z1:Str)(px py ps pa yp ey pos:Pos):List aH:=[.For (.Name z1 px) (.Attribute (.Name "self" ps) "_voters" pa) [.Expr (.Yield (some (.Name z1 py)) yp) ey] [] pos]
structure PR(F:Fm)(w:Pt c)(a:ao)(e:Nat)(z1:Str)(σ:bj)(v vl:ac)(l:List PV):Prop where
 co:F.env.scope.isCoroutine=false
 cl:∀b,dq F.env b->b=F.env.locals
 na:a≠F.env.locals
 fa:bV w a
 hx:ak F.nm z1=some .local
 hd:z1≠("__debug__":Str)
 hσ:ak σ z1=none
 r:sJ F w σ
 V:dB F.env w.s.heap "self" v
 rd:Rd (.list l) w vl
 get:∀{y:Pt c} {A:bh} {Q:ac->ag->Prop} {E:ac->ag->Prop},Sub w.f y.f->(∀t,Q vl {y.s with toks:=t})->ai (ah pw c.w) A (uI v "_voters" true) Q E y.s
theorem PR.ok{σ:bj}{vl:ac}(H:PR F w a e z1 σ v vl l){I:ao}(h1:I≠F.env.locals)(h2:a≠I):GP.Ok ⟨w,a,g,e,F,I,kM,.Name z1 px,.Name z1 py,σ,l⟩ where
 co:=H.co
 uD z b q:=absurd (H.cl b (.inr ⟨z,q⟩)) (F.cl z b q)
 na q:=q.elim H.na h2
 nI q:=h1 (H.cl _ q)
 ow b q:=H.cl b (nX q)
 S:=XD
theorem Xe{σ:bj}{vl:ac}(H:PR F w a e z1 σ v vl l)(hA:jE (e+1) (iL (e+2)).in1)(hy:y.f=w.f)(r:sJ F y σ)(V:dB F.env y.s.heap "self" v)(na:a≠y.s.heap.objs.size):
  Seg (ah pw c.w) (iL (e+2)).in1 (GP.gn ⟨w,a,g,e,F,y.s.heap.objs.size,kM,.Name z1 px,.Name z1 py,σ,l⟩).R (GP.gn ⟨w,a,g,e,F,y.s.heap.objs.size,kM,.Name z1 px,.Name z1 py,σ,l⟩).Y l.length y.s (.func (rP z1 px py ps pa yp ey pos) F.env) ((ah pw c.w).den (.func (rP z1 px py ps pa yp ey pos) F.env)) [] y.s:=by
 have nl:y.s.heap.objs.size≠F.env.locals:=λq=>tI r.o.ns λm o es ep e _=>cV _ (fB (q▸e));have ok:=H.ok (g:=g) (px:=px) (py:=py) nl na;have hA1:jE e ((iL (e+2)).in1.over (.func (rP z1 px py ps pa yp ey pos) F.env) []):=hA.to rfl (oS (show 1<=4 by decide)) (oS (show 3<=40 by decide));refine seg_func (seg_execs_cons ?_);rw[exec_For];refine ib (jq (ib (JT rfl (Cb (zL F V (H.get (λb o e=>(congrFun hy b).trans e) λt=>?_)) rfl))));refine ib (B3 rfl (ib (jq (ib (dO (HT (A:=(⟨_,hA1⟩:Am e)) (x:=y.tok t) (l:=l) (H.rd.mono λb o e=>(congrFun hy b).trans e) _ _ λy2 le hf i=>seg_call λp=>Vu (B:=⟨w,a,g,e,F,y.s.heap.objs.size,kM,.Name z1 px,.Name z1 py,σ,l⟩) ok ?_ (λcX z X=>seg_end (.ok (.ret .none)) (zK (.inr rfl) rfl ⟨z,rfl⟩ X)) l.length y.s y2 (hf.trans hy) ⟨⟨r.v.le ((y.cG _).trans le),r.o.le r.v ((y.cG _).trans le)⟩,l,⟨rfl,bf _⟩,i,?_⟩ ((y.cG _).trans le).e.n8))))))
 ·exact hA.to rfl (oS (show 1<=4 by decide)) (oS (show 3<=40 by decide))
 ·show _=some (l.drop (l.length-l.length));rw[y4];exact aad H.hx H.hd H.hσ
end
section
variable{F:Fm}{e g m:Nat}{A:Am d}{a:ao}{vl:ac}{z1:Str}{px pos:Pos}{σ:bj}
def pK(F:Fm)(a b:ao):Prop:=b=F.env.locals\/b=a
theorem PR.next{B:Am (e+2)}(H:PR F w a e z1 σ v vl l)(hg:w.s.gens[g]?=some (.fresh (.func (rP z1 px py ps pa yp ey pos) F.env)))(ob:w.s.heap.IsGen a g)(lv:lD (pK F a) w)(m:ir (pK F a) (· <=g) w y){Q:Option ac->ag->Prop}{E:ac->ag->Prop}
(kd:l.length=0->∀z,br (pK F a) g y z->Q none z.s)(ki:∀m v p ie z,l.length=m+1->l[l.length-l.length]?=some p->Rd p z v->br (pK F a) g y z->(GP.gn ⟨w,a,g,e,F,y.s.heap.objs.size,kM,.Name z1 px,.Name z1 py,σ,l⟩).Is (e+2) m ie z->GP.Ok ⟨w,a,g,e,F,y.s.heap.objs.size,kM,.Name z1 px,.Name z1 py,σ,l⟩->Q (some v) z.s):
  y.s.heap.IsGen a g/\ai (ah pw c.w) B.A (gm (.ref a)) Q E y.s:=by
 have LN:=lv.later m;have UF:y.s.heap.IsGen a g:=by refine ue ob λo nm qn e r=>?_;exact(zt o nm qn (m.k a o (.inr rfl) e) r)
 have nI:y.s.heap.get? y.s.heap.objs.size=none:=eQ _;have kp:∀b o,dq F.env b->w.s.heap.get? b=some o->y.s.heap.get? b=some o:=λb o q e=>m.k b o (.inl (H.cl b q)) e;have nl:∀b,pK F a b->b≠y.s.heap.objs.size:=λb q e=>(LN b q).2.elim λo e'=>nS (nI.symm.trans (e▸e'));have ok:=H.ok (g:=g) (px:=px) (py:=py) (gV (nl _ (.inl rfl))) (nl _ (.inr rfl));have r1:sJ F ((y.base w m.sub).gen g .running) σ:=⟨H.r.v.keep kp λ_ _ e=>e,H.r.o.keep H.r.v.cR kp λb _ n _=>⟨n.f,n.h₀,n.hi⟩⟩;have seg:=Xe (g:=g) (px:=px) (py:=py) (ps:=ps) (pa:=pa) (yp:=yp) (ey:=ey) (pos:=pos) H (Am.in1 (d:=e+1) ⟨iL (e+2),B.top⟩).ok (y:=(y.base w m.sub).gen g .running) rfl r1 (H.V.keep kp) (nl _ (.inr rfl));have sh:∀{z:Pt c},br (GP.gn ⟨w,a,g,e,F,y.s.heap.objs.size,kM,.Name z1 px,.Name z1 py,σ,l⟩).K g y z->br (pK F a) g y z:=λst=>st.shrink λb q=>q.elim (λq=>.inl (.inl q)) λq=>.inr (q▸nI);exact⟨UF,Gn.step (G:=GP.gn ⟨w,a,g,e,F,y.s.heap.objs.size,kM,.Name z1 px,.Name z1 py,σ,l⟩) ok.gn B m.sub (λb q=>q.elim (λq=>q.elim (λq=>(LN b (.inl q)).1) λq=>y.free (aD q.symm) (q▸nI)) λq=>(LN b (.inr q)).1) UF (m.g g _ (bf _) hg) ⟨rfl,seg⟩ (λe z st=>kd e z (sh st)) λm' v p ie z e1 e2 r st i=>ki m' v p ie z e1 e2 r (sh st) i ok⟩
theorem υ(H:PR F w a e z1 σ v vl l)(hg:w.s.gens[g]?=some (.fresh (.func (rP z1 px py ps pa yp ey pos) F.env)))(ob:w.s.heap.IsGen a g):dM (e+2) a g l (pK F a) w:=by
 have lv:lD (pK F a) w:=λb q=>q.elim (λq=>q▸⟨H.r.o.own,by refine tI H.r.o.ns λm o es ep e _=>?_;exact⟨o,e⟩⟩) λq=>q▸⟨H.fa,by refine ue ob λo _ _ e _=>?_;exact⟨o,e⟩⟩;have two:∀{y:Pt c} {A:Am (e+2)},y.s.heap.IsGen a g->(∀Q E,Q (.ref a) y.s->ai (ah pw c.w) A.A (gk (.ref a)) Q E y.s)/\(∀v t Q E,Q () y.s->ai (ah pw c.w) A.A (yH t (.ref a) v) Q E y.s):=λj=>aB j.typeIs λo h1 h2=>⟨λQ E q=>wpAny_pyIter_gen j q,λv t Q E q=>Eu h1 h2 (by decide) q⟩;have obs:∀{y:Pt c},ir (pK F a) (· <=g) w y->y.s.heap.IsGen a g:=λm=>by refine ue ob λo nm qn e r=>?_;exact(zt o nm qn (m.k a o (.inr rfl) e) r)
 induction l using bO with
 |nil=>exact⟨lv,λy A m=>(ej ((two (obs m)).1) ((two (obs m)).2) (λQ E k=>(H.next (B:=A) hg ob lv m (λ_=>k) λm v p ie z e=>nomatch e).2))⟩
 |cons p l=>
  refine⟨lv,λy A m=>(ej ((two (obs m)).1) ((two (obs m)).2) (λQ E k=>(H.next (B:=A) hg ob lv m (λe=>nomatch e) λm' v p' ie z e1 e2 r st i ok=>?_).2))⟩;rw[y4] at e2;cases ay e2;cases wA e1;refine k v _ z r (Gn.iter ok.gn ?_ (iH _) i) st (λb q=>q.imp .inl id) λb q=>q.elim (λq=>q.elim (λq=>.inl (.inl q)) λq=>.inr (q▸eQ _)) λq=>.inl (.inr q);show(p::l).drop (l.length+1-l.length)=l;rw[FU];rfl
def jn:aY:=⟨582,c7 37 11,"Profile.__iter__",.none,.str (dw "abcvoting.preferences") 849,.ref 581,[],[]⟩
noncomputable def vy(l c e f:Nat):Pos:={line:=l,col:=c,endLine:=e,endCol:=f}
theorem Q_:jn.body=rP "voter" (vy 634 12 634 17) (vy 635 18 635 23) (vy 634 21 634 25) (vy 634 21 634 33) (vy 635 12 635 23) (vy 635 12 635 23) (vy 634 8 635 23)/\jn.scope.names=([("self",.local),("voter",.local)]:aN)/\jn.names=(["self"]:List Str)/\jn.plain=true/\jn.scope.kind=.function/\jn.scope.isCoroutine=false/\jn.scope.isGenerator=true:=by
 refine(ae4 (?_) (?_) (?_) (?_) (?_) (?_) (?_))<;>rfl'
theorem UO(P:cD):(KL P).lookup jn.addr=some (ch jn.st jn.qual jn.dflt jn.pm jn.code [] .none):=⋯
theorem acl(P:cD):(fN (KL P) (.ref bx) "__iter__"==some (some (.ref jn.addr))&&(oq (KL P) (.ref jn.addr)&&codeIn (KL P) jn.code (dw jn.qual)))=true:=⋯
end
section
variable{F:Fm}{A:Am (d+2)}{fs:List (Str×PV)}{px fp:Pos}{R:aY}{Q:mJ->ag->Prop}
theorem θ(z:Pt c){h':am}{code:Code}{t:Nat}(keep:∀b o,z.s.heap.get? b=some o->h'.get? b=some o):∃w:Pt c,w.s={z.s with gens:=z.s.gens.push (.fresh code),toks:=t,heap:=h'}/\w.f=z.f/\Le z w/\w.s.gens[z.s.gens.size]?=some (.fresh code):=
 have x3:e8 z.s {z.s with gens:=z.s.gens.push (.fresh code),toks:=t,heap:=h'}:=⟨λb o e _=>keep b o e,λi x e=>by
   erw[KI];erw[iN (gE (ag2.mp e).1)];exact e,λi x l e=>by
   rw[KI] at e;by_cases q:i=z.s.gens.size
   ·rw[iP q] at e;cases ay e;rfl
   ·rw[iN q] at e;exact tO l e,rfl⟩
 (vn (z.to _ x3 (z.tab.keeps keep)) rfl rfl (Le.to _ _) (agz))
theorem Wn(hp:R.plain=true)(hb:R.body=rP "voter" px py ps pa yp ey fp)(hn:R.scope.names=([("self",.local),("voter",.local)]:aN))(ha:R.names=(["self"]:List Str))(hk:R.scope.kind=.function)(LO:R.scope.isCoroutine=false)(ahx:R.scope.isGenerator=true)
(at_:(KL c.w.params).lookup R.addr=some (ch R.st R.qual R.dflt R.pm R.code [] .none))(hd:R.dflt=.none)(hc:codeIn (KL c.w.params) R.code (dw R.qual)=true)(h:ak fs ("_voters":Str)=some (.list l))(r:Rd (.inst bx fs) x v)
(k:∀w I K g,Le x w->w.s.TypeIs (.ref I) "generator"->dM 2 I g l K w->(∀b,K b->x.s.heap.get? b=none)->x.s.gens.size<=g->g<=w.s.gens.size->Q (.ok (.ret (.ref I))) w.s):eO (ah pw c.w) A.A (.call (.ref R.addr) ⟨[v],[]⟩) Q x.s:=by
 refine bE λgG hG=>aB (NW h ⋯ rfl r) λvl rv get=>?_;have ho:=x.cT _ _ at_;have al:∀z k,(z,k)∈R.scope.names->ak R.scope.names z=some k/\k=.local:=λz k m=>by
  rw[hn] at m⊢;rcases bw m with q|q
  ·cases q;exact⟨rfl,rfl⟩
  ·cases cY q;exact⟨rfl,rfl⟩
 have S:DQ R.scope:=⟨hk,LO,λz e=>absurd (al z _ (gM e)).2 (by decide),λz kd m=>(al z kd m).1⟩;have cd:=codeRec_of x.cT hc;have Gi:∀z,ak R.scope.names z≠some .cell:=λz e=>absurd (al z _ (gM e)).2 (by decide);have ng:pA R.scope.names=true->wt R.code=true:=λq=>by rw[hn] at q;exact ff q
 have e1:ak R.scope.names ("self":Str)=some .local:=by erw[hn];rfl
 have e2:ak R.scope.names ("voter":Str)=some .local:=by erw[hn];rfl
 clear at_ hc hn al;obtain⟨addr,st,qual,dflt,pm,code,Ly,mu⟩:=R;obtain⟨name,args,body,dl,rt,tp,sc,ts,bd,pos,rfl⟩:=Jb (R:=⟨addr,st,qual,dflt,pm,code,Ly,mu⟩) hp;cases(show body=_ from hb);cases(show dflt=.none from hd);refine hG (codeAny_call_generator (o:=ch (.FunctionDef name args (rP "voter" px py ps pa yp ey fp) dl rt tp sc ts bd pos) qual .none pm code [] .none) (aQ (cW _ _) A.ok.depth) ho rfl LO ahx rfl cd (Jf (ds:=[]) (o:=none) (binds:=[(("self":Str),v)]) (show zv args=true from hp) (λ_ _ _ _ q=>au q) rfl (by erw[(show args.args.map (·.arg)=_ from ha)];rfl) _ _ _ _ (H7 S (nL ⟨eX,.nil⟩) (λq m=>by erw[cY m];exact .inl e1) ng λF y e=>⟨x.nolimit.keeps e.kp,?_⟩)));dsimp only;generalize pW:({cls:=.type "generator",data:=.fields #[.int y.s.gens.size 0,.str _ y.s.toks,.str _ (y.s.toks+1)]}:Obj)=ob;have LM:ob.isFreed=false:=pW▸rfl;refine kU (θ y (h':=y.s.heap.push ob) (code:=.func (rP "voter" px py ps pa yp ey fp) F.env) (t:=y.s.toks+1+1) λ_ _=>c5 _) λw ws wf lw wg=>?_;have ga:w.s.heap.get? y.s.heap.objs.size=some ob:=by erw[ws];exact ft _ LM
 have ho:w.s.heap.IsGen y.s.heap.objs.size y.s.gens.size:=(xy ob (.str name y.s.toks) (.str (dw qual) (y.s.toks+1)) ga (pW▸rfl) (pW▸rfl) (pW▸rfl));have V:dB F.env y.s.heap "self" v:=e.var _ _ (.head _);have X:bB F y [(("self":Str),.inst bx fs)]:=⟨e.cR,λz p q=>d6 (c:=("self":Str)=z) q (λk q=>by subst k;exact(az v V (ay q▸r.mono e.le.sub))) λ_ q=>nS q⟩;have kw:∀b o,y.s.heap.get? b=some o->w.s.heap.get? b=some o:=λb o q=>by erw[ws];exact c5 _ q
 have H:PR F w y.s.heap.objs.size 0 "voter" [(("self":Str),.inst bx fs)] v vl l:={
  co:=e.Vv▸LO
  cl:=λb q=>q.elim id λq=>q.elim λz q=>absurd (e.only z b q) (Gi z)
  na:=λq=>by refine tI e.own.ns λm o es ep q' _=>?_;exact cV _ (fB (q▸q'))
  fa:=⟨(congrFun wf _).trans (y.E5 (eQ _)),y.EO (eQ _),y.hi (bf _)⟩
  hx:=e.nm▸e2
  hd:=by decide
  hσ:=rfl
  r:=⟨X.le lw,e.own.le X lw⟩
  V:=V.keep λb o _=>kw b o
  rd:=rv.mono (λb o q=>lw.sub b o (e.le.sub b o q))
  get:=λs q=>get (λb o q=>s b o (lw.sub b o (e.le.sub b o q))) q}
 exact hZ (ws) (k w _ _ _ (e.le.trans lw) (az ob ga (pW▸rfl)) (υ H wg ho) (λb q=>q.elim (λq=>q▸e.new _ (.inl rfl)) λq=>q▸e.le.e.back (y.j5 (bf _)) (eQ _)) (aD (af SP e.gens.symm)) (lw.e.de))
theorem U'(h:ak fs ("_voters":Str)=some (.list l))(r:Rd (.inst bx fs) x v):qA A (gk v) x l:=λQ E k=>by
 refine dS (aW (acl c.w.params)) λz1 z=>?_;obtain⟨z2,z3⟩:=aW z;exact adS Q_ λs1 s2 s3 s4 s5 s6 s7=>m8 r λI _ _ r'=>Ϧ x.cT I (a5 z1) z2 (qY (Wn s4 s1 s2 s3 s5 s6 s7 (UO _) rfl z3 h r' λw I K g le ty i n g1 g2=>⟨ty,k w I K g le (i.mono (i7 2 d)) n g1 g2⟩))
theorem Ir:Ov c (d+2):=λ{β k r v p A x} h rd=>by
 induction p using dh with
 |inst cc fs=>
  refine bE λgG hG=>aj h λxs h1 h2=>aL h1 λhc h1=>aj h1 λq e h3=>?_;subst hc;exact hG ((az xs h2 (U' (pI (m:=λq=>ak fs ("_voters":Str)=some q->_) h3 id e) rd)))
 |_=>exact XS h rfl rd
end
section
variable{e k N:Nat}{O:aK}
theorem cg.gens{b:Bool}(Or:cg c O d):cg c {O with gens:=b} d:=⟨Or.fn,Or.bM,Or.Ao,Or.attr,Or.bin,Or.cmp,Or.lt⟩
theorem Hn(Or:cg c O e)(h:O.gens=false)(hd:e<=d):G1 c O (d+4):=
 ⟨Ir,Or.mono (aq hd (cW _ _)),Py Or (aq (mF hd 3) (iH _)),λn S _=>Pw (d:=d+2) (e:=0) (Or.mono (aq hd (cW _ _))) S (λq=>ff (h.symm.trans q)) (i7 4 d)⟩
theorem acp(Or:cg c O e)(hd:e<=d)(n:Nat):aX c (d+4) (ip n {O with gens:=false}):=RX n (Hn Or.gens rfl hd) (Hn (O:={O with gens:=false}) Or.gens rfl hd)
theorem Nv(Or:cg c O d)(n:Nat):aX c (d+8) (ip n O):=
 RX n ⟨Ir,Or.mono (cW _ _),Py Or (i3 (by decide) d),λn S _=>Pw (d:=d+6) (e:=d+4) (Or.mono (cW _ _)) S (λ_=>acp Or (bf _) n) (bf _)⟩ (Hn (d:=d+4) Or.gens rfl (cW _ _))
theorem hH.mono(M:hH c O e)(h:e<=d):hH c O d where
 mw k:=by refine cP (M.mw k) λg a b r=>?_;exact(cz g a b (λ{A}=>r (A:=A.mono h)))
 make k:=by refine cP (M.make k) λg a b r=>?_;exact(cz g a b (λ{A}=>r (A:=A.mono h)))
 nW k:=by refine cP (M.nW k) λg a b r=>?_;exact(cz g a b (λ{A}=>r (A:=A.mono h)))
theorem IJ(Or:cg c O d)(M:hH c O d)(n:Nat):Sd c (d+8) (aw O n):=Vx (Nv Or) Ir (M.mono (cW _ _)) (Or.mono (cW _ _)) n
theorem Dx:∀k,cg c (aI N k) (11*k)/\hH c (aI N k) (11*k):=by
 intro k;induction k with
 |zero=>exact⟨Z3,Wb⟩
 |succ k ih=>exact⟨U0 (IJ ih.1 ih.2),ab7 (IJ ih.1 ih.2)⟩
end
end
section
variable{st:aH}{σ:ar}{nm:aN}{mu:List Str}{p com:PV}
section
noncomputable abbrev NN:Nat:=1000000
noncomputable abbrev nx(σ:ar):aZ:=some (.next,σ)
section
variable{α β:Type}{x:Option α}{a:α}{K:α->Option β}{r:Option β}{X:ar->aH->aZ}{l:List aH}{σ₁:ar}{o:aZ}{f:fZ}
theorem aG(h:x=some a)(k:K a=r):x.bind K=r:=h▸k
theorem aF(h:X σ st=some (.next,σ₁))(k:aS X l σ₁=o):aS X (st::l) σ=o:=(af (λr:aZ=>r.bind λq=>if q.1.g9=true then aS X l q.2 else some q) h).trans k
theorem yq{m:List aH}(h:aS X l σ=some (.next,σ₁))(k:aS X m σ₁=o):aS X (l++m) σ=o:=by
 induction l generalizing σ with
 |nil=>cases ay h;exact k
 |cons st l ih=>
  refine aj h λq e h=>?_;obtain⟨fl,σ'⟩:=q;cases fl with
  |next=>exact aF e (ih h)
  |ret p=>nomatch ay h
  |exc=>nomatch ay h
theorem Nr(k:Nat)(h:aS X (l.take k) σ=some (.next,σ₁))(q:aS X (l.drop k) σ₁=o):aS X l σ=o:=(af (λl=>aS X l σ) (Tl k l).symm).trans (yq h q)
end
noncomputable def l7:Expr:=.Constant .none 0 default
def sE:aH->Expr
 |.If t _ _ _=>t
 |.While t _ _ _=>t
 |.For _ it _ _ _=>it
 |.Return e _=>e.getD l7
 |.Assign _ e _=>e
 |.AugAssign _ _ e _=>e
 |.Expr e _=>e
 |_=>l7
def sT:aH->Expr
 |.Assign ts _ _=>ts.getD 0 l7
 |.AugAssign t _ _ _=>t
 |.For t _ _ _ _=>t
 |_=>l7
noncomputable def sB(i:Nat):aH->List aH
 |.If _ b c _=>if i=0 then b else c
 |.While _ b _ _=>b
 |.For _ _ b _ _=>b
 |.Try b _ _ _ _=>b
 |_=>[]
def IH(nm:aN)(x f:Str)(b:Bool)(q:PV×ar):aZ:=(kh q.2 x).bind λv=>v.lK.bind λi=>if Al.contains (i.1,f)=true/\i.2.1.length<=100 then eh (putN nm x (zG b i.1 i.2.1 i.2.2 f q.1) q.2) else none
def bH(nm:aN)(x:Str)(b:Bool)(q:PV×ar):aZ:=eh (putN nm x (C1 b q.1) q.2)
def Iq(O:aK)(nm:aN)(x:Str)(op:ia)(a:PV)(q:PV×ar):aZ:=(tV O op a q.1).bind λp=>eh (putN nm x (.pv p) q.2)
section
variable{O:aK}{n:Nat}{K:PV×ar->aZ}{r:aZ}{ev:bj->Expr->Option PV}{e:Expr}
theorem vW(h:ev (fJ σ) e=some p):bX ev σ e=some (p,σ):=by unfold bX;rw[h];rfl
theorem Ei(he:cI O n nm (bA σ) e=some p):sO O (ip n O) nm σ e=some (.ret p,σ):=af (λx:Option PV=>qF x (λp=>some (fZ.ret p,σ)) (if raises O (ip n O) nm (bA σ) e=true then some (fZ.exc,σ) else none)) he
theorem bg(hs:aw O (n+1) nm mu σ st=(bX (cI O n nm) σ (sE st)).bind K)(he:cI O n nm (fJ σ) (sE st)=some p)(hk:K (p,σ)=r):aw O (n+1) nm mu σ st=r:=hs.trans (aG (vW he) hk)
end
def fr(n d:Int):PV:=.inst dm [("numerator",.int n),("denominator",.int d)]
def eg(q:Rat):PV:=fr q.num q.den
def rX:aN:=nV.scope.names
def wo(fs:List (Str×PV))(n d dv r:Int):ar:=[("self",.a7 dm fs []),("numerator",.pv (.int n)),("denominator",.pv (.int d)),("upper",.pv (.int n)),("lower",.pv (.int d)),("divisor",.pv (.int dv)),("rest",.pv (.int r))]
variable{O:aK}{n k:Nat}
theorem adv(n:Int)(d:Nat):a9 O NN rX [] [("self",.a7 dm [] []),("numerator",.pv (.int n)),("denominator",.pv (.int ((d+1:Nat):Int)))] (nV.body.take 11)=some (.next,wo [] n ((d+1:Nat):Int) ((d+1:Nat):Int) (n.fmod ((d+1:Nat):Int))):=⋯
theorem aeQ{N D:Int}{dv r f:Nat}:aw O (f+31) rX [] (wo [] N D dv (r+1:Nat)) (aJ nV.body 11)=aw O (f+30) rX [] (wo [] N D (r+1:Nat) ((dv:Int).fmod (r+1:Nat))) (aJ nV.body 11):=⋯
theorem aaQ{N D:Int}(r:Nat):∀{dv f:Nat},r<f->aw O (f+30) rX [] (wo [] N D dv r) (aJ nV.body 11)=some (.next,wo [] N D (FV dv r:Nat) 0):=by
 induction r using Nat.strongRecOn with
 |ind r ih=>
  intro dv f hf;cases r with
  |zero=>
   rw[Nat.gcd_zero_right];cases f with
   |zero=>exact absurd hf (cV _)
   |succ f=>rfl'
  |succ r=>
   cases f with
   |zero=>exact absurd hf (yW _)
   |succ f=>
    have e:(dv:Int).fmod (r+1:Nat)=((dv%(r+1):Nat):Int):=Ke _ (fP _);have eZ:dv%(r+1)<r+1:=Cf dv (eE r);refine aeQ.trans ?_;rw[e,ih _ eZ (ba eZ (jt hf)),Nat.gcd_comm (r+1),<-Nat.gcd_rec,Nat.gcd_comm]
theorem JH{i j:Int}(h:j≠0/\j.natAbs<d3):fw .FloorDiv i j=some (.int (i.fdiv j)):=iP h
theorem pf{i j:Int}(h:j.natAbs<d3\/i.natAbs<d3):fw .Mult i j=some (.int (i*j)):=iP h
theorem acA(N:Int){D r g:Nat}(hr:N.fmod ((D+1:Nat):Int)=r)(hrl:r<999000)(hg:FV (D+1) r=g)(w3:((g:Int))≠0/\((g:Int)).natAbs<d3):a9 O NN rX [] [("self",.a7 dm [] []),("numerator",.pv (.int N)),("denominator",.pv (.int ((D+1:Nat):Int)))] nV.body=
   some (.next,wo [("numerator",.int (N.fdiv g)),("denominator",.int (((D+1:Nat):Int).fdiv g))] N ((D+1:Nat):Int) g 0):=by
 refine Nr 11 (adv N D) ((af (λl=>a9 O NN rX [] _ l) (⋯:nV.body.drop 11=[aJ nV.body 11,aJ nV.body 12,aJ nV.body 13])).trans ?_);have l1:=aaQ (O:=O) (N:=N) (D:=((D+1:Nat):Int)) r (dv:=D+1) (f:=999970) (eN hrl (by decide));rw[hg,<-hr] at l1;refine aF l1 (aF (bg (n:=999999) (K:=IH rX "self" "numerator" false) ⋯ ((⋯:_=fw .FloorDiv N g).trans (JH w3)) (⋯:_=nx (wo [("numerator",.int (N.fdiv g))] N ((D+1:Nat):Int) g 0))) (aF (bg (n:=999999) (K:=IH rX "self" "denominator" false) ⋯ ((⋯:_=fw .FloorDiv ((D+1:Nat):Int) g).trans (JH w3)) ⋯) rfl))
theorem aa3(N:Int)(D:Nat):FV (D+1) (N%((D+1:Nat):Int)).natAbs=FV (D+1) N.natAbs:=by
 show Int.gcd ((D+1:Nat):Int) (N%((D+1:Nat):Int))=Int.gcd ((D+1:Nat):Int) N;conv=>rhs;rw[<-Int.emod_add_mul_ediv N ((D+1:Nat):Int)]
 rw[Int.gcd_add_mul_left_right]
theorem Qb(N:Int){D:Nat}(h0:0<D)(hD:D<999000):(next NN O).fn "Fraction" [.int N,.int D] []=some (eg (mkRat N D)):=by
 obtain⟨D,rfl⟩:=uX (fO h0);have p0:(0:Int)<((D+1:Nat):Int):=zf.mpr h0;have m0:=Int.emod_nonneg N (Tm p0);have hr:N.fmod ((D+1:Nat):Int)=((N%((D+1:Nat):Int)).natAbs:Nat):=by rw[Ke _ (fP _),Kd m0]
 have hl:(N%((D+1:Nat):Int)).natAbs<D+1:=za.mp (by rw[Kd m0];exact Int.emod_lt_of_pos N p0);have g0:0<FV (D+1) N.natAbs:=agB _ h0;have body:=acA (O:=O) N hr (eN hl hD) (aa3 N D) ⟨Tm (zf.mpr g0),aQ (Nat.gcd_le_left _ h0) (eN hD (by decide))⟩;refine(show _=((a9 O NN rX [] [("self",.a7 dm [] []),("numerator",.pv (.int N)),("denominator",.pv (.int ((D+1:Nat):Int)))] nV.body).bind λr=>if r.1.g9=true then(ak r.2 "self").bind λv=>v.lK.bind λi=>if i.1=dm then some i.2 else none else none).map (λr:List (Str×PV)×List Str=>PV.inst dm r.1) by rfl').trans ?_;rw[body];show some (fr _ _)=some (fr _ _);rw[Tn,Rat.den_mkRat,iN (q8 D),iN (q8 D),Fi _ (fP _),Fi _ (fP _)];rfl
noncomputable def DP(a b:PV):ar:=[("self",.pv a),("other",.pv b)]
def DO(R:aY)(i:Nat):Expr:=sE (aJ (sB 0 (aJ R.body i)) 0)
def Jo(O:aK)(R:aY)(i:Nat)(o:aZ):aZ:=(o.bind λq=>if q.1.g9=true then aS (aw O 999999 R.scope.names R.mu) [] q.2 else some q).bind λq=>if q.1.g9=true then aS (aw O NN R.scope.names R.mu) (R.body.drop (i+1)) q.2 else some q
theorem xW{R:aY}{a b p:PV}(i:Nat)(hs:bm O NN R [a,b] []=cq (Jo O R i (sO O (ip 999998 O) R.scope.names (DP a b) (DO R i))))(he:cI O 999998 R.scope.names (bA (DP a b)) (DO R i)=some p):bm O NN R [a,b] []=some p:=hs.trans (af (λo=>cq (Jo O R i o)) (Ei he))
def Ae(O:aK):Prop:=∀(N:Int) {D:Nat},0<D->D<999000->O.fn "Fraction" [.int N,.int D] []=some (eg (mkRat N D))
variable{a b:Rat}{m:Int}
theorem yd(h:a.den<999000):((a.den:Int)).natAbs<d3:=eN h (by decide)
theorem Mv(m:Int):mkRat m 1=(m:Rat):=FW (m:Rat)
theorem t_(F:Ae O)(h:a.den<999000)(hs:a.num.natAbs<d3):bm O NN Hh [eg a,.int m] []=some (eg (a*m)):=by
 refine xW 0 ⋯ ((show _=((fw .Mult a.num m).bind λv=>some [v,.int a.den]).bind λvs=>O.fn "Fraction" vs [] by rfl').trans (aG (aG (pf (.inr hs)) rfl) ((F _ a.den_pos h).trans ?_)));have:=agC a.num m a.den 1;rw[FW,Mv,To] at this;rw[this]
theorem N_(F:Ae O)(ha:a.den<999000)(hb:b.den<999000)(h:a.den*b.den<999000):bm O NN AB [eg a,eg b] []=some (eg (a+b)):=by
 refine xW 1 ⋯ ((show _=(((fw .Mult a.num b.den).bind λx=>(fw .Mult b.num a.den).bind λy=>fW O .Add x y).bind λv=>((fw .Mult a.den b.den).bind λw=>some [w]).map λvs=>v::vs).bind λvs=>O.fn "Fraction" vs [] by rfl').trans (aG (aG (aG (pf (.inl (yd hb))) (aG (pf (.inl (yd ha))) rfl)) (af (eP _) (aG (pf (.inl (yd hb))) rfl))) ((F (D:=a.den*b.den) _ (Tp a.den_pos b.den_pos) h).trans ?_)));have:=agD a.num b.num (d₁:=a.den) (d₂:=b.den) a.den_nz b.den_nz;rw[FW,FW] at this;rw[this]
theorem Vk(F:Ae O)(h:a.den<999000):bm O NN AB [eg a,.int 0] []=some (eg a):=by
 refine xW 0 ⋯ ((show _=(((fw .Mult 0 a.den).bind λy=>fW O .Add (.int a.num) y).bind λv=>some [v,.int a.den]).bind λvs=>O.fn "Fraction" vs [] by rfl').trans (aG (aG (aG (pf (.inr (by decide))) rfl) rfl) ((F _ a.den_pos h).trans ?_)));rw[yI,uL,FW]
theorem GL{R:aY}{op:iF}{r:Int->Int->Bool}(hop:∀i j,fe O op (.int i) (.int j)=some (r i j))(hs:bm O NN R [eg a,eg b] []=cq (Jo O R 1 (sO O (ip 999998 O) R.scope.names (DP (eg a) (eg b)) (DO R 1))))(he:cI O 999998 R.scope.names (bA (DP (eg a) (eg b))) (DO R 1)=(((fw .Mult a.num b.den).bind λx=>(fw .Mult b.num a.den).bind λy=>fe O op x y).map PV.bool))(ha:a.den<999000)(hb:b.den<999000):bm O NN R [eg a,eg b] []=some (.bool (r (a.num*b.den) (b.num*a.den))):=
 xW 1 hs (he.trans (af (eP PV.bool) (aG (pf (.inl (yd hb))) (aG (pf (.inl (yd ha))) (hop _ _)):_=some (r (a.num*b.den) (b.num*a.den)))))
theorem ϒ(ha:a.den<999000)(hb:b.den<999000):bm O NN IA [eg a,eg b] []=some (.bool (decide (a<b))):=(GL (op:=.Lt) (r:=λi j=>decide (i<j)) (λ_ _=>rfl) ⋯ ⋯ ha hb).trans (by rw[fv (Rat.lt_iff a b).symm])
theorem ϡ(ha:a.den<999000)(hb:b.den<999000):bm O NN AE [eg a,eg b] []=some (.bool (decide (b<a))):=(GL (op:=.Gt) (r:=λi j=>decide (j<i)) (λ_ _=>rfl) ⋯ ⋯ ha hb).trans (by rw[fv (Rat.lt_iff b a).symm])
theorem m_(ha:a.den<999000)(hb:b.den<999000):bm O NN Hu [eg a,eg b] []=some (.bool (decide (b<=a))):=(GL (op:=.GtE) (r:=λi j=>decide (j<=i)) (λ_ _=>rfl) ⋯ ⋯ ha hb).trans (by rw[fv (Rat.le_iff b a).symm])
theorem GX(ha:a.den<999000)(h0:0<=a):bm O NN AE [eg a,.int (-1)] []=some (.bool true):=by
 refine xW 0 ⋯ ((show _=((fw .Mult (-1) a.den).bind λy=>xL (λi j=>decide (j<i)) (.int a.num) y).map PV.bool by rfl').trans ((af (eP _) (aG (pf (.inl (yd ha))) rfl)).trans ?_));show some (PV.bool (decide (-1*(a.den:Int)<a.num)))=_;rw[dT (lC (agE (by decide) (zf.mpr a.den_pos)) (Rat.num_nonneg.mpr h0))]
theorem D_:bm O NN IE [eg a,eg b] []=some (.bool (decide (a=b))):=by
 refine xW 1 ⋯ ((⋯:_=if(a.num==b.num)=false then some (PV.bool false) else some (PV.bool ((a.den:Int)==(b.den:Int)))).trans ?_);by_cases h:a.num=b.num
 ·rw[jV h,iN Bool.noConfusion];refine af (λb=>some (PV.bool b)) (FA.mpr (beq_iff_eq.trans (KJ ⟨λk=>Rat.ext h (FM k),λk=>k▸rfl⟩ decide_eq_true_iff.symm)))
 ·rw[li h,iP rfl,dF λk=>h (af _ k)]
end
def fq(D:Nat)(z:Int):PV:=eg (mkRat z D)
section
variable{D:Nat}{a b m:Int}(h:0<D)
include h
theorem PF:0<=mkRat a D↔0<=a:=by
 have g:(0:Int)<(D.gcd a.natAbs:Nat):=zf.mpr (agB _ h);rw[<-Rat.num_nonneg,Tn,iN (fO h)];exact⟨λk=>jA λq=>im k (Int.ediv_neg_of_neg_of_pos q g),λk=>Int.ediv_nonneg k (mH g)⟩
theorem Ry:mkRat a D+mkRat b D=mkRat (a+b) D:=by
 rw[agD _ _ (fO h) (fO h),<-FX,agF (fO h)]
theorem E_:mkRat a D*(m:Rat)=mkRat (a*m) D:=by rw[<-Mv m,agC,To]
theorem Ij:(mkRat a D).den<=D:=by rw[Rat.den_mkRat,iN (fO h)];exact Kc _ _
theorem ER:mkRat a D<=mkRat b D↔a<=b:=by
 have e:mkRat b D-mkRat a D=mkRat (b-a) D:=by rw[Rat.sub_eq_add_neg,Rat.neg_mkRat,Ry h,Int.sub_eq_add_neg]
 rw[Rat.le_iff_sub_nonneg,e,PF h,Int.sub_nonneg]
theorem MW:mkRat a D<mkRat b D↔a<b:=by rw[<-Rat.not_le,ER h,y5]
theorem Vd:mkRat a D=mkRat b D↔a=b:=⟨λk=>y6 ((ER h).mp (k▸Rat.le_refl)) ((ER h).mp (k▸Rat.le_refl)),λk=>k▸rfl⟩
theorem Zh:(mkRat a D).num.natAbs<=a.natAbs:=by
 rw[Tn,iN (fO h)];exact Int.natAbs_ediv_le_natAbs _ _
end
structure fX(O:aK)(D:Nat):Prop where
 gt:∀{a b},O.cmp .Gt (fq D a) (fq D b)=some (decide (b<a))
 ge:∀{a b},O.cmp .GtE (fq D a) (fq D b)=some (decide (b<=a))
 lt:∀{a b},O.cmp .Lt (fq D a) (fq D b)=some (decide (a<b))
 eq:∀{a b},O.cmp .Eq (fq D a) (fq D b)=some (decide (a=b))
 GX:∀{a},0<=a->O.cmp .Gt (fq D a) (.int (-1))=some true
 mul:∀{a m},a.natAbs<d3->O.bin .Mult (fq D a) (.int m)=some (fq D (a*m))
 add:∀{a b},O.bin .Add (fq D a) (fq D b)=some (fq D (a+b))
 WD:∀{a},O.bin .Add (fq D a) (.int 0)=some (fq D a)
 one:∀{z:Int},O.fn "Fraction" [.int z] []=some (fq D (z*D))
theorem YM{O:aK}{D:Nat}(F:Ae O)(h:0<D)(h2:D<=500):fX (next NN O) D:=by
 have d:∀{a},(mkRat a D).den<999000:=λ{a}=>aQ (Ij h) (aQ h2 (by decide));have dd:∀{a b},(mkRat a D).den*(mkRat b D).den<999000:=λ{a b}=>aQ (BZ (aq (Ij h) h2) (aq (Ij h) h2)) (by decide);have c:∀{op:iF} {R:aY} {x y:PV} {b b':Bool},(next NN O).cmp op x y=(bm O NN R [x,y] []).bind PV.yc->bm O NN R [x,y] []=some (.bool b)->b=b'->(next NN O).cmp op x y=some b':=λe1 e2 e3=>e1.trans (aG e2 (af some e3));have bn:∀{op:ia} {R:aY} {x y:PV} {q q':Rat},(next NN O).bin op x y=(bm O NN R [x,y] []).bind E3->bm O NN R [x,y] []=some (eg q)->q=q'->(next NN O).bin op x y=some (eg q'):=λe1 e2 e3=>e1.trans (aG e2 (af (λq=>some (eg q)) e3));exact⟨c (R:=AE) ⋯ (ϡ d d) (fv (MW h)),c (R:=Hu) ⋯ (m_ d d) (fv (ER h)),c (R:=IA) ⋯ (ϒ d d) (fv (MW h)),c (R:=IE) ⋯ D_ (fv (Vd h)),
  λk=>c (R:=AE) ⋯ (GX d ((PF h).mpr k)) rfl,λk=>bn (R:=Hh) ⋯ (t_ F d (aQ (Zh h) k)) (E_ h),bn (R:=AB) ⋯ (N_ F d d dd) (Ry h),bn (R:=AB) ⋯ (Vk F d) rfl,λ{z}=>(⋯:_=(next NN O).fn "Fraction" [.int z,.int (1:Nat)] []).trans ((Qb z (by decide) (by decide)).trans (af (λq=>some (eg q)) ((agF (fO h)).symm.trans (af (mkRat (z*D)) (y7 D)))))⟩
section
section
variable{O:aK}{n:Nat}{σ₁ σ':ar}{r:aZ}{l:List PV}{B:ar->aZ}{t:Expr}{v:PV}
def fY(X:ar->aH->aZ)(nm:aN)(t:Expr)(b:List aH)(q:PV×ar):aZ:=over q.1 λsrc=>(dZ (aS X b) nm t src q.2).bind (lu t q.1)
theorem ii(h:fT (rO nm) t v σ=some σ₁)(hb:B σ₁=nx σ')(k:dZ B nm t l σ'=r):dZ B nm t (v::l) σ=r:=aG h (aG hb k)
theorem sq{X:ar->aH->aZ}{b:List aH}(h:dZ (aS X b) nm t l σ=nx σ'):fY X nm t b (.list l,σ)=nx σ':=aG (K:=lu t (.list l)) h rfl
theorem Ma{X:ar->aH->aZ}{b:List aH}{c:Nat}{fs:List (Str×PV)}(hx:yb (.inst c fs)=some l)(h:dZ (aS X b) nm t l σ=nx σ'):fY X nm t b (.inst c fs,σ)=nx σ':=aG hx (aG (K:=lu t (.inst c fs)) h rfl)
theorem GU{X:ar->aH->aZ}{b:List aH}{s:List Nat}(h:∀l':List Nat,l'.Perm s->∃cJ,dZ (aS X b) nm t (l'.map λn:Nat=>PV.int n) σ=nx cJ/\zS (wl t) cJ=σ'):fY X nm t b (.set s,σ)=nx σ':=show qj s (λsrc=>(dZ (aS X b) nm t src σ).bind (lu t (.set s)))=nx σ' from MJ λl' hp=>by
 obtain⟨cJ,h1,h2⟩:=h l' hp;exact aG (K:=lu t (.set s)) h1 (af (λσ=>some (fZ.next,σ)) h2)
end
def fV(id:Str):PV:=.inst qz [("name",.str id),("param",.none)]
def bp(q:List Nat×Nat):PV:=.inst iy [("approved",.set q.1),("weight",.int q.2)]
def a6(n:Nat)(ns:PV)(vs:List (List Nat×Nat)):PV:=.inst bx [("candidates",.list ((ax n).map λi:Nat=>.int i)),("cand_names",ns),("_voters",.list (vs.map bp))]
structure iZ(O:aK)(id:Str)(S:Nat->Int)(D:Nat):Prop extends fX O D where
 val:∀j,j<4->O.bM qz "__call__" [fV id,.int (j+1:Nat)] []=some (fq D (S (j+1) -S j))
 num:∀j,j<4->(S (j+1) -S j).natAbs<d3
 zero:S 0=0
def ke(D:Nat)(id:Str)(p com:PV)(s:Int)(r:ar):ar:=("scorefct_id",.pv (.str id))::("profile",.pv p)::("committee",.pv com)::("marginal_scorefct",.pv (fV id))::("score",.pv (fq D s))::r
noncomputable def lO(v:PV)(j:Nat)(x:Option PV):ar:=("vote",.pv v)::("cand_in_com",.pv (.int j))::x.elim [] λx=>[("_",.pv x)]
def jf:aN:=qi.scope.names
def yf:aH:=aJ qi.body 2
def t9:aH:=aJ (sB 0 yf) 1
variable{O:aK}{id:Str}{S:Nat->Int}{D:Nat}{x:PV}{c s:Int}{q:List Nat×Nat}{j:Nat}
theorem Yy(H:iZ O id S D)(hj:j<4):a9 O 999998 jf [] (ke D id p com (c+S j*q.2) (lO (bp q) j (some x))) (sB 0 t9)=nx (ke D id p com (c+S (j+1)*q.2) (lO (bp q) (j+1) (some x))):=by
 refine(⋯:_=a9 O 999998 jf [] (ke D id p com (c+S j*q.2) (lO (bp q) (j+1) (some x))) [aJ (sB 0 t9) 1]).trans (aF (bg (n:=999997) (K:=Iq O jf "score" .Add (fq D (c+S j*q.2))) ⋯
  ((show _=(O.bM qz "__call__" [fV id,.int (j+1:Nat)] []).bind λa=>fW O .Mult a (.int q.2) by rfl').trans (aG (H.val j hj) (H.mul (H.num j hj)))) (aG H.add (?_:_=nx _))) rfl)
 rw[mO,<-FX,uY (S j),KM];rfl'
theorem Wl(H:iZ O id S D):∀{l:List PV} {j:Nat} {x:Option PV},j+l.length<=4->∃x',dZ (aS (aw O 999998 jf []) (sB 0 t9)) jf (sT t9) l (ke D id p com (c+S j*q.2) (lO (bp q) j x))=nx (ke D id p com (c+S (j+l.length)*q.2) (lO (bp q) (j+l.length) x')):=by
 intro l;induction l with
 |nil=>exact λ{j x} _=>⟨x,rfl⟩
 |cons v l ih=>
  intro j x h;obtain⟨x',e⟩:=ih (j:=j+1) (x:=some v) (aq (aD (pP ..)) h);refine⟨x',ii (σ₁:=ke D id p com (c+S j*q.2) (lO (bp q) j (some v))) ?_ (Yy H (ba (qU (eE _)) h)) (e.trans (by rw[pP];rfl))⟩;cases x<;>rfl'
noncomputable def fg(C A:List Nat):List Nat:=C.filter λx=>A.contains x
theorem VT{C:List Nat}(H:iZ O id S D)(hC:eJ com setOf=some C)(h:(fg C q.1).length<=4):aw O 999999 jf [] (ke D id p com c (lO (bp q) 0 none)) t9=nx (ke D id p com (c+S (fg C q.1).length*q.2) (lO (bp q) (fg C q.1).length none)):=by
 refine bg (n:=999998) (K:=fY (aw O 999998 jf []) jf (sT t9) (sB 0 t9)) ⋯ ((show _=((eJ com setOf).map PV.set).bind λa=>fW O .BitAnd a (.set q.1) by rfl').trans (aG (af (eP PV.set) hC) rfl)) (GU λl' hp=>?_);have e:(l'.map λn:Nat=>PV.int n).length=(fg C q.1).length:=(bi _).trans hp.length_eq;obtain⟨x,k⟩:=Wl H (p:=p) (com:=com) (c:=c) (q:=q) (l:=l'.map λn:Nat=>PV.int n) (j:=0) (x:=none) (by rw[f5,e];exact h);rw[H.zero,yI,uL,f5,e] at k;exact⟨_,k,by cases x<;>rfl⟩
def d4(S:Nat->Int)(C:List Nat):List (List Nat×Nat)->Int
 |[]=>0
 |q::vs=>S (fg C q.1).length*q.2+d4 S C vs
theorem adu{C:List Nat}(H:iZ O id S D)(hC:eJ com setOf=some C):∀{vs:List (List Nat×Nat)} {s:Int} {r:Option (PV×Nat)},(∀q∈vs,(fg C q.1).length<=4)->∃r':Option (PV×Nat),dZ (aS (aw O 999999 jf []) (sB 0 yf)) jf (sT yf) (vs.map bp) (ke D id p com s (r.elim [] λr=>lO r.1 r.2 none))=nx (ke D id p com (s+d4 S C vs) (r'.elim [] λr=>lO r.1 r.2 none)):=by
 intro vs;induction vs with
 |nil=>exact λ{s r} _=>⟨r,by rw[d4,uL];rfl⟩
 |cons q vs ih=>
  intro s r h;obtain⟨r',e⟩:=ih (s:=s+S (fg C q.1).length*q.2) (r:=some (bp q,(fg C q.1).length)) λq m=>h q (.tail _ m);rw[mO] at e;refine⟨r',ii (σ₁:=ke D id p com s (r.elim [("vote",.pv (bp q))] λr=>lO (bp q) r.2 none)) (by cases r<;>rfl') ((?_:_=a9 O 999999 jf [] (ke D id p com s (lO (bp q) 0 none)) [t9]).trans (aF (VT H hC (h q (.head _))) rfl)) e⟩;cases r<;>rfl'
theorem Vt{C:List Nat}{n:Nat}{ns:PV}{vs:List (List Nat×Nat)}(H:iZ O id S D)(hC:eJ com setOf=some C)(hv:∀q∈vs,(fg C q.1).length<=4)
(h0:a9 O NN jf [] [("scorefct_id",.pv (.str id)),("profile",.pv (a6 n ns vs)),("committee",.pv com)] (qi.body.take 2)=nx (ke D id (a6 n ns vs) com 0 [])):
  bm O NN qi [.str id,a6 n ns vs,com] []=some (fq D (d4 S C vs)):=by
 obtain⟨r,e⟩:=adu H hC (p:=a6 n ns vs) (s:=0) (r:=none) hv;rw[FY] at e;refine(⋯:_=cq (a9 O NN jf [] [("scorefct_id",.pv (.str id)),("profile",.pv (a6 n ns vs)),("committee",.pv com)] qi.body)).trans (af cq (Nr 2 h0 ((af (λl=>a9 O NN jf [] _ l) (⋯:qi.body.drop 2=[yf,aJ qi.body 3])).trans (aF (bg (n:=999999) (K:=fY (aw O 999999 jf []) jf (sT yf) (sB 0 yf)) ⋯ (⋯:_=some (a6 n ns vs)) (Ma ⋯ e)) (show _=some (fZ.ret (fq D (d4 S C vs)),ke D id (a6 n ns vs) com (d4 S C vs) (r.elim [] λr=>lO r.1 r.2 none)) by cases r<;>rfl')))))
end
section
noncomputable def sv(l:List Int)(j:Nat):Int:=(l.take j).sum
theorem vj{P:Nat->Prop}{n:Nat}(h:∀j,j<n->P j)(k:P n)(j:Nat)(q:j<n+1):P j:=(Tq (jt q)).elim (h j) λe=>e.symm▸k
theorem vK{P:Nat->Prop}(h0:P 0)(h1:P 1)(h2:P 2)(h3:P 3):∀j,j<4->P j:=vj (vj (vj (vj nofun h0) h1) h2) h3
def NQ:Nat->Int:=sv [12,6,4,3]
def PO:Nat->Int:=sv [105,35,21,15]
def ni:Nat->Int:=sv [6,6,3,2]
def uq:Nat->Int:=sv [1,0,0,0]
variable{k:Nat}
theorem ZV:Ae (aI NN (k+1)):=λN _ h1 h2=>Qb (O:=aI NN k) N h1 h2
theorem qd{D:Nat}(h:0<D)(h2:D<=500):fX (aI NN (k+3)) D:=YM (O:=aI NN (k+2)) ZV h h2
theorem aeU:iZ (aI NN (k+3)) "pav" NQ 12:=⟨qd (by decide) (by decide),vK ⋯ ⋯ ⋯ ⋯,by decide,rfl⟩
theorem Xw:iZ (aI NN (k+3)) "slav" PO 105:=⟨qd (by decide) (by decide),vK ⋯ ⋯ ⋯ ⋯,by decide,rfl⟩
theorem aak:iZ (aI NN (k+3)) "adams" ni 6:=⟨qd (by decide) (by decide),vK ⋯ ⋯ ⋯ ⋯,by decide,rfl⟩
theorem VJ:iZ (aI NN (k+3)) "cc" uq 1:=⟨qd (by decide) (by decide),vK ⋯ ⋯ ⋯ ⋯,by decide,rfl⟩
inductive Cv:PV->List Nat->Prop
 |tup (l:List Nat):Cv (.tup (l.map λn:Nat=>PV.int n)) l
 |list (l:List Nat):Cv (.list (l.map λn:Nat=>PV.int n)) l
 |set (l:List Nat):Cv (.set l) l
def pB(k D:Nat)(id:Str)(p com:PV):Prop:=a9 (aI NN (k+3)) NN jf [] [("scorefct_id",.pv (.str id)),("profile",.pv p),("committee",.pv com)] (qi.body.take 2)=nx (ke D id p com 0 [])
variable{l:List Nat}
theorem adG(c:Cv com l):pB k 12 "pav" p com:=by
 unfold pB;cases c<;>rfl'
theorem aau(c:Cv com l):pB k 105 "slav" p com:=by
 unfold pB;cases c<;>rfl'
theorem aaU(c:Cv com l):pB k 6 "adams" p com:=by
 unfold pB;cases c<;>rfl'
theorem aaC(c:Cv com l):pB k 1 "cc" p com:=by
 unfold pB;cases c<;>rfl'
end
section
section
variable{O:aK}{n:Nat}{b:Bool}{r:aZ}{g:PV->PV}{ρ:bj}{src:List PV}{cv:PV}{l:List Nat}
theorem cL(hs:aw O (n+1) nm mu σ st=(fF O n nm (bA σ) (sE st)).bind λr=>aS (aw O n nm mu) (if r=true then sB 0 st else sB 1 st) σ)(ht:fF O n nm (bA σ) (sE st)=some b)(k:aS (aw O n nm mu) (if b=true then sB 0 st else sB 1 st) σ=r):aw O (n+1) nm mu σ st=r:=hs.trans (aG ht k)
theorem kj(hs:aw O (n+1) nm mu σ st=(fF O n nm (bA σ) (sE st)).bind λr=>aS (aw O n nm mu) (if r=true then sB 0 st else sB 1 st) σ)(h1:sB 1 st=[])(ht:fF O n nm (bA σ) (sE st)=some false):aw O (n+1) nm mu σ st=nx σ:=cL hs ht (h1▸rfl:aS _ (sB 1 st) σ=nx σ)
theorem xQ{β:Type}{kk:List PV->Option β}{r:β}(c:Cv cv l)(h:∀l':List Nat,l'.Perm l->kk (l'.map λn:Nat=>PV.int n)=some r):eJ cv kk=some r:=by
 cases c with
 |tup=>exact h l (.refl _)
 |list=>exact h l (.refl _)
 |set=>exact MJ h
theorem RQ{g:Nat->Bool}(h:∀v∈l,g v=b):xT b (l.map λv=>PV.bool (g v))=some (.bool b):=iP (by
 rw[Sv,KN];intro v m;exact jV (h v m))
end
def bR(i:Nat):Expr->Expr:=EA.on {d:=l7,vM:=λ_ as _ _=>as.getD i l7,Da:=λ_ x _=>x,E7:=λ_ es _=>es.getD i l7,Ad:=λl _ r _=>if i=0 then l else r,Dh:=λl _ _ _=>l,xX:=λl r _=>if i=0 then l else r,A9:=λe _ _ _=>e,AD:=λe _ _ _=>e}
def gP:Expr->List jK×fk:=EA.on {d:=([],default),A9:=λ_ gs s _=>((gs,s)),AD:=λ_ gs s _=>((gs,s))}
def gC(e:Expr):jK:=(gP e).1.getD 0 ⟨l7,l7,[],0⟩
def gT(e:Expr):Expr:=(gC e).target
def gS(e:Expr):fk:=(gP e).2
def zF(O:aK)(n:Nat)(e:Expr)(ρ:bj)(K:List PV->Option PV)(src:List PV):Option PV:=(lx ((ip n {O with gens:=false}).e (gS e).names) (gS e).names (gT e) (bR 0 e) ρ src).bind K
theorem GT{O:aK}{n:Nat}{e:Expr}{ρ:bj}{K:List PV->Option PV}{l:List Nat}{g:Nat->PV}{r:PV}(hf:mq (gT e) ρ=true)(h:∀x∈l,((fT (gY (gS e).names) (gT e) (.int (x:Nat)) ρ).bind λfR=>(ip n {O with gens:=false}).e (gS e).names fR (bR 0 e))=some (g x))(hK:K (l.map g)=some r):zF O n e ρ K (l.map λn:Nat=>PV.int n)=some r:=by
 refine aG (?_:lx ((ip n {O with gens:=false}).e (gS e).names) (gS e).names (gT e) (bR 0 e) ρ (l.map λn:Nat=>PV.int n)=some (l.map g)) hK;clear hK;induction l with
 |nil=>rfl
 |cons v l ih=>exact aj (h v (.head _)) λfR h1 h2=>(iP hf).trans (aG h1 (aG h2 (af (eP _) (ih λx m=>h x (.tail _ m)))))
noncomputable def sk(cv nc:PV)(S:List Nat)(x:Option PV):ar:=("candidates",.pv cv)::("num_cand",.pv nc)::("approved",.pv (.set S))::x.elim [] λx=>[("cand",.pv x)]
def uc:aN:=vw.scope.names
def kH(i:Nat):aH:=aJ vw.body i
variable{O:aK}{cv nc:PV}{S l:List Nat}{x:Option PV}
theorem HE{l:List Nat}:∀{x:Option PV},∃x',dZ (aS (aw O 999999 uc []) (sB 0 (kH 2))) uc (sT (kH 2)) (l.map λn:Nat=>PV.int n) (sk cv nc S x)=nx (sk cv nc S x'):=by
 induction l with
 |nil=>exact λ{x}=>⟨x,rfl⟩
 |cons y l ih=>
  intro x;obtain⟨x',e⟩:=ih (x:=some (.int (y:Nat)));exact⟨x',ii (σ₁:=sk cv nc S (some (.int (y:Nat)))) (by cases x<;>rfl') ⋯ e⟩
theorem aeF(c:Cv cv l):∃x,aw O NN uc [] (sk cv nc S none) (kH 2)=nx (sk cv nc S x):=by
 have run:∀{r},fY (aw O 999999 uc []) uc (sT (kH 2)) (sB 0 (kH 2)) (cv,sk cv nc S none)=r->aw O NN uc [] (sk cv nc S none) (kH 2)=r:=bg (n:=999999) ⋯ ⋯;cases c with
 |tup l=>
  obtain⟨x',e⟩:=HE (O:=O) (cv:=.tup (l.map λn:Nat=>PV.int n)) (nc:=nc) (S:=S) (l:=l) (x:=none);exact⟨x',run (aG (K:=lu _ _) e rfl)⟩
 |list l=>
  obtain⟨x',e⟩:=HE (O:=O) (cv:=.list (l.map λn:Nat=>PV.int n)) (nc:=nc) (S:=S) (l:=l) (x:=none);exact⟨x',run (sq e)⟩
 |set l=>
  refine⟨none,run (GU λl' _=>?_)⟩;obtain⟨x',e⟩:=HE (O:=O) (cv:=.set l) (nc:=nc) (S:=S) (l:=l') (x:=none);exact⟨_,e,by cases x'<;>rfl'⟩
theorem ady(c:Cv cv l)(hS:∀l':List Nat,l'.Perm l->setOf (l'.map λn:Nat=>PV.int n)=some S)(hl:S.length=l.length)(hn:nc=.none\/∃m,nc=.int m/\∀x∈l,(x:Int)<m):
  bm (next NN O) NN vw [cv,nc] []=some (.set S):=by
 obtain⟨x,h2⟩:=aeF (O:=next NN O) (nc:=nc) (S:=S) c;refine(⋯:_=cq (a9 (next NN O) NN uc [] [("candidates",.pv cv),("num_cand",.pv nc)] [kH 0,kH 1,kH 2,kH 3,kH 4,kH 5])).trans (af cq (?_:_=some (fZ.ret (.set S),sk cv nc S x)));refine aF (bg (n:=999999) (K:=bH uc "approved" false) ⋯ ((⋯:_=(eJ cv setOf).map PV.set).trans (af (eP PV.set) (xQ c hS))) (⋯:_=nx (sk cv nc S none))) (aF (kj (n:=999999) ⋯ ⋯ ?_) (aF h2 ?_))
 ·have e:(!((l.length:Int)==(S.length:Int)))=false:=by rw[hl,beq_self_eq_true];rfl
  cases c with
  |tup l=>exact(show _=some (!(((l.map λn:Nat=>PV.int n).length:Int)==(S.length:Int))) by rfl').trans (by rw[bi,e])
  |list l=>exact(show _=some (!(((l.map λn:Nat=>PV.int n).length:Int)==(S.length:Int))) by rfl').trans (by rw[bi,e])
  |set l=>exact(⋯:_=some (!((l.length:Int)==(S.length:Int)))).trans (af some e)
 refine aF (kj (n:=999999) ⋯ ⋯ ((show _=((eJ cv (zF (next NN O) 999996 (bR 0 (bR 0 (sE (kH 3)))) [] (xT true))).bind PV.truth).map not by cases x<;>rfl').trans (af (λo:Option PV=>(o.bind PV.truth).map not) (xQ c λl' _=>GT (g:=λx=>.bool (decide ((0:Int)<=x))) ⋯ (λx _=>⋯) (RQ λv _=>dT (fP v)))))) (aF (kj (n:=999999) ⋯ ⋯ ?_) (by cases x<;>rfl'));rcases hn with rfl|⟨m,rfl,hm⟩
 ·cases x<;>rfl'
 ·refine(show _=(((eJ cv (zF (next NN O) 999996 (bR 0 (bR 1 (sE (kH 4)))) [("num_cand",.int m)] (xT false))).bind PV.truth).bind λb=>if b=false then some false else some true) by cases x<;>rfl').trans (aG (aG (xQ c λl' p=>GT (g:=λx=>.bool (decide (m<=(x:Int)))) ⋯ (λx _=>⋯) (RQ λv k=>dF (y5.mpr (hm v (p.mem_iff.mp k))))) rfl) rfl)
end
end
structure uj(lt:Nat->Nat->Bool):Prop where
 tM:∀a b,lt a b=true->lt b a=false
 tr:∀a b c,lt b a=false->lt c b=false->lt c a=false
structure f8(n:Nat)(p:Array Nat):Prop where
 perm:p.toList.Perm (ax n)
section
variable{α β:Type}{cmp:Nat->Nat->Option Bool}{lt:Nat->Nat->Bool}{n i j k m s q f l r:Nat}{p:Array Nat}{Q:α->Prop}{R:Nat->Nat->Prop}{g:Nat->Nat}
theorem f8.size(o:f8 n p):p.size=n:=o.perm.length_eq.trans cF
noncomputable def at_(p:Array Nat)(i:Nat):Nat:=p.getD i 0
theorem oV:at_ p i=(p[i]?).getD 0:=Array.getD_eq_getD_getElem? ..
theorem f8.tY(o:f8 n p)(h:i<n):at_ p i<n:=by
 have hs:i<p.size:=i6 h o.size.symm;rw[oV,tg hs];exact eK (o.perm.mem_iff.mp (Array.getElem_mem_toList hs))
theorem f8.of{q:Array Nat}(o:f8 n p)(h:q.Perm p):f8 n q:=⟨(Array.perm_iff_toList_perm.mp h).trans o.perm⟩
structure qe(cmp:Nat->Nat->Option Bool)(lt:Nat->Nat->Bool)(n:Nat):Prop where
 L:uj lt
 c:∀i j,i<n->j<n->cmp i j=some (lt i j)
def Gv(cmp:Nat->Nat->Option Bool)(t:KasT α)(Q:α->Prop):Prop:=∃v,p6 cmp t=some v/\Q v
theorem oF{v:α}(h:Q v):Gv cmp (.ret v) Q:=⟨v,rfl,h⟩
theorem zZ{t:Bool->KasT α}(C:qe cmp lt n)(hi:i<n)(hj:j<n)(k1:lt i j=true->Gv cmp (t true) Q)(k2:lt i j=false->Gv cmp (t false) Q):Gv cmp (.ask i j t) Q:=by
 have e:∀b,lt i j=b->Gv cmp (t b) Q->Gv cmp (.ask i j t) Q:=λb h k=>k.imp λv h'=>⟨(af (λo:Option Bool=>o.bind λb=>p6 cmp (t b)) ((C.c i j hi hj).trans (af some h))).trans h'.1,h'.2⟩;cases h:lt i j with
 |true=>exact e _ h (k1 h)
 |false=>exact e _ h (k2 h)
theorem IR{P:Prop}[Decidable P]{a b:KasT α}(h1:P->Gv cmp a Q)(h2:¬P->Gv cmp b Q):Gv cmp (if P then a else b) Q:=by
 by_cases z:P
 ·rw[iP z];exact h1 z
 ·rw[iN z];exact h2 z
theorem UZ{h:α->KasT β}(t:KasT α):p6 cmp (t.bind h)=(p6 cmp t).bind λa=>p6 cmp (h a):=by
 induction t with
 |ret a=>rfl
 |ask i j k ih=>
  show(cmp i j).bind _=((cmp i j).bind _).bind _;cases cmp i j with
  |none=>rfl
  |some b=>exact ih b
theorem Bk{t:KasT α}{h:α->KasT β}{P:β->Prop}(k:Gv cmp t Q)(K:∀a,Q a->Gv cmp (h a) P):Gv cmp (t.bind h) P:=by
 obtain⟨a,e,q⟩:=k;exact(K a q).imp λv k=>⟨(UZ t).trans ((af (λo:Option α=>o.bind λa=>p6 cmp (h a)) e).trans k.1),k.2⟩
def Up(lt:Nat->Nat->Bool)(a b:Nat):Prop:=lt b a=false
def Dn(lt:Nat->Nat->Bool)(a b:Nat):Prop:=lt a b=false
structure Aw(R:Nat->Nat->Prop):Prop where
 refl:∀a,R a a
 tr:∀{a b c},R a b->R b c->R a c
theorem uj.refl(L:uj lt)(a:Nat):lt a a=false:=by
 cases h:lt a a with
 |false=>rfl
 |true=>exact h.symm.trans (L.tM a a h)
theorem uj.up(L:uj lt):Aw (Up lt):=⟨L.refl,λh k=>L.tr _ _ _ h k⟩
theorem uj.dn(L:uj lt):Aw (Dn lt):=⟨L.refl,λh k=>L.tr _ _ _ k h⟩
def iD(R:Nat->Nat->Prop)(g:Nat->Nat)(m:Nat):Prop:=∀i j,i<=j->j<m->R (g i) (g j)
def xU(R:Nat->Nat->Prop)(g:Nat->Nat)(s m:Nat):Prop:=∀a b,s<=a->a<m->s<=b->b<m->R (g a) (g b)
theorem Na(h:i<m+1):i<m\/i=m:=Tq (jt h)
theorem pE(h:j<m):m-1<m:=Nat.sub_one_lt (fO (aQ (cu _) h))
theorem xO(P:Aw R)(M:iD R g m)(h:0<m->R (g (m-1)) (g m)):iD R g (m+1):=λi j hi hj=>by
 rcases Na hj with k|rfl
 ·exact M i j hi k
 ·rcases Tq hi with k|rfl
  ·exact P.tr (M i (j-1) (mM k) (pE k)) (h (aQ (cu _) k))
  ·exact P.refl _
theorem HV(P:Aw R):xU R g m (m+1):=λa b h1 h2 h3 h4=>by
 rw[mK (jt h2) h1,mK (jt h4) h3];exact P.refl _
theorem Xy(P:Aw R)(hs:s<m)(S:xU R g s m)(h1:R (g (m-1)) (g m))(h2:R (g m) (g (m-1))):xU R g s (m+1):=by
 have z:∀a,s<=a->a<m+1->R (g a) (g (m-1))/\R (g (m-1)) (g a):=λa h k=>by
  rcases Na k with k|rfl
  ·exact⟨S _ _ h k (mM hs) (pE hs),S _ _ (mM hs) (pE hs) h k⟩
  ·exact⟨h2,h1⟩
 exact λa b k1 k2 k3 k4=>P.tr (z a k1 k2).1 (z b k3 k4).2
theorem yl(h:s<=k)(h2:k<m):s<=s+m-1-k/\s+m-1-k<m:=by
 obtain⟨d,rfl⟩:=Nat.exists_eq_add_of_lt h2;rw[show s+(k+d+1) -1-k=s+d from(af (· -k) (Tr s k d)).trans (FU ..)];exact⟨cW ..,kz (mF h d)⟩
theorem ye(hm:m<=p.size)(h:s<=k)(h2:k<m):at_ (wQ p s m) k=at_ p (s+m-1-k):=oV.trans ((af (·.getD 0) ((getElem?_mirror_all hm k).trans (iP ⟨h,h2⟩))).trans oV.symm)
theorem A6(hm:m<=p.size)(h:¬(s<=k/\k<m)):at_ (wQ p s m) k=at_ p k:=oV.trans ((af (·.getD 0) ((getElem?_mirror_all hm k).trans (iN h))).trans oV.symm)
theorem HZ(hm:m<=p.size)(M:iD R (at_ p) m)(S:xU R (at_ p) s m):iD R (at_ (wQ p s m)) m:=λi j hi hj=>by
 by_cases hs:s<=j
 ·rw[ye hm hs hj];have b:=yl hs hj;by_cases h:s<=i
  ·have hi:=aQ hi hj;rw[ye hm h hi];exact S _ _ (yl h hi).1 (yl h hi).2 b.1 b.2
  ·rw[A6 hm λq=>h q.1];exact M _ _ (aq (Nat.le_of_not_le h) b.1) b.2
 ·rw[A6 hm λq=>hs q.1,A6 hm λq=>hs (aq q.1 hi)];exact M i j hi hj
theorem U1(hm:m<=p.size)(M:iD R (at_ p) m):iD (λa b=>R b a) (at_ (wQ p 0 m)) m:=λi j hi hj=>by
 rw[ye hm (cu i) (aQ hi hj),ye hm (cu j) hj];exact M _ _ (Nat.sub_le_sub_left hi _) (yl (cu i) (aQ hi hj)).2
theorem f8.rev(o:f8 n p):f8 n (wQ p s m):=o.of (mirror_perm _ _ _ _)
theorem f8.le(o:f8 n p)(h:m<=n):m<=p.size:=aq h (aD o.size.symm)
structure Oc(lt:Nat->Nat->Bool)(n:Nat)(p:Array Nat)(m:Nat):Prop where
 lo:1<=m
 hi:m<=n
 up:iD (Up lt) (at_ p) m
 stop:m=n\/lt (at_ p m) (at_ p (m-1))=true
theorem Rm(C:qe cmp lt n)(o:f8 n p):∀{f m:Nat},1<=m->m+f=n->iD (Up lt) (at_ p) m->Gv cmp (kas_asc p f m) (Oc lt n p):=by
 intro f;induction f with
 |zero=>exact λ{m} h e M=>oF ⟨h,aD e,M,.inl e⟩
 |succ f ih=>
  intro m h e M;have hm:m<n:=i6 (qU (eE f)) e;exact zZ C (o.tY hm) (o.tY (aQ (kD ..) hm)) (λq=>oF ⟨h,cy hm,M,.inr q⟩) λq=>ih (yT h) ((wD m f).trans e) (xO C.L.up M λ_=>q)
structure aeL(lt:Nat->Nat->Bool)(n:Nat)(r:Array Nat×Nat×Nat)(s:Nat):Prop where
 e:r.2.1=s+(r.2.2+1)
 hi:r.2.1<=n
 o:f8 n r.1
 dn:iD (Dn lt) (at_ r.1) r.2.1
 tail:xU (Dn lt) (at_ r.1) s r.2.1
theorem Wo(C:qe cmp lt n):∀{f s q:Nat} {p:Array Nat},f8 n p->s+(q+1)+f=n->iD (Dn lt) (at_ p) (s+(q+1))->xU (Dn lt) (at_ p) s (s+(q+1))->Gv cmp (kas_desc f p (s+(q+1)) q) λr=> ∃s,aeL lt n r s:=by
 intro f;induction f with
 |zero=>exact λ{s q p} o e M S=>oF ⟨s,rfl,aD e,o,M,S⟩
 |succ f ih=>
  intro s q p o e M S;have hm:s+(q+1)<n:=i6 (qU (eE f)) e;have e':s+(q+1)+(0+1)+f=n:=(wD (s+(q+1)) f).trans e;have hs:s<s+(q+1):=qU (eE q);have l1:=o.tY hm;have l2:=o.tY (aQ (kD (s+(q+1)) 1) hm);refine zZ C l1 l2 (λc=>?_) λc=>zZ C l2 l1 (λ_=>oF ⟨s,rfl,cy hm,o,M,S⟩) λd=>ih (q:=q+1) o e' (xO C.L.dn M λ_=>d) (Xy C.L.dn hs S d c);have d:Dn lt (at_ p (s+(q+1) -1)) (at_ p (s+(q+1))):=C.L.tM _ _ c;refine(IR (λz=>?_) λz=>ih (s:=s+(q+1)) (q:=0) o e' (xO C.L.dn M λ_=>d) (HV C.L.dn):Gv cmp (if q>0 then kas_desc f (wQ p (s+(q+1) - (q+1)) (s+(q+1))) (s+(q+1)+1) 0 else kas_desc f p (s+(q+1)+1) 0) _);rw[wO];have hp:=o.le (cy hm);refine ih (s:=s+(q+1)) (q:=0) o.rev e' (xO C.L.dn (HZ hp M S) λ_=>?_) (HV C.L.dn);rw[ye hp (mM hs) (pE hs),A6 hp λz=>cV _ z.2];exact C.L.dn.tr (M _ _ (mM (yl (mM hs) (pE hs)).2) (pE hs)) d
def EZ(lt:Nat->Nat->Bool)(n:Nat)(r:Nat×Array Nat):Prop:=f8 n r.2/\Oc lt n r.2 r.1
theorem Od(C:qe cmp lt n)(o:f8 n p)(h:1<=m)(hm:m<=n)(M:iD (Dn lt) (at_ p) m):Gv cmp (kas_tail3 m n p) (EZ lt n):=Bk (Rm C o.rev h (iK hm) (U1 (o.le hm) M)) λm' R=>oF ⟨o.rev,R⟩
theorem RC(C:qe cmp lt n)(o:f8 n p)(hm:m+1<=n)(M:iD (Dn lt) (at_ p) (m+1)):Gv cmp (kas_descPart m n p) (EZ lt n):=by
 refine Bk (Wo C (s:=m) (q:=0) o (iK hm) M (HV C.L.dn)) λr D=>?_;obtain⟨s,D⟩:=D;have h1:1<=r.2.1:=D.e.symm▸eE _;refine(IR (λz=>Od C D.o.rev h1 D.hi (HZ (D.o.le D.hi) D.dn ?_)) λz=>Od C D.o h1 D.hi D.dn:Gv cmp (if r.2.2>0 then kas_tail3 r.2.1 n (wQ r.1 (r.2.1- (r.2.2+1)) r.2.1) else kas_tail3 r.2.1 n r.1) _);rw[show r.2.1- (r.2.2+1)=s from(af (· - (r.2.2+1)) D.e).trans (wO ..)];exact D.tail
theorem ϩ(C:qe cmp lt n)(o:f8 n p)(hn:1<=n):Gv cmp (kas_count n p) (EZ lt n):=by
 have one:iD (Up lt) (at_ p) 1:=λi j h k=>by
  rw[Lf.mp k] at h;rw[Lf.mp k,TU.mp h];exact C.L.refl _
 refine Bk (Rm C o (bf 1) (iK hn) one) λm R=>?_;show Gv cmp (if(m==n)=true then .ret (m,p) else if m>1 then .ask (p.getD 0 0) (p.getD (m-1) 0) λc=>if c=true then .ret (m,p) else kas_descPart m n (wQ p 0 m) else kas_descPart m n p) (EZ lt n);by_cases z:(m==n)=true
 ·rw[iP z];exact oF ⟨o,R⟩
 rw[iN z];have nz:m≠n:=λe=>z (jV e);have lm:m<n:=pR R.hi nz;have st:Dn lt (at_ p (m-1)) (at_ p m):=C.L.tM _ _ (R.stop.resolve_left nz);by_cases z1:m>1
 ·rw[iP z1];refine zZ C (o.tY hn) (o.tY (aQ (kD ..) lm)) (λ_=>oF ⟨o,R⟩) λd=>RC C o.rev lm ?_;have hp:=o.le R.hi;have al:∀i j,i<m->j<m->Dn lt (at_ p i) (at_ p j):=λi j hi hj=>C.L.dn.tr (C.L.dn.tr (b:=at_ p 0) (R.up 0 i (cu i) hi) d) (R.up j (m-1) (mM hj) (pE hj));refine xO C.L.dn (HZ hp (λi j hi hj=>al i j (aQ hi hj) hj) λa b _ k _ k2=>al a b k k2) λp0=>?_;rw[ye hp (cu _) (pE p0),A6 hp λz=>cV _ z.2];exact C.L.dn.tr (al _ _ (yl (cu _) (pE p0)).2 (pE p0)) st
 ·rw[iN z1];obtain rfl:m=1:=mK (cZ z1) R.lo;exact RC C o lm (xO C.L.dn (λi j h k=>by
   rw[Lf.mp k] at h;rw[Lf.mp k,TU.mp h];exact C.L.refl _) λ_=>st)
structure GE(lt:Nat->Nat->Bool)(g:Nat->Nat)(k l r:Nat):Prop where
 hr:r<=k
 lo:∀i,i<l->lt (g k) (g i)=false
 hi:∀i,r<=i->i<k->lt (g k) (g i)=true
theorem ZO(C:qe cmp lt n)(o:f8 n p)(hk:k<n)(M:iD (Up lt) (at_ p) k):∀{f l r:Nat},l<=r->r<=l+f->GE lt (at_ p) k l r->Gv cmp (kas_place p k f l r) λl=>GE lt (at_ p) k l l:=by
 intro f;induction f with
 |zero=>exact λ{l r} h1 h2 P=>oF (mK h1 h2▸P)
 |succ f ih=>
  intro l r h1 h2 P;refine(show Gv cmp (if l>=r then .ret l else .ask (p.getD k 0) (p.getD ((l+r) /2) 0) λc=>if c=true then kas_place p k f l ((l+r) /2) else kas_place p k f ((l+r) /2+1) r) _ from IR (λz=>oF (mK h1 z▸P)) λz=>?_);have lr:l<r:=oj z;have m1:l<=(l+r) /2:=(Nat.le_div_iff_mul_le (by decide)).mpr (aq (aD (Nat.mul_two l)) (i3 h1 l));have m2:(l+r) /2<r:=Nat.div_lt_of_lt_mul (i6 (Nat.add_lt_add_right lr r) (Nat.two_mul r).symm);have mk:=ba m2 P.hr;refine zZ C (o.tY hk) (o.tY (eN mk hk)) (λc=>ih m1 (jt (ba m2 h2)) ⟨cy mk,P.lo,λi a b=>?_⟩) λc=>ih m2 (aq h2 (aq (mF m1 _) (aD (wD ..).symm))) ⟨P.hr,λi a=>C.L.tr _ _ _ (M i _ (jt a) mk) c,P.hi⟩;cases z:lt (at_ p k) (at_ p i) with
  |true=>rfl
  |false=>exact(C.L.tr _ _ _ (M _ i a b) z).symm.trans c
theorem Pa(hk:k<p.size)(hl:l<=k)(t:Nat):at_ (bubble p k (k-l)) t=if t=l then at_ p k else if l<t/\t<=k then at_ p (t-1) else at_ p t:=by
 rw[oV,getElem?_bubble hk _ (kD ..),Ts hl,apply_ite (λo:Option Nat=>o.getD 0),apply_ite (λo:Option Nat=>o.getD 0),<-oV,<-oV,<-oV]
theorem ZD(C:qe cmp lt n)(hk:k<p.size)(M:iD (Up lt) (at_ p) k)(P:GE lt (at_ p) k l l):iD (Up lt) (at_ (bubble p k (k-l))) (k+1):=λi j hi hj=>by
 have hj:=jt hj;rw[Pa hk P.hr,Pa hk P.hr];by_cases e:j=l
 ·rw[iP e];by_cases e2:i=l
  ·rw[iP e2];exact C.L.refl _
  ·have il:=pR (e▸hi) e2;rw[iN e2,iN λq:l<i/\i<=k=>oB il q.1];exact P.lo i il
 rw[iN e];by_cases g:l<j
 ·rw[iP (Fw g hj)];have jk:j-1<k:=ba (pE g) hj;have lj:=mM g;by_cases e2:i=l
  ·rw[iP e2];exact C.L.tM _ _ (P.hi _ lj jk)
  ·rw[iN e2];by_cases g2:l<i
   ·rw[iP (Fw g2 (aq hi hj))];exact M _ _ (KO hi 1) jk
   ·rw[iN λq:l<i/\i<=k=>g2 q.1];exact M _ _ (aq (cZ g2) lj) jk
 ·have jl:=pR (cZ g) e;have il:=aQ hi jl;rw[iN λq:l<j/\j<=k=>g q.1,iN (gE il),iN λq:l<i/\i<=k=>oB il q.1];exact M i j hi (ba jl P.hr)
theorem l_(C:qe cmp lt n):∀{f:Nat} {p:Array Nat} {k:Nat},f8 n p->k+f=n->iD (Up lt) (at_ p) k->Gv cmp (kas_bin f p k) λp=>f8 n p/\iD (Up lt) (at_ p) n:=by
 intro f;induction f with
 |zero=>exact λ{p k} o e M=>oF ⟨o,e▸M⟩
 |succ f ih=>
  intro p k o e M;have hk:k<n:=i6 (qU (eE f)) e;exact Bk (ZO C o hk M (cu k) (i7 ..) ⟨bf k,λi a=>absurd a (yW i),λi a b=>absurd a (nh b)⟩) λl P=>ih (o.of (bubble_perm _ _ _)) ((wD k f).trans e) (ZD C (i6 hk o.size.symm) M P)
theorem afl(L:uj lt)(hc:∀i j,i<n->j<n->cmp i j=some (lt i j))(hn:1<=n):Gv cmp (kas_sort n) λp=>f8 n p/\iD (Up lt) (at_ p) n:=by
 have C:qe cmp lt n:=⟨L,hc⟩;refine Bk (ϩ C ⟨.refl _⟩ hn) λr D=>?_;rw[Nat.max_eq_left D.2.lo];by_cases z:r.1<n
 ·rw[iP z];exact l_ C D.1 (iK D.2.hi) D.2.up
 ·rw[iN z];exact oF ⟨D.1,mK D.2.hi (cZ z)▸D.2.up⟩
end
section
variable{α β:Type}{O:aK}{nm:aN}{v:β->PV}{D:Nat}{id:Str}{cs:List (List Nat)}{ns:PV}
section
variable{l:List α}{d:α}{i:Nat}
theorem BC(h:i<l.length):l[i]?=some (l.getD i d):=by
 rw[tv,jL h];rfl
theorem ZJ{is:List Nat}(h:∀i∈is,i<l.length):(is.mapM λi=>l[i]?)=some (is.map λi=>l.getD i d):=by
 induction is with
 |nil=>rfl
 |cons i r ih=>
  rw[qV,ih λj m=>h j (.tail _ m),BC (d:=d) (h i (.head _))];rfl
theorem IB:(ax l.length).map (λi=>l.getD i d)=l:=List.ext_getElem? λi=>by
 rw[ot];by_cases h:i<l.length
 ·rw[agG h,BC (d:=d) h];rfl
 ·rw[yY (cZ h),yY (aq (aD cF) (cZ h))];rfl
theorem RZ{lt:α->α->Option Bool}{le:α->α->Bool}(h:∀a∈l,∀b∈l,lt a b=some (le a b))(tM:∀a∈l,∀b∈l,le a b=true->le b a=false)(tr:∀a∈l,∀b∈l,∀c∈l,le b a=false->le c b=false->le c a=false)(hz:l.length<64):
  ∃out,ll lt l=some out/\out.Perm l/\out.Pairwise λa b=>le b a=false:=by
 unfold ll;by_cases q:l.length<2
 ·rw[iP q];refine⟨l,rfl,.refl _,?_⟩;cases l with
  |nil=>exact .nil
  |cons a l=>cases l with
   |nil=>exact Tt _ _
   |cons=>exact absurd q (gN (i7 ..))
 rw[iN q,iP hz];refine bE λgG hG=>?_;have hn:0<l.length:=ba Nat.two_pos (cZ q);obtain⟨d,hd⟩:∃d,d∈l:=⟨l[0],SM hn⟩;have mem (i:Nat):l.getD i d∈l:=by
  by_cases q:i<l.length
  ·exact Tu (BC q)
  ·rw[tv,yY (cZ q)];exact hd
 obtain⟨p,e,o,s⟩:=afl (lt:=λi j=>le (l.getD i d) (l.getD j d)) (n:=l.length) (cmp:=λi j=>(l[i]?).bind λa=>(l[j]?).bind (lt a)) ⟨λa b=>tM _ (mem a) _ (mem b),λa b c=>tr _ (mem a) _ (mem b) _ (mem c)⟩ (λi j hi hj=>by
  rw[BC (d:=d) hi,BC (d:=d) hj];exact h _ (mem i) _ (mem j)) hn
 refine hG (⟨p.toList.map λi=>l.getD i d,(af (λo:Option (Array Nat)=>o.bind λp=>p.toList.mapM λi=>l[i]?) e).trans (ZJ λi m=>eK (o.perm.mem_iff.mp m)),(o.perm.map _).trans (.of_eq IB),?_⟩);rw[Tv,Tw];intro i j hi hj hij;have k:=s i j (cy hij) (i6 hj o.size);rw[oV,oV,tg hi,tg hj] at k;exact k
end
section
section
variable{lt:α->α->Option Bool}{lt':β->β->Option Bool}{g:β->α}{l:List β}{le:β->β->Bool}{f:Str}{p q:Pos}
theorem y_{is:List Nat}:(is.mapM λi=>(l.map g)[i]?)=(is.mapM λi=>l[i]?).map (List.map g):=by
 induction is with
 |nil=>rfl
 |cons i is ih=>
  rw[qV,qV,ih,ot];cases l[i]? with
  |none=>rfl
  |some b=>cases is.mapM λi=>l[i]?<;>rfl
theorem Qj(h:∀a b,lt' a b=lt (g a) (g b)):ll lt (l.map g)=(ll lt' l).map (List.map g):=by
 have e:(λi j:Nat=>((l.map g)[i]?).bind λa=>((l.map g)[j]?).bind (lt a))=λi j:Nat=>(l[i]?).bind λa=>(l[j]?).bind (lt' a):=by
  funext i j;rw[ot,ot,Option.bind_map];exact af _ (funext λa=>(Option.bind_map ..).trans (af _ (funext λb=>(h a b).symm)))
 unfold ll;rw[bi,e];by_cases q:l.length<2
 ·rw[iP q,iP q];rfl
 rw[iN q,iN q];by_cases q:l.length<64
 ·rw[iP q,iP q];cases p6 _ (kas_sort l.length) with
  |none=>rfl
  |some p=>exact y_
 ·rw[iN q,iN q];rfl
theorem QJ{k:Nat}(hk:(k !=0)=true)(h:∀a,jX (v a)=k):oN (l.map v)=true:=by
 cases l with
 |nil=>rfl
 |cons a l=>
  show(jX (v a) !=0&&(l.map v).all λq=>jX q==jX (v a))=true;rw[h,hk,Sv];exact KN.mpr λb _=>by rw[agH,h];exact beq_self_eq_true k
theorem AO{k:Nat}(hk:(k !=0)=true)(ht:∀a,jX (v a)=k)(h:∀a∈l,∀b∈l,fh O (v a) (v b)=some (le a b))(tM:∀a∈l,∀b∈l,le a b=true->le b a=false)(tr:∀a∈l,∀b∈l,∀c∈l,le b a=false->le c b=false->le c a=false)(hz:l.length<64):
  ∃out:List β,eD O nm (l.map v) []=some (.list (out.map v))/\out.Perm l/\out.Pairwise λa b=>le b a=false:=by
 obtain⟨out,e,r⟩:=RZ (lt:=λa b=>fh O (v a) (v b)) h tM tr hz;refine⟨out,(iP (QJ hk ht)).trans ?_,r⟩;rw[Qj (lt':=λa b=>fh O (v a) (v b)) λ_ _=>rfl,e];rfl
theorem Z9{a b:Str}(h:rZ a b=true):rZ b a=false:=dF (List.lt_asymm (cC h))
theorem q_{a b c:Str}(h:rZ b a=false)(h2:rZ c b=false):rZ c a=false:=
 dF (TV.mpr (List.le_trans (TV.mp (iM h)) (TV.mp (iM h2))))
def tG(o:Option PV):Str:=(o.bind PV.vO).getD ""
theorem VU{vs:List PV}:eD O nm vs [⟨some "key",.Name f p,q⟩]=if f≠("__debug__":Str)/\ak nm f=some .globalImplicit/\vs≠[] then(n9 O f vs).bind λks=>if oN (ks.map (·.1))=true then(ll (λa b=>fh O a.1 b.1) ks).map λl=>.list (l.map (·.2)) else none else none:=⋯
theorem afE(h1:f≠("__debug__":Str))(h2:ak nm f=some .globalImplicit)(h3:l≠[])(hk:∀a∈l,∃s,O.fn f [v a] []=some (.str s))(hz:l.length<64):∃out:List β,eD O nm (l.map v) [⟨some "key",.Name f p,q⟩]=some (.list (out.map v))/\out.Perm l:=by
 have hk:n9 O f (l.map v)=some (l.map λa=>(PV.str (tG (O.fn f [v a] [])),v a)):=by
  unfold n9;clear h3 hz;induction l with
  |nil=>rfl
  |cons a l ih=>
   obtain⟨s,e⟩:=hk a (.head _);rw[oz,qV,ih λb m=>hk b (.tail _ m),oz,e];rfl
 obtain⟨out,e,p,_⟩:=RZ (lt:=λa b=>fh O (.str (tG (O.fn f [v a] []))) (.str (tG (O.fn f [v b] [])))) (le:=λa b=>rZ (tG (O.fn f [v a] [])) (tG (O.fn f [v b] []))) (l:=l) (λ_ _ _ _=>rfl) (λ_ _ _ _=>Z9) (λ_ _ _ _ _ _=>q_) hz;refine⟨out,VU.trans ((iP ⟨h1,h2,λq=>h3 (TT.mp q)⟩).trans (aG hk ((iP ?_).trans ?_))),p⟩
 ·rw[jr];exact QJ (k:=2) rfl λ_=>rfl
 ·rw[Qj (lt:=λa b:PV×PV=>fh O a.1 b.1) (g:=λa=>(PV.str (tG (O.fn f [v a] [])),v a)) (lt':=λa b=>fh O (.str (tG (O.fn f [v a] []))) (.str (tG (O.fn f [v b] [])))) λ_ _=>rfl,e];show some (PV.list ((out.map _).map _))=_;rw[jr];rfl
end
structure SS(S:List Nat):Prop where
 up:S.Pairwise (· < ·)
 six:∀x∈S,x<6
theorem SS.sub{S:List Nat}(h:SS S):S∈oH 0 6:=RF 6 h.up λx m=>⟨cu _,i6 (h.six x m) (f5 6).symm⟩
theorem SS.all{S:List Nat}{t:List Nat->Bool}(h:SS S)(a:(oH 0 6).all t=true):t S=true:=b7 a S h.sub
theorem SS.len{S:List Nat}(h:SS S):S.length<7:=cC (h.all (t:=λS=>decide (S.length<7)) ⋯)
theorem SS.eq{l S:List Nat}(h:SS S)(p:l.Perm S)(s:l.Pairwise λa b=>decide (b<a)=false):l=S:=
 agI (le:=λa b=>a<=b) (λ_ _ _ _ h1 h2=>mK h1 h2) (s.imp λq=>cZ (iM q)) (h.up.imp cy) p
noncomputable def HY(n:Nat):Str:=dw (toString (n:Int))
def ds(n:Nat):PV:=.str (HY n)
variable{S l:List Nat}
theorem ace{a b:Nat}(ha:a<6)(hb:b<6):fh O (ds a) (ds b)=some (decide (a<b)):=by
 have h:(ax 6).all (λa=>(ax 6).all λb=>rZ (HY a) (HY b)==decide (a<b))=true:=⋯;exact af some (a5 (b7 (b7 h a (dJ ha)) b (dJ hb)))
theorem aa2{nm:aN}(h:SS S)(p:l.Perm S):eD O nm (l.map ds) []=some (.list (S.map ds)):=by
 have m {x} (m:x∈l):x<6:=h.six x (p.mem_iff.mp m);obtain⟨out,e,q,s⟩:=AO (O:=O) (nm:=nm) (v:=ds) (le:=λa b=>decide (a<b)) (l:=l) (k:=2) rfl (λ_=>rfl) (λa ma b mb=>ace (m ma) (m mb)) (λa _ b _ x=>dF (oB (cC x))) (λa _ b _ c _ x y=>dF (gN (aq (cZ (iM x)) (cZ (iM y))))) (p.length_eq▸eN h.len (by decide));rw[e,h.eq (q.trans p) s]
def qx:aN:=qI.scope.names
def qD:aH:=aJ (sB 0 (aJ qI.body 0)) 0
noncomputable def sU(S:List Nat)(x:Option PV):ar:=("candset",.pv (.set S))::("cand_names",.pv .none)::x.elim [] λx=>[("named",.pv x)]
noncomputable def v_:Option PV->Bool
 |some (.str _)=>true
 |_=>false
theorem aeu:(oH 0 6).all (λS=>v_ (cq (a9 (next NN O) NN qx [] (sU S (some (.list (S.map ds)))) [aJ qI.body 1])))=true:=⋯
theorem Qx{P:Nat->Prop}(h0:P 0)(h1:P 1)(h2:P 2)(h3:P 3)(h4:P 4)(h5:P 5):∀j,j<6->P j:=vj (vK h0 h1 h2 h3|>(vj · h4)) h5
theorem aaq:∀x:Nat,x<6->((fT (gY (gS (bR 0 (sE qD))).names) (gT (bR 0 (sE qD))) (.int (x:Nat)) []).bind λfR=>(ip 999997 {O with gens:=false}).e (gS (bR 0 (sE qD))).names fR (bR 0 (bR 0 (sE qD))))=some (ds x):=Qx ⋯ ⋯ ⋯ ⋯ ⋯ ⋯
def Po(O:aK):List PV->Option PV:=zF O 999997 (bR 0 (sE qD)) [] λvs=>eD O qx vs []
theorem ab'(h:SS S):eJ (.set S) (Po O)=some (.list (S.map ds)):=xQ (kk:=Po O) (.set S) λl' p=>GT (g:=ds) ⋯ (λx m=>aaq x (h.six x (p.mem_iff.mp m))) (aa2 h p)
theorem YV:cI (next NN O) 999998 qx (fJ (sU S none)) (sE qD)=eJ (.set S) (zF (next NN O) 999997 (bR 0 (sE qD)) [] λvs=>eD (next NN O) qx vs []):=⋯
theorem Zw(h:SS S):cI (next NN O) 999998 qx (fJ (sU S none)) (sE qD)=some (.list (S.map ds)):=YV.trans (ab' (O:=next NN O) h)
theorem Vb(h:SS S):aw (next NN O) (999998+1) qx [] (sU S none) qD=nx (sU S (some (.list (S.map ds)))):=bg (n:=999998) (K:=bH qx "named" false) ⋯ (Zw h) ⋯
theorem Y'(h:SS S):∃s,bm (next NN O) NN qI [.set S] []=some (.str s):=by
 have q:=h.all (aeu (O:=O));suffices e:bm (next NN O) NN qI [.set S] []=cq (a9 (next NN O) NN qx [] (sU S (some (.list (S.map ds)))) [aJ qI.body 1]) by
  rw[e];revert q;cases cq _ with
  |none=>exact ff
  |some p=>cases p with
   |str s=>exact λ_=>⟨s,rfl⟩
   |_=>exact ff
 refine(⋯:_=cq (aS (aw (next NN O) NN qx []) [aJ qI.body 0,aJ qI.body 1] (sU S none))).trans (af cq (aF (σ₁:=sU S (some (.list (S.map ds)))) (cL (n:=999999) (b:=true) ⋯ ⋯ ?_) rfl));exact(⋯:_=aS (aw (next NN O) 999999 qx []) [qD] (sU S none)).trans (aF (Vb h) rfl)
def Ew:aN:=AU.scope.names
def kK:aH:=aJ AU.body 0
theorem ZU{β:Type}{g v:β->PV}{l:List β}{ev:bj->Expr->Option PV}{nm:aN}{t elt:Expr}{ρ:bj}(hf:mq t ρ=true)(h:∀x∈l,((fT (gY nm) t (v x) ρ).bind λfR=>ev fR elt)=some (g x)):lx ev nm t elt ρ (l.map v)=some (l.map g):=by
 induction l with
 |nil=>rfl
 |cons v l ih=>exact aj (h v (.head _)) λfR h1 h2=>(iP hf).trans (aG h1 (aG h2 (af (eP _) (ih λx m=>h x (.tail _ m)))))
theorem vY{n:Nat}{nm:aN}{mu:List Str}{σ:ar}{st:aH}{p:PV}(hs:aw O (n+1) nm mu σ st=sO O (ip n O) nm σ (sE st))(he:cI O n nm (bA σ) (sE st)=some p):aw O (n+1) nm mu σ st=some (.ret p,σ):=hs.trans (Ei he)
theorem rY{X:ar->aH->aZ}{st:aH}{l:List aH}{σ σ₁:ar}{p:PV}(h:X σ st=some (.ret p,σ₁)):aS X (st::l) σ=some (.ret p,σ₁):=af (λr:aZ=>r.bind λq=>if q.1.g9=true then aS X l q.2 else some q) h
def EG(e:Expr):Pos×Pos:=((Av e).bind λq=>pC q.2.2.1).elim default λk=>(k.value.pos,k.pos)
def Qr(O:aK)(vs:List PV):Option PV:=eD O Ew vs [⟨some "key",.Name "str_set_of_candidates" (EG (sE kK)).1,(EG (sE kK)).2⟩]
def WG(O:aK)(l:List PV):Option PV:=(lx ((ip 999998 {O with gens:=false}).e (gS (bR 0 (sE kK))).names) (gS (bR 0 (sE kK))).names (gT (bR 0 (sE kK))) (bR 0 (bR 0 (sE kK))) [] l).bind (Qr O)
theorem UU{l:List PV}:cI (next NN O) 999999 Ew (bA [("committees",.pv (.list l))]) (sE kK)=WG (next NN O) l:=⋯
theorem U9{x:PV}:((fT (gY (gS (bR 0 (sE kK))).names) (gT (bR 0 (sE kK))) x []).bind λfR=>(ip 999998 {O with gens:=false}).e (gS (bR 0 (sE kK))).names fR (bR 0 (bR 0 (sE kK))))=O.fn "CandidateSet" [x] []:=⋯
theorem abu{β:Type}{v:β->PV}{so:β->List Nat}{l:List β}(h0:l≠[])(hz:l.length<64)(hc:∀a∈l,(next NN O).fn "CandidateSet" [v a] []=some (.set (so a)))(hk:∀a∈l,∃s,(next NN O).fn "str_set_of_candidates" [.set (so a)] []=some (.str s)):
  ∃out:List (List Nat),bm (next NN O) NN AU [.list (l.map v)] []=some (.list (out.map PV.set))/\out.Perm (l.map so):=by
 obtain⟨out,e,hp⟩:=afE (O:=next NN O) (nm:=Ew) (f:="str_set_of_candidates") (p:=(EG (sE kK)).1) (q:=(EG (sE kK)).2) (v:=λa=>PV.set (so a)) (l:=l) (by decide) ⋯ h0 hk hz;refine⟨out.map so,?_,hp.map so⟩;refine(⋯:_=cq (aS (aw (next NN O) NN Ew []) [kK] [("committees",.pv (.list (l.map v)))])).trans (af cq (rY (vY (n:=999999) ⋯ (?_:_=some (PV.list ((out.map so).map PV.set))))));refine UU.trans (aG (K:=Qr (next NN O)) (ZU (g:=λa=>PV.set (so a)) ⋯ λx m=>U9.trans (hc x m)) (e.trans ?_));rw[jr];rfl
end
section
variable{sc:β->Int}{l:List β}{c x:β}{m:Int}
noncomputable def rE(sc:β->Int)(m:Int)(l:List β):Int:=l.foldl (λm c=>max m (sc c)) m
def mx(sc:β->Int)(l:List β):Int:=rE sc (-1) l
def dQ(sc:β->Int)(l:List β):List β:=l.filter λc=>decide (sc c=mx sc l)
theorem rI:m<=rE sc m l/\∀x∈l,sc x<=rE sc m l:=by
 induction l generalizing m with
 |nil=>exact⟨tw _,λx h=>absurd h eX⟩
 |cons c l ih=>exact⟨ic (Int.le_max_left ..) (ih (m:=max m (sc c))).1,λx h=>(bw h).elim (λe=>ic (oD (af sc e)) (ic (Int.le_max_right m (sc c)) ih.1)) λh=>ih.2 x h⟩
theorem GQ:rE sc m l=m\/∃x∈l,sc x=rE sc m l:=by
 induction l generalizing m with
 |nil=>exact .inl rfl
 |cons c l ih=>
  refine(ih (m:=max m (sc c))).elim (λe=>?_) λ⟨x,h,e⟩=>.inr ⟨x,.tail _ h,e⟩;by_cases q:m<=sc c
  ·exact .inr ⟨c,.head _,(Tx q).symm.trans e.symm⟩
  ·exact .inl (e.trans (Tz (Int.le_of_not_le q)))
theorem NU:mx sc (l++[c])=max (mx sc l) (sc c):=List.foldl_append ..
theorem HG(h:∀x∈l,0<=sc x)(n:l≠[]):∃x∈l,sc x=mx sc l:=(GQ (sc:=sc) (m:= -1) (l:=l)).elim (λe=>by
 obtain⟨c,l,rfl⟩:=Ch n;exact absurd (ic (h c (.head _)) (e▸rI.2 c (.head _))) (by decide)) id
theorem HP(h:∀x∈l,0<=sc x):x∈dQ sc l↔x∈l/\∀y∈l,sc y<=sc x:=by
 refine oC.trans (and_congr_right λm=>decide_eq_true_iff.trans ⟨λe=>e▸rI.2,λk=>?_⟩);obtain⟨y,my,e⟩:=HG h (Ci m);exact y6 (rI.2 x m) (e▸k y my)
theorem tX(h:∀x∈l,0<=sc x)(n:l≠[]):dQ sc l≠[]:=by
 obtain⟨y,my,e⟩:=HG h n;exact Ci (o5 ⟨my,dT e⟩)
theorem Ic{P:β->Bool}:[c].filter P=if P c=true then[c] else[]:=by
 cases h:P c with
 |true=>exact tx h
 |false=>exact uZ (ne_true_of_eq_false h)
theorem OV(h:mx sc l<sc c):mx sc (l++[c])=sc c/\dQ sc (l++[c])=[c]:=by
 have e:mx sc (l++[c])=sc c:=NU.trans (Tx (mH h));refine⟨e,?_⟩;unfold dQ;rw[e,pU,Ge.mpr λx m k=>im (rI.2 x m) (cC k▸h),Ic,dT rfl];rfl
theorem M2(h:¬mx sc l<sc c):mx sc (l++[c])=mx sc l/\dQ sc (l++[c])=if sc c=mx sc l then dQ sc l++[c] else dQ sc l:=by
 have e:mx sc (l++[c])=mx sc l:=NU.trans (Tz (jA h));refine⟨e,?_⟩;unfold dQ;rw[e,pU];by_cases q:sc c=mx sc l
 ·rw[iP q,Ic,dT q];rfl
 ·rw[iN q,Ic,dF q];exact gO _
end
def nR{β:Type}(D:Nat)(sc:β->Int):List β->PV
 |[]=>.int (-1)
 |c::l=>fq D (mx sc (c::l))
structure BL(O:aK)(D:Nat)(id:Str)(p:PV)(B:ar->aZ)(nm:aN)(t:Expr)(E:List PV->PV->Option PV->Option PV->ar):Prop where
 bind:∀{b s c} {r:Option (PV×PV)},fT (rO nm) t c (E b s (r.map wG) (r.map ou))=some (E b s (some c) (r.map ou))
 turn:∀{b s c y z b1 b2},O.fn "thiele_score" [.str id,p,c] []=some (fq D z)->O.cmp .Gt (fq D z) s=some b1->(b1=false->O.cmp .Eq (fq D z) s=some b2)->b.length<aA->B (E b s (some c) y)=nx (if b1=true then E [c] (fq D z) (some c) (some (fq D z)) else E (if b2=true then b++[c] else b) s (some c) (some (fq D z)))
section
variable{p:PV}{B:ar->aZ}{t:Expr}{E:List PV->PV->Option PV->Option PV->ar}{sc:β->Int}{c:β}{y:Option PV}
theorem RI:mx sc []<0:=show(-1:Int)<0 by decide
theorem ZW{l:List β}(H:fX O D)(h:0<=sc c):O.cmp .Gt (fq D (sc c)) (nR D sc l)=some (decide (mx sc l<sc c)):=by
 cases l with
 |nil=>exact(H.GX h).trans (af some (dT (lC RI h)).symm)
 |cons=>exact H.gt
theorem Q7{l:List β}(H:fX O D)(h:0<=sc c)(n:¬mx sc l<sc c):nR D sc (l++[c])=nR D sc l/\O.cmp .Eq (fq D (sc c)) (nR D sc l)=some (decide (sc c=mx sc l)):=by
 cases l with
 |nil=>exact absurd (lC RI h) n
 |cons=>exact⟨af (fq D) (M2 n).1,H.eq⟩
theorem j_{l:List β}(H:fX O D)(L:BL O D id p B nm t E)(h:O.fn "thiele_score" [.str id,p,v c] []=some (fq D (sc c))/\0<=sc c)(hz:l.length<aA):B (E ((dQ sc l).map v) (nR D sc l) (some (v c)) y)=nx (E ((dQ sc (l++[c])).map v) (nR D sc (l++[c])) (some (v c)) (some (fq D (sc c)))):=by
 refine(L.turn h.1 (ZW H h.2) (b2:=decide (sc c=mx sc l)) (λq=>(Q7 H h.2 (iM q)).2) (aQ (aq (aD (bi _)) (re ..)) hz)).trans (af nx ?_);by_cases q:mx sc l<sc c
 ·rw[dT q,iP rfl,(OV q).2,show nR D sc (l++[c])=fq D (sc c) by rw[<-(OV q).1];cases l<;>rfl];rfl
 ·rw[dF q,iN dy,(M2 q).2,(Q7 H h.2 q).1];by_cases k:sc c=mx sc l
  ·rw[dT k,iP rfl,iP k,mP];rfl
  ·rw[dF k,iN dy,iN k];rfl
theorem Hj(H:fX O D)(L:BL O D id p B nm t E):∀{l' l:List β} {r:Option (PV×PV)},(∀c∈l',O.fn "thiele_score" [.str id,p,v c] []=some (fq D (sc c))/\0<=sc c)->l.length+l'.length<aA->∃r':Option (PV×PV),(r'=none->r=none/\l'=[])/\dZ B nm t (l'.map v) (E ((dQ sc l).map v) (nR D sc l) (r.map wG) (r.map ou))=nx (E ((dQ sc (l++l')).map v) (nR D sc (l++l')) (r'.map wG) (r'.map ou)):=by
 intro l';induction l' with
 |nil=>exact λ{l r} _ _=>⟨r,λe=>⟨e,rfl⟩,by rw[gO];rfl⟩
 |cons c l' ih=>
  intro l r h hz;obtain⟨r',n,e⟩:=ih (l:=l++[c]) (r:=some (v c,fq D (sc c))) (λc m=>h c (.tail _ m)) (aQ (aD (by rw[da,fC];exact af _ (gj ..))) hz);rw[kt] at e;exact⟨r',(λq=>sN ((n q).1)),ii L.bind (j_ H L (h c (.head _)) (aQ (cW ..) hz)) e⟩
end
section
section
variable{n:Nat}{mu:List Str}{σ σ₁:ar}{st:aH}{K:PV×ar->aZ}{p:PV}{r:aZ}
theorem uh(hs:aw O (n+1) nm mu σ st=(bX (cI O n nm) σ (sE st)).bind K)(h0:cI O n nm (fJ σ) (sE st)=none)(h:cI O n nm (bA σ) (sE st)=some p)(hc:(σ.any λq=>q.2.kW&&q.2.seen p)=false)(hk:K (p,dX p σ)=r):aw O (n+1) nm mu σ st=r:=hs.trans (aG (show bX (cI O n nm) σ (sE st)=some (p,dX p σ) by unfold bX;rw[h0,h];exact iN (ne_true_of_eq_false hc)) hk)
theorem dC{X:ar->aH->aZ}{l:List aH}{σ₁:ar}{q:Option PV}(h:X σ st=nx σ₁)(k:cq (aS X l σ₁)=q):cq (aS X (st::l) σ)=q:=(af cq (aF h rfl)).trans k
noncomputable def AV.qm(b:Bool)(l:List PV):AV:=if b=true then .pv (.list l) else .own l
end
noncomputable def eG(c:List Nat):PV:=.tup (c.map λn:Nat=>PV.int n)
def rH:aN:=A1.scope.names
def pi(i:Nat):aH:=aJ A1.body i
def Xo:aH:=aJ (sB 0 (pi 2)) 1
def N6:aH:=aJ (sB 1 Xo) 0
noncomputable def AC:List Str:=["opt_committees"]
noncomputable def OG(a b:Str)(r:ar)(x y:Option PV):ar:=x.elim r λx=>(a,.pv x)::y.elim r λy=>(b,.pv y)::r
def uy(id:Str)(p:PV)(k:Nat)(r:ar)(b:AV)(s:PV)(x y:Option PV):ar:=("scorefct_id",.pv (.str id))::("profile",.pv p)::("committeesize",.pv (.int k))::("resolute",.pv (.bool false))::("max_num_of_committees",.pv .none)::("opt_committees",b)::("opt_thiele_score",.pv s)::OG "committee" "score" r x y
variable{k n:Nat}{p:PV}{sc:List Nat->Int}{out:List PV}{vs:List (List Nat×Nat)}
theorem Zf{p:PV}:BL O D id p (aS (aw O 999999 rH AC) (sB 0 (pi 2))) rH (sT (pi 2)) λb=>uy id p k [] (.own b) where
 bind:=λ{b s c r}=>by cases r<;>rfl'
 turn:=λ{b s c y z b1 b2} h hg he hz=>by
  refine aF (bg (n:=999998) (K:=bH rH "score" false) ⋯ ((show _=O.fn "thiele_score" [.str id,p,c] [] by cases y<;>rfl').trans h) (show _=nx (uy id p k [] (.own b) s (some c) (some (fq D z))) by cases y<;>rfl')) (aF (cL (n:=999998) (b:=b1) ⋯ ((⋯:_=O.cmp .Gt (fq D z) s).trans hg) ?_) rfl);cases b1 with
  |true=>rfl'
  |false=>
   refine(⋯:_=aS (aw O 999998 rH AC) [N6] (uy id p k [] (.own b) s (some c) (some (fq D z)))).trans (aF (cL (n:=999997) (b:=b2) ⋯ ((⋯:_=O.cmp .Eq (fq D z) s).trans (he rfl)) ?_) rfl);cases b2 with
   |true=>exact(⋯:_=aS (aw O 999997 rH AC) [aJ (sB 0 N6) 0] (uy id p k [] (.own b) s (some c) (some (fq D z)))).trans (aF (cL (n:=999996) (b:=true) ⋯ ⋯ (aF (σ₁:=uy id p k [] (.own (b++[c])) s (some c) (some (fq D z))) ((⋯:_=if b.length<aA then nx (uy id p k [] (.own (b++[c])) s (some c) (some (fq D z))) else none).trans (iP hz)) rfl)) rfl)
   |false=>rfl'
def I8(O:aK)(D:Nat)(id:Str)(p:PV)(sc:List Nat->Int)(cs:List (List Nat)):Prop:=∀c∈cs,O.fn "thiele_score" [.str id,p,eG c] []=some (fq D (sc c))/\0<=sc c
theorem abr(H:fX O D)(hc:O.fn "combinations" [.list ((ax n).map λi:Nat=>.int i),.int k] []=some (.list (cs.map eG)))(hz:cs.length<aA)(h:I8 O D id (a6 n ns vs) sc cs)(hs:O.fn "sorted_committees" [.list ((dQ sc cs).map eG)] []=some (.list out)):
  bm O NN A1 [] [("scorefct_id",.str id),("profile",a6 n ns vs),("committeesize",.int k),("resolute",.bool false),("max_num_of_committees",.none)]=some (.tup [.list out,.any]):=by
 obtain⟨r,_,e⟩:=Hj (l:=[]) (r:=none) H (Zf (k:=k)) h (by rw[Ca,f5];exact hz);refine(⋯:_=cq (a9 O NN rH AC (uy id (a6 n ns vs) k [] (.own []) (.int (-1)) none none) [pi 2,pi 3,pi 4,pi 5,pi 6,pi 7])).trans (dC (bg (n:=999999) (K:=fY (aw O 999999 rH AC) rH (sT (pi 2)) (sB 0 (pi 2))) ⋯ ((show _=O.fn "combinations" [.list ((ax n).map λi:Nat=>.int i),.int k] [] by rfl').trans hc) (sq e)) (dC (uh (n:=999999) (K:=bH rH "committees" false) (p:=.list out) ⋯ (by cases r<;>rfl') ((show _=O.fn "sorted_committees" [.list ((dQ sc cs).map eG)] [] by cases r<;>rfl').trans hs) (by cases r<;>rfl') (show _=nx (uy id (a6 n ns vs) k [("committees",.pv (.list out))] (.qm (cf [(dQ sc cs).map eG] [] (.list out)) ((dQ sc cs).map eG)) (nR D sc cs) (r.map wG) (r.map ou)) by cases r<;>rfl')) ?_));cases cf [(dQ sc cs).map eG] [] (.list out)<;>cases r<;>rfl'
end
section
def gI(e:Expr):List Expr:=(gC e).ifs
def gR(e:Expr):List jK:=(gP e).1.drop 1
def c8(O:aK)(n:Nat)(e:Expr)(ρ:bj)(src:List PV):Option PV:=(pH (rV (ip n O) (gS e).names (bR 0 e) (gR e)) ((ip n O).t (gS e).names) (gS e).names (gT e) (gI e) ρ src).bind (pq .list)
section
variable{n:Nat}{e:Expr}{ρ:bj}{w:β->PV}{l:List β}{ok:β->Bool}{t:Expr}{ifs:List Expr}{body:bj->Option (List PV)}{te:bj->Expr->Option Bool}{f:β->List PV}
theorem Ix(hf:mq t ρ=true)(h:∀a∈l,((fT (gY nm) t (v a) ρ).bind λfR=>(pZ (te fR) false ifs).bind λok=>if ok=true then body fR else some [])=some (f a)):pH body te nm t ifs ρ (l.map v)=some (l.flatMap f):=by
 induction l with
 |nil=>rfl
 |cons a l ih=>exact aj (h a (.head _)) λfR h1 h2=>aj h2 λk h2 h3=>(iP hf).trans (aG h1 (aG h2 (aG h3 (af (eP _) (ih λx m=>h x (.tail _ m))))))
theorem aa5:(l.flatMap λa=>if ok a=true then[w a] else[])=(l.filter ok).map w:=by
 induction l with
 |nil=>rfl
 |cons a l ih=>
  rw[KP,ih];cases h:ok a with
  |true=>rw[tx h];rfl
  |false=>rw[uZ (ne_true_of_eq_false h)];rfl
theorem v6(hf:mq (gT e) ρ=true)(h:∀a∈l,((fT (gY (gS e).names) (gT e) (v a) ρ).bind λfR=>(pZ ((ip n O).t (gS e).names fR) false (gI e)).bind λok=>if ok=true then rV (ip n O) (gS e).names (bR 0 e) (gR e) fR else some [])=some (if ok a=true then[w a] else[]))(hz:l.length<=aA):c8 O n e ρ (l.map v)=some (.list ((l.filter ok).map w)):=
 aG ((Ix hf h).trans (af some aa5)) (iP (aq (aD (bi _)) (aq (re ..) hz)))
theorem nZ(hf:mq (gT e) ρ=true)(h:∀a∈l,((fT (gY (gS e).names) (gT e) (v a) ρ).bind λfR=>(pZ ((ip n O).t (gS e).names fR) false (gI e)).bind λok=>if ok=true then rV (ip n O) (gS e).names (bR 0 e) (gR e) fR else some [])=some [w a])(hz:l.length<=aA):c8 O n e ρ (l.map v)=some (.list (l.map w)):=
 (v6 (ok:=λ_=>true) hf h hz).trans (by rw[Gd.mpr λ_ _=>rfl])
end
def iC:aN:=Bg.scope.names
noncomputable def oJ:List Str:=["best_committees","final_committees"]
def dL(i:Nat):aH:=aJ Bg.body i
def adI(i:Nat):aH:=aJ (sB 0 (dL i)) 1
def E1(i:Nat):aH:=aJ (sB 1 (adI i)) 0
def jD(p:PV)(k:Nat)(bc:AV)(d7:PV)(r:ar)(x y:Option PV):ar:=("profile",.pv p)::("committeesize",.pv (.int k))::("resolute",.pv (.bool false))::("max_num_of_committees",.pv .none)::("best_committees",bc)::("best_coverage",.pv d7)::OG "committee" "coverage" r x y
noncomputable def sD(fc:AV)(s:PV)(y:Option PV)(r:ar):ar:=("final_committees",fc)::("best_score",.pv s)::y.elim r λy=>("score",.pv y)::r
variable{k n:Nat}{p d7 c0 a0:PV}{u9 w6:List Nat->Int}{L:List PV}{vs:List (List Nat×Nat)}
theorem Ym:BL O D "cc" p (aS (aw O 999999 iC oJ) (sB 0 (dL 2))) iC (sT (dL 2)) λb s=>jD p k (.own b) s [] where
 bind:=λ{b s c r}=>by cases r<;>rfl'
 turn:=λ{b s c y z b1 b2} h hg he hz=>by
  refine aF (bg (n:=999998) (K:=bH iC "coverage" false) ⋯ ((show _=O.fn "thiele_score" [.str "cc",p,c] [] by cases y<;>rfl').trans h) (show _=nx (jD p k (.own b) s [] (some c) (some (fq D z))) by cases y<;>rfl')) (aF (cL (n:=999998) (b:=b1) ⋯ ((⋯:_=O.cmp .Gt (fq D z) s).trans hg) ?_) rfl);cases b1 with
  |true=>rfl'
  |false=>
   refine(⋯:_=aS (aw O 999998 iC oJ) [E1 2] (jD p k (.own b) s [] (some c) (some (fq D z)))).trans (aF (cL (n:=999997) (b:=b2) ⋯ ((⋯:_=O.cmp .Eq (fq D z) s).trans (he rfl)) ?_) rfl);cases b2 with
   |true=>exact aF (st:=aJ (sB 0 (E1 2)) 0) (σ₁:=jD p k (.own (b++[c])) s [] (some c) (some (fq D z))) ((⋯:_=if b.length<aA then nx (jD p k (.own (b++[c])) s [] (some c) (some (fq D z))) else none).trans (iP hz)) rfl
   |false=>rfl'
theorem VY:BL O D "adams" p (aS (aw O 999999 iC oJ) (sB 0 (dL 5))) iC (sT (dL 5)) λb s x y=>jD p k (.pv (.list L)) d7 (sD (.own b) s y []) (some (x.getD c0)) (some a0) where
 bind:=λ{b s c r}=>by cases r<;>rfl'
 turn:=λ{b s c y z b1 b2} h hg he hz=>by
  refine aF (bg (n:=999998) (K:=bH iC "score" false) ⋯ ((show _=O.fn "thiele_score" [.str "adams",p,c] [] by cases y<;>rfl').trans h) (show _=nx (jD p k (.pv (.list L)) d7 (sD (.own b) s (some (fq D z)) []) (some c) (some a0)) by cases y<;>rfl')) (aF (cL (n:=999998) (b:=b1) ⋯ ((⋯:_=O.cmp .Gt (fq D z) s).trans hg) ?_) rfl);cases b1 with
  |true=>rfl'
  |false=>
   refine(⋯:_=aS (aw O 999998 iC oJ) [E1 5] (jD p k (.pv (.list L)) d7 (sD (.own b) s (some (fq D z)) []) (some c) (some a0))).trans (aF (cL (n:=999997) (b:=b2) ⋯ ((⋯:_=O.cmp .Eq (fq D z) s).trans (he rfl)) ?_) rfl);cases b2 with
   |true=>exact aF (st:=aJ (sB 0 (E1 5)) 0) (σ₁:=jD p k (.pv (.list L)) d7 (sD (.own (b++[c])) s (some (fq D z)) []) (some c) (some a0)) ((⋯:_=if b.length<aA then nx (jD p k (.pv (.list L)) d7 (sD (.own (b++[c])) s (some (fq D z)) []) (some c) (some a0)) else none).trans (iP hz)) rfl
   |false=>rfl'
theorem aeO{ls:List (List PV)}:∀l:List (List Nat),iw ls [] (l.map eG)=false:=by
 have i (c:List Nat):iw ls [] (c.map λn:Nat=>PV.int n)=false:=by
  induction c with
  |nil=>rfl
  |cons=>assumption
 intro l;induction l with
 |nil=>rfl
 |cons c l ih=>exact(af (λb=>b||iw ls [] (l.map eG)) (i c)).trans ih
theorem Xz(H:fX O 1)(H6:fX O 6)(hc:O.fn "combinations" [.list ((ax n).map λi:Nat=>.int i),.int k] []=some (.list (cs.map eG)))(h0:cs≠[])(hz:cs.length<aA)(h:I8 O 1 "cc" (a6 n ns vs) u9 cs)(h':I8 O 6 "adams" (a6 n ns vs) w6 cs)
(ha:O.attr bx "num_cand" (a6 n ns vs)=some (.int n))(hs:∀c∈cs,O.fn "CandidateSet" [eG c] [("num_cand",.int n)]=some (.set c)):
  bm O NN Bg [a6 n ns vs,.int k,.bool false,.none] []=some (.list ((dQ w6 (dQ u9 cs)).map PV.set)):=by
 have sub:∀c∈dQ u9 cs,c∈cs:=λc m=>(eL m).1;have z1:(dQ u9 cs).length<aA:=aQ (re ..) hz;have z2:(dQ w6 (dQ u9 cs)).length<=aA:=aq (re ..) (cy z1);have n1:=tX (λx m=>(h x m).2) h0;obtain⟨r,nr,e1⟩:=Hj (l:=[]) (r:=none) H (Ym (k:=k)) h (by rw[Ca,f5];exact hz);refine(⋯:_=cq (a9 O NN iC oJ (jD (a6 n ns vs) k (.own []) (.int (-1)) [] none none) [dL 2,dL 3,dL 4,dL 5,dL 6,dL 7,dL 8,dL 9])).trans (dC (bg (n:=999999) (K:=fY (aw O 999999 iC oJ) iC (sT (dL 2)) (sB 0 (dL 2))) ⋯ ((show _=O.fn "combinations" [.list ((ax n).map λi:Nat=>.int i),.int k] [] by rfl').trans hc) (sq e1)) ?_);clear e1;cases r with
 |none=>exact absurd (nr rfl).2 h0
 |some r=>
 obtain⟨c0,a0⟩:=r;generalize nR 1 u9 ([]++cs)=d7;show cq (aS (aw O NN iC oJ) [dL 3,dL 4,dL 5,dL 6,dL 7,dL 8,dL 9] (jD (a6 n ns vs) k (.own ((dQ u9 cs).map eG)) d7 [] (some c0) (some a0)))=_;generalize dQ u9 cs=T at*;obtain⟨r,_,e2⟩:=Hj (l:=[]) (r:=none) H6 (VY (k:=k) (L:=T.map eG) (d7:=d7) (c0:=c0) (a0:=a0)) (λc m=>h' c (sub c m)) (by rw[Ca,f5];exact z1);refine(⋯:_=cq (a9 O NN iC oJ (jD (a6 n ns vs) k (.own (T.map eG)) d7 (sD (.own []) (.int (-1)) none []) (some c0) (some a0)) [dL 5,dL 6,dL 7,dL 8,dL 9])).trans (dC (uh (n:=999999) (K:=fY (aw O 999999 iC oJ) iC (sT (dL 5)) (sB 0 (dL 5))) (p:=.list (T.map eG)) ⋯ ⋯ ⋯ ⋯ (sq ((af (λσ=>dZ (aS (aw O 999999 iC oJ) (sB 0 (dL 5))) iC (sT (dL 5)) (T.map eG) σ) ?_).trans e2))) ?_)
 ·cases T with
  |nil=>exact absurd rfl n1
  |cons d T=>exact(⋯:_=jD (a6 n ns vs) k (.pv (.list ((d::T).map eG))) d7 (sD (if iw [[]] [] ((d::T).map eG)=true then .pv (.list []) else .own []) (.int (-1)) none []) (some c0) (some a0)).trans (by rw[aeO];rfl)
 generalize nR 6 w6 ([]++T)=s;show cq (aS (aw O NN iC oJ) [dL 6,dL 7,dL 8,dL 9] (jD (a6 n ns vs) k (.pv (.list (T.map eG))) d7 (sD (.own ((dQ w6 T).map eG)) s (r.map ou) []) (some ((r.map wG).getD c0)) (some a0)))=_;have ahy:∀c∈dQ w6 T,c∈cs:=λc m=>sub c (eL m).1;generalize dQ w6 T=F at*;refine dC (uh (n:=999999) (K:=bH iC "committees" false) (p:=.list (F.map PV.set)) ⋯ (by cases r<;>rfl') ((show _=c8 O 999998 (sE (dL 6)) [("profile",a6 n ns vs)] (F.map eG) by cases r<;>rfl').trans (nZ ⋯ (λc m=>(show _=(((O.attr bx "num_cand" (a6 n ns vs)).bind λv=>some [(("num_cand":Str),v)]).bind λks=>O.fn "CandidateSet" [eG c] ks).map λx=>[x] by rfl').trans ?_) z2)) (by cases r<;>rfl') (show _=nx (jD (a6 n ns vs) k (.pv (.list (T.map eG))) d7 (sD (.qm (cf [F.map eG] [] (.list (F.map PV.set))) (F.map eG)) s (r.map ou) [("committees",.pv (.list (F.map PV.set)))]) (some ((r.map wG).getD c0)) (some a0)) by cases r<;>rfl')) ?_
 ·rw[ha];exact af (eP _) (hs c (ahy c m))
 cases cf [F.map eG] [] (.list (F.map PV.set))<;>cases r<;>rfl'
end
end
section
variable{α:Type}{n D:Nat}{f:Nat->α}{O:aK}{id:Str}
section
noncomputable def dP{α:Type}(n:Nat)(f:Nat->α):List α:=(ax n).map f
noncomputable def gA{α:Type}(f:Nat->α)(i:Nat)(v:α)(c:Nat):α:=if c=i then v else f c
section
variable{i:Nat}{h:Nat->PV}{v:PV}{nm:aN}{mu:List Str}{σ:ar}{st:aH}{x:Str}{op:ia}{l l':List PV}{k a w p:PV}{r:aZ}
theorem tJ:(dP n f).length=n:=(bi _).trans cF
theorem Dv(q:i<n):(dP n f)[i]?=some (f i):=ot.trans (af (eP f) (agG q))
theorem Jc{m:Nat}(q:i<m):yy (i:Int) m=some i:=(⋯:_=if decide ((i:Int)<m)=true then some i else none).trans (iP (dT (jc q)))
theorem C2(q:i<n):bP (.list (dP n h)) (.int i)=some (h i):=aG (K:=λj=>(dP n h)[j]?) ((af _ tJ).trans (Jc q)) (Dv q)
theorem aeR(q:i<n){w:α}:(dP n f).set i w=dP n (gA f i w):=by
 refine List.ext_getElem? λj=>?_;rw[List.getElem?_set,tJ];by_cases e:i=j
 ·subst e;rw[iP rfl,iP q,Dv q];exact af some (iP rfl).symm
 ·rw[iN e];by_cases hj:j<n
  ·rw[Dv hj,Dv hj];exact af some (iN λk=>e k.symm).symm
  ·rw[yY (aq (aD tJ) (cZ hj)),yY (aq (aD tJ) (cZ hj))]
theorem H8(q:i<n):jU (dP n h) (.int i) v=some (dP n (gA h i v)):=(iP ⟨fP i,jc (tJ.symm▸q)⟩).trans (af some (aeR q))
theorem abn{v:α}:∀n,(kr n [v]).flatten=dP n λ_=>v:=λn=>by
 refine .trans ?_ ((List.map_const ..).trans (af (λn=>kr n v) cF)).symm;induction n with
 |zero=>rfl
 |succ n ih=>exact af (v:: ·) ih
theorem GI(hn:n<=100):fW O .Mult (.list [v]) (.int n)=some (.list (dP n λ_=>v)):=(⋯:_=if(0:Int)<=n/\(n:Int)<=100/\[v].length<=100 then some (PV.list (kr n [v]).flatten) else none).trans ((iP ⟨fP n,pJ hn,(by decide:1<=100)⟩).trans (af (λl=>some (PV.list l)) (abn n)))
theorem HN(hs:aw O (n+1) nm mu σ st=(bP (.list l) k).bind λa=>(bX (cI O n nm) σ (sE st)).bind λq=>(tV O op a q.1).bind λp=>(gu q.2 x).bind λl=>(jU l k p).bind λl'=>eh (putN nm x (.own l') q.2))(ha:bP (.list l) k=some a)(he:cI O n nm (fJ σ) (sE st)=some w)(hr:tV O op a w=some p)(hw:gu σ x=some l)(hp:jU l k p=some l')(hk:eh (putN nm x (.own l') σ)=r):aw O (n+1) nm mu σ st=r:=hs.trans (aG ha (aG (vW he) (aG hr (aG hw (aG hp hk)))))
end
noncomputable def aC(l:List Nat):List PV:=l.map λn:Nat=>PV.int n
def gd:aN:=Bi.scope.names
def iB(i:Nat):aH:=aJ Bi.body i
def zH:aH:=aJ (sB 0 (iB 1)) 1
def gq(D:Nat)(id:Str)(p:PV)(C:List Nat)(n:Nat)(g:Nat->Int)(r:ar):ar:=("marginal_scorefct",.pv (fV id))::("profile",.pv p)::("committee",.pv (.list (aC C)))::("marginal",.own (dP n λc=>fq D (g c)))::r
noncomputable def jY(y:Option PV)(q:PV×Nat):ar:=("voter",.pv q.1)::("intersectionsize",.pv (.int q.2))::y.elim [] λy=>[("cand",.pv y)]
noncomputable def qL:List Str:=["marginal"]
noncomputable def xF(l:List Nat)(x:Int)(g:Nat->Int)(c:Nat):Int:=if c∈l then g c+x else g c
theorem Wp{i:Nat}{l:List Nat}{x:Int}{g:Nat->Int}(h:i∉l):xF l x (gA g i (g i+x))=xF (i::l) x g:=by
 funext c;unfold xF gA;by_cases e:c=i
 ·subst e;rw[iN h,iP rfl,iP (.head _)]
 ·rw[iN e,ite_congr (propext (jN.trans (or_iff_right e))) (λ_=>rfl) λ_=>rfl]
theorem Qy{D n i:Nat}{g:Nat->Int}{z:Int}:dP n (gA (λc=>fq D (g c)) i (fq D z))=dP n λc=>fq D (gA g i z c):=af (dP n) (funext λc=>(apply_ite (fq D) ..).symm)
variable{S:Nat->Int}{j:Nat}{p:PV}{C l:List Nat}{g:Nat->Int}{q:List Nat×Nat}{y:Option PV}
theorem Z6{i:Nat}(H:iZ O id S D)(hj:j<4)(hi:i<n):aw O 999998 gd qL (gq D id p C n g (jY (some (.int i)) (bp q,j))) (aJ (sB 0 zH) 0)=nx (gq D id p C n (gA g i (g i+(S (j+1) -S j)*q.2)) (jY (some (.int i)) (bp q,j))):=
 HN (n:=999997) (x:="marginal") (op:=.Add) (k:=.int i) ⋯ (C2 (h:=λc=>fq D (g c)) hi) ((show _=(O.bM qz "__call__" [fV id,.int (j+1:Nat)] []).bind λa=>fW O .Mult a (.int q.2) by rfl').trans (aG (H.val j hj) (H.mul (H.num j hj)))) H.add ⋯ ((H8 hi).trans (af some Qy)) ⋯
theorem VZ(H:iZ O id S D)(hj:j<4):∀{l:List Nat} {g:Nat->Int} {y:Option PV},l.Nodup->(∀i∈l,i<n)->∃y',dZ (aS (aw O 999998 gd qL) (sB 0 zH)) gd (sT zH) (aC l) (gq D id p C n g (jY y (bp q,j)))=nx (gq D id p C n (xF l ((S (j+1) -S j)*q.2) g) (jY y' (bp q,j))):=by
 intro l;induction l with
 |nil=>exact λ{g y} _ _=>⟨y,rfl⟩
 |cons i l ih=>
  intro g y hd hi;have hd:=iV hd;obtain⟨y',e⟩:=ih (g:=gA g i (g i+(S (j+1) -S j)*q.2)) (y:=some (.int i)) hd.2 λx m=>hi x (.tail _ m);rw[Wp hd.1] at e;exact⟨y',ii (σ₁:=gq D id p C n g (jY (some (.int i)) (bp q,j))) (by cases y<;>rfl') (aF (Z6 H hj (hi i (.head _))) rfl) e⟩
noncomputable def lT(C A:List Nat):Nat:=(A.filter λx=>C.contains x).length
structure A8(C:List Nat)(n:Nat)(q:List Nat×Nat):Prop where
 lT:lT C q.1<4
 nd:q.1.Nodup
 lt:∀i∈q.1,i<n
theorem YU{C:List Nat}:p5 (aC C)=some (C.map λn:Nat=>(n:Int)):=by
 induction C with
 |nil=>rfl
 |cons c C ih=>exact qV.trans (af (λr:Option (List Int)=>r.bind λl=>some ((c:Int)::l)) ih)
theorem aeh{x:Nat}:(C.map λn:Nat=>(n:Int)).contains (x:Int)=C.contains x:=by
 rw[FA,kx,kx,rg];exact⟨λ⟨y,m,e⟩=>FM e▸m,λm=>⟨x,m,rfl⟩⟩
def ud(S:Nat->Int)(C:List Nat)(q:List Nat×Nat)(c:Nat):Int:=if c∈q.1 then(S (lT C q.1+1) -S (lT C q.1))*q.2 else 0
theorem Wu{x:Option (PV×Nat)}(H:iZ O id S D)(h:A8 C n q):a9 O 999999 gd qL (gq D id p C n g (x.elim [("voter",.pv (bp q))] λx=>jY none (bp q,x.2))) (sB 0 (iB 1))=nx (gq D id p C n (λc=>g c+ud S C q c) (jY none (bp q,lT C q.1))):=by
 refine aF (bg (n:=999998) (K:=bH gd "intersectionsize" false) ⋯ ((show _=(((p5 (aC C)).map λdW=>PV.set (q.1.filter λx=>dW.contains (x:Int))).bind λv=>some [v]).bind λvs=>nY O "len" vs [] by cases x<;>rfl').trans (aG (aG (af (eP _) YU) rfl) rfl)) ((af (λh=>bH gd "intersectionsize" false (PV.int ((q.1.filter h).length:Nat),gq D id p C n g (x.elim [("voter",.pv (bp q))] λx=>jY none (bp q,x.2)))) (funext λ_=>aeh)).trans (show _=nx (gq D id p C n g (jY none (bp q,lT C q.1))) by cases x<;>rfl'))) (aF (bg (n:=999998) (K:=fY (aw O 999998 gd qL) gd (sT zH) (sB 0 zH)) (p:=.set q.1) ⋯ ⋯ (GU λl' hp=>?_)) rfl)
 ·obtain⟨y,e⟩:=VZ (p:=p) (C:=C) (q:=q) (g:=g) (y:=none) H h.lT (hp.nodup_iff.mpr h.nd) λi m=>h.lt i (hp.mem_iff.mp m);refine⟨_,e,?_⟩;rw[show xF l' ((S (lT C q.1+1) -S (lT C q.1))*q.2) g=λc=>g c+ud S C q c from funext λc=>by
   unfold xF ud;by_cases k:c∈q.1
   ·rw[iP k,iP (hp.mem_iff.mpr k)]
   ·rw[iN k,iN λm=>k (hp.mem_iff.mp m),uL]]
  cases y<;>rfl'
def jx(S:Nat->Int)(C:List Nat)(c:Nat):List (List Nat×Nat)->Int
 |[]=>0
 |q::vs=>ud S C q c+jx S C c vs
theorem acI(H:iZ O id S D):∀{vs:List (List Nat×Nat)} {g:Nat->Int} {x:Option (PV×Nat)},(∀q∈vs,A8 C n q)->∃x':Option (PV×Nat),dZ (aS (aw O 999999 gd qL) (sB 0 (iB 1))) gd (sT (iB 1)) (vs.map bp) (gq D id p C n g (x.elim [] (jY none)))=nx (gq D id p C n (λc=>g c+jx S C c vs) (x'.elim [] (jY none))):=by
 intro vs;induction vs with
 |nil=>exact λ{g x} _=>⟨x,af (λg=>nx (gq D id p C n g (x.elim [] (jY none)))) (funext λc=>(uL (g c)).symm)⟩
 |cons q vs ih=>
  intro g x h;obtain⟨x',e⟩:=ih (g:=λc=>g c+ud S C q c) (x:=some (bp q,lT C q.1)) λq m=>h q (.tail _ m);exact⟨x',ii (σ₁:=gq D id p C n g (x.elim [("voter",.pv (bp q))] λx=>jY none (bp q,x.2))) (by cases x<;>rfl') (Wu H (h q (.head _))) (e.trans (af (λg=>nx (gq D id p C n g (x'.elim [] (jY none)))) (funext λc=>mO ..)))⟩
noncomputable def iz(D:Nat)(C:List Nat)(g:Nat->Int)(c:Nat):Int:=if c∈C then-1*D else g c
theorem aav{i:Nat}:iz D l (gA g i (-1*D))=iz D (i::l) g:=by
 funext c;unfold iz gA;by_cases m:c∈l
 ·rw[iP m,iP (.tail _ m)]
 ·rw[iN m,ite_congr (propext (jN.trans (or_iff_left m))).symm (λ_=>rfl) λ_=>rfl]
def vh(x:Option (PV×Nat))(y:Option PV):ar:=x.elim (y.elim [] λy=>[("cand",.pv y)]) (jY y)
theorem H_(H:fX O D){x:Option (PV×Nat)}:∀{l:List Nat} {g:Nat->Int} {y:Option PV},(∀i∈l,i<n)->∃y',dZ (aS (aw O 999999 gd qL) (sB 0 (iB 2))) gd (sT (iB 2)) (aC l) (gq D id p C n g (vh x y))=nx (gq D id p C n (iz D l g) (vh x y')):=by
 intro l;induction l with
 |nil=>exact λ{g y} _=>⟨y,af (λg=>nx (gq D id p C n g (vh x y))) (funext λc=>(iN eX).symm)⟩
 |cons i l ih=>
  intro g y hi;obtain⟨y',e⟩:=ih (g:=gA g i (-1*D)) (y:=some (.int i)) λx m=>hi x (.tail _ m);rw[aav] at e;refine⟨y',ii (σ₁:=gq D id p C n g (vh x (some (.int i)))) (by cases x<;>cases y<;>rfl') (aF (st:=aJ (sB 0 (iB 2)) 0) ((show _=(bX (cI O 999998 gd) (gq D id p C n g (vh x (some (.int i)))) (sE (aJ (sB 0 (iB 2)) 0))).bind λq=>(gu q.2 "marginal").bind λl=>(cI O 999998 gd (bA q.2) (bR 1 (sT (aJ (sB 0 (iB 2)) 0)))).bind λk=>(jU l k q.1).bind λl'=>eh (putN gd "marginal" (.own l') q.2) by rfl').trans (aG (vW ((show _=O.fn "Fraction" [.int (-1)] [] by cases x<;>rfl').trans H.one)) (aG (a:=dP n λc=>fq D (g c)) ⋯ (aG (a:=.int i) (by cases x<;>rfl') (aG ((H8 (hi i (.head _))).trans (af some Qy)) (show _=nx (gq D id p C n (gA g i (-1*D)) (vh x (some (.int i)))) by cases x<;>rfl')))))) rfl) e⟩
theorem aap(H:iZ O id S D){ns:PV}{vs:List (List Nat×Nat)}(ha:O.attr bx "num_cand" (a6 n ns vs)=some (.int n))(hn:n<=100)(hv:∀q∈vs,A8 C n q)(hi:∀i∈C,i<n):
  bm O NN Bi [fV id,a6 n ns vs,.list (aC C)] []=some (.list (dP n λc=>fq D (iz D C (jx S C · vs) c))):=by
 obtain⟨x,e1⟩:=acI (p:=a6 n ns vs) (g:=λ_=>0) (x:=none) H hv;obtain⟨y,e2⟩:=H_ (id:=id) (p:=a6 n ns vs) (C:=C) (g:=λc=>0+jx S C c vs) (x:=x) (y:=none) H.tofX hi;refine(⋯:_=cq (a9 O NN gd qL [("marginal_scorefct",.pv (fV id)),("profile",.pv (a6 n ns vs)),("committee",.pv (.list (aC C)))] [iB 0,iB 1,iB 2,iB 3])).trans (dC (bg (n:=999999) (K:=bH gd "marginal" true) (p:=.list (dP n λ_=>fq D 0)) ⋯ ?_ (show _=nx (gq D id (a6 n ns vs) C n (λ_=>0) []) by rfl')) (dC (bg (n:=999999) (K:=fY (aw O 999999 gd qL) gd (sT (iB 1)) (sB 0 (iB 1))) (p:=a6 n ns vs) ⋯ ⋯ (Ma ⋯ e1)) (dC (bg (n:=999999) (K:=fY (aw O 999999 gd qL) gd (sT (iB 2)) (sB 0 (iB 2))) (p:=.list (aC C)) ⋯ (by cases x<;>rfl') (sq ((af (dZ (aS (aw O 999999 gd qL) (sB 0 (iB 2))) gd (sT (iB 2)) (aC C)) (show _=gq D id (a6 n ns vs) C n (λc=>0+jx S C c vs) (vh x none) by cases x<;>rfl')).trans e2))) ?_)))
 ·refine(show _=(((O.fn "Fraction" [.int 0] []).bind λv=>some [v]).bind (pq .list)).bind λa=>(O.attr bx "num_cand" (a6 n ns vs)).bind λb=>fW O .Mult a b by rfl').trans (aG (a:=.list [fq D (0*D)]) (aG (aG H.one rfl) rfl) (aG ha ((GI hn).trans ?_)));rw[yI]
 ·rw[show(λc=>fq D (iz D C (jx S C · vs) c))=λc=>fq D (iz D C (λc=>0+jx S C c vs) c) from af (λg c=>fq D (iz D C g c)) (funext λc=>(FY _).symm)];cases x<;>cases y<;>rfl'
end
def vQ:aN:=A'.scope.names
def wh(i:Nat):aH:=aJ A'.body i
noncomputable def r0(l:List PV)(s:PV)(v:Option PV):ar:=("values",.pv (.list l))::("result",.pv s)::v.elim [] λv=>[("value",.pv v)]
section
variable{L:List PV}{s:Int}
def iA(D:Nat)(l:List Int):List PV:=l.map (fq D)
theorem Q2{v:Option PV}{a:Int}{p q:PV}(h:O.bin .Add (fq D a) p=some q):a9 O 999999 vQ [] (r0 L p (some (fq D a))) (sB 0 (wh 1))=nx (r0 L q (some (fq D a))):=aF (bg (n:=999998) (K:=bH vQ "result" false) ⋯ ((⋯:_=O.bin .Add (fq D a) p).trans h) (⋯:_=nx (r0 L q (some (fq D a))))) rfl
theorem R_(H:fX O D):∀{l:List Int} {s:Int} {v:Option PV},∃v',dZ (aS (aw O 999999 vQ []) (sB 0 (wh 1))) vQ (sT (wh 1)) (iA D l) (r0 L (fq D s) v)=nx (r0 L (fq D (s+l.sum)) v'):=by
 intro l;induction l with
 |nil=>exact λ{s v}=>⟨v,af (λs=>nx (r0 L (fq D s) v)) (uL s).symm⟩
 |cons a l ih=>
  intro s v;obtain⟨v',e⟩:=ih (s:=a+s) (v:=some (fq D a));rw[uY a,mO] at e;exact⟨v',ii (σ₁:=r0 L (fq D s) (some (fq D a))) (by cases v<;>rfl') (Q2 (v:=v) (uY s a▸H.add)) e⟩
theorem acB{a:Int}{l:List Int}(H:fX O D):bm O NN A' [.list (iA D (a::l))] []=some (fq D (a::l).sum):=by
 obtain⟨v,e⟩:=R_ (L:=iA D (a::l)) (l:=l) (s:=a) (v:=some (fq D a)) H;exact(⋯:_=cq (a9 O NN vQ [] (r0 (iA D (a::l)) (.int 0) none) [wh 1,wh 2])).trans (dC (bg (n:=999999) (K:=fY (aw O 999999 vQ []) vQ (sT (wh 1)) (sB 0 (wh 1))) ⋯ (⋯:_=some (PV.list (iA D (a::l)))) (sq (ii (σ₁:=r0 (iA D (a::l)) (.int 0) (some (fq D a))) ⋯ (Q2 (v:=none) H.WD) e))) (by cases v<;>rfl'))
theorem rA{β:Type}(K:List PV->Option β):over (.d8 0 n) K=K (aC (ax n)):=by
 show K ((ax ((n:Int) -0).toNat).map λk:Nat=>PV.int (0+k))=_;rw[Kj];exact af K (pT λk _=>af PV.int (FY _))
theorem zP{X:ar->aH->aZ}{b:List aH}{nm:aN}{t:Expr}{σ σ':ar}(h:dZ (aS X b) nm t (aC (ax n)) σ=nx σ'):fY X nm t b (.d8 0 n,σ)=nx σ':=(rA _).trans (aG (K:=lu t (.d8 0 n)) h rfl)
theorem nE(h:n<=aA):gh 0 n=some (.d8 0 n):=iP ⟨by decide,aQ h (by decide),(Kj _).symm▸pJ h⟩
theorem aaB{β:Type}{g:β->Int}(H:fX O D):∀{l:List β} {a:Int},ve (xm O) (fq D a) (l.map λc=>fq D (g c))=some (fq D (rE g a l)):=by
 intro l;induction l with
 |nil=>exact rfl
 |cons c l ih=>
  intro a;refine aG H.gt ?_;show(if decide (a<g c)=true then _ else _)=some (fq D (rE g (max a (g c)) l));by_cases q:a<g c
  ·rw[iP (dT q),Tx (mH q)];exact ih
  ·rw[iN (ne_true_of_eq_false (dF q)),Tz (jA q)];exact ih
def top(n:Nat)(g:Nat->Int):Int:=rE g (g 0) (ax n)
theorem NI{g:Nat->Int}(H:fX O D)(h:0<n):uC O (dP n λc=>fq D (g c))=some (fq D (top n g)):=by
 obtain⟨m,rfl⟩:=uX (fO h);unfold top dP;rw[yA];exact(aaB H).trans (af (λa=>some (fq D (rE g a ((ax m).map jp)))) (Int.max_self _).symm)
theorem Sf{g:Nat->Int}(h:0<n):(∃c,c<n/\g c=top n g)/\∀c,c<n->g c<=top n g:=
 ⟨GQ.elim (λe=>⟨0,h,e.symm⟩) λ⟨c,m,e⟩=>⟨c,eK m,e⟩,λc m=>rI.2 c (dJ m)⟩
end
section
def kY:aN:=zx.scope.names
def m7(i:Nat):aH:=aJ zx.body i
def pY(i:Nat):aH:=aJ (sB 0 (m7 3)) i
noncomputable def Be:List Str:=["next_cand","tied_cands","delta_score"]
def jb(id:Str)(p:PV)(k:Nat)(A:AV)(c:Nat)(r:ar):ar:=("scorefct_id",.pv (.str id))::("profile",.pv p)::("committeesize",.pv (.int k))::("committee",A)::("marginal_scorefct",.pv (fV id))::("detailed_info",.dl Be c)::r
noncomputable def j8(i:PV)(a b c:Option PV):ar:=("_",.pv i)::a.elim [] λa=>("additional_score_cand",.pv a)::b.elim [] λb=>("tied_cands",.pv b)::c.elim [] λc=>[("next_cand",.pv c)]
abbrev HL:Type:=Option (PV×PV×PV×PV)
noncomputable def Bq:List Str:=["committee"]
def BM(n:Nat)(g:Nat->Int):List Nat:=(ax n).filter λc=>decide (g c=top n g)
abbrev vq(D n:Nat)(g:Nat->Int):List PV:=dP n λc=>fq D (g c)
variable{k c:Nat}{p i:PV}{C:List Nat}{g:Nat->Int}{r:HL}
theorem CQ{t:Nat}:aC C++[.int t]=aC (C++[t]):=(mP (l₁:=C) (l₂:=[t])).symm
theorem I2{q:PV}{l:List PV}:bP (.list (q::l)) (.int 0)=some q:=aG (K:=λj=>(q::l)[j]?) (Jc (i:=0) (eE _)) rfl
theorem Vq(hn:0<n):cf [aC C] [] (.list (vq D n g))=false:=by
 have s:∀l:List Nat,iw [aC C] [] (l.map λc=>fq D (g c))=false:=λl=>by
  induction l with
  |nil=>rfl
  |cons=>assumption
 obtain⟨m,rfl⟩:=uX (fO hn);show(([aC C].any λm'=>nB m' (vq D (m+1) g))||iw [aC C] [] (vq D (m+1) g))=false;unfold vq dP;rw[s,yA];cases C<;>rfl
theorem aee{x:Nat}(H:fX O D)(hx:x<n):((((bP (.list (vq D n g)) (.int x)).bind λa=>(uC O (vq D n g)).bind λm=>fe O .Eq a m).bind λb=>if b=false then some false else some true).bind λok=>if ok=true then some [PV.int x] else some [])=some (if decide (g x=top n g)=true then[PV.int x] else[]):=by
 rw[show((bP (.list (vq D n g)) (.int x)).bind λa=>(uC O (vq D n g)).bind λm=>fe O .Eq a m)=some (decide (g x=top n g)) from aG (C2 (h:=λc=>fq D (g c)) hx) (aG (NI H (aQ (cu _) hx)) H.eq)];cases decide (g x=top n g)<;>rfl
theorem e_(hn:0<n):dX (.list (vq D n g)) (jb id p k (.own (aC C)) c (j8 i (r.map (·.2.1)) (r.map (·.2.2.1)) (r.map (·.2.2.2))))=jb id p k (.own (aC C)) c (j8 i (r.map (·.2.1)) (r.map (·.2.2.1)) (r.map (·.2.2.2))):=by
 refine yS (b:=jb id p k (if cf [aC C] [] (.list (vq D n g))=true then .pv (.list (aC C)) else .own (aC C)) c (j8 i (r.map (·.2.1)) (r.map (·.2.2.1)) (r.map (·.2.2.2)))) (by cases r<;>rfl') ?_;rw[Vq hn];rfl
theorem afp(H:fX O D)(hz:n<=aA)(hn:0<n)(hc:c+3<aA)(hC:C.length<aA)(h:O.fn "marginal_thiele_scores_add" [fV id,p,.list (aC C)] []=some (.list (vq D n g))):∃t,t<n/\g t=top n g/\aS (aw O 999999 kY Bq) (sB 0 (m7 3)) (jb id p k (.own (aC C)) c (j8 i (r.map (·.2.1)) (r.map (·.2.2.1)) (r.map (·.2.2.2))))=nx (jb id p k (.own (aC (C++[t]))) (c+3) (j8 i (some (.list (vq D n g))) (some (.list (aC (BM n g)))) (some (.int t)))):=by
 obtain⟨⟨t0,ht0,e0⟩,_⟩:=Sf (g:=g) hn;have mt {t:Nat} (m:t∈BM n g):t<n/\g t=top n g:=(eL m).imp eK cC;have s1:c8 O 999997 (sE (pY 1)) [("additional_score_cand",.list (vq D n g))] (aC (ax n))=some (.list (aC (BM n g))):=v6 (ok:=λc=>decide (g c=top n g)) (v:=λc:Nat=>.int c) (w:=λc:Nat=>.int c) ⋯ (λx m=>(show _=(((bP (.list (vq D n g)) (.int x)).bind λa=>(uC O (vq D n g)).bind λm=>fe O .Eq a m).bind λb=>if b=false then some false else some true).bind λok=>if ok=true then some [PV.int x] else some [] by rfl').trans (aee H (eK m))) (aq (aD cF) hz);have mz:t0∈BM n g:=o5 ⟨dJ ht0,dT e0⟩;generalize BM n g=T at*;cases T with
 |nil=>exact absurd mz eX
 |cons t T=>
 refine⟨t,(mt (.head _)).1,(mt (.head _)).2,?_⟩;refine aF (st:=pY 0) (σ₁:=jb id p k (.own (aC C)) c (j8 i (some (.list (vq D n g))) (r.map (·.2.2.1)) (r.map (·.2.2.2)))) (uh (n:=999998) (K:=bH kY "additional_score_cand" false) ⋯ (by cases r<;>rfl') ((show _=O.fn "marginal_thiele_scores_add" [fV id,p,.list (aC C)] [] by cases r<;>rfl').trans h) (by cases r<;>rfl') ?_) ?_
 ·refine(af (λσ=>bH kY "additional_score_cand" false (.list (vq D n g),σ)) (e_ hn)).trans ?_;cases r<;>rfl'
 refine aF (st:=pY 1) (σ₁:=jb id p k (.own (aC C)) c (j8 i (some (.list (vq D n g))) (some (.list (aC (t::T)))) (r.map (·.2.2.2)))) (bg (n:=999998) (K:=bH kY "tied_cands" false) ⋯ ((show _=(gh 0 ((vq D n g).length:Nat)).bind λv=>over v (c8 O 999997 (sE (pY 1)) [("additional_score_cand",.list (vq D n g))]) by cases r<;>rfl').trans (aG ((af (λm:Nat=>gh 0 m) tJ).trans (nE hz)) ((rA _).trans s1))) (by cases r<;>rfl')) (aF (st:=pY 2) (σ₁:=jb id p k (.own (aC C)) c (j8 i (some (.list (vq D n g))) (some (.list (aC (t::T)))) (some (.int t)))) (bg (n:=999998) (K:=bH kY "next_cand" false) (p:=.int t) ⋯ ((show _=bP (.list (aC (t::T))) (.int 0) by cases r<;>rfl').trans I2) (by cases r<;>rfl')) ?_);clear s1;generalize aC (t::T)=w;refine aF (st:=pY 3) (σ₁:=jb id p k (.own (aC (C++[t]))) c (j8 i (some (.list (vq D n g))) (some (.list w)) (some (.int t)))) ((⋯:_=if(aC C).length<aA then nx (jb id p k (.own (aC C++[.int t])) c (j8 i (some (.list (vq D n g))) (some (.list w)) (some (.int t)))) else none).trans ((iP (aQ (aD (bi _)) hC)).trans (af (λl=>nx (jb id p k (.own l) c (j8 i (some (.list (vq D n g))) (some (.list w)) (some (.int t))))) CQ))) ?_;generalize aC (C++[t])=W;exact aF (st:=pY 4) ((⋯:_=if Be.contains "next_cand"=true/\c<aA then nx (jb id p k (.own W) (c+1) (j8 i (some (.list (vq D n g))) (some (.list w)) (some (.int t)))) else none).trans (iP ⟨by decide,aQ (cW c 3) hc⟩)) (aF (st:=pY 5) ((⋯:_=if Be.contains "tied_cands"=true/\c+1<aA then nx (jb id p k (.own W) (c+2) (j8 i (some (.list (vq D n g))) (some (.list w)) (some (.int t)))) else none).trans (iP ⟨by decide,aQ (i3 (by decide) c) hc⟩)) (aF (st:=pY 6) ((show _=if Be.contains "delta_score"=true/\c+2<aA then(bX (cI O 999998 kY) (jb id p k (.own W) (c+2) (j8 i (some (.list (vq D n g))) (some (.list w)) (some (.int t)))) (bR 0 (sE (pY 6)))).bind λq=>eh (putN kY "detailed_info" (.dl Be (c+3)) q.2) else none by rfl').trans ((iP ⟨by decide,aQ (i3 (by decide) c) hc⟩).trans (aG (vW ((⋯:_=uC O (vq D n g)).trans (NI H hn))) ⋯))) rfl))
structure o7(n:Nat)(C:List Nat):Prop where
 nd:C.Nodup
 lt:∀i∈C,i<n
theorem o7.snoc{t:Nat}(h:o7 n C)(ht:t<n)(hC:t∉C):o7 n (C++[t]):=
 ⟨wU.mpr ⟨h.nd,Tt _ _,λa ma b mb e=>hC (by rw[cY mb] at e;exact e▸ma)⟩,λi m=>(lN m).elim (h.lt i) λm=>cY m▸ht⟩
theorem o7.len(h:o7 n C):C.length<=n:=aq (h.nd.length_le_of_subset λx m=>dJ (h.lt x m)) (aD cF)
structure Jy(O:aK)(D n:Nat)(id:Str)(p:PV)(m:List Nat->Nat->Int):Prop where
 fn:∀{C:List Nat},o7 n C->O.fn "marginal_thiele_scores_add" [fV id,p,.list (aC C)] []=some (.list (vq D n (iz D C (m C))))
 pos:∀{C:List Nat} {c:Nat},o7 n C->0<=m C c
variable{m:List Nat->Nat->Int}
theorem ϖ(hD:0<D)(hg:∀c,0<=g c)(hC:o7 n C)(hl:C.length<n){t:Nat}(e:iz D C g t=top n (iz D C g)):t∉C:=λm=>by
 obtain⟨c,hc,nc⟩:∃c,c<n/\c∉C:=y8 λh=>gN (aq (aD cF.symm) (u0.length_le_of_subset λc m=>y8 λq=>h ⟨c,eK m,q⟩)) hl;have h:=(Sf (g:=iz D C g) (aQ (cu _) hl)).2 c hc;rw[<-e,show iz D C g t= -1*D from iP m,show iz D C g c=g c from iN nc] at h;exact im (ic (hg c) h) (agE (by decide) (zf.mpr hD))
def GJ(r:HL):ar:=r.elim [] λr=>j8 r.1 (some r.2.1) (some r.2.2.1) (some r.2.2.2)
theorem aez(H:fX O D)(hD:0<D)(hz:n<1000)(M:Jy O D n id p m):∀{l C:List Nat} {c:Nat} {r:HL},o7 n C->C.length+l.length<=n->c+3*l.length<aA->∃C' c' r',o7 n C'/\C'.length=C.length+l.length/\dZ (aS (aw O 999999 kY Bq) (sB 0 (m7 3))) kY (sT (m7 3)) (aC l) (jb id p k (.own (aC C)) c (GJ r))=nx (jb id p k (.own (aC C')) c' (GJ r')):=by
 intro l;induction l with
 |nil=>exact λ{C c r} hC _ _=>⟨C,c,r,hC,rfl,rfl⟩
 |cons i l ih=>
  intro C c r hC hl hc;have LP:C.length<n:=ba (qU (eE _)) hl;have ju:c+3+3*l.length<aA:=aQ (aD (by rw[fC,gj 3];rfl)) hc;obtain⟨t,ht,e,q⟩:=afp (k:=k) (c:=c) (r:=r) (i:=.int i) H (aq (cy hz) (by decide)) (aQ (cu _) LP) (aQ (cW _ _) ju) (eN LP (eN hz (by decide))) (M.fn hC);have z:(C++[t]).length+l.length=C.length+(l.length+1):=by rw[da,fC,gj [t].length];rfl
  obtain⟨C',c',r',h1,h2,h3⟩:=ih (C:=C++[t]) (c:=c+3) (r:=some (.int i,_,_,.int t)) (hC.snoc ht (ϖ hD (λ_=>M.pos hC) hC LP e)) (aq (aD z) hl) ju;exact⟨C',c',r',h1,h2.trans z,ii (by cases r<;>rfl') q h3⟩
theorem acj(H:fX O D)(hD:0<D)(hz:n<1000)(M:Jy O D n id p m)(hk:k<=n)(hg:O.fn "get_marginal_scorefct" [.str id,.int k] []=some (fV id)):
  ∃C,o7 n C/\C.length=k/\∀v,O.fn "sorted_committees" [.list [.list (aC C)]] []=some v->bm O NN zx [.str id,p,.int k] []=some (.tup [v,.any]):=by
 refine bE λgG hG=>?_;obtain⟨C,c,r,h1,h2,h3⟩:=aez (k:=k) (l:=ax k) (C:=[]) (c:=0) (r:=none) H hD hz M ⟨.nil,λ_ m=>absurd m eX⟩ (aq (aD (by rw[cF];exact f5 k)) hk) (by rw[cF];exact aQ (aq (aD (f5 _)) (Kb 3 (aq hk (cy hz)))) (by decide));refine hG (⟨C,h1,h2.trans ((f5 _).trans cF),λv hs=>?_⟩);exact(⋯:_=cq (a9 O NN kY Bq [("scorefct_id",.pv (.str id)),("profile",.pv p),("committeesize",.pv (.int k)),("committee",.own [])] [m7 1,m7 2,m7 3,m7 4])).trans (dC (bg (n:=999999) (K:=bH kY "marginal_scorefct" false) ⋯ ((⋯:_=O.fn "get_marginal_scorefct" [.str id,.int k] []).trans hg) rfl) ((⋯:_=cq (a9 O NN kY Bq (jb id p k (.own (aC [])) 0 (GJ none)) [m7 3,m7 4])).trans (dC (bg (n:=999999) (K:=fY (aw O 999999 kY Bq) kY (sT (m7 3)) (sB 0 (m7 3))) ⋯ ((⋯:_=gh 0 k).trans (nE (aq hk (aq (cy hz) (by decide))))) (zP h3)) (af cq (rY (vY (n:=999999) ⋯ ((show _=((O.fn "sorted_committees" [.list [.list (aC C)]] []).bind λv=>some [v,.any]).bind (pq .tup) by cases r<;>rfl').trans (aG (aG hs rfl) rfl))))))))
end
section
variable{l:List α}{i j:Nat}{nm:aN}
theorem Qo{x:Int}{m:Nat}(e:wz l.length x=m):jC l (some x) none=l.drop m:=e▸y9 (aD (FJ ..))
theorem aey(h:i<=l.length):jC l (some (i:Int)) none=l.drop i:=Qo (clipAt_in (fP i) (pJ h))
theorem aeE(h1:1<=j)(h:j<=l.length):jC l (some (-(j:Int))) none=l.drop (l.length-j):=Qo (clipAt_neg _ _ h1)
theorem Zl(h:i<=n):(dP n f).drop i=(gW i (n-i)).map f:=by
 unfold dP;rw[<-List.map_drop,yF,List.drop_range',f5,To]
theorem XU{l:List Int}(H:fX O D)(hz:l.length<64):∃out:List Int,eD O nm (iA D l) []=some (.list (iA D out))/\out.Perm l/\out.Pairwise (· <=·):=by
 obtain⟨out,e,p,s⟩:=AO (O:=O) (nm:=nm) (v:=fq D) (le:=λa b=>decide (a<b)) (l:=l) (k:=4) rfl (λ_=>rfl) (λa _ b _=>H.lt) (λa _ b _ x=>dF (TA (cC x))) (λa _ b _ c _ x y=>dF (im (ic (jA (iM x)) (jA (iM y))))) hz;exact⟨out,e,p,s.imp λq=>jA (iM q)⟩
theorem XM{l:List PV}{p:PV}:bP (.list (l++[p])) (.int (-1))=some p:=aG (a:=l.length) (by
 rw[da];refine(⋯:_=if(decide ((0:Int)<= -1+((l.length+1:Nat):Int))&&decide (-1+((l.length+1:Nat):Int)<((l.length+1:Nat):Int)))=true then some (-1+((l.length+1:Nat):Int)).toNat else none).trans ?_;rw[show-1+((l.length+1:Nat):Int)=(l.length:Nat) by lia,iP (by rw[dT (fP _),dT (jc (i5 _))];rfl)];rfl) agJ
end
def lst(C:List Nat):PV:=.list (aC C)
def EE(O:aK)(nm:aN)(V:List PV)(i j:Int)(s:Option PV):Option PV:=((((eD O nm (jC V (some i) none) []).bind λa=>a.ij.map λl=>.list (jC l (some (-j)) none)).bind λv=>some [v]).bind λvs=>O.fn "total" vs []).bind λa=>s.bind λb=>fW O .Add a b
theorem aaG{O:aK}{D n i j:Nat}{nm:aN}{g:Nat->Int}{s:Option PV}{x:Int}(H:fX O D)(hi:i+j<=n)(hj:1<=j)(hn:n<64)(ht:∀{a:Int} {l:List Int},O.fn "total" [.list (iA D (a::l))] []=some (fq D (a::l).sum))(hs:s=some (fq D x)):
  ∃out:List Int,out.Perm ((gW i (n-i)).map g)/\out.Pairwise (· <=·)/\EE O nm (vq D n g) i j s=some (fq D ((out.drop (out.length-j)).sum+x)):=by
 have Go:i<=n:=aq (cW i j) hi;have hl:((gW i (n-i)).map g).length=n-i:=(bi _).trans KQ;obtain⟨out,e,hp,so⟩:=XU (nm:=nm) H (l:=(gW i (n-i)).map g) (aQ (aq (aD hl) (kD ..)) hn);refine⟨out,hp,so,aG (a:=fq D (out.drop (out.length-j)).sum) (aG (a:=[.list (iA D (out.drop (out.length-j)))]) (aG (a:=.list (iA D (out.drop (out.length-j)))) (aG (a:=.list (iA D out)) ?_ ?_) rfl) ?_) (aG hs H.add)⟩
 ·rw[aey (tJ.symm▸Go),Zl Go,<-e];unfold iA;rw[jr];rfl
 ·show some (PV.list (jC (iA D out) (some (-(j:Int))) none))=_;have lo:(iA D out).length=out.length:=bi _;rw[aeE hj (by rw[lo,hp.length_eq,hl];exact agK hi),lo];unfold iA;rw[List.map_drop]
 ·have Lx:(out.drop (out.length-j)).length=j:=by rw[FJ,Ts (by rw[hp.length_eq,hl];exact agK hi)]
  generalize out.drop (out.length-j)=w at*;cases w with
  |nil=>exact absurd Lx (gE hj)
  |cons a l=>exact ht
end
section
variable{O:aK}{f:Nat}{T:List PV}{st best:List (List Nat)}{pc:List Nat}{bs M:Int}{sc:List Nat->Int}
section
def db:aN:=AL.scope.names
def fL(i:Nat):aH:=aJ AL.body i
noncomputable def hJ:List Str:=["best_committees","part_coms"]
def tZ(i:Nat):aH:=aJ (sB 0 (fL 6)) i
def En(i:Nat):aH:=aJ (sB 0 (tZ 1)) i
def j7(i:Nat):aH:=aJ (sB 1 (tZ 1)) i
structure BX where
 id:Str
 n:Nat
 ns:PV
 vs:List (List Nat×Nat)
 k:Nat
 S:PV
 D:Nat
def BX.p(X:BX):PV:=a6 X.n X.ns X.vs
def Rp(X:BX)(B:AV)(s:Int)(T:AV)(r:ar):ar:=("scorefct_id",.pv (.str X.id))::("profile",.pv X.p)::("committeesize",.pv (.int X.k))::("resolute",.pv (.bool false))::("max_num_of_committees",.pv .none)::("marginal_scorefct",.pv (fV X.id))::("best_committees",B)::("init_com",.pv X.S)::("_",.pv .any)::("best_score",.pv (fq X.D s))::("part_coms",T)::r
def dz(X:BX)(B:List PV)(s:Int)(T:List PV)(r:ar):ar:=Rp X (.own B) s (.own T) r
abbrev ES:Type:=Option (PV×Option PV)
noncomputable def gK(pc:PV)(a b c d:Option PV)(y:ES):ar:=("part_com",.pv pc)::a.elim [] λa=>("largest_cand",.pv a)::b.elim [] λb=>("missing",.pv b)::c.elim [] λc=>("marg_util_cand",.pv c)::d.elim [] λd=>("upper_bound",.pv d)::y.elim [] λy=>("cand",.pv y.1)::y.2.elim [] λs=>[("score",.pv s)]
structure R5 where
 a:PV
 b:PV
 c:PV
 d:PV
 y:PV×Option PV
variable{X:BX}{i j m x:Nat}{a b c d:PV}{B:List PV}{u:Int}{r:Option R5}{y:ES}{w:Option PV}
noncomputable def low(pc:List Nat):Nat:=match pc.getLast? with
 |some x=>x+1
 |none=>0
theorem Ap:low (pc++[x])=x+1:=by unfold low;rw[List.getLast?_concat]
theorem Zb:aw O (f+40) db hJ (dz X B bs T (gK (lst pc) (r.map R5.a) (r.map R5.b) (r.map R5.c) (r.map R5.d) (r.map R5.y))) (j7 0)=nx (dz X B bs T (gK (lst pc) (some (.int ((low pc:Nat) -1))) (r.map R5.b) (r.map R5.c) (r.map R5.d) (r.map R5.y))):=by
 rcases agL pc with rfl|⟨q,x,e⟩
 ·cases r<;>rfl'
 ·rw[agM] at e;have ht:some (decide ((0:Int)<((aC pc).length:Nat)))=some true:=af some (dT (jc (by rw[e,<-CQ,da];exact eE _)));have hi:bP (lst pc) (.int (-1))=some (.int ((low pc:Nat) -1)):=by
   unfold lst;rw[e,<-CQ,XM,Ap];exact af (λi=>some (PV.int i)) (Int.add_sub_cancel (x:Int) 1).symm
  clear e;refine cL (n:=f+39) (b:=true) ⋯ ((⋯:_=some (decide ((0:Int)<((aC pc).length:Nat)))).trans ht) (aF (st:=aJ (sB 0 (j7 0)) 0) (bg (n:=f+38) (K:=bH db "largest_cand" false) ⋯ ((⋯:_=bP (lst pc) (.int (-1))).trans hi) ?_) rfl);cases r<;>rfl'
theorem YY{t:Nat}(hz:T.length<aA)(hp:pc.length<aA):aw O (f+30) db hJ (dz X B bs T (gK (lst pc) (some a) (some b) (some c) (some d) (some (.int t,w)))) (aJ (sB 0 (aJ (sB 0 (j7 4)) 0)) 0)=nx (dz X B bs (lst (pc++[t])::T) (gK (lst pc) (some a) (some b) (some c) (some d) (some (.int t,w)))):=
 (show _=if T.length<aA then(bX (cI O (f+29) db) (dz X B bs T (gK (lst pc) (some a) (some b) (some c) (some d) (some (.int t,w)))) (bR 1 (sE (aJ (sB 0 (aJ (sB 0 (j7 4)) 0)) 0)))).bind λq=>(gu q.2 "part_coms").bind λl=>eh (putN db "part_coms" (.own (q.1::l)) q.2) else none by rfl').trans ((iP hz).trans (aG (vW ((⋯:_=if(aC pc).length+1<=aA then some (PV.list (aC pc++[.int t])) else none).trans ((iP (aq (aD (af jp (bi _))) hp)).trans (af (λl=>some (PV.list l)) CQ)))) ⋯))
def zX:aH:=aJ (sB 0 (j7 4)) 0
noncomputable def qo(pc:List Nat)(l:List Nat)(st:List (List Nat)):List (List Nat):=l.foldl (λst t=>(pc++[t])::st) st
theorem afo(hp:pc.length<aA):∀{l:List Nat} {st:List (List Nat)} {y:ES},st.length+l.length<aA->∃y':ES,(y'=none->y=none/\l=[])/\dZ (aS (aw O (f+30) db hJ) (sB 0 zX)) db (sT zX) (aC l) (dz X B bs (st.map lst) (gK (lst pc) (some a) (some b) (some c) (some d) y))=nx (dz X B bs ((qo pc l st).map lst) (gK (lst pc) (some a) (some b) (some c) (some d) y')):=by
 intro l;induction l with
 |nil=>exact λ{st y} _=>⟨y,λe=>⟨e,rfl⟩,rfl⟩
 |cons t l ih=>
  intro st y hz;obtain⟨y',h1,h2⟩:=ih (st:=(pc++[t])::st) (y:=some (.int t,y.bind ou)) (aQ (aD (wD ..)) hz);exact⟨y',(λe=>sN ((h1 e).1)),ii (σ₁:=dz X B bs (st.map lst) (gK (lst pc) (some a) (some b) (some c) (some d) (some (.int t,y.bind ou)))) (by cases y<;>rfl') (aF (YY (aQ (aq (aD (bi _)) (cW ..)) hz) hp) rfl) h2⟩
theorem ae5{β:Type}(K:List PV->Option β):over (.d8 i (i+m:Nat)) K=K (aC (gW i m)):=by
 show K ((ax (((i+m:Nat):Int) -i).toNat).map λk:Nat=>PV.int (i+k))=_;rw[show(((i+m:Nat):Int) -i).toNat=m from af Int.toNat (a₂:=(m:Int)) ((af (λa:Nat=>(a:Int) -i) (gj i m)).trans (Int.add_sub_cancel (m:Int) i)),List.range'_eq_map_range];exact af K (jr (g:=λn:Nat=>PV.int n) (f:=λx=>i+x)).symm
theorem Ws(H:fX O X.D)(hn:O.attr bx "num_cand" X.p=some (.int X.n))(hp:pc.length<aA)(hi:i+m+j=X.n+1)(hz:st.length+(X.n+1)<aA):∃y':ES,(y'=none->y=none/\(¬bs<=u\/m=0))/\
  aw O (f+50) db hJ (dz X B bs (st.map lst) (gK (lst pc) (some (.int ((i:Nat) -1))) (some (.int j)) (some c) (some (fq X.D u)) y)) (j7 4)=nx (dz X B bs ((if bs<=u then qo pc (gW i m) st else st).map lst) (gK (lst pc) (some (.int ((i:Nat) -1))) (some (.int j)) (some c) (some (fq X.D u)) y')):=by
 have run {r:aZ}:=cL (r:=r) (O:=O) (n:=f+49) (nm:=db) (mu:=hJ) (st:=j7 4) (σ:=dz X B bs (st.map lst) (gK (lst pc) (some (.int ((i:Nat) -1))) (some (.int j)) (some c) (some (fq X.D u)) y)) (b:=decide (bs<=u)) ⋯ ((⋯:_=O.cmp .GtE (fq X.D u) (fq X.D bs)).trans H.ge);by_cases q:bs<=u
 ·rw[dT q] at run;rw[iP q];obtain⟨y',h1,h2⟩:=afo (O:=O) (X:=X) (f:=f+18) (B:=B) (bs:=bs) (a:=.int ((i:Nat) -1)) (b:=.int j) (c:=c) (d:=fq X.D u) hp (l:=gW i m) (st:=st) (y:=y) (by rw[KQ];exact aQ (i3 (aq (i7 ..) (TB hi)) _) hz);refine⟨y',λe=>⟨(h1 e).1,.inr (KQ.symm.trans (af yD (h1 e).2))⟩,run (aF (st:=zX) (bg (n:=f+48) (K:=fY (aw O (f+48) db hJ) db (sT zX) (sB 0 zX)) (p:=.d8 i (i+m:Nat)) ⋯ ((show _=(((((O.attr bx "num_cand" X.p).bind λx=>fW O .Sub x (.int j)).bind λx=>fW O .Add x (.int 1)).bind λv=>some [v]).map λvs=>PV.int ((i:Nat) -1+1)::vs).bind λvs=>nY O "range" vs [] by rfl').trans ?_) ((ae5 _).trans (aG (K:=lu _ _) h2 rfl))) rfl)⟩;rw[hn];show gh ((i:Int) -1+1) ((X.n:Int) -j+1)=_;rw[KM,show(X.n:Int) -j+1=(i+m:Nat) by lia];have z:X.n+1<aA:=aQ (i7 ..) hz;exact iP ⟨eN (aQ (aq (cW ..) (TB hi)) z) (by decide),eN (aQ (TB hi) z) (by decide),by lia⟩
 ·rw[dF q] at run;rw[iN q];exact⟨y,λe=>⟨e,.inl q⟩,run ⋯⟩
end
section
variable{n k:Nat}{stack:List (List Nat)}
noncomputable def xd(sc:List Nat->Int)(q:List (List Nat)×Int)(c:List Nat):List (List Nat)×Int:=if sc c=q.2 then(q.1++[c],q.2) else if q.2<sc c then([c],sc c) else q
noncomputable def cj(n:Nat):Nat->Nat->List (List Nat)
 |_,0=>[[]]
 |lo,j+1=>(gW lo (n-j-lo)).flatMap λc=>(cj n (c+1) j).map (c:: ·)
def dR(n k:Nat)(pc:List Nat):List (List Nat):=(cj n (low pc) (k-pc.length)).map (pc++ ·)
theorem NH(h:pc.length=k):dR n k pc=[pc]:=by
 unfold dR;rw[h,y4];show[pc++[]]=[pc];rw[gO]
def qQ(n k:Nat)(pc:List Nat):List Nat:=gW (low pc) (n+1- (k-pc.length) -low pc)
theorem abw(h:pc.length<k):dR n k pc=(qQ n k pc).flatMap λc=>dR n k (pc++[c]):=by
 obtain⟨j,hj⟩:=uX (fO (q9 h));unfold dR qQ;rw[hj,Tg];show((gW (low pc) (n-j-low pc)).flatMap λc=>(cj n (c+1) j).map (c:: ·)).map (pc++ ·)=_;rw[List.map_flatMap];refine af (λh=>List.flatMap h _) (funext λc=>?_);rw[Ap,da,show k- (pc.length+[c].length)=j from agN hj,jr];exact pT λs _=>(kt pc [c] s).symm
theorem M1{l:List Nat}:∀{stack:List (List Nat)},qo pc l stack=(l.map (pc++[·])).reverse++stack:=by
 induction l with
 |nil=>exact rfl
 |cons t l ih=>
  intro stack;show qo pc l ((pc++[t])::stack)=_;rw[ih,oz,List.reverse_cons,kt];rfl
theorem adg(h:pc.length<k):((qo pc (qQ n k pc) stack).flatMap (dR n k)).Perm ((pc::stack).flatMap (dR n k)):=by
 rw[M1,List.flatMap_append,KP,abw h];refine List.Perm.append ?_ (.refl _);have:=List.Perm.flatMap_right (dR n k) (FZ ((qQ n k pc).map (pc++[·])));rwa[List.flatMap_map] at this
structure AA(n:Nat)(pc:List Nat):Prop where
 up:pc.Pairwise (· < ·)
 lt:∀i∈pc,i<n
structure rx(n k:Nat)(pc:List Nat):Prop where
 oW:AA n pc
 len:pc.length<=k
 room:low pc+(k-pc.length)<=n
theorem IC{pc:List Nat}(h:pc.Pairwise (· < ·)):∀i∈pc,i<low pc:=λi m=>by
 rcases agL pc with rfl|⟨pc',x,e⟩
 ·exact absurd m eX
 ·rw[agM] at e;subst e;rw[Ap];rcases lN m with m|m
  ·exact KB ((Gf.mp h).2.2 i m x (.head _))
  ·rw[cY m];exact i5 x
theorem GK{α:Type}{a b c:List α}:(b++(a++c)).Perm (a++(b++c)):=((kt b a c).symm▸ .refl _:(b++(a++c)).Perm (b++a++c)).trans ((List.perm_append_comm.append_right c).trans (kt a b c▸ .refl _))
theorem rx.bR(R:rx n k pc)(h:pc.length<k){c:Nat}(m:c∈qQ n k pc):rx n k (pc++[c]):=by
 have hc:=TW.mp m;have hr:=R.room;obtain⟨j,hj⟩:=uX (fO (q9 h));rw[hj] at hc hr;have hn:c<n-j:=ba hc.2 (aD (by rw[Tg,iK (KR (lB hr))]));refine⟨⟨Gf.mpr ⟨R.oW.up,Tt _ _,λa ma b mb=>?_⟩,λi mi=>?_⟩,by rw[da];exact h,?_⟩
 ·rw[cY mb];exact ba (IC R.oW.up a ma) hc.1
 ·exact(lN mi).elim (R.oW.lt i) λmi=>cY mi▸ba hn (kD ..)
 ·rw[Ap,da,show k- (pc.length+[c].length)=j from agN hj];exact TC (aq (i7 ..) (lB hr)) hn
structure BB(n k:Nat)(sc:List Nat->Int)(M:Int)(stack best:List (List Nat))(bs:Int):Prop where
 room:∀pc∈stack,rx n k pc
 A0:bs<=M
 val:∀c∈best,sc c=bs
 rest:∃rest,(best++(stack.flatMap (dR n k)++rest)).Perm (dR n k [])/\∀c∈rest,sc c<M
theorem BB.expand(B:BB n k sc M (pc::stack) best bs)(h:pc.length<k):BB n k sc M (qo pc (qQ n k pc) stack) best bs:=by
 obtain⟨rest,p,hr⟩:=B.rest;refine⟨λx m=>?_,B.A0,B.val,rest,(((adg h).append_right rest).append_left best).trans p,hr⟩;rw[M1] at m;refine(lN m).elim (λm=>?_) λm=>B.room x (.tail _ m);obtain⟨c,mc,rfl⟩:=rg.mp (TL.mp m);exact(B.room pc (.head _)).bR h mc
theorem BB.drop(B:BB n k sc M (pc::stack) best bs)(h:∀c∈dR n k pc,sc c<M):BB n k sc M stack best bs:=by
 obtain⟨rest,p,hr⟩:=B.rest;rw[KP,kt] at p;exact⟨λx m=>B.room x (.tail _ m),B.A0,B.val,dR n k pc++rest,(GK.append_left best).trans p,λc m=>(lN m).elim (h c) (hr c)⟩
theorem BB.full(B:BB n k sc M (pc::stack) best bs)(h:pc.length=k)(hM:∀c∈dR n k [],sc c<=M):BB n k sc M stack (xd sc (best,bs) pc).1 (xd sc (best,bs) pc).2:=by
 have room:∀x∈stack,rx n k x:=λx m=>B.room x (.tail _ m);obtain⟨rest,p,hr⟩:=B.rest;rw[KP,NH h,kt] at p;unfold xd;by_cases e:sc pc=bs
 ·rw[iP e];exact⟨room,B.A0,λc m=>(lN m).elim (B.val c) λm=>cY m▸e,rest,(kt ..).symm▸p,hr⟩
 rw[iN e];by_cases l:bs<sc pc
 ·rw[iP l];have m:=hM pc (p.mem_iff.mp (fE _ (.head _)));exact⟨room,m,λc m=>cY m▸rfl,best++rest,(GK.append_left [pc]).trans (GK.trans p),λc mc=>(lN mc).elim (λmc=>B.val c mc▸lC l m) (hr c)⟩
 ·rw[iN l];exact B.drop λc m=>by
   rw[NH h] at m;rw[cY m];exact lC (TX.mpr ⟨jA l,e⟩) B.A0
theorem WY(hk:k<=n)(hb:bs<=M):BB n k sc M [[]] [] bs:=
 ⟨λpc m=>cY m▸⟨⟨.nil,λ_ m=>absurd m eX⟩,cu _,aq (aD (f5 _)) hk⟩,hb,λ_ m=>absurd m eX,[],by rw[KS,gO,List.flatMap_singleton],λ_ m=>absurd m eX⟩
theorem US(B:BB n k sc (mx sc (dR n k [])) [] best bs)(h0:∀c∈dR n k [],0<=sc c)(hx:dR n k []≠[]):best.Perm (dQ sc (dR n k [])):=by
 obtain⟨rest,p,hr⟩:=B.rest;obtain⟨c,m,e⟩:=HG h0 hx;have hb:bs=mx sc (dR n k []):=(lN (p.mem_iff.mpr m)).elim (λm=>(B.val c m).symm.trans e) λm=>absurd (hr c m) (e▸Cj _);have p:(best++rest).Perm (dR n k []):=p;have q:=p.filter λc=>decide (sc c=mx sc (dR n k []));rw[pU,Gd.mpr λc m=>dT ((B.val c m).trans hb),Ge.mpr λc m e=>Int.ne_of_lt (hr c m) (cC e),gO] at q;exact q
def turns(n:Nat):List (List Nat)->Nat
 |[]=>0
 |pc::r=>2^(n-low pc)+turns n r
theorem Yt:∀{m lo:Nat} {stack:List (List Nat)},lo+m<=n->turns n (qo pc (gW lo m) stack)+2^(n-lo-m)<=2^(n-lo)+turns n stack:=by
 intro m;induction m with
 |zero=>exact λ{lo stack} _=>aD (gj ..)
 |succ m ih=>
  intro lo stack h;have h:lo+1+m<=n:=aq (aD (pP ..)) h;have:=ih (lo:=lo+1) (stack:=(pc++[lo])::stack) h;rw[show turns n ((pc++[lo])::stack)=2^(n- (lo+1))+turns n stack from af (λl=>2^(n-l)+turns n stack) Ap,<-fC,<-Nat.mul_two,<-Nat.pow_succ,FR,pP,show(n- (lo+1)).succ=n-lo from agx (q9 (ba (ba (i5 lo) (cW ..)) h))] at this;rw[FR];exact this
theorem UV{stack:List (List Nat)}:stack.length<=turns n stack:=by
 induction stack with
 |nil=>exact bf _
 |cons pc r ih=>exact aq (aD (gj ..)) (BV (F0 (by decide)) ih)
end
section
structure CN(O:aK)(X:BX)(sc:List Nat->Int)(g:List Nat->Nat->Int):Prop extends fX O X.D where
 th:∀{C:List Nat},AA X.n C->C.length<=X.k->O.fn "thiele_score" [.str X.id,X.p,lst C] []=some (fq X.D (sc C))
 mt:∀{C:List Nat},AA X.n C->C.length<X.k->O.fn "marginal_thiele_scores_add" [fV X.id,X.p,lst C] []=some (.list (vq X.D X.n (g C)))
 ub:∀{C:List Nat} {out:List Int},rx X.n X.k C->C.length<X.k->out.Perm ((gW (low C) (X.n-low C)).map (g C))->out.Pairwise (· <=·)->∀c∈dR X.n X.k C,sc c<=(out.drop (out.length- (X.k-C.length))).sum+sc C
 Mo:∀{a:Int} {l:List Int},O.fn "total" [.list (iA X.D (a::l))] []=some (fq X.D (a::l).sum)
 nc:O.attr bx "num_cand" X.p=some (.int X.n)
 EL:X.n<64
 kn:X.k<=X.n
variable{X:BX}{B:List PV}{r:Option R5}{y:ES}{g:List Nat->Nat->Int}
theorem Rz{R:ar}{b:Bool}(h:decide (pc.length=X.k)=b):fF O (f+30) db (bA (dz X B bs (st.map lst) (("part_com",.pv (lst pc))::R))) (sE (tZ 1))=some b:=(⋯:_=some (((aC pc).length:Int)==(X.k:Int))).trans (af some (by
 rw[<-h,show(aC pc).length=pc.length from bi _,FA,beq_iff_eq,decide_eq_true_iff];exact wR))
theorem T_{a b:PV}(h:PV.int ((X.k:Int) - ((aC pc).length:Nat))=b):aw O (f+30) db hJ (dz X B bs (st.map lst) (gK (lst pc) (some a) (r.map R5.b) (r.map R5.c) (r.map R5.d) (r.map R5.y))) (j7 1)=nx (dz X B bs (st.map lst) (gK (lst pc) (some a) (some b) (r.map R5.c) (r.map R5.d) (r.map R5.y))):=by
 subst h;cases r<;>rfl'
theorem abN{a b c:PV}(h:O.fn "marginal_thiele_scores_add" [fV X.id,X.p,lst pc] []=some c):aw O (f+30) db hJ (dz X B bs (st.map lst) (gK (lst pc) (some a) (some b) (r.map R5.c) (r.map R5.d) (r.map R5.y))) (j7 2)=nx (dz X B bs (st.map lst) (gK (lst pc) (some a) (some b) (some c) (r.map R5.d) (r.map R5.y))):=
 bg (n:=f+29) (K:=bH db "marg_util_cand" false) ⋯ ((show _=O.fn "marginal_thiele_scores_add" [fV X.id,X.p,lst pc] [] by cases r<;>rfl').trans h) (by cases r<;>rfl')
theorem ZY{i j:Int}{V:List PV}{d:PV}(h:EE O db V (i+1) j (O.fn "thiele_score" [.str X.id,X.p,lst pc] [])=some d):aw O (f+30) db hJ (dz X B bs (st.map lst) (gK (lst pc) (some (.int i)) (some (.int j)) (some (.list V)) (r.map R5.d) (r.map R5.y))) (j7 3)=nx (dz X B bs (st.map lst) (gK (lst pc) (some (.int i)) (some (.int j)) (some (.list V)) (some d) (r.map R5.y))):=
 bg (n:=f+29) (K:=bH db "upper_bound" false) ⋯ ((show _=EE O db V (i+1) j (O.fn "thiele_score" [.str X.id,X.p,lst pc] []) by cases r<;>rfl').trans h) (by cases r<;>rfl')
theorem Nz{P:Prop}(H:CN O X sc g)(R:rx X.n X.k pc)(hl:pc.length<X.k)(hz:st.length+(X.n+1)<aA)(K:∀(u:Int) (q:PV×PV×PV×PV) (y:ES),(∀x∈dR X.n X.k pc,sc x<=u)->(y=none->r=none/\¬bs<=u)->
  aw O (f+60) db hJ (dz X B bs (st.map lst) (gK (lst pc) (r.map R5.a) (r.map R5.b) (r.map R5.c) (r.map R5.d) (r.map R5.y))) (tZ 1)=nx (dz X B bs ((if bs<=u then qo pc (qQ X.n X.k pc) st else st).map lst) (gK (lst pc) (some q.1) (some q.2.1) (some q.2.2.1) (some q.2.2.2) y))->P):P:=by
 have hr:=R.room;obtain⟨j,hj⟩:∃j,X.k-pc.length=j:=⟨_,rfl⟩;rw[hj] at hr;obtain⟨m,hm⟩:=TD hr;obtain⟨out,p1,p2,e3⟩:=aaG (nm:=db) (g:=g pc) H.tofX hr (hj▸q9 hl) H.EL H.Mo (H.th R.oW R.len);have hu:=H.ub R hl p1 p2;rw[hj] at hu;clear p1 p2;generalize (out.drop (out.length-j)).sum+sc pc=u at*;have em:low pc+(m+1)+j=X.n+1:=by rw[hm,pP,<-fC]
 obtain⟨y,hy,e4⟩:=Ws (X:=X) (f:=f+9) (B:=B) (bs:=bs) (u:=u) (c:=.list (vq X.D X.n (g pc))) (y:=r.map R5.y) (i:=low pc) (j:=j) (m:=m+1) H.tofX H.nc (eN (ba hl H.kn) (eN H.EL (by decide))) em hz;have es:qQ X.n X.k pc=gW (low pc) (m+1):=af (gW (low pc)) (by rw[hj,<-em,wO,FU]);refine K u (.int ((low pc:Nat) -1),.int j,.list (vq X.D X.n (g pc)),fq X.D u) y hu (λe=>⟨Option.map_eq_none_iff.mp (hy e).1,(hy e).2.resolve_right (q8 m)⟩) ?_;rw[es];have e1:(k:Nat)->k=pc.length->PV.int ((X.k:Int) - (k:Nat))=.int j:=λk e=>by rw[e,<-F4 R.len,hj]
 have h2:=H.mt R.oW hl;clear hu es em hm hr K hy;refine cL (n:=f+59) (b:=false) ⋯ (Rz (f:=f+29) (dF (gE hl))) ?_;show aS _ [j7 0,j7 1,j7 2,j7 3,j7 4] _=_;exact(aF (Zb (f:=f+19)) (aF (T_ (f:=f+29) (e1 _ (bi _))) (aF (abN (f:=f+29) h2) (aF (ZY (f:=f+29) ((af (λi=>EE O db (vq X.D X.n (g pc)) i j (O.fn "thiele_score" [.str X.id,X.p,lst pc] [])) (KM (low pc:Int) 1)).trans e3)) (aF e4 rfl)))))
end
section
variable{X:BX}{n k:Nat}{u:Int}{g:List Nat->Nat->Int}
theorem BB.part(B:BB n k sc M (pc::st) best bs)(hl:pc.length<k)(hu:∀x∈dR n k pc,sc x<=u):BB n k sc M (if bs<=u then qo pc (qQ n k pc) st else st) best bs/\turns n (if bs<=u then qo pc (qQ n k pc) st else st)<turns n (pc::st):=by
 have p {i:Nat}:0<2^i:=F0 (by decide);by_cases q:bs<=u
 ·rw[iP q];have h:low pc+(n+1- (k-pc.length) -low pc)<=n:=by
   have r:=(B.room pc (.head _)).room;rw[iK (KR (yT r))];exact agO (i3 (q9 hl) n)
  exact⟨B.expand hl,ba (qU p) (Yt h)⟩
 ·rw[iN q];exact⟨B.drop λc m=>pQ (hu c m) (lC (y5.mp q) B.A0),TE p⟩
theorem Ot{nm:aN}{mu:List Str}{σ σ₁:ar}{s:aH}{r:aZ}(hs:aw O (n+1) nm mu σ s=(fF O n nm (bA σ) (sE s)).bind λr=>if r=true then(aS (aw O n nm mu) (sB 0 s) σ).bind λq=>if q.1.g9=true then aw O n nm mu q.2 s else some q else some (.next,σ))(ht:fF O n nm (bA σ) (sE s)=some true)(hb:aS (aw O n nm mu) (sB 0 s) σ=nx σ₁)(k:aw O n nm mu σ₁ s=r):aw O (n+1) nm mu σ s=r:=hs.trans (aG ht (aG hb k))
abbrev W4:Type:=PV×PV×PV×PV
def jw(pc:PV)(w:W4)(y:ES):ar:=gK pc (some w.1) (some w.2.1) (some w.2.2.1) (some w.2.2.2) y
variable{w:W4}{y:PV×Option PV}{q:PV}
theorem act(H:fX O X.D)(hl:pc.length=X.k)(h:O.fn "thiele_score" [.str X.id,X.p,lst pc] []=some (fq X.D (sc pc)))(hz:best.length<aA):
  aw O (f+60) db hJ (dz X (best.map lst) bs (st.map lst) (jw (lst pc) w (some y))) (tZ 1)=nx (dz X ((xd sc (best,bs) pc).1.map lst) (xd sc (best,bs) pc).2 (st.map lst) (jw (lst pc) w (some (y.1,some (fq X.D (sc pc)))))):=by
 refine cL (n:=f+59) (b:=true) ⋯ (Rz (f:=f+29) (dT hl)) ?_;show aS _ [En 0,En 1] _=_;refine aF (σ₁:=dz X (best.map lst) bs (st.map lst) (jw (lst pc) w (some (y.1,some (fq X.D (sc pc)))))) (bg (n:=f+58) (K:=bH db "score" false) ⋯ ((⋯:_=O.fn "thiele_score" [.str X.id,X.p,lst pc] []).trans h) (by obtain⟨_,_|_⟩:=y<;>rfl')) (aF (cL (n:=f+58) (b:=decide (sc pc=bs)) ⋯ ((⋯:_=O.cmp .Eq (fq X.D (sc pc)) (fq X.D bs)).trans H.eq) ?_) rfl);unfold xd;generalize sc pc=x;by_cases e:x=bs
 ·rw[dT e,iP e];refine aF (st:=aJ (sB 0 (En 1)) 0) (l:=[]) ((⋯:_=if(best.map lst).length<aA then nx (dz X (best.map lst++[lst pc]) bs (st.map lst) (jw (lst pc) w (some (y.1,some (fq X.D x))))) else none).trans ((iP (aQ (aD (bi _)) hz)).trans (af (λl=>nx (dz X l bs (st.map lst) (jw (lst pc) w (some (y.1,some (fq X.D x)))))) (mP (l₁:=best) (l₂:=[pc])).symm))) rfl
 ·rw[dF e,iN e];refine aF (st:=aJ (sB 1 (En 1)) 0) (l:=[]) (cL (n:=f+57) (b:=decide (bs<x)) ⋯ ((⋯:_=O.cmp .Gt (fq X.D x) (fq X.D bs)).trans H.gt) ?_) rfl;by_cases l:bs<x
  ·rw[dT l,iP l];rfl'
  ·rw[dF l,iN l];rfl'
theorem PC:aw O (f+100) db hJ (dz X T bs (([]:List (List Nat)).map lst) (jw q w (some y))) (fL 6)=nx (dz X T bs [] (jw q w (some y))):=⋯
theorem P8{T' S':List PV}{w7:Int}{w':W4}{y':PV×Option PV}{r:aZ}(h:aw O (f+40+60) db hJ (dz X T bs (st.map lst) (jw (lst pc) w (some y))) (tZ 1)=nx (dz X T' w7 S' (jw (lst pc) w' (some y'))))(k:aw O (f+100) db hJ (dz X T' w7 S' (jw (lst pc) w' (some y'))) (fL 6)=r):aw O (f+1+100) db hJ (dz X T bs ((pc::st).map lst) (jw q w (some y))) (fL 6)=r:=
 Ot (n:=f+100) ⋯ ⋯ ((⋯:_=aS (aw O (f+100) db hJ) [tZ 1] (dz X T bs (st.map lst) (jw (lst pc) w (some y)))).trans (aF h rfl)) k
inductive abC (O:aK) (X:BX) (sc:List Nat->Int) (M:Int) (f:Nat) (σ:ar):Prop
 |mk (best:List (List Nat)) (bs:Int) (q:PV) (w:W4) (y:PV×Option PV) (B:BB X.n X.k sc M [] best bs) (e:aw O f db hJ σ (fL 6)=nx (dz X (best.map lst) bs [] (jw q w (some y))))
theorem BB.len(B:BB n k sc M st best bs):best.length<=(dR n k []).length:=by
 obtain⟨rest,p,_⟩:=B.rest;exact p.length_eq▸da▸cW ..
theorem XZ(H:CN O X sc g)(hz:(dR X.n X.k []).length<aA)(hM:∀c∈dR X.n X.k [],sc c<=M):∀{t:Nat} {st best:List (List Nat)} {bs:Int} {q:PV} {w:W4} {y:PV×Option PV},turns X.n st<=t->t<=64->BB X.n X.k sc M st best bs->abC O X sc M (f+t+100) (dz X (best.map lst) bs (st.map lst) (jw q w (some y))):=by
 intro t;induction t with
 |zero=>
  intro st best bs q w y ht _ B;cases st with
  |nil=>exact⟨best,bs,q,w,y,B,PC (f:=f+0)⟩
  |cons pc st=>exact absurd ht (nh (Nat.add_pos_left (F0 (by decide)) _))
 |succ t ih=>
  intro st best bs q w y ht u8 B;cases st with
  |nil=>exact⟨best,bs,q,w,y,B,PC (f:=f+(t+1))⟩
  |cons pc st=>
  have R:=B.room pc (.head _);have bz:=aQ B.len hz;by_cases hl:pc.length=X.k
  ·obtain⟨LQ,w7,q',w',y',B',e⟩:=ih (q:=lst pc) (w:=w) (y:=(y.1,some (fq X.D (sc pc)))) (jt (ba (TE (F0 (by decide))) ht)) (lB u8) (B.full hl hM);exact⟨LQ,w7,q',w',y',B',P8 (f:=f+t) (act (f:=f+t+40) H.tofX hl (H.th R.oW R.len) bz) e⟩
  ·have hl:=pR R.len hl;have sz:st.length+(X.n+1)<aA:=aQ (BV (aq (iH _) (aq (UV (n:=X.n) (stack:=pc::st)) (aq ht u8))) H.EL) (by decide);refine Nz (f:=f+t+40) (B:=best.map lst) (bs:=bs) (r:=some ⟨w.1,w.2.1,w.2.2.1,w.2.2.2,y⟩) H R hl sz λu w' y' hu hy e1=>?_;have z:=B.part hl hu;cases y' with
   |none=>exact sN ((hy rfl).1)
   |some y'=>
    obtain⟨LQ,w7,q',w',y',B',e⟩:=ih (q:=lst pc) (w:=w') (y:=y') (jt (ba z.2 ht)) (lB u8) z.1;exact⟨LQ,w7,q',w',y',B',P8 (f:=f+t) e1 e⟩
def JQ(O:aK)(nm:aN)(st:aH)(q:PV×ar):aZ:=H2 O ⟨λ_ _ _=>some q.1,λ_ _ _=>none⟩ nm [] q.2 (sE st) (sT st)
theorem aeJ{out:List PV}(hs:O.fn "sorted_committees" [.list (best.map lst)] []=some (.list out)):cq (aS (aw O NN db hJ) [fL 7,fL 8,fL 9,fL 10,fL 11] (dz X (best.map lst) bs [] (jw q w (some y))))=some (.tup [.list out,.any]):=by
 obtain⟨y,s⟩:=y;refine dC (uh (n:=999999) (K:=bH db "committees" false) (p:=.list out) ⋯ (by cases s<;>rfl') ((show _=O.fn "sorted_committees" [.list (best.map lst)] [] by cases s<;>rfl').trans hs) (by cases s<;>rfl') (show _=nx (Rp X (.qm (cf [best.map lst] [] (.list out)) (best.map lst)) bs (.qm (cf [[]] [] (.list out)) []) ((jw q w (some (y,s))).append [("committees",.pv (.list out))])) by cases s<;>rfl')) ?_;cases cf [best.map lst] [] (.list out)<;>cases cf [[]] [] (.list out)<;>cases s<;>rfl'
theorem ad6{C:List Nat}(H:CN O X sc g)(h6:X.n<=6)(hz:(dR X.n X.k []).length<aA)(hk:0<X.k)(hC:C∈dR X.n X.k [])(h0:∀c∈dR X.n X.k [],0<=sc c)(hg:O.fn "get_marginal_scorefct" [.str X.id,.int X.k] []=some (fV X.id))(hq:O.fn "_seq_thiele_resolute" [.str X.id,X.p,.int X.k] []=some (.tup [.list [X.S],.any]))(ht:O.fn "thiele_score" [.str X.id,X.p,X.S] []=some (fq X.D (sc C))):
  ∃best:List (List Nat),best.Perm (dQ sc (dR X.n X.k []))/\∀out,O.fn "sorted_committees" [.list (best.map lst)] []=some (.list out)->bm O NN AL [] [("scorefct_id",.str X.id),("profile",X.p),("committeesize",.int X.k),("resolute",.bool false),("max_num_of_committees",.none)]=some (.tup [.list out,.any]):=by
 have B:=WY (sc:=sc) (bs:=sc C) (M:=mx sc (dR X.n X.k [])) H.kn (rI.2 C hC);refine Nz (f:=999939) (B:=[]) (bs:=sc C) (st:=[]) (r:=none) H (B.room [] (.head _)) hk (aQ (aq (aD (f5 _)) (yE h6)) (by decide)) λu w y hu hy e1=>?_;cases y with
 |none=>exact absurd (hu C hC) (hy rfl).2
 |some y=>
 have z:=B.part hk hu;obtain⟨best,w7,q,w',y',B',e2⟩:=XZ (f:=999835) (t:=64) (q:=lst []) (w:=w) (y:=y) H hz (λc m=>rI.2 c m) (aq (cy z.2) (Ss (n:=2) (by decide) h6)) (bf _) z.1;refine⟨best,US B' h0 (Ci hC),λout hs=>?_⟩;refine(⋯:_=cq (a9 O NN db hJ [("scorefct_id",.pv (.str X.id)),("profile",.pv X.p),("committeesize",.pv (.int X.k)),("resolute",.pv (.bool false)),("max_num_of_committees",.pv .none)] [fL 0,fL 1,fL 2,fL 3,fL 4,fL 5,fL 6,fL 7,fL 8,fL 9,fL 10,fL 11])).trans (dC (bg (n:=999999) (K:=bH db "marginal_scorefct" false) ⋯ ((⋯:_=O.fn "get_marginal_scorefct" [.str X.id,.int X.k] []).trans hg) rfl) (dC (st:=fL 1) (σ₁:=[("scorefct_id",.pv (.str X.id)),("profile",.pv X.p),("committeesize",.pv (.int X.k)),("resolute",.pv (.bool false)),("max_num_of_committees",.pv .none),("marginal_scorefct",.pv (fV X.id)),("best_committees",.own [])]) ⋯ (dC (bg (n:=999999) (K:=JQ O db (fL 2)) ⋯ ((⋯:_=O.fn "_seq_thiele_resolute" [.str X.id,X.p,.int X.k] []).trans hq) (⋯:_=nx [("scorefct_id",.pv (.str X.id)),("profile",.pv X.p),("committeesize",.pv (.int X.k)),("resolute",.pv (.bool false)),("max_num_of_committees",.pv .none),("marginal_scorefct",.pv (fV X.id)),("best_committees",.own []),("init_com",.pv (.list [X.S])),("_",.pv .any)])) (dC (bg (n:=999999) (K:=bH db "init_com" false) (p:=X.S) ⋯ ⋯ rfl) (dC (bg (n:=999999) (K:=bH db "best_score" false) ⋯ ((⋯:_=O.fn "thiele_score" [.str X.id,X.p,X.S] []).trans ht) rfl) (dC (st:=fL 5) (σ₁:=dz X [] (sc C) [lst []] []) ⋯ (dC (Ot (n:=999999) ⋯ ⋯ ((⋯:_=aS (aw O 999999 db hJ) [tZ 1] (dz X [] (sc C) [] (gK (lst []) none none none none none))).trans (aF e1 rfl)) e2) (aeJ hs))))))))
end
end
section
variable{n k:Nat}{id:Str}{ns cv:PV}{vs:List (List Nat×Nat)}{A C:List Nat}{S:Nat->Int}
section
variable{O:aK}{m:Nat}{fu:Str}{p self v:PV}{b:Bool}{fs:List (Str×PV)}
noncomputable def R2(l:List Str):List PV:=l.map PV.str
def GZ(id ck long:Str)(G3 ahz:List Str):List (Str×PV):=[("rule_id",.str id),("shortname",.str ck),("longname",.str long),("algorithms",.tup (R2 G3)),("resolute_values",.tup [.bool false,.bool true]),("available_algorithms",.list (R2 ahz))]
noncomputable def QL:List Str:=["gurobi","pulp-highs","pulp-cbc","branch-and-bound","brute-force"]
def II:List (Str×PV):=GZ "pav" "PAV" "Proportional Approval Voting (PAV)" QL ["branch-and-bound","brute-force"]
def GG:List (Str×PV):=GZ "slav" "SLAV" "Sainte-Laguë Approval Voting (SLAV)" QL ["branch-and-bound","brute-force"]
def qq:List (Str×PV):=GZ "adams" "Adams-AV" "Adams Approval Voting" ["gurobi","pulp-highs","pulp-cbc","brute-force"] ["brute-force"]
theorem WK:(aI NN (k+1)).fn "Rule" [.str "pav"] []=some (.inst cK II):=⋯
theorem Wi:(aI NN (k+1)).fn "Rule" [.str "slav"] []=some (.inst cK GG):=⋯
theorem Yj:(aI NN (k+1)).fn "Rule" [.str "adams"] []=some (.inst cK qq):=⋯
theorem Wt:(aI NN (k+1)).bM cK "fastest_available_algorithm" [.inst cK qq] []=some (.str "brute-force"):=⋯
noncomputable def gZ(b:Bool):Str:=cond b "branch-and-bound" "brute-force"
noncomputable def zN(b:Bool):Str:=cond b "_thiele_methods_branchandbound" "_thiele_methods_bruteforce"
def MZ:aN:=v8.scope.names
def oU(i:Nat):aH:=aJ v8.body i
noncomputable def rW(p:PV)(k:Nat)(fu:Str):List (Str×PV):=[("profile",p),("committeesize",.int k),("algorithm",.str fu),("resolute",.bool false),("max_num_of_committees",.none)]
def HD(fs:List (Str×PV))(p:PV)(k:Nat)(fu:Str):ar:=mh (("self",.inst cK fs)::rW p k fu)
def xx(O:aK)(fs:List (Str×PV))(fu:Str):Prop:=∀(p:PV) (k:Nat),a9 O NN MZ [] (HD fs p k fu) [oU 3,oU 4,oU 5,oU 6]=nx (HD fs p k fu)
theorem afL:xx O II (gZ b):=λp k=>by cases b<;>rfl'
theorem afS:xx O GG (gZ b):=λp k=>by cases b<;>rfl'
theorem aa0:xx O qq (gZ false):=λp k=>⋯
theorem ae3(V:xx O fs fu)(hk:1<=k)(hn:k<=n)(ha:O.attr bx "num_cand" (a6 n ns vs)=some (.int n))(hl:O.fn "len" [a6 n ns vs] []=some (.int (m+1:Nat))):bm O NN v8 [.inst cK fs] (rW (a6 n ns vs) k fu)=some .none:=
 (⋯:_=cq (a9 O NN MZ [] (HD fs (a6 n ns vs) k fu) [oU 0,oU 1,oU 2,oU 3,oU 4,oU 5,oU 6])).trans
  (dC (kj (n:=999999) ⋯ ⋯ ((⋯:_=some (decide ((k:Int)<1))).trans (af some (dF (im (pJ hk))))))
  (dC (kj (n:=999999) ⋯ ⋯ ((show _=(O.attr bx "num_cand" (a6 n ns vs)).bind λb=>fe O .Gt (.int k) b by rfl').trans (aG ha (af some (dF (im (pJ hn)))))))
  (dC (kj (n:=999999) ⋯ ⋯ ((show _=(O.fn "len" [a6 n ns vs] []).bind λa=>fe O .Eq a (.int 0) by rfl').trans (aG hl rfl))) (af cq (V _ _)))))
def Ak:aN:=Bf.scope.names
def nO(i:Nat):aH:=aJ Bf.body i
noncomputable def Au(id:Str)(p:PV)(k:Nat)(fu:Str)(r:ar):ar:=("scorefct_id",.pv (.str id))::("profile",.pv p)::("committeesize",.pv (.int k))::("algorithm",.pv (.str fu))::("resolute",.pv (.bool false))::("max_num_of_committees",.pv .none)::("lexicographic_tiebreaking",.pv (.bool false))::r
theorem R8{σ:ar}{nm:aN}{mu:List Str}{st:aH}{w:PV}(h:aw O (n+1) nm mu σ st=(cI O n nm (bA σ) (sE st)).map λ_=>(.next,σ))(he:cI O n nm (bA σ) (sE st)=some w):aw O (n+1) nm mu σ st=nx σ:=h.trans (af (eP _) he)
theorem WT(h:O.fn (zN b) [] [("scorefct_id",.str id),("profile",p),("committeesize",.int k),("resolute",.bool false),("max_num_of_committees",.none)]=some (.tup [v,.any])):aw O NN Ak [] (Au id p k (gZ b) [("rule",.pv self)]) (nO 3)=nx (Au id p k (gZ b) [("rule",.pv self),("committees",.pv v),("detailed_info",.pv .any)]):=by
 cases b with
 |true=>exact cL (n:=999999) (b:=true) ⋯ ⋯ (aF (st:=aJ (sB 0 (nO 3)) 0) (bg (n:=999998) (K:=JQ O Ak (aJ (sB 0 (nO 3)) 0)) ⋯ ((⋯:_=O.fn (zN true) [] [("scorefct_id",.str id),("profile",p),("committeesize",.int k),("resolute",.bool false),("max_num_of_committees",.none)]).trans h) ⋯) rfl)
 |false=>exact cL (n:=999999) (b:=false) ⋯ ⋯ (aF (st:=aJ (sB 1 (nO 3)) 0) (cL (n:=999998) (b:=true) ⋯ ⋯ (aF (st:=aJ (sB 0 (aJ (sB 1 (nO 3)) 0)) 0) (bg (n:=999997) (K:=JQ O Ak (aJ (sB 0 (aJ (sB 1 (nO 3)) 0)) 0)) ⋯ ((⋯:_=O.fn (zN false) [] [("scorefct_id",.str id),("profile",p),("committeesize",.int k),("resolute",.bool false),("max_num_of_committees",.none)]).trans h) ⋯) rfl)) rfl)
theorem ab2(hR:O.fn "Rule" [.str id] []=some (.inst cK fs))(h0:(ak fs "verify_compute_parameters").isNone=true)(hv:O.bM cK "verify_compute_parameters" [.inst cK fs] (rW p k (gZ b))=some .none)(h:O.fn (zN b) [] [("scorefct_id",.str id),("profile",p),("committeesize",.int k),("resolute",.bool false),("max_num_of_committees",.none)]=some (.tup [v,.any])):
  bm O NN Bf [] [("scorefct_id",.str id),("profile",p),("committeesize",.int k),("algorithm",.str (gZ b)),("resolute",.bool false),("max_num_of_committees",.none),("lexicographic_tiebreaking",.bool false)]=some v:=
 (⋯:_=cq (a9 O NN Ak [] (Au id p k (gZ b) []) [nO 0,nO 1,nO 2,nO 3,nO 4])).trans
  (dC (bg (n:=999999) (K:=bH Ak "rule" false) ⋯ ((⋯:_=O.fn "Rule" [.str id] []).trans hR) (⋯:_=nx (Au id p k (gZ b) [("rule",.pv (.inst cK fs))])))
  (dC (st:=nO 1) (σ₁:=Au id p k (gZ b) [("rule",.pv (.inst cK fs))]) (by cases b<;>rfl')
  (dC (R8 (n:=999999) (w:=.none) ⋯ ((⋯:_=if(ak fs "verify_compute_parameters").isNone=true then O.bM cK "verify_compute_parameters" [.inst cK fs] (rW p k (gZ b)) else none).trans ((iP h0).trans hv))) (dC (WT h) ⋯))))
noncomputable def yh(id:Str)(p:PV)(k:Nat)(fu:Str):List (Str×PV):=[("scorefct_id",.str id),("profile",p),("committeesize",.int k),("algorithm",.str fu),("resolute",.bool false),("max_num_of_committees",.none),("lexicographic_tiebreaking",.bool false)]
theorem Y0(h:O.fn "compute_thiele_method" [] (yh "pav" p k fu)=some v):bm O NN Bn [p,.int k] [("algorithm",.str fu)]=some v:=
 (⋯:_=cq (a9 O NN Bn.scope.names [] (mh [("profile",p),("committeesize",.int k),("algorithm",.str fu),("resolute",.bool false),("max_num_of_committees",.none),("lexicographic_tiebreaking",.bool false)]) [aJ Bn.body 0])).trans (af cq (rY (vY (n:=999999) ⋯ ((⋯:_=O.fn "compute_thiele_method" [] (yh "pav" p k fu)).trans h))))
theorem a_(h:O.fn "compute_thiele_method" [] (yh "slav" p k fu)=some v):bm O NN BN [p,.int k] [("algorithm",.str fu)]=some v:=
 (⋯:_=cq (a9 O NN BN.scope.names [] (mh [("profile",p),("committeesize",.int k),("algorithm",.str fu),("resolute",.bool false),("max_num_of_committees",.none),("lexicographic_tiebreaking",.bool false)]) [aJ BN.body 0])).trans (af cq (rY (vY (n:=999999) ⋯ ((⋯:_=O.fn "compute_thiele_method" [] (yh "slav" p k fu)).trans h))))
def EN:aN:=Az.scope.names
def vX(i:Nat):aH:=aJ Az.body i
noncomputable def Ds(p:PV)(k:Nat)(fu:Str)(r:ar):ar:=("profile",.pv p)::("committeesize",.pv (.int k))::("algorithm",.pv (.str fu))::("resolute",.pv (.bool false))::("max_num_of_committees",.pv .none)::("rule_id",.pv (.str "adams"))::r
def J3:Str×AV:=("rule",.pv (.inst cK qq))
theorem Y4{w:List PV}(hR:O.fn "Rule" [.str "adams"] []=some (.inst cK qq))(hf:O.bM cK "fastest_available_algorithm" [.inst cK qq] []=some (.str "brute-force"))(hv:O.bM cK "verify_compute_parameters" [.inst cK qq] (rW p k "brute-force")=some .none)(h:O.fn "_adams_bruteforce" [p,.int k,.bool false,.none] []=some (.list w))(hs:O.fn "sorted_committees" [.list w] []=some v):
  bm O NN Az [p,.int k] []=some v:=
 (⋯:_=cq (a9 O NN EN [] (Ds p k "fastest" []) [vX 1,vX 2,vX 3,vX 4,vX 5])).trans
  (dC (bg (n:=999999) (K:=bH EN "rule" false) ⋯ ((⋯:_=O.fn "Rule" [.str "adams"] []).trans hR) (⋯:_=nx (Ds p k "fastest" [J3])))
  (dC (cL (n:=999999) (b:=true) ⋯ ⋯ (aF (st:=aJ (sB 0 (vX 2)) 0) (σ₁:=Ds p k "brute-force" [J3]) (bg (n:=999998) (K:=bH EN "algorithm" false) ⋯ ((⋯:_=O.bM cK "fastest_available_algorithm" [.inst cK qq] []).trans hf) ⋯) rfl))
  (dC (R8 (n:=999999) ⋯ ((⋯:_=O.bM cK "verify_compute_parameters" [.inst cK qq] (rW p k "brute-force")).trans hv))
  (dC (cL (n:=999999) (b:=true) ⋯ ⋯ (aF (st:=aJ (sB 0 (vX 4)) 0) (σ₁:=Ds p k "brute-force" [J3,("committees",.pv (.list w))]) (bg (n:=999998) (K:=bH EN "committees" false) ⋯ ((⋯:_=O.fn "_adams_bruteforce" [p,.int k,.bool false,.none] []).trans h) ⋯) rfl))
  (af cq (rY (vY (n:=999999) ⋯ ((⋯:_=O.fn "sorted_committees" [.list w] []).trans hs))))))))
end
section
variable{O:aK}{v:Nat}{nc:PV}
def Aj:aN:=rU.scope.names
def v4(fs:List (Str×PV))(cv:PV)(v:Nat)(nc:PV):ar:=[("self",.a7 iy fs []),("approved",.pv cv),("weight",.pv (.int v)),("num_cand",.pv nc)]
theorem OC(h:O.fn "CandidateSet" [cv] [("num_cand",nc)]=some (.set A))(hv:1<=v):a9 O NN Aj [] (v4 [] cv v nc) rU.body=nx (v4 [("approved",.set A),("weight",.int v)] cv v nc):=
 (⋯:_=a9 O NN Aj [] (v4 [] cv v nc) [aJ rU.body 0,aJ rU.body 1,aJ rU.body 2]).trans (aF (bg (n:=999999) (K:=IH Aj "self" "approved" false) ⋯ ((⋯:_=O.fn "CandidateSet" [cv] [("num_cand",nc)]).trans h) (⋯:_=nx (v4 [("approved",.set A)] cv v nc)))
  (aF (st:=aJ rU.body 1) (σ₁:=v4 [("approved",.set A),("weight",.int v)] cv v nc) ⋯ (aF (kj (n:=999999) ⋯ ⋯ ((⋯:_=some (decide ((v:Int)<=0))).trans (af some (dF (y5.mpr (jc hv)))))) rfl)))
def xq(x:Str)(c:Nat)(r:aZ):Option (List (Str×PV)×List Str):=r.bind λr=>if r.1.g9=true then(ak r.2 x).bind λv=>v.lK.bind λi=>if i.1=c then some i.2 else none else none
theorem WI(h:O.fn "CandidateSet" [cv] [("num_cand",.none)]=some (.set A))(hv:1<=v):(next NN O).fn "Voter" [cv] [("weight",.int v)]=some (bp (A,v)):=
 (show _=(xq "self" iy (a9 O NN Aj [] (v4 [] cv v .none) rU.body)).map λr=>PV.inst iy r.1 by rfl').trans ((af (λo=>(xq "self" iy o).map λr=>PV.inst iy r.1) (OC h hv)).trans ⋯)
theorem VW(h:O.fn "CandidateSet" [cv] [("num_cand",nc)]=some (.set A))(hv:1<=v):(next NN O).fn "Voter" [cv] [("weight",.int v),("num_cand",nc)]=some (bp (A,v)):=
 (show _=(xq "self" iy (a9 O NN Aj [] (v4 [] cv v nc) rU.body)).map λr=>PV.inst iy r.1 by rfl').trans ((af (λo=>(xq "self" iy o).map λr=>PV.inst iy r.1) (OC h hv)).trans ⋯)
def QQ:aN:=AI.scope.names
def IZ(i:Nat):aH:=aJ AI.body i
theorem adi(ha:O.attr bx "num_cand" (a6 n ns vs)=some (.int n))(h:O.fn "Voter" [.set A] [("weight",.int v),("num_cand",.int n)]=some (bp (A,v))):bm O NN AI [a6 n ns vs,bp (A,v)] []=some (bp (A,v)):=
 (⋯:_=cq (a9 O NN QQ [] [("self",.pv (a6 n ns vs)),("voter",.pv (bp (A,v)))] [IZ 0,IZ 1])).trans (dC (cL (n:=999999) (b:=true) ⋯ ⋯ (aF (st:=aJ (sB 0 (IZ 0)) 0) (σ₁:=[("self",.pv (a6 n ns vs)),("voter",.pv (bp (A,v))),("_voter",.pv (bp (A,v)))]) (bg (n:=999998) (K:=bH QQ "_voter" false) ⋯ ((show _=(((O.attr bx "num_cand" (a6 n ns vs)).bind λv=>some [(("num_cand":Str),v)]).map λks=>(("weight":Str),PV.int v)::ks).bind λks=>O.fn "Voter" [.set A] ks by rfl').trans (by rw[ha];exact h)) ⋯) rfl)) ⋯)
def tH:aN:=wb.scope.names
def zY:aH:=aJ wb.body 0
def zW(n:Nat):PV:=.list ((ax n).map ds)
def eV(n:Nat)(vs:List (List Nat×Nat)):List (Str×PV):=[("candidates",.list ((ax n).map λi:Nat=>.int i)),("cand_names",zW n),("_voters",.list (vs.map bp))]
noncomputable def fG:List Str:=["_voters","cand_names"]
def sy(n:Nat)(vs:List (List Nat×Nat))(w:PV):ar:=[("self",.a7 bx (eV n vs) fG),("voter",.pv w)]
theorem Wh(h:O.bM bx "_unique_voter" [a6 n (zW n) vs,bp (A,v)] []=some (bp (A,v)))(hz:vs.length<aA):a9 O NN tH [] (sy n vs (bp (A,v))) wb.body=nx (sy n (vs++[(A,v)]) (bp (A,v))):=by
 refine(⋯:_=a9 O NN tH [] (sy n vs (bp (A,v))) [zY]).trans (aF ?_ rfl);have e1:bX (cI O 999999 tH) (sy n vs (bp (A,v))) (bR 0 (sE zY))=some (bp (A,v),sy n vs (bp (A,v))):=by
  unfold bX;rw[show cI O 999999 tH (fJ (sy n vs (bp (A,v)))) (bR 0 (sE zY))=none by rfl',show cI O 999999 tH (bA (sy n vs (bp (A,v)))) (bR 0 (sE zY))=some (bp (A,v)) from(⋯:_=O.bM bx "_unique_voter" [a6 n (zW n) vs,bp (A,v)] []).trans h];rfl'
 refine(show _=(bX (cI O 999999 tH) (sy n vs (bp (A,v))) (bR 0 (sE zY))).bind λq=>if fG.contains "_voters"=true/\(vs.map bp).length<aA then eh (putN tH "self" (.a7 bx (b9 (eV n vs) "_voters" (.list (vs.map bp++[q.1]))) fG) q.2) else none by rfl').trans (aG e1 ((iP ⟨by decide,aQ (aD (bi _)) hz⟩).trans ?_));rw[show vs.map bp++[bp (A,v)]=(vs++[(A,v)]).map bp from(mP (l₁:=vs) (l₂:=[(A,v)])).symm];rfl'
end
section
variable{m v D:Nat}{nc:PV}
theorem z_(h:(aI NN k).bM bx "_unique_voter" [a6 n (zW n) vs,bp (A,v)] []=some (bp (A,v)))(hz:vs.length<aA):(aI NN (k+1)).mw bx (eV n vs) fG "add_voter" [bp (A,v)]=some (eV n (vs++[(A,v)])):=
 (show _=(xq "self" bx (a9 (aI NN k) NN tH [] (sy n vs (bp (A,v))) wb.body)).bind λr=>if r.2=fG then some r.1 else none by rfl').trans ((af (λo=>(xq "self" bx o).bind λr=>if r.2=fG then some r.1 else none) (Wh h hz)).trans ⋯)
theorem Vl(h:n<6):(aI NN (k+1)).make "Profile" [.int (n+1:Nat)] []=some (bx,eV (n+1) [],fG):=Qx (P:=λn=>(aI NN (k+1)).make "Profile" [.int (n+1:Nat)] []=some (bx,eV (n+1) [],fG)) ⋯ ⋯ ⋯ ⋯ ⋯ ⋯ n h
theorem AJ:(aI NN (k+1)).attr bx "num_cand" (a6 n ns vs)=some (.int n):=
 (show _=some (PV.int (((ax n).map λi:Nat=>PV.int i).length:Nat)) by rfl').trans (by rw[bi,cF])
theorem O_{a b:List Nat×Nat}:(aI NN (k+1)).fn "len" [a6 n ns [a,b]] []=some (.int (2:Nat)):=⋯
theorem aaE{a b c:List Nat×Nat}:(aI NN (k+1)).fn "len" [a6 n ns [a,b,c]] []=some (.int (3:Nat)):=⋯
theorem aep(h:(aI NN (k+1)).fn "Voter" [.set A] [("weight",.int v),("num_cand",.int n)]=some (bp (A,v))):(aI NN (k+2)).bM bx "_unique_voter" [a6 n ns vs,bp (A,v)] []=some (bp (A,v)):=
 (⋯:_=bm (aI NN (k+1)) NN AI [a6 n ns vs,bp (A,v)] []).trans (adi AJ h)
def d5(C:List Nat):List Nat:=C.foldr fA []
theorem rN{x:Nat}:x∈d5 C↔x∈C:=by
 induction C with
 |nil=>exact .rfl
 |cons c C ih=>exact pj.trans ((or_congr_right ih).trans jN.symm)
theorem oZ:(d5 C).Pairwise (· < ·):=by
 induction C with
 |nil=>exact .nil
 |cons c C ih=>exact rK ih
theorem P7:∀{C:List Nat},(∀x∈C,x<6)->setOf (aC C)=some (d5 C):=by
 intro C;induction C with
 |nil=>exact λ_=>rfl
 |cons c C ih=>exact λh=>(iP ⟨fP c,jc (h c (.head _))⟩).trans (af (eP (fA c)) (ih λx m=>h x (.tail _ m)))
theorem kJ(h:C.Pairwise (· < ·)):C.Nodup:=h.imp gE
theorem DV(h:C.Nodup):(d5 C).Perm C:=(F5 (kJ oZ) h).mpr λ_=>rN
theorem Sj{C':List Nat}(h:C'.Perm C):d5 C'=d5 C:=t5 oZ oZ λx=>rN.trans (h.mem_iff.trans rN.symm)
theorem DJ(h:C.Pairwise (· < ·)):d5 C=C:=t5 oZ h λ_=>rN
theorem W0(h:∀x∈C,x<6):SS (d5 C):=⟨oZ,λx m=>h x (rN.mp m)⟩
theorem aem(c:Cv cv A)(h:∀x∈A,x<6):eJ cv setOf=some (d5 A):=xQ c λ_ hp=>(P7 λx m=>h x (hp.mem_iff.mp m)).trans (af some (Sj hp))
theorem QI(c:Cv cv A)(hd:A.Nodup)(h:∀x∈A,x<6)(hn:nc=.none\/∃m,nc=.int m/\∀x∈A,(x:Int)<m):bm (aI NN (k+1)) NN vw [cv,nc] []=some (.set (d5 A)):=
 ady (O:=aI NN k) c (λl' hp=>(P7 λx m=>h x (hp.mem_iff.mp m)).trans (af some (Sj hp))) (DV hd).length_eq hn
theorem Θ(c:Cv cv A)(hd:A.Nodup)(h:∀x∈A,x<6):(aI NN (k+2)).fn "CandidateSet" [cv] []=some (.set (d5 A)):=
 (⋯:_=bm (aI NN (k+1)) NN vw [cv,.none] []).trans (QI c hd h (.inl rfl))
theorem JE(c:Cv cv A)(hd:A.Nodup)(h:∀x∈A,x<6)(hn:nc=.none\/∃m,nc=.int m/\∀x∈A,(x:Int)<m):(aI NN (k+2)).fn "CandidateSet" [cv] [("num_cand",nc)]=some (.set (d5 A)):=
 (⋯:_=bm (aI NN (k+1)) NN vw [cv,nc] []).trans (QI c hd h hn)
theorem UQ(h:SS A):∃s,(aI NN (k+2)).fn "str_set_of_candidates" [.set A] []=some (.str s):=(Y' (O:=aI NN k) h).imp λs e=>(⋯:_=bm (aI NN (k+1)) NN qI [.set A] []).trans e
theorem Qd{α:Type}{l:List α}{v:α->PV}{so:α->List Nat}(h0:l≠[])(hz:l.length<64)(hc:∀a∈l,Cv (v a) (so a)/\(so a).Nodup/\∀x∈so a,x<6):∃out:List (List Nat),(aI NN (k+3)).fn "sorted_committees" [.list (l.map v)] []=some (.list (out.map PV.set))/\out.Perm (l.map λa=>d5 (so a)):=
 (abu (O:=aI NN (k+1)) (v:=v) (so:=λa=>d5 (so a)) h0 hz (λa m=>Θ (k:=k) (hc a m).1 (hc a m).2.1 (hc a m).2.2) (λa m=>UQ (k:=k) (W0 (hc a m).2.2))).imp λout e=>⟨(⋯:_=bm (aI NN (k+2)) NN AU [.list (l.map v)] []).trans e.1,e.2⟩
theorem Xp:(aI NN (k+2)).fn "get_marginal_scorefct" [.str "pav",.int m] []=some (fV "pav"):=⋯
theorem Yn:(aI NN (k+2)).fn "get_marginal_scorefct" [.str "slav",.int m] []=some (fV "slav"):=⋯
theorem k_(H:iZ (aI NN (k+3)) id S D)(c:Cv cv A)(h6:∀x∈A,x<6)(hv:∀q∈vs,(fg (d5 A) q.1).length<=4)(h0:pB k D id (a6 n ns vs) cv):(aI NN (k+4)).fn "thiele_score" [.str id,a6 n ns vs,cv] []=some (fq D (d4 S (d5 A) vs)):=
 (⋯:_=bm (aI NN (k+3)) NN qi [.str id,a6 n ns vs,cv] []).trans (Vt H (aem c h6) hv h0)
theorem aaH(H:iZ (aI NN (k+3)) id S D)(hn:n<=100)(hv:∀q∈vs,A8 C n q)(hi:∀i∈C,i<n):(aI NN (k+4)).fn "marginal_thiele_scores_add" [fV id,a6 n ns vs,.list (aC C)] []=some (.list (vq D n (iz D C (jx S C · vs)))):=
 (⋯:_=bm (aI NN (k+3)) NN Bi [fV id,a6 n ns vs,.list (aC C)] []).trans (aap H AJ hn hv hi)
theorem Z'{a:Int}{l:List Int}(h:0<D)(h2:D<=500):(aI NN (k+4)).fn "total" [.list (iA D (a::l))] []=some (fq D (a::l).sum):=
 (⋯:_=bm (aI NN (k+3)) NN A' [.list (iA D (a::l))] []).trans (acB (qd h h2))
end
section
variable{m lo:Nat}{s c:List Nat}
theorem sL:∀{j lo:Nat} {c:List Nat},c∈cj n lo j->c.length=j/\c.Pairwise (· < ·)/\∀x∈c,lo<=x/\x<n:=by
 intro j;induction j with
 |zero=>exact λm=>cY m▸⟨rfl,.nil,λ_ m=>absurd m eX⟩
 |succ j ih=>
  intro lo c m;obtain⟨a,ma,mc⟩:=Gc.mp m;obtain⟨d,md,rfl⟩:=rg.mp mc;have h:=ih md;have ha:=TW.mp ma;refine⟨af (· +1) h.1,Ga.mpr ⟨λx m=>(h.2.2 x m).1,h.2.1⟩,λx m=>(bw m).elim (λe=>e▸⟨ha.1,?_⟩) λm=>⟨aq ha.1 (cy (h.2.2 x m).1),(h.2.2 x m).2⟩⟩;exact ba ((KU lo (n-j)).elim (λh=>ba ha.2 (aD (iK h))) λh=>absurd (ba ha.2 (aD (af (lo+ ·) (Nat.sub_eq_zero_of_le h)))) (gN ha.1)) (kD ..)
theorem Pv:∀{m lo:Nat} {s:List Nat},s.Pairwise (· < ·)->(∀x∈s,lo<=x/\x<lo+m)->s.Sublist (gW lo m):=by
 intro m;induction m with
 |zero=>
  intro lo s _ h;cases s with
  |nil=>exact .refl _
  |cons x s=>exact absurd (aQ (h x (.head _)).1 (h x (.head _)).2) (cV _)
 |succ m ih=>
  intro lo s p h;cases s with
  |nil=>exact S4 _
  |cons x s=>
  have q:=mj p;have u:∀y∈x::s,y<lo+1+m:=λy my=>ba (h y my).2 (aD ((fC lo m 1).symm.trans (pP lo m 1)));by_cases e:x=lo
  ·exact e▸(ih q.2 λy my=>⟨e▸q.1 y my,u y (.tail _ my)⟩).cons_cons x
  ·have l:=pR (h x (.head _)).1 (gV e);exact(ih p λy my=>⟨(bw my).elim (λe=>e▸l) λmy=>aq l (cy (q.1 y my)),u y my⟩).cons lo
theorem Bw:∀{j lo:Nat} {c:List Nat},c.length=j->c.Pairwise (· < ·)->(∀x∈c,lo<=x/\x<n)->c∈cj n lo j:=by
 intro j;induction j with
 |zero=>exact λh _ _=>F8.mpr (zc.mp h)
 |succ j ih=>
  intro lo c h p q;cases c with
  |nil=>nomatch h
  |cons a d=>
  have p':=mj p;have ha:=q a (.head _);have hd:=wA h;have hl:=(Pv (m:=n- (a+1)) (lo:=a+1) p'.2 λx m=>⟨p'.1 x m,ba (q x (.tail _ m)).2 (aD (iK ha.2).symm)⟩).length_le;rw[KQ,hd] at hl;have hz:a<n-j:=agw (aq (aD (af jp (gj a j))) (TC ha.2 hl));exact Gc.mpr ⟨a,TW.mpr ⟨ha.1,ba hz (aD (iK (cy (aQ ha.1 hz))).symm)⟩,qW (ih hd p'.2 λx m=>⟨p'.1 x m,(q x (.tail _ m)).2⟩)⟩
theorem OR{a b c d:Int}:a+b+(c+d)=a+c+(b+d):=by rw[mO,Int.add_left_comm b,<-mO]
theorem Qz{f g:Nat->Int}:(s.map λx=>f x+g x).sum=(s.map f).sum+(s.map g).sum:=by
 induction s with
 |nil=>rfl
 |cons x s ih=>exact(af (f x+g x+ ·) ih).trans OR
theorem aef{v:Int}:(s.map λx=>if x∈A then v else 0).sum=(fg s A).length*v:=by
 induction s with
 |nil=>exact(yI v).symm
 |cons x s ih=>
  refine(af ((if x∈A then v else 0)+ ·) ih).trans ?_;by_cases h:x∈A
  ·rw[iP h,show fg (x::s) A=x::fg s A from tx (kx.mpr h),wB,wS,FX,uY];exact af _ (Int.one_mul v).symm
  ·rw[iN h,show fg (x::s) A=fg s A from uZ λq=>h (qt q),FY]
theorem aaA{l l':List Int}(p:l.Perm l'):l.sum=l'.sum:=by
 induction p with
 |nil=>rfl
 |cons a _ ih=>exact af (a+ ·) ih
 |swap a b l=>exact Int.add_left_comm ..
 |trans _ _ h1 h2=>exact h1.trans h2
theorem ae6:∀{L s r:List Int},L.Pairwise (· <=·)->(s++r).Perm L->s.sum<=(L.drop r.length).sum:=by
 intro L;induction L with
 |nil=>exact λ{s r} _ p=>by rw[(List.append_eq_nil_iff.mp p.eq_nil).1,FH];exact tw _
 |cons a L ih=>
  intro s r hs p;have q:=mj hs;by_cases mr:a∈r
  ·have p1:=agP mr;rw[p1.length_eq];exact ih q.2 (List.perm_middle.symm.trans ((p1.symm.append_left s).trans p)).cons_inv
  ·have ms:=(lN (p.mem_iff.mpr (.head _))).resolve_right mr;have p1:=agP ms;have p2:=((p1.symm.append_right r).trans p).cons_inv;have h:=ih q.2 p2;rw[aaA p1];cases r with
   |nil=>exact Int.add_le_add_left h a
   |cons b r=>
    have hl:r.length<L.length:=ba (i5 _) (aq (i7 ..) (aD (da.symm.trans p2.length_eq)));show _<=(L.drop r.length).sum;rw[B4 hl];exact F6 (q.1 _ (SM hl)) h
theorem QR:fg (C++s) A=fg C A++fg s A:=pU ..
theorem OB(hC:C.Nodup)(hA:A.Nodup):lT C A=(fg C A).length:=
 ((F5 (hA.filter _) (hC.filter _)).mpr λx=>by
  rw[oC,oC,kx,kx];exact And.comm).length_eq
structure sr(S:Nat->Int):Prop where
 ad8:∀a,a<5->∀b,b<5->a+b<=4->S (a+b)<=S a+b*(S (a+1) -S a)
 inc:∀a,a<4->0<=S (a+1) -S a
 pos:∀a,a<5->0<=S a
theorem afD(H:sr S)(hC:C.Nodup):∀{vs:List (List Nat×Nat)},(∀q∈vs,q.1.Nodup/\(fg (C++s) q.1).length<=4)->d4 S (C++s) vs<=(s.map λx=>jx S C x vs).sum+d4 S C vs:=by
 intro vs;induction vs with
 |nil=>
  intro _;show 0<=(s.map λ_=>(0:Int)).sum+0;rw[uL];induction s with
  |nil=>exact tw _
  |cons x s ih=>exact ic (ih nofun) (oD (FY _).symm)
 |cons q vs ih=>
  intro h;have hq:=h q (.head _);have h1:=ih λq m=>h q (.tail _ m);have hb:=hq.2;rw[QR,da] at hb;show S (fg (C++s) q.1).length*q.2+d4 S (C++s) vs<=(s.map λx=>ud S C q x+jx S C x vs).sum+(S (fg C q.1).length*q.2+d4 S C vs);rw[Qz,show(s.map (ud S C q)).sum=_ from aef,OB hC hq.1,QR,da];have hf:=H.ad8 _ (kz (aq (cW ..) hb)) _ (kz (aq (i7 ..) hb)) hb;have:=F6 (Int.mul_le_mul_of_nonneg_right hf (fP q.2)) h1;rw[FX,Int.mul_assoc] at this;exact ic this (oD ((af (· +_) (uY ..)).trans OR))
theorem ac0(H:sr S){x:Nat}:∀{vs:List (List Nat×Nat)},(∀q∈vs,lT C q.1<4)->0<=jx S C x vs:=by
 intro vs;induction vs with
 |nil=>exact λ_=>tw _
 |cons q vs ih=>
  intro h;refine KV ?_ (ih λq m=>h q (.tail _ m));unfold ud;by_cases k:x∈q.1
  ·rw[iP k];exact Int.mul_nonneg (H.inc _ (h q (.head _))) (fP _)
  ·rw[iN k];exact tw _
theorem adm(H:sr S):∀{vs:List (List Nat×Nat)},(∀q∈vs,(fg C q.1).length<=4)->0<=d4 S C vs:=by
 intro vs;induction vs with
 |nil=>exact λ_=>tw _
 |cons q vs ih=>exact λh=>KV (Int.mul_nonneg (H.pos _ (kz (h q (.head _)))) (fP _)) (ih λq m=>h q (.tail _ m))
theorem Yu{D:Nat}(H:sr S)(R:rx n k C)(hv:∀q∈vs,q.1.Nodup/\(fg c q.1).length<=4){out:List Int}(hp:out.Perm ((gW (low C) (n-low C)).map (iz D C (jx S C · vs))))(hs:out.Pairwise (· <=·))(hc:c∈dR n k C):d4 S c vs<=(out.drop (out.length- (k-C.length))).sum+d4 S C vs:=by
 obtain⟨s,ms,rfl⟩:=rg.mp hc;have h:=sL ms;have ln:low C<=n:=aq (cW ..) R.room;obtain⟨r,pr⟩:=((Pv (m:=n-low C) (lo:=low C) h.2.1 λx m=>⟨(h.2.2 x m).1,ba (h.2.2 x m).2 (aD (iK ln).symm)⟩).map (iz D C (jx S C · vs))).exists_perm_append;have t:=ae6 (s:=s.map (iz D C (jx S C · vs))) (r:=r) hs (pr.symm.trans hp.symm);have hl:=(pr.symm.trans hp.symm).length_eq;rw[da,bi,h.1] at hl;rw[<-hl,FU];refine ic (afD H (kJ R.oW.up) hv) (Int.add_le_add_right (ic (oD (af yx ?_)) t) _);exact pT λx m=>(iN λq=>cV _ (ba (IC R.oW.up x q) (h.2.2 x m).1)).symm
end
section
variable{O:aK}{m j D:Nat}{v:PV}{c:List Nat}{r b:Bool}
noncomputable def JN(n:Nat):PV:=.list ((ax n).map λi:Nat=>.int i)
theorem afd:(ax 6).map (λn=>(ax 6).map λk=>bm O NN IM [JN (n+1),.int (k+1:Nat)] [])=(ax 6).map λn=>(ax 6).map λk=>some (PV.list ((cj (n+1) 0 (k+1)).map eG)):=⋯
theorem Zr:(ax 7).all (λn=>(ax 7).all λk=>decide ((cj n 0 k).length<60))=true:=⋯
theorem ae'(hn:n<7)(hk:k<7):(cj n 0 k).length<60:=cC (b7 (b7 Zr n (dJ hn)) k (dJ hk))
theorem z9(hk:k<=n):cj n 0 k≠[]:=Ci (a:=ax k) (Bw cF TF λ_ m=>⟨cu _,ba (eK m) hk⟩)
theorem Fd:dR n k []=cj n 0 k:=KG _
structure gc(n k:Nat)(vs:List (List Nat×Nat)):Prop where
 n6:n<7
 k1:1<=k
 kn:k<=n
 up:∀q∈vs,q.1.Pairwise (· < ·)
 lt:∀q∈vs,∀x∈q.1,x<n
 len:∀q∈vs,q.1.length<=3
 many:vs.length=2\/vs.length=3
theorem gc.comb(V:gc n k vs):(aI NN (j+1)).fn "combinations" [JN n,.int k] []=some (.list ((cj n 0 k).map eG)):=by
 obtain⟨k,rfl⟩:=uX (fO V.k1);obtain⟨n,rfl⟩:=uX (fO (aq V.k1 V.kn));have hn:=agh V.n6;exact(⋯:_=bm (aI NN j) NN IM [JN (n+1),.int (k+1:Nat)] []).trans (F9.mp (F9.mp afd n (dJ hn)) k (dJ (aQ (Kt V.kn) hn)))
theorem gc.Hq(V:gc n k vs)(hC:C.Nodup):∀q∈vs,(fg C q.1).length<=4:=λq m=>aq (List.Nodup.length_le_of_subset (hC.filter _) λx m=>qt (eL m).2) (yT (V.len q m))
theorem gc.Qm(V:gc n k vs):∀q∈vs,A8 C n q:=λq m=>⟨kz (aq (re ..) (V.len q m)),kJ (V.up q m),V.lt q m⟩
theorem gc.iW(V:gc n k vs):(cj n 0 k).length<60:=ae' V.n6 (aQ V.kn V.n6)
theorem qw(h:c∈cj n 0 k):AA n c:=⟨(sL h).2.1,λx m=>((sL h).2.2 x m).2⟩
theorem gc.six(V:gc n k vs)(h:∀x∈c,x<n):∀x∈c,x<6:=λx m=>ba (h x m) (jt V.n6)
theorem ac1(R:rx n k C)(h:c∈dR n k C):c∈cj n 0 k:=by
 obtain⟨s,ms,rfl⟩:=rg.mp h;have h:=sL ms;exact Bw (by rw[da,h.1,iK R.len]) (Gf.mpr ⟨R.oW.up,h.2.1,λa ma b mb=>ba (IC R.oW.up a ma) (h.2.2 b mb).1⟩) λx m=>⟨cu _,(lN m).elim (R.oW.lt x) λm=>(h.2.2 x m).2⟩
noncomputable def gL(r:Bool):Str:=cond r "slav" "pav"
def rS(r:Bool):Nat->Int:=cond r PO NQ
noncomputable def rD(r:Bool):Nat:=cond r 105 12
def rF(r:Bool):List (Str×PV):=cond r GG II
theorem EW:iZ (aI NN (k+3)) (gL r) (rS r) (rD r):=r.rec aeU Xw
theorem HA(h:Cv cv A):pB k (rD r) (gL r) v cv:=r.rec (adG h) (aau h)
theorem On:(aI NN (k+2)).fn "get_marginal_scorefct" [.str (gL r),.int m] []=some (fV (gL r)):=r.rec Xp Yn
theorem Vm:(aI NN (k+1)).fn "Rule" [.str (gL r)] []=some (.inst cK (rF r)):=r.rec WK Wi
theorem U3:(ak (rF r) "verify_compute_parameters").isNone=true:=r.rec ⋯ ⋯
theorem Y_:xx O (rF r) (gZ b):=r.rec afL afS
noncomputable def aas(S:Nat->Int):Bool:=((ax 5).all λa=>(ax 5).all λb=> !decide (a+b<=4)||decide (S (a+b)<=S a+b*(S (a+1) -S a)))&&((ax 4).all λa=>decide (0<=S (a+1) -S a))&&(ax 5).all λa=>decide (0<=S a)
theorem He(h:aas S=true):sr S:=by
 have h:=aW h;have g:=aW h.1;refine⟨λa ha b hb l=>?_,λa ha=>cC (b7 g.2 a (dJ ha)),λa ha=>cC (b7 h.2 a (dJ ha))⟩;have:=b7 (b7 g.1 a (dJ ha)) b (dJ hb);rw[dT l] at this;exact cC this
theorem tW:sr (rS r):=He (r.rec ⋯ ⋯)
theorem se:0<rD r/\rD r<=500:=r.rec (by decide) (by decide)
theorem zJ(V:gc n k vs)(H:iZ (aI NN (j+3)) id S D)(h:Cv cv A)(a:AA n A)(pre:pB j D id (a6 n ns vs) cv):(aI NN (j+4)).fn "thiele_score" [.str id,a6 n ns vs,cv] []=some (fq D (d4 S A vs)):=by
 have e:=DJ a.up;have t:=k_ H h (V.six a.lt) (by rw[e];exact V.Hq (kJ a.up)) pre;rw[e] at t;exact t
end
section
variable{j:Nat}{v:PV}{c:List Nat}{r b:Bool}
def xN(S:Nat->Int)(n k:Nat)(vs:List (List Nat×Nat)):List (List Nat):=dQ (λc=>d4 S c vs) (cj n 0 k)
def HQ(n k:Nat)(vs:List (List Nat×Nat)):List (List Nat):=dQ (λc=>d4 ni c vs) (dQ (λc=>d4 uq c vs) (cj n 0 k))
def oG(o:Option PV)(f:PV->PV)(W:List (List Nat)):Prop:=∃out:List (List Nat),o=some (f (.list (out.map PV.set)))/\out.Perm W
theorem oG.of{o o':Option PV}{f g:PV->PV}{W:List (List Nat)}(h:oG o f W)(k:∀l:List PV,o=some (f (.list l))->o'=some (g (.list l))):oG o' g W:=h.imp λout e=>⟨k _ e.1,e.2⟩
theorem lp(H:sr S)(V:gc n k vs):∀c∈cj n 0 k,0<=d4 S c vs:=λc m=>adm H (V.Hq (kJ (qw m).up))
theorem I9{W:List (List Nat)}{w:List Nat->PV}(V:gc n k vs)(h:∀c∈W,c∈cj n 0 k)(n0:W≠[])(hz:W.length<=(cj n 0 k).length)(hw:∀c,Cv (w c) c):oG ((aI NN (j+3)).fn "sorted_committees" [.list (W.map w)] []) (λv=>v) W:=by
 refine(Qd (k:=j) (so:=λc=>c) n0 (aQ hz (eN V.iW (by decide))) λc m=>⟨hw c,kJ (qw (h c m)).up,V.six (qw (h c m)).lt⟩).imp λout e=>⟨e.1,e.2.trans (.of_eq ?_)⟩;exact(pT λc m=>DJ (qw (h c m)).up).trans (List.map_id _)
theorem YD(V:gc n k vs):oG ((aI NN (j+6)).fn "_thiele_methods_bruteforce" [] [("scorefct_id",.str (gL r)),("profile",a6 n ns vs),("committeesize",.int k),("resolute",.bool false),("max_num_of_committees",.none)]) (λv=>.tup [v,.any]) (xN (rS r) n k vs):=
 (I9 (j:=j+2) (w:=eG) V (λc m=>(eL m).1) (tX (lp tW V) (z9 V.kn)) (re ..) .tup).of λl e=>
  (⋯:_=bm (aI NN (j+5)) NN A1 [] [("scorefct_id",.str (gL r)),("profile",a6 n ns vs),("committeesize",.int k),("resolute",.bool false),("max_num_of_committees",.none)]).trans
   (abr (qd (k:=j+2) se.1 se.2) (V.comb (j:=j+4)) (eN V.iW (by decide)) (λc m=>⟨zJ (j:=j+1) V EW (.tup c) (qw m) (HA (.tup c)),lp tW V c m⟩) e)
theorem N7(V:gc n k vs):Jy (aI NN (j+4)) (rD r) n (gL r) (a6 n ns vs) (λC c=>jx (rS r) C c vs):=
 ⟨λh=>aaH EW (aq (cy V.n6) (by decide)) V.Qm h.lt,λ_=>ac0 tW λq m=>(V.Qm q m).lT⟩
def bxT(r:Bool)(n:Nat)(ns:PV)(vs:List (List Nat×Nat))(k:Nat)(C:List Nat):BX:=⟨gL r,n,ns,vs,k,.set C,rD r⟩
theorem Vc(V:gc n k vs):CN (aI NN (j+5)) (bxT r n ns vs k C) (λc=>d4 (rS r) c vs) λC=>iz (rD r) C (jx (rS r) C · vs) where
 tofX:=qd (k:=j+2) se.1 se.2
 th h _:=zJ (j:=j+1) V EW (.list _) h (HA (.list _))
 mt h _:=(N7 (j:=j+1) V).fn ⟨kJ h.up,h.lt⟩
 ub R _ hp hs c hc:=Yu tW R (λq m=>⟨kJ (V.up q m),V.Hq (kJ (qw (ac1 R hc)).up) q m⟩) hp hs hc
 Mo:=Z' (k:=j+1) se.1 se.2
 nc:=AJ
 EL:=eN V.n6 (by decide)
 kn:=V.kn
theorem Y8(V:gc n k vs):oG ((aI NN (j+6)).fn "_thiele_methods_branchandbound" [] [("scorefct_id",.str (gL r)),("profile",a6 n ns vs),("committeesize",.int k),("resolute",.bool false),("max_num_of_committees",.none)]) (λv=>.tup [v,.any]) (xN (rS r) n k vs):=by
 refine bE λgG hG=>?_;obtain⟨C,hC,hl,hs⟩:=acj (k:=k) (qd (k:=j+1) se.1 se.2) se.1 (eN V.n6 (by decide)) (N7 (r:=r) (ns:=ns) (j:=j) V) V.kn (On (k:=j+2));obtain⟨out,e,hp⟩:=Qd (k:=j+1) (l:=[C]) (v:=lst) (so:=λc=>c) (Sn _ _) (show(1:Nat)<64 by decide) λc m=>cY m▸⟨.list C,hC.nd,V.six hC.lt⟩;have eo:out=[d5 C]:=List.perm_singleton.mp hp;subst eo;have mC:d5 C∈cj n 0 k:=Bw ((DV hC.nd).length_eq.trans hl) oZ λx m=>⟨cu _,hC.lt x (rN.mp m)⟩;have hq:(aI NN (j+5)).fn "_seq_thiele_resolute" [.str (gL r),a6 n ns vs,.int k] []=some (.tup [.list [.set (d5 C)],.any]):=(⋯:_=bm (aI NN (j+4)) NN zx [.str (gL r),a6 n ns vs,.int k] []).trans (hs _ e);obtain⟨best,hb,hr⟩:=ad6 (C:=d5 C) (Vc (r:=r) (ns:=ns) (j:=j) (C:=d5 C) V) (jt V.n6) (Fd▸eN V.iW (by decide)) V.k1 (Fd▸mC) (Fd▸lp tW V) (On (k:=j+3)) hq (zJ (j:=j+1) V EW (.set _) (qw mC) (HA (.set _)));rw[Fd] at hb;have W:=I9 (j:=j+2) (W:=best) (w:=lst) V (λc m=>(eL (hb.mem_iff.mp m)).1) (λq=>tX (lp tW V) (z9 V.kn) (List.Perm.eq_nil (q▸hb.symm))) (aq (aD hb.length_eq) (re ..)) .list;exact hG (W.elim λout e=>⟨out,(⋯:_=bm (aI NN (j+5)) NN AL [] [("scorefct_id",.str (gL r)),("profile",a6 n ns vs),("committeesize",.int k),("resolute",.bool false),("max_num_of_committees",.none)]).trans (hr _ e.1),e.2.trans hb⟩)
theorem afB:∀{vs:List (List Nat×Nat)},vs.length=2\/vs.length=3->∃m,(aI NN (j+1)).fn "len" [a6 n ns vs] []=some (.int (m+1:Nat))
 |[a,b],_=>⟨1,O_⟩
 |[a,b,c],_=>⟨2,aaE⟩
 |[],h=>absurd h (by decide)
 |[a],h=>absurd h (by show ¬(1=2\/1=3);decide)
 |a::b::c::d::l,h=>h.elim nofun nofun
theorem OZ{fs:List (Str×PV)}{fu:Str}(V:gc n k vs)(F:xx (aI NN (j+1)) fs fu):bm (aI NN (j+1)) NN v8 [.inst cK fs] (rW (a6 n ns vs) k fu)=some .none:=(afB V.many).elim λ_ h=>ae3 F V.k1 V.kn AJ h
theorem abD(V:gc n k vs):oG ((aI NN (j+6)).fn (zN b) [] [("scorefct_id",.str (gL r)),("profile",a6 n ns vs),("committeesize",.int k),("resolute",.bool false),("max_num_of_committees",.none)]) (λv=>.tup [v,.any]) (xN (rS r) n k vs):=b.rec (YD V) (Y8 V)
theorem Og(V:gc n k vs):oG ((aI NN (j+7)).fn "compute_thiele_method" [] (yh (gL r) (a6 n ns vs) k (gZ b))) (λv=>v) (xN (rS r) n k vs):=(abD (b:=b) V).of λl e=>
 (⋯:_=bm (aI NN (j+6)) NN Bf [] (yh (gL r) (a6 n ns vs) k (gZ b))).trans (ab2 (b:=b) (Vm (k:=j+5)) U3 ((show _=bm (aI NN (j+5)) NN v8 [.inst cK (rF r)] (rW (a6 n ns vs) k (gZ b)) by cases r<;>cases b<;>rfl').trans (OZ (j:=j+4) V Y_)) e)
theorem afa(V:gc n k vs):oG ((aI NN (j+8)).fn (cond r "compute_slav" "compute_pav") [a6 n ns vs,.int k] [("algorithm",.str (gZ b))]) (λv=>v) (xN (rS r) n k vs):=by
 cases r with
 |false=>exact(Og (r:=false) (b:=b) V).of λl e=>(⋯:_=bm (aI NN (j+7)) NN Bn [a6 n ns vs,.int k] [("algorithm",.str (gZ b))]).trans (Y0 e)
 |true=>exact(Og (r:=true) (b:=b) V).of λl e=>(⋯:_=bm (aI NN (j+7)) NN BN [a6 n ns vs,.int k] [("algorithm",.str (gZ b))]).trans (a_ e)
theorem uo:sr ni/\sr uq:=⟨He ⋯,He ⋯⟩
theorem W9(V:gc n k vs):oG ((aI NN (j+8)).fn "compute_adams" [a6 n ns vs,.int k] []) (λv=>v) (HQ n k vs):=by
 have e1:(aI NN (j+7)).fn "_adams_bruteforce" [a6 n ns vs,.int k,.bool false,.none] []=some (.list ((HQ n k vs).map PV.set)):=
  (⋯:_=bm (aI NN (j+6)) NN Bg [a6 n ns vs,.int k,.bool false,.none] []).trans (Xz (qd (k:=j+3) (by decide) (by decide)) (qd (k:=j+3) (by decide) (by decide)) (V.comb (j:=j+5)) (z9 V.kn) (eN V.iW (by decide)) (λc m=>⟨zJ (j:=j+2) V VJ (.tup c) (qw m) (aaC (.tup c)),lp uo.2 V c m⟩) (λc m=>⟨zJ (j:=j+2) V aak (.tup c) (qw m) (aaU (.tup c)),lp uo.1 V c m⟩) AJ λc m=>by
   have a:=qw m;have:=JE (k:=j+4) (nc:=.int n) (.tup c) (kJ a.up) (V.six a.lt) (.inr ⟨n,rfl,λx m=>jc (a.lt x m)⟩);rw[DJ a.up] at this;exact this)
 have sub:∀c∈dQ (λc=>d4 uq c vs) (cj n 0 k),c∈cj n 0 k:=λc m=>(eL m).1;exact(I9 (j:=j+4) (w:=PV.set) V (λc m=>sub c (eL m).1) (tX (λc m=>lp uo.1 V c (sub c m)) (tX (lp uo.2 V) (z9 V.kn))) (aq (re ..) (re ..)) .set).of λl e=>
  (⋯:_=bm (aI NN (j+7)) NN Az [a6 n ns vs,.int k] []).trans (Y4 (Yj (k:=j+6)) (Wt (k:=j+6)) ((⋯:_=bm (aI NN (j+6)) NN v8 [.inst cK qq] (rW (a6 n ns vs) k (gZ false))).trans (OZ (j:=j+5) V aa0)) e1 e)
end
end
section
variable{q W:Nat->Nat->Int}{rk:Nat->Nat}{ps l:List Nat}{b K S:Nat}{T:Nat->Bool}
section
def e9(q:Nat->Nat->Int):Prop:=∀a j,q a (j+1)<q a j
variable{M M' t t':Nat->Nat}{a c i j:Nat}
theorem e9.EM(h:e9 q)(k:i<j):q a j<q a i:=by
 induction k with
 |refl=>exact h a i
 |step _ ih=>exact yz (h a _) ih
theorem e9.qu(h:e9 q)(k:i<=j):q a j<=q a i:=(Nat.eq_or_lt_of_le k).elim (λe=>e▸tw _) λk=>mH (h.EM k)
def qR(q:Nat->Nat->Int)(rk M:Nat->Nat)(ps:List Nat)(t:Nat->Nat):Prop:=
 ∀a∈ps,∀b∈ps,a≠b->0<t a->t b<M b->q b (t b)<=q a (t a-1)/\(rk b<rk a->q b (t b)<q a (t a-1))
def Ax(q:Nat->Nat->Int)(rk:Nat->Nat)(ps:List Nat)(t:Nat->Nat):Prop:=∀M,qR q rk M ps t
def Fb(rk:Nat->Nat)(ps:List Nat):Prop:=∀a∈ps,∀b∈ps,rk a=rk b->a=b
theorem Rw{Gu:List Nat}(h:e9 q)(inj:Fb rk ps)(hs:∀a∈Gu,a∈ps)(F:qR q rk M ps t)(F':qR q rk M' Gu t')(ha:a∈Gu)(hb:b∈Gu)(h1:t' b<t b)(h2:t a<t' a)(ma:t a<M a)(mb:t' b<M' b):False:=by
 have ne:a≠b:=λe=>oB h2 (e▸h1);have x:=F b (hs b hb) a (hs a ha) ne.symm (aQ (cu _) h1) ma;have y:=F' a ha b hb ne (aQ (cu _) h2) mb;have z1:q b (t b-1)<=q b (t' b):=h.qu (mM h1);have z2:q a (t' a-1)<=q a (t a):=h.qu (mM h2);rcases TG (rk a) (rk b) with r|r|r
 ·exact im (ic z1 (ic y.1 z2)) (x.2 r)
 ·exact ne (inj a (hs a ha) b (hs b hb) r)
 ·exact im x.1 (pQ z1 (lC (y.2 r) z2))
noncomputable def su(t:Nat->Nat)(ps:List Nat):Nat:=(ps.map t).sum
theorem mf(h:∀a∈ps,t a<=t' a):su t ps<=su t' ps:=by
 induction ps with
 |nil=>exact bf _
 |cons c ps ih=>exact BV (h c (.head _)) (ih λa m=>h a (.tail c m))
theorem Ϫ(h:su t ps<su t' ps):∃a∈ps,t a<t' a:=y8 λn=>gN (mf λa m=>cZ λk=>n ⟨a,m,k⟩) h
theorem G'(h:∀a∈ps,t a<=t' a)(hb:b∈ps)(k:t b<t' b):su t ps<su t' ps:=by
 induction ps with
 |nil=>exact mN hb
 |cons c ps ih=>
  have g:=mf λa m=>h a (.tail c m);rcases bw hb with rfl|m
  ·exact Nat.add_lt_add_of_lt_of_le k g
  ·exact Nat.add_lt_add_of_le_of_lt (h c (.head _)) (ih (λa m=>h a (.tail c m)) m)
theorem Rc(h:su t ps<=su t' ps)(hb:b∈ps)(k:t' b<t b):∃a∈ps,t a<t' a:=y8 λn=>gN h (G' (λa m=>cZ λk=>n ⟨a,m,k⟩) hb k)
theorem Bj(h:∀a∈ps,t a<=t' a)(e:su t ps=su t' ps)(ha:a∈ps):t a=t' a:=mK (h a ha) (cZ λk=>gE (G' h ha k) e)
theorem qO:su (λi=>t i+t' i) ps=su t ps+su t' ps:=by
 induction ps with
 |nil=>rfl
 |cons c ps ih=>exact(af (t c+t' c+ ·) ih).trans (by rw[fC,Tr (t' c),<-fC];rfl)
theorem xV(h:∀a∈ps,t a=t' a):su t ps=su t' ps:=af yx (pT h)
theorem gz{n:Nat}:su (λ_=>n) ps=n*ps.length:=by
 induction ps with
 |nil=>rfl
 |cons c ps ih=>exact(af (n+ ·) ih).trans ((gj ..).trans (Nat.mul_succ ..).symm)
theorem GN{P:Nat->Bool}:su t (ps.filter P)=su (λi=>if P i=true then t i else 0) ps:=by
 induction ps with
 |nil=>rfl
 |cons c ps ih=>
  cases h:P c with
  |true=>rw[tx h];exact(af (t c+ ·) ih).trans (af (· +_) (iP h).symm)
  |false=>rw[uZ (ne_true_of_eq_false h)];exact ih.trans ((f5 _).symm.trans (af (· +_) (iN (ne_true_of_eq_false h)).symm))
theorem DS(m:a∈ps):t a<=su t ps:=by
 induction ps with
 |nil=>exact mN m
 |cons c ps ih=>exact(bw m).elim (λe=>e▸cW ..) λm=>aq (ih m) (i7 ..)
theorem X8(h:e9 q)(inj:Fb rk ps)(F:qR q rk M ps t)(F':qR q rk M ps t')(hm:∀a∈ps,t a<=M a)(CH:∀a∈ps,t' a<=M a)(hs:su t ps=su t' ps):∀a∈ps,t a=t' a:=λa ha=>Bj (λb hb=>cZ λk=>by
 obtain⟨a,ha,k'⟩:=Rc (aD hs) hb k;exact Rw h inj (λ_ m=>m) F F' ha hb k k' (ba k' (CH a ha)) (ba k (hm b hb))) hs ha
end
section
noncomputable def jv(t M:Nat->Nat)(l:List Nat):List Nat:=l.filter λi=>decide (t i<=M i)
noncomputable def ck(t M:Nat->Nat)(l:List Nat):List Nat:=l.filter λi=>decide (M i<t i)
def s8(bq:List Nat->Nat->Nat->Nat)(M:Nat->Nat):Nat->List Nat->Nat->Nat->Nat
 |0,_,_=>M
 |n+1,l,K=>if ck (bq l K) M l=[] then λi=>if i∈l then bq l K i else M i else s8 bq M n (jv (bq l K) M l) (K-su M (ck (bq l K) M l))
structure lS(b B:Nat)(l:List Nat)(K:Nat):Prop where
 lo:b*l.length<=K
 one:1<=K
 hi:K<=B
structure I6(q:Nat->Nat->Int)(rk:Nat->Nat)(b K:Nat)(l:List Nat)(t:Nat->Nat):Prop where
 sum:su t l=K
 lJ:Ax q rk l t
 ge:∀i∈l,b<=t i
def AM(q:Nat->Nat->Int)(rk:Nat->Nat)(ps:List Nat)(bq:List Nat->Nat->Nat->Nat)(b B:Nat):Prop:=∀l K,l.Sublist ps->l≠[]->lS b B l K->I6 q rk b K l (bq l K)
variable{M t t':Nat->Nat}{a B c i K₀ n:Nat}{bq:List Nat->Nat->Nat->Nat}
theorem Ez{f:Nat->Nat}:su f l=su f (ck t M l)+su f (jv t M l):=by
 refine yS (xV λa _=>?_) (qO.trans (congr (af HAdd.hAdd GN.symm) GN.symm));by_cases k:M a<t a
 ·rw[iP (dT k),iN λh=>nh k (cC h)];rfl
 ·rw[iN λh=>k (cC h),iP (dT (cZ k)),f5]
theorem Jt(s:l.Sublist ps)(nd:ps.Nodup):su (λi=>if i∈l then t i else M i) ps+su M l=su t l+su M ps:=by
 induction s with
 |slnil=>rfl
 | @cons l ps a s ih=>
  have nd:=iV nd;refine((fC ..).trans (congr (af HAdd.hAdd (iN λm=>nd.1 (s.mem m))) (ih nd.2))).trans (Tr ..)
 | @cons_cons l ps a s ih=>
  have nd:=iV nd;have e:su (λi=>if i∈a::l then t i else M i) ps=su (λi=>if i∈l then t i else M i) ps:=xV λx m=>ite_congr (propext ⟨λh=>(bw h).resolve_left λe=>nd.1 (e▸m),.tail _⟩) (λ_=>rfl) λ_=>rfl;show(if a∈a::l then t a else M a)+su (λi=>if i∈a::l then t i else M i) ps+(M a+su M l)=t a+su t l+(M a+su M ps);rw[iP (.head _),e,agQ,ih nd.2,agQ]
theorem I6.next(A:I6 q rk b K l t)(G:lS b B l K)(hc:c∈ck t M l):su M (ck t M l)<K/\lS b B (jv t M l) (K-su M (ck t M l)):=by
 have le:∀a∈ck t M l,M a<=t a:=λa m=>cy (cC (eL m).2);have h1:=G' le hc (cC (eL hc).2);have e:=(A.sum.symm.trans (Ez (t:=t) (M:=M)));have h2:su M (ck t M l)<K:=ba h1 (aq (cW ..) (aD e.symm));refine⟨h2,KR ?_,q9 h2,aq (kD ..) G.hi⟩;rw[e,gj];exact BV (cy h1) (aq (aD gz.symm) (mf λa m=>A.ge a (eL m).1))
structure xf(q:Nat->Nat->Int)(rk M:Nat->Nat)(ps:List Nat)(K:Nat)(t:Nat->Nat):Prop where
 lJ:qR q rk M ps t
 sum:su t ps=K
 le:∀a∈ps,t a<=M a
def aea(q:Nat->Nat->Int)(rk M:Nat->Nat)(ps:List Nat)(K:Nat)(l:List Nat):Prop:=∀c∈ps,c∉l->0<M c->∀b∈l,∀t,su t l=K->Ax q rk l t->q b (t b)<q c (M c-1)
theorem aa8(h:e9 q)(nd:ps.Nodup)(inj:Fb rk ps)(A:AM q rk ps bq b B):∀{n:Nat} {l:List Nat} {K:Nat},l.length<n->l.Sublist ps->(l≠[]->lS b B l K)->su M l+K₀=su M ps+K->K<=su M l->aea q rk M ps K l->xf q rk M ps K₀ (s8 bq M n l K):=by
 intro n;induction n with
 |zero=>exact λhn=>absurd hn (yW _)
 |succ n ih=>
  intro l K hn s hG hK hM inv;show xf q rk M ps K₀ (if ck (bq l K) M l=[] then λi=>if i∈l then bq l K i else M i else s8 bq M n (jv (bq l K) M l) (K-su M (ck (bq l K) M l)));by_cases hs:ck (bq l K) M l=[]
  ·rw[iP hs];have le:∀i∈l,bq l K i<=M i:=λi m=>cZ λk=>Ci (o5 ⟨m,dT k⟩:i∈ck (bq l K) M l) hs;by_cases hl:l=[]
   ·subst hl;have hK0:K=0:=TU.mp hM;have ex:(λi=>if i∈[] then bq [] K i else M i)=M:=funext λi=>iN eX;rw[ex];exact⟨λa _ b _ _ _ eZ=>absurd eZ (cV _),by rw[hK0] at hK;exact((f5 _).symm.trans hK).symm,λa _=>bf _⟩
   ·have C:=A l K s hl (hG hl);refine⟨λa ha b hb ne h0 eZ=>?_,?_,λa m=>?_⟩
    ·by_cases pb:b∈l
     ·rw[iP pb] at eZ⊢;by_cases pa:a∈l
      ·rw[iP pa] at h0⊢;exact C.lJ M a pa b pb ne h0 eZ
      ·rw[iN pa] at h0⊢;have:=inv a ha pa h0 b pb _ C.sum C.lJ;exact⟨mH this,λ_=>this⟩
     ·rw[iN pb] at eZ;exact absurd eZ (cV _)
    ·have e:=Jt (t:=bq l K) (M:=M) s nd;rw[C.sum,gj K,<-hK,gj] at e;exact KW e
    ·by_cases pa:a∈l
     ·exact aq (aD (iP pa)) (le a pa)
     ·exact aD (iN pa)
  ·rw[iN hs];obtain⟨c,l',e⟩:=Ch hs;have hc:c∈ck (bq l K) M l:=e▸ .head _;clear e l';have hl:l≠[]:=Ci (eL hc).1;have C:=A l K s hl (hG hl);generalize bq l K=t at*;have N:=C.next (hG hl) hc;have eM:=Ez (f:=M) (t:=t) (M:=M) (l:=l);have et:=C.sum.symm.trans (Ez (f:=t) (t:=t) (M:=M) (l:=l));have sub:∀a∈jv t M l,a∈l:=λa m=>(eL m).1;have more:su M (ck t M l)<=su t (ck t M l):=mf λa m=>cy (cC (eL m).2);refine ih ?_ (uT.trans s) (λ_=>N.2) ?_ ?_ λd hd pd h0 b hb t' s' f'=>?_
   ·refine ba (ag3.mpr ⟨c,(eL hc).1,λk=>?_⟩) (jt hn);exact nh (cC (eL hc).2) (cC k)
   ·rw[<-Nat.add_sub_assoc (cy N.1),<-hK,eM,fC,FU]
   ·exact TY.mpr (eM▸hM)
   ·have up:t b<=t' b:=cZ λk=>by
     obtain⟨a,ha,k'⟩:=Rc (t:=t) (t':=t') (aq (KR (aq (aD (gj ..)) (aq (mF more _) (aD et.symm)))) (aD s'.symm)) hb k;exact Rw h (λa ha b hb=>inj a (s.mem ha) b (s.mem hb)) sub (C.lJ λi=>t i+1) (f' λi=>t' i+1) ha hb k k' (i5 _) (i5 _)
    have hq:=h.qu (a:=b) up;by_cases dl:d∈l
    ·have lt:M d<t d:=oj λk=>pd (o5 ⟨dl,dT k⟩);have ne:d≠b:=λe=>pd (e▸hb);exact pQ (ic hq ((C.lJ λi=>t i+1) d dl b (sub b hb) ne (aQ (cu _) lt) (i5 _)).1) (h.EM (agR h0 lt))
    ·exact pQ hq (inv d hd dl h0 b (sub b hb) t C.sum C.lJ)
end
section
noncomputable def iY(q:Nat->Nat->Int)(i:Nat):Nat->Int
 |0=>0
 |c+1=>iY q i c+q i c
noncomputable def sI(f:Nat->Int)(ps:List Nat):Int:=(ps.map f).sum
def kX(q:Nat->Nat->Int)(ps:List Nat)(x:Nat->Nat):Int:=sI (λi=>iY q i (x i)) ps
def lF(q:Nat->Nat->Int)(M:Nat->Nat)(ps:List Nat)(x:Nat->Nat):Prop:=∀a∈ps,∀b∈ps,a≠b->0<x a->x b<M b->q b (x b)<=q a (x a-1)
variable{M x y:Nat->Nat}{a i n d:Nat}{f g:Nat->Int}{r:Int}
theorem qR.opt(F:qR q rk M ps x):lF q M ps x:=λa ha b hb n h k=>(F a ha b hb n h k).1
theorem aeH(h:∀a∈ps,f a<=g a):sI f ps<=sI g ps:=by
 induction ps with
 |nil=>exact tw _
 |cons c ps ih=>exact F6 (h c (.head _)) (ih λa m=>h a (.tail c m))
theorem ym(h:∀a∈ps,f a=g a):sI f ps=sI g ps:=af yx (pT h)
theorem D2{f:Nat->Nat}:sI (λi=>r*(f i:Int)) ps=r*(su f ps:Int):=by
 induction ps with
 |nil=>exact(TH r).symm
 |cons c ps ih=>exact(af (r*(f c:Int)+ ·) ih).trans ((KX ..).symm.trans (af (r* ·) (wS ..).symm))
theorem Yl(h:e9 q)(h1:0<x i->r<=q i (x i-1))(h2:x i<y i->q i (x i)<=r):iY q i (y i)+r*(x i:Int)<=iY q i (x i)+r*(y i:Int):=by
 have mul (n:Nat):r*((n+1:Nat):Int)=r*(n:Int)+r:=by rw[wS];exact(KX ..).trans (af _ (Kg r))
 generalize y i=n at*;generalize x i=m at*;rcases KU m n with k|k
 ·obtain⟨d,rfl⟩:=TD k;clear k;induction d with
  |zero=>exact tw _
  |succ d ih=>
   have:=F6 (ih λl=>h2 (KB l)) (ic (h.qu (cW m d)) (h2 (qU (eE d))));rw[show m+(d+1)=(m+d)+1 from rfl,mul];show iY q i (m+d)+q i (m+d)+r*m<=_;rw[F7,<-mO];exact this
 ·obtain⟨d,rfl⟩:=TD k;clear k;induction d with
  |zero=>exact tw _
  |succ d ih=>
   have hr:r<=q i (n+d):=h1 (eE _);have:=F6 (ih (λl=>ic hr (h.qu (kD ..))) λl=>absurd l (gN (cW ..))) hr;rw[show n+(d+1)=(n+d)+1 from rfl,mul];show _<=iY q i (n+d)+q i (n+d)+r*n;rw[F7,<-mO];exact this
theorem JP{f g:Nat->Int}:sI (λi=>f i+g i) ps=sI f ps+sI g ps:=Qz
theorem abL(h:e9 q)(O:lF q M ps x)(hx:∀a∈ps,x a<=M a)(hy:∀a∈ps,y a<=M a)(hs:su y ps=su x ps):kX q ps y<=kX q ps x:=by
 by_cases e:∃b∈ps,x b<M b
 ·obtain⟨b0,hb0,lb0⟩:=e;have mb:∀{b},b∈ps.filter (λi=>decide (x i<M i))↔b∈ps/\x b<M b:=oC.trans (and_congr_right λ_=>decide_eq_true_iff);obtain⟨b,hb,ebl⟩:∃b∈ps.filter (λi=>decide (x i<M i)),∀c∈ps.filter (λi=>decide (x i<M i)),q c (x c)<=q b (x b):=(GQ (sc:=λi=>q i (x i)) (m:=q b0 (x b0)) (l:=ps.filter λi=>decide (x i<M i))).elim (λe=>⟨b0,mb.mpr ⟨hb0,lb0⟩,λc m=>e▸rI.2 c m⟩) λ⟨b,m,e⟩=>⟨b,m,λc mc=>ic (rI.2 c mc) (oD e.symm)⟩;have hb:=mb.mp hb;have t:sI (λi=>iY q i (y i)+q b (x b)*(x i:Int)) ps<=sI (λi=>iY q i (x i)+q b (x b)*(y i:Int)) ps:=aeH λa ha=>by
   refine Yl h (λh0=>?_) λl=>ebl a (mb.mpr ⟨ha,ba l (hy a ha)⟩);by_cases k:a=b
   ·exact k▸h.qu (kD ..)
   ·exact O a ha b hb.1 k h0 hb.2
  rw[JP,JP,D2,D2,hs] at t;exact Int.le_of_add_le_add_right t
 ·have le:∀a∈ps,y a<=x a:=λa m=>aq (hy a m) (cZ λk=>e ⟨a,m,k⟩);exact oD (ym λa m=>af (iY q a) (Bj le hs m))
theorem QH(nd:ps.Nodup)(ha:a∈ps)(h:∀i,i≠a->f i=g i):sI f ps+g a=sI g ps+f a:=by
 induction ps with
 |nil=>exact mN ha
 |cons c ps ih=>
  have nd:=iV nd;show f c+sI f ps+g a=g c+sI g ps+f a;by_cases e:c=a
  ·subst e;rw[ym (f:=f) (g:=g) λi m=>h i λe=>nd.1 (e▸m),F7,uY (f c),mO,uY (f c),<-mO]
  ·rw[h c e,mO,mO,ih nd.2 ((bw ha).resolve_left (gV e))]
noncomputable def oK(x:Nat->Nat)(a b i:Nat):Nat:=if i=a then x a-1 else if i=b then x b+1 else x i
theorem Oe{F:Nat->Nat->Int}(nd:ps.Nodup)(ha:a∈ps)(hb:b∈ps)(ne:a≠b):sI (λi=>F i (oK x a b i)) ps+(F a (x a)+F b (x b))=sI (λi=>F i (x i)) ps+(F a (x a-1)+F b (x b+1)):=by
 have e1:=QH (f:=λi=>F i (oK x a b i)) (g:=λi=>if i=a then F a (x a) else F i (oK x a b i)) nd ha λi h=>(iN h).symm;have e2:=QH (f:=λi=>if i=a then F a (x a) else F i (oK x a b i)) (g:=λi=>F i (x i)) nd hb λi h=>by
  by_cases k:i=a
  ·rw[iP k,k]
  ·rw[iN k];unfold oK;rw[iN k,iN h]
 rw[iP rfl,show oK x a b a=x a-1 from iP rfl] at e1;rw[iN ne.symm,show oK x a b b=x b+1 from(iN ne.symm).trans (iP rfl)] at e2;rw[<-mO,e1,F7,e2,F7,mO]
theorem acs(nd:ps.Nodup)(hx:∀a∈ps,x a<=M a)(h:∀y:Nat->Nat,(∀a∈ps,y a<=M a)->su y ps=su x ps->kX q ps y<=kX q ps x):lF q M ps x:=λa ha b hb ne h0 rm=>by
 obtain⟨m,hm⟩:=uX (fO h0);have e:=Oe (F:=λi n=>iY q i n) (x:=x) nd ha hb ne;have es:=Oe (F:=λ_ n=>(1:Int)*(n:Int)) (x:=x) nd ha hb ne;rw[D2,D2,hm] at es;have l:=h (oK x a b) (λi mi=>?_) (wR.mp ?_)
 ·rw[hm] at e⊢;have e:kX q ps (oK x a b)+(iY q a m+q a m+iY q b (x b))=kX q ps x+(iY q a m+(iY q b (x b)+q b (x b))):=e;show q b (x b)<=q a m;lia
 ·unfold oK;by_cases k:i=a
  ·rw[iP k];exact aq (kD ..) (k▸hx i mi)
  ·rw[iN k];by_cases k2:i=b
   ·rw[iP k2];exact k2▸rm
   ·rw[iN k2];exact hx i mi
 ·show((su (oK x a b) ps:Nat):Int)=(su x ps:Nat);lia
end
section
variable{M x g:Nat->Nat}{A B:List Nat}{a:Nat}
theorem Vf(ha:a∈A)(hb:b∉A):(A++B).idxOf a<(A++B).idxOf b:=by
 rw[List.idxOf_append,List.idxOf_append,iP ha,iN hb];exact ba (List.idxOf_lt_length_of_mem ha) (i7 ..)
noncomputable def xM(p:Nat->Bool)(ps:List Nat):List Nat:=ps.filter p++ps.filter λi=> !p i
structure JM(q:Nat->Nat->Int)(M x:Nat->Nat)(a b:Nat):Prop where
 ne:a≠b
 pos:0<x a
 room:x b<M b
 eq:q b (x b)=q a (x a-1)
open Classical in
theorem Z4(h:e9 q)(O:lF q M ps x):∃p:Nat->Bool,qR q (λi=>(xM p ps).idxOf i) M ps x:=by
 have key {a b c:Nat} (ha:a∈ps) (hc:c∈ps) (t:JM q M x a b) (u:JM q M x b c):False:=by
  have s1:q c (x c)<q a (x a-1)->False:=λz=>by
   have:=h.qu (a:=b) (kD (x b) 1);exact absurd (lC z (oD t.eq.symm)) (im (u.eq▸this))
  have s2:q b (x b)<q c (x c):=u.eq▸h.EM (y0 u.pos KY);by_cases e:a=c
  ·exact s1 (e▸h.EM (y0 t.pos KY))
  ·exact im (O a ha c hc e t.pos u.room) (t.eq▸s2)
 refine⟨λa=>decide (∃b∈ps,JM q M x a b),λa ha b hb ne h0 hm=>⟨O a ha b hb ne h0 hm,λr=>?_⟩⟩;refine TX.mpr ⟨O a ha b hb ne h0 hm,λe=>oB r (Vf (o5 ⟨ha,dT ⟨b,hb,ne,h0,hm,e⟩⟩) λm=>?_)⟩;obtain⟨c,hc,u⟩:=cC (eL m).2;exact key ha hc ⟨ne,h0,hm,e⟩ u
noncomputable def AQ:List Nat->List Nat->Bool
 |a::l,b::m=>decide (a<b)||(decide (a=b)&&AQ l m)
 |_,_=>true
theorem UL(h:e9 q)(F:qR q rk M ps g)(O:lF q M ps x)(hg:∀a∈ps,g a<=M a)(hx:∀a∈ps,x a<=M a):∀{l:List Nat},l.Pairwise (λa b=>rk a<rk b)->(∀a∈l,a∈ps)->su x l=su g l->AQ (l.map x) (l.map g)=true:=by
 intro l;induction l with
 |nil=>exact λ_ _ _=>rfl
 |cons a l ih=>
  intro hp hl hs;have hp:=mj hp;have hs:x a+su x l=g a+su g l:=hs;show(decide (x a<g a)||(decide (x a=g a)&&AQ (l.map x) (l.map g)))=true;rcases TG (x a) (g a) with k|k|k
  ·rw[dT k];rfl
  ·rw[k] at hs;rw[dF (gN (aD k.symm)),dT k,ih hp.2 (λb m=>hl b (.tail _ m)) (KW hs)];rfl
  ·exfalso;obtain⟨b,hb,k'⟩:=Ϫ (ps:=l) (t:=x) (t':=g) (by lia);have ha:=hl a (.head _);have rm:=hl b (.tail _ hb);have ne:a≠b:=λe=>oB k (e▸k');have z1:=(F b rm a ha ne.symm (aQ (cu _) k') (ba k (hx a ha))).2 (hp.1 b hb);have z2:=O a ha b rm ne (aQ (cu _) k) (ba k' (hg b rm));exact im z2 (pQ (h.qu (mM k)) (lC z1 (h.qu (mM k'))))
end
section
noncomputable def bF(W:Nat->Nat->Int)(S:Nat)(m:Int)(i:Nat):Nat:=((ax S).filter λj=>decide (m<W i j)).length
noncomputable def bG(W:Nat->Nat->Int)(S:Nat)(m:Int)(i:Nat):Bool:=(ax S).any λj=>decide (W i j=m)
noncomputable def mB(T:Nat->Bool)(l:List Nat)(r:Nat):List Nat:=(l.filter T).take r
def fy(W:Nat->Nat->Int)(S:Nat)(m:Int)(l:List Nat)(K i:Nat):Nat:=bF W S m i+if i∈mB (bG W S m) l (K-su (bF W S m) l) then 1 else 0
structure iT(W:Nat->Nat->Int)(S:Nat)(m:Int)(l:List Nat)(K:Nat):Prop where
 lo:su (bF W S m) l<K
 hi:K<=su (bF W S m) l+(l.filter (bG W S m)).length
 le:K<=S
variable{i j a r:Nat}{m:Int}{p:Nat->Bool}
theorem Qp(h:∀j,p (j+1)=true->p j=true):(ax S).filter p=ax ((ax S).filter p).length/\((ax S).filter p).length<=S:=by
 induction S with
 |zero=>exact⟨rfl,bf _⟩
 |succ S ih=>
  rw[Ck,pU];cases e:p S with
  |false=>rw[uZ (ne_true_of_eq_false e),Cm,gO];exact⟨ih.1,yT ih.2⟩
  |true=>
   have down:∀d,∀j,j+d=S->p j=true:=λd=>by
    induction d with
    |zero=>exact λj k=>(af p k).trans e
    |succ d ih=>exact λj k=>h j (ih (j+1) ((wD ..).trans k))
   rw[Gd.mpr λj m=>down (S-j) j (iK (cy (eK m))),tx e,Cm,da,cF];exact⟨Ck.symm,bf _⟩
theorem uA(h:e9 W)(hj:j<S):m<W i j↔j<bF W S m i:=by
 have z:=(Qp (S:=S) (p:=λj=>decide (m<W i j)) λj k=>dT (yz (cC k) (h i j))).1;refine KJ ⟨λk=>?_,λk=>?_⟩ KZ
 ·exact z▸o5 ⟨dJ hj,dT k⟩
 ·exact cC (eL (z▸k:j∈(ax S).filter λj=>decide (m<W i j))).2
theorem OP(h:e9 W):bF W S m i<=S:=(Qp (S:=S) (p:=λj=>decide (m<W i j)) λj k=>dT (yz (cC k) (h i j))).2
theorem Om(h:i∈mB T l r):i∈l/\T i=true:=eL (K0 h)
theorem Xq(hp:l.Pairwise λa b=>rk a<rk b)(ha:a∈mB T l r)(hb:b∈l)(tb:T b=true)(eZ:rk b<rk a):b∈mB T l r:=by
 have hp:=hp.filter T;have mb:b∈l.filter T:=o5 ⟨hb,tb⟩;rw[<-Tl r (l.filter T)] at hp mb;exact(lN mb).elim (λh=>h) λh=>absurd eZ (oB ((Gf.mp hp).2.2 a ha b h))
theorem ZR(nd:l.Nodup):su (λi=>if i∈mB T l r then 1 else 0) l=(mB T l r).length:=by
 have:=Jt (t:=λ_=>1) (M:=λ_=>0) ((Sw r _).trans (uT (p:=T) (l:=l))) nd;rw[gz,gz,gz,BY,BY,y7] at this;exact this
theorem QB(L:iT W S m l K)(nd:l.Nodup):su (fy W S m l K) l=K:=by
 refine qO.trans ?_;rw[ZR nd,show(mB (bG W S m) l (K-su (bF W S m) l)).length=K-su (bF W S m) l from FI.trans (wM (agO (aq L.hi (aD (gj ..)))))];exact iK (cy L.lo)
theorem Ed(L:iT W S m l K)(hi:i∈l):bF W S m i<S:=aQ (DS hi) (ba L.lo L.le)
theorem Dr(h:e9 W)(hs:bF W S m i<S):W i (bF W S m i)<=m/\(bG W S m i=true↔W i (bF W S m i)=m):=by
 have le:=jA λk=>cV _ ((uA h hs).mp k);refine⟨le,λt=>?_,λe=>Ld.mpr ⟨_,dJ hs,dT e⟩⟩;obtain⟨j,hj,e⟩:=Ld.mp t;have e:W i j=m:=cC e;have hj:¬j<bF W S m i:=λk=>Cj m (lC ((uA h (eK hj)).mpr k) (oD e));exact y6 le (ic (oD e.symm) (h.qu (cZ hj)))
theorem acY{t:Nat->Nat}(ne:a≠b)(ha:a∈l)(hb:b∈l):t a+t b<=su t l:=by
 induction l with
 |nil=>exact mN ha
 |cons c l ih=>
  rcases bw ha with rfl|ma
  ·exact i3 (DS ((bw hb).resolve_left ne.symm)) _
  ·rcases bw hb with rfl|mb
   ·exact aq (aD (gj ..)) (i3 (DS ma) (t b))
   ·exact aq (ih ma mb) (i7 ..)
theorem ZS(hW:∀a b i j,i<S->j<S->(W a i<=W b j↔q a i<=q b j))(h:e9 W)(L:iT W S m l K)(nd:l.Nodup)(hp:l.Pairwise λa b=>rk a<rk b):Ax q rk l (fy W S m l K):=λ_ a ha b hb ne h0 _=>by
 have ca:=Ed L ha;have cb:=Ed L hb;have na:=Dr h ca;have nb:=Dr h cb;have sa:fy W S m l K a-1<S:=by
  refine aQ ?_ ca;unfold fy;by_cases k:a∈mB (bG W S m) l (K-su (bF W S m) l)
  ·rw[iP k];exact bf _
  ·rw[iN k];exact kD ..
 have la:m<=W a (fy W S m l K a-1)/\(W a (fy W S m l K a-1)=m->a∈mB (bG W S m) l (K-su (bF W S m) l)):=by
  unfold fy at h0⊢;by_cases k:a∈mB (bG W S m) l (K-su (bF W S m) l)
  ·rw[iP k,wO];exact⟨oD (na.2.mp (Om k).2).symm,λ_=>k⟩
  ·rw[iN k] at h0⊢;have:=(uA h (m:=m) (i:=a) (aQ (kD ..) ca)).mpr (y0 h0 KY);exact⟨mH this,λe=>absurd (e▸this) (Cj _)⟩
 have lb:W b (fy W S m l K b)<=m/\(W b (fy W S m l K b)=m->bG W S m b=true/\b∉mB (bG W S m) l (K-su (bF W S m) l)):=by
  unfold fy;by_cases k:b∈mB (bG W S m) l (K-su (bF W S m) l)
  ·rw[iP k];have:=h b (bF W S m b);rw[nb.2.mp (Om k).2] at this;exact⟨mH this,λe=>absurd (e▸this) (Cj _)⟩
  ·rw[iN k];exact⟨nb.1,λe=>⟨nb.2.mpr e,k⟩⟩
 have lt:rk b<rk a->W b (fy W S m l K b)<W a (fy W S m l K a-1):=λr=>TX.mpr ⟨ic lb.1 la.1,λe=>by
  have t:=lb.2 (y6 lb.1 (e▸la.1));exact t.2 (Xq hp (la.2 (y6 (e▸lb.1) la.1)) hb t.1 r)⟩
 have sb:fy W S m l K b<S:=ba (TE h0) (aq (acY ne ha hb) (aq (aD (QB L nd)) L.le));exact⟨(hW b a _ _ sb sa).mp (ic lb.1 la.1),λr=>y5.mp λz=>im ((hW a b _ _ sa sb).mpr z) (lt r)⟩
end
section
variable{i r:Nat}{m:Int}{fs:List Int}
noncomputable def pX(W:Nat->Nat->Int)(S:Nat)(l:List Nat):List Int:=l.flatMap λi=>(ax S).map (W i)
theorem Sg:((pX W S l).filter λw=>decide (m<w)).length=su (bF W S m) l:=by
 induction l with
 |nil=>rfl
 |cons c l ih=>
  show(((ax S).map (W c)++pX W S l).filter λw=>decide (m<w)).length=bF W S m c+su (bF W S m) l;rw[pU,da,ih,K4,bi];rfl
theorem DI:(pX W S l).length=S*l.length:=by
 induction l with
 |nil=>rfl
 |cons c l ih=>
  show((ax S).map (W c)++pX W S l).length=_;rw[da,ih,bi,cF,gj];rfl
theorem XE(h:e9 W):bF W S (m-1) i<=bF W S m i+if bG W S m i=true then 1 else 0:=cZ λk=>by
 have z:∀j,j<bF W S (m-1) i->m<=W i j:=λj hj=>Int.le_of_sub_one_lt ((uA h (ba hj (OP h))).mpr hj);have c:=aQ (cW ..) k;have cS:=ba c (OP h);have a:=Dr h cS;cases t:bG W S m i with
 |true=>
  rw[t,iP rfl] at k;exact cV _ ((uA h cS).mp (pQ (z _ k) (h i _)))
 |false=>exact dy (t.symm.trans (a.2.mpr (y6 a.1 (z _ c))))
theorem RO:su (λi=>if T i=true then 1 else 0) l=(l.filter T).length:=by rw[<-GN,gz,y7]
theorem Zo(h:e9 W)(hp:fs.Perm (pX W S l))(hs:fs.Pairwise (· <=·))(h0:0<K)(hl:l≠[])(hK:K<=S)(hm:fs[fs.length-K]?=some m):iT W S m l K:=by
 obtain⟨eZ,hm⟩:=zd.mp hm;have e:fs.take (fs.length-K)++m::fs.drop (fs.length-K+1)=fs:=by rw[<-hm,<-B4 eZ,Tl]
 have ld:(fs.drop (fs.length-K+1)).length+1=K:=by
  rw[FJ,<-FR,Ts (aq hK (aq (TI S (ag4.mpr hl)) (aD (hp.length_eq.trans DI).symm))),FQ h0]
 generalize fs.take (fs.length-K)=A at e;generalize fs.drop (fs.length-K+1)=D at e ld;subst e;have hs:=Gf.mp hs;have hd:=mj hs.2.1;have c1:A.filter (λw=>decide (m<w))=[]:=Ge.mpr λw k e=>im (hs.2.2 w k m (.head _)) (cC e);have g1:=(hp.filter λw=>decide (m<w)).length_eq.trans Sg;have g2:=(hp.filter λw=>decide (m-1<w)).length_eq.trans Sg;rw[pU,c1,KS,show(m::D).filter (λw=>decide (m<w))=D.filter (λw=>decide (m<w)) from uZ (ne_true_of_eq_false (dF (Cj m)))] at g1;rw[pU,da,Gd.mpr λw k=>dT (lC (Int.sub_lt_self m Int.one_pos) ((bw k).elim (λe=>oD e.symm) (hd.1 w)))] at g2;refine⟨?_,?_,hK⟩
 ·rw[<-g1,<-ld];exact kz (re ..)
 ·rw[<-RO,<-qO,<-ld];exact aq (aq (i7 ..) (aD g2)) (mf λa _=>XE h)
def vg(W:Nat->Nat->Int)(S:Nat)(m:Int)(l:List Nat)(K:Nat):Bool:=decide (K<su (bF W S m) l+(l.filter (bG W S m)).length)
theorem H4{f:Nat->Nat}:su f l.reverse=su f l:=((FZ l).map f).sum_nat
theorem aeN(L:iT W S m l K)(nd:l.Nodup):vg W S m l K=true↔∃i∈l,fy W S m l K i≠fy W S m l.reverse K i:=by
 have hr:0<K-su (bF W S m) l:=q9 L.lo;have hz:K-su (bF W S m) l<=(l.filter (bG W S m)).length:=TY.mpr L.hi;have e:vg W S m l K=decide (K-su (bF W S m) l<(l.filter (bG W S m)).length):=fv (TJ (cy L.lo)).symm;rw[e,decide_eq_true_iff];unfold fy mB;rw[H4,List.filter_reverse];have mem:∀{i},i∈l.filter (bG W S m)->i∈l:=λh=>(eL h).1;have nd:=nd.filter (bG W S m);generalize K-su (bF W S m) l=r at*;generalize l.filter (bG W S m)=F at*;constructor
 ·intro h;cases F with
  |nil=>exact absurd h (yW _)
  |cons x F=>
   have x1:x∈(x::F).take r:=by
    cases r with
    |zero=>exact absurd hr (cV _)
    |succ r=>exact .head _
   have x2:x∉(x::F).reverse.take r:=λk=>by
    rw[List.reverse_cons,agS (aq (jt h) (aD TK.symm))] at k;exact(iV nd).1 (TL.mp (K0 k))
   exact⟨x,mem (.head _),λk=>by rw[iP x1,iN x2] at k;exact q8 0 (KW k)⟩
 ·rintro⟨i,_,ne⟩;refine pR hz λe=>ne ?_;rw[y9 (aD e.symm),y9 (aq (aD TK) (aD e.symm)),ite_congr (propext TL) (λ_=>rfl) λ_=>rfl]
end
end
section
variable{j:Nat}{v t:Nat->Nat}{O:aK}{l:List Nat}{R:List PV}
section
noncomputable def c9(c:Bool)(j:Nat):Nat:=cond c (2*j+1) (j+1)
def dI(c:Bool)(K:Nat):Nat:=((ax K).map (c9 c)).foldl (· * ·) 1
def Wd(c:Bool)(K:Nat)(v:Nat->Nat)(i j:Nat):Int:=if j<K then((v i*(dI c K/c9 c j):Nat):Int) else-((j:Int)+1)
theorem ad2:[false,true].all (λc=>(ax 8).all λK=>decide (dI c K<d3)&&(ax K).all λj=>decide (dI c K/c9 c j*c9 c j=dI c K)&&decide (0<dI c K/c9 c j)&&(decide (K<=j+1)||decide (dI c K/c9 c (j+1)<dI c K/c9 c j)))=true:=⋯
variable{c:Bool}{K i a b:Nat}
theorem Ag(hK:K<8):dI c K<d3/\∀j,j<K->dI c K/c9 c j*c9 c j=dI c K/\0<dI c K/c9 c j/\(j+1<K->dI c K/c9 c (j+1)<dI c K/c9 c j):=by
 have h:=aW (b7 (b7 ad2 c (by cases c<;>decide)) K (dJ hK));refine⟨cC h.1,λj hj=>?_⟩;have h:=aW (b7 h.2 j (dJ hj));have g:=aW h.1;exact⟨cC g.1,cC g.2,λq=>(lQ h.2).elim (λh=>absurd (cC h) (nh q)) cC⟩
theorem D6:0<c9 c j:=by cases c<;>exact eE _
theorem vC(h:j<K):Wd c K v i j=((v i*(dI c K/c9 c j):Nat):Int):=iP h
theorem Dt(hK:K<8)(hv:∀i,1<=v i):e9 (Wd c K v):=λa j=>by
 by_cases h:j+1<K
 ·rw[vC h,vC (Nat.lt_of_succ_lt h)];exact jc (Nat.mul_lt_mul_of_pos_left (((Ag hK).2 j (Nat.lt_of_succ_lt h)).2.2 h) (hv a))
 ·have n:((j+1:Nat):Int)=(j:Int)+1:=wS j 1;rw[show Wd c K v a (j+1)= -(((j+1:Nat):Int)+1) from iN h,n];by_cases h2:j<K
  ·rw[vC h2];exact lC (TM (agT (KV (fP j) (by decide)) (by decide))) (fP _)
  ·rw[show Wd c K v a j= -((j:Int)+1) from iN h2];exact Int.neg_lt_neg (Int.lt_add_of_pos_right _ (by decide))
theorem Px(hK:K<8)(hi:i<K)(hj:j<K):Wd c K v a i<=Wd c K v b j↔v a*c9 c j<=v b*c9 c i:=by
 rw[vC hi,vC hj,TN];have x:=(Ag (c:=c) hK).2 i hi;have y:=(Ag (c:=c) hK).2 j hj;have e1:v a*(dI c K/c9 c i)*(c9 c i*c9 c j)=dI c K*(v a*c9 c j):=by rw[K5,<-K5 (dI c K/c9 c i),x.1,Nat.mul_left_comm]
 have e2:v b*(dI c K/c9 c j)*(c9 c i*c9 c j)=dI c K*(v b*c9 c i):=by rw[Nat.mul_comm (c9 c i),K5,<-K5 (dI c K/c9 c j),y.1,Nat.mul_left_comm]
 have p:0<dI c K:=x.1▸Tp x.2.1 D6;rw[<-Nat.mul_le_mul_right_iff (Tp (D6 (c:=c) (j:=i)) (D6 (c:=c) (j:=j))),e1,e2,Nat.mul_le_mul_left_iff p]
def ig(c:Bool)(K:Nat)(v:Nat->Nat)(i:Nat):List Int:=(ax K).map (Wd c K v i)
end
section
structure DX where
 l:List Nat
 v:Nat->Nat
 K:Nat
 bM:Str
 ta:Bool
 c:Bool
 b:Nat
def DX.W(X:DX):Nat->Nat->Int:=Wd X.c X.K X.v
noncomputable def DX.vs(X:DX):List PV:=X.l.map λi=>.int (X.v i)
noncomputable def cM(l:List Int):List PV:=l.map PV.int
def bv:aN:=xu.scope.names
def d9(i:Nat):aH:=aJ xu.body i
noncomputable def dG:List Str:=["representatives"]
noncomputable def bJ(X:DX)(R:AV)(r:ar):ar:=("votes",.pv (.list X.vs))::("seats",.pv (.int X.K))::("method",.pv (.str X.bM))::("tiesallowed",.pv (.bool X.ta))::("representatives",R)::r
noncomputable def aO(l:List Nat)(t:Nat->Nat):List PV:=l.map λi=>.int (t i)
def wm(c:Bool)(j:Nat):PV:=.tup [.int (c9 c j:Nat),.int 1]
def tc(c:Bool)(K:Nat):List PV:=(ax K).map (wm c)
variable{X:DX}{n:Nat}
theorem ach(h:X.l.length<=100):aw O NN bv dG [("votes",.pv (.list X.vs)),("seats",.pv (.int X.K)),("method",.pv (.str X.bM)),("tiesallowed",.pv (.bool X.ta))] (d9 0)=nx (bJ X (.own (aO X.l λ_=>0)) []):=by
 refine bg (n:=999999) (K:=bH bv "representatives" true) (p:=.list (aO X.l λ_=>0)) ⋯ ((⋯:_=fW O .Mult (.list [.int 0]) (.int (X.vs.length:Nat))).trans ((GI (aq (aD (bi _)) h)).trans (af (λl=>some (PV.list l)) ?_))) ⋯;unfold dP aO;rw[bi,List.map_const',List.map_const',cF];rfl
def tR(O:aK)(X:DX):Prop:=aw O NN bv dG (bJ X (.own (aO X.l λ_=>0)) []) (d9 1)=nx (bJ X (.own (aO X.l λ_=>X.b)) [("divisors",.pv (.list (tc X.c X.K)))])
def Pi:aH:=aJ (sB 0 (d9 1)) 0
def Ah:aH:=aJ (sB 1 (d9 1)) 0
theorem IU{e:Expr}(hf:mq (gT e) []=true)(he:∀j:Nat,((fT (gY (gS e).names) (gT e) (.int j) []).bind λfR=>(pZ ((ip n O).t (gS e).names fR) false (gI e)).bind λok=>if ok=true then rV (ip n O) (gS e).names (bR 0 e) (gR e) fR else some [])=some [wm X.c j])(hK:X.K<8):((gh 0 X.K).bind λv=>over v (c8 O n e []))=some (.list (tc X.c X.K)):=
 have z:X.K<=aA:=aq (cy hK) (by decide)
 aG (nE z) ((rA _).trans (nZ (v:=λn:Nat=>.int n) (w:=wm X.c) hf (λj _=>he j) (aq (aD cF) z)))
theorem Pb(hK:X.K<8)(hb:X.b=0)(hc:X.c=false)(hm:X.bM="dhondt"\/X.bM="jefferson"):tR O X:=by
 unfold tR;refine cL (n:=999999) (b:=true) ⋯ (by obtain⟨l,v,K,bM,ta,c,b⟩:=X;rcases hm with rfl|rfl<;>rfl') (aF (st:=Pi) (bg (n:=999998) (K:=bH bv "divisors" false) ⋯ ((show _=(gh 0 X.K).bind λv=>over v (c8 O 999997 (sE Pi) []) by rfl').trans (IU ⋯ (λj=>by rw[hc];rfl') hK)) (by rw[hb];rfl')) rfl)
theorem NY(hK:X.K<8)(hb:X.b=0)(hc:X.c=true)(hm:X.bM="saintelague"\/X.bM="webster"):tR O X:=by
 unfold tR;refine cL (n:=999999) (b:=false) ⋯ (by obtain⟨l,v,K,bM,ta,c,b⟩:=X;rcases hm with rfl|rfl<;>rfl') (aF (st:=Ah) (cL (n:=999998) (b:=true) ⋯ (by obtain⟨l,v,K,bM,ta,c,b⟩:=X;rcases hm with rfl|rfl<;>rfl') (aF (st:=aJ (sB 0 Ah) 0) (bg (n:=999997) (K:=bH bv "divisors" false) ⋯ ((show _=(gh 0 X.K).bind λv=>over v (c8 O 999996 (sE (aJ (sB 0 Ah) 0)) []) by rfl').trans (IU ⋯ (λj=>(show _=((((fw .Mult 2 j).bind λx=>fW O .Add x (.int 1)).bind λv=>some [v,.int 1]).bind (pq .tup)).map λx=>[x] by rfl').trans (by rw[hc,pf (.inr (by decide))];rfl')) hK)) (by rw[hb];rfl')) rfl)) rfl)
def Qa:aH:=aJ (sB 1 Ah) 0
def Nw:aH:=aJ (sB 1 Qa) 0
def QK:aH:=aJ (sB 1 Nw) 0
def AG:aH:=aJ (sB 0 QK) 0
theorem adR(hK:X.K<8)(hb:X.b=1)(hc:X.c=false)(hm:X.bM="adams")(hl:X.l.length<=X.K)(hv:∀i,1<=X.v i):tR O X:=by
 obtain⟨l,v,K,bM,ta,c,b⟩:=X;obtain rfl:bM="adams":=hm;obtain rfl:b=1:=hb;obtain rfl:c=false:=hc;unfold tR;refine cL (n:=999999) (b:=false) ⋯ ⋯ (aF (st:=Ah) (cL (n:=999998) (b:=false) ⋯ ⋯ (aF (st:=Qa) (cL (n:=999997) (b:=false) ⋯ ⋯ (aF (st:=Nw) (cL (n:=999996) (b:=false) ⋯ ⋯ (aF (st:=QK) (cL (n:=999995) (b:=true) ⋯ ⋯ (aF (st:=AG) (cL (n:=999994) (b:=false) ⋯ ?_ ?_) rfl)) rfl)) rfl)) rfl)) rfl)
 ·exact(⋯:_=some (decide ((K:Int)<((DX.vs ⟨l,v,K,"adams",ta,false,1⟩).length:Nat)))).trans (af some (dF (im (pJ (aq (aD (bi _)) hl)))))
 ·refine(show _=aS (aw O 999994 bv dG) [aJ (sB 1 AG) 0,aJ (sB 1 AG) 1] (bJ ⟨l,v,K,"adams",ta,false,1⟩ (.own (aO l λ_=>0)) []) by rfl').trans (aF (bg (n:=999993) (K:=bH bv "representatives" true) (p:=.list (aO l λ_=>1)) ⋯ ((show _=c8 O 999992 (sE (aJ (sB 1 AG) 0)) [] (l.map λi=>.int (v i)) by rfl').trans (nZ ⋯ (λi _=>(show _=(if decide ((0:Int)<(v i:Nat))=true then some (PV.int (1:Nat)) else some (PV.int 0)).map λx=>[x] by rfl').trans (af (eP _) (iP (dT (jc (hv i):(0:Int)<(v i:Nat)))))) (aq (aq hl (cy hK)) (by decide)))) (show _=nx (bJ ⟨l,v,K,"adams",ta,false,1⟩ (.own (aO l λ_=>1)) []) by rfl')) (aF (bg (n:=999993) (K:=bH bv "divisors" false) ⋯ ((show _=(gh 0 K).bind λv=>over v (c8 O 999992 (sE (aJ (sB 1 AG) 1)) []) by rfl').trans (IU (X:=⟨l,v,K,"adams",ta,false,1⟩) ⋯ (λj=>⋯) hK)) ⋯) rfl))
end
section
variable{X:DX}{n i m:Nat}{fs:List Int}{w:Int}
def g8(i:Nat):aH:=aJ (sB 0 (d9 2)) i
def oM(X:DX)(x:Nat)(d:Option PV)(r:ar):ar:=("divisors",.pv (.list (tc X.c X.K)))::("common",.pv (.int x))::d.elim r λd=>("d",.pv d)::r
theorem Rj(h:j<8):((c9 X.c j:Nat):Int).natAbs<d3:=by
 refine aQ (?_:c9 X.c j<=2*8+1) (by decide);cases X.c
 ·exact aq h (by decide)
 ·exact yE (Kb 2 (cy h))
theorem XO:∀{js:List Nat} {x:Nat} {d:Option PV},(∀j∈js,j<8)->∃d',dZ (aS (aw O 999998 bv dG) (sB 0 (g8 1))) bv (sT (g8 1)) (js.map (wm X.c)) (bJ X (.own R) (oM X x d []))=nx (bJ X (.own R) (oM X ((js.map (c9 X.c)).foldl (· * ·) x) d' [])):=by
 intro js;induction js with
 |nil=>exact λ{x d} _=>⟨d,rfl⟩
 |cons j js ih=>
  intro x d h;obtain⟨d',e⟩:=ih (x:=x*c9 X.c j) (d:=some (wm X.c j)) λj m=>h j (.tail _ m);exact⟨d',ii (σ₁:=bJ X (.own R) (oM X x (some (wm X.c j)) [])) (by cases d<;>rfl') (aF (bg (n:=999997) (K:=bH bv "common" false) ⋯ ((⋯:_=fw .Mult x (c9 X.c j:Nat)).trans (pf (.inl (Rj (h j (.head _)))))) ⋯) rfl) e⟩
def Bc:aH:=aJ (sB 1 (g8 2)) 0
def jR(X:DX):List PV:=X.l.map λi=>.list (cM (ig X.c X.K X.v i))
theorem acP(hK:X.K<8)(hj:j<X.K):fw .FloorDiv ((X.v i:Int)*1*(dI X.c X.K:Nat)) (c9 X.c j:Nat)=some (.int (X.W i j)):=by
 have f:=(Ag (c:=X.c) hK).2 j hj;have p:=D6 (c:=X.c) (j:=j);have p':((c9 X.c j:Nat):Int)≠0:=Tm (zf.mpr p);rw[JH ⟨p',Rj (eN hj hK)⟩,show X.W i j=_ from vC hj,Kg,<-f.1,Nat.mul_div_cancel _ p,Fi _ (fP _)];exact af (λi=>some (PV.int i)) (by rw[TO,TO,<-Int.mul_assoc,Int.mul_ediv_cancel _ p'])
theorem abO(hK:X.K<8):c8 O 999995 (bR 0 (sE Bc)) [("common",.int (dI X.c X.K:Nat)),("p",.int (X.v i))] (tc X.c X.K)=some (.list (cM (ig X.c X.K X.v i))):=by
 have:=nZ (O:=O) (n:=999995) (e:=bR 0 (sE Bc)) (ρ:=[("common",.int (dI X.c X.K:Nat)),("p",.int (X.v i))]) (v:=wm X.c) (w:=λj=>.int (X.W i j)) (l:=ax X.K) ⋯ (λj m=>(show _=((fw .Mult ((X.v i:Int)*1) (dI X.c X.K:Nat)).bind λx=>fW O .FloorDiv x (.int (c9 X.c j:Nat))).map λx=>[x] by rfl').trans (af (eP λx=>[x]) (aG (pf (.inl (show((dI X.c X.K:Nat):Int).natAbs<d3 from(Ag (c:=X.c) hK).1))) (acP hK (eK m)):_=some (PV.int (X.W _ j))))) (aq (aD cF) (aq (cy hK) (by decide)));refine this.trans (af (λl=>some (PV.list l)) ?_);unfold cM ig;rw[jr];rfl
def M4(X:DX)(d:Option PV)(r:ar):ar:=oM X (dI X.c X.K) d (("weights",.pv (.list (jR X)))::r)
theorem ϟ{d:Option PV}(hK:X.K<8)(hl:X.l.length<=100)(hn:fF O 999998 bv (bA (bJ X (.own R) (oM X (dI X.c X.K) d []))) (sE (g8 2))=some false):aw O 999999 bv dG (bJ X (.own R) (oM X (dI X.c X.K) d [])) (g8 2)=nx (bJ X (.own R) (M4 X d [])):=
 cL (n:=999998) (b:=false) ⋯ hn (aF (st:=Bc) (bg (n:=999997) (K:=bH bv "weights" false) (p:=.list (jR X)) ⋯ ((show _=c8 O 999996 (sE Bc) [("divisors",.list (tc X.c X.K)),("common",.int (dI X.c X.K:Nat))] X.vs by cases d<;>rfl').trans (nZ ⋯ (λi _=>(show _=(c8 O 999995 (bR 0 (sE Bc)) [("common",.int (dI X.c X.K:Nat)),("p",.int (X.v i))] (tc X.c X.K)).map λx=>[x] by rfl').trans (af (eP λx=>[x]) (abO hK))) (aq hl (by decide)))) (by cases d<;>rfl')) rfl)
def nD:Expr:=bR 0 (sE (g8 3))
theorem ϫ(hK:X.K<8)(hl:X.l.length<=3):c8 O 999996 nD [] (jR X)=some (.list (cM (pX X.W X.K X.l))):=by
 have in_ (i:Nat):pH (rV (ip 999996 O) (gS nD).names (bR 0 nD) []) ((ip 999996 O).t (gS nD).names) (gS nD).names ((gR nD).getD 0 ⟨l7,l7,[],0⟩).target [] [("l",.list (cM (ig X.c X.K X.v i)))] (cM (ig X.c X.K X.v i))=some (cM (ig X.c X.K X.v i)):=
  (Ix (v:=PV.int) (f:=λw=>[PV.int w]) ⋯ λw _=>⋯).trans (af some List.map_eq_flatMap.symm)
 refine aG ((Ix (v:=λi=>PV.list (cM (ig X.c X.K X.v i))) (f:=λi=>cM (ig X.c X.K X.v i)) ⋯ λi _=>(⋯:_=pH (rV (ip 999996 O) (gS nD).names (bR 0 nD) []) ((ip 999996 O).t (gS nD).names) (gS nD).names ((gR nD).getD 0 ⟨l7,l7,[],0⟩).target [] [("l",.list (cM (ig X.c X.K X.v i)))] (cM (ig X.c X.K X.v i))).trans (in_ i)).trans (af some List.map_flatMap.symm)) (iP ?_);show(cM (pX X.W X.K X.l)).length<=aA;rw[show(cM (pX X.W X.K X.l)).length=X.K*X.l.length from(bi _).trans DI];exact aq (BZ (cy hK) hl) (by decide)
theorem Xi{nm:aN}{l:List Int}(hz:l.length<64):∃out:List Int,eD O nm (cM l) []=some (.list (cM out))/\out.Perm l/\out.Pairwise (· <=·):=by
 obtain⟨out,e,p,s⟩:=AO (O:=O) (nm:=nm) (v:=PV.int) (le:=λa b=>decide (a<b)) (l:=l) (k:=1) rfl (λ_=>rfl) (λa _ b _=>rfl) (λa _ b _ x=>dF (TA (cC x))) (λa _ b _ c _ x y=>dF (im (ic (jA (iM x)) (jA (iM y))))) hz;exact⟨out,e,p,s.imp λq=>jA (iM q)⟩
def ED(X:DX)(d:Option PV)(fs:List Int)(r:ar):ar:=oM X (dI X.c X.K) d (("weights",.pv (.list (jR X)))::("flatweights",.pv (.list (cM fs)))::r)
theorem adZ{d:Option PV}(hK:X.K<8)(hl:X.l.length<=3):∃fs:List Int,fs.Perm (pX X.W X.K X.l)/\fs.Pairwise (· <=·)/\aw O 999999 bv dG (bJ X (.own R) (M4 X d [])) (g8 3)=nx (bJ X (.own R) (ED X d fs [])):=by
 obtain⟨fs,e,p,s⟩:=Xi (O:=O) (nm:=bv) (l:=pX X.W X.K X.l) (by rw[DI];exact aQ (BZ (cy hK) hl) (by decide));exact⟨fs,p,s,bg (n:=999998) (K:=bH bv "flatweights" false) ⋯ ((show _=(c8 O 999996 nD [] (jR X)).bind λv=>eJ v λl=>eD O bv l [] by cases d<;>rfl').trans (aG (ϫ hK hl) e)) (by cases d<;>rfl')⟩
theorem Hl:qa (aO l t)=some (su t l:Nat):=by
 induction l with
 |nil=>rfl
 |cons a l ih=>
  have h:((p5 (aO l t)).map yx)=some (su t l:Nat):=ih;refine(af (eP yx) qV).trans ?_;show(((aO l t).mapM PV.ei).bind λr=>some ((t a:Int)::r)).map yx=some (((t a+su t l:Nat)):Int);rw[wS];unfold p5 at h;revert h;cases(aO l t).mapM PV.ei with
  |none=>exact nS
  |some r=>exact λh=>af (λx:Int=>some ((t a:Int)+x)) (ay h)
theorem τ{l:List PV}(h1:1<=j)(h:j<=l.length):bP (.list l) (.int (-(j:Int)))=l[l.length-j]?:=by
 refine aG (K:=λi=>l[i]?) (a:=l.length-j) ?_ rfl;show(if(decide (0<=if(-(j:Int))<0 then-(j:Int)+l.length else-(j:Int))&&decide ((if(-(j:Int))<0 then-(j:Int)+l.length else-(j:Int))<l.length))=true then some (if(-(j:Int))<0 then-(j:Int)+l.length else-(j:Int)).toNat else none)=_;have e: -(j:Int)+l.length=((l.length-j:Nat):Int):=by rw[F4 h,uY];rfl
 rw[iP (TM (zf.mpr h1)),e,dT (fP _),dT (jc (y0 (ba h1 h) h1))];rfl
theorem X1{d:Option PV}{K':Nat}(hs:su t X.l+K'=X.K)(h1:1<=K')(hl:K'<=fs.length)(hm:fs[fs.length-K']?=some w):aw O 999999 bv dG (bJ X (.own (aO X.l t)) (ED X d fs [])) (g8 4)=nx (bJ X (.own (aO X.l t)) (ED X d fs [("minweight",.pv (.int w))])):=by
 refine uh (n:=999998) (K:=bH bv "minweight" false) (p:=.int w) ⋯ (by cases d<;>rfl') ((show _=(((qa (aO X.l t)).map PV.int).bind λb=>fW O .Add (.int (-(X.K:Int))) b).bind λb=>bP (.list (cM fs)) b by cases d<;>rfl').trans ?_) (by cases d<;>rfl') (by cases d<;>rfl');rw[Hl];show bP (.list (cM fs)) (.int (-(X.K:Int)+(su t X.l:Nat)))=_;rw[show-(X.K:Int)+(su t X.l:Nat)= -(K':Int) by lia,τ (l:=cM fs) h1 (aq hl (aD (bi _).symm))];unfold cM;rw[bi,ot,hm];rfl
end
end
section
variable{O:aK}{X:DX}{t:Nat->Nat}{fs:List Int}{m:Int}{d o:Option PV}{tie:Bool}
section
variable{n i j p:Nat}{l:List Nat}
theorem rQ{α:Type}{f:α->PV}{l:List α}{a:α}(h:l[i]?=some a):bP (.list (l.map f)) (.int i)=some (f a):=aG (K:=λj=>(l.map f)[j]?) (Jc (ba (zd.mp h).1 (aD (bi _).symm))) (ot.trans (af (eP f) h))
theorem V8{nm:aN}{t:Expr}{ifs:List Expr}{ρ:bj}{body:bj->Option (List PV)}{te:bj->Expr->Option Bool}{a:PV}{src:List PV}(h:((fT (gY nm) t a ρ).bind λfR=>(pZ (te fR) false ifs).bind λok=>if ok=true then body fR else some [])=none):pH body te nm t ifs ρ (a::src)=none:=by
 unfold pH;by_cases q:mq t ρ=true
 ·rw[iP q];refine yS ?_ (af (λx:Option (List PV)=>x.bind λhere=>(pH body te nm t ifs ρ src).map λmore=>here++more) h);rw[agU];exact af _ (funext λσ=>(agU ..).symm)
 ·rw[iN q]
def EY:Expr:=sE (g8 5)
def Dl:Expr:=bR 0 (bR 1 (bR 0 EY))
theorem W3(hK:(ig X.c X.K X.v p).length<=aA):c8 O 999994 Dl [("minweight",.int m)] (cM (ig X.c X.K X.v p))=some (.list (cM ((ig X.c X.K X.v p).filter λw=>decide (m<w)))):=v6 (v:=PV.int) (w:=PV.int) (ok:=λw=>decide (m<w)) ⋯ (λw _=>(show _=((if decide (m<w)=false then some false else some true).bind λok=>if ok=true then some [PV.int w] else some []) by rfl').trans (by cases decide (m<w)<;>rfl)) hK
theorem Xx(h:X.l[i]?=some p)(hK:X.K<8):((((bP (.list (aO X.l t)) (.int i)).bind λa=>((((bP (.list (jR X)) (.int i)).bind λv=>over v (c8 O 999994 Dl [("minweight",.int m)])).bind λv=>some [v]).bind λvs=>nY O "len" vs []).bind λb=>fW O .Add a b)).map λx=>[x])=some [PV.int ((t p+bF X.W X.K m p:Nat))]:=by
 rw[show bP (.list (aO X.l t)) (.int i)=some (.int (t p)) from rQ h,show bP (.list (jR X)) (.int i)=some (.list (cM (ig X.c X.K X.v p))) from rQ h];show((((c8 O 999994 Dl [("minweight",.int m)] (cM (ig X.c X.K X.v p))).bind λv=>some [v]).bind λvs=>nY O "len" vs []).bind λb=>fW O .Add (.int (t p)) b).map (λx=>[x])=_;rw[W3 (aq (aD ((bi _).trans cF)) (aq (cy hK) (by decide)))];refine af (λn:Int=>some [PV.int n]) (yS (af (λn:Nat=>(t p:Int)+n) ((bi _).trans ?_)) (wS ..).symm);unfold ig;rw[K4,bi];rfl
def yt(X:DX)(d:Option PV)(fs:List Int)(m:Int)(r:ar):ar:=ED X d fs (("minweight",.pv (.int m))::r)
theorem YS(hK:X.K<8)(hl:X.l.length<=3):((gh 0 (X.vs.length:Nat)).bind λv=>over v (c8 O 999997 EY [("representatives",.list (aO X.l t)),("weights",.list (jR X)),("minweight",.int m)]))=some (.list (aO X.l λi=>t i+bF X.W X.K m i)):=by
 have z:X.l.length<=aA:=aq hl (by decide);rw[show X.vs.length=X.l.length from bi _];refine aG (nE z) ((rA _).trans ((nZ (v:=λi:Nat=>.int i) (w:=λi=>.int ((t (X.l.getD i 0)+bF X.W X.K m (X.l.getD i 0):Nat))) ⋯ (λi hi=>?_) (aq (aD cF) z)).trans (af (λl=>some (PV.list l)) ?_)))
 ·have h:X.l[i]?=some (X.l.getD i 0):=by rw[tv,jL (eK hi)];rfl
  exact(show _=((((bP (.list (aO X.l t)) (.int i)).bind λa=>((((bP (.list (jR X)) (.int i)).bind λv=>over v (c8 O 999994 Dl [("minweight",.int m)])).bind λv=>some [v]).bind λvs=>nY O "len" vs []).bind λb=>fW O .Add a b)).map λx=>[x]) by rfl').trans (Xx h hK)
 ·have:=af (List.map λp=>PV.int ((t p+bF X.W X.K m p:Nat))) (IB (l:=X.l) (d:=0));rw[jr] at this;exact this
theorem afA(hK:X.K<8)(hl:X.l.length<=3)(h0:X.l≠[]):aw O 999999 bv dG (bJ X (.own (aO X.l t)) (yt X d fs m [])) (g8 5)=nx (bJ X (.own (aO X.l λi=>t i+bF X.W X.K m i)) (yt X d fs m [])):=by
 refine uh (n:=999998) (K:=bH bv "representatives" true) (p:=.list (aO X.l λi=>t i+bF X.W X.K m i)) ⋯ ?_ ((show _=(gh 0 (X.vs.length:Nat)).bind λv=>over v (c8 O 999997 EY [("representatives",.list (aO X.l t)),("weights",.list (jR X)),("minweight",.int m)]) by cases d<;>rfl').trans (YS hK hl)) (by cases d<;>rfl') ?_
 ·refine(show _=(gh 0 (X.vs.length:Nat)).bind λv=>over v (c8 O 999997 EY [("weights",.list (jR X)),("minweight",.int m)]) by cases d<;>rfl').trans ?_;rw[show X.vs.length=X.l.length from bi _];obtain⟨a,l,e⟩:=Ch h0;refine aG (nE (aq hl (by decide))) ((rA _).trans ?_);rw[e,wB,yA];exact af (λx:Option (List PV)=>x.bind (pq .list)) (V8 ⋯)
 ·refine(show _=bH bv "representatives" true (.list (aO X.l λi=>t i+bF X.W X.K m i),bJ X (.qm (cf [aO X.l t] [] (.list (aO X.l λi=>t i+bF X.W X.K m i))) (aO X.l t)) (yt X d fs m [])) by cases d<;>rfl').trans ?_;cases cf [aO X.l t] [] (.list (aO X.l λi=>t i+bF X.W X.K m i))<;>cases d<;>rfl'
end
section
variable{i p:Nat}{l l1 l2:List Nat}{b:Bool}{op:iF}
def eW(X:DX)(d:Option PV)(fs:List Int)(m:Int)(tie:Bool)(o:Option PV):ar:=yt X d fs m (("ties",.pv (.bool tie))::o.elim [] λi=>[("i",.pv i)])
def jJ:aH:=aJ (sB 0 (d9 4)) 0
def qg(i:Nat):aH:=aJ (sB 0 jJ) i
theorem WA{l:List Int}:l9 4 (.int m) (cM l)=some (l.any λw=>decide (w=m)):=by
 induction l with
 |nil=>rfl
 |cons a l ih=>exact af (eP (or (a==m))) ih
theorem adP:fe O .In (.int m) (.list (cM (ig X.c X.K X.v p)))=some (bG X.W X.K m p):=WA.trans (af some (List.any_map ..))
theorem Nu(h:X.l[i]?=some p)(hb:fe O op (.int (su t X.l:Nat)) (.int X.K)=some b):(((((qa (aO X.l t)).map PV.int).bind λa=>fe O op a (.int X.K)).bind λb=>if b=false then some false else((bP (.list (jR X)) (.int i)).bind λv=>fe O .In (.int m) v).bind λb=>if b=false then some false else some true))=some (b&&bG X.W X.K m p):=by
 rw[Hl,show bP (.list (jR X)) (.int i)=some (.list (cM (ig X.c X.K X.v p))) from rQ h];show((fe O op (.int (su t X.l:Nat)) (.int X.K)).bind λb=>if b=false then some false else(fe O .In (.int m) (.list (cM (ig X.c X.K X.v p)))).bind λb=>if b=false then some false else some true)=_;rw[hb,adP];cases b<;>cases bG X.W X.K m p<;>rfl
theorem DL(h:X.l[i]?=some p):fF O 999997 bv (bA (bJ X (.own (aO X.l t)) (eW X d fs m tie (some (.int i))))) (sE (qg 0))=some ((((su t X.l:Nat):Int)==(X.K:Int))&&bG X.W X.K m p):=
 (show _=((((qa (aO X.l t)).map PV.int).bind λa=>fe O .Eq a (.int X.K)).bind λb=>if b=false then some false else((bP (.list (jR X)) (.int i)).bind λv=>fe O .In (.int m) v).bind λb=>if b=false then some false else some true) by cases d<;>rfl').trans (Nu h rfl)
theorem Ja(h:X.l[i]?=some p):fF O 999997 bv (bA (bJ X (.own (aO X.l t)) (eW X d fs m tie (some (.int i))))) (sE (qg 1))=some (decide (((su t X.l:Nat):Int)<(X.K:Int))&&bG X.W X.K m p):=
 (show _=((((qa (aO X.l t)).map PV.int).bind λa=>fe O .Lt a (.int X.K)).bind λb=>if b=false then some false else((bP (.list (jR X)) (.int i)).bind λv=>fe O .In (.int m) v).bind λb=>if b=false then some false else some true) by cases d<;>rfl').trans (Nu h rfl)
theorem YQ(h:X.l[i]?=some p)(hT:bG X.W X.K m p=false):a9 O 999998 bv dG (bJ X (.own (aO X.l t)) (eW X d fs m tie (some (.int i)))) (sB 0 jJ)=nx (bJ X (.own (aO X.l t)) (eW X d fs m tie (some (.int i)))):=
 (⋯:_=a9 O 999998 bv dG (bJ X (.own (aO X.l t)) (eW X d fs m tie (some (.int i)))) [qg 0,qg 1]).trans (aF (kj (n:=999997) ⋯ ⋯ ((DL h).trans (by rw[hT,Fy]))) (aF (kj (n:=999997) ⋯ ⋯ ((Ja h).trans (by rw[hT,Fy]))) rfl))
theorem acD(h:X.l[i]?=some p)(hT:bG X.W X.K m p=true)(hs:su t X.l=X.K)(ta:X.ta=true):a9 O 999998 bv dG (bJ X (.own (aO X.l t)) (eW X d fs m tie (some (.int i)))) (sB 0 jJ)=nx (bJ X (.own (aO X.l t)) (eW X d fs m true (some (.int i)))):=by
 refine(⋯:_=a9 O 999998 bv dG (bJ X (.own (aO X.l t)) (eW X d fs m tie (some (.int i)))) [qg 0,qg 1]).trans (aF (σ₁:=bJ X (.own (aO X.l t)) (eW X d fs m true (some (.int i)))) (cL (n:=999997) (b:=true) ⋯ ((DL h).trans (by rw[hT,hs,beq_self_eq_true];rfl)) ?_) (aF (kj (n:=999997) ⋯ ⋯ ((Ja h).trans (by rw[hs,dF (Cj _)];rfl))) rfl));obtain⟨l,v,K,bM,LR,c,b⟩:=X;obtain rfl:LR=true:=ta;cases tie<;>cases d<;>rfl'
theorem YN{f f':Nat->Nat}(nd:l.Nodup)(e:l=l1++p::l2)(h:∀x,x≠p->f x=f' x):(aO l f).set l1.length (.int (f' p))=aO l f':=by
 subst e;have nd:=wU.mp nd;unfold aO;rw[mP,mP,List.set_append_right _ _ (aD (bi _)),bi,y4];exact congr (af agV (pT λx m=>by rw[h x λe=>nd.2.2 x m p (.head _) e])) (af (PV.int (f' p):: ·) (pT λx m=>by rw[h x λe=>(iV nd.2.1).1 (e▸m)]))
theorem DY(e:l=l1++p::l2):l[l1.length]?=some p:=by rw[e,List.getElem?_append_right (bf _),y4];rfl
theorem η{t':Nat->Nat}(nd:X.l.Nodup)(e:X.l=l1++p::l2)(hT:bG X.W X.K m p=true)(hs:su t X.l<X.K)(h:∀x,x≠p->t x=t' x)(hp:t' p=t p+1):a9 O 999998 bv dG (bJ X (.own (aO X.l t)) (eW X d fs m tie (some (.int l1.length)))) (sB 0 jJ)=nx (bJ X (.own (aO X.l t')) (eW X d fs m tie (some (.int l1.length)))):=by
 have ha:=DY e;have it:bP (.list (aO X.l t)) (.int l1.length)=some (.int (t p)):=rQ ha;have sa:jU (aO X.l t) (.int l1.length) (.int (t' p:Nat))=some (aO X.l t'):=(iP ⟨fP _,jc (ba (zd.mp ha).1 (aD (bi _).symm))⟩).trans (af some (YN nd e h));rw[hp] at sa;generalize l1.length=i at*;exact(⋯:_=a9 O 999998 bv dG (bJ X (.own (aO X.l t)) (eW X d fs m tie (some (.int i)))) [qg 0,qg 1]).trans (aF (kj (n:=999997) ⋯ ⋯ ((DL ha).trans (by rw[li λe=>gE hs (wR.mp e)];rfl))) (aF (cL (n:=999997) (b:=true) ⋯ ((Ja ha).trans (by rw[hT,dT (jc hs)];rfl)) (aF (st:=aJ (sB 0 (qg 1)) 0) (HN (n:=999996) (x:="representatives") (op:=.Add) (k:=.int i) (w:=.int 1) (by cases d<;>rfl') it (by cases d<;>rfl') rfl ⋯ sa (by cases d<;>rfl')) rfl)) rfl))
end
section
variable{i p r:Nat}{l l1 l2 F:List Nat}{C:Nat->Nat}
noncomputable def tF(C:Nat->Nat)(F:List Nat)(r i:Nat):Nat:=C i+if i∈F.take r then 1 else 0
noncomputable def l6(F:List Nat)(r:Nat):Bool:=decide (r<F.length)
theorem Mp(nd:l.Nodup)(s:F.Sublist l):su (tF C F r) l=su C l+min r F.length:=by
 have:=Jt (t:=λ_=>1) (M:=λ_=>0) ((Sw r F).trans s) nd;rw[gz,gz,gz,BY,BY,y7,FI] at this;exact qO.trans (af (su C l+ ·) this)
theorem Qt(nd:X.l.Nodup)(hs:su C X.l+r=X.K)(vc:r<=(l1.filter (bG X.W X.K m)).length->bG X.W X.K m p=true->X.ta=true)(e:X.l=l1++p::l2):a9 O 999998 bv dG (bJ X (.own (aO X.l (tF C (l1.filter (bG X.W X.K m)) r))) (eW X d fs m (l6 (l1.filter (bG X.W X.K m)) r) (some (.int l1.length)))) (sB 0 jJ)=nx (bJ X (.own (aO X.l (tF C ((l1++[p]).filter (bG X.W X.K m)) r))) (eW X d fs m (l6 ((l1++[p]).filter (bG X.W X.K m)) r) (some (.int l1.length)))):=by
 have ha:=DY e;have sl:(l1++[p]).Sublist X.l:=e▸(List.Sublist.refl l1).append ((S4 l2).cons_cons p);have sF:(l1.filter (bG X.W X.K m)).Sublist X.l:=uT.trans ((agW ..).trans sl);have pF:p∉l1.filter (bG X.W X.K m):=λh=>(wU.mp (e▸nd)).2.2 p (eL h).1 p (.head _) rfl;have Gw:=Mp (C:=C) (r:=r) nd sF;rw[pU];generalize l1.filter (bG X.W X.K m)=F at*;cases hT:bG X.W X.K m p with
 |false=>
  rw[uZ (ne_true_of_eq_false hT),Cm,gO];exact YQ ha hT
 |true=>
  rw[tx hT,Cm];by_cases k:r<=F.length
  ·rw[wM k] at Gw;rw[show tF C (F++[p]) r=tF C F r from funext λi=>af (λl=>C i+if i∈l then 1 else 0) (agS k),show l6 (F++[p]) r=true from dT (ba (kz k) (aD (da (as:=F) (bs:=[p])).symm))];exact acD ha hT (Gw.trans hs) (vc k hT)
  ·have k:=oj k;have e1:(F++[p]).take r=F++[p]:=y9 (aq (aD da) k);have e2:F.take r=F:=y9 (cy k);rw[TP (cy k)] at Gw;rw[show l6 (F++[p]) r=l6 F r from(dF (gN (aq (aD da) k))).trans (dF (oB k)).symm];refine η nd e hT (by rw[Gw,<-hs];exact TQ k _) (λx ne=>?_) ?_
   ·unfold tF;rw[e1,e2,ite_congr (propext (K6.trans (or_iff_left λh=>ne (cY h)))) (λ_=>rfl) λ_=>rfl]
   ·unfold tF;rw[e1,e2,iP (fE _ (.head _)),iN pF]
theorem Τ{T:Nat->Bool}(e:l=l1++p::l2)(hT:T p=true):(l1.filter T).length+1<=(l.filter T).length:=by
 rw[e,pU,tx hT,da,wB];exact i3 (eE _) _
theorem acg(nd:X.l.Nodup)(hs:su C X.l+r=X.K)(vc:X.ta=true\/(X.l.filter (bG X.W X.K m)).length<=r):∀{l2 l1:List Nat} {o:Option PV},X.l=l1++l2->∃o',dZ (aS (aw O 999998 bv dG) (sB 0 jJ)) bv (sT jJ) (aC (gW l1.length l2.length)) (bJ X (.own (aO X.l (tF C (l1.filter (bG X.W X.K m)) r))) (eW X d fs m (l6 (l1.filter (bG X.W X.K m)) r) o))=nx (bJ X (.own (aO X.l (tF C (X.l.filter (bG X.W X.K m)) r))) (eW X d fs m (l6 (X.l.filter (bG X.W X.K m)) r) o')):=by
 intro l2;induction l2 with
 |nil=>exact λ{l1 o} e=>⟨o,by rw[e,gO];rfl⟩
 |cons p l2 ih=>
  intro l1 o e;obtain⟨o',h⟩:=ih (l1:=l1++[p]) (o:=some (.int l1.length)) (e.trans (kt l1 [p] l2).symm);rw[da] at h;exact⟨o',ii (σ₁:=bJ X (.own (aO X.l (tF C (l1.filter (bG X.W X.K m)) r))) (eW X d fs m (l6 (l1.filter (bG X.W X.K m)) r) (some (.int l1.length)))) (by cases d<;>cases o<;>rfl') (Qt nd hs (λk hT=>vc.resolve_right λh=>nh (kz k) (aq (Τ e hT) h)) e) h⟩
end
section
variable{K':Nat}{R:List PV}
theorem j0{Y:ar->aH->aZ}{st:aH}{σ:ar}:aS Y [st] σ=Y σ st:=by
 show(Y σ st).bind (λq=>if q.1.g9=true then some (.next,q.2) else some q)=_;cases Y σ st with
 |none=>rfl
 |some q=>
  obtain⟨f,σ⟩:=q;cases f<;>rfl
structure r8(O:aK)(X:DX):Prop where
 pre:tR O X
 no:∀R x d,fF O 999998 bv (bA (bJ X (.own R) (oM X x d []))) (sE (g8 2))=some false
def JU(X:DX):ar:=[("divisors",.pv (.list (tc X.c X.K)))]
theorem JA{i:Nat}{r:ar}(hs:fF O 999999 bv (bA (bJ X (.own (aO X.l t)) r)) (sE (d9 i))=((qa (aO X.l t)).map PV.int).bind λb=>fe O .Gt (.int X.K) b):fF O 999999 bv (bA (bJ X (.own (aO X.l t)) r)) (sE (d9 i))=some (decide (su t X.l<X.K)):=hs.trans (by
 rw[Hl];exact af some (fv za))
inductive Dv2 (O:aK) (X:DX) (K':Nat):Prop
 |mk (fs:List Int) (m:Int) (d:Option PV) (L:iT X.W X.K m X.l K') (e:aw O NN bv dG (bJ X (.own (aO X.l λ_=>X.b)) (JU X)) (d9 2)=nx (bJ X (.own (aO X.l λi=>X.b+bF X.W X.K m i)) (yt X d fs m [])))
theorem Qu(M:r8 O X)(hK:X.K<8)(hv:∀i,1<=X.v i)(hl:X.l.length<=3)(h0:X.l≠[])(kF:X.b*X.l.length+K'=X.K)(h1:1<=K'):Dv2 O X K':=by
 obtain⟨d,e1⟩:=XO (O:=O) (X:=X) (R:=aO X.l λ_=>X.b) (js:=ax X.K) (x:=1) (d:=none) λj m=>eN (eK m) hK;obtain⟨fs,p,s,e3⟩:=adZ (O:=O) (X:=X) (R:=aO X.l λ_=>X.b) (d:=d) hK hl;have kk:K'<=X.K:=kF▸i7 ..;have hf:K'<=fs.length:=aq kk (aq (TI X.K (ag4.mpr h0)) (aD (p.length_eq.trans DI).symm));have hm:=jL (y0 (ba h1 hf) h1);generalize fs[fs.length-K']'_=m at hm;have h7:X.b*X.l.length<X.K:=kF▸qU h1;refine⟨fs,m,d,Zo (Dt hK hv) p s h1 h0 kk hm,cL (n:=999999) (b:=true) ⋯ ((JA ⋯).trans (af some (dT (gz.symm▸h7)))) ?_⟩;refine(show _=aS (aw O 999999 bv dG) [g8 1,g8 2,g8 3,g8 4,g8 5] (bJ X (.own (aO X.l λ_=>X.b)) (oM X 1 none [])) by rfl').trans (aF (bg (n:=999998) (K:=fY (aw O 999998 bv dG) bv (sT (g8 1)) (sB 0 (g8 1))) (p:=.list (tc X.c X.K)) ⋯ ⋯ (sq e1)) (aF (ϟ hK (aq hl (by decide)) (M.no ..)) (aF e3 (aF (X1 (by rw[gz];exact kF) h1 hf hm) (aF (afA hK hl h0) rfl)))))
theorem Ϯ(h:X.ta=true\/tie=false):cq (aS (aw O NN bv dG) [d9 5,d9 6] (bJ X (.own R) (eW X d fs m tie o)))=some (.list R):=by
 obtain⟨l,v,K,bM,ta,c,b⟩:=X;cases tie with
 |false=>cases d<;>cases o<;>cases ta<;>rfl'
 |true=>
  obtain rfl:ta=true:=h.resolve_right tf;cases d<;>cases o<;>rfl'
def EQ(O:aK)(X:DX)(g:Nat->Nat):Prop:=bm O NN xu [.list X.vs,.int X.K,.str X.bM,.bool X.ta] []=some (.list (aO X.l g))
def xi(X:DX):ar:=[("votes",.pv (.list X.vs)),("seats",.pv (.int X.K)),("method",.pv (.str X.bM)),("tiesallowed",.pv (.bool X.ta))]
def yu:List aH:=[d9 0,d9 1,d9 2,d9 3,d9 4,d9 5,d9 6]
theorem GA:bm O NN xu [.list X.vs,.int X.K,.str X.bM,.bool X.ta] []=cq (a9 O NN bv dG (xi X) yu):=⋯
theorem RV(M:r8 O X)(hl:X.l.length<=3):a9 O NN bv dG (xi X) yu=a9 O NN bv dG (bJ X (.own (aO X.l λ_=>X.b)) (JU X)) [d9 2,d9 3,d9 4,d9 5,d9 6]:=aF (ach (aq hl (by decide))) (aF M.pre rfl)
theorem RM(M:r8 O X)(hl:X.l.length<=3)(e:aw O NN bv dG (bJ X (.own (aO X.l λ_=>X.b)) (JU X)) (d9 2)=nx (bJ X (.own (aO X.l t)) (yt X d fs m []))):a9 O NN bv dG (xi X) yu=a9 O NN bv dG (bJ X (.own (aO X.l t)) (eW X d fs m false none)) [d9 4,d9 5,d9 6]:=(RV M hl).trans (aF e (aF (st:=d9 3) (σ₁:=bJ X (.own (aO X.l t)) (eW X d fs m false none)) (by cases d<;>rfl') rfl))
theorem RG{r:aZ}(hl:X.l.length<=3)(eZ:su t X.l<X.K)(h:fY (aw O 999998 bv dG) bv (sT jJ) (sB 0 jJ) (.d8 0 X.l.length,bJ X (.own (aO X.l t)) (eW X d fs m false none))=r):aw O NN bv dG (bJ X (.own (aO X.l t)) (eW X d fs m false none)) (d9 4)=r:=
 cL (n:=999999) (b:=true) ⋯ ((JA (by cases d<;>rfl')).trans (af some (dT eZ))) ((⋯:_=aS (aw O 999999 bv dG) [jJ] (bJ X (.own (aO X.l t)) (eW X d fs m false none))).trans (j0.trans (bg (n:=999998) (K:=fY (aw O 999998 bv dG) bv (sT jJ) (sB 0 jJ)) ⋯ ((show _=gh 0 (X.vs.length:Nat) by cases d<;>rfl').trans ((af (λn:Nat=>gh 0 n) (bi _)).trans (nE (aq hl (by decide))))) h)))
theorem afc(M:r8 O X)(hl:X.l.length<=3)(hK:X.b*X.l.length=X.K):EQ O X λ_=>X.b:=by
 have no:∀{i:Nat} {r:ar},fF O 999999 bv (bA (bJ X (.own (aO X.l λ_=>X.b)) r)) (sE (d9 i))=(((qa (aO X.l λ_=>X.b)).map PV.int).bind λb=>fe O .Gt (.int X.K) b)->fF O 999999 bv (bA (bJ X (.own (aO X.l λ_=>X.b)) r)) (sE (d9 i))=some false:=λh=>(JA h).trans (af some (dF (by rw[gz,hK];exact cV _)));refine(GA.trans (af cq (RV M hl))).trans (dC (kj (n:=999999) ⋯ ⋯ (no ⋯)) (dC (st:=d9 3) (σ₁:=bJ X (.own (aO X.l λ_=>X.b)) [("divisors",.pv (.list (tc X.c X.K))),("ties",.pv (.bool false))]) ⋯ (dC (kj (n:=999999) ⋯ ⋯ (no ⋯)) ?_)));rfl'
theorem abt(M:r8 O X)(hK:X.K<8)(hv:∀i,1<=X.v i)(nd:X.l.Nodup)(hl:X.l.length<=3)(h0:X.l≠[])(kF:X.b*X.l.length+K'=X.K)(h1:1<=K'):∃m,iT X.W X.K m X.l K'/\(X.ta=true\/vg X.W X.K m X.l K'=false->EQ O X λi=>X.b+fy X.W X.K m X.l K' i):=by
 obtain⟨fs,m,d,L,e2⟩:=Qu M hK hv hl h0 kF h1;refine⟨m,L,λvc=>?_⟩;have hr:su (bF X.W X.K m) X.l+(K'-su (bF X.W X.K m) X.l)=K':=iK (cy L.lo);have sC:su (λi=>X.b+bF X.W X.K m i) X.l=X.b*X.l.length+su (bF X.W X.K m) X.l:=qO.trans (af (· +_) gz);have et:l6 (X.l.filter (bG X.W X.K m)) (K'-su (bF X.W X.K m) X.l)=vg X.W X.K m X.l K':=fv (TJ (cy L.lo));have eZ:su (λi=>X.b+bF X.W X.K m i) X.l<X.K:=sC▸ba (TQ L.lo _) (aD kF);obtain⟨o,e4⟩:=acg (O:=O) (X:=X) (fs:=fs) (m:=m) (d:=d) (C:=λi=>X.b+bF X.W X.K m i) (r:=K'-su (bF X.W X.K m) X.l) nd (by rw[sC,fC,hr,kF]) (vc.imp id λh=>cZ λk=>dy (h.symm.trans (et.symm.trans (dT k)))) (l2:=X.l) (l1:=[]) (o:=none) rfl;rw[et,show tF (λi=>X.b+bF X.W X.K m i) (List.filter (bG X.W X.K m) []) (K'-su (bF X.W X.K m) X.l)=λi=>X.b+bF X.W X.K m i from funext λi=>by unfold tF;rw[Cm,uW,iN eX];rfl,show tF (λi=>X.b+bF X.W X.K m i) (X.l.filter (bG X.W X.K m)) (K'-su (bF X.W X.K m) X.l)=λi=>X.b+fy X.W X.K m X.l K' i from funext λi=>fC ..] at e4;exact(GA.trans (af cq (RM M hl e2))).trans (dC (RG hl eZ (zP (by rw[yF];exact e4))) (Ϯ (o:=o) vc))
end
end
section
variable{O:aK}{X:DX}{K S k b i:Nat}{m m':Int}{l:List Nat}{W:Nat->Nat->Int}{c:Bool}{v:Nat->Nat}{w:PV}
theorem Pd(h:e9 W)(L:iT W S m l K)(L':iT W S m' l K):¬m<m':=λk=>by
 refine nh L.lo (aq L'.hi ?_);rw[<-RO,<-qO];refine mf λi hi=>?_;have a:=Dr h (Ed L' hi);have s:=Ed L' hi;have le:bF W S m' i<=bF W S m i:=cZ λq=>TA k (lC ((uA h (eN q s)).mpr q) (jA λz=>cV _ ((uA h (eN q s)).mp z)));cases t:bG W S m' i with
 |false=>exact le
 |true=>exact(uA h s).mp (lC k (oD (a.2.mp t).symm))
theorem ab0(h:e9 W)(L:iT W S m l K)(L':iT W S m' l K):m=m':=y6 (jA (Pd h L' L)) (jA (Pd h L L'))
open Classical in
def l8(W:Nat->Nat->Int)(S:Nat)(l:List Nat)(K:Nat):Int:=if h:∃m,iT W S m l K then h.choose else 0
theorem JF(h:e9 W)(L:iT W S m l K):l8 W S l K=m:=by
 have e:∃m,iT W S m l K:=⟨m,L⟩;unfold l8;rw[dif_pos e];exact ab0 h e.choose_spec L
def sf(c:Bool)(b:Nat)(v:Nat->Nat)(l:List Nat)(K i:Nat):Nat:=if b*l.length=K then b else b+fy (Wd c K v) K (l8 (Wd c K v) K l (K-b*l.length)) l (K-b*l.length) i
def sW(c:Bool)(b:Nat)(v:Nat->Nat)(l:List Nat)(K:Nat):Bool:=if b*l.length=K then false else vg (Wd c K v) K (l8 (Wd c K v) K l (K-b*l.length)) l (K-b*l.length)
structure o8(X:DX):Prop where
 G:lS X.b 6 X.l X.K
 v1:∀i,1<=X.v i
 nd:X.l.Nodup
 l3:X.l.length<=3
 l0:X.l≠[]
theorem o8.dec(P:o8 X):e9 X.W:=Dt (aQ P.G.hi (by decide)) P.v1
theorem JD(M:r8 O X)(P:o8 X)(e:X.b*X.l.length≠X.K):iT X.W X.K (l8 X.W X.K X.l (X.K-X.b*X.l.length)) X.l (X.K-X.b*X.l.length)/\(X.ta=true\/sW X.c X.b X.v X.l X.K=false->EQ O X (sf X.c X.b X.v X.l X.K)):=by
 obtain⟨m,L,h⟩:=abt M (aQ P.G.hi (by decide)) P.v1 P.nd P.l3 P.l0 (iK P.G.lo) (q9 (pR P.G.lo e));have em:=JF P.dec L;refine⟨em.symm▸L,λvc=>?_⟩;rw[show sf X.c X.b X.v X.l X.K=λi=>X.b+fy X.W X.K m X.l (X.K-X.b*X.l.length) i from funext λi=>(iN e).trans (af (λm=>X.b+fy X.W X.K m X.l (X.K-X.b*X.l.length) i) em)];exact h (vc.imp_right λt=>((iN e).trans (af (λm=>vg X.W X.K m X.l (X.K-X.b*X.l.length)) em)).symm.trans t)
theorem QO(M:r8 O X)(P:o8 X)(h:X.ta=true\/sW X.c X.b X.v X.l X.K=false):EQ O X (sf X.c X.b X.v X.l X.K):=by
 by_cases e:X.b*X.l.length=X.K
 ·rw[show sf X.c X.b X.v X.l X.K=λ_=>X.b from funext λi=>iP e];exact afc M P.l3 e
 ·exact(JD M P e).2 h
def jB:aN:=Iu.scope.names
def qr(i:Nat):aH:=aJ Iu.body i
def zM(X:DX)(r:ar):ar:=("method",.pv (.str X.bM))::("votes",.pv (.list X.vs))::("seats",.pv (.int X.K))::("threshold",.pv .none)::("tiesallowed",.pv (.bool X.ta))::r
def lE(X:DX):ar:=zM X [("filtered_votes",.pv (.list X.vs))]
def Il:aH:=aJ (sB 1 (qr 1)) 0
def IF:aH:=aJ (sB 1 Il) 0
def w9:aH:=aJ (sB 0 IF) 0
structure IQ(O:aK)(X:DX):Prop where
 t0:fF O 999999 jB (bA (lE X)) (sE (qr 1))=some false
 t1:fF O 999998 jB (bA (lE X)) (sE Il)=some false
 t2:fF O 999997 jB (bA (lE X)) (sE IF)=some true
theorem PD(M:IQ O X)(h:O.fn "apply_threshold" [.list X.vs,.none] []=some (.list X.vs)):a9 O NN jB [] (zM X []) [qr 0,qr 1]=sO O (ip 999996 O) jB (lE X) (sE w9):=
 aF (bg (n:=999999) (K:=bH jB "filtered_votes" false) ⋯ ((⋯:_=O.fn "apply_threshold" [.list X.vs,.none] []).trans h) (⋯:_=nx (lE X))) (j0.trans (cL (n:=999999) (b:=false) ⋯ M.t0 ((⋯:_=aS (aw O 999999 jB []) [Il] (lE X)).trans (j0.trans (cL (n:=999998) (b:=false) ⋯ M.t1 ((⋯:_=aS (aw O 999998 jB []) [IF] (lE X)).trans (j0.trans (cL (n:=999997) (b:=true) ⋯ M.t2 ((⋯:_=aS (aw O 999997 jB []) [w9] (lE X)).trans (j0.trans ⋯))))))))))
theorem M0:(aI NN (k+1)).fn "apply_threshold" [w,.none] []=some w:=⋯
noncomputable def nA:List Str:=["dhondt","jefferson","saintelague","webster","adams"]
noncomputable def dK(κ:Nat):Bool:=κ==2||κ==3
noncomputable def bK(κ:Nat):Nat:=if κ=4 then 1 else 0
def mX(κ:Nat)(l:List Nat)(v:Nat->Nat)(K:Nat)(ta:Bool):DX:=⟨l,v,K,nA.getD κ "",ta,dK κ,bK κ⟩
theorem Aa{P:Nat->Prop}(h0:P 0)(h1:P 1)(h2:P 2)(h3:P 3)(h4:P 4):∀j,j<5->P j:=vj (vK h0 h1 h2 h3) h4
theorem OU{κ:Nat}{ta:Bool}(h:κ<5):IQ O (mX κ l v K ta):=Aa (P:=λκ=>IQ O (mX κ l v K ta)) ⟨⋯,⋯,⋯⟩ ⟨⋯,⋯,⋯⟩ ⟨⋯,⋯,⋯⟩ ⟨⋯,⋯,⋯⟩ ⟨⋯,⋯,⋯⟩ κ h
theorem Ο{κ:Nat}{ta:Bool}{R:List PV}{x:Nat}{d:Option PV}(h:κ<5):fF O 999998 bv (bA (bJ (mX κ l v K ta) (.own R) (oM (mX κ l v K ta) x d []))) (sE (g8 2))=some false:=Aa (P:=λκ=>fF O 999998 bv (bA (bJ (mX κ l v K ta) (.own R) (oM (mX κ l v K ta) x d []))) (sE (g8 2))=some false) (by cases d<;>rfl') (by cases d<;>rfl') (by cases d<;>rfl') (by cases d<;>rfl') (by cases d<;>rfl') κ h
theorem Bu{κ:Nat}{ta:Bool}(h:κ<5)(P:o8 (mX κ l v K ta)):r8 O (mX κ l v K ta):=by
 refine⟨?_,λR x d=>Ο h⟩;have hK:K<8:=aQ P.G.hi (by decide);have hl:=P.G.lo;have hv:=P.v1;clear P;revert hl hv;exact Aa (P:=λκ=>bK κ*l.length<=K->(∀i,1<=v i)->tR O (mX κ l v K ta)) (λ_ _=>Pb hK rfl rfl (.inl rfl)) (λ_ _=>Pb hK rfl rfl (.inr rfl)) (λ_ _=>NY hK rfl rfl (.inl rfl)) (λ_ _=>NY hK rfl rfl (.inr rfl)) (λhl hv=>adR hK rfl rfl rfl (aq (aD (y7 _).symm) hl) hv) κ h
theorem afy{κ:Nat}(h:κ<5)(P:o8 (mX κ l v K true)):(aI NN (k+3)).fn "compute" [.str (nA.getD κ ""),.list (l.map λi=>.int (v i)),.int K] []=some (.list (aO l (sf (dK κ) (bK κ) v l K))):=
 (⋯:_=cq (a9 (aI NN (k+2)) NN jB [] (zM (mX κ l v K true) []) [qr 0,qr 1])).trans (af cq ((PD (OU h) (M0 (k:=k+1))).trans (Ei ((⋯:_=bm (aI NN (k+1)) NN xu [.list (mX κ l v K true).vs,.int K,.str (mX κ l v K true).bM,.bool true] []).trans (QO (Bu h P) P (.inl rfl))))))
end
section
variable{O:aK}{i p f:Nat}{l s:List Nat}{t g:Nat->Nat}{st:aH}
section
variable{X:DX}{r k K κ:Nat}{l1 l2:List Nat}{C v:Nat->Nat}{fs:List Int}{m:Int}{d o:Option PV}{σ σ₁:ar}{Y:ar->aH->aZ}{ss:List aH}
def AW(o:aZ):Prop:=∃σ,o=some (.exc,σ)
theorem R6(h:AW (Y σ st)):AW (aS Y (st::ss) σ):=h.imp λσ₁ h=>show(Y σ st).bind (λq=>if q.1.g9=true then aS Y ss q.2 else some q)=_ from aG h rfl
theorem abU(h:X.l[i]?=some p)(hT:bG X.W X.K m p=true)(hs:su t X.l=X.K)(ta:X.ta=false):AW (a9 O 999998 bv dG (bJ X (.own (aO X.l t)) (eW X d fs m false (some (.int i)))) (sB 0 jJ)):=by
 have e:=cL (O:=O) (n:=999997) (nm:=bv) (mu:=dG) (st:=qg 0) (b:=true) (r:=some (.exc,bJ X (.own (aO X.l t)) (eW X d fs m false (some (.int i))))) ⋯ ((DL (d:=d) (fs:=fs) (tie:=false) h).trans (by rw[hT,hs,beq_self_eq_true];rfl)) (by
  obtain⟨l,v,K,bM,LR,c,b⟩:=X;obtain rfl:LR=false:=ta;cases d<;>rfl')
 exact R6 ⟨_,e⟩
theorem VG(nd:X.l.Nodup)(hs:su C X.l+r=X.K)(ta:X.ta=false)(hr:r<(X.l.filter (bG X.W X.K m)).length):∀{l2 l1:List Nat} {o:Option PV},X.l=l1++l2->(l1.filter (bG X.W X.K m)).length<=r->AW (dZ (aS (aw O 999998 bv dG) (sB 0 jJ)) bv (sT jJ) (aC (gW l1.length l2.length)) (bJ X (.own (aO X.l (tF C (l1.filter (bG X.W X.K m)) r))) (eW X d fs m (l6 (l1.filter (bG X.W X.K m)) r) o))):=by
 intro l2;induction l2 with
 |nil=>exact λ{l1 o} e k=>absurd (ba hr (aq (aD (by rw[e,gO])) k)) (cV _)
 |cons p l2 ih=>
  intro l1 o e k;have hb:fT (rO bv) (sT jJ) (.int l1.length) (bJ X (.own (aO X.l (tF C (l1.filter (bG X.W X.K m)) r))) (eW X d fs m (l6 (l1.filter (bG X.W X.K m)) r) o))=some (bJ X (.own (aO X.l (tF C (l1.filter (bG X.W X.K m)) r))) (eW X d fs m (l6 (l1.filter (bG X.W X.K m)) r) (some (.int l1.length)))):=by cases d<;>cases o<;>rfl'
  by_cases q:bG X.W X.K m p=true/\r<=(l1.filter (bG X.W X.K m)).length
  ·have sF:(l1.filter (bG X.W X.K m)).Sublist X.l:=uT.trans (e▸agW ..);have z:=abU (O:=O) (d:=d) (fs:=fs) (DY e) q.1 ((Mp (C:=C) (r:=r) nd sF).trans (by rw[wM q.2];exact hs)) ta;have tf:l6 (l1.filter (bG X.W X.K m)) r=false:=dF (gN k);rw[tf] at hb⊢;obtain⟨σ,z⟩:=z;exact⟨σ,aG hb (aG z rfl)⟩
  ·have h:=ih (l1:=l1++[p]) (o:=some (.int l1.length)) (e.trans (kt l1 [p] l2).symm) (by
    rw[pU,da];cases hT:bG X.W X.K m p with
    |false=>rw[uZ (ne_true_of_eq_false hT)];exact k
    |true=>rw[tx hT];exact oj λz=>q ⟨hT,z⟩)
   rw[da] at h;exact h.imp λσ h=>ii hb (Qt nd hs (λz hT=>absurd ⟨hT,z⟩ q) e) h
theorem aeg(M:r8 O X)(P:o8 X)(ta:X.ta=false)(h:sW X.c X.b X.v X.l X.K=true):AW (a9 O NN bv dG (xi X) yu):=by
 by_cases e:X.b*X.l.length=X.K
 ·exact absurd ((iP e).symm.trans h) dy
 have hK:X.K<8:=aQ P.G.hi (by decide);have kF:=iK P.G.lo;obtain⟨fs,m,d,L,e2⟩:=Qu M hK P.v1 P.l3 P.l0 kF (q9 (pR P.G.lo e));have t:=(iN e).symm.trans h;rw[show l8 (Wd X.c X.K X.v) X.K X.l (X.K-X.b*X.l.length)=m from JF P.dec L] at t;have sC:su (λi=>X.b+bF X.W X.K m i) X.l=X.b*X.l.length+su (bF X.W X.K m) X.l:=qO.trans (af (· +_) gz);have z:=VG (O:=O) (fs:=fs) (m:=m) (d:=d) (C:=λi=>X.b+bF X.W X.K m i) (r:=X.K-X.b*X.l.length-su (bF X.W X.K m) X.l) P.nd (by rw[sC,fC,iK (cy L.lo),kF]) ta ((TJ (cy L.lo)).mpr (cC t)) (l2:=X.l) (l1:=[]) (o:=none) rfl (cu _);rw[show tF (λi=>X.b+bF X.W X.K m i) (List.filter (bG X.W X.K m) []) (X.K-X.b*X.l.length-su (bF X.W X.K m) X.l)=λi=>X.b+bF X.W X.K m i from funext λi=>by unfold tF;rw[Cm,uW,iN eX];rfl] at z;rw[RM M P.l3 e2];refine R6 (z.imp λσ z=>RG P.l3 (sC▸ba (TQ L.lo _) (aD kF)) ((rA _).trans (aG (K:=lu _ _) (?_:_=some (fZ.exc,σ)) rfl)));rw[yF];exact z
structure abe(O:aK)(X:DX)(b:Bool):Prop where
 yes:b=true->O.fn "compute" [.str X.bM,.list X.vs,.int X.K] [("tiesallowed",.bool false)]=none/\O.nW "compute" [.str X.bM,.list X.vs,.int X.K] [("tiesallowed",.bool false)]=true
 no:b=false->∃p,O.fn "compute" [.str X.bM,.list X.vs,.int X.K] [("tiesallowed",.bool false)]=some p
theorem aes(h:κ<5)(P:o8 (mX κ l v K false)):abe (aI NN (k+3)) (mX κ l v K false) (sW (dK κ) (bK κ) v l K):=by
 have f1:(aI NN (k+3)).fn "compute" [.str (mX κ l v K false).bM,.list (mX κ l v K false).vs,.int K] [("tiesallowed",.bool false)]=cq (a9 (aI NN (k+2)) NN jB [] (zM (mX κ l v K false) []) [qr 0,qr 1]):=⋯;have f2:(aI NN (k+3)).nW "compute" [.str (mX κ l v K false).bM,.list (mX κ l v K false).vs,.int K] [("tiesallowed",.bool false)]=(a9 (aI NN (k+2)) NN jB [] (zM (mX κ l v K false) []) [qr 0,qr 1]).any λr=>r.1.isExc:=⋯;have c:=PD (OU (O:=aI NN (k+2)) (l:=l) (v:=v) (K:=K) (ta:=false) h) (M0 (k:=k+1));have d1:cI (aI NN (k+2)) 999996 jB (bA (lE (mX κ l v K false))) (sE w9)=cq (a9 (aI NN (k+1)) NN bv dG (xi (mX κ l v K false)) yu):=⋯;refine⟨λt=>?_,λt=>⟨_,f1.trans (af cq (c.trans (Ei (d1.trans (GA.symm.trans (QO (Bu h P) P (.inr t)))))))⟩⟩;obtain⟨σ,e⟩:=aeg (Bu (O:=aI NN (k+1)) h P) P rfl t;have d2:raises (aI NN (k+2)) (ip 999996 (aI NN (k+2))) jB (bA (lE (mX κ l v K false))) (sE w9)=(a9 (aI NN (k+1)) NN bv dG (xi (mX κ l v K false)) yu).any λr=>r.1.isExc:=⋯;rw[e] at d1 d2;have x:sO (aI NN (k+2)) (ip 999996 (aI NN (k+2))) jB (lE (mX κ l v K false)) (sE w9)=some (.exc,lE (mX κ l v K false)):=by
  unfold sO;rw[show(ip 999996 (aI NN (k+2))).e jB (bA (lE (mX κ l v K false))) (sE w9)=none from d1,d2];rfl
 rw[c.trans x] at f1 f2;exact⟨f1,f2⟩
end
section
structure SX where
 n:Nat
 bM:Str
 v:Nat->Nat
 M:Nat->Nat
 ps:List Nat
def bW(n:Nat)(g:Nat->Nat):List PV:=dP n λi=>.int (g i)
def dU:aN:=BO.scope.names
def jW(i:Nat):aH:=aJ BO.body i
def eu(i:Nat):aH:=aJ (sB 0 (jW 2)) i
noncomputable def gf:List Str:=["given"]
def eF(X:SX)(K:Int)(g:Nat->Nat)(l:List Nat)(r:ar):ar:=("method",.pv (.str X.bM))::("votes",.pv (.list (bW X.n X.v)))::("lengths",.pv (.list (bW X.n X.M)))::("seats",.pv (.int K))::("order",.pv (.list (aC X.ps)))::("given",.own (bW X.n g))::("left",.pv (.list (aC l)))::r
noncomputable def mY(a b c:Option PV):ar:=a.elim [] λa=>("told",.pv a)::b.elim [] λb=>("short",.pv b)::c.elim [] λc=>[("party",.pv c)]
abbrev S3:Type:=Option (PV×PV×Option PV)
variable{X:SX}{K:Int}{r:S3}{w a:PV}{b c:Option PV}
theorem Ii(h:i<X.n):bP (.list (bW X.n g)) (.int i)=some (.int (g i)):=C2 (h:=λi=>.int (g i)) h
theorem HJ{x:Nat}(h:i<X.n):jU (bW X.n g) (.int i) (.int x)=some (bW X.n (gA g i x)):=(H8 h).trans (af (λh=>some (dP X.n h)) (funext λc=>(apply_ite (λn:Nat=>PV.int n) ..).symm))
theorem Zu(hl:∀i∈l,i<X.n)(hz:l.length<=aA)(hc:O.fn "compute" [.str X.bM,.list (l.map λi=>.int (X.v i)),.int K] []=some w):aw O (f+40) dU gf (eF X K g l (mY (r.map (·.1)) (r.map (·.2.1)) (r.bind (·.2.2)))) (eu 0)=nx (eF X K g l (mY (some w) (r.map (·.2.1)) (r.bind (·.2.2)))):=by
 have e:c8 O (f+37) (bR 1 (sE (eu 0))) [("votes",.list (bW X.n X.v))] (aC l)=some (.list (l.map λi=>.int (X.v i))):=nZ (v:=λn:Nat=>.int n) ⋯ (λi m=>(show _=(bP (.list (bW X.n X.v)) (.int i)).map λx=>[x] by rfl').trans (af (eP λx=>[x]) (Ii (hl i m)))) hz;refine bg (n:=f+39) (K:=bH dU "told" false) (p:=w) ⋯ ((show _=(((c8 O (f+37) (bR 1 (sE (eu 0))) [("votes",.list (bW X.n X.v))] (aC l)).bind λv=>some [v,.int K]).map λvs=>PV.str X.bM::vs).bind λvs=>O.fn "compute" vs [] by rcases r with _|⟨_,_,_|_⟩<;>rfl').trans ?_) (by rcases r with _|⟨_,_,_|_⟩<;>rfl');rw[e];exact hc
theorem abY{β:Type}{l:List Nat}{f:Nat->β}{ok:Nat->Bool}:(((ax l.length).filter λi=>ok (l.getD i 0)).map λi=>f (l.getD i 0))=(l.filter ok).map f:=by
 have h:=af (λl=>(l.filter ok).map f) (IB (l:=l) (d:=0));rw[K4,jr] at h;exact h
theorem YK{l:List Nat}(h:i<l.length):l[i]?=some (l.getD i 0):=by rw[tv,jL h];rfl
def QS:Expr:=sE (eu 1)
theorem Η(hl:∀i∈l,i<X.n)(hz:l.length<=aA):aw O (f+40) dU gf (eF X K g l (mY (some (.list (aO l t))) (r.map (·.2.1)) (r.bind (·.2.2)))) (eu 1)=nx (eF X K g l (mY (some (.list (aO l t))) (some (.list (aC (ck t X.M l)))) (r.bind (·.2.2)))):=by
 have e:c8 O (f+38) QS [("lengths",.list (bW X.n X.M)),("left",.list (aC l)),("told",.list (aO l t))] (aC (ax l.length))=some (.list (aC (ck t X.M l))):=by
  refine(v6 (v:=λn:Nat=>.int n) (w:=λi=>.int (l.getD i 0:Nat)) (ok:=λi=>decide (X.M (l.getD i 0)<t (l.getD i 0))) ⋯ (λi m=>(show _=((((bP (.list (aO l t)) (.int i)).bind λa=>((bP (.list (aC l)) (.int i)).bind λp=>bP (.list (bW X.n X.M)) p).bind λb=>fe O .Gt a b).bind λb=>if b=false then some false else some true).bind λok=>if ok=true then(bP (.list (aC l)) (.int i)).map λx=>[x] else some []) by rfl').trans ?_) (aq (aD cF) hz)).trans (af (λl=>some (PV.list l)) (abY (f:=λp:Nat=>PV.int p) (ok:=λp=>decide (X.M p<t p))));have h:=YK (eK m);have hm:l.getD i 0∈l:=Tu h;rw[show bP (.list (aC l)) (.int i)=some (.int (l.getD i 0:Nat)) from rQ h,show bP (.list (aO l t)) (.int i)=some (.int (t (l.getD i 0):Nat)) from rQ h];show((((bP (.list (bW X.n X.M)) (.int (l.getD i 0:Nat))).bind λb=>fe O .Gt (.int (t (l.getD i 0):Nat)) b).bind λb=>if b=false then some false else some true).bind λok=>if ok=true then some [PV.int (l.getD i 0:Nat)] else some [])=_;rw[Ii (hl _ hm)];show(((some (decide (((X.M (l.getD i 0):Nat):Int)<(t (l.getD i 0):Nat)))).bind λb=>if b=false then some false else some true).bind λok=>if ok=true then some [PV.int (l.getD i 0:Nat)] else some [])=_;rw[show decide (((X.M (l.getD i 0):Nat):Int)<(t (l.getD i 0):Nat))=decide (X.M (l.getD i 0)<t (l.getD i 0)) from fv za];cases decide (X.M (l.getD i 0)<t (l.getD i 0))<;>rfl
 refine bg (n:=f+39) (K:=bH dU "short" false) (p:=.list (aC (ck t X.M l))) ⋯ ((show _=(gh 0 ((aC l).length:Nat)).bind λv=>over v (c8 O (f+38) QS [("lengths",.list (bW X.n X.M)),("left",.list (aC l)),("told",.list (aO l t))]) by rcases r with _|⟨_,_,_|_⟩<;>rfl').trans ?_) (by rcases r with _|⟨_,_,_|_⟩<;>rfl');rw[show(aC l).length=l.length from bi _];exact aG (nE hz) ((rA _).trans e)
end
section
variable{X:SX}{K:Int}{n:Nat}{l1 l2:List Nat}{a b:PV}{c o:Option PV}{nm:aN}{mu:List Str}{σ:ar}{x:Str}{v k:PV}{L L':List PV}{ix:Expr}{rr:aZ}
theorem RL(hs:aw O (n+1) nm mu σ st=(bX (cI O n nm) σ (sE st)).bind λq=>(gu q.2 x).bind λl=>(cI O n nm (bA q.2) ix).bind λk=>(jU l k q.1).bind λl'=>eh (putN nm x (.own l') q.2))(he:cI O n nm (fJ σ) (sE st)=some v)(hw:gu σ x=some L)(hi:cI O n nm (bA σ) ix=some k)(hp:jU L k v=some L')(hk:eh (putN nm x (.own L') σ)=rr):aw O (n+1) nm mu σ st=rr:=hs.trans (aG (vW he) (aG hw (aG hi (aG hp hk))))
def JZ(i:Nat):aH:=aJ (sB 0 (eu 3)) i
noncomputable def hF(g M:Nat->Nat)(s:List Nat)(i:Nat):Nat:=if i∈s then M i else g i
theorem ZK:hF (gA g p (t p)) t s=hF g t (p::s):=funext λc=>by
 unfold hF gA;by_cases m:c∈s
 ·rw[iP m,iP (.tail _ m)]
 ·rw[iN m];by_cases e:c=p
  ·rw[iP e,iP (e▸ .head _),e]
  ·rw[iN e,iN λh=>(bw h).elim e m]
theorem aah:∀{s:List Nat} {K:Int} {g:Nat->Nat} {c:Option PV},(∀i∈s,i<X.n)->∃c',dZ (aS (aw O (f+39) dU gf) (sB 0 (eu 3))) dU (sT (eu 3)) (aC s) (eF X K g l (mY (some a) (some b) c))=nx (eF X (K-su X.M s) (hF g X.M s) l (mY (some a) (some b) c')):=by
 intro s;induction s with
 |nil=>exact λ{K g c} _=>⟨c,by rw[show hF g X.M []=g from funext λi=>iN eX,show su X.M []=0 from rfl,Int.natCast_zero,Kj];rfl⟩
 |cons p s ih=>
  intro K g c h;obtain⟨c',e⟩:=ih (K:=K-X.M p) (g:=gA g p (X.M p)) (c:=some (.int p)) λi m=>h i (.tail _ m);rw[ZK,Int.sub_sub,<-wS] at e;have hp:=h p (.head _);have iv:bP (.list (bW X.n X.M)) (.int p)=some (.int (X.M p)):=Ii hp;exact⟨c',ii (σ₁:=eF X K g l (mY (some a) (some b) (some (.int p)))) (by cases c<;>rfl') (aF (st:=JZ 0) (RL (n:=f+38) (x:="given") (k:=.int p) (ix:=bR 1 (sT (JZ 0))) ⋯ ((⋯:_=bP (.list (bW X.n X.M)) (.int p)).trans iv) ⋯ ⋯ (HJ (g:=g) hp) (⋯:_=nx (eF X K (gA g p (X.M p)) l (mY (some a) (some b) (some (.int p)))))) (aF (st:=JZ 1) (bg (n:=f+38) (K:=Iq O dU "seats" .Sub (.int K)) ⋯ ((⋯:_=bP (.list (bW X.n X.M)) (.int p)).trans iv) ⋯) rfl)) e⟩
theorem PM:l9 4 (.int p) (aC s)=some (decide (p∈s)):=by
 induction s with
 |nil=>rfl
 |cons a s ih=>
  refine(af (eP (or ((a:Int)==(p:Int)))) ih).trans (af some ?_);by_cases e:a=p
  ·subst e;rw[beq_self_eq_true,dT (show a∈a::s from .head _)];rfl
  ·rw[li λh=>e (wR.mp h),Bool.false_or];exact fv (jN.trans (or_iff_right (gV e))).symm
def O6:Expr:=sE (eu 4)
theorem aaO(hz:l.length<=aA):aw O (f+40) dU gf (eF X K g l (mY (some a) (some (.list (aC (ck t X.M l)))) c)) (eu 4)=nx (eF X K g (jv t X.M l) (mY (some a) (some (.list (aC (ck t X.M l)))) c)):=by
 have e:c8 O (f+38) O6 [("short",.list (aC (ck t X.M l)))] (aC l)=some (.list (aC (jv t X.M l))):=by
  refine(v6 (v:=λn:Nat=>.int n) (w:=λn:Nat=>.int n) (ok:=λp=> !decide (p∈ck t X.M l)) ⋯ (λp m=>(show _=((((l9 4 (.int p) (aC (ck t X.M l))).map not).bind λb=>if b=false then some false else some true).bind λok=>if ok=true then some [PV.int p] else some []) by rfl').trans (by rw[PM];cases decide (p∈ck t X.M l)<;>rfl)) hz).trans (af (λl=>some (PV.list (aC l))) (Cn λp m=>?_));by_cases k:X.M p<t p
  ·rw[dT (show p∈ck t X.M l from o5 ⟨m,dT k⟩),dF (nh k)];rfl
  ·rw[dF (λh=>k (cC (eL h).2):p∉ck t X.M l),dT (cZ k)];rfl
 exact bg (n:=f+39) (K:=bH dU "left" false) (p:=.list (aC (jv t X.M l))) ⋯ ((show _=c8 O (f+38) O6 [("short",.list (aC (ck t X.M l)))] (aC l) by cases c<;>rfl').trans e) (by cases c<;>rfl')
def vG:aH:=aJ (sB 0 (eu 2)) 0
noncomputable def Dp(a b:PV)(c o:Option PV):ar:=("told",.pv a)::("short",.pv b)::c.elim (o.elim [] λo=>[("i",.pv o)]) λc=>("party",.pv c)::o.elim [] λo=>[("i",.pv o)]
theorem aeG(hl:∀i∈l,i<X.n):∀{l2 l1:List Nat} {o:Option PV},l=l1++l2->∃o',dZ (aS (aw O (f+38) dU gf) (sB 0 vG)) dU (sT vG) (aC (gW l1.length l2.length)) (eF X K (hF g t l1) l (Dp (.list (aO l t)) b c o))=nx (eF X K (hF g t l) l (Dp (.list (aO l t)) b c o')):=by
 intro l2;induction l2 with
 |nil=>exact λ{l1 o} e=>⟨o,by rw[e,gO];rfl⟩
 |cons p l2 ih=>
  intro l1 o e;obtain⟨o',h⟩:=ih (l1:=l1++[p]) (o:=some (.int l1.length)) (e.trans (kt l1 [p] l2).symm);have ha:=DY e;have hp:p<X.n:=hl p (Tu ha);have i1:bP (.list (aO l t)) (.int l1.length)=some (.int (t p)):=rQ ha;have i2:bP (.list (aC l)) (.int l1.length)=some (.int p):=rQ ha;rw[da,show hF g t (l1++[p])=gA (hF g t l1) p (t p) from funext λx=>by
   unfold hF gA;by_cases q:x=p
   ·rw[iP q,iP (fE _ (F8.mpr q)),q]
   ·rw[iN q,ite_congr (propext (K6.trans (or_iff_left λh=>q (cY h)))) (λ_=>rfl) λ_=>rfl]] at h
  generalize l1.length=i at*;exact⟨o',ii (σ₁:=eF X K (hF g t l1) l (Dp (.list (aO l t)) b c (some (.int i)))) (by cases c<;>cases o<;>rfl') (aF (st:=aJ (sB 0 vG) 0) (RL (n:=f+37) (x:="given") (k:=.int p) (ix:=bR 1 (sT (aJ (sB 0 vG) 0))) ⋯ ((show _=bP (.list (aO l t)) (.int i) by cases c<;>rfl').trans i1) ⋯ ((show _=bP (.list (aC l)) (.int i) by cases c<;>rfl').trans i2) (HJ (g:=hF g t l1) hp) ⋯) rfl) h⟩
end
section
variable{X:SX}{n K b:Nat}{q:Nat->Nat->Int}{rk:Nat->Nat}{bq:List Nat->Nat->Nat->Nat}{r:S3}
def M9(o:aZ)(v:PV):Prop:=∃σ,o=some (.ret v,σ)
structure Br(O:aK)(X:SX)(bq:List Nat->Nat->Nat->Nat)(b:Nat):Prop where
 fn:∀{l:List Nat} {K:Nat},l.Sublist X.ps->l≠[]->lS b 6 l K->O.fn "compute" [.str X.bM,.list (l.map λi=>.int (X.v i)),.int K] []=some (.list (aO l (bq l K)))
 lt:∀i∈X.ps,i<X.n
 iW:X.ps.length<=aA
def pD(r:S3):ar:=mY (r.map (·.1)) (r.map (·.2.1)) (r.bind (·.2.2))
def EK(a b:PV)(r:S3):ar:=mY (some a) (some b) (r.bind (·.2.2))
theorem Ru(H:Br O X bq b)(s:l.Sublist X.ps)(h0:l≠[])(G:lS b 6 l K){R:aZ}{L:List aH}(h:aS (aw O (f+40) dU gf) L (eF X K g l (EK (.list (aO l (bq l K))) (.list (aC (ck (bq l K) X.M l))) r))=R):aS (aw O (f+40) dU gf) (eu 0::eu 1::L) (eF X K g l (pD r))=R:=
 have hl:∀i∈l,i<X.n:=λi m=>H.lt i (s.mem m);have hz:=aq s.length_le H.iW
 aF (Zu hl hz (H.fn s h0 G)) (aF (Η hl hz) h)
theorem OS{R:aZ}(hl:l≠[])(h:(a9 O (f+40) dU gf (eF X K g l (pD r)) [eu 0,eu 1,eu 2,eu 3,eu 4]).bind (λq=>if q.1.g9=true then aw O (f+40) dU gf q.2 (jW 2) else some q)=R):aw O (f+41) dU gf (eF X K g l (pD r)) (jW 2)=R:=by
 obtain⟨p,l,rfl⟩:=Ch hl;refine(show _=(fF O (f+40) dU (bA (eF X K g (p::l) (pD r))) (sE (jW 2))).bind λz=>if z=true then(a9 O (f+40) dU gf (eF X K g (p::l) (pD r)) [eu 0,eu 1,eu 2,eu 3,eu 4]).bind λq=>if q.1.g9=true then aw O (f+40) dU gf q.2 (jW 2) else some q else some (.next,eF X K g (p::l) (pD r)) by rfl').trans (aG (a:=true) ⋯ h)
theorem Ni{B:Bool}(h:decide (s=[])=B){R:aZ}{a:PV}(k:aS (aw O (f+39) dU gf) (if B=true then sB 0 (eu 2) else sB 1 (eu 2)) (eF X K g l (EK a (.list (aC s)) r))=R):aw O (f+40) dU gf (eF X K g l (EK a (.list (aC s)) r)) (eu 2)=R:=by
 subst h;exact cL (n:=f+39) ⋯ (by cases s<;>rfl') k
theorem Wc(hl:∀i∈l,i<X.n)(hz:l.length<=aA){b:PV}:M9 (aS (aw O (f+39) dU gf) (sB 0 (eu 2)) (eF X K g l (EK (.list (aO l t)) b r))) (.list (bW X.n (hF g t l))):=by
 obtain⟨o,e⟩:=aeG (O:=O) (f:=f) (K:=K) (g:=g) (t:=t) (b:=b) (c:=r.bind (·.2.2)) hl (l1:=[]) (l2:=l) (o:=none) rfl;rw[show hF g t []=g from funext λi=>iN eX] at e;refine⟨_,(show _=aS (aw O (f+39) dU gf) [vG,aJ (sB 0 (eu 2)) 1] (eF X K g l (Dp (.list (aO l t)) b (r.bind (·.2.2)) none)) by rcases r with _|⟨_,_,_|_⟩<;>rfl').trans (aF (bg (n:=f+38) (K:=fY (aw O (f+38) dU gf) dU (sT vG) (sB 0 vG)) ⋯ ((show _=gh 0 ((aC l).length:Nat) by rcases r with _|⟨_,_,_|_⟩<;>rfl').trans ((af (λn:Nat=>gh 0 n) (bi _)).trans (nE hz))) (zP (by rw[yF];exact e))) (rY (vY (n:=f+38) ⋯ (by rcases r with _|⟨_,_,_|_⟩<;>cases o<;>rfl'))))⟩
theorem abj(H:Br O X bq b)(s:l.Sublist X.ps)(h0:l≠[])(G:lS b 6 l K)(hs:ck (bq l K) X.M l≠[])(hK:su X.M (ck (bq l K) X.M l)<=K):∃r':S3,∀{R:aZ},aw O (f+40) dU gf (eF X (K-su X.M (ck (bq l K) X.M l):Nat) (hF g X.M (ck (bq l K) X.M l)) (jv (bq l K) X.M l) (pD r')) (jW 2)=R->aw O (f+41) dU gf (eF X K g l (pD r)) (jW 2)=R:=by
 have hl:∀i∈l,i<X.n:=λi m=>H.lt i (s.mem m);have hz:=aq s.length_le H.iW;obtain⟨c',e⟩:=aah (O:=O) (X:=X) (f:=f) (l:=l) (a:=.list (aO l (bq l K))) (b:=.list (aC (ck (bq l K) X.M l))) (s:=ck (bq l K) X.M l) (K:=K) (g:=g) (c:=r.bind (·.2.2)) λi m=>hl i (eL m).1;rw[<-F4 hK] at e;refine⟨some (.list (aO l (bq l K)),.list (aC (ck (bq l K) X.M l)),c'),λ{R} k=>OS h0 (aG (a:=(fZ.next,eF X (K-su X.M (ck (bq l K) X.M l):Nat) (hF g X.M (ck (bq l K) X.M l)) (jv (bq l K) X.M l) (pD (some (.list (aO l (bq l K)),.list (aC (ck (bq l K) X.M l)),c'))))) (Ru H s h0 G ?_) k)⟩;generalize bq l K=t at*;refine aF (Ni (dF hs) rfl) (aF (bg (n:=f+39) (K:=fY (aw O (f+39) dU gf) dU (sT (eu 3)) (sB 0 (eu 3))) (p:=.list (aC (ck t X.M l))) ⋯ (by rcases r with _|⟨_,_,_|_⟩<;>rfl') (sq e)) (aF (aaO hz) rfl))
theorem afi(H:Br O X bq b)(A:AM q rk X.ps bq b 6):∀{n:Nat} {l:List Nat} {K:Nat} {g:Nat->Nat} {r:S3},l.length<n->l.Sublist X.ps->l≠[]->lS b 6 l K->K<=su X.M l->(∀i,g i=if i∈X.ps then(if i∈l then g i else X.M i) else 0)->M9 (aw O (f+n+40) dU gf (eF X K g l (pD r)) (jW 2)) (.list (bW X.n λi=>if i∈X.ps then s8 bq X.M n l K i else 0)):=by
 intro n;induction n with
 |zero=>exact λh=>absurd h (yW _)
 |succ n ih=>
  intro l K g r hn s h0 G hK hg;have hl:∀i∈l,i<X.n:=λi m=>H.lt i (s.mem m);have hz:=aq s.length_le H.iW;have C:=A l K s h0 G;by_cases hs:ck (bq l K) X.M l=[]
  ·have es:s8 bq X.M (n+1) l K=λi=>if i∈l then bq l K i else X.M i:=iP hs;obtain⟨σ,e⟩:=Wc (O:=O) (f:=f+n) (K:=K) (g:=g) (t:=bq l K) (r:=r) hl hz (b:=.list (aC (ck (bq l K) X.M l)));rw[es,show(λi=>if i∈X.ps then(if i∈l then bq l K i else X.M i) else 0)=hF g (bq l K) l from funext λi=>by
    unfold hF;by_cases m:i∈l
    ·rw[iP (s.mem m),iP m,iP m]
    ·rw[iN m,iN m,hg i,iN m]]
   exact⟨σ,OS h0 ((af (λo:aZ=>o.bind λq=>if q.1.g9=true then aw O (f+n+40) dU gf q.2 (jW 2) else some q) (Ru H s h0 G (rY (Ni (dT hs) e)))).trans rfl)⟩
  ·have es:s8 bq X.M (n+1) l K=s8 bq X.M n (jv (bq l K) X.M l) (K-su X.M (ck (bq l K) X.M l)):=iN hs;obtain⟨c,l',ec⟩:=Ch hs;have N:=C.next G (ec▸ .head _:c∈ck (bq l K) X.M l);have mc:=eL (ec▸ .head _:c∈ck (bq l K) X.M l);obtain⟨r',e⟩:=abj (O:=O) (f:=f+n) (g:=g) (r:=r) H s h0 G hs (cy N.1);rw[es];clear es ec l';generalize bq l K=t at*;have K':K-su X.M (ck t X.M l)<=su X.M (jv t X.M l):=TY.mpr (aq hK (aD Ez));have n0:jv t X.M l≠[]:=λe=>nh N.2.one (aq K' (aD (af (su X.M) e)));refine(ih (l:=jv t X.M l) (g:=hF g X.M (ck t X.M l)) (r:=r') (ba (ag3.mpr ⟨c,mc.1,λk=>nh (cC mc.2) (cC k)⟩) (jt hn)) (uT.trans s) n0 N.2 K' λi=>?_).imp λσ k=>e k;unfold hF;by_cases m:i∈ck t X.M l
   ·have m':=eL m;rw[iP m,iP (s.mem m'.1)];exact(ite_self _).symm
   ·rw[iN m];refine(hg i).trans ?_;by_cases ml:i∈l
    ·rw[iP ml,iP (show i∈jv t X.M l from o5 ⟨ml,dT (cZ λk=>m (o5 ⟨ml,dT k⟩))⟩)]
    ·rw[iN ml,iN (λh=>ml (eL h).1:i∉jv t X.M l)]
theorem X3(H:Br O X bq b)(A:AM q rk X.ps bq b 6)(h0:X.ps≠[])(G:lS b 6 X.ps K)(hK:K<=su X.M X.ps)(hn:X.n<=aA)(hp:X.ps.length<=900):
  bm O NN BO [.str X.bM,.list (bW X.n X.v),.list (bW X.n X.M),.int K,.list (aC X.ps)] []=some (.list (bW X.n λi=>if i∈X.ps then s8 bq X.M (X.ps.length+1) X.ps K i else 0)):=by
 obtain⟨σ,e⟩:=afi (f:=999960- (X.ps.length+1)) H A (n:=X.ps.length+1) (g:=λ_=>0) (r:=none) (i5 _) (.refl _) h0 G hK λi=>by
  by_cases m:i∈X.ps
  ·rw[iP m,iP m]
  ·rw[iN m]
 rw[show 999960- (X.ps.length+1)+(X.ps.length+1)+40=NN from af (· +40) (FQ (aq (yE hp) (by decide)))] at e;have e0:c8 O 999998 (sE (jW 0)) [] (bW X.n X.v)=some (.list (bW X.n λ_=>0)):=nZ (v:=λi=>.int (X.v i)) (w:=λ_=>.int (0:Nat)) ⋯ (λi _=>⋯) (aq (aD cF) hn);refine(⋯:_=cq (a9 O NN dU gf [("method",.pv (.str X.bM)),("votes",.pv (.list (bW X.n X.v))),("lengths",.pv (.list (bW X.n X.M))),("seats",.pv (.int K)),("order",.pv (.list (aC X.ps)))] [jW 0,jW 1,jW 2,jW 3])).trans (dC (bg (n:=999999) (K:=bH dU "given" true) (p:=.list (bW X.n λ_=>0)) ⋯ ((⋯:_=c8 O 999998 (sE (jW 0)) [] (bW X.n X.v)).trans e0) rfl) (dC (σ₁:=eF X K (λ_=>0) X.ps (pD none)) (bg (n:=999999) (K:=bH dU "left" false) (p:=.list (aC X.ps)) ⋯ ((⋯:_=if(aC X.ps).length<=aA then some (PV.list (aC X.ps)) else none).trans (iP (aq (aD (bi _)) H.iW))) ⋯) (af cq (rY e))))
end
end
section
variable{O:aK}{ps want:List (List Nat)}{σ:ar}{st:aH}
section
def o6:List aH:=match Ri with
 |.FunctionDef _ _ body _ _ _ _ _ _ _=>body
 |_=>[]
def aU:aN:=match Ri with
 |.FunctionDef _ _ _ _ _ _ scope _ _ _=>scope.names
 |_=>[]
def bl(i:Nat):aH:=aJ o6 i
noncomputable def cr:List Str:=["lengths","parties","due","wanted","made"]
structure LX where
 sc:List Int
 H:Nat
 κ:Nat
 t:Bool
 nu:Nat->Nat
 L:Nat->Nat
 V:Nat->Nat
 s:Nat
 le:Nat
 K:Nat
noncomputable def LX.mm(X:LX):Nat:=cond X.t 3 2
noncomputable def LX.lg(X:LX):Nat:=cond X.t 2 3
def Mr(X:LX)(r:ar):ar:=("script",.pv (.list (cM X.sc)))::("head",.pv (.int X.H))::("kind",.pv (.int X.κ))::r
def zQ(X:LX)(r:ar):ar:=Mr X (("many",.pv (.int X.mm))::("method",.pv (.str (nA.getD X.κ "")))::r)
def tQ(X:LX)(r:ar):ar:=zQ X (("numbers",.pv (.list (bW (1+X.mm) X.nu)))::("longest",.pv (.int X.lg))::r)
noncomputable def num(sc:List Int)(i:Nat):Nat:=(sc.getD (i+1) 0).natAbs
structure Dz(X:LX):Prop where
 H:X.H=(X.sc.headD 0).natAbs
 κ:X.κ=X.H%5
 t:X.mm=2+X.H/5%2
 nu:X.nu=num X.sc
 iW:X.sc.length<=100
variable{X:LX}{x y m k:Nat}{sc l:List Int}
theorem fm:zb (x:Int) (y:Int)=((x%y:Nat):Int):=Ke _ (fP y)
theorem fd:Co (x:Int) (y:Int)=((x/y:Nat):Int):=Fi _ (fP y)
theorem k5(h:Dz X):X.κ<5:=h.κ▸Cf _ (by decide)
theorem afg(h:Dz X):a9 O NN aU cr [("script",.pv (.list (cM X.sc)))] [bl 0,bl 1,bl 2,bl 3]=nx (zQ X []):=by
 have z0:aw O NN aU cr [("script",.pv (.list (cM X.sc)))] (bl 0)=nx [("script",.pv (.list (cM X.sc))),("head",.pv (.int X.H))]:=by
  rw[h.H];cases X.sc with
  |nil=>rfl'
  |cons a r=>exact bg (n:=999999) (K:=bH aU "head" false) ⋯ ((show _=((bP (.list (.int a::cM r)) (.int 0)).bind λv=>some [v]).bind λvs=>nY O "abs" vs [] by rfl').trans (by rw[I2];rfl)) ⋯
 have it:bP (.list (nA.map PV.str)) (.int X.κ)=some (.str (nA.getD X.κ "")):=Aa (P:=λκ=>bP (.list (nA.map PV.str)) (.int κ)=some (.str (nA.getD κ ""))) rfl rfl rfl rfl rfl _ (k5 h);have e2:(2:Int)+zb (Co (X.H:Int) ((5:Nat):Int)) ((2:Nat):Int)=X.mm:=by rw[fd,fm,h.t];rfl
 exact aF z0 (aF (bg (n:=999999) (K:=bH aU "kind" false) (p:=.int X.κ) ⋯ ((⋯:_=some (PV.int (zb (X.H:Int) ((5:Nat):Int)))).trans (by rw[fm,<-h.κ])) (⋯:_=nx (Mr X []))) (aF (bg (n:=999999) (K:=bH aU "many" false) (p:=.int X.mm) ⋯ ((⋯:_=some (PV.int ((2:Int)+zb (Co (X.H:Int) ((5:Nat):Int)) ((2:Nat):Int)))).trans (by rw[e2])) rfl) (aF (bg (n:=999999) (K:=bH aU "method" false) ⋯ ((⋯:_=bP (.list (nA.map PV.str)) (.int X.κ)).trans it) ⋯) rfl)))
theorem acT{α:Type}{l:List α}{j:Nat}:jC l none (some (j:Int))=l.take j:=by
 show(l.drop 0).take (wz l.length j-0)=_;rw[clipAt_nat,List.drop_zero,Nat.sub_zero];rcases KU j l.length with h|h
 ·rw[wM h]
 ·rw[TP h,S5,y9 h]
theorem YF{α:Type}{l:List α}{j:Nat}:jC l (some ((1:Nat):Int)) (some (((1+j:Nat)):Int))=(l.drop 1).take j:=by
 show(l.drop (wz l.length (1:Nat))).take (wz l.length (1+j:Nat) -wz l.length (1:Nat))=_;cases l with
 |nil=>rw[FH,FH,uW,uW]
 |cons a l=>
  rw[clipAt_nat,clipAt_nat,show min 1 (a::l).length=1 from wM (eE _),gj 1 j,show(a::l).length=l.length+1 from rfl,Nat.add_min_add_right,wO];show l.take (min j l.length)=l.take j;rcases KU j l.length with h|h
  ·rw[wM h]
  ·rw[TP h,S5,y9 h]
theorem YH{α:Type}{d:α}:∀{m k:Nat} {l:List α},m<=k->(l.take m++kr k d).take m=(ax m).map λi=>l.getD i d:=by
 intro m;induction m with
 |zero=>exact λ_=>List.take_zero
 |succ m ih=>
  intro k l h;rw[yA,oz,jr];cases l with
  |nil=>
   obtain⟨k,rfl⟩:=uX (fO (ba (eE m) h));have:=ih (l:=[]) (Kt h);rw[uW,KS] at this;rw[uW,KS];exact af (d:: ·) this
  |cons a l=>exact af (a:: ·) (ih (l:=l) (lB h))
theorem acu{i:Nat}:((cM sc).drop 1).getD i (.int 0)=.int (sc.getD (i+1) 0):=by
 cases sc with
 |nil=>rfl
 |cons a l=>
  show(cM l).getD i (.int 0)=.int (l.getD i 0);rw[tv,tv,show(cM l)[i]?=l[i]?.map PV.int from ot];cases l[i]?<;>rfl
theorem XT:((((cM sc).drop 1).take m)++dP m λ_=>PV.int 0).take m=dP m λi=>.int (sc.getD (i+1) 0):=by
 rw[show(dP m λ_=>PV.int 0)=kr m (.int 0) from(List.map_const ..).trans (af (λn=>kr n _) cF),YH (bf m)];exact af (dP m) (funext λi=>acu)
theorem wn:X.mm<=3:=by
 unfold LX.mm;cases X.t<;>decide
theorem ZN(h:Dz X):aw O NN aU cr (zQ X []) (bl 4)=nx (zQ X [("numbers",.pv (.list (bW (1+X.mm) X.nu)))]):=by
 have hm:1+X.mm<=100:=aq (i3 wn 1) (by decide);refine bg (n:=999999) (K:=bH aU "numbers" false) (p:=.list (bW (1+X.mm) X.nu)) ⋯ ((show _=((((fW O .Mult (.list [.int 0]) (.int (1+X.mm:Nat))).bind λb=>fW O .Add (.list (jC (cM X.sc) (some ((1:Nat):Int)) (some ((2+X.mm:Nat):Int)))) b).bind λa=>a.ij.map λl=>PV.list (jC l none (some ((1+X.mm:Nat):Int)))).bind λv=>over v (c8 O 999998 (sE (bl 4)) [])) by rfl').trans ?_) ⋯;rw[GI hm,show 2+X.mm=1+(1+X.mm) from fC 1 1 _,YF];refine aG (aG (aG rfl (iP ?_)) (show _=some (PV.list (dP (1+X.mm) λi=>.int (X.sc.getD (i+1) 0))) from af (λl=>some (PV.list l)) (acT.trans XT))) (nZ (v:=λi=>.int (X.sc.getD (i+1) 0)) (w:=λi=>.int (X.nu i)) ⋯ (λi _=>by rw[h.nu];rfl') ?_)
 ·rw[FI,tJ];exact aq (BV (aq (Nat.min_le_left ..) hm) hm) (by decide)
 ·exact aq (aD cF) (aq hm (by decide))
end
section
noncomputable def LX.at(X:LX)(b:Bool):LX:={X with t:=b}
@[elab_as_elim] theorem tC{P:LX->Prop}(X:LX)(h2:P (X.at false))(h3:P (X.at true)):P X:=Bool.rec (motive:=λb=>P (X.at b)) h2 h3 X.t
def nq(X:LX)(i:Nat):Nat:=1+X.nu i%X.lg
def Ie(X:LX)(i:Nat):Nat:=1+X.nu i/X.lg
theorem D1{n i:Nat}{g:Nat->Nat}(h:i<n):bP (.list (bW n g)) (.int i)=some (.int (g i)):=C2 (h:=λi=>.int (g i)) h
theorem Y5{n i x:Nat}{g:Nat->Nat}(h:i<n):jU (bW n g) (.int i) (.int x)=some (bW n (gA g i x)):=HJ (X:=⟨n,"",g,g,[]⟩) h
theorem MN{x y:Nat}(h:y≠0):fw .Mod x y=some (.int (x%y:Nat)):=(rfl:_=if(y:Int)≠0 then some (PV.int (zb x y)) else none).trans ((iP (Int.natCast_ne_zero.mpr h)).trans (af (λi=>some (PV.int i)) fm))
variable{X:LX}{L:Nat->Nat}{r:ar}{fz:Bool}
theorem aao:aw O NN aU cr (zQ X [("numbers",.pv (.list (bW (1+X.mm) X.nu)))]) (bl 5)=nx (tQ X []):=tC X ⋯ ⋯
def gB(X:LX)(L:Nat->Nat)(fz:Bool)(r:ar):ar:=tQ X (("lengths",.qm fz (bW X.mm L))::("votes",.pv (.list (bW X.mm X.V)))::r)
theorem VN:aw O NN aU cr (tQ X []) (bl 6)=nx (tQ X [("lengths",.own (bW X.mm (nq X)))]):=
 bg (n:=999999) (K:=bH aU "lengths" true) (p:=.list (bW X.mm (nq X))) ⋯ ((show cI O 999999 aU (fJ (tQ X [])) (sE (bl 6))=some (.list (dP X.mm λi=>.int (1+zb (X.nu i) X.lg))) from tC X ⋯ ⋯).trans (af (λf=>some (PV.list (dP X.mm f))) (funext λi=>by rw[fm];rfl))) ⋯
theorem Ϙ(h:X.V=Ie X):aw O NN aU cr (tQ X [("lengths",.own (bW X.mm L))]) (bl 7)=nx (gB X L false []):=
 bg (n:=999999) (K:=bH aU "votes" false) (p:=.list (bW X.mm X.V)) ⋯ ((show cI O 999999 aU (fJ (tQ X [("lengths",.own (bW X.mm L))])) (sE (bl 7))=some (.list (dP X.mm λi=>.int (1+Co (X.nu i) X.lg))) from tC X ⋯ ⋯).trans (af (λf=>some (PV.list (dP X.mm f))) (funext λi=>by rw[fd,h];rfl))) ⋯
def oY(m:Nat)(L:Nat->Nat):Nat:=su L (ax m)
noncomputable def kO(κ:Nat):Bool:=(1:Int)==(κ:Int)||((3:Int)==(κ:Int)||false)
def xl(X:LX)(L:Nat->Nat):Nat->Nat:=if(kO X.κ&&decide (5<oY X.mm L))=true then gA L 0 (L 0-1) else L
theorem Wf(h1:1<=L 0):aw O NN aU cr (gB X L false []) (bl 8)=nx (gB X (xl X L) false []):=by
 have e:fF O 999999 aU (bA (gB X L false [])) (sE (bl 8))=(some (kO X.κ)).bind λb=>if b=false then some false else(some (decide ((5:Int)<(oY X.mm L:Nat)))).bind λb=>if b=false then some false else some true:=tC X ⋯ ⋯;refine cL (n:=999999) (b:=kO X.κ&&decide (5<oY X.mm L)) ⋯ (e.trans ?_) ?_
 ·rw[show decide ((5:Int)<(oY X.mm L:Nat))=decide (5<oY X.mm L) from fv za];cases kO X.κ<;>cases decide (5<oY X.mm L)<;>rfl
 unfold xl;cases kO X.κ&&decide (5<oY X.mm L) with
 |false=>rfl'
 |true=>
  have p:0<X.mm:=tC (P:=λX=>0<X.mm) X (eE _) (eE _);exact(⋯:_=a9 O 999999 aU cr (gB X L false []) [aJ (sB 0 (bl 8)) 0]).trans (j0.trans (HN (n:=999998) (x:="lengths") (op:=.Sub) (l:=bW X.mm L) (k:=.int (0:Nat)) (a:=.int (L 0)) (w:=.int 1) (p:=.int (L 0-1:Nat)) ⋯ (D1 p) ⋯ (af (λi=>some (PV.int i)) (F4 h1).symm) ⋯ (Y5 p) ⋯))
theorem YL(h:X.s=oY X.mm L):aw O NN aU cr (gB X L false []) (bl 9)=nx (gB X L false [("size",.pv (.int X.s))]):=
 uh (n:=999999) (K:=bH aU "size" false) (p:=.int X.s) ⋯ ⋯ (by rw[h];exact tC X ⋯ ⋯) ⋯ ⋯
noncomputable def k4(κ:Nat):Bool:=(κ:Int)==4
theorem afK(h:X.le=cond (k4 X.κ) X.mm 1):aw O NN aU cr (gB X L false [("size",.pv (.int X.s))]) (bl 10)=nx (gB X L false [("size",.pv (.int X.s)),("least",.pv (.int X.le))]):=
 bg (n:=999999) (K:=bH aU "least" false) (p:=.int X.le) ⋯ ((show _=(some (k4 X.κ)).bind λr=>if r=true then some (PV.int X.mm) else some (.int (1:Nat)) by rfl').trans (by
  rw[h];cases k4 X.κ<;>rfl)) ⋯
noncomputable def m6(X:LX)(r:ar):ar:=("size",.pv (.int X.s))::("least",.pv (.int X.le))::("k",.pv (.int X.K))::r
theorem XN(hl:X.le<=X.s)(h:X.K=X.le+X.H/10%(X.s-X.le+1)):aw O NN aU cr (gB X L false [("size",.pv (.int X.s)),("least",.pv (.int X.le))]) (bl 11)=nx (gB X L false (m6 X [])):=by
 refine bg (n:=999999) (K:=bH aU "k" false) (p:=.int X.K) ⋯ ((show _=(fw .Mod (Co X.H (10:Nat)) ((X.s:Int) -X.le+(1:Nat))).bind λb=>fW O .Add (.int X.le) b by rfl').trans ?_) ⋯;rw[fd,<-F4 hl,h];exact aG (MN (q8 _)) rfl
end
section
def lists(l:List (List Nat)):List PV:=l.map lst
noncomputable def iQ(s pl len:Nat):List Nat:=(ax len).map λj=>(pl+j)%s
def kP(X:LX)(vs:List (List Nat×Nat))(ps:List (List Nat))(pl:Nat)(fz:Bool)(r:ar):ar:=gB X X.L fz (m6 X (("made",.a7 bx (eV X.s vs) fG)::("parties",.own (lists ps))::("place",.pv (.int pl))::r))
noncomputable def lc(o:Option PV):ar:=o.elim [] λi=>[("i",.pv i)]
def vV:aH:=bl 15
def CX(i:Nat):aH:=aJ (sB 0 vV) i
def BG(st:aH):Expr:=bR 0 (sE st)
variable{X:LX}{i pl n:Nat}{vs:List (List Nat×Nat)}{A P l:List Nat}{fz:Bool}{nm:aN}{mu:List Str}{σ₁:ar}{e:Expr}{p:PV}{r:aZ}{x:Str}{l0 L:List PV}{c:Nat}{fs eY:List (Str×PV)}{ow:List Str}
theorem HH(h0:cI O n nm (fJ σ) e=none)(h:cI O n nm (bA σ) e=some p)(hc:(σ.any λq=>q.2.kW&&q.2.seen p)=false)(hf:dX p σ=σ₁):bX (cI O n nm) σ e=some (p,σ₁):=by
 subst hf;unfold bX;rw[h0,h];exact iN (ne_true_of_eq_false hc)
theorem GO(hs:aw O (n+1) nm mu σ st=if l0.length<aA then(bX (cI O n nm) σ (BG st)).bind λq=>(gu q.2 x).bind λl=>eh (putN nm x (.own (l++[q.1])) q.2) else none)(hl:l0.length<aA)(he:bX (cI O n nm) σ (BG st)=some (p,σ₁))(ho:gu σ₁ x=some L)(hp:eh (putN nm x (.own (L++[p])) σ₁)=r):aw O (n+1) nm mu σ st=r:=hs.trans ((iP hl).trans (aG he (aG ho hp)))
theorem Vi(hs:aw O (n+1) nm mu σ st=(bX (cI O n nm) σ (BG st)).bind λq=>(O.mw c fs ow "add_voter" [q.1]).bind λeY=>eh (putN nm x (.a7 c eY ow) q.2))(he:bX (cI O n nm) σ (BG st)=some (p,σ₁))(hm:O.mw c fs ow "add_voter" [p]=some eY)(hp:eh (putN nm x (.a7 c eY ow) σ₁)=r):aw O (n+1) nm mu σ st=r:=hs.trans (aG he (aG hm hp))
theorem V_(h:O.make "Profile" [.int X.s] []=some (bx,eV X.s [],fG)):aw O NN aU cr (gB X X.L false (m6 X [])) (bl 12)=nx (gB X X.L false (m6 X [("made",.a7 bx (eV X.s []) fG)])):=
 (show _=(O.make "Profile" [.int X.s] []).bind λr=>eh (putN aU "made" (.a7 r.1 r.2.1 r.2.2) (gB X X.L false (m6 X []))) by rfl').trans (aG h ⋯)
theorem X4:a9 O NN aU cr (gB X X.L false (m6 X [("made",.a7 bx (eV X.s []) fG)])) [bl 13,bl 14]=nx (kP X [] [] (X.nu X.mm) false []):=tC X ⋯ ⋯
theorem adw{ls:List (List PV)}{cs:List (Nat×List Str)}:iw ls cs (aC l)=false:=by
 induction l with
 |nil=>rfl
 |cons=>assumption
theorem Ik{ls:List (List PV)}{cs:List (Nat×List Str)}:cf ls cs (.list (aC l))=ls.any λm=>nB m (aC l):=(af ((ls.any λm=>nB m (aC l))|| ·) adw).trans (yG _)
theorem aa4{y:Nat}(h:l=y::A):cf [bW X.mm X.L] [] (.list (aC l))=true:=Ik.trans (h▸tC (P:=λX=>([bW X.mm X.L].any λm=>nB m (aC (y::A)))=true) X rfl rfl)
theorem afq{y:Nat}(h:l=y::A):cf [lists ps] [] (.list (aC l))=false:=Ik.trans (h▸by cases ps<;>rfl)
theorem aaL{y s:Nat}(h:l=y::A):cf (wj (eV s vs) fG) [(bx,(eV s vs).map (·.1))] (.list (aC l))=false:=Ik.trans (h▸(by
 show(nB ((ax s).map ds) (aC (y::A))||(nB (vs.map bp) (aC (y::A))||false))=false;cases s with
 |zero=>cases vs<;>rfl
 |succ s=>
  rw[yA];cases vs<;>rfl))
def IP(O:aK)(X:LX)(i pl:Nat):Option PV:=(((bP (.list (bW X.mm X.L)) (.int i)).bind λv=>some [v]).bind λvs=>nY O "range" vs []).bind λv=>over v (c8 O 999997 (BG (CX 0)) [("size",.int X.s),("place",.int pl)])
theorem Yq(hs:X.s≠0)(hz:X.L i<=aA)(hi:i<X.mm):IP O X i pl=some (lst (iQ X.s pl (X.L i))):=
 aG (aG (aG (D1 hi) rfl) (nE hz)) ((rA _).trans ((nZ (v:=λn:Nat=>.int n) (w:=λj:Nat=>.int ((pl+j)%X.s:Nat)) ⋯ (λj _=>(show _=(fw .Mod (pl+j:Nat) X.s).map λx=>[x] by rfl').trans (af (eP λx=>[x]) (MN hs))) (aq (aD cF) hz)).trans (af (λl=>some (PV.list l)) (jr (g:=λn:Nat=>PV.int n) (f:=λj=>(pl+j)%X.s)).symm)))
theorem VO(h:1<=X.L i):iQ X.s pl (X.L i)=(pl+0)%X.s::((gW 1 (X.L i-1)).map λj=>(pl+j)%X.s):=by
 obtain⟨m,e⟩:=agX h;rw[e];unfold iQ;rw[yF];rfl
theorem aaf(hs:X.s≠0)(hz:X.L i<=aA)(h1:1<=X.L i)(hi:i<X.mm)(hp:ps.length<aA):aw O 999999 aU cr (kP X vs ps pl fz (lc (some (.int i)))) (CX 0)=nx (kP X vs (ps++[iQ X.s pl (X.L i)]) pl true (lc (some (.int i)))):=by
 have c:=VO (pl:=pl) h1;have v:=Yq (O:=O) (pl:=pl) hs hz hi;generalize iQ X.s pl (X.L i)=P at*;refine GO (n:=999998) (x:="parties") (l0:=lists ps) (L:=lists ps) (p:=lst P) (σ₁:=kP X vs ps pl true (lc (some (.int i)))) (by cases fz<;>rfl') (aQ (aD (bi _)) hp) ?_ ⋯ ((⋯:_=nx (gB X X.L true (m6 X (("made",.a7 bx (eV X.s vs) fG)::("parties",.own (lists ps++[lst P]))::("place",.pv (.int pl))::lc (some (.int i)))))).trans (af (λl=>nx (gB X X.L true (m6 X (("made",.a7 bx (eV X.s vs) fG)::("parties",.own l)::("place",.pv (.int pl))::lc (some (.int i)))))) (mP (l₁:=ps) (l₂:=[P])).symm));cases fz with
 |true=>exact vW ((⋯:_=IP O X i pl).trans v)
 |false=>exact HH ⋯ ((⋯:_=IP O X i pl).trans v) ((⋯:_=(cf (wj (eV X.s vs) fG) [(bx,(eV X.s vs).map (·.1))] (lst P)||false)).trans ((yG _).trans (aaL c))) ((⋯:_=gB X X.L (cf [bW X.mm X.L] [] (lst P)) (m6 X (("made",.a7 bx (eV X.s vs) fG)::("parties",.qm (cf [lists ps] [] (lst P)) (lists ps))::("place",.pv (.int pl))::lc (some (.int i))))).trans (by rw[show lst P=.list (aC P) from rfl,aa4 c,afq c];rfl))
theorem aax(hi:i<X.mm):aw O 999999 aU cr (kP X vs ps pl true (lc (some (.int i)))) (CX 1)=nx (kP X vs ps (pl+X.L i) true (lc (some (.int i)))):=
 bg (n:=999998) (K:=Iq O aU "place" .Add (.int pl)) ⋯ ((⋯:_=bP (.list (bW X.mm X.L)) (.int i)).trans (D1 hi)) ⋯
structure JS(O:aK)(X:LX)(P A:List Nat)(vs:List (List Nat×Nat))(i:Nat):Prop where
 fn:O.fn "Voter" [lst P] [("weight",.int (X.V i))]=some (bp (A,X.V i))
 add:O.mw bx (eV X.s vs) fG "add_voter" [bp (A,X.V i)]=some (eV X.s (vs++[(A,X.V i)]))
theorem ab1(hi:i<X.mm)(hl:ps.length=i)(h:JS O X P A vs i):aw O 999999 aU cr (kP X vs (ps++[P]) pl true (lc (some (.int i)))) (CX 2)=nx (kP X (vs++[(A,X.V i)]) (ps++[P]) pl true (lc (some (.int i)))):=by
 have e:bP (.list (lists (ps++[P]))) (.int i)=some (lst P):=rQ (by subst hl;exact agJ);refine Vi (n:=999998) (x:="made") (c:=bx) (fs:=eV X.s vs) (ow:=fG) (p:=bp (A,X.V i)) (σ₁:=kP X vs (ps++[P]) pl true (lc (some (.int i)))) ⋯ (HH ⋯ ((show _=((bP (.list (lists (ps++[P]))) (.int i)).bind λv=>some [v]).bind λvs=>((bP (.list (bW X.mm X.V)) (.int i)).bind λv=>some [(("weight":Str),v)]).bind λks=>O.fn "Voter" vs ks by rfl').trans (aG (aG e rfl) (aG (aG (D1 hi) rfl) h.fn))) ⋯ ⋯) h.add ⋯
end
section
def rB(X:LX):Nat->Nat
 |0=>X.nu X.mm
 |i+1=>rB X i+X.L i
def gx(X:LX)(i:Nat):List Nat:=iQ X.s (rB X i) (X.L i)
def lW(X:LX)(i:Nat):List (List Nat):=(ax i).map (gx X)
def lR(X:LX)(i:Nat):List (List Nat×Nat):=(ax i).map λi=>(d5 (gx X i),X.V i)
structure Dy(O:aK)(X:LX):Prop where
 s0:X.s≠0
 L1:∀i,1<=X.L i
 L3:∀i,X.L i<=3
 vo:∀i,i<X.mm->JS O X (gx X i) (d5 (gx X i)) (lR X i) i
variable{X:LX}{i:Nat}{fz:Bool}{o:Option PV}
theorem Ϡ(H:Dy O X)(hi:i<X.mm):a9 O 999999 aU cr (kP X (lR X i) (lW X i) (rB X i) fz (lc (some (.int i)))) (sB 0 vV)=nx (kP X (lR X (i+1)) (lW X (i+1)) (rB X (i+1)) true (lc (some (.int i)))):=by
 have e1:lW X (i+1)=lW X i++[gx X i]:=by unfold lW;rw[Ck,mP];rfl
 have e2:lR X (i+1)=lR X i++[(d5 (gx X i),X.V i)]:=by unfold lR;rw[Ck,mP];rfl
 have hl:(lW X i).length=i:=(bi _).trans cF;rw[e1,e2];exact aF (aaf H.s0 (aq (H.L3 i) (by decide)) (H.L1 i) hi (by rw[hl];exact eN hi (aQ wn (by decide)))) (aF (aax hi) (aF (ab1 hi hl (H.vo i hi)) rfl))
def yo(X:LX)(r:ar):ar:=kP X (lR X X.mm) (lW X X.mm) (rB X X.mm) true (("i",.pv (.int (X.mm-1:Nat)))::r)
theorem Xr(H:Dy O X):∀{m i:Nat} {fz:Bool} {o:Option PV},i+m=X.mm->(m=0->fz=true/\o=some (.int (X.mm-1:Nat)))->dZ (aS (aw O 999999 aU cr) (sB 0 vV)) aU (sT vV) (aC (gW i m)) (kP X (lR X i) (lW X i) (rB X i) fz (lc o))=nx (yo X []):=by
 intro m;induction m with
 |zero=>
  intro i fz o e h;obtain⟨rfl,rfl⟩:=h rfl;obtain rfl:i=X.mm:=e;rfl
 |succ m ih=>
  intro i fz o e _;exact ii (by cases fz<;>cases o<;>rfl') (Ϡ (fz:=fz) H (by rw[<-e];exact qU (eE m))) (ih ((wD i m).trans e) λq=>⟨rfl,af (λn:Nat=>some (PV.int n)) (show i=X.mm-1 by rw[<-e,q];rfl)⟩)
theorem V7(H:Dy O X):aw O NN aU cr (kP X [] [] (X.nu X.mm) false []) (bl 15)=nx (yo X []):=
 bg (n:=999999) (K:=fY (aw O 999999 aU cr) aU (sT vV) (sB 0 vV)) ⋯ ((⋯:_=gh 0 (X.mm:Nat)).trans (nE (aq wn (by decide)))) (zP ((af (λl=>dZ _ aU (sT vV) (aC l) _) yF).trans (Xr (i:=0) (m:=X.mm) (o:=none) H (f5 _) λq=>absurd q (tC (P:=λX=>X.mm≠0) X (q8 _) (q8 _)))))
section
variable{α:Type}[DecidableEq α]{v:α->PV}{n:Nat}{x:α}{l m:List α}
theorem VF(h:∀a b,dk n (v a) (v b)=some (decide (a=b))):∀{m:List α},l.length=m.length->dk.qp (dk n) (l.map v) (m.map v)=some (decide (l=m)):=by
 induction l with
 |nil=>exact λ{m} e=>by cases m with
  |nil=>rfl
  |cons=>exact absurd e.symm (q8 _)
 |cons x l ih=>exact λ{m} e=>by cases m with
  |nil=>exact absurd e (q8 _)
  |cons y m=>
   exact aG (h x y) ((af (eP _) (ih (wA e))).trans (af some ((Bool.decide_and ..).symm.trans (fv List.cons_eq_cons.symm))))
theorem RK(h:∀a b,dk n (v a) (v b)=some (decide (a=b))):dk (n+1) (.list (l.map v)) (.list (m.map v))=some (decide (l=m)):=by
 refine(rfl:_=if(l.map v).length=(m.map v).length then dk.qp (dk n) (l.map v) (m.map v) else some false).trans ?_;rw[bi,bi];by_cases e:l.length=m.length
 ·rw[iP e,VF h e]
 ·rw[iN e,dF λq=>e (af _ q)]
theorem XK(h:∀a b,dk 4 (v a) (v b)=some (decide (a=b))):l9 4 (v x) (l.map v)=some (decide (x∈l)):=by
 induction l with
 |nil=>rfl
 |cons y l ih=>
  exact aG (h y x) ((af (eP _) ih).trans (af some ((Bool.decide_or ..).symm.trans (fv ((or_congr_left eq_comm).trans jN.symm)))))
end
theorem DA{n:Nat}{l m:List Nat}:dk (n+2) (lst l) (lst m)=some (decide (l=m)):=RK (n:=n+1) λa b=>af some (fv wR)
theorem Mb{d:List Nat}{l:List (List Nat)}:l9 4 (lst d) (lists l)=some (decide (d∈l)):=(XK λ_ _=>DA).trans (af some (fv .rfl))
end
section
noncomputable def nj(t:Bool):List (List Nat):=cond t [[0,1,2],[0,2,1],[1,0,2],[1,2,0],[2,0,1],[2,1,0]] [[0,1],[1,0]]
noncomputable def lU(o g:Option PV):ar:=o.elim [] λo=>("order",.pv o)::g.elim [] λg=>[("given",.pv g)]
def nM(X:LX)(aM:List (List Nat))(r:ar):ar:=yo X (("due",.own (lists aM))::r)
def wa:aH:=bl 17
def Xk(i:Nat):aH:=aJ (sB 0 wa) i
noncomputable def j6(aM:List (List Nat))(g:List Nat):List (List Nat):=if g∈aM then aM else aM++[g]
def o9(O:aK)(X:LX)(M:Nat->Nat)(o:List Nat):Option PV:=O.fn "_law_shared" [.str (nA.getD X.κ ""),.list (bW X.mm X.V),.list (bW X.mm M),.int X.K,lst o] []
variable{X:LX}{aM:List (List Nat)}{o g:List Nat}{a c:PV}{r:Option (PV×PV)}{l:List (List Nat)}{G:List Nat->List Nat}
theorem Zj(h:o9 O X X.L o=some (lst g))(hz:aM.length<aA):a9 O 999999 aU cr (nM X aM (lU (some (lst o)) (r.map (·.2)))) (sB 0 wa)=nx (nM X (j6 aM g) (lU (some (lst o)) (some (lst g)))):=by
 refine aF (bg (n:=999998) (K:=bH aU "given" false) (p:=lst g) ⋯ ((show _=o9 O X X.L o by cases r<;>rfl').trans h) (show _=nx (nM X aM (lU (some (lst o)) (some (lst g)))) by cases r<;>rfl')) (j0.trans (cL (n:=999998) (b:= !decide (g∈aM)) ⋯ ((⋯:_=(l9 4 (lst g) (lists aM)).map not).trans (af (eP not) Mb)) ?_));unfold j6;by_cases h:g∈aM
 ·rw[iP h,dT h];rfl'
 ·rw[iN h,dF h];exact(⋯:_=a9 O 999998 aU cr (nM X aM (lU (some (lst o)) (some (lst g)))) [aJ (sB 0 (Xk 1)) 0]).trans (j0.trans (GO (n:=999997) (x:="due") (l0:=lists aM) (L:=lists aM) (p:=lst g) (σ₁:=nM X aM (lU (some (lst o)) (some (lst g)))) ⋯ (aQ (aD (bi _)) hz) ⋯ ⋯ ((⋯:_=nx (yo X (("due",.own (lists aM++[lst g]))::lU (some (lst o)) (some (lst g))))).trans (af (λl=>nx (yo X (("due",.own l)::lU (some (lst o)) (some (lst g))))) (mP (l₁:=aM) (l₂:=[g])).symm))))
theorem Za:(j6 aM g).length<=aM.length+1:=by
 unfold j6;by_cases h:g∈aM
 ·rw[iP h];exact iH _
 ·rw[iN h,da];exact bf _
theorem aeM(h:∀x∈l,o9 O X X.L x=some (lst (G x))):∀{aM:List (List Nat)} {r:Option (PV×PV)},aM.length+l.length<aA->(l=[]->r≠none)->∃a c,dZ (aS (aw O 999999 aU cr) (sB 0 wa)) aU (sT wa) (lists l) (nM X aM (lU (r.map (·.1)) (r.map (·.2))))=nx (nM X (l.foldl (λd x=>j6 d (G x)) aM) (lU (some a) (some c))):=by
 induction l with
 |nil=>exact λ{aM r} _ q=>match r,q with
  |some (a,c),_=>⟨a,c,rfl⟩
  |none,q=>absurd rfl (q rfl)
 |cons x l ih=>
  intro aM r hz _;have h1:aM.length<aA:=aQ (cW aM.length _) hz;have h2:(j6 aM (G x)).length+l.length<aA:=aQ (aq (mF Za l.length) (aD (pP ..))) hz;obtain⟨a,c,e⟩:=ih (λy m=>h y (.tail _ m)) (aM:=j6 aM (G x)) (r:=some (lst x,lst (G x))) h2 λ_=>sN;have k:=Zj (O:=O) (X:=X) (aM:=aM) (o:=x) (g:=G x) (r:=r) (h x (.head _)) h1;refine⟨a,c,?_⟩;rw[S6];exact ii (v:=lst x) (l:=lists l) (σ₁:=nM X aM (lU (some (lst x)) (r.map (·.2)))) (σ':=nM X (j6 aM (G x)) (lU (some (lst x)) (some (lst (G x))))) (by cases r<;>rfl') (by exact k) (by exact e)
def CR(G:List Nat->List Nat)(t:Bool):List (List Nat):=(nj t).foldl (λd x=>j6 d (G x)) []
def sS(X:LX)(aM:List (List Nat))(q:PV×PV)(r:ar):ar:=nM X aM (("order",.pv q.1)::("given",.pv q.2)::r)
theorem aaZ(h:∀x∈nj X.t,o9 O X X.L x=some (lst (G x))):∃q,a9 O NN aU cr (yo X []) [bl 16,bl 17]=nx (sS X (CR G X.t) q []):=by
 obtain⟨a,c,e⟩:=aeM (O:=O) (X:=X) (aM:=[]) (r:=none) h (by cases X.t<;>decide) (λe=>absurd e (by cases X.t<;>exact ln));exact⟨(a,c),aF (σ₁:=nM X [] (lU none none)) ⋯ (j0.trans (bg (n:=999999) (K:=fY (aw O 999999 aU cr) aU (sT wa) (sB 0 wa)) (p:=.list (lists (nj X.t))) ⋯ (tC (P:=λX=>cI O 999999 aU (fJ (nM X [] (lU none none))) (sE wa)=some (.list (lists (nj X.t)))) X ⋯ ⋯) (sq e)))⟩
noncomputable def fI:List Nat->List Nat->Bool
 |[],m=> !m.isEmpty
 |x::l,m=>m.casesOn false λy m=>if x=y then fI l m else decide (x<y)
theorem Nb:∀{l m:List Nat},fh.ph (aC l) (aC m)=some (fI l m):=by
 intro l;induction l with
 |nil=>exact λ{m}=>by cases m<;>rfl
 |cons x l ih=>exact λ{m}=>by cases m with
  |nil=>rfl
  |cons y m=>
   refine(rfl:_=if(x:Int)=(y:Int) then fh.ph (aC l) (aC m) else some (decide ((x:Int)<(y:Int)))).trans (yS ?_ (apply_ite some (x=y) (fI l m) (decide (x<y))).symm);exact ite_congr (propext wR) (λ_=>ih) λ_=>af some (fv za)
theorem WW{d:List Nat}(h:∀x∈l,fI d x=false):ve (xm O) (lst d) (lists l)=some (lst d):=by
 induction l with
 |nil=>rfl
 |cons x l ih=>exact aG (a:=false) (Nb.trans (af some (h x (.head _)))) (ih λy m=>h y (.tail _ m))
theorem WL{d:List Nat}{q:PV×PV}(h:∀x∈l,fI d x=false):aw O NN aU cr (sS X (d::l) q []) (bl 18)=nx (sS X (d::l) q []):=
 kj (n:=999999) ⋯ ⋯ ((show _=(bP (.list (lists (d::l))) (.int 0)).bind λa=>(ve (xm O) (lst d) (lists l)).bind λb=>fe O .NotEq a b by rfl').trans (aG I2 (aG (WW h) ((af (eP not) DA).trans (by rw[dT rfl];rfl)))))
noncomputable def AR(t:Bool):List Nat:=cond t [0,1,2] [0,1]
noncomputable def BQ(t:Bool):List Nat:=cond t [2,1,0] [1,0]
def p8(X:LX)(aM:List (List Nat))(q:PV×PV)(g:List Nat×List Nat)(r:ar):ar:=sS X aM q (("first",.pv (lst g.1))::("last",.pv (lst g.2))::r)
theorem ack{q:PV×PV}{g:List Nat×List Nat}(h1:o9 O X (λ_=>X.K) (AR X.t)=some (lst g.1))(h2:o9 O X (λ_=>X.K) (BQ X.t)=some (lst g.2)):a9 O NN aU cr (sS X aM q []) [bl 19,bl 20]=nx (p8 X aM q g []):=by
 have e1:cI O 999999 aU (fJ (sS X aM q [])) (sE (bl 19))=o9 O X (λ_=>X.K) (AR X.t):=tC X ⋯ ⋯;have e2:cI O 999999 aU (fJ (sS X aM q [("first",.pv (lst g.1))])) (sE (bl 20))=o9 O X (λ_=>X.K) (BQ X.t):=tC X ⋯ ⋯;exact aF (bg (n:=999999) (K:=bH aU "first" false) (p:=lst g.1) ⋯ (e1.trans h1) ⋯) (j0.trans (bg (n:=999999) (K:=bH aU "last" false) (p:=lst g.2) ⋯ (e2.trans h2) ⋯))
def oR(X:LX)(aM:List (List Nat))(q:PV×PV)(g:List Nat×List Nat)(t:Bool)(r:ar):ar:=p8 X aM q g (("tied",.pv (.bool t))::r)
theorem Ww{q:PV×PV}{g:List Nat×List Nat}{t:Bool}(h:t= !decide (g.1=g.2)):aw O NN aU cr (oR X aM q g t []) (bl 22)=nx (oR X aM q g t []):=
 kj (n:=999999) ⋯ ⋯ ((show _=(((dk 4 (lst g.1) (lst g.2)).map not).map PV.bool).bind λb=>fe O .NotEq (.bool t) b by rfl').trans (by
  rw[DA,h];cases decide (g.1=g.2)<;>rfl))
end
section
variable{nm:aN}{l m q S:List Nat}{L M:List (List Nat)}
theorem aeS:∀{l m:List Nat},fI l m=true->fI m l=false:=by
 intro l;induction l with
 |nil=>exact λ{m} h=>by cases m with
  |nil=>exact ff h
  |cons=>rfl
 |cons x l ih=>exact λ{m} h=>by cases m with
  |nil=>exact ff h
  |cons y m=>
   refine(rfl:_=if y=x then fI m l else decide (y<x)).trans ?_;have h:(if x=y then fI l m else decide (x<y))=true:=h;by_cases e:x=y
   ·rw[iP e] at h;rw[iP e.symm,ih h]
   ·rw[iN e] at h;rw[iN (gV e)];exact dF (oB (cC h))
theorem afv:∀{l m q:List Nat},fI m l=false->fI q m=false->fI q l=false:=by
 intro l;induction l with
 |nil=>exact λ{m q} h h'=>by cases q with
  |nil=>rfl
  |cons=>rfl
 |cons x l ih=>exact λ{m q} h h'=>by cases m with
  |nil=>exact tf h
  |cons y m=>cases q with
   |nil=>exact tf h'
   |cons z q=>
    refine(rfl:_=if z=x then fI q l else decide (z<x)).trans ?_;have h:(if y=x then fI m l else decide (y<x))=false:=h;have h':(if z=y then fI q m else decide (z<y))=false:=h';by_cases e:y=x
    ·rw[iP e] at h;rw[<-e];by_cases e':z=y
     ·rw[iP e'] at h'⊢;exact ih h h'
     ·rwa[iN e'] at h'⊢
    ·rw[iN e] at h;have h:=iM h;have k:¬z<y:=by
      by_cases e':z=y
      ·exact e'▸cV _
      ·rw[iN e'] at h';exact iM h'
     have n:x<z:=ba (pR (cZ h) (gV e)) (cZ k);rw[iN (fO n)];exact dF (oB n)
theorem adj:∀{l m:List Nat},fI l m=false->fI m l=false->l=m:=by
 intro l;induction l with
 |nil=>exact λ{m} h _=>by cases m with
  |nil=>rfl
  |cons=>exact tf h
 |cons x l ih=>exact λ{m} h h'=>by cases m with
  |nil=>exact tf h'
  |cons y m=>
   have h:(if x=y then fI l m else decide (x<y))=false:=h;have h':(if y=x then fI m l else decide (y<x))=false:=h';by_cases e:x=y
   ·rw[iP e] at h;rw[iP e.symm] at h';rw[e,ih h h']
   ·rw[iN e] at h;rw[iN (gV e)] at h';exact absurd (mK (cZ (iM h')) (cZ (iM h))) e
theorem Mj(hz:L.length<64):∃out,eD O nm (lists L) []=some (.list (lists out))/\out.Perm L/\out.Pairwise λa b=>fI b a=false:=
 AO (v:=lst) (le:=fI) (k:=3) rfl (λ_=>rfl) (λa _ b _=>Nb) (λa _ b _=>aeS) (λa _ b _ c _=>afv) hz
theorem afr(p:L.Perm M)(hz:L.length<64):∃out,eD O nm (lists L) []=some (.list (lists out))/\eD O nm (lists M) []=some (.list (lists out)):=by
 obtain⟨o1,e1,p1,s1⟩:=Mj (O:=O) (nm:=nm) hz;obtain⟨o2,e2,p2,s2⟩:=Mj (O:=O) (nm:=nm) (L:=M) (p.length_eq▸hz);have e:o1=o2:=agI (le:=λa b=>fI b a=false) (λ_ _ _ _ h1 h2=>adj h2 h1) s1 s2 (p1.trans (p.trans p2.symm));exact⟨o1,e1,e▸e2⟩
theorem P_(h:SS S)(p:l.Perm S):eD O nm (aC l) []=some (.list (aC S)):=by
 obtain⟨out,e,q,s⟩:=AO (O:=O) (nm:=nm) (v:=λn:Nat=>PV.int n) (le:=λa b=>decide (a<b)) (l:=l) (k:=1) rfl (λ_=>rfl) (λa _ b _=>af some (fv za)) (λa _ b _ x=>dF (oB (cC x))) (λa _ b _ c _ x y=>dF (gN (aq (cZ (iM x)) (cZ (iM y))))) (p.length_eq▸eN h.len (by decide));exact e.trans (af (λl=>some (PV.list (aC l))) (h.eq (q.trans p) s))
theorem abW(h:SS S):(eJ (.set S) λl=>eD O nm l [])=some (lst S):=xQ (.set S) λl' p=>P_ h p
end
section
noncomputable def i0(s m:Nat):List Nat:=(ax s).filter λc=>decide (m/2^c%2=1)
noncomputable def mZ(ps:List (List Nat))(c:List Nat):List Nat:=ps.map λP=>(P.filter λx=>decide (x∈c)).length
def vm(s k:Nat)(ps aM:List (List Nat))(m:Nat):Bool:=decide ((i0 s m).length=k)&&decide (mZ ps (i0 s m)∈aM)
def tL(s k:Nat)(ps aM:List (List Nat))(l:List Nat):List (List Nat):=(l.filter (vm s k ps aM)).map (i0 s)
structure LY where
 X:LX
 aM:List (List Nat)
 q:PV×PV
 g:List Nat×List Nat
 td:Bool
def kZ(Y:LY)(want:List (List Nat))(r:ar):ar:=oR Y.X Y.aM Y.q Y.g Y.td (("wanted",.own (lists want))::r)
noncomputable def jT(o m:Option PV):ar:=o.elim [] λo=>("mask",.pv o)::m.elim [] λm=>[("members",.pv m)]
def A4:aH:=bl 24
def BP(i:Nat):aH:=aJ (sB 0 A4) i
def Jk:Expr:=bR 0 (bR 1 (sE (BP 1)))
def LU:Expr:=bR 0 (bR 0 Jk)
variable{Y:LY}{m:Nat}{C P:List Nat}{r:Option (PV×PV)}
theorem aaK{x c:Nat}(h:c<8):fw .RShift x c=some (.int (x/2^c:Nat)):=(rfl:_=if 0<=(x:Int)/\0<=(c:Int)/\(c:Int)<8 then some (PV.int (Co x (2^c))) else none).trans ((iP ⟨fP _,fP _,jc h⟩).trans (af (λi=>some (PV.int i)) (by
 rw[show(2:Int)^c=(2^c:Nat) from(Int.natCast_pow 2 c).symm,fd])))
theorem Yb{x:Nat}:(((fw .BitAnd x 1).bind PV.truth).bind λb=>if b=false then some false else some true)=some (decide (x%2=1)):=by
 refine aG (aG ((rfl:_=if 0<=(x:Int)/\(1:Int)=1 then some (PV.int (zb x (2:Nat))) else none).trans (iP ⟨fP _,rfl⟩)) rfl) ?_;rw[fm];rcases agY x with e|e<;>rw[e]<;>rfl
theorem Xn(hs:Y.X.s<=6):aw O 999999 aU cr (kZ Y want (jT (some (.int m)) (r.map (·.2)))) (BP 0)=nx (kZ Y want (jT (some (.int m)) (some (lst (i0 Y.X.s m))))):=by
 refine bg (n:=999998) (K:=bH aU "members" false) (p:=lst (i0 Y.X.s m)) ⋯ ((show _=(gh 0 Y.X.s).bind λv=>over v (c8 O 999997 (sE (BP 0)) [("mask",.int m)]) by cases r<;>rfl').trans (aG (nE (aq hs (by decide))) ((rA _).trans (v6 (v:=λn:Nat=>.int n) (w:=λn:Nat=>.int n) (ok:=λc=>decide (m/2^c%2=1)) ⋯ (λj h=>(show _=((((fw .RShift m j).bind λa=>fW O .BitAnd a (.int 1)).bind PV.truth).bind λb=>if b=false then some false else some true).bind λok=>if ok=true then some [PV.int j] else some [] by rfl').trans ?_) (aq (aD cF) (aq hs (by decide))))))) (by cases r<;>rfl');rw[aaK (ba (eK h) (aq hs (by decide)))];exact aG Yb (apply_ite some ..).symm
theorem WQ(hz:P.length<=aA):c8 O 999993 LU [("members",lst C)] (aC P)=some (lst (P.filter λx=>decide (x∈C))):=
 v6 (v:=λn:Nat=>.int n) (w:=λn:Nat=>.int n) (ok:=λx=>decide (x∈C)) ⋯ (λj h=>(show _=((l9 4 (.int j) (aC C)).bind λb=>if b=false then some false else some true).bind λok=>if ok=true then some [PV.int j] else some [] by rfl').trans (by
  rw[PM];cases decide (j∈C)<;>rfl)) hz
theorem aft(hp:ps.length<=aA)(hz:∀P∈ps,P.length<=aA):c8 O 999995 Jk [("members",lst C)] (lists ps)=some (lst (mZ ps C)):=
 (nZ (v:=lst) (w:=λP=>.int ((P.filter λx=>decide (x∈C)).length:Nat)) ⋯ (λP h=>(show _=(((c8 O 999993 LU [("members",lst C)] (aC P)).bind λv=>some [v]).bind λvs=>nY O "len" vs []).map λx=>[x] by rfl').trans (by
  rw[WQ (hz P h)];exact af (λn:Nat=>some [PV.int n]) (bi _))) hp).trans (af (λl=>some (PV.list l)) (jr (g:=λn:Nat=>PV.int n) (f:=λP:List Nat=>(P.filter λx=>decide (x∈C)).length)).symm)
theorem ada:(aC C).length=C.length:=bi _
def gJ(Y:LY):List (List Nat):=lW Y.X Y.X.mm
theorem acF(hp:(gJ Y).length<=aA)(hz:∀P∈gJ Y,P.length<=aA)(hw:want.length<aA):aw O 999999 aU cr (kZ Y want (jT (some (.int m)) (some (lst (i0 Y.X.s m))))) (BP 1)=nx (kZ Y (want++if vm Y.X.s Y.X.K (gJ Y) Y.aM m=true then[i0 Y.X.s m] else[]) (jT (some (.int m)) (some (lst (i0 Y.X.s m))))):=by
 unfold vm;generalize i0 Y.X.s m=C;refine cL (n:=999998) (b:=decide (C.length=Y.X.K)&&decide (mZ (gJ Y) C∈Y.aM)) ⋯ ((show _=(some (((aC C).length:Int)==(Y.X.K:Int))).bind λb=>if b=false then some false else((c8 O 999995 Jk [("members",lst C)] (lists (gJ Y))).bind λa=>fe O .In a (.list (lists Y.aM))).bind λb=>if b=false then some false else some true by rfl').trans ?_) ?_
 ·rw[aft hp hz,show((lst (mZ (gJ Y) C)):PV)=lst (mZ (gJ Y) C) from rfl,show((some (lst (mZ (gJ Y) C))).bind λa=>fe O .In a (.list (lists Y.aM)))=some (decide (mZ (gJ Y) C∈Y.aM)) from Mb,ada,show((C.length:Int)==(Y.X.K:Int))=decide (C.length=Y.X.K) from fv wR];cases decide (C.length=Y.X.K)<;>cases decide (mZ (gJ Y) C∈Y.aM)<;>rfl
 cases decide (C.length=Y.X.K)&&decide (mZ (gJ Y) C∈Y.aM) with
 |false=>exact(⋯:_=nx (kZ Y want (jT (some (.int m)) (some (lst C))))).trans (af (λw=>nx (kZ Y w (jT (some (.int m)) (some (lst C))))) (gO want).symm)
 |true=>exact(⋯:_=a9 O 999998 aU cr (kZ Y want (jT (some (.int m)) (some (lst C)))) [aJ (sB 0 (BP 1)) 0]).trans (j0.trans (GO (n:=999997) (x:="wanted") (l0:=lists want) (L:=lists want) (p:=lst C) (σ₁:=kZ Y want (jT (some (.int m)) (some (lst C)))) ⋯ (aQ (aD (bi _)) hw) ⋯ ⋯ ((⋯:_=nx (oR Y.X Y.aM Y.q Y.g Y.td (("wanted",.own (lists want++[lst C]))::jT (some (.int m)) (some (lst C))))).trans (af (λl=>nx (oR Y.X Y.aM Y.q Y.g Y.td (("wanted",.own l)::jT (some (.int m)) (some (lst C))))) (mP (l₁:=want) (l₂:=[C])).symm))))
theorem YC{s k:Nat}{aM:List (List Nat)}{l:List Nat}:tL s k ps aM (m::l)=(if vm s k ps aM m=true then[i0 s m] else[])++tL s k ps aM l:=by
 unfold tL;cases h:vm s k ps aM m with
 |true=>rw[tx h];rfl
 |false=>rw[uZ (ne_true_of_eq_false h)];rfl
theorem adC(hs:Y.X.s<=6)(hp:(gJ Y).length<=aA)(hz:∀P∈gJ Y,P.length<=aA):∀{l:List Nat} {want:List (List Nat)} {r:Option (PV×PV)},want.length+l.length<aA->(l=[]->r≠none)->∃a c,dZ (aS (aw O 999999 aU cr) (sB 0 A4)) aU (sT A4) (aC l) (kZ Y want (jT (r.map (·.1)) (r.map (·.2))))=nx (kZ Y (want++tL Y.X.s Y.X.K (gJ Y) Y.aM l) (jT (some a) (some c))):=by
 intro l;induction l with
 |nil=>exact λ{want r} _ q=>match r,q with
  |some (a,c),_=>⟨a,c,af (λw=>nx (kZ Y w (jT (some a) (some c)))) (gO want).symm⟩
  |none,q=>absurd rfl (q rfl)
 |cons m l ih=>
  intro want r hw _;have h1:want.length<aA:=aQ (cW want.length _) hw;have h2:(want++if vm Y.X.s Y.X.K (gJ Y) Y.aM m=true then[i0 Y.X.s m] else[]).length+l.length<aA:=by
   refine aQ (aq (mF (m:=want.length+1) ?_ l.length) (aD (pP ..))) hw;rw[da];cases vm Y.X.s Y.X.K (gJ Y) Y.aM m
   ·exact iH _
   ·exact bf _
  obtain⟨a,c,e⟩:=ih (r:=some (.int m,lst (i0 Y.X.s m))) h2 λ_=>sN;rw[kt,<-YC] at e;have k0:=Xn (O:=O) (Y:=Y) (want:=want) (m:=m) (r:=r) hs;have k1:=acF (O:=O) (Y:=Y) (want:=want) (m:=m) hp hz h1;exact⟨a,c,ii (v:=.int m) (l:=aC l) (σ₁:=kZ Y want (jT (some (.int m)) (r.map (·.2)))) (by cases r<;>rfl') (by exact aF k0 (j0.trans k1)) (by exact e)⟩
def ny(Y:LY)(want:List (List Nat))(u:PV×PV)(r:ar):ar:=kZ Y want (("mask",.pv u.1)::("members",.pv u.2)::r)
theorem afG(hs:Y.X.s<=6)(hp:(gJ Y).length<=aA)(hz:∀P∈gJ Y,P.length<=aA):∃u,a9 O NN aU cr (oR Y.X Y.aM Y.q Y.g Y.td []) [bl 23,bl 24]=nx (ny Y (tL Y.X.s Y.X.K (gJ Y) Y.aM (ax (2^Y.X.s))) u []):=by
 have u8:2^Y.X.s<=64:=Ss (n:=2) (by decide) hs;obtain⟨a,c,e⟩:=adC (O:=O) (Y:=Y) (l:=ax (2^Y.X.s)) (want:=[]) (r:=none) hs hp hz (by rw[cF,Ca,f5];exact aQ u8 (by decide)) (λe=>absurd (cF.symm.trans (af yD e)) (fO (F0 (by decide))));refine⟨(a,c),aF (σ₁:=kZ Y [] (jT none none)) ⋯ (j0.trans (bg (n:=999999) (K:=fY (aw O 999999 aU cr) aU (sT A4) (sB 0 A4)) ⋯ ((show _=((fw .Pow 2 Y.X.s).bind λv=>some [v]).bind λvs=>nY O "range" vs [] by rfl').trans ?_) (zP e)))⟩;rw[show fw .Pow 2 Y.X.s=some (.int (2^Y.X.s:Nat)) from(rfl:_=if(2:Int)=2/\0<=(Y.X.s:Int)/\(Y.X.s:Int)<8 then some (PV.int (2^Y.X.s)) else none).trans ((iP ⟨rfl,fP _,jc (aQ hs (by decide))⟩).trans (af (λi=>some (PV.int i)) (Int.natCast_pow 2 _).symm))];exact nE (aq u8 (by decide))
end
section
noncomputable def LX.kd(X:LX)(κ:Nat):LX:={X with κ:=κ}
theorem kC{P:LX->Prop}(X:LX)(h:X.κ<5)(h0:P (X.kd 0))(h1:P (X.kd 1))(h2:P (X.kd 2))(h3:P (X.kd 3))(h4:P (X.kd 4)):P X:=Aa (P:=λκ=>P (X.kd κ)) h0 h1 h2 h3 h4 X.κ h
noncomputable def kB(κ:Nat):Bool:=κ==1||κ==3
def Q0(X:LX):PV:=a6 X.s (zW X.s) (lR X X.mm)
def yn(O:aK)(X:LX):Option PV:=if X.κ=4 then O.fn "compute_adams" [Q0 X,.int X.K] [] else O.fn (cond (dK X.κ) "compute_slav" "compute_pav") [Q0 X,.int X.K] [("algorithm",.str (gZ (kB X.κ)))]
variable{X:LX}{Y:LY}{aM l:List (List Nat)}{q u:PV×PV}{g:List Nat×List Nat}{td:Bool}{d:List Nat}{out:List (List Nat)}{r:aZ}
structure MO(O:aK)(σ:ar)(st:aH)(o:Option PV)(n:Nat)(e:Expr):Prop where
 hs:aw O NN aU cr σ st=(bX (cI O n aU) σ e).bind (bH aU "told" false)
 h0:cI O n aU (fJ σ) e=none
 h1:cI O n aU (bA σ) e=o
def rC(i:Nat):aH:=aJ (sB i (bl 25)) 0
theorem IS{n:Nat}{nm:aN}{mu:List Str}{b:Bool}{st':aH}(hs:aw O (n+1) nm mu σ st=(fF O n nm (bA σ) (sE st)).bind λr=>aS (aw O n nm mu) (if r=true then sB 0 st else sB 1 st) σ)(ht:fF O n nm (bA σ) (sE st)=some b)(hb:(if b=true then sB 0 st else sB 1 st)=[st'])(k:aw O n nm mu σ st'=r):aw O (n+1) nm mu σ st=r:=cL hs ht ((af (λl=>aS (aw O n nm mu) l σ) hb).trans (j0.trans k))
theorem Fa{b:Bool}(h4:k4 X.κ=false)(h2:fF O 999998 aU (bA (ny ⟨X,aM,q,g,td⟩ want u [])) (sE (rC 1))=some b)(k:aw O 999998 aU cr (ny ⟨X,aM,q,g,td⟩ want u []) (aJ (if b=true then sB 0 (rC 1) else sB 1 (rC 1)) 0)=r):aw O NN aU cr (ny ⟨X,aM,q,g,td⟩ want u []) (bl 25)=r:=
 IS (n:=999999) (b:=false) ⋯ ((⋯:_=some (k4 X.κ)).trans (af some h4)) ⋯ (IS (n:=999998) (b:=b) ⋯ h2 (by cases b<;>rfl') k)
theorem ϭ(h:X.κ<5):∃n e,MO O (ny ⟨X,aM,q,g,td⟩ want u []) (bl 25) (yn O X) n e:=
 kC (P:=λX=> ∃n e,MO O (ny ⟨X,aM,q,g,td⟩ want u []) (bl 25) (yn O X) n e) X h ⟨999997,sE (aJ (sB 0 (rC 1)) 0),Fa (b:=true) rfl ⋯ ⋯,⋯,⋯⟩ ⟨999997,sE (aJ (sB 0 (rC 1)) 0),Fa (b:=true) rfl ⋯ ⋯,⋯,⋯⟩ ⟨999997,sE (aJ (sB 1 (rC 1)) 0),Fa (b:=false) rfl ⋯ ⋯,⋯,⋯⟩ ⟨999997,sE (aJ (sB 1 (rC 1)) 0),Fa (b:=false) rfl ⋯ ⋯,⋯,⋯⟩ ⟨999998,sE (rC 0),IS (n:=999999) (b:=true) (st':=rC 0) ⋯ ⋯ ⋯ ⋯,⋯,⋯⟩
noncomputable def lZ(l:List (List Nat)):PV:=.list (l.map PV.set)
theorem YO{ls:List (List PV)}{cs:List (Nat×List Str)}:iw ls cs (l.map PV.set)=false:=by
 induction l with
 |nil=>rfl
 |cons=>assumption
theorem NB{ls:List (List PV)}{cs:List (Nat×List Str)}:cf ls cs (lZ l)=ls.any λm=>nB m (l.map PV.set):=(af ((ls.any λm=>nB m (l.map PV.set))|| ·) YO).trans (yG _)
theorem HF:cf [lists l] [] (lZ (d::out))=false:=NB.trans (by cases l<;>rfl)
theorem aaP{s:Nat}{vs:List (List Nat×Nat)}:cf (wj (eV s vs) fG) [(bx,(eV s vs).map (·.1))] (lZ (d::out))=false:=NB.trans (by
 show(nB ((ax s).map ds) ((d::out).map PV.set)||(nB (vs.map bp) ((d::out).map PV.set)||false))=false;cases s with
 |zero=>cases vs<;>rfl
 |succ s=>
  rw[yA];cases vs<;>rfl)
theorem acC:dX (lZ (d::out)) (ny Y want u [])=ny Y want u []:=
 (⋯:_=tQ Y.X (("lengths",.pv (.list (bW Y.X.mm Y.X.L)))::("votes",.pv (.list (bW Y.X.mm Y.X.V)))::m6 Y.X (("made",.a7 bx (eV Y.X.s (lR Y.X Y.X.mm)) fG)::("parties",.qm (cf [lists (gJ Y)] [] (lZ (d::out))) (lists (gJ Y)))::("place",.pv (.int (rB Y.X Y.X.mm)))::("i",.pv (.int (Y.X.mm-1:Nat)))::("due",.qm (cf [lists Y.aM] [] (lZ (d::out))) (lists Y.aM))::("order",.pv Y.q.1)::("given",.pv Y.q.2)::("first",.pv (lst Y.g.1))::("last",.pv (lst Y.g.2))::("tied",.pv (.bool Y.td))::("wanted",.qm (cf [lists want] [] (lZ (d::out))) (lists want))::("mask",.pv u.1)::("members",.pv u.2)::[]))).trans (by
  rw[HF,HF,HF];rfl')
theorem UK(h:Y.X.κ<5)(ht:yn O Y.X=some (lZ (d::out))):aw O NN aU cr (ny Y want u []) (bl 25)=nx (ny Y want u [("told",.pv (lZ (d::out)))]):=by
 obtain⟨n,e,R⟩:=ϭ (O:=O) (aM:=Y.aM) (q:=Y.q) (g:=Y.g) (td:=Y.td) (want:=want) (u:=u) h;exact R.hs.trans (aG (HH R.h0 (R.h1.trans ht) ((⋯:_=(cf (wj (eV Y.X.s (lR Y.X Y.X.mm)) fG) [(bx,(eV Y.X.s (lR Y.X Y.X.mm)).map (·.1))] (lZ (d::out))||false)).trans ((yG _).trans aaP)) acC) ⋯)
def IG:Expr:=bR 0 (bR 0 (sE (bl 26)))
theorem Vj(h6:∀c∈d::out,SS c)(hz:(d::out).length<64)(hp:(d::out).Perm want):aw O NN aU cr (ny Y want u [("told",.pv (lZ (d::out)))]) (bl 26)=some (.ret (.bool true),ny Y want u [("told",.pv (lZ (d::out)))]):=by
 obtain⟨o,e1,e2⟩:=afr (O:=O) (nm:=aU) hp hz;refine vY (n:=999999) ⋯ ((show _=((((c8 O 999996 IG [] ((d::out).map PV.set)).bind λv=>eJ v λl=>eD O aU l []).bind λa=>(eD O aU (lists want) []).bind λb=>Bp O .Eq a b (dk 4 a b)).map PV.bool) by rfl').trans ?_);have a0:((c8 O 999996 IG [] ((d::out).map PV.set)).bind λv=>eJ v λl=>eD O aU l [])=some (PV.list (lists o)):=
  aG (a:=PV.list (lists (d::out))) (K:=λv=>eJ v λl=>eD O aU l []) (nZ (v:=PV.set) (w:=lst) ⋯ (λc m=>(show _=((eJ (.set c) λl=>eD O (gS IG).names l []).map λx=>[x]) by rfl').trans (af (eP λx=>[x]) (abW (h6 c m)))) (aq (cy hz) (by decide))) e1
 rw[a0,e2];exact af (eP PV.bool) ((RK (n:=3) (v:=lst) λ_ _=>DA).trans (af some (dT rfl)))
end
end
section
noncomputable def qB(b:Nat)(B:Int)(q:Nat->Nat->Int):Nat->Nat->Int:=b.casesOn q λ_ i j=>j.casesOn B (q i)
variable{c:Bool}{κ K i j a a' b:Nat}{v t rk:Nat->Nat}{l ps:List Nat}{q:Nat->Nat->Int}{B:Int}
theorem aaY(hK:K<8)(hi:i<K)(hj:j<K):Wd c K v a i<=Wd c K v a' j↔Wd c 7 v a i<=Wd c 7 v a' j:=(Px hK hi hj).trans (Px (by decide) (ba hi (jt hK)) (ba hj (jt hK))).symm
theorem aco(hb:b<=1)(hB:∀i j,q i j<B)(h:e9 q):e9 (qB b B q):=λa j=>by
 cases b with
 |zero=>exact h a j
 |succ=>cases j with
  |zero=>exact hB a 0
  |succ j=>exact h a j
theorem ME(hb:b<=1)(hB:∀i j,q i j<B)(F:Ax q rk l t):Ax (qB b B q) rk l λi=>b+t i:=by
 rcases TZ.mp hb with e|e<;>rw[e]
 ·rw[show(λi=>0+t i)=t from funext λi=>f5 _];exact F
 ·rw[show(λi=>1+t i)=λi=>t i+1 from funext λi=>gj ..];intro M x hx y hy ne _ _;show q y (t y)<=qB 1 B q x (t x)/\(rk y<rk x->q y (t y)<qB 1 B q x (t x));have f:=F (λi=>t i+1) x hx y hy ne;cases e:t x with
  |zero=>exact⟨mH (hB _ _),λ_=>hB _ _⟩
  |succ n=>
   rw[e] at f;exact f (eE n) (i5 _)
theorem Rs(nd:ps.Nodup):ps.Pairwise λa b=>ps.idxOf a<ps.idxOf b:=by
 rw[Tw];intro i j hi hj h;rw[nd.idxOf_getElem,nd.idxOf_getElem];exact h
theorem M8:Fb (λi=>ps.idxOf i) ps:=λa ha b hb e=>by
 have h1:=agZ (ag5.mpr ha);have h2:=agZ (ag5.mpr hb);rw[<-h1,<-h2];congr 1
theorem xG:bK κ<=1:=by
 unfold bK;by_cases h:κ=4
 ·rw[iP h];exact bf 1
 ·rw[iN h];exact cu 1
structure Dq(κ:Nat)(v:Nat->Nat)(B:Int):Prop where
 k5:κ<5
 v1:∀i,1<=v i
 big:∀i j,Wd (dK κ) 7 v i j<B
def qK(κ:Nat)(v:Nat->Nat)(B:Int):Nat->Nat->Int:=qB (bK κ) B (Wd (dK κ) 7 v)
theorem Dq.dec(H:Dq κ v B):e9 (qK κ v B):=aco xG H.big (Dt (by decide) H.v1)
theorem aec(H:Dq κ v B)(nd:ps.Nodup)(h3:ps.length<=3):AM (qK κ v B) (λi=>ps.idxOf i) ps (sf (dK κ) (bK κ) v) (bK κ) 6:=λl K s h0 G=>by
 have P:o8 (mX κ l v K true):=⟨G,H.v1,nd.sublist s,aq s.length_le h3,h0⟩;by_cases e:bK κ*l.length=K
 ·rw[show sf (dK κ) (bK κ) v l K=λi=>bK κ+0 from funext λi=>iP e];exact⟨gz.trans e,ME xG H.big λM a _ b _ _ h=>absurd h (cV _),λ_ _=>bf _⟩
 ·have L:=(JD (O:=Bt) (Bu H.k5 P) P e).1;rw[show sf (dK κ) (bK κ) v l K=λi=>bK κ+fy (Wd (dK κ) K v) K (l8 (Wd (dK κ) K v) K l (K-bK κ*l.length)) l (K-bK κ*l.length) i from funext λi=>iN e];exact⟨qO.trans ((congr (af HAdd.hAdd gz) (QB L P.nd)).trans (iK G.lo)),ME xG H.big (ZS (λa b i j hi hj=>aaY (aQ G.hi (by decide)) hi hj) P.dec L P.nd ((Rs nd).sublist s)),λ_ _=>cW ..⟩
end
section
variable{K i m s b:Nat}{L:Nat->Nat}{l c:List Nat}{ps:Nat->List Nat}
section
variable{j pl a k x:Nat}{y:Nat->Nat}{X:LX}
theorem VS:su L (ax (m+1))=su L (ax m)+L m:=by
 unfold su;rw[Ck,mP,List.sum_append_nat];rfl
theorem XF:iQ s pl a++iQ s (pl+a) b=iQ s pl (a+b):=by
 unfold iQ;rw[List.range_add,mP,jr];exact af _ (pT λj _=>by rw[agH,fC])
theorem W5:∀m,(lW X m).flatten=iQ X.s (X.nu X.mm) (su X.L (ax m))/\rB X m=X.nu X.mm+su X.L (ax m):=by
 intro m;induction m with
 |zero=>exact⟨rfl,rfl⟩
 |succ m ih=>
  rw[VS];refine⟨?_,(af (· +X.L m) ih.2).trans (fC ..)⟩;unfold lW;rw[Ck,mP,List.flatten_append];show(lW X m).flatten++(iQ X.s (rB X m) (X.L m)++[])=_;rw[ih.1,gO,ih.2,XF]
theorem aaN(hs:s≠0)(h:k<=s):(iQ s pl k).Nodup:=by
 unfold iQ;rw[List.nodup_iff_pairwise_ne,Tv];refine TF.imp_of_mem λ{a b} ha hb eZ e=>?_;have z:=Nat.sub_mod_eq_zero_of_mod_eq e.symm;rw[Nat.add_sub_add_left,Nat.mod_eq_of_lt (aQ (kD ..) (ba (eK hb) h))] at z;exact nh eZ (Nat.sub_eq_zero_iff_le.mp z)
theorem Md(hs:s≠0):∀x∈iQ s pl k,x<s:=λx m=>by
 obtain⟨j,_,rfl⟩:=rg.mp m;exact Cf _ (TR hs)
theorem VI(hs:s≠0):(iQ s pl s).Perm (ax s):=by
 have nd:=aaN (pl:=pl) hs (bf s);refine(F5 nd u0).mpr λx=>⟨λm=>dJ (Md hs x m),λm=>y8 λn=>?_⟩;have:=(nL ⟨n,nd⟩).length_le_of_subset (l₂:=ax s) λy my=>(bw my).elim (λe=>e▸m) λmy=>dJ (Md hs y my);rw[wB,show(iQ s pl s).length=s from(bi _).trans cF,cF] at this;exact cV _ this
structure hX(ps:Nat->List Nat)(L:Nat->Nat)(m s:Nat):Prop where
 perm:((ax m).map ps).flatten.Perm (ax s)
 len:∀i,(ps i).length=L i
theorem Ϝ(hs:X.s≠0)(e:X.s=su X.L (ax X.mm)):hX (gx X) X.L X.mm X.s where
 perm:=.trans (.of_eq ((W5 X.mm).1.trans (af (iQ X.s (X.nu X.mm)) e.symm))) (VI hs)
 len i:=(bi _).trans cF
theorem hX.nd(D:hX ps L m s):((ax m).map ps).flatten.Nodup:=D.perm.nodup_iff.mpr u0
theorem hX.Dg(D:hX ps L m s)(hi:i<m):(ps i).Nodup:=(ag6.mp D.nd).1 _ (qW (dJ hi))
theorem hX.lt(D:hX ps L m s)(hi:i<m):∀x∈ps i,x<s:=λx m=>eK (D.perm.mem_iff.mp (List.mem_flatten.mpr ⟨_,qW (dJ hi),m⟩))
theorem hX.up(D:hX ps L m s)(h:i<j)(hj:j<m)(a:x∈ps i)(b:x∈ps j):False:=by
 have h2:=(ag6.mp D.nd).2;rw[Tv] at h2;have k:=(Tw.mp h2) i j (i6 (eN h hj) cF.symm) (i6 hj cF.symm) h;rw[Sx,Sx] at k;exact k x a x b rfl
theorem hX.one(D:hX ps L m s)(hi:i<m)(hj:j<m)(a:x∈ps i)(b:x∈ps j):i=j:=(TG i j).elim (λh=>(D.up h hj a b).elim) λh=>h.elim (λe=>e) λh=>(D.up h hi b a).elim
noncomputable def eI(ps:Nat->List Nat)(c:List Nat)(i:Nat):Nat:=((ps i).filter λx=>decide (x∈c)).length
theorem Jr(D:hX ps L m s):eI ps c i<=L i:=D.len i▸re _ _
theorem ZH{P:Nat->Bool}:su (λi=>((ps i).filter P).length) l=((l.map ps).flatten.filter P).length:=by
 induction l with
 |nil=>rfl
 |cons a l ih=>exact(af (((ps a).filter P).length+ ·) ih).trans (da.symm.trans (af yD (pU ..).symm))
theorem Jj(D:hX ps L m s)(h1:c.Nodup)(h2:∀x∈c,x<s):su (eI ps c) (ax m)=c.length:=
 ZH.trans (((D.perm.filter _).length_eq).trans ((F5 (u0.filter _) h1).mpr λx=>by
  rw[oC,decide_eq_true_iff,KZ];exact⟨λh=>h.2,λh=>⟨h2 x h,h⟩⟩).length_eq)
theorem aaD:∀{k:Nat},l.Nodup->l.filter (λx=>decide (x∈l.take k))=l.take k:=by
 induction l with
 |nil=>exact λ_=>uW.symm
 |cons a l ih=>
  intro k nd;have nd:=iV nd;cases k with
  |zero=>exact Ge.mpr λx _ h=>eX (cC h)
  |succ k=>
   rw[List.take_succ_cons,tx (p:=λx=>decide (x∈a::l.take k)) (dT (List.mem_cons_self ..))];exact af (a:: ·) ((Cn λx m=>show decide (x∈a::l.take k)=decide (x∈l.take k) from fv (jN.trans (or_iff_right λe:x=a=>nd.1 (e▸m)))).trans (ih nd.2))
def vP(ps:Nat->List Nat)(y:Nat->Nat)(m:Nat):List Nat:=d5 ((ax m).flatMap λi=>(ps i).take (y i))
theorem Rt:x∈vP ps y m↔∃i,i<m/\x∈(ps i).take (y i):=rN.trans (Gc.trans ⟨λ⟨i,h,k⟩=>⟨i,eK h,k⟩,λ⟨i,h,k⟩=>⟨i,dJ h,k⟩⟩)
theorem Jz(D:hX ps L m s)(hi:i<m)(hy:y i<=L i):eI ps (vP ps y m) i=y i:=by
 unfold eI;rw[Cn λx mx=>show decide (x∈vP ps y m)=decide (x∈(ps i).take (y i)) from fv (Rt.trans ⟨λ⟨j,hj,h⟩=>D.one hi hj mx (K0 h)▸h,λh=>⟨i,hi,h⟩⟩),aaD (D.Dg hi),FI,D.len i];exact wM hy
theorem Qk(D:hX ps L m s)(hy:∀i,i<m->y i<=L i)(hK:su y (ax m)=K):vP ps y m∈cj s 0 K:=by
 have h1:(vP ps y m).Pairwise (· < ·):=oZ;have h2:∀x∈vP ps y m,x<s:=λx mx=>(Rt.mp mx).elim λi h=>D.lt h.1 x (K0 h.2);exact Bw ((Jj D (kJ h1) h2).symm.trans ((xV λi m=>Jz D (eK m) (hy i (eK m))).trans hK)) h1 λx m=>⟨cu _,h2 x m⟩
theorem adW(D:hX ps L m s)(hc:c.Nodup)(hi:i<m):(fg c (d5 (ps i))).length=eI ps c i:=by
 rw[<-OB hc (kJ oZ)];refine((DV (D.Dg hi)).filter _).length_eq.trans ?_;unfold eI;rw[Cn λx _=>List.contains_eq_mem ..]
end
section
variable{n:Nat}{x y:Nat->Nat}{ws:List Nat}{q:Nat->Nat->Int}{B:Int}
def d7(b:Nat)(ps:Nat->List Nat)(m:Nat)(c:List Nat):Prop:=∀i,i<m->b<=eI ps c i
structure zz(q:Nat->Nat->Int)(b:Nat)(ps:Nat->List Nat)(m s K:Nat)(c:List Nat):Prop where
 d7:d7 b ps m c
 top:∀c'∈cj s 0 K,Mine.d7 b ps m c'->kX q (ax m) (λi=>eI ps c' i-b)<=kX q (ax m) λi=>eI ps c i-b
theorem BK(h:0<n):qB 1 B q i n=q i (n-1):=by
 cases n with
 |zero=>exact absurd h (cV 0)
 |succ=>rfl
theorem Q5(hb:b<=1)(hB:∀i j,q i j<B)(h:∀a∈ws,b<=x a):lF (qB b B q) L ws x↔lF q (λi=>L i-b) ws λi=>x i-b:=by
 rcases TZ.mp hb with rfl|rfl
 ·exact .rfl
 ·refine⟨λO a ha a' rn ne h1 h2=>?_,λO a ha a' rn ne h1 h2=>?_⟩
  ·have p:=O a ha a' rn ne (h a ha) (oj λk=>gN (KO k 1) h2);rwa[BK (h a' rn),BK h1] at p
  ·rw[BK (h a' rn)];rcases Nat.eq_zero_or_pos (x a-1) with e|e
   ·rw[e];exact mH (hB _ _)
   ·rw[BK e];exact O a ha a' rn ne e (agR (h a' rn) h2)
theorem Mk(hb:b<=1)(hB:∀i j,q i j<B)(O:lF (qB b B q) L ws x)(h1:∀a∈ws,b<=L a)(hs:b*ws.length<=su x ws):∀a∈ws,b<=x a:=by
 rcases TZ.mp hb with rfl|rfl
 ·exact λ_ _=>cu _
 ·refine λa ha=>TR λhx=>?_;by_cases e:∃a'∈ws,1<x a'
  ·obtain⟨a',rn,h2⟩:=e;have h3:=O a' rn a ha (λe=>by rw[e,hx] at h2;exact yW 1 h2) (eN KY h2) (hx▸h1 a ha);rw[hx,BK (q9 h2)] at h3;exact im h3 (hB _ _)
  ·have all:∀a∈ws,x a<=1:=λa ha=>cZ λh=>e ⟨a,ha,h⟩;have k:=Bj (t':=λ_=>1) all (mK (mf all) (gz.symm▸hs)) ha;rw[hx] at k;exact Nat.zero_ne_one k
theorem YB(h:∀a∈ws,b<=x a):su (λi=>x i-b) ws+b*ws.length=su x ws:=by
 rw[<-gz,<-qO];exact xV λa m=>FQ (h a m)
theorem vF(hc:c∈cj s 0 K):c.Nodup/\(∀x∈c,x<s)/\c.length=K:=⟨kJ (sL hc).2.1,λx m=>((sL hc).2.2 x m).2,(sL hc).1⟩
theorem F_(D:hX ps L m s)(hb:b<=1)(hB:∀i j,q i j<B)(hq:e9 q)(h1:∀i,i<m->b<=L i)(hK:b*m<=K)(hc:c∈cj s 0 K):zz q b ps m s K c↔lF (qB b B q) L (ax m) (eI ps c):=by
 have hs {c} (hc:c∈cj s 0 K):su (eI ps c) (ax m)=K:=(Jj D (vF hc).1 (vF hc).2.1).trans (vF hc).2.2;have cv {c} (h:d7 b ps m c):∀a∈ax m,b<=eI ps c a:=λa m=>h a (eK m);have sh {c} (hc:c∈cj s 0 K) (h:d7 b ps m c):su (λi=>eI ps c i-b) (ax m)+b*m=K:=by
  have z:=YB (cv h);rwa[cF,hs hc] at z
 have lL {c}:∀a∈ax m,eI ps c a-b<=L a-b:=λa m=>KO (Jr D) b;constructor
 ·intro W;refine(Q5 hb hB (cv W.1)).mpr (acs u0 lL λy hy e=>?_);have UG:∀i,i<m->y i+b<=L i:=λi hi=>TC (h1 i hi) (hy i (dJ hi));have ce:∀i,i<m->eI ps (vP ps (λi=>y i+b) m) i=y i+b:=λi hi=>Jz D hi (UG i hi);have t:=W.2 _ (Qk D UG (qO.trans (by rw[e,gz,cF];exact sh hc W.1))) λi hi=>by rw[ce i hi];exact i7 _ _
  refine ic (oD (ym λi m=>af (iY q i) ?_)) t;rw[ce i (eK m),wO]
 ·intro O;have C:d7 b ps m c:=λi hi=>Mk hb hB O (λa m=>h1 a (eK m)) (by rw[cF,hs hc];exact hK) i (dJ hi);exact⟨C,λc' ju C'=>abL hq ((Q5 hb hB (cv C)).mp O) lL lL (Nat.add_right_cancel ((sh ju C').trans (sh hc C).symm))⟩
end
section
variable{r d:Bool}{n:Nat}{V:Nat->Nat}{S:Nat->Int}{E:Int}{f g:Nat->Int}
def ji(ps:Nat->List Nat)(V:Nat->Nat)(l:List Nat):List (List Nat×Nat):=l.map λi=>(d5 (ps i),V i)
theorem Ys(D:hX ps L m s)(hc:c.Nodup)(h:∀i∈l,i<m):d4 S c (ji ps V l)=sI (λi=>S (eI ps c i)*V i) l:=by
 induction l with
 |nil=>rfl
 |cons i l ih=>
  show S (fg c (d5 (ps i))).length*V i+d4 S c (ji ps V l)=_;rw[ih λi m=>h i (.tail _ m),adW D hc (h i (.head _))];rfl
theorem O3:sI (λi=>E*f i) l=E*sI f l:=by
 induction l with
 |nil=>exact(TH E).symm
 |cons i l ih=>exact(af (E*f i+ ·) ih).trans (KX ..).symm
def Jn(d:Bool)(E:Int)(S:Nat->Int):Prop:=S 0=0/\∀j,j<3->E*(S (j+1) -S j)=(dI d 7/c9 d j:Nat)
theorem N3{z:Int}(j:Nat):E*(S n*z)+E*((S j-S n)*z)=E*(S j*z):=by rw[<-KX,<-FX,uY,KM]
theorem QP(H:Jn d E S)(h:n<=3):iY (Wd d 7 V) i n=E*(S n*V i):=by
 induction n with
 |zero=>exact(by rw[H.1,yI,TH];rfl)
 |succ n ih=>
  show iY (Wd d 7 V) i n+Wd d 7 V i n=_;rw[ih (lB h),vC (ba h (by decide)),TO,<-H.2 n h,Int.mul_left_comm (V i:Int),Int.mul_comm (V i:Int) (S (n+1) -S n),N3]
noncomputable def eR(r:Bool):Int:=cond r 1287 420
theorem aa7:[false,true].all (λr=>decide (rS r 0=0)&&decide (0<eR r)&&(ax 3).all λj=>decide (eR r*(rS r (j+1) -rS r j)=(dI r 7/c9 r j:Nat)))=true:=⋯
theorem N1:Jn r (eR r) (rS r)/\0<eR r:=by
 have h:=aW (b7 aa7 r (by cases r<;>decide));have g:=aW h.1;exact⟨⟨cC g.1,λj hj=>cC (b7 h.2 j (dJ hj))⟩,cC g.2⟩
def sA(n:Nat):Int:=ni (n+1) -ni 1
theorem Ve:Jn false 840 sA:=⟨⋯,λj hj=>cC (b7 (show(ax 3).all (λj=>decide (840*(sA (j+1) -sA j)=((dI false 7/c9 false j:Nat):Int)))=true by rfl') j (dJ hj))⟩
structure qk(ps:Nat->List Nat)(L V:Nat->Nat)(m s K:Nat):Prop where
 D:hX ps L m s
 V:gc s K (ji ps V (ax m))
 L3:∀i,L i<=3
theorem qk.sc(P:qk ps L V m s K)(hc:c∈cj s 0 K):d4 S c (ji ps V (ax m))=sI (λi=>S (eI ps c i)*V i) (ax m):=Ys P.D (vF hc).1 λi m=>eK m
theorem qk.c3(P:qk ps L V m s K):eI ps c i<=3:=aq (Jr P.D) (P.L3 i)
theorem ac3(P:qk ps L V m s K)(hc:c∈cj s 0 K):c∈xN (rS r) s K (ji ps V (ax m))↔zz (Wd r 7 V) 0 ps m s K c:=by
 have e {c} (hc:c∈cj s 0 K):kX (Wd r 7 V) (ax m) (λi=>eI ps c i-0)=eR r*d4 (rS r) c (ji ps V (ax m)):=by
  rw[P.sc hc,<-O3];exact ym λi m=>QP N1.1 P.c3
 have le {c c'} (hc:c∈cj s 0 K) (ju:c'∈cj s 0 K):kX (Wd r 7 V) (ax m) (λi=>eI ps c' i-0)<=kX (Wd r 7 V) (ax m) (λi=>eI ps c i-0)↔d4 (rS r) c' (ji ps V (ax m))<=d4 (rS r) c (ji ps V (ax m)):=by
  rw[e hc,e ju];exact ag0 N1.2
 exact(HP (lp tW P.V)).trans ⟨λh=>⟨λ_ _=>cu _,λc' ju _=>(le hc ju).mpr (h.2 c' ju)⟩,λh=>⟨hc,λc' ju=>(le hc ju).mp (h.2 c' ju λ_ _=>cu _)⟩⟩
def xB(ps:Nat->List Nat)(V:Nat->Nat)(c:List Nat)(i:Nat):Nat:=if eI ps c i=0 then 0 else V i
theorem Χ(h:n<=3){v:Nat}:uq n*(v:Int)=((if n=0 then 0 else v:Nat):Int):=by
 have f:∀n,n<4->uq n=if n=0 then 0 else 1:=vK ⋯ ⋯ ⋯ ⋯;rw[f n (kz h)];by_cases e:n=0
 ·rw[iP e,iP e,yI];rfl
 ·rw[iN e,iN e,Int.one_mul]
theorem U6{f:Nat->Nat}:sI (λi=>(f i:Int)) l=(su f l:Nat):=by
 induction l with
 |nil=>rfl
 |cons i l ih=>exact(af ((f i:Int)+ ·) ih).trans (wS ..).symm
theorem qk.cc(P:qk ps L V m s K)(hc:c∈cj s 0 K):d4 uq c (ji ps V (ax m))=(su (xB ps V c) (ax m):Nat):=(P.sc hc).trans ((ym λi _=>Χ P.c3).trans U6)
theorem Ju:xB ps V c i<=V i:=by
 unfold xB;by_cases e:eI ps c i=0
 ·rw[iP e];exact cu _
 ·rw[iN e];exact bf _
theorem Nk(h:d7 1 ps m c):su (xB ps V c) (ax m)=su V (ax m):=xV λi m=>iN (fO (h i (eK m)))
theorem A_(P:qk ps L V m s K)(hV:∀i,1<=V i)(hx:∃c0∈cj s 0 K,d7 1 ps m c0):c∈dQ (λc=>d4 uq c (ji ps V (ax m))) (cj s 0 K)↔c∈cj s 0 K/\d7 1 ps m c:=by
 refine(HP (lp uo.2 P.V)).trans (and_congr_right λhc=>⟨λh i hi=>TR λe=>?_,λh y hy=>?_⟩)
 ·obtain⟨c0,h0,C0⟩:=hx;have h2:=h c0 h0;rw[P.cc h0,P.cc hc,Nk C0] at h2;have k:=Bj (t:=xB ps V c) (t':=V) (λ_ _=>Ju) (mK (mf λ_ _=>Ju) (TN.mp h2)) (dJ hi);rw[show xB ps V c i=0 from iP e] at k;exact gE (hV i) k
 ·rw[P.cc hy,P.cc hc,Nk h];exact pJ (mf λ_ _=>Ju)
theorem ZZ(P:qk ps L V m s K)(hV:∀i,1<=V i)(hx:∃c0∈cj s 0 K,d7 1 ps m c0)(hc:c∈cj s 0 K):c∈HQ s K (ji ps V (ax m))↔zz (Wd false 7 V) 1 ps m s K c:=by
 have e {c} (hc:c∈cj s 0 K) (C:d7 1 ps m c):840*d4 ni c (ji ps V (ax m))=sI (λi=>840*(ni 1*V i)) (ax m)+kX (Wd false 7 V) (ax m) λi=>eI ps c i-1:=by
  rw[P.sc hc,<-O3];refine(ym λi mi=>?_).trans JP;obtain⟨n,e⟩:=agX (C i (eK mi));have h3:=P.c3 (c:=c) (i:=i);rw[e] at h3;show 840*(ni (eI ps c i)*V i)=840*(ni 1*V i)+iY (Wd false 7 V) i (eI ps c i-1);rw[e];rw[wO,QP Ve (lB h3)];exact(N3 (S:=ni) (n:=1) (n+1)).symm
 have le {c c'} (hc:c∈cj s 0 K) (ju:c'∈cj s 0 K) (C:d7 1 ps m c) (C':d7 1 ps m c'):kX (Wd false 7 V) (ax m) (λi=>eI ps c' i-1)<=kX (Wd false 7 V) (ax m) (λi=>eI ps c i-1)↔d4 ni c' (ji ps V (ax m))<=d4 ni c (ji ps V (ax m)):=by
  refine KJ ?_ (ag0 (show(0:Int)<840 by decide));rw[e hc C,e ju C'];exact(Int.add_le_add_iff_left _).symm
 have T {c}:=A_ (c:=c) P hV hx;refine(HP λx mx=>lp uo.1 P.V x (T.mp mx).1).trans ⟨λh=>⟨(T.mp h.1).2,λc' ju C'=>(le hc ju (T.mp h.1).2 C').mpr (h.2 c' (T.mpr ⟨ju,C'⟩))⟩,λh=>⟨T.mpr ⟨hc,h.d7⟩,λc' m=>(le hc (T.mp m).1 h.d7 (T.mp m).2).mp (h.2 c' (T.mp m).1 (T.mp m).2)⟩⟩
end
end
section
variable{b K:Nat}{o c ps:List Nat}{aM:List (List Nat)}{X:LX}{B:Int}{M:Nat->Nat}
section
variable{m:Nat}{x:List Nat}{G:List Nat->List Nat}{os l:List (List Nat)}{T:Bool}
theorem aaI:[false,true].all (λT=>(nj T).all λo=>o.isPerm (ax (cond T 3 2)))=true:=⋯
theorem EB(h:o∈nj T):o.Perm (ax (cond T 3 2)):=List.isPerm_iff.mp (b7 (b7 aaI T (by cases T<;>decide)) o h)
noncomputable def An:List Bool:=[false,true]
theorem Ev{b:Bool}:b∈An:=by cases b<;>decide
theorem W7:An.all (λT=>An.all λa=>An.all λb=>An.all λc=>(nj T).contains (xM (λi=>[a,b,c].getD i false) (ax (cond T 3 2))))=true:=⋯
theorem ab6{p p':Nat->Bool}(h:∀i∈ps,p i=p' i):xM p ps=xM p' ps:=show ps.filter p++ps.filter (λi=> !p i)=ps.filter p'++ps.filter λi=> !p' i from congr (af agV (Cn h)) (Cn λi m=>af not (h i m))
theorem Y3{p:Nat->Bool}:xM p (ax (cond T 3 2))∈nj T:=by
 rw[ab6 (p':=λi=>[p 0,p 1,p 2].getD i false) λi m=>?_]
 ·exact qt (b7 (b7 (b7 (b7 W7 T Ev) (p 0) Ev) (p 1) Ev) (p 2) Ev)
 ·have h3:i<3:=ba (eK m) (by cases T<;>decide);cases i with
  |zero=>rfl
  |succ i=>cases i with
   |zero=>rfl
   |succ i=>cases i with
    |zero=>rfl
    |succ i=>exact absurd h3 (gN (i7 ..))
theorem Xd{g:List Nat}:x∈j6 aM g↔x∈aM\/x=g:=by
 unfold j6;by_cases h:g∈aM
 ·rw[iP h];exact⟨.inl,λk=>k.elim id λe=>e▸h⟩
 ·rw[iN h,K6,F8]
theorem UY:∀{aM:List (List Nat)},x∈os.foldl (λd o=>j6 d (G o)) aM↔x∈aM\/∃o∈os,x=G o:=by
 induction os with
 |nil=>exact⟨.inl,λh=>h.elim id λ⟨_,m,_⟩=>absurd m eX⟩
 |cons o os ih=>exact ih.trans ((or_congr_left Xd).trans (or_assoc.trans (or_congr_right ⟨λh=>h.elim (λe=>⟨o,.head _,e⟩) λ⟨a,m,e⟩=>⟨a,.tail _ m,e⟩,λ⟨a,m,e⟩=>(bw m).elim (λk=>.inl (k▸e)) λm=>.inr ⟨a,m,e⟩⟩)))
theorem Mt:x∈CR G T↔∃o∈nj T,x=G o:=UY.trans (or_iff_right eX)
theorem abl:∀{l:List (List Nat)},∃l',os.foldl (λd o=>j6 d (G o)) (x::l)=x::l':=by
 induction os with
 |nil=>exact⟨_,rfl⟩
 |cons o os ih=>
  intro l;rw[S6];unfold j6;by_cases h:G o∈x::l
  ·rw[iP h];exact ih
  ·rw[iN h];exact ih (l:=l++[G o])
theorem acv:∀{l m:List Nat},AQ l m=true->l.length=m.length->fI m l=false:=by
 intro l;induction l with
 |nil=>exact λ{m} _ e=>by rw[zc.mp e.symm];rfl
 |cons a l ih=>
  intro m h e;cases m with
  |nil=>exact absurd e (q8 _)
  |cons b m=>
   have h:(decide (a<b)||(decide (a=b)&&AQ l m))=true:=h;refine(rfl:_=if b=a then fI m l else decide (b<a)).trans ?_;by_cases k:a=b
   ·rw[dF (gN (aD k.symm)),dT k] at h;rw[iP k.symm];exact ih h (wA e)
   ·rw[dF k,Bool.false_and,yG] at h;rw[iN (gV k)];exact dF (oB (cC h))
end
section
structure e7(X:LX)(B:Int):Prop where
 H:Dq X.κ X.V B
 D:hX (gx X) X.L X.mm X.s
 L1:∀i,1<=X.L i
 L3:∀i,X.L i<=3
 es:X.s=su X.L (ax X.mm)
 s6:X.s<=6
 lo:bK X.κ*X.mm<=X.K
 K1:1<=X.K
 Ks:X.K<=X.s
variable{t t' rk:Nat->Nat}{l:List Nat}{k:Nat}{q:Nat->Nat->Int}{W:Nat->Nat->Int}{S:Nat}{z:Int}
def oT(X:LX):List Nat->Nat->Nat->Nat:=sf (dK X.κ) (bK X.κ) X.V
def gF(X:LX)(M:Nat->Nat)(o:List Nat)(i:Nat):Nat:=if i∈o then s8 (oT X) M (o.length+1) o X.K i else 0
def gv(X:LX)(M:Nat->Nat)(o:List Nat):List Nat:=(ax X.mm).map (gF X M o)
theorem YJ(p:o.Perm l)(G:lS b 6 l K):lS b 6 o K:=⟨by rw[p.length_eq];exact G.lo,G.one,G.hi⟩
theorem G0(p:o.Perm l):su t o=su t l:=(p.map t).sum_nat
theorem xf.congr(p:o.Perm l)(h:∀a∈o,t' a=t a)(R:xf q rk M o K t):xf q rk M l K t' where
 lJ a ha b hb ne h0 eZ:=by
  have ha:=p.mem_iff.mpr ha;have hb:=p.mem_iff.mpr hb;rw[h a ha] at h0⊢;rw[h b hb] at eZ⊢;exact R.lJ a ha b hb ne h0 eZ
 sum:=(G0 p).symm.trans ((xV h).trans R.sum)
 le a ha:=(h a (p.mem_iff.mpr ha)).symm▸R.le a (p.mem_iff.mpr ha)
theorem e7.G(P:e7 X B)(p:o.Perm (ax X.mm)):lS (bK X.κ) 6 o X.K:=YJ p ⟨by rw[cF];exact P.lo,P.K1,aq P.Ks P.s6⟩
theorem AX:0<X.mm:=tC (P:=λX=>0<X.mm) X (eE _) (eE _)
theorem E4(p:o.Perm (ax X.mm)):o≠[]:=λe=>cV 0 (i6 (AX (X:=X)) (cF.symm.trans (p.length_eq.symm.trans (af yD e))))
theorem Hz(p:o.Perm (ax X.mm)):o.Nodup:=p.nodup_iff.mpr u0
theorem xe(p:o.Perm (ax X.mm)):o.length<=3:=aq (aD (p.length_eq.trans cF)) wn
theorem e7.bq(P:e7 X B)(p:o.Perm (ax X.mm)):AM (qK X.κ X.V B) (λi=>o.idxOf i) o (oT X) (bK X.κ) 6:=aec P.H (Hz p) (xe p)
theorem AN(P:e7 X B)(hM:X.K<=su M (ax X.mm))(p:o.Perm (ax X.mm)):xf (qK X.κ X.V B) (λi=>o.idxOf i) M (ax X.mm) X.K (gF X M o):=
 (aa8 (K₀:=X.K) P.H.dec (Hz p) M8 (P.bq p) (i5 _) (.refl o) (λ_=>P.G p) rfl ((G0 p).symm▸hM) λc h n=>absurd h n).congr p λa m=>iP m
theorem lF.congr(h:∀a∈ps,t a=t' a)(O:lF q M ps t):lF q M ps t':=λa ha b hb ne h0 eZ=>by
 rw[<-h a ha] at h0⊢;rw[<-h b hb] at eZ⊢;exact O a ha b hb ne h0 eZ
theorem e7.hM(P:e7 X B):X.K<=su X.L (ax X.mm):=P.es▸P.Ks
theorem e7.bL(P:e7 X B):∀i,bK X.κ<=X.L i:=λi=>aq xG (P.L1 i)
def jy(X:LX):List (List Nat):=CR (gv X X.L) X.t
theorem aeY(P:e7 X B)(hc:c∈cj X.s 0 X.K):(ax X.mm).map (eI (gx X) c)∈jy X↔zz (Wd (dK X.κ) 7 X.V) (bK X.κ) (gx X) X.mm X.s X.K c:=by
 refine KJ ?_ (F_ P.D xG P.H.big (Dt (by decide) P.H.v1) (λi _=>P.bL i) P.lo hc).symm;refine Mt.trans ⟨λ⟨o,m,e⟩=>?_,λO=>?_⟩
 ·exact lF.congr (λa ha=>(F9.mp e a ha).symm) (AN P P.hM (EB m)).lJ.opt
 ·obtain⟨p,Fp⟩:=Z4 P.H.dec O;have m:xM p (ax X.mm)∈nj X.t:=Y3;have pm:=EB m;have R:=AN P P.hM pm;exact⟨_,m,pT (X8 P.H.dec (λa ha b hb=>M8 a (pm.mem_iff.mpr ha) b (pm.mem_iff.mpr hb)) Fp R.lJ (λa _=>Jr P.D) R.le ((Jj P.D (vF hc).1 (vF hc).2.1).trans ((vF hc).2.2.trans R.sum.symm)))⟩
theorem S_(P:e7 X B):∃e l,jy X=e::l/\∀x∈l,fI e x=false:=by
 obtain⟨os,eo⟩:∃os,nj X.t=ax X.mm::os:=tC (P:=λX=> ∃os,nj X.t=ax X.mm::os) X ⟨_,rfl⟩ ⟨_,rfl⟩;have e0:jy X=os.foldl (λd o=>j6 d (gv X X.L o)) [gv X X.L (ax X.mm)]:=by unfold jy CR;rw[eo];rfl
 obtain⟨l',e1⟩:=abl (G:=gv X X.L) (x:=gv X X.L (ax X.mm)) (os:=os) (l:=[]);refine⟨_,l',e0.trans e1,λx m=>?_⟩;obtain⟨o,mo,rfl⟩:=Mt.mp (show x∈jy X by rw[e0,e1];exact .tail _ m);have R:=AN P P.hM (EB mo);have R0:=AN P P.hM (.refl (ax X.mm));exact acv (UL P.H.dec R0.lJ R.lJ.opt R0.le R.le (Rs u0) (λa h=>h) (R.sum.trans R0.sum.symm)) ((bi _).trans (bi _).symm)
theorem Ro(P:e7 X B)(p:o.Perm (ax X.mm)):gv X (λ_=>X.K) o=(ax X.mm).map (oT X o X.K):=by
 have e:ck (oT X o X.K) (λ_=>X.K) o=[]:=Ge.mpr λa m h=>nh (cC h) (aq (DS m) (aD (P.bq p o X.K (.refl o) (E4 p) (P.G p)).sum));refine pT λi m=>(iP (p.mem_iff.mpr m)).trans ?_;show(if ck (oT X o X.K) (λ_=>X.K) o=[] then λi=>if i∈o then oT X o X.K i else X.K else _) i=_;rw[iP e];exact iP (p.mem_iff.mpr m)
theorem Ϥ(R:iT W S z l K):iT W S z l.reverse K:=⟨H4.symm▸R.lo,by rw[H4,((FZ l).filter _).length_eq];exact R.hi,R.le⟩
theorem acd(h:e9 W)(R:iT W S (l8 W S l k) l k)(nd:l.Nodup):vg W S (l8 W S l k) l k= !decide (l.map (λi=>b+fy W S (l8 W S l k) l k i)=l.map λi=>b+fy W S (l8 W S l.reverse k) l.reverse k i):=by
 rw[JF h (Ϥ R),FA,tj,decide_eq_false_iff_not,F9,aeN R nd];exact⟨λ⟨i,m,h⟩ h'=>h (KW (h' i m)),λh=>y8 λno=>h λi m=>af (b+ ·) (y8 λh'=>no ⟨i,m,h'⟩)⟩
theorem abg(P:e7 X B):sW (dK X.κ) (bK X.κ) X.V (ax X.mm) X.K= !decide (gv X (λ_=>X.K) (ax X.mm)=gv X (λ_=>X.K) (ax X.mm).reverse):=by
 rw[Ro P (.refl _),Ro P (FZ _)];have V:o8 (mX X.κ (ax X.mm) X.V X.K true):=⟨P.G (.refl _),P.H.v1,u0,xe (.refl _),E4 (.refl _)⟩;generalize ax X.mm=l at*;have hl:l.reverse.length=l.length:=TK;by_cases e:bK X.κ*l.length=X.K
 ·rw[show oT X l X.K=oT X l.reverse X.K from funext λi=>(iP e).trans (iP (hl.symm▸e)).symm,dT rfl];exact iP e
 ·rw[show oT X l X.K=λi=>bK X.κ+fy (Wd (dK X.κ) X.K X.V) X.K (l8 (Wd (dK X.κ) X.K X.V) X.K l (X.K-bK X.κ*l.length)) l (X.K-bK X.κ*l.length) i from funext λi=>iN e,show oT X l.reverse X.K=λi=>bK X.κ+fy (Wd (dK X.κ) X.K X.V) X.K (l8 (Wd (dK X.κ) X.K X.V) X.K l.reverse (X.K-bK X.κ*l.reverse.length)) l.reverse (X.K-bK X.κ*l.reverse.length) i from funext λi=>iN λk=>e (hl▸k),hl];exact(iN e).trans (acd V.dec (JD (O:=Bt) (Bu P.H.k5 V) V e).1 V.nd)
end
section
variable{i k s:Nat}{W pl:List (List Nat)}
theorem Ha(P:e7 X B)(hM:X.K<=su M (ax X.mm))(p:o.Perm (ax X.mm)):o9 (aI NN (k+4)) X M o=some (lst (gv X M o)):=by
 have H:Br (aI NN (k+3)) ⟨X.mm,nA.getD X.κ "",X.V,M,o⟩ (oT X) (bK X.κ):=⟨λ{l K} s h0 G=>afy P.H.k5 ⟨G,P.H.v1,(Hz p).sublist s,aq s.length_le (xe p),h0⟩,λi m=>eK (p.mem_iff.mp m),aq (xe p) (by decide)⟩;exact(⋯:_=bm (aI NN (k+3)) NN BO [.str (nA.getD X.κ ""),.list (bW X.mm X.V),.list (bW X.mm M),.int X.K,.list (aC o)] []).trans ((X3 H (P.bq p) (E4 p) (P.G p) ((G0 p).symm▸hM) (aq wn (by decide)) (aq (xe p) (by decide))).trans (af (λl=>some (PV.list l)) (jr (g:=λn:Nat=>PV.int n) (f:=gF X M o)).symm))
theorem L_(P:e7 X B)(hi:i<X.mm):JS (aI NN (k+8)) X (gx X i) (d5 (gx X i)) (lR X i) i:=by
 have h6 {x} (h:x<X.s):x<6\/x<6:=.inl (ba h P.s6);have lt:∀x∈d5 (gx X i),x<X.s:=λx m=>P.D.lt hi x (rN.mp m);have h1:=JE (k:=k+3) (nc:=.int X.s) (.set (d5 (gx X i))) (kJ oZ) (λx m=>(h6 (lt x m)).elim id id) (.inr ⟨_,rfl,λx m=>jc (lt x m)⟩);rw[DJ oZ] at h1;exact⟨WI (JE (k:=k+5) (.list _) (P.D.Dg hi) (λx m=>(h6 (P.D.lt hi x m)).elim id id) (.inl rfl)) (P.H.v1 i),z_ (k:=k+7) (aep (k:=k+5) (VW h1 (P.H.v1 i))) (aQ (aD ((bi _).trans cF)) (eN hi (aQ wn (by decide))))⟩
theorem acS(P:e7 X B):Dy (aI NN (k+8)) X:=⟨fO (ba P.K1 P.Ks),P.L1,P.L3,λ_ hi=>L_ P hi⟩
theorem μ:(ax 7).all (λs=>decide (((ax (2^s)).map (i0 s)).Nodup)&&(ax 7).all λk=>decide ((cj s 0 k).Nodup)&&(cj s 0 k).all λc=>((ax (2^s)).map (i0 s)).contains c)=true:=by decide+kernel
theorem ac'(h6:s<=6)(hK:K<=6):((ax (2^s)).map (i0 s)).Nodup/\(cj s 0 K).Nodup/\∀c∈cj s 0 K,c∈(ax (2^s)).map (i0 s):=by
 have h:=aW (b7 μ s (dJ (kz h6)));have g:=aW (b7 h.2 K (dJ (kz hK)));exact⟨cC h.1,cC g.1,λc m=>qt (b7 g.2 c m)⟩
theorem VV(h6:s<=6)(hK:K<=6)(sub:W.Sublist (cj s 0 K))(hw:∀c∈cj s 0 K,c∈W↔mZ pl c∈aM):W.Perm (tL s K pl aM (ax (2^s))):=by
 obtain⟨b1,b2,b3⟩:=ac' h6 hK;rw[show tL s K pl aM (ax (2^s))=((ax (2^s)).map (i0 s)).filter λc=>decide (c.length=K)&&decide (mZ pl c∈aM) from(K4 (p:=λc=>decide (c.length=K)&&decide (mZ pl c∈aM)) (f:=i0 s)).symm];refine(F5 (b2.sublist sub) (b1.filter _)).mpr λc=>?_;rw[oC,mI,decide_eq_true_iff,decide_eq_true_iff];refine⟨λm=>have mc:=sub.mem m;⟨b3 c mc,(sL mc).1,(hw c mc).mp m⟩,λ⟨m,h1,h2⟩=>?_⟩;obtain⟨m,_,rfl⟩:=rg.mp m;exact(hw _ (Bw h1 (TF.filter _) λx m=>⟨cu _,eK (eL m).1⟩)).mpr h2
structure Rv(X:LX)(o:Option PV)(d:List Nat)(out:List (List Nat)):Prop where
 eq:o=some (lZ (d::out))
 iW:(d::out).length<64
 ss:∀c∈d::out,SS c
 perm:(d::out).Perm (tL X.s X.K (lW X X.mm) (jy X) (ax (2^X.s)))
theorem e7.vs(P:e7 X B):qk (gx X) X.L X.V X.mm X.s X.K:=by
 have key:∀q∈ji (gx X) X.V (ax X.mm),∃i,i<X.mm/\q.1=d5 (gx X i):=λq m=>by
  obtain⟨i,hi,rfl⟩:=rg.mp m;exact⟨i,eK hi,rfl⟩
 refine⟨P.D,⟨kz P.s6,P.K1,P.Ks,λq m=>(key q m).elim λi h=>h.2▸oZ,λq m x mx=>(key q m).elim λi h=>P.D.lt h.1 x (rN.mp (h.2▸mx)),λq m=>(key q m).elim λi h=>?_,?_⟩,P.L3⟩
 ·rw[h.2,(DV (P.D.Dg h.1)).length_eq,P.D.len i];exact P.L3 i
 ·refine tC (P:=λX=>(ji (gx X) X.V (ax X.mm)).length=2\/(ji (gx X) X.V (ax X.mm)).length=3) X (.inl rfl) (.inr rfl)
theorem Rn(P:e7 X B){r:Option PV}(sub:W.Sublist (cj X.s 0 X.K))(ne:W≠[])(hW:∀c∈cj X.s 0 X.K,c∈W↔zz (Wd (dK X.κ) 7 X.V) (bK X.κ) (gx X) X.mm X.s X.K c)(T:oG r (λv=>v) W):∃d out,Rv X r d out:=by
 obtain⟨out,e,p⟩:=T;obtain⟨d,o,rfl⟩:∃d o,out=d::o:=Ch λq=>ne (q▸p).symm.eq_nil;exact⟨d,o,e,aQ (aq (aD p.length_eq) sub.length_le) (eN P.vs.V.iW (by decide)),λc m=>have h:=sL (sub.mem (p.mem_iff.mp m));⟨h.2.1,λx mx=>ba (h.2.2 x mx).2 P.s6⟩,p.trans (VV P.s6 (aq P.Ks P.s6) sub λc m=>(hW c m).trans ((aeY P m).symm.trans (iff_of_eq (af (· ∈jy X) (jr (g:=λP:List Nat=>(P.filter λx=>decide (x∈c)).length) (f:=gx X)).symm))))⟩
theorem Δ(P:e7 X B):∃d out,Rv X (yn (aI NN (k+8)) X) d out:=by
 have ne:=z9 P.Ks;by_cases h:X.κ=4
 ·have e1:dK X.κ=false:=by rw[h];rfl
  have e2:bK X.κ=1:=iP h;rw[show yn (aI NN (k+8)) X=_ from iP h];have R:=AN P P.hM (.refl (ax X.mm));have hy:∀i,i<X.mm->gF X X.L (ax X.mm) i<=X.L i:=λi hi=>R.le i (dJ hi);have cv:∃c0∈cj X.s 0 X.K,d7 1 (gx X) X.mm c0:=⟨_,Qk P.D hy R.sum,λi hi=>by
   rw[Jz P.D hi (hy i hi),<-e2];exact Mk xG P.H.big R.lJ.opt (λa _=>P.bL a) (by rw[R.sum,cF];exact P.lo) i (dJ hi)⟩
  exact Rn P (uT.trans uT) (tX (λx m=>lp uo.1 P.vs.V x (eL m).1) (tX (lp uo.2 P.vs.V) ne)) (λc hc=>by rw[e1,e2];exact ZZ P.vs P.H.v1 cv hc) (W9 P.vs.V)
 ·have e2:bK X.κ=0:=iN h;rw[show yn (aI NN (k+8)) X=_ from iN h];exact Rn P uT (tX (lp tW P.vs.V) ne) (λc hc=>by rw[e2];exact ac3 P.vs hc) (afa P.vs.V)
end
end
section
variable{X:LX}{B:Int}{sc:List Int}
structure oX(X:LX):Prop where
 H:Dz X
 V:X.V=Ie X
 L:X.L=xl X (nq X)
 s:X.s=oY X.mm X.L
 le:X.le=cond (k4 X.κ) X.mm 1
 K:X.K=X.le+X.H/10%(X.s-X.le+1)
theorem By:X.lg*X.mm=6/\2<=X.lg/\X.lg<=3:=tC (P:=λX=>X.lg*X.mm=6/\2<=X.lg/\X.lg<=3) X (show 3*2=6/\2<=3/\3<=3 by decide) (show 2*3=6/\2<=2/\2<=3 by decide)
theorem CO{i:Nat}:nq X i<=X.lg:=aq (aD (gj ..)) (Cf _ (ba Nat.two_pos By.2.1))
theorem aeK:su (nq X) (ax X.mm)<=6:=aq (mf λ_ _=>CO) (aD (gz.trans ((af (X.lg* ·) cF).trans By.1)))
structure O7(X:LX)(L:Nat->Nat):Prop where
 lo:∀i,1<=L i
 hi:∀i,L i<=nq X i
theorem adq:O7 X (xl X (nq X)):=by
 unfold xl;cases h:kO X.κ&&decide (5<oY X.mm (nq X)) with
 |false=>exact⟨λi=>cW 1 _,λ_=>bf _⟩
 |true=>
  have e:nq X 0=X.lg:=Bj (t':=λ_=>X.lg) (λ_ _=>CO) (mK (mf λ_ _=>CO) (aq (aD (gz.trans ((af (X.lg* ·) cF).trans By.1))) (cC (aW h).2))) (dJ AX);refine⟨λi=>?_,λi=>?_⟩<;>rw[iP rfl]<;>unfold gA<;>by_cases k:i=0
  ·rw[iP k,e];exact mM By.2.1
  ·rw[iN k];exact cW 1 _
  ·rw[iP k,k];exact kD ..
  ·rw[iN k];exact bf _
theorem oX.len(S:oX X):O7 X X.L:=by rw[S.L];exact adq
theorem oX.mm(S:oX X):X.mm<=X.s:=S.s.symm▸aq (aD ((gz (n:=1) (ps:=ax X.mm)).trans ((y7 _).trans cF)).symm) (mf λi _=>S.len.lo i)
theorem oX.E2(S:oX X):1<=X.le/\X.le<=X.s/\bK X.κ*X.mm<=X.le:=by
 have e:k4 X.κ=decide (X.κ=4):=fv wR;rw[S.le,e];unfold bK;by_cases h:X.κ=4
 ·rw[iP h,dT h];exact⟨AX,S.mm,aD (y7 _)⟩
 ·rw[iN h,dF h];exact⟨bf 1,aq AX S.mm,aq (aD (BY _)) (cu 1)⟩
theorem adL:∃N,∀i,(sc.getD i 0).natAbs<=N:=by
 induction sc with
 |nil=>exact⟨0,λ_=>bf 0⟩
 |cons a l ih=>
  obtain⟨N,h⟩:=ih;refine⟨a.natAbs+N,λi=>?_⟩;cases i with
  |zero=>exact cW ..
  |succ i=>exact aq (h i) (i7 ..)
theorem afC{c:Bool}{v:Nat->Nat}{N:Nat}(h:∀i,v i<=N)(i j:Nat):Wd c 7 v i j<(N*dI c 7:Nat)+1:=by
 unfold Wd;by_cases k:j<7
 ·rw[iP k];exact Int.lt_add_one_of_le (pJ (BZ (h i) (Kc ..)))
 ·rw[iN k];exact lC (TM (agT (fP j) Int.one_pos)) (KV (fP _) (by decide))
theorem ad5(S:oX X):∃B,e7 X B:=by
 obtain⟨N,h⟩:=adL (sc:=X.sc);have hv:∀i,X.V i<=1+N:=λi=>by
  rw[S.V];exact i3 (aq (Kc ..) (by rw[S.H.nu];exact h (i+1))) 1
 have l:=S.E2;have K1:X.le<=X.K:=S.K.symm▸cW ..;exact⟨_,⟨k5 S.H,λi=>by rw[S.V];exact cW 1 _,afC hv⟩,Ϝ (fO (aq l.1 l.2.1)) S.s,S.len.lo,λi=>aq (S.len.hi i) (aq CO By.2.2),S.s,S.s.symm▸aq (mf λi _=>S.len.hi i) aeK,aq l.2.2 K1,aq l.1 K1,by
  rw[S.K];exact aq (i3 (jt (Cf _ (eE _))) _) (aD (iK l.2.1))⟩
def EH(sc:List Int):LX:=⟨sc,(sc.headD 0).natAbs,(sc.headD 0).natAbs%5,(sc.headD 0).natAbs/5%2==1,num sc,λ_=>0,λ_=>0,0,0,0⟩
def zB(sc:List Int):LX:={EH sc with L:=xl (EH sc) (nq (EH sc)),V:=Ie (EH sc)}
def Aq(sc:List Int):LX:={zB sc with s:=oY (zB sc).mm (zB sc).L,le:=cond (k4 (zB sc).κ) (zB sc).mm 1}
def Hv(sc:List Int):LX:={Aq sc with K:=(Aq sc).le+(Aq sc).H/10%((Aq sc).s- (Aq sc).le+1)}
theorem Ol(h:sc.length<=100):oX (Hv sc):=⟨⟨rfl,rfl,by
 show cond ((sc.headD 0).natAbs/5%2==1) 3 2=_;rcases agY ((sc.headD 0).natAbs/5) with e|e
 ·rw[show(Hv sc).H/5%2=0 from e,e];rfl
 ·rw[show(Hv sc).H/5%2=1 from e,e];rfl,rfl,h⟩,rfl,rfl,rfl,rfl,rfl⟩
end
section
variable{X:LX}{B:Int}{q:PV×PV}{O:aK}
def gX(X:LX):List Nat×List Nat:=(gv X (λ_=>X.K) (ax X.mm),gv X (λ_=>X.K) (ax X.mm).reverse)
theorem Xc(S:oX X)(h:O.make "Profile" [.int X.s] []=some (bx,eV X.s [],fG)):a9 O NN aU cr [("script",.pv (.list (cM X.sc)))] ([bl 0,bl 1,bl 2,bl 3]++[bl 4,bl 5,bl 6,bl 7,bl 8,bl 9,bl 10,bl 11,bl 12])=nx (gB X X.L false (m6 X [("made",.a7 bx (eV X.s []) fG)])):=yq (afg S.H) (aF (ZN S.H) (aF aao (aF VN (aF (Ϙ (L:=nq X) S.V) (aF ((Wf (L:=nq X) (cW 1 _)).trans (af (λL=>nx (gB X L false [])) S.L.symm)) (aF (YL (L:=X.L) S.s) (aF (afK (L:=X.L) S.le) (aF (XN (L:=X.L) S.E2.2.1 S.K) (j0.trans (V_ h))))))))))
theorem e7.iW(P:e7 X B):X.K<=su (λ_=>X.K) (ax X.mm):=gz.symm▸TI _ (i6 AX cF.symm)
theorem UP(P:e7 X B):∃q,a9 (aI NN 8) NN aU cr (gB X X.L false (m6 X [("made",.a7 bx (eV X.s []) fG)])) ([bl 13,bl 14]++bl 15::([bl 16,bl 17]++[bl 18,bl 19,bl 20]))=nx (p8 X (jy X) q (gX X) []):=by
 obtain⟨q,e⟩:=aaZ (O:=aI NN 8) (X:=X) (G:=gv X X.L) λx m=>Ha (k:=4) P P.hM (EB m);obtain⟨d,l,e2,h2⟩:=S_ P;have e18:aw (aI NN 8) NN aU cr (sS X (jy X) q []) (bl 18)=nx (sS X (jy X) q []):=by rw[e2];exact WL h2
 have f1:o9 (aI NN 8) X (λ_=>X.K) (AR X.t)=some (lst (gX X).1):=by
  rw[show AR X.t=ax X.mm from tC (P:=λX=>AR X.t=ax X.mm) X rfl rfl];exact Ha (k:=4) P P.iW (.refl _)
 have f2:o9 (aI NN 8) X (λ_=>X.K) (BQ X.t)=some (lst (gX X).2):=by
  rw[show BQ X.t=(ax X.mm).reverse from tC (P:=λX=>BQ X.t=(ax X.mm).reverse) X rfl rfl];exact Ha (k:=4) P P.iW (FZ _)
 exact⟨q,yq X4 (aF (V7 (acS P)) (yq e (aF e18 (ack f1 f2))))⟩
theorem XR(S:oX X)(P:e7 X B)(h6:X.s-1<6):∃q,a9 (aI NN 8) NN aU cr [("script",.pv (.list (cM X.sc)))] (o6.take 21)=nx (p8 X (jy X) q (gX X) []):=by
 obtain⟨q,e⟩:=UP P;have m:=Vl (k:=7) h6;rw[FQ (aq P.K1 P.Ks)] at m;exact⟨q,(af (λl=>a9 (aI NN 8) NN aU cr _ l) (⋯:o6.take 21=_++_)).trans (yq (Xc S m) e)⟩
theorem adV(P:e7 X B):∃σ,a9 (aI NN 8) NN aU cr (oR X (jy X) q (gX X) (sW (dK X.κ) (bK X.κ) X.V (ax X.mm) X.K) []) (o6.drop 22)=some (.ret (.bool true),σ):=by
 obtain⟨u,e⟩:=afG (O:=aI NN 8) (Y:=⟨X,jy X,q,gX X,sW (dK X.κ) (bK X.κ) X.V (ax X.mm) X.K⟩) P.s6 (aq (aD ((bi _).trans cF)) (aq wn (by decide))) λp m=>(rg.mp m).elim λi h=>h.2▸aq (aD (P.D.len i)) (aq (P.L3 i) (by decide));obtain⟨d,out,T⟩:=Δ (k:=0) P;exact⟨_,(af (λl=>a9 (aI NN 8) NN aU cr _ l) (⋯:o6.drop 22=bl 22::([bl 23,bl 24]++[bl 25,bl 26]))).trans (aF (Ww (abg P)) (yq e (aF (UK P.H.k5 T.eq) (rY (Vj T.ss T.iW T.perm)))))⟩
end
section
variable{c:Cx}{F:Fm}{P:St c F}{d:Nat}{A:Am d}{K:Flow->ag->Prop}{E:ac->ag->Prop}{O:aK}
section
variable{R:St c F}{s':ag}{v:ac}{B:am}{e:ao}{h':am}{X:aN->List Str->ar->aH->aZ}{mu:List Str}{σ₁:ar}{rest:List aH}{x:Str}{k:Nat}
structure rT(P:St c F)(s':ag):Prop where
 keep:∀b o,P.x.s.heap.get? b=some o->¬dA b->b≠F.env.locals->s'.heap.get? b=some o
 frame:∀o,P.x.s.heap.get? F.env.locals=some o->(∀vs,o.data≠ .fields vs)->∃sl,s'.heap.get? F.env.locals=some {o with slots:=sl}
 tab:io s'.heap
 x:ci (λ_=>True) P.x.s.gens.size P.x.s s'
theorem rT.ns(K:rT P s'){m:Str->Option ac}(h:P.x.s.heap.Ns F.env.locals m):s'.heap.Ns F.env.locals m:=by
 obtain⟨o,es,ep,e,hd,r⟩:=h;obtain⟨sl,e'⟩:=K.frame o e λvs q=>by rw[hd] at q;injection q
 exact⟨_,es,ep,e',hd,r⟩
theorem rT.env(K:rT P s'){b:ao}{o:Obj}(n:¬dq F.env b)(t:¬dA b)(e:P.x.s.heap.get? b=some o):s'.heap.get? b=some o:=K.keep b o e t λq=>n (.inl q)
noncomputable def rT.pt(K:rT P s'):Pt c where
 s:=s'
 f:=P.x.f
 keep b o h:=K.keep b o (P.x.keep b o h) (λq=>Pt.h0 c q h) λq=>nS (P.o.own.h₀.symm.trans (q▸h))
 tab:=K.tab
 K:=P.x.K
 nt:=P.x.nt
 hs a o h:=K.keep a o (P.x.hs a o h) (P.x.nt a o h) λq=>nS (P.o.own.f.symm.trans (q▸h))
theorem rT.upd(K:rT P s'):kT P K.pt λ_=>False:=by
 have cell:∀{z a o},F.env.cells.lookup z=some a->P.x.s.heap.get? a=some o->s'.heap.get? a=some o:=λ{z a o} n e=>K.keep a o e (F.jg.2 z a n) (F.cl z a n);refine⟨λ_ _ e=>e,λq v _ V=>V.imp (λV=>⟨V.1,V.2.imp λm n=>⟨K.ns n.1,n.2⟩⟩) λV=>⟨V.1,V.2.imp λb n=>⟨n.1,n.2.imp λo e=>⟨cell n.1 e.1,e.2⟩⟩⟩,λz a e=>(P.cR z a e).imp λv h=>h.imp λo h=>⟨cell e h.1,h.2⟩,⟨P.o.ns.imp λ_ n=>K.ns n,⟨P.o.own.f,P.o.own.h₀,P.o.own.hi⟩,P.o.loc,λz e=>⟨(P.o.kQ z e).1,(P.o.kQ z e).2.imp λa h=>⟨h.1,h.2.f,h.2.h₀,h.2.hi⟩⟩⟩,λq v _ h b m=>⟨⟨(P.fresh q v h b m).1.f,(P.fresh q v h b m).1.h₀,(P.fresh q v h b m).1.hi⟩,λo e=>K.env (P.fresh q v h b m).2 (cN (P.fresh q v h b m).1.hi) e⟩⟩
theorem Pc(f:i9 [F.env] (λ_=>False) P.x.s v s' B e)(own:F.env.frame=some F.env.locals)(hb:B.StaysIn h')(u:s'.heap.UpToSlots h'):rT P {s' with heap:=h'} where
 keep b o q t n:=hb b o (f.keep b o q t id λz=>by
  rw[Ih own] at z;exact n (cY z))
 frame o q k:=(f.slots _ o q F.jg.1 id k).elim λsl q'=>(u _ {o with slots:=sl} q' k).imp λUf q2=>q2
 tab:=f.tab.keeps hb
 x:=f.x.trans ((ci.heap s').lower f.x.de (bf _))
theorem X0(S:Sd c d X):∀{pre:List aH} {P:St c F},aS (X F.nm mu) pre P.σ=some (.next,σ₁)->(∀R:St c F,bD P R->R.σ=σ₁->ai (ah pw c.w) A.A (tu rest F.env) K E R.x.s)->ai (ah pw c.w) A.A (tu (pre++rest) F.env) K E P.x.s:=by
 intro pre;induction pre with
 |nil=>exact λ{P} h k=>k P (.refl P) (af ou (ay h))
 |cons st pre ih=>
  intro P h k;refine aj h λq h1 h2=>?_;obtain⟨fl,σ⟩:=q;cases fl with
  |next=>exact FC (S h1 [] _ _ λR a e=>ih (e.symm▸h2) λR' a' e'=>k R' (a.trans a') e')
  |ret p=>nomatch ay h2
  |exc=>nomatch ay h2
end
section
variable{I:Ip}{σ₁:ar}{x:Str}{kc:Nat}{ee:Expr}{st1:aH}{ep tp hp0 yp kp ap pos:Pos}
theorem YT(S:aX c d I)(Mu:hH c O d)(h:raises O I F.nm (bA P.σ) ee=true)(hk:ak F.nm ("TiesException":Str)=some .globalImplicit)(hp:putN F.nm x (.pv (.bool true)) P.σ=some σ₁)(stack:A.A.frames=some [F.env])(own:F.env.frame=some F.env.locals)
(k:∀Q:St c F,Q.σ=σ₁->ci (λ_=>True) P.x.s.gens.size P.x.s Q.x.s->K .next Q.x.s):
  ai (ah pw c.w) A.A (iI (.Try [.Expr ee ep,st1] [.ExceptHandler (some (.Name "TiesException" tp)) none [.Assign [.Name x yp] (.Constant (.bool true) kc kp) ap] hp0] [] [] pos) F.env) K E P.x.s:=by
 refine bE λgG hG=>?_;have z:=MH c.w.params;simp only[mI,beq_iff_eq] at z;obtain⟨n',q,bs,hdct,sn,sub,ab,col,dd,k0,k1,k2,k3,k5,ho⟩:=Ow c.w.params;obtain⟨np,Gk,he⟩:∃np Gk,∃g:Str×List Expr×List fj,ee=.Call (.Name g.1 np) g.2.1 g.2.2 Gk:=aj (MY h) λg h1 _=>(EV h1).elim λnp h=>h.elim λcp e=>⟨np,cp,g,e⟩;obtain⟨g,rfl⟩:=he;refine hG (wpAny_Try_except (FC (yP (PQ S Mu h ⟨stack,own,λe m=>absurd m eX⟩ λv s' B e f=>?_) vZ rfl)));obtain⟨a0,y⟩:=f.Hi;obtain⟨hh,gg,dr,tk,os⟩:=s';rw[f.v];refine wpAny_looks_onW stack own y λh1 y1 u1=>wpAny_landsW y1 λh2 y2 u2=>?_;have K2:=Pc f own y2.1 (u1.trans u2);refine wpAny_handleBy_cons (codeAny_handlers_test (Cb (OM F K2.pt (F.names _ hk) z.2 ?_) (by decide))) (by intro q;injection q);obtain⟨oe,hoe,ahA⟩:=y2.there;refine wpAny_excMatches_sub_self (K2.pt.cT 664 _ ho) hoe ahA (by decide) (codeAny_handlers_suite (wpAny_setFlight_noneW y2.1 y2.2.2.1 y2.2.2.2.at λh3 j1 j2 j3 j4=>?_));have K3:=Pc f own j1 ((u1.trans u2).trans λb o e hn=>⟨o.slots,j4 b o e hn⟩);exact FC (yQ (au (vU (.refl (P.move K3.pt K3.upd)) hp .bool λR a e _=>FB (k R e (K3.x.trans (a.st.e.any.lower K3.x.de (bf _)))))))
end
section
variable{X:LX}{aM:List (List Nat)}{q:PV×PV}{g:List Nat×List Nat}
def tS(i:Nat):aH:=aJ (sB 0 (bl 21)) i
theorem Yz:bl 21=.Try [.Expr (sE (tS 0)) ⟨838,8,838,58⟩,tS 1] [.ExceptHandler (some (.Name "TiesException" ⟨840,11,840,24⟩)) none [.Assign [.Name "tied" ⟨841,8,841,12⟩] (.Constant (.bool true) 0 ⟨841,15,841,19⟩) ⟨841,8,841,19⟩] ⟨840,4,841,19⟩] [] [] ⟨837,4,841,19⟩:=⋯
def C3(X:LX):List PV:=[.str (nA.getD X.κ ""),.list (bW X.mm X.V),.int X.K]
theorem Yr(h:O.nW "compute" (C3 X) [("tiesallowed",.bool false)]=true):raises O (ip 999999 O) aU (bA (p8 X aM q g [])) (sE (tS 0))=true:=
 (tC X ⋯ ⋯:raises O (ip 999999 O) aU (bA (p8 X aM q g [])) (sE (tS 0))=O.nW "compute" (C3 X) [("tiesallowed",.bool false)]).trans h
theorem Y9{p:PV}(h:O.fn "compute" (C3 X) [("tiesallowed",.bool false)]=some p):a9 O NN aU cr (p8 X aM q g []) [.Expr (sE (tS 0)) ⟨838,8,838,58⟩,tS 1]=nx (oR X aM q g false []):=
 aF (σ₁:=p8 X aM q g []) ((show aw O NN aU cr (p8 X aM q g []) (.Expr (sE (tS 0)) ⟨838,8,838,58⟩)=(O.fn "compute" (C3 X) [("tiesallowed",.bool false)]).map λ_=>(.next,p8 X aM q g []) from tC X ⋯ ⋯).trans (af (eP _) h)) ⋯
structure CW(c:Cx)(s s':ag):Prop where
 at_:∃y:Pt c,y.s=s'
 x:ci (λ_=>True) s.gens.size s s'
theorem YR{B:Int}{A:Am 96}(S:oX X)(Pl:e7 X B)(e1:F.nm=aU)(e2:P.σ=([("script",.pv (.list (cM X.sc)))]:ar))(stack:A.A.frames=some [F.env])(own:F.env.frame=some F.env.locals):ai (ah pw c.w) A.A (tu o6 F.env) (λfl s'=>fl=.ret (.bool true)/\CW c P.x.s s') No P.x.s:=by
 obtain⟨q,pre⟩:=XR S Pl (kz (KO Pl.s6 1));have sd:Sd c 96 (aw (aI NN 8) NN):=IJ (Dx 8).1 (Dx 8).2 NN;rw[show o6=o6.take 21++(bl 21::o6.drop 22) by rfl'];refine X0 (mu:=cr) sd (by rw[e1,e2];exact pre) λR a er=>FC ?_;have post:∀Q:St c F,Q.σ=oR X (jy X) q (gX X) (sW (dK X.κ) (bK X.κ) X.V (ax X.mm) X.K) []->ci (λ_=>True) P.x.s.gens.size P.x.s Q.x.s->ai (ah pw c.w) A.A (tu (o6.drop 22) F.env) (λfl s'=>fl=.ret (.bool true)/\CW c P.x.s s') No Q.x.s:=λQ eq x=>by
  obtain⟨σ,e⟩:=adV (q:=q) Pl;have z:Ex A Q (tu (o6.drop 22) F.env) (.ret (.bool true),σ):=vL (mu:=cr) sd (by rw[e1,eq];exact e);exact z [] _ _ λy v l r=>⟨lH (m:=λv=>Flow.ret v=.ret (.bool true)) r rfl,⟨y,rfl⟩,x.trans (l.e.any.lower x.de (bf _))⟩
 have V:o8 (mX X.κ (ax X.mm) X.V X.K false):=⟨Pl.G (.refl _),Pl.H.v1,u0,xe (.refl _),E4 (.refl _)⟩;have Mu:hH c (aI NN 8) 96:=(Dx 8).2.mono (show 11*8<=96 by decide);have T:=aes (k:=5) Pl.H.k5 V;rw[Yz];cases ht:sW (dK X.κ) (bK X.κ) X.V (ax X.mm) X.K with
 |true=>exact YT (Nv (Dx 8).1 999999) Mu (by rw[e1,er];exact Yr (T.yes ht).2) (by rw[e1];rfl') (show putN F.nm "tied" (.pv (.bool true)) R.σ=some (oR X (jy X) q (gX X) true []) by rw[e1,er];rfl') stack own λQ e x=>post Q (by rw[e,ht]) (a.st.e.any.trans (x.lower a.st.e.de (bf _)))
 |false=>
  obtain⟨p,hp⟩:=T.no ht;have z:Ex A R (tu [.Expr (sE (tS 0)) ⟨838,8,838,58⟩,tS 1] F.env) (.next,oR X (jy X) q (gX X) false []):=vL (mu:=cr) sd (by rw[e1,er];exact Y9 hp);exact wpAny_Try_except (z [] _ _ λQ a2 e=>FB (post Q (by rw[e,ht]) (a.st.e.any.trans (a2.st.e.any.lower a.st.e.de (bf _)))))
end
end
section
variable{w:cO}{h:am}{sc:List Int}{s s':ag}{a b:ao}{o:Obj}
noncomputable def Bv:List ao:=[25,32,40]
theorem Jd:dA b↔b∈Bv:=⟨λh=>h.elim (λe=>e▸ .head _) λh=>h.elim (λe=>e▸ .tail _ (.head _)) λe=>e▸ .tail _ (.tail _ (.head _)),λh=>(bw h).imp id λh=>(bw h).imp id cY⟩
def ϝ(c P:ao):Prop:=(c=29/\P=25)\/(c=36/\P=32)\/(c=44/\P=40)
theorem MU(Y:uE w h):io h:=by
 rintro c P (⟨rfl,rfl⟩|⟨rfl,rfl⟩|⟨rfl,rfl⟩)
 ·exact⟨#[],⟨_,_,_,_,_,_,_,_,_,bQ,Y.1 29 _ rfl,rfl,rfl,rfl,rfl,rfl,rfl,Y.2 25 bQ rfl,rfl,trivial,by decide⟩,⟨⟨_,_,Y.1 29 _ rfl,rfl,rfl,rfl⟩,Y.2 25 bQ rfl⟩,λpos x e=>nS e⟩
 ·exact⟨#[],⟨_,_,_,_,_,_,_,_,_,bQ,Y.1 36 _ rfl,rfl,rfl,rfl,rfl,rfl,rfl,Y.2 32 bQ rfl,rfl,trivial,by decide⟩,⟨⟨_,_,Y.1 36 _ rfl,rfl,rfl,rfl⟩,Y.2 32 bQ rfl⟩,λpos x e=>nS e⟩
 ·exact⟨#[],⟨_,_,_,_,_,_,_,_,_,bQ,Y.1 44 _ rfl,rfl,rfl,rfl,rfl,rfl,rfl,Y.2 40 bQ rfl,rfl,trivial,by decide⟩,⟨⟨_,_,Y.1 44 _ rfl,rfl,rfl,rfl⟩,Y.2 40 bQ rfl⟩,λpos x e=>nS e⟩
theorem Me(Y:uE w h)(t:dA b):h.get? b=some bQ:=t.elim (λe=>e▸Y.2 25 bQ rfl) λt=>t.elim (λe=>e▸Y.2 32 bQ rfl) λe=>e▸Y.2 40 bQ rfl
theorem Q9(e:(KL w.params).lookup b=some o):¬dA b:=λt=>by
 have z:(KL w.params).lookup b=none:=t.elim (λe=>e▸(⋯:(KL w.params).lookup 25=none)) λt=>t.elim (λe=>e▸(⋯:(KL w.params).lookup 32=none)) λe=>e▸(⋯:(KL w.params).lookup 40=none);exact nS (z.symm.trans e)
theorem GV(e:h.get? a=some o)(n:¬dA a):(hideAll h Bv).get? a=some o:=hideAll_get _ e λm=>n (Jd.mpr m)
theorem Hr{m:Str->Option ac}(n:h.Ns a m)(k:¬dA a):(hideAll h Bv).Ns a m:=by
 obtain⟨o,es,ep,e,r⟩:=n;exact⟨o,es,ep,GV e k,r⟩
theorem H9(h:Bv.contains a=false):¬dA a:=λt=>dy (h.symm.trans (kx.mpr (Jd.mp t)))
structure xY(w:cO)(s:ag):Prop where
 Y:uE w s.heap
 g:∃mg,s.heap.Ns mD mg
 b:∃mb,s.heap.Ns uF mb/\∀x:Str,x≠ "__name__"->mb x=bootBuiltins x
 nl:s.heap.NoLimit
def xY.cx(B:xY w s):Cx where
 w:=w
 h₀:=hideAll s.heap Bv
 K a o e:=GV (B.Y.1 a o e) (Q9 e)
 g:=B.g.imp λ_ n=>Hr n (H9 ⋯)
 b:=B.b.imp λ_ n=>⟨Hr n.1 (H9 ⋯),n.2⟩
 nolimit:=by
  obtain⟨mc,n,q⟩:=B.nl;exact⟨mc,Hr n (H9 ⋯),q⟩
 jg a t:=hideAll_none _ (Jd.mp t)
def xY.pt(B:xY w s):Pt B.cx where
 s:=s
 f a:=(KL w.params).lookup a
 keep _ _ e:=of_hideAll _ e
 tab:=MU B.Y
 K _ _ e:=e
 nt _ _ e:=Q9 e
 hs a o e:=B.Y.1 a o e
theorem Z0{vs:List ac}{n:Nat}(Y:uE w h)(e:h.get? b=some (bu vs n)):¬dA b:=λt=>nomatch (af uQ (ay ((Me Y t).symm.trans e)):oh=iE "list")
theorem abS(B:xY w s)(T:CW B.cx s s'):OldK s.heap s'.heap:=by
 obtain⟨y,rfl⟩:=T.at_;have tab:∀{c P:ao},ϝ c P->dA P->∀o,s.heap.get? P=some o->asItWas s.heap y.s.heap P o/\∃o',y.s.heap.get? P=some o':=λ{c P} q t o e=>by
  obtain⟨ps,i1,i2,_⟩:=MU B.Y c P q;obtain⟨qs,j1,j2,_⟩:=y.tab c P q;obtain rfl:=ay ((Me B.Y t).symm.trans e);exact⟨.inr (.inl ⟨i2.isCodeTable,rfl,#[],qs,rfl,by rw[j2.2,Array.empty_append];rfl⟩),_,j2.2⟩
 have all:∀b o,s.heap.get? b=some o->asItWas s.heap y.s.heap b o/\∃o',y.s.heap.get? b=some o':=λb o e=>by
  by_cases t:dA b
  ·have t':=t;rcases t with rfl|rfl|rfl
   ·exact tab (c:=29) (.inl ⟨rfl,rfl⟩) t' o e
   ·exact tab (c:=36) (.inr (.inl ⟨rfl,rfl⟩)) t' o e
   ·exact tab (c:=44) (.inr (.inr ⟨rfl,rfl⟩)) t' o e
  ·have k:=y.keep b o (GV e t);exact⟨.inl k,o,k⟩
 exact⟨λb o e=>(all b o e).1,λb o e=>(all b o e).2⟩
theorem WC{fa:ao}{pm cd doc:ac}{vs:List ac}(B:xY w s)(hz:sc.length<=63)(hb:s.heap.get? b=some (bu vs 0))(hv:∀f:Fz,aR B.cx f vs (cM sc))(ho:s.heap.get? fa=some o)(hd:o.data=.func (Calls.docDef nQ.name nQ.params nQ.body nQ.scope pm cd doc))(w0:s.heap.CodeRec cd nQ.name):
  ai (ah pw w) callerA (Sm (.ref fa) [.ref b]) (λv s'=>v=.bool true/\CW B.cx s s') No s:=by
 have hA:jE 97 callerA:=⟨rfl,by decide+kernel,by decide+kernel⟩;obtain⟨Bd,Pl⟩:=ad5 (Ol (sc:=sc) (aq hz (by decide)));have S:=Ol (sc:=sc) (aq hz (by decide));have UH:HI nQ.scope=true:=⋯;refine qY (codeAny_call_function (aQ (cW _ _) hA.depth) ho hd ⋯ (DM UH).2 rfl w0 (Jf (ds:=[]) (o:=none) (binds:=[("script",.ref b)]) ⋯ (λ_ _ _ _ q=>au q) rfl ⋯ _ _ _ _ ?_));have nd:∀{α:Type} {x:α},[x].Nodup:=nL ⟨eX,wJ⟩;refine H7 (x:=B.pt.add b _ hb (Z0 B.Y hb)) (DM UH).1 nd (λx m=>cY m▸ .inl ⋯) (λg=>absurd ((⋯:pA nQ.scope.names=false).symm.trans g) dy) λF y e=>⟨B.nl.keeps e.kp,codeAny_func ?_⟩;obtain⟨P,rfl,e2,_⟩:=HM (U:=λ_=>[]) e (σ:=[("script",.pv (.list (cM sc)))]) nd (λz av q=>d6 q (λe q=>by
  obtain rfl:=ay q;exact⟨.ref b,e▸ .head _,.list pk (hv _) (aq (aD (bi _)) (aq hz (by decide))),rfl⟩) λ_ q=>nS q) (λz b m=>mN m) λ_ _ _ _ m=>mN m
 exact cQ (YR (A:=(⟨callerA,hA⟩:Am 97).deeper F.env) S Pl (e.nm.trans ⋯) e2 rfl e.fr) (λfl s2 z=>by
  obtain⟨rfl,T⟩:=z;exact⟨rfl,T.at_,e.le.e.n8.trans (T.x.lower e.le.e.de (bf _))⟩) λ_ _ z=>z.elim
end
section
variable{w:cO}{h:am}{sc:List Int}{c:Cx}{f:Fz}{vs:List ac}
noncomputable def acw(r:Option WData):Bool:=match(match(match r with
  |some (.bool b)=>some (.bool (!b))
  |_=>none:Option WData) with
 |some (.bool false)=>some (.bool false)
 |some (.bool true)=>some (.bool true)
 |_=>none:Option WData) with
 |some (.bool true)=>true
 |_=>false
theorem Ψ{xs:List WData}(q:ef.pre.holds ef.records {args:=[.list xs]}=true):xs.length<=63:=by
 rw[show ef.pre.holds ef.records {args:=[.list xs]}=acw (some (.bool (decide ((63:Int)<(xs.length:Int))))) by rfl'] at q;refine cZ λz=>?_;rw[dT (show(63:Int)<(xs.length:Int) from jc z)] at q;exact ff q
theorem V9:∀{sc:List Int} {vs:List ac},WellAll w.params h vs (sc.map WData.int)->aR c f vs (cM sc):=by
 intro sc;induction sc with
 |nil=>exact λ{vs} W=>by cases W;exact .nil
 |cons i sc ih=>
   intro vs W;cases W with
   |cons a r=>
    cases a;exact .cons .int (ih r)
theorem walk:WalkO qv tT (λ_ _=>True) uE ef.toRowW nQ [] λf vs=>Sm f vs:=by
 intro w cX bI mg mb G Y a o pm cd doc dV kV ho hd w0 UI hmg UJ args vals as ahB ahN hr ahC ahO;obtain⟨h1,h2⟩:=pre_splitW ahB;obtain⟨dd,rest,rfl,k1,k2⟩:=hasAllW_cons h1;obtain rfl:=hasAllW_nil k2;obtain⟨xs,rfl,k3⟩:=hasW_list k1;obtain⟨sc,rfl⟩:=items_int k3;have hz:=Ψ h2;rw[bi] at hz;cases ahC with|cons q1 q2=>
 cases q2;cases q1 with| @list b vs _ hb hv=>
 have e1:dV=.none:=by
  rcases UI.pos with⟨_,q⟩|⟨q,_⟩
  ·exact q
  ·exact absurd (⋯:nQ.params.defaults=[]) q
 have e2:kV=.none:=by
  rcases UI.kw with⟨_,q⟩|⟨q,_⟩
  ·exact q
  ·exact absurd rfl q
 subst e1 e2;refine cQ (WC ⟨Y,⟨_,G.T.g⟩,⟨_,G.T.b,G.T.builtins⟩,G.T.nolimit⟩ hz hb (λf=>V9 hv) ho hd w0) (λv s' z=>?_) λ_ _ z=>z.elim;obtain⟨rfl,T⟩:=z;refine⟨.inl ⟨_,.bool true,[],rfl,λ_=>rfl,.bool true,⋯,λ_=>⟨wJ,λa m=>absurd m eX⟩⟩,abS _ T,T.x.os,λy m=>?_⟩;obtain⟨i,hi⟩:=Array.getElem?_of_mem m;exact T.x.bare (λi x _ e=>by rw[UJ] at e;injection e) i y (by rw[UJ];exact cu _) hi
end
theorem ae9(l:OpenLaw)(h0:(l.row.wellSaid)=true)(h1:(decide (l.foot<=(wx l.prog).length))=true)(h2:(l.footing.all footLine)=true)(h3:(noClassBlock l.prog l.footing)=true)(h4:(l.most.all (λn=>decide (63<=n)))=true)(h5:(l.bound.all (λn=>decide (2^63<=n)))=true)(h6:(K7 {strict:=true,foot:=some l.bound',writes:=l.writes,may:=l.may} l.footing)=true)(h7:(defStands l.about l.above)=true)(h8:(l.namesIt)=true)(h9:((["type","isinstance","issubclass","getattr","hasattr"]:List Str).all (λn=>l.about !=[n]))=true)(CD:(l.bound'.all (λn=> !Cp n||l.about==[n]|| !l.reads n))=true)(CE:((!l.writes||(l.prog.main.body.flatMap K8).all λn=> !l.reads n))=true)(CF:((l.prog.main.body.flatMap K8).all (λn=> !l.reads n||(drawsOf n l.prog.main.body).all λmn=>mn.2 !=("attrgetter":Str)&&mn.2 !=("methodcaller":Str)))=true)(LS:(wT l.prog l.footing (λsc n=>(!(["type","isinstance","issubclass","getattr","hasattr"]:List Str).contains n||sc.names.lookup n==some .globalImplicit)&&
  (l.may !=some n||sc.kind==.module||sc.names.lookup n==some .globalImplicit)))=true)(h14:(l.own.contains l.name)=true)(h15:(l.own.eraseDups.length==l.own.length)=true)(h16:(l.own.all (λn=> !Cp n))=true)(h17:(wT l.prog l.above (λ_ n=> !l.own.contains n))=true)(h18:(wT l.prog l.footing λsc n=>sc.kind==.module||sc.names.lookup n !=some .globalExplicit)=true):l.wellSaid=true:=(dE (dE (dE (dE (dE (dE (dE (dE (dE (dE (dE (dE (dE (dE (dE (dE (dE (dE h0 h1) h2) h3) h4) h5) h6) h7) h8) h9) CD) CE) CF) LS) h14) h15) h16) h17) h18)
theorem afk(r:OpenRow)(h0:(r.partSaid)=true)(h1:(r.prog.boundNames.contains r.name)=true)(h2:(!startupNames.contains r.name)=true):r.wellSaid=true:=(dE (dE h0 h1) h2)
theorem ω(r:OpenRow)(h0:(looksOpen r.prog)=true)(h1:(r.loose.isEmpty)=true)(h2:(r.makers.isEmpty)=true)(h3:((r.records.isEmpty||r.raises.all λct=>ct.1 !=.builtin "AttributeError" &&ct.1 !=.builtin "TypeError"))=true)(h4:((r.raises.all λct=>match ct.1 with|.builtin n=> !r.prog.boundNames.contains (dw n)&& !ofTheWorld.contains n|.own _=>true))=true)(h5:(decide (r.records.map (·.1)).Nodup)=true)(h6:((r.records.all λx=> !x.1.opensWith "__" && !Cp x.1&&r.prog.boundNames.contains x.1&&x.2.all λf=> !f.1.opensWith "__"))=true)(h7:(r.toRowW.solid)=true)(h8:(r.pre.litsOk)=true)(h9:(r.post.litsOk)=true)(CD:(r.raises.all (·.2.litsOk))=true)(CE:(r.mutates.all (λi=>match r.args[i]? with
  |some sh=> !sh.arms.any WShape.isObj
  |none=>false))=true)(CF:(r.within.all (λi=>decide (i<r.args.length)))=true)(LS:(r.same.all (λi=>decide (i<r.args.length)))=true):r.partSaid=true:=(dE (dE (dE (dE (dE (dE (dE (dE (dE (dE (dE (dE (dE h0 h1) h2) h3) h4) h5) h6) h7) h8) h9) CD) CE) CF) LS)
theorem Zv(p:Program)(h0:(sreFenced p.main)=true)(h1:(((K9 p.main.body).isEmpty||lookedIntoSs (K9 p.main.body) p.main.body))=true)(h2:(namesResolve p)=true)(h3:(p.boundNames.all (λn=> !worldNames.contains n))=true)(h4:(K7 {strict:= !(yw p.main.body).all cThrough.contains,foot:=none,bare:=(["vars","dir","locals"]:List Str).filter (readsOut p p.main.body)} p.main.body)=true)(h5:(wT p p.main.body λ_ n=>attrL n)=true):looksOpen p=true:=(dE (dE (dE (dE (dE h0 h1) h2) h3) h4) h5)
section
set_option maxHeartbeats 0
theorem sl0:(sreFenced pw.main)=true:=⋯
end
section
set_option maxHeartbeats 0
theorem ZA:(((K9 pw.main.body).isEmpty||lookedIntoSs (K9 pw.main.body) pw.main.body))=true:=⋯
end
section
set_option maxHeartbeats 0
theorem Y6:(namesResolve pw)=true:=⋯
end
section
set_option maxHeartbeats 0
theorem XG:(pw.boundNames.all (λn=> !worldNames.contains n))=true:=⋯
end
section
set_option maxHeartbeats 0
theorem Xv:(K7 {strict:= !(yw pw.main.body).all cThrough.contains,foot:=none,bare:=(["vars","dir","locals"]:List Str).filter (readsOut pw pw.main.body)} pw.main.body)=true:=⋯
end
section
set_option maxHeartbeats 0
theorem Vr:(wT pw pw.main.body λ_ n=>attrL n)=true:=⋯
end
section
set_option maxHeartbeats 0
noncomputable abbrev ahD:OpenLaw:=La
theorem sr1:(ef.raises.all λct=>match ct.1 with|.builtin n=> !ef.prog.boundNames.contains (dw n)&& !ofTheWorld.contains n|.own _=>true)=true:=⋯
theorem sr2:(ef.records.isEmpty||ef.raises.all λct=>ct.1 !=.builtin "AttributeError" &&ct.1 !=.builtin "TypeError")=true:=⋯
theorem YA:decide (ef.records.map (·.1)).Nodup=true:=⋯
theorem UX:(ef.records.all λx=> !x.1.opensWith "__" && !Cp x.1&&ef.prog.boundNames.contains x.1&&x.2.all λf=> !f.1.opensWith "__")=true:=⋯
theorem Wx:ef.toRowW.solid=true:=⋯
theorem sr6:ef.pre.litsOk=true:=⋯
theorem sr7:ef.post.litsOk=true:=⋯
theorem ϐ:(ef.mutates.all (λi=>match ef.args[i]? with
  |some sh=> !sh.arms.any WShape.isObj
  |none=>false))=true:=⋯
theorem abb:looksOpen ef.prog=true:=Zv pw sl0 ZA Y6 XG Xv Vr
theorem ν:ef.partSaid=true:=ω ef abb ⋯ ⋯ sr2 sr1 YA UX Wx sr6 sr7 ⋯ ϐ ⋯ ⋯
theorem VH:ef.wellSaid=true:=afk ef ν ⋯ ⋯
theorem ahE:ef.toRowW.promised:=⟨[.list []],by decide+kernel,by decide+kernel⟩
end
section
set_option maxHeartbeats 0
noncomputable abbrev dg:OpenLaw:=La
theorem ZE:decide (dg.foot<=(wx dg.prog).length)=true:=⋯
theorem ζ:dg.footing.all footLine=true:=⋯
theorem sw3:noClassBlock dg.prog dg.footing=true:=⋯
theorem ϑ:dg.most.all (λn=>decide (63<=n))=true:=⋯
theorem sw5:dg.bound.all (λn=>decide (2^63<=n))=true:=⋯
theorem sw6:K7 {strict:=true,foot:=some dg.bound',writes:=dg.writes,may:=dg.may} dg.footing=true:=⋯
theorem sw7:defStands dg.about dg.above=true:=⋯
theorem sw8:dg.namesIt=true:=⋯
theorem Μ:(["type","isinstance","issubclass","getattr","hasattr"]:List Str).all (λn=>dg.about !=[n])=true:=⋯
theorem Zy:dg.bound'.all (λn=> !Cp n||dg.about==[n]|| !dg.reads n)=true:=⋯
theorem afP:(!dg.writes||(dg.prog.main.body.flatMap K8).all λn=> !dg.reads n)=true:=⋯
theorem abQ:(dg.prog.main.body.flatMap K8).all (λn=> !dg.reads n||(drawsOf n dg.prog.main.body).all λmn=>mn.2 !=("attrgetter":Str)&&mn.2 !=("methodcaller":Str))=true:=⋯
theorem aaw:wT dg.prog dg.footing (λsc n=>(!(["type","isinstance","issubclass","getattr","hasattr"]:List Str).contains n||sc.names.lookup n==some .globalImplicit)&&
  (dg.may !=some n||sc.kind==.module||sc.names.lookup n==some .globalImplicit))=true:=⋯
theorem VX:dg.own.contains dg.name=true:=⋯
theorem ϣ:(dg.own.eraseDups.length==dg.own.length)=true:=⋯
theorem Vw:dg.own.all (λn=> !Cp n)=true:=⋯
theorem aeW:wT dg.prog dg.above (λ_ n=> !dg.own.contains n)=true:=⋯
theorem adY:(wT dg.prog dg.footing λsc n=>sc.kind==.module||sc.names.lookup n !=some .globalExplicit)=true:=⋯
end
theorem ahG:La.wellSaid=true:=ae9 dg VH ZE ζ sw3 ϑ sw5 sw6 sw7 sw8 Μ Zy afP abQ aaw VX ϣ Vw aeW adY
end Mine
theorem PySem.Challenge.cw_jm0010_01_holds : PySem.Challenge.rw_jm0010_01.Holds :=
 holds_law Mine.ahG fun h => Mine.ahF h Mine.ahE Mine.walk
