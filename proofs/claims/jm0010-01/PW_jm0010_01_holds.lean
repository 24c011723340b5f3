import PyProof.Rows.All
import Wide.All
import OpenK.AllK
import Wide.FinOn
import KE.KSortAsk
import KE.KSortKey
import KE.KIsAll
import PyProof.ExcBaseAll.Exception
import PyProof.Rows.SetFrom
import PySem.Challenge.RW_jm0010_01
set_option Elab.async false
set_option linter.unusedVariables false
set_option genSizeOf false
set_option genInjectivity false
set_option maxRecDepth 100000
set_option tactic.hygienic false
open PySem PySem.W PyProof.Rows PySem.SeqAt
local macro_rules |`(tactic|rfl')=>`(tactic|kernel_rfl)
local macro_rules |`(⋯)=>`(by kernel_rfl)
open And renaming intro->FH
open _root_.Array renaming getElem?_eq_getElem->tn,toList_inj->zr,length_toList->FB,getElem?_eq_none->Ki,getElem?_push->KV,size->S9,toList_map->Ts,getElem?_toList->agc,toList_filterMap->agn,getElem?_push_size->agH,getElem?_eq_some_iff->ag'
open Bool renaming false_ne_true->dy,and_eq_true->mK,or_eq_false_iff->rx,not_eq_true'->tu,false_eq_true->yW,or_false->CA,and_false->FJ,eq_iff_iff->FK,and_true->Kr,or_eq_true_iff->Ln,and_eq_true_iff->T9
open Classical renaming byContradiction->zj
open Decidable renaming byContradiction->agd
open Eq renaming mpr->mF,trans->y5
open ForInStep renaming yield->uU
open Function renaming comp_apply->agP
open HAppend renaming hAppend->ag3
open Iff renaming trans->KW
open Int renaming natCast_nonneg->fP,le_trans->ic,lt_of_lt_of_le->lG,lt_of_le_of_lt->mH,le_of_lt->mJ,add_assoc->mQ,le_of_eq->oF,le_refl->tB,add_zero->uS,add_comm->u7,ofNat_lt->u9,ofNat_inj->w3,natCast_add->w6,lt_trans->yK,zero_mul->yS,not_le->zg,le_antisymm->zh,fmod->zm,natCast_pos->zt,lt_irrefl->CD,fdiv->CH,fdiv_eq_ediv_of_nonneg->Fw,add_mul->Ga,zero_add->Gb,ofNat_sub->Ge,add_le_add->Gg,add_right_comm->Gh,natAbs_of_nonneg->Kl,fmod_eq_emod_of_nonneg->Km,mul_one->Kp,sub_zero->Kt,toNat_natCast->KO,sub_add_cancel->KX,add_nonneg->K8,mul_add->La,toNat_le->Lo,toNat_of_nonneg->SK,ne_of_gt->TD,max_eq_right->TO,max_eq_left->TP,lt_asymm->TQ,mul_zero->TX,neg_neg_of_pos->T3,ofNat_le->T4,natCast_mul->T5,lt_iff_le_and_ne->Ue,mul_neg_of_neg_of_pos->agM,add_pos_of_nonneg_of_pos->ag1,mul_le_mul_left->ag8
open Int.ofNat renaming inj->FW
open _root_.List renaming range->ax,length_map->bi,length_range->cF,length_append->da,not_mem_nil->eX,mem_append_right->fE,append_nil->gO,range'->gW,size_toArray->i4,map_map->jt,getElem?_eq_getElem->jM,mem_cons->jO,replicate->kt,append_assoc->kx,contains_iff_mem->kz,map_append->mR,getElem?_map->oy,map_cons->oB,mem_filter->oE,map_congr_left->pV,filter_append->pW,mapM_cons->qY,mem_map_of_mem->qZ,getElem?_toArray->re,length_filter_le->rm,mem_map->rn,mem_append_left->tw,getD_eq_getElem?_getD->tA,filter_cons_of_pos->tD,filter_sublist->u0,take_nil->u5,filter_cons_of_neg->u8,nodup_range->vc,any_eq_false->vd,length_cons->wL,forIn_cons->wP,nodup_nil->wT,nodup_append->w8,sum->yJ,range_succ_eq_map->yL,length->yO,range_eq_range'->yQ,forIn_nil->yU,getElem?_eq_none->zc,take_of_length_le->zk,length_eq_zero_iff->zn,getElem?_eq_some_iff->zq,drop_eq_getElem_cons->Cg,filterMap_cons->Ch,lookup->Ci,length_nil->Cn,exists_cons_of_ne_nil->CB,ne_nil_of_mem->CC,range_succ->CE,filter_nil->CF,filter_congr->CG,lookup_cons->FF,drop_nil->FR,length_take->FS,length_drop->FT,reverse_perm->Gc,perm_ext_iff_of_nodup->Gf,mem_singleton->Gi,map_inj_left->Gj,pairwise_cons->Gk,mem_flatMap->Gm,filter_eq_self->Go,filter_eq_nil_iff->Gp,pairwise_append->Gq,all_cons->Ko,filterMap_cons_some->Kz,map_id'->KS,all_eq_true->KY,flatMap_cons->K0,length_range'->K4,nil_append->K6,mem_range->Lc,mem_of_mem_take->Ld,filter_map->Lf,mem_append->Lh,any_eq_true->Lq,cons_ne_nil->SF,all_map->SL,take_sublist->SM,getElem_range->SN,getElem_mem->S7,forIn_toArray->Td,nil_sublist->Tk,take_length->Tl,foldl_cons->Tm,take_append_drop->TC,pairwise_singleton->TK,mem_of_getElem?->TL,pairwise_map->TM,pairwise_iff_getElem->TN,pairwise_lt_range->TV,length_reverse->T1,mem_reverse->T2,map_eq_nil_iff->Ua,not_lt->Uc,mem_range'_1->Ud,contains_cons->agh,zip_nil_right->agi,toList_toArray->agz,getElem?_range->agO,getElem?_concat_length->agR,eq_nil_or_concat->agT,concat_eq_append->agU,perm_cons_erase->agX,take_append_of_le_length->ag0,sublist_append_left->ag4,getElem_idxOf->ag7,mem_filterMap->ag9,length_filter_lt_length_iff_exists->aha,length_pos_iff->ahb,idxOf_lt_length_iff->ahc,pairwise_flatten->ahd
open _root_.List.Perm renaming refl->B6,eq_of_pairwise->agQ
open Nat renaming le_trans->aq,le_of_eq->aD,lt_of_le_of_lt->aQ,lt_of_lt_of_le->ba,le_refl->bf,zero_le->cu,le_of_lt->cy,lt_irrefl->cV,le_add_right->cW,le_of_not_lt->cZ,succ_pos->eE,lt_trans->eN,add_assoc->fC,ne_of_gt->fO,zero_add->f5,add_comm->gj,ne_of_lt->gE,le_succ->iH,add_sub_cancel'->iK,add_le_add_left->i3,lt_succ_self->i5,lt_of_lt_of_eq->i6,le_add_left->i7,succ->jq,le_of_lt_succ->ju,lt_succ_of_le->kA,sub_le->kE,le_of_succ_le->lF,add_le_add_right->mG,le_antisymm->mM,le_sub_one_of_lt->mP,lt_of_not_le->om,lt_asymm->oD,add_right_comm->pS,lt_of_le_of_ne->pT,lt_add_of_pos_right->qX,succ_ne_zero->rg,sub_pos_of_lt->rh,exists_eq_succ_of_ne_zero->u6,succ_add_eq_add_succ->wN,min_eq_left->wW,add_sub_cancel->wY,succ_le_succ->yP,le_succ_of_le->y6,not_lt_zero->y9,sub_lt->ze,sub_self->zf,one_mul->zi,add_le_add->B8,zero_mul->Ca,mul_le_mul->Cb,mod_lt->Cs,sub_add_cancel->F0,sub_sub->F4,add_sub_cancel_left->F7,gcd->F8,pow_pos->Gd,mul_le_mul_left->Kj,div_le_self->Kk,le_of_succ_le_succ->KC,lt_succ_of_lt->KN,sub_le_sub_right->KZ,le_sub_of_add_le->K5,le_total->K7,add_left_cancel->K9,one_pos->Lb,mul_assoc->Lg,lt_one_iff->Lr,pow_le_pow_right->SJ,mul_le_mul_right->S8,add_sub_add_right->Tw,mul_one->TF,mul_pos->TG,lt_or_eq_of_le->TH,add_left_comm->TI,sub_sub_self->TJ,add_le_of_le_sub->TS,exists_eq_add_of_le->TT,lt_add_of_pos_left->TU,lt_trichotomy->TW,le_mul_of_pos_right->TY,sub_lt_iff_lt_add'->TZ,min_eq_right->T6,add_lt_add_left->T7,pos_of_ne_zero->T8,le_zero->Ub,sub_le_iff_le_add'->Uf,le_one_iff_eq_zero_or_eq_one->Ug,lt_of_succ_lt_succ->agp,add_lt_add_iff_left->agw,lt_sub_of_add_lt->agE,succ_pred_eq_of_pos->agF,gcd_pos_of_pos_left->agJ,le_sub_of_add_le'->agS,pred_eq_of_eq_succ->agV,sub_le_of_le_add->agW,add_add_add_comm->agY,sub_lt_sub_right->agZ,exists_eq_add_of_le'->ag5,mod_two_eq_zero_or_one->ag6
open Nat.le renaming intro->TR
open Nat.succ renaming inj->wK
open Ne renaming symm->gV
open Option renaming none->aP,map->eP,map_eq_some_iff->tE,isSome_iff_exists->tG,or_eq_some_iff->CJ,isNone_iff_eq_none->Gl,bind_some->SD,bind_assoc->ag2
open Option.some renaming inj->ay
open PUnit renaming unit->Ct
open Prod renaming snd->oz,fst->wQ
open PyProof.Rows renaming listItems_at->f6,oneType'->wZ,subscriptTail->Fx,isTrue_plain->Kx,get?_update_seq->KP,seqEpoch_at->KQ,assignInOrder_cons->SO
open PyProof.Rows.F renaming plain_set_update_loop->Te,entry_set_update_loop->agq
open PyProof.Rows.SortSt renaming mk'->Tr
open PySem renaming Value->ac,wpAny_bind->ae,Shared->ag,model->ah,wpAny->ai,Heap->am,Addr->ao,wpAny_pure->au,Stmt->aH,Expr->aT,SetTable->a8,Around->bh,call->bC,Pos->b8,Params->cD,World->cO,wpAny_mono->cQ,rawInt->c6,wpAny_holding->dO,codeAny->eO,Keyword->fj,Scope->fk,Model->f4,pyIter->gk,pyNext->gm,Stmt->gQ,NameKind->gU,Operator->ia,seg_bind_wrap->ib,CmpOp->iF,exec->iI,plainId_quiet->iJ,GenState->jp,wpAny_standAt->jr,Comprehension->jL,compareOp->jN,codeAny_builtin->jP,Str->kr,starEach->lE,mainGlobals->mE,binaryOp->mI,Result->mL,Scope->ol,spliced->oq,backTo->ot,wpAny_askSetting->oC,treeTable->pP,DictEntry->pQ,sizeLine->qW,wpAny_call->q8,wpAny_isInstance->q9,cLine->tq,typeOf->tx,execs->tz,builtinsNs->uM,getAttr->uP,wpAny_evalAll_nil->uR,assign->uT,wpAny_rule->uV,wpAny_newObj_type->uW,wpAny_call_entry->uZ,hashInt->u3,intKind->u4,OsState->wE,importedModules->wH,clipAt->wI,seqIndex?->wJ,wpAny_truthy_bool->wM,callWith->wO,wpAny_Call_Name_kw->wR,leaving->wU,wpAny_letGo->wV,truthy->yM,getItem->yN,letOwnedTupleGo->yR,assignEach->yT,holding->yV,foldedForSure->yX,constantsAlone->yY,wpAny_Expr_any->yZ,wpAny_Assign_Name->y0,entryFor->zb,codeAmong->B7,storeName->Cc,getMethod->Ce,wpAny_of_eq->Cf,cellsFrom->Ck,compTurn->Cm,wpAny_Name->Co,setsByText->Cr,call_meets->Fv,wpAny_specialOf->Fy,wpAny_load->FE,codeAny_of_tree->FG,wpAny_execs_nil->FL,wpAny_execs_cons->FM,dunder->FN,richCompare->FP,codeAny_mono->FQ,relayAll->FU,setAddHashed->FV,wpAny_typeOf->FX,wpAny_tryCatch->FY,seg_again->F6,Comprehension->Ke,Const->Kf,TypeParam->Kg,Tok->Kh,wpAny_list_append_plain->Ku,compStart->Kv,inplaceOp->Kw,interactive->Ky,wpAny_callSpecial?_slot->KA,sizeLine_eq->KB,bindL->KD,intKind_is->KF,sub_set_self->KG,entryFor_alias->KH,wpAny_attempt->KJ,firstArgMember->KM,wpAny_newList->KR,importedNames->Lj,moduleNames->Lk,call->SE,Arguments->SG,Value->SH,recursionLimit->SI,wpAny_assign_Name->SP,newFunctionEnv->SQ,wpAny_items_nil->SR,wpAny_Constant_int->SU,wpAny_Constant_str->SV,wpAny_cRoomFor->SZ,codeAny_call_builtin->Tg,wpAny_runValue->Th,entryFor_of_tree->Ti,wpAny_setField_rec->Tj,call_function_tree->Tq,wpAny_ite_split->Tv,ExceptHandler->af9,filterMap_getElem?_range->ago,compTurn_gen->agG,callSpecialIfBoundUnlessNone?->agI
open PySem.Around renaming under_plainId->kD
open PySem.Builtin renaming divisionGoesByPylong->af'
open PySem.Builtin.Builtins renaming bindParams->agy
open PySem.Builtin.Frozenset renaming addrOf->za,updateFrom->KI,isAnySet->Ta,unchanged->Tb,intersection->Tc
open PySem.Builtin.Generator renaming genWake->agD
open PySem.Builtin.Int renaming intBits->B9,intTooBig->aga
open PySem.Builtin.List renaming listExtendWith->KU,listUpdate->Tt,listLengthHint->Tu,listSameRef->agC
open PySem.Builtin.Range renaming rangeSize->agb
open PySem.Calls renaming spliced_cons->wS,spliced_nil->Cp,call_function_entry->agj
open PySem.Challenge renaming rw_jm0010_01->Ll
open PySem.F renaming plain_max_loop->zd,plain_extend_loop->FZ,slot_list_append->SW,type_list_append->SY,slot_list_gt->Tn,slot_list_lt->To,entry_max_loop->Tp,plain_all_loop->TA,plain_any_loop->TB,slot_list_insert->age,slot_list_pop->agf,plain_set_new->agr,sub_list_set->ags,sub_list_frozenset->agt,slot_set_iter->agu,slot_set_intersection->agv,sub_list_list->agx,plain_list_iadd->agA,entry_extend_loop->agB
open PySem.Heap renaming get?_push_of_some->c5,SameBut->dD,get?_push_size->ft,lt_size->fB,size_push->oA,get?_update_self->agg
open PySem.Heap.SameBut renaming update->uY,refl->Cq
open PySem.NameKind renaming cell->tv,free->Cj
open PySem.Obj renaming cls->uX,mapSeq->FI
open PySem.PyData renaming keyHash->pR
open PySem.Sem renaming onRaise_eq_wrap->F5,bind_eq_wrap'->Tx,wrap_wrap->Tz
open PySem.SeqAt renaming EqAt->gD,RcAt->oo,RcNeAt->uN
open PySem.SetTable renaming sizeAbove->mO,below->pU,grown->wX,fill->FA,laid->S1,bits->S2,has->S4,turns->S5,insertAt->S6,probe->agk,toList_insertAt->agl,relaid->agm
open PySem.Shared renaming TypeIs->Tf
open PySem.Str renaming ofString->dw
open PySem.Value renaming type->iE,none->oj,ref->pO,int->qV,str->B5,bool->Kc
open PySem.W renaming look_both->dE,findIn->fN,Looks->iG,Frag->kq,isFn->ou,any_some->q0,dictOf->uO,plainGet_of->uQ,behindTheImports->wF,boot_heap->wG,kas_rev->w0,namesMeet->w7,putL->y4,looks_findIn->y7,emptyDict->y8,plainGet->Cd,builtinNamed->CI,topFrame->Fu,hasDictIn->FC,lookIn_dict->FD,CmpBack->FO,boot_drawn->Kd,specialIn->Kq,selfFirst->KE,noRoadLSs->Li
open Rat renaming mkRat_self->F9,num_mkRat->TE,mkRat_mul_mkRat->agK,mkRat_add_mkRat->agL,mkRat_mul_right->agN
noncomputable section
namespace Mine
@[elab_as_elim] theorem aa{α:Type}{a b:α}{m:α->Prop}(h:a=b)(k:m b):m a:=h▸k
local macro_rules |`(tactic|erw [$e:term])=>`(tactic|refine aa $e ?_)
section
set_option maxHeartbeats 0
noncomputable abbrev pw:=PySem.Challenge.pw_jm0010_01
def Bn:Env:={scope:=pw.main.scope,locals:=mainNs,globals:=mainNs,cells:=[],code:=.ref 13,frame:=some 14}
noncomputable abbrev p9:Pos:=⟨0,0,0,0⟩
noncomputable def o11:Obj:={cls:=iE "tuple",data:=Data.seq #[]}
noncomputable def o12:Obj:={cls:=oj,data:=Data.fields #[]}
noncomputable def o13:Obj:={cls:=iE "code",data:=Data.fields (
 #[B5 (dw "<module>") 182,B5 (dw "<module>") 183,B5 (dw "/claim/cut.py") 184,qV 1 0,qV 0 0,qV 0 0,qV 0 0,
  qV 0 0,pO 11,Kc false,qV 181 0,pO 12,oj,oj,oj,oj,qV 185 0,qV 1 0,B5 (dw "/claim/cut.py") 186])}
noncomputable def o14:Obj:={cls:=iE "frame",slots:= #[some (pO 13),some (pO 3),some (pO 3),none,some (B5 (dw "__main__") 164),none,some (pO 0)]}
noncomputable def T0(P:cD):BT:=
 .node (boot_o_0 P)
  (.node (boot_o_1 P) (.node (boot_o_3 P) (.node (boot_o_7 P) .nil .nil) (.node o11 .nil .nil)) (.node (boot_o_5 P) (.node (boot_o_9 P) .nil .nil) (.node o13 .nil .nil)))
  (.node (boot_o_2 P) (.node (boot_o_4 P) (.node (boot_o_8 P) .nil .nil) (.node o12 .nil .nil)) (.node (boot_o_6 P) (.node (boot_o_10 P) .nil .nil) (.node o14 .nil .nil)))
def S0(w:cO)(os:wE):SharedT:=⟨T0 w.params,15,{},#[],Kd,187,os⟩
abbrev cE:Code:=.body (wF pw) Bn
noncomputable abbrev vE:Option ac:=some (.ref 6)
theorem N_:∀(w:cO) (os:wE),topGo pP pw w 11 vE 12 ⟨wG w.params,#[],Kd,boot_toks,os⟩ (topStub pw)=
  some ((S0 w os).abs,⟨denote pP cE,cE,p9,[Fu p9]⟩):=by
 intro w os;rfl'
theorem Zg:∀(w:cO) (os:wE),segRun pP pw w 11 vE 1 1 (S0 w os).abs (blockOf (wF pw) Bn cE p9 [Fu p9])=
  some (.next,(S0 w os).abs,cE,p9):=by
 intro w os;rfl'
theorem ZA:∀w:cO,(fencedOpening pP pw w 10000).map (λs=>(s.heap,s.gens,s.drawn,s.toks))=some (wG w.params,Array.mk [],Kd,boot_toks):=
 boot_open ⋯ ⋯ (λs=>⋯)
noncomputable def aJ:List aH->Nat->aH
 |[],_=>.Pass default|s::_,0=>s|_::r,n+1=>aJ r n
def ck(i:Nat):aH:=aJ (wF pw) i
def c7(i j:Nat):aH:=match ck i with
 |.ClassDef _ _ _ body _ _ _ _ _ _ _=>aJ body j|s=>s
noncomputable def cj(st:aH)(qual:String)(dflt pm code:ac)(clo:List (Str×ao))(ct:ac):Obj:=match st with
 |.FunctionDef name args body _ _ _ scope _ _ _=>
  {cls:=.type "function",data:=.func {name:=name,qualname:=dw qual,params:=args,body:=.stmts body,scope:=scope,globals:=3,closure:=clo,defaults:=dflt,kwdefaults:=.none,doc:=.none,pyModule:=pm,annotations:=none,code:=code,closureTuple:=ct,builtins:=0}}
 |_=>default
noncomputable def ig(l:List ac):Obj:={cls:=.type "tuple",data:=.seq ⟨l⟩}
noncomputable def nY(l:List ac):Obj:={cls:=.type "list",data:=.seq ⟨l⟩}
noncomputable def afI(l:List ac):Obj:={cls:=.type "code",data:=.fields ⟨l⟩}
noncomputable def afa(l:List ac):Obj:={cls:=.type "property",data:=.fields ⟨l⟩}
noncomputable def j7(l:List ac):Obj:={cls:=.type "getset_descriptor",data:=.fields ⟨l⟩}
noncomputable def bP:Obj:={cls:=.none,data:=.fields #[]}
noncomputable def en(P:cD)(k:String)(t:Nat)(v:ac):pQ:=⟨pR P (dw k),.str (dw k) t,v⟩
noncomputable def vY(n:Nat)(l:List pQ):Obj:={cls:=.type "dict",data:=.dict ⟨l⟩ n}
noncomputable def xm(name:String)(bases mro:List ac)(ns:ao)(hd:Bool)(sl:List (Option ac)):Obj:=
 {cls:=.type "type",data:=.cls {name:=dw name,bases:=bases,mro:=mro,ns:=ns,qualname:=dw name,hasDict:=hd},slots:=⟨sl⟩}
noncomputable def zV(t:Nat):ac:=.str (dw "/claim/cut.py") t
noncomputable def st(s:String)(t:Nat):ac:=.str (dw s) t
noncomputable def m1:ac:=.str (dw "abcvoting.misc") 194
noncomputable def m2:ac:=.str (dw "abcvoting.abcrules") 574
noncomputable def m3:ac:=.str (dw "abcvoting.scores") 416
noncomputable def m4:ac:=.str (dw "abcvoting.preferences") 849
noncomputable def m5:ac:=.str (dw "apportionment.methods") 1042
def SA(n q:String)(t:Nat)(L c f:Int)(x y:ac)(r:List ac):Obj:=afI ([st n t,st q (t+1),zV (t+2),.int L 0,.int c 0,.int 0 0,.int 0 0,.int f 0,x,.bool true,.int 181 0,y,.none]++r)
def cA(n q:String)(t:Nat)(L c f:Int)(e a:Nat):Obj:=SA n q t L c f (.ref (a-5)) (.ref (a-4)) [.ref (a-3),.ref (a-2),.ref (a-1),.int (e:Nat) 0,.int L 0,zV (e+1)]
def cB(n q:String)(t:Nat)(L c f:Int)(e a:Nat):Obj:=SA n q t L c f (.ref (a-3)) (.ref (a-2)) [.none,.none,.ref (a-1),.int (e:Nat) 0,.int L 0,zV (e+1)]
def KL(P:cD):kq:=[
 (3,vY 54 [en P "__name__" 165 (st "law_jm0010_01" 1119),en P "__doc__" 166 .none,en P "__package__" 167 .none,en P "__loader__" 168 (.builtin "__main__.__loader__#opaque"),en P "__spec__" 169 .none,en P "__annotations__" 170 (.ref 6),en P "__builtins__" 171 (.ref 4),en P "__file__" 173 (st "/claim/cut.py" 172),en P "__cached__" 174 .none,en P "_wall" 193 (.ref 21),en P "CandidateSet" 206 (.ref 30),en P "sorted_committees" 213 (.ref 37),en P "str_set_of_candidates" 223 (.ref 45),en P "combinations" 229 (.ref 50),en P "Fraction" 406 (.ref 194),en P "total" 415 (.ref 205),en P "UnknownScoreFunctionError" 446 (.ref 224),en P "MarginalScoreFct" 485 (.ref 252),en P "get_marginal_scorefct" 495 (.ref 264),en P "thiele_score" 509 (.ref 271),en P "geometric_marginal_score_fct" 517 (.ref 278),en P "pav_score_fct" 524 (.ref 285),en P "adams_score_fct" 531 (.ref 292),en P "slav_score_fct" 538 (.ref 299),en P "av_score_fct" 545 (.ref 306),en P "cc_score_fct" 552 (.ref 313),en P "at_least_ell_fct" 560 (.ref 320),en P "marginal_thiele_scores_add" 573 (.ref 327),en P "MAX_NUM_OF_COMMITTEES_DEFAULT" 576 .none,en P "Rule" 641 (.ref 362),en P "UnknownRuleIDError" 670 (.ref 385),en P "UnknownAlgorithm" 700 (.ref 407),en P "NoAvailableAlgorithm" 730 (.ref 429),en P "available_algorithms" 735 (.ref 433),en P "compute_thiele_method" 752 (.ref 441),en P "_thiele_methods_bruteforce" 769 (.ref 449),en P "_thiele_methods_branchandbound" 795 (.ref 457),en P "compute_pav" 808 (.ref 465),en P "compute_slav" 821 (.ref 473),en P "_adams_bruteforce" 827 (.ref 478),en P "compute_adams" 842 (.ref 486),en P "_seq_thiele_resolute" 848 (.ref 491),en P "Profile" 993 (.ref 613),en P "Voter" 1041 (.ref 650),en P "TiesException" 1063 (.ref 664),en P "compute" 1075 (.ref 675),en P "apply_threshold" 1087 (.ref 682),en P "largest_remainder" 1093 (.ref 688),en P "divisor" 1099 (.ref 694),en P "_divzero_fewerseatsthanparties" 1112 (.ref 701),en P "quota" 1118 (.ref 707),en P "_law_orders" 1143 (.ref 718),en P "_law_shared" 1149 (.ref 723),en P "law" 1155 (.ref 728)]),
 (4,{cls:=.type "module",dict:=some 0,data:=.plain}),
 (23,ig [(.ref 22),.none]),
 (29,cA "CandidateSet" "CandidateSet" 196 5 2 3 204 29),
 (30,cj (ck 2) "CandidateSet" (.ref 23) m1 (.ref 29) [] .none),
 (36,cA "sorted_committees" "sorted_committees" 207 17 1 3 211 36),
 (37,cj (ck 3) "sorted_committees" .none m1 (.ref 36) [] .none),
 (38,ig [.none]),
 (44,cA "str_set_of_candidates" "str_set_of_candidates" 214 19 2 3 221 44),
 (45,cj (ck 4) "str_set_of_candidates" (.ref 38) m1 (.ref 44) [] .none),
 (47,bP),
 (49,cB "combinations" "combinations" 224 25 2 3 227 49),
 (50,cj (ck 5) "combinations" .none m1 (.ref 49) [] .none),
 (58,ig [(.int 0 242),(.int 1 243)]),
 (60,bP),
 (64,cA "__init__" "Fraction.__init__" 244 35 3 3 254 64),
 (65,cj (c7 6 0) "Fraction.__init__" (.ref 58) m1 (.ref 64) [] .none),
 (95,bP),
 (99,cA "__neg__" "Fraction.__neg__" 285 75 1 3 289 99),
 (100,cj (c7 6 5) "Fraction.__neg__" .none m1 (.ref 99) [] .none),
 (102,bP),
 (106,cA "__add__" "Fraction.__add__" 292 78 2 3 297 106),
 (107,cj (c7 6 6) "Fraction.__add__" .none m1 (.ref 106) [] .none),
 (130,bP),
 (134,cA "__mul__" "Fraction.__mul__" 324 96 2 3 329 134),
 (135,cj (c7 6 10) "Fraction.__mul__" .none m1 (.ref 134) [] .none),
 (158,bP),
 (162,cA "__eq__" "Fraction.__eq__" 356 116 2 3 361 162),
 (163,cj (c7 6 14) "Fraction.__eq__" .none m1 (.ref 162) [] .none),
 (165,bP),
 (169,cA "__lt__" "Fraction.__lt__" 364 123 2 3 369 169),
 (170,cj (c7 6 15) "Fraction.__lt__" .none m1 (.ref 169) [] .none),
 (179,bP),
 (183,cA "__gt__" "Fraction.__gt__" 380 137 2 3 385 183),
 (184,cj (c7 6 17) "Fraction.__gt__" .none m1 (.ref 183) [] .none),
 (186,bP),
 (190,cA "__ge__" "Fraction.__ge__" 388 144 2 3 393 190),
 (191,cj (c7 6 18) "Fraction.__ge__" .none m1 (.ref 190) [] .none),
 (193,vY 5 [en P "__module__" 237 m1,en P "__firstlineno__" 241 (.int 33 240),en P "__init__" 256 (.ref 65),en P "__bool__" 263 (.ref 72),en P "floor" 270 (.ref 79),en P "ceil" 277 (.ref 86),en P "__str__" 284 (.ref 93),en P "__neg__" 291 (.ref 100),en P "__add__" 299 (.ref 107),en P "__radd__" 307 (.ref 114),en P "__sub__" 315 (.ref 121),en P "__rsub__" 323 (.ref 128),en P "__mul__" 331 (.ref 135),en P "__rmul__" 339 (.ref 142),en P "__truediv__" 347 (.ref 149),en P "__rtruediv__" 355 (.ref 156),en P "__eq__" 363 (.ref 163),en P "__lt__" 371 (.ref 170),en P "__le__" 379 (.ref 177),en P "__gt__" 387 (.ref 184),en P "__ge__" 395 (.ref 191),en P "__static_attributes__" 398 (.ref 192),en P "__dict__" 400 (.ref 195),en P "__weakref__" 402 (.ref 196),en P "__doc__" 403 .none,en P "__hash__" 404 .none]),
 (194,xm "Fraction" [(.type "object")] [(.ref 194),(.type "object")] 193 true [none,none,some (st "Fraction" 230),some (st "Fraction" 238),some (.builtin "object.__new__"),some (.bool true)]),
 (195,j7 [(st "__dict__" 399),(.ref 194),(.builtin "function.__dict__"),(.builtin "function.__dict__#set")]),
 (196,j7 [(st "__weakref__" 401),(.ref 194),(.builtin "ExceptionGroup.__weakref__"),.none]),
 (200,bP),
 (204,cA "total" "total" 407 150 1 3 413 204),
 (205,cj (ck 7) "total" .none m1 (.ref 204) [] .none),
 (225,j7 [(st "__weakref__" 442),(.ref 224),(.builtin "ExceptionGroup.__weakref__"),.none]),
 (235,ig [.none]),
 (237,bP),
 (241,cA "__init__" "MarginalScoreFct.__init__" 459 163 3 3 465 241),
 (242,cj (c7 10 0) "MarginalScoreFct.__init__" (.ref 235) m3 (.ref 241) [] .none),
 (244,bP),
 (248,cA "__call__" "MarginalScoreFct.__call__" 468 167 2 3 473 248),
 (249,cj (c7 10 1) "MarginalScoreFct.__call__" .none m3 (.ref 248) [] .none),
 (251,vY 4 [en P "__module__" 454 m3,en P "__firstlineno__" 458 (.int 161 457),en P "__init__" 467 (.ref 242),en P "__call__" 475 (.ref 249),en P "__static_attributes__" 478 (.ref 250),en P "__dict__" 480 (.ref 253),en P "__weakref__" 482 (.ref 254),en P "__doc__" 483 .none]),
 (252,xm "MarginalScoreFct" [(.type "object")] [(.ref 252),(.type "object")] 251 true [none,none,some (st "MarginalScoreFct" 447),some (st "MarginalScoreFct" 455),some (.builtin "object.__new__"),some (.bool true)]),
 (253,j7 [(st "__dict__" 479),(.ref 252),(.builtin "function.__dict__"),(.builtin "function.__dict__#set")]),
 (254,j7 [(st "__weakref__" 481),(.ref 252),(.builtin "ExceptionGroup.__weakref__"),.none]),
 (257,ig [.none]),
 (259,bP),
 (263,cA "get_marginal_scorefct" "get_marginal_scorefct" 486 181 2 3 493 263),
 (264,cj (ck 11) "get_marginal_scorefct" (.ref 257) m3 (.ref 263) [] .none),
 (266,bP),
 (270,cA "thiele_score" "thiele_score" 496 199 3 3 507 270),
 (271,cj (ck 12) "thiele_score" .none m3 (.ref 270) [] .none),
 (280,bP),
 (284,cA "pav_score_fct" "pav_score_fct" 518 212 1 3 522 284),
 (285,cj (ck 14) "pav_score_fct" .none m3 (.ref 284) [] .none),
 (287,bP),
 (291,cA "adams_score_fct" "adams_score_fct" 525 216 1 3 529 291),
 (292,cj (ck 15) "adams_score_fct" .none m3 (.ref 291) [] .none),
 (294,bP),
 (298,cA "slav_score_fct" "slav_score_fct" 532 222 1 3 536 298),
 (299,cj (ck 16) "slav_score_fct" .none m3 (.ref 298) [] .none),
 (308,bP),
 (312,cA "cc_score_fct" "cc_score_fct" 546 230 1 3 550 312),
 (313,cj (ck 18) "cc_score_fct" .none m3 (.ref 312) [] .none),
 (322,bP),
 (326,cA "marginal_thiele_scores_add" "marginal_thiele_scores_add" 561 238 3 3 571 326),
 (327,cj (ck 20) "marginal_thiele_scores_add" .none m3 (.ref 326) [] .none),
 (335,ig [(st "gurobi" 589),(st "pulp-highs" 590),(st "pulp-cbc" 591),(st "branch-and-bound" 592),(st "brute-force" 593)]),
 (336,ig [(.bool false),(.bool true)]),
 (337,ig [(.bool true),(.bool false)]),
 (339,bP),
 (343,cA "__init__" "Rule.__init__" 597 254 2 3 606 343),
 (344,cj (c7 23 3) "Rule.__init__" .none m2 (.ref 343) [] .none),
 (346,bP),
 (350,cA "fastest_available_algorithm" "Rule.fastest_available_algorithm" 609 431 1 3 613 350),
 (351,cj (c7 23 4) "Rule.fastest_available_algorithm" .none m2 (.ref 350) [] .none),
 (352,ig [.none]),
 (354,bP),
 (358,cA "verify_compute_parameters" "Rule.verify_compute_parameters" 616 436 6 3 625 358),
 (359,cj (c7 23 5) "Rule.verify_compute_parameters" (.ref 352) m2 (.ref 358) [] .none),
 (361,vY 4 [en P "__module__" 584 m2,en P "__firstlineno__" 588 (.int 249 587),en P "_THIELE_ALGORITHMS" 594 (.ref 335),en P "_RESOLUTE_VALUES_FOR_OPTIMIZATION_BASED_RULES" 595 (.ref 336),en P "_RESOLUTE_VALUES_FOR_SEQUENTIAL_RULES" 596 (.ref 337),en P "__init__" 608 (.ref 344),en P "fastest_available_algorithm" 615 (.ref 351),en P "verify_compute_parameters" 627 (.ref 359),en P "__static_attributes__" 634 (.ref 360),en P "__dict__" 636 (.ref 363),en P "__weakref__" 638 (.ref 364),en P "__doc__" 639 .none]),
 (362,xm "Rule" [(.type "object")] [(.ref 362),(.type "object")] 361 true [none,none,some (st "Rule" 577),some (st "Rule" 585),some (.builtin "object.__new__"),some (.bool true)]),
 (363,j7 [(st "__dict__" 635),(.ref 362),(.builtin "function.__dict__"),(.builtin "function.__dict__#set")]),
 (364,j7 [(st "__weakref__" 637),(.ref 362),(.builtin "ExceptionGroup.__weakref__"),.none]),
 (386,j7 [(st "__weakref__" 666),(.ref 385),(.builtin "ExceptionGroup.__weakref__"),.none]),
 (408,j7 [(st "__weakref__" 696),(.ref 407),(.builtin "ExceptionGroup.__weakref__"),.none]),
 (430,j7 [(st "__weakref__" 726),(.ref 429),(.builtin "ExceptionGroup.__weakref__"),.none]),
 (433,nY [(st "branch-and-bound" 731),(st "brute-force" 732),(st "standard" 733),(st "standard-fractions" 734)]),
 (434,ig [(st "fastest" 736),(.bool false),.none,(.bool false)]),
 (436,bP),
 (440,cA "compute_thiele_method" "compute_thiele_method" 737 467 7 3 750 440),
 (441,cj (ck 28) "compute_thiele_method" (.ref 434) m2 (.ref 440) [] .none),
 (442,ig [.none]),
 (444,bP),
 (448,cA "_thiele_methods_bruteforce" "_thiele_methods_bruteforce" 753 479 5 3 767 448),
 (449,cj (ck 29) "_thiele_methods_bruteforce" (.ref 442) m2 (.ref 448) [] .none),
 (450,ig [.none]),
 (452,bP),
 (456,cA "_thiele_methods_branchandbound" "_thiele_methods_branchandbound" 770 497 5 3 793 456),
 (457,cj (ck 30) "_thiele_methods_branchandbound" (.ref 450) m2 (.ref 456) [] .none),
 (458,ig [(st "fastest" 796),(.bool false),.none,(.bool false)]),
 (460,bP),
 (464,cA "compute_pav" "compute_pav" 797 531 6 3 806 464),
 (465,cj (ck 31) "compute_pav" (.ref 458) m2 (.ref 464) [] .none),
 (466,ig [(st "fastest" 809),(.bool false),.none,(.bool false)]),
 (468,bP),
 (472,cA "compute_slav" "compute_slav" 810 533 6 3 819 472),
 (473,cj (ck 32) "compute_slav" (.ref 466) m2 (.ref 472) [] .none),
 (475,bP),
 (477,cB "_adams_bruteforce" "_adams_bruteforce" 822 535 4 3 825 477),
 (478,cj (ck 33) "_adams_bruteforce" .none m2 (.ref 477) [] .none),
 (479,ig [(st "fastest" 828),(.bool false),.none]),
 (481,bP),
 (485,cA "compute_adams" "compute_adams" 829 560 5 3 840 485),
 (486,cj (ck 34) "compute_adams" (.ref 479) m2 (.ref 485) [] .none),
 (488,bP),
 (490,cB "_seq_thiele_resolute" "_seq_thiele_resolute" 843 571 3 3 846 490),
 (491,cj (ck 35) "_seq_thiele_resolute" .none m2 (.ref 490) [] .none),
 (499,ig [.none]),
 (501,bP),
 (503,cB "__init__" "Profile.__init__" 863 587 3 3 866 503),
 (504,cj (c7 37 0) "Profile.__init__" (.ref 499) m4 (.ref 503) [] .none),
 (506,bP),
 (510,cA "num_cand" "Profile.num_cand" 869 598 1 3 873 510),
 (511,cj (c7 37 1) "Profile.num_cand" .none m4 (.ref 510) [] .none),
 (512,afa [(.ref 511),.none,.none,.none,(st "num_cand" 876),(.bool false)]),
 (521,bP),
 (525,cA "__len__" "Profile.__len__" 884 605 1 3 888 525),
 (526,cj (c7 37 3) "Profile.__len__" .none m4 (.ref 525) [] .none),
 (528,bP),
 (532,cA "_unique_voter" "Profile._unique_voter" 891 608 2 3 897 532),
 (533,cj (c7 37 4) "Profile._unique_voter" .none m4 (.ref 532) [] .none),
 (535,bP),
 (539,cA "add_voter" "Profile.add_voter" 900 615 2 3 905 539),
 (540,cj (c7 37 5) "Profile.add_voter" .none m4 (.ref 539) [] .none),
 (577,bP),
 (581,cA "__iter__" "Profile.__iter__" 944 633 1 35 949 581),
 (582,cj (c7 37 11) "Profile.__iter__" .none m4 (.ref 581) [] .none),
 (612,vY 4 [en P "__module__" 858 m4,en P "__firstlineno__" 862 (.int 585 861),en P "__init__" 868 (.ref 504),en P "num_cand" 876 (.ref 512),en P "approved_candidates" 883 (.ref 519),en P "__len__" 890 (.ref 526),en P "_unique_voter" 899 (.ref 533),en P "add_voter" 907 (.ref 540),en P "add_voters" 915 (.ref 547),en P "total_weight" 922 (.ref 554),en P "has_unit_weights" 929 (.ref 561),en P "convert_to_unit_weights" 936 (.ref 568),en P "convert_to_weighted" 943 (.ref 575),en P "__iter__" 951 (.ref 582),en P "__getitem__" 959 (.ref 589),en P "__setitem__" 968 (.ref 596),en P "copy" 975 (.ref 603),en P "is_party_list" 982 (.ref 610),en P "__static_attributes__" 986 (.ref 611),en P "__dict__" 988 (.ref 614),en P "__weakref__" 990 (.ref 615),en P "__doc__" 991 .none]),
 (613,xm "Profile" [(.type "object")] [(.ref 613),(.type "object")] 612 true [none,none,some (st "Profile" 851),some (st "Profile" 859),some (.builtin "object.__new__"),some (.bool true)]),
 (614,j7 [(st "__dict__" 987),(.ref 613),(.builtin "function.__dict__"),(.builtin "function.__dict__#set")]),
 (615,j7 [(st "__weakref__" 989),(.ref 613),(.builtin "ExceptionGroup.__weakref__"),.none]),
 (625,ig [(.int 1 1006),.none]),
 (627,bP),
 (631,cA "__init__" "Voter.__init__" 1007 650 4 3 1014 631),
 (632,cj (c7 38 0) "Voter.__init__" (.ref 625) m4 (.ref 631) [] .none),
 (649,vY 4 [en P "__module__" 1001 m4,en P "__firstlineno__" 1005 (.int 648 1004),en P "__init__" 1016 (.ref 632),en P "__str__" 1023 (.ref 639),en P "str_with_names" 1031 (.ref 647),en P "__static_attributes__" 1034 (.ref 648),en P "__dict__" 1036 (.ref 651),en P "__weakref__" 1038 (.ref 652),en P "__doc__" 1039 .none]),
 (650,xm "Voter" [(.type "object")] [(.ref 650),(.type "object")] 649 true [none,none,some (st "Voter" 994),some (st "Voter" 1002),some (.builtin "object.__new__"),some (.bool true)]),
 (651,j7 [(st "__dict__" 1035),(.ref 650),(.builtin "function.__dict__"),(.builtin "function.__dict__#set")]),
 (652,j7 [(st "__weakref__" 1037),(.ref 650),(.builtin "ExceptionGroup.__weakref__"),.none]),
 (663,vY 3 [en P "__module__" 1051 m5,en P "__firstlineno__" 1055 (.int 662 1054),en P "__static_attributes__" 1056 (.ref 662),en P "__weakref__" 1058 (.ref 665),en P "__doc__" 1059 .none]),
 (664,xm "TiesException" [(.type "Exception")] [(.ref 664),(.type "Exception"),(.type "BaseException"),(.type "object")] 663 true [some (.ref 655),none,some (st "TiesException" 1044),some (st "TiesException" 1052),some (.builtin "Exception.__new__"),some (.bool true)]),
 (665,j7 [(st "__weakref__" 1057),(.ref 664),(.builtin "ExceptionGroup.__weakref__"),.none]),
 (668,ig [.none,(.bool true)]),
 (670,bP),
 (674,cA "compute" "compute" 1064 664 5 3 1073 674),
 (675,cj (ck 41) "compute" (.ref 668) m5 (.ref 674) [] .none),
 (677,bP),
 (681,cA "apply_threshold" "apply_threshold" 1076 674 2 3 1085 681),
 (682,cj (ck 42) "apply_threshold" .none m5 (.ref 681) [] .none),
 (689,ig [(.bool true)]),
 (691,bP),
 (693,cB "divisor" "divisor" 1094 708 4 3 1097 693),
 (694,cj (ck 44) "divisor" (.ref 689) m5 (.ref 693) [] .none),
 (696,bP),
 (700,cA "_divzero_fewerseatsthanparties" "_divzero_fewerseatsthanparties" 1100 760 3 3 1110 700),
 (701,cj (ck 45) "_divzero_fewerseatsthanparties" .none m5 (.ref 700) [] .none),
 (708,nY [(.int 0 1121),(.int 1 1122)]),
 (709,nY [(.int 1 1123),(.int 0 1124)]),
 (710,nY [(.ref 708),(.ref 709)]),
 (711,nY [(.int 0 1125),(.int 1 1126),(.int 2 1127)]),
 (712,nY [(.int 0 1128),(.int 2 1129),(.int 1 1130)]),
 (713,nY [(.int 1 1131),(.int 0 1132),(.int 2 1133)]),
 (714,nY [(.int 1 1134),(.int 2 1135),(.int 0 1136)]),
 (715,nY [(.int 2 1137),(.int 0 1138),(.int 1 1139)]),
 (716,nY [(.int 2 1140),(.int 1 1141),(.int 0 1142)]),
 (717,nY [(.ref 711),(.ref 712),(.ref 713),(.ref 714),(.ref 715),(.ref 716)]),
 (718,nY [(.ref 710),(.ref 717)]),
 (720,bP),
 (722,cB "_law_shared" "_law_shared" 1144 792 5 3 1147 722),
 (723,cj (ck 49) "_law_shared" .none (st "law_jm0010_01" 1119) (.ref 722) [] .none)]
def KT:kq:=[(25,bP),(32,bP),(40,bP)]
noncomputable def Np:List ao:=[3,4,23,29,30,36,37,38,44,45,47,49,50,58,60,64,65,95,99,100,102,106,107,130,134,135,158,162,163,165,169,170,179,183,184,186,190,191,193,194,195,196,200,204,205,225,235,237,241,242,244,248,249,251,252,253,254,257,259,263,264,266,270,271,280,284,285,287,291,292,294,298,299,308,312,313,322,326,327,335,336,337,339,343,344,346,350,351,352,354,358,359,361,362,363,364,386,408,430,433,434,436,440,441,442,444,448,449,450,452,456,457,458,460,464,465,466,468,472,473,475,477,478,479,481,485,486,488,490,491,499,501,503,504,506,510,511,512,521,525,526,528,532,533,535,539,540,577,581,582,612,613,614,615,625,627,631,632,649,650,651,652,663,664,665,668,670,674,675,677,681,682,689,691,693,694,696,700,701,708,709,710,711,712,713,714,715,716,717,718,720,722,723]
noncomputable def Ff(s:ag):Nat×List (Option Obj)×List (Option Obj):=(s.heap.objs.size,Np.map s.heap.get?,[25,32,40].map s.heap.get?)
def yH(w:cO):Nat×List (Option Obj)×List (Option Obj):=(729,(KL w.params).map (λp=>some p.2),KT.map (λp=>some p.2))
def aef:List aH:=(wF pw).drop 50
def qv:Program:={pw with main:={pw.main with body:=aef}}
def ud:List Str:=pw.boundNames.filter (λx=>x !=("law":Str))
noncomputable def HF(w:cO)(S:ag):=
 ((staticsOk (wH pw.main.body) (wG w.params) S.heap&&namesBound pw S.heap&&gensDone S&&laidKept (wG w.params) S.heap),
  openSeen qv ud (wH pw.main.body) (λ_=>true) true S,Ff S)
def PB(w:cO)(os:wE):=PySem.W.Fast.tw10110043849684766642 PySem.W.Fast.tw14364793385576792824 pw w 11 vE 1 4800 (S0 w os) (piecesOf (wF pw) Bn cE p9 [Fu p9])
theorem Xl:∀(w:cO) (os:wE),(PB w os).map (λr=>(r.1,HF w r.2.1.abs,r.2.2.1,r.2.2.2))=
  some (.next,(true,openGood qv ud,yH w),cE,⟨807,0,855,74⟩):=by
 intro w os;rfl'
theorem aeO(w:cO)(os:wE):(segRunT pP pw w 11 vE 1 4800 (S0 w os) (piecesOf (wF pw) Bn cE p9 [Fu p9])).map (λr=>(r.1,HF w r.2.1.abs,r.2.2.1,r.2.2.2))=
  some (.next,(true,openGood qv ud,yH w),cE,⟨807,0,855,74⟩):=by
 have h:=Xl w os;unfold PB at h;rw[<-PySem.W.Fast.te10110043849684766642,<-PySem.W.Fast.te14364793385576792824] at h;exact h
end
section
set_option maxHeartbeats 400000
theorem Ϥ:∀w:cO,((wG w.params).isNs mE&&(#[]:Array jp).size==0,(wG w.params).objs.size,(wG w.params).nsMap mE "__annotations__")=(true,11,vE):=by
 intro w;rfl'
theorem aas(w:cO)(S:SharedT):topRun pP pw w 11 vE 10 S.abs (restOf [] Bn cE ⟨807,0,855,74⟩ [Fu p9])=some S.abs:=by
 rfl'
theorem PP{α β γ δ:Type}{a a':α}{b b':β}{c c':γ}{d d':δ}(h:(a,b,c,d)=(a',b',c',d')):a=a'/\b=b'/\c=c'/\d=d':=by
 cases h;exact⟨rfl,rfl,rfl,rfl⟩
theorem Je{α β γ:Type}{a a':α}{b b':β}{c c':γ}(h:(a,b,c)=(a',b',c')):a=a'/\b=b'/\c=c':=by
 cases h;exact⟨rfl,rfl,rfl⟩
end
section
set_option maxHeartbeats 400000
theorem adL(w:cO)(os:wE):∃S:SharedT,topRun pP pw w 11 vE 10000 ⟨wG w.params,Array.mk [],Kd,boot_toks,os⟩ (topStub pw)=some S.abs/\HF w S.abs=(true,openGood qv ud,yH w):=by
 obtain⟨⟨f,S,c,p⟩,hr,hl⟩:=tE.mp (aeO w os);obtain⟨h1,hl,h3,h4⟩:=PP hl;dsimp only at h1 h3 h4;subst h1 h3 h4;have r2:=piece_app (rest:=[]) (segRun_of hr) (aas w S);rw[gO] at r2;have r3:=piece_block (Zg w os) r2;have r4:=go_top (N_ w os) r3;have r:=topRun_mono 5177 _ _ _ _ r4;exact⟨S,r,hl⟩
end
section
set_option maxHeartbeats 400000
theorem X4{p:Program}{w:cO}{N CK:Nat}{s s':ag}{ann:Option ac}(h1:(s.heap.isNs mE&&s.gens.size==0,s.heap.objs.size,s.heap.nsMap mE "__annotations__")=(true,CK,ann))
(h2:topRun pP p w CK ann N s (topStub p)=some s')
(h3:(staticsOk (wH p.main.body) s.heap s'.heap&&namesBound p s'.heap&&gensDone s'&&laidKept s.heap s'.heap)=true):topFrom pP p w N s=some s':=by
 obtain⟨z1,z2,z3⟩:=Je h1;unfold topFrom;rw[z1,z2,z3,h2];dsimp only[SD];rw[h3]
theorem acR{p q:Program}{loose:List Str}{Xt:ag->Bool}{α:Type}{Yf:ag->α}{Ya:cO->α}{N:Nat}{w9:cD->am}{Ls:Array jp}{Uh:Drawn}{Ui:Nat}{CK:Nat}{ann:Option ac}
(Gr:∀w:cO,(fencedOpening pP p w N).map (λs=>(s.heap,s.gens,s.drawn,s.toks))=some (w9 w.params,Ls,Uh,Ui))
(size:∀w:cO,((w9 w.params).isNs mE&&Ls.size==0,(w9 w.params).objs.size,(w9 w.params).nsMap mE "__annotations__")=(true,CK,ann))
(run:∀(w:cO) (os:wE),∃S:SharedT,topRun pP p w CK ann N ⟨w9 w.params,Ls,Uh,Ui,os⟩ (topStub p)=some S.abs/\
   ((staticsOk (wH p.main.body) (w9 w.params) S.abs.heap&&namesBound p S.abs.heap&&gensDone S.abs&&laidKept (w9 w.params) S.abs.heap),
    openSeen q loose (wH p.main.body) Xt true S.abs,Yf S.abs)=(true,openGood q loose,Ya w)):LeftO p q loose Xt Yf Ya N:=λw=>by
 obtain⟨⟨h,gs,d,k,os⟩,e,e'⟩:=tE.mp (Gr w);obtain⟨e1,e2,e3,e4⟩:=PP (ay (congrArg some e'));dsimp only at e1 e2 e3 e4;subst e1 e2 e3 e4;obtain⟨S,hr,hl⟩:=run w os;obtain⟨l1,l2,l3⟩:=Je hl;have t:=X4 (size w) hr l1;unfold openEnds;rw[e];show(topFrom pP p w N _).map _=_;rw[t];exact congrArg some (Prod.ext l2 l3)
theorem left:LeftO pw qv ud (λ_=>true) Ff yH 10000:=acR ZA Ϥ adL
end
section
set_option maxHeartbeats 400000
def O2:aH:=ck 50
theorem afG:(defOf qv ("law":Str)).isSome=true:=⋯
def nM:DefRec:=((defOf qv ("law":Str)).get afG).1
abbrev uB(w:cO)(h:am):Prop:=(KL w.params).In h/\KT.In h
theorem hY(w:cO)(s:ag)(e:Ff s=yH w):uB w s.heap:=by
 obtain⟨_,h2,h3⟩:=Je e;exact⟨kq.in_of (as:=Np) ⋯ h2,kq.in_of (as:=[25,32,40]) ⋯ h3⟩
noncomputable abbrev eh:OpenRow:=Ll.row
theorem Yc:defOf qv ("law":Str)=some (nM,[]):=⋯
theorem okL:(chainsOk qv&&opensWell eh.prog&&(frees eh.toRowW&&eh.toRowW.within.isEmpty))=true:=⋯
theorem XK:eh.prog.bare:=by
 unfold Program.bare;exact⟨rfl,rfl,rfl,rfl,by rfl,⋯⟩
theorem ahI(k1:eh.wellSaid=true)(hw:eh.toRowW.promised)
(bC:WalkO qv ud (λ_ _=>True) uB eh.toRowW nM [] λf vs=>SE f vs):eh.Holds:=
 holds_open (q:=qv) (loose:=ud) (Xt:=λ_=>true) (XP:=λ_ _=>True) (Yf:=Ff) (Ya:=yH) (YP:=uB) (d:=nM) (kwd:=[]) left hY (λw h h' x k=>⟨x.1.keeps k,x.2.keeps k⟩) (λ_ _=>trivial) (λ_ _ _ _ _=>trivial)
  Yc ⋯ ⋯ (λs _=>recFacts_nil rfl) ⋯ k1 okL XK hw bC
end
section
universe u v
theorem af{α:Sort u}{β:Sort v}{Uj a₂:α}(f:α->β)(h:Uj=a₂):f Uj=f a₂:=congrArg f h
theorem iP{c:Prop}{_:Decidable c}(h:c){α:Sort u}{a b:α}:ite c a b=a:=if_pos h
theorem iN{c:Prop}{_:Decidable c}(h:¬c){α:Sort u}{a b:α}:ite c a b=b:=if_neg h
theorem dT{p:Prop}{_:Decidable p}(h:p):decide p=true:=decide_eq_true h
theorem cC{p:Prop}{_:Decidable p}(h:decide p=true):p:=of_decide_eq_true h
theorem dF{p:Prop}{_:Decidable p}(h:¬p):decide p=false:=decide_eq_false h
theorem iX{p:Prop}{_:Decidable p}(h:decide p=false):¬p:=of_decide_eq_false h
section
variable{α β:Type}{P:Prop}{c:Prop}[Decidable c]{a b:α}{x:Option α}{g:α->Option β}{r:β}{k:α->β}
theorem aj(h:x.bind g=some r)(K:∀a,x=some a->g a=some r->P):P:=by
 cases x with
 |none=>injection h|some a=>exact K a rfl h
@[elab_as_elim] theorem fG{m:β->Prop}(h:x.map k=some r)(K:∀a,x=some a->m (k a)):m r:=by
 cases x with
 |none=>injection h|some a=>injection h with h;exact h▸K a rfl
theorem fH(h:x.map k=some r)(K:∀a,x=some a->k a=r->P):P:=by
 cases x with
 |none=>injection h|some a=>injection h with h;exact K a rfl h
theorem aL(h:(if c then x else none)=some a)(K:c->x=some a->P):P:=by
 by_cases q:c
 ·rw[if_pos q] at h;exact K q h
 ·rw[if_neg q] at h;injection h
theorem fZ(h:(if c then none else x)=some a)(K:¬c->x=some a->P):P:=by
 by_cases q:c
 ·rw[if_pos q] at h;injection h
 ·rw[if_neg q] at h;exact K q h
@[elab_as_elim] theorem oI{m:α->Prop}(h:some a=some b)(K:m a):m b:=by injection h with h;exact h▸K
theorem nS(h:none=some a):P:=by injection h
theorem ff(h:false=true):P:=absurd h dy
theorem tf(h:true=false):P:=absurd h.symm dy
theorem sN(h:some a=none):P:=nS h.symm
theorem mN(h:a∈([]:List α)):P:=absurd h eX
theorem nl{l:List α}(h:[]=a::l):P:=absurd h.symm (SF a l)
theorem ln{l:List α}(h:a::l=[]):P:=absurd h (SF a l)
end
theorem aX{a b:Bool}(h:(a&&b)=true):a=true/\b=true:=T9.mp h
theorem mA{a b:Bool}(h:(a||b)=true):a=true\/b=true:=Ln.mp h
theorem a5{α:Type}[BEq α][LawfulBEq α]{a b:α}(h:(a==b)=true):a=b:=beq_iff_eq.mp h
theorem jU{α:Type}[BEq α][LawfulBEq α]{a b:α}(h:a=b):(a==b)=true:=beq_iff_eq.mpr h
theorem kH{α:Type}[BEq α][LawfulBEq α]{a b:α}(h:a≠b):(a==b)=false:=beq_eq_false_iff_ne.mpr h
theorem bw{α:Type}{a b:α}{l:List α}(h:a∈b::l):a=b\/a∈l:=jO.mp h
theorem b7{α:Type}{p:α->Bool}{l:List α}(h:l.all p=true):∀x∈l,p x=true:=KY.mp h
theorem cY{α:Type}{a b:α}(h:a∈[b]):a=b:=Gi.mp h
theorem dH{m n:Nat}(h:m<n):m∈ax n:=Lc.mpr h
theorem eL{m n:Nat}(h:m∈ax n):m<n:=Lc.mp h
theorem eJ{α:Type}{p:α->Bool}{l:List α}{x:α}(h:x∈l.filter p):x∈l/\p x=true:=oE.mp h
theorem oV{α:Type}{p:α->Bool}{l:List α}{x:α}(h:x∈l/\p x=true):x∈l.filter p:=oE.mpr h
theorem fA{p q:Prop}{_:Decidable p}{_:Decidable q}(h:p↔q):decide p=decide q:=decide_eq_decide.mpr h
theorem gJ{m n:Nat}(h:n<=m):¬m<n:=Nat.not_lt.mpr h
theorem nF{m n:Nat}(h:n<m):¬m<=n:=Nat.not_le.mpr h
theorem iA{m n:Int}(h:n<=m):¬m<n:=Int.not_lt.mpr h
theorem jK{m n:Int}(h:¬m<n):n<=m:=Int.not_lt.mp h
theorem iS{α:Type}{a:α}{l:List α}(h:(a::l).Nodup):a∉l/\l.Nodup:=List.nodup_cons.mp h
theorem ny{α:Type}{a:α}{l:List α}(h:a∉l/\l.Nodup):(a::l).Nodup:=List.nodup_cons.mpr h
theorem jf{m n:Nat}(h:m<n):(m:Int)<n:=u9.mpr h
theorem pz{m n:Nat}(h:m<=n):(m:Int)<=n:=T4.mpr h
theorem jI{α:Type}{l:List α}(h:l.isEmpty=true):l=[]:=List.isEmpty_iff.mp h
theorem lO{α:Type}{R:α->α->Prop}{a:α}{l:List α}(h:(a::l).Pairwise R):(∀b∈l,R a b)/\l.Pairwise R:=Gk.mp h
theorem mf{α:Type}{a:α}{s t:List α}(h:a∈s++t):a∈s\/a∈t:=Lh.mp h
theorem m8{a:Bool}(h:a≠true):a=false:=Bool.eq_false_iff.mpr h
theorem qg{α:Type}[BEq α][LawfulBEq α]{a:α}{l:List α}(h:l.contains a=true):a∈l:=kz.mp h
theorem bE{P:Prop}(h:∀G:Prop,(P->G)->G):P:=h P id
end
section
variable{kF oG tH zv Lu:Type}{G:Prop}
section
variable{P0 P1 P2 P3 P4 P5 P6:Prop}
theorem dU(h:P0/\P1)(K:P0->P1->G):G:=K h.1 h.2
theorem e8(h:P0/\P1/\P2)(K:P0->P1->P2->G):G:=K h.1 h.2.1 h.2.2
theorem afq(h:P0/\P1/\P2/\P3)(K:P0->P1->P2->P3->G):G:=K h.1 h.2.1 h.2.2.1 h.2.2.2
theorem aaf(h:P0/\P1/\P2/\P3/\P4/\P5/\P6)(K:P0->P1->P2->P3->P4->P5->P6->G):G:=K h.1 h.2.1 h.2.2.1 h.2.2.2.1 h.2.2.2.2.1 h.2.2.2.2.2.1 h.2.2.2.2.2.2
end
section
variable{P0 P1 P2 P3 P4 P5 P6:kF->Prop}
theorem dL(h:∃x,P0 x)(K:∀x,P0 x->G):G:=by obtain⟨x,h0⟩:=h;exact K x h0
theorem aB(h:∃x,P0 x/\P1 x)(K:∀x,P0 x->P1 x->G):G:=by obtain⟨x,h0,h1⟩:=h;exact K x h0 h1
theorem cP(h:∃x,P0 x/\P1 x/\P2 x)(K:∀x,P0 x->P1 x->P2 x->G):G:=by obtain⟨x,h0,h1,h2⟩:=h;exact K x h0 h1 h2
theorem kP(h:∃x,P0 x/\P1 x/\P2 x/\P3 x)(K:∀x,P0 x->P1 x->P2 x->P3 x->G):G:=by obtain⟨x,h0,h1,h2,h3⟩:=h;exact K x h0 h1 h2 h3
theorem VT(h:∃x,P0 x/\P1 x/\P2 x/\P3 x/\P4 x/\P5 x)(K:∀x,P0 x->P1 x->P2 x->P3 x->P4 x->P5 x->G):G:=by obtain⟨x,h0,h1,h2,h3,h4,h5⟩:=h;exact K x h0 h1 h2 h3 h4 h5
end
section
variable{P0 P1 P2 P3 P4 P5 P6:kF->oG->Prop}
theorem km(h:∃x y,P0 x y)(K:∀x y,P0 x y->G):G:=by obtain⟨x,y,h0⟩:=h;exact K x y h0
theorem eH(h:∃x y,P0 x y/\P1 x y)(K:∀x y,P0 x y->P1 x y->G):G:=by obtain⟨x,y,h0,h1⟩:=h;exact K x y h0 h1
theorem sx(h:∃x y,P0 x y/\P1 x y/\P2 x y)(K:∀x y,P0 x y->P1 x y->P2 x y->G):G:=by obtain⟨x,y,h0,h1,h2⟩:=h;exact K x y h0 h1 h2
theorem DN(h:∃x y,P0 x y/\P1 x y/\P2 x y/\P3 x y)(K:∀x y,P0 x y->P1 x y->P2 x y->P3 x y->G):G:=by obtain⟨x,y,h0,h1,h2,h3⟩:=h;exact K x y h0 h1 h2 h3
theorem acX(h:∃x y,P0 x y/\P1 x y/\P2 x y/\P3 x y/\P4 x y)(K:∀x y,P0 x y->P1 x y->P2 x y->P3 x y->P4 x y->G):G:=by obtain⟨x,y,h0,h1,h2,h3,h4⟩:=h;exact K x y h0 h1 h2 h3 h4
end
section
variable{P0 P1 P2 P3 P4 P5 P6:kF->oG->tH->Prop}
theorem uz(h:∃x y z,P0 x y z/\P1 x y z)(K:∀x y z,P0 x y z->P1 x y z->G):G:=by obtain⟨x,y,z,h0,h1⟩:=h;exact K x y z h0 h1
theorem jH(h:∃x y z,P0 x y z/\P1 x y z/\P2 x y z)(K:∀x y z,P0 x y z->P1 x y z->P2 x y z->G):G:=by obtain⟨x,y,z,h0,h1,h2⟩:=h;exact K x y z h0 h1 h2
theorem xH(h:∃x y z,P0 x y z/\P1 x y z/\P2 x y z/\P3 x y z)(K:∀x y z,P0 x y z->P1 x y z->P2 x y z->P3 x y z->G):G:=by obtain⟨x,y,z,h0,h1,h2,h3⟩:=h;exact K x y z h0 h1 h2 h3
theorem Ds(h:∃x y z,P0 x y z/\P1 x y z/\P2 x y z/\P3 x y z/\P4 x y z)(K:∀x y z,P0 x y z->P1 x y z->P2 x y z->P3 x y z->P4 x y z->G):G:=by obtain⟨x,y,z,h0,h1,h2,h3,h4⟩:=h;exact K x y z h0 h1 h2 h3 h4
end
section
variable{P0 P1 P2 P3 P4 P5 P6:kF->oG->tH->zv->Prop}
theorem ab3(h:∃x y z u,P0 x y z u)(K:∀x y z u,P0 x y z u->G):G:=by obtain⟨x,y,z,u,h0⟩:=h;exact K x y z u h0
theorem ut(h:∃x y z u,P0 x y z u/\P1 x y z u)(K:∀x y z u,P0 x y z u->P1 x y z u->G):G:=by obtain⟨x,y,z,u,h0,h1⟩:=h;exact K x y z u h0 h1
theorem ab0(h:∃x y z u,P0 x y z u/\P1 x y z u/\P2 x y z u)(K:∀x y z u,P0 x y z u->P1 x y z u->P2 x y z u->G):G:=by obtain⟨x,y,z,u,h0,h1,h2⟩:=h;exact K x y z u h0 h1 h2
theorem Mf(h:∃x y z u,P0 x y z u/\P1 x y z u/\P2 x y z u/\P3 x y z u)(K:∀x y z u,P0 x y z u->P1 x y z u->P2 x y z u->P3 x y z u->G):G:=by obtain⟨x,y,z,u,h0,h1,h2,h3⟩:=h;exact K x y z u h0 h1 h2 h3
theorem Ny(h:∃x y z u,P0 x y z u/\P1 x y z u/\P2 x y z u/\P3 x y z u/\P4 x y z u)(K:∀x y z u,P0 x y z u->P1 x y z u->P2 x y z u->P3 x y z u->P4 x y z u->G):G:=by obtain⟨x,y,z,u,h0,h1,h2,h3,h4⟩:=h;exact K x y z u h0 h1 h2 h3 h4
end
section
variable{P0 P1 P2 P3 P4 P5 P6:kF->oG->tH->zv->Lu->Prop}
theorem wa(h:∃x y z u v,P0 x y z u v/\P1 x y z u v)(K:∀x y z u v,P0 x y z u v->P1 x y z u v->G):G:=by obtain⟨x,y,z,u,v,h0,h1⟩:=h;exact K x y z u v h0 h1
end
section
variable{P0 P1 P2 P3 P4 P5 P6:Prop}
theorem eA(h0:P0)(h1:P1)(h2:P2):P0/\P1/\P2:=⟨h0,h1,h2⟩
theorem Aa(h0:P0)(h1:P1)(h2:P2)(h3:P3):P0/\P1/\P2/\P3:=⟨h0,h1,h2,h3⟩
theorem O'(h0:P0)(h1:P1)(h2:P2)(h3:P3)(h4:P4):P0/\P1/\P2/\P3/\P4:=⟨h0,h1,h2,h3,h4⟩
theorem adr(h0:P0)(h1:P1)(h2:P2)(h3:P3)(h4:P4)(h5:P5)(h6:P6):P0/\P1/\P2/\P3/\P4/\P5/\P6:=⟨h0,h1,h2,h3,h4,h5,h6⟩
end
section
variable{P0 P1 P2 P3 P4 P5 P6:kF->Prop}(x:kF)
theorem aA(h0:P0 x)(h1:P1 x):∃x,P0 x/\P1 x:=⟨x,h0,h1⟩
theorem cz(h0:P0 x)(h1:P1 x)(h2:P2 x):∃x,P0 x/\P1 x/\P2 x:=⟨x,h0,h1,h2⟩
theorem wc(h0:P0 x)(h1:P1 x)(h2:P2 x)(h3:P3 x):∃x,P0 x/\P1 x/\P2 x/\P3 x:=⟨x,h0,h1,h2,h3⟩
theorem h_(h0:P0 x)(h1:P1 x)(h2:P2 x)(h3:P3 x)(h4:P4 x)(h5:P5 x):∃x,P0 x/\P1 x/\P2 x/\P3 x/\P4 x/\P5 x:=⟨x,h0,h1,h2,h3,h4,h5⟩
end
section
variable{P0 P1 P2 P3 P4 P5 P6:kF->oG->Prop}(x:kF)(y:oG)
theorem jG(h0:P0 x y):∃x y,P0 x y:=⟨x,y,h0⟩
theorem dh(h0:P0 x y)(h1:P1 x y):∃x y,P0 x y/\P1 x y:=⟨x,y,h0,h1⟩
theorem ye(h0:P0 x y)(h1:P1 x y)(h2:P2 x y):∃x y,P0 x y/\P1 x y/\P2 x y:=⟨x,y,h0,h1,h2⟩
theorem tL(h0:P0 x y)(h1:P1 x y)(h2:P2 x y)(h3:P3 x y):∃x y,P0 x y/\P1 x y/\P2 x y/\P3 x y:=⟨x,y,h0,h1,h2,h3⟩
theorem M5(h0:P0 x y)(h1:P1 x y)(h2:P2 x y)(h3:P3 x y)(h4:P4 x y):∃x y,P0 x y/\P1 x y/\P2 x y/\P3 x y/\P4 x y:=⟨x,y,h0,h1,h2,h3,h4⟩
end
section
variable{P0 P1 P2 P3 P4 P5 P6:kF->oG->tH->Prop}(x:kF)(y:oG)(z:tH)
theorem AN(h0:P0 x y z)(h1:P1 x y z):∃x y z,P0 x y z/\P1 x y z:=⟨x,y,z,h0,h1⟩
theorem j5(h0:P0 x y z)(h1:P1 x y z)(h2:P2 x y z):∃x y z,P0 x y z/\P1 x y z/\P2 x y z:=⟨x,y,z,h0,h1,h2⟩
theorem yv(h0:P0 x y z)(h1:P1 x y z)(h2:P2 x y z)(h3:P3 x y z):∃x y z,P0 x y z/\P1 x y z/\P2 x y z/\P3 x y z:=⟨x,y,z,h0,h1,h2,h3⟩
theorem IJ(h0:P0 x y z)(h1:P1 x y z)(h2:P2 x y z)(h3:P3 x y z)(h4:P4 x y z):∃x y z,P0 x y z/\P1 x y z/\P2 x y z/\P3 x y z/\P4 x y z:=⟨x,y,z,h0,h1,h2,h3,h4⟩
theorem YG(h0:P0 x y z)(h1:P1 x y z)(h2:P2 x y z)(h3:P3 x y z)(h4:P4 x y z)(h5:P5 x y z):∃x y z,P0 x y z/\P1 x y z/\P2 x y z/\P3 x y z/\P4 x y z/\P5 x y z:=⟨x,y,z,h0,h1,h2,h3,h4,h5⟩
end
section
variable{P0 P1 P2 P3 P4 P5 P6:kF->oG->tH->zv->Prop}(x:kF)(y:oG)(z:tH)(u:zv)
theorem YR(h0:P0 x y z u):∃x y z u,P0 x y z u:=⟨x,y,z,u,h0⟩
theorem wy(h0:P0 x y z u)(h1:P1 x y z u)(h2:P2 x y z u)(h3:P3 x y z u):∃x y z u,P0 x y z u/\P1 x y z u/\P2 x y z u/\P3 x y z u:=⟨x,y,z,u,h0,h1,h2,h3⟩
theorem zU(h0:P0 x y z u)(h1:P1 x y z u)(h2:P2 x y z u)(h3:P3 x y z u)(h4:P4 x y z u):∃x y z u,P0 x y z u/\P1 x y z u/\P2 x y z u/\P3 x y z u/\P4 x y z u:=⟨x,y,z,u,h0,h1,h2,h3,h4⟩
end
section
variable{P0 P1 P2 P3 P4 P5 P6:kF->oG->tH->zv->Lu->Prop}(x:kF)(y:oG)(z:tH)(u:zv)(v:Lu)
theorem MV(h0:P0 x y z u v)(h1:P1 x y z u v):∃x y z u v,P0 x y z u v/\P1 x y z u v:=⟨x,y,z,u,v,h0,h1⟩
theorem Vm(h0:P0 x y z u v)(h1:P1 x y z u v)(h2:P2 x y z u v)(h3:P3 x y z u v)(h4:P4 x y z u v):∃x y z u v,P0 x y z u v/\P1 x y z u v/\P2 x y z u v/\P3 x y z u v/\P4 x y z u v:=⟨x,y,z,u,v,h0,h1,h2,h3,h4⟩
end
end
@[elab_as_elim] theorem gZ{α:Type}{a b:α}{m:α->Prop}(h:b=a)(k:m b):m a:=h▸k
@[elab_as_elim] theorem qy{α:Type}{m:Option α->Prop}(t:Option α)(none:m none)(some:∀a,m (some a)):m t:=Option.casesOn (motive:=m) t none some
@[elab_as_elim] theorem bO{α:Type}{m:List α->Prop}(t:List α)(nil:m [])(cons:∀a l,m (a::l)):m t:=List.casesOn (motive:=m) t nil cons
@[elab_as_elim] theorem ji{m:Bool->Prop}(t:Bool)(false:m false)(true:m true):m t:=Bool.casesOn (motive:=m) t false true
@[elab_as_elim] theorem nq{m:Nat->Prop}(t:Nat)(zero:m 0)(succ:∀n,m (n+1)):m t:=Nat.casesOn (motive:=m) t zero succ
@[elab_as_elim] theorem ej{m:aT->Prop}(t:aT)(BoolOp:∀(x0:PySem.BoolOp) (x1:_root_.List aT) (x2:b8),m (.BoolOp x0 x1 x2))(NamedExpr:∀(x0:aT) (x1:aT) (x2:b8),m (.NamedExpr x0 x1 x2))(BinOp:∀(x0:aT) (x1:PySem.Operator) (x2:aT) (x3:b8),m (.BinOp x0 x1 x2 x3))(UnaryOp:∀(x0:PySem.UnaryOp) (x1:aT) (x2:b8),m (.UnaryOp x0 x1 x2))(Lambda:∀(x0:SG) (x1:aT) (x2:ol) (x3:b8),m (.Lambda x0 x1 x2 x3))(IfExp:∀(x0:aT) (x1:aT) (x2:aT) (x3:b8),m (.IfExp x0 x1 x2 x3))(Dict:∀(x0:_root_.List (Option aT)) (x1:_root_.List aT) (x2:b8),m (.Dict x0 x1 x2))(Set:∀(x0:_root_.List aT) (x1:Nat) (x2:b8),m (.Set x0 x1 x2))(ListComp:∀(x0:aT) (x1:_root_.List Ke) (x2:ol) (x3:b8),m (.ListComp x0 x1 x2 x3))(SetComp:∀(x0:aT) (x1:_root_.List Ke) (x2:ol) (x3:b8),m (.SetComp x0 x1 x2 x3))(DictComp:∀(x0:aT) (x1:aT) (x2:_root_.List Ke) (x3:ol) (x4:b8),m (.DictComp x0 x1 x2 x3 x4))(GeneratorExp:∀(x0:aT) (x1:_root_.List Ke) (x2:ol) (x3:b8),m (.GeneratorExp x0 x1 x2 x3))(Await:∀(x0:aT) (x1:b8),m (.Await x0 x1))(Yield:∀(x0:Option aT) (x1:b8),m (.Yield x0 x1))(YieldFrom:∀(x0:aT) (x1:b8),m (.YieldFrom x0 x1))(Compare:∀(x0:aT) (x1:_root_.List PySem.CmpOp) (x2:_root_.List aT) (x3:b8),m (.Compare x0 x1 x2 x3))(Call:∀(x0:aT) (x1:_root_.List aT) (x2:_root_.List PySem.Keyword) (x3:b8),m (.Call x0 x1 x2 x3))(FormattedValue:∀(x0:aT) (x1:Int) (x2:Option aT) (x3:b8),m (.FormattedValue x0 x1 x2 x3))(JoinedStr:∀(x0:_root_.List aT) (x1:b8),m (.JoinedStr x0 x1))(Constant:∀(x0:Kf) (x1:Nat) (x2:b8),m (.Constant x0 x1 x2))(Attribute:∀(x0:aT) (x1:kr) (x2:b8),m (.Attribute x0 x1 x2))(Subscript:∀(x0:aT) (x1:aT) (x2:b8),m (.Subscript x0 x1 x2))(Starred:∀(x0:aT) (x1:b8),m (.Starred x0 x1))(Name:∀(x0:kr) (x1:b8),m (.Name x0 x1))(List:∀(x0:_root_.List aT) (x1:b8),m (.List x0 x1))(Tuple:∀(x0:_root_.List aT) (x1:Nat) (x2:b8),m (.Tuple x0 x1 x2))(Slice:∀(x0:Option aT) (x1:Option aT) (x2:Option aT) (x3:b8),m (.Slice x0 x1 x2 x3)):m t:=aT.casesOn (motive_1:=m) t BoolOp NamedExpr BinOp UnaryOp Lambda IfExp Dict Set ListComp SetComp DictComp GeneratorExp Await Yield YieldFrom Compare Call FormattedValue JoinedStr Constant Attribute Subscript Starred Name List Tuple Slice
@[elab_as_elim] theorem PZ{m:gQ->Prop}(t:gQ)(FunctionDef:∀(x0:kr) (x1:SG) (x2:_root_.List gQ) (x3:_root_.List aT) (x4:Option aT) (x5:_root_.List Kg) (x6:ol) (x7:Option ol) (x8:kr) (x9:b8),m (.FunctionDef x0 x1 x2 x3 x4 x5 x6 x7 x8 x9))(AsyncFunctionDef:∀(x0:kr) (x1:SG) (x2:_root_.List gQ) (x3:_root_.List aT) (x4:Option aT) (x5:_root_.List Kg) (x6:ol) (x7:Option ol) (x8:kr) (x9:b8),m (.AsyncFunctionDef x0 x1 x2 x3 x4 x5 x6 x7 x8 x9))(ClassDef:∀(x0:kr) (x1:_root_.List aT) (x2:_root_.List PySem.Keyword) (x3:_root_.List gQ) (x4:_root_.List aT) (x5:_root_.List Kg) (x6:ol) (x7:Option ol) (x8:kr) (x9:_root_.List kr) (x10:b8),m (.ClassDef x0 x1 x2 x3 x4 x5 x6 x7 x8 x9 x10))(Return:∀(x0:Option aT) (x1:b8),m (.Return x0 x1))(Delete:∀(x0:_root_.List aT) (x1:b8),m (.Delete x0 x1))(Assign:∀(x0:_root_.List aT) (x1:aT) (x2:b8),m (.Assign x0 x1 x2))(TypeAlias:∀(x0:aT) (x1:_root_.List Kg) (x2:aT) (x3:ol) (x4:Option ol) (x5:kr) (x6:b8),m (.TypeAlias x0 x1 x2 x3 x4 x5 x6))(AugAssign:∀(x0:aT) (x1:PySem.Operator) (x2:aT) (x3:b8),m (.AugAssign x0 x1 x2 x3))(AnnAssign:∀(x0:aT) (x1:aT) (x2:Option aT) (x3:Int) (x4:b8),m (.AnnAssign x0 x1 x2 x3 x4))(For:∀(x0:aT) (x1:aT) (x2:_root_.List gQ) (x3:_root_.List gQ) (x4:b8),m (.For x0 x1 x2 x3 x4))(AsyncFor:∀(x0:aT) (x1:aT) (x2:_root_.List gQ) (x3:_root_.List gQ) (x4:b8),m (.AsyncFor x0 x1 x2 x3 x4))(While:∀(x0:aT) (x1:_root_.List gQ) (x2:_root_.List gQ) (x3:b8),m (.While x0 x1 x2 x3))(If:∀(x0:aT) (x1:_root_.List gQ) (x2:_root_.List gQ) (x3:b8),m (.If x0 x1 x2 x3))(With:∀(x0:_root_.List PySem.WithItem) (x1:_root_.List gQ) (x2:b8),m (.With x0 x1 x2))(AsyncWith:∀(x0:_root_.List PySem.WithItem) (x1:_root_.List gQ) (x2:b8),m (.AsyncWith x0 x1 x2))(Match:∀(x0:aT) (x1:_root_.List PySem.MatchCase) (x2:b8),m (.Match x0 x1 x2))(Raise:∀(x0:Option aT) (x1:Option aT) (x2:b8),m (.Raise x0 x1 x2))(Try:∀(x0:_root_.List gQ) (x1:_root_.List af9) (x2:_root_.List gQ) (x3:_root_.List gQ) (x4:b8),m (.Try x0 x1 x2 x3 x4))(TryStar:∀(x0:_root_.List gQ) (x1:_root_.List af9) (x2:_root_.List gQ) (x3:_root_.List gQ) (x4:b8),m (.TryStar x0 x1 x2 x3 x4))(Assert:∀(x0:aT) (x1:Option aT) (x2:b8),m (.Assert x0 x1 x2))(Import:∀(x0:_root_.List PySem.Alias) (x1:b8),m (.Import x0 x1))(ImportFrom:∀(x0:Option kr) (x1:_root_.List PySem.Alias) (x2:Option Int) (x3:b8),m (.ImportFrom x0 x1 x2 x3))(Global:∀(x0:_root_.List kr) (x1:b8),m (.Global x0 x1))(Nonlocal:∀(x0:_root_.List kr) (x1:b8),m (.Nonlocal x0 x1))(Expr:∀(x0:aT) (x1:b8),m (.Expr x0 x1))(Pass:∀(x0:b8),m (.Pass x0))(Break:∀(x0:b8),m (.Break x0))(Continue:∀(x0:b8),m (.Continue x0)):m t:=gQ.casesOn (motive_2:=m) t FunctionDef AsyncFunctionDef ClassDef Return Delete Assign TypeAlias AugAssign AnnAssign For AsyncFor While If With AsyncWith Match Raise Try TryStar Assert Import ImportFrom Global Nonlocal Expr Pass Break Continue
@[elab_as_elim] theorem AF{m:SH->Prop}(t:SH)(none:m (.none))(ellipsis:m (.ellipsis))(notImplemented:m (.notImplemented))(bool:∀(x0:Bool),m (.bool x0))(int:∀(x0:Int) (x1:Kh),m (.int x0 x1))(float:∀(x0:UInt64) (x1:Kh),m (.float x0 x1))(str:∀(x0:kr) (x1:Kh),m (.str x0 x1))(bytes:∀(x0:Array UInt8) (x1:Kh),m (.bytes x0 x1))(type:∀(x0:String),m (.type x0))(builtin:∀(x0:String),m (.builtin x0))(ref:∀(x0:PySem.Addr),m (.ref x0)):m t:=SH.casesOn (motive:=m) t none ellipsis notImplemented bool int float str bytes type builtin ref
@[elab_as_elim] theorem csC{m:Kf->Prop}(t:Kf)(none:m (.none))(bool:∀(x0:Bool),m (.bool x0))(int:∀(x0:Int),m (.int x0))(float:∀(x0:UInt64),m (.float x0))(complex:∀(x0:UInt64) (x1:UInt64),m (.complex x0 x1))(str:∀(x0:kr),m (.str x0))(bytes:∀(x0:List UInt8),m (.bytes x0))(ellipsis:m (.ellipsis)):m t:=Kf.casesOn (motive:=m) t none bool int float complex str bytes ellipsis
inductive PV where
 |none|bool (b:Bool)|int (i:Int)|str (s:Str)
 |tup (l:List PV)|list (l:List PV)|set (l:List Nat)|d5 (lo hi:Int)
 |inst (c:Nat) (fs:List (Str×PV))
 |any
 deriving Inhabited
@[elab_as_elim] theorem dq{m:PV->Prop}(t:PV)(none:m (.none))(bool:∀(x0:Bool),m (.bool x0))(int:∀(x0:Int),m (.int x0))(str:∀(x0:Str),m (.str x0))(tup:∀(x0:List PV),m (.tup x0))(list:∀(x0:List PV),m (.list x0))(set:∀(x0:List Nat),m (.set x0))(d5:∀(x0:Int) (x1:Int),m (.d5 x0 x1))(inst:∀(x0:Nat) (x1:List (Str×PV)),m (.inst x0 x1))(any:m (.any)):m t:=PV.casesOn (motive_1:=m) t none bool int str tup list set d5 inst any
abbrev bj:=List (Str×PV)
abbrev aN:=List (Str×gU)
structure aK where
 fn:Str->List PV->List (Str×PV)->Option PV
 bM:Nat->Str->List PV->List (Str×PV)->Option PV
 attr:Nat->Str->PV->Option PV
 bin:ia->PV->PV->Option PV
 cmp:iF->PV->PV->Option Bool
 make:Str->List PV->List (Str×PV)->Option (Nat×List (Str×PV)×List Str)
 l6:Nat->List (Str×PV)->List Str->Str->List PV->Option (List (Str×PV))
 n9:Str->List PV->List (Str×PV)->Bool
 gens:Bool
noncomputable def dg:Nat:=194
noncomputable def p8:Nat:=252
noncomputable def cM:Nat:=362
noncomputable def bv:Nat:=613
noncomputable def iw:Nat:=650
noncomputable def ak{α:Type}(l:List (Str×α))(x:Str):Option α:=match l with
 |[]=>aP|(y,v)::r=>if y=x then some v else ak r x
noncomputable def cf{α:Type}(l:List (Str×α))(x:Str)(v:α):List (Str×α):=match l with
 |[]=>[(x,v)]|(y,u)::r=>if y=x then(x,v)::r else(y,u)::cf r x v
structure PA(α:Type) where
 d:α
 zF:α:=d
 BM:Bool->α:=λ_=>d
 pn:Int->α:=λ_=>d
 xy:Str->α:=λ_=>d
 uv:List PV->α:=λ_=>d
 o8:List PV->α:=λ_=>d
 yf:List Nat->α:=λ_=>d
 Pn:Int->Int->α:=λ_ _=>d
 jg:Nat->List (Str×PV)->α:=λ_ _=>d
 M7:α:=d
noncomputable def PA.on{α:Type}(f:PA α)(p:PV):α:=match p with
 |.none=>f.zF|.bool a=>f.BM a|.int a=>f.pn a|.str a=>f.xy a|.tup a=>f.uv a|.list a=>f.o8 a|.set a=>f.yf a|.d5 a b=>f.Pn a b|.inst a b=>f.jg a b|.any=>f.M7
def PV.isScalar:PV->Bool:=PA.on {d:=false,zF:=(true),BM:=λ_=>(true),pn:=λ_=>(true),xy:=λ_=>(true)}
def PV.pJ:PV->Bool:=PA.on {d:=false,jg:=λ_ _=>(true)}
def PV.xt:PV->Option Unit:=PA.on {d:=aP,zF:=(some ())}
def PV.eg:PV->Option Int:=PA.on {d:=aP,pn:=λi=>(some i)}
def PV.wt:PV->Option Str:=PA.on {d:=aP,xy:=λi=>(some i)}
def PV.xC:PV->Option Bool:=PA.on {d:=aP,BM:=λi=>(some i)}
def PV.io:PV->Option (List PV):=PA.on {d:=aP,o8:=λi=>(some i)}
def PV.C3:PV->Option (List PV):=PA.on {d:=aP,uv:=λi=>(some i)}
def PV.Af:PV->Option (List Nat):=PA.on {d:=aP,yf:=λi=>(some i)}
section
variable{p:PV}{m:PV->Prop}
@[elab_as_elim] theorem AY{i:Unit}(h:p.xt=some i)(K:m .none):m p:=by
 induction p using dq with
 |none=>exact K|_=>exact nS h
@[elab_as_elim] theorem eu{i:Int}(h:p.eg=some i)(K:m (.int i)):m p:=by
 induction p using dq with
 |int j=>exact ay h▸K|_=>exact nS h
@[elab_as_elim] theorem AZ{i:Str}(h:p.wt=some i)(K:m (.str i)):m p:=by
 cases p with
 |str j=>exact ay h▸K|_=>exact nS h
@[elab_as_elim] theorem E2{i:Bool}(h:p.xC=some i)(K:m (.bool i)):m p:=by
 induction p using dq with
 |bool j=>exact ay h▸K|_=>exact nS h
@[elab_as_elim] theorem pM{i:List PV}(h:p.io=some i)(K:m (.list i)):m p:=by
 induction p using dq with
 |list j=>exact ay h▸K|_=>exact nS h
@[elab_as_elim] theorem JT{i:List PV}(h:p.C3=some i)(K:m (.tup i)):m p:=by
 induction p using dq with
 |tup j=>exact ay h▸K|_=>exact nS h
@[elab_as_elim] theorem adK{i:List Nat}(h:p.Af=some i)(K:m (.set i)):m p:=by
 induction p using dq with
 |set j=>exact ay h▸K|_=>exact nS h
end
def PV.truth:PV->Option Bool:=PA.on {d:=aP,zF:=(some false),BM:=λb=>(some b),pn:=λi=>(some (decide (i≠0))),o8:=λl=>(some (!l.isEmpty))}
noncomputable def du:Nat->PV->PV->Option Bool
 |0,_,_=>aP
 |n+1,a,b=>match a with
  |.int i=>b.eg.map λj=>i==j|.str i=>b.wt.map λj=>i==j|.bool i=>b.xC.map λj=>i==j|.list l=>b.io.bind λm=>if l.length=m.length then qf (du n) l m else some false
  |_=>aP
where
 qf (f:PV->PV->Option Bool):List PV->List PV->Option Bool
  |[],_=>some true
  |x::l,m=>(match m with
   |[]=>some true|y::m=>(f x y).bind λr=>(qf f l m).map λq=>r&&q)
noncomputable def si(a b:Str):Bool:=decide (a.cps.toList<b.cps.toList)
def e7(O:aK)(a b:PV):Option Bool:=match a with
 |.int i=>b.eg.map λj=>decide (i<j)|.str i=>b.wt.map λj=>si i j|.list l=>b.io.bind λm=>pD l m|.inst c fs=>O.cmp .Lt (.inst c fs) b|_=>aP
where
 pD:List PV->List PV->Option Bool
  |[],m=>(match m with
   |[]=>some false|y::_=>y.eg.map λ_=>true)
  |x::l,m=>x.eg.bind λi=>(match m with
   |[]=>some false|y::m=>y.eg.bind λj=>if i=j then pD l m else some (decide (i<j)))
noncomputable def qQ{α:Type}(cmp:Nat->Nat->Option Bool):KasT α->Option α
 |.ret a=>some a|.ask i j k=>(cmp i j).bind λb=>qQ cmp (k b)
def ly{α:Type}(lt:α->α->Option Bool)(l:List α):Option (List α):=
 if l.length<2 then some l
 else if l.length<64 then(qQ (λi j=>(l[i]?).bind λa=>(l[j]?).bind (lt a)) (kas_sort l.length)).bind λp=>p.toList.mapM λi=>l[i]?
 else none
def qe{β:Type}(l:List Nat)(k:List PV->Option β):Option β:=
 open Classical in if h:∃r,∀l':List Nat,l'.Perm l->k (l'.map λn:Nat=>PV.int n)=some r then some h.choose else aP
theorem xL{β:Type}{l:List Nat}{k:List PV->Option β}{r:β}(h:qe l k=some r){l':List Nat}(p:l'.Perm l):k (l'.map λn:Nat=>PV.int n)=some r:=by
 unfold qe at h;split at h
 ·rename_i x;cases h;exact x.choose_spec l' p
 ·injection h
theorem MQ{β:Type}{l:List Nat}{k:List PV->Option β}{r:β}(h:∀l':List Nat,l'.Perm l->k (l'.map λn:Nat=>PV.int n)=some r):qe l k=some r:=by
 unfold qe;have x:∃r,∀l':List Nat,l'.Perm l->k (l'.map λn:Nat=>PV.int n)=some r:=⟨r,h⟩;erw[dif_pos x];have:=x.choose_spec l (B6 l);rw[h l (B6 l)] at this;exact this.symm
def yy:PV->Option (List PV):=PA.on {d:=aP,uv:=λl=>(some l),o8:=λl=>(some l),Pn:=λlo hi=>(some ((ax (hi-lo).toNat).map λk:Nat=>.int (lo+k))),jg:=λc fs=>(if c=bv then(ak fs "_voters").bind PV.io else aP)}
def over{β:Type}(v:PV)(k:List PV->Option β):Option β:=v.Af.elim ((yy v).bind k) λl=>qe l k
def eG{β:Type}(v:PV)(k:List PV->Option β):Option β:=if v.pJ=true then aP else over v k
noncomputable def jz{α:Type}(l:List α)(lo hi:Option Int):List α:=
 (l.drop (lo.elim 0 (wI l.length))).take (hi.elim l.length (wI l.length) -lo.elim 0 (wI l.length))
noncomputable def fy(n:Nat):List Nat->List Nat
 |[]=>[n]|m::r=>if n<m then n::m::r else if n=m then m::r else m::fy n r
def setOf:List PV->Option (List Nat)
 |[]=>some []|p::r=>p.eg.bind λi=>if 0<=i/\i<6 then(setOf r).map (fy i.toNat) else aP
noncomputable def d7:Nat:=1152921504606846976
noncomputable def az:Nat:=100000
def fw(op:ia)(i j:Int):Option PV:=match op with
 |.Add=>some (.int (i+j))|.Sub=>some (.int (i-j))|.Mult=>if j.natAbs<d7\/i.natAbs<d7 then some (.int (i*j)) else aP
 |.FloorDiv=>if j≠0/\j.natAbs<d7 then some (.int (i.fdiv j)) else aP
 |.Mod=>if j≠0 then some (.int (i.fmod j)) else aP
 |.Pow=>if i=2/\0<=j/\j<8 then some (.int (2^j.toNat)) else aP
 |.RShift=>if 0<=i/\0<=j/\j<8 then some (.int (i.fdiv (2^j.toNat))) else aP
 |.BitAnd=>if 0<=i/\j=1 then some (.int (i.fmod 2)) else aP
 |_=>aP
def Ql(op:ia)(l:List PV)(b:PV):Option PV:=
 if op=.Add then b.io.bind λm=>if l.length+m.length<=az then some (.list (l++m)) else aP
 else if op=.Mult then b.eg.bind λj=>if 0<=j/\j<=100/\l.length<=100 then some (.list (kt j.toNat l).flatten) else aP
 else aP
def fV(O:aK)(op:ia)(a b:PV):Option PV:=PA.on {d:=aP,pn:=λi=>(b.eg.bind λj=>fw op i j),o8:=λl=>(Ql op l b),uv:=λl=>(if op=.Add then b.C3.bind λm=>if l.length+m.length<=az then some (.tup (l++m)) else aP else aP),xy:=λs=>(if op=.Add then b.wt.bind λt=>if s.length+t.length<=az then some (.str (s++t)) else aP else aP),yf:=λl=>(if op=.BitAnd then b.Af.map λm=>.set (l.filter λx=>m.contains x) else aP),jg:=λc fs=>(O.bin op (.inst c fs) b)} a
def kR(n:Nat)(x:PV):List PV->Option Bool
 |[]=>some false|y::r=>(du n y x).bind λa=>(kR n x r).map λb=>a||b
def yd(k:Int->Int->Bool)(a b:PV):Option Bool:=a.eg.bind λi=>b.eg.map λj=>k i j
def Ay(O:aK)(op:iF)(a b:PV)(r:Option Bool):Option Bool:=PA.on {d:=r,jg:=λc fs=>(O.cmp op (.inst c fs) b)} a
def JF(a b:PV):Option Bool:=PA.on {d:=aP,zF:=(b.xt.map λ_=>true),o8:=λ_=>(b.xt.map λ_=>false),pn:=λ_=>(b.xt.map λ_=>false),uv:=λ_=>(b.xt.map λ_=>false)} a
def G2(a b:PV):Option Bool:=PA.on {d:=aP,o8:=λl=>(kR 4 a l),uv:=λl=>(kR 4 a l)} b
def fe(O:aK)(op:iF)(a b:PV):Option Bool:=match op with
 |.Eq=>Ay O .Eq a b (du 4 a b)|.NotEq=>(du 4 a b).map not|.Lt=>yd (λi j=>decide (i<j)) a b|.LtE=>yd (λi j=>decide (i<=j)) a b|.Gt=>Ay O .Gt a b (yd (λi j=>decide (j<i)) a b)|.GtE=>Ay O .GtE a b (yd (λi j=>decide (j<=i)) a b)|.Is=>JF a b|.IsNot=>(JF a b).map not|.In=>G2 a b|.NotIn=>(G2 a b).map not
def pJ(v:PV)(c:Str):Option Bool:=PA.on {d:=aP,pn:=λ_=>(if c=("int":Str) then some true else if c=("Fraction":Str) then some false else aP),jg:=λk _=>(if k=dg then(if c=("int":Str) then some false else if c=("Fraction":Str) then some true else aP)
  else if k=iw/\c=("Voter":Str) then some true else aP)} v
structure EA(α:Type) where
 d:α
 kK:Str->Pos->α:=λ_ _=>d
 uw:List aT->Nat->Pos->α:=λ_ _ _=>d
 uI:aT->List aT->List fj->Pos->α:=λ_ _ _ _=>d
 yc:aT->ia->aT->Pos->α:=λ_ _ _ _=>d
 tM:aT->Str->Pos->α:=λ_ _ _=>d
 AU:aT->List jL->fk->Pos->α:=λ_ _ _ _=>d
 P8:Option aT->Option aT->Option aT->Pos->α:=λ_ _ _ _=>d
 wz:List aT->Pos->α:=λ_ _=>d
 BJ:Const->Nat->Pos->α:=λ_ _ _=>d
 wd:aT->aT->Pos->α:=λ_ _ _=>d
 DR:List (Option aT)->List aT->Pos->α:=λ_ _ _=>d
 yk:aT->List jL->fk->Pos->α:=λ_ _ _ _=>d
 BN:PySem.UnaryOp->aT->Pos->α:=λ_ _ _=>d
 BC:PySem.BoolOp->List aT->Pos->α:=λ_ _ _=>d
 A3:aT->List iF->List aT->Pos->α:=λ_ _ _ _=>d
 QF:aT->Pos->α:=λ_ _=>d
 HX:aT->aT->aT->Pos->α:=λ_ _ _ _=>d
 Sz:List aT->Nat->Pos->α:=λ_ _ _=>d
noncomputable def EA.on{α:Type}(f:EA α)(e:Expr):α:=match e with
 |.Name a b=>f.kK a b|.Tuple a b c=>f.uw a b c|.Call a b c d=>f.uI a b c d|.BinOp a b c d=>f.yc a b c d|.Attribute a b c=>f.tM a b c|.GeneratorExp a b c d=>f.AU a b c d|.Slice a b c d=>f.P8 a b c d|.List a b=>f.wz a b|.Constant a b c=>f.BJ a b c|.Subscript a b c=>f.wd a b c|.Dict a b c=>f.DR a b c|.ListComp a b c d=>f.yk a b c d|.UnaryOp a b c=>f.BN a b c|.BoolOp a b c=>f.BC a b c|.Compare a b c d=>f.A3 a b c d|.Starred a b=>f.QF a b|.IfExp a b c d=>f.HX a b c d|.Set a b c=>f.Sz a b c|_=>f.d
def iB:Expr->Option Str:=EA.on {d:=aP,kK:=λx _=>some x}
def Rc:Expr->Option (List Str):=EA.on {d:=aP,kK:=λx _=>some [x],uw:=λes _ _=>es.mapM iB}
def iQ(v:PV):List Str->Option Bool
 |[]=>some false|c::r=>(pJ v c).bind λb=>if b=true then some true else iQ v r
noncomputable def IN(x:Str):Option PV:=
 if x=("available_algorithms":Str) then some (.list [.str "branch-and-bound",.str "brute-force",.str "standard",.str "standard-fractions"])
 else if x=("_law_orders":Str) then
  let il (l:List Int):PV:=.list (l.map .int)
  some (.list [.list [il [0,1],il [1,0]],.list [il [0,1,2],il [0,2,1],il [1,0,2],il [1,2,0],il [2,0,1],il [2,1,0]]])
 else aP
def Ad(c:Nat)(x:Str):Option PV:=
 if c=cM then
  if x=("_THIELE_ALGORITHMS":Str) then some (.tup [.str "gurobi",.str "pulp-highs",.str "pulp-cbc",.str "branch-and-bound",.str "brute-force"])
  else if x=("_RESOLUTE_VALUES_FOR_OPTIMIZATION_BASED_RULES":Str) then some (.tup [.bool false,.bool true])
  else aP
 else aP
def gY{α:Type}(nm:aN)(x:Str)(v:α)(σ:List (Str×α)):Option (List (Str×α)):=if ak nm x=some .local\/ak nm x=some .cell then some (cf σ x v) else aP
def As{S:Type}(put:Str->PV->S->Option S):List Expr->List PV->S->Option S
 |[],l,σ=>if l.isEmpty=true then some σ else aP
 |e::es,l,σ=>(match l with
  |[]=>aP|v::l=>(iB e).bind λx=>(put x v σ).bind (As put es l))
def fT{S:Type}(put:Str->PV->S->Option S)(t:Expr)(v:PV)(σ:S):Option S:=EA.on {d:=aP,kK:=λx _=>put x v σ,uw:=λes _ _=>v.C3.bind λl=>As put es l σ} t
def wb:Expr->List Str:=EA.on {d:=[],kK:=λx _=>[x],uw:=λes _ _=>es.filterMap iB}
def lx(t:Expr)(σ:bj):Bool:=(wb t).all λx=>(ak σ x).isNone
def pC(nm:aN):Bool:=(ak nm ("str_set_of_candidates":Str)).isSome||(ak nm ("candset":Str)).isSome||((ak nm ("approved":Str)).isSome&&(ak nm ("candidates":Str)).isSome)
noncomputable def vw:ac->Bool
 |.ref c=>c==29||c==36||c==44|_=>false
noncomputable def HV(sc:fk):Bool:= !sc.isCoroutine&&sc.names.lookup (".0":Str)==some .local&&sc.names.all λp=>p.2 !=.cell
def Bs(nm:aN)(sc:fk):Bool:=(sc.kind==.function&& !pC sc.names)&&sc.names.all λp=>ak sc.names p.1==some p.2&&(match p.2 with
 |.free=>(ak nm p.1==some .cell||ak nm p.1==some .free)&&p.1 !=("__classdict__":Str)|.local|.cell|.globalImplicit=>true|_=>false)
def lH(sc:fk)(σ:bj):bj:=σ.filter λp=>ak sc.names p.1==some .free
def qF(l:List PV):Option (List Int):=l.mapM PV.eg
def qw(l:List PV):Option Int:=(qF l).map yJ
noncomputable def vW(gt:PV->PV->Option Bool):PV->List PV->Option PV
 |m,[]=>some m|m,x::r=>(gt x m).bind λb=>if b=true then vW gt x r else vW gt m r
def yb(O:aK)(a b:PV):Option Bool:=PA.on {d:=aP,jg:=λc fs=>(O.cmp .Gt (.inst c fs) b),o8:=λl=>(b.io.bind λm=>e7.pD m l),pn:=λi=>(b.eg.map λj=>decide (j<i))} a
def Ih(l:List PV):Option (List Str):=l.mapM PV.wt
noncomputable def DA(sep:Str):List Str->Str
 |[]=> ""|x::r=>if r.isEmpty=true then x else x++sep++DA sep r
def J9(sep:Str)(l:List PV):Option Str:=(Ih l).bind λl=>if(l.map λx=>x.length+sep.length).sum<=az then some (DA sep l) else aP
def PG(v:PV):Option PV:=v.eg.map λi=>.int (-i)
def vR:List (Nat×Str):=[(dg,"numerator"),(dg,"denominator"),(p8,"name"),(p8,"param"),(cM,"rule_id"),(cM,"algorithms"),(cM,"resolute_values"),(cM,"available_algorithms"),
 (bv,"candidates"),(bv,"_voters"),(iw,"approved"),(iw,"weight")]
def PV.iQ:PV->Bool:=PA.on {d:=false,M7:=(true)}
def ϖ(O:aK)(x:Str)(c:Nat)(fs:List (Str×PV)):Option PV:=match ak fs x with
 |some v=>if vR.contains (c,x)=true/\v.iQ=false then some v else aP
 |aP=>match Ad c x with
  |some v=>some v|aP=>O.attr c x (.inst c fs)
def I6(O:aK)(x:Str):PV->Option PV:=PA.on {d:=aP,jg:=λc fs=>(ϖ O x c fs)}
def bQ(a b:PV):Option PV:=PA.on {d:=aP,o8:=λl=>(b.eg.bind λi=>(wJ i l.length).bind λj=>l[j]?),uv:=λl=>(b.eg.bind λi=>(wJ i l.length).bind λj=>l[j]?)} a
noncomputable def oM{α:Type}:List α->Option α
 |[a]=>some a|_=>aP
noncomputable def qJ{α:Type}:List α->Option (α×α)
 |[a,b]=>some (a,b)|_=>aP
def lP(vs:List PV)(ks:List (Str×PV)):Option PV:=if ks.isEmpty=true then oM vs else aP
def RU(vs:List PV)(ks:List (Str×PV)):Option (PV×PV):=if ks.isEmpty=true then qJ vs else aP
def IV(O:aK)(m:Str)(v:PV)(vs:List PV)(ks:List (Str×PV)):Option PV:=PA.on {d:=aP,jg:=λc fs=>(if(ak fs m).isNone=true then O.bM c m (.inst c fs::vs) ks else aP),yf:=λl=>(if m=("intersection":Str) then(lP vs ks).bind λu=>u.io.bind λv=>(qF v).map λdW=>.set (l.filter λx=>dW.contains (x:Int)) else aP),xy:=λs=>(if m=("join":Str) then(lP vs ks).bind λu=>u.io.bind λl=>(J9 s l).map .str else aP)} v
def I5(O:aK)(v:PV):Option PV:=PA.on {d:=aP,o8:=λl=>(some (.int l.length)),uv:=λl=>(some (.int l.length)),yf:=λl=>(some (.int l.length)),jg:=λc fs=>(O.fn "len" [.inst c fs] [])} v
def f9(a b:Int):Option PV:=if a.natAbs<d7/\b.natAbs<d7/\b-a<=(az:Nat) then some (.d5 a b) else aP
def tY(O:aK)(l:List PV):Option PV:=match l with
 |x::r=>vW (yb O) x r|[]=>aP
def oZ(mk:List PV->PV)(l:List PV):Option PV:=if l.length<=az then some (mk l) else aP
def nV(O:aK)(f:Str)(vs:List PV)(ks:List (Str×PV)):Option PV:=
 if f=("len":Str) then(lP vs ks).bind (I5 O)
 else if f=("range":Str) then(if vs.length=1 then(lP vs ks).bind λv=>v.eg.bind (f9 0) else(RU vs ks).bind λp=>p.1.eg.bind λa=>p.2.eg.bind (f9 a))
 else if f=("sum":Str) then(lP vs ks).bind λv=>v.io.bind λl=>(qw l).map .int
 else if f=("max":Str) then(lP vs ks).bind λv=>v.io.bind (tY O)
 else if f=("abs":Str) then(lP vs ks).bind λv=>v.eg.map λi=>.int i.natAbs
 else if f=("int":Str) then(lP vs ks).bind λv=>v.eg.map .int
 else if f=("str":Str) then(lP vs ks).bind λv=>v.eg.bind λi=>if i.natAbs<d7 then some (.str (dw (toString i))) else aP
 else if f=("set":Str) then(lP vs ks).bind λv=>(eG v setOf).map .set
 else if f=("list":Str) then(lP vs ks).bind λv=>if v.pJ=true then aP else(yy v).bind (oZ .list)
 else O.fn f vs ks
def jV:PV->Nat:=PA.on {d:=0,pn:=λ_=>(1),xy:=λ_=>(2),o8:=λ_=>(3),jg:=λc _=>(if c=dg then 4 else 0)}
def ph(l:List PV):Bool:=match l with
 |[]=>true|p::r=>jV p !=0&&r.all λq=>jV q==jV p
noncomputable def nX(O:aK)(k:Str)(vs:List PV):Option (List (PV×PV)):=vs.mapM λv=>(O.fn k [v] []).map λu=>(u,v)
def eC(O:aK)(nm:aN)(vs:List PV):List fj->Option PV
 |[]=>if ph vs=true then(ly (e7 O) vs).map .list else none
 |k::r=>if r.isEmpty=true/\k.arg=some ("key":Str) then(iB k.value).bind λg=>if g≠("__debug__":Str)/\ak nm g=some .globalImplicit/\vs≠[] then(nX O g vs).bind λks=>
   if ph (ks.map (·.1))=true then(ly (λa b=>e7 O a.1 b.1) ks).map λl=>.list (l.map (·.2)) else none
  else none else none
def PV.BZ(b:Bool):PV->Bool:=PA.on {d:=false,BM:=λc=>(c==b)}
def xY(b:Bool)(l:List PV):Option PV:=if(l.all (PV.BZ b))=true then some (.bool b) else aP
def abu:Expr->Bool:=EA.on {d:=false,kK:=λ_ _=>true,uI:=λ_ _ _ _=>true,yc:=λ_ _ _ _=>true,tM:=λ_ _ _=>true}
def zG:Expr->Bool:=EA.on {d:=false,kK:=λ_ _=>true,uI:=λ_ _ _ _=>true}
def Sh(nm:aN)(cs:List Str):Bool:=decide (0<cs.length/\cs.length<=100)&&cs.all λx=>ak nm x==some .globalImplicit&&(x==("int":Str)||x==("Fraction":Str)||x==("Voter":Str))
def tN:Expr->Bool:=EA.on {d:=false,uI:=λf as ks _=>(iB f).isSome&&(as.isEmpty&&ks.isEmpty)}
structure Ip where
 e:aN->bj->Expr->Option PV
 t:aN->bj->Expr->Option Bool
noncomputable def iR(ev:Expr->Option PV):List Expr->Option (List PV)
 |[]=>some []|e::r=>(ev e).bind λv=>(iR ev r).map λvs=>v::vs
noncomputable def rO(ev:Expr->Option PV):List fj->Option (List (Str×PV))
 |[]=>some []|k::r=>k.arg.bind λa=>(ev k.value).bind λv=>(rO ev r).map λvs=>(a,v)::vs
noncomputable def J'(ev:Expr->Option PV):Option Expr->Option (Option Int)
 |aP=>some aP|some e=>(ev e).bind λv=>v.eg.map some
noncomputable def D1:BoolOp->Bool
 |.And=>false|.Or=>true
noncomputable def pZ(te:Expr->Option Bool)(o:Bool):List Expr->Option Bool
 |[]=>some (!o)|x::r=>(te x).bind λb=>if b=o then some o else pZ te o r
noncomputable def Jk(ev:Expr->Option PV)(o:Bool):List Expr->Option PV
 |[]=>aP|x::r=>(ev x).bind λv=>if r.isEmpty=true then some v else v.xC.bind λb=>if b=o then some (.bool o) else Jk ev o r
def qA(body:bj->Option (List PV))(te:bj->Expr->Option Bool)(nm:aN)(t:Expr)(ifs:List Expr)(σ:bj):List PV->Option (List PV)
 |[]=>some []|v::src=>if lx t σ=true then(fT (gY nm) t v σ).bind λσ'=>(pZ (te σ') false ifs).bind λok=>(if ok=true then body σ' else some []).bind λhere=>(qA body te nm t ifs σ src).map λmore=>here++more else aP
def rH(I:Ip)(nm:aN)(elt:Expr):List jL->bj->Option (List PV)
 |[],σ=>(I.e nm σ elt).map λx=>[x]|g::gs,σ=>(I.e nm σ g.iter).bind λv=>(yy v).bind (qA (rH I nm elt gs) (I.t nm) nm g.target g.ifs σ)
def kJ(ev:bj->Expr->Option PV)(nm:aN)(t elt:Expr)(σ:bj):List PV->Option (List PV)
 |[]=>some []|v::src=>if lx t σ=true then(fT (gY nm) t v σ).bind λσ'=>(ev σ' elt).bind λx=>(kJ ev nm t elt σ src).map λmore=>x::more else aP
noncomputable def Rv:Const->Option PV
 |.none=>some .none|.bool b=>some (.bool b)|.int i=>some (.int i)|.str s=>some (.str s)|_=>aP
def HA(nm:aN)(σ:bj)(x:Str):Option PV:=if x=("__debug__":Str) then aP else if ak nm x=some .globalImplicit then IN x else ak σ x
def Dt(O:aK)(ev:Expr->Option PV)(l:Expr)(ops:List iF)(rs:List Expr):Option Bool:=(oM ops).bind λop=>(oM rs).bind λr=>(ev l).bind λa=>(ev r).bind λb=>fe O op a b
def Fa(I:Ip)(nm:aN)(σ:bj)(elt:Expr)(sc:fk):List jL->Option PV
 |[]=>aP
 |g::gs=>if Bs nm sc=true/\g.is_async=0/\(gs.all λg=>g.is_async==0&&zG g.iter)=true then(I.e nm σ g.iter).bind λv=>over v λsrc=>
   (qA (rH I sc.names elt gs) (I.t sc.names) sc.names g.target g.ifs (lH sc σ) src).bind (oZ .list) else aP
def Q8(ev:Expr->Option PV)(a:PV)(i:Expr):Option PV:=EA.on {d:=(ev i).bind (bQ a),P8:=λlo hi st _=>if st.isNone=true then(J' ev lo).bind λlo=>(J' ev hi).bind λhi=>a.io.map λl=>.list (jz l lo hi) else aP} i
def vA(O:aK)(I J:Ip)(nm:aN)(σ:bj)(fr:Bool)(K:List PV->Option PV):Expr->Option PV:=EA.on {d:=aP,AU:=λelt gs sc _=>((oM gs).bind λg=>if((fr||sc.names.all λp=>p.2 !=.free)&&O.gens&&pC nm&&HV sc&&zG g.iter&&Bs nm sc&&g.ifs.isEmpty&&g.is_async==0)=true then(I.e nm σ g.iter).bind λv=>eG v λsrc=>(kJ (J.e sc.names) sc.names g.target elt (lH sc σ) src).bind K else aP)}
def aaR:Expr->Bool:=EA.on {d:=false,AU:=λ_ _ _ _=>true}
def RN(O:aK)(I J:Ip)(nm:aN)(σ:bj)(f:Str)(args:List Expr)(kws:List fj):Option PV:=
 if f=("isinstance":Str) then(if kws.isEmpty=true then(qJ args).bind λp=>(I.e nm σ p.1).bind λv=>(Rc p.2).bind λcs=>if Sh nm cs=true then(iQ v cs).map .bool else aP else aP)
 else if f=("all":Str)\/f=("any":Str) then(if kws.isEmpty=true then(oM args).bind (vA O I J nm σ true (xY (f==("all":Str)))) else aP)
 else if f=("sorted":Str) then(oM args).bind λa=>if aaR a=true then vA O I J nm σ false (λvs=>eC O nm vs kws) a else(I.e nm σ a).bind λv=>eG v λl=>eC O nm l kws
 else(iR (I.e nm σ) args).bind λvs=>(rO (I.e nm σ) kws).bind λks=>nV O f vs ks
def M2(O:aK)(vs:List PV):PV->Option PV:=PA.on {d:=aP,jg:=λc fs=>(O.bM c "__call__" (.inst c fs::vs) [])}
def Om(O:aK)(I J:Ip)(nm:aN)(σ:bj)(args:List Expr)(kws:List fj)(p:Pos):Expr->Option PV:=EA.on {d:=aP,tM:=λo m ap=>(if tN o=true\/ap.endLine≠p.line\/20<args.length+kws.length then aP else(I.e nm σ o).bind λv=>(iR (I.e nm σ) args).bind λvs=>(rO (I.e nm σ) kws).bind λks=>IV O m v vs ks),kK:=λf _=>(if f=("__debug__":Str) then aP else if ak nm f=some .globalImplicit then RN O I J nm σ f args kws else
   (iR (I.e nm σ) args).bind λvs=>(ak σ f).bind λc=>if kws.isEmpty=true then M2 O vs c else aP)}
def oU(O:aK)(I J:Ip)(nm:aN)(σ:bj):Expr->Option PV:=EA.on {d:=aP,BJ:=λc _ _=>Rv c,kK:=λx _=>HA nm σ x,yc:=λl op r _=>((I.e nm σ l).bind λa=>(I.e nm σ r).bind λb=>fV O op a b),BN:=λop x _=>if op=.USub then(I.e nm σ x).bind PG else aP,BC:=λop vs _=>Jk (I.e nm σ) (D1 op) vs,HX:=λt b c _=>((I.t nm σ t).bind λr=>if r=true then I.e nm σ b else I.e nm σ c),A3:=λl ops rs _=>(Dt O (I.e nm σ) l ops rs).map .bool,DR:=λks vs _=>if ks.isEmpty=true/\vs.isEmpty=true then some .any else aP,wz:=λes _=>(iR (I.e nm σ) es).bind (oZ .list),uw:=λes _ _=>(iR (I.e nm σ) es).bind (oZ .tup),yk:=λelt gs sc _=>Fa I nm σ elt sc gs,tM:=λo x _=>if tN o=true then aP else(I.e nm σ o).bind (I6 O x),wd:=λo i _=>((I.e nm σ o).bind λa=>Q8 (I.e nm σ) a i),uI:=λf args kws p=>Om O I J nm σ args kws p f}
def Qv(I:Ip)(nm:aN)(σ:bj)(e:Expr):Option Bool:=if abu e=true then(I.e nm σ e).bind PV.truth else aP
def D8(O:aK)(I:Ip)(nm:aN)(σ:bj)(e:Expr):Option Bool:=EA.on {d:=Qv I nm σ e,BN:=λop x _=>if op=.Not then(I.t nm σ x).map not else aP,BC:=λop vs _=>pZ (I.t nm σ) (D1 op) vs,A3:=λl ops rs _=>Dt O (I.e nm σ) l ops rs} e
def ip:Nat->aK->Ip:=Nat.rec (λ_=>⟨λ_ _ _=>aP,λ_ _ _=>aP⟩) λ_ ih O=>⟨oU O (ih O) (ih {O with gens:=false}),D8 O (ih O)⟩
abbrev cI(O:aK)(n:Nat):aN->bj->Expr->Option PV:=(ip n O).e
abbrev fF(O:aK)(n:Nat):aN->bj->Expr->Option Bool:=(ip n O).t
section
variable{a:ao}{us:List ac}{s i8:ag}{h':am}{d:Nat}{u:ac}
abbrev Fz:=ao->Option Obj
def dC(a:Nat):Prop:=a=25\/a=32\/a=40
noncomputable def Fn(f:Fz)(a:ao)(o:Obj):Fz:=λb=>if b=a then some o else f b
section
variable{f:Fz}{b:ao}{o p:Obj}
theorem o5:Fn f a o a=some o:=iP rfl
theorem PY(n:∀p,f a=some p->p=o)(e:f b=some p):Fn f a o b=some p:=by
 by_cases q:b=a
 ·exact(iP q).trans (af some (n p (q▸e)).symm)
 ·exact(iN q).trans e
theorem Dc{P:Prop}(e:Fn f a o b=some p)(k1:b=a->p=o->P)(k2:f b=some p->P):P:=by
 by_cases q:b=a
 ·exact k1 q (ay (e.symm.trans (iP q)))
 ·exact k2 ((iN q).symm.trans e)
end
def vF(h:am)(x:ac)(q:Str):Prop:=∃c o vs t,x=.ref c/\h.get? c=some o/\o.cls=.type "code"/\o.data=.fields vs/\vs[1]?=some (.str q t)
theorem vF.keeps{h h':am}{x:ac}{q:Str}(y:vF h x q)(k:∀b o,h.get? b=some o->(o.cls=.type "code"/\∃vs,o.data=.fields vs)->h'.get? b=some o):vF h' x q:=by refine Ny y λc o vs t a b e r z=>?_;exact(zU c o vs t a (k c o b ⟨e,vs,r⟩) e r z)
def ir(h:am):Prop:=∀c P:ao,((c=29/\P=25)\/(c=36/\P=32)\/(c=44/\P=40))->
 ∃ps,h.IsCode c P ps/\h.TableAt c P ps/\∀pos x,B7 pos ps.toList=some x->∃q,vF h x q
theorem ir.keeps{h h':am}(x:ir h)(k:∀b o,h.get? b=some o->h'.get? b=some o):ir h':=λc P q=>
 by
 obtain⟨ps,a,b,r⟩:=x c P q;exact(cz ps (a.keeps k) (b.keeps k) (λpos x e=>by refine dL (r pos x e) λq z=>?_;exact⟨q,z.keeps λb o e _=>k b o e⟩))
theorem ir.but{h h':am}(x:ir h)(k:∀b o,h.get? b=some o->b<719\/(o.cls=.type "code"/\∃vs,o.data=.fields vs)->h'.get? b=some o):ir h':=λc P q=>by
 obtain⟨ps,a,b,r⟩:=x c P q;have l:c<719/\P<719:=by rcases q with⟨rfl,rfl⟩|⟨rfl,rfl⟩|⟨rfl,rfl⟩<;>decide
 have e1:h'.get? c=h.get? c:=by obtain⟨⟨o,vs,e,_⟩,_⟩:=b;exact(k c o e (.inl l.1)).trans e.symm
 have e2:h'.get? P=h.get? P:=(k P _ b.2 (.inl l.2)).trans b.2.symm;refine(cz ps (?_) (?_) (λpos y e=>by refine dL (r pos y e) λq z=>?_;exact⟨q,z.keeps λb o e c=>k b o e (.inr c)⟩))
 ·unfold am.IsCode at a⊢;erw[e1];erw[e2];exact a
 ·unfold am.TableAt at b⊢;erw[e1];erw[e2];exact b
structure Cx where
 w:cO
 h₀:am
 K:(KL w.params).In h₀
 g:∃mg,h₀.Ns mE mg
 b:∃mb,h₀.Ns uM mb/\∀x:Str,x≠ "__name__"->mb x=bootBuiltins x
 nolimit:h₀.NoLimit
 i9:∀a,dC a->h₀.get? a=none
def j6(c:Cx):List (Str×ac)->List pQ->Prop
 |[],es=>es=[]|p::l,es=> ∃t r,es=⟨pR c.w.params p.1,.str p.1 t,p.2⟩::r/\j6 c l r
structure eS(P:cD)(l:List Nat)(t:a8):Prop where
 place:t.place=l.toArray
 dummies:t.dummies= #[]
 mask:t.mask=7\/t.mask=15\/t.mask=31
 room:l.length*5<t.mask*3
 finger:t.finger=0
 plain:t.plain=true
 led:t.led= !P.followText "set-order"
 up:l.Pairwise (· < ·)
 small:∀x∈l,x<6
def bS:List (Int×ac)->List Nat->Prop
 |es,[]=>es=[]|es,n::l=> ∃tk r,es=((n:Int),.int n tk)::r/\bS r l
noncomputable def bu(vs:List ac)(n:Nat):Obj:={cls:=.type "list",data:=.seq vs.toArray n}
noncomputable def fW(vs:List ac)(n:Nat):Obj:={cls:=.type "tuple",data:=.seq vs.toArray n}
noncomputable def zD(lo hi:Int)(t u v:Tok):Obj:={cls:=.type "range",data:=.fields #[.int lo t,.int hi u,.int 1 v]}
noncomputable def dJ(es:Array (Int×ac))(n:Nat)(t:a8):Obj:={cls:=.type "set",data:=.set es n t}
noncomputable def lV(c dx:ao):Obj:={cls:=.ref c,dict:=some dx,data:=.plain}
noncomputable def sj(es:List pQ)(n:Nat):Obj:={cls:=.type "dict",data:=.dict es.toArray n}
def nB(f:Fz)(o:List ac->Nat->Obj)(l:List PV)(q:List ac->Prop)(v:ac):Prop:=∃a n vs,v=.ref a/\f a=some (o vs n)/\q vs/\l.length<=az
def v4(c:Cx)(f:Fz)(l:List Nat)(v:ac):Prop:=∃a es n t,v=.ref a/\f a=some (dJ es n t)/\bS es.toList l/\eS c.w.params l t
def vr(f:Fz)(lo hi:Int)(v:ac):Prop:=∃a t u z,v=.ref a/\f a=some (zD lo hi t u z)/\lo.natAbs<d7/\hi.natAbs<d7/\hi-lo<=(az:Nat)
def wB(c:Cx)(f:Fz)(k:Nat)(q:List (Str×ac)->Prop)(v:ac):Prop:=∃a dx n es vs,v=.ref a/\f a=some (lV k dx)/\f dx=some (sj es n)/\j6 c vs es/\q vs
def lI{α:Type}(r:α->Prop)(q:List α->Prop)(vs:List α):Prop:=∃u us,vs=u::us/\r u/\q us
def aV(c:Cx)(f:Fz)(v:ac)(p:PV):Prop:=p.rec (motive_1:=λ_=>ac->Prop) (motive_2:=λ_=>List ac->Prop) (motive_3:=λ_=>List (Str×ac)->Prop) (motive_4:=λ_=>Str×ac->Prop)
 (λv=>v=.none) (λb v=>v=.bool b) (λi v=> ∃t,v=.int i t) (λs v=> ∃t,v=.str s t) (nB f fW) (nB f bu) (v4 c f) (vr f) (λk _=>wB c f k) (λ_=>True)
 (λvs=>vs=[]) (λ_ _=>lI) (λvs=>vs=[]) (λ_ _=>lI) (λx _ r u=>u.1=x/\r u.2) v
def aR(c:Cx)(f:Fz)(v:List ac)(p:List PV):Prop:=PV.rec_1 (motive_1:=λ_=>ac->Prop) (motive_2:=λ_=>List ac->Prop) (motive_3:=λ_=>List (Str×ac)->Prop) (motive_4:=λ_=>Str×ac->Prop)
 (λv=>v=.none) (λb v=>v=.bool b) (λi v=> ∃t,v=.int i t) (λs v=> ∃t,v=.str s t) (nB f fW) (nB f bu) (v4 c f) (vr f) (λk _=>wB c f k) (λ_=>True)
 (λvs=>vs=[]) (λ_ _=>lI) (λvs=>vs=[]) (λ_ _=>lI) (λx _ r u=>u.1=x/\r u.2) p v
def bH(c:Cx)(f:Fz)(v:List (Str×ac))(p:List (Str×PV)):Prop:=PV.rec_2 (motive_1:=λ_=>ac->Prop) (motive_2:=λ_=>List ac->Prop) (motive_3:=λ_=>List (Str×ac)->Prop) (motive_4:=λ_=>Str×ac->Prop)
 (λv=>v=.none) (λb v=>v=.bool b) (λi v=> ∃t,v=.int i t) (λs v=> ∃t,v=.str s t) (nB f fW) (nB f bu) (v4 c f) (vr f) (λk _=>wB c f k) (λ_=>True)
 (λvs=>vs=[]) (λ_ _=>lI) (λvs=>vs=[]) (λ_ _=>lI) (λx _ r u=>u.1=x/\r u.2) p v
section
variable{f:Fz}{v:ac}{m:ac->Prop}
theorem nB.on{o:List ac->Nat->Obj}{l:List PV}{q:List ac->Prop}(h:nB f o l q v)(K:∀{a n vs},f a=some (o vs n)->q vs->l.length<=az->m (.ref a)):m v:=by obtain⟨_,_,_,e,h,r,z⟩:=h;subst e;exact K h r z
theorem lI.on{α:Type}{vs:List α}{m:List α->Prop}{r:α->Prop}{q:List α->Prop}(h:lI r q vs)(K:∀{u us},r u->q us->m (u::us)):m vs:=by refine sx h λ_ _ e a b=>?_;subst e;exact K a b
theorem v4.on{c:Cx}{l:List Nat}(h:v4 c f l v)(K:∀{a es n t},f a=some (dJ es n t)->bS es.toList l->eS c.w.params l t->m (.ref a)):m v:=by obtain⟨_,_,_,_,e,h,r,z⟩:=h;subst e;exact K h r z
theorem vr.on{lo hi:Int}(h:vr f lo hi v)(K:∀{a t u z},f a=some (zD lo hi t u z)->lo.natAbs<d7->hi.natAbs<d7->hi-lo<=(az:Nat)->m (.ref a)):m v:=by obtain⟨_,_,_,_,e,h,g,r,z⟩:=h;subst e;exact K h g r z
theorem wB.on{c:Cx}{k:Nat}{q:List (Str×ac)->Prop}(h:wB c f k q v)(K:∀{a dx n es vs},f a=some (lV k dx)->f dx=some (sj es n)->j6 c vs es->q vs->m (.ref a)):m v:=by obtain⟨_,_,_,_,_,e,h,g,r,z⟩:=h;subst e;exact K h g r z
end
section
variable{c:Cx}{f f':Fz}{v:ac}{m:ac->Prop}{dx:ao}{n:Nat}{vs:List ac}{l k:List PV}{lv:List (Str×ac)}{lf:List (Str×PV)}{x:Str}{p:PV}
theorem aV.none:aV c f .none .none:=Eq.refl (a:=oj)
theorem aV.bool{b:Bool}:aV c f (.bool b) (.bool b):=Eq.refl (a:=Kc b)
theorem aV.int{i:Int}{t:Tok}:aV c f (.int i t) (.int i):=⟨t,rfl⟩
theorem aV.str{s:Str}{t:Tok}:aV c f (.str s t) (.str s):=⟨t,rfl⟩
theorem aV.any:aV c f v .any:=trivial
theorem aV.tup(h:f a=some (fW vs n))(r:aR c f vs l)(hn:l.length<=az):aV c f (.ref a) (.tup l):=show nB f fW l (λvs=>aR c f vs l) _ from(yv a n vs rfl h r hn)
theorem aV.list(h:f a=some (bu vs n))(r:aR c f vs l)(hn:l.length<=az):aV c f (.ref a) (.list l):=show nB f bu l (λvs=>aR c f vs l) _ from(yv a n vs rfl h r hn)
theorem aV.set{es:Array (Int×ac)}{t:a8}{l:List Nat}(h:f a=some (dJ es n t))(he:bS es.toList l)(ht:eS c.w.params l t):aV c f (.ref a) (.set l):=show v4 c f l _ from(wy a es n t rfl h he ht)
theorem aV.d5{lo hi:Int}{t u z:Tok}(h:f a=some (zD lo hi t u z))(h1:lo.natAbs<d7)(h2:hi.natAbs<d7)(hn:hi-lo<=(az:Nat)):aV c f (.ref a) (.d5 lo hi):=show vr f lo hi _ from(zU a t u z rfl h h1 h2 hn)
theorem aV.inst{k:Nat}{es:List pQ}(h:f a=some (lV k dx))(hd:f dx=some (sj es n))(he:j6 c lv es)(r:bH c f lv lf):aV c f (.ref a) (.inst k lf):=show wB c f k (λvs=>bH c f vs lf) _ from(Vm a dx n es lv rfl h hd he r)
theorem aR.nil:aR c f [] []:=Eq.refl (a:=([]:List ac))
theorem aR.cons(a:aV c f v p)(r:aR c f vs l):aR c f (v::vs) (p::l):=show lI (λv=>aV c f v p) (λvs=>aR c f vs l) _ from(ye v vs rfl a r)
theorem bH.nil:bH c f [] []:=Eq.refl (a:=([]:List (Str×ac)))
theorem bH.cons(a:aV c f v p)(r:bH c f lv lf):bH c f ((x,v)::lv) ((x,p)::lf):=show lI (λu=>u.1=x/\aV c f u.2 p) (λvs=>bH c f vs lf) _ from(ye _ lv rfl ⟨rfl,a⟩ r)
@[elab_as_elim] theorem qt(r:aV c f v .none)(K:m .none):m v:=mF (af m r) K
@[elab_as_elim] theorem lW{b:Bool}(r:aV c f v (.bool b))(K:m (.bool b)):m v:=mF (af m r) K
@[elab_as_elim] theorem bU{i:Int}(r:aV c f v (.int i))(K:∀t,m (.int i t)):m v:=let⟨t,e⟩:=r;mF (af m e) (K t)
@[elab_as_elim] theorem je{x:Str}(r:aV c f v (.str x))(K:∀t,m (.str x t)):m v:=let⟨t,e⟩:=r;mF (af m e) (K t)
@[elab_as_elim] theorem dY(r:aV c f v (.list l))(K:∀{a n vs},f a=some (bu vs n)->aR c f vs l->l.length<=az->m (.ref a)):m v:=nB.on (o:=bu) (q:=λvs=>aR c f vs l) r K
@[elab_as_elim] theorem iT(r:aV c f v (.tup l))(K:∀{a n vs},f a=some (fW vs n)->aR c f vs l->l.length<=az->m (.ref a)):m v:=nB.on (o:=fW) (q:=λvs=>aR c f vs l) r K
@[elab_as_elim] theorem kX{l:List Nat}(r:aV c f v (.set l))(K:∀{a es n t},f a=some (dJ es n t)->bS es.toList l->eS c.w.params l t->m (.ref a)):m v:=v4.on r K
@[elab_as_elim] theorem rL{k:Nat}(r:aV c f v (.inst k lf))(K:∀{a dx n es vs},f a=some (lV k dx)->f dx=some (sj es n)->j6 c vs es->bH c f vs lf->m (.ref a)):m v:=wB.on (q:=λvs=>bH c f vs lf) r K
@[elab_as_elim] theorem qz{lo hi:Int}(r:aV c f v (.d5 lo hi))(K:∀{a t u z},f a=some (zD lo hi t u z)->lo.natAbs<d7->hi.natAbs<d7->hi-lo<=(az:Nat)->m (.ref a)):m v:=vr.on r K
@[elab_as_elim] theorem i0{m:List ac->Prop}(r:aR c f vs [])(K:m []):m vs:=mF (af m r) K
@[elab_as_elim] theorem eB{m:List ac->Prop}(r:aR c f vs (p::l))(K:∀{v us},aV c f v p->aR c f us l->m (v::us)):m vs:=lI.on (r:=λv=>aV c f v p) (q:=λvs=>aR c f vs l) r K
@[elab_as_elim] theorem rT{m:List (Str×ac)->Prop}(r:bH c f lv [])(K:m []):m lv:=mF (af m r) K
@[elab_as_elim] theorem oW{m:List (Str×ac)->Prop}(r:bH c f lv ((x,p)::lf))(K:∀{v us},aV c f v p->bH c f us lf->m ((x,v)::us)):m lv:=lI.on (r:=λu:Str×ac=>u.1=x/\aV c f u.2 p) (q:=λvs=>bH c f vs lf) r λ{u us} a b=>by obtain⟨_,_⟩:=u;obtain⟨rfl,a⟩:=a;exact K a b
abbrev Sub(f f':Fz):Prop:=∀a o,f a=some o->f' a=some o
theorem aV.mono(hs:Sub f f')(r:aV c f v p):aV c f' v p:=
 PV.rec (motive_1:=λp=> ∀v,aV c f v p->aV c f' v p) (motive_2:=λl=> ∀v,aR c f v l->aR c f' v l) (motive_3:=λl=> ∀v,bH c f v l->bH c f' v l) (motive_4:=λq=> ∀v,aV c f v q.2->aV c f' v q.2)
  (λ_ r=>r) (λ_ _ r=>r) (λ_ _ r=>r) (λ_ _ r=>r) (λ_ ih _ r=>iT r λh r z=>.tup (hs _ _ h) (ih _ r) z) (λ_ ih _ r=>dY r λh r z=>.list (hs _ _ h) (ih _ r) z)
  (λ_ _ r=>kX r λh=>.set (hs _ _ h)) (λ_ _ _ r=>qz r λh=>.d5 (hs _ _ h)) (λ_ _ ih _ r=>rL r λh g e r=>.inst (hs _ _ h) (hs _ _ g) e (ih _ r)) (λ_ r=>r)
  (λ_ r=>r) (λ_ _ a b _ r=>eB r λu us=>.cons (a _ u) (b _ us)) (λ_ r=>r) (λ_ _ a b _ r=>oW r λu us=>.cons (a _ u) (b _ us)) (λ_ _ a=>a) p v r
theorem aR.mono(hs:Sub f f')(r:aR c f vs l):aR c f' vs l:=by
 induction l generalizing vs with
 |nil=>exact r|cons p l ih=>exact eB r λa r=>.cons (a.mono hs) (ih r)
theorem bH.mono(hs:Sub f f')(r:bH c f lv lf):bH c f' lv lf:=by
 induction lf generalizing lv with
 |nil=>exact r|cons p l ih=>exact oW r λa r=>.cons (a.mono hs) (ih r)
theorem aR.length{vs:List ac}{l:List PV}(r:aR c f vs l):vs.length=l.length:=by
 induction l generalizing vs with
 |nil=>exact i0 r rfl|cons p l ih=>exact eB r λ_ r=>af jq (ih r)
theorem aR.get{l:List PV}:∀{vs:List ac},aR c f vs l->∀{i:Nat} {p},l[i]?=some p->∃v,vs[i]?=some v/\aV c f v p:=by
 induction l with
 |nil=>exact λ_ _ _ h=>nS h
 |cons q l ih=>exact λr i p h=>eB r λ{v _} a r=>match i,h with
   |0,h=>(aA v rfl (ay h▸a))|_+1,h=>ih r h
theorem aR.append{l m:List PV}{us:List ac}(b:aR c f us m):∀{vs:List ac},aR c f vs l->aR c f (vs++us) (l++m):=by
 induction l with
 |nil=>exact λr=>i0 r b|cons q l ih=>exact λr=>eB r λa r=>.cons a (ih r)
theorem aR.at{vs:List ac}{l:List PV}(r:aR c f vs l){j:Nat}(hj:j<vs.length):∃p,l[j]?=some p/\aV c f vs[j] p:=
 let h:j<l.length:=r.length▸hj
 let⟨v,h1,h2⟩:=r.get (jM h)
 (aA _ (jM h) (ay (h1.symm.trans (jM hj))▸h2))
theorem aV.scalar{v p}(r:aV c f v p)(h:p.isScalar=true):aV c f' v p:=by
 induction p using dq with
 |none=>exact qt r .none|bool b=>exact lW r .bool|int i=>exact bU r λ_=>.int|str s=>exact je r λ_=>.str|_=>exact absurd h dy
end
structure e9(s s':ag):Prop where
 keep:∀b o,s.heap.get? b=some o->¬dC b->s'.heap.get? b=some o
 gens:∀(i:Nat) (x:jp),s.gens[i]?=some x->s'.gens[i]?=some x
 bare:∀(i:Nat) (x:jp),s.gens.size<=i->s'.gens[i]?=some x->x.bare=true
 os:s'.os=s.os
section
variable{s':ag}
theorem uc{s:Array jp}{i:Nat}{x:jp}{P:Prop}(l:s.size<=i)(e:s[i]?=some x):P:=nS ((Ki l).symm.trans e)
theorem e9.di(x:e9 s s'):s.gens.size<=s'.gens.size:=cZ λq=>uc (bf _) (x.gens _ _ (tn q))
theorem e9.refl(s:ag):e9 s s:=⟨λ_ _ h _=>h,λ_ _ h=>h,λ_ _=>uc,rfl⟩
theorem e9.Ps(x:e9 s s'){g:Nat}(h:∀(i:Nat) (x:jp),g<=i->s.gens[i]?=some x->x.bare=true)(i:Nat)(z:jp)(l:g<=i)(e:s'.gens[i]?=some z):z.bare=true:=by
 by_cases q:s.gens.size<=i
 ·exact x.bare i z q e
 ·have h1:=tn (om q);exact h i z l (h1.trans (af some (ay ((x.gens _ _ h1).symm.trans e))))
theorem e9.trans(x:e9 s s')(y:e9 s' i8):e9 s i8:=
 ⟨λb o h t=>y.keep b o (x.keep b o h t) t,λi z h=>y.gens i z (x.gens i z h),y.Ps x.bare,y.os.trans x.os⟩
theorem e9.Nf{h':am}{t:Nat}(k:∀b o,s.heap.get? b=some o->¬dC b->h'.get? b=some o):e9 s {s with heap:=h',toks:=t}:=
 ⟨k,λ_ _ h=>h,λ_ _=>uc,rfl⟩
theorem e9.back(x:e9 s s'){b:ao}(t:¬dC b)(h:s'.heap.get? b=none):s.heap.get? b=none:=by
 cases e:s.heap.get? b with
 |none=>rfl|some o=>exact nS (h.symm.trans (x.keep b o e t))
end
theorem eV(h:am):h.get? h.objs.size=none:=by
 cases e:h.get? h.objs.size with
 |none=>rfl|some o=>exact absurd (fB e) (cV _)
structure Pt(c:Cx) where
 s:ag
 f:Fz
 keep:∀b o,c.h₀.get? b=some o->s.heap.get? b=some o
 tab:ir s.heap
 K:∀a o,(KL c.w.params).lookup a=some o->f a=some o
 nt:∀a o,f a=some o->¬dC a
 hs:∀a o,f a=some o->s.heap.get? a=some o
section
variable{c:Cx}{x y z:Pt c}{b:ao}{o:Obj}{t:Nat}{s':ag}
structure Le(x y:Pt c):Prop where
 e:e9 x.s y.s
 sub:Sub x.f y.f
 new:∀a o,y.f a=some o->x.f a=some o\/x.s.heap.get? a=none
theorem Le.refl(x:Pt c):Le x x:=⟨.refl _,λ_ _ e=>e,λ_ _=>.inl⟩
theorem Le.trans(l:Le x y)(m:Le y z):Le x z:=⟨l.e.trans m.e,λa o e=>m.sub a o (l.sub a o e),λa o e=>(m.new a o e).elim (l.new a o) λn=>.inr (l.e.back (z.nt a o e) n)⟩
theorem Pt.cT(x:Pt c):(KL c.w.params).In x.s.heap:=c.K.keeps x.keep
theorem Pt.big(x:Pt c):718<x.s.heap.objs.size:=dL (tG.mp (⋯:((KL c.w.params).lookup 718).isSome=true)) λo e=>fB (x.cT 718 _ e)
theorem M0(q:dC a):a<=718:=by rcases q with rfl|rfl|rfl<;>decide
theorem Pt.j0(x:Pt c)(h:x.s.heap.objs.size<=a):¬dC a:=λq=>cV _ (ba x.big (aq h (M0 q)))
theorem Pt.nolimit(x:Pt c):x.s.heap.NoLimit:=c.nolimit.keeps x.keep
theorem Pt.EN(x:Pt c)(e:x.s.heap.get? a=none):x.f a=none:=by
 cases q:x.f a with
 |none=>rfl|some o=>exact nS (e.symm.trans (x.hs _ _ q))
theorem Pt.h0(c:Cx){P:Prop}(q:dC a)(e:c.h₀.get? a=some o):P:=nS ((c.i9 a q).symm.trans e)
noncomputable def Pt.to(x:Pt c)(s':ag)(e:e9 x.s s')(t:ir s'.heap):Pt c where
 s:=s'
 f:=x.f
 keep b o h:=e.keep b o (x.keep b o h) λq=>Pt.h0 c q h
 tab:=t
 K:=x.K
 nt:=x.nt
 hs a o h:=e.keep a o (x.hs a o h) (x.nt a o h)
theorem Le.to(e:e9 x.s s')(t:ir s'.heap):Le x (x.to s' e t):=⟨e,λ_ _ e=>e,λ_ _=>.inl⟩
noncomputable def Pt.grow(x:Pt c)(h':am)(t:Nat)(k:∀b o,x.s.heap.get? b=some o->h'.get? b=some o):Pt c:=x.to {x.s with heap:=h',toks:=t} (.Nf λb o e _=>k b o e) (x.tab.keeps k)
theorem Pt.cG{h':am}{t:Nat}(x:Pt c)(k:∀b o,x.s.heap.get? b=some o->h'.get? b=some o):Le x (x.grow h' t k):=.to _ _
noncomputable def Pt.tok(x:Pt c)(t:Nat):Pt c:=x.grow x.s.heap t λ_ _ e=>e
noncomputable def Pt.push(x:Pt c)(o:Obj)(t:Nat):Pt c:=x.grow (x.s.heap.push o) t λ_ _=>c5 _
def Pt.add(x:Pt c)(a:ao)(o:Obj)(e:x.s.heap.get? a=some o)(n:¬dC a):Pt c where
 s:=x.s
 f:=Fn x.f a o
 keep:=x.keep
 tab:=x.tab
 K b p h:=PY (λq k=>ay ((x.hs _ _ k).symm.trans e)) (x.K b p h)
 nt b p h:=Dc h (λq _=>q▸n) (x.nt b p)
 hs b p h:=Dc h (λq r=>q▸r▸e) (x.hs b p)
theorem Pt.Bu{e:x.s.heap.get? a=some o}{n:¬dC a}:Sub x.f (x.add a o e n).f:=λ_ _=>PY λq k=>ay ((x.hs _ _ k).symm.trans e)
theorem Le.add(l:Le x y)(e:y.s.heap.get? a=some o)(n:¬dC a)(h:x.s.heap.get? a=none):Le x (y.add a o e n):=
 ⟨l.e,λb p q=>Pt.Bu b p (l.sub b p q),λb p q=>Dc q (λq _=>.inr (q▸h)) (l.new b p)⟩
structure jy(d:Nat)(A:bh):Prop where
 handled:A.handled=none
 depth:A.depth+4*d<SI
 units:A.units+40*d+40<tq
structure Am(d:Nat) where
 A:bh
 ok:jy d A
section
variable{e:Nat}
noncomputable def Am.mono(A:Am d)(h:e<=d):Am e:=⟨A.A,A.ok.handled,aQ (i3 (Kj _ h) _) A.ok.depth,aQ (mG (i3 (Kj _ h) _) _) A.ok.units⟩
theorem Am.room(A:Am d){n:Nat}(h:n<=40):A.A.units+n<tq:=aQ (B8 (cW _ _) h) A.ok.units
theorem jy.to{A B:bh}(x:jy (d+1) A)(h:B.handled=none)(h1:B.depth<=A.depth+4)(h2:B.units<=A.units+40):jy d B:=
 ⟨h,aQ (mG h1 _) (aQ (aD ((pS A.depth 4 (4*d)).trans (fC ..))) x.depth),
  aQ (mG (mG h2 _) _) (aQ (aD (af (· +40) ((pS A.units 40 (40*d)).trans (fC ..)))) x.units)⟩
theorem o6{n k m:Nat}(h:k<=m):n+k<=n+m:=i3 h n
noncomputable def Am.deeper(A:Am (d+1))(env:Env):Am d:=⟨A.A.deeper env,A.ok.to A.ok.handled (o6 (by decide)) (o6 (by decide))⟩
noncomputable def Am.in1(A:Am (d+1)):Am d:=⟨A.A.in1,A.ok.to A.ok.handled (cW _ _) (o6 (by decide))⟩
end
end
abbrev No:ac->ag->Prop:=λ_ _=>False
@[reducible] def Rd{c:Cx}(p:PV)(x:Pt c)(v:ac):Prop:=aV c x.f v p
@[reducible] def bt{c:Cx}(l:List PV)(x:Pt c)(vs:List ac):Prop:=aR c x.f vs l
@[reducible] def Is{c:Cx}(b:Bool)(_:Pt c)(v:Bool):Prop:=v=b
def aE{c:Cx}{d:Nat}{α:Type}(A:Am d)(t:Sem α)(x:Pt c)(P:Pt c->α->Prop):Prop:=∀(Q:α->ag->Prop) (E:ac->ag->Prop),(∀v y,Le x y->P y v->Q v y.s)->ai (ah pw c.w) A.A t Q E x.s
section
variable{c:Cx}{x y z:Pt c}{A:Am d}{α β:Type}{t:Sem α}{P:Pt c->α->Prop}{R:Pt c->β->Prop}{Q:α->ag->Prop}{E:ac->ag->Prop}{v:α}{o:Obj}{p:PV}{l:List PV}
theorem aE.bind{k:α->Sem β}(g:aE A t x P)(K:∀v y,Le x y->P y v->aE A (k v) y R):aE A (t>>=k) x R:=λQ E q=>ae (g _ _ λv y l p=>K v y l p Q E λu z m r=>q u z (l.trans m) r)
theorem aE.pure(p:P x v):aE A (pure v) x P:=λQ E k=>au (k v x (.refl x) p)
theorem aE.from(g:aE A t y P)(l:Le x y)(k:∀v y,Le x y->P y v->Q v y.s):ai (ah pw c.w) A.A t Q E y.s:=g Q E λv z m p=>k v z (l.trans m) p
noncomputable def Pt.new(x:Pt c)(o:Obj)(t:Nat)(hf:o.isFreed=false):Pt c:=(x.push o t).add x.s.heap.objs.size o (ft _ hf) (x.j0 (bf _))
theorem Le.fresh{t:Nat}{hf:o.isFreed=false}:Le x (x.new o t hf):=Le.add (x.cG _) _ _ (eV _)
theorem DV{t n:Nat}{hf:(bu us n).isFreed=false}(r:bt l x us)(z:l.length<=az):Rd (.list l) (x.new (bu us n) t hf) (.ref x.s.heap.objs.size):=.list o5 (r.mono Le.fresh.sub) z
theorem Qx{t n:Nat}{hf:(fW us n).isFreed=false}(r:bt l x us)(z:l.length<=az):Rd (.tup l) (x.new (fW us n) t hf) (.ref x.s.heap.objs.size):=.tup o5 (r.mono Le.fresh.sub) z
section
variable{Q:ac->ag->Prop}(K:∀v y,Le x y->Rd p y v->Q v y.s)
include K
theorem k_here(r:Rd p x u):Q u x.s:=K u x (.refl x) r
theorem jC{t:Nat}(r:Rd p x u):Q u {x.s with toks:=t}:=K u (x.tok t) (x.cG _) r
theorem ti{t:Nat}(hf:o.isFreed=false)(r:Rd p (x.new o t hf) u):Q u {x.s with heap:=x.s.heap.push o,toks:=t}:=K u (x.new o t hf) .fresh r
end
end
section
variable{c:Cx}{x y:Pt c}{A:Am d}{f:Fz}{v:ac}{i j:Int}{l m:List PV}{vs:List ac}{n:Nat}{p q:PV}{b:Bool}
theorem oL{Q:ac->ag->Prop}(K:∀v y,Le x y->Rd (.int i) y v->Q v y.s):(Made.int i).post Q x.s:=jC K .int
theorem xT{B:Nat}(h:i.natAbs<B): -(B:Int)<i/\i<B:=⟨Int.neg_lt_of_neg_lt (mH Int.le_natAbs (u9.mpr (Int.natAbs_neg i▸h))),mH Int.le_natAbs (u9.mpr h)⟩
theorem M1(h:i.natAbs<d7):B9 i<=64:=intBits_le_64 (mH (by decide) (xT h).1) (yK (xT h).2 (by decide))
theorem MI{n:Nat}(h:n<d7):n.log2<60:=by
 by_cases z:n=0
 ·erw[z];decide
 ·exact(Nat.log2_lt z).mpr h
theorem afB(h:j.natAbs<d7):¬af' i j=true:=by
 unfold af';have:decide (j.natAbs.log2/30+1>300)=false:=dF (gJ (Nat.succ_le_of_lt (aQ (Kk _ _) (eN (MI h) (by decide)))));dsimp only;split
 ·exact dy
 ·erw[this];exact dy
theorem kQ(h:x.f a=some (bu vs n)):x.s.heap.IsList a vs.toArray:=⟨_,x.hs _ _ h,rfl,_,rfl⟩
theorem An(h:x.f a=some (fW vs n)):x.s.heap.IsTuple a vs.toArray:=⟨_,x.hs _ _ h,rfl,_,rfl⟩
theorem rN(h:n<=az):n<=qW:=aq h (by decide)
theorem l4{k:Nat}(r:aR c f vs l)(z:l.length+k<=az){r':aR c f us m}(e:m.length=k):vs.toArray.size+us.toArray.size<=qW:=by
 erw[i4];erw[i4];erw[r.length];erw[r'.length];erw[e];exact rN z
theorem RC:vs.toArray++us.toArray=(vs++us).toArray:=by simp
theorem add_list(rv:Rd (.list l) x v)(ru:Rd (.list m) x u)(hz:l.length+m.length<=az):aE A (mI .Add v u) x (Rd (.list (l++m))):=
 dY rv λh1 r1 _=>dY ru λh2 r2 _=>λQ E K=>P.add_list (x.hs _ _ h1) (x.hs _ _ h2) (RC.symm▸ti K rfl (DV (aR.append r2 r1) (by erw[da];exact hz))) (l4 r1 (r':=r2) hz rfl)
theorem Ol{x:Str}(h:(x.length==0)=true):x=Str.empty:=by
 obtain⟨c⟩:=x;erw[Array.eq_empty_of_size_eq_zero (xs:=c) (a5 h)];rfl
theorem add_str{y z:Str}(rv:Rd (.str y) x v)(ru:Rd (.str z) x u)(hz:y.length+z.length<=az):aE A (mI .Add v u) x (Rd (.str (y++z))):=
 je rv λt=>je ru λt'=>λQ E K=>P.add_str (by
  split
  ·rename_i e;exact k_here K (by erw[Ol e];rw[Str.empty_append];exact .str)
  ·split
   ·rename_i e;exact k_here K (by erw[Ol e];rw[Str.append_empty];exact .str)
   ·exact⟨aq (aD (Str.length_append y z)) (rN hz),jC K .str⟩)
theorem Hk(h:vs≠[]):¬vs.toArray.isEmpty=true:=by induction vs using bO with
 |nil=>exact absurd rfl h|cons=>exact dy
theorem abV(rv:Rd (.tup l) x v)(ru:Rd (.tup m) x u)(hz:l.length+m.length<=az):aE A (mI .Add v u) x (Rd (.tup (l++m))):=by
 refine iT rv λ{a n vs} h1 r1 z1=>iT ru λ{b n' ws} h2 r2 z2=>λQ E K=>?_;have g1:=x.hs _ _ h1;have g2:=x.hs _ _ h2;by_cases e1:vs=[]
 ·subst e1;have e:l=[]:=zn.mp r1.length.symm;subst e;exact concat_meets (aA _ g1 rfl) (aA _ g2 rfl) noFill_tuple_add seq_tuple_add F.slot_tuple_add F.entry_tuple_add (F.args_tuple_add_2 _ _) (PyProof.Rows.tuple_addW0 _ _ [].toArray ws.toArray _ _ none none #[] #[] rfl) (eA g1 g2 (k_here K (.tup h2 r2 z2)))
 ·by_cases e2:ws=[]
  ·subst e2;have e:m=[]:=zn.mp r2.length.symm;subst e;exact concat_meets (aA _ g1 rfl) (aA _ g2 rfl) noFill_tuple_add seq_tuple_add F.slot_tuple_add F.entry_tuple_add (F.args_tuple_add_2 _ _) (PyProof.Rows.tuple_addW1 _ _ vs.toArray [].toArray _ _ none none #[] #[] (Hk e1) rfl) (eA g1 g2 (k_here K ((gO l).symm▸ .tup h1 r1 z1)))
  ·exact P.add_tuple g1 g2 (Hk e1) (Hk e2) (RC.symm▸ti K rfl (Qx (aR.append r2 r1) (by erw[da];exact hz))) (l4 r1 (r':=r2) hz rfl)
theorem aR.rep(r:aR c f vs l)(k:Nat):aR c f (kt k vs).flatten (kt k l).flatten:=by
 induction k with
 |zero=>exact .nil|succ k ih=>exact aR.append ih r
theorem aaH(k:Nat):(kt k l).flatten.length=k*l.length:=by
 induction k with
 |zero=>exact(Ca _).symm|succ k ih=>rw[List.replicate_succ,List.flatten_cons,da,ih,Nat.succ_mul,gj]
theorem abU(k:Nat):List.foldl (λx1 x2=>x1++x2) #[] (kt (if vs.toArray.isEmpty=true then 0 else k) vs.toArray)=(kt k vs).flatten.toArray:=by
 induction vs using bO with
 |nil=>simp
 |cons v r=>
  erw[iN (by simp)];rw[listMul_foldl];simp
theorem NC{Q E:ac->ag->Prop}(rv:Rd (.list l) x v)(ru:Rd (.int j) x u)(h1:0<=j)(h2:j<=100)(hz:l.length<=100)(k:∀{vs},bt (kt j.toNat l).flatten x vs->(kt j.toNat l).flatten.length<=az->Q (.ref x.s.heap.objs.size) {x.s with heap:=x.s.heap.push (bu vs 0)}):ai (ah pw c.w) A.A (mI .Mult v u) Q E x.s:=by
 refine dY rv λ{a n vs} e r1 z1=>bU ru λt=>?_;have e1:=x.hs _ _ e;have hm:vs.toArray.size*j.toNat<=100*100:=Cb (by erw[i4];erw[r1.length];exact hz) (Lo.mpr h2);refine wpAny_binaryOp_repeat_ref (T:="list") (U:="int") (by decide) ⟨_,e1,rfl⟩ (λs'=>typeIs_int s' j t) noFill_list_mul F.fills_int_mul F.slot_int_rmul repeat_list F.slot_int_index.lookup
  (Fv F.slot_int_rmul (typeIs_int x.s j t) F.entry_int_rmul (F.args_int_rmul_2 _ _) (int___rmul___int_list j t a vs.toArray n)
   (Aa e1 rfl ⟨_,e1,rfl⟩ (Fv F.slot_list_mul ⟨_,e1,rfl⟩ F.entry_list_mul (F.args_list_mul_2 _ _)
    (AutoListH.list___mul___list_int_3 a vs.toArray n j t (by simp[Builtin.List.listFitsIndex];lia) (by lia) (by simp[Builtin.List.listTooLong,qW] at hm⊢;lia))
    ⟨e1,?_⟩)))
 exact(abU _).symm▸k (r1.rep _) (by rw[aaH];exact aq (Cb (Lo.mpr h2:j.toNat<=100) hz) (by decide))
theorem VQ(rv:Rd (.list l) x v)(ru:Rd (.int j) x u)(h1:0<=j)(h2:j<=100)(hz:l.length<=100):aE A (mI .Mult v u) x (Rd (.list (kt j.toNat l).flatten)):=λQ E K=>NC rv ru h1 h2 hz λr z=>ti K rfl (DV r z)
theorem W_(h0:0<=j)(h1:j<8):¬aga (((B9 2:Nat):Int)*j)=true:=by
 erw[(show(B9 2:Nat)=2 by decide+kernel)];unfold aga bitsLine;erw[decide_eq_true_eq];lia
theorem ϧ(i:Int):i.natAbs<2^B9 i:=by
 unfold B9;split
 ·rename_i q;erw[a5 q];decide
 ·exact Nat.lt_log2_self
theorem Zz(rv:Rd (.int i) x v)(ru:Rd (.int j) x u)(c0:0<=i)(c1:0<=j):aE A (mI .RShift v u) x (Rd (.int (i.fdiv (2^j.toNat)))):=by
 refine bU rv λt=>bU ru λt'=>λQ E K=>?_;by_cases z:j>=((B9 i:Nat):Int)
 ·have h:i.natAbs<2^j.toNat:=ba (ϧ i) (SJ (by decide) (Int.le_toNat c1|>.mpr z));have:i.fdiv (2^j.toNat)=0:=aa (Fw _ (mJ (Int.pow_pos (by decide)))) (Int.ediv_eq_zero_of_lt c0 (by have:=jf h;rw[Kl c0] at this;simpa using this));exact AutoIntOps.rshift_1 (iA c1) z ((iN (iA c0)).symm▸this.symm▸oL (this▸K))
 ·exact AutoIntOps.rshift_2 (iA c1) z (oL K)
theorem adf(c0:0<=i):Builtin.bitAnd i 1=i.fmod 2:=by
 unfold Builtin.bitAnd;refine aa (dT c0) (aa (dT (by decide:(0:Int)<=1)) ?_);dsimp only;rw[show(1:Int).toNat=1 from rfl,Nat.and_one_is_mod,Km _ (by decide)];exact(Int.natCast_emod ..).trans (af (· %(2:Int)) (SK c0))
theorem acG{op:ia}(h:fw op i j=some p)(rv:Rd (.int i) x v)(ru:Rd (.int j) x u):aE A (mI op v u) x (Rd p):=by
 cases op with
 |RShift=>exact aL h λc h=>oI h (Zz rv ru c.1 c.2.1)|Add=>exact oI h (bU rv λt=>bU ru λt'=>λQ E K=>AutoIntOps.add_0 (oL K))|Sub=>exact oI h (bU rv λt=>bU ru λt'=>λQ E K=>AutoIntOps.sub_0 (oL K))|Mult=>exact aL h λc h=>oI h (bU rv λt=>bU ru λt'=>λQ E K=>AutoIntOps.mul_0 (oL K) (c.elim (λc=>IntMulOk.of_right (M1 c)) λc=>IntMulOk.of_left (M1 c)))|Mod=>exact aL h λc h=>oI h (bU rv λt=>bU ru λt'=>λQ E K=>AutoIntOps.mod_1 (λe=>c (a5 e)) (oL K))|BitAnd=>exact aL h λc h=>oI h (bU rv λt=>bU ru λt'=>λQ E K=>and_int (by erw[c.2];erw[adf c.1];exact jC K .int))|FloorDiv=>exact aL h λc h=>oI h (bU rv λt=>bU ru λt'=>λQ E K=>AutoIntOps.floordiv_1 (λe=>c.1 (a5 e)) (afB c.2) (oL K))
 |Pow=>
  refine aL h λc h=>oI h (bU rv λt=>bU ru λt'=>λQ E K=>?_);obtain⟨rfl,c1,c2⟩:=c;by_cases q:j=0
  ·subst q;exact AutoIntOps.pow_0 (by decide) (by decide) (oL K)
  ·exact AutoIntOps.pow_4 c1 (λe=>q (a5 e)) (by decide) (by decide) (W_ c1 c2) (oL K)
 |_=>exact nS h
@[elab_as_elim] theorem HK{m:PV->PV->Bool->Prop}(h:du (n+1) p q=some b)(kI:∀i j,m (.int i) (.int j) (i==j))(kS:∀i j,m (.str i) (.str j) (i==j))(kB:∀i j,m (.bool i) (.bool j) (i==j))
(kL:∀{l l' b},l.length=l'.length->du.qf (du n) l l'=some b->m (.list l) (.list l') b)(kN:∀{l l'},l.length≠l'.length->m (.list l) (.list l') false):m p q b:=by
 induction p using dq with
 |int i=>exact fH h λj e r=>r▸eu e (kI i j)|str i=>exact fH h λj e r=>r▸AZ e (kS i j)|bool i=>exact fH h λj e r=>r▸E2 e (kB i j)
 |list l=>exact aj h λk e h=>pM e (by
   by_cases c:l.length=k.length
   ·exact kL c ((iP c).symm.trans h)
   ·exact oI ((iN c).symm.trans h) (kN c))
 |_=>exact nS h
@[elab_as_elim] theorem ME{y z:PV}{M:Bool->Prop}(h:du.qf (du n) (y::l) (z::m)=some b)(K:∀r q,du n y z=some r->du.qf (du n) l m=some q->M (r&&q)):M b:=aj h λr e h=>fG h λq e'=>K r q e e'
theorem QK(h:f a=some (bu vs n))(r:aV c f (.ref a) (.list l)):aR c f vs l:=by
 revert h;exact dY (m:=λv=> ∀a,v=.ref a->f a=some (bu vs n)->aR c f vs l) r (λg r _ b e h=>by
  injection e with e;subst e
  have e:=g.symm.trans h;injection e with e;injection e with _ _ e;injection e with e;injection e with e;exact e▸r) a rfl
theorem adc{t:Tok}(r:aV c f (.int i t) (.int j)):i=j:=by refine dL r λ_ e=>?_;injection e
theorem aaj{i j:Str}{t:Tok}(r:aV c f (.str i t) (.str j)):i=j:=by refine dL r λ_ e=>?_;injection e
theorem ad5{i j:Bool}(r:aV c f (.bool i) (.bool j)):i=j:=Kc.inj r
theorem MB{m:List PV->Prop}(r:aR c f (v::vs) l)(K:∀{p l},aV c f v p->aR c f vs l->m (p::l)):m l:=by
 induction l using bO with
 |nil=>injection(r:v::vs=[])|cons p l=>refine sx ((show lI (λv=>aV c f v p) (λvs=>aR c f vs l) _ from r)) λ_ _ e a r=>?_;injection e with e1 e2;subst e1 e2;exact K a r
theorem Y9(ih:∀{v:ac} {p q:PV} {b:Bool},du n p q=some b->aV c f v p->aV c f v q->b=true):∀{l m:List PV} {vs:List ac} {b:Bool},aR c f vs l->aR c f vs m->du.qf (du n) l m=some b->b=true:=by
 intro l;induction l with
 |nil=>exact λ_ _ h=>(ay h).symm|cons y l il=>exact λ{m vs b} r=>eB r λa r r'=>MB (m:=λm=>du.qf (du n) (y::l) m=some b->b=true) r' λa' r' h=>ME h λc d e1 e2=>by erw[ih e1 a a'];erw[il r r' e2];rfl
theorem Ξ(n:Nat):∀{v:ac} {p q:PV} {b:Bool},du n p q=some b->aV c f v p->aV c f v q->b=true:=by
 induction n with
 |zero=>exact λh=>nS h
 |succ n ih=>
  exact λ{v p q b} h=>HK (m:=λp q b=>aV c f v p->aV c f v q->b=true) h
   (λ_ _ rp=>bU rp λ_ rq=>jU (adc rq)) (λ_ _ rp=>je rp λ_ rq=>jU (aaj rq)) (λ_ _ rp=>lW rp λrq=>jU (ad5 rq))
   (λ_ h rp=>dY rp λe r _ rq=>Y9 ih r (QK e rq) h) (λc rp=>dY rp λe r _ rq=>absurd (r.length.symm.trans (QK e rq).length) c)
theorem Zl(n:Nat){l:List PV}:∀{m:List PV} {b:Bool},du.qf (du n) l m=some b->l.length=m.length->
  ∃e:Nat->Bool,b=(ax l.length).all e/\∀j x y,l[j]?=some x->m[j]?=some y->du n x y=some (e j):=by
 induction l with
 |nil=>exact λh _=>(aA (λ_=>true) ((ay h).symm) (λj x y hx=>nS hx))
 |cons x l ih=>
  intro m b h hl;induction m using bO with
  |nil=>injection hl
  |cons y m=>
   exact ME h λr q e1 e2=>by
    refine aB (ih e2 (wK hl)) λe he hj=>(aA (λj=>j.casesOn r e) (?_) (λj x' y' hx hy=>?_))
    ·erw[wL];erw[yL];erw[Ko];erw[SL];erw[he];rfl
    ·induction j using nq with
     |zero=>exact ay hx▸ay hy▸e1|succ j=>exact hj j x' y' hx hy
theorem Qt{A:bh}{a a':ao}(R:oo A s (.ref a) (.ref a') b)(S:pO a=.ref a'->b=true):gD A s (.ref a) (.ref a') b:=by
 by_cases e:a=a'
 ·have:=S (af _ e);subst e this;exact gD.same _
 ·exact gD.of_refs e R
@[elab_as_elim] theorem Em{M:ac->ac->Prop}(rp:Rd (.list l) x v)(rq:Rd (.list m) x u)
(K:∀{a a'} {vs us:Array ac},x.s.heap.IsList a vs->x.s.heap.IsList a' us->vs.size=l.length->us.size=m.length->(∀j (h1:j<vs.size) (h2:j<us.size),∃z y,l[j]?=some z/\m[j]?=some y/\Rd z x vs[j]/\Rd y x us[j])->M (.ref a) (.ref a')):M v u:=
 dY rp λh1 r1 _=>dY rq λh2 r2 _=>K (kQ h1) (kQ h2) r1.length r2.length λ_ q1 q2=>aB (r1.at q1) λz x1 x2=>aB (r2.at q2) λy y1 y2=>(tL z y x1 y1 x2 y2)
theorem QJ{a b c d:Nat}(h1:a=c)(h2:b=d)(h:c≠d):(a !=b)=true:=by erw[h1];erw[h2];exact bne_iff_ne.mpr h
theorem Jb{A:bh}(hu:A.units<tq)(El:∀{v u:ac} {p q:PV} {b:Bool},du n p q=some b->Rd p x v->Rd q x u->gD A.in1 x.s v u b)(h:du (n+1) p q=some b)(rp:Rd p x v)(rq:Rd q x u):oo A x.s v u b/\uN A x.s v u !b:=
 HK (m:=λp q b=>Rd p x v->Rd q x u->oo A x.s v u b/\uN A x.s v u !b) h
  (λ_ _ rp=>bU rp λ_ rq=>bU rq λ_=>⟨oo.int_int _ _ _ _,uN.int_int _ _ _ _⟩)
  (λ_ _ rp=>je rp λ_ rq=>je rq λ_=>⟨oo.str_str _ _ _ _,uN.str_str _ _ _ _⟩)
  (λ_ _ rp=>lW rp λrq=>lW rq ⟨oo.bool_bool _ _,uN.bool_bool _ _⟩)
  (λhl h rp rq=>Em (M:=λv u=>oo A x.s v u _/\uN A x.s v u !_) rp rq λ{_ _ vs us} i1 i2 z1 z2 el=>by
   refine aB (Zl n h hl) λk bY hk=>?_;subst bY;have e:=z1.trans (hl.trans z2.symm);have he:∀j (h1:j<vs.size) (h2:j<us.size),gD A.in1 x.s vs[j] us[j] (k j):=λj q1 q2=>DN (el j q1 q2) λz y x1 y1 r1 r2=>El (hk j z y x1 y1) r1 r2;exact z1▸⟨oo.lists i1 i2 e hu he,uN.lists i1 i2 e hu he⟩)
  (λc rp rq=>Em (M:=λv u=>oo A x.s v u false/\uN A x.s v u true) rp rq λi1 i2 z1 z2 _=>⟨oo.lists_lengths i1 i2 (QJ z1 z2 c) hu,uN.lists_lengths i1 i2 (QJ z1 z2 c) hu⟩) rp rq
theorem JZ(n:Nat):∀{A:bh},A.units+n<tq->∀{v u:ac} {p q:PV} {b:Bool},du n p q=some b->Rd p x v->Rd q x u->gD A x.s v u b:=by
 induction n with
 |zero=>exact λ_ _ _ _ _ _ h=>nS h
 |succ n ih=>
  intro A hu v u p q b h rp rq;have R:=(Jb (A:=A) (aQ (cW _ _) hu) (ih (A:=A.in1) (by show A.units+1+n<_;rw[fC,gj 1];exact hu)) h rp rq).1;have S:=λe:v=u=>Ξ _ h rp (e▸rq);revert R S;exact HK (m:=λp q b=>Rd p x v->Rd q x u->oo A x.s v u b->(v=u->b=true)->gD A x.s v u b) h
   (λ_ _ rp=>bU rp λ_ rq=>bU rq λ_ _ _=>gD.int_int _ _ _ _) (λ_ _ rp=>je rp λ_ rq=>je rq λ_ _ _=>gD.str_str _ _ _ _) (λ_ _ rp=>lW rp λrq=>lW rq λ_ _=>gD.bool_bool _ _)
   (λ_ _ rp rq=>Em (M:=λv u=>oo A x.s v u _->(v=u->_=true)->gD A x.s v u _) rp rq λ_ _ _ _ _ R S=>Qt R S)
   (λ_ rp rq=>Em (M:=λv u=>oo A x.s v u false->(v=u->false=true)->gD A x.s v u false) rp rq λ_ _ _ _ _ R S=>Qt R S) rp rq
theorem Am.GK(A:Am d){n:Nat}(h:n+1<=40):A.A.in1.units+n<tq:=by show A.A.units+1+n<_;rw[fC,gj 1];exact A.room h
theorem ZH(h:du 4 p q=some b)(rp:Rd p x v)(rq:Rd q x u):aE A (jN .Eq v u) x (Rd (.bool b)):=λQ E K=>
 (Jb (A.room (n:=0) (by decide)) (JZ 3 (A.GK (by decide))) h rp rq).1 _ _ _ _ (k_here K .bool)
theorem ad3(h:du 4 p q=some b)(rp:Rd p x v)(rq:Rd q x u):aE A (jN .NotEq v u) x (Rd (.bool !b)):=λQ E K=>
 (Jb (A.room (n:=0) (by decide)) (JZ 3 (A.GK (by decide))) h rp rq).2 _ _ _ _ (k_here K .bool)
@[elab_as_elim] theorem YL{M:Bool->Prop}(h:kR n p (q::l)=some b)(K:∀r k,du n q p=some r->kR n p l=some k->M (r||k)):M b:=aj h λr e h=>fG h λk e'=>K r k e e'
structure I0(A:bh)(s:ag)(v:ac)(vs:List ac)(b:Bool):Prop where
 all:∀y∈vs,∃c,gD A s y v c
 yes:b=true->∃y∈vs,gD A s y v true
 no:b=false->∀y∈vs,gD A s y v false
theorem X1{A:bh}{c q:Bool}(hy:gD A s u v c)(I:I0 A s v vs q):I0 A s v (u::vs) (c||q) where
 all z m:=(bw m).elim (λe=>⟨c,e▸hy⟩) (I.all z)
 yes e:=by
  induction c using ji with
  |true=>exact(aA _ (.head _) hy)|false=>exact(I.yes e).elim λz k=>(aA z (.tail _ k.1) k.2)
 no e z m:=(bw m).elim (λk=>k▸(rx.mp e).1▸hy) (I.no (rx.mp e).2 z)
theorem aan{A:bh}(rv:Rd p x v)(hu:A.units+n<tq){l:List PV}:∀{vs:List ac} {b:Bool},bt l x vs->kR n p l=some b->I0 A x.s v vs b:=by
 induction l with
 |nil=>exact λ{vs b} r h=>i0 r (ay h▸⟨λ_ m=>absurd m eX,λe=>absurd e dy,λ_ _ m=>absurd m eX⟩)|cons y l ih=>exact λ{vs b} r h=>eB r λa r=>YL h λc q e1 e2=>X1 (JZ n hu e1 a rv) (ih r e2)
open Classical in
theorem QT{A:bh}(rv:Rd p x v)(hu:A.units+4<tq)(r:bt l x vs)(h:kR 4 p l=some b):∃e:ac->Bool,vs.toArray.any e=b/\∀y∈vs.toArray,gD A x.s y v (e y):=by
 have I:=aan rv hu r h;rw[show(∃e:ac->Bool,vs.toArray.any e=b/\∀y∈vs.toArray,gD A x.s y v (e y))=∃e:ac->Bool,vs.any e=b/\∀y∈vs,gD A x.s y v (e y) by simp only[List.any_toArray,List.mem_toArray]];induction b using ji with
 |false=>exact(aA (λ_=>false) (vd.mpr λ_ _=>dy) (I.no rfl))
 |true=>
  refine aB (I.yes rfl) λz m k=>(aA (λy=>if gD A x.s y v true then true else false) (Lq.mpr (aA z m (iP k))) (λy m=>dL (I.all y m) λc hc=>?_));by_cases q:gD A x.s y v true
  ·exact(af (gD A x.s y v) (iP q)).mpr q
  ·induction c using ji with
   |true=>exact absurd hc q|false=>exact(af (gD A x.s y v) (iN q)).mpr hc
theorem OC(h:G2 p q=some b)(rp:Rd p x v)(rq:Rd q x u):aE A (jN .In v u) x (Rd (.bool b))/\aE A (jN .NotIn v u) x (Rd (.bool !b)):=by
 have hu:A.A.in1.units+4<tq:=A.GK (by decide);induction q using dq with
 |list l=>
  exact dY rq λhl r _=>by
   obtain⟨e,rfl,he⟩:=QT rp hu r h;exact⟨λQ E K=>in_listAt e (kQ hl) he (k_here K .bool),λQ E K=>notIn_listAt e (kQ hl) he (k_here K .bool)⟩
 |tup l=>
  exact iT rq λhl r _=>by
   obtain⟨e,rfl,he⟩:=QT rp hu r h;exact⟨λQ E K=>in_tupleAt e (An hl) he (k_here K .bool),λQ E K=>notIn_tupleAt e (An hl) he (k_here K .bool)⟩
 |_=>exact nS h
theorem DM{op:iF}{k:Int->Int->Bool}(h:yd k p q=some b)(rp:Rd p x v)(rq:Rd q x u)(K:∀{i j t t'} {Q E},Q (.bool (k i j)) x.s->ai (ah pw c.w) A.A (jN op (.int i t) (.int j t')) Q E x.s):aE A (jN op v u) x (Rd (.bool b)):=by
 revert rp rq;exact aj h λi e h=>fG h λj e'=>eu e (eu e' λrp rq=>bU rp λ_=>bU rq λ_=>λQ E k=>K (k_here k .bool))
theorem Fh(h:plainIs v u=true)(e:(v==u)=b):aE A (jN .Is v u) x (Rd (.bool b))/\aE A (jN .IsNot v u) x (Rd (.bool !b)):=
 ⟨λQ E K=>wpAny_is_plain h (k_here K (e▸ .bool)),λQ E K=>wpAny_isNot_plain h (k_here K (e▸ .bool))⟩
theorem Q9(h:JF p q=some b)(rp:Rd p x v)(rq:Rd q x u):aE A (jN .Is v u) x (Rd (.bool b))/\aE A (jN .IsNot v u) x (Rd (.bool !b)):=by
 induction p using dq with
 |none=>exact fG h λ_ e=>AY (m:=λq=>Rd q x u->_) e (λrq=>qt rp (qt rq (Fh rfl rfl))) rq|list l=>exact fG h λ_ e=>AY (m:=λq=>Rd q x u->_) e (λrq=>dY rp λ_ _ _=>qt rq (Fh rfl rfl)) rq|int i=>exact fG h λ_ e=>AY (m:=λq=>Rd q x u->_) e (λrq=>bU rp λ_=>qt rq (Fh rfl rfl)) rq|tup l=>exact fG h λ_ e=>AY (m:=λq=>Rd q x u->_) e (λrq=>iT rp λ_ _ _=>qt rq (Fh rfl rfl)) rq|_=>exact nS h
theorem ZB(h:p.truth=some b)(rp:Rd p x v):aE A (yM v) x (Is b):=by
 induction p using dq with
 |none=>exact oI h (qt rp λ_ _ K=>λ_ _ _=>K _ x (.refl x) rfl)|bool c=>exact oI h (lW rp (λ_ _ K=>wM (K _ x (.refl x) rfl)))|int i=>exact oI h (bU rp λ_=>λ_ _ K=>truthy_int (K _ x (.refl x) (by by_cases z:i=0<;>simp[z])))
 |list l=>exact oI h (dY rp λ{_ _ vs} h1 r1 hz=>λ_ _ K=>wpAny_truthy_list (kQ h1) (mH (pz (aq (aD r1.length) hz:vs.toArray.size<=az)) (by decide)) (K _ (x.tok _) (x.cG _) (show(!vs.toArray.isEmpty)= !l.isEmpty by
   induction l using bO with
   |nil=>exact i0 r1 rfl|cons=>exact eB r1 λ_ _=>rfl)))
 |_=>exact nS h
theorem X0(h:PG p=some q)(r:Rd p x v):aE A (unaryOp .USub v) x (Rd q):=fG h λi e=>eu (m:=λp=>Rd p x v->_) e (λr=>bU r λ_=>λQ E K=>neg_int (jC K .int)) r
end
structure ch(W:ao->Prop)(g:Nat)(s s':ag):Prop where
 keep:∀b o,s.heap.get? b=some o->¬dC b->¬W b->s'.heap.get? b=some o
 gens:∀(i:Nat) (x:jp),i<g->s.gens[i]?=some x->s'.gens[i]?=some x
 di:s.gens.size<=s'.gens.size
 bare:(∀(i:Nat) (x:jp),g<=i->s.gens[i]?=some x->x.bare=true)->∀(i:Nat) (x:jp),g<=i->s'.gens[i]?=some x->x.bare=true
 os:s'.os=s.os
section
variable{s':ag}{W W':ao->Prop}{g g0:Nat}{b:ao}
theorem ch.refl(s:ag):ch W g s s:=⟨λ_ _ h _ _=>h,λ_ _ _ h=>h,bf _,λh=>h,rfl⟩
theorem ch.trans(x:ch W g s s')(y:ch W g s' i8):ch W g s i8:=
 ⟨λb o h t k=>y.keep b o (x.keep b o h t k) t k,λi z q h=>y.gens i z q (x.gens i z q h),aq x.di y.di,λh=>y.bare (x.bare h),y.os.trans x.os⟩
theorem ch.weaken(x:ch W g s s')(k:∀b,W b->W' b):ch W' g s s':=⟨λb o h t n=>x.keep b o h t λq=>n (k b q),x.gens,x.di,x.bare,x.os⟩
theorem e9.nJ(x:e9 s s'):ch W g s s':=⟨λb o h t _=>x.keep b o h t,λi z _ h=>x.gens i z h,x.di,x.Ps,x.os⟩
theorem ch.toe9(x:ch W s.gens.size s s')(k:∀b,W b->s.heap.get? b=none):e9 s s':=
 ⟨λb o h t=>x.keep b o h t λq=>nS ((k b q).symm.trans h),λi z h=>x.gens i z (om λq=>uc q h) h,x.bare λ_ _=>uc,x.os⟩
theorem ch.shrink(x:ch W' g s s')(h:∀b,W' b->W b\/s.heap.get? b=none):ch W g s s':=
 ⟨λb o e t n=>x.keep b o e t λq=>(h b q).elim n λz=>nS (z.symm.trans e),x.gens,x.di,x.bare,x.os⟩
theorem ch.lower(x:ch W g s s')(h:g0<=g)(hs:g<=s.gens.size):ch W g0 s s':=
 ⟨x.keep,λi z q e=>x.gens i z (ba q h) e,x.di,λb i z q e=>by
  by_cases c:g<=i
  ·exact x.bare (λj y q e=>b j y (aq h q) e) i z c e
  ·have h1:=tn (ba (om c) hs);exact b i z q (h1.trans (af some (ay ((x.gens _ _ (om c) h1).symm.trans e)))),x.os⟩
theorem ch.back(x:ch W g s s')(t:¬dC b)(h:s'.heap.get? b=none):s.heap.get? b=none\/W b:=by
 by_cases q:W b
 ·exact .inr q
 ·cases e:s.heap.get? b with
  |none=>exact .inl rfl|some o=>exact nS (h.symm.trans (x.keep b o e t q))
theorem ch.Sp{t:Nat}(x:dD a s.heap h')(k:W a):ch W g s {s with heap:=h',toks:=t}:=
 ⟨λb o e _ n=>(x.2 b λq=>n (q▸k)).trans e,λ_ _ _ h=>h,bf _,λh=>h,rfl⟩
theorem ir.one{h h':am}{a:ao}(x:ir h)(y:dD a h h')(k:719<=a)(n:∀o,h.get? a=some o->¬(o.cls=.type "code"/\∃vs,o.data=.fields vs)):ir h':=
 x.but λb o e c=>(y.2 b λq=>c.elim (λl=>cV _ (ba (q▸l) k)) λc=>n o (q▸e) c).trans e
theorem cK(h:719<=b):¬dC b:=λq=>cV _ (ba h (M0 q))
end
structure bV{c:Cx}(x:Pt c)(b:ao):Prop where
 f:x.f b=none
 h₀:c.h₀.get? b=none
 hi:719<=b
structure Wr{c:Cx}(W:ao->Prop)(g:Nat)(x y:Pt c):Prop where
 f:y.f=x.f
 e:ch W g x.s y.s
section
variable{c:Cx}{x y z:Pt c}{W W':ao->Prop}{g:Nat}{b:ao}{s':ag}{p:PV}{v:ac}
theorem bV.le(n:bV x b)(l:Le x y)(t:∃o,x.s.heap.get? b=some o):bV y b:=by
 refine⟨?_,n.h₀,n.hi⟩;cases e:y.f b with
 |none=>rfl|some o=>exact(l.new b o e).elim (λq=>nS (n.f.symm.trans q)) λq=>t.elim λo' q'=>nS (q.symm.trans q')
theorem Pt.DG(x:Pt c)(h:x.s.heap.get? a=none):c.h₀.get? a=none:=by
 cases e:c.h₀.get? a with
 |none=>rfl|some o=>exact nS (h.symm.trans (x.keep a o e))
theorem Pt.hi(x:Pt c)(h:x.s.heap.objs.size<=a):719<=a:=aq x.big h
theorem Pt.free(x:Pt c)(h:x.s.heap.objs.size<=a)(n:x.s.heap.get? a=none):bV x a:=⟨x.EN n,x.DG n,x.hi h⟩
theorem Wr.refl:Wr W g x x:=⟨rfl,.refl _⟩
theorem Wr.trans(a:Wr W g x y)(b:Wr W g y z):Wr W g x z:=⟨b.f.trans a.f,a.e.trans b.e⟩
theorem Wr.rd(w:Wr W g x y)(r:Rd p x v):Rd p y v:=mF (af (λf=>aV c f v p) w.f) r
theorem Wr.sub(w:Wr W g x y):Sub x.f y.f:=λa o e=>(congrFun w.f a).trans e
theorem Wr.free(w:Wr W g x y)(n:bV x b):bV y b:=⟨(congrFun w.f b).trans n.f,n.h₀,n.hi⟩
noncomputable def Pt.wr(x:Pt c)(s':ag)(e:ch W g x.s s')(t:ir s'.heap)(k:∀b,W b->c.h₀.get? b=none/\x.f b=none):Pt c where
 s:=s'
 f:=x.f
 keep b o h:=e.keep b o (x.keep b o h) (λq=>Pt.h0 c q h) λq=>nS ((k b q).1.symm.trans h)
 tab:=t
 K:=x.K
 nt:=x.nt
 hs b o h:=e.keep b o (x.hs b o h) (x.nt b o h) λq=>nS ((k b q).2.symm.trans h)
noncomputable def Pt.but(x:Pt c){t:Nat}(hs:dD a x.s.heap h')(n:bV x a)(k:∀o,x.s.heap.get? a=some o->¬(o.cls=.type "code"/\∃vs,o.data=.fields vs)):Pt c:=
 x.wr (W:=λb=>b=a) (g:=0) {x.s with heap:=h',toks:=t} (.Sp hs rfl) (x.tab.one hs n.hi k) λb q=>q▸⟨n.h₀,n.f⟩
theorem Wr.but{t:Nat}{hs:dD a x.s.heap h'}{n:bV x a}{k:∀o,x.s.heap.get? a=some o->¬(o.cls=.type "code"/\∃vs,o.data=.fields vs)}(w:W a):Wr W g x (x.but (t:=t) hs n k):=⟨rfl,.Sp hs w⟩
end
structure br{c:Cx}(W:ao->Prop)(g:Nat)(x y:Pt c):Prop where
 sub:Sub x.f y.f
 new:∀a o,y.f a=some o->x.f a=some o\/x.s.heap.get? a=none\/W a
 e:ch W g x.s y.s
section
variable{c:Cx}{x y z:Pt c}{W W':ao->Prop}{g g':Nat}{b:ao}{p:PV}{v:ac}
theorem br.refl:br W g x x:=⟨λ_ _ e=>e,λ_ _=>.inl,.refl _⟩
theorem br.trans(l:br W g x y)(m:br W g y z):br W g x z:=⟨λa o e=>m.sub a o (l.sub a o e),λa o e=>(m.new a o e).elim (l.new a o) λq=>.inr (q.elim (λn=>l.e.back (z.nt a o e) n) .inr),l.e.trans m.e⟩
theorem Le.st(l:Le x y):br W g x y:=⟨l.sub,λa o e=>(l.new a o e).imp id .inl,l.e.nJ⟩
theorem Wr.st(w:Wr W g x y):br W g x y:=⟨w.sub,λa o e=>.inl ((congrFun w.f a).symm.trans e),w.e⟩
theorem br.weaken(l:br W g x y)(k:∀b,W b->W' b):br W' g x y:=⟨l.sub,λa o e=>(l.new a o e).imp id (.imp id (k a)),l.e.weaken k⟩
theorem br.shrink(l:br W' g x y)(k:∀b,W' b->W b\/x.s.heap.get? b=none):br W g x y:=⟨l.sub,λa o e=>(l.new a o e).imp id λq=>q.elim .inl λq=>(k a q).symm,l.e.shrink k⟩
theorem br.lower(l:br W g x y)(h:g'<=g)(hs:g<=x.s.gens.size):br W g' x y:=⟨l.sub,l.new,l.e.lower h hs⟩
theorem br.le(l:br W x.s.gens.size x y)(k:∀b,W b->x.s.heap.get? b=none):Le x y:=⟨l.e.toe9 k,l.sub,λa o e=>(l.new a o e).imp id λq=>q.elim id (k a)⟩
theorem br.rd(l:br W g x y)(r:Rd p x v):Rd p y v:=r.mono l.sub
abbrev cH(W:ao->Prop)(x y:Pt c):Prop:=br W x.s.gens.size x y
theorem cH.trans(l:cH W x y)(m:cH W y z):cH W x z:=br.trans l (m.lower l.e.di (bf _))
end
theorem Ik{h:am}{a:ao}{m:Str->Option ac}(n:h.Ns a m)(o:Obj)(e:h.get? a=some o):¬(o.cls=.type "code"/\∃vs,o.data=.fields vs):=λk=>by
 obtain⟨_,vs,q⟩:=k;refine jH n λo' es ep e1 e2 _=>?_;rw[<-ay (e.symm.trans e1),q] at e2;injection e2
theorem Z'{h:am}{a:ao}{v:Option ac}(n:h.IsCell a v)(o:Obj)(e:h.get? a=some o):¬(o.cls=.type "code"/\∃vs,o.data=.fields vs):=λk=>by
 obtain⟨_,vs,q⟩:=k;refine aB n λo' e1 e2=>?_;rw[<-ay (e.symm.trans e1),q] at e2;injection e2
def dB(env:Env)(h:am)(x:Str)(v:ac):Prop:=
 (env.kindOf x=some .local/\∃m,h.Ns env.locals m/\m x=some v)\/
 ((env.kindOf x=some .cell\/(env.kindOf x=some .free/\(x==("__classdict__":Str))=false))/\∃c,env.cells.lookup x=some c/\h.IsCell c (some v))
structure Fm where
 env:Env
 nm:aN
 kind:env.scope.kind=.function
 glob:env.globals=mE
 blt:env.builtins=uM
 names:∀x,ak nm x=some .globalImplicit->env.kindOf x=some .globalImplicit
 cells:∀x,(ak nm x=some .cell\/ak nm x=some .free)->x≠("__classdict__":Str)->(env.kindOf x=some .cell\/env.kindOf x=some .free)/\(env.cells.lookup x).isSome=true
 i9:¬dC env.locals/\∀x c,env.cells.lookup x=some c->¬dC c
 cl:∀x c,env.cells.lookup x=some c->c≠env.locals
 apart:∀x y c,env.cells.lookup x=some c->env.cells.lookup y=some c->x=y
 code:pC nm=true->vw env.code=true
structure bA{c:Cx}(F:Fm)(x:Pt c)(σ:bj):Prop where
 cU:∀z a,F.env.cells.lookup z=some a->∃v,x.s.heap.IsCell a v
 var:∀z p,ak σ z=some p->∃v,dB F.env x.s.heap z v/\Rd p x v
def dm(env:Env)(b:ao):Prop:=b=env.locals\/∃x,env.cells.lookup x=some b
def tK(F:Fm)(b:ao):Prop:=b=F.env.locals\/∃x,ak F.nm x=some .cell/\F.env.cells.lookup x=some b
structure jD{c:Cx}(F:Fm)(x:Pt c):Prop where
 ns:∃m,x.s.heap.Ns F.env.locals m
 own:bV x F.env.locals
 loc:∀z,ak F.nm z=some .local->F.env.kindOf z=some .local
 ll:∀z,ak F.nm z=some .cell->F.env.kindOf z=some .cell/\∃a,F.env.cells.lookup z=some a/\bV x a
section
variable{c:Cx}{x y:Pt c}{F:Fm}{env:Env}{h:am}{z q:Str}{v:ac}{σ σ':bj}{m:Str->Option ac}{p:PV}{W:ao->Prop}{g t:Nat}{M:f4}{E Q:ac->ag->Prop}
theorem m9{b:ao}(q:tK F b):dm F.env b:=q.imp id λq=>q.imp λ_ q=>q.2
theorem qC{b:ao}(q:dm F.env b):¬dC b:=q.elim (λe=>e▸F.i9.1) λq=>q.elim λx e=>F.i9.2 x b e
theorem dB.keep(V:dB env h z v)(k:∀b o,dm env b->h.get? b=some o->h'.get? b=some o):dB env h' z v:=by
 refine V.imp (λV=>⟨V.1,?_⟩) λV=>⟨V.1,?_⟩
 ·exact aB V.2 λm n e=>(aA m (n.at' λo e=>k _ o (.inl rfl) e) e)
 ·obtain⟨b,n,o,e1,e2⟩:=V.2;exact⟨b,n,o,k b o (.inr ⟨z,n⟩) e1,e2⟩
theorem bA.keep(X:bA F x σ)(k:∀b o,dm F.env b->x.s.heap.get? b=some o->y.s.heap.get? b=some o)(hf:Sub x.f y.f):bA F y σ where
 cU z a e:=by refine eH (X.cU z a e) λv o e1 e2=>?_;exact(dh v o (k a o (.inr ⟨z,e⟩) e1) e2)
 var z p e:=by refine aB (X.var z p e) λv V r=>?_;exact(aA v (V.keep k) (r.mono hf))
theorem bA.le(X:bA F x σ)(l:Le x y):bA F y σ:=X.keep (λb o w e=>l.e.keep b o e (qC w)) l.sub
theorem bA.weaken(X:bA F x σ)(k:∀z p,ak σ' z=some p->ak σ z=some p):bA F x σ':=⟨X.cU,λz p e=>X.var z p (k z p e)⟩
theorem jD.keep(Z:∀z a,F.env.cells.lookup z=some a->∃v,x.s.heap.IsCell a v)(X:jD F x)(k:∀b o,dm F.env b->x.s.heap.get? b=some o->y.s.heap.get? b=some o)(kf:∀b,dm F.env b->bV x b->(∃o,x.s.heap.get? b=some o)->bV y b):jD F y where
 ns:=by obtain⟨m,n⟩:=X.ns;exact⟨m,n.at' λo e=>k _ o (.inl rfl) e⟩
 own:=kf _ (.inl rfl) X.own (by refine ut X.ns λm o es ep e _=>?_;exact⟨o,e⟩)
 loc:=X.loc
 ll z e:=by
  obtain⟨k1,a,b,n⟩:=X.ll z e;exact eH (Z z a b) λv o e1 _=>⟨k1,a,b,kf a (.inr ⟨z,b⟩) n ⟨o,e1⟩⟩
theorem jD.le(X:jD F x)(V:bA F x σ)(l:Le x y):jD F y:=X.keep V.cU (λb o w e=>l.e.keep b o e (qC w)) λb _ n t=>n.le l t
theorem Az(F:Fm)(V:dB F.env x.s.heap z v)(h:Q v x.s):ai M A (loadName F.env z) Q E x.s:=by
 rcases V with⟨a,m,n,e⟩|⟨a,c,n,e⟩
 ·exact wpAny_loadName_local F.kind a n e h
 ·exact a.elim (λa=>wpAny_loadName_cell F.kind a n e h) λa=>wpAny_loadName_free F.kind a.1 n e h a.2
def de(P:cD)(x:Str):Option ac:=(nsIn (KL P) mE x).bind λv=>match v with
 |some v=>some v|none=>if x=("__name__":Str) then none else bootBuiltins x
theorem NH{A:bh}(F:Fm)(x:Pt c)(hx:F.env.kindOf z=some .globalImplicit)(e:de c.w.params z=some v)(h:Q v x.s):ai M A (loadName F.env z) Q E x.s:=by
 have go:ai M A (loadGlobal F.env z) Q E x.s:=by
  obtain⟨mg,g⟩:=c.g;have g':x.s.heap.Ns F.env.globals mg:=F.glob▸g.keeps x.keep;refine aj e λo q e=>?_;induction o using qy with
  |some v'=>exact Calls.loadGlobal_global g' (mg_of c.K g (q.trans (af some e))) h
  |none=>
   refine fZ e λn e=>aB c.b λmb b hb=>?_;have b':x.s.heap.Ns F.env.builtins mb:=F.blt▸b.keeps x.keep;exact Calls.loadGlobal_builtin g' (mg_none_of c.K g q) b' ((hb z n).trans e) h
 exact aa (loadName_read F.kind hx) (go)
theorem wn{α:Type}{l:List (Str×α)}{x y:Str}{v:α}:ak (cf l x v) y=if y=x then some v else ak l y:=by
 induction l with
 |nil=>
  show(if x=y then some v else none)=_;by_cases e:x=y
  ·refine aa (iP e) (aa (iP e.symm) ?_);rfl
  ·erw[iN e];erw[iN (gV e)];rfl
 |cons q r ih=>
  obtain⟨z,u⟩:=q;by_cases e:z=x
  ·erw[(show cf ((z,u)::r) x v=(x,v)::r from iP e)];show(if x=y then some v else ak r y)=if y=x then some v else(if z=y then some u else ak r y);by_cases q:x=y
   ·refine aa (iP q) (aa (iP q.symm) ?_);rfl
   ·refine aa (iN q) (aa (iN (gV q)) (aa (iN λk=>q (e.symm.trans k)) ?_));rfl
  ·erw[(show cf ((z,u)::r) x v=(z,u)::cf r x v from iN e)];show(if z=y then some u else ak (cf r x v) y)=if y=x then some v else(if z=y then some u else ak r y);erw[ih];by_cases q:z=y
   ·refine aa (iP q) (aa (iN λk=>e (q.trans k)) (aa (iP q) ?_));rfl
   ·refine aa (iN q) (aa (iN q) ?_);rfl
theorem s8{α:Type}{P:Prop}{l:List (Str×α)}{x y:Str}{v u:α}(h:ak (cf l x v) y=some u)(k1:y=x->u=v->P)(k2:y≠x->ak l y=some u->P):P:=by
 by_cases q:y=x
 ·exact k1 q (ay (((wn.trans (iP q)).symm.trans h)).symm)
 ·exact k2 q ((wn.trans (iN q)).symm.trans h)
structure zM{c:Cx}(F:Fm)(z:Str)(u:ac)(x y:Pt c):Prop where
 at_:dB F.env y.s.heap z u
 old:∀q v,q≠z->dB F.env x.s.heap q v->dB F.env y.s.heap q v
 cU:∀z a,F.env.cells.lookup z=some a->∃v,y.s.heap.IsCell a v
 r:jD F y
 wr:∀g,Wr (tK F) g x y
 gens:y.s.gens=x.s.gens
theorem zM.vars(S:zM F z u x y)(X:bA F x σ)(r:Rd p x u):bA F y (cf σ z p) where
 cU:=S.cU
 var q p' e:=s8 e (λe1 e2=>(aA u (e1▸S.at_) (e2▸(S.wr 0).rd r))) λn e=>by refine aB (X.var q p' e) λv V r=>?_;exact(aA v (S.old q v n V) ((S.wr 0).rd r))
theorem Mw{M:f4}{A:bh}{Q:Unit->ag->Prop}(X:∀z a,F.env.cells.lookup z=some a->∃v,x.s.heap.IsCell a v)(Y:jD F x)(hx:ak F.nm z=some .local\/ak F.nm z=some .cell)(k:∀y,zM F z u x y->Q () y.s):ai M A (Cc F.env z u) Q E x.s:=by
 rcases hx with e|e
 ·obtain⟨m,n⟩:=Y.ns;refine wpAny_storeName_local (Y.loc z e) n (λh' hn hs=>k (x.but (t:=x.s.toks+1) hs Y.own (Ik n)) {
   at_:=.inl ⟨Y.loc z e,_,hn,iP rfl⟩
   old:=λq v ne V=>V.imp (λV=>⟨V.1,_,hn,(iN ne).trans (by refine aB V.2 λm' n' e=>?_;rw[n.agree n',e])⟩) λV=>⟨V.1,by refine aB V.2 λa b i=>?_;exact(aA a b (i.sameBut hs (F.cl q a b)))⟩
   cU:=λq a b=>by obtain⟨v,i⟩:=X q a b;exact⟨v,i.sameBut hs (F.cl q a b)⟩
   r:=⟨⟨_,hn⟩,(Wr.but (W:=tK F) (g:=0) (.inl rfl)).free Y.own,Y.loc,λq e=>by obtain⟨k,a,b,n⟩:=Y.ll q e;exact⟨k,a,b,n.f,n.h₀,n.hi⟩⟩
   wr:=λg=>.but (.inl rfl)
   gens:=rfl}) (by erw[F.kind];rfl)
 ·obtain⟨k1,a,b,n⟩:=Y.ll z e;obtain⟨v,i⟩:=X z a b;exact wpAny_storeName_cell F.kind k1 b i λh' hn hs=>k (x.but (t:=x.s.toks) hs n (Z' i)) {
   at_:=.inr ⟨.inl k1,a,b,hn⟩
   old:=λq v ne V=>V.imp (λV=>⟨V.1,by refine aB V.2 λm' n' e=>?_;exact(aA m' (n'.sameBut hs (gV (F.cl z a b))) e)⟩) λV=>⟨V.1,by refine aB V.2 λa' b' i=>?_;exact(aA a' b' (i.sameBut hs λe=>ne (F.apart q z a' b' (e▸b))))⟩
   cU:=λq a' b'=>by
    obtain⟨v,i⟩:=X q a' b';by_cases e:a'=a
    ·exact⟨u,e▸hn⟩
    ·exact⟨v,i.sameBut hs e⟩
   r:=⟨by refine dL Y.ns λm n=>?_;exact⟨m,n.sameBut hs (gV (F.cl z a b))⟩,⟨Y.own.f,Y.own.h₀,Y.own.hi⟩,Y.loc,λq e=>by obtain⟨k,a,b,n⟩:=Y.ll q e;exact⟨k,a,b,n.f,n.h₀,n.hi⟩⟩
   wr:=λg=>.but (.inr (aA z e b))
   gens:=rfl}
end
end
section
variable{c:Cx}{x y:Pt c}{d:Nat}{A:Am d}{v:ac}{l:List PV}{vs us:List ac}{p:PV}
section
variable{f:Fz}{u:ac}{i j:Int}{m:List PV}{a:ao}{n k:Nat}{q r:PV}{b:Bool}{O:aK}{s:ag}
theorem DK{w:cO}{A:bh}{value slice:Expr}{o i:ac}{T id:String}{Q:ac->ag->Prop}{E:ac->ag->Prop}(hT:s.TypeIs o T)
(hl:typeLookup (.type T) "__getitem__"=pure (some (.builtin id)))(h:ai (ah pw w) A (yN o i) Q E s):ai (ah pw w) A (Fx value slice o i) Q E s:=by
 unfold Fx;refine ae (aa (getitemInPython_of_ne hT.not_modules) (ae (Fy hT hl ?_)));have op:∀l,ai (ah pw w) A (operate l (yN o i)) (λr Gs=>ai (ah pw w) A (letTemporaryGo value o r>>=λ_=>pure r) Q E Gs) E s:=λl=>wpAny_operating (cQ h (λr Gs ahe=>ae (wpAny_letTemporaryGo (au ahe))) λ_ _ x=>x);have fin:ai (ah pw w) A (subscripted slice false o i) (λr Gs=>ai (ah pw w) A (letTemporaryGo value o r>>=λ_=>pure r) Q E Gs) E s:=by
  induction slice using ej with
  |Slice lo hi st=>induction st using qy with
   |none=>exact op _|some=>exact op _
  |_=>exact op _
 first
  |exact au (ae fin)
  |exact ae (au (ae fin))
  |exact ae fin
theorem Hz(h:wJ i n=some k)(z:n<=az): -2^63<=i/\i<2^63/\((0<=i/\k=i.toNat)\/(i<0/\ -(n:Int)<=i/\k=(i+n).toNat)):=by
 have h:(if(decide (0<=(if i<0 then i+n else i))&&decide ((if i<0 then i+n else i)<n))=true then some (if i<0 then i+n else i).toNat else none)=some k:=h;refine aL h λq h=>oI h ?_;rw[mK,decide_eq_true_eq,decide_eq_true_eq] at q;unfold az at z;by_cases z:i<0
 ·rw[iP z] at q⊢;exact⟨by lia,by lia,.inr (eA z (by lia) rfl)⟩
 ·rw[iN z] at q⊢;exact⟨by lia,by lia,.inl ⟨q.1,rfl⟩⟩
theorem DH{k:Nat}(e:vs[k]?=some v):vs.toArray[k]?=some v:=re.trans e
theorem Mc(z:l.length<=az)(r:aR c f vs l):((vs.toArray.size:Nat):Int)<2^63:=mH (pz (aq (aD r.length) z:vs.toArray.size<=az)) (by decide)
theorem YU(r:Rd (.list l) x v)(ru:Rd (.int i) x u){k:Nat}(e1:wJ i l.length=some k)(e2:l[k]?=some p):aE A (yN v u) x (Rd p)/\∃a vs,v=.ref a/\x.s.heap.IsList a vs:=by
 refine dY r λ{a n vs} h rl z=>bU ru λt=>⟨λQ E K=>?_,a,_,rfl,kQ h⟩;obtain⟨h1,h2,c⟩:=Hz e1 z;obtain⟨v,e3,rv⟩:=rl.get e2;have hs:vs.toArray.size=l.length:=rl.length;rcases c with⟨c1,rfl⟩|⟨c1,c2,rfl⟩
 ·exact wpAny_getItem_list (kQ h) c1 h2 (DH e3) (k_here K rv)
 ·exact wpAny_getItem_list_neg (kQ h) c1 (hs▸c2) h1 (by erw[hs];exact DH e3) (k_here K rv)
theorem abq(r:Rd (.tup l) x v)(ru:Rd (.int i) x u){k:Nat}(e1:wJ i l.length=some k)(e2:l[k]?=some p):aE A (yN v u) x (Rd p)/\∃a vs,v=.ref a/\x.s.heap.IsTuple a vs:=by
 refine iT r λ{a n vs} h rl z=>bU ru λt=>⟨λQ E K=>?_,a,_,rfl,An h⟩;obtain⟨h1,h2,_⟩:=Hz e1 z;obtain⟨v,e3,rv⟩:=rl.get e2;exact P.getItem_tuple (k:=k) (y:=v) (x.hs _ _ h) h1 h2 (by erw[i4];erw[rl.length];exact e1) (DH e3) (k_here K rv)
theorem XI{value slice:Expr}(h:bQ p q=some r)(rp:Rd p x v)(rq:Rd q x u):aE A (yN v u) x (Rd r)/\aE A (Fx value slice v u) x (Rd r):=by
 revert rq;induction p using dq with
 |list l=>
  exact aj h λi e h=>aj h λk e1 e2=>eu e λrq=>by
   obtain⟨g,a,vs,rfl,z⟩:=YU (A:=A) rp rq e1 e2;exact⟨g,λQ E K=>DK z.typeIs list_getitem_lookup (g Q E K)⟩
 |tup l=>
  exact aj h λi e h=>aj h λk e1 e2=>eu e λrq=>by
   obtain⟨g,a,vs,rfl,o,e,c,_⟩:=abq (A:=A) rp rq e1 e2;exact⟨g,λQ E K=>DK (T:="tuple") (aA o e c) F.slot_tuple_getitem.lookup (g Q E K)⟩
 |_=>exact nS h
theorem aR.take:∀{vs:List ac} {l:List PV} (k:Nat),aR c f vs l->aR c f (vs.take k) (l.take k):=by
 intro vs l;induction l generalizing vs with
 |nil=>exact λk r=>i0 r (by cases k<;>exact .nil)
 |cons p l ih=>
  intro k r;refine eB r λa r=>?_;induction k using nq with
  |zero=>exact .nil|succ k=>exact .cons a (ih k r)
theorem aR.drop:∀{vs:List ac} {l:List PV} (k:Nat),aR c f vs l->aR c f (vs.drop k) (l.drop k):=by
 intro vs l;induction l generalizing vs with
 |nil=>exact λk r=>i0 r (by cases k<;>exact .nil)
 |cons p l ih=>
  intro k r;induction k using nq with
  |zero=>exact r|succ k=>exact eB r λ_ r=>ih k r
theorem Wc(l:List PV)(lo hi:Option Int):(jz l lo hi).length<=l.length:=aq (SM _ _).length_le (List.drop_sublist _ _).length_le
noncomputable def BO(vl vu:ac):Obj:={cls:=.type "slice",data:=.fields #[vl,vu,.none]}
theorem aco{value slice:Expr}{vl vu:ac}{zl zu:Option Int}(r:Rd (.list l) x v)(pl:IsPart vl zl)(pu:IsPart vu zu):aE A (Fx value slice v (.ref x.s.heap.objs.size)) (x.push (BO vl vu) x.s.toks) (Rd (.list (jz l zl zu))):=
 dY r λ{a n vs} h rl z=>λQ E K=>by
  have hl:=(kQ h).push (BO vl vu);refine DK (T:="list") (s:=(x.push (BO vl vu) x.s.toks).s) hl.typeIs list_getitem_lookup (wpAny_getItem_list_slice (s:=(x.push (BO vl vu) x.s.toks).s) hl (am.IsSliceOf.new ..) pl pu .none (by simp) ?_ (l4 (us:=[]) (m:=[]) rl z (r':=.nil) rfl));have e:slicePick vs.toArray zl zu none=(jz vs zl zu).toArray:=by rw[slicePick_plain];unfold jz;erw[i4];rfl
  exact aa (e) (ti (x:=x.push (BO vl vu) x.s.toks) K rfl (DV (by
   unfold jz;erw[rl.length];exact(rl.drop _).take _) (aq (Wc _ _ _) z)))
theorem MR:∀{l:List Nat} {es:List (Int×ac)},bS es l->es.length=l.length:=by
 intro l;induction l with
 |nil=>exact λh=>af yO h|cons n l ih=>exact λh=>by obtain⟨_,_,rfl,h⟩:=h;exact af jq (ih h)
theorem aar{l:List Nat}:∀n,l.Pairwise (· < ·)->(∀x∈l,x<6)->(∀x∈l,n<=x)->n<=6->n+l.length<=6:=by
 induction l with
 |nil=>exact λ_ _ _ _ h=>h
 |cons x l ih=>
  intro n h k m _;have g:=lO h;have:=ih (x+1) g.2 (λy hy=>k y (.tail _ hy)) g.1 (k x (.head _));exact aq (aq (aD (pS n l.length 1)) (mG (yP (m x (.head _))) _)) this
theorem Ea{l:List Nat}(h:l.Pairwise (· < ·))(k:∀x∈l,x<6):l.length<=6:=f5 l.length▸aar 0 h k (λ_ _=>cu _) (cu _)
theorem DP{t:a8}{P:cD}{l:List Nat}(h:eS P l t):t.fits l.length=true:=by
 unfold a8.fits FA;refine aa (h.place) (aa (h.dummies) ?_);have:=h.room;simp;rcases h.mask with e|e|e<;>rw[e] at this⊢ <;>lia
theorem aad(h:I5 O p=some q)(hn:p.pJ=false)(r:Rd p x v):aE A (bC (.builtin "len") [v]) x (Rd q):=by
 induction p using dq with
 |list l=>exact oI h (dY r λ{a n vs} h rl z=>λQ E K=>Calls.call_len_list (kQ h) (Mc z rl) (jC K (by rw[i4,rl.length];exact .int)))|tup l=>exact oI h (iT r λ{a n vs} h rl z=>λQ E K=>P.len_tuple (x.hs _ _ h) (zg.mpr (Mc z rl)) (jC K (by rw[i4,rl.length];exact .int)))
 |set l=>
  exact oI h (kX r λ{a es n t} h he ht=>λQ E K=>by
   have e:es.size=l.length:=FB.symm.trans (MR he);exact call_len_set (x.hs _ _ h) (eA rfl rfl rfl) rfl (e▸DP ht) (by have:=Ea ht.up ht.small;lia) (jC K (e▸ .int)))
 |inst=>injection hn|_=>exact nS h
theorem ZK(h:f9 0 j=some p)(r:Rd (.int j) x v):aE A (bC (.type "range") [v]) x (Rd p):=aL h λz h=>oI h (bU r λt=>λQ E K=>call_range_1 (ti K rfl (.d5 o5 (by decide) z.2.1 z.2.2)))
theorem Yx(h:f9 i j=some p)(r:Rd (.int i) x v)(r':Rd (.int j) x u):aE A (bC (.type "range") [v,u]) x (Rd p):=aL h λz h=>oI h (bU r λt=>bU r' λt=>λQ E K=>call_range_2 (ti K rfl (.d5 o5 z.1 z.2.1 z.2.2)))
theorem aaD:(if i<0 then-i else i)=(i.natAbs:Int):=by
 by_cases h:i<0
 ·exact(iP h).trans (Int.ofNat_natAbs_of_nonpos (mJ h)).symm
 ·exact(iN h).trans (Kl (jK h)).symm
theorem Ye(r:Rd (.int i) x v):aE A (bC (.builtin "abs") [v]) x (Rd (.int i.natAbs)):=bU r λt=>λQ E K=>
 call_abs_int λu tk=>jC K ((aaD:(if i<0 then-i else i)=(i.natAbs:Int)).symm▸ .int)
theorem aev(r:Rd (.int i) x v):aE A (bC (.type "int") [v]) x (Rd (.int i)):=bU r λt=>λQ E K=>call_int_int (k_here K .int)
theorem Y_(h:i.natAbs<d7)(r:Rd (.int i) x v):aE A (bC (.type "str") [v]) x (Rd (.str (dw (toString i)))):=bU r λt=>λQ E K=>
 P.str_of_int (by have:=MI h;lia) (jC K .str)
theorem G3{o:Obj}{Q:ac->ag->Prop}{h':am}{t:Nat}(K:∀v y,Le x y->Rd p y v->Q v y.s)(k:∀b o,x.s.heap.get? b=some o->h'.get? b=some o)(e:h'.get? x.s.heap.objs.size=some o)(r:Rd p ((x.grow h' t k).add _ o e (x.j0 (bf _))) v):Q v {x.s with heap:=h',toks:=t}:=
 K v ((x.grow h' t k).add _ o e (x.j0 (bf _))) (.add (x.cG _) _ _ (eV _)) r
theorem H1{h':am}{t:Nat}{k:∀b o,x.s.heap.get? b=some o->h'.get? b=some o}{e:h'.get? x.s.heap.objs.size=some (bu vs n)}(r:bt l x vs)(z:l.length<=az):Rd (.list l) ((x.grow h' t k).add _ _ e (x.j0 (bf _))) (.ref x.s.heap.objs.size):=.list o5 (r.mono (Pt.Bu (x:=x.grow h' t k))) z
theorem HG{lo hi:Int}:agb lo hi 1=(((hi-lo).toNat:Nat):Int):=by
 rw[rangeSize_one];by_cases h:lo<hi
 ·exact(iP h).trans (SK (Int.sub_nonneg.mpr (mJ h))).symm
 ·rw[Int.toNat_of_nonpos (Int.sub_nonpos_of_le (jK h))];exact iN h
theorem Ou{lo hi:Int}(h1:lo.natAbs<d7)(h2:hi.natAbs<d7):Builtin.Range.small lo hi 1=true:=
 small_one (mJ (mH (by decide) (xT h1).1)) (yK (xT h1).2 (by decide)) (mJ (mH (by decide) (xT h2).1)) (yK (xT h2).2 (by decide))
theorem aaJ{g:Nat->PV}:∀(n m:Nat) {vs:List ac},vs.length=n->(∀(i:Nat) (v:ac),vs[i]?=some v->aV c f v (g (m+i)))->aR c f vs ((gW m n).map g):=by
 intro n;induction n with
 |zero=>exact λm vs h _=>zn.mp h▸ .nil
 |succ n ih=>
  intro m vs h k;induction vs using bO with
  |nil=>injection h|cons v vs=>exact .cons (k 0 v rfl) (ih (m+1) (wK h) λi v e=>wN m i▸k (i+1) v e)
theorem Ν(hn:p.pJ=false)(h:yy p=some l)(z:l.length<=az)(r:Rd p x v):aE A (bC (.type "list") [v]) x (Rd (.list l)):=by
 induction p using dq with
 |list m=>exact ay h▸dY r λ{a n vs} h rl z=>λQ E K=>call_list_seq (hsz:=l4 (us:=[]) (m:=[]) rl z (r':=.nil) rfl) a (.inl rfl) (x.hs _ _ h) rfl rfl λh' c' hk hD=>G3 K hk hD (H1 rl z)|tup m=>exact ay h▸iT r λ{a n vs} h rl z=>λQ E K=>call_list_seq (hsz:=l4 (us:=[]) (m:=[]) rl z (r':=.nil) rfl) a (.inr rfl) (x.hs _ _ h) rfl rfl λh' c' hk hD=>G3 K hk hD (H1 rl z)
 |d5 lo hi=>
  have e:=ay h;subst e;refine qz r λ{a t u w} h h1 h2 hn=>λQ E K=>call_list_range A.ok.handled (x.hs _ _ h) (Ou h1 h2) HG (by unfold az at hn;lia) λh' tk acc c' hk hD hI=>G3 K hk hD (H1 ?_ z);refine aa (yQ) (aaJ _ 0 (by erw[FB];exact hI.1) λi v q=>?_);obtain⟨t,e⟩:=hI.2 i v (by refine gZ (agc) ?_;exact q);rw[e,Kp,f5];exact .int
 |inst=>injection hn|_=>exact nS h
end
section
variable{f:Fz}{u g:ac}{m:List PV}{a:ao}{n k:Nat}{q r:PV}{b:Bool}{z:Str}{fs:List (Str×PV)}{E Q:ac->ag->Prop}
noncomputable def Z8(K:kq)(c:ao)(x:Str):Bool:=Cd K c x&&FC K c&&(match fN K (.ref c) x with
 |some a=>noGet K a|none=>false)
theorem Ro(P:cD):vR.all (λp=>Z8 (KL P) p.1 p.2)=true:=⋯
theorem Bg{a b c:Bool}(h:(a&&b&&c)=true):a=true/\b=true/\c=true:=by
 cases a
 ·injection h
 ·cases b
  ·injection h
  ·exact(eA rfl rfl h)
theorem aaS:∀{vs:List (Str×ac)} {es:List pQ},j6 c vs es->(es.find? (·.key.isStr z)).map (·.val)=ak vs z/\es.any (·.refKey)=false:=by
 intro vs;induction vs with
 |nil=>exact λh=>h▸⟨rfl,rfl⟩
 |cons q vs ih=>
  intro es h;obtain⟨t,r,rfl,h⟩:=h;obtain⟨y,u⟩:=q;refine⟨?_,(ih h).2⟩;erw[List.find?_cons];refine aa (show(B5 y t).isStr z=(y==z) from rfl) (aa (show ak ((y,u)::vs) z=if y=z then some u else ak vs z from rfl) ?_);by_cases e:y=z
  ·erw[iP e];erw[jU e];rfl
  ·erw[iN e];erw[kH e];exact(ih h).1
theorem xN{vs:List (Str×ac)}{es:List pQ}(h:j6 c vs es):getL z es=some (ak vs z):=by
 have key:=aaS (z:=z) h;unfold getL;refine gZ (key.1) ?_;cases e:es.find? (·.key.isStr z) with
 |some v=>rfl|none=>dsimp only;erw[key.2];rfl
theorem IK:∀{vs:List (Str×ac)} {fs:List (Str×PV)},bH c f vs fs->(∀p,ak fs z=some p->∃v,ak vs z=some v/\aV c f v p)/\(ak fs z=none->ak vs z=none):=by
 intro vs fs;induction fs generalizing vs with
 |nil=>exact λr=>rT r ⟨λp h=>nS h,λ_=>rfl⟩
 |cons q fs ih=>
  obtain⟨y,q⟩:=q;refine λr=>oW r λ{v us} a r=>?_;show(∀p,(if y=z then some q else ak fs z)=some p->∃u,(if y=z then some v else ak us z)=some u/\aV c f u p)/\((if y=z then some q else ak fs z)=none->(if y=z then some v else ak us z)=none);by_cases e:y=z
  ·erw[iP e];erw[iP e];exact⟨λp h=>(aA v rfl (ay h▸a)),λh=>sN h⟩
  ·erw[iN e];erw[iN e];exact ih r
theorem RF(r:Rd p x v)(h:p.iQ=false):handedIn v=true:=by
 induction p using dq with
 |none=>exact qt r rfl|bool=>exact lW r rfl|int=>exact bU r λ_=>rfl|str=>exact je r λ_=>rfl|tup=>exact iT r λ_ _ _=>rfl|list=>exact dY r λ_ _ _=>rfl|set=>exact kX r λ_ _ _=>rfl|d5=>exact qz r λ_ _ _ _=>rfl|inst=>exact rL r λ_ _ _ _=>rfl|any=>injection h
@[elab_as_elim] theorem m7{M:ac->Prop}(r:Rd (.inst k fs) x v)(K:∀{a ox es n vs},InstAt x.s.heap a ox k (some (uO es n))->j6 c vs es->bH c x.f vs fs->Rd (.inst k fs) x (.ref a)->M (.ref a)):M v:=
 rL r λ{a dx n es vs} h hd he r=>K ⟨x.hs _ _ h,rfl,rfl,x.hs _ _ hd⟩ he r (.inst h hd he r)
theorem SB(h:ak fs z=some p)(ht:vR.contains (k,z)=true)(hp:p.iQ=false)(r:Rd (.inst k fs) x v):∃u,Rd p x u/\∀{y:Pt c} {A:bh} {Q:ac->ag->Prop} {E:ac->ag->Prop},Sub x.f y.f->(∀t,Q u {y.s with toks:=t})->ai (ah pw c.w) A (uP v z true) Q E y.s:=
 rL r λ{a dx n es vs} e1 e2 he rf=>by
  have ok:=Bg (b7 (Ro c.w.params) _ (qg ht));refine aB ((IK rf).1 p h) λv e3 rv=>e8 ok λo1 o2 o3=>(aA v rv (λ{y A Q E} s q=>?_));split at o3
  ·rename_i at_ e;exact get_value y.cT (⟨y.hs _ _ (s _ _ e1),rfl,rfl,y.hs _ _ (s _ _ e2)⟩:InstAt y.s.heap a (lV k dx) k (some (uO es n))) (uQ o1).1 (findObj_own o2 e o3 (by rw[FD,xN he,e3])) (RF rv hp) (q _)
  ·injection o3
theorem ada(h:ak fs z=some p)(ht:vR.contains (k,z)=true)(hp:p.iQ=false)(r:Rd (.inst k fs) x v):aE A (uP v z true) x (Rd p):=λQ E K=>aB (SB h ht hp r) λu r' g=>g (λ_ _ e=>e) λt=>jC K r'
def Ey(P:cD)(k:Nat):Bool:=Cd (KL P) k "__class__" &&FC (KL P) k&&fN (KL P) (.ref k) "__class__"==some (some (.builtin "object.__class__"))
  &&Kq (KL P) (.builtin "object.__class__") "__get__"==some (some (.builtin "getset_descriptor.__get__"))&&takesIn (KL P) (.builtin "object.__class__")==some true&&mroIn (KL P) k (.type "object")==some true
theorem XT(P:cD):Ey P dg=true:=⋯
theorem XZ(P:cD):Ey P iw=true:=⋯
theorem NG{P:cD}{a:ao}{ox od:Obj}(h:Ey P k=true):KitX (KL P) (.ref a) (.ref k) (λh=>InstAt h a ox k (some od)):=by
 unfold Ey at h;simp only[mK,beq_iff_eq] at h;obtain⟨⟨⟨⟨⟨h1,h2⟩,h3⟩,h4⟩,h5⟩,h6⟩:=h;exact kitx_own h1 h2 h3 h4 h5 h6
def HH:PV->ac:=PA.on {d:=.type "int",jg:=λk _=>(.ref k)}
theorem E8(P:cD):de P "int"=some (.type "int"):=⋯
theorem Iq(P:cD):de P "Fraction"=some (.ref dg):=⋯
theorem Pe(P:cD):de P "Voter"=some (.ref iw):=⋯
structure Zx(c:Cx)(p:PV)(z:Str)(b:Bool)(v:ac):Prop where
 g:de c.w.params z=some v
 one:kitOne (KL c.w.params) (HH p) v=some b
theorem JE(h:pJ p z=some b)(r:Rd p x v):(∃g,Zx c p z b g)/\(∃Hp:am->Prop,KitX (KL c.w.params) v (HH p) Hp/\Hp x.s.heap)/\v≠ .builtin "__main__.__loader__#opaque":=by
 induction p using dq with
 |int i=>
  refine⟨?_,bU r λt=>⟨(aA _ kitx_int trivial),nofun⟩⟩;have h:(if z=("int":Str) then some true else if z=("Fraction":Str) then some false else none)=some b:=h;by_cases e:z=("int":Str)
  ·exact oI ((iP e).symm.trans h) ⟨_,e▸E8 _,⋯⟩
  ·exact aL ((iN e).symm.trans h) λe h=>oI h ⟨_,e▸Iq _,⋯⟩
 |inst k fs=>
  have h:(if k=dg then(if z=("int":Str) then some false else if z=("Fraction":Str) then some true else none) else if k=iw/\z=("Voter":Str) then some true else none)=some b:=h;by_cases ek:k=dg
  ·subst ek;replace h:=(iP rfl).symm.trans h;refine⟨?_,m7 r λI _ _ _=>⟨(aA _ (NG (XT _)) I),nofun⟩⟩;by_cases e:z=("int":Str)
   ·exact oI ((iP e).symm.trans h) ⟨_,e▸E8 _,⋯⟩
   ·exact aL ((iN e).symm.trans h) λe h=>oI h ⟨_,e▸Iq _,⋯⟩
  ·refine aL ((iN ek).symm.trans h) λe h'=>?_;obtain⟨e1,e⟩:=e;subst e1;exact⟨ay h'▸⟨_,e▸Pe _,⋯⟩,m7 r λI _ _ _=>⟨(aA _ (NG (XZ _)) I),nofun⟩⟩
 |_=>exact nS h
theorem aa9(r:Rd p x v):∀{zs:List Str} {b:Bool},iQ p zs=some b->∀cs,(zs.map λz=>de c.w.params z)=cs.map some->kitAny (KL c.w.params) (HH p) cs=some b:=by
 intro zs;induction zs with
 |nil=>exact λh cs e=>Ua.mp e.symm▸h
 |cons z zs ih=>
  intro b h cs e;induction cs using bO with
  |nil=>injection e
  |cons k cs=>
   injection e with e1 e2
   refine aj h λb' h1 h2=>?_;obtain⟨⟨g,G⟩,_⟩:=JE h1 r;unfold kitAny;refine gZ (ay (G.g.symm.trans e1)) (aa (G.one) ?_);cases b' with
   |true=>exact h2|false=>exact ih h2 cs e2
theorem Wg(r:Rd p x v)(h:pJ p z=some b)(e:de c.w.params z=some u):aE A (bC (.builtin "isinstance") [v,u]) x (Rd (.bool b)):=λQ E K=>by
 obtain⟨⟨g,G⟩,⟨Hp,Z,hp⟩,hx⟩:=JE h r;exact kia_one Z x.cT hp (ay (G.g.symm.trans e)▸G.one) hx λtk=>jC K .bool
theorem η{zs:List Str}{cs:List ac}(r:Rd p x v)(h:iQ p zs=some b)(jQ:zs≠[])(e:(zs.map λz=>de c.w.params z)=cs.map some)(htp:x.s.heap.get? a=some (fW cs n)):aE A (bC (.builtin "isinstance") [v,.ref a]) x (Rd (.bool b)):=λQ E K=>by
 induction zs using bO with
 |nil=>exact absurd rfl jQ
 |cons z zs=>
  refine aj h λb' h1 _=>?_;obtain⟨_,⟨Hp,Z,hp⟩,hx⟩:=JE h1 r;exact kia_tup Z x.cT hp htp (aa9 r h cs e) hx λtk=>jC K .bool
theorem IQ{M:f4}{A:bh}{s:ag}{args:List (Bool×Sem ac)}{kws:List (Option Str×Sem ac)}{Q:Args->ag->Prop}(ha:args.any (·.1)=false)(hk:kws.all (·.1.isSome)=true)
(h:ai M A (oq args) (λvs bJ=>ai M A (evalAll (kws.map (·.2))) (λks fQ=>Q ⟨vs,(kws.filterMap (·.1)).zip ks⟩ fQ) E bJ) E s):ai M A (evalArgs g true args kws) Q E s:=by
 have fin:∀(vs:List ac) (bJ:ag),ai M A (evalAll (kws.map (·.2))) (λks fQ=>Q ⟨vs,(kws.filterMap (·.1)).zip ks⟩ fQ) E bJ->
   ai M A (do
    let kw:=(kws.filterMap (·.1)).zip (<-evalAll (kws.map (·.2)))
    return⟨<-(pure vs:Sem (List ac)),kw⟩) Q E bJ:=λvs bJ mS=>
  ae (cQ mS (λks fQ CL=>ae (au (au CL))) λ_ _ x=>x)
 unfold evalArgs;induction args using bO with
 |nil=>
  refine ae (m:=oq []) (cQ h (λvs bJ mS=>dO ?_) λ_ _ x=>x);exact aa (iP hk) (fin vs bJ mS)
 |cons x rest=>
  obtain⟨b,t⟩:=x;have hb:b=false:=by cases b with
   |false=>rfl|true=>injection ha
  subst hb;refine ae (m:=oq ((false,t)::rest)) (cQ h (λvs bJ mS=>dO ?_) λ_ _ x=>x);exact aa (iP hk) (fin vs bJ mS)
def pe(P:cD)(g:ac):Prop:=(∃id,g=.builtin id)\/(∃T,g=.type T)\/keepIn (KL P) g=true
theorem aaw{w:cO}(k:pe w.params g)(h:am)(X:(KL w.params).In h):∃k,(k=Keeper.frame\/k=Keeper.machine\/k=Keeper.boundFrame)/\iG (ah pw w) h (keeperOf g) k:=by
 rcases k with⟨id,rfl⟩|⟨T,rfl⟩|k
 ·exact(aA .machine (.inr (.inl rfl)) (iG.of_pure rfl))
 ·exact(aA .machine (.inr (.inl rfl)) (iG.of_pure rfl))
 ·exact keeps_K k h X
theorem aah{kws:List (Option Str×Sem ac)}(hk:kws.all (·.1.isSome)=true):kws.any (·.1.isNone)=false:=vd.mpr λx hx h=>by
 have:=b7 hk x hx;cases e:x.1<;>rw[e] at this h
 ·injection this
 ·injection h
theorem sQ{w:cO}{A:bh}{s:ag}{pos:Pos}{first:List ac}{args:List (Bool×Sem ac)}{kws:List (Option Str×Sem ac)}(ha:args.any (·.1)=false)(hk:kws.all (·.1.isSome)=true)(k:pe w.params g)
(h:ai (ah pw w) A (oq args) (λvs bJ=>ai (ah pw w) A (evalAll (kws.map (·.2))) (λks fQ=>(KL w.params).In fQ.heap/\ai (ah pw w) A (bC g (first++vs) ((kws.filterMap (·.1)).zip ks)) Q E fQ) E bJ) E s):
  ai (ah pw w) A (wO pos g first args kws) Q E s:=
 callWith_of (P:=λh=>(KL w.params).In h) (by erw[ha];exact aah hk) (aaw k) (IQ ha hk h)
theorem afU{M:f4}{A:bh}{s:ag}{pos:Pos}{o:Obj}{args:List (Bool×Sem ac)}(ha:args.any (·.1)=false)
(h:ai M A (oq args) (λvs bJ=>(bJ.heap.get? a=some o/\o.data=.plain)/\ai M A (bC (.ref a) vs []) Q E bJ) E s):
  ai M A (wO pos (.ref a) [] args []) Q E s:=by
 unfold wO;refine ae (dO (IQ ha rfl (cQ h (λvs bJ mS=>uR ?_) λ_ _ x=>x)));refine ae (jr ?_);dsimp only;rw[show(args.any (·.1)||([]:List (Option Str×Sem ac)).any (·.1.isNone))=false by rw[ha];rfl];refine ae (m:=keeperOf (.ref a)) ?_;unfold keeperOf;exact ae (FE mS.1.1 (aa (mS.1.2) (au (ae (wpAny_operating (cQ mS.2 (λr fQ hr=>ae (dO (wpAny_point (au hr)))) λ_ _ x=>x))))))
def iC:Expr->Bool:=EA.on {d:=false,QF:=λ_ _=>true}
theorem RK{env:Env}{e:Expr}{r:List Expr}(h:iC e=false):lE (e::r) env=(false,eval e env)::lE r env:=by
 cases e<;>first|rfl|injection h
theorem wq{env:Env}{pos:Pos}:∀{es:List Expr},(∀e∈es,iC e=false)->ot pos (lE es env)=es.map λe=>(false,eval e env):=by
 intro es h;have:lE es env=es.map λe=>(false,eval e env):=by
  induction es with
  |nil=>rfl|cons e r ih=>erw[RK (h e (.head _))];erw[(ih λe m=>h e (.tail _ m))];rfl
 erw[this];unfold ot;erw[jt];rfl
theorem lq{env:Env}{pos:Pos}{es:List Expr}(h:∀e∈es,iC e=false):(ot pos (lE es env)).any (·.1)=false:=aa (wq h) (vd.mpr λx m=>by refine aB (rn.mp m) λe _ bZ=>?_;subst bZ;exact dy)
noncomputable def Ft(env:Env)(pos:Pos)(kws:List fj):List (Option Str×Sem ac):=backToKw pos (keywordEach kws env)
theorem NO{env:Env}{o:Expr}{name:Str}{whole:Sem ac}(h:tN o=false):attributeBase o name env whole=whole:=by
 induction o using ej with
 |Call f args kws p=>induction f using ej with
  |Name=>induction args using bO with
   |nil=>induction kws using bO with
    |nil=>injection h|cons=>rfl
   |cons=>rfl
  |_=>rfl
 |_=>rfl
theorem G6{M:f4}{A:bh}{s:ag}{env:Env}{o:Expr}{name:Str}{apos pos:Pos}{args:List Expr}{kws:List fj}(hb:tN o=false)(hl:apos.endLine=pos.line)(ha:∀e∈args,iC e=false)
(hk:(Ft env pos kws).all (·.1.isSome)=true)(hn:args.length+kws.length<=20)
(h:ai M A (eval o env) (λov bJ=> ∀pl,ai M A (Ce ov name pl) (λfx fQ=>ai M A (wO pos fx.1 fx.2 (ot pos (lE args env)) (Ft env pos kws)) Q E fQ) E bJ) E s):
  ai M A (eval (.Call (.Attribute o name apos) args kws pos) env) Q E s:=by
 have iY:methodCallForm (args.length+kws.length) (ot pos (lE args env)) (backToKw pos (keywordEach kws env))=true:=by
  unfold methodCallForm;rw[show(backToKw pos (keywordEach kws env)).all (·.1.isSome)=true from hk,Kr,mK];constructor
  ·exact KY.mpr λx m=>by
    have:=vd.mp (lq (env:=env) (pos:=pos) ha) x m;cases e:x.1 with
    |false=>rfl|true=>exact absurd e this
  ·erw[decide_eq_true_eq];split<;>lia
 have ahf:methodCallPos true o env apos pos=pure pos:=by unfold methodCallPos;simp[hl]
 rw[arm_eval_Call,NO hb];refine ae (cQ h (λov bJ mS=>?_) λ_ _ x=>x);refine ae (jr ?_);unfold methodCall;refine aa (iY) (ae (dO (cQ (mS _) (λfx fQ CL=>?_) λ_ _ x=>x)));obtain⟨g,first⟩:=fx;exact ae (Cf ahf CL)
theorem H3{w:cO}{A:bh}{s:ag}{env:Env}{o:Expr}{name:Str}{pos:Pos}(hb:tN o=false)
(h:ai (ah pw w) A (eval o env) (λov bJ=>ai (ah pw w) A (uP ov name true) Q E bJ) E s):ai (ah pw w) A (eval (.Attribute o name pos) env) Q E s:=by
 rw[arm_eval_Attribute,NO hb];refine ae (cQ h (λov bJ mS=>ae (jr (ae (dO (cQ mS (λr fQ CL=>?_) λ_ _ x=>x))))) λ_ _ x=>x);exact ae (wpAny_letTemporaryGo (au CL))
noncomputable def vZ(K:kq)(c:ao)(m:Str)(g:ao):Bool:=Cd K c m&&fN K (.ref c) m==some (some (.ref g))&&ou K (.ref g)&&keepIn K (.ref g)
theorem Q7{K:kq}{m:Str}{g:ao}(h:vZ K k m g=true):keepIn K (.ref g)=true:=(aX h).2
theorem Vg{m:Str}{g:ao}{pl:Sem Bool}{Q:ac×List ac->ag->Prop}(hm:vZ (KL c.w.params) k m g=true)(hn:ak fs m=none)(r:Rd (.inst k fs) x v)
(h:Q (.ref g,[v]) x.s):ai (ah pw c.w) A.A (Ce v m pl) Q E x.s:=by
 revert h;refine m7 r λ{a ox es n vs} I he rf _ h=>?_;have h3:=(aX hm).1;exact e8 (Bg h3) λh1 h2 h3=>method_fn x.cT I (uQ h1).1 (uQ h1).2 (a5 h2) (a5 h3) (by show(lookIn m (uO es n)).map _=_;rw[FD,xN he,(IK rf).2 hn];rfl) h
theorem aca{l:List (Int×Tok)}:aR c f (l.map λp=>.int p.1 p.2) (l.map λp=>.int p.1):=by
 induction l with
 |nil=>exact .nil|cons p l ih=>exact .cons .int ih
theorem Rg{l:List (Str×Tok)}:aR c f (l.map λp=>.str p.1 p.2) (l.map λp=>.str p.1):=by
 induction l with
 |nil=>exact .nil|cons p l ih=>exact .cons .str ih
theorem tT{l:List (Int×Tok)}(h:(KL c.w.params).lookup a=some (bu (l.map λp=>qV p.1 p.2) 0))(z:l.length<=az):Rd (.list (l.map λp=>.int p.1)) x (.ref a):=
 .list (x.K _ _ h) aca (by rw[bi];exact z)
noncomputable def H5:List (Str×Tok):=[("branch-and-bound",731),("brute-force",732),("standard",733),("standard-fractions",734)]
theorem ϫ(h:IN z=some p):∃v,de c.w.params z=some v/\Rd p x v:=by
 have h:(if z=("available_algorithms":Str) then _ else if z=("_law_orders":Str) then _ else none)=some p:=h;by_cases e:z=("available_algorithms":Str)
 ·subst e;exact oI ((iP rfl).symm.trans h) (aA (.ref 433) ⋯ (.list (vs:=H5.map λp=>.str p.1 p.2) (n:=0) (x.K 433 _ ⋯) Rg (by decide)))
 ·refine aL ((iN e).symm.trans h) λe h=>oI h ?_;subst e;refine(aA (.ref 718) ⋯ (?_));have r2:Rd (.list [.list [.int 0,.int 1],.list [.int 1,.int 0]]) x (.ref 710):=
   .list (vs:=[.ref 708,.ref 709]) (n:=0) (x.K 710 _ ⋯) (.cons (tT (l:=[(0,1121),(1,1122)]) ⋯ (by decide)) (.cons (tT (l:=[(1,1123),(0,1124)]) ⋯ (by decide)) .nil)) (by decide)
  have r3:Rd (.list [.list [.int 0,.int 1,.int 2],.list [.int 0,.int 2,.int 1],.list [.int 1,.int 0,.int 2],.list [.int 1,.int 2,.int 0],.list [.int 2,.int 0,.int 1],.list [.int 2,.int 1,.int 0]]) x (.ref 717):=
   .list (vs:=[.ref 711,.ref 712,.ref 713,.ref 714,.ref 715,.ref 716]) (n:=0) (x.K 717 _ ⋯)
    (.cons (tT (l:=[(0,1125),(1,1126),(2,1127)]) ⋯ (by decide)) (.cons (tT (l:=[(0,1128),(2,1129),(1,1130)]) ⋯ (by decide)) (.cons (tT (l:=[(1,1131),(0,1132),(2,1133)]) ⋯ (by decide))
    (.cons (tT (l:=[(1,1134),(2,1135),(0,1136)]) ⋯ (by decide)) (.cons (tT (l:=[(2,1137),(0,1138),(1,1139)]) ⋯ (by decide)) (.cons (tT (l:=[(2,1140),(1,1141),(0,1142)]) ⋯ (by decide)) .nil)))))) (by decide)
  exact .list (vs:=[.ref 710,.ref 717]) (n:=0) (x.K 718 _ ⋯) (.cons r2 (.cons r3 .nil)) (by decide)
noncomputable def Dx(K:kq)(c:ao)(x:Str)(v:ac):Bool:=Cd K c x&&FC K c&&fN K (.ref c) x==some (some v)&&Kq K v "__get__"==some none&&handedIn v&& !copiedNames.contains x
theorem abD(P:cD):(Dx (KL P) cM "_THIELE_ALGORITHMS" (.ref 335)&&Dx (KL P) cM "_RESOLUTE_VALUES_FOR_OPTIMIZATION_BASED_RULES" (.ref 336))=true:=⋯
noncomputable def adU:List (Str×Tok):=[("gurobi",589),("pulp-highs",590),("pulp-cbc",591),("branch-and-bound",592),("brute-force",593)]
theorem Z_(h:Ad k z=some p):∃v,Dx (KL c.w.params) k z v=true/\Rd p x v:=by
 have ok:=aX (abD c.w.params);refine aL h λe h=>?_;subst e;by_cases e:z=("_THIELE_ALGORITHMS":Str)
 ·subst e;exact oI ((iP rfl).symm.trans h) (aA _ ok.1 (.tup (vs:=adU.map λp=>.str p.1 p.2) (n:=0) (x.K 335 _ ⋯) Rg (by decide)))
 ·refine aL ((iN e).symm.trans h) λe h=>oI h ?_;subst e;exact(aA _ ok.2 (.tup (vs:=[.bool false,.bool true]) (n:=0) (x.K 336 _ ⋯) (.cons .bool (.cons .bool .nil)) (by decide)))
theorem Xp(h:Ad k z=some p)(hn:ak fs z=none)(r:Rd (.inst k fs) x v):aE A (uP v z true) x (Rd p):=
 m7 r λ{a ox es n vs} I he rf _=>λQ E K=>by
  refine aB (Z_ (x:=x) h) λu ok ru=>?_;unfold Dx at ok;simp only[mK,beq_iff_eq,tu] at ok;obtain⟨⟨⟨⟨⟨k1,k2⟩,k3⟩,k4⟩,k5⟩,k6⟩:=ok;exact get_value x.cT I (uQ k1).1 (findObj_cls k2 k3 k4 k5 k6 (by rw[FD,xN he,(IK rf).2 hn])) k5 (jC K ru)
end
structure iu{c:Cx}(K:ao->Prop)(G:Nat->Prop)(x y:Pt c):Prop where
 sub:Sub x.f y.f
 k:∀b o,K b->x.s.heap.get? b=some o->y.s.heap.get? b=some o
 f:∀b,K b->y.f b=none
 g:∀(j:Nat) (z:jp),G j->x.s.gens[j]?=some z->y.s.gens[j]?=some z
def lX{c:Cx}(K:ao->Prop)(x:Pt c):Prop:=∀b,K b->bV x b/\∃o,x.s.heap.get? b=some o
def sY{c:Cx}(d:Nat)(I:ao)(G:Nat->Prop)(K:ao->Prop)(x:Pt c)(N:Pt c->Am d->Prop):Prop:=lX K x/\∀(y:Pt c) (A:Am d),iu K G x y->
 (∀Q E,Q (.ref I) y.s->ai (ah pw c.w) A.A (gk (.ref I)) Q E y.s)/\(∀v t Q E,Q () y.s->ai (ah pw c.w) A.A (yR t (.ref I) v) Q E y.s)/\N y A
def dM{c:Cx}(d:Nat)(I:ao)(g:Nat):List PV->(ao->Prop)->Pt c->Prop
 |[],K,x=>sY d I (· <=g) K x λy A=> ∀Q E,(∀z,br K g y z->Q none z.s)->ai (ah pw c.w) A.A (gm (.ref I)) Q E y.s|p::l,K,x=>sY d I (· <=g) K x λy A=> ∀Q E,(∀v K' z,Rd p z v->dM d I g l K' z->br K g y z->(∀b,K b->K' b)->(∀b,K' b->K b\/y.s.heap.get? b=none)->Q (some v) z.s)->ai (ah pw c.w) A.A (gm (.ref I)) Q E y.s
def n7{c:Cx}(d:Nat)(I:ao):List PV->Pt c->Prop
 |[],x=>sY d I (λ_=>False) (· =I) x λy A=> ∀Q E,(∀z,(∀g,Wr (· =I) g y z)->Q none z.s)->ai (ah pw c.w) A.A (gm (.ref I)) Q E y.s|p::l,x=>sY d I (λ_=>False) (· =I) x λy A=> ∀Q E,(∀v z,Rd p z v->n7 d I l z->(∀g,Wr (· =I) g y z)->Q (some v) z.s)->ai (ah pw c.w) A.A (gm (.ref I)) Q E y.s
section
variable{z:Pt c}{e:Nat}{I a:ao}{g:Nat}{G:Nat->Prop}{K W:ao->Prop}{m:List PV}{lo hi:Int}
theorem iu.refl(h:lX K x):iu K G x x:=⟨λ_ _ e=>e,λ_ _ _ e=>e,λb k=>(h b k).1.f,λ_ _ _ e=>e⟩
theorem iu.trans(l:iu K G x y)(m:iu K G y z):iu K G x z:=⟨λa o e=>m.sub a o (l.sub a o e),λb o k e=>m.k b o k (l.k b o k e),m.f,λj z q e=>m.g j z q (l.g j z q e)⟩
theorem cH.later(l:cH W x y)(h:lX K x)(d:∀b,K b->¬W b):iu K G x y where
 sub:=l.sub
 k b o k e:=l.e.keep b o e (cK (h b k).1.hi) (d b k)
 f b k:=by
  cases e:y.f b with
  |none=>rfl|some o=>exact(l.new b o e).elim (λq=>nS ((h b k).1.f.symm.trans q)) λq=>q.elim (λq=>(h b k).2.elim λo q'=>nS (q.symm.trans q')) λq=>absurd q (d b k)
 g j z _ e:=l.e.gens j z (om λq=>uc q e) e
theorem lX.later(h:lX K x)(l:iu K G x y):lX K y:=λb k=>⟨⟨l.f b k,(h b k).1.h₀,(h b k).1.hi⟩,(h b k).2.elim λo e=>⟨o,l.k b o k e⟩⟩
theorem sY.later{N:Pt c->Am d->Prop}(i:sY d I G K x N)(l:iu K G x y):sY d I G K y N:=⟨i.1.later l,λz A m=>i.2 z A (l.trans m)⟩
theorem dM.live(i:dM d I g l K x):lX K x:=by cases l<;>exact i.1
theorem dM.later(i:dM d I g l K x)(m:iu K (· <=g) x y):dM d I g l K y:=by cases l<;>exact sY.later i m
theorem iu.none(l:iu K G x y):iu K (λ_=>False) x y:=⟨l.sub,l.k,l.f,λ_ _ q=>q.elim⟩
theorem n7.live(i:n7 d I l x):lX (· =I) x:=by cases l<;>exact i.1
theorem n7.later(i:n7 d I l x)(m:iu (· =I) (λ_=>False) x y):n7 d I l y:=by cases l<;>exact sY.later i m
theorem n7.iter:∀{l:List PV} {x:Pt c},n7 d I l x->dM d I g l (· =I) x:=by
 intro l;induction l with
 |nil=>exact λi=>⟨i.1,λy A m=>(eA ((i.2 y A m.none).1) ((i.2 y A m.none).2.1) (λQ E k=>(i.2 y A m.none).2.2 Q E λz w=>k z (w g).st))⟩|cons p l ih=>exact λi=>⟨i.1,λy A m=>(eA ((i.2 y A m.none).1) ((i.2 y A m.none).2.1) (λQ E k=>(i.2 y A m.none).2.2 Q E λv z r i w=>k v _ z r (ih i) (w g).st (λ_ q=>q) λ_=>.inl))⟩
theorem dM.go(i:dM d I g l K x)(A:Am d){t:Expr}{Q:Unit->ag->Prop}{E:ac->ag->Prop}(q:Q () x.s):ai (ah pw c.w) A.A (yR t (.ref I) v) Q E x.s:=by
 cases l<;>exact(i.2 x A (.refl i.1)).2.1 v t Q E q
theorem dM.self(i:dM d I g l K x)(A:Am d){Q:ac->ag->Prop}{E:ac->ag->Prop}(q:Q (.ref I) x.s):ai (ah pw c.w) A.A (gk (.ref I)) Q E x.s:=by
 cases l<;>exact(i.2 x A (.refl i.1)).1 Q E q
theorem dM.next(i:dM d I g (p::l) K x)(A:Am d){Q:Option ac->ag->Prop}{E:ac->ag->Prop}(k:∀v K' z,Rd p z v->dM d I g l K' z->br K g x z->(∀b,K b->K' b)->(∀b,K' b->K b\/x.s.heap.get? b=none)->Q (some v) z.s):ai (ah pw c.w) A.A (gm (.ref I)) Q E x.s:=(i.2 x A (.refl i.1)).2.2 Q E k
theorem dM.done(i:dM d I g [] K x)(A:Am d){Q:Option ac->ag->Prop}{E:ac->ag->Prop}(k:∀z,br K g x z->Q none z.s):ai (ah pw c.w) A.A (gm (.ref I)) Q E x.s:=(i.2 x A (.refl i.1)).2.2 Q E k
theorem dM.mono(h:d<=e):∀{l:List PV} {K:ao->Prop} {x:Pt c},dM d I g l K x->dM e I g l K x:=by
 intro l;induction l with
 |nil=>exact λi=>⟨i.1,λy A m=>i.2 y (A.mono h) m⟩|cons p l ih=>exact λi=>⟨i.1,λy A m=>(eA ((i.2 y (A.mono h) m).1) ((i.2 y (A.mono h) m).2.1) (λQ E k=>(i.2 y (A.mono h) m).2.2 Q E λv K' z r i=>k v K' z r (ih i)))⟩
def qE(A:Am d)(t:Sem ac)(x:Pt c)(l:List PV):Prop:=∀(Q:ac->ag->Prop) (E:ac->ag->Prop),(∀y I K g,Le x y->dM d I g l K y->(∀b,K b->x.s.heap.get? b=none)->x.s.gens.size<=g->g<=y.s.gens.size->Q (.ref I) y.s)->ai (ah pw c.w) A.A t Q E x.s
def uH(A:Am d)(t:Sem ac)(x:Pt c)(l:List PV):Prop:=∀(Q:ac->ag->Prop) (E:ac->ag->Prop),(∀y,Le x y->y.f=x.f->n7 d x.s.heap.objs.size l y->Q (.ref x.s.heap.objs.size) y.s)->ai (ah pw c.w) A.A t Q E x.s
theorem uH.i{t:Sem ac}(h:uH A t x l):qE A t x l:=λQ E k=>h Q E λy le _ i=>k y _ _ x.s.gens.size le i.iter (λb q=>q▸eV _) (bf _) le.e.di
noncomputable def EZ(T:String):Bool:=["enumerate","zip","dict_itemiterator","dict_reverseitemiterator","odict_iterator","itertools.zip_longest","itertools.pairwise"].contains T
theorem Dy{M:f4}{A:bh}{s:ag}{o:Obj}{n:String}{t:Expr}{Q:Unit->ag->Prop}{E:ac->ag->Prop}(ho:s.heap.get? I=some o)(hc:o.cls=.type n)(hn:EZ n=false)(h:Q () s):ai M A (yR t (.ref I) v) Q E s:=by
 have body:ai M A (do
   let(.ref r,.ref a):=(pO I,v)|return
   let o<-load r
   match o.cls,o.data with
   |.type n,.fields vs=>
    if EZ n&&vs[0]?==some (c6 a) then
     rule "for.unpacks-the-owned-tuple"
     updateField r 0 .none
   |_,_=>pure ()) Q E s:=by
  induction v using AF with
  |ref a=>
   refine ae (FE ho (aa (hc) ?_));cases o.data with
   |fields vs=>
    dsimp only;erw[hn];rw[Bool.false_and];exact au h
   |_=>exact au h
  |_=>exact au h
 induction t using ej with
 |Tuple=>exact body|List=>exact body|_=>exact au h
theorem Xd(A:Am d){fp:List ao}{n:Nat}{P:Nat->ac->Prop}{St:Nat->am->Prop}{T:String}{f:Fz}{xs:List PV}(W:∀A:Am d,Walks pw c.w A.A I fp [I] n P St)(hn:n=xs.length)(hP:∀i v p,P i v->xs[i]?=some p->aV c f v p)(Lw:∀b∈fp,b=I\/∃o,f b=some o)
(hT:∀i h,St i h->∃o,h.get? I=some o/\o.cls=.type T)(hc:("code"==T)=false)(ht:EZ T=false):∀(l:List PV) (i:Nat) (x:Pt c),xs.drop i=l->i+l.length=xs.length->Sub f x.f->bV x I->St i x.s.heap->n7 d I l x:=by
 intro l;have mv:∀{i:Nat} {y:Pt c} {h':am} {tk:Nat},bV y I->St i y.s.heap->(∀b o,b∉[I]->y.s.heap.get? b=some o->h'.get? b=some o)->∃z:Pt c,z.s={y.s with heap:=h',toks:=tk}/\∀g,Wr (λb=>b=I) g y z:=λ{i y h' tk} n st k=>
  have e:∀g,ch (λb=>b=I) g y.s {y.s with heap:=h',toks:=tk}:=λg=>⟨λb o e _ n=>k b o (λq=>n (cY q)) e,λ_ _ _ h=>h,bf _,λh=>h,rfl⟩
  (aA (y.wr _ (e 0) (y.tab.but λb o e' q=>k b o (λm=>by
   cases cY m;refine q.elim (λq=>cV _ (ba q n.hi)) λq=>aB (hT i _ st) λo' e1 e2=>?_;rw[<-ay (e'.symm.trans e1),q.1] at e2;injection e2 with e2;rw[e2,beq_self_eq_true] at hc;injection hc) e') λb q=>q▸⟨n.h₀,n.f⟩) rfl (λg=>⟨rfl,e g⟩))
 have base:∀{i:Nat} {x:Pt c},Sub f x.f->bV x I->St i x.s.heap->lX (λb=>b=I) x/\∀{y:Pt c},iu (λb=>b=I) (λ_=>False) x y->Sub f y.f/\bV y I/\St i y.s.heap:=λ{i x} s n st=>
  have live:lX (λb=>b=I) x:=λb q=>q▸⟨n,(hT i _ st).elim λo e=>⟨o,e.1⟩⟩
  ⟨live,λ{y} m=>(eA (λa o e=>m.sub a o (s a o e)) ((live.later m I rfl).1) ((W A).frame i _ _ st λb hb o e=>(Lw b hb).elim (λq=>m.k b o q e) λq=>q.elim λo' q=>y.hs b o (m.sub b o (ay ((x.hs b o' (s b o' q)).symm.trans e)▸s b o' q))))⟩
 induction l with
 |nil=>
  intro i x hd hl s fr st;have B:=base s fr st;refine⟨B.1,λy A m=>?_⟩;have z:=(B.2 m).2;refine(eA (λQ E q=>(W A).self i y.s Q E z.2 q) (λv t Q E q=>(by refine aB (hT i _ z.2) λo e1 e2=>?_;exact Dy e1 e2 ht q)) (λQ E k=>(W A).done y.s Q E ((hl.trans hn.symm:i=n)▸z.2) λh' tk k'=>?_));exact aB (mv (tk:=tk) z.1 z.2 k') λw e W=>e▸k w W
 |cons p l ih=>
  intro i x hd hl s fr st;have B:=base s fr st;refine⟨B.1,λy A m=>?_⟩;have z:=(B.2 m).2;refine(eA (λQ E q=>(W A).self i y.s Q E z.2 q) (λv t Q E q=>(by refine aB (hT i _ z.2) λo e1 e2=>?_;exact Dy e1 e2 ht q)) (λQ E k=>?_));have hi:i<xs.length:=ba (qX (eE _)) (aD hl);have hx:=Cg hi;rw[hd] at hx;injection hx with e1 e2
  refine(W A).item i y.s Q E (hn▸hi) z.2 λv h' tk hv st' k'=>aB (mv (tk:=tk) z.1 z.2 k') λw e W=>?_;have sw:Sub f w.f:=λa o e=>(W 0).sub a o ((B.2 m).1 a o e);exact e▸k v w (aV.mono sw (hP i v p hv (e1▸jM hi))) (ih (i+1) w e2.symm (by refine gZ (hl) ?_;erw[wL];lia) sw ((W 0).free z.1) (by erw[e];exact st')) W
theorem Fs{o:Obj}{n:Nat}{P:Nat->ac->Prop}{St:Nat->am->Prop}{fp:List ao}{xs:List PV}{T:String}{t:Sem ac}(W:∀A:Am d,Walks pw c.w A.A x.s.heap.objs.size fp [x.s.heap.objs.size] n P St)(hn:n=xs.length)
(hP:∀i v p,P i v->xs[i]?=some p->Rd p x v)(Lw:∀b∈fp,b=x.s.heap.objs.size\/∃o,x.f b=some o)(hT:∀i h,St i h->∃o,h.get? x.s.heap.objs.size=some o/\o.cls=.type T)(hc:("code"==T)=false)(ht:EZ T=false)
(s0:St 0 (x.s.heap.push o))(run:∀(Q:ac->ag->Prop) E,Q (.ref x.s.heap.objs.size) {x.s with heap:=x.s.heap.push o}->ai (ah pw c.w) A.A t Q E x.s):uH A t x xs:=λQ E k=>
 run Q E (k (x.push o x.s.toks) (x.cG _) rfl (Xd A W hn hP Lw hT hc ht xs 0 (x.push o x.s.toks) rfl (f5 _) (λ_ _ e=>e) ⟨x.EN (eV _),x.DG (eV _),x.hi (bf _)⟩ s0))
theorem Ht(r:Rd (.list l) x v):uH A (gk v) x l:=dY r λ{a n vs} h rl z=>by
 have jQ:a≠x.s.heap.objs.size:=λe=>cV _ (e▸fB (x.hs _ _ h));refine Fs (o:={cls:=.type "list_iterator",data:=.fields #[.ref a,c6 0]}) (T:="list_iterator") (λA=>Walks.list A.ok.handled x.s.heap.objs.size a jQ vs.toArray) (by rw[i4];exact rl.length) (λi v p e1 e2=>?_) (λb hb=>?_) (λi h st=>?_) (by decide) (by decide) ⟨(cz _ (ft _ rfl) rfl rfl),(kQ h).push _⟩ (λQ E q=>wpAny_pyIter_list (kQ h) q)
 ·obtain⟨v',e3,r⟩:=rl.get e2;exact ay (e3.symm.trans (re.symm.trans e1))▸r
 ·exact(bw hb).imp id λq=>⟨_,(af x.f (cY q)).trans h⟩
 ·exact cP st.1 λo e1 e2 _=>(aA o e1 e2)
theorem Qo(r:Rd (.tup l) x v):uH A (gk v) x l:=iT r λ{a n vs} h rl z=>by
 have jQ:a≠x.s.heap.objs.size:=λe=>cV _ (e▸fB (x.hs _ _ h));refine Fs (o:={cls:=.type "tuple_iterator",data:=.fields #[.ref a,c6 0]}) (T:="tuple_iterator") (λA=>Walks.tuple A.ok.handled x.s.heap.objs.size a jQ vs.toArray) (by rw[i4];exact rl.length) (λi v p e1 e2=>?_) (λb hb=>?_) (λi h st=>?_) (by decide) (by decide) ⟨(cz _ (ft _ rfl) rfl rfl),⟨_,c5 _ (x.hs _ _ h),rfl,n,rfl⟩⟩ (λQ E q=>wpAny_pyIter_tuple (An h) q)
 ·obtain⟨v',e3,r⟩:=rl.get e2;exact ay (e3.symm.trans (re.symm.trans e1))▸r
 ·exact(bw hb).imp id λq=>⟨_,(af x.f (cY q)).trans h⟩
 ·exact cP st.1 λo e1 e2 _=>(aA o e1 e2)
theorem OG(r:Rd (.d5 lo hi) x v):uH A (gk v) x ((ax (hi-lo).toNat).map λk:Nat=>.int (lo+k)):=qz r λ{a t u z} h h1 h2 hn=>by
 refine Fs (o:={cls:=.type "range_iterator",data:=.fields #[c6 lo,c6 (agb lo hi 1),c6 1]}) (T:="range_iterator") (λA=>Walks.range A.ok.handled x.s.heap.objs.size lo 1 (hi-lo).toNat) (by rw[bi,cF]) (λi v p e1 e2=>?_) (λb hb=>.inl (cY hb)) (λi h st=>(aA _ st rfl)) (by decide) (by decide) ?_ (λQ E q=>wpAny_pyIter_range (x.hs _ _ h) (Ou h1 h2) q)
 ·obtain⟨t,rfl⟩:=e1;rw[oy] at e2;refine fG e2 λk e3=>?_;have:k=i:=by
   obtain⟨_,e⟩:=zq.mp e3;exact e.symm.trans (SN _)
  subst this;rw[Kp];exact .int
 ·show am.get? _ _=_;rw[HG,ft _ rfl,Int.ofNat_zero,yS,uS,Kt]
theorem Eg(r:Rd (.list l) x v):qE A (gk v) x l:=(Ht r).i
theorem R4(r:Rd (.tup l) x v):qE A (gk v) x l:=(Qo r).i
theorem Hm(r:Rd (.d5 lo hi) x v):qE A (gk v) x ((ax (hi-lo).toNat).map λk:Nat=>.int (lo+k)):=(OG r).i
end
section
variable{S:Type}{put:Str->PV->S->Option S}{St:S->Pt c->Prop}{env:Env}{F:Fm}{σ σ':S}{t e:Expr}{es:List Expr}{E:ac->ag->Prop}{Q:Unit->ag->Prop}
@[elab_as_elim] theorem BV{m:Expr->Prop}{z:Str}(h:iB e=some z)(K:∀p,m (.Name z p)):m e:=by
 induction e using ej with
 |Name z' p=>exact ay h▸K p|_=>exact nS h
def HC(St:S->Pt c->Prop)(put:Str->PV->S->Option S)(env:Env):Prop:=∀{M:f4} {A:bh} {z:Str} {p:PV} {σ σ':S} {x:Pt c} {u:ac} {Q:Unit->ag->Prop} {E:ac->ag->Prop},put z p σ=some σ'->St σ x->Rd p x u->(∀y,St σ' y->Sub x.f y.f->Q () y.s)->ai M A (Cc env z u) Q E x.s
theorem afe{M:f4}{A:bh}(P:HC St put env):∀{es:List Expr} {l:List PV} {σ:S} {x:Pt c} {vs:List ac},As put es l σ=some σ'->St σ x->bt l x vs->(∀y,St σ' y->Q () y.s)->ai M A (assignInOrder ((yT es env).map (·.2)) vs) Q E x.s:=by
 intro es;induction es with
 |nil=>
  intro l σ x vs h s r k;induction l using bO with
  |nil=>exact i0 r (assignInOrder_nil (k x (ay h▸s)))|cons=>exact nS h
 |cons e es ih=>
  intro l σ x vs h s r k;induction l using bO with
  |nil=>exact nS h|cons p l=>exact eB r λa r=>aj h λz e h=>aj h λσ₁ h1 h2=>BV (m:=λe=>ai M A (assignInOrder ((yT (e::es) env).map (·.2)) _) Q E x.s) e λpos=>SO (SP (P h1 s a λy s' b=>ih h2 s' (r.mono b) k))
theorem adu:∀{es:List Expr} {l:List PV} {σ:S},As put es l σ=some σ'->(yT es env).length=l.length/\(yT es env).findIdx? (·.1)=none:=by
 intro es;induction es with
 |nil=>
  intro l σ h;induction l using bO with
  |nil=>exact⟨rfl,rfl⟩|cons=>exact nS h
 |cons e es ih=>
  intro l σ h;induction l using bO with
  |nil=>exact nS h
  |cons p l=>
   refine aj h λz e h=>aj h λσ₁ h1 h2=>BV (m:=λe=>(yT (e::es) env).length=_/\(yT (e::es) env).findIdx? (·.1)=none) e λpos=>?_;have i:=ih h2;refine⟨af jq i.1,?_⟩;show List.findIdx? (·.1) ((false,uT (.Name z pos) env)::yT es env)=none;erw[List.findIdx?_cons];erw[i.2];rfl
theorem Qy(P:HC St put env)(gr:∀{σ:S} {x:Pt c} {h':am} {k:∀b o,x.s.heap.get? b=some o->h'.get? b=some o},St σ x->St σ (x.grow h' x.s.toks k))(h:fT put t p σ=some σ')(s:St σ x)(r:Rd p x v)(k:∀y,St σ' y->Q () y.s):ai (ah pw c.w) A.A (uT t env v) Q E x.s:=by
 induction t using ej with
 |Name z pos=>exact SP (P h s r λy s' _=>k y s')
 |Tuple es n pos=>
  revert r;refine aj h λl e h=>JT e λr=>iT r λ{a n vs} e rl z=>?_;have f:=adu (env:=env) h;refine wpAny_assign_Tuple A.ok.handled (items:=vs.toArray) (An e) (by erw[f.1];erw[i4];erw[rl.length];rfl) f.2 λh' k'=>?_;exact afe (x:=x.grow h' x.s.toks λb o e=>k' b o (gE (fB e)) e) P h (gr s) rl k
 |_=>exact nS h
structure Eb(F:Fm)(x:Pt c)(σ:bj)(y:Pt c):Prop where
 v:bA F y σ
 o:jD F y
 w:∀g,Wr (tK F) g x y
theorem AW{z:Str}{α:Type}{w:α}{σ σ':List (Str×α)}(h:gY F.nm z w σ=some σ'):(ak F.nm z=some .local\/ak F.nm z=some .cell)/\cf σ z w=σ':=aL h λq h=>⟨q,ay h⟩
theorem acK:HC (λσ y=>Eb F x σ y) (gY F.nm) F.env:=λh s r k=>by
 refine dU (AW h) λq bY=>?_;subst bY;exact Mw s.v.cU s.o q λy S=>k y ⟨S.vars s.v r,S.r,λg=>(s.w g).trans (S.wr g)⟩ (S.wr 0).sub
theorem RE{σ σ':bj}(h:fT (gY F.nm) t p σ=some σ')(X:bA F x σ)(Y:jD F x)(r:Rd p x v)(k:∀y,Eb F x σ' y->Q () y.s):ai (ah pw c.w) A.A (uT t F.env v) Q E x.s:=
 Qy (St:=λσ y=>Eb F x σ y) acK (λ{σ y h' k} s=>⟨s.v.le (y.cG k),s.o.le s.v (y.cG k),λg=>(s.w g).trans ⟨rfl,(y.cG k).e.nJ⟩⟩) h ⟨X,Y,λg=>.refl⟩ r k
theorem aaP{σ':bj}{z:Str}{q:PV}:∀{es:List Expr} {l:List PV} {σ:bj},As (gY F.nm) es l σ=some σ'->z∉es.filterMap iB->ak σ z=some q->ak σ' z=some q:=by
 intro es;induction es with
 |nil=>
  intro l σ h _ e;induction l using bO with
  |nil=>exact ay h▸e|cons=>exact nS h
 |cons e es ih=>
  intro l σ h n e';induction l using bO with
  |nil=>exact nS h
  |cons p l=>
   refine aj h λz' e h=>aj h λσ₁ h1 h2=>?_;rw[Ch,e] at n;refine dU (AW h1) λ_ bY=>?_;subst bY;exact ih h2 (λm=>n (.tail _ m)) ((wn.trans (iN λq=>n (jO.mpr (.inl q)))).trans e')
theorem Se{σ σ':bj}{z:Str}{q:PV}(h:fT (gY F.nm) t p σ=some σ')(f:lx t σ=true)(e:ak σ z=some q):ak σ' z=some q:=by
 have n:z∉wb t:=λm=>by have:=b7 f z m;rw[e] at this;injection this
 induction t using ej with
 |Name z' pos=>refine dU (AW h) λ_ bY=>?_;subst bY;exact(wn.trans (iN λq=>n (Gi.mpr q))).trans e|Tuple es k pos=>exact aj h λl _ h=>aaP h n e|_=>exact nS h
end
end
section
variable{c:Cx}{x y:Pt c}{d:Nat}{A:Am d}{F:Fm}{σ:bj}{sc:fk}{α:Type}{D I:ao}{ys here:List PV}{W:ao->Prop}{elt:Expr}{gens:List jL}{pos:Pos}
section
variable{env:Env}{nm:aN}{z q:Str}{a:ao}{h:am}{acc cs:List (Str×ao)}
theorem vS{l:List (Str×α)}{v:α}:Ci z ((q,v)::l)=if z=q then some v else l.lookup z:=by
 erw[FF];by_cases e:z=q
 ·refine aa (iP e) (aa (jU e) ?_);rfl
 ·refine aa (iN e) (aa (kH e) ?_);rfl
theorem gN{l:List (Str×α)}{v:α}(h:ak l z=some v):(z,v)∈l:=by
 induction l with
 |nil=>exact nS h
 |cons p r ih=>
  obtain⟨y,u⟩:=p;by_cases e:y=z
  ·exact e▸ay ((iP e).symm.trans h)▸ .head _
  ·exact .tail _ (ih ((iN e).symm.trans h))
noncomputable def iV(env:Env):aN->List (Str×ao)->List (Str×ao)
 |[],acc=>acc|(n,k)::r,acc=>if k==.free then iV env r ((n,(env.cells.lookup n).getD 0)::acc) else iV env r acc
theorem Qa(h:∀p∈sc.names,p.2=.free->(env.cells.lookup p.1).isSome=true):closureFor sc env=pure (iV env sc.names []):=by
 have go:∀(names:aN) (acc:List (Str×ao)),(∀p∈names,p.2=.free->(env.cells.lookup p.1).isSome=true)->
   (forIn names acc λ(x:Str×gU) (cs:List (Str×ao))=>(if x.2==.free then do let a<-cellOf env x.1;pure (uU ((x.1,a)::cs)) else pure (uU cs):Sem (ForInStep (List (Str×ao)))))=pure (iV env names acc):=by
  intro names;induction names with
  |nil=>intro acc _;rfl
  |cons p r ih=>
   intro acc hp;obtain⟨n,k⟩:=p;rw[wP];show _=pure (if(k==.free)=true then iV env r ((n,(env.cells.lookup n).getD 0)::acc) else iV env r acc);by_cases q:(k==.free)=true
   ·refine dL (tG.mp (hp (n,k) (.head _) (a5 q))) λc hc=>?_;rw[iP q,iP q,hc,show cellOf env n=pure c by unfold cellOf;erw[hc];rfl];exact ih _ λp h=>hp p (.tail _ h)
   ·exact aa (iN q) (aa (iN q) (ih _ λp h=>hp p (.tail _ h)))
 have:=go sc.names [] h;unfold closureFor
 first
  |exact this
  |(rw[this];rfl)
  |(simp only[] at this⊢;erw[this];rfl)
theorem Ml:∀{names:aN} {acc:List (Str×ao)},(∀n,(n,Cj)∈names->(env.cells.lookup n).isSome=true)->(iV env names acc).lookup z=some a->env.cells.lookup z=some a\/acc.lookup z=some a:=by
 intro names;induction names with
 |nil=>exact λ_ h=>.inr h
 |cons p r ih=>
  intro acc hp h;obtain⟨n,k⟩:=p;have ve:=λn m=>hp n (.tail _ m);by_cases q:(k==.free)=true
  ·refine(ih ve ((af (Ci z) (iP q)).symm.trans h)).elim .inl λe=>?_;rw[vS] at e;by_cases y:z=n
   ·refine dL (tG.mp (hp n (a5 q▸ .head _))) λb hb=>?_;rw[iP y,hb] at e;exact .inl (y▸hb.trans e)
   ·exact .inr ((iN y).symm.trans e)
  ·exact ih ve ((af (Ci z) (iN q)).symm.trans h)
theorem E0:∀{names:aN} {acc:List (Str×ao)},(acc.lookup z).isSome=true\/(z,Cj)∈names->((iV env names acc).lookup z).isSome=true:=by
 intro names;induction names with
 |nil=>exact λh=>h.elim id λh=>nomatch h
 |cons p r ih=>
  intro acc h;obtain⟨n,k⟩:=p;by_cases q:(k==.free)=true
  ·refine mF (af (λl=>(Ci z l).isSome=true) (iP q)) (ih (aa (vS) ?_));by_cases y:z=n
   ·erw[iP y];exact .inl rfl
   ·exact aa (iN y) (h.imp id λm=>(bw m).elim (λe=>absurd (af wQ e) y) id)
  ·refine mF (af (λl=>(Ci z l).isSome=true) (iN q)) (ih (h.imp id λm=>(bw m).elim (λe=>absurd (jU (af oz e).symm) q) id))
structure aeK(h:am)(acc:List (Str×ao))(names:aN)(cs:List (Str×ao))(h':am):Prop where
 keep:∀b o,h.get? b=some o->h'.get? b=some o
 cell:∀x c,cs.lookup x=some c->∃v,h'.IsCell c v
 inj:∀x y c,cs.lookup x=some c->cs.lookup y=some c->x=y
 new:∀x c,cs.lookup x=some c->acc.lookup x=some c\/h.objs.size<=c
 own:∀x,(x,tv)∈names->∃c,cs.lookup x=some c/\h.objs.size<=c
 old:∀x,(x,tv)∉names->cs.lookup x=acc.lookup x
noncomputable def D6:Obj:={cls:=.type "cell",data:=.cell none}
theorem laid(names:aN):∀(h:am) (acc:List (Str×ao)),(∀x c,acc.lookup x=some c->∃v,h.IsCell c v)->(∀x y c,acc.lookup x=some c->acc.lookup y=some c->x=y)->
  aeK h acc names (Ck h.objs.size names acc) (pushCells h names):=by
 induction names with
 |nil=>exact λh acc a b=>⟨λ_ _ e=>e,a,b,λ_ _ e=>.inl e,λ_ e=>(nomatch e),λ_ _=>rfl⟩
 |cons p r ih=>
  intro h acc a b;obtain⟨n,k⟩:=p;unfold Ck pushCells;by_cases q:(k==.cell)=true
  ·refine aa (iP q) (aa (iP q) ?_);have lt:∀x c,acc.lookup x=some c->c<h.objs.size:=λx c e=>by refine dL (a x c e) λv i=>?_;exact i.lt
   have two:∀{z c} {P:Prop},((n,h.objs.size)::acc).lookup z=some c->(z=n->c=h.objs.size->P)->(acc.lookup z=some c->P)->P:=λ{z c P} e k1 k2=>by
    rw[vS] at e;by_cases y:z=n
    ·exact k1 y (ay ((iP y).symm.trans e)).symm
    ·exact k2 ((iN y).symm.trans e)
   have L:=ih (h.push D6) ((n,h.objs.size)::acc) (λx c e=>two e (λ_ e=>e▸(dh none _ (ft _ rfl) rfl)) λe=>by obtain⟨v,i⟩:=a x c e;exact⟨v,i.keeps λb o e=>c5 _ e⟩)
    λx y c e1 e2=>two e1 (λz1 e=>two e2 (λz2 _=>z1.trans z2.symm) λe2=>absurd (e▸lt _ _ e2) (cV _)) λe1=>two e2 (λ_ e=>absurd (e▸lt _ _ e1) (cV _)) (b x y c e1)
   rw[show(h.push D6).objs.size=h.objs.size+1 from oA ..] at L;refine⟨λb o e=>L.keep b o (c5 _ e),L.cell,L.inj,λx c e=>(L.new x c e).elim (λe=>two e (λ_ e=>.inr (aD e.symm)) .inl) λl=>.inr (aq (iH _) (aq (aD (oA h D6).symm) l)),λx e=>?_,λx e=>?_⟩
   ·by_cases m:(x,tv)∈r
    ·exact aB (L.own x m) λc e1 e2=>(aA c e1 (aq (iH _) (aq (aD (oA h D6).symm) e2)))
    ·exact aa (L.old x m) (aa (vS) ((bw e).elim (λe=>(aA _ (iP (af wQ e)) (bf _))) λe=>absurd e m))
   ·refine aa (L.old x λz=>e (.tail _ z)) (aa (vS) ?_);rw[iN];rintro rfl;exact e (a5 q▸ .head _)
  ·refine aa (iN q) (aa (iN q) ?_);have L:=ih h acc a b;exact⟨L.keep,L.cell,L.inj,L.new,λx e=>(bw e).elim (λe=>absurd (jU (af oz e).symm) q) (L.own x),λx e=>L.old x λz=>e (.tail _ z)⟩
structure tZ(nm:aN)(sc:fk):Prop where
 kind:sc.kind=.function
 ng:pC sc.names=false
 one:∀x k,(x,k)∈sc.names->ak sc.names x=some k
 free:∀x,(x,Cj)∈sc.names->(ak nm x=some .cell\/ak nm x=some .free)/\x≠("__classdict__":Str)
theorem HN(h:Bs nm sc=true):tZ nm sc:=by
 have h1:=aX h;have h3:=aX h1.1;have h2:=b7 h1.2;refine⟨a5 h3.1,tu _▸h3.2,λx k m=>a5 (aX (h2 _ m)).1,λx m=>?_⟩;have k:=aX (aX (h2 _ m)).2;exact⟨(mA k.1).imp a5 a5,bne_iff_ne.mp k.2⟩
noncomputable def t4(env:Env)(x:Str):Option gU->Option gU
 |some .free=>if env.kindOf x=some .cell then some .cell else some .free
 |k=>k
theorem HO:t4 env z (some .free)=some .cell\/t4 env z (some .free)=some .free:=by
 by_cases e:env.kindOf z=some .cell
 ·exact .inl (iP e)
 ·exact .inr (iN e)
theorem Vu(hk:env.scope.kind=.function):∀{names:aN},
  (names.map λ(n,k)=>if(k==Cj&&env.scope.kind==.function&&env.kindOf n==some .cell) then(n,tv) else(n,k)).lookup z=t4 env z (ak names z):=by
 intro names;induction names with
 |nil=>rfl
 |cons p r ih=>
  obtain⟨n,k⟩:=p;have one:(if(k==Cj&&env.scope.kind==.function&&env.kindOf n==some .cell)=true then(n,tv) else(n,k))=(n,(t4 env n (some k)).getD k):=by
   erw[hk];by_cases q:k=.free
   ·subst q;by_cases z:env.kindOf n=some .cell
    ·erw[z];unfold t4;erw[iP z];rfl
    ·unfold t4;erw[iN z];rw[iN];rfl;exact λh=>z (a5 (aX h).2)
   ·erw[kH q];cases k<;>first|rfl|exact absurd rfl q
  erw[oB];show Ci z ((if _ then _ else _)::_)=_;refine aa (one) (aa (vS) (aa (ih) ?_));show _=t4 env z (if n=z then some k else ak r z);by_cases e:n=z
  ·refine aa (iP e) (aa (iP e.symm) (aa (e) ?_));cases k<;>first|rfl|exact HO.elim (λe=>by erw[e];rfl) λe=>by erw[e];rfl
  ·refine aa (iN e) (aa (iN (gV e)) ?_);rfl
theorem OD{p:PV}(h:ak (lH sc σ) z=some p):ak σ z=some p/\ak sc.names z=some .free:=by
 induction σ with
 |nil=>exact nS h
 |cons q r ih=>
  obtain⟨y,u⟩:=q;unfold lH at h ih;rw[List.filter_cons] at h;show(if y=z then some u else ak r z)=some p/\_;by_cases k:(ak sc.names y==some .free)=true
  ·replace h:=(af (λl=>ak l z) (iP k)).symm.trans h;by_cases e:y=z
   ·exact⟨(iP e).trans ((iP e).symm.trans h),e▸a5 k⟩
   ·have i:=ih ((iN e).symm.trans h);exact⟨(iN e).trans i.1,i.2⟩
  ·have i:=ih ((af (λl=>ak l z) (iN k)).symm.trans h);exact⟨(iN λe=>k (jU ((af (ak sc.names) e).trans i.2))).trans i.1,i.2⟩
def yA(env:Env)(sc:fk)(L:ao):Env:=
 {scope:=relabel sc env,locals:=L,globals:=env.globals,cells:=Ck (L+1) sc.names (iV env sc.names []),qual:=env.qual,func:=none,code:=env.code,frame:=env.frame,builtins:=env.builtins}
noncomputable def zX:Obj:={cls:=.type "dict",data:=.dict #[]}
def E7(x:Pt c)(sc:fk):am:=pushCells (x.s.heap.push zX) sc.names
structure Mg(F:Fm)(x:Pt c)(σ:bj)(sc:fk)(G:Fm)(y:Pt c):Prop where
 env:G.env=yA F.env sc x.s.heap.objs.size
 nm:G.nm=sc.names
 s:y.s={x.s with heap:=E7 x sc}
 le:Le x y
 v:bA G y (lH sc σ)
 o:jD G y
 new:∀b,tK G b->x.s.heap.get? b=none
 old:∀b,dm G.env b->(∃x,F.env.cells.lookup x=some b)\/x.s.heap.objs.size<=b
theorem DJ{h:am}(l:h.objs.size<=a):h.get? a=none:=by
 cases q:h.get? a with
 |none=>rfl|some o=>exact absurd (fB q) (gJ l)
theorem EH(X:tZ F.nm sc)(n:Str)(m:(n,Cj)∈sc.names):(F.env.cells.lookup n).isSome=true:=(F.cells n (X.free n m).1 (X.free n m).2).2
theorem aa'(X:bA F x σ)(S:tZ F.nm sc):∃G y,Mg F x σ sc G y:=by
 have xc:∀{z a},(iV F.env sc.names []).lookup z=some a->F.env.cells.lookup z=some a:=λe=>(Ml (EH S) e).elim id λe=>nS e;have L:=laid sc.names (x.s.heap.push zX) (iV F.env sc.names []) (λz a e=>by
  obtain⟨v,i⟩:=X.cU z a (xc e);exact⟨v,i.keeps λb o e=>c5 _ e⟩) λz q a e1 e2=>F.apart z q a (xc e1) (xc e2)
 rw[show(x.s.heap.push zX).objs.size=x.s.heap.objs.size+1 from oA ..] at L;have ge:∀{a:Nat},(x.s.heap.push zX).objs.size<=a->x.s.heap.objs.size<a:=λl=>ba (i5 _) (aq (aD (oA x.s.heap zX).symm) l);have kind:∀z,(yA F.env sc x.s.heap.objs.size).kindOf z=t4 F.env z (ak sc.names z):=λz=>Vu F.kind;have look:∀{z a},(yA F.env sc x.s.heap.objs.size).cells.lookup z=some a->F.env.cells.lookup z=some a\/x.s.heap.objs.size<a:=λ{z a} e=>(L.new z a e).imp xc ge;have Gu:∀{z},ak sc.names z=some .free->(z,tv)∉sc.names:=λe m=>nomatch (S.one _ _ m).symm.trans e;have lt:∀{z a},F.env.cells.lookup z=some a->a<x.s.heap.objs.size:=λ{z a} e=>by refine dL (X.cU z a e) λv i=>?_;exact i.lt
 have keep:∀b o,x.s.heap.get? b=some o->(E7 x sc).get? b=some o:=λb o e=>L.keep b o (c5 _ e);have free:∀{a:Nat},x.s.heap.objs.size<=a->bV (x.grow (E7 x sc) x.s.toks keep) a:=λl=>by
  have f:=x.free l (DJ l);exact⟨f.f,f.h₀,f.hi⟩
 let G:Fm:={
  env:=yA F.env sc x.s.heap.objs.size,nm:=sc.names,kind:=S.kind,glob:=F.glob,blt:=F.blt,code:=λg=>nomatch S.ng.symm.trans g
  names:=λz e=>(kind z).trans (by erw[e];rfl)
  cells:=λz e n=>by
   rw[kind];rcases e with e|e
   ·refine aB (L.own z (gN e)) λa e' _=>aa (e) ?_;exact⟨.inl rfl,tG.mpr ⟨a,e'⟩⟩
   ·exact aa (e) (⟨HO,(af Option.isSome (L.old z (Gu e))).trans (E0 (.inr (gN e)))⟩)
  i9:=⟨x.j0 (bf _),λz a e=>(look e).elim (F.i9.2 z a) λl=>x.j0 (cy l)⟩
  cl:=λz a e q=>(look e).elim (λe=>cV _ (i6 (lt e) q.symm)) λl=>cV _ (i6 l q)
  apart:=L.inj}
 refine⟨G,x.grow (E7 x sc) x.s.toks keep,rfl,rfl,rfl,x.cG _,⟨L.cell,λz p e=>?_⟩,⟨⟨_,(am.Ns.new x.s.heap (.type "dict")).keeps L.keep⟩,free (bf _),λz e=>(kind z).trans (by erw[(e:ak sc.names z=some .local)];rfl),λz e=>?_⟩,λb q=>?_,λb q=>?_⟩
 ·refine dU (OD e) λe1 e2=>aB (X.var z p e1) λv V r=>dU (S.free z (gN e2)) λa b=>?_;have k:=F.cells z a b;rcases V with V|⟨_,a',e3,i⟩
  ·rw[V.1] at k;nomatch k.1
  ·refine(aA v (.inr ⟨?_,a',?_,i.keeps keep⟩) r)
   ·show(yA F.env sc x.s.heap.objs.size).kindOf z=some .cell\/(yA F.env sc x.s.heap.objs.size).kindOf z=some .free/\_;rw[kind,e2];exact HO.imp id λe=>⟨e,kH b⟩
   ·exact dL (tG.mp (E0 (env:=F.env) (acc:=[]) (.inr (gN e2)))) λa'' e4=>(L.old z (Gu e2)).trans (e4.trans ((xc e4).symm.trans e3))
 ·exact aB (L.own z (gN e)) λa e1 l=>⟨(kind z).trans (by erw[(e:ak sc.names z=some .cell)];rfl),a,e1,free (cy (ge l))⟩
 ·rcases q with rfl|⟨z,e1,e2⟩
  ·exact eV _
  ·exact aB (L.own z (gN e1)) λa e3 l=>DJ (ay (e3.symm.trans e2)▸cy (ge l))
 ·rcases q with rfl|⟨z,e⟩
  ·exact .inr (bf _)
  ·exact(look e).imp (λe=>⟨z,e⟩) cy
theorem K_{M:f4}{A:bh}{E:ac->ag->Prop}{Q:Env->ag->Prop}(X:bA F x σ)(S:tZ F.nm sc)(h:∀G y,Mg F x σ sc G y->∀Gw,{Gw with scope:=relabel sc F.env}=G.env->Gw.locals=G.env.locals->Q Gw y.s):
  ai M A (SQ sc F.env.globals (iV F.env sc.names []) [] F.env.qual none .none (some F.env)) Q E x.s:=by
 refine km (aa' X S) λG y K=>?_;unfold SQ;refine ae (wpAny_alloc (ae (wpAny_layCells _ (λname kind cells=>by cases hkc:kind==tv<;>simp[hkc]) _ _ _ _ ?_)));simp only[Option.isSome_some,if_true,yU,pure_bind];refine au ?_;have h:=h G y K;rw[K.s,K.env] at h;refine h _ ?_ rfl;rw[oA];rfl
end
def qa:Expr->Bool:=EA.on {d:=false,BJ:=λ_ _ _=>true,kK:=λ_ _=>true,yc:=λ_ _ _ _=>true,BN:=λ_ _ _=>true,BC:=λ_ _ _=>true,HX:=λ_ _ _ _=>true,A3:=λ_ _ _ _=>true,DR:=λ_ _ _=>true,wz:=λ_ _=>true,uw:=λ_ _ _=>true,yk:=λ_ _ _ _=>true,tM:=λ_ _ _=>true,wd:=λ_ _ _=>true,uI:=λ_ _ _ _=>true}
structure aW(c:Cx)(d:Nat)(I:Ip):Prop where
 nZ:∀{nm σ e p},I.e nm σ e=some p->qa e=true
 tup:∀{nm σ es k ps p},I.e nm σ (.Tuple es k ps)=some p->∀e∈es,iC e=false
 lst:∀{nm σ es ps p},I.e nm σ (.List es ps)=some p->∃l,p=.list l
 ev:∀{A:Am d} {x:Pt c} {F:Fm} {σ e p},I.e F.nm σ e=some p->bA F x σ->aE A (eval e F.env) x (Rd p)
 te:∀{A:Am d} {x:Pt c} {F:Fm} {σ e b},I.t F.nm σ e=some b->bA F x σ->aE A (isTrue e F.env (eval e F.env)) x (Is b)
def Ov(c:Cx)(d:Nat):Prop:=∀{β:Type} {k:List PV->Option β} {r:β} {v:ac} {p:PV} {A:Am d} {x:Pt c},over p k=some r->Rd p x v->∃xs,k xs=some r/\qE A (gk v) x xs
theorem ac2{p:PV}{l:List PV}(h:yy p=some l):over p some=some l:=by
 induction p using dq with
 |set=>exact nS h|_=>exact(af (λo:Option (List PV)=>o.bind some) h)
theorem AA{e:Expr}(h:qa e=true)(env:Env)(v:ac):foldedSetIterable e env v=pure v:=by
 cases e<;>first|rfl|exact absurd h dy
theorem Ax{e:Expr}(h:qa e=true):iC e=false:=by
 cases e<;>first|rfl|exact absurd h dy
theorem YK{e:Expr}{op:iF}(h:qa e=true):behindInMarks op e=false:=by
 cases e<;>first|rfl|exact absurd h dy
noncomputable def C4(env:Env)(ifs:List Expr):Sem Bool:=forIn ifs true λc r=>if r=true then do let ok<-isTrue c env (eval c env);pure (uU ok) else pure (uU r)
noncomputable def yx(elt:Expr)(gens:List jL)(sc:fk)(pos:Pos)(k:Nat)(acc:ac)(env:Env):Sem Unit:=match gens[k+1]? with
 |some g'=>do
  let x<-eval g'.iter env
  standAt g'.iter.pos
  let x<-foldedSetIterable g'.iter env x
  let it<-yV [x] (gk x)
  let _<-runOwn (.compStart (.ListComp elt gens sc pos) (k+1) it acc env) env
  pure ()
 |none=>do let _<-bC (.builtin "list.append") [acc,<-eval elt env]
theorem compTurn_gen{env:Env}{sc:fk}{elt:Expr}{gens:List jL}{pos:Pos}{k:Nat}{g:jL}{it acc:ac}(h:gens[k]?=some g)(h0:g.is_async=0)(h':∀g,gens[k+1]?=some g->g.is_async=0):
  Cm (.ListComp elt gens sc pos) k it acc env=(do
   standAt g.iter.pos
   match<-gm it with
   |none=>pure (.done .next)
   |some v=>
    yR g.target it v
    uT g.target env v
    let ok<-C4 env g.ifs
    if ok=true then yx elt gens sc pos k acc env else pure ()
    again (.compLoop (.ListComp elt gens sc pos) k it acc env)):=by
 obtain⟨t,iter,ifs,n⟩:=g;cases h0;unfold Cm;dsimp only;erw[h];unfold C4 yx;dsimp only;congr 1;funext _;show(gm it>>=_)=(gm it>>=_);congr 1;funext r;induction r using qy with
 |none=>rfl
 |some v=>
  dsimp only;congr 1;funext _;congr 1;funext _;congr 1;funext ok;induction ok using ji with
  |false=>rfl
  |true=>
   refine aa (iP rfl) (aa (iP rfl) ?_);cases e:gens[k+1]? with
   |none=>simp|some g'=>simp[h' g' e]
section
variable{z:Pt c}{σ':bj}{v:ac}{p:PV}{K:ao->Prop}{g:Nat}{Ip:Ip}{es:List Expr}{b:Bool}{k:Nat}
theorem Xw{env:Env}:(forIn es false λ(c:Expr) (r:Bool)=>if r=true then do let ok<-isTrue c env (eval c env);pure (uU ok) else pure (uU r):Sem Bool)=pure false:=by
 induction es with
 |nil=>rfl|cons x r ih=>rw[wP];simp only[yW,if_false,pure_bind];exact ih
theorem afQ(S:aW c d Ip):∀{x:Pt c},pZ (Ip.t F.nm σ) false es=some b->bA F x σ->aE A (C4 F.env es) x (Is b):=by
 induction es with
 |nil=>exact λh X=>oI h (.pure rfl)
 |cons e r ih=>
  intro x h X;refine aj h λc h1 h2=>?_;unfold C4;rw[wP];simp only[if_true,bind_assoc,pure_bind];refine aE.bind (S.te h1 X) λv y l q=>?_;have q:v=c:=q;subst q;induction v using ji with
  |false=>exact oI h2 (mF (af (λt=>aE A t y (Is false)) Xw) (.pure rfl))|true=>exact ih h2 (X.le l)
structure gB(F:Fm)(D:ao)(x:Pt c)(σ:bj)(ys:List PV):Prop where
 v:bA F x σ
 o:jD F x
 d:∃vals n,x.s.heap.get? D=some (bu vals n)/\bt ys x vals
 fd:bV x D
 nd:¬dm F.env D
def Zn(F:Fm)(D b:ao):Prop:=tK F b\/b=D
theorem bV.step{b:ao}(n:bV x b)(l:br W g x y)(t:∃o,x.s.heap.get? b=some o)(h:¬W b):bV y b:=by
 refine⟨?_,n.h₀,n.hi⟩;cases e:y.f b with
 |none=>rfl|some o=>exact(l.new b o e).elim (λq=>nS (n.f.symm.trans q)) λq=>q.elim (λq=>t.elim λo' q'=>nS (q.symm.trans q')) λq=>absurd q h
theorem gB.at(C:gB F D x σ ys):∃o,x.s.heap.get? D=some o:=by refine eH C.d λ_ _ e _=>?_;exact⟨_,e⟩
theorem gB.yB(C:gB F D x σ ys){a:ao}(h:dm F.env a\/a=D):∃o,x.s.heap.get? a=some o:=by
 rcases h with(rfl|⟨z,e⟩)|rfl
 ·refine ut C.o.ns λm o es ep e _=>?_;exact⟨o,e⟩
 ·refine eH (C.v.cU z a e) λv o e _=>?_;exact⟨o,e⟩
 ·exact C.at
theorem gB.step(C:gB F D x σ ys)(l:br W g x y)(h:∀b,W b->¬dm F.env b/\b≠D):gB F D y σ ys:=by
 have kv:∀b o,dm F.env b->x.s.heap.get? b=some o->y.s.heap.get? b=some o:=λb o w e=>l.e.keep b o e (qC w) λq=>(h b q).1 w;have nw:∀b,W b->b=D->False:=λb q e=>(h b q).2 e;refine⟨C.v.keep kv l.sub,?_,?_,C.fd.step l C.at λq=>nw D q rfl,C.nd⟩
 ·refine⟨by obtain⟨m,n⟩:=C.o.ns;exact⟨m,n.at' λo e=>kv _ o (.inl rfl) e⟩,C.o.own.step l (C.yB (.inl (.inl rfl))) λq=>(h _ q).1 (.inl rfl),C.o.loc,λz e=>?_⟩;obtain⟨k1,a,b,n⟩:=C.o.ll z e;exact⟨k1,a,b,n.step l (C.yB (.inl (.inr ⟨z,b⟩))) λq=>(h _ q).1 (.inr ⟨z,b⟩)⟩
 ·exact eH C.d λvals n e r=>(dh vals n (l.e.keep D _ e (cK C.fd.hi) λq=>nw D q rfl) (r.mono l.sub))
theorem gB.le(C:gB F D x σ ys)(l:Le x y):gB F D y σ ys:=C.step (W:=λ_=>False) (g:=0) l.st λ_ q=>q.elim
theorem gB.bound(C:gB F D x σ ys)(B:Eb F x σ' y):gB F D y σ' ys:=
 ⟨B.v,B.o,by refine eH C.d λvals n e r=>?_;exact(dh vals n ((B.w 0).e.keep D _ e (cK C.fd.hi) λq=>C.nd (m9 q)) (r.mono (B.w 0).sub)),(B.w 0).free C.fd,C.nd⟩
theorem gB.append{E:ac->ag->Prop}{Q:ac->ag->Prop}(C:gB F D x σ ys)(r:Rd p x v)(hz:ys.length<az)(h:∀y,gB F D y σ (ys++[p])->cH (Zn F D) x y->Q .none y.s):ai (ah pw c.w) A.A (bC (.builtin "list.append") [.ref D,v]) Q E x.s:=by
 refine eH C.d λvals n e rl=>Ku (items:=vals.toArray) (hsz:=l4 (us:=[]) (m:=[]) rl (cy hz) (r':=.nil) rfl) ⟨n,e⟩ λh' hp hs=>?_;have nc:∀o,x.s.heap.get? D=some o->¬(o.cls=.type "code"/\∃vs,o.data=.fields vs):=λo e' k=>by
  obtain⟨_,vs,q⟩:=k;rw[<-ay (e.symm.trans e')] at q;injection q
 have w:Wr (Zn F D) x.s.gens.size x (x.but (t:=x.s.toks) hs C.fd nc):=.but (.inr rfl);have kv:∀b o,dm F.env b->x.s.heap.get? b=some o->h'.get? b=some o:=λb o q e'=>(hs.2 b λz=>C.nd (z▸q)).trans e';refine dL hp λn' hp=>h (x.but (t:=x.s.toks) hs C.fd nc) ⟨C.v.keep kv λ_ _ e=>e,C.o.keep C.v.cU kv λb _ n _=>w.free n,(dh (vals++[v]) n' (?_) (aR.append (.cons r .nil) rl)),w.free C.fd,C.nd⟩ w.st;show h'.get? D=_;erw[hp];rw[bu];congr;simp
def Ph(A:Am d)(c:Cx)(F:Fm)(D:ao)(σ:bj)(ys here:List PV)(t:Sem Unit):Prop:=
 ∀(x:Pt c) Q E,gB F D x σ ys->(∀y,cH (Zn F D) x y->gB F D y σ (ys++here)->Q () y.s)->ai (ah pw c.w) A.A t Q E x.s
def ac6(A:Am d)(c:Cx)(F:Fm)(D:ao)(co:Code)(I:ao)(g:Nat)(σ:bj)(src ys out:List PV):Prop:=
 ∀(x:Pt c) (K:ao->Prop) (R:mL->ag->Prop),dM d I g src K x->(∀b,K b->¬dm F.env b/\b≠D)->g<=x.s.gens.size->gB F D x σ ys->
  (∀y,br (λb=>Zn F D b\/K b) g x y->gB F D y σ (ys++out)->R (.ok .next) y.s)->eO (ah pw c.w) A.A co R x.s
theorem Sj(S:aW c d Ip){cl:jL}{body:bj->Option (List PV)}(hg:gens[k]?=some cl)(h0:cl.is_async=0)(hn:∀g,gens[k+1]?=some g->g.is_async=0)
(hb:∀{σ ys here},body σ=some here->ys.length+here.length<=az->Ph A c F D σ ys here (yx elt gens sc pos k (.ref D) F.env)):
  ∀{src ys out:List PV},qA body (Ip.t F.nm) F.nm cl.target cl.ifs σ src=some out->ys.length+out.length<=az->ac6 A c F D (.compLoop (.ListComp elt gens sc pos) k (.ref I) (.ref D) F.env) I g σ src ys out:=by
 have Gr:∀{R:mL->ag->Prop} {x:Pt c},ai (ah pw c.w) A.A (Cm (.ListComp elt gens sc pos) k (.ref I) (.ref D) F.env) (λfin s'=>match fin with
   |.done f=>R (.ok f) s'|.again c'=>c'.quiet=true/\eO (ah pw c.w) A.A c' R s') No x.s->eO (ah pw c.w) A.A (.compLoop (.ListComp elt gens sc pos) k (.ref I) (.ref D) F.env) R x.s:=λ{R x} h=>by
  refine FG ?_;show ai _ A.A ((Cm (.ListComp elt gens sc pos) k (.ref I) (.ref D) F.env).onRaise (λx=>do noteFrame x F.env;theTreesLotGoes x)) _ _ x.s;exact wpAny_noted (cQ h (λ_ _ z=>z) λ_ _ z=>z.elim)
 intro src;induction src with
 |nil=>
  intro ys out h hz x K R i hK Lx C q;refine Gr ((compTurn_gen hg h0 hn).symm▸ae (jr (ae (i.done A λz st=>au (q z (st.weaken λ_=>.inr) ?_)))));cases ay h;exact(gO ys).symm▸C.step st hK
 |cons p src ih=>
  intro ys out h hz x K R i hK Lx C q;refine bE λgG hG=>aL h λhf h=>aj h λσ' ry h=>aj h λok hi h=>aj h λhr hh h=>aB (tE.mp h) λmore hm bZ=>?_;subst bZ;rw[da,<-fC] at hz;refine hG (Gr ((compTurn_gen hg h0 hn).symm▸ae (jr (ae (i.next A λv K' z r i' st up dn=>?_)))));have kG:∀b,K' b->¬dm F.env b/\b≠D:=λb q=>(dn b q).elim (hK b) λn=>⟨λw=>(C.yB (.inl w)).elim λo e=>nS (n.symm.trans e),λw=>(C.yB (.inr w)).elim λo e=>nS (n.symm.trans e)⟩;have nz:∀b,K' b->¬Zn F D b:=λb q w=>w.elim (λw=>(kG b q).1 (m9 w)) (kG b q).2;have Cz:=C.step st hK;refine ae (i'.go A (ae (RE ry Cz.v Cz.o r λy B=>?_)));have Cy:=Cz.bound B;have ahg:cH (Zn F D) z y:=(B.w _).st.weaken λ_=>.inl;have rest:∀{y},cH (Zn F D) z y->gB F D y σ' (ys++hr)->ai (ah pw c.w) A.A (again (.compLoop (.ListComp elt gens sc pos) k (.ref I) (.ref D) F.env)) (λfin s'=>match fin with
   |.done f=>R (.ok f) s'
   |.again c'=>c'.quiet=true/\eO (ah pw c.w) A.A c' R s') No y.s:=λ{y} L C=>
   au ⟨rfl,ih hm (by erw[da];exact hz) y K' R (i'.later (L.later i'.live nz)) kG (aq Lx (aq st.e.di L.e.di)) {C with v:=C.v.weaken λz p e=>Se ry hf e} λw sw Cw=>q w
    (((st.weaken λb q=>.inr (up b q)).trans (((L.lower (aq Lx st.e.di) (bf _)).weaken λ_=>.inl).trans sw)).shrink λb q=>q.elim (λq=>.inl (.inl q)) λq=>(dn b q).imp .inr id) (kx ..▸Cw)⟩
  refine ae (afQ S hi Cy.v _ _ λb' w l e=>?_);have e:b'=ok:=e;subst e;have Cw:=Cy.le l;have Uk:cH (Zn F D) z w:=ahg.trans l.st;cases b' with
  |false=>
   refine bE λgG hG=>?_;cases ay hh;exact hG (rest Uk ((gO ys).symm▸Cw))
  |true=>exact ae (hb hh (aq (cW _ _) hz) w _ _ Cw λu L Cu=>rest (Uk.trans L) Cu)
theorem OU{w:cO}{A:bh}{s:ag}{env:Env}{R:mL->ag->Prop}{it:ac}{acc:ac}{g:jL}(hg:gens[k]?=some g)(hs:g.is_async=0)
(h0:eO (ah pw w) A (.compLoop (.ListComp elt gens sc pos) k it acc env) R s)
(h:ai (ah pw w) A (gk it) (λvf s'=>eO (ah pw w) A (.compLoop (.ListComp elt gens sc pos) k vf acc env) R s') No s):
  eO (ah pw w) A (.compStart (.ListComp elt gens sc pos) k it acc env) R s:=by
 refine FG ?_;show ai _ _ ((Kv (.ListComp elt gens sc pos) k it acc env).onRaise (λx=>do noteFrame x env;standAt theWindowsPlace)) _ _ s;refine wpAny_notedAt (cQ (E:=No) ?_ (λ_ _ z=>z) (λ_ _ z=>z.elim));unfold Kv;rw[show(clausesOf (.ListComp elt gens sc pos))[k]?=some g from hg];simp only[Option.elim_some,hs,bne_self_eq_false,yW,if_false];show ai _ _ (ask>>=_) _ _ s;refine ae (oC (wpAny_ite ?_));split
 ·first
   |exact ae (au (au (FH rfl h0)))
   |exact au (FH rfl h0)
 ·refine ae (uV (ae (jr (ae (cQ h (λvf s' h'=>au (FH rfl h')) λ_ _ x=>x)))))
end
section
variable{z:Pt c}{v:ac}{p:PV}{K:ao->Prop}{g:Nat}{Ip:Ip}{gs:List jL}{k:Nat}
theorem OH{l r:List α}{a:α}(h:l.drop k=a::r):l[k]?=some a/\l.drop (k+1)=r:=⟨(List.head?_drop).symm.trans (af List.head? h),(List.tail_drop).symm.trans (af List.tail h)⟩
theorem drop_nil{l:List α}(h:l.drop k=[]):l[k]?=none:=(List.head?_drop).symm.trans (af List.head? h)
theorem Vc(S:aW c d Ip)(ov:Ov c d):∀{gs:List jL} {k:Nat},gens.drop (k+1)=gs->(∀g∈gs,g.is_async=0)->∀{σ:bj} {ys here:List PV},rH Ip F.nm elt gs σ=some here->ys.length+here.length<=az->Ph A c F D σ ys here (yx elt gens sc pos k (.ref D) F.env):=by
 intro gs;induction gs with
 |nil=>
  intro k hd _ σ ys here h hz x Q E C q;refine fH h λp hp e=>?_;subst e;unfold yx;exact aa (drop_nil hd) (ae (S.ev hp C.v _ _ λv y l r=>ae ((C.le l).append r hz λz Cz L=>au (q z (cH.trans l.st L) Cz))))
 |cons g gs ih=>
  intro k hd h0 σ ys here h hz x Q E C q;obtain⟨e1,e2⟩:=OH hd;refine aj h λv hv h=>aj h λsrc hs h=>?_;unfold yx;erw[e1];dsimp only;refine ae (S.ev hv C.v _ _ λu y l r=>ae (jr ?_));rw[AA (S.nZ hv)];refine aB (ov (A:=A) (ac2 hs) r) λxs Ly it=>?_;cases ay Ly;refine ae (au (ae (dO (it _ _ λz I K g' l' i hK Lz CM=>?_))));have Cz:=(C.le l).le l';have nz:∀b,K b->¬dm F.env b/\b≠D:=λb q=>⟨λw=>((C.le l).yB (.inl w)).elim λo e=>nS ((hK b q).symm.trans e),λw=>((C.le l).yB (.inr w)).elim λo e=>nS ((hK b q).symm.trans e)⟩;have hgx:x.s.gens.size<=g':=aq l.e.di Lz;have loop:=Sj (A:=A) (gens:=gens) (k:=k+1) (I:=I) (g:=g') (D:=D) (sc:=sc) (pos:=pos) (elt:=elt) S e1 (h0 g (.head _)) (λg' e=>by
   induction gs using bO with
   |nil=>exact nS ((drop_nil e2).symm.trans e)|cons LA gs=>exact ay ((OH e2).1.symm.trans e)▸h0 LA (.tail _ (.head _))) (ih e2 λg m=>h0 g (.tail _ m)) h hz z K (λr s'=>match r with|.ok f=>ai (ah pw c.w) A.A (pure ():Sem Unit) Q E s'|.error e=>cameBackBy (ah pw c.w) A.A F.env E e s') i nz CM Cz λw st Cw=>au (q w ((((l.trans l').st).trans (st.lower hgx CM)).shrink λb q=>q.imp id λq=>l.e.back (cK (i.live b q).1.hi) (hK b q)) Cw)
  exact ae (wpAny_runOwn (OU e1 (h0 g (.head _)) loop (i.self A loop)))
theorem HM{l:List (Str×α)}{z:Str}:l.lookup z=ak l z:=by
 induction l with
 |nil=>rfl
 |cons p r ih=>
  obtain⟨y,u⟩:=p;refine aa (vS) (aa (ih) ?_);show _=if y=z then some u else ak r z;by_cases e:y=z
  ·refine aa (iP e) (aa (iP e.symm) ?_);rfl
  ·refine aa (iN e) (aa (iN (gV e)) ?_);rfl
structure mj(x y:Pt c)(D:ao)(l:List PV):Prop where
 le:Le x y
 d:∃vals n,y.s.heap.get? D=some (bu vals n)/\bt l y vals
 len:l.length<=az
 fr:bV y D
 nw:x.s.heap.get? D=none
structure RW(x y:Pt c)(D C:ao):Prop where
 nw:x.s.heap.get? C=none
 ne:C≠D
 fr:bV y C
 ns:∃m,y.s.heap.Ns C m
theorem adR{β:Type}{k:List PV->Option β}{r:β}{T:Prop}(h:over p k=some r)(t:∀src,k src=some r->T):T:=by
 unfold over at h;cases e:p.Af with
 |some l=>rw[e] at h;exact t _ (xL h (B6 l))
 |none=>rw[e] at h;exact aj h λsrc _ h=>t src h
theorem yo(h:Fa Ip F.nm σ elt sc gens=some p):∃t it ifs gs l,gens=⟨t,it,ifs,0⟩::gs/\p=.list l:=by
 induction gens using bO with
 |nil=>exact nS h
 |cons g gs=>
  obtain⟨t,it,ifs,n⟩:=g;refine aL h λok h=>aj h λv hv h=>adR h λsrc h=>aj h λl _ h=>aL h λ_ h5=>?_;cases(show n=0 from ok.2.1);exact(MV t it ifs gs l rfl ((ay h5).symm))
theorem Dd{t iter:Expr}{ifs:List Expr}{l:List PV}{Gx:Pos}{use:Option (ac->Sem Unit)}{Q E:ac->ag->Prop}(S:aW c d Ip)(ov:Ov c d)(h:Fa Ip F.nm σ elt sc (⟨t,iter,ifs,0⟩::gs)=some (.list l))(X:bA F x σ)
(q:∀y D C,mj x y D l->RW x y D C->compPost (ah pw c.w) A.A E use Q (.ref D) C (.ok .next) y.s):ai (ah pw c.w) A.A (comprehension (.ListComp elt (⟨t,iter,ifs,0⟩::gs) sc pos) sc F.env Gx (newList []) false (eval iter F.env) use) Q E x.s:=by
 refine aL h λok h=>aj h λv hv h=>?_;have So:=HN ok.1;have h0:∀g∈gs,g.is_async=0:=λg m=>a5 (aX (b7 ok.2.2 g m)).1;refine wpAny_comprehension_free (e:=.ListComp elt (⟨t,iter,ifs,0⟩::gs) sc pos) (use:=use) (cl:=iV F.env sc.names []) rfl (AA (S.nZ hv) _) (Qa λz m e=>EH So z.1 (e▸m)) So.kind (λz m e=>HM.trans (So.one z.1 .local (e▸m))) (S.ev hv X _ _ λu ahM l₁ ahh=>aB (ov (A:=A) h ahh) λxs Ly it=>aj Ly λout hc LB=>aL LB λhz LB=>?_);cases ay LB;refine it _ _ λgH I K g' l₂ i hK Lz CM=>uW ?_;have ahi:bA F (gH.push (bu [] 0) gH.s.toks) σ:=((X.le l₁).le l₂).le (gH.cG _);refine K_ (x:=gH.push (bu [] 0) gH.s.toks) ahi So λG CN C Gw hce xc=>aa (hce) (aa (xc) ?_);have sz:(gH.push (bu [] 0) gH.s.toks).s.heap.objs.size=gH.s.heap.objs.size+1:=oA ..;have zw:Le gH CN:=(gH.cG _).trans C.le;have ahj:Le x CN:=(l₁.trans l₂).trans zw;have Ul:∀{b:ao},dm G.env b->(∃z,F.env.cells.lookup z=some b)\/gH.s.heap.objs.size<b:=λw=>(C.old _ w).imp id λl=>ba (i5 _) (aq (aD sz.symm) l);have cell:∀{b:ao} {y:Pt c},Le x y->(∃z,F.env.cells.lookup z=some b)->∃o,y.s.heap.get? b=some o:=λl e=>dL e λz e=>eH ((X.le l).cU z _ e) λv o e _=>⟨o,e⟩;have nK:∀b,K b->¬dm G.env b/\b≠gH.s.heap.objs.size:=λb q=>dL ((i.live b q).2) λo e=>⟨λw=>(Ul w).elim (λw=>(cell l₁ w).elim λo e=>nS ((hK b q).symm.trans e)) λl=>oD l (fB e),λw=>cV _ (w▸fB e)⟩;have fD:bV (gH.push (bu [] 0) gH.s.toks) gH.s.heap.objs.size:=by have f:=gH.free (bf _) (eV _);exact⟨f.f,f.h₀,f.hi⟩
 have Um:dM d I g' xs K CN:=i.later (cH.later (W:=λ_=>False) zw.st i.live λ_ _=>id);have Cv:gB G gH.s.heap.objs.size CN (lH sc σ) []:=⟨C.v,C.o,(dh ([]) 0 (C.le.e.keep _ _ (ft _ rfl) (gH.j0 (bf _))) .nil),
  fD.le C.le ⟨_,ft _ rfl⟩,λw=>(Ul w).elim (λw=>(cell (l₁.trans l₂) w).elim λo e=>cV _ (fB e)) (cV _)⟩
 have loop:=Sj (A:=A) (gens:=⟨t,iter,ifs,0⟩::gs) (k:=0) (I:=I) (g:=g') (D:=gH.s.heap.objs.size) (sc:=sc) (pos:=pos) (elt:=elt) S rfl rfl (λg e=>by
  induction gs using bO with
  |nil=>exact nS e|cons LA gs=>exact ay e▸h0 LA (.head _)) (Vc (F:=G) (gens:=⟨t,iter,ifs,0⟩::gs) (gs:=gs) S ov rfl h0) (C.nm.symm▸hc) (by erw[Cn];rw[f5];exact hz) CN K (compPost (ah pw c.w) A.A E use Q (.ref gH.s.heap.objs.size) G.env.locals)
  Um nK (aq CM zw.e.di) Cv λy st Cy=>by
   have fr:∀b,Zn G gH.s.heap.objs.size b\/K b->x.s.heap.get? b=none:=λb w=>w.elim (λw=>w.elim (λw=>((l₁.trans l₂).trans (gH.cG _)).e.back (qC (m9 w)) (C.new b w)) λw=>(l₁.trans l₂).e.back (cK fD.hi|>λh=>w▸h) (w▸eV _)) λw=>l₁.e.back (cK (i.live b w).1.hi) (hK b w);exact q y _ _ ⟨((ahj.st).trans (st.lower (aq l₁.e.di Lz) (aq CM zw.e.di))).le fr,Cy.d,hz,Cy.fd,fr _ (.inl (.inr rfl))⟩ ⟨fr _ (.inl (.inl (.inl rfl))),λe=>Cy.nd (.inl e.symm),Cy.o.own,Cy.o.ns⟩
 exact OU rfl rfl loop (Um.self A loop)
theorem mj.but{l:List PV}{C:ao}{h':am}(g:mj x y D l)(k:RW x y D C)(hs:dD C y.s.heap h'):∃z,mj x z D l/\z.s={y.s with heap:=h'}:=by
 refine dL k.ns λm ns=>?_;have w:Wr (λb=>b=C) x.s.gens.size y (y.but (t:=y.s.toks) hs k.fr (Ik ns)):=.but rfl;exact eH g.d λvals n e r=>(aA _ ⟨(g.le.st.trans w.st).le λb e=>e▸k.nw,(dh vals n ((hs.2 D k.ne.symm).trans e) r),g.len,w.free g.fr,g.nw⟩ rfl)
theorem mj.rd{l:List PV}{Q:ac->ag->Prop}(g:mj x y D l)(k:∀v z,Le x z->Rd (.list l) z v->Q v z.s):Q (.ref D) y.s:=eH g.d λvals n e r=>k (.ref D) (y.add D _ e (cK g.fr.hi)) (g.le.add e _ g.nw) (.list o5 (r.mono Pt.Bu) g.len)
theorem Xr(S:aW c d Ip)(ov:Ov c d)(h:Fa Ip F.nm σ elt sc gens=some p)(X:bA F x σ):aE A (eval (.ListComp elt gens sc pos) F.env) x (Rd p):=λQ E q=>by
 refine wa (yo h) λt it ifs gs l tI qe6=>?_;subst tI;subst qe6;rw[eval_ListComp];exact Dd (use:=none) S ov h X λy D C g k=>by
  obtain⟨m,ns⟩:=k.ns;exact(aA m ns (λh' hs=>by refine aB (g.but k hs) λz g' e=>?_;exact e▸g'.rd q))
end
end
section
variable{c:Cx}{x y:Pt c}{d:Nat}{A:Am d}{F:Fm}{σ:bj}{O:aK}{p q r:PV}{v u g:ac}{I:Ip}{e l t b:Expr}{es args:List Expr}{kws:List fj}{ls vs fp:List PV}{ks:List (Str×PV)}{pos:Pos}{z m:Str}{bo:Bool}
def qd(c:Cx)(d:Nat)(g:ac)(vs:List PV)(ks:List (Str×PV))(p:PV):Prop:=∀{A:Am d} {x:Pt c} {us kv},bt vs x us->bH c x.f kv ks->aE A (bC g us kv) x (Rd p)
structure b9(c:Cx)(O:aK)(d:Nat):Prop where
 fn:∀{z vs ks p},O.fn z vs ks=some p->∃g,de c.w.params z=some g/\pe c.w.params g/\qd c d g vs ks p
 bM:∀{k fs m vs ks p},O.bM k m (.inst k fs::vs) ks=some p->ak fs m=none->∃g,vZ (KL c.w.params) k m g=true/\qd c d (.ref g) (.inst k fs::vs) ks p
 AI:∀{k fs vs p},O.bM k "__call__" (.inst k fs::vs) []=some p->∀{A:Am d} {x:Pt c} {v us},Rd (.inst k fs) x v->bt vs x us->aE A (bC v us []) x (Rd p)
 attr:∀{k fs z p},O.attr k z (.inst k fs)=some p->ak fs z=none->∀{A:Am d} {x:Pt c} {v},Rd (.inst k fs) x v->aE A (uP v z true) x (Rd p)
 bin:∀{op k fs q p},O.bin op (.inst k fs) q=some p->∀{A:Am d} {x:Pt c} {v u},Rd (.inst k fs) x v->Rd q x u->aE A (mI op v u) x (Rd p)/\aE A (Kw op v u) x (Rd p)
 cmp:∀{op k fs q b},O.cmp op (.inst k fs) q=some b->∀{A:Am d} {x:Pt c} {v u},Rd (.inst k fs) x v->Rd q x u->aE A (jN op v u) x (Rd (.bool b))
 lt:∀{k fs q b},O.cmp .Lt (.inst k fs) q=some b->∃g,fN (KL c.w.params) (.ref k) "__lt__"=some (some (.ref g))/\ou (KL c.w.params) (.ref g)=true/\∀{A:Am d} {x:Pt c} {v u},Rd (.inst k fs) x v->Rd q x u->aE A (bC (.ref g) [v,u]) x (Rd (.bool b))
structure pH(c:Cx)(O:aK)(d:Nat):Prop where
 Nr:∀{A:Am d} {x:Pt c} {v u l m},Rd (.set l) x v->Rd (.set m) x u->aE A (mI .BitAnd v u) x (Rd (.set (l.filter λx=>m.contains x)))
 sum:∀{A:Am d} {x:Pt c} {v l i},qw l=some i->Rd (.list l) x v->aE A (bC (.builtin "sum") [v]) x (Rd (.int i))
 max:∀{A:Am d} {x:Pt c} {v l p},tY O l=some p->Rd (.list l) x v->aE A (bC (.builtin "max") [v]) x (Rd p)
 set:∀{A:Am d} {x:Pt c} {v p l},eG p setOf=some l->Rd p x v->aE A (bC (.type "set") [v]) x (Rd (.set l))
 inter:∀{A:Am d} {x:Pt c} {v u l m dW},qF m=some dW->Rd (.set l) x v->Rd (.list m) x u->aE A (bC (.builtin "set.intersection") [v,u]) x (Rd (.set (l.filter λx=>dW.contains (x:Int))))
 QI:∀{A:Am d} {x:Pt c} {v l pl} {Q:ac×List ac->ag->Prop} {E},Rd (.set l) x v->Q (.builtin "set.intersection",[v]) x.s->ai (ah pw c.w) A.A (Ce v "intersection" pl) Q E x.s
 join:∀{A:Am d} {x:Pt c} {v u z l r},J9 z l=some r->Rd (.str z) x v->Rd (.list l) x u->aE A (bC (.builtin "str.join") [v,u]) x (Rd (.str r))
section
variable{first:List ac}
theorem aa7{op:ia}{l:List PV}(rp:Rd (.list l) x v)(rq:Rd q x u)(h:Ql op l q=some r):aE A (mI op v u) x (Rd r):=by
 revert rq;by_cases e:op=.Add
 ·cases e;exact aj h λm e h=>aL h λz h=>oI h (pM e λrq=>add_list rp rq z)
 ·refine aL ((iN e).symm.trans h) λe h=>?_;cases e;exact aj h λj e h=>aL h λz h=>oI h (eu e λrq=>VQ rp rq z.1 z.2.1 z.2.2)
theorem acq{op:ia}(Or:b9 c O d)(Re:pH c O d)(h:fV O op p q=some r)(rp:Rd p x v)(rq:Rd q x u):aE A (mI op v u) x (Rd r):=by
 revert rq;induction p using dq with
 |int i=>exact aj h λj e h=>eu e λrq=>acG h rp rq|list l=>exact λrq=>aa7 rp rq h|tup l=>exact aL h λo h=>aj h λm e h=>aL h λz h=>oI h (JT e λrq=>o▸abV rp rq z)|str s=>exact aL h λo h=>aj h λm e h=>aL h λz h=>oI h (AZ e λrq=>o▸add_str rp rq z)|set l=>exact aL h λo h=>fG h λm e=>adK e λrq=>o▸Re.Nr rp rq|inst k fs=>exact λrq=>(Or.bin h rp rq).1|_=>exact nS h
theorem GN{op:iF}{o:Option Bool}(Or:b9 c O d)(h:Ay O op p q o=some bo)(rp:Rd p x v)(rq:Rd q x u)(K:o=some bo->aE A (jN op v u) x (Rd (.bool bo))):aE A (jN op v u) x (Rd (.bool bo)):=by
 induction p using dq with
 |inst k fs=>exact Or.cmp h rp rq|_=>exact K h
theorem acW{op:iF}(Or:b9 c O d)(h:fe O op p q=some bo)(rp:Rd p x v)(rq:Rd q x u):aE A (jN op v u) x (Rd (.bool bo)):=by
 cases op with
 |Eq=>exact GN Or h rp rq λh=>ZH h rp rq|NotEq=>exact fH h λb h e=>e▸ad3 h rp rq|Lt=>exact DM h rp rq λq=>lt_int q|LtE=>exact DM h rp rq λq=>le_int q|Gt=>exact GN Or h rp rq λh=>DM h rp rq λq=>gt_int q|GtE=>exact GN Or h rp rq λh=>DM h rp rq λq=>ge_int q|Is=>exact(Q9 h rp rq).1|IsNot=>exact fH h λb h e=>e▸(Q9 h rp rq).2|In=>exact(OC h rp rq).1|NotIn=>exact fH h λb h e=>e▸(OC h rp rq).2
@[elab_as_elim] theorem qS{α:Type}{l:List α}{a:α}{m:List α->Prop}(h:oM l=some a)(K:m [a]):m l:=by
 cases l with
 |nil=>exact nS h
 |cons b l=>induction l using bO with
  |nil=>exact ay h▸K|cons=>exact nS h
@[elab_as_elim] theorem xB{α:Type}{l:List α}{a:α×α}{m:List α->Prop}(h:qJ l=some a)(K:m [a.1,a.2]):m l:=by
 induction l using bO with
 |nil=>exact nS h
 |cons b l=>induction l using bO with
  |nil=>exact nS h
  |cons b' l=>induction l using bO with
   |nil=>cases ay h;exact K
   |cons=>exact nS h
theorem rK{α β:Type}{l:List α}{o:Option β}{b:β}{P:Prop}(h:(if l.isEmpty=true then o else none)=some b)(K:l=[]->o=some b->P):P:=aL h λe h=>K (jI e) h
theorem p5(h:lP vs ks=some p)(K:∀{A:Am d} {x:Pt c} {v},Rd p x v->aE A (bC g [v]) x (Rd q)):qd c d g vs ks q:=by
 refine rK h λe h=>?_;subst e;exact qS h λrl rk=>eB rl λr rl=>i0 rl (rT rk (K r))
theorem GS{p:PV×PV}(h:RU vs ks=some p)(K:∀{A:Am d} {x:Pt c} {v u},Rd p.1 x v->Rd p.2 x u->aE A (bC g [v,u]) x (Rd q)):qd c d g vs ks q:=by
 refine rK h λe h=>?_;subst e;exact xB h λrl rk=>eB rl λr rl=>eB rl λr' rl=>i0 rl (rT rk (K r r'))
theorem sS(P:cD):de P "len"=some (.builtin "len")/\de P "range"=some (.type "range")/\de P "sum"=some (.builtin "sum")/\de P "max"=some (.builtin "max")/\de P "abs"=some (.builtin "abs")/\
  de P "str"=some (.type "str")/\de P "set"=some (.type "set")/\de P "list"=some (.type "list"):=
 ⟨⋯,⋯,⋯,⋯,⋯,⋯,⋯,⋯⟩
def Eo(c:Cx)(d:Nat)(z:Str)(vs:List PV)(ks:List (Str×PV))(p:PV):Prop:=∃g,de c.w.params z=some g/\pe c.w.params g/\qd c d g vs ks p
theorem DZ{z:Str}{id:String}(e:de c.w.params z=some (.builtin id))(k:qd c d (.builtin id) vs ks p):Eo c d z vs ks p:=(cz _ e (.inl ⟨_,rfl⟩) k)
theorem yj{z:Str}{id:String}(e:de c.w.params z=some (.type id))(k:qd c d (.type id) vs ks p):Eo c d z vs ks p:=(cz _ e (.inr (.inl ⟨_,rfl⟩)) k)
theorem d3{α:Type}{c:Prop}[Decidable c]{P:Prop}{a b r:α}(h:(if c then a else b)=r)(k1:c->a=r->P)(k2:¬c->b=r->P):P:=by
 by_cases q:c
 ·exact k1 q ((iP q).symm.trans h)
 ·exact k2 q ((iN q).symm.trans h)
theorem Z9(Or:b9 c O d)(h1:lP vs ks=some q)(h:I5 O q=some p):Eo c d "len" vs ks p:=by
 by_cases i:q.pJ=true
 ·induction q using dq with
  |inst k fs=>
   exact cP (Or.fn h) λg a b k=>(cz g a b (p5 h1 λr=>k (.cons r .nil) .nil))
  |_=>injection i
 ·exact DZ (sS _).1 (p5 h1 (aad h (m8 i)))
theorem ae0(Or:b9 c O d)(Re:pH c O d)(h:nV O z vs ks=some p):Eo c d z vs ks p:=by
 refine d3 h (λe h=>e▸aj h λq h1 h=>Z9 Or h1 h) λ_ h=>d3 h (λe h=>e▸ ?_) λ_ h=>d3 h (λe h=>e▸aj h λq h1 h=>aj h λl e h=>fG h λi h2=>DZ (sS _).2.2.1 (p5 h1 λr=>Re.sum h2 (pM (m:=λq=>Rd q _ _->Rd (.list l) _ _) e id r)))
  λ_ h=>d3 h (λe h=>e▸aj h λq h1 h=>aj h λl e h=>DZ (sS _).2.2.2.1 (p5 h1 λr=>Re.max h (pM (m:=λq=>Rd q _ _->Rd (.list l) _ _) e id r)))
  λ_ h=>d3 h (λe h=>e▸aj h λq h1 h=>fG h λi e=>DZ (sS _).2.2.2.2.1 (p5 h1 λr=>Ye (eu (m:=λq=>Rd q _ _->Rd (.int i) _ _) e id r)))
  λ_ h=>d3 h (λe h=>e▸aj h λq h1 h=>fG h λi e=>yj (E8 _) (p5 h1 λr=>aev (eu (m:=λq=>Rd q _ _->Rd (.int i) _ _) e id r)))
  λ_ h=>d3 h (λe h=>e▸aj h λq h1 h=>aj h λi e h=>aL h λz h=>oI h (yj (sS _).2.2.2.2.2.1 (p5 h1 λr=>Y_ z (eu (m:=λq=>Rd q _ _->Rd (.int i) _ _) e id r))))
  λ_ h=>d3 h (λe h=>e▸aj h λq h1 h=>fG h λl h2=>yj (sS _).2.2.2.2.2.2.1 (p5 h1 λr=>Re.set h2 r))
  λ_ h=>d3 h (λe h=>e▸aj h λq h1 h=>fZ h λi h=>aj h λl h2 h=>aL h λz h=>oI h (yj (sS _).2.2.2.2.2.2.2 (p5 h1 λr=>Ν (m8 i) h2 z r)))
  λ_ h=>Or.fn h
 exact d3 h (λ_ h=>aj h λq h1 h=>aj h λj e h=>yj (sS _).2.1 (p5 h1 λr=>ZK h (eu (m:=λq=>Rd q _ _->Rd (.int j) _ _) e id r)))
  λ_ h=>aj h λq h1 h=>aj h λi e h=>aj h λj e' h=>yj (sS _).2.1 (GS h1 λr r'=>Yx h (eu (m:=λq=>Rd q _ _->Rd (.int i) _ _) e id r) (eu (m:=λq=>Rd q _ _->Rd (.int j) _ _) e' id r'))
theorem rM(S:aW c d I):∀{es:List Expr} {ls:List PV},iR (I.e F.nm σ) es=some ls->(∀e∈es,iC e=false)/\∀{x:Pt c},bA F x σ->aE A (oq (ot pos (lE es F.env))) x (bt ls):=by
 intro es;induction es with
 |nil=>exact λh=>oI h ⟨nofun,λX Q E k=>SR (k _ _ (.refl _) .nil)⟩
 |cons e es ih=>
  intro ls h;refine aj h λv h1 h=>fG h λvs h2=>?_;have i:=ih h2;have s:=Ax (S.nZ h1);exact⟨λe' m=>(bw m).elim (λq=>q▸s) (i.1 e'),λX Q E k=>wpAny_items_cons (S.ev h1 X _ _ λu y l r=>i.2 (X.le l) _ _ λus z l' r'=>k _ z (l.trans l') (.cons (r.mono l'.sub) r')) (RK s)⟩
def Jy(A:Am d)(kws:List (Option Str×Sem ac))(x:Pt c)(ks:List (Str×PV)):Prop:=aE A (evalAll (kws.map (·.2))) x λy us=>bH c y.f ((kws.filterMap (·.1)).zip us) ks
theorem EX(S:aW c d I):∀{kws:List fj} {ks:List (Str×PV)},rO (I.e F.nm σ) kws=some ks->(Ft F.env pos kws).all (·.1.isSome)=true/\∀{x:Pt c},bA F x σ->Jy A (Ft F.env pos kws) x ks:=by
 intro kws;induction kws with
 |nil=>exact λh=>oI h ⟨rfl,λX Q E k=>uR (k _ _ (.refl _) .nil)⟩
 |cons k kws ih=>
  obtain⟨a,e,ps⟩:=k;intro ks h;refine aj h λa' ha h=>aj h λv h1 h=>fG h λvs h2=>?_;cases(show a=some a' from ha);have i:=ih h2;exact⟨i.1,λX Q E k=>wpAny_evalAll_cons (ae (S.ev h1 X _ _ λu y l r=>ae (jr (au (i.2 (X.le l) _ _ λus z l' r'=>k _ z (l.trans l') (.cons (r.mono l'.sub) r'))))))⟩
theorem Du{args:List (Bool×Sem ac)}{kws:List (Option Str×Sem ac)}(rf:bt fp x first)(ha:args.any (·.1)=false)(hk:kws.all (·.1.isSome)=true)(kp:pe c.w.params g)(C:qd c d g (fp++vs) ks q)
(each:aE A (oq args) x (bt vs))(kw:∀y,Le x y->Jy A kws y ks):aE A (wO pos g first args kws) x (Rd q):=λQ E k=>
 sQ ha hk kp (each _ _ λus y l r=>kw y l _ _ λws z l' r'=>⟨z.cT,C (aR.append (r.mono l'.sub) (rf.mono (l.trans l').sub)) r' _ _ λu w xd=>k u w ((l.trans l').trans xd)⟩)
theorem Ϡ{pl:Sem Bool}{args:List (Bool×Sem ac)}{kws:List (Option Str×Sem ac)}(Or:b9 c O d)(Re:pH c O d)(r:Rd p x v)(h:IV O m p vs ks=some q)(ha:args.any (·.1)=false)(hk:kws.all (·.1.isSome)=true)
(each:aE A (oq args) x (bt vs))(kw:∀y,Le x y->Jy A kws y ks){Q E}(k:∀v y,Le x y->Rd q y v->Q v y.s):ai (ah pw c.w) A.A (Ce v m pl) (λfx fQ=>ai (ah pw c.w) A.A (wO pos fx.1 fx.2 args kws) Q E fQ) E x.s:=by
 revert k;induction p using dq with
 |inst c fs=>
  intro k;refine aL h λe h=>?_;have e:=Gl.mp e;exact aB (Or.bM h e) λg hm C=>Vg hm e r (Du (fp:=[.inst c fs]) (.cons r .nil) ha hk (.inr (.inr (Q7 hm))) C each kw Q E k)
 |set l=>exact aL h λe h=>e▸aj h λp' h1 h=>aj h λl' e h=>fG h λdW h2 k=>Re.QI r (Du (fp:=[.set l]) (.cons r .nil) ha hk (.inl ⟨_,rfl⟩) (GS (p:=(.set l,p')) (rK h1 λe h=>e▸qS h rfl) λr r'=>Re.inter h2 r (pM (m:=λq=>Rd q _ _->Rd (.list l') _ _) e id r')) each kw Q E k)|str s=>exact aL h λe h=>e▸aj h λp' h1 h=>aj h λl' e h=>fG h λw h2 k=>je r λt=>GM.join (Du (fp:=[.str s]) (.cons .str .nil) ha hk (.inl ⟨_,rfl⟩) (GS (p:=(.str s,p')) (rK h1 λe h=>e▸qS h rfl) λr r'=>Re.join h2 r (pM (m:=λq=>Rd q _ _->Rd (.list l') _ _) e id r')) each kw Q E k)|_=>exact nS h
theorem Zw(Or:b9 c O d)(h:I6 O z p=some q)(r:Rd p x v):aE A (uP v z true) x (Rd q):=by
 induction p using dq with
 |inst k fs=>
  have h:(match ak fs z with
   |some v=>if vR.contains (k,z)=true/\v.iQ=false then some v else none
   |none=>match Ad k z with
    |some v=>some v|none=>O.attr k z (.inst k fs))=some q:=h
  cases e:ak fs z with
  |some v=>rw[e] at h;exact aL h λc h=>ada (e.trans h) (c.1) (ay h▸c.2) r
  |none=>
   rw[e] at h;dsimp only at h;cases e':Ad k z with
   |some v=>rw[e'] at h;exact Xp (e'.trans h) e r
   |none=>rw[e'] at h;exact Or.attr h e r
 |_=>exact nS h
end
structure BD(c:Cx)(O:aK)(d:Nat)(I J:Ip):Prop where
 Rb:∀{A:Am d} {x:Pt c} {F:Fm} {σ:bj} {z e np pos p},ak F.nm z=some .globalImplicit->(z=("all":Str)\/z=("any":Str))->vA O I J F.nm σ true (xY (z==("all":Str))) e=some p->bA F x σ->aE A (eval (.Call (.Name z np) [e] [] pos) F.env) x (Rd p)
 Nq:∀{A:Am d} {x:Pt c} {F:Fm} {σ:bj} {e np pos p kws},ak F.nm ("sorted":Str)=some .globalImplicit->vA O I J F.nm σ false (λvs=>eC O F.nm vs kws) e=some p->bA F x σ->aE A (eval (.Call (.Name "sorted" np) [e] kws pos) F.env) x (Rd p)
 PF:∀{A:Am d} {x:Pt c} {F:Fm} {σ:bj} {e np pos v p kws},ak F.nm ("sorted":Str)=some .globalImplicit->I.e F.nm σ e=some v->(eG v λl=>eC O F.nm l kws)=some p->bA F x σ->aE A (eval (.Call (.Name "sorted" np) [e] kws pos) F.env) x (Rd p)
section
variable{J:Ip}{o i:Expr}{np ap:Pos}{k:Nat}
theorem aes{cn:Const}(h:Rv cn=some p):aE A (eval (.Constant cn k pos) F.env) x (Rd p):=by
 cases cn with
 |none=>exact oI h λQ E K=>wpAny_Constant_none (k_here K .none)|bool=>exact oI h λQ E K=>wpAny_Constant_bool (k_here K .bool)|int=>exact oI h λQ E K=>SU (jC K .int)|str=>exact oI h λQ E K=>SV (jC K .str)|_=>exact nS h
theorem nj{Q E}(X:ak F.nm z=some .globalImplicit)(h:de c.w.params z=some v)(hd:z≠("__debug__":Str))(x:Pt c)(k:Q v x.s):ai (ah pw c.w) A.A (eval (.Name z pos) F.env) Q E x.s:=Co (NH F x (F.names z X) h k) (kH hd)
theorem RH(h:HA F.nm σ z=some p)(X:bA F x σ):aE A (eval (.Name z pos) F.env) x (Rd p):=λQ E K=>fZ h λhd h=>d3 h (λe h=>by
  obtain⟨v,e1,r⟩:=ϫ (x:=x) h;exact nj e e1 hd x (k_here K r)) λ_ h=>by
  obtain⟨v,V,r⟩:=X.var z p h;exact Co (Az F V (k_here K r)) (kH hd)
theorem YS{op:ia}(S:aW c d I)(Or:b9 c O d)(Re:pH c O d)(h:((I.e F.nm σ l).bind λa=>(I.e F.nm σ e).bind λb=>fV O op a b)=some p)(X:bA F x σ):aE A (eval (.BinOp l op e pos) F.env) x (Rd p):=λQ E K=>
 aj h λ_ h1 h=>aj h λ_ h2 h=>wpAny_BinOp (S.ev h1 X _ _ λ_ _ l r=>S.ev h2 (X.le l) _ _ λ_ _ l' r'=>(acq Or Re h (r.mono l'.sub) r').from (l.trans l') K)
theorem a_(S:aW c d I)(h:((I.t F.nm σ t).bind λr=>if r=true then I.e F.nm σ b else I.e F.nm σ e)=some p)(X:bA F x σ):aE A (eval (.IfExp t b e pos) F.env) x (Rd p):=λQ E K=>
 aj h λr h1 h=>(arm_eval_IfExp ..).symm▸ae (S.te h1 X _ _ λr' y l q=>by
  have q:r'=r:=q;subst q;cases r' with
  |false=>exact(S.ev h (X.le l)).from l K|true=>exact(S.ev h (X.le l)).from l K)
theorem NU{rs:List Expr}{ops:List iF}{Q E}(S:aW c d I)(Or:b9 c O d)(h:Dt O (I.e F.nm σ) l ops rs=some bo)(X:bA F x σ)(K:∀y,Le x y->Q (.bool bo) y.s):
  ∃op r,ops=[op]/\rs=[r]/\behindInMarks op r=false/\ai (ah pw c.w) A.A (eval l F.env) (λa bJ=>ai (ah pw c.w) A.A (eval r F.env) (λb fQ=>ai (ah pw c.w) A.A (jN op a b) Q E fQ) E bJ) E x.s:=by
 exact aj h λop e1 h=>aj h λr e2 h=>aj h λa h1 h=>aj h λb h2 h=>(tL op r (qS e1 rfl) (qS e2 rfl) (YK (S.nZ h2)) (S.ev h1 X _ _ λu y l r=>S.ev h2 (X.le l) _ _ λv z l' r'=>acW Or h (r.mono l'.sub) r' _ _ λw y xd q=>(q:w=.bool bo)▸K y ((l.trans l').trans xd)))
theorem aeW{rs:List Expr}{ops:List iF}(S:aW c d I)(Or:b9 c O d)(h:Dt O (I.e F.nm σ) l ops rs=some bo)(X:bA F x σ):aE A (eval (.Compare l ops rs pos) F.env) x (Rd (.bool bo)):=λQ E K=>by
 refine DN (NU (A:=A) (E:=E) S Or h X λy l=>K _ y l .bool) λop r bZ c4 hm w=>?_;subst bZ;subst c4;exact wpAny_Compare1 w hm
theorem XE(S:aW c d I)(h:(iR (I.e F.nm σ) es).bind (oZ .list)=some p)(X:bA F x σ):aE A (eval (.List es pos) F.env) x (Rd p):=λQ E K=>
 aj h λl h1 h=>aL h λz h=>wpAny_List ((rM S h1).2 X _ _ λus y le r=>⟨l4 (us:=[]) (m:=[]) r z (r':=.nil) rfl,ti (t:=y.s.toks) (λv w l' q=>K v w (le.trans l') q) rfl (ay h▸DV r z)⟩)
theorem ae6(S:aW c d I)(h:(iR (I.e F.nm σ) es).bind (oZ .tup)=some p)(X:bA F x σ):aE A (eval (.Tuple es k pos) F.env) x (Rd p):=λQ E K=>
 aj h λl h1 h=>aL h λz h=>wpAny_Tuple ((rM S h1).2 X _ _ λus y le r=>⟨l4 (us:=[]) (m:=[]) r z (r':=.nil) rfl,ti (t:=y.s.toks) (λv w l' q=>K v w (le.trans l') q) rfl (ay h▸Qx r z)⟩)
theorem aa3(S:aW c d I)(Or:b9 c O d)(h:(if tN o=true then none else(I.e F.nm σ o).bind (I6 O z))=some p)(X:bA F x σ):aE A (eval (.Attribute o z pos) F.env) x (Rd p):=λQ E K=>
 fZ h λhb h=>aj h λa h1 h=>H3 (m8 hb) (S.ev h1 X _ _ λu y l r=>(Zw Or h r).from l K)
theorem N1{eo:Option Expr}{zo:Option Int}(S:aW c d I)(h:J' (I.e F.nm σ) eo=some zo)(X:bA F x σ):aE A (valueOrNone (evalOpt eo F.env)) x λ_ v=>IsPart v zo:=by
 induction eo using qy with
 |none=>exact oI h λQ E K=>au (K _ _ (.refl _) .none)|some e=>exact aj h λv h1 h=>fG h λi e=>λQ E K=>S.ev h1 X _ _ λu y l r=>K u y l (bU (eu (m:=λq=>Rd q y u->Rd (.int i) y u) e id r) λ_=>.int _ _)
theorem Vt(S:aW c d I)(h:((I.e F.nm σ o).bind λa=>Q8 (I.e F.nm σ) a i)=some p)(X:bA F x σ):aE A (eval (.Subscript o i pos) F.env) x (Rd p):=λQ E K=>by
 refine aj h λa h1 h=>Subscript_ (S.ev h1 X _ _ λu y l r=>?_);have plain:(I.e F.nm σ i).bind (bQ a)=some p->ai (ah pw c.w) A.A (eval i F.env) (λi_1 fQ=>ai (ah pw c.w) A.A (Fx o i u i_1) Q E fQ) E y.s:=λh=>
  aj h λb h2 h=>S.ev h2 (X.le l) _ _ λw z l' r'=>(XI h (r.mono l'.sub) r').2.from (l.trans l') K
 induction i using ej with
 |Slice lo hi st pp=>
  refine bE λgG hG=>aL h λe h=>aj h λzl h2 h=>aj h λzu h3 h4=>aB (tE.mp h4) λl' e' bZ=>?_;subst bZ;cases Gl.mp e;refine hG ?_;rw[arm_eval_Slice];exact ae (N1 S h2 (X.le l) _ _ λvl ahN l₂ ahk=>ae (dO (N1 S h3 ((X.le l).le l₂) _ _ λvu LC Un ahl=>ae (dO (au (uW (aco (A:=A) (pM (m:=λq=>Rd q LC u->Rd (.list l') LC u) e' id ((r.mono l₂.sub).mono Un.sub)) ahk ahl _ _ λv w zw q=>K v w (((l.trans l₂).trans Un).trans ((LC.cG _).trans zw)) q)))))))
 |_=>exact plain h
theorem abo(S:aW c d I)(Or:b9 c O d)(Re:pH c O d)(h:(if tN o=true\/ap.endLine≠pos.line\/20<args.length+kws.length then none else(I.e F.nm σ o).bind λv=>(iR (I.e F.nm σ) args).bind λvs=>(rO (I.e F.nm σ) kws).bind λks=>IV O m v vs ks)=some p)(X:bA F x σ):aE A (eval (.Call (.Attribute o m ap) args kws pos) F.env) x (Rd p):=λQ E K=>
 fZ h λn h=>aj h λov h1 h=>aj h λvs h2 h=>aj h λks h3 h=>by
  have ea:=rM (A:=A) (pos:=pos) S h2;have ka:=EX (A:=A) (pos:=pos) S h3;exact G6 (m8 λq=>n (.inl q)) (agd λq=>n (.inr (.inl q))) ea.1 ka.1 (cZ λq=>n (.inr (.inr q))) (S.ev h1 X _ _ λu y l r=>λpl=>Ϡ Or Re r h (lq ea.1) ka.1 (ea.2 (X.le l)) (λz l'=>ka.2 ((X.le l).le l')) λv z m=>K v z (l.trans m))
theorem abe(S:aW c d I)(Or:b9 c O d)(Re:pH c O d)(hk:ak F.nm z=some .globalImplicit)(hd:z≠("__debug__":Str))(h2:iR (I.e F.nm σ) args=some vs)(h3:rO (I.e F.nm σ) kws=some ks)(h4:nV O z vs ks=some p)(X:bA F x σ):aE A (eval (.Call (.Name z np) args kws pos) F.env) x (Rd p):=λQ E K=>by
 refine cP (ae0 (d:=d) Or Re h4) λg hg kp C=>?_;have ea:=rM (A:=A) (pos:=pos) S h2;have ka:=EX (A:=A) (pos:=pos) S h3;exact wR (nj hk hg hd x (Du (fp:=[]) .nil (lq ea.1) ka.1 kp C (ea.2 X) (λy l=>ka.2 (X.le l)) Q E K))
theorem Xb(S:aW c d I)(Or:b9 c O d)(hd:z≠("__debug__":Str))(h2:iR (I.e F.nm σ) args=some vs)(h3:ak σ z=some q)(h4:M2 O vs q=some p)(X:bA F x σ):aE A (eval (.Call (.Name z np) args [] pos) F.env) x (Rd p):=λQ E K=>by
 have ea:=rM (A:=A) (pos:=pos) S h2;refine aB (X.var z q h3) λv V r=>?_;induction q using dq with
 |inst k fs=>
  have key:∀{v},Rd (.inst k fs) x v->ai (ah pw c.w) A.A (wO pos v [] (ot pos (lE args F.env)) []) Q E x.s:=λr=>
   rL (m:=λv=>Rd (.inst k fs) x v->ai (ah pw c.w) A.A (wO pos v [] (ot pos (lE args F.env)) []) Q E x.s) r (λ{a dx n es vs} h _ _ _ r=>afU (o:=lV k dx) (lq ea.1) (ea.2 X _ _ λus y l r'=>⟨⟨y.hs _ _ (l.sub _ _ h),rfl⟩,(Or.AI h4 (r.mono l.sub) r').from l K⟩)) r
  exact wR (Co (Az F V (key r)) (kH hd))
 |_=>exact nS h4
theorem Yh(P:cD):de P "isinstance"=some (.builtin "isinstance"):=⋯
noncomputable def D5(z:Str):Bool:=z==("int":Str)||z==("Fraction":Str)||z==("Voter":Str)
theorem Il(P:cD)(h:D5 z=true):∃c,de P z=some c/\z≠("__debug__":Str):=by
 rcases mA h with h|h
 ·rcases mA h with h|h
  ·exact a5 h▸(aA _ (E8 P) (by decide))
  ·exact a5 h▸(aA _ (Iq P) (by decide))
 ·exact a5 h▸(aA _ (Pe P) (by decide))
theorem Pj{cs:Expr}(S:aW c d I)(hk:ak F.nm ("isinstance":Str)=some .globalImplicit)(h1:I.e F.nm σ e=some q)(hs:iC cs=false)(X:bA F x σ)
(K:∀{v} {y:Pt c} {Q:ac->ag->Prop} {E},Rd q y v->(∀u z,Le y z->aE A (bC (.builtin "isinstance") [v,u]) z (Rd p)->Q u z.s)->ai (ah pw c.w) A.A (eval cs F.env) Q E y.s):aE A (eval (.Call (.Name "isinstance" np) [e,cs] [] pos) F.env) x (Rd p):=λQ E k=>by
 have ns:∀e'∈[e,cs],iC e'=false:=λe' m=>(bw m).elim (λq=>q▸Ax (S.nZ h1)) λm=>cY m▸hs;exact wR (nj hk (Yh _) (by decide) x (sQ (lq ns) rfl (.inl ⟨_,rfl⟩) (aa (wq ns) (wS (S.ev h1 X _ _ λv y l r=>wS (K r λu z l' g=>Cp (uR ⟨z.cT,g.from (l.trans l') k⟩)))))))
theorem adP{Q:List ac->ag->Prop}{E}:∀{es:List Expr} {zs:List Str} {cs:List ac},es.mapM iB=some zs->(∀z∈zs,ak F.nm z=some .globalImplicit/\D5 z=true)->(zs.map λz=>de c.w.params z)=cs.map some->Q cs x.s->ai (ah pw c.w) A.A (oq (ot pos (lE es F.env))) Q E x.s:=by
 intro es;induction es generalizing Q with
 |nil=>
  intro zs cs h _ e q;cases ay h;exact SR (Ua.mp e.symm▸q)
 |cons e es ih=>
  intro zs cs h k g q;refine bE λgG hG=>?_;rw[qY] at h;refine aj h λz h1 h=>aj h λzs' h2 h=>?_;cases ay h;refine hG ?_;induction cs using bO with
  |nil=>injection g
  |cons g' cs=>
   injection g with g1 g2
   exact aB (Il c.w.params (k z (.head _)).2) λ_ _ hd=>BV (m:=λe=>ai _ A.A (oq (ot pos (lE (e::es) F.env))) Q E x.s) h1 λnp=>wpAny_items_cons (nj (k z (.head _)).1 g1 hd x (ih h2 (λz m=>k z (.tail _ m)) g2 q)) rfl
theorem ϟ(P:cD):∀{zs:List Str},(∀z∈zs,D5 z=true)->∃vs:List ac,(zs.map λz=>de P z)=vs.map some:=by
 intro zs;induction zs with
 |nil=>exact λ_=>⟨[],rfl⟩
 |cons z zs ih=>
  intro h;refine aB (Il P (h z (.head _))) λc e _=>?_;obtain⟨vs,e'⟩:=ih λy m=>h y (.tail _ m);exact⟨c::vs,by erw[oB];erw[oB];erw[e];erw[e'];rfl⟩
theorem VB{e cs:Expr}{zs:List Str}(S:aW c d I)(hk:ak F.nm ("isinstance":Str)=some .globalImplicit)(h1:I.e F.nm σ e=some q)(h2:Rc cs=some zs)(hc:Sh F.nm zs=true)(h3:iQ q zs=some bo)(X:bA F x σ):aE A (eval (.Call (.Name "isinstance" np) [e,cs] [] pos) F.env) x (Rd (.bool bo)):=by
 have hc:=aX hc;have hz:=cC hc.1;have ok:∀z∈zs,ak F.nm z=some .globalImplicit/\D5 z=true:=λz m=>(aX (b7 hc.2 z m)).imp a5 id;refine dL (ϟ c.w.params λz m=>(ok z m).2) λvs hv=>?_;induction cs using ej with
 |Name z zp=>
  refine bE λgG hG=>?_;cases ay h2;refine aB (Il c.w.params (ok z (.head _)).2) λg e1 hd=>?_;have h3:pJ q z=some bo:=aj h3 λb e h=>d3 h (λq h=>e.trans (af some (q.trans (ay h)))) λq h=>e.trans (af some ((m8 q).trans (ay h)));exact hG (Pj S hk h1 rfl X λr k=>nj (ok z (.head _)).1 e1 hd _ (k g _ (.refl _) (Wg r h3 e1)))
 |Tuple es n tp=>
  refine Pj S hk h1 rfl X λ{v y Q E} r k=>wpAny_Tuple (adP h2 ok hv ⟨?_,k _ (y.push (fW vs 0) y.s.toks) (y.cG _) (η r h3 (λe=>absurd hz.1 (by erw[e];decide)) hv (ft _ rfl))⟩);have:=af yO hv;rw[bi,bi] at this;exact aq (aq (aD this.symm) hz.2) (by decide)
 |_=>exact nS h2
theorem s_(S:aW c d I)(Or:b9 c O d)(Re:pH c O d)(G:BD c O d I J)(hk:ak F.nm z=some .globalImplicit)(hd:z≠("__debug__":Str))(h:RN O I J F.nm σ z args kws=some p)(X:bA F x σ):aE A (eval (.Call (.Name z np) args kws pos) F.env) x (Rd p):=by
 refine d3 h (λe h=>?_) λ_ h=>d3 h (λe h=>rK h λe' h=>e'▸aj h λa h1 h=>qS (m:=λargs=>aE A (eval (.Call (.Name z np) args [] pos) F.env) x (Rd p)) h1 (G.Rb hk e h X)) λ_ h=>d3 h (λe h=>?_) λ_ h=>
  aj h λvs h1 h=>aj h λks h2 h=>abe S Or Re hk hd h1 h2 h X
 ·subst e;exact rK h λe' h=>e'▸aj h λa h1 h=>aj h λv h2 h=>aj h λcs h3 h=>aL h λhc h=>fG h λb h4=>xB (m:=λargs=>aE A (eval (.Call (.Name "isinstance" np) args [] pos) F.env) x (Rd (.bool b))) h1 (VB S hk h2 h3 hc h4 X)
 ·subst e;exact aj h λa h1 h=>qS (m:=λargs=>aE A (eval (.Call (.Name "sorted" np) args kws pos) F.env) x (Rd p)) h1 (d3 h (λ_ h=>G.Nq hk h X) λ_ h=>aj h λv h1 h=>G.PF hk h1 h X)
theorem ab'{f:Expr}(S:aW c d I)(Or:b9 c O d)(Re:pH c O d)(G:BD c O d I J)(h:Om O I J F.nm σ args kws pos f=some p)(X:bA F x σ):aE A (eval (.Call f args kws pos) F.env) x (Rd p):=by
 induction f using ej with
 |Attribute o m ap=>exact abo S Or Re h X|Name z np=>exact fZ h λhd h=>d3 h (λhk h=>s_ S Or Re G hk hd h X) λ_ h=>aj h λvs h1 h=>aj h λq h2 h=>rK h λe h=>e▸Xb S Or hd h1 h2 h X|_=>exact nS h
theorem ab5(S:aW c d I){op:BoolOp}:∀{es:List Expr} {x:Pt c},Jk (I.e F.nm σ) (D1 op) es=some p->bA F x σ->aE A (boolOp pos op (evalEach es F.env)) x (Rd p):=by
 intro es;induction es with
 |nil=>exact λh=>nS h
 |cons e r ih=>
  intro x h X;refine aj h λv h1 h=>d3 h (λe h=>?_) λne h=>aj h λb e2 h=>?_
  ·refine bE λgG hG=>?_;cases jI e;exact hG (ay h▸S.ev h1 X)
  ·induction r using bO with
   |nil=>exact absurd rfl ne
   |cons e' r=>
    intro Q E K;show ai _ A.A (do
     let v<-eval e F.env
     standAt pos
     let t<-yV [v] (yM v)
     match op,t with
     |.And,false|.Or,true=>pure v|_,_=>boolOp pos op (evalEach (e'::r) F.env)) _ _ x.s
    refine ae (S.ev h1 X _ _ λu y l r'=>ae (jr (lW (m:=λu=>ai _ A.A (yV [u] (yM u)>>=λt=>match op,t with
     |.And,false|.Or,true=>pure u|_,_=>boolOp pos op (evalEach (e'::r) F.env)) Q E y.s) (E2 (m:=λq=>Rd q y u->Rd (.bool b) y u) e2 id r') (ae (dO (wM ?_))))))
    have g:=λh=>(ih h (X.le l)).from (E:=E) l K;cases op with
    |And=>induction b using ji with
     |false=>exact au (K _ y l (ay h▸ .bool))|true=>exact g h
    |Or=>induction b using ji with
     |false=>exact g h|true=>exact au (K _ y l (ay h▸ .bool))
theorem y_(S:aW c d I){op:BoolOp}:∀{es:List Expr} {x:Pt c},pZ (I.t F.nm σ) (D1 op) es=some bo->bA F x σ->aE A (allTrue op es F.env) x (Is bo):=by
 intro es;induction es with
 |nil=>intro x h X;cases op<;>exact oI h (.pure rfl)
 |cons e r ih=>
  intro x h X;refine aj h λb h1 h=>aE.bind (S.te h1 X) λb' y l q=>?_;have q:b'=b:=q;subst q;have g:=λh=>ih (x:=y) h (X.le l);cases op with
  |And=>cases b' with
   |false=>exact ay h▸ .pure rfl|true=>exact g h
  |Or=>cases b' with
   |false=>exact g h|true=>exact ay h▸ .pure rfl
theorem acr(S:aW c d I)(h:Qv I F.nm σ e=some bo)(X:bA F x σ):aE A (isTrue e F.env (eval e F.env)) x (Is bo):=λQ E K=>aL h λhp h=>aj h λv h1 h=>by
 have go:ai (ah pw c.w) A.A (eval e F.env) (λv bJ=>ai (ah pw c.w) A.A (yM v) Q E bJ) E x.s:=S.ev h1 X _ _ λu y l r=>(ZB h r).from l K;induction e using ej with
 |Name=>exact Kx go|Call=>exact Kx go|BinOp=>exact Kx go|Attribute=>exact Kx go|_=>injection hp
theorem afk(S:aW c d I)(Or:b9 c O d)(h:D8 O I F.nm σ e=some bo)(X:bA F x σ):aE A (isTrue e F.env (eval e F.env)) x (Is bo):=by
 induction e using ej with
 |UnaryOp op e ps=>
  exact aL h λo h=>fH h λb h e=>o▸λQ E K=>isTrue_not (S.te h X _ _ λb' y l q=>K _ y l (e▸af not q))
 |BoolOp op es ps=>exact λQ E K=>wpAny_isTrue_BoolOp (y_ S h X Q E K)
 |Compare l ops rs ps=>
  intro Q E K;refine DN (NU (A:=A) (E:=E) (Q:=λv s=>ai (ah pw c.w) A.A (yM v) Q E s) S Or h X λy l=>wM (K _ y l rfl)) λop r bZ c4 hm w=>?_;subst bZ;subst c4;exact wpAny_isTrue_Compare1 w hm
 |_=>exact acr S h X
theorem abj(S:aW c d I)(ov:Ov c d)(Or:b9 c O d)(Re:pH c O d)(G:BD c O d I J)(h:oU O I J F.nm σ e=some p)(X:bA F x σ):aE A (eval e F.env) x (Rd p):=by
 induction e using ej with
 |Constant=>exact aes h|Name=>exact RH h X|BinOp=>exact YS S Or Re h X|UnaryOp op e ps=>exact aL h λo h=>aj h λa h1 h=>o▸λQ E K=>wpAny_UnaryOp (S.ev h1 X _ _ λu y l r=>(X0 h r).from l K)|BoolOp op es ps=>exact(arm_eval_BoolOp ..).symm▸ab5 S h X|IfExp=>exact a_ S h X|Compare=>exact fG h λb h=>aeW S Or h X|List=>exact XE S h X|Tuple=>exact ae6 S h X|Attribute=>exact aa3 S Or h X
 |Dict ks vs ps=>
  refine aL h λe h=>?_;cases jI e.1;cases jI e.2;exact λQ E K=>wpAny_Dict_empty (ti (t:=x.s.toks) K rfl (ay h▸ .any))
 |ListComp=>exact Xr S ov h X|Subscript=>exact Vt S h X|Call=>exact ab' S Or Re G h X|_=>exact nS h
theorem U6{nm:aN}(S:aW c d I)(h:iR (I.e nm σ) es=some ls):∀e∈es,iC e=false:=by
 induction es generalizing ls with
 |nil=>exact nofun|cons e es ih=>exact aj h λv h1 h=>fH h λvs h2 _=>λe' m=>(bw m).elim (λq=>q▸Ax (S.nZ h1)) (ih h2 e')
structure GZ(c:Cx)(O:aK)(d:Nat):Prop where
 ov:Ov c d
 Qp:b9 c O d
 rest:pH c O d
 gen:∀n,aW c d (ip n O)->aW c d (ip n {O with gens:=false})->BD c O d (ip n O) (ip n {O with gens:=false})
theorem Jr{nm:aN}(h:oU O I J nm σ e=some p):qa e=true:=by
 cases e<;>first|rfl|exact nS h
theorem Pa:∀n {O:aK},GZ c O d->GZ c {O with gens:=false} d->aW c d (ip n O):=by
 intro n;induction n with
 |zero=>exact λ_ _=>⟨λh=>nS h,λh=>nS h,λh=>nS h,λh=>nS h,λh=>nS h⟩
 |succ n ih=>
  intro O L L';have S:=ih L L';exact⟨Jr,λh=>aj h λl h _=>U6 S h,λh=>aj h λl _ h=>aL h λ_ h=>⟨l,(ay h).symm⟩,abj S L.ov L.Qp L.rest (L.gen n S (ih L' L')),afk S L.Qp⟩
end
end
inductive AV where
 |pv (p:PV)|own (l:List PV)|a7 (c:Nat) (fs:List (Str×PV)) (ow:List Str)|dl (ks:List Str) (n:Nat)
@[elab_as_elim] theorem lc{m:AV->Prop}(t:AV)(pv:∀p,m (.pv p))(own:∀l,m (.own l))(a7:∀c fs ow,m (.a7 c fs ow))(dl:∀ks n,m (.dl ks n)):m t:=AV.casesOn (motive:=m) t pv own a7 dl
abbrev ar:=List (Str×AV)
noncomputable def AV.val:AV->PV
 |.pv p=>p|.own l=>.list l|.a7 c fs _=>.inst c fs|.dl ..=>.any
noncomputable def AV.ux:AV->Option PV
 |.pv p=>some p|_=>none
noncomputable def bB(σ:ar):bj:=σ.map λp=>(p.1,p.2.val)
noncomputable def fL(σ:ar):bj:=σ.filterMap λp=>p.2.ux.map λv=>(p.1,v)
noncomputable def PV.kind:PV->Nat
 |.none=>0|.bool _=>1|.int _=>2|.str _=>3|.tup _=>4|.list _=>5|.set _=>6|.d5 ..=>7|.any=>8|.inst c _=>9+c
def C2(p q:PV):Bool:=p.iQ||q.iQ||p.kind==q.kind
def m6(l m:List PV):Bool:=match l with
 |[]=>m.isEmpty
 |a::_=>match m with
  |[]=>false|b::_=>C2 a b
mutual
def cg(ls:List (List PV))(cs:List (Nat×List Str)):PV->Bool
 |.tup l=>iq ls cs l|.list l=>ls.any (λm=>m6 m l)||iq ls cs l|.inst c fs=>cs.any (λq=>q.1==c||q.2==fs.map (·.1))||v5 ls cs fs|_=>false
def iq(ls:List (List PV))(cs:List (Nat×List Str)):List PV->Bool
 |[]=>false|p::r=>cg ls cs p||iq ls cs r
def v5(ls:List (List PV))(cs:List (Nat×List Str)):List (Str×PV)->Bool
 |[]=>false|(_,p)::r=>cg ls cs p||v5 ls cs r
end
def wA(fs:List (Str×PV))(ow:List Str):List (List PV):=fs.filterMap λq=>if ow.contains q.1=true then q.2.io else none
def IC:AV->List (List PV)
 |.own l=>[l]|.a7 _ fs ow=>wA fs ow|_=>[]
noncomputable def IW:AV->List (Nat×List Str)
 |.a7 c fs _=>[(c,fs.map (·.1))]|_=>[]
def AV.seen(p:PV)(v:AV):Bool:=cg (IC v) (IW v) p
noncomputable def AV.kM:AV->Bool
 |.a7 ..=>true|_=>false
def fz(p:PV)(v:AV):AV:=match v with
 |.own l=>if cg [l] [] p=true then .pv (.list l) else .own l
 |v=>v
def dZ(p:PV)(σ:ar):ar:=σ.map λq=>(q.1,fz p q.2)
inductive fS where
 |next|ret (p:PV)|exc
noncomputable def fS.hZ:fS->Bool
 |.next=>true|_=>false
abbrev aZ:=Option (fS×ar)
def Vj:Expr->Bool:=EA.on {d:=false,wz:=λ_ _=>true}
def sG:Expr->Bool:=EA.on {d:=false,wz:=λ_ _=>true,yk:=λ_ _ _ _=>true,yc:=λl op _ _=>Vj l&&op==.Mult}
def j8(σ:ar)(x:Str):Option AV:=if x=("__debug__":Str) then none else ak σ x
noncomputable def AV.own?:AV->Option (List PV)
 |.own l=>some l|_=>none
def gu(σ:ar)(x:Str):Option (List PV):=(j8 σ x).bind AV.own?
def kh(l:List PV)(i v:PV):Option (List PV):=i.eg.bind λk=>if 0<=k/\k<l.length then some (l.set k.toNat v) else none
def t7(σ:ar)(x:Str):Bool:=((ak σ x).map AV.kM).getD false
def putN(nm:aN)(x:Str)(v:AV)(σ:ar):Option ar:=if(t7 σ x&& !v.kM)=true then none else gY nm x v σ
def sk(nm:aN)(x:Str)(p:PV)(σ:ar):Option ar:=putN nm x (.pv p) σ
noncomputable def qM{α β:Type}(o:Option α)(f:α->Option β)(g:Option β):Option β:=match o with
 |some a=>f a|none=>g
def bW(ev:bj->Expr->Option PV)(σ:ar)(e:Expr):Option (PV×ar):=qM (ev (fL σ) e) (λp=>some (p,σ))<|(ev (bB σ) e).bind λp=>if σ.any (λq=>q.2.kM&&q.2.seen p)=true then none else some (p,dZ p σ)
noncomputable def Fe(b:Bool)(p:PV):AV:=if b=true then(match p with
 |.list l=>.own l|p=>.pv p) else .pv p
def J0:Expr->Option Str:=EA.on {d:=none,BJ:=λc _ _=>(match c with
  |.str k=>some k|_=>none)}
def IB:Expr->Bool:=EA.on {d:=false,BJ:=λc _ _=>(match c with
  |.int i=>i==0|_=>false)}
def Nz:Expr->Option (List Expr):=EA.on {d:=none,wz:=λes _=>some es}
def vJ:List (Option Expr)->List Expr->Option (List Str)
 |[],vs=>if vs.isEmpty=true then some [] else none
 |k::ks,vs=>(match vs with
  |[]=>none|v::vs=>k.bind λk=>(J0 k).bind λk=>(Nz v).bind λes=>if es.isEmpty=true then(vJ ks vs).map λr=>k::r else none)
def zW:Expr->Option (Expr×List Expr×List fj×Pos):=EA.on {d:=none,uI:=λf args kws p=>(some (f,args,kws,p))}
def GJ:Expr->Option (Expr×Str×Pos):=EA.on {d:=none,tM:=λo m p=>(some (o,m,p))}
def Hc:Expr->Option (Str×Pos):=EA.on {d:=none,kK:=λx p=>(some (x,p))}
def JA(nm:aN)(v:Expr×Expr)(a b:Str×Pos):Bool:=ak nm a.1==some .local&&ak nm b.1==some .local&&a.1 !=b.1&&a.2.line==b.2.line&& !(yX 8 v.1&&yX 8 v.2)&& !(yY 8 v.1&&yY 8 v.2)
def YZ(nm:aN)(es vs:List Expr):Bool:=((qJ es).bind λe=>(qJ vs).bind λv=>(Hc e.1).bind λa=>(Hc e.2).map (JA nm v a))==some true
def ab9(nm:aN)(es:List Expr)(p:PV)(σ:ar):Option ar:=(qJ es).bind λe=>(iB e.1).bind λa=>(iB e.2).bind λb=>(p.C3.bind qJ).bind λq=>(sk nm b q.2 σ).bind (sk nm a q.1)
def Iy(nm:aN)(es:List Expr)(k:Nat)(tp:Pos)(p:PV)(σ:ar):Expr->Option ar:=EA.on {d:=fT (sk nm) (.Tuple es k tp) p σ,uw:=λvs _ _=>if YZ nm es vs=true then ab9 nm es p σ else none,wz:=λ_ _=>none,Sz:=λ_ _ _=>none}
def uj(O:aK)(op:ia)(a b:PV):Option PV:=PA.on {d:=none,pn:=λi=>(b.eg.bind λj=>if op=.Add then some (.int (i+j)) else if op=.Sub then some (.int (i-j)) else none),jg:=λc fs=>(O.bin op (.inst c fs) b)} a
def zY:List (Nat×Str):=[(dg,"numerator"),(dg,"denominator"),(p8,"name"),(p8,"param"),(cM,"rule_id"),(cM,"shortname"),(cM,"longname"),(cM,"algorithms"),(cM,"resolute_values"),(cM,"available_algorithms"),
 (bv,"candidates"),(bv,"cand_names"),(bv,"_voters"),(iw,"approved"),(iw,"weight")]
def zT(fresh:Bool)(c:Nat)(fs:List (Str×PV))(ow:List Str)(y:Str)(p:PV):AV:=.a7 c (cf fs y p) (if fresh=true/\p.io.isSome=true then y::ow else ow.filter (· !=y))
noncomputable def ad7(xs:List Str)(q:Str×AV):Bool:= !(xs.contains q.1&&q.2.ux.isSome)
def B3(xs:List Str)(σ:ar):ar:=σ.filter (ad7 xs)
noncomputable def eD(o:Option ar):aZ:=o.map λσ=>(.next,σ)
def xJ(args:List Expr)(kws:List fj):Option Expr:=if kws.isEmpty=true then oM args else none
noncomputable def AV.lR:AV->Option (Nat×List (Str×PV)×List Str)
 |.a7 c fs ow=>some (c,fs,ow)|_=>none
noncomputable def AV.EE:AV->Option (List Str×Nat)
 |.dl ks n=>some (ks,n)|_=>none
section
variable(O:aK)(I:Ip)(nm:aN)(mu:List Str)(σ:ar)
def OA(x:Str)(f:List PV->PV->List PV)(e:Expr):aZ:=(bW (I.e nm) σ e).bind λq=>(gu q.2 x).bind λl=>eD (putN nm x (.own (f l q.1)) q.2)
def Xh(x m:Str)(args:List Expr)(kws:List fj)(l:List PV):aZ:=
 if l.length<az then(if m=("append":Str) then(xJ args kws).bind (OA I nm σ x λl p=>l++[p])
  else if m=("insert":Str)/\kws.isEmpty=true then(qJ args).bind λq=>if IB q.1=true then OA I nm σ x (λl p=>p::l) q.2 else none else none) else none
def U4(x m:Str)(args:List Expr)(kws:List fj)(c:Nat)(fs:List (Str×PV))(ow:List Str):aZ:=
 (xJ args kws).bind λe=>(bW (I.e nm) σ e).bind λq=>(O.l6 c fs ow m [q.1]).bind λeY=>eD (putN nm x (.a7 c eY ow) q.2)
def NR(x m:Str)(args:List Expr)(kws:List fj)(same:Bool)(bC:aZ):Option AV->aZ
 |some (.own l)=>if same=true then Xh I nm σ x m args kws l else none
 |some (.a7 c fs ow)=>if same=true then U4 O I nm σ x m args kws c fs ow else none
 |_=>bC
def acj(x f:Str)(args:List Expr)(kws:List fj):aZ:=(j8 σ x).bind λv=>v.lR.bind λi=>if vR.contains (i.1,f)=true then(xJ args kws).bind λe=>(bW (I.e nm) σ e).bind λq=>
 (ak i.2.1 f).bind λw=>w.io.bind λl=>if i.2.2.contains f=true/\l.length<az then eD (putN nm x (.a7 i.1 (cf i.2.1 f (.list (l++[q.1]))) i.2.2) q.2) else none else none
def Wh(x k:Str)(args:List Expr)(kws:List fj):aZ:=(j8 σ x).bind λv=>v.EE.bind λi=>if i.1.contains k=true/\i.2<az then(xJ args kws).bind λe=>(bW (I.e nm) σ e).bind λq=>eD (putN nm x (.dl i.1 (i.2+1)) q.2) else none
def Rj(m:Str)(args:List Expr)(kws:List fj)(same:Bool)(bC:aZ):Expr->aZ:=EA.on {d:=none,kK:=λx _=>NR O I nm σ x m args kws same bC (j8 σ x),tM:=λb f _=>((iB b).bind λx=>if m=("append":Str)/\same=true then acj I nm σ x f args kws else none),wd:=λb i _=>((iB b).bind λx=>(J0 i).bind λk=>if m=("append":Str)/\same=true then Wh I nm σ x k args kws else none)}
def zS(e:Expr):aZ:=(I.e nm (bB σ) e).map λ_=>(.next,σ)
def PW(e:Expr):aZ:=(zW e).bind λq=>qM (GJ q.1) (λa=>Rj O I nm σ a.2.1 q.2.1 q.2.2.1 (a.2.2.endLine==q.2.2.2.line) (zS I nm σ e) a.1) (zS I nm σ e)
def P7(e:Expr):Option Str:=(zW e).bind λq=>(GJ q.1).bind λa=>(iB a.1).bind λy=>(xJ q.2.1 q.2.2.1).bind λi=>if IB i=true/\a.2.1=("pop":Str)/\a.2.2.endLine=q.2.2.2.line then some y else none
def aeb:Expr->Option (List (Option Expr)×List Expr):=EA.on {d:=none,DR:=λks vs _=>(if ks.isEmpty=true then none else some (ks,vs))}
def ack(x C:Str)(args:List Expr)(kws:List fj):aZ:=(iR (I.e nm (fL σ)) args).bind λvs=>(rO (I.e nm (fL σ)) kws).bind λks=>if ak nm C=some .globalImplicit/\C≠("__debug__":Str)/\t7 σ x=false then(O.make C vs ks).bind λr=>eD (putN nm x (.a7 r.1 r.2.1 r.2.2) σ) else none
def aci(x y:Str):Option (List PV)->aZ
 |some (p::l)=>(putN nm y (.own l) σ).bind λσ=>eD (putN nm x (.pv p) σ)|_=>none
def IY(x:Str)(e:Expr):aZ:=(bW (I.e nm) σ e).bind λq=>eD (putN nm x (Fe (sG e&&mu.contains x) q.1) q.2)
def ED(e:Expr):Option (Str×List Expr×List fj):=(zW e).bind λq=>(iB q.1).map λC=>(C,q.2.1,q.2.2.1)
def RM(x:Str)(e:Expr):aZ:=qM (P7 e) (λy=>aci nm σ x y (gu σ y))<|
 qM (aeb e) (λq=>(vJ q.1 q.2).bind λr=>if r.Nodup/\r.length<=15 then eD (putN nm x (.dl r 0) σ) else none)<|
 qM (ED e) (λq=>if mu.contains x=true then ack O I nm σ x q.1 q.2.1 q.2.2 else IY I nm mu σ x e) (IY I nm mu σ x e)
def JM(e:Expr):Expr->aZ:=EA.on {d:=none,kK:=λx _=>RM O I nm mu σ x e,uw:=λes k tp=>((bW (I.e nm) σ e).bind λq=>eD (Iy nm es k tp q.1 q.2 e)),wd:=λb i _=>((iB b).bind λx=>(bW (I.e nm) σ e).bind λq=>(gu q.2 x).bind λl=>(I.e nm (bB q.2) i).bind λk=>(kh l k q.1).bind λl'=>eD (putN nm x (.own l') q.2)),tM:=λb f _=>((iB b).bind λx=>(bW (I.e nm) σ e).bind λq=>(j8 q.2 x).bind λv=>v.lR.bind λi=>if zY.contains (i.1,f)=true/\i.2.1.length<=100 then eD (putN nm x (zT (sG e) i.1 i.2.1 i.2.2 f q.1) q.2) else none)}
def Oh(op:ia)(e:Expr):Expr->aZ:=EA.on {d:=none,kK:=λx _=>((j8 σ x).bind λv=>v.ux.bind λa=>(bW (I.e nm) σ e).bind λq=>(uj O op a q.1).bind λp=>eD (putN nm x (.pv p) q.2)),wd:=λb i _=>((iB b).bind λx=>(gu σ x).bind λl=>(I.e nm (bB σ) i).bind λk=>(bQ (.list l) k).bind λa=>(bW (I.e nm) σ e).bind λq=>
    (uj O op a q.1).bind λp=>(gu q.2 x).bind λl=>(kh l k p).bind λl'=>eD (putN nm x (.own l') q.2))}
def raises(σ:bj)(e:Expr):Bool:=((ED e).bind λq=>if ak nm q.1=some .globalImplicit/\q.1≠("__debug__":Str) then(iR (I.e nm σ) q.2.1).bind λvs=>(rO (I.e nm σ) q.2.2).map λks=>O.n9 q.1 vs ks else none).getD false
def se(e:Expr):aZ:=qM (I.e nm (bB σ) e) (λp=>some (.ret p,σ))<|if raises O I nm (bB σ) e=true then some (.exc,σ) else none
def afM(e c:Option Expr):aZ:=if c.isNone=true then e.bind λe=>(ED e).bind λq=>if q.1=("TiesException":Str)/\q.2.2.isEmpty=true/\ak nm q.1=some .globalImplicit then(iR (I.e nm (fL σ)) q.2.1).bind λvs=>if vs.length<=az then some (.exc,σ) else none else none else none
end
noncomputable def aS(X:ar->aH->aZ):List aH->ar->aZ
 |[],σ=>some (.next,σ)|st::r,σ=>(X σ st).bind λq=>if q.1.hZ=true then aS X r q.2 else some q
def dX(body:ar->aZ)(nm:aN)(t:Expr):List PV->ar->aZ
 |[],σ=>some (.next,σ)|v::r,σ=>(fT (sk nm) t v σ).bind λσ=>(body σ).bind λq=>if q.1.hZ=true then dX body nm t r q.2 else some q
def lh(t:Expr)(p:PV)(r:fS×ar):aZ:=PA.on {d:=some r,jg:=λ_ _=>(if r.1.hZ=true then some r else none),yf:=λ_=>(some (r.1,B3 (wb t) r.2))} p
def Po(O:aK)(I:Ip)(X:aN->List Str->ar->aH->aZ)(nm:aN)(mu:List Str)(σ:ar):aH->aZ
 |.Expr e _=>PW O I nm σ e|.Assign ts e _=>(oM ts).bind (JM O I nm mu σ e)|.AugAssign t op e _=>Oh O I nm σ op e t|.If t b c _=>(I.t nm (bB σ) t).bind λr=>aS (X nm mu) (if r=true then b else c) σ|.While t b CO pos=>if CO.isEmpty=true then(I.t nm (bB σ) t).bind λr=>if r=true then(aS (X nm mu) b σ).bind λq=>if q.1.hZ=true then X nm mu q.2 (.While t b [] pos) else some q else some (.next,σ) else none
 |.For t it b CO _=>if CO.isEmpty=true then(bW (I.e nm) σ it).bind λq=>over q.1 λsrc=>(dX (aS (X nm mu) b) nm t src q.2).bind (lh t q.1) else none
 |.Return e _=>e.bind (se O I nm σ)|.Raise e c _=>afM I nm σ e c|_=>none
def aw(O:aK):Nat->aN->List Str->ar->aH->aZ:=Nat.rec (λ_ _ _ _=>none) λn ih=>Po O (ip n O) ih
abbrev a9(O:aK)(n:Nat)(nm:aN)(mu:List Str)(σ:ar)(b:List aH):aZ:=aS (aw O n nm mu) b σ
section
variable{c:Cx}{b:ao}{u:ac}{p:PV}{V:List ao}{o:Obj}{F:Fm}{σ':ar}
section
variable{f f':Fz}{h h':am}{a:ao}{l m:List PV}{v:ac}{q:PV}{as N:List ao}{vs us:List (Str×ac)}{fs:List (Str×PV)}{ow:List Str}{x:Str}{k n:Nat}{ls:List (List PV)}{cs:List (Nat×List Str)}{D:ao->Prop}
def t5(c:Cx)(f:Fz)(h:am)(a:ao)(l:List PV):Prop:=(∃vals n,h.get? a=some (bu vals n)/\aR c f vals l)/\l.length<=az
def rI(c:Cx)(f:Fz)(h:am)(ow:List Str)(x:Str)(v:ac)(p:PV)(N:List ao):Prop:=(ow.contains x=false/\aV c f v p/\N=[])\/(ow.contains x=true/\∃a l,v=.ref a/\p=.list l/\t5 c f h a l/\N=[a])
def jh(c:Cx)(f:Fz)(h:am)(ow:List Str):List (Str×PV)->List (Str×ac)->List ao->Prop
 |[],vs,as=>vs=[]/\as=[]|p::fs,vs,as=> ∃v r N f7,vs=(p.1,v)::r/\as=N++f7/\rI c f h ow p.1 v p.2 N/\jh c f h ow fs r f7
def pg(c:Cx)(f:Fz)(h:am)(k:Nat)(fs:List (Str×PV))(ow:List Str)(a:ao)(U:List ao):Prop:=
 ∃dx es n vs as,h.get? a=some (lV k dx)/\h.get? dx=some (sj es n)/\j6 c vs es/\jh c f h ow fs vs as/\U=a::dx::as/\(a::dx::as).Nodup/\(vs.map (·.1)).Nodup
def pI(h:am)(n:Nat):List (Str×ac)->List ao->Prop
 |[],as=>as=[]|p::vs,as=> ∃a r,p.2=.ref a/\as=a::r/\(∃vals k,h.get? a=some (bu vals k)/\vals.length<=n)/\pI h n vs r
def M_(c:Cx)(h:am)(ks:List Str)(n:Nat)(a:ao)(U:List ao):Prop:=∃vs as,h.DictOf (strKind pw c.w) a vs/\pI h n vs as/\vs.map (·.1)=ks/\U=a::as/\(a::as).Nodup
def jn(c:Cx)(f:Fz)(h:am)(v:AV)(u:ac)(U:List ao):Prop:=match v with
 |.pv p=>aV c f u p/\U=[]|.own l=> ∃a,u=.ref a/\t5 c f h a l/\U=[a]|.a7 k fs ow=> ∃a,u=.ref a/\pg c f h k fs ow a U|.dl ks n=> ∃a,u=.ref a/\M_ c h ks n a U
theorem t5.mono(o:t5 c f h a l)(hk:∀o,h.get? a=some o->h'.get? a=some o)(hf:Sub f f'):t5 c f' h' a l:=by
 obtain⟨⟨vals,n,e,r⟩,z⟩:=o;exact⟨(dh vals n (hk _ e) (r.mono hf)),z⟩
theorem rI.mono(e:rI c f h ow x v p N)(hk:∀b o,b∈N->h.get? b=some o->h'.get? b=some o)(hf:Sub f f'):rI c f' h' ow x v p N:=by
 rcases e with⟨a,r,e⟩|⟨a,d,l,e1,e2,o,rfl⟩
 ·exact .inl (eA a (r.mono hf) e)
 ·exact .inr ⟨a,d,l,e1,e2,o.mono (λo e=>hk d o (.head _) e) hf,rfl⟩
theorem jh.mono(s:jh c f h ow fs vs as)(hk:∀b o,b∈as->h.get? b=some o->h'.get? b=some o)(hf:Sub f f'):jh c f' h' ow fs vs as:=by
 induction fs generalizing vs as with
 |nil=>exact s
 |cons q fs ih=>
  obtain⟨v,r,N,f7,e1,rfl,e,s⟩:=s;exact(wy v r N f7 e1 rfl (e.mono (λb o m=>hk b o (tw _ m)) hf) (ih s λb o m=>hk b o (fE _ m)))
theorem pI.mono{n':Nat}(s:pI h n vs as)(hk:∀b o,b∈as->h.get? b=some o->h'.get? b=some o)(hn:n<=n'):pI h' n' vs as:=by
 induction vs generalizing as with
 |nil=>exact s
 |cons q vs ih=>
  obtain⟨a,r,e,rfl,⟨vals,k,e1,z⟩,s⟩:=s;exact(tL a r e rfl (dh vals k (hk a _ (.head _) e1) (aq z hn)) (ih s λb o m=>hk b o (.tail _ m)))
theorem jn.mono{v:AV}(s:jn c f h v u V)(hk:∀b o,b∈V->h.get? b=some o->h'.get? b=some o)(hf:Sub f f'):jn c f' h' v u V:=by
 cases v with
 |pv p=>exact⟨s.1.mono hf,s.2⟩|own l=>refine cP s λa e o c4=>?_;subst c4;exact(cz a e (o.mono (λo=>hk a o (.head _)) hf) rfl)
 |a7 k fs ow=>
  refine bE λgG hG=>?_;obtain⟨a,e,dx,es,n,vs,as,h1,h2,h3,h4,rfl,h6⟩:=s;exact hG (⟨a,e,dx,es,n,vs,as,hk _ _ (.head _) h1,hk _ _ (.tail _ (.head _)) h2,h3,h4.mono (λb o m=>hk b o (.tail _ (.tail _ m))) hf,rfl,h6⟩)
 |dl ks n=>
  refine bE λgG hG=>?_;obtain⟨a,e,vs,as,h1,h2,h3,rfl,h4⟩:=s;exact hG (⟨a,e,vs,as,h1.at λo=>hk a o (.head _),h2.mono (λb o m=>hk b o (.tail _ m)) (bf _),h3,rfl,h4⟩)
theorem jh.there(s:jh c f h ow fs vs as):∀b∈as,∃l,l∈wA fs ow/\t5 c f h b l:=by
 induction fs generalizing vs as with
 |nil=>exact λb m=>mN (s.2▸m)
 |cons q fs ih=>
  obtain⟨v,r,N,f7,e1,rfl,e,s⟩:=s;intro b m;unfold wA;erw[Ch];rcases e with⟨a,_,rfl⟩|⟨a,d,l,_,e2,o,rfl⟩
  ·erw[a];exact ih s b m
  ·refine aa (a) (aa (e2) ?_);rcases bw m with rfl|m
   ·exact(aA l (.head _) o)
   ·refine aB (ih s b m) λl' k1 k2=>?_;exact(aA l' (.tail _ k1) k2)
theorem pI.there(s:pI h n vs as):∀b∈as,∃o,h.get? b=some o:=by
 induction vs generalizing as with
 |nil=>exact λb m=>mN (s▸m)
 |cons q vs ih=>
  obtain⟨a,r,e,rfl,⟨vals,k,e1,z⟩,s⟩:=s;intro b m;rcases bw m with rfl|m
  ·exact⟨_,e1⟩
  ·exact ih s b m
theorem jn.there{v:AV}(s:jn c f h v u V)(b:ao)(m:b∈V):∃o,h.get? b=some o:=by
 cases v with
 |pv p=>exact mN (s.2▸m)|own l=>obtain⟨a,_,⟨⟨vals,n,e,_⟩,_⟩,rfl⟩:=s;exact cY m▸⟨_,e⟩
 |a7 k fs ow=>
  obtain⟨a,e,dx,es,n,vs,as,h1,h2,h3,h4,rfl,h6⟩:=s;rcases bw m with rfl|m
  ·exact⟨_,h1⟩
  ·rcases bw m with rfl|m
   ·exact⟨_,h2⟩
   ·obtain⟨_,_,⟨_,_,e,_⟩,_⟩:=h4.there b m;exact⟨_,e⟩
 |dl ks n=>
  refine bE λgG hG=>?_;obtain⟨a,e,vs,as,h1,h2,h3,rfl,h4⟩:=s;refine hG ?_;rcases bw m with rfl|m
  ·refine aB (am.dictOf_iff.mp h1) λo e _=>?_;exact⟨o,e⟩
  ·exact h2.there b m
def qr(f:Fz)(D:ao->Prop):Fz:=λa=>open Classical in if D a then none else f a
open Classical in
theorem It(e:qr f D a=some o):f a=some o/\¬D a:=fZ e λn e=>⟨e,n⟩
open Classical in
theorem r9(e:f a=some o)(n:¬D a):qr f D a=some o:=(iN n).trans e
open Classical in
theorem QG(e:¬D a->f a=none):qr f D a=none:=by
 by_cases q:D a
 ·exact iP q
 ·exact(iN q).trans (e q)
def sy(c:Cx)(f:Fz)(ls:List (List PV))(cs:List (Nat×List Str))(o:Obj):Prop:=
 (∃l∈ls,∃vals n,o=bu vals n/\aR c f vals l)\/(∃q∈cs,∃dx,o=lV q.1 dx)\/(∃q∈cs,∃es n vs,o=sj es n/\j6 c vs es/\vs.map (·.1)=q.2)
theorem sy.mono{mT:List (List PV)}{mW:List (Nat×List Str)}(h1:∀l∈ls,l∈mT)(h2:∀q∈cs,q∈mW)(d:sy c f ls cs o):sy c f mT mW o:=
 d.imp (λd=>d.imp λl d=>⟨h1 l d.1,d.2⟩) λd=>d.imp (λd=>d.imp λq d=>⟨h2 q d.1,d.2⟩) λd=>d.imp λq d=>⟨h2 q d.1,d.2⟩
noncomputable def Jq(o:Obj):Nat:=match o.cls with
 |.ref k=>9+k|.type t=>if t="tuple" then 4 else if t="list" then 5 else if t="set" then 6 else 7
 |_=>0
def Qg(f:Fz):ac->Nat
 |.none=>0|.bool _=>1|.int ..=>2|.str ..=>3|.ref a=>((f a).map Jq).getD 0|_=>0
theorem MG(r:aV c f v p):p.iQ=true\/p.kind=Qg f v:=by
 have ref:∀{a o},f a=some o->Qg f (.ref a)=Jq o:=λ{a o} e=>show((f a).map Jq).getD 0=_ by erw[e];rfl
 induction p using dq with
 |none=>exact qt r (.inr rfl)|bool=>exact lW r (.inr rfl)|int=>exact bU r λ_=>.inr rfl|str=>exact je r λ_=>.inr rfl|tup=>exact iT r λh _ _=>.inr (ref h).symm|list=>exact dY r λh _ _=>.inr (ref h).symm|set=>exact kX r λh _ _=>.inr (ref h).symm|d5=>exact qz r λh _ _ _=>.inr (ref h).symm|inst=>exact rL r λh _ _ _=>.inr (ref h).symm|any=>exact .inl rfl
theorem Zm{vs:List ac}(r:aR c f vs l)(r':aR c f vs m):m6 l m=true:=by
 induction l using bO with
 |nil=>induction m using bO with
  |nil=>rfl|cons=>exact i0 (m:=λvs=>aR c f vs (_::_)->_) r (λr=>(eB (m:=λvs=>vs=[]->_) r λ_ _ e=>ln e) rfl) r'
 |cons p l=>induction m using bO with
  |nil=>exact i0 (m:=λvs=>aR c f vs (_::_)->_) r' (λr=>(eB (m:=λvs=>vs=[]->_) r λ_ _ e=>ln e) rfl) r
  |cons q m=>
   refine eB (m:=λvs=>aR c f vs (q::m)->C2 p q=true) r (λa _ r'=>?_) r';refine MB (m:=λl=>l=q::m->C2 p q=true) r' (λb _ e=>?_) rfl;injection e with e
   subst e;unfold C2;rcases MG a with a|a
   ·erw[a];rfl
   ·rcases MG b with b|b
    ·erw[b];rw[Bool.or_true];rfl
    ·rw[a,b,beq_self_eq_true,Bool.or_true]
theorem acu{es:List pQ}(e:j6 c vs es)(e':j6 c us es):vs.map (·.1)=us.map (·.1):=by
 induction vs generalizing us es with
 |nil=>
  cases(e:es=[]);induction us using bO with
  |nil=>rfl|cons=>refine eH e' λ_ _ e' _=>?_;exact nl e'
 |cons p vs ih=>
  obtain⟨t,r,rfl,e⟩:=e;induction us using bO with
  |nil=>exact ln (e':_::_=[])
  |cons q us=>
   refine eH e' λt' r' e1 e'=>?_;injection e1 with e1 e2
   subst e2;injection e1 with _ e1
   injection e1 with e1
   refine aa (oB) (aa (oB) (aa (ih e e') (aa (e1) ?_)));rfl
theorem Ι(r:bH c f vs fs):vs.map (·.1)=fs.map (·.1):=by
 induction fs generalizing vs with
 |nil=>exact rT r rfl|cons q fs ih=>exact oW r λ_ r=>af (q.1:: ·) (ih r)
theorem Ec{s t:String}{o o':Obj}{P:Prop}(e:o=o')(h:o.cls=.type s)(h':o'.cls=.type t)(n:s≠t):P:=absurd (iE.inj (h.symm.trans ((af uX e).trans h'))) n
theorem sy.Hh{s:String}(d:sy c f ls cs o)(e:o.cls=.type s)(h1:s≠ "list")(h2:s≠ "dict"):False:=by
 rcases d with⟨_,_,_,_,q,_⟩|⟨_,_,_,q⟩|⟨_,_,_,_,_,q,_⟩
 ·exact Ec q e rfl h1
 ·nomatch e.symm.trans (af uX q)
 ·exact Ec q e rfl h2
theorem eQ{a b:Bool}(h:(a||b)=false):a=false/\b=false:=rx.mp h
theorem aV.gL(hD:∀a o,D a->f a=some o->sy c f ls cs o)(r:aV c f v p)(q:cg ls cs p=false):aV c (qr f D) v p:=
 PV.rec (motive_1:=λp=> ∀v,aV c f v p->cg ls cs p=false->aV c (qr f D) v p) (motive_2:=λl=> ∀v,aR c f v l->iq ls cs l=false->aR c (qr f D) v l) (motive_3:=λl=> ∀v,bH c f v l->v5 ls cs l=false->bH c (qr f D) v l) (motive_4:=λq=> ∀v,aV c f v q.2->cg ls cs q.2=false->aV c (qr f D) v q.2)
  (λ_ r _=>r) (λ_ _ r _=>r) (λ_ _ r _=>r) (λ_ _ r _=>r) (λ_ ih _ r q=>iT r λh r z=>.tup (r9 h λk=>(hD _ _ k h).Hh rfl (by decide) (by decide)) (ih _ r q) z)
  (λl ih _ r q=>dY r λ{a n vs} h r z=>.list (r9 h λk=>by
   rcases hD _ _ k h with⟨l',m,vals,n',e,rl⟩|⟨_,_,_,e⟩|⟨_,_,_,_,_,e,_⟩
   ·injection e with _ _ e;injection e with e;injection e with e
    exact vd.mp (eQ q).1 _ m (Zm rl (e▸r))
   ·nomatch af uX e
   ·exact Ec e rfl rfl (by decide)) (ih _ r (eQ q).2) z)
  (λ_ _ r _=>kX r λh=>.set (r9 h λk=>(hD _ _ k h).Hh rfl (by decide) (by decide))) (λ_ _ _ r _=>qz r λh=>.d5 (r9 h λk=>(hD _ _ k h).Hh rfl (by decide) (by decide)))
  (λk fs ih _ r q=>rL r λ{a dx n es vs} h g e r=>.inst (r9 h λkk=>by
   rcases hD _ _ kk h with⟨_,_,_,_,e,_⟩|⟨q',m,_,e⟩|⟨_,_,_,_,_,e,_⟩
   ·nomatch af uX e
   ·exact vd.mp (eQ q).1 _ m (Ln.mpr (.inl (jU (pO.inj (af uX e)).symm)))
   ·nomatch af uX e) (r9 g λkk=>by
   rcases hD _ _ kk g with⟨_,_,_,_,e,_⟩|⟨_,_,_,e⟩|⟨q',m,d0,n',xe,e1,e2,e3⟩
   ·exact Ec e rfl rfl (by decide)
   ·nomatch af uX e
   ·injection e1 with _ _ e1;injection e1 with e1;injection e1 with e1
    exact vd.mp (eQ q).1 _ m (Ln.mpr (.inr (jU (e3.symm.trans ((acu e2 (e1▸e)).trans (Ι r))))))) e (ih _ r (eQ q).2)) (λ_ r _=>r)
  (λ_ r _=>r) (λ_ _ a b _ r q=>eB r λu us=>.cons (a _ u (eQ q).1) (b _ us (eQ q).2)) (λ_ r _=>r) (λ_ _ a b _ r q=>oW r λu us=>.cons (a _ u (eQ q).1) (b _ us (eQ q).2)) (λ_ _ a=>a) p v r q
theorem aR.gL{vs:List ac}(hD:∀a o,D a->f a=some o->sy c f ls cs o)(r:aR c f vs l)(q:iq ls cs l=false):aR c (qr f D) vs l:=by
 induction l generalizing vs with
 |nil=>exact r|cons p l ih=>exact eB r λa r=>.cons (a.gL hD (eQ q).1) (ih r (eQ q).2)
noncomputable def AV.jo:AV->Bool
 |.own _|.a7 ..=>true|_=>false
theorem aa0(s:jh c f h ow fs vs as)(hf:Sub f f')(hk:∀b o,b∈as->h.get? b=some o->f' b=some o):bH c f' vs fs:=by
 induction fs generalizing vs as with
 |nil=>exact s.1▸ .nil
 |cons q fs ih=>
  obtain⟨v,r,N,f7,rfl,rfl,e,s⟩:=s;refine .cons ?_ (ih s λb o m=>hk b o (fE _ m));rcases e with⟨_,r,_⟩|⟨_,a,l,rfl,e2,⟨⟨vals,n,e,r⟩,z⟩,rfl⟩
  ·exact r.mono hf
  ·erw[e2];exact .list (hk _ _ (.head _) e) (r.mono hf) z
theorem J5{v:AV}(s:jn c f h v u V)(hf:Sub f f')(hk:v.jo=true->∀b o,b∈V->h.get? b=some o->f' b=some o):aV c f' u v.val:=by
 induction v using lc with
 |pv p=>exact s.1.mono hf|own l=>obtain⟨a,rfl,⟨⟨vals,n,e,r⟩,z⟩,rfl⟩:=s;exact .list (hk rfl _ _ (.head _) e) (r.mono hf) z
 |a7 k fs ow=>
  refine bE λgG hG=>?_;obtain⟨a,rfl,dx,es,n,vs,as,h1,h2,h3,h4,rfl,h6⟩:=s;exact hG (.inst (hk rfl _ _ (.head _) h1) (hk rfl _ _ (.tail _ (.head _)) h2) h3 (aa0 h4 hf λb o m=>hk rfl b o (.tail _ (.tail _ m))))
 |dl=>exact .any
theorem Oq(s:jh c f h ow fs vs as):vs.map (·.1)=fs.map (·.1):=by
 induction fs generalizing vs as with
 |nil=>exact s.1▸rfl|cons q fs ih=>obtain⟨v,r,N,f7,rfl,rfl,e,s⟩:=s;exact af (q.1:: ·) (ih s)
theorem YE{v:AV}(s:jn c f h v u V)(hv:v.jo=true)(hf:Sub f f')(m:b∈V)(e:h.get? b=some o):sy c f' (IC v) (IW v) o:=by
 induction v using lc with
 |pv=>injection hv|dl=>injection hv
 |own l=>
  refine bE λgG hG=>?_;obtain⟨a,rfl,⟨⟨vals,n,e',r⟩,z⟩,rfl⟩:=s;cases cY m;exact hG (oI (e'.symm.trans e) (.inl ⟨l,.head _,vals,n,rfl,r.mono hf⟩))
 |a7 k fs ow=>
  refine bE λgG hG=>?_;obtain⟨a,rfl,dx,es,n,vs,as,h1,h2,h3,h4,rfl,h6⟩:=s;refine hG ?_;rcases bw m with rfl|m
  ·exact oI (h1.symm.trans e) (.inr (.inl ⟨_,.head _,dx,rfl⟩))
  ·rcases bw m with rfl|m
   ·exact oI (h2.symm.trans e) (.inr (.inr ⟨_,.head _,es,n,vs,rfl,h3,Oq h4⟩))
   ·refine bE λgG hG=>?_;obtain⟨l,k1,⟨vals,n',e',r⟩,z⟩:=h4.there b m;exact hG (oI (e'.symm.trans e) (.inl ⟨l,k1,vals,n',rfl,r.mono hf⟩))
theorem ZG{mT:List (List PV)}{mW:List (Nat×List Str)}:cg ls cs p=false->cg mT mW p=false->cg (ls++mT) (cs++mW) p=false:=
 PV.rec (motive_1:=λp=>cg ls cs p=false->cg mT mW p=false->cg (ls++mT) (cs++mW) p=false) (motive_2:=λl=>iq ls cs l=false->iq mT mW l=false->iq (ls++mT) (cs++mW) l=false) (motive_3:=λl=>v5 ls cs l=false->v5 mT mW l=false->v5 (ls++mT) (cs++mW) l=false) (motive_4:=λq=>cg ls cs q.2=false->cg mT mW q.2=false->cg (ls++mT) (cs++mW) q.2=false)
  (λh _=>h) (λ_ h _=>h) (λ_ h _=>h) (λ_ h _=>h) (λ_ ih=>ih) (λ_ ih h h'=>rx.mpr ⟨List.any_append.trans (rx.mpr ⟨(eQ h).1,(eQ h').1⟩),ih (eQ h).2 (eQ h').2⟩) (λ_ h _=>h) (λ_ _ h _=>h)
  (λ_ _ ih h h'=>rx.mpr ⟨List.any_append.trans (rx.mpr ⟨(eQ h).1,(eQ h').1⟩),ih (eQ h).2 (eQ h').2⟩) (λh _=>h) (λh _=>h) (λ_ _ a b h h'=>rx.mpr ⟨a (eQ h).1 (eQ h').1,b (eQ h).2 (eQ h').2⟩) (λh _=>h) (λ_ _ a b h h'=>rx.mpr ⟨a (eQ h).1 (eQ h').1,b (eQ h).2 (eQ h').2⟩) (λ_ _ a=>a) p
theorem JC:cg [] [] p=false:=
 PV.rec (motive_1:=λp=>cg [] [] p=false) (motive_2:=λl=>iq [] [] l=false) (motive_3:=λl=>v5 [] [] l=false) (motive_4:=λq=>cg [] [] q.2=false) rfl (λ_=>rfl) (λ_=>rfl) (λ_=>rfl) (λ_ ih=>ih) (λ_ ih=>ih) (λ_=>rfl) (λ_ _=>rfl) (λ_ _ ih=>ih) rfl
  rfl (λ_ _ a b=>rx.mpr ⟨a,b⟩) rfl (λ_ _ a b=>rx.mpr ⟨a,b⟩) (λ_ _ a=>a) p
def A0(σ:ar):List (List PV):=σ.flatMap λq=>IC q.2
def zR(σ:ar):List (Nat×List Str):=σ.flatMap λq=>IW q.2
theorem Vn{σ:ar}(h:∀q∈σ,q.2.seen p=false):cg (A0 σ) (zR σ) p=false:=by
 induction σ with
 |nil=>exact JC|cons q σ ih=>exact ZG (h q (.head _)) (ih λq m=>h q (.tail _ m))
end
section
variable{α β:Type}{l:List (Str×α)}{z y:Str}{v:α}
theorem Ho(nd:(l.map (·.1)).Nodup)(m:(z,v)∈l):ak l z=some v:=by
 induction l with
 |nil=>exact mN m
 |cons q r ih=>
  have n:=iS nd;rcases bw m with e|m
  ·subst e;exact iP rfl
  ·exact(iN λe:q.1=z=>n.1 (e.symm▸qZ (f:=(·.1)) m:q.1∈r.map (·.1))).trans (ih n.2 m)
theorem JO{g:α->β}:ak (l.map λq=>(q.1,g q.2)) z=(ak l z).map g:=by
 induction l with
 |nil=>rfl
 |cons q r ih=>
  obtain⟨y,u⟩:=q;show(if y=z then some (g u) else ak (r.map λq=>(q.1,g q.2)) z)=(if y=z then some u else ak r z).map g;by_cases e:y=z
  ·erw[iP e];erw[iP e];rfl
  ·refine aa (iN e) (aa (iN e) (aa (ih) ?_));rfl
theorem abI(h:y∈(cf l z v).map (·.1)):y=z\/y∈l.map (·.1):=by
 induction l with
 |nil=>exact .inl (cY h)
 |cons q r ih=>
  obtain⟨k,u⟩:=q;by_cases e:k=z
  ·rw[show cf ((k,u)::r) z v=(z,v)::r from iP e] at h;exact(bw h).imp id λh=>.tail _ h
  ·rw[show cf ((k,u)::r) z v=(k,u)::cf r z v from iN e] at h;exact(bw h).elim (λh=>.inr (h▸ .head _)) λh=>(ih h).imp id λh=>.tail _ h
theorem OE(h:(l.map (·.1)).Nodup):((cf l z v).map (·.1)).Nodup:=by
 induction l with
 |nil=>exact ny ⟨eX,wT⟩
 |cons q r ih=>
  obtain⟨k,u⟩:=q;have n:=iS h;by_cases e:k=z
  ·erw[(show cf ((k,u)::r) z v=(z,v)::r from iP e)];exact ny ⟨e▸n.1,n.2⟩
  ·erw[(show cf ((k,u)::r) z v=(k,u)::cf r z v from iN e)];exact ny ⟨λm=>(abI m).elim e n.1,ih n.2⟩
end
noncomputable def xz(U:Str->List ao)(x:Str)(V:List ao):Str->List ao:=λy=>if y=x then V else U y
structure St(c:Cx)(F:Fm) where
 x:Pt c
 σ:ar
 U:Str->List ao
 nd:(σ.map (·.1)).Nodup
 cU:∀z a,F.env.cells.lookup z=some a->∃v,x.s.heap.IsCell a v
 o:jD F x
 own:∀z v,ak σ z=some v->∃u,dB F.env x.s.heap z u/\jn c x.f x.s.heap v u (U z)
 fresh:∀z v,ak σ z=some v->∀b∈U z,bV x b/\¬dm F.env b
 dj:∀z y v u,z≠y->ak σ z=some v->ak σ y=some u->∀b∈U z,b∉U y
def WU{c:Cx}{F:Fm}(P:St c F)(b:ao):Prop:=tK F b\/∃z v,ak P.σ z=some v/\b∈P.U z
structure bD{c:Cx}{F:Fm}(P Q:St c F):Prop where
 st:cH (WU P) P.x Q.x
 wu:∀b,WU Q b->WU P b\/P.x.s.heap.get? b=none
 a7:∀z k fs ow a,ak P.σ z=some (.a7 k fs ow)->dB F.env P.x.s.heap z (.ref a)->(∃eY ow',ak Q.σ z=some (.a7 k eY ow'))/\dB F.env Q.x.s.heap z (.ref a)
section
variable{P Q R:St c F}{y w:Pt c}{z q:Str}{v:AV}{D:ao}{W:ao->Prop}{g:Nat}{ex:Str->Prop}
theorem XO{σ:ar}(nd:(σ.map (·.1)).Nodup)(h:ak (fL σ) z=some p):ak σ z=some (.pv p):=by
 obtain⟨⟨y,v⟩,m,e⟩:=ag9.mp (gN h);refine aB (tE.mp e) λp' e1 e2=>?_;induction v using lc with
 |pv p''=>cases ay e1;injection e2 with e2 e3;subst e2 e3;exact Ho nd m
 |_=>exact nS e1
theorem St.vars(P:St c F):bA F P.x (fL P.σ):=⟨P.cU,λz p h=>aB (P.own z _ (XO P.nd h)) λu V a=>(aA u V a.1)⟩
theorem St.HY(P:St c F)(h:dm F.env b):∃o,P.x.s.heap.get? b=some o:=by
 rcases h with rfl|⟨z,e⟩
 ·refine ut P.o.ns λm o es ep e _=>?_;exact⟨o,e⟩
 ·refine eH (P.cU z b e) λv o e _=>?_;exact⟨o,e⟩
theorem St.there(P:St c F)(h:ak P.σ z=some v)(m:b∈P.U z):∃o,P.x.s.heap.get? b=some o:=by refine aB (P.own z v h) λu _ a=>?_;exact a.there b m
theorem St.V1(P:St c F)(h:WU P b):¬dC b:=h.elim (λh=>qC (m9 h)) λh=>by refine eH h λz v h m=>?_;exact cK (P.fresh z v h b m).1.hi
theorem St.vI(P:St c F)(n:P.x.s.heap.get? b=none):¬dm F.env b:=λh=>(P.HY h).elim λo e=>nS (n.symm.trans e)
theorem St.xQ(P:St c F)(n:P.x.s.heap.get? b=none)(h:ak P.σ z=some v):b∉P.U z:=λm=>(P.there h m).elim λo e=>nS (n.symm.trans e)
structure kY(P:St c F)(y:Pt c)(ex:Str->Prop):Prop where
 sub:Sub P.x.f y.f
 old:∀q v,¬ex q->dB F.env P.x.s.heap q v->dB F.env y.s.heap q v
 cU:∀z a,F.env.cells.lookup z=some a->∃v,y.s.heap.IsCell a v
 o:jD F y
 keep:∀q v,¬ex q->ak P.σ q=some v->∀b∈P.U q,bV y b/\∀o,P.x.s.heap.get? b=some o->y.s.heap.get? b=some o
theorem kY.PC(U:kY P y ex)(n:¬ex q)(h:ak P.σ q=some v):∃u,dB F.env y.s.heap q u/\jn c y.f y.s.heap v u (P.U q):=aB (P.own q v h) λu V a=>(aA u (U.old q u n V) (a.mono (λb o m e=>(U.keep q v n h b m).2 o e) U.sub))
theorem kY.xW(l:br W g P.x y)(h1:∀b,W b->¬dm F.env b)(h2:∀q v,¬ex q->ak P.σ q=some v->∀b∈P.U q,¬W b):kY P y ex:=by
 have kv:∀b o,dm F.env b->P.x.s.heap.get? b=some o->y.s.heap.get? b=some o:=λb o w e=>l.e.keep b o e (qC w) λq=>h1 b q w;refine⟨l.sub,λq v _ V=>V.keep kv,λz a e=>?_,⟨?_,P.o.own.step l (P.HY (.inl rfl)) λq=>h1 _ q (.inl rfl),P.o.loc,λz e=>?_⟩,λq v n h b m=>⟨(P.fresh q v h b m).1.step l (P.there h m) (h2 q v n h b m),λo e=>l.e.keep b o e (cK (P.fresh q v h b m).1.hi) (h2 q v n h b m)⟩⟩
 ·refine eH (P.cU z a e) λv o e1 e2=>?_;exact(dh v o (kv a o (.inr ⟨z,e⟩) e1) e2)
 ·obtain⟨m,n⟩:=P.o.ns;exact⟨m,n.at' λo e=>kv _ o (.inl rfl) e⟩
 ·obtain⟨k1,a,b,n⟩:=P.o.ll z e;exact⟨k1,a,b,n.step l (P.HY (.inr ⟨z,b⟩)) λq=>h1 _ q (.inr ⟨z,b⟩)⟩
theorem kY.V6(S:zM F z u P.x y):kY P y (· =z):=⟨(S.wr 0).sub,λq v n V=>S.old q v n V,S.cU,S.r,λq v n h b m=>⟨(S.wr 0).free (P.fresh q v h b m).1,λo e=>(S.wr 0).e.keep b o e (cK (P.fresh q v h b m).1.hi) λw=>(P.fresh q v h b m).2 (m9 w)⟩⟩
noncomputable def St.move(P:St c F)(y:Pt c)(U:kY P y λ_=>False):St c F where
 x:=y
 σ:=P.σ
 U:=P.U
 nd:=P.nd
 cU:=U.cU
 o:=U.o
 own z v h:=U.PC id h
 fresh z v h b m:=⟨(U.keep z v id h b m).1,(P.fresh z v h b m).2⟩
 dj:=P.dj
structure Dq(P:St c F)(y:Pt c)(z:Str)(v:AV)(V:List ao):Prop where
 nv:∃u,dB F.env y.s.heap z u/\jn c y.f y.s.heap v u V
 fr:∀b∈V,bV y b/\¬dm F.env b
 ap:∀b∈V,∀q v,q≠z->ak P.σ q=some v->b∉P.U q
theorem Ϟ{U:Str->List ao}:xz U z V z=V:=iP rfl
theorem u_{U:Str->List ao}(n:q≠z):xz U z V q=U q:=iN n
theorem xG{U:Str->List ao}(e:q=z)(m:b∈xz U z V q):b∈V:=Eq.mp (af (b∈ ·) (iP e)) m
theorem s9{U:Str->List ao}(e:q≠z)(m:b∈xz U z V q):b∈U q:=Eq.mp (af (b∈ ·) (iN e)) m
def St.put(P:St c F)(y:Pt c)(z:Str)(v:AV)(V:List ao)(U:kY P y (· =z))(N:Dq P y z v V):St c F where
 x:=y
 σ:=cf P.σ z v
 U:=xz P.U z V
 nd:=OE P.nd
 cU:=U.cU
 o:=U.o
 own q u h:=s8 h (λe e'=>by erw[e];erw[e'];erw[Ϟ];exact N.nv) λn h=>by erw[u_ n];exact U.PC n h
 fresh q u h b m:=s8 h (λe _=>N.fr b (xG e m)) λn h=>⟨(U.keep q u n h b (s9 n m)).1,(P.fresh q u h b (s9 n m)).2⟩
 dj q r a d n h1 h2 b m m':=s8 h1 (λe _=>s8 h2 (λe' _=>n (e.trans e'.symm)) λn' h2=>N.ap b (xG e m) r d n' h2 (s9 n' m'))
  λn' h1=>s8 h2 (λe _=>N.ap b (xG e m') q a n' h1 (s9 n' m)) λn'' h2=>P.dj q r a d n h1 h2 b (s9 n' m) (s9 n'' m')
noncomputable def St.weak(P:St c F)(σ':ar)(nd:(σ'.map (·.1)).Nodup)(h:∀z v,ak σ' z=some v->ak P.σ z=some v):St c F:=
 {P with σ:=σ',nd:=nd,own:=λz v e=>P.own z v (h z v e),fresh:=λz v e=>P.fresh z v (h z v e),dj:=λz y v u n e1 e2=>P.dj z y v u n (h z v e1) (h y u e2)}
theorem bD.refl(P:St c F):bD P P:=⟨.refl,λ_=>.inl,λ_ _ fs ow _ h V=>⟨(jG fs ow h),V⟩⟩
theorem bD.EI(a:bD P Q)(l:cH W Q.x y)(h:∀b,W b->WU P b\/P.x.s.heap.get? b=none):cH (WU P) P.x y:=br.shrink (W':=λb=>WU P b\/P.x.s.heap.get? b=none) (cH.trans (a.st.weaken λ_=>.inl) (l.weaken h)) λ_=>id
theorem bD.trans(a:bD P Q)(b:bD Q R):bD P R where
 st:=a.EI b.st a.wu
 wu c q:=(b.wu c q).elim (a.wu c) λn=>(a.st.e.back (R.V1 q) n).symm
 a7 z k fs ow x h V:=by
  obtain⟨⟨eY,ow',h'⟩,V'⟩:=a.a7 z k fs ow x h V;exact b.a7 z k eY ow' x h' V'
theorem bD.move(a:bD P Q){U:kY Q y λ_=>False}(l:cH W Q.x y)(h:∀b,W b->WU P b\/P.x.s.heap.get? b=none):bD P (Q.move y U):=⟨a.EI l h,a.wu,λz k fs ow x e V=>(a.a7 z k fs ow x e V).imp id (U.old z _ id)⟩
theorem bD.put(a:bD P Q){U:kY Q y (· =z)}{N:Dq Q y z v V}(l:cH W Q.x y)(h:∀b,W b->WU P b\/P.x.s.heap.get? b=none)(hV:∀b∈V,WU P b\/P.x.s.heap.get? b=none)
(sl:∀k fs ow a,ak Q.σ z=some (.a7 k fs ow)->dB F.env Q.x.s.heap z (.ref a)->(∃eY ow',v=.a7 k eY ow')/\dB F.env y.s.heap z (.ref a)):bD P (Q.put y z v V U N) where
 st:=a.EI l h
 wu b q:=q.elim (λq=>a.wu b (.inl q)) λq=>eH q λr d h m=>s8 h (λe _=>hV b (xG e m)) λn h=>a.wu b (.inr (dh r d h (s9 n m)))
 a7 r k fs ow d h V':=by
  obtain⟨⟨eY,ow',h'⟩,Uo⟩:=a.a7 r k fs ow d h V';by_cases e:r=z
  ·subst e;obtain⟨⟨fs2,Uq,e⟩,V3⟩:=sl k eY ow' d h' Uo;exact⟨(jG fs2 Uq (wn.trans ((iP rfl).trans (af some e)))),V3⟩
  ·exact⟨(jG eY ow' (wn.trans ((iN e).trans h'))),U.old r _ e Uo⟩
theorem bD.weak{nd:(σ'.map (·.1)).Nodup}{h:∀z v,ak σ' z=some v->ak P.σ z=some v}(s:∀z k fs ow,ak P.σ z=some (.a7 k fs ow)->ak σ' z=some (.a7 k fs ow)):bD P (P.weak σ' nd h):=
 ⟨.refl,λb q=>.inl (q.imp id λ⟨z,v,e,m⟩=>(dh z v (h z v e) m)),λz k fs ow a e V=>⟨(jG fs ow (s z k fs ow e)),V⟩⟩
theorem kY.le(l:Le P.x y):kY P y ex:=.xW (W:=λ_=>False) (g:=0) l.st (λ_=>False.elim) λ_ _ _ _ _ _=>id
noncomputable def St.le(P:St c F)(l:Le P.x y):St c F:=P.move y (.le l)
theorem bD.le(l:Le P.x y):bD P (P.le l):=(bD.refl P).move (W:=λ_=>False) l.st λ_=>False.elim
def mB(P:St c F)(σ:ar)(b:ao):Prop:=∃z v,ak σ z=some v/\v.jo=true/\b∈P.U z
def Al(P:St c F):Fz:=λb=>open Classical in if mB P P.σ b then P.x.s.heap.get? b else P.x.f b
open Classical in
theorem Ev{X:Prop}(e:Al P b=some o)(k1:mB P P.σ b->P.x.s.heap.get? b=some o->X)(k2:P.x.f b=some o->X):X:=d3 e k1 λ_=>k2
open Classical in
theorem Si(h:mB P P.σ b):Al P b=P.x.s.heap.get? b:=iP h
open Classical in
theorem Sk(h:¬mB P P.σ b):Al P b=P.x.f b:=iN h
theorem mB.free(h:mB P P.σ b):bV P.x b/\¬dm F.env b:=by refine sx h λz v h _ m=>?_;exact P.fresh z v h b m
theorem zH:Sub P.x.f (Al P):=λb o e=>(Sk λq=>nS (q.free.1.f.symm.trans e)).trans e
def St.jo(P:St c F):Pt c where
 s:=P.x.s
 f:=Al P
 keep:=P.x.keep
 tab:=P.x.tab
 K a o e:=zH a o (P.x.K a o e)
 nt a o e:=Ev e (λq _=>cK q.free.1.hi) (P.x.nt a o)
 hs a o e:=Ev e (λ_=>id) (P.x.hs a o)
theorem St.rG(P:St c F):bA F P.jo (bB P.σ):=⟨P.cU,λz p h=>by
 refine aB (tE.mp (JO.symm.trans h)) λv h' bZ=>?_;subst bZ;exact aB (P.own z v h') λu V a=>(aA u V (J5 a zH λhv b o m e=>(Si (ye z v h' hv m)).trans e))⟩
theorem Og(h:(fz p v).jo=true):fz p v=v:=by
 induction v using lc with
 |own l=>
  by_cases q:cg [l] [] p=true
  ·rw[show fz p (.own l)=.pv (.list l) from iP q] at h;injection h
  ·exact iN q
 |_=>rfl
theorem Ap:ak (dZ p P.σ) z=(ak P.σ z).map (fz p):=JO
theorem ZM{σ:ar}:(dZ p σ).map (·.1)=σ.map (·.1):=by unfold dZ;erw[jt];rfl
theorem G5(h:mB P (dZ p P.σ) b):mB P P.σ b:=by
 refine sx h λz v' h hv m=>aB (tE.mp (Ap.symm.trans h)) λv h' bZ=>?_;subst bZ;exact(ye z v h' (Og hv▸hv) m)
def Pt.drop(y:Pt c)(D:ao->Prop)(h:∀a o,(KL c.w.params).lookup a=some o->¬D a):Pt c where
 s:=y.s
 f:=qr y.f D
 keep:=y.keep
 tab:=y.tab
 K a o e:=r9 (y.K a o e) (h a o e)
 nt a o e:=y.nt a o (It e).1
 hs a o e:=y.hs a o (It e).1
structure Rt(P:St c F)(p:PV)(y:Pt c)(Q:St c F):Prop where
 R:bD P Q
 s:Q.x.s=y.s
 σ:Q.σ=dZ p P.σ
 rd:∀v q,Rd q y v->cg (A0 (dZ p P.σ)) (zR (dZ p P.σ)) q=false->Rd q Q.x v
 rdl:∀vs l,bt l y vs->iq (A0 (dZ p P.σ)) (zR (dZ p P.σ)) l=false->bt l Q.x vs
 n:∀a,y.f a=none->Q.x.f a=none
 back:∀z v,ak Q.σ z=some v->∀b∈Q.U z,∃v',ak P.σ z=some v'/\b∈P.U z
 U:∀z v,ak Q.σ z=some v->v.ux=none->Q.U z=P.U z
theorem PI{σ:ar}(h:σ.any (λq=>q.2.kM&&q.2.seen p)=false):cg (A0 (dZ p σ)) (zR (dZ p σ)) p=false:=Vn λq m=>by
 obtain⟨⟨z,v⟩,m',rfl⟩:=rn.mp m;show(fz p v).seen p=false;induction v using lc with
 |own l=>
  by_cases q:cg [l] [] p=true
  ·erw[(show fz p (.own l)=.pv (.list l) from iP q)];exact JC
  ·erw[(show fz p (.own l)=.own l from iN q)];exact m8 q
 |a7 k fs ow=>exact m8 λe=>vd.mp h (z,.a7 k fs ow) m' (T9.mpr ⟨rfl,e⟩)|_=>exact JC
end
section
variable{P Q R:St c F}{y w:Pt c}{z q:Str}{v:AV}{g d:Nat}{A:Am d}{I:Ip}{e t:Expr}{l:List PV}{E:ac->ag->Prop}
noncomputable def Ao(v:AV)(V:List ao):List ao:=match v with
 |.pv _=>[]|_=>V
theorem EP(m:b∈Ao v V):b∈V/\v.ux=none:=by
 induction v using lc with
 |pv=>exact absurd m eX|_=>exact⟨m,rfl⟩
theorem NB(h:(fz p v).ux=none):fz p v=v:=by
 induction v using lc with
 |own l=>
  by_cases q:cg [l] [] p=true
  ·rw[show fz p (.own l)=.pv (.list l) from iP q] at h;injection h
  ·exact iN q
 |_=>rfl
theorem Me(P:St c F)(hs:P.σ.any (λq=>q.2.kM&&q.2.seen p)=false)(l:Le P.jo y):∃Q,Rt P p y Q:=by
 have hK:∀a o,(KL c.w.params).lookup a=some o->¬mB P (dZ p P.σ) a:=λa o e q=>nS ((G5 q).free.1.f.symm.trans (P.x.K a o e));have get:∀{z v'},ak (dZ p P.σ) z=some v'->∃v,ak P.σ z=some v/\fz p v=v':=λh=>tE.mp (Ap.symm.trans h);have sub:Sub P.x.f (y.drop _ hK).f:=λa o e=>r9 (l.sub a o (zH a o e)) λq=>nS ((G5 q).free.1.f.symm.trans e);have vk:∀{z u},dB F.env P.x.s.heap z u->dB F.env y.s.heap z u:=λV=>V.keep λb o w e=>l.e.keep b o e (qC w);have uk:∀{z v},ak P.σ z=some v->∀b o,b∈P.U z->P.x.s.heap.get? b=some o->y.s.heap.get? b=some o:=λh b o m e=>l.e.keep b o e (cK (P.fresh _ _ h b m).1.hi);have at_:∀{b o},mB P P.σ b->P.x.s.heap.get? b=some o->y.f b=some o:=λq e=>l.sub _ _ ((Si q).trans e);have hU:∀{z v'},ak (dZ p P.σ) z=some v'->Ao ((ak (dZ p P.σ) z).getD (.pv .none)) (P.U z)=Ao v' (P.U z):=λh=>by erw[h];rfl
 have X:=P.rG.le l;have none_:∀{b},P.x.f b=none->(∃o,P.x.s.heap.get? b=some o)->(mB P P.σ b->mB P (dZ p P.σ) b)->(y.drop _ hK).f b=none:=λ{b} n t k=>QG λnd=>by
  cases e:y.f b with
  |none=>rfl|some o=>exact(l.new b o e).elim (λq=>nS (((Sk λq=>nd (k q)).trans n).symm.trans q)) λq=>t.elim λo' e'=>nS (q.symm.trans e')
 let Q:St c F:={
  x:=y.drop _ hK
  σ:=dZ p P.σ
  U:=λz=>Ao ((ak (dZ p P.σ) z).getD (.pv .none)) (P.U z)
  nd:=ZM.symm▸P.nd
  cU:=X.cU
  o:=P.o.keep P.cU (λb o w e=>l.e.keep b o e (qC w)) λb w n t=>⟨none_ n.f t λq=>absurd w q.free.2,n.h₀,n.hi⟩
  own:=λz v' h=>by
   refine aB (get h) λv h1 bZ=>?_;subst bZ;refine aB (P.own z v h1) λu V a=>aa (hU h) ((aA u (vk V) (?_)));have keep:(fz p v)=v->jn c (y.drop _ hK).f y.s.heap (fz p v) u (Ao (fz p v) (P.U z)):=λe=>by
    erw[e];have a':=a.mono (λb o m=>uk h1 b o m) sub;induction v using lc with
    |pv=>exact⟨a'.1,rfl⟩|_=>exact a'
   induction v using lc with
   |own l'=>
    by_cases s:cg [l'] [] p=true
    ·refine aa (show fz p (.own l')=.pv (.list l') from iP s) (⟨J5 (v:=.own l') a sub λ_ b o m e=>r9 (at_ (ye z _ h1 rfl m) e) λq=>?_,rfl⟩);refine sx q λz' v' h2 hv m'=>aB (get h2) λv2 h3 e3=>?_;by_cases ez:z=z'
     ·subst ez;obtain rfl:=ay (h1.symm.trans h3);rw[<-e3,show fz p (.own l')=.pv (.list l') from iP s] at hv;injection hv
     ·exact P.dj z z' _ _ ez h1 h3 b m m'
    ·exact keep (iN s)
   |_=>exact keep rfl
  fresh:=λz v' h b m=>by
   refine aB (get h) λv h1 bZ=>?_;subst bZ;rw[hU h] at m;have mm:=EP m;have f:=P.fresh z v h1 b mm.1;refine⟨⟨none_ f.1.f (P.there h1 mm.1) λq=>?_,f.1.h₀,f.1.hi⟩,f.2⟩;refine sx q λz2 v2 h2 hv m2=>?_;by_cases ez:z=z2
   ·subst ez;obtain rfl:=ay (h1.symm.trans h2);exact(ye z _ h ((NB mm.2).symm▸hv) m2)
   ·exact absurd m2 (P.dj z z2 _ _ ez h1 h2 b mm.1)
  dj:=λz y v' u' n h1 h2 b m m'=>by
   refine aB (get h1) λv h3 _=>aB (get h2) λu h4 _=>?_;rw[hU h1] at m;rw[hU h2] at m';exact P.dj z y v u n h3 h4 b (EP m).1 (EP m').1}
 have back:∀z v,ak Q.σ z=some v->∀b∈Q.U z,∃v',ak P.σ z=some v'/\b∈P.U z:=λz v h b m=>aB (get h) λv' h1 _=>(aA v' h1 ((EP (Eq.mp (af (b∈ ·) (hU h)) m)).1));have hD:∀a o,mB P (dZ p P.σ) a->y.f a=some o->sy c y.f (A0 (dZ p P.σ)) (zR (dZ p P.σ)) o:=λa o q e=>by
  have qb:=G5 q;refine sx q λz v' h hv m=>aB (get h) λv h1 bZ=>?_;subst bZ;refine aB (P.own z v h1) λu _ ua=>dL (P.there h1 m) λo' e'=>?_;obtain rfl:=ay (e.symm.trans (at_ qb e'));rw[Og hv] at h hv;exact(YE ua hv (λb o e=>l.sub b o (zH b o e)) m e').mono (λl k=>Gm.mpr (aA _ (gN h) k)) λq k=>Gm.mpr (aA _ (gN h) k)
 exact⟨Q,⟨⟨sub,λa o e=>(l.new a o (It e).1).elim (λq=>Ev q (λq _=>.inr (.inr (.inr (by refine sx q λz v h _ m=>?_;exact(dh z v h m))))) .inl) λq=>.inr (.inl q),l.e.nJ⟩,
   λb q=>.inl (q.imp id λq=>by refine eH q λz v h m=>?_;refine dL (back z v h b m) λv' k=>?_;exact(jG z v' k)),λz k fs ow a h V=>⟨(jG fs ow (Ap.trans (af (eP (fz p)) h))),vk V⟩⟩,rfl,rfl,λv q r n=>r.gL hD n,λvs l r n=>r.gL hD n,λa e=>QG λ_=>e,back,λz v h n=>(hU h).trans (by cases v<;>first|rfl|exact nS n.symm)⟩
structure gc(P:St c F)(σ':ar)(Q:St c F):Prop where
 R:bD P Q
 σ:Q.σ=σ'
 e:e9 P.x.s Q.x.s
 back:∀z v,ak Q.σ z=some v->∀b∈Q.U z,∃v',ak P.σ z=some v'/\b∈P.U z
 U:∀z v,ak Q.σ z=some v->v.ux=none->Q.U z=P.U z
 a7:∀z v,ak P.σ z=some v->v.kM=true\/v.EE.isSome=true->ak σ' z=some v
theorem gc.var(X:gc P σ' Q)(V:dB F.env P.x.s.heap z u):dB F.env Q.x.s.heap z u:=V.keep λb o w e=>X.e.keep b o e (qC w)
theorem gc.le(l:Le P.x y):gc P P.σ (P.le l):=⟨.le l,rfl,l.e,λz v h b m=>(aA v h m),λ_ _ _ _=>rfl,λz v h _=>h⟩
theorem gc.seen(s:Rt P p y Q)(e:e9 P.x.s y.s):gc P (dZ p P.σ) Q:=⟨s.R,s.σ,s.s▸e,s.back,s.U,λz v h k=>Ap.trans (by
 erw[h];induction v using lc with
 |own=>exact k.elim ff ff|_=>rfl)⟩
theorem uJ{α β:Type}{o:Option α}{f:α->Option β}{g:Option β}{b:β}{X:Prop}(h:qM o f g=some b)(k1:∀a,o=some a->f a=some b->X)(k2:o=none->g=some b->X):X:=by
 induction o using qy with
 |none=>exact k2 rfl h|some a=>exact k1 a rfl h
theorem sq{X:Prop}{ev:bj->Expr->Option PV}{σ:ar}(h:bW ev σ e=some (p,σ'))(k1:ev (fL σ) e=some p->σ'=σ->X)(k2:ev (bB σ) e=some p->σ.any (λq=>q.2.kM&&q.2.seen p)=false->σ'=dZ p σ->X):X:=
 uJ h (λp' e1 h=>by cases ay h;exact k1 e1 rfl) λ_ h=>aj h λp' e2 h=>fZ h λn h=>by cases ay h;exact k2 e2 (m8 n) rfl
theorem qh(S:aW c d I)(h:bW (I.e F.nm) P.σ e=some (p,σ')){K:ac->ag->Prop}(k:∀u Q,gc P σ' Q->Rd p Q.x u->K u Q.x.s):ai (ah pw c.w) A.A (eval e F.env) K E P.x.s:=
 sq h (λh e=>S.ev h P.vars _ _ λu y l r=>k u (P.le l) (e▸ .le l) r) λh hs e=>S.ev (x:=P.jo) h P.rG _ _ λu y l r=>by
  obtain⟨Q,s⟩:=Me (p:=p) P hs l;exact s.s▸k u Q (e▸ .seen s l.e) (s.rd u p r (PI hs))
theorem Mt(l:Le P.jo y):Le P.x (P.x.to y.s l.e y.tab):=.to _ _
theorem RS(S:aW c d I){b:Bool}(h:I.t F.nm (bB P.σ) t=some b){K:Bool->ag->Prop}(k:∀Q,gc P P.σ Q->K b Q.x.s):ai (ah pw c.w) A.A (isTrue t F.env (eval t F.env)) K E P.x.s:=
 S.te (x:=P.jo) h P.rG _ _ λb' y l e=>(e:b'=b)▸k (P.le (Mt l)) (.le _)
theorem Jc(S:aW c d I)(h:I.e F.nm (bB P.σ) e=some p){K:ac->ag->Prop}(k:∀u Q,gc P P.σ Q->(p.isScalar=true->Rd p Q.x u)->K u Q.x.s):ai (ah pw c.w) A.A (eval e F.env) K E P.x.s:=
 S.ev (x:=P.jo) h P.rG _ _ λu y l r=>k u (P.le (Mt l)) (.le _) λs=>r.scalar s
theorem lU{σ₀:ar}(h:putN F.nm z v σ₀=some σ'):(ak F.nm z=some .local\/ak F.nm z=some .cell)/\cf σ₀ z v=σ'/\(t7 σ₀ z=true->v.kM=true):=by
 refine fZ h λn h=>(eA ((AW h).1) ((AW h).2) (λe=>?_));cases q:v.kM with
 |true=>rfl|false=>exact absurd (T9.mpr ⟨e,by erw[q];rfl⟩) n
theorem afx{σ:ar}{k fs ow}(h:ak σ z=some (.a7 k fs ow)):t7 σ z=true:=by unfold t7;erw[h];rfl
theorem BW{M:f4}{A:bh}{K:Unit->ag->Prop}(R:bD P Q)(h:putN F.nm z v Q.σ=some σ')(ns:t7 Q.σ z=false)(a:jn c Q.x.f Q.x.s.heap v u V)(fr:∀b∈V,bV Q.x b/\¬dm F.env b)(ap:∀b∈V,∀q v,q≠z->ak Q.σ q=some v->b∉Q.U q)(hV:∀b∈V,WU P b\/P.x.s.heap.get? b=none)
(k:∀Q',bD P Q'->Q'.σ=σ'->Q'.U=xz Q.U z V->zM F z u Q.x Q'.x->K () Q'.x.s):ai M A (Cc F.env z u) K E Q.x.s:=by
 refine e8 (lU h) λq bY _=>?_;subst bY;exact Mw Q.cU Q.o q λy S=>k (Q.put y z v V (.V6 S) ⟨(aA u S.at_ (a.mono (λb o m e=>(S.wr 0).e.keep b o e (cK (fr b m).1.hi) λw=>(fr b m).2 (m9 w)) (S.wr 0).sub)),λb m=>⟨(S.wr 0).free (fr b m).1,(fr b m).2⟩,ap⟩)
  (R.put (S.wr _).st (λb q=>.inl (.inl q)) hV λk fs ow a h _=>ff (ns.symm.trans (afx h))) rfl rfl S
theorem Eu(h:putN F.nm z v Q.σ=some σ')(n:v.kM=false):t7 Q.σ z=false:=m8 λe=>ff (n.symm.trans ((lU h).2.2 e))
theorem v6{M:f4}{A:bh}{K:Unit->ag->Prop}(R:bD P Q)(h:putN F.nm z (.pv p) Q.σ=some σ')(r:Rd p Q.x u)(k:∀Q',bD P Q'->Q'.σ=σ'->Sub Q.x.f Q'.x.f->K () Q'.x.s):ai M A (Cc F.env z u) K E Q.x.s:=
 BW (V:=[]) R h (Eu h rfl) ⟨r,rfl⟩ (λ_ m=>mN m) (λ_ m=>mN m) (λ_ m=>mN m) λQ' R e _ S=>k Q' R e (S.wr 0).sub
theorem Ms{K:Unit->ag->Prop}(R:bD P Q)(h:fT (sk F.nm) t p Q.σ=some σ')(r:Rd p Q.x u)(k:∀Q',bD P Q'->Q'.σ=σ'->K () Q'.x.s):ai (ah pw c.w) A.A (uT t F.env u) K E Q.x.s:=
 Qy (St:=λσ y=> ∃Q,bD P Q/\Q.σ=σ/\Q.x=y) (λh s r k=>by
  obtain⟨Q,R,rfl,rfl⟩:=s;exact v6 R h r λQ' R' e b=>k Q'.x (cz Q' R' e rfl) b) (λ{σ x h' k} s=>by
  refine cP s λQ R e c4=>?_;subst c4;exact(cz (Q.le (Q.x.cG k)) (R.trans (.le _)) e rfl)) h (cz Q R rfl rfl) r λy s=>by
  refine cP s λQ R e c4=>?_;subst c4;exact k Q R e
end
end
section
variable{c:Cx}{F:Fm}{P Q R:St c F}{x y w:Pt c}{z q:Str}{v v':AV}{u:ac}{V:List ao}{a b:ao}{d k n:Nat}{p r:PV}{σ' cJ:ar}{σ:bj}{o:Obj}{A:Am d}{I:Ip}{e t i:Expr}{O:aK}{l:List PV}{E K:ac->ag->Prop}{vals:List ac}{cp pos xp ap tp:Pos}{args:List Expr}{op:ia}
section
variable{D C:ao}{g:Nat}{J:Ip}{m:List PV}
theorem Rm{t:Nat}(r:bt l x vals)(hz:l.length<=az):mj x (x.push (bu vals n) t) x.s.heap.objs.size l:=by
 have f:=x.free (bf _) (eV _);exact⟨x.cG _,(dh vals n (ft _ rfl) r),hz,⟨f.f,f.h₀,f.hi⟩,eV _⟩
theorem mj.pre(le:Le x y)(g:mj y w D l):mj x w D l:=⟨le.trans g.le,g.d,g.len,g.fr,le.e.back (cK g.fr.hi) g.nw⟩
def afs(A:Am d)(t:Sem ac)(x:Pt c)(l:List PV):Prop:=∀(K:ac->ag->Prop) E,(∀y D,mj x y D l->K (.ref D) y.s)->ai (ah pw c.w) A.A t K E x.s
theorem NX(S:aW c d I)(ov:Ov c d)(h:oU O I J F.nm σ e=some (.list l))(hf:sG e=true)(X:bA F x σ):afs A (eval e F.env) x l:=λK E k=>by
 induction e using ej with
 |List es ps=>
  exact aj h λl' h1 h=>aL h λz h=>by
   cases ay h;exact wpAny_List ((rM S h1).2 X _ _ λus y le r=>⟨l4 (us:=[]) (m:=[]) r z (r':=.nil) rfl,k _ _ ((Rm (t:=y.s.toks) (n:=0) r z).pre le)⟩)
 |BinOp e1 op e2 ps=>
  have hf:=aX hf;cases a5 hf.2;refine aj h λp h1 h=>aj h λq h2 h=>?_;obtain⟨m,rfl⟩:∃m,p=.list m:=by
   induction e1 using ej with
   |List es ps=>exact S.lst h1|_=>exact ff hf.1
  refine aj (show(q.eg.bind λj=>if 0<=j/\j<=100/\m.length<=100 then some (PV.list (kt j.toNat m).flatten) else none)=some (.list l) from h) λj hj h=>aL h λc h=>?_;cases ay h;exact wpAny_BinOp (S.ev h1 X _ _ λu y le r=>S.ev h2 (X.le le) _ _ λu' w tJ r'=>NC (r.mono tJ.sub) (eu (m:=λq=>Rd q w u'->Rd (.int j) w u') hj id r') c.1 c.2.1 c.2.2 λr z=>k _ _ ((Rm (t:=w.s.toks) (n:=0) r z).pre (le.trans tJ)))
 |ListComp elt gens sc ps=>
  refine wa (yo h) λt it ifs gs l' tI e=>?_;subst tI;cases e;rw[eval_ListComp];exact Dd (use:=none) S ov h X λy D C g q=>by
   obtain⟨m,ns⟩:=q.ns;exact(aA m ns (λh' hs=>by refine aB (g.but q hs) λw g' e=>?_;exact e▸k w D g'))
 |_=>exact ff hf
structure sM(P Q:St c F)(D:ao)(l:List PV):Prop where
 d:∃vals n,Q.x.s.heap.get? D=some (bu vals n)/\bt l Q.x vals
 len:l.length<=az
 fr:bV Q.x D
 nw:P.x.s.heap.get? D=none
 env:¬dm F.env D
 U:∀q v,ak Q.σ q=some v->D∉Q.U q
theorem sM.mk'(nw:P.x.s.heap.get? D=none)(X:gc P σ' Q)(d:∃vals n,Q.x.s.heap.get? D=some (bu vals n)/\bt l Q.x vals)(len:l.length<=az)(fr:bV Q.x D):sM P Q D l:=⟨d,len,fr,nw,P.vI nw,λq v h m=>aB (X.back q v h D m) λv' h' m'=>P.xQ nw h' m'⟩
theorem afy{ls:List (List PV)}{cs:List (Nat×List Str)}(h:cg ls cs (.list l)=false):iq ls cs l=false:=(eQ h).2
theorem NY(g:mj P.x y D l):∃Q,gc P P.σ Q/\sM P Q D l/\Q.x.s=y.s/\∀a,y.f a=none->Q.x.f a=none:=(wc (P.le g.le) (.le _) (.mk' g.nw (.le g.le) g.d g.len g.fr) rfl (λ_ e=>e))
theorem Nd(hs:P.σ.any (λq=>q.2.kM&&q.2.seen (.list l))=false)(g:mj P.jo y D l):∃Q,gc P (dZ (.list l) P.σ) Q/\sM P Q D l/\Q.x.s=y.s/\∀a,y.f a=none->Q.x.f a=none:=by
 refine dL (Me (p:=.list l) P hs g.le) λQ s=>?_;have X:gc P (dZ (.list l) P.σ) Q:=.seen s g.le.e;exact eH g.d λvals n e r=>(wc Q X (.mk' g.nw X (dh vals n (s.s.symm▸e) (s.rdl _ _ r (afy (PI hs)))) g.len ⟨s.n _ g.fr.f,g.fr.h₀,g.fr.hi⟩) s.s s.n)
theorem HU(S:aW c d I)(ov:Ov c d)(h:bW (oU O I J F.nm) P.σ e=some (.list l,σ'))(hf:sG e=true){K:ac->ag->Prop}(k:∀Q D,gc P σ' Q->sM P Q D l->K (.ref D) Q.x.s):ai (ah pw c.w) A.A (eval e F.env) K E P.x.s:=
 sq h (λh e=>NX S ov h hf P.vars _ _ λy D g=>by refine kP (NY g) λQ X L s _=>?_;exact s▸k Q D (e▸X) L)
  λh hs e=>NX (x:=P.jo) S ov h hf P.rG _ _ λy D g=>by refine kP (Nd hs g) λQ X L s _=>?_;exact s▸k Q D (e▸X) L
theorem sM.take(R:bD P Q)(L:sM P Q D l):∃Q',bD P Q'/\Q'.σ=Q.σ/\Q'.x.s=Q.x.s/\Rd (.list l) Q'.x (.ref D)/\(∀a,a≠D->Q.x.f a=none->Q'.x.f a=none)/\Q'.U=Q.U:=by
 refine eH L.d λvals n e r=>?_;have st:∀g,br (λb=>b=D) g Q.x (Q.x.add D _ e (cK L.fr.hi)):=λg=>⟨Pt.Bu,λa o q=>Dc q (λq _=>.inr (.inr q)) .inl,.refl _⟩;refine(h_ (Q.move _ (.xW (st 0) (λb q=>q▸L.env) λq v _ h b m q'=>L.U q v h (q'▸m))) (R.move (st _) λb q=>.inr (q▸L.nw)) rfl rfl (.list o5 (r.mono (st 0).sub) L.len) (λa n h=>(iN n).trans h) rfl)
theorem I7{M:f4}{A:bh}{b:Bool}{K:Unit->ag->Prop}(X:gc P σ' Q)(L:sM P Q D l)(h:putN F.nm z (if b=true then .own l else .pv (.list l)) Q.σ=some cJ)
(k:∀R,bD P R->R.σ=cJ->(∀q v,ak cJ q=some v->∀a∈R.U q,a=D\/∃o,P.x.s.heap.get? a=some o)->(∀a,a≠D->Q.x.f a=none->R.x.f a=none)->(∀a o,Q.x.s.heap.get? a=some o->¬dC a->¬dm F.env a->R.x.s.heap.get? a=some o)->K () R.x.s):ai M A (Cc F.env z (.ref D)) K E Q.x.s:=by
 have old:∀q v,ak Q.σ q=some v->∀a∈Q.U q,∃o,P.x.s.heap.get? a=some o:=λq v h a m=>aB (X.back q v h a m) λv' h' m'=>P.there h' m';induction b using ji with
 |true=>
  refine BW (V:=[D]) X.R h (Eu h rfl) (cz D rfl ⟨L.d,L.len⟩ rfl) (λb m=>cY m▸⟨L.fr,L.env⟩) (λb m q v _ h=>cY m▸L.U q v h) (λb m=>.inr (cY m▸L.nw)) λR r e u S=>k R r e (λq v h' a m=>?_) (λa n f=>((S.wr 0).sub|>λ_=>congrFun (S.wr 0).f a).trans f) λa o e t n=>(S.wr 0).e.keep a o e t λw=>n (m9 w);refine e8 (lU h) λ_ bY _=>?_;subst bY;rw[u] at m;exact s8 h' (λe _=>.inl (cY (xG e m))) λn h'=>.inr (old q v h' a (s9 n m))
 |false=>
  refine VT (L.take X.R) λQ' R' e1 e2 r f u'=>e2▸BW (v:=.pv (.list l)) (V:=[]) R' (e1.symm▸h) (e1.symm▸Eu h rfl) ⟨r,rfl⟩ (λ_ m=>mN m) (λ_ m=>mN m) (λ_ m=>mN m) λR r e u S=>k R r e (λq v h' a m=>?_) (λa n h=>(congrFun (S.wr 0).f a).trans (f a n h)) λa o e t n=>(S.wr 0).e.keep a o (e2▸e) t λw=>n (m9 w);refine e8 (lU h) λ_ bY _=>?_;subst bY;rw[u] at m;exact s8 h' (λe _=>mN (xG e m)) λn h'=>.inr (old q v h' a (u'▸s9 n m))
def Nx(A:Am d)(P:St c F)(st:aH)(σ':ar):Prop:=∀(K:Flow->ag->Prop) E,(∀Q,bD P Q->Q.σ=σ'->K .next Q.x.s)->ai (ah pw c.w) A.A (iI st F.env) K E P.x.s
theorem vM:Ky F.env=false:=by unfold Ky;erw[F.kind];rfl
theorem Zo{f:Expr}{kws:List fj}(S:aW c d I)(h:I.e F.nm (bB P.σ) (.Call f args kws cp)=some p):Nx A P (.Expr (.Call f args kws cp) pos) P.σ:=λK E k=>yZ (Jc S h λu Q X _=>k Q X.R X.σ) vM rfl
theorem Rr{t:Option Expr}{line:Nat}{env:Env}(h:qa e=true)(hc:∀elt gens sc pos,e≠ .ListComp elt gens sc pos):swapsWith e t line env=pure false:=by
 cases e<;>first|rfl|exact absurd h dy|exact absurd rfl (hc _ _ _ _)
theorem sD(S:aW c d I)(h:bW (I.e F.nm) P.σ e=some (p,σ')):qa e=true:=sq h (λh _=>S.nZ h) λh _ _=>S.nZ h
theorem Yw(S:aW c d I)(h:bW (I.e F.nm) P.σ e=some (p,σ'))(hp:putN F.nm z (.pv p) σ'=some cJ)(hc:∀elt gens sc pos,e≠ .ListComp elt gens sc pos):Nx A P (.Assign [.Name z xp] e pos) cJ:=λK E k=>
 y0 (qh S h λu Q X r=>v6 X.R (X.σ.symm▸hp) r λR r e _=>k R r e) (Rr (sD S h) hc)
theorem adV{b:Bool}(S:aW c d I)(ov:Ov c d)(h:bW (oU O I J F.nm) P.σ e=some (.list l,σ'))(hf:sG e=true)(hp:putN F.nm z (if b=true then .own l else .pv (.list l)) σ'=some cJ)(hc:∀elt gens sc pos,e≠ .ListComp elt gens sc pos):Nx A P (.Assign [.Name z xp] e pos) cJ:=λK E k=>
 y0 (HU S ov h hf λQ D X L=>I7 X L (X.σ.symm▸hp) λR r e _ _ _=>k R r e) (Rr (sq h (λh _=>Jr h) λh _ _=>Jr h) hc)
theorem ϯ{elt:Expr}{gens:List jL}{sc:fk}{b:Bool}(S:aW c d I)(ov:Ov c d)(h:bW (oU O I J F.nm) P.σ (.ListComp elt gens sc cp)=some (.list l,σ'))(hp:putN F.nm z (if b=true then .own l else .pv (.list l)) σ'=some cJ):Nx A P (.Assign [.Name z xp] (.ListComp elt gens sc cp) pos) cJ:=λK E k=>by
 obtain⟨sw,hb⟩:∃b,swapsWith (.ListComp elt gens sc cp) (some (.Name z xp)) pos.line F.env=pure b:=⟨_,rfl⟩;induction sw using ji with
 |false=>exact y0 (HU S ov h rfl λQ D X L=>I7 X L (X.σ.symm▸hp) λR r e _ _ _=>k R r e) hb
 |true=>
  erw[exec_Assign_Name_used _ _ _ _ hb];have fin:∀{y:Pt c} {Q:St c F} {D C:ao},gc P σ' Q->sM P Q D l->Q.x.s=y.s->(∀a,y.f a=none->Q.x.f a=none)->P.x.s.heap.get? C=none->C≠D->bV y C->(∃m,y.s.heap.Ns C m)->
    ai (ah pw c.w) A.A (uT (.Name z xp) F.env (.ref D)) (λ_ i8=> ∃m,i8.heap.Ns C m/\∀h',dD C i8.heap h'->K .next {i8 with heap:=h'}) E y.s:=λ{y Q D C} X L s f nw ne fr ns=>by
   refine ut ns λm o es ep e1 e2=>?_;rw[<-s] at e1⊢;refine SP (I7 X L (X.σ.symm▸hp) λR r e hU hf hk=>?_);have cw:=P.vI nw;have ns:R.x.s.heap.Ns C m:=(AN o es ep (hk C o e1 (cK fr.hi) cw) e2);refine(aA m ns (λh' hs=>?_));have w:∀g,Wr (λb=>b=C) g R.x (R.x.but (t:=R.x.s.toks) hs ⟨hf C ne (f C fr.f),fr.h₀,fr.hi⟩ (Ik ns)):=λg=>.but rfl;exact k (R.move _ (.xW (w 0).st (λb q=>q▸cw) λq v _ h b m q'=>(hU q v (e▸h) b m).elim (λq=>ne (q'.symm.trans q)) λq=>q.elim λo e=>nS (nw.symm.trans (q'▸e)))) (r.move (w _).st λb q=>.inr (q▸nw)) e
  refine ae (jr (ae (sq h (λh e=>?_) λh hs e=>?_)))
  ·refine wa (yo h) λt it ifs gs l' tI e'=>?_;subst tI;cases e';exact ae (cQ (Dd (A:=A) (use:=some (uT (.Name z xp) F.env)) (Q:=λ_ s'=>K .next s') S ov h P.vars λy D C g q=>by refine kP (NY g) λQ X L s f=>?_;exact fin (e▸X) L s f q.nw q.ne q.fr q.ns) (λ_ s' hq=>au (au hq)) λ_ _ e=>e)
  ·refine wa (yo h) λt it ifs gs l' tI e'=>?_;subst tI;cases e';exact ae (cQ (Dd (A:=A) (x:=P.jo) (use:=some (uT (.Name z xp) F.env)) (Q:=λ_ s'=>K .next s') S ov h P.rG λy D C g q=>by refine kP (Nd hs g) λQ X L s f=>?_;exact fin (e▸X) L s f q.nw q.ne q.fr q.ns) (λ_ s' hq=>au (au hq)) λ_ _ e=>e)
end
section
variable{m:Str}{l':List PV}{es:List Expr}
theorem Ow{y:Str×Pos}(h:Hc e=some y):e=.Name y.1 y.2:=by
 induction e using ej with
 |Name=>cases ay h;rfl
 |_=>exact nS h
structure adA(O:Prop)(ts:List Expr)(n:Nat)(env:Env)(e:Expr):Prop where
 as:O
 abr:swapsWithSole ts e n env=pure false
 sw:swappedStores ts e env=pure none
theorem aa2{nm:aN}{G:Prop}(hp:Iy nm es k tp p σ' e=some cJ)(K1:∀vs j vp,e=.Tuple vs j vp->G)(K2:adA (fT (sk nm) (.Tuple es k tp) p σ'=some cJ) [.Tuple es k tp] n env e->G):G:=by
 induction e using ej with
 |Tuple vs j vp=>exact K1 vs j vp rfl|List=>exact nS hp|Set=>exact nS hp|_=>exact K2 ⟨hp,rfl,rfl⟩
theorem aaa{f:Expr->Option Str}{e e':Expr}{x y:Str}(h:f e=some x)(k:f e'=some y):[e,e'].filterMap f=[x,y]:=by rw[Kz h,Kz k];rfl
theorem Ϯ{env:Env}{v1 v2:Expr}{a b:Str×Pos}{vp:Pos}{j:Nat}(ns:∀e∈[v1,v2],iC e=false)(bk:env.blockKind=.function)(l1:env.kindOf a.1=some .local)(l2:env.kindOf b.1=some .local)(k3:¬a.1=b.1)(k4:a.2.line=b.2.line)
(k5:yX 8 v1=false\/yX 8 v2=false)(k6:yY 8 v1=false\/yY 8 v2=false):swappedStores [.Tuple [.Name a.1 a.2,.Name b.1 b.2] k tp] (.Tuple [v1,v2] j vp) env=pure (some [a.1,b.1]):=by
 have e5:¬([v1,v2].all (yX 8))=true:=by simp only[Ko,List.all_nil,Kr,mK];rcases k5 with q|q<;>simp[q]
 have e6:¬([v1,v2].all (yY 8))=true:=by simp only[Ko,List.all_nil,Kr,mK];rcases k6 with q|q<;>simp[q]
 have nb:(b.1==a.1)=false:=kH (gV k3);refine(iN ?_).trans ?_
 ·simp[bk]
 refine(iN ?_).trans ?_
 ·rw[Bool.not_eq_true];refine vd.mpr λe m=>?_;have:=ns e m;clear m;induction e using ej with
  |Starred=>exact tf this|_=>exact dy
 rw[show(([Expr.Name a.1 a.2,Expr.Name b.1 b.2].head?.map (·.pos.line)).getD 0)=a.2.line from rfl];dsimp only;rw[aaa (x:=a.1) (y:=b.1) (iP (by rw[l1];simp)) (iP (by rw[l2,k4];simp))];exact(iN (by simp[List.eraseDups_cons,nb])).trans ((iN e5).trans (iN e6))
theorem U5{nm:aN}{v:Expr×Expr}{a b:Str×Pos}(h:JA nm v a b=true)(G:Prop)(K:ak nm a.1=some .local->ak nm b.1=some .local->¬a.1=b.1->a.2.line=b.2.line->(yX 8 v.1=false\/yX 8 v.2=false)->(yY 8 v.1=false\/yY 8 v.2=false)->G):G:=by
 unfold JA at h;simp only[mK,beq_iff_eq,bne_iff_ne,ne_eq,tu,Bool.and_eq_false_iff] at h;exact K h.1.1.1.1.1 h.1.1.1.1.2 h.1.1.1.2 h.1.1.2 h.1.2 h.2
theorem Zv(S:aW c d I)(h:bW (I.e F.nm) P.σ e=some (p,σ'))(hp:Iy F.nm es k tp p σ' e=some cJ):Nx A P (.Assign [.Tuple es k tp] e pos) cJ:=λK E kk=>
 aa2 (n:=pos.line) (env:=F.env) hp (λvs j vp eq=>by
  subst eq;have ns:∀e∈vs,iC e=false:=sq h (λh _=>S.tup h) λh _ _=>S.tup h;refine bE λgG hG=>aL hp λok hp=>aj hp λee h1 hp=>aj hp λa ha hp=>aj hp λb hb hp=>aj hp λpr LD hp=>aj hp λahO g1 g2=>?_;have ok:=a5 ok;refine aj ok λe2 h2 ok=>aj ok λv2 hv ok=>aj ok λa' rA ok=>fH ok λb' ry okk=>?_;obtain rfl:=ay (h1.symm.trans h2);have ea:=Ow rA;have eb:=Ow ry;rw[ea] at ha;rw[eb] at hb;obtain rfl:=ay ha;obtain rfl:=ay hb;have ee':es=[.Name a'.1 a'.2,.Name b'.1 b'.2]:=ea▸eb▸xB h1 rfl;have vv:vs=[v2.1,v2.2]:=xB hv rfl;refine U5 okk _ λk1 k2 k3 k4 k5 k6=>hG ?_;subst ee' vv;refine Assign_Tuple_swapped (names:=[a'.1,b'.1]) (qh S h λu Q X r=>?_) rfl (Ϯ ns (by unfold Env.blockKind;erw[F.kind];rfl) (P.o.loc _ k1) (P.o.loc _ k2) k3 k4 k5 k6);revert r;refine aj LD λl hl LD=>JT hl λr=>xB (m:=λl=>Rd (.tup l) Q.x u->_) LD (λr=>?_) r;refine iT r λ{ad n vs} e rl _=>?_;revert e;refine eB rl λ{w1 _} r1 rl=>eB rl λ{w2 _} r2 rl=>i0 rl λe=>unpackItems_tuple A.ok.handled (items:= #[w1,w2]) ⟨_,Q.x.hs _ _ e,rfl,n,rfl⟩ λh' k'=>?_;have le:=Q.x.cG (t:=Q.x.s.toks) (h':=h') λb o e=>k' b o (gE (fB e)) e;exact SO (bindName_ (v6 (Q:=Q.le le) (X.R.trans (.le le)) (X.σ.symm▸g1) r2 λR r e b=>SO (bindName_ (v6 r (e.symm▸g2) (r1.mono b) λR r e _=>assignInOrder_nil (kk R r e))))))
  λq=>Assign_Tuple (qh S h λu Q X r=>Ms X.R (X.σ.symm▸q.as) r λR r e=>kk R r e) q.abr q.sw
theorem O1(Or:b9 c O d)(h:uj O op p r=some p')(rp:Rd p x u)(rq:Rd r x u'):aE A (Kw op u u') x (Rd p'):=by
 induction p using dq with
 |int i=>
  revert rq;exact aj h λj e h=>eu e λrq=>bU rp λt=>bU rq λt'=>d3 h (λo h=>o▸oI h λQ E K=>AutoIntOps.iadd_0 (oL K)) λ_ h=>aL h λo h=>o▸oI h λQ E K=>AutoIntOps.isub_0 (oL K)
 |inst k fs=>exact(Or.bin h rp rq).2|_=>exact nS h
theorem ug{σ:ar}(h:j8 σ z=some v):ak σ z=some v/\z≠("__debug__":Str):=fZ h λn h=>⟨h,n⟩
theorem Dp{σ:ar}(h:gu σ z=some l):ak σ z=some (.own l)/\z≠("__debug__":Str):=aj h λv h1 h2=>by
 induction v using lc with
 |own l'=>exact ay h2▸ug h1|_=>exact nS h2
theorem acP(S:aW c d I)(Or:b9 c O d)(hx:ak P.σ z=some (.pv p))(h:bW (I.e F.nm) P.σ e=some (r,σ'))(hb:uj O op p r=some p')(hp:putN F.nm z (.pv p') σ'=some cJ):Nx A P (.AugAssign (.Name z xp) op e pos) cJ:=λK E k=>aB (P.own z _ hx) λu V a=>wpAny_AugAssign_Name (Az F V (qh S h λu' Q X r'=>O1 Or hb (X.R.st.rd a.1) r' _ _ λw y l r2=>v6 (Q:=Q.le l) (X.R.trans (.le l)) (X.σ.symm▸hp) r2 λR r e _=>k R r e))
theorem dB.wk{env:Env}{h:am}{u u':ac}(a:dB env h z u)(b:dB env h z u'):u=u':=by
 rcases a with⟨k1,m1,n1,e1⟩|⟨k1,c1,l1,o1,a1,a2⟩
 ·refine bE λgG hG=>?_;rcases b with⟨k2,m2,n2,e2⟩|⟨k2,_⟩
  refine hG ?_
  ·exact ay (e1.symm.trans ((n1.agree n2 z).trans e2))
  ·nomatch k1▸k2
 ·rcases b with⟨k2,_⟩|⟨k2,c2,l2,o2,b1,b2⟩
  ·nomatch k2▸k1
  ·obtain rfl:=ay (l1.symm.trans l2);obtain rfl:=ay (a1.symm.trans b1);injection a2.symm.trans b2 with e
   exact ay e
theorem bD.QL(R:bD P Q)(h:ak Q.σ z=some v)(hv:dB F.env Q.x.s.heap z u)(l:cH (· ∈Q.U z) Q.x y)(ua:jn c y.f y.s.heap v' u V)(hV:∀b∈V,b∈Q.U z\/Q.x.s.heap.get? b=none)(fr:∀b∈V,bV y b)(sl:∀k fs ow,v=.a7 k fs ow->∃eY ow',v'=.a7 k eY ow'):
  ∃R',bD P R'/\R'.σ=cf Q.σ z v'/\R'.x=y:=by
 have kv:∀b o,dm F.env b->Q.x.s.heap.get? b=some o->y.s.heap.get? b=some o:=λb o w e=>l.e.keep b o e (qC w) λm=>(Q.fresh z v h b m).2 w;have N:Dq Q y z v' V:=⟨(aA u (hv.keep kv) ua),λb m=>⟨fr b m,(hV b m).elim (λm=>(Q.fresh z v h b m).2) Q.vI⟩,λb m q v' n h'=>(hV b m).elim (λm m'=>Q.dj z q v v' n.symm h h' b m m') λn=>Q.xQ n h'⟩;exact(cz (Q.put y z v' V (.xW l (λb m=>(Q.fresh z v h b m).2) λq v' n h' b m m'=>Q.dj q z v' v n h' h b m m') N) (R.put l (λb m=>R.wu b (.inr (dh z v h m))) (λb m=>(hV b m).elim (λm=>R.wu b (.inr (dh z v h m))) λn=>(R.st.e.back (cK (fr b m).hi) n).symm) (λk fs ow a h' V'=>⟨sl k fs ow (ay (h.symm.trans h')),V'.keep kv⟩)) rfl rfl)
theorem bD.but{h':am}{t:Nat}(R:bD P Q)(h:ak Q.σ z=some v)(hv:dB F.env Q.x.s.heap z u)(m:b∈Q.U z)(hs:dD b Q.x.s.heap h')(nc:∀o,Q.x.s.heap.get? b=some o->¬(o.cls=.type "code"/\∃vs,o.data=.fields vs))(ua:jn c Q.x.f h' v' u V)(hV:∀b∈V,b∈Q.U z\/(bV Q.x b/\Q.x.s.heap.get? b=none))(sl:∀k fs ow,v=.a7 k fs ow->∃eY ow',v'=.a7 k eY ow'):
  ∃R',bD P R'/\R'.σ=cf Q.σ z v'/\R'.x.s={Q.x.s with heap:=h',toks:=t}:=by
 have w:Wr (· ∈Q.U z) Q.x.s.gens.size Q.x (Q.x.but (t:=t) hs (Q.fresh z v h b m).1 nc):=.but m;exact cP (R.QL (y:=Q.x.but (t:=t) hs (Q.fresh z v h b m).1 nc) h hv w.st ua (λb m=>(hV b m).imp id And.right) (λb m=>w.free ((hV b m).elim (λm=>(Q.fresh z v h b m).1) And.left)) sl) λR' r e ex=>(cz R' r e (ex▸rfl))
theorem II{h:am}{vals:List ac}(e:h.get? a=some (bu vals n))(o:Obj)(e':h.get? a=some o):¬(o.cls=.type "code"/\∃vs,o.data=.fields vs):=λk=>by
 obtain⟨_,vs,q⟩:=k;rw[<-ay (e.symm.trans e')] at q;injection q
theorem bD.own{h':am}{t:Nat}(R:bD P Q)(h:ak Q.σ z=some (.own l))(hv:dB F.env Q.x.s.heap z (.ref a))(hs:dD a Q.x.s.heap h')(e:h'.get? a=some (bu vals n))(r:bt l' Q.x vals)(hz:l'.length<=az):∃R',bD P R'/\R'.σ=cf Q.σ z (.own l')/\R'.x.s={Q.x.s with heap:=h',toks:=t}:=by
 refine bE λgG hG=>?_;obtain⟨u,V,a',e',⟨⟨mY,n',e1,r1⟩,z1⟩,eU⟩:=Q.own z _ h;cases e'▸V.wk hv;exact hG (R.but (V:=[a]) h hv (eU▸ .head _) hs (II e1) (cz a rfl ⟨(dh vals n e r),hz⟩ rfl) (λb m=>.inl (eU▸m)) nofun)
theorem tR(h:ak Q.σ z=some (.own l)):∃a vals n,dB F.env Q.x.s.heap z (.ref a)/\Q.x.s.heap.get? a=some (bu vals n)/\bt l Q.x vals/\l.length<=az:=by
 refine bE λgG hG=>?_;obtain⟨u,V,a,rfl,⟨⟨vals,n,e,r⟩,hz⟩,_⟩:=Q.own z _ h;exact hG ((yv a vals n V e r hz))
theorem qI(P:St c F)(V:dB F.env P.x.s.heap z u)(hd:z≠("__debug__":Str)){M:f4}{A:bh}(h:K u P.x.s):ai M A (eval (.Name z xp) F.env) K E P.x.s:=Co (Az F V h) (kH hd)
theorem gc.own(X:gc P σ' Q)(h:ak P.σ z=some (.own l))(h':ak σ' z=some (.own l'))(hs:σ'=P.σ\/σ'=dZ p P.σ):l'=l:=by
 rcases hs with rfl|rfl
 ·cases ay (h.symm.trans h');rfl
 ·have q:=(Ap (P:=P)).symm.trans h';rw[h] at q;have q:=ay q;have k:=NB (p:=p) (v:=.own l) (by erw[q];rfl);cases k.symm.trans q;rfl
theorem W5{ev:bj->Expr->Option PV}(h:bW ev P.σ e=some (p,σ')):σ'=P.σ\/σ'=dZ p P.σ:=sq h (λ_ e=>.inl e) λ_ _ e=>.inr e
theorem AR{env:Env}{s:ag}{A:bh}{w:cO}{o:Expr}{id:String}{K:ac->ag->Prop}(hb:tN o=false)(hl:ap.endLine=cp.line)(hs:∀e∈args,iC e=false)(hn:args.length<=20)(slot:Slot "list" m id)(ty:tx (.builtin id)=pure (.type "method_descriptor"))
(h:ai (ah pw w) A (eval o env) (λov bJ=> ∃a vals n,ov=.ref a/\bJ.heap.get? a=some (bu vals n)/\ai (ah pw w) A (oq (ot cp (lE args env))) (λvs fQ=>(KL w.params).In fQ.heap/\ai (ah pw w) A (bC (.builtin id) (.ref a::vs) []) K E fQ) E bJ) E s):
  ai (ah pw w) A (eval (.Call (.Attribute o m ap) args [] cp) env) K E s:=by
 refine G6 hb hl hs rfl hn (cQ h (λov bJ z=>λpl=>?_) λ_ _ z=>z);obtain⟨a,vals,n,rfl,e,z⟩:=z;exact getMethod_builtin (aA _ e rfl) PySem.F.plainAttrs_list slot ty (λb q=>by injection q with q;subst q;exact(aA _ e rfl)) (sQ (lq hs) rfl (.inl ⟨_,rfl⟩) (cQ z (λvs fQ z=>uR z) λ_ _ z=>z))
theorem wv(h:qa e=true):∀e'∈[e],iC e'=false:=λe' m=>cY m▸Ax h
theorem DD(S:aW c d I)(h:bW (I.e F.nm) P.σ e=some (p,σ')){K:List ac->ag->Prop}(k:∀u Q,gc P σ' Q->Rd p Q.x u->K [u] Q.x.s):ai (ah pw c.w) A.A (oq (ot cp (lE [e] F.env))) K E P.x.s:=aa (wq (wv (sD S h))) (wS (qh S h λu Q X r=>Cp (k u Q X r)))
theorem Ib(X:gc P σ' Q)(h:bW (I.e F.nm) P.σ e=some (p,σ'))(h0:ak P.σ z=some (.own l'))(h1:gu σ' z=some l)(V:dB F.env P.x.s.heap z (.ref a)):l=l'/\ak Q.σ z=some (.own l)/\dB F.env Q.x.s.heap z (.ref a)/\∃vals n,Q.x.s.heap.get? a=some (bu vals n)/\bt l Q.x vals/\l.length<=az:=by
 refine bE λgG hG=>?_;have h1:=(Dp h1).1;refine xH (tR (Q:=Q) (X.σ.symm▸h1)) λa' vals n V' e r hz=>?_;cases V'.wk (X.var V);exact hG (⟨X.own h0 h1 (W5 h),X.σ.symm▸h1,X.var V,vals,n,e,r,hz⟩)
theorem aeg(S:aW c d I)(h0:j8 P.σ z=some (.own l'))(hl:ap.endLine=cp.line)(hz:l'.length<az)(he:bW (I.e F.nm) P.σ e=some (p,σ'))(h1:gu σ' z=some l)(hp:putN F.nm z (.own (l++[p])) σ'=some cJ):Nx A P (.Expr (.Call (.Attribute (.Name z xp) "append" ap) [e] [] cp) pos) cJ:=λK E k=>by
 have h0:=ug h0;refine jH (tR h0.1) λa vals n V e1 _=>yZ (AR rfl hl (wv (sD S he)) (by show 1<=20;decide) SW SY (qI P V h0.2 (j5 a _ n rfl e1 (DD S he λu Q X r=>⟨Q.x.cT,?_⟩)))) vM rfl;obtain⟨rfl,hx,V',mY,n',e2,r2,z2⟩:=Ib X he h0.1 h1 V;refine Ku (items:=mY.toArray) (hsz:=l4 (us:=[]) (m:=[]) r2 z2 (r':=.nil) rfl) ⟨n',e2⟩ λh' ve mZ=>dL ve λk' e3=>?_;rw[show mY.toArray.push u=(mY++[u]).toArray by simp] at e3;refine e8 (lU (σ₀:=Q.σ) (X.σ.symm▸hp)) λ_ bY _=>?_;subst bY;refine cP (X.R.own (t:=Q.x.s.toks) hx V' mZ e3 (aR.append (.cons r .nil) r2) (by erw[da];exact hz)) λR r' e s=>?_;exact s▸k R r' e
end
section
variable{m:Str}{σ₁:ar}{l':List PV}{Gy:Pos}{f:Fz}{h h':am}
theorem adT:(have k:=if(0:Int)<0 then(0+((vals.toArray.size:Nat):Int)).toNat else min (0:Int).toNat vals.toArray.size;(vals.toArray.extract 0 k).push u++vals.toArray.extract k)=(u::vals).toArray:=by
 simp
theorem act{k0:Nat}(S:aW c d I)(h0:j8 P.σ z=some (.own l'))(hl:ap.endLine=cp.line)(hz:l'.length<az)(he:bW (I.e F.nm) P.σ e=some (p,σ'))(h1:gu σ' z=some l)(hp:putN F.nm z (.own (p::l)) σ'=some cJ):Nx A P (.Expr (.Call (.Attribute (.Name z xp) "insert" ap) [.Constant (.int 0) k0 Gy,e] [] cp) pos) cJ:=λK E k=>by
 have h0:=ug h0;refine jH (tR h0.1) λa vals n V e1 _=>?_;have ns:∀e'∈[.Constant (.int 0) k0 Gy,e],iC e'=false:=λe' m=>(bw m).elim (λq=>q▸rfl) (wv (sD S he) e');have le:=P.x.cG (t:=P.x.s.toks+1) (h':=P.x.s.heap) λ_ _ e=>e;refine yZ (AR rfl hl ns (by show 2<=20;decide) age PySem.F.type_list_insert (qI P V h0.2 (j5 a _ n rfl e1 (?_)))) vM rfl;refine aa (wq ns) (wS (SU (wS (qh (P:=P.le le) S he λu Q X r=>Cp ⟨Q.x.cT,?_⟩))));refine bE λgG hG=>?_;obtain⟨rfl,hx,V',mY,n',e2,r2,z2⟩:=Ib X he h0.1 h1 V;refine hG (Fv age (aA _ e2 rfl) PySem.F.entry_list_insert (PySem.F.args_list_insert_3 _ _ _) (AutoSeq1.list_insert_list_int_val_1 a mY.toArray n' 0 P.x.s.toks u (by decide) (l4 (us:=[]) (m:=[]) r2 z2 (r':=.nil) rfl)) ⟨e2,?_⟩);have e3:=IsL.update (n:=n') (items:=mY.toArray) e2 (λxs=>have k:=if(0:Int)<0 then(0+(xs.size:Int)).toNat else min (0:Int).toNat xs.size;(xs.extract 0 k).push u++xs.extract k);rw[adT] at e3;refine e8 (lU (σ₀:=Q.σ) (X.σ.symm▸hp)) λ_ bY _=>?_;subst bY;exact cP (X.R.own (t:=Q.x.s.toks) hx V' (uY ..) e3 (.cons r r2) hz) λR r' e s=>s▸k R ((bD.le le).trans r') e
theorem Vs:(u::vals).toArray.eraseIdxIfInBounds 0=vals.toArray:=by
 unfold Array.eraseIdxIfInBounds;erw[dif_pos (by simp)];simp
theorem Xu{k0:Nat}{yp:Pos}{y:Str}(h0:gu P.σ y=some (p::l))(hl:ap.endLine=cp.line)(hp1:putN F.nm y (.own l) P.σ=some σ₁)(hp:putN F.nm z (.pv p) σ₁=some cJ):Nx A P (.Assign [.Name z xp] (.Call (.Attribute (.Name y yp) "pop" ap) [.Constant (.int 0) k0 Gy] [] cp) pos) cJ:=λK E k=>by
 have h0:=Dp h0;refine xH (tR h0.1) λa vals n V e1 r1 z1=>?_;have ns:∀e'∈[Expr.Constant (.int 0) k0 Gy],iC e'=false:=λe' m=>cY m▸rfl;refine y0 (AR rfl hl ns (by show 1<=20;decide) agf PySem.F.type_list_pop (qI P V h0.2 (j5 a _ n rfl e1 (?_)))) rfl;refine aa (wq ns) (wS (SU (Cp ⟨(P.x.tok (P.x.s.toks+1)).cT,?_⟩)));revert e1;refine eB r1 λ{u us} ru rl e1=>Fv agf (aA _ e1 rfl) PySem.F.entry_list_pop (PySem.F.args_list_pop_2 _ _) (MeetsSeq.list_pop_at a (u::us).toArray n 0 P.x.s.toks 0 u (by decide) (by simp[wJ]) (by simp) (l4 (us:=[]) (m:=[]) (.cons ru rl) z1 (r':=.nil) rfl)) ⟨e1,?_⟩;refine bE λgG hG=>?_;have e3:=IsL.update (n:=n) (items:=(u::us).toArray) e1 (λxs=>xs.eraseIdxIfInBounds 0);rw[Vs] at e3;refine e8 (lU hp1) λ_ bY _=>?_;subst bY;exact cP ((bD.refl P).own (t:=P.x.s.toks+1) h0.1 V (uY ..) e3 rl (lF z1)) λR r' e s=>hG (s▸v6 r' (e.symm▸hp) (r'.st.rd ru) λR r e _=>k R r e)
theorem aR.set{vals:List ac}(r:aR c f vals l)(b:aV c f u p)(k:Nat):aR c f (vals.set k u) (l.set k p):=by
 induction l generalizing vals k with
 |nil=>exact i0 r .nil
 |cons q l ih=>
  refine eB r λa r=>?_;induction k using nq with
  |zero=>exact .cons b r|succ k=>exact .cons a (ih r k)
theorem VF{s:ag}{A:bh}{w:cO}{items:Array ac}{k:Int}{t:Tok}{v:ac}{Q:Unit->ag->Prop}(hl:s.heap.get? a=some {cls:=.type "list",data:=.seq items n})(h0:0<=k)(Gz:k<2^63)(hn:k.toNat<items.size)
(hQ:Q () {s with heap:=s.heap.update a (FI (·.setIfInBounds k.toNat v))}):ai (ah pw w) A (setItem (.ref a) (.int k t) v) Q E s:=by
 have ht:s.TypeIs (.ref a) "list":=(aA _ hl rfl);unfold setItem
 try with_reducible refine dO ?_
 first|refine ae (au ?_)|skip
 refine ae (wpAny_sequenceKey ht (by decide) (ae (KA (name:=dw "__setitem__") ht slot_list_setitem (uZ slot_list_setitem ht entry_list_setitem ?_ (args_list_setitem _ _ _)))));show ai _ _ (Builtin.List.listSubscript? (.int k t)>>=_) _ _ s;refine ae (wpAny_listSubscript_int (fitsIndex_of h0 Gz) ?_);clear Gz;obtain⟨j,rfl⟩:=Int.eq_ofNat_of_zero_le h0;have hj:items[j]?=some items[j]:=tn hn
 skip
 refine ae (ae (wpAny_seqItemAt hl rfl (au (hj.symm▸ ?_))))
 skip
 refine ae (wpAny_setSeqItemAt hl rfl ?_)
 first
  |exact ae (au (au (jG .none rfl (au hQ))))
  |exact au (aA .none rfl (au hQ))
theorem Ot{iv:ac}{j:PV}{K:Unit->ag->Prop}(R:bD P Q)(h:ak Q.σ z=some (.own l))(hv:dB F.env Q.x.s.heap z (.ref a))(hs:kh l j p=some l')(rj:Rd j Q.x iv)(r:Rd p Q.x u)(k:∀R,bD P R->R.σ=cf Q.σ z (.own l')->K () R.x.s):ai (ah pw c.w) A.A (setItem (.ref a) iv u) K E Q.x.s:=by
 revert rj;refine aj hs λi hj hs=>aL hs λb hs=>eu hj λrj=>bU rj λt=>bE λgG hG=>xH (tR h) λa' vals n V e rl hz=>?_;cases V.wk hv;cases ay hs;have e3:=IsL.update (n:=n) (items:=vals.toArray) e (·.setIfInBounds i.toNat u);rw[show vals.toArray.setIfInBounds i.toNat u=(vals.set i.toNat u).toArray by simp] at e3;refine cP (R.own (t:=Q.x.s.toks) h V (uY ..) e3 (rl.set r _) (by erw[List.length_set];exact hz)) λR' r' e' s=>?_;exact hG (VF e b.1 (yK b.2 (mH (pz hz) (by decide))) (by erw[i4];erw[rl.length];exact(Int.toNat_lt b.1).mpr b.2) (s▸k R' r' e'))
theorem adG{j:PV}{k:Int}(h:j.eg=some k):j.isScalar=true:=eu (m:=λj=>j.isScalar=true) h rfl
theorem Rk{j:PV}(hs:kh l j p=some l'):j.isScalar=true:=aj hs λ_ h _=>adG h
theorem abg{k:PV}(S:aW c d I)(he:bW (I.e F.nm) P.σ e=some (p,σ'))(h1:gu σ' z=some l)(hi:I.e F.nm (bB σ') i=some k)(hs:kh l k p=some l')(hp:putN F.nm z (.own l') σ'=some cJ):Nx A P (.Assign [.Subscript (.Name z xp) i tp] e pos) cJ:=λK E kk=>by
 have h1:=Dp h1;refine wpAny_Assign_Subscript (qh S he λu Q X r=>?_) (by cases e<;>rfl);refine uz (tR (Q:=Q) (X.σ.symm▸h1.1)) λa vals n V _=>qI Q V h1.2 (Jc S (X.σ.symm▸hi) λiv Q' X' r'=>e8 (lU (σ₀:=Q.σ) (X.σ.symm▸hp)) λ_ bY _=>?_);subst bY;exact Ot (X.R.trans X'.R) (X'.σ.symm▸X.σ.symm▸h1.1) (X'.var V) hs (r' (Rk hs)) (X'.R.st.rd r) λR r e=>kk R r (by erw[e];erw[X'.σ];rfl)
theorem X2{k b r:PV}{l0:List PV}(S:aW c d I)(Or:b9 c O d)(h0:gu P.σ z=some l0)(hi:I.e F.nm (bB P.σ) i=some k)(hg:bQ (.list l0) k=some b)(he:bW (I.e F.nm) P.σ e=some (r,σ'))(hb:uj O op b r=some p)(h1:gu σ' z=some l)(hs:kh l k p=some l')(hp:putN F.nm z (.own l') σ'=some cJ):Nx A P (.AugAssign (.Subscript (.Name z xp) i tp) op e pos) cJ:=λK E kk=>by
 have h0:=Dp h0;refine xH (tR h0.1) λa vals n V e1 r1 z1=>wpAny_AugAssign_SubscriptAny (qI P V h0.2 (Jc S hi λiv Q X ri=>?_)) (by have:=S.nZ hi;cases i<;>first|(intros;rfl)|exact absurd this dy);have hx:ak Q.σ z=some (.own l0):=X.σ.symm▸h0.1;refine xH (tR hx) λa' mY n' V' e2 r2 z2=>?_;cases V'.wk (X.var V);have rk:=ri (Rk hs);have item:∃v,Rd b Q.x v/\∀{K:ac->ag->Prop},K v Q.x.s->ai (ah pw c.w) A.A (yN (.ref a) iv) K E Q.x.s:=by
  obtain⟨j,rfl,bd⟩:∃j,k=.int j/\0<=j:=aj hs λj hj hs=>aL hs λb _=>(aA j (eu (m:=λk=>k=.int j) hj rfl) b.1);refine bU (m:=λiv=> ∃v,Rd b Q.x v/\∀{K:ac->ag->Prop},K v Q.x.s->ai (ah pw c.w) A.A (yN (.ref a) iv) K E Q.x.s) rk λt=>bE λgG hG=>aj (show(wJ j l0.length).bind (λi=>l0[i]?)=some b from hg) λi' GA hg=>aB (r2.get hg) λv e3 rv=>e8 (Hz GA z2) λb1 b2 c'=>hG ((aA v rv (λq=>?_)));rcases c' with⟨c1,rfl⟩|⟨c1,_⟩
  ·exact wpAny_getItem_list ⟨_,e2,rfl,n',rfl⟩ c1 b2 (DH e3) q
  ·exact absurd bd (zg.mpr c1)
 refine aB item λv rv get=>get (qh (P:=Q) S (X.σ.symm▸he) λu LF CP rc=>O1 Or hb (CP.R.st.rd rv) rc _ _ λt y le r3=>afq (Ib CP (X.σ.symm▸he) hx h1 V') λqe0 hx2 V2 _=>?_);subst qe0;refine e8 (lU (σ₀:=LF.σ) (CP.σ.symm▸hp)) λ_ bY _=>?_;subst bY;exact Ot (Q:=LF.le le) ((X.R.trans CP.R).trans (.le le)) hx2 ((gc.le (P:=LF) le).var V2) hs (((CP.R.trans (.le le)).st.rd rk)) r3 kk
end
end
section
variable{c:Cx}{F:Fm}{P Q R:St c F}{w:Pt c}{z q m:Str}{u:ac}{V N as:List ao}{a b D dx:ao}{d k n:Nat}{p r:PV}{σ' cJ:ar}{I:Ip}{t i:Expr}{O:aK}{ow:List Str}{pos xp ap cp:Pos}{es:List Expr}{fs eY:List (Str×PV)}{vs:List (Str×ac)}{f:Fz}{h h':am}{env:Env}{v':AV}
section
set_option tactic.hygienic true
variable{y:Pt c}{v:AV}{o:Obj}{A:Am d}{J:Ip}{e:Expr}{l:List PV}{E:ac->ag->Prop}{vals:List ac}{K:ac->ag->Prop}{ow':List Str}
theorem aep{es:List pQ}{t:Tok}(e:j6 c vs es):j6 c (cf vs z u) (y4 z (pR c.w.params z) (.str z t) u es):=by
 induction vs generalizing es with
 |nil=>exact(e:es=[])▸(dh t ([]) rfl rfl)
 |cons q vs ih=>
  obtain⟨y,u'⟩:=q;obtain⟨t',r,rfl,e⟩:=e;by_cases k:y=z
  ·exact aa (show cf ((y,u')::vs) z u=(z,u)::vs from iP k) (aa (show y4 z (pR c.w.params z) (.str z t) u (⟨pR c.w.params y,.str y t',u'⟩::r)=_ from iP (show(y==z)=true from jU k)) ((dh t' r (k▸rfl) e)))
  ·exact aa (show cf ((y,u')::vs) z u=(y,u')::cf vs z u from iN k) (aa (show y4 z (pR c.w.params z) (.str z t) u (⟨pR c.w.params y,.str y t',u'⟩::r)=_ from iN (show ¬(y==z)=true from λq=>k (a5 q))) ((dh t' _ rfl (ih e))))
noncomputable def JX(K:kq)(p:Nat×Str):Bool:=plainOver K p.1&&takerIn K p.1 p.2==some none&&(clsIn K p.1).any (·.hasDict)&&fN K (.ref p.1) "__setattr__"==some (some (.builtin "object.__setattr__"))
theorem aba(P:cD):zY.all (JX (KL P))=true:=⋯
theorem afb{es:List pQ}{k:ac}{hh:Int}:(y4 z hh k u es).length<=es.length+1:=by
 induction es with
 |nil=>exact bf _
 |cons e r ih=>
  unfold y4;split
  ·exact iH _
  ·exact yP ih
theorem aaK{s:ag}{A:bh}{w:cO}{es:List pQ}{K:Unit->ag->Prop}(X:(KL w.params).In s.heap)(h1:s.heap.get? a=some (lV k dx))(h2:s.heap.get? dx=some (sj es n))(ok:JX (KL w.params) (k,z)=true)(hl:(getL z es).isSome=true)(hz:es.length<=1000)
(h:∀h' t t',dD dx s.heap h'->h'.get? dx=some (sj (y4 z (pR w.params z) (.str z t) u es) (PySem.W.putN z es n))->K () {s with heap:=h',toks:=t'}):
  ai (ah pw w) A (setAttr (.ref a) z u) K E s:=by
 unfold JX at ok;simp only[mK,beq_iff_eq] at ok;obtain⟨⟨⟨o1,o2⟩,o3⟩,o4⟩:=ok;have I:InstAt s.heap a (lV k dx) k (some (uO es n)):=⟨h1,rfl,rfl,h2⟩;refine set_plain X I o4 (osa_open (s:={s with toks:=s.toks+1}) X I o1 o2 λb=>aB (q0 o3) λcd hc LG=>?_);have e:=putName_dict z (pR w.params z) (.str z (s.toks+1)) u es n;have D':(s.heap.update dx (Obj.putName z (pR w.params z) (.str z (s.toks+1)) u)).get? dx=some (uO (y4 z (pR w.params z) (.str z (s.toks+1)) u es) (PySem.W.putN z es n)):=
  (af some e)▸agg _ h2 (by erw[e];rfl)
 refine ae (au (ae (ae (wpAny_loadPart h1 (ae (iG.here (s:={s with toks:=s.toks+1}) (looks_clsIn X hc) (LG.symm▸(au (a:=some dx) (ae (au (ae ?_)))))))))));unfold nsSet;refine ae (ae (oC (au (ae (wpAny_mkText (ae (wpAny_loadPart h2 ?_)))))));unfold sj;dsimp only;have nk:(!es.toArray.any (·.key.isStr z)&&es.toArray.any (·.refKey))=false:=by
  refine gZ (Array.any_toList) (gZ (Array.any_toList) ?_);unfold getL at hl;split at hl
  ·rename_i en he;erw[Lq.mpr (aA en (List.mem_of_find?_eq_some he) (List.find?_some he))];rfl
  ·split at hl
   ·injection hl
   ·rename_i z;rw[Bool.not_eq_true] at z;erw[z];rw[FJ]
 rw[aRefKeyMayBeTheName_at,nk];refine wpAny_updatePart h2 (ae (wpAny_lookBehind D' (pastItsLine_dict (by erw[i4];erw[KB];have:=afb (z:=z) (u:=u) (es:=es) (k:=.str z (s.toks+1)) (hh:=pR w.params z);lia)) ?_));exact au (h _ _ _ (uY ..) D')
theorem rI.EJ(s:rI c f h ow z u p N)(k:ow'.contains z=ow.contains z):rI c f h ow' z u p N:=s.imp (λs=>⟨k.trans s.1,s.2⟩) λs=>⟨k.trans s.1,s.2⟩
theorem jh.EJ(s:jh c f h ow fs vs as)(k:∀z∈vs.map (·.1),ow'.contains z=ow.contains z):jh c f h ow' fs vs as:=by
 induction fs generalizing vs as with
 |nil=>exact s
 |cons q fs ih=>
  obtain⟨v,r,N,f7,rfl,e2,e,s⟩:=s;exact(wy v r N f7 rfl e2 (e.EJ (k _ (.head _))) (ih s λz m=>k z (.tail _ m)))
theorem ae5(s:jh c f h ow fs vs as)(e:rI c f h ow' z u p N)(jQ:∀y,y≠z->ow'.contains y=ow.contains y)(nd:(vs.map (·.1)).Nodup):
  ∃f7,jh c f h ow' (cf fs z p) (cf vs z u) f7/\(∀b∈f7,b∈as\/b∈N)/\(as.Nodup->N.Nodup->(∀b∈N,b∉as)->f7.Nodup):=by
 induction fs generalizing vs as with
 |nil=>
  obtain⟨rfl,rfl⟩:=s;exact(cz N (zU u ([]) N ([]) rfl ((gO N).symm) e rfl rfl) (λb=>.inr) (λ_ h _=>h))
 |cons q fs ih=>
  obtain⟨v,r,N',f7,rfl,rfl,e',s⟩:=s;have n:=iS nd;obtain⟨y,p'⟩:=q;by_cases k:y=z
  ·exact aa (show cf ((y,p')::fs) z p=(z,p)::fs from iP k) (aa (show cf ((y,v)::r) z u=(z,u)::r from iP k) ((cz (N++f7) (wy u r N f7 rfl rfl e (s.EJ λy' m=>jQ y' λq=>n.1 (show y∈_ from k.trans q.symm▸m))) (λb m=>(mf m).elim .inr λm=>.inl (fE _ m)) (λh1 h2 h3=>w8.mpr (eA h2 ((w8.mp h1).2.1) (λa ma b mb q=>h3 a ma (q▸fE _ mb)))))))
  ·exact aa (show cf ((y,p')::fs) z p=(y,p')::cf fs z p from iN k) (aa (show cf ((y,v)::r) z u=(y,v)::cf r z u from iN k) (cP (ih s n.2) λUr k1 k2 k3=>(cz (N'++Ur) (wy v _ N' Ur rfl rfl (e'.EJ (jQ y k)) k1) (λb m=>(mf m).elim (λm=>.inl (tw _ m)) λm=>(k2 b m).imp (fE _) id) (λh1 h2 h3=>by
    have h1:=w8.mp h1;exact w8.mpr (eA h1.1 (k3 h1.2.1 h2 λb mb q=>h3 b mb (fE _ q)) (λa ma b mb q=>(k2 b mb).elim (λm=>h1.2.2 a ma b m q) λm=>h3 b m (q▸tw _ ma)))))))
theorem ae'(s:jh c f h ow fs vs as):vs.length=fs.length:=by have:=af yO (Oq s);rwa[bi,bi] at this
theorem Y8{es:List pQ}(e:j6 c vs es):vs.length=es.length:=by
 induction vs generalizing es with
 |nil=>exact(e:es=[])▸rfl|cons q vs ih=>obtain⟨t,r,rfl,e⟩:=e;exact af jq (ih e)
theorem Nl{K:Unit->ag->Prop}(R:bD P Q)(hx:ak Q.σ z=some (.a7 k fs ow))(hv:dB F.env Q.x.s.heap z (.ref a))(ht:zY.contains (k,q)=true)(hz:fs.length<=100)
(en:∀h',(∀b o,b∈N->Q.x.s.heap.get? b=some o->h'.get? b=some o)->rI c Q.x.f h' ow' q u p N)(jQ:∀y,y≠q->ow'.contains y=ow.contains y)(nN:N.Nodup)(hN:∀b∈N,bV Q.x b/\¬dm F.env b/\(∀y v,ak Q.σ y=some v->b∉Q.U y)/\P.x.s.heap.get? b=none)
(kk:∀R,bD P R->R.σ=cf Q.σ z (.a7 k (cf fs q p) ow')->K () R.x.s):ai (ah pw c.w) A.A (setAttr (.ref a) q u) K E Q.x.s:=by
 obtain⟨u',V',a',rfl,dx,es,n,vs,as,h1,h2,h3,h4,hU,h6,h7⟩:=Q.own z _ hx;cases V'.wk hv;have zx:dx∈Q.U z:=hU▸ .tail _ (.head _);have nd:=iS h6;have zy:=iS nd.2;refine aaK Q.x.cT h1 h2 (b7 (aba c.w.params) _ (qg ht)) (by erw[xN h3];rfl) (by have:=Y8 h3;have:=ae' h4;lia) λh' t t' hs e=>?_;have keep:∀b o,b≠dx->Q.x.s.heap.get? b=some o->h'.get? b=some o:=λb o ne e=>(hs.2 b ne).trans e;refine cP (ae5 (h4.mono (h':=h') (λb o mb e=>keep b o (λq=>zy.1 (q▸mb)) e) λ_ _ e=>e) (en h' λb o mb e=>keep b o (λq=>(hN b mb).2.2.1 z _ hx (q▸zx)) e) jQ h7) λf7 k1 k2 k3=>?_;have no:∀b,b∈a::dx::as->b∉N:=λb m q=>(hN b q).2.2.1 z _ hx (hU▸m);have w:Wr (· ∈Q.U z) Q.x.s.gens.size Q.x (Q.x.but (t:=t') hs (Q.fresh z _ hx dx zx).1 λo e' k=>by obtain⟨_,vs,q⟩:=k;rw[<-ay (h2.symm.trans e')] at q;injection q):=.but zx;have mem:∀b∈a::dx::f7,b∈Q.U z\/b∈N:=λb m=>(bw m).elim (λq=>.inl (hU▸q▸ .head _)) λm=>(bw m).elim (λq=>.inl (q▸zx)) λm=>(k2 b m).imp (λm=>hU▸ .tail _ (.tail _ m)) id;have N':Dq Q _ z (.a7 k (cf fs q p) ow') (a::dx::f7):=⟨⟨.ref a,hv.keep λb o w e=>keep b o (λq=>(Q.fresh z _ hx dx zx).2 (q▸w)) e,a,rfl,dx,_,_,cf vs q u,f7,keep _ _ (λq=>nd.1 (q▸ .head _)) h1,e,aep h3,k1,rfl,
   ny ⟨λm=>(bw m).elim (λq=>nd.1 (q▸ .head _)) λm=>(k2 _ m).elim (λm=>nd.1 (.tail _ m)) (no _ (.head _)),ny ⟨λm=>(k2 _ m).elim zy.1 (no _ (.tail _ (.head _))),k3 zy.2 nN λb mb q=>no b (.tail _ (.tail _ q)) mb⟩⟩,OE h7⟩,
  λb m=>(mem b m).elim (λm=>⟨w.free (Q.fresh z _ hx b m).1,(Q.fresh z _ hx b m).2⟩) λm=>⟨w.free (hN b m).1,(hN b m).2.1⟩,λb m q v n h'=>(mem b m).elim (λm m'=>Q.dj z q _ v n.symm hx h' b m m') λm=>(hN b m).2.2.1 q v h'⟩
 exact kk (Q.put _ z _ _ (.xW w.st (λb m=>(Q.fresh z _ hx b m).2) λq v n h' b m m'=>Q.dj q z v _ n h' hx b m m') N') (R.put w.st (λb m=>R.wu b (.inr (dh z _ hx m))) (λb m=>(mem b m).elim (λm=>R.wu b (.inr (dh z _ hx m))) λm=>.inr (hN b m).2.2.2)
  λk' eY Uq a2 h' V2=>⟨by cases ay (hx.symm.trans h');exact(jG _ _ rfl),V2.keep λb o w e=>keep b o (λq=>(Q.fresh z _ hx dx zx).2 (q▸w)) e⟩) rfl
theorem NK{y:Str}:(ow.filter (· !=z)).contains y=(ow.contains y&&y !=z):=by
 rw[FK,kz,oE,mK,kz]
theorem lR{v:AV}{i:Nat×List (Str×PV)×List Str}(h:v.lR=some i):v=.a7 i.1 i.2.1 i.2.2:=by
 induction v using lc with
 |a7=>cases ay h;rfl
 |_=>exact nS h
theorem aeF{i:Nat×List (Str×PV)×List Str}{y:Str}(S:aW c d I)(S':aW c d ⟨oU O I J,D8 O I⟩)(ov:Ov c d)(he:bW (oU O I J F.nm) P.σ e=some (p,σ'))(hx:j8 σ' z=some v)(hi:v.lR=some i)(ht:zY.contains (i.1,y)=true)(hz:i.2.1.length<=100)(hp:putN F.nm z (zT (sG e) i.1 i.2.1 i.2.2 y p) σ'=some cJ):Nx A P (.Assign [.Attribute (.Name z xp) y ap] e pos) cJ:=λK E k=>by
 cases lR hi;have hx:=ug hx;refine plainObj_wpAny_Assign_Attribute ?_ (by cases e<;>rfl);refine e8 (lU hp) λ_ hσ _=>?_;by_cases q:sG e=true/\p.io.isSome=true
 ·refine dL (tG.mp q.2) λl hl=>?_;have hl:p=.list l:=pM (m:=λp=>p=.list l) hl rfl;subst hl;refine HU S ov he q.1 λQ D X L=>?_;obtain⟨u,V,a,rfl,_⟩:=Q.own z _ (X.σ.symm▸hx.1);refine eH L.d λvals n e1 rl=>qI Q V hx.2 (Nl (N:=[D]) (ow':=y::i.2.2) X.R (X.σ.symm▸hx.1) V ht hz (λh' kk=>.inr ⟨by erw[agh];rw[beq_self_eq_true];rfl,D,l,rfl,rfl,⟨(dh vals n (kk D _ (.head _) e1) rl),L.len⟩,rfl⟩) (λz ne=>by erw[agh];erw[kH ne];rfl) (ny ⟨eX,wT⟩) (λb m=>cY m▸(Aa L.fr L.env L.U L.nw)) λR r e=>k R r (e.trans (X.σ▸y5 (by unfold zT;erw[iP q];rfl) hσ)))
 ·refine qh S' he λu Q X r=>?_;obtain⟨_,V,a,rfl,_⟩:=Q.own z _ (X.σ.symm▸hx.1);refine qI Q V hx.2 (Nl (N:=[]) (ow':=i.2.2.filter (· !=y)) X.R (X.σ.symm▸hx.1) V ht hz (λh' kk=>.inl (eA (by rw[NK,bne_self_eq_false,FJ]) r rfl)) (λz ne=>by erw[NK];erw[bne_iff_ne.mpr ne];rw[Kr]) wT (λb m=>mN m) λR r e=>k R r (e.trans (X.σ▸y5 (by unfold zT;erw[iN q];rfl) hσ)))
end
noncomputable abbrev wC(l:List Env):List ao:=l.filterMap (·.frame)
structure Xs(h₀ h:am)(W:ao->Prop)(e:Env)(L:ao)(o:Obj):Prop where
 kind:e.scope.kind≠ .module
 at_:e.frame=some L
 old:h₀.get? L=none
 low:719<=L
 there:h.get? L=some o
 data:∀vs,o.data≠ .fields vs
 out:¬W L
def oh(h₀ h:am)(W:ao->Prop)(l:List Env):Prop:=∀e∈l,∃L o,Xs h₀ h W e L o
structure jj(l:List Env)(W:ao->Prop)(s:ag)(v:ac)(s':ag)(B:am)(e:ao):Prop where
 v:v=.ref e
 tab:ir B
 keep:∀b o,s.heap.get? b=some o->¬dC b->¬W b->b∉wC l->B.get? b=some o
 HR:∃a0,am.FlyingW B l e (.ref 664) a0 s'.heap
 slots:∀b o,s.heap.get? b=some o->¬dC b->¬W b->(∀vs,o.data≠ .fields vs)->∃sl,s'.heap.get? b=some {o with slots:=sl}
 x:ch (λ_=>True) s.gens.size s s'
section
variable{h₀:am}{s s' cX:ag}{W xf:ao->Prop}{l outer:List Env}{v:ac}{B:am}{e L:ao}{A:bh}{M:f4}{E:ac->ag->Prop}{K:Unit->ag->Prop}
theorem ch.any{g:Nat}(x:ch W g s s'):ch (λ_=>True) g s s':=x.weaken λ_ _=>trivial
theorem ch.heap{h:am}{t:Nat}(s:ag):ch (λ_=>True) s.gens.size s {s with heap:=h,toks:=t}:=⟨λ_ _ _ _ n=>absurd trivial n,λ_ _ _ h=>h,bf _,λh=>h,rfl⟩
theorem jj.pre(x:ch xf cX.gens.size cX s)(k:∀b,W b->xf b\/cX.heap.get? b=none)(F:jj l W s v s' B e):jj l xf cX v s' B e:=
 have nw:∀b o,cX.heap.get? b=some o->¬xf b->¬W b:=λb o q n z=>(k b z).elim n λy=>nS (y.symm.trans q)
 ⟨F.v,F.tab,λb o q t n m=>F.keep b o (x.keep b o q t n) t (nw b o q n) m,F.HR,λb o q t n=>F.slots b o (x.keep b o q t n) t (nw b o q n),x.any.trans (F.x.lower x.di (bf _))⟩
theorem oh.step(X:oh h₀ s.heap W l)(x:ch W s.gens.size s s')(k:∀b,xf b->W b\/s.heap.get? b=none):oh h₀ s'.heap xf l:=λenv m=>km (X env m) λL o F=>⟨L,o,F.kind,F.at_,F.old,F.low,x.keep L o F.there (cK F.low) F.out,F.data,λq=>(k L q).elim F.out λz=>nS (z.symm.trans F.there)⟩
theorem oh.ext(X:oh h₀ s.heap (λ_=>False) l)(x:e9 s s'):oh h₀ s'.heap (λ_=>False) l:=X.step x.nJ λ_ z=>z.elim
theorem jj.ext(x:e9 cX s)(F:jj l (λ_=>False) s v s' B e):jj l (λ_=>False) cX v s' B e:=F.pre x.nJ λ_ z=>z.elim
theorem VI(X:oh h₀ h W l)(k:∀a∈wC l,B.get? a=none):h.FunFrames B l:=by
 induction l with
 |nil=>exact trivial
 |cons env l ih=>
  refine km (X env (.head _)) λL o F=>?_;have e:wC (env::l)=L::wC l:=Kz F.at_;rw[e] at k;exact(eA F.kind (tL L o F.at_ (k L (.head _)) F.there F.data) (ih (λe m=>X e (.tail _ m)) λa m=>k a (.tail _ m)))
theorem Io(hf:env.frame=some L):wC (env::outer)=L::wC outer:=Kz hf
theorem abT(F:jj (env::outer) W s v s' B e)(hA:A.frames=some (env::outer))(hf:env.frame=some L)(hL:s.heap.get? L=none\/W L)
(h:∀h',jj outer W s v {s' with heap:=h'} B e->K () {s' with heap:=h'}):ai M A (wU env v) K E s':=by
 refine dL F.HR λa0 y=>aa (F.v) (wpAny_leaves_onW hA hf y λh' y u=>h h' ⟨F.v,F.tab,λb o q t n m=>F.keep b o q t n λz=>?_,⟨a0,y⟩,λb o q t n k=>?_,F.x.trans ((ch.heap (t:=s'.toks) s').lower F.x.di (bf _))⟩)
 ·rw[Io hf] at z;exact(bw z).elim (λz=>hL.elim (λhL=>nS (hL.symm.trans (z▸q))) λhL=>n (z▸hL)) m
 ·exact dL (F.slots b o q t n k) λsl q'=>dL (u b {o with slots:=sl} q' k) λUs q2=>⟨Us,q2⟩
theorem ϔ{h':am}{args:List ac}(tab:ir s.heap)(X:oh h₀ s.heap xf (env::outer))(m:am.MadeExcOf s.heap h' e (.ref 664) args)(hA:A.frames=some (env::outer))(hf:env.frame=some L)(hL:W L)
(h:∀GB B,jj outer W s (.ref e) {s with heap:=GB} B e->K () {s with heap:=GB}):ai M A (wU env (.ref e)) K E {s with heap:=h'}:=by
 refine wpAny_leaves_madeW (base:=hideAll s.heap (wC (env::outer))) (h:=s.heap) hA hf (λb o q=>of_hideAll _ q) (VI X λa z=>hideAll_none _ z) m λGB t y _ _ u=>h GB _ ⟨rfl,tab.but λb o q k=>hideAll_get _ q λz=>?_,λb o q _ n z=>hideAll_get _ q λz'=>?_,⟨_,y⟩,λb o q _ _ k=>u b o (m.keeps b o q) k,.heap (t:=s.toks) s⟩
 ·refine aB (ag9.mp z) λahm me hf=>km (X ahm me) λL o' F=>?_;obtain rfl:=ay (F.at_.symm.trans hf);refine k.elim (λk=>cV _ (ba k F.low)) λk=>?_;obtain⟨_,vs,k⟩:=k;obtain rfl:=ay (q.symm.trans F.there);exact F.data vs k
 ·rw[Io hf] at z';exact(bw z').elim (λz'=>n (z'▸hL)) z
end
section
variable{A:Am d}{outer:List Env}{v:ac}{s':ag}{B:am}{e:ao}
def rZ(A:Am d)(P:St c F)(outer:List Env)(v:ac)(s':ag):Prop:=ai (ah pw c.w) A.A (wU F.env v) (λ_ i8=> ∃B e,jj outer (WU P) P.x.s v i8 B e) No s'
structure Fc(A:Am d)(P:St c F)(outer:List Env):Prop where
 stack:A.A.frames=some (F.env::outer)
 own:F.env.frame=some F.env.locals
 ins:oh c.h₀ P.x.s.heap (WU P) outer
theorem Fc.step(x:Fc A P outer)(a:bD P Q):Fc A Q outer:=⟨x.stack,x.own,x.ins.step a.st.e a.wu⟩
theorem rZ.pre(a:bD P Q)(b:rZ A Q outer v s'):rZ A P outer v s':=cQ b (λ_ _ h=>by refine km h λB e f=>?_;exact(jG B e (f.pre a.st.e a.wu))) λ_ _ z=>z
theorem Ve:PassesOwnAt (ah pw c.w) A.A A.A F.env (rZ A P outer):=PassesOwnAt.leavingOf (SameStack.refl A.A)
theorem Fc.frames(F':Fc A P outer):oh c.h₀ P.x.s.heap (λ_=>False) (F.env::outer):=λe m=>by
 rcases bw m with rfl|m
 ·exact ab0 P.o.ns λm o es ep q q2 _=>⟨_,o,by erw[F.kind];exact nofun,F'.own,P.o.own.h₀,P.o.own.hi,q,(λvs z=>by rw[q2] at z;injection z),id⟩
 ·exact km (F'.ins e m) λL o f=>⟨L,o,f.kind,f.at_,f.old,f.low,f.there,f.data,id⟩
theorem jj.after(f:Fc A P outer)(b:jj (F.env::outer) (λ_=>False) P.x.s v s' B e):rZ A P outer v s':=
 abT (b.pre (.refl P.x.s) λ_ z=>z.elim) f.stack f.own (.inr (.inl (.inl rfl))) λ_ y=>(jG B e y)
theorem WN{s:ag}{h':am}{args:List ac}(f:Fc A P outer)(x:e9 P.x.s s)(tab:ir s.heap)(m:am.MadeExcOf s.heap h' e (.ref 664) args):rZ A P outer (.ref e) {s with heap:=h'}:=
 ϔ (W:=WU P) tab (f.frames.ext x) m f.stack f.own (.inl (.inl rfl)) λ_ B y=>(jG B e (y.pre x.nJ λ_ z=>.inl z))
end
structure g9(c:Cx)(O:aK)(d:Nat):Prop where
 l6:∀{k fs ow m q eY},O.l6 k fs ow m [q]=some eY->∃g,vZ (KL c.w.params) k m g=true/\ak fs m=none/\∀{A:Am d} {x:Pt c} {a V v} {K:ac->ag->Prop} {E},pg c x.f x.s.heap k fs ow a V->(∀b∈V,bV x b)->Rd q x v->
  (∀u y V',cH (· ∈V) x y->pg c y.f y.s.heap k eY ow a V'->(∀b∈V',b∈V\/x.s.heap.get? b=none)->(∀b∈V',bV y b)->K u y.s)->ai (ah pw c.w) A.A (bC (.ref g) [.ref a,v] []) K E x.s
 make:∀{C vs ks r},O.make C vs ks=some r->∃g,de c.w.params C=some g/\pe c.w.params g/\∀{A:Am d} {x:Pt c} {us kv} {K:ac->ag->Prop} {E},bt vs x us->bH c x.f kv ks->
  (∀y a V,Le x y->pg c y.f y.s.heap r.1 r.2.1 r.2.2 a V->(∀b∈V,bV y b/\x.s.heap.get? b=none)->K (.ref a) y.s)->ai (ah pw c.w) A.A (bC g us kv) K E x.s
 n9:∀{z vs ks},O.n9 z vs ks=true->∃g,de c.w.params z=some g/\pe c.w.params g/\∀{A:Am d} {x:Pt c} {us kv l} {K:ac->ag->Prop} {E},bt vs x us->bH c x.f kv ks->A.A.frames=some l->oh c.h₀ x.s.heap (λ_=>False) l->
  (∀v s' B e,jj l (λ_=>False) x.s v s' B e->E v s')->ai (ah pw c.w) A.A (bC g us kv) K E x.s
section
variable{x y:Pt c}{v:AV}{C:ao}{W:ao->Prop}{g:Nat}{o:Obj}{A:Am d}{e:Expr}{l l':List PV}{E:ac->ag->Prop}{vals:List ac}{K:ac->ag->Prop}{np:Pos}{args:List Expr}{kws:List fj}{outer:List Env}
theorem acE(s:jh c f h ow fs vs as)(hk:ak fs z=some p)(ho:ow.contains z=true)(nd:as.Nodup):
  ∃D l,p=.list l/\ak vs z=some (.ref D)/\D∈as/\t5 c f h D l/\∀h' f' l',Sub f f'->(∀b o,b∈as->b≠D->h.get? b=some o->h'.get? b=some o)->t5 c f' h' D l'->jh c f' h' ow (cf fs z (.list l')) vs as:=by
 induction fs generalizing vs as with
 |nil=>exact nS hk
 |cons q fs ih=>
  obtain⟨v,r,N,f7,rfl,rfl,e,s⟩:=s;obtain⟨y,p'⟩:=q;have nd:=w8.mp nd;by_cases k:y=z
  ·obtain rfl:=ay ((iP k).symm.trans hk);rcases e with⟨e,_⟩|⟨e,D,l,rfl,rfl,o,rfl⟩
   ·exact ff (e▸k▸ho:false=true)
   ·exact(M5 D l rfl (iP k) (.head _) o (λh' f' l' hf kp o'=>aa (show cf ((y,PV.list l)::fs) z (.list l')=(z,.list l')::fs from iP k) ((wy (.ref D) r ([D]) f7 (k▸rfl) rfl (.inr ⟨ho,D,l',rfl,rfl,o',rfl⟩) (s.mono (λb o m=>kp b o (.tail _ m) λq=>nd.2.2 D (.head _) b m q.symm) hf)))))
  ·exact acX (ih s ((iN k).symm.trans hk) nd.2.1) λD l e1 e2 m o kk=>(M5 D l e1 ((iN k).trans e2) (fE _ m) o (λh' f' l' hf kp o'=>aa (show cf ((y,p')::fs) z (.list l')=(y,p')::cf fs z (.list l') from iN k) ((wy v r N f7 rfl rfl (e.mono (λb o mb=>kp b o (tw _ mb) (nd.2.2 b mb D m)) hf) (kk h' f' l' hf (λb o m=>kp b o (fE _ m)) o')))))
theorem gc.nU(X:gc P σ' Q)(h:ak P.σ z=some v)(k:v.kM=true\/v.EE.isSome=true):ak Q.σ z=some v/\Q.U z=P.U z/\∀b o,b∈P.U z->P.x.s.heap.get? b=some o->Q.x.s.heap.get? b=some o:=by
 have e:ak Q.σ z=some v:=X.σ▸X.a7 z v h k;refine(eA e (X.U z v e ?_) (λb o m e=>X.e.keep b o e (cK (P.fresh z v h b m).1.hi)));cases v<;>first|rfl|exact k.elim ff ff
theorem Vx{i:Nat×List (Str×PV)×List Str}{y:Str}{yp:Pos}(S:aW c d I)(h0:j8 P.σ z=some v)(hi:v.lR=some i)(hl:ap.endLine=cp.line)(ht:vR.contains (i.1,y)=true)(he:bW (I.e F.nm) P.σ e=some (p,σ'))(hf:ak i.2.1 y=some r)(hr:r.io=some l)(ho:i.2.2.contains y=true)(hz:l.length<az)(hp:putN F.nm z (.a7 i.1 (cf i.2.1 y (.list (l++[p]))) i.2.2) σ'=some cJ):
  Nx A P (.Expr (.Call (.Attribute (.Attribute (.Name z xp) y yp) "append" ap) [e] [] cp) pos) cJ:=λK E kk=>by
 refine bE λgG hG=>?_;cases lR hi;have h0:=ug h0;obtain⟨u,V,a,rfl,dx,es,n,vs,as,h1,h2,h3,h4,hU,h6,h7⟩:=P.own z _ h0.1;have nd:=iS h6;have zy:=iS nd.2;obtain⟨D,l',rfl,k1,k2,⟨⟨vals,n',k3,k4⟩,k5⟩,k6⟩:=acE h4 hf ho zy.2;cases ay hr;refine e8 (Bg (b7 (Ro c.w.params) _ (qg ht))) λo1 o2 o3=>?_;have look:getL y es=some (some (.ref D)):=by erw[xN h3];erw[k1];rfl
 have le:=P.x.cG (t:=P.x.s.toks+1) (h':=P.x.s.heap) λ_ _ e=>e;refine hG (yZ (AR rfl hl (wv (sD S he)) (by show 1<=20;decide) SW SY (H3 rfl (qI P V h0.2 ?_))) vM rfl);split at o3
 ·rename_i at_ eat;refine get_value (ox:=lV i.1 dx) (od:=some (uO es n)) P.x.cT ⟨h1,rfl,rfl,h2⟩ (uQ o1).1 (findObj_own o2 eat o3 (by rw[FD,look])) rfl (j5 D _ n' rfl k3 (DD (P:=P.le le) S he λu Q X r=>⟨Q.x.cT,?_⟩));refine e8 (X.nU h0.1 (.inl rfl)) λhx eU kp=>?_;have mU:∀b∈a::dx::as,b∈P.U z:=λb m=>hU▸m;have DU:=mU D (.tail _ (.tail _ k2));have e2:=kp D _ DU k3;refine Ku (items:=vals.toArray) (hsz:=l4 (us:=[]) (m:=[]) k4 k5 (r':=.nil) rfl) ⟨n',e2⟩ λh' ve mZ=>dL ve λk' e3=>?_;rw[show vals.toArray.push u=(vals++[u]).toArray by simp] at e3;refine e8 (lU (σ₀:=Q.σ) (X.σ.symm▸hp)) λ_ bY _=>?_;subst bY;have zz:∀b o,b∈P.U z->b≠D->P.x.s.heap.get? b=some o->h'.get? b=some o:=λb o m ne e=>(mZ.2 b ne).trans (kp b o m e);obtain⟨R,r',e,s⟩:=((bD.le le).trans X.R).but (t:=Q.x.s.toks) (v':=.a7 i.1 (cf i.2.1 y (.list (l++[p]))) i.2.2) (V:=a::dx::as) hx (X.var V) (eU▸DU) mZ (II e2) ⟨a,rfl,dx,es,n,vs,as,zz a _ (mU a (.head _)) (λq=>nd.1 (.tail _ (q▸k2))) h1,zz dx _ (mU dx (.tail _ (.head _))) (λq=>zy.1 (q▸k2)) h2,h3,
   k6 h' _ _ X.R.st.sub (λb o m ne=>zz b o (mU b (.tail _ (.tail _ m))) ne) ⟨(dh _ _ e3 (aR.append (.cons r .nil) (k4.mono X.R.st.sub))),by erw[da];exact hz⟩,rfl,h6,h7⟩ (λb m=>.inl (eU▸mU b m)) λ_ _ _ e=>by cases e;exact(jG _ _ rfl)
  exact s▸kk R r' e
 ·injection o3
theorem ZX{g:ao}{pl:Sem Bool}{K:ac×List ac->ag->Prop}(ua:pg c x.f x.s.heap k fs ow a V)(hm:vZ (KL c.w.params) k m g=true)(hn:ak fs m=none)(h:K (.ref g,[.ref a]) x.s):ai (ah pw c.w) A.A (Ce (.ref a) m pl) K E x.s:=by
 refine bE λgG hG=>e8 (Bg (aX hm).1) λh1 h2 h3=>?_;obtain⟨dx,es,n,vs,as,e1,e2,e3,e4,z1,z2,z3⟩:=ua;have kn:ak vs m=none:=by
  clear z1 z2 z3 e1 e2 e3;induction fs generalizing vs as with
  |nil=>exact e4.1▸rfl
  |cons q fs ih=>
   refine Mf e4 λv r N f7 pX _ _ s=>?_;subst pX;by_cases k:q.1=m
   ·exact sN ((iP k).symm.trans hn)
   ·exact(iN k).trans (ih ((iN k).symm.trans hn) _ _ s)
 exact hG (method_fn (ox:=lV k dx) (od:=some (uO es n)) x.cT ⟨e1,rfl,rfl,e2⟩ (uQ h1).1 (uQ h1).2 (a5 h2) (a5 h3) (by show(lookIn m (uO es n)).map _=_;rw[FD,xN e3,kn];rfl) h)
theorem ZY(S:aW c d I)(Mu:g9 c O d)(h0:j8 P.σ z=some (.a7 k fs ow))(hl:ap.endLine=cp.line)(he:bW (I.e F.nm) P.σ e=some (p,σ'))(hm:O.l6 k fs ow m [p]=some eY)(hp:putN F.nm z (.a7 k eY ow) σ'=some cJ):Nx A P (.Expr (.Call (.Attribute (.Name z xp) m ap) [e] [] cp) pos) cJ:=λK E kk=>by
 refine bE λgG hG=>?_;have h0:=ug h0;obtain⟨u,V,a,rfl,ua⟩:=P.own z _ h0.1;refine cP (Mu.l6 hm) λg k1 k2 k3=>hG (yZ (G6 rfl hl (wv (sD S he)) rfl (by show 1<=20;decide) (qI P V h0.2 λpl=>ZX (A:=A) ua k1 k2 (sQ (lq (wv (sD S he))) rfl (.inr (.inr (Q7 k1))) (DD S he λu Q X r=>uR ⟨Q.x.cT,?_⟩)))) vM rfl);refine e8 (X.nU h0.1 (.inl rfl)) λhx eU kp=>?_;obtain⟨u',V',a',rfl,ua'⟩:=Q.own z _ hx;cases V'.wk (X.var V);refine k3 ua' (λb m=>(Q.fresh z _ hx b m).1) r λ_ y V2 l ua2 hV fr=>e8 (lU (σ₀:=Q.σ) (X.σ.symm▸hp)) λ_ bY _=>?_;subst bY;obtain⟨R,r',e,s⟩:=X.R.QL hx (X.var V) l (v':=.a7 k eY ow) (aA a rfl ua2) hV fr λ_ _ _ e=>by cases e;exact(jG _ _ rfl)
 exact s▸kk R r' e
theorem aeE{ks:List (Str×PV)}{us:List PV}{C:Str}{r:Nat×List (Str×PV)×List Str}(S:aW c d I)(Mu:g9 c O d)(h1:iR (I.e F.nm (fL P.σ)) args=some us)(h2:rO (I.e F.nm (fL P.σ)) kws=some ks)(hk:ak F.nm C=some .globalImplicit)(hd:C≠("__debug__":Str))(ns:t7 P.σ z=false)(hm:O.make C us ks=some r)(hp:putN F.nm z (.a7 r.1 r.2.1 r.2.2) P.σ=some cJ):Nx A P (.Assign [.Name z xp] (.Call (.Name C np) args kws cp) pos) cJ:=λK E kk=>by
 refine cP (Mu.make hm) λg hg kp k3=>?_;have ea:=rM (A:=A) (pos:=cp) S h1;have ka:=EX (A:=A) (pos:=cp) S h2;refine y0 (wR (nj hk hg hd P.x (sQ (lq ea.1) ka.1 kp (ea.2 P.vars _ _ λus y l r=>ka.2 (P.vars.le l) _ _ λws y' l' r'=>⟨y'.cT,k3 (r.mono l'.sub) r' λw a V xd ua hV=>?_⟩)))) rfl;have L:=(l.trans l').trans xd;have hn:∀b∈V,P.x.s.heap.get? b=none:=λb m=>(l.trans l').e.back (cK (hV b m).1.hi) (hV b m).2;exact BW (Q:=P.le L) (V:=V) (.le L) hp ns (aA a rfl ua) (λb m=>⟨(hV b m).1,P.vI (hn b m)⟩) (λb m q v _ h=>P.xQ (hn b m) h) (λb m=>.inr (hn b m)) λR r e _ _=>kk R r e
end
section
variable{y:Pt c}{y:Str}{v:AV}{A:Am d}{e:Expr}{sp dp kp:Pos}{vx:List Expr}{rs:List Str}{s:ag}
theorem Py(h:J0 e=some m):∃k p,e=.Constant (.str m) k p:=by
 induction e using ej with
 |Constant cn k p=>cases cn with
  |str y=>cases ay h;exact(jG k p rfl)
  |_=>exact nS h
 |_=>exact nS h
theorem adt(h:Nz e=some es):∃p,e=.List es p:=by
 induction e using ej with
 |List d0 p=>cases ay h;exact⟨p,rfl⟩
 |_=>exact nS h
@[elab_as_elim] theorem N2{ks:List (Option Expr)}{K:Option Expr->List Expr->List Str->Prop}{k:Option Expr}(h:vJ (k::ks) vx=some rs)(kk:∀{y j p q vs rs},vJ ks vs=some rs->K (some (.Constant (.str y) j p)) (.List [] q::vs) (y::rs)):K k vx rs:=by
 induction vx using bO with
 |nil=>exact nS h
 |cons v vs=>
  exact aj h λe h1 g1=>aj g1 λy h2 g2=>aj g2 λes h3 g3=>aL g3 λh4 g4=>fH g4 λrs h5 g5=>by
   refine km (Py h2) λj p bZ=>?_;subst bZ;obtain⟨q,rfl⟩:=adt h3;cases jI h4;cases g5;cases h1;exact kk h5
structure Wm(h:am)(ks:List Str)(out:List (ac×ac))(as:List ao)(h':am):Prop where
 str:allStrKeys out=true
 keys:(strPairs out).map (·.1)=ks
 dl:pI h' 0 (strPairs out) as
 keep:∀b o,h.get? b=some o->h'.get? b=some o
 size:h.objs.size<=h'.objs.size
 new:∀b∈as,h.objs.size<=b
 nd:as.Nodup
theorem aft{M:cO}{A:bh}{E:ac->ag->Prop}{ks:List (Option Expr)}{Q:List (ac×ac)->ag->Prop}(h:vJ ks vx=some rs)(k:∀out as h' t,Wm s.heap rs out as h'->Q out {s with heap:=h',toks:=t}):ai (ah pw M) A (evalPairs (pairTrees ks vx env pos)) Q E s:=by
 induction ks generalizing vx rs s Q with
 |nil=>
  exact aL h λe h=>by
   cases jI e;cases ay h;exact pairTrees_nil_walk (k [] [] s.heap s.toks ⟨rfl,rfl,rfl,λ_ _ e=>e,bf _,λb m=>absurd m eX,wT⟩)
 |cons _ ks ih=>
  revert k;refine N2 h λ{y j p q vs rs} h k=>pairTrees_cons_walk (SV (wpAny_List (SR ⟨cu _,ih (s:={s with toks:=s.toks+1,heap:=s.heap.push (bu [] 0)}) h λout as h' t o=>?_⟩)));have sz:(s.heap.push (bu [] 0)).objs.size=s.heap.objs.size+1:=oA ..;have lt:s.heap.objs.size<h'.objs.size:=ba (i6 (i5 _) sz.symm) o.size;have nw:∀b∈as,s.heap.objs.size<b:=λb m=>ba (i6 (i5 _) sz.symm) (o.new b m);exact k _ (s.heap.objs.size::as) h' t ⟨o.str,af (y:: ·) o.keys,(tL _ as rfl rfl (dh ([]) 0 (o.keep _ _ (ft _ rfl)) (bf _)) o.dl),λb p e=>o.keep b p (c5 _ e),cy lt,λb m=>(bw m).elim (λe=>aD e.symm) λm=>cy (nw b m),ny ⟨λm=>cV _ (nw _ m),o.nd⟩⟩
theorem D_{ks:List (Option Expr)}(h:vJ ks vx=some rs):ks.all (·.isSome)=true/\ks.length=vx.length/\rs.length=ks.length:=by
 induction ks generalizing vx rs with
 |nil=>
  exact aL h λe h=>by
   cases jI e;cases ay h;exact(eA rfl rfl rfl)
 |cons _ ks ih=>
  exact N2 (K:=λk vx rs=>(k::ks).all (·.isSome)=true/\(k::ks).length=vx.length/\rs.length=(k::ks).length) h λh=>e8 (ih h) λa b e=>(eA a (af jq b) (af jq e))
theorem ac5{ks:List (Option Expr)}(hk:vJ ks vx=some rs)(h0:ks.isEmpty=false)(hn:rs.Nodup)(hz:rs.length<=15)(hp:putN F.nm z (.dl rs 0) P.σ=some cJ):Nx A P (.Assign [.Name z xp] (.Dict ks vx dp) pos) cJ:=λK E kk=>by
 refine e8 (D_ hk) λa1 a2 a3=>y0 ?_ rfl;refine wpAny_Dict_walk (knd:=strKind pw c.w) a1 a2 (λh=>by rw[h] at h0;exact tf h0) (by lia) (aft hk λout as h' t o=>?_);have hd0:h'.DictOf (strKind pw c.w) P.x.s.heap.objs.size []:=am.DictOf.at (h:=P.x.s.heap.push {cls:=.type "dict",data:=.dict #[]}) (am.DictOf.new P.x.s.heap) λp e=>o.keep _ p e;refine display_done_str (P:=λh2=>ai (ah pw c.w) A.A (Cc F.env z (.ref P.x.s.heap.objs.size)) (λ_=>K .next) E _) o.str (by exact o.keys.symm▸hn) hd0 λh2 qJ Ut=>?_;have nw:∀b∈as,P.x.s.heap.objs.size<b:=λb m=>ba (i6 (i5 _) (oA ..).symm) (o.new b m);have le:=P.x.cG (t:=t+out.length) (h':=h2) λb p e=>(Ut.2 b (gE (fB e))).trans (o.keep b p (c5 _ e));have low:∀b∈P.x.s.heap.objs.size::as,P.x.s.heap.objs.size<=b:=λb m=>(bw m).elim (λe=>aD e.symm) λm=>cy (nw b m);have fresh:∀b∈P.x.s.heap.objs.size::as,P.x.s.heap.get? b=none:=λb m=>by
  cases q:P.x.s.heap.get? b with
  |none=>rfl|some p=>exact absurd (fB q) (gJ (low b m))
 exact BW (Q:=P.le le) (V:=P.x.s.heap.objs.size::as) (.le le) hp (Eu hp rfl) ⟨_,rfl,strPairs out,as,qJ,o.dl.mono (λb p m e=>(Ut.2 b λq=>cV _ (q▸nw b m)).trans e) (bf _),o.keys,rfl,ny ⟨λm=>cV _ (nw _ m),o.nd⟩⟩
  (λb m=>⟨⟨P.x.EN (fresh b m),P.x.DG (fresh b m),P.x.hi (low b m)⟩,P.vI (fresh b m)⟩) (λb m q v _ h=>P.xQ (fresh b m) h) (λb m=>.inr (fresh b m)) λR r e _ _=>kk R r e
theorem pI.item(s:pI h n vs as)(hk:m∈vs.map (·.1))(nd:as.Nodup):∃D vals j,valueAt vs m=some (.ref D)/\D∈as/\h.get? D=some (bu vals j)/\vals.length<=n/\
  ∀h',(∀b o,b∈as->b≠D->h.get? b=some o->h'.get? b=some o)->(∃mY m',h'.get? D=some (bu mY m')/\mY.length<=n+1)->pI h' (n+1) vs as:=by
 induction vs generalizing as with
 |nil=>exact mN hk
 |cons q vs ih=>
  refine bE λgG hG=>?_;obtain⟨a,r,e,rfl,⟨vals,j,e1,hz⟩,s⟩:=s;have nd:=iS nd;refine hG ?_;by_cases k:q.1=m
  ·exact(IJ a vals j (by show((q::vs).find? _).map _=_;erw[List.find?_cons_of_pos (by exact jU k)];exact af some e) (.head _) e1 hz (λh' kp o=>(tL a r e rfl o (s.mono (λb o mb=>kp b o (.tail _ mb) λq=>nd.1 (q▸mb)) (iH _)))))
  ·exact Ds (ih s ((bw hk).elim (λe=>absurd e.symm k) id) nd.2) λD mY m' k1 k2 k3 k4 k5=>(IJ D mY m' (by show((q::vs).find? _).map _=_;erw[List.find?_cons_of_neg (by exact λe=>k (a5 e))];exact k1) (.tail _ k2) k3 k4 (λh' kp o=>(tL a r e rfl (dh vals j (kp a _ (.head _) (λq=>nd.1 (q▸k2)) e1) (y6 hz)) (k5 h' (λb o mb ne e=>kp b o (.tail _ mb) ne e) o))))
theorem aaA{kk:Nat}{ks:List Str}(S:aW c d I)(h0:j8 P.σ z=some (.dl ks n))(hl:ap.endLine=cp.line)(hk:ks.contains m=true)(hz:n<az)(he:bW (I.e F.nm) P.σ e=some (p,σ'))(hp:putN F.nm z (.dl ks (n+1)) σ'=some cJ):
  Nx A P (.Expr (.Call (.Attribute (.Subscript (.Name z xp) (.Constant (.str m) kk kp) sp) "append" ap) [e] [] cp) pos) cJ:=λK E kk=>by
 refine bE λgG hG=>?_;have h0:=ug h0;obtain⟨u,V,a,rfl,vs,as,h1,h3,h4,hU,h6⟩:=P.own z _ h0.1;have nd:=iS h6;refine Ds (h3.item (h4.symm▸qg hk) nd.2) λD vals j k1 k2 k3 k4 k5=>?_;have mU:∀b∈a::as,b∈P.U z:=λb m=>hU▸m;have le:=P.x.cG (t:=P.x.s.toks+1+1) (h':=P.x.s.heap) λ_ _ e=>e;have hT:({P.x.s with toks:=P.x.s.toks+1}:ag).TypeIs (.ref a) "dict":=am.DictOf.typeIs (s:={P.x.s with toks:=P.x.s.toks+1}) h1;refine hG (yZ (AR rfl hl (wv (sD S he)) (by show 1<=20;decide) SW SY (Subscript_ (qI P V h0.2 (SV (DK hT slot_dict_getitem.lookup (wpAny_getItem_of (s:={P.x.s with toks:=P.x.s.toks+1}) (knd:=PySem.strKind pw c.w) (k:=m) (by simp[PySem.strKind,ac.isStrOf]) h1.mapOf k1
  (j5 D _ j rfl k3 (DD (P:=P.le le) S he λu Q X r=>⟨Q.x.cT,?_⟩)))))))) vM rfl)
 refine e8 (X.nU h0.1 (.inr rfl)) λhx eU kp=>?_;have DU:=mU D (.tail _ k2);have e2:=kp D _ DU k3;refine Ku (items:=vals.toArray) (hsz:=by exact i4.symm▸rN (aq k4 (cy hz))) ⟨j,e2⟩ λh' ve mZ=>dL ve λk' e3=>?_;rw[show vals.toArray.push u=(vals++[u]).toArray by simp] at e3;refine e8 (lU (σ₀:=Q.σ) (X.σ.symm▸hp)) λ_ bY _=>?_;subst bY;have zz:∀b o,b∈P.U z->b≠D->P.x.s.heap.get? b=some o->h'.get? b=some o:=λb o m ne e=>(mZ.2 b ne).trans (kp b o m e);exact cP (((bD.le le).trans X.R).but (t:=Q.x.s.toks) (v':=.dl ks (n+1)) (V:=a::as) hx (X.var V) (eU▸DU) mZ (II e2) ⟨a,rfl,vs,as,h1.at λo e=>zz a o (mU a (.head _)) (λq=>nd.1 (q▸k2)) e,k5 h' (λb o m ne e=>zz b o (mU b (.tail _ m)) ne e) (dh (vals++[u]) k' e3 (by exact da.symm▸yP k4)),h4,rfl,h6⟩ (λb m=>.inl (eU▸mU b m)) nofun) λR r' e s=>s▸kk R r' e
end
end
section
variable{c:Cx}{F:Fm}{P:St c F}{d k n:Nat}{A:Am d}{O:aK}{I:Ip}{e t:Expr}{p:PV}{σ' σ₁:ar}{pos cp np:Pos}{mu:List Str}{r:fS×ar}{outer:List Env}{K:Flow->ag->Prop}{E:ac->ag->Prop}{z:Str}{v:AV}{l:List PV}{args:List Expr}{kws:List fj}
section
variable{Q R:St c F}{it:Expr}{b:List aH}{fl:fS}{st:aH}{B W:ao->Prop}{g i:Nat}{w:Pt c}
def Kn(A:Am d)(P:St c F)(r:fS×ar)(outer:List Env)(K:Flow->ag->Prop)(E:ac->ag->Prop):Prop:=match r.1 with
 |.next=> ∀Q,bD P Q->Q.σ=r.2->K .next Q.x.s|.ret p=> ∀y v,cH (WU P) P.x y->Rd p y v->K (.ret v) y.s|.exc=>Fc A P outer/\∀v s',rZ A P outer v s'->E v s'
theorem Kn.pre(a:bD P Q)(k:Kn A P r outer K E):Kn A Q r outer K E:=by
 obtain⟨fl,σ⟩:=r;cases fl with
 |next=>exact λR b e=>k R (a.trans b) e|ret p=>exact λy v l=>k y v (a.EI l a.wu)|exc=>exact⟨k.1.step a,λv s' l=>k.2 v s' (l.pre a)⟩
def Ex(A:Am d)(P:St c F)(t:Sem Flow)(r:fS×ar):Prop:=∀outer K E,Kn A P r outer K E->ai (ah pw c.w) A.A t K E P.x.s
theorem Nx.ex(h:Nx A P st σ'):Ex A P (iI st F.env) (.next,σ'):=λ_ K E k=>h K E k
def Sd(c:Cx)(d:Nat)(X:aN->List Str->ar->aH->aZ):Prop:=∀{F:Fm} {P:St c F} {A:Am d} {mu st r},X F.nm mu P.σ st=some r->Ex A P (iI st F.env) r
theorem Kn.seq{o:aZ}{q:fS×ar}{K':Flow->ag->Prop}{E':ac->ag->Prop}(h:(if q.1.hZ=true then o else some q)=some r)(k:Kn A P r outer K E)(nx:o=some r->∀Q:St c F,bD P Q->Q.σ=q.2->Kn A Q r outer K E->K' .next Q.x.s)(rt:∀v s,K (.ret v) s->K' (.ret v) s)(ex:∀v s,E v s->E' v s):Kn A P q outer K' E':=by
 obtain⟨fl,σ⟩:=q;cases fl with
 |next=>exact λQ a e=>nx h Q a e (k.pre a)
 |ret p=>
  obtain rfl:=ay h;exact λy v l r=>rt v _ (k y v l r)
 |exc=>
  obtain rfl:=ay h;exact⟨k.1,λv s l=>ex v s (k.2 v s l)⟩
theorem wp{X:aN->List Str->ar->aH->aZ}(S:Sd c d X):∀{b:List aH} {P:St c F} {r},aS (X F.nm mu) b P.σ=some r->Ex A P (tz b F.env) r:=by
 intro b;induction b with
 |nil=>
  intro P r h outer K E k;obtain rfl:=ay h;exact FL (k P (.refl P) rfl)
 |cons st b ih=>exact λ{P r} h outer K E k=>aj h λq h1 h2=>FM (S h1 outer _ _ (k.seq h2 (λh Q a e k=>ih (e.symm▸h) outer K E k) (λ_ _ z=>z) λ_ _ z=>z))
def Lv(A:Am d)(P:St c F)(outer:List Env):fS->ac->ag->Prop
 |.exc=>rZ A P outer|_=>No
theorem MF:PassesOwnAt (ah pw c.w) A.A A.A F.env (Lv A P outer fl):=by
 cases fl with
 |exc=>exact Ve|_=>exact λ_ _ z=>z.elim
theorem Kn.lv(k:Kn A P r outer K E)(h:Kn A P r outer K (Lv A P outer r.1)->ai (ah pw c.w) A.A (iI st F.env) K (Lv A P outer r.1) P.x.s):ai (ah pw c.w) A.A (iI st F.env) K E P.x.s:=by
 obtain⟨fl,σ⟩:=r;cases fl with
 |next=>exact cQ (h k) (λ_ _ z=>z) λ_ _ z=>z.elim|ret p=>exact cQ (h k) (λ_ _ z=>z) λ_ _ z=>z.elim|exc=>exact cQ (h ⟨k.1,λ_ _ z=>z⟩) (λ_ _ z=>z) k.2
theorem U2{c':List aH}(S:aW c d I){X:aN->List Str->ar->aH->aZ}(ih:Sd c d X)(h:((I.t F.nm (bB P.σ) t).bind λr=>aS (X F.nm mu) (if r=true then b else c') P.σ)=some r):Ex A P (iI (.If t b c' pos) F.env) r:=λouter K E k=>aj h λv h1 h2=>wpAny_If (RS S h1 λQ X=>by
 have h2:=X.σ.symm▸h2;induction v using ji with
 |true=>exact wp ih h2 outer K E (k.pre X.R)|false=>exact wp ih h2 outer K E (k.pre X.R))
theorem afX(S:∀n,aW c d (ip n O))(ih:∀m,m<=n->Sd c d (aw O m))(h:aw O (n+1) F.nm mu P.σ (.While t b [] pos)=some r):Ex A P (iI (.While t b [] pos) F.env) r:=λouter K E k=>k.lv λk=>wpAny_While (codeAny_whileLoop
 (λm s'=>m<=n+1/\∃Q:St c F,bD P Q/\Q.x.s=s'/\aw O m F.nm mu Q.σ (.While t b [] pos)=some r) (λm s' z=>by
  obtain⟨hm,Q,a,rfl,h⟩:=z;induction m using nq with
  |zero=>exact nS h
  |succ m=>
   refine aj (show((ip m O).t F.nm (bB Q.σ) t).bind (λr=>if r=true then(aS (aw O m F.nm mu) b Q.σ).bind λq=>if q.1.hZ=true then aw O m F.nm mu q.2 (.While t b [] pos) else some q else some (.next,Q.σ))=some r from h) λv h1 h2=>RS (S m) h1 λR X=>?_;have k:=k.pre (a.trans X.R);induction v using ji with
   |false=>
    obtain rfl:=ay h2;exact FL (k R (.refl R) X.σ)
   |true=>exact aj h2 λq h3 h4=>wp (ih m (KC hm)) (X.σ.symm▸h3) outer _ _ (k.seq h4 (λh Z b e _=>⟨m,i5 m,lF hm,Z,(a.trans X.R).trans b,rfl,e.symm▸h⟩) (λ_ _ z=>z) λv s z=>MF v s z))
 (n+1) ⟨bf _,P,.refl P,rfl,h⟩)
theorem bD.step{y:Pt c}(a:bD P Q){U:kY Q y λ_=>False}(l:br W g Q.x y)(h1:P.x.s.gens.size<=g)(h2:g<=Q.x.s.gens.size)(h:∀b,W b->WU P b\/P.x.s.heap.get? b=none):bD P (Q.move y U):=
 ⟨br.shrink (W':=λb=>WU P b\/P.x.s.heap.get? b=none) (br.trans (a.st.weaken λ_=>.inl) ((l.lower h1 h2).weaken h)) λ_=>id,a.wu,λz k fs ow x e V=>(a.a7 z k fs ow x e V).imp id (U.old z _ id)⟩
structure Lp(d:Nat)(P Q:St c F)(i g:Nat)(l:List PV)(B:ao->Prop):Prop where
 R:bD P Q
 it:dM d i g l B Q.x
 back:∀b,B b->WU P b\/P.x.s.heap.get? b=none
 env:∀b,B b->¬dm F.env b
 U:∀b,B b->∀z v,ak Q.σ z=some v->b∉Q.U z
 g1:P.x.s.gens.size<=g
 g2:g<=Q.x.s.gens.size
theorem Lp.move(L:Lp d P Q i g l B)(st:br B g Q.x w):∃Z:St c F,bD P Z/\Z.x=w/\Z.σ=Q.σ/\Z.U=Q.U:=(wc (Q.move w (.xW st L.env λq v _ h b m k=>L.U b k q v h m)) (L.R.step st L.g1 L.g2 L.back) rfl rfl rfl)
theorem Lp.next{m:List PV}{B':ao->Prop}{Z R:St c F}(L:Lp d P Q i g l B)(st:br B g Q.x Z.x)(it:dM d i g m B' Z.x)(dn:∀b,B' b->B b\/Q.x.s.heap.get? b=none)(e1:Z.σ=Q.σ)(e2:Z.U=Q.U)(a:bD P Z)(b:bD Z R):Lp d P R i g m B':=by
 have env:∀b,B' b->¬dm F.env b:=λb k=>(dn b k).elim (L.env b) Q.vI;have U:∀b,B' b->¬WU Z b:=λb k q=>q.elim (λq=>env b k (m9 q)) λq=>by
  refine eH q λz v h m=>?_;rw[e1] at h;rw[e2] at m;exact(dn b k).elim (λk=>L.U b k z v h m) λn=>Q.xQ n h m
 exact⟨a.trans b,it.later (b.st.later it.live U),λb k=>(dn b k).elim (L.back b) λn=>(L.R.st.e.back (cK (it.live b k).1.hi) n).symm,env,λb' k z v h m=>(b.wu b' (.inr (dh z v h m))).elim (U b' k) λn=>(it.live b' k).2.elim λo e=>nS (n.symm.trans e),L.g1,aq L.g2 (aq st.e.di b.st.e.di)⟩
theorem abA{xs:List Str}{σ:ar}(nd:(σ.map (·.1)).Nodup)(h:ak (B3 xs σ) z=some v):ak σ z=some v:=Ho nd (eJ (gN h)).1
theorem Rf{xs:List Str}{σ:ar}(nd:(σ.map (·.1)).Nodup):((B3 xs σ).map (·.1)).Nodup:=(List.Sublist.map _ u0).nodup nd
theorem Kn.lh{q:fS×ar}(h:lh t p q=some r)(k:Kn A P r outer K E):Kn A P q outer K E:=by
 induction p using dq with
 |inst=>exact aL h λ_ h=>ay h▸k
 |set=>
  obtain rfl:=ay h;obtain⟨fl,σ⟩:=q;cases fl with
  |next=>exact λQ a e=>k (Q.weak (B3 (wb t) Q.σ) (Rf Q.nd) λz v=>abA Q.nd) (a.trans (.weak λz k fs ow h=>Ho (Rf Q.nd) (oV ⟨gN h,by show(!(_&&false))=true;rw[FJ];rfl⟩))) (af _ e)|_=>exact k
 |_=>exact ay h▸k
theorem W8{X:aN->List Str->ar->aH->aZ}(S:aW c d I)(ov:Ov c d)(ih:Sd c d X)(h:((bW (I.e F.nm) P.σ it).bind λq=>over q.1 λsrc=>(dX (aS (X F.nm mu) b) F.nm t src q.2).bind (lh t q.1))=some r):Ex A P (iI (.For t it b [] pos) F.env) r:=λouter K E k=>k.lv λk=>
 aj h λq h1 h2=>wpAny_For (qh S h1 λu Q Y rd=>by
  refine aB (ov (A:=A) h2 rd) λxs h3 gi=>aj h3 λr' h4 h5=>gi _ _ λy i B g le vf nw g1 g2=>?_;have k:=k.lh h5;refine codeAny_forLoop_any (λm s'=> ∃(Q:St c F) (l:List PV) (B:ao->Prop),l.length=m/\Q.x.s=s'/\Lp d P Q i g l B/\dX (aS (X F.nm mu) b) F.nm t l Q.σ=some r') (λm s' z=>?_) xs.length (yv (Q.le le) xs B rfl rfl ⟨Y.R.trans (.le le),vf,λb m=>(Y.R.st.e.back (cK (vf.live b m).1.hi) (nw b m)).symm,λb m=>Q.vI (nw b m),λb m z v=>Q.xQ (nw b m),aq Y.R.st.e.di g1,g2⟩ (Y.σ.symm▸h4));refine xH z λQ l B c4 pX L h=>?_;subst c4;subst pX;induction l using bO with
  |nil=>
   obtain rfl:=ay h;refine L.it.done A λw st=>kP (L.move st) λZ a bZ e _=>?_;subst bZ;exact FL (k Z a e)
  |cons p l=>
   refine aj h λσ₁ h6 h7=>aj h7 λq h8 h9=>L.it.next A λv B' w rd vf st up dn=>kP (L.move st) λZ a bZ e e'=>?_;subst bZ;exact vf.go A (Ms (.refl Z) (e.symm▸h6) rd λR b er=>wp ih (er.symm▸h8) outer _ _ ((k.pre (a.trans b)).seq h9 (λh R' b' e2 _=>⟨l.length,i5 _,R',l,B',rfl,rfl,L.next st vf dn e e' a (b.trans b'),e2.symm▸h⟩) (λ_ _ z=>z) λv s z=>MF v s z))) (AA (sD S h1) F.env)
end
section
variable{J:Ip}{i ob fn:Expr}{cJ:ar}{xp ap:Pos}{m y:Str}{op:ia}
theorem Jm{q:Expr×List Expr×List fj×Pos}(h:zW e=some q):e=.Call q.1 q.2.1 q.2.2.1 q.2.2.2:=by
 induction e using ej with
 |Call=>cases ay h;rfl
 |_=>exact nS h
theorem Pu{q:Expr×Str×Pos}(h:GJ e=some q):e=.Attribute q.1 q.2.1 q.2.2:=by
 induction e using ej with
 |Attribute=>cases ay h;rfl
 |_=>exact nS h
theorem uA(h:iB e=some z):∃p,e=.Name z p:=by
 induction e using ej with
 |Name x p=>cases ay h;exact⟨p,rfl⟩
 |_=>exact nS h
theorem Sg(h:IB e=true):∃k p,e=.Constant (.int 0) k p:=by
 induction e using ej with
 |Constant cn k p=>induction cn using csC with
  |int j=>
   obtain rfl:=a5 (h:(j==0)=true);exact(jG k p rfl)
  |_=>exact ff h
 |_=>exact ff h
theorem Ee{q:Str×List Expr×List fj}(h:ED e=some q):∃np p,e=.Call (.Name q.1 np) q.2.1 q.2.2 p:=aj h λa h1 h2=>fH h2 λC h3 h4=>by
 obtain⟨np,e⟩:=uA h3;exact(jG np a.2.2.2 (h4▸e▸Jm h1))
@[elab_as_elim] theorem Bo{m:List Expr->List fj->Prop}(h:xJ args kws=some e)(K:m [e] []):m args kws:=by
 induction kws using bO with
 |nil=>exact qS h K|cons=>exact nS h
@[elab_as_elim] theorem kU{o:Option ar}{m:fS×ar->Prop}(h:eD o=some r)(K:∀σ,o=some σ->m (.next,σ)):m r:=fG h K
@[elab_as_elim] theorem ZE{m:AV->Prop}(h:v.ux=some p)(K:m (.pv p)):m v:=by
 induction v using lc with
 |pv=>exact ay h▸K|_=>exact nS h
@[elab_as_elim] theorem XV{m:AV->Prop}{q:List Str×Nat}(h:v.EE=some q)(K:m (.dl q.1 q.2)):m v:=by
 cases v with
 |dl=>cases ay h;exact K
 |_=>exact nS h
theorem Xv(h:P7 e=some y):∃yp p2 k ip p3,e=.Call (.Attribute (.Name y yp) "pop" p2) [.Constant (.int 0) k ip] [] p3/\p2.endLine=p3.line:=aj h λq h1 h=>aj h λa h2 h=>aj h λy' h3 h=>aj h λi h4 h=>aL h λhc h=>by
 refine e8 hc λhi hm hl=>?_;obtain rfl:=ay h;refine km (Sg hi) λk ip bZ=>?_;subst bZ;obtain⟨yp,e3⟩:=uA h3;exact(MV yp a.2.2 k ip q.2.2.2 ((Jm h1).trans (Bo (m:=λx y=>Expr.Call q.1 x y q.2.2.2=_) h4 (by erw[Pu h2];erw[e3];erw[hm];rfl))) hl)
theorem IE(S:aW c d I)(h:zS I F.nm P.σ (.Call fn args kws cp)=some r):Ex A P (iI (.Expr (.Call fn args kws cp) pos) F.env) r:=fG h λp h1=>(Zo S h1).ex
theorem ZT{o:Option AV}(S:aW c d I)(Mu:g9 c O d)(hk:j8 P.σ z=o)(h:NR O I F.nm P.σ z m args kws (ap.endLine==cp.line) (zS I F.nm P.σ (.Call (.Attribute (.Name z xp) m ap) args kws cp)) o=some r):
  Ex A P (iI (.Expr (.Call (.Attribute (.Name z xp) m ap) args kws cp) pos) F.env) r:=by
 induction o using qy with
 |none=>exact IE S h
 |some v=>induction v using lc with
  |own l=>
   refine aL h λhl g=>aL g λhz g1=>d3 g1 (λhm g2=>aj g2 λe h1 g3=>aj g3 λq h2 g4=>aj g4 λl' h3 g5=>kU g5 λσ hp=>?_) λ_ g2=>aL g2 λhm g3=>aj g3 λw h1 g4=>aL g4 λh0 g5=>aj g5 λq h2 g6=>aj g6 λl' h3 g7=>kU g7 λσ hp=>?_
   ·cases hm;exact Bo h1 (aeg S hk (a5 hl) hz h2 h3 hp).ex
   ·obtain⟨rfl,hm⟩:=hm;obtain rfl:=jI hm;exact km (Sg h0) λk0 ip e0=>xB h1 (aa (e0) ((act S hk (a5 hl) hz h2 h3 hp).ex))
  |a7=>exact aL h λhl h=>aj h λe h1 h=>aj h λq h2 h=>aj h λeY h3 h=>kU h λσ hp=>Bo h1 (ZY S Mu hk (a5 hl) h2 h3 hp).ex|_=>exact IE S h
theorem Φ(S:aW c d I)(Mu:g9 c O d)(h:Rj O I F.nm P.σ m args kws (ap.endLine==cp.line) (zS I F.nm P.σ (.Call (.Attribute ob m ap) args kws cp)) ob=some r):Ex A P (iI (.Expr (.Call (.Attribute ob m ap) args kws cp) pos) F.env) r:=by
 induction ob using ej with
 |Name=>exact ZT S Mu rfl h
 |Attribute b f yp=>
  refine aj h λx hx h=>aL h λhm h=>aj h λv h1 h=>aj h λi h2 h=>aL h λht h=>aj h λe h3 h=>aj h λq h4 h=>aj h λw h5 h=>aj h λl h6 h=>aL h λho h=>kU h λσ hp=>?_;obtain⟨xp,rfl⟩:=uA hx;obtain⟨rfl,hl⟩:=hm;exact Bo h3 (Vx S h1 h2 (a5 hl) ht h4 h5 h6 ho.1 ho.2 hp).ex
 |Subscript b i sp=>
  refine aj h λx hx h=>aj h λk hk h=>aL h λhm h=>aj h λv h1 h=>aj h λi h2 h=>aL h λht h=>aj h λe h3 h=>aj h λq h4 h=>kU h λσ hp=>?_;obtain⟨xp,rfl⟩:=uA hx;refine km (Py hk) λ_ _ bZ=>?_;subst bZ;obtain⟨rfl,hl⟩:=hm;revert h1;exact XV h2 λh1=>Bo h3 (aaA S h1 (a5 hl) ht.1 ht.2 h4 hp).ex
 |_=>exact nS h
theorem Ϫ(S:aW c d I)(Mu:g9 c O d)(h:PW O I F.nm P.σ e=some r):Ex A P (iI (.Expr e pos) F.env) r:=aj h λq h1 h=>by
 obtain⟨fn,args,kws,cp⟩:=q;cases Jm h1;refine uJ h (λa h2 g=>?_) λ_ h=>IE S h;cases Pu h2;exact Φ S Mu g
theorem adH{b:Bool}(h:b=true->p.io=none):Fe b p=.pv p:=by
 induction b using ji with
 |false=>rfl|true=>cases p<;>first|rfl|exact nS (h rfl).symm
theorem aej{b:Bool}(S:aW c d I)(ov:Ov c d)(S':aW c d ⟨oU O I J,D8 O I⟩)(h:bW (oU O I J F.nm) P.σ e=some (p,σ'))(hp:putN F.nm z (Fe (sG e&&b) p) σ'=some cJ):Nx A P (.Assign [.Name z xp] e pos) cJ:=by
 by_cases q:∃elt gens sc cp,e=.ListComp elt gens sc cp
 ·refine ab3 q λelt gens sc cp pX=>?_;subst pX;obtain⟨l,rfl⟩:∃l,p=.list l:=sq h (λh _=>by refine wa (yo h) λ_ _ _ _ l _ e=>?_;exact⟨l,e⟩) λh _ _=>by refine wa (yo h) λ_ _ _ _ l _ e=>?_;exact⟨l,e⟩
  exact ϯ S ov h hp
 ·have hc:∀elt gens sc pos,e≠ .ListComp elt gens sc pos:=λa b c d e=>q (YR a b c d e);by_cases z:sG e=true/\∃l,p=.list l
  ·obtain⟨z,l,rfl⟩:=z;rw[z] at hp;exact adV S ov h z hp hc
  ·rw[adH λe=>?_] at hp
   ·exact Yw S' h hp hc
   ·induction p using dq with
    |list l=>exact absurd ⟨(aX e).1,l,rfl⟩ z|_=>rfl
theorem NF{e:Expr}{q:PV×ar}{nm:aN}{σ:ar}(h:bW ((ip n O).e nm) σ e=some q):∃m,n=m+1:=by
 induction n using nq with
 |zero=>exact sq h (λh _=>nS h) λh _ _=>nS h|succ n=>exact⟨n,rfl⟩
variable(S:∀n,aW c d (ip n O))(ov:Ov c d)(Mu:g9 c O d)(Or:b9 c O d)
include S ov Mu
theorem XU(h:RM O (ip n O) F.nm mu P.σ z e=some r):Ex A P (iI (.Assign [.Name z xp] e pos) F.env) r:=by
 have plain:IY (ip n O) F.nm mu P.σ z e=some r->Ex A P (iI (.Assign [.Name z xp] e pos) F.env) r:=λh=>aj h λq h1 h=>kU h λσ hp=>by
  obtain⟨n,rfl⟩:=NF h1;exact(aej (S n) ov (S (n+1)) h1 hp).ex
 refine uJ h (λy h1 g=>?_) λ_ h=>uJ h (λq h1 h=>aj h λrs h2 h=>aL h λhz h=>kU h λσ hp=>?_) λ_ h=>uJ h (λq h1 h=>d3 h (λ_ h=>aj h λus h2 h=>aj h λks h3 h=>aL h λhk h=>aj h λo h4 h=>kU h λσ hp=>?_) λ_=>plain) λ_=>plain
 ·refine wa (Xv h1) λyp p2 k ip p3 tI hl=>?_;subst tI;cases ho:gu P.σ y with
  |none=>rw[ho] at g;exact nS g
  |some l=>
   rw[ho] at g;induction l using bO with
   |nil=>exact nS g|cons p l=>exact aj g λσ₁ h1 h=>kU h λσ hp=>(Xu ho hl h1 hp).ex
 ·induction e using ej with
  |Dict ks vs dp=>
   have h1:(if ks.isEmpty=true then none else some (ks,vs))=some q:=h1;refine fZ h1 λh0 h1=>?_;obtain rfl:=ay h1;exact(ac5 h2 (m8 h0) hz.1 hz.2 hp).ex
  |_=>exact nS h1
 ·refine km (Ee h1) λnp cp bZ=>?_;subst bZ;exact(aeE (S n) Mu h2 h3 hk.1 hk.2.1 hk.2.2 h4 hp).ex
theorem YT(h:JM O (ip n O) F.nm mu P.σ e t=some r):Ex A P (iI (.Assign [t] e pos) F.env) r:=by
 induction t using ej with
 |Name=>exact XU S ov Mu h|Tuple=>exact aj h λq h1 h=>kU h λσ hp=>(Zv (S n) h1 hp).ex
 |Subscript b i=>
  refine aj h λx hx h=>aj h λq h1 h=>aj h λl h2 h=>aj h λk h3 h=>aj h λl' h4 h=>kU h λσ hp=>?_;obtain⟨xp,rfl⟩:=uA hx;exact(abg (S n) h1 h2 h3 h4 hp).ex
 |Attribute b=>
  refine aj h λx hx h=>aj h λq h1 h=>aj h λv h2 h=>aj h λi h3 h=>aL h λht h=>kU h λσ hp=>dL (uA hx) λxp bY=>?_;subst bY;obtain⟨n,rfl⟩:=NF h1;exact(aeF (S n) (S (n+1)) ov h1 h2 h3 ht.1 ht.2 hp).ex
 |_=>exact nS h
include Or
theorem afA(h:Oh O (ip n O) F.nm P.σ op e t=some r):Ex A P (iI (.AugAssign t op e pos) F.env) r:=by
 induction t using ej with
 |Name x xp=>
  refine aj h λv h1 h=>aj h λa h2 h=>aj h λq h3 h=>aj h λp h4 h=>kU h λσ hp=>?_;revert h1;exact ZE h2 λh1=>(acP (S n) Or (ug h1).1 h3 h4 hp).ex
 |Subscript b i=>
  refine aj h λx hx h=>aj h λl h1 h=>aj h λk h2 h=>aj h λa h3 h=>aj h λq h4 h=>aj h λp h5 h=>aj h λl h6 h=>aj h λl' h7 h=>kU h λσ hp=>dL (uA hx) λxp bY=>?_;subst bY;exact(X2 (S n) Or h1 h2 h3 h4 h5 h6 h7 hp).ex
 |_=>exact nS h
end
section
variable{m:Str}{y:Pt c}
theorem afp(l:Le P.jo y):cH (WU P) P.x y:=⟨λa o e=>l.sub a o (zH a o e),λa o e=>(l.new a o e).elim (λq=>Ev q (λq _=>.inr (.inr (.inr (by refine sx q λz v h _ m=>?_;exact(dh z v h m))))) .inl) λq=>.inr (.inl q),l.e.nJ⟩
theorem Q3{o:Option Bool}(h:o.getD false=true):o=some true:=by
 induction o using qy with
 |none=>exact ff h|some b=>exact af some h
theorem QN(S:aW c d I)(Mu:g9 c O d)(h:raises O I F.nm (bB P.σ) e=true)(f:Fc A P outer){K:ac->ag->Prop}(k:∀v s' B e,jj (F.env::outer) (λ_=>False) P.x.s v s' B e->E v s'):ai (ah pw c.w) A.A (eval e F.env) K E P.x.s:=by
 refine bE λgG hG=>aj (Q3 h) λq h1 h=>aL h λhk h=>aj h λvs h2 h=>fH h λks h3 h4=>km (Ee h1) λnp pos bZ=>?_;subst bZ;refine cP (Mu.n9 h4) λg hg kp k3=>?_;have ea:=rM (A:=A) (pos:=pos) S h2;have ka:=EX (A:=A) (pos:=pos) S h3;exact hG (wR (nj hk.1 hg hk.2 P.jo (sQ (lq ea.1) ka.1 kp (ea.2 P.rG _ _ λus y l r=>ka.2 (P.rG.le l) _ _ λws y' l' r'=>⟨y'.cT,k3 (A:=A) (r.mono l'.sub) r' f.stack (f.frames.ext (l.trans l').e) λv s' B e fl=>k v s' B e (fl.ext (l.trans l').e)⟩))))
theorem YW(S:aW c d I)(Mu:g9 c O d)(h:raises O I F.nm (bB P.σ) e=true)(f:Fc A P outer){K:ac->ag->Prop}(k:∀v s',rZ A P outer v s'->E v s'):ai (ah pw c.w) A.A (eval e F.env) K E P.x.s:=QN S Mu h f λv s' B e fl=>k v s' (jj.after f fl)
theorem t_(S:aW c d I)(Mu:g9 c O d)(h:se O I F.nm P.σ e=some r):Ex A P (iI (.Return (some e) pos) F.env) r:=λouter K E k=>by
 refine uJ h (λp h1 h=>?_) λ_ h=>aL h λh1 h=>?_
 ·obtain rfl:=ay h;exact wpAny_Return_some (S.ev (x:=P.jo) h1 P.rG _ _ λu y l r=>k y u (afp l) r)
 ·obtain rfl:=ay h;exact wpAny_Return_some (YW S Mu h1 k.1 k.2)
theorem Sn(P:cD):(nsOkIn (KL P) 663&&nsIn (KL P) 663 "__init__"==some none&&de P "TiesException"==some (.ref 664))=true:=⋯
theorem Qe(P:cD):∃nm q bs hdct sn sub ab col dd k0 k1 k2 k3 k5,(KL P).lookup 664=some (excClassObj nm q 664 663 bs [.type "Exception",.type "BaseException",.type "object"] hdct sn sub ab col dd k0 k1 k2 k3 k5 "Exception.__new__"):=⟨_,_,_,_,_,_,_,_,_,_,_,_,_,_,rfl⟩
theorem acJ{vs:List PV}(S:aW c d I)(hk:ak F.nm ("TiesException":Str)=some .globalImplicit)(h:iR (I.e F.nm (fL P.σ)) args=some vs)(hz:vs.length<=az):Ex A P (iI (.Raise (some (.Call (.Name "TiesException" np) args [] cp)) none pos) F.env) (.exc,σ'):=λouter K E k=>by
 refine bE λgG hG=>?_;have z:=Sn c.w.params;simp only[mK,beq_iff_eq] at z;obtain⟨⟨z1,z2⟩,z3⟩:=z;obtain⟨n',q,bs,hdct,sn,sub,ab,col,dd,k0,k1,k2,k3,k5,ho⟩:=Qe c.w.params;have ea:=rM (A:=A) (pos:=cp) S h;exact hG (wpAny_Raise_call_sub (C:=664) (N:=663) (nm:=n') (q:=q) (bs:=bs) (hdct:=hdct) (sn:=sn) (sub:=sub) (ab:=ab) (col:=col) (dd:=dd) (k0:=k0) (k1:=k1) (k2:=k2) (k3:=k3) (k5:=k5) PySem.F.excBase_Exception A.ok.handled (lq ea.1) (mN:=(c.h₀.nsMap 663)) (nsMap_none_of_in c.K z1 z2)
  (nj hk z3 (by decide) P.x ⟨rfl,IQ (kws:=[]) (lq ea.1) rfl (ea.2 P.vars _ _ λus y l r=>uR (O' rfl (rN (r.length▸hz)) (y.cT 664 _ ho) ((am.Ns.of_isNs (isNs_of_in c.K z1)).keeps y.keep) (λh' e m=>k.2 _ _ (WN k.1 l.e y.tab m))))⟩))
theorem W9{O:aK}(S:∀n,aW c d (ip n O))(ov:Ov c d)(Mu:g9 c O d)(Or:b9 c O d)(ih:∀m,m<=n->Sd c d (aw O m)):Sd c d (aw O (n+1)):=λ{F P A mu st r} h=>by
 have h':Po O (ip n O) (aw O n) F.nm mu P.σ st=some r:=h;induction st using PZ with
 |Expr=>exact Ϫ (S n) Mu h'
 |Assign ts e pos=>
  exact aj h' λt h1 h2=>qS (m:=λts=>Ex A P (iI (.Assign ts e pos) F.env) r) h1 (YT S ov Mu h2)
 |AugAssign=>exact afA S ov Mu Or h'|If=>exact U2 (S n) (ih n (bf n)) h'
 |While t b CO=>
  refine rK h' λe _=>?_;cases e;exact afX S ih h
 |For t it b CO=>
  refine rK h' λe h=>?_;cases e;exact W8 (S n) ov (ih n (bf n)) h
 |Return e=>
  induction e using qy with
  |none=>exact nS h'|some e=>exact t_ (S n) Mu h'
 |Raise e cc=>
  refine aL h' λh0 h1=>aj h1 λe' h2 h3=>aj h3 λq h4 h5=>aL h5 λhk h6=>aj h6 λvs h7 h8=>aL h8 λhz h9=>?_;obtain rfl:=ay h9;cases h2;refine km (Ee h4) λnp cp bZ=>?_;subst bZ;induction cc using qy with
  |none=>
   refine e8 hk λh1 h2 h3=>?_;rw[h1] at h3;exact aa (h1) (aa (jI h2) (acJ (S n) h3 h7 hz))
  |some=>exact ff h0
 |_=>exact nS h'
theorem ad8{O:aK}(S:∀n,aW c d (ip n O))(ov:Ov c d)(Mu:g9 c O d)(Or:b9 c O d)(n:Nat):Sd c d (aw O n):=Nat.strongRecOn (motive:=λn=>Sd c d (aw O n)) n λn ih=>by
 induction n using nq with
 |zero=>exact λh=>nS h|succ n=>exact W9 S ov Mu Or λm hm=> @ih m (kA hm)
end
end
section
variable{α:Type}
noncomputable def xM(names:List Str):List (Str×α)->List (Str×α)->Option (List (Str×α))
 |[],l=>some l|q::r,l=>if names.contains q.1=true then(if(l.lookup q.1).isSome=true then none else xM names r (l++[q])) else none
noncomputable def sg:List (Str×α)->List (Str×α)->List (Str×α)
 |[],l=>l|q::r,l=>sg r (if(l.lookup q.1).isNone=true then l++[q] else l)
def jZ(names:List Str)(ds vs:List α)(ks:List (Str×α)):Option (List (Str×α)):=
 (xM names ks (names.zip vs)).bind λslots=>if names.length<vs.length then none else
  if((names.take (names.length- (ds.drop (ds.length-names.length)).length)).filter λn=>(slots.lookup n).isNone).isEmpty=true then
   some (names.filterMap λn=>((sg ((names.drop (names.length- (ds.drop (ds.length-names.length)).length)).zip (ds.drop (ds.length-names.length))) slots).lookup n).map (n,·)) else none
end
section
variable{α σ:Type}{names:List Str}{ks l r:List (Str×α)}{s:ag}{ds vs:List α}{q:Str×α}{n:Str}{ns:List Str}{v:α}
theorem W6(get:σ->List (Str×α))(put:σ->List (Str×α)->σ)(hp:∀st l,get (put st l)=l)(hpp:∀st l m,put (put st l) m=put st m)(hg:∀st,put st (get st)=st)(g:Str×α->σ->Sem (ForInStep σ))
(LH:∀k v st,names.contains k=true->((get st).lookup k).isSome=false->g (k,v) st=pure (.yield (put st (get st++[(k,v)]))))(st:σ)(h:xM names ks (get st)=some l):forIn ks st g=pure (put st l):=by
 induction ks generalizing st l with
 |nil=>cases ay h;erw[yU];rw[hg]
 |cons q r ih=>
  refine aL h λh1 h=>fZ h λh2 h=>?_;rw[wP,LH q.1 q.2 st h1 (m8 h2),pure_bind];exact(ih (put st (get st++[(q.1,q.2)])) (by rw[hp];exact h)).trans (by rw[hpp])
theorem V8(g:Str×α->List (Str×α)->Sem (ForInStep (List (Str×α))))(LH:∀k v st,g (k,v) st=pure (.yield (if(st.lookup k).isNone=true then st++[(k,v)] else st)))(l:List (Str×α)):forIn ks l g=pure (sg ks l):=by
 induction ks generalizing l with
 |nil=>rfl|cons q r ih=>rw[wP,LH q.1 q.2,pure_bind];exact ih _
noncomputable def zQ(p:Arguments):Bool:=p.posonlyargs.isEmpty&&p.vararg.isNone&&p.kwonlyargs.isEmpty&&p.kwarg.isNone
def Ef(s:ag)(v:ac)(o:Option (Array ac)):Prop:=∀(M:f4) (A:bh) (E:ac->ag->Prop) (Q:Option (Array ac)->ag->Prop),Q o s->ai M A (seqItems? v) Q E s
noncomputable def N4(l:List Arg)(kd:List (Option Expr))(df:List Expr):Arguments:=⟨[],l,none,[],kd,none,df⟩
theorem aay{p:Arguments}(h:zQ p=true):∃l kd df,p=N4 l kd df:=by
 obtain⟨po,l,va,ko,kd,kw,df⟩:=p;refine dU (aX h) λh p4=>dU (aX h) λh p3=>dU (aX h) λp1 p2=>?_;obtain rfl:=jI p1;obtain rfl:=Gl.mp p2;obtain rfl:=jI p3;obtain rfl:=Gl.mp p4;exact⟨l,kd,df,rfl⟩
section
variable{β:Type}{M:f4}{A:bh}{E:ac->ag->Prop}{Q:β->ag->Prop}{t u:Sem β}{b:Prop}[Decidable b]
theorem IT{t:Sem σ}{x:σ}{k:σ->Sem β}(h:t=pure x)(K:ai M A (k x) Q E s):ai M A (t>>=k) Q E s:=ae (h▸au K)
theorem PM(h:¬b)(K:ai M A u Q E s):ai M A (if b then t else u) Q E s:=(iN h).symm▸K
end
theorem J6{fd:FuncData}{vals ds:List ac}{kv binds:List (Str×ac)}{o:Option (Array ac)}(hp:zQ fd.params=true)(hd:Ef s fd.defaults o)
(ho:(o.getD #[]).toList=ds)(h:jZ (fd.params.args.map (·.arg)) ds vals kv=some binds):BindsTo s fd ⟨vals,kv⟩ binds:=by
 intro M A E Q hq;obtain⟨nm,qn,p,bd,sc,gl,cl,df,kd,dc,pm,an,co,ct⟩:=fd;obtain⟨l,kdf,dfs,e⟩:=aay hp;obtain rfl:p=N4 l kdf dfs:=e;subst ho;refine aj h λslots h1 h2=>fZ h2 λLI h3=>aL h3 λahn h4=>?_;obtain rfl:=ay h4;refine(show ai M A (forIn kv ((l.map (·.arg)).zip vals,([]:List (Str×ac))) _>>=_) Q E s from IT (W6 (λst:List (Str×ac)×List (Str×ac)=>st.1) (λst l=>(l,st.2)) (λ_ _=>rfl) (λ_ _ _=>rfl) (λ_=>rfl) _ (λk v st a b=>(iP (Ln.mpr (.inl a))).trans (iN (ne_true_of_eq_false b))) _ h1) (ae (hd _ _ _ _ (PM (λq=>LI (cC (aX q).1)) (PM (λq=>dy ((af not ahn).symm.trans q)) ?_)))));exact IT (V8 _ (λk v st=>(apply_ite (λl=>(pure (uU l):Sem (ForInStep (List (Str×ac))))) ..).symm) _) (IT yU ((gO (l.map (·.arg))).symm▸au hq))
theorem Yg(h:xM names ks (q::l)=some r):∃r',r=q::r':=by
 induction ks generalizing l with
 |nil=>exact⟨l,(ay h).symm⟩|cons _ _ ih=>exact aL h λ_ h=>fZ h λ_ h=>ih h
theorem abX:∃r',sg ks (q::l)=q::r':=by
 induction ks generalizing l with
 |nil=>exact⟨l,rfl⟩
 |cons p _ ih=>
  show∃r',sg _ (if((q::l).lookup p.1).isNone=true then(q::l)++[p] else q::l)=q::r';by_cases c:((q::l).lookup p.1).isNone=true
  ·erw[iP c];exact ih
  ·erw[iN c];exact ih
theorem abd(h:jZ (n::ns) ds (v::vs) ks=some r):∃r',r=(n,v)::r':=aj h λm h1 h2=>fZ h2 λ_ h3=>aL h3 λ_ h4=>by
 cases ay h4;obtain⟨m',rfl⟩:=Yg h1;obtain⟨r',e⟩:=abX (ks:=((n::ns).drop ((n::ns).length- (ds.drop (ds.length- (n::ns).length)).length)).zip (ds.drop (ds.length- (n::ns).length))) (q:=(n,v)) (l:=m');refine aa (Ch) (aa (e) (aa (FF) ?_));rw[beq_self_eq_true];exact⟨_,rfl⟩
theorem abF(h:jZ ns ds (v::vs) ks=some (q::r)):q.2=v:=by
 induction ns using bO with
 |nil=>exact aj h λ_ _ g=>fZ g λc _=>absurd (Nat.zero_lt_succ _) c|cons n ns=>exact(abd h).elim λ_ e=>af oz (List.cons.inj e).1
theorem X_(nd:ns.Nodup):((ns.filterMap λn=>(l.lookup n).map (n,·)).map (·.1)).Nodup/\∀x∈(ns.filterMap λn=>(l.lookup n).map (n,·)).map (·.1),x∈ns:=by
 induction ns with
 |nil=>exact⟨wT,λx m=>mN m⟩
 |cons n ns ih=>
  have nd:=iS nd;have i:=ih nd.2;erw[Ch];cases l.lookup n with
  |none=>exact⟨i.1,λx m=>.tail _ (i.2 x m)⟩|some a=>exact⟨ny ⟨λm=>nd.1 (i.2 _ m),i.1⟩,λx m=>(bw m).elim (λe=>e▸ .head _) λm=>.tail _ (i.2 x m)⟩
theorem J8(h:jZ names ds vs ks=some r)(nd:names.Nodup):(r.map (·.1)).Nodup/\∀x∈r.map (·.1),x∈names:=aj h λm h1 h2=>fZ h2 λ_ h3=>aL h3 λ_ h4=>by
 cases ay h4;exact X_ nd
end
section
variable{c:Cx}{f:Fz}{vs ds:List ac}{l es:List PV}{lv kv:List (Str×ac)}{lf kf r:List (Str×PV)}{z:Str}{names ns:List Str}
theorem bH.look{X:Prop}(h:bH c f lv lf)(z:Str)(k1:lv.lookup z=none->lf.lookup z=none->X)(k2:∀v p,lv.lookup z=some v->lf.lookup z=some p->aV c f v p->X):X:=by
 induction lf generalizing lv with
 |nil=>
  revert k1;exact rT h λk1=>k1 rfl rfl
 |cons q lf ih=>
  revert k1 k2;obtain⟨y,p⟩:=q;refine oW h λ{v us} a h k1 k2=>?_;rw[FF,FF] at k1 k2;cases e:z==y with
  |true=>rw[e] at k2;exact k2 _ _ rfl rfl a
  |false=>rw[e] at k1 k2;exact ih h k1 k2
theorem bH.append(b:bH c f kv kf)(h:bH c f lv lf):bH c f (lv++kv) (lf++kf):=by
 induction lf generalizing lv with
 |nil=>exact rT h b|cons q lf ih=>exact oW h λa h=>.cons a (ih h)
theorem aR.zip(h:aR c f vs l)(ns:List Str):bH c f (ns.zip vs) (ns.zip l):=by
 induction l generalizing vs ns with
 |nil=>exact i0 h (by erw[agi];erw[agi];exact .nil)
 |cons p l ih=>
  refine eB h λa h=>?_;induction ns using bO with
  |nil=>exact .nil|cons n ns=>exact .cons a (ih h ns)
theorem abK(h:bH c f kv kf)(g:bH c f lv lf)(e:xM names kf lf=some r):∃q,xM names kv lv=some q/\bH c f q r:=by
 induction kf generalizing kv lv lf with
 |nil=>exact rT h (by cases ay e;exact(aA lv rfl g))
 |cons q kf ih=>
  refine aL e λh1 e=>fZ e λh2 e=>?_;revert h1 h2 e;obtain⟨y,p⟩:=q;exact oW h λ{v us} a h h1 h2 e=>aB (ih h ((bH.cons (x:=y) a .nil).append g) e) λq k1 k2=>g.look y (λn _=>(aA q ((iP h1).trans ((iN (by erw[n];exact dy)).trans k1)) k2)) λ_ _ _ n _=>absurd (by erw[n];rfl) h2
theorem adW(h:bH c f kv kf)(g:bH c f lv lf):bH c f (sg kv lv) (sg kf lf):=by
 induction kf generalizing kv lv lf with
 |nil=>exact rT h g
 |cons q kf ih=>
  obtain⟨y,p⟩:=q;refine oW h λ{v us} a h=>?_;show bH c f (sg us (if(lv.lookup y).isNone=true then lv++[(y,v)] else lv)) (sg kf (if(lf.lookup y).isNone=true then lf++[(y,p)] else lf));refine g.look y (λe1 e2=>?_) λ_ _ e1 e2 _=>?_
  ·erw[e1];erw[e2];exact ih h ((bH.cons a .nil).append g)
  ·erw[e1];erw[e2];exact ih h g
theorem Y7(h:bH c f lv lf):bH c f (ns.filterMap λn=>(lv.lookup n).map (n,·)) (ns.filterMap λn=>(lf.lookup n).map (n,·)):=by
 induction ns with
 |nil=>exact .nil
 |cons n ns ih=>
  refine aa (Ch) (aa (Ch) (h.look n (λe1 e2=>?_) λ_ _ e1 e2 r=>?_))
  ·erw[e1];erw[e2];exact ih
  ·erw[e1];erw[e2];exact .cons r ih
theorem Sm(hd:aR c f ds es)(hv:aR c f vs l)(hk:bH c f kv kf)(h:jZ names es l kf=some r):∃q,jZ names ds vs kv=some q/\bH c f q r:=aj h λm h1 h2=>fZ h2 λc1 h3=>aL h3 λc2 h4=>by
 cases ay h4;refine aB (abK hk (hv.zip names) h1) λq k1 k2=>?_;have e:(λn=>(q.lookup n).isNone)=λn=>(m.lookup n).isNone:=funext λn=>k2.look n (λe1 e2=>by erw[e1];erw[e2];rfl) λ_ _ e1 e2 _=>by erw[e1];erw[e2];rfl
 unfold jZ;rw[k1,SD,hv.length,hd.length,(hd.drop _).length,iN c1,e,iP c2];exact(aA _ rfl (Y7 (adW ((hd.drop _).zip _) k2)))
end
section
variable{c:Cx}{F:Fm}{d:Nat}{sc:fk}{binds kv:List (Str×ac)}{vs:List PV}{ks fs:List (Str×PV)}{V:List ao}{ow:List Str}
def Jj(sc:fk):Bool:=sc.kind==.function&& !sc.isCoroutine&& !sc.isGenerator&&sc.names.all λp=>ak sc.names p.1==some p.2&&(p.2==.local||p.2==.cell||p.2==.globalImplicit)
structure Fk(sc:fk):Prop where
 kind:sc.kind=.function
 co:sc.isCoroutine=false
 free:∀x,ak sc.names x≠some .free
 one:∀x k,(x,k)∈sc.names->ak sc.names x=some k
theorem Dv{sc:fk}(h:Jj sc=true):Fk sc/\sc.isGenerator=false:=by
 refine dU (aX h) λh3 h4=>?_;obtain⟨h2,h3⟩:=aX h3;exact dU (aX h2) λh1 h2=>⟨⟨a5 h1,tu _▸h2,λx m=>(ff ((aX (b7 h4 _ (gN m))).2)),λx k m=>a5 (aX (b7 h4 _ m)).1⟩,tu _▸h3⟩
structure GH{c:Cx}(sc:fk)(binds:List (Str×ac))(x:Pt c)(F:Fm)(y:Pt c):Prop where
 nm:F.nm=sc.names
 VM:F.env.scope=sc
 fr:F.env.frame=some F.env.locals
 le:Le x y
 f:y.f=x.f
 gens:y.s.gens=x.s.gens
 kp:∀b o,x.s.heap.get? b=some o->y.s.heap.get? b=some o
 own:jD F y
 cU:∀z a,F.env.cells.lookup z=some a->∃v,y.s.heap.IsCell a v
 var:∀z v,(z,v)∈binds->dB F.env y.s.heap z v
 new:∀b,dm F.env b->x.s.heap.get? b=none
 only:∀z a,F.env.cells.lookup z=some a->ak sc.names z=some .cell
section
variable{x y:Pt c}{A:Am (d+1)}{z:Str}{v:ac}{b:ao}
theorem PQ{ko:Str->Option gU}{m:Str->Option ac}(n:z∉binds.map (·.1)):KD ko binds m z=m z/\bindC ko binds m z=m z:=by
 induction binds generalizing m with
 |nil=>exact⟨rfl,rfl⟩
 |cons p r ih=>
  have n:=not_or.mp λq=>n (jO.mpr q);unfold KD bindC;by_cases q:ko p.1=some .local
  ·erw[iP q];erw[iP q];exact⟨(ih n.2).1.trans (iN n.1),(ih n.2).2⟩
  ·erw[iN q];erw[iN q];exact⟨(ih n.2).1,(ih n.2).2.trans (iN n.1)⟩
theorem Mj{ko:Str->Option gU}{m:Str->Option ac}(nd:(binds.map (·.1)).Nodup)(h:(z,v)∈binds):(ko z=some .local->KD ko binds m z=some v)/\(ko z=some .cell->bindC ko binds m z=some v):=by
 induction binds generalizing m with
 |nil=>exact mN h
 |cons p r ih=>
  have nd:=iS nd;unfold KD bindC;rcases bw h with h|h
  ·cases h;exact⟨λk=>by erw[iP k];exact(PQ nd.1).1.trans (iP rfl),λk=>by erw[iN (by refine aa (k) ?_;exact nofun)];exact(PQ nd.1).2.trans (iP rfl)⟩
  ·exact⟨(ih nd.2 h).1,(ih nd.2 h).2⟩
theorem Pt.top(x:Pt c)(h:x.s.heap.objs.size<=b):x.s.heap.get? b=none:=by
 cases q:x.s.heap.get? b with
 |none=>rfl|some o=>exact absurd (fB q) (gJ h)
theorem Iv{M:f4}{A:bh}{E:ac->ag->Prop}{qual:Str}{fa:Option ao}{code:ac}{Q:Env->ag->Prop}(S:Fk sc)(nd:(binds.map (·.1)).Nodup)(hk:∀q∈binds,ak sc.names q.1=some .local\/ak sc.names q.1=some .cell)(GC:pC sc.names=true->vw code=true)
(h:∀F y,GH sc binds x F y->Q F.env y.s):ai M A (SQ sc mE [] binds qual fa code none uM) Q E x.s:=by
 have L:=laid sc.names (x.s.heap.push {cls:=.type "frame",data:=.dict #[]}) [] (λx c e=>nS e) (λx y c e=>nS e);rw[show(x.s.heap.push {cls:=.type "frame",data:=.dict #[]}).objs.size=x.s.heap.objs.size+1 from oA ..] at L;have own:∀z,ak sc.names z=some .cell->∃a,(Ck (x.s.heap.objs.size+1) sc.names []).lookup z=some a:=λz e=>(L.own z (gN e)).imp λ_=>And.left;have look:∀z,sc.names.lookup z=ak sc.names z:=λz=>HM;refine wpAny_newFunctionEnv_cells S.kind (λq m=>?_) λenv he s' i=>?_
 ·rw[look];exact(hk q m).imp id λe=>⟨e,tG.mpr (own _ e)⟩
 ·subst he;refine eH i.done λhh tt bZ keep=>?_;subst bZ;have up:∀z a,(Ck (x.s.heap.objs.size+1) sc.names []).lookup z=some a->x.s.heap.objs.size<a:=λz a e=>i.above z a (mem_of_lookup e);have fr:∀a,x.s.heap.objs.size<=a->bV (x.grow hh tt keep) a:=λa l=>have f:=x.free l (x.top l);⟨f.f,f.h₀,f.hi⟩;refine h {
   env:=newEnv sc x.s.heap.objs.size mE (Ck (x.s.heap.objs.size+1) sc.names []) qual fa code none uM
   nm:=sc.names
   kind:=S.kind
   glob:=rfl
   blt:=rfl
   names:=λz e=>(look z).trans e
   cells:=λz e _=>e.elim (λe=>⟨.inl ((look z).trans e),tG.mpr (own z e)⟩) λe=>absurd e (S.free z)
   i9:=⟨x.j0 (bf _),λz a e=>x.j0 (cy (up z a e))⟩
   cl:=λz a e=>fO (up z a e)
   apart:=λz y a e1 e2=>name_of_addr i.apart (mem_of_lookup e1) (mem_of_lookup e2)
   code:=GC} (x.grow hh tt keep) ⟨rfl,rfl,rfl,x.cG keep,rfl,rfl,keep,⟨⟨_,i.toInCall.ns⟩,fr _ (bf _),λz e=>(look z).trans e,λz e=>?_⟩,λz a e=>⟨_,i.cell z a e⟩,λz v m=>?_,λb q=>?_,λz a e=>agd λn=>nS ((L.old z λm=>n (S.one z _ m)).symm.trans e)⟩
  ·obtain⟨a,e1⟩:=own z e;exact⟨(look z).trans e,a,e1,fr a (cy (up z a e1))⟩
  ·rcases hk (z,v) m with e|e
   ·exact .inl ⟨(look z).trans e,_,i.toInCall.ns,(Mj nd m).1 ((look z).trans e)⟩
   ·exact dL (own z e) λa e1=>.inr ⟨.inl ((look z).trans e),a,e1,(Eq.mp (af (am.IsCell hh a) ((Mj nd m).2 ((look z).trans e))) (i.cell z a e1))⟩
  ·exact q.elim (λq=>q▸eV _) λq=>q.elim λz e=>x.top (cy (up z b e))
end
structure aY where
 addr:ao
 st:aH
 qual:String
 dflt:ac
 pm:ac
 code:ac
 ds:List PV
 mu:List Str
noncomputable def aY.body(R:aY):List aH:=match R.st with
 |.FunctionDef _ _ body _ _ _ _ _ _ _=>body|_=>[]
noncomputable def aY.scope(R:aY):fk:=match R.st with
 |.FunctionDef _ _ _ _ _ _ scope _ _ _=>scope|_=>default
noncomputable def aY.names(R:aY):List Str:=match R.st with
 |.FunctionDef _ args _ _ _ _ _ _ _ _=>args.args.map (·.arg)|_=>[]
def Pf(t:aH):Bool:=match t with
 |.FunctionDef _ args _ _ _ _ _ _ _ _=>zQ args|_=>false
def aY.plain(R:aY):Bool:=Pf R.st
def Pq(v:ac)(p:PV):Bool:=p.iQ||match v with
 |.none=>p.xt.isSome|.bool b=>p.xC==some b|.int i _=>p.eg==some i|.str s _=>p.wt==some s|_=>false
def I9:List ac->List PV->Bool
 |[],ps=>ps.isEmpty
 |v::vs,ps=>(match ps with
  |[]=>false|p::ps=>Pq v p&&I9 vs ps)
noncomputable def RB(o:Obj):Option (Array ac):=match o.data with
 |.seq items _=>some items|_=>none
def Qz(K:kq)(v:ac)(ds:List PV):Bool:=match v with
 |.none=>ds.isEmpty|.ref T=>((K.lookup T).bind RB).any λl=>I9 l.toList ds|_=>false
def MC(K:kq)(R:aY):Bool:=Qz K R.dflt R.ds
def RD(K:kq)(R:aY):Bool:=Jj R.scope&&(R.plain&&(codeIn K R.code (dw R.qual)&&((!pC R.scope.names||vw R.code)&&(MC K R&&(decide R.names.Nodup&&R.names.all λx=>ak R.scope.names x==some .local||ak R.scope.names x==some .cell)))))
noncomputable def lZ(l:List (Str×PV)):ar:=l.map λq=>(q.1,.pv q.2)
noncomputable def cm(o:aZ):Option PV:=o.bind λr=>match r.1 with
 |.ret p=>some p|.next=>some .none|.exc=>none
noncomputable def fS.isExc:fS->Bool
 |.exc=>true|_=>false
section
variable(O:aK)(N:Nat)(R:aY)
def Br(l:ar):aZ:=a9 O N R.scope.names R.mu l R.body
def bm(vs:List PV)(ks:List (Str×PV)):Option PV:=(jZ R.names R.ds vs ks).bind λl=>cm (Br O N R (lZ l))
def QM(vs:List PV)(ks:List (Str×PV)):Bool:=((jZ R.names R.ds vs ks).bind λl=>Br O N R (lZ l)).any λr=>r.1.isExc
def xI(k:Nat)(fs:List (Str×PV))(ow:List Str)(vs:List PV)(ks:List (Str×PV)):Option (List (Str×PV)×List Str):=(jZ R.names R.ds (.any::vs) ks).bind λl=>l.head?.bind λq=>
 (Br O N R ((q.1,.a7 k fs ow)::lZ l.tail)).bind λr=>if r.1.hZ=true then(ak r.2 q.1).bind λv=>v.lR.bind λi=>if i.1=k then some i.2 else none else none
end
structure jm(P:cD)(R:aY):Prop where
 at_:(KL P).lookup R.addr=some (cj R.st R.qual R.dflt R.pm R.code [] .none)
 sc:Fk R.scope
 gen:R.scope.isGenerator=false
 plain:R.plain=true
 code:codeIn (KL P) R.code (dw R.qual)=true
 tab:pC R.scope.names=true->vw R.code=true
 df:MC (KL P) R=true
 nd:R.names.Nodup
 nk:∀x∈R.names,ak R.scope.names x=some .local\/ak R.scope.names x=some .cell
theorem aab{P:cD}{R:aY}(h1:(KL P).lookup R.addr=some (cj R.st R.qual R.dflt R.pm R.code [] .none))(h2:RD (KL P) R=true):jm P R:=by
 refine dU (aX h2) λk1 k2=>dU (aX k2) λk2 k3=>dU (aX k3) λk3 k4=>?_;obtain⟨k4,k5⟩:=aX k4;exact dU (aX k5) λk5 k6=>dU (aX k6) λk6 k7=>⟨h1,(Dv k1).1,(Dv k1).2,k2,k3,λg=>by rw[g] at k4;exact k4,k5,cC k6,λx m=>(mA (b7 k7 x m)).imp a5 a5⟩
section
variable{x y:Pt c}{N k:Nat}{A:Am (d+1)}{O:aK}{z:Str}{v:ac}{b a:ao}{R:aY}{vals ds:List ac}{l:List (Str×PV)}{Q:mL->ag->Prop}{p:PV}{f:Fz}{σ:ar}{U:Str->List ao}{ow':List Str}{lv:List (Str×ac)}{lf:List (Str×PV)}
theorem acx(h:Pq v p=true):aV c f v p:=by
 cases mA h with
 |inl h=>
  cases p with
  |any=>exact .any|_=>exact ff h
 |inr h=>induction v using AF with
  |none=>exact(tG.mp h).elim λ_ e=>AY e .none|bool b=>exact E2 (a5 h) .bool|int i t=>exact eu (a5 h) .int|str s t=>exact AZ (a5 h) .str|_=>exact ff h
theorem ade{vs:List ac}{ps:List PV}(h:I9 vs ps=true):aR c f vs ps:=by
 induction vs generalizing ps with
 |nil=>exact jI h▸ .nil
 |cons v vs ih=>induction ps using bO with
  |nil=>exact ff h|cons p ps=>exact .cons (acx (aX h).1) (ih (aX h).2)
theorem aac{o:Obj}{l:Array ac}:RB o=some l->∃n,o.data=.seq l n:=by
 obtain⟨cl,dt,d,sl⟩:=o;cases d with
 |seq items m=>exact λh=>ay h▸⟨m,rfl⟩|_=>exact nS
theorem acn{ps:List PV}(x:Pt c):Qz (KL c.w.params) v ps=true->∃o,bt ps x (o.getD #[]).toList/\Ef x.s v o:=by
 induction v using AF with
 |none=>exact λh=>⟨none,jI h▸ .nil,λ_ _ _ _ q=>au q⟩|ref T=>exact λh=>aB (q0 h) λl h1 h2=>aj h1 λo h3 h4=>(aac h4).elim λ_ hd=>⟨some l,ade h2,λM A E Q q=>wpAny_seqItems (x.cT _ _ h3) hd q⟩|_=>exact ff
theorem Q6(ok:jm c.w.params R)(x:Pt c):∃o,bt R.ds x (o.getD #[]).toList/\Ef x.s R.dflt o:=acn x ok.df
noncomputable def R9:Flow->ac
 |.ret v=>v|_=>.none
theorem aeR{t:aH}:Pf t=true->∃name args body dl rt tp scope ts bd pos,t=.FunctionDef name args body dl rt tp scope ts bd pos:=by
 induction t using PZ with
 |FunctionDef=>exact λ_=>⟨_,_,_,_,_,_,_,_,_,_,rfl⟩|_=>exact ff
theorem H4(h:R.plain=true):∃name args body dl rt tp scope ts bd pos,R.st=.FunctionDef name args body dl rt tp scope ts bd pos:=aeR h
theorem QP{o:Option (Array ac)}(ok:jm c.w.params R)(hdv:Ef x.s R.dflt o)(hb:jZ R.names (o.getD #[]).toList vals kv=some binds)
(h:∀F y,GH R.scope binds x F y->ai (ah pw c.w) (A.deeper F.env).A (tz R.body F.env) (λfl s=>Q (.ok (.ret (R9 fl))) s) (λv s=>ai (ah pw c.w) (A.deeper F.env).A (wU F.env v) (λ_ s=>Q (.error v) s) (λv s=>Q (.error v) s) s) y.s):
  eO (ah pw c.w) A.A (.call (.ref R.addr) ⟨vals,kv⟩) Q x.s:=by
 refine bE λgG hG=>dU (J8 hb ok.nd) λn1 n2=>?_;have ha:=x.cT _ _ ok.at_;have S:=ok.sc;have gn:=ok.gen;have cd:=codeRec_of x.cT ok.code;have pl:=ok.plain;have tb:=ok.tab;have nk:∀q∈binds,ak R.scope.names q.1=some .local\/ak R.scope.names q.1=some .cell:=λq m=>ok.nk _ (n2 _ (qZ (f:=(·.1)) m));clear ok n2;obtain⟨addr,st,qual,dflt,pm,code,LJ,mu⟩:=R;obtain⟨name,args,body,dl,rt,tp,scope,ts,bd,pos,rfl⟩:=H4 (R:=⟨addr,st,qual,dflt,pm,code,LJ,mu⟩) pl;refine hG ?_
 ·exact codeAny_call_function (o:=cj (.FunctionDef name args body dl rt tp scope ts bd pos) qual dflt pm code [] .none) (aQ (cW _ _) A.ok.depth) ha rfl S.co gn rfl cd (J6 (show zQ args=true from pl) hdv rfl (show jZ (args.args.map (·.arg)) _ vals kv=some binds from hb) _ _ _ _ (Iv S n1 nk tb λF y e=>⟨x.nolimit.keeps e.kp,codeAny_func (cQ (h F y e) (λfl _ z=>by cases fl<;>exact z) λ_ _ z=>z)⟩))
theorem Jw(e:GH sc binds x F y)(nd:(σ.map (·.1)).Nodup)(h:∀z av,ak σ z=some av->∃v,(z,v)∈binds/\jn c x.f x.s.heap av v (U z))(fr:∀z,∀b∈U z,bV x b/\∃o,x.s.heap.get? b=some o)(dj:∀z q b,z≠q->b∈U z->b∉U q):∃P:St c F,P.x=y/\P.σ=σ/\∀b,WU P b->x.s.heap.get? b=none\/∃z,b∈U z:=
 ⟨{x:=y
   σ:=σ
   U:=U
   nd:=nd
   cU:=e.cU
   o:=e.own
   own:=λz v q=>by refine aB (h z v q) λu m a=>?_;exact(aA u (e.var z u m) (a.mono (λb o _=>e.kp b o) e.le.sub))
   fresh:=λz v _ b m=>⟨(fr z b m).1.le e.le (fr z b m).2,λq=>(fr z b m).2.elim λo k=>nS ((e.new b q).symm.trans k)⟩
   dj:=λz q v u n _ _ b m=>dj z q b n m},rfl,rfl,λb q=>q.imp (λq=>e.new b (m9 q)) λq=>q.elim λz q=>q.elim λ_ q=>⟨z,q.2⟩⟩
theorem Sf:ak (lZ l) z=(ak l z).map .pv:=JO
theorem Oy:(lZ l).map (·.1)=l.map (·.1):=by unfold lZ;erw[jt];rfl
theorem bH.find(r:bH c f lv lf)(h:ak lf z=some p):∃v,(z,v)∈lv/\aV c f v p:=by
 induction lf generalizing lv with
 |nil=>exact nS h
 |cons q lf ih=>
  revert h;obtain⟨w,q⟩:=q;exact oW r λ{v us} a r h=>d3 h (λe h=>(aA v (e▸ .head _) (ay h▸a))) λ_ h=>aB (ih r h) λv m a=>(aA v (.tail _ m) a)
theorem Qk(ok:jm c.w.params R)(h1:jZ R.names R.ds vs ks=some l)(rv:bt vs x vals)(rk:bH c x.f kv ks)
(h:∀(F:Fm) (P:St c F),F.nm=R.scope.names->P.σ=lZ l->F.env.frame=some F.env.locals->Le x P.x->(∀b,WU P b->x.s.heap.get? b=none)->
   ai (ah pw c.w) (A.deeper F.env).A (tz R.body F.env) (λfl s=>Q (.ok (.ret (R9 fl))) s) (λv s=>ai (ah pw c.w) (A.deeper F.env).A (wU F.env v) (λ_ s=>Q (.error v) s) (λv s=>Q (.error v) s) s) P.x.s):
  eO (ah pw c.w) A.A (.call (.ref R.addr) ⟨vals,kv⟩) Q x.s:=by
 refine aB (Q6 ok x) λds d1 d2=>aB (Sm d1 rv rk h1) λbinds b1 b2=>QP ok d2 b1 λF y e=>?_;obtain⟨P,rfl,e2,hW⟩:=Jw (U:=λ_=>[]) e (σ:=lZ l) (by erw[Oy];exact(J8 h1 ok.nd).1) (λz av q=>by
  rw[Sf] at q;exact fG (m:=λav=> ∃v,(z,v)∈binds/\jn c x.f x.s.heap av v []) q λp k=>by refine aB (b2.find k) λv m a=>?_;exact(cz v m a rfl)) (λz b m=>mN m) λ_ _ _ _ m=>mN m
 exact h F P e.nm e2 e.fr e.le λb q=>(hW b q).elim id λq=>q.elim λ_ m=>mN m
theorem XQ{α:Type}{l:List α}{q:α}(h:l.head?=some q):l=q::l.tail:=by
 induction l using bO with
 |nil=>exact nS h|cons a l=>exact af (· ::l) (ay h)
theorem BQ{z LK:Str}(m:b∈(if z=LK then V else[])):z=LK/\b∈V:=by
 by_cases q:z=LK
 ·rw[iP q] at m;exact⟨q,m⟩
 ·rw[iN q] at m;exact mN m
theorem V0{r:fS×ar}(h:r.1.hZ=true):r=(.next,r.2):=by
 obtain⟨f,σ⟩:=r;cases f with
 |next=>rfl|_=>exact ff h
variable(S:∀n,Sd c d (aw O n))
include S
theorem I2{F:Fm}{P:St c F}{A:Am d}{r:fS×ar}(h:Br O N R σ=some r)(e1:F.nm=R.scope.names)(e2:P.σ=σ):Ex A P (tz R.body F.env) r:=wp (mu:=R.mu) (S N) (aa (e1) (aa (e2) (h)))
theorem IA(ok:jm c.w.params R)(h:bm O N R vs ks=some p)(rv:bt vs x vals)(rk:bH c x.f kv ks)(K:∀y v,Le x y->Rd p y v->Q (.ok (.ret v)) y.s):eO (ah pw c.w) A.A (.call (.ref R.addr) ⟨vals,kv⟩) Q x.s:=
 aj h λl h1 h2=>aj h2 λr hr h3=>Qk ok h1 rv rk λF P e1 e2 _ le hW=>I2 S hr e1 e2 [] _ _ (by
  obtain⟨fl,σ⟩:=r;cases fl with
  |next=>
   refine bE λgG hG=>?_;obtain rfl:=ay h3;exact hG (λQ' a _=>K Q'.x .none (br.le (cH.trans le.st a.st) hW) .none)
  |ret p=>
   obtain rfl:=ay h3;exact λy v l r=>K y v (br.le (cH.trans le.st l) hW) r
  |exc=>exact nS h3)
theorem xV(ok:jm c.w.params R)(h:bm O N R vs ks=some p)(rv:bt vs x vals)(rk:bH c x.f kv ks):aE A (bC (.ref R.addr) vals kv) x (Rd p):=λQ E K=>q8 (IA S ok h rv rk λy v l r=>K v y l r)
theorem Y3{E:ac->ag->Prop}{Q:ac->ag->Prop}{l:List Env}(ok:jm c.w.params R)(h:QM O N R vs ks=true)(rv:bt vs x vals)(rk:bH c x.f kv ks)(hl:A.A.frames=some l)(hi:oh c.h₀ x.s.heap (λ_=>False) l)
(K:∀v s' B e,jj l (λ_=>False) x.s v s' B e->E v s'):ai (ah pw c.w) A.A (bC (.ref R.addr) vals kv) Q E x.s:=by
 refine aB (q0 h) λr h1 h2=>?_;obtain⟨fl,σ⟩:=r;cases fl with
 |exc=>exact q8 (aj h1 λb h1 hr=>Qk ok h1 rv rk λF P e1 e2 fr le hW=>I2 S hr e1 e2 l _ _ ⟨⟨bh.frames_deeper hl,fr,hi.step le.e.nJ λb q=>.inr (hW b q)⟩,λv s' y=>cQ y (λ_ s3 z=>by refine km z λB e z=>?_;exact K v s3 B e (z.pre le.e.nJ λb q=>.inr (hW b q))) λ_ _ z=>z.elim⟩)|_=>exact ff h2
theorem aeY{m:List (Str×PV)}{p₀:PV}(ok:jm c.w.params R)(h1:jZ R.names R.ds (.any::vs) ks=some ((z,p₀)::m))(h5:Br O N R ((z,.a7 k fs ow)::lZ m)=some (.next,σ))(h8:ak σ z=some (.a7 k lf ow'))(sl:pg c x.f x.s.heap k fs ow a V)(fr:∀b∈V,bV x b)(rv:bt vs x vals)(rk:bH c x.f kv ks)
(K:∀y V',cH (· ∈V) x y->pg c y.f y.s.heap k lf ow' a V'->(∀b∈V',b∈V\/x.s.heap.get? b=none)->(∀b∈V',bV y b)->Q (.ok (.ret .none)) y.s):eO (ah pw c.w) A.A (.call (.ref R.addr) ⟨.ref a::vals,kv⟩) Q x.s:=
 aB (Q6 ok x) λo d1 d2=>aB (Sm d1 (.cons (v:=.ref a) (p:=.any) .any rv) rk h1) λbinds b1 b2=>
 aB (oW (m:=λl=>jZ R.names (o.getD #[]).toList (.ref a::vals) kv=some l->∃bs,l=(z,.ref a)::bs/\bH c x.f bs m) b2 (λ{_ us} _ r e=>⟨us,af (λv=>(z,v)::us) (abF e),r⟩) b1:∃bs,binds=(z,.ref a)::bs/\bH c x.f bs m) λbs eb b3=>
 QP ok d2 (b1.trans (af some eb)) λF y e=>by
  obtain⟨P,rfl,e2,hW⟩:=Jw (U:=λq=>if q=z then V else[]) e (σ:=(z,.a7 k fs ow)::lZ m) (by erw[oB];erw[Oy];exact(J8 h1 ok.nd).1) (λq av h=>d3 h (λe h=>by
    obtain rfl:=ay h;exact⟨.ref a,e▸ .head _,a,rfl,(iP e.symm).symm▸sl⟩) λn h=>by
    rw[Sf] at h;refine aB (tE.mp h) λp k1 bZ=>?_;subst bZ;exact aB (b3.find k1) λv m1 r=>(cz v (.tail _ m1) r (iN λe=>n e.symm))) (λq b m=>⟨fr b (BQ m).2,jn.there (v:=.a7 k fs ow) (u:=.ref a) (aA a rfl sl) b (BQ m).2⟩) λq q' b n m m'=>n ((BQ m).1.trans (BQ m').1.symm)
  have hW:∀b,WU P b->b∈V\/x.s.heap.get? b=none:=λb q=>(hW b q).symm.imp (λq=>q.elim λz m=>(BQ m).2) id;exact I2 S h5 e.nm e2 [] _ _ λQ' r e3=>by
   have hf:ak Q'.σ z=some (.a7 k lf ow'):=e3▸h8;obtain⟨u,Va,a',rfl,ua⟩:=Q'.own z _ hf;cases(r.a7 z k fs ow a (e2▸iP rfl) (e.var z _ (.head _))).2.wk Va;have lg:cH (λb=>b∈V\/x.s.heap.get? b=none) x Q'.x:=cH.trans e.le.st (r.st.weaken hW);exact K Q'.x (Q'.U z) (lg.shrink λb q=>q) ua (λb m=>(r.wu b (.inr (dh z _ hf m))).elim (hW b) λn=>.inr (e.le.e.back (cK (Q'.fresh z _ hf b m).1.hi) n)) λb m=>(Q'.fresh z _ hf b m).1
theorem MP{i:List (Str×PV)×List Str}(ok:jm c.w.params R)(h:xI O N R k fs ow vs ks=some i)(sl:pg c x.f x.s.heap k fs ow a V)(fr:∀b∈V,bV x b)(rv:bt vs x vals)(rk:bH c x.f kv ks)
(K:∀y V',cH (· ∈V) x y->pg c y.f y.s.heap k i.1 i.2 a V'->(∀b∈V',b∈V\/x.s.heap.get? b=none)->(∀b∈V',bV y b)->Q (.ok (.ret .none)) y.s):eO (ah pw c.w) A.A (.call (.ref R.addr) ⟨.ref a::vals,kv⟩) Q x.s:=
 bE λgG hG=>aj h λl h1 h2=>aj h2 λq h3 h4=>aj h4 λr h5 h6=>aL h6 λhn h7=>aj h7 λv h8 h9=>aj h9 λi' CQ CR=>aL CR λhc CS=>
  hG (aeY S (z:=q.1) (p₀:=q.2) (σ:=r.2) ok (h1.trans (af some (XQ h3))) (h5.trans (af some (V0 hn))) (h8.trans (by rw[lR CQ,hc,ay CS])) sl fr rv rk K)
end
section
set_option tactic.hygienic true
variable{w:cO}{A:bh}{s s':ag}{K:kq}{x C g:ao}{ox:Obj}{od:Option Obj}{E:ac->ag->Prop}
noncomputable def xX(K:kq)(C:ao)(nm:String)(tb:ac):Bool:=tb==.ref C||match tb with
 |.type T=>subIn K tb (.ref C)==some false&&(((fN K tb (FN nm)).any λfo=>(fN K tb (dunderR nm)).any λro=>(fo.isSome&& !isSeqSlot fo)||(ro.isSome&& !isSeqSlot ro))&&(fN K (.ref C) (dunderR nm)).any λrc=>rc.all λv=>match v with
  |.ref _=>true|_=>false)
 |_=>false
theorem OL{nm:String}{b tb:ac}{Q:ac->ag->Prop}(X:K.In s.heap)(I:InstAt s.heap x ox C od)(hb:iG (ah pw w) s.heap (tx b) tb)(hr:xX K C nm tb=true)(hc:KE K C=true)(hs:fN K (.ref C) (FN nm)=some (some (.ref g)))(hf:ou K (.ref g)=true)
(h:ai (ah pw w) A (bC (.ref g) [.ref x,b]) (FO Q) E s):ai (ah pw w) A (binaryOp1 nm (.ref x) b) (λr s'=> ∃v,r=some v/\Q v s') E s:=by
 refine eH (ksp_first hc) λcd rest xg hm=>?_;have one:=ksp_try X I hs hf h;have L3:iG (ah pw w) s.heap (fillsNumberSlot (.ref C) nm) true:=fills_K X xg hm hs;refine ae (I.type.here (ae (hb.here (ae (L3.here ?_)))));by_cases e:(pO C==tb)=true
 ·exact aa (iP e) (ae (au (ae (au (ae (m:=tryMethod (.ref x) _ b) (cQ one (λr s' z=>by
   refine aB z λv bY hq=>?_;subst bY;exact au (aA v rfl hq)) λ_ _ e=>e))))))
 ·erw[iN e];cases mA hr with
  |inl q=>exact absurd (by erw[a5 q];exact beq_self_eq_true _) e
  |inr hr=>cases tb with
   |type T=>
    refine bE λgG hG=>?_;have hr:=aX hr;have h2:=aX hr.2;refine aB (q0 h2.1) λfo h3 h4=>aB (q0 h4) λro h5 h6=>aB (q0 h2.2) λrc h7 h8=>?_;have L4:iG (ah pw w) s.heap (fillsNumberSlot (.type T) nm) true:=h6▸ksp_fillsT X h3 h5;have L5:iG (ah pw w) s.heap (isSubtype (.type T) (.ref C)) false:=looks_subIn X (a5 hr.1);have L6:iG (ah pw w) s.heap (numberSlotInPython (.ref C) nm) true:=ksp_inPy X hs h7 (by
     induction rc using qy with
     |none=>exact .inl rfl
     |some v=>induction v using AF with
      |ref g=>exact .inr ⟨g,rfl⟩|_=>exact ff h8)
    refine hG (ae (L4.here (ae (L5.here (ae (L6.here (ae (au (ae ((y7 X h5).here (ae (m:=tryMethod (.ref x) _ b) (cQ one (λr s' z=>?_) λ_ _ e=>e))))))))))));refine aB z λv bY hq=>?_;subst bY;exact au (aA v rfl hq)
   |_=>exact ff hr
theorem aeu{op:ia}{b tb:ac}{Q:ac->ag->Prop}(X:K.In s.heap)(I:InstAt s.heap x ox C od)(hb:iG (ah pw w) s.heap (tx b) tb)(hr:xX K C op.info.2 tb=true)(hc:KE K C=true)(hs:fN K (.ref C) (FN op.info.2)=some (some (.ref g)))(hf:ou K (.ref g)=true)
(h:ai (ah pw w) A (bC (.ref g) [.ref x,b]) (FO Q) E s):ai (ah pw w) A (mI op (.ref x) b) Q E s:=by
 have one:=OL X I hb hr hc hs hf h;refine dO (ae (cQ one (λr s' z=>?_) λ_ _ e=>e));refine aB z λv bY hq=>?_;subst bY;exact au hq
noncomputable def Qs(K:kq)(C:ao)(nm:String):Bool:=(clsIn K C).any λcd=>cd.mro==[.ref C,.type "object"]&&fN K (.ref C) (dunderI nm)==some none&&fN K (.type "object") (dunderI nm)==some none
theorem Xj{op:ia}{b tb:ac}{Q:ac->ag->Prop}(X:K.In s.heap)(I:InstAt s.heap x ox C od)(hb:iG (ah pw w) s.heap (tx b) tb)(hr:xX K C op.info.2 tb=true)(hc:KE K C=true)(hs:fN K (.ref C) (FN op.info.2)=some (some (.ref g)))(hf:ou K (.ref g)=true)(hi:Qs K C op.info.2=true)
(h:ai (ah pw w) A (bC (.ref g) [.ref x,b]) (FO Q) E s):ai (ah pw w) A (Kw op (.ref x) b) Q E s:=by
 have one:=OL X I hb hr hc hs hf h;refine aB (q0 hi) λcd xg hm=>?_;simp only[mK,beq_iff_eq] at hm;obtain⟨⟨m1,m2⟩,m3⟩:=hm;have L1:iG (ah pw w) s.heap (tx (.ref x)) (.ref C):=I.type;have Lm:iG (ah pw w) s.heap (mroOf (.ref C)) cd.mro:=(looks_clsIn X xg).andThen (f:=λcd=>pure cd.mro) .now;have L2:iG (ah pw w) s.heap (typeLookup (.ref C) (dunderI op.info.2)) none:=y7 X m2;have L3:iG (ah pw w) s.heap (typeLookup (.type "object") (dunderI op.info.2)) none:=y7 X m3;refine dO (ae (L1.here ?_));have fin:ai (ah pw w) A (fillsInplaceSlot (.ref C) op.info.2 (op==.Add)) (λr s'=>r=false/\s'=s) E s:=ae (Lm.here (aa (m1) (aa (List.anyM_cons) (ae (ae (L2.here (au (aa (List.anyM_cons) (ae (ae (L3.here (au (au ⟨rfl,rfl⟩)))))))))))));refine ae (cQ fin (λr s' z=>?_) λ_ _ e=>e);obtain⟨rfl,rfl⟩:=z;refine ae (cQ one (λr s' z=>?_) λ_ _ e=>e);refine aB z λv bY hq=>?_;subst bY;exact au hq
theorem acY{op:iF}{b tb:ac}{Q:ac->ag->Prop}(hu:A.units<tq)(X:K.In s.heap)(I:InstAt s.heap x ox C od)(hb:iG (ah pw w) s.heap (tx b) tb)(hn:notFirst K C tb=true)(hs:fN K (.ref C) (cmpInfo op).2.1=some (some (.ref g)))(hf:ou K (.ref g)=true)
(h:ai (ah pw w) A (bC (.ref g) [.ref x,b]) (FO Q) E s):ai (ah pw w) A (FP op (.ref x) b) Q E s:=by
 have one:ai (ah pw w) A (tryCompare (.ref x) (cmpInfo op).2.1 b) (λr s'=> ∃v,r=some v/\Q v s') E s:=by
  unfold tryCompare;refine ae (ifBound_K X I hs hf (cQ h (λv s' hv=>?_) λ_ _ e=>e));cases v<;>first|exact hv.elim|exact au (aA _ rfl hv)
 unfold FP;simp only[oneThing_ref];refine dO (ae (SZ hu (ae (I.type.here (ae (hb.here ?_))))));have go:∀{α:Type} {k:Option ac->Sem α} {R:α->ag->Prop},(∀v s',Q v s'->ai (ah pw w) A (k (some v)) R E s')->ai (ah pw w) A (tryCompare (.ref x) (cmpInfo op).2.1 b>>=k) R E s:=λ{α k R} hk=>
  ae (cQ one (λr s' z=>by refine aB z λv bY hq=>?_;subst bY;exact hk v s' hq) λ_ _ e=>e)
 split
 ·rename_i q;have e:subIn K tb (.ref C)=some false:=by
   rcases mA hn with e|e
   ·rw[a5 e] at q;simp at q
   ·exact a5 e
  exact ae ((looks_subIn X e).here (go λv s' hq=>au hq))
 ·refine ae (au ?_);simp only[yW,if_false];exact go λv s' hq=>au hq
theorem adh{Q:ac->ag->Prop}(X:K.In s.heap)(I:InstAt s.heap x ox C od)(hs:fN K (.ref C) "__len__"=some (some (.ref g)))(hf:ou K (.ref g)=true)
(h:ai (ah pw w) A.in1 (bC (.ref g) [.ref x]) (λv s'=> ∃n t,v=.int n t/\0<=n/\n<2^63/\Q (.int n s'.toks) {s' with toks:=s'.toks+1}) E s):ai (ah pw w) A (bC (.builtin "len") [.ref x]) Q E s:=by
 refine agj kind_len plain_len entry_len (args_len1 _) (ae (m:=oneArg "len" _) (au (ae (m:=callSpecial? (.ref x) (dw "__len__")) (special_fn X I hs (a5 hf) (cQ h (λr s' hr=>?_) λ_ _ y=>y)))));refine DN hr λn u bZ h0 h1 hq=>?_;subst bZ;exact ae (dO (au (ae (wV (aa (iN (by lia)) (aa (iN (by lia)) (ae (wpAny_mkInt (au (aA _ rfl hq))))))))))
theorem YF{name:Str}{p fget:ao}{rest:List ac}{od:Obj}{Q:ac->ag->Prop}(X:K.In s.heap)(I:InstAt s.heap x ox C (some od))(hg:Cd K C name=true)(hh:FC K C=true)
(ha:fN K (.ref C) name=some (some (.ref p)))(hn:Kq K (.ref p) "__get__"=some (some (.builtin "property.__get__")))(ht:takesIn K (.ref p)=some true)(hp:recIn K p "property"=some (.ref fget::rest))
(h:eO (ah pw w) A.in1 (.call (.ref fget) ⟨[.ref x],[]⟩) (λr s'=>match r with|.ok (.ret v)=>handedIn v=true/\Q v s'|_=>False) {s with toks:=s.toks+1}):
  ai (ah pw w) A (uP (.ref x) name true) Q No s:=by
 refine get_bind X I (uQ hg).1 (findObj_data (by refine aB (q0 hh) λcd hc _=>?_;erw[hc];rfl) ha hn ht) (uQ hg).2 (q8 (prop_get (s:={s with toks:=s.toks+1}) X hp (FQ h λr s' z=>?_)));rcases r with e|(v|_|_|_)<;>first|exact z.elim|skip
 rename_i v;have z:handedIn v=true/\Q v s':=z;show ai (ah pw w) A (handedOut v) Q No s';exact(handedOut_of z.1).symm▸(au z.2)
theorem abP{og:Obj}{fd:FuncData}{vals:List ac}{Q:mL->ag->Prop}(X:K.In s.heap)(I:InstAt s.heap x ox C od)(hox:ox.data=.plain)(hs:fN K (.ref C) "__call__"=some (some (.ref g)))(hf:ou K (.ref g)=true)(ho:K.lookup g=some og)(hd:og.data=.func fd)
(h:eO (ah pw w) A (.call (.ref g) ⟨.ref x::vals,[]⟩) Q s):eO (ah pw w) A (.call (.ref x) ⟨vals,[]⟩) Q s:=by
 exact FG (ae (FE I.at_ (hox.symm▸(ae (ae (I.type.here ((y7 X hs).here (ae ((bind_fn X _ (a5 hf)).here (ae (ae (FE (X _ _ ho) (hd.symm▸(au (au ⟨rfl,h⟩)))))))))))))))
end
structure Hr(P:cD)(C:Nat)(R:aY):Prop where
 fn:jm P R
 makes:makesIn (KL P) C=true
 init:fN (KL P) (.ref C) "__init__"=some (some (.ref R.addr))
 ϕ:typeIn (KL P) (.ref R.addr)=some (.type "function")
section
variable{x y:Pt c}{N C:Nat}{A:Am (d+2)}{O:aK}{v:ac}{a:ao}{R:aY}{vals:List ac}{i:List (Str×PV)×List Str}
noncomputable def Am.ab2(A:Am (d+2)):Am (d+1):=⟨A.A.under (.builtin "type.__call__" ⟨.ref C::vals,kv⟩),A.ok.to A.ok.handled (o6 (show 1<=4 by decide)) (o6 (show 1<=40 by decide))⟩
theorem Pt.uu{o:Obj}{t:Nat}(hf:o.isFreed=false):bV (x.push o t) x.s.heap.objs.size/\(x.push o t).s.heap.get? x.s.heap.objs.size=some o:=by
 have f:=x.free (bf _) (eV _);exact⟨⟨f.f,f.h₀,f.hi⟩,ft _ hf⟩
variable(S:∀n,Sd c d (aw O n))
include S
theorem MD{K:ac->ag->Prop}{E:ac->ag->Prop}(ok:Hr c.w.params C R)(h:xI O N R C [] [] vs ks=some i)(rv:bt vs x vals)(rk:bH c x.f kv ks)
(k:∀y a V,Le x y->pg c y.f y.s.heap C i.1 i.2 a V->(∀b∈V,bV y b/\x.s.heap.get? b=none)->K (.ref a) y.s):ai (ah pw c.w) A.A (bC (.ref C) vals kv) K E x.s:=by
 have p1:=x.uu (o:=y8) (t:=x.s.toks) rfl;have p2:=(x.push y8 x.s.toks).uu (o:=instObj C x.s.heap.objs.size) (t:=x.s.toks) rfl;have le:Le x ((x.push y8 x.s.toks).push (instObj C x.s.heap.objs.size) x.s.toks):=(x.cG _).trans (Pt.cG _ _);have f1:=p1.1.le (Pt.cG (t:=x.s.toks) (x.push y8 x.s.toks) λ_ _=>c5 (instObj C x.s.heap.objs.size)) ⟨_,p1.2⟩;have e1:=c5 (instObj C x.s.heap.objs.size) p1.2;have sz:(x.s.heap.push y8).objs.size=x.s.heap.objs.size+1:=oA ..;have n2:x.s.heap.get? (x.s.heap.objs.size+1)=none:=x.top (iH _);have hV:∀b∈[x.s.heap.objs.size+1,x.s.heap.objs.size],x.s.heap.get? b=none:=λb m=>(bw m).elim (λe=>e▸n2) λm=>cY m▸eV _;refine q8 (make_core (makes_of x.cT ok.makes) (y7 x.cT ok.init) (λself=>bind_fn x.cT self ok.ϕ) (.inl rfl) ?_);rw[show(x.push y8 x.s.toks).s.heap.objs.size=x.s.heap.objs.size+1 from sz] at p2;refine FQ (MP (A:=A.ab2) (x:=(x.push y8 x.s.toks).push (instObj C x.s.heap.objs.size) x.s.toks) (V:=[x.s.heap.objs.size+1,x.s.heap.objs.size]) (Q:=λr s'=>r=.ok (.ret .none)/\K (.ref (x.s.heap.objs.size+1)) s') S ok.fn h ⟨_,[],0,[],[],p2.2,e1,rfl,⟨rfl,rfl⟩,rfl,by simp,wT⟩
  (λb m=>(bw m).elim (λe=>e▸p2.1) λm=>cY m▸f1) (rv.mono le.sub) (rk.mono le.sub) λy V' l sl mV fr=>⟨rfl,k y _ V' (br.le (cH.trans le.st l) hV) sl λb m=>⟨fr b m,(mV b m).elim (hV b) λn=>le.e.back (cK (fr b m).hi) n⟩⟩) λr s' z=>by
  obtain⟨rfl,z⟩:=z;exact⟨rfl,z⟩
omit S in
theorem abt(le:Le x y)(sl:pg c y.f y.s.heap C fs ow a V)(hV:∀b∈V,bV y b/\x.s.heap.get? b=none):∃w:Pt c,Le x w/\w.s=y.s/\Rd (.inst C fs) w (.ref a):=by
 classical
 have sub:Sub y.f (λb=>if b∈V then y.s.heap.get? b else y.f b):=λb o e=>(iN λm=>nS ((hV b m).1.f.symm.trans e)).trans e;exact(cz ⟨y.s,λb=>if b∈V then y.s.heap.get? b else y.f b,y.keep,y.tab,λa o e=>sub a o (y.K a o e),λa o e=>d3 e (λm _=>cK (hV a m).1.hi) λ_=>y.nt a o,λa o e=>d3 e (λ_ e=>e) λ_=>y.hs a o⟩ ⟨le.e,λa o e=>sub a o (le.sub a o e),λa o e=>d3 e (λm _=>.inr (hV a m).2) λ_=>le.new a o⟩ rfl (J5 (v:=.a7 C fs ow) (aA a rfl sl) sub λ_ b o m e=>(iP m).trans e))
theorem g_(ok:Hr c.w.params C R)(h:xI O N R C [] [] vs ks=some i)(rv:bt vs x vals)(rk:bH c x.f kv ks):aE A (bC (.ref C) vals kv) x (Rd (.inst C i.1)):=λQ E K=>MD S ok h rv rk λy a V le sl hV=>cP (abt le sl hV) λw l e r=>e▸K _ w l r
end
end
def wx:aY:=⟨30,ck 2,"CandidateSet",(.ref 23),m1,(.ref 29),[.any,.none],[]⟩
def Bv:aY:=⟨37,ck 3,"sorted_committees",.none,m1,(.ref 36),[],[]⟩
def qm:aY:=⟨45,ck 4,"str_set_of_candidates",(.ref 38),m1,(.ref 44),[.none],[]⟩
def JY:aY:=⟨50,ck 5,"combinations",.none,m1,(.ref 49),[],[]⟩
def n3:aY:=⟨65,c7 6 0,"Fraction.__init__",(.ref 58),m1,(.ref 64),[.int 0,.int 1],[]⟩
def Bi:aY:=⟨107,c7 6 6,"Fraction.__add__",.none,m1,(.ref 106),[],[]⟩
def JN:aY:=⟨135,c7 6 10,"Fraction.__mul__",.none,m1,(.ref 134),[],[]⟩
def JS:aY:=⟨163,c7 6 14,"Fraction.__eq__",.none,m1,(.ref 162),[],[]⟩
def He:aY:=⟨170,c7 6 15,"Fraction.__lt__",.none,m1,(.ref 169),[],[]⟩
def Bf:aY:=⟨184,c7 6 17,"Fraction.__gt__",.none,m1,(.ref 183),[],[]⟩
def HP:aY:=⟨191,c7 6 18,"Fraction.__ge__",.none,m1,(.ref 190),[],[]⟩
def AE:aY:=⟨205,ck 7,"total",.none,m1,(.ref 204),[],[]⟩
def Ϭ:aY:=⟨242,c7 10 0,"MarginalScoreFct.__init__",(.ref 235),m3,(.ref 241),[.none],[]⟩
def V7:aY:=⟨249,c7 10 1,"MarginalScoreFct.__call__",.none,m3,(.ref 248),[],[]⟩
def b_:aY:=⟨264,ck 11,"get_marginal_scorefct",(.ref 257),m3,(.ref 263),[.none],[]⟩
def qL:aY:=⟨271,ck 12,"thiele_score",.none,m3,(.ref 270),[],[]⟩
def UY:aY:=⟨285,ck 14,"pav_score_fct",.none,m3,(.ref 284),[],[]⟩
def ο:aY:=⟨292,ck 15,"adams_score_fct",.none,m3,(.ref 291),[],[]⟩
def afi:aY:=⟨299,ck 16,"slav_score_fct",.none,m3,(.ref 298),[],[]⟩
def acf:aY:=⟨313,ck 18,"cc_score_fct",.none,m3,(.ref 312),[],[]⟩
def A6:aY:=⟨327,ck 20,"marginal_thiele_scores_add",.none,m3,(.ref 326),[],["marginal"]⟩
def We:aY:=⟨344,c7 23 3,"Rule.__init__",.none,m2,(.ref 343),[],[]⟩
def UW:aY:=⟨351,c7 23 4,"Rule.fastest_available_algorithm",.none,m2,(.ref 350),[],[]⟩
def vU:aY:=⟨359,c7 23 5,"Rule.verify_compute_parameters",(.ref 352),m2,(.ref 358),[.none],[]⟩
def AP:aY:=⟨441,ck 28,"compute_thiele_method",(.ref 434),m2,(.ref 440),[.str "fastest",.bool false,.none,.bool false],[]⟩
def AG:aY:=⟨449,ck 29,"_thiele_methods_bruteforce",(.ref 442),m2,(.ref 448),[.none],["opt_committees"]⟩
def Bt:aY:=⟨457,ck 30,"_thiele_methods_branchandbound",(.ref 450),m2,(.ref 456),[.none],["best_committees","part_coms"]⟩
def Bm:aY:=⟨465,ck 31,"compute_pav",(.ref 458),m2,(.ref 464),[.str "fastest",.bool false,.none,.bool false],[]⟩
def BF:aY:=⟨473,ck 32,"compute_slav",(.ref 466),m2,(.ref 472),[.str "fastest",.bool false,.none,.bool false],[]⟩
def Au:aY:=⟨478,ck 33,"_adams_bruteforce",.none,m2,(.ref 477),[],["best_committees","final_committees"]⟩
def zK:aY:=⟨486,ck 34,"compute_adams",(.ref 479),m2,(.ref 485),[.str "fastest",.bool false,.none],[]⟩
def AT:aY:=⟨491,ck 35,"_seq_thiele_resolute",.none,m2,(.ref 490),[],["committee"]⟩
def Rs:aY:=⟨504,c7 37 0,"Profile.__init__",(.ref 499),m4,(.ref 503),[.none],[]⟩
def Iu:aY:=⟨511,c7 37 1,"Profile.num_cand",.none,m4,(.ref 510),[],[]⟩
def D3:aY:=⟨526,c7 37 3,"Profile.__len__",.none,m4,(.ref 525),[],[]⟩
def Aq:aY:=⟨533,c7 37 4,"Profile._unique_voter",.none,m4,(.ref 532),[],[]⟩
def wm:aY:=⟨540,c7 37 5,"Profile.add_voter",.none,m4,(.ref 539),[],[]⟩
def rC:aY:=⟨632,c7 38 0,"Voter.__init__",(.ref 625),m4,(.ref 631),[.int 1,.none],[]⟩
def JV:aY:=⟨675,ck 41,"compute",(.ref 668),m5,(.ref 674),[.none,.bool true],[]⟩
def abR:aY:=⟨682,ck 42,"apply_threshold",.none,m5,(.ref 681),[],[]⟩
def xU:aY:=⟨694,ck 44,"divisor",(.ref 689),m5,(.ref 693),[.bool true],["representatives"]⟩
def A1:aY:=⟨723,ck 49,"_law_shared",.none,(st "law_jm0010_01" 1119),(.ref 722),[],["given"]⟩
def BE:List (Str×aY):=[("CandidateSet",wx),("sorted_committees",Bv),("str_set_of_candidates",qm),("combinations",JY),("total",AE),("get_marginal_scorefct",b_),
 ("thiele_score",qL),("pav_score_fct",UY),("adams_score_fct",ο),("slav_score_fct",afi),("cc_score_fct",acf),("marginal_thiele_scores_add",A6),
 ("compute_thiele_method",AP),("_thiele_methods_bruteforce",AG),("_thiele_methods_branchandbound",Bt),("compute_pav",Bm),("compute_slav",BF),
 ("_adams_bruteforce",Au),("compute_adams",zK),("_seq_thiele_resolute",AT),("compute",JV),("apply_threshold",abR),("divisor",xU),("_law_shared",A1)]
def NM:List (Str×Nat×aY):=[("Fraction",dg,n3),("MarginalScoreFct",p8,Ϭ),("Rule",cM,We),("Voter",iw,rC)]
def Ei:List (Str×Nat×aY):=("Profile",bv,Rs)::NM
def R3:List ((Nat×Str)×aY):=[((p8,"__call__"),V7),((cM,"fastest_available_algorithm"),UW),((cM,"verify_compute_parameters"),vU),((bv,"_unique_voter"),Aq)]
def Ew:List ((Nat×Str)×aY):=((bv,"add_voter"),wm)::R3
def C7:List (ia×aY):=[(.Add,Bi),(.Mult,JN)]
def v7:List (iF×aY):=[(.Eq,JS),(.Lt,He),(.Gt,Bf),(.GtE,HP)]
def EY:List aY:=[D3,Iu]++(BE.map (·.2)++(Ei.map (·.2.2)++(Ew.map (·.2)++(C7.map (·.2)++v7.map (·.2)))))
def Fg:PV->Bool:=PA.on {d:=false,pn:=λ_=>(true),jg:=λc _=>(c==dg)}
def PV.DF:PV->Option (Nat×List (Str×PV)):=PA.on {d:=aP,jg:=λc fs=>(some (c,fs))}
def DE(p:PV):Option PV:=if p.iQ=true then none else some p
def next(N:Nat)(O:aK):aK where
 fn z vs ks:=qM (BE.lookup z) (λR=>bm O N R vs ks)<|qM (NM.lookup z) (λq=>(xI O N q.2 q.1 [] [] vs ks).map λr=>.inst q.1 r.1)<|
  if z=("len":Str)/\ks.isEmpty=true then(oM vs).bind λv=>v.DF.bind λi=>if i.1=bv then(bm O N D3 [v] []).bind λp=>p.eg.bind λj=>if 0<=j/\j<2^63 then some (.int j) else none else none else none
 bM k m vs ks:=(R3.lookup (k,m)).bind λR=>bm O N R vs ks
 attr k z v:=if k=bv/\z=("num_cand":Str) then(bm O N Iu [v] []).bind DE else none
 bin op a b:=a.DF.bind λi=>if i.1=dg/\Fg b=true then(C7.lookup op).bind λR=>(bm O N R [a,b] []).bind DE else none
 cmp op a b:=a.DF.bind λi=>if i.1=dg/\Fg b=true then(v7.lookup op).bind λR=>(bm O N R [a,b] []).bind PV.xC else none
 make C vs ks:=if C=("Profile":Str) then(xI O N Rs bv [] [] vs ks).map λr=>(bv,r.1,r.2) else none
 l6 k fs ow m vs:=if k=bv/\m=("add_voter":Str)/\(ak fs m).isNone=true then(xI O N wm bv fs ow vs []).bind λr=>if r.2=ow then some r.1 else none else none
 n9 z vs ks:=(BE.lookup z).any λR=>QM O N R vs ks
 gens:=true
noncomputable def BY:aK:=⟨λ_ _ _=>none,λ_ _ _ _=>none,λ_ _ _=>none,λ_ _ _=>none,λ_ _ _=>none,λ_ _ _=>none,λ_ _ _ _ _=>none,λ_ _ _=>false,true⟩
def aI(N:Nat):Nat->aK:=Nat.rec BY λ_=>next N
theorem xk{α β:Type}[BEq α][LawfulBEq α]{l:List (α×β)}{x:α}{b:β}(h:l.lookup x=some b):(x,b)∈l:=by
 induction l with
 |nil=>exact nS h
 |cons q r ih=>
  rw[show(q::r).lookup x=_ from FF] at h;cases e:x==q.1 with
  |true=>rw[e] at h;cases ay h;erw[a5 e];exact .head _
  |false=>rw[e] at h;exact .tail _ (ih h)
theorem ae9(P:cD):EY.map (λR=>(KL P).lookup R.addr)=EY.map λR=>some (cj R.st R.qual R.dflt R.pm R.code [] .none):=⋯
theorem Ws(P:cD):EY.all (RD (KL P))=true:=⋯
theorem vC(P:cD){R:aY}(m:R∈EY):jm P R:=aab (Gj.mp (ae9 P) R m) (b7 (Ws P) R m)
section
variable{P:cD}{q:Str×aY}{r:Str×Nat×aY}{m:(Nat×Str)×aY}{o:ia×aY}{k:iF×aY}
theorem Oo(h:q∈BE):jm P q.2:=vC P (fE _ (tw _ (qZ (f:=(·.2)) h)))
theorem aap(h:r∈Ei):jm P r.2.2:=vC P (fE _ (fE _ (tw _ (qZ (f:=(·.2.2)) h))))
theorem Oj(h:m∈Ew):jm P m.2:=vC P (fE _ (fE _ (fE _ (tw _ (qZ (f:=(·.2)) h)))))
theorem VW(h:o∈C7):jm P o.2:=vC P (fE _ (fE _ (fE _ (fE _ (tw _ (qZ (f:=(·.2)) h))))))
theorem NT(h:k∈v7):jm P k.2:=vC P (fE _ (fE _ (fE _ (fE _ (fE _ (qZ (f:=(·.2)) h))))))
end
theorem QV(P:cD):BE.all (λq=>de P q.1==some (.ref q.2.addr)&&keepIn (KL P) (.ref q.2.addr))=true:=⋯
theorem Wp(P:cD):Ei.all (λq=>(de P q.1==some (.ref q.2.1)&&keepIn (KL P) (.ref q.2.1))&&(makesIn (KL P) q.2.1&&(fN (KL P) (.ref q.2.1) "__init__"==some (some (.ref q.2.2.addr))&&typeIn (KL P) (.ref q.2.2.addr)==some (.type "function"))))=true:=⋯
theorem O8(P:cD):Ew.all (λq=>vZ (KL P) q.1.1 q.1.2 q.2.addr)=true:=⋯
theorem XH(P:cD):C7.all (λq=>(xX (KL P) dg q.1.info.2 (.type "int")&&xX (KL P) dg q.1.info.2 (.ref dg))&&(KE (KL P) dg&&(fN (KL P) (.ref dg) (FN q.1.info.2)==some (some (.ref q.2.addr))&&(ou (KL P) (.ref q.2.addr)&&Qs (KL P) dg q.1.info.2))))=true:=⋯
theorem Ry(P:cD):v7.all (λq=>(notFirst (KL P) dg (.type "int")&&notFirst (KL P) dg (.ref dg))&&(fN (KL P) (.ref dg) (cmpInfo q.1).2.1==some (some (.ref q.2.addr))&&ou (KL P) (.ref q.2.addr)))=true:=⋯
theorem abw(P:cD):(fN (KL P) (.ref bv) "__len__"==some (some (.ref D3.addr))&&ou (KL P) (.ref D3.addr))=true:=⋯
theorem X3(P:cD):(Cd (KL P) bv "num_cand" &&(FC (KL P) bv&&(fN (KL P) (.ref bv) "num_cand"==some (some (.ref 512))&&(Kq (KL P) (.ref 512) "__get__"==some (some (.builtin "property.__get__"))&&(takesIn (KL P) (.ref 512)==some true&&(recIn (KL P) 512 "property").any λl=>l.head?==some (.ref Iu.addr))))))=true:=⋯
theorem RJ{P:cD}{q:Str×Nat×aY}(h:q∈Ei):(de P q.1=some (.ref q.2.1)/\keepIn (KL P) (.ref q.2.1)=true)/\Hr P q.2.1 q.2.2:=by
 obtain⟨a,b⟩:=aX (b7 (Wp P) _ h);obtain⟨a,a'⟩:=aX a;obtain⟨b,b'⟩:=aX b;obtain⟨b',b''⟩:=aX b';exact⟨⟨a5 a,a'⟩,aap h,b,a5 b',a5 b''⟩
section
variable{c:Cx}{x y:Pt c}{d N k:Nat}{A:Am (d+3)}{O:aK}{v u:ac}{a:ao}{z m:Str}{vs:List PV}{ks fs:List (Str×PV)}{p q:PV}{b:Bool}{us:List ac}
@[elab_as_elim] theorem abi{m:PV->Prop}{i:Nat×List (Str×PV)}(h:p.DF=some i)(K:m (.inst i.1 i.2)):m p:=by
 induction p using dq with
 |inst=>cases ay h;exact K
 |_=>exact nS h
@[elab_as_elim] theorem NQ{m:PV->Prop}(h:DE p=some q)(K:q.iQ=false->m q):m p:=fZ h λn h=>by
 cases ay h;exact K (m8 n)
theorem IM{Q:ac->ag->Prop}{s:ag}(r:Rd p x v)(h:p.iQ=false)(q:Q v s):FO Q v s:=by
 revert q;induction p using dq with
 |none=>exact qt r id|bool=>exact lW r id|int=>exact bU r λ_=>id|str=>exact je r λ_=>id|tup=>exact iT r λ_ _ _=>id|list=>exact dY r λ_ _ _=>id|set=>exact kX r λ_ _ _=>id|d5=>exact qz r λ_ _ _ _=>id|inst=>exact rL r λ_ _ _ _=>id|any=>exact tf h
theorem RY(r:Rd q x u)(h:Fg q=true):∃tb,iG (ah pw c.w) x.s.heap (tx u) tb/\(tb=.type "int"\/tb=.ref dg):=by
 induction q using dq with
 |int=>exact bU r λ_=>(aA _ (.of_pure rfl) (.inl rfl))
 |inst k fs=>
  cases a5 (h:(k==dg)=true);exact m7 r λI _ _ _=>(aA _ I.type (.inr rfl))
 |_=>exact ff h
variable(S:∀n,Sd c d (aw O n))
include S
theorem adb(h:(next N O).fn z vs ks=some p):∃g,de c.w.params z=some g/\pe c.w.params g/\qd c (d+3) g vs ks p:=by
 refine uJ h (λR e h=>?_) λ_ h=>uJ h (λq e h=>fG h λr h=>?_) λ_ h=>aL h λe g=>?_
 ·have m:=xk e;have g:=aX (b7 (QV c.w.params) _ m);exact(cz _ (a5 g.1) (.inr (.inr g.2)) (λ{A x us kv} rv rk=>xV (A:=A.mono (e:=d+1) (by lia)) S (Oo m) h rv rk))
 ·obtain⟨rfl,e⟩:=e;cases jI e;refine(cz (.builtin "len") ⋯ (.inl ⟨_,rfl⟩) (λ{A x us kv} rv rk=>?_));revert rv;refine aj g λv h1 g1=>qS h1 λrv=>?_;revert rv;refine aj g1 λi h2 g2=>?_;revert g2;refine abi h2 λg2=>aL g2 λhc g3=>aj g3 λp h3 g4=>aj g4 λj h4 g5=>aL g5 λhj g6=>?_;cases ay g6;revert h3;refine eu h4 λh3 rv=>eB rv λr rv=>i0 rv (rT rk λQ E K=>?_);have z:=aX (abw c.w.params);refine m7 r λI _ _ r'=>adh x.cT (hc▸I) (a5 z.1) z.2 (xV (A:=(A.mono (e:=d+2) (by lia)).in1) S (vC _ (.head _)) h3 (.cons r' .nil) .nil _ _ λv y le r=>bU r λt=>(tL _ _ rfl hj.1 hj.2 (K _ (y.tok _) (le.trans (y.cG _)) .int)))
 ·have g:=RJ (P:=c.w.params) (.tail _ (xk e));exact(cz _ g.1.1 (.inr (.inr g.1.2)) (λ{A x us kv} rv rk=>g_ (A:=A.mono (e:=d+2) (by lia)) S g.2 h rv rk))
theorem Sq(h:(next N O).bM k m vs ks=some p):∃R:aY,vZ (KL c.w.params) k m R.addr=true/\jm c.w.params R/\bm O N R vs ks=some p:=aj h λR e h=>
 have m:=List.mem_cons_of_mem _ (xk e)
 (cz R (b7 (O8 c.w.params) _ m) (Oj m) h)
theorem aew(h:(next N O).bM k "__call__" (.inst k fs::vs) []=some p)(r:Rd (.inst k fs) x v)(rv:bt vs x us):aE A (bC v us []) x (Rd p):=by
 refine bE λgG hG=>cP (Sq S h) λR hm ok hr=>e8 (Bg (aX hm).1) λh1 h2 h3=>?_;obtain⟨name,args,body,dl,rt,tp,scope,ts,bd,pos,e⟩:=H4 ok.plain;have ha:=e▸ok.at_;have r':=r;refine hG ?_;revert r';exact rL r λ{a dx n es vs} i1 i2 _ _ r' Q E K=>q8 (abP (ox:=lV k dx) (od:=some (uO es n)) x.cT ⟨x.hs _ _ i1,rfl,rfl,x.hs _ _ i2⟩ rfl (a5 h2) h3 ha rfl (IA (A:=A.mono (e:=d+1) (by lia)) S ok hr (.cons r' rv) .nil λy v l r=>K v y l r))
theorem acp(h:(next N O).attr k z (.inst k fs)=some p)(r:Rd (.inst k fs) x v):aE A (uP v z true) x (Rd p):=aL h λe h=>aj h λq h1 h2=>by
 obtain⟨rfl,rfl⟩:=e;revert h1;refine NQ h2 λhq h1=>bE λgG hG=>dU (aX (X3 c.w.params)) λz1 z=>dU (aX z) λz2 z=>dU (aX z) λz3 z=>dU (aX z) λz4 z=>dU (aX z) λz5 z=>aB (q0 z) λl z6 z7=>hG ?_;induction l using bO with
 |nil=>exact ff z7
 |cons a' rest=>
  cases ay (a5 z7);exact m7 r λI _ _ r' Q E K=>cQ (YF x.cT I z1 z2 (a5 z3) (a5 z4) (a5 z5) z6 (IA (A:=(A.mono (e:=d+2) (by lia)).in1) (x:=x.tok (x.s.toks+1)) S (vC _ (.tail _ (.head _))) h1 (.cons r' .nil) .nil λy v l r=>⟨RF r hq,K v y ((x.cG _).trans l) r⟩)) (λ_ _ z=>z) λ_ _ z=>z.elim
theorem Xq{op:ia}(h:(next N O).bin op (.inst k fs) q=some p)(r:Rd (.inst k fs) x v)(rq:Rd q x u):aE A (mI op v u) x (Rd p)/\aE A (Kw op v u) x (Rd p):=aL h λe h=>aj h λR e1 h=>aj h λp' h1 h2=>by
 obtain⟨rfl,hn⟩:=e;revert h1;refine NQ h2 λhq h1=>?_;have m:=xk e1;obtain⟨z1,z⟩:=aX (b7 (XH c.w.params) _ m);obtain⟨z2,z⟩:=aX z;obtain⟨z3,z⟩:=aX z;obtain⟨z4,z5⟩:=aX z;refine aB (RY rq hn) λtb L1 ht=>?_;have hr:xX (KL c.w.params) dg op.info.2 tb=true:=ht.elim (λe=>e▸(aX z1).1) λe=>e▸(aX z1).2;refine m7 r λI _ _ r'=>?_;have k:=xV (A:=A.mono (e:=d+1) (by lia)) S (VW m) h1 (.cons r' (.cons rq .nil)) .nil;exact⟨λQ E K=>aeu x.cT I L1 hr z2 (a5 z3) z4 (k _ _ λv y l r=>IM r hq (K v y l r)),λQ E K=>Xj x.cT I L1 hr z2 (a5 z3) z4 z5 (k _ _ λv y l r=>IM r hq (K v y l r))⟩
omit S in
theorem acC{op:iF}{R:aY}(m:(op,R)∈v7):∀a b:ac,jN op a b=FP op a b:=by
 simp only[v7,jO,Prod.mk.injEq,eX,or_false] at m;rcases m with⟨rfl,_⟩|⟨rfl,_⟩|⟨rfl,_⟩|⟨rfl,_⟩<;>exact λ_ _=>rfl
theorem OP{op:iF}(h:(next N O).cmp op (.inst k fs) q=some b):∃R:aY,(op,R)∈v7/\k=dg/\Fg q=true/\bm O N R [.inst k fs,q] []=some (.bool b):=aL h λe h=>aj h λR e1 h=>aj h λp' h1 h2=>(wc R (xk e1) e.1 e.2 (E2 (m:=λp=>_=some p->_=some (PV.bool b)) h2 id h1))
theorem afO{op:iF}(h:(next N O).cmp op (.inst k fs) q=some b)(r:Rd (.inst k fs) x v)(rq:Rd q x u):aE A (jN op v u) x (Rd (.bool b)):=λQ E K=>by
 refine kP (OP S h) λR m bZ hn h1=>?_;subst bZ;obtain⟨z1,z⟩:=aX (b7 (Ry c.w.params) _ m);have z:=aX z;refine aB (RY rq hn) λtb L1 ht=>?_;have hr:notFirst (KL c.w.params) dg tb=true:=ht.elim (λe=>e▸(aX z1).1) λe=>e▸(aX z1).2;rw[acC m];exact m7 r λI _ _ r'=>acY (A.room (n:=0) (by lia)) x.cT I L1 hr (a5 z.1) z.2 (xV (A:=A.mono (e:=d+1) (by lia)) S (NT m) h1 (.cons r' (.cons rq .nil)) .nil _ _ λv y l r=>IM r rfl (K v y l r))
theorem adn:b9 c (next N O) (d+3) where
 fn:=adb S
 bM h _:=cP (Sq S h) λR hm ok hr=>(aA _ hm (λ{A x us kv} rv rk=>xV (A:=A.mono (e:=d+1) (by lia)) S ok hr rv rk))
 AI h _ _ _ _:=aew S h
 attr h _ _ _ _:=acp S h
 bin h _ _ _ _:=Xq S h
 cmp h _ _ _ _:=afO S h
 lt h:=by
  refine kP (OP S h) λR m bZ hn h1=>?_;subst bZ;have z:=aX (aX (b7 (Ry c.w.params) _ m)).2;exact(cz _ (a5 z.1) z.2 (λ{A x v u} r rq=>xV (A:=A.mono (e:=d+1) (by lia)) S (NT m) h1 (.cons r (.cons rq .nil)) .nil))
theorem Yy:g9 c (next N O) (d+3) where
 l6 h:=aL h λe g=>aj g λr h1 g1=>aL g1 λe1 g2=>by
  obtain⟨rfl,rfl,hk⟩:=e;cases ay g2;have m:((bv,("add_voter":Str)),wm)∈Ew:=.head _;exact(cz _ (b7 (O8 c.w.params) _ m) (Gl.mp hk) (λ{A x a V v K E} sl fr rq k=>q8 (MP (A:=A.mono (e:=d+1) (by lia)) S (Oj m) h1 sl fr (.cons rq .nil) .nil λy V' l sl mV fr=>k _ y V' l (e1▸sl) mV fr)))
 make h:=aL h λe h=>by
  refine aB (tE.mp h) λr h1 bZ=>?_;subst bZ;have g:=RJ (P:=c.w.params) (.head _);exact(cz _ (e▸g.1.1) (.inr (.inr g.1.2)) (λ{A x us kv K E} rv rk k=>MD (A:=A.mono (e:=d+2) (by lia)) S g.2 h1 rv rk k))
 n9 h:=by
  refine aB (q0 h) λR e h=>?_;have m:=xk e;have g:=aX (b7 (QV c.w.params) _ m);exact(cz _ (a5 g.1) (.inr (.inr g.2)) (λ{A x us kv l K E} rv rk hl hi k=>Y3 (A:=A.mono (e:=d+1) (by lia)) S (Oo m) h rv rk hl hi k))
omit S
theorem Ϛ:b9 c BY d:=⟨λh=>nS h,λh=>nS h,λh=>nS h,λh=>nS h,λh=>nS h,λh=>nS h,λh=>nS h⟩
theorem ab7:g9 c BY d:=⟨λh=>nS h,λh=>nS h,λh=>ff h⟩
end
section
variable{n k x:Nat}{l m:List Nat}{P:cD}{o:Obj}{t to:a8}{a:ao}{s:ag}{w:cO}{A:bh}{E:ac->ag->Prop}{h:am}
section
set_option tactic.hygienic true
noncomputable def pB:Nat->Nat->List (List Nat)
 |_,0=>[[]]|k,n+1=>pB (k+1) n++(pB (k+1) n).map (k:: ·)
theorem NV(n:Nat):∀{k:Nat} {l:List Nat},l.Pairwise (· < ·)->(∀x∈l,k<=x/\x<k+n)->l∈pB k n:=by
 induction n with
 |zero=>
  intro k l _ h;induction l using bO with
  |nil=>exact .head _|cons a l=>exact absurd (h a (.head _)).2 (gJ (h a (.head _)).1)
 |succ n ih=>
  intro k l p h;have up:∀{l:List Nat},l.Pairwise (· < ·)->(∀x∈l,k<x/\x<k+(n+1))->l∈pB (k+1) n:=λp h=>ih p λx m=>⟨(h x m).1,i6 (h x m).2 (pS k n 1)⟩;induction l using bO with
  |nil=>exact tw _ (up p λx m=>mN m)
  |cons a l=>
   have p':=lO p;have ha:=h a (.head _);by_cases e:a=k
   ·subst e;exact fE _ (qZ (up p'.2 λx m=>⟨p'.1 x m,(h x (.tail _ m)).2⟩))
   ·have la:=pT ha.1 (gV e);exact tw _ (up p λx m=>⟨(bw m).elim (λe=>e▸la) λm=>eN la (p'.1 x m),(h x m).2⟩)
theorem DY{a:Nat}(p:(a::l).Pairwise (· < ·))(h:x∈a::l):a<=x:=(bw h).elim (λe=>aD e.symm) λm=>cy ((lO p).1 x m)
theorem ue(p:l.Pairwise (· < ·))(q:m.Pairwise (· < ·))(h:∀x,x∈l↔x∈m):l=m:=by
 induction l generalizing m with
 |nil=>induction m using bO with
  |nil=>rfl|cons b m=>nomatch (h b).mpr (.head _)
 |cons a l ih=>induction m using bO with
  |nil=>nomatch (h a).mp (.head _)
  |cons b m=>
   obtain rfl:=mM (DY p ((h b).mpr (.head _))) (DY q ((h a).mp (.head _)));have p':=lO p;have q':=lO q;exact af _ (ih p'.2 q'.2 λx=>⟨λk=>(bw ((h x).mp (.tail _ k))).elim (λe=>absurd (p'.1 x k) (e▸cV _)) id,λk=>(bw ((h x).mpr (.tail _ k))).elim (λe=>absurd (q'.1 x k) (e▸cV _)) id⟩)
theorem pi:x∈fy n l↔x=n\/x∈l:=by
 induction l with
 |nil=>exact jO
 |cons m r ih=>
  show x∈(if n<m then n::m::r else if n=m then m::r else m::fy n r)↔_;by_cases a:n<m
  ·erw[iP a];exact jO
  ·erw[iN a];by_cases b:n=m
   ·erw[iP b];exact⟨.inr,λh=>h.elim (λe=>e▸b▸ .head _) id⟩
   ·rw[iN b,jO,ih,jO];exact or_left_comm
theorem sX(p:l.Pairwise (· < ·)):(fy n l).Pairwise (· < ·):=by
 induction l with
 |nil=>exact Gk.mpr ⟨λ_ h=>(nomatch h),.nil⟩
 |cons m r ih=>
  have p':=lO p;show List.Pairwise _ (if n<m then n::m::r else if n=m then m::r else m::fy n r);by_cases a:n<m
  ·erw[iP a];exact Gk.mpr ⟨λx h=>ba a (DY p h),p⟩
  ·erw[iN a];by_cases b:n=m
   ·erw[iP b];exact p
   ·erw[iN b];exact Gk.mpr ⟨λx h=>(pi.mp h).elim (λe=>e▸pT (cZ a) (gV b)) (p'.1 x),ih p'.2⟩
theorem WY(p:l.Pairwise (· < ·))(m:x∈l):fy x l=l:=ue (sX p) p λy=>pi.trans ⟨λh=>h.elim (λe=>e▸m) id,.inr⟩
def WS(l:List Nat)(x:Nat):Bool:=l.contains x||(decide (pU l.toArray x<=l.length)&&(l.take (pU l.toArray x)++x::l.drop (pU l.toArray x)==fy x l)&&(l.toArray[pU l.toArray x]? !=some x))
theorem WR:(pB 0 6).all (λl=>(ax 6).all λx=>WS l x)=true:=⋯
noncomputable def Ha(m:Nat)(l:List Nat):Bool:=(S1 m 0 0 true true (l.map (λn:Nat=>(n:Int))).toArray).any λt=>t.1.place==l.toArray&&t.2==(ax l.length).toArray
theorem af3:[7,15,31].all (λm=>(pB 0 6).all λl=>Ha m l)=true:=⋯
theorem ab8:(ax 6).all (λn=>u3 (n:Int)==(n:Int))=true:=⋯
theorem G8{m:Nat}{l:List Nat}{fi mv:Nat}{le pl:Bool}(h:Ha m l=true):S1 m fi mv le pl (l.map (λn:Nat=>(n:Int))).toArray=some ({mask:=m,place:=l.toArray,dummies:= #[],finger:=fi,led:=le,moves:=mv,plain:=pl},(ax l.length).toArray):=by
 refine aB (q0 h) λt h1 h2=>?_;obtain⟨h2,h3⟩:=aX h2;unfold S1 at h1⊢;refine aj h1 λow e h4=>aa (e) ?_;obtain rfl:=ay h4;have h2:=a5 h2;have h3:=a5 h3;dsimp only at h2 h3;simp only[Option.bind_eq_bind,SD,Option.pure_def,h2,h3]
def cR(P:cD)(l:List Nat)(o:Obj):Prop:=∃es n t,o=dJ es n t/\bS es.toList l/\eS P l t
section
variable{es d0:List (Int×ac)}
theorem eS.sub(h:eS P l t):l∈pB 0 6:=NV 6 h.up λx m=>⟨cu _,i6 (h.small x m) (f5 6).symm⟩
theorem eS.len(h:eS P l t):l.length<=6:=Ea h.up h.small
theorem eS.lay(h:eS P l t){m:Nat}(hm:m=7\/m=15\/m=31):Ha m l=true:=b7 (b7 af3 m (by rcases hm with rfl|rfl|rfl<;>decide)) l h.sub
theorem E1(h:n<6):u3 (n:Int)=(n:Int):=a5 (b7 ab8 n (dH h))
theorem bS.QZ(h:bS es l)(hs:∀x∈l,x<6):ElemsOf (u4 pw w) es:=by
 induction l generalizing es with
 |nil=>cases(h:es=[]);exact λ_ m=>mN m
 |cons n l ih=>
  obtain⟨tk,r,rfl,h⟩:=h;exact λe m=>(bw m).elim (λq=>q▸⟨(aA _ (KF _ _ _ _) ((E1 (hs _ (.head _))).symm)),rfl⟩) λm=>ih h (λx hx=>hs x (.tail _ hx)) e m
theorem bS.mem(h:bS es l)(k:Int):(∃e∈es,(u4 pw w).is k e.2=true)↔∃n∈l,(n:Int)=k:=by
 induction l generalizing es with
 |nil=>cases(h:es=[]);simp
 |cons n l ih=>
  obtain⟨tk,r,rfl,h⟩:=h;have e0:(u4 pw w).is k (.int (n:Int) tk)=true↔(n:Int)=k:=by
   show ac.isInt k (.int (n:Int) tk)=true↔_;unfold ac.isInt;simp
  simp only[jO,exists_eq_or_imp,e0,ih h]
theorem bS.size{es:Array (Int×ac)}(h:bS es.toList l):es.size=l.length:=FB.symm.trans (MR h)
theorem cR.at_(h:cR P l o):∃es n t,o=dJ es n t/\bS es.toList l/\eS P l t/\es.size=l.length/\t.fits es.size=true:=jH h λes n t e h1 h2=>(IJ es n t e h1 h2 h1.size (h1.size▸DP h2))
theorem H2{k:Nat}(h:k<=6):k<scanBound:=by unfold scanBound;lia
theorem cR.setOf(x:cR w.params l o)(ho:h.get? a=some o):h.SetOf (u4 pw w) a (λk=>decide (∃n∈l,(n:Int)=k)) l.length:=by
 refine Ds x.at_ λes n t c4 h1 h2 h3 h4=>?_;subst c4;exact⟨_,es,n,t,ho,(eA rfl rfl rfl),rfl,h1.QZ h2.small,λk=>by erw[decide_eq_true_eq];exact(h1.mem k).symm,h3▸H2 h2.len,h4,h3⟩
theorem Oi{x:Int}{tk:Tok}{Q:Option Nat->ag->Prop}(hx:cR w.params l o)(ho:s.heap.get? a=some o)(h:∀r:Option Nat,r.isSome=decide (∃n∈l,(n:Int)=x)->Q r s):ai (ah pw w) A (setFind a (.int x tk) (u3 x)) Q E s:=
 wpAny_setFind_of (knd:=u4 pw w) (KF _ _ _ _) rfl (hx.setOf ho) h
theorem bS.take(h:bS es l)(k:Nat):bS (es.take k) (l.take k):=by
 induction l generalizing es k with
 |nil=>cases(h:es=[]);erw[u5];erw[u5];exact rfl
 |cons n l ih=>
  obtain⟨tk,r,rfl,h⟩:=h;induction k using nq with
  |zero=>exact rfl|succ k=>exact(dh tk _ rfl (ih h k))
theorem bS.drop(h:bS es l)(k:Nat):bS (es.drop k) (l.drop k):=by
 induction l generalizing es k with
 |nil=>cases(h:es=[]);erw[FR];erw[FR];exact rfl
 |cons n l ih=>
  obtain⟨tk,r,rfl,h⟩:=h;induction k using nq with
  |zero=>exact(dh tk r rfl h)|succ k=>exact ih h k
theorem bS.append(h:bS es l)(h':bS d0 m):bS (es++d0) (l++m):=by
 induction l generalizing es with
 |nil=>cases(h:es=[]);exact h'
 |cons n l ih=>
  obtain⟨tk,r,rfl,h⟩:=h;exact(dh tk _ rfl (ih h))
theorem bS.hashes(h:bS es l):es.map (·.1)=l.map λn:Nat=>(n:Int):=by
 induction l generalizing es with
 |nil=>cases(h:es=[]);rfl
 |cons n l ih=>
  obtain⟨tk,r,rfl,h⟩:=h;exact af (List.cons _) (ih h)
theorem bS.Hf{es:Array (Int×ac)}(h:bS es.toList l):es.map (·.1)=(l.map (λn:Nat=>(n:Int))).toArray:=zr.mp (Ts.trans h.hashes)
theorem VO(h:eS P l t)(hx:x<6)(hn:x∉l):t.freeSlot (x:Int)=some (x,false)/\pU l.toArray x<=l.length/\l.take (pU l.toArray x)++x::l.drop (pU l.toArray x)=fy x l:=by
 have k:=(mA (b7 (b7 WR l h.sub) x (dH hx))).resolve_left λk=>hn (qg k);simp only[mK,decide_eq_true_eq,beq_iff_eq,bne_iff_ne,ne_eq] at k;refine(eA (?_) k.1.1 k.1.2);have hj:(t.probeStart (x:Int)).j=x:=by
  have hb:S2 (x:Int)=x:=by
   unfold S2;erw[Int.emod_eq_of_lt (by lia) (by lia)];rfl
  show S2 (x:Int)%(t.mask+1)=x;erw[hb];rcases h.mask with e|e|e<;>refine aa (e) ?_<;>lia
 have hs:t.slot x=.empty:=by
  unfold a8.slot;refine aa (h.place) (aa (h.dummies) ((iN (by simpa using k.2)).trans (iN ?_)));unfold S4;simp
 unfold a8.freeSlot agk;erw[(show 10*S5 t.mask=(10*S5 t.mask-1)+1 by unfold S5;lia)];unfold agk.go;refine aa (hj) (aa (hs) ?_);rfl
theorem Vo{es:Array (Int×ac)}{tk:Tok}(h1:bS es.toList l)(h:eS P l t)(hx:x<6)(hn:x∉l):
  ∃d0,layNew t es (x:Int) (.int (x:Int) tk)=(d0,{t with place:=(fy x l).toArray},false,false)/\bS d0.toList (fy x l):=by
 refine e8 (VO h hx hn) λk1 k2 k3=>?_;have ent:bS (S6 es (pU l.toArray x) ((x:Int),.int (x:Int) tk)).toList (fy x l):=by
  rw[agl,<-k3];exact(h1.take _).append (dh tk _ rfl (h1.drop _))
 refine(aA (S6 es (pU l.toArray x) ((x:Int),.int (x:Int) tk)) (?_) ent);have aho:(fy x l).length=l.length+1:=by refine gZ (k3) ?_;erw[da];erw[wL];erw[FS];erw[FT];erw[wW k2];lia
 have Gz:({t with place:=(fy x l).toArray}:a8).fits (fy x l).length=true:=by
  unfold a8.fits FA;simp only[i4,beq_self_eq_true,Bool.true_and,decide_eq_true_eq];refine aa (h.dummies) (aa (aho) ?_);have:=h.room;have:=h.len;rcases h.mask with e|e|e<;>rw[e] at* <;>simp<;>lia
 have ahp:t.put x=({t with place:=(fy x l).toArray},pU l.toArray x):=by
  unfold a8.put;rw[h.dummies,show S4 #[] x=false by unfold S4;simp,h.place,<-show S6 l.toArray (pU l.toArray x) x=(fy x l).toArray from zr.mp ((agl ..).trans k3)];rfl
 unfold layNew;erw[k1];dsimp only;erw[ahp];dsimp only;unfold a8.orStandIn;refine aa (ent.size) (aa (Gz) ?_);rfl
end
end
section
variable{b:ao}{es d0:Array (Int×ac)}
theorem fJ{α:Type}{M:f4}{c:Prop}[Decidable c]{t u:Sem α}{Q:α->ag->Prop}(n:¬c)(h:ai M A u Q E s):ai M A (if c then t else u) Q E s:=(iN n).symm▸h
theorem oP{α:Type}{M:f4}{c:Prop}[Decidable c]{t u:Sem α}{Q:α->ag->Prop}(n:c)(h:ai M A t Q E s):ai M A (if c then t else u) Q E s:=(iP n).symm▸h
theorem Sx:mO (wX 5)=32/\mO (wX 6)=32:=by decide+kernel
theorem afr{n:Nat}(h:n<=6)(h5:5<=n):mO (wX n)=32:=(Nat.eq_or_lt_of_le h5).elim (λe=>e▸Sx.1) λe=>mM e h▸Sx.2
theorem V9(h1:bS es.toList l)(up:l.Pairwise (· < ·))(sm:∀x∈l,x<6)(h5:5<=l.length)(f0:t.finger=0)(pl:t.plain=true)(ld:t.led= !P.followText "set-order"):
  ∃t',FU t es (wX es.size)=(es,t',false)/\eS P l t':=by
 have hsz:=h1.size;have h6:=Ea up sm;have LL:eS P l {mask:=31,place:=l.toArray,dummies:= #[],finger:=t.finger,led:=t.led,moves:=t.movedTo 31,plain:=t.plain}:=
  ⟨rfl,rfl,.inr (.inr rfl),by show l.length*5<31*3;lia,f0,pl,ld,up,sm⟩
 have hr:t.relaid (es.map (·.1)) (wX es.size)=some ({mask:=31,place:=l.toArray,dummies:= #[],finger:=t.finger,led:=t.led,moves:=t.movedTo 31,plain:=t.plain},(ax l.length).toArray):=by
  unfold agm;exact aa (hsz) (aa (afr h6 h5) (aa (h1.Hf) (G8 (LL.lay (.inr (.inr rfl))))))
 refine(aA _ (?_) LL);unfold FU;erw[hr];dsimp only;have hf:(ax l.length).toArray.filterMap (es[·]?)=es:=by
  apply zr.mp;exact aa (agn) (gZ (hsz) (ago es))
 have hc:coversAll (ax l.length).toArray es.size=true:=by
  unfold coversAll;exact aa (hsz) (List.isPerm_iff.mpr (B6 _))
 refine aa (hf) (aa (hc) (aa (hsz) (aa (DP LL) ?_)));rfl
theorem Bw{Q:Unit->ag->Prop}{t':a8}(ho:s.heap.get? a=some (dJ d0 n to))(hz:es.size<=qW)(h:∀h',dD a s.heap h'->h'.get? a=some (dJ es (n+1) t')->Q () {s with heap:=h'}):ai (ah pw w) A (storeSet a es t') Q E s:=by
 refine wpAny_storeSet_of ho rfl (h _ (uY s.heap a _) ?_) hz;have:=agg (Obj.putSet es t') ho (by erw[(putSet_of es t' rfl:Obj.putSet es t' (dJ d0 n to)=_)];rfl);rw[show Obj.putSet es t' (dJ d0 n to)=_ from putSet_of es t' rfl] at this;exact this
theorem NL(h:es.size<=6):es.size<=qW:=fits_of_scanBound (H2 h)
theorem acl{g:Bool->Sem Unit}(hg:∀(bJ:ag) (Q':Unit->ag->Prop),Q' () bJ->ai (ah pw w) A (g false) Q' E bJ){R:Option Bool->ag->Prop}
(ho:s.heap.get? a=some (dJ d0 n to))(h1:bS es.toList l)(up:l.Pairwise (· < ·))(sm:∀x∈l,x<6)(hp:t.place=l.toArray)(hd:t.dummies= #[])(hm:t.mask=7\/t.mask=15\/t.mask=31)(f0:t.finger=0)(pl:t.plain=true)(ld:t.led= !w.params.followText "set-order")
(h:∀h' o',dD a s.heap h'->h'.get? a=some o'->cR w.params l o'->R (some true) {s with heap:=h'}):
  ai (ah pw w) A (do
    storeSet a es t
    if(!false&&t.tooFull)=true then do
      g (FU t es (wX es.size)).2.2
      storeSet a (FU t es (wX es.size)).1 (FU t es (wX es.size)).2.1
      pure (some true)
     else pure (some true)) R E s:=by
 have h6:=Ea up sm;have hz:=NL (h1.size▸h6);have hf:t.tooFull=decide (l.length*5>=t.mask*3):=by
  unfold a8.tooFull FA;refine aa (hp) (aa (hd) ?_);simp
 refine ae (Bw ho hz λh1' b1 g1=>aa (hf) ?_);by_cases q:l.length*5>=t.mask*3
 ·exact aB (V9 (P:=w.params) (t:=t) h1 up sm (by rcases hm with e|e|e<;>rw[e] at q<;>lia) f0 pl ld) λt' e1 e2=>aa (dT q) (aa (e1) (ae (hg _ _ (ae (Bw (s:={s with heap:=h1'}) g1 hz λh2 b2 g2=>au (h _ _ (b1.trans b2) g2 (j5 es _ t' rfl h1 e2)))))))
 ·exact aa (dF q) (au (h _ _ b1 g1 ⟨es,n+1,t,rfl,h1,hp,hd,hm,om q,f0,pl,ld,up,sm⟩))
theorem Jo{tk:Tok}{Q:Bool->ag->Prop}(hx:cR w.params l o)(ho:s.heap.get? a=some o)(h6:x<6)
(h:∀h' o',dD a s.heap h'->h'.get? a=some o'->cR w.params (fy x l) o'->Q (!decide (x∈l)) {s with heap:=h'}):
  ai (ah pw w) A (FV a (.int (x:Int) tk) (u3 (x:Int))) Q E s:=by
 refine Ds hx.at_ λes n t c4 h1 h2 h3 h4=>?_;subst c4;have hk:(u4 pw w).is (x:Int) (.int (x:Int) tk)=true:=KF _ _ _ _;have Uu:=h1.QZ (w:=w) h2.small;have hb:es.size<scanBound:=h3▸H2 h2.len;unfold FV setAddHashedIn;refine dO (ae (wpAny_setState_of ho rfl h4 ?_));dsimp only;erw[byScan_of (x:=.int (x:Int) tk) rfl hb Uu];simp only[↓reduceIte];unfold setAddByScan;refine ae (ae (uV (ae (wpAny_setScan_of (knd:=u4 pw w) hk ho rfl h4 Uu ?_))));cases hr:List.findIdx? (λe=>(u4 pw w).is (x:Int) e.2) es.toList with
 |some j=>
  obtain⟨hj,hpj,_⟩:=List.findIdx?_eq_some_iff_getElem.mp hr;refine aB ((h1.mem (w:=w) (x:Int)).mp (aA (es.toList[j]) (S7 hj) hpj)) λm hm e=>?_;obtain rfl:=FW e;have:=h s.heap _ (Cq a s.heap) ho (by erw[WY h2.up hm];exact hx);rw[dT hm] at this;exact au (au this)
 |none=>
  have hn:x∉l:=λm=>aB ((h1.mem (w:=w) (x:Int)).mpr (aA x m rfl)) λe he hp=>ff ((List.findIdx?_eq_none_iff.mp hr e he).symm.trans hp);refine aB (Vo (tk:=tk) h1 h2 h6 hn) λd0 hl he=>?_;have hgw:∀(b:Bool) {bJ:ag} {Q':Unit->ag->Prop},Q' () bJ->ai (ah pw w) A (match b with|true=>rule "set.scan.the-table-gave-way" |false=>pure ()) Q' E bJ:=
   λb bJ Q' hq=>by cases b<;>first|exact au hq|exact uV hq
  have Uv:layNew t es (u3 (x:Int)) (.int (x:Int) tk)=(d0,{t with place:=(fy x l).toArray},false,false):=(E1 h6).symm▸hl;generalize layNew t es (u3 (x:Int)) (.int (x:Int) tk)=L at Uv⊢;subst Uv;refine ae (hgw false (aa (iP h2.plain) (ae (aa (hashByValue_scannable (x:=.int (x:Int) tk) 8 rfl) (au (acl (t:={t with place:=(fy x l).toArray}) (R:=λr s'=>ai (ah pw w) A _ Q E s') (λbJ Q' hq=>au hq) ho he (sX h2.up) (λy m=>(pi.mp m).elim (λe=>e▸h6) (h2.small y)) rfl h2.dummies h2.mask h2.finger h2.plain h2.led λh' o' k1 k2 k3=>?_))))));have:=h h' o' k1 k2 k3;rw[dF hn] at this;exact au this
theorem Os{n mv:Nat}:cR P [] (dJ #[] n (.fresh 0 mv (!P.followText "set-order"))):=⟨#[],n,_,rfl,rfl,rfl,rfl,.inl rfl,by show 0<7*3;lia,rfl,rfl,rfl,.nil,λ_ m=>mN m⟩
theorem Ij{Q:ac->ag->Prop}(h:∀o,cR w.params [] o->o.isFreed=false->Q (.ref s.heap.objs.size) {s with heap:=s.heap.push o}):ai (ah pw w) A (newSet (.type "set")) Q E s:=by
 unfold newSet Cr;refine ae (ae (oC (au ?_)));simp only[newObj];exact ae (wpAny_alloc (au (h _ Os rfl)))
theorem ϑ{α:Type}(l:List α):∀(i:Nat) (h:i<l.length),(l[i]::l.eraseIdx i).Perm l:=by
 induction l with
 |nil=>exact λi h=>absurd h (y9 _)
 |cons a l ih=>
  intro i h;induction i using nq with
  |zero=>exact .refl _|succ i=>exact(List.Perm.swap _ _ _).trans ((ih i (agp h)).cons a)
theorem V4{α:Type}(next:Nat->Nat)(CT:Nat):∀(k:Nat) (left:List α) (out:Array α),CT=left.length->(pickOrder.go next CT k left out).toList.Perm (out.toList++left):=by
 induction CT with
 |zero=>
  intro k left out h;obtain rfl:=zn.mp h.symm;exact(gO out.toList).symm▸ .refl _
 |succ CT ih=>
  intro k left out h;show(match left[next k%left.length]? with|some x=>pickOrder.go next CT (k+1) (left.eraseIdx (next k%left.length)) (out.push x)|none=>out).toList.Perm _;have hi:next k%left.length<left.length:=Cs _ (h▸eE _);erw[jM hi];refine(ih (k+1) (left.eraseIdx (next k%left.length)) (out.push left[next k%left.length]) (by erw[List.length_eraseIdx_of_lt hi];refine gZ (h) ?_;rfl)).trans ?_;erw[Array.toList_push];rw[kx];exact List.Perm.append_left _ (ϑ _ _ hi)
theorem Qw{α:Type}(next:Nat->Nat)(xs:Array α):(pickOrder next xs).toList.Perm xs.toList:=V4 next xs.size 0 xs.toList #[] FB.symm
theorem bS.perm{es d0:List (Int×ac)}(p:d0.Perm es):∀{l:List Nat},bS es l->∃l',bS d0 l'/\l'.Perm l:=by
 have hd:∀{x:Int×ac} {es:List (Int×ac)} {l:List Nat},bS (x::es) l->∃n tk m,l=n::m/\x=((n:Int),.int n tk)/\bS es m:=λ{x es l} h=>by
  induction l using bO with
  |nil=>exact ln (h:x::es=[])
  |cons n m=>
   refine eH h λtk r e h=>?_;injection e with e1 e2
   exact(j5 n tk m rfl e1 (e2▸h))
 induction p with
 |nil=>exact λh=>(aA _ h (.refl _))
 |cons x _ ih=>
  intro l h;refine jH (hd h) λn tk m c4 pX g=>?_;subst c4;subst pX;exact aB (ih g) λl' h1 h2=>(aA (n::l') (dh tk _ rfl h1) (h2.cons _))
 |swap x y es=>
  intro l h;refine jH (hd h) λn tk m c4 pX g=>?_;subst c4;subst pX;refine jH (hd g) λn' tk' m c4 pX k=>?_;subst c4;subst pX;exact(aA (n'::n::m) ⟨tk',_,rfl,tk,_,rfl,k⟩ (.swap _ _ _))
 |trans _ _ ih1 ih2=>
  intro l h;exact aB (ih2 h) λl' h1 h2=>aB (ih1 h1) λxd h3 h4=>(aA xd h3 (h4.trans h2))
theorem lQ{Q:(Array (Int×ac)×Nat×a8)->ag->Prop}(x:bS es.toList l)(y:eS P l t)(ho:s.heap.get? a=some (dJ es n t))(h:Q (es,n,t) s):ai (ah pw w) A (setState a) Q E s:=wpAny_setState_of ho rfl (x.size▸DP y) h
theorem Ys{Q:Array (Int×ac)->ag->Prop}(x:cR w.params l o)(ho:s.heap.get? a=some o)(h:∀d0 l',bS d0.toList l'->l'.Perm l->Q d0 s):ai (ah pw w) A (setWalk a) Q E s:=by
 refine jH x λes n t c4 h1 h2=>?_;subst c4;unfold setWalk Cr;refine ae (lQ h1 h2 ho (ae (ae (oC (au ?_)))));cases hb:w.params.followText "set-order" with
 |true=>
  refine aa (iP (hb:(ah pw w).w.params.followText "set-order"=true)) (ae (oC (au ?_)));obtain⟨l',k1,k2⟩:=h1.perm (Qw _ es);exact h _ l' k1 k2
 |false=>
  refine aa (iN (Bool.eq_false_iff.mp hb:¬(ah pw w).w.params.followText "set-order"=true)) (fJ (c:=(!t.plain&&decide (es.size>1))=true) (by erw[h2.plain];exact dy) (ae (fJ (c:=(!t.led&&decide (es.size>1))=true) (by erw[h2.led];erw[hb];exact dy) (au (au (h _ l h1 (.refl _)))))))
end
section
variable{ob oa:Obj}{b:ao}{es d0:Array (Int×ac)}
theorem aaT:(ax 7).all (λk=>(mO (k*2)==8&&decide (k<=3))||(mO (k*2)==16))=true:=by decide+kernel
theorem Z0(h:k<=6):mO (k*2)<=qW/\(mO (k*2) -1=7\/mO (k*2) -1=15)/\k*5<(mO (k*2) -1)*3:=by
 have e:=KB;rcases mA (b7 aaT k (dH (kA h))) with q|q
 ·exact dU (aX q) λq z=>aa (a5 q) ((eA (by erw[e];decide) (.inl rfl) (aQ (S8 5 (cC z)) (by decide))))
 ·exact aa (a5 q) ((eA (by erw[e];decide) (.inr rfl) (aQ (S8 5 h) (by decide))))
theorem afn{Q:Unit->ag->Prop}(x:cR w.params [] o)(ho:s.heap.get? a=some o)(hk:k<=6)
(h:∀h' n t,dD a s.heap h'->h'.get? a=some (dJ #[] n t)->eS w.params [] t->k*5<t.mask*3->Q () {s with heap:=h'}):ai (ah pw w) A (setRoomFor a k) Q E s:=by
 refine jH x λes n t c4 h1 h2=>?_;subst c4;obtain rfl:es= #[]:=zr.mp h1;unfold setRoomFor;refine ae (lQ h1 h2 ho ?_);dsimp only;have hr:t.roomFor k=if k*5>=t.mask*3 then some (k*2) else none:=by
  unfold a8.roomFor FA;refine aa (h2.place) (aa (h2.dummies) ?_);simp
 erw[hr];by_cases q:k*5>=t.mask*3
 ·refine aa (iP q) (e8 (Z0 hk) λz1 z2 z3=>?_);have hm:mO (k*2) -1=7\/mO (k*2) -1=15\/mO (k*2) -1=31:=z2.imp id .inl;have hr:t.relaid (Array.map (·.1) (#[]:Array (Int×ac))) (k*2)=some ({mask:=mO (k*2) -1,place:= #[],dummies:= #[],finger:=t.finger,led:=t.led,moves:=t.movedTo (mO (k*2) -1),plain:=t.plain},#[]):=by
   unfold agm;rw[bS.Hf (es:= #[]) (l:=[]) rfl];exact G8 (l:=[]) (h2.lay hm)
  unfold setRelay;refine ae (lQ h1 h2 ho ?_);dsimp only;exact aa (iN (gJ z1)) (aa (hr) (ae (au (Bw ho (cu _) λh' b g=>h h' _ _ b g ⟨rfl,rfl,hm,by show 0*5<_;exact aQ (S8 5 (cu k)) z3,h2.finger,h2.plain,h2.led,.nil,λ_ m=>mN m⟩ z3))))
 ·exact aa (iN q) (au (h s.heap n t (Cq a s.heap) ho h2 (om q)))
theorem Nc{each:Sem Unit}{Q:Unit->ag->Prop}(x:cR w.params [] o)(ho:s.heap.get? a=some o)(y:cR w.params l ob)(hb:s.heap.get? b=some ob)(ne:a≠b)
(h:∀h' o',dD a s.heap h'->h'.get? a=some o'->cR w.params l o'->Q () {s with heap:=h'}):ai (ah pw w) A (setMerge a b each) Q E s:=by
 refine jH y λeo no to c4 k1 k2=>?_;subst c4;unfold setMerge;refine fJ (by simpa using ne) (ae (lQ k1 k2 hb ?_));dsimp only;by_cases q:eo.isEmpty=true
 ·erw[iP q];obtain rfl:eo= #[]:=Array.isEmpty_iff.mp q;obtain rfl:l=[]:=zn.mp k1.size.symm;exact au (h s.heap o (Cq a s.heap) ho x)
 ·refine aa (iN q) (ae (afn x ho (k1.size▸k2.len) λh1 n1 t1 b1 g1 z2 ahq=>ae (lQ (s:={s with heap:=h1}) (es:= #[]) (l:=[]) rfl z2 g1 ?_)));have led:(t1.led&&to.led)= !w.params.followText "set-order":=by erw[z2.led];erw[k2.led];rw[Bool.and_self]
  have pl:(t1.plain&&to.plain)=true:=by erw[z2.plain];erw[k2.plain];rfl
  have hf:t1.fill=0:=by unfold FA;erw[z2.place];erw[z2.dummies];rfl
  have sz:=NL (k1.size▸k2.len);dsimp only;unfold a8.road;erw[hf];simp only[bne_self_eq_false,yW,if_false];by_cases hm:(t1.mask==to.mask&&to.dummies.isEmpty)=true
  ·exact aa (iP hm) (Bw (s:={s with heap:=h1}) g1 sz λh' c g=>h h' _ (b1.trans c) g ⟨_,_,_,rfl,k1,k2.place,k2.dummies,k2.mask,k2.room,z2.finger,pl,led,k2.up,k2.small⟩)
  ·erw[iN hm];dsimp only;have Uw:Array.filterMap (λi=>eo[i]?) (ax l.length).toArray=eo:=by
    apply zr.mp;exact aa (agn) (gZ (k1.size) (ago eo))
   refine aa (k1.Hf) (aa (G8 (k2.lay z2.mask)) (ae (fJ (c:=(S9 (Array.filterMap (λi=>eo[i]?) (ax l.length).toArray) !=S9 eo)=true) (by erw[Uw];simp) (au ?_))));dsimp only;exact aa (Uw) (Bw (s:={s with heap:=h1}) g1 sz λh' c g=>h h' _ (b1.trans c) g ⟨_,_,_,rfl,k1,rfl,rfl,z2.mask,k1.size▸ahq,z2.finger,pl,led,k2.up,k2.small⟩)
theorem Pm{others:List ao}{fl:Option ao}{Q:Array (Int×ac)->ag->Prop}(x:cR w.params l o)(ho:s.heap.get? a=some o)(h:∀d0 l',bS d0.toList l'->l'.Perm l->Q d0 s):ai (ah pw w) A (setWalkUnseen a others fl) Q E s:=by
 refine jH x λes n t c4 h1 h2=>?_;subst c4;unfold setWalkUnseen Cr;refine ae (lQ h1 h2 ho (ae (ae (oC (au (oP (c:=((ah pw w).w.params.followText "set-order" ||t.led&&t.plain||decide (es.size<=1))=true) ?_ (Ys (j5 es n t rfl h1 h2) ho h)))))));refine aa (h2.led) (aa (h2.plain) ?_);show(w.params.followText "set-order" || !w.params.followText "set-order" &&true||_)=true;cases w.params.followText "set-order" <;>rfl
theorem AD{Q:Nat->ag->Prop}(x:cR w.params l o)(ho:s.heap.get? a=some o)(h:Q l.length s):ai (ah pw w) A (Builtin.Frozenset.sizeOf a) Q E s:=by
 refine jH x λes n t c4 h1 h2=>?_;subst c4;exact ae (ae (lQ h1 h2 ho (au (au (h1.size▸h)))))
theorem cR.cls(x:cR P l o):o.cls=.type "set":=by refine uz x λ_ _ _ c4 _=>?_;subst c4;rfl
theorem GG{Q:ac->ag->Prop}(x:cR w.params l o)(ho:s.heap.get? a=some o)(h:Q (.type "set") s):ai (ah pw w) A (Builtin.Frozenset.baseOf a) Q E s:=ae (q9 ⟨_,ho,x.cls⟩ KG (au h))
theorem DI{Q:Bool->ag->Prop}(x:cR w.params l o)(ho:s.heap.get? a=some o)(h:Q true s):ai (ah pw w) A (Ta (.ref a)) Q E s:=ae (q9 ⟨_,ho,x.cls⟩ KG (au h))
def oR(m:List Nat)(acc:List Nat)(n:Nat):List Nat:=if n∈m then fy n acc else acc
theorem WB{acc:List Nat}{n:Nat}:x∈oR m acc n↔x∈acc\/(x=n/\x∈m):=by
 unfold oR;by_cases q:n∈m
 ·erw[iP q];rw[pi];exact⟨λh=>h.elim (λe=>.inr ⟨e,e▸q⟩) .inl,λh=>h.elim .inr λh=>.inl h.1⟩
 ·erw[iN q];exact⟨.inl,λh=>h.elim id λh=>absurd (h.1▸h.2) q⟩
theorem YJ{acc:List Nat}{n:Nat}(h:acc.Pairwise (· < ·)):(oR m acc n).Pairwise (· < ·):=by
 unfold oR;by_cases q:n∈m
 ·erw[iP q];exact sX h
 ·erw[iN q];exact h
theorem Nj{ns acc:List Nat}(h:acc.Pairwise (· < ·)):(ns.foldl (oR m) acc).Pairwise (· < ·)/\∀x,x∈ns.foldl (oR m) acc↔x∈acc\/(x∈ns/\x∈m):=by
 induction ns generalizing acc with
 |nil=>exact⟨h,λx=>⟨.inl,λh=>h.elim id λh=>mN h.1⟩⟩
 |cons n ns ih=>
  refine dU (ih (YJ (m:=m) (n:=n) h)) λa b=>⟨a,λx=>(b x).trans ?_⟩;rw[WB,or_assoc,<-or_and_right,jO]
theorem MM{ns:List Nat}(p:ns.Perm l)(up:l.Pairwise (· < ·)):ns.foldl (oR m) []=l.filter λx=>m.contains x:=ue (Nj .nil).1 (up.filter _) λx=>by
 rw[(Nj .nil).2,oE,kz,p.mem_iff];exact⟨λh=>h.elim (λh=>mN h) id,.inr⟩
theorem aez(up:l.Pairwise (· < ·))(um:m.Pairwise (· < ·)):(m.filter λx=>l.contains x)=l.filter λx=>m.contains x:=ue (um.filter _) (up.filter _) λx=>by
 rw[oE,oE,kz,kz];exact and_comm
theorem VV{la:List Nat}:decide (∃m∈la,(m:Int)=(n:Int))=decide (n∈la):=fA ⟨λh=>by refine aB h λm a b=>?_;exact FW b▸a,λm=>(aA n m rfl)⟩
theorem Mh{id:String}{la lw acc:List Nat}{asked walked r:ao}{n:Nat}{es:Array (Int×ac)}{t:a8}{ew:List (Int×ac)}{ns:List Nat}{Q:ag->Prop}(ya:cR w.params la oa)(k1:bS es.toList lw)(k2:eS w.params lw t)(n1:asked≠r)(n2:walked≠r)(sm:∀x∈ns,x<6)
(ga:s.heap.get? asked=some oa)(gw:s.heap.get? walked=some (dJ es n t))(he:bS ew ns)(gr:s.heap.get? r=some o)(xr:cR w.params acc o)(h:∀h' o',dD r s.heap h'->h'.get? r=some o'->cR w.params (ns.foldl (oR la) acc) o'->Q {s with heap:=h'}):
  ai (ah pw w) A (forIn ew Ct λp _=>do
    yV [p.2] do
     if(<-setFind asked p.2 p.1).isSome then
      let _<-FV r p.2 p.1
    Tb id walked n
    pure (uU Ct)) (λ_ s'=>Q s') E s:=by
 induction ns generalizing s acc ew o with
 |nil=>
  obtain rfl:ew=[]:=he;exact aa (yU) (au (h _ _ (Cq _ _) gr xr))
 |cons i ns ih=>
  obtain⟨tk,ew,rfl,he⟩:=he;have h6:=sm i (.head _);have un:∀{R:ForInStep PUnit->ag->Prop} {h':am},h'.get? walked=some (dJ es n t)->R (.yield Ct) {s with heap:=h'}->ai (ah pw w) A (Tb id walked n>>=λ_=>pure (uU Ct)) R E {s with heap:=h'}:=λ{R h'} g4 r=>by
   unfold Tb setEpoch;exact ae (ae (ae (lQ (s:={s with heap:=h'}) k1 k2 g4 (au (fJ (by simp) (au (au r)))))))
  have fin:=λ(h':am) (o':Obj) (b1:dD r s.heap h') (b2:h'.get? r=some o') (b3:cR w.params (oR la acc i) o')=>ih (s:={s with heap:=h'}) (λx m=>sm x (.tail _ m)) ((b1.2 asked n1).trans ga) ((b1.2 walked n2).trans gw) he b2 b3 λh2 o2 c=>h h2 o2 (b1.trans c);rw[wP];refine ae (ae (dO (ae (aa (show setFind asked (.int (i:Int) tk) (i:Int)=setFind asked (.int (i:Int) tk) (u3 (i:Int)) by erw[E1 h6];rfl) ?_))));erw[(show FV r (.int (i:Int) tk) (i:Int)=FV r (.int (i:Int) tk) (u3 (i:Int)) by refine aa (E1 h6) ?_;rfl)];refine Oi ya ga λq hq=>aa (hq.trans VV) ?_;by_cases c:i∈la
  ·exact aa (dT c) (ae (Jo xr gr h6 λh' o' b1 b2 b3=>au (un ((b1.2 walked n2).trans gw) (fin h' o' b1 b2 (by unfold oR;erw[iP c];exact b3)))))
  ·exact aa (dF c) (au (un gw (fin s.heap o (Cq _ _) gr (by unfold oR;erw[iN c];exact xr))))
end
end
section
variable{c:Cx}{x:Pt c}{l m:List Nat}{a:ao}{s:ag}{w:cO}{E:ac->ag->Prop}{d:Nat}{u:ac}{p:PV}
section
variable{y z:Pt c}{r acc:List Nat}{o ob oa:Obj}{t:a8}{n k:Nat}{b S I:ao}{h h':am}{es:Array (Int×ac)}{g:Nat}{A:Am d}{Ar:bh}{v:ac}{xs:List PV}{K:ao->Prop}
theorem Eh(sb:dD s.heap.objs.size (s.heap.push o) h'):∀b ob,s.heap.get? b=some ob->h'.get? b=some ob:=λb ob e=>(sb.2 b (gE (fB e))).trans (c5 _ e)
theorem Fq{Q:Nat->ag->Prop}(h1:bS es.toList l)(h2:eS w.params l t)(ho:s.heap.get? a=some (dJ es n t))(h:Q n s):ai (ah pw w) Ar (setEpoch a) Q E s:=ae (lQ h1 h2 ho (au h))
theorem aeB{id:String}{Q:ac->ag->Prop}(xa:cR w.params l oa)(xb:cR w.params m ob)(ga:s.heap.get? a=some oa)(gb:s.heap.get? b=some ob)
(h:∀h' o',(∀c oc,s.heap.get? c=some oc->h'.get? c=some oc)->h'.get? s.heap.objs.size=some o'->cR w.params (l.filter λx=>m.contains x) o'->Q (.ref s.heap.objs.size) {s with heap:=h'}):
  ai (ah pw w) Ar (Tc id a (.ref b)) Q E s:=by
 have na:=gE (fB ga);have nb:=gE (fB gb);have xa':=xa;have xb':=xb;refine jH xa' λea ka ta c4 Ux zA=>?_;subst c4;refine jH xb' λeb kb tb c4 Uy vg=>?_;subst c4;unfold Tc;by_cases e:a=b
 ·subst e;rw[ga] at gb;obtain⟨rfl,rfl,rfl⟩:ea=eb/\ka=kb/\ta=tb:=by unfold dJ at gb;simpa using gb
  obtain rfl:l=m:=by
   have q:=zA.place.symm.trans vg.place;injection q
  refine oP (beq_self_eq_true _) ?_;unfold Builtin.Frozenset.copyOf;refine ae (GG xa ga (ae (Ij λo xo hf=>ae (m:=za _) (au (ae (Nc (s:={s with heap:=s.heap.push o}) xo (ft _ hf) xa (c5 _ ga) (gV na) λh' o' sb g' x'=>au (h h' o' (Eh sb) g' ?_)))))));exact aa (Go.mpr λx m=>kz.mpr m) (x')
 ·refine fJ (by simpa using gV e) (ae (GG xa ga (ae (Ij λo xo hf=>ae (m:=za _) (au ?_)))));have vh:(s.heap.push o).get? a=some (dJ ea ka ta):=c5 _ ga;have zB:(s.heap.push o).get? b=some (dJ eb kb tb):=c5 _ gb;have Uz:(s.heap.push o).get? s.heap.objs.size=some o:=ft _ hf;refine ae (dO (ae (DI (s:={s with heap:=s.heap.push o}) xb zB (ae (m:=za _) (au (ae (AD (s:={s with heap:=s.heap.push o}) xb zB (ae (AD (s:={s with heap:=s.heap.push o}) xa vh ?_)))))))));by_cases q:m.length>l.length
  ·refine aa (iP q) (ae (Fq (s:={s with heap:=s.heap.push o}) Ux zA vh (ae (Pm (s:={s with heap:=s.heap.push o}) xa vh λd0 l' k1 k2=>ae (aa (by simp:d0=d0.toList.toArray) ?_)))));rw[Td];refine Mh (s:={s with heap:=s.heap.push o}) xb Ux zA nb na (λx mx=>zA.small x (k2.mem_iff.mp mx)) zB vh k1 Uz xo λh' o' sb g' x'=>au (au (h h' o' (Eh sb) g' ?_));rw[MM k2 zA.up] at x';exact x'
  ·refine aa (iN q) (ae (Fq (s:={s with heap:=s.heap.push o}) Uy vg zB (ae (Pm (s:={s with heap:=s.heap.push o}) xb zB λd0 l' k1 k2=>ae (aa (by simp:d0=d0.toList.toArray) ?_)))));rw[Td];refine Mh (s:={s with heap:=s.heap.push o}) xa Uy vg na nb (λx mx=>vg.small x (k2.mem_iff.mp mx)) vh zB k1 Uz xo λh' o' sb g' x'=>au (au (h h' o' (Eh sb) g' ?_));rw[MM k2 vg.up,aez zA.up vg.up] at x';exact x'
theorem aaM:zb table "set.__and__"=some Builtin.«frozenset.__and__»:=
 KH (id':="frozenset.__and__") ⋯ rfl (by decide+kernel) ⋯
theorem cR.rd(g:cR c.w.params l o)(e:y.f a=some o):Rd (.set l) y (.ref a):=by
 refine jH g λes n t c4 h1 h2=>?_;subst c4;exact .set e h1 h2
theorem Mz{Q:ac->ag->Prop}{tk:Nat}(K:∀v y,Le x y->Rd (.set l) y v->Q v y.s)(k:∀b o,x.s.heap.get? b=some o->h'.get? b=some o)(g:h'.get? x.s.heap.objs.size=some o)(xo:cR c.w.params l o):Q (.ref x.s.heap.objs.size) {x.s with heap:=h',toks:=tk}:=
 K _ ((x.grow h' tk k).add x.s.heap.objs.size o g (x.j0 (bf _))) (.add (x.cG k) g _ (eV _)) (xo.rd o5)
theorem aam(ra:Rd (.set l) x v)(rb:Rd (.set m) x u):aE A (mI .BitAnd v u) x (Rd (.set (l.filter λx=>m.contains x))):=kX ra λ{a es n t} ea a1 a2=>kX rb λ{b d0 n' t'} eb b1 b2 Q E K=>by
 have xa:cR c.w.params l (dJ es n t):=(j5 es n t rfl a1 a2);have xb:cR c.w.params m (dJ d0 n' t'):=(j5 d0 n' t' rfl b1 b2);have ga:=x.hs _ _ ea;have gb:=x.hs _ _ eb;refine wpAny_binaryOp_same (T:="set") (id:="set.__and__") ⟨_,ga,rfl⟩ (aA _ gb rfl) F.fills_set_and F.slot_set_and (uZ F.slot_set_and ⟨_,ga,rfl⟩ aaM ?_ (F.args_set_and_2 _ _));unfold Builtin.«frozenset.__and__»;refine ae (m:=Builtin.Frozenset.slot1 _ _) (au ?_);dsimp only;exact ae (aa (iN dy) (ae (DI xa ga (DI xb gb (aa (iN (dy:¬(!true)=true)) (ae (m:=za _) (au (ae (aeB xa xb ga gb λh' o' k g z=>au (cz _ rfl (λq=>nomatch q) (Mz K k g z)))))))))))
@[elab_as_elim] theorem O4{M:PV->Prop}(h:setOf (p::xs)=some l)(k:∀n l',n<6->setOf xs=some l'->fy n l'=l->M (.int (n:Int))):M p:=aj h λi h1 h2=>aL h2 λhi h3=>fH h3 λl' h4 h5=>eu h1 (by
 have e:=SK hi.1;exact e▸k i.toNat l' (by lia) h4 h5)
theorem Ni(h:setOf xs=some l):l.Pairwise (· < ·):=by
 induction xs generalizing l with
 |nil=>exact ay h▸ .nil|cons p xs ih=>exact O4 (M:=λ_=>_) h λn l' _ h1 e=>e▸sX (ih h1)
theorem aer(up:l.Pairwise (· < ·))(h:setOf (l.map λn:Nat=>PV.int n)=some r):r=l:=ue (Ni h) up λx=>by
 have go:∀{l r:List Nat},setOf (l.map λn:Nat=>PV.int n)=some r->(x∈r↔x∈l):=λ{l}=>by
  induction l with
  |nil=>exact λh=>ay h▸Iff.rfl|cons n l ih=>exact λh=>aL (h:(if 0<=(n:Int)/\(n:Int)<6 then _ else none)=some _) λ_ h=>fH h λl' h1 e=>e▸pi.trans ((or_congr Iff.rfl (ih h1)).trans jO.symm)
 exact go h
structure vH{c:Cx}(S:ao)(l:List Nat)(K:ao->Prop)(x:Pt c):Prop where
 fr:bV x S
 o:∃o,x.s.heap.get? S=some o/\cR c.w.params l o
 nK:¬K S
theorem cR.nc(g:cR c.w.params l o)(e:x.s.heap.get? S=some o)(o':Obj)(e':x.s.heap.get? S=some o'):¬(o'.cls=.type "code"/\∃vs,o'.data=.fields vs):=λk=>by
 obtain rfl:=ay (e.symm.trans e');rw[g.cls] at k;exact absurd k.1 (by decide)
theorem vH.step{K':ao->Prop}(F:vH S l K x)(st:br K g x y)(dn:∀b,K' b->K b\/x.s.heap.get? b=none):vH S l K' y:=by
 refine aB F.o λo e z=>⟨⟨?_,F.fr.h₀,F.fr.hi⟩,(aA o (st.e.keep S o e (cK F.fr.hi) F.nK) z),λk=>(dn S k).elim F.nK λq=>nS (q.symm.trans e)⟩;cases q:y.f S with
 |none=>rfl|some o=>exact(st.new S o q).elim (λq=>nS (F.fr.f.symm.trans q)) λq=>q.elim (λq=>nS (q.symm.trans e)) λq=>absurd q F.nK
theorem vH.add{tk:Nat}(F:vH S l K x)(i:dM d I g xs K x)(sb:dD S x.s.heap h')(e:h'.get? S=some o)(z:cR c.w.params m o):∃y:Pt c,y.s={x.s with heap:=h',toks:=tk}/\vH S m K y/\dM d I g xs K y/\∀g,br (λb=>b=S) g x y:=by
 refine aB F.o λo' e' z'=>?_;have w:∀g,Wr (λb=>b=S) g x (x.but (t:=tk) sb F.fr (z'.nc e')):=λ_=>.but rfl;exact(wc _ rfl ⟨(w 0).free F.fr,(aA o e z),F.nK⟩ (i.later ⟨(w 0).sub,λb o k q=>(sb.2 b λe=>F.nK (e▸k)).trans q,λb k=>(i.live b k).1.f,λ_ _ _ q=>q⟩) (λg=>(w g).st))
structure Fl{c:Cx}(d:Nat)(x y:Pt c)(S I g:Nat)(xs:List PV)(acc:List Nat)(K:ao->Prop):Prop where
 st:cH (λb=>x.s.heap.get? b=none) x y
 it:dM d I g xs K y
 fl:vH S acc K y
 nK:∀b,K b->x.s.heap.get? b=none
 nS:x.s.heap.get? S=none
 g1:x.s.gens.size<=g
 g2:g<=y.s.gens.size
theorem Fl.next{K':ao->Prop}{CU:List PV}(F:Fl d x y S I g xs acc K)(st:br K g y z)(i:dM d I g CU K' z)(dn:∀b,K' b->K b\/y.s.heap.get? b=none):Fl d x z S I g CU acc K':=
 ⟨br.trans F.st ((st.lower F.g1 F.g2).weaken F.nK),i,F.fl.step st dn,λb k=>(dn b k).elim (F.nK b) λn=>(F.st.e.back (cK (i.live b k).1.hi) n).elim id id,F.nS,F.g1,aq F.g2 st.e.di⟩
theorem Fl.add{tk:Nat}(F:Fl d x y S I g xs acc K)(sb:dD S y.s.heap h')(e:h'.get? S=some o)(z:cR c.w.params m o):∃w:Pt c,w.s={y.s with heap:=h',toks:=tk}/\Fl d x w S I g xs m K:=kP (F.fl.add (tk:=tk) F.it sb e z) λw e f i st=>⟨w,e,br.trans F.st ((st _).weaken λb q=>q▸F.nS),i,f,F.nK,F.nS,F.g1,by erw[e];exact F.g2⟩
theorem Fl.tok(F:Fl d x y S I g xs acc K)(tk:Nat):∃w:Pt c,w.s={y.s with toks:=tk}/\Fl d x w S I g xs acc K:=aB F.fl.o λo e z=>F.add (Cq S y.s.heap) e z
theorem Fl.done(F:Fl d x y S I g xs acc K)(st:br K g y z):∃w:Pt c,w.s=z.s/\Le x w/\Rd (.set acc) w (.ref S):=by
 have f:=F.fl.step (K':=λ_=>False) st λ_ q=>q.elim;exact aB f.o λo e xo=>(cz (z.add S o e (cK f.fr.hi)) rfl (.add (br.le (br.trans F.st ((st.lower F.g1 F.g2).weaken F.nK)) λ_ q=>q) e _ F.nS) (xo.rd o5))
theorem RI{A:bh}{tk:Tok}{i:Int}{Q:Int->ag->Prop}(h:Q (u3 i) {s with toks:=s.toks+1}):ai (ah pw w) A (pyHash (.int i tk)) Q E s:=(u4 pw w).pyHash (k:=i) (KF _ _ _ _) h
theorem ZQ{A:Am (d+1)}{R:mL->ag->Prop}(k:∀(w:Pt c),Le x w->∀r,Rd (.set r) w (.ref S)->(∀i,i∈r↔m.contains i=true)->r.Pairwise (· < ·)->R (.ok (.ret .none)) w.s):∀{xs:List PV} {l acc:List Nat} {y:Pt c} {K:ao->Prop},setOf xs=some l->acc.Pairwise (· < ·)->(∀i,i∈m↔i∈acc\/i∈l)->Fl d x y S I g xs acc K->eO (ah pw c.w) A.A (.builtin "set.update.loop" ⟨[.ref S,.ref I],[]⟩) R y.s:=by
 intro xs;induction xs with
 |nil=>
  intro l acc y K hs up hm F;obtain rfl:=ay hs;exact jP agq (aa (kD Te _) (ae (F.it.done A.in1 λz st=>cP (F.done st) λw e le r=>au (e▸k w le acc r (λi=>⟨λh=>kz.mpr ((hm i).mpr (.inl h)),λh=>((hm i).mp (qg h)).elim id λh=>mN h⟩) up))))
 |cons p xs ih=>
  intro l acc y K hs up hm F;refine jP agq (aa (kD Te _) (ae (F.it.next A.in1 λv K' z rd i st _ dn=>?_)));have F:=F.next st i dn;revert rd;refine O4 hs λn l' h6 h1 e rd=>bU rd λtk=>aB F.fl.o λo g1 xo=>ae (dO ?_);unfold setAdd;refine dO (ae (RI (Jo (s:={z.s with toks:=z.s.toks+1}) xo g1 h6 λh' o' sb g' x'=>au ⟨iJ Te _,?_⟩)));exact aB (F.add (tk:=z.s.toks+1) sb g' x') λw ew F=>ew▸ih h1 (sX up) (λi=>by rw[hm i,<-e,pi,pi,or_assoc,or_left_comm]) F
end
section
variable{A:bh}
theorem Y1(a:ac){Q₁:ac->ag->Prop}(h:Q₁ (.ref s.heap.objs.size) {s with heap:=s.heap.push {cls:=.type "set",dict:=none,data:=.set #[] 0 (.fresh 0 0 (!w.params.followText "set-order"))}}):
  eO (ah pw w) A (.call (.builtin "set.__new__") ⟨[.type "set",a],[]⟩) (wants Q₁ E) s:=by
 refine FG ?_;show ai _ A.in1 (do checkBuiltinCall "set.__new__" ⟨[.type "set",a],[]⟩;again (.builtin "set.__new__" ⟨[.type "set",a],[]⟩)) _ _ s;refine ae (Cf (PySem.F.newCall_set_1 a) (au ⟨iJ agr _,jP PySem.F.entry_set_new ?_⟩));erw[kD agr _];unfold Builtin.«set.__new__» Builtin.Frozenset.newClass;have ahr:=KG;obtain⟨hp,g,d,tk,os⟩:=s;dsimp only
 wp_walk
 refine oC (au ?_);dsimp only;simp only[newObj];exact ae (wpAny_alloc (au (au h)))
set_option maxHeartbeats 3200000 in
theorem Qf{u:ac}{Q:ac->ag->Prop}(h:∀o,cR w.params [] o->o.isFreed=false->ai (ah pw w) A.in1.in1 (KI "set.__init__" s.heap.objs.size u) (λ_ s'=>Q (.ref s.heap.objs.size) s') E {s with heap:=s.heap.push o}):
  ai (ah pw w) A (bC (.type "set") [u]) Q E s:=by
 refine km PySem.F.called_set.mro λc tl ahP=>?_;have ahQ:=PySem.F.called_set.made;have ahr:=PySem.F.called_set.sub;refine q8 (FG ?_);show ai _ _ (callAny (.type "set") _) _ _ _;refine au ⟨Code.quiet_builtin _ (by decide+kernel),jP PySem.F.entry_type_call ?_⟩;rw[bh.under_plain (weight_type_call_type "set" [u] []) rfl];have h1:=PySem.F.called_set.notType;have h2:=PySem.F.called_set.canCreate;have hct:=PySem.F.typeCall_set_1 u
 repeat (any_goals (first|assumption|wp_step))
 refine FQ (Y1 u (E:=E) (Q₁:=λobj bJ=>obj=.ref s.heap.objs.size/\bJ={s with heap:=s.heap.push {cls:=.type "set",dict:=none,data:=.set #[] 0 (.fresh 0 0 (!w.params.followText "set-order"))}}) ⟨rfl,rfl⟩) λr bJ hr=>?_;have hu:=h _ (Os (n:=0) (mv:=0)) rfl;generalize (!w.params.followText "set-order")=led at hr hu;cases r with
 |error e=>exact hr
 |ok fl=>
  cases fl with
  |ret obj=>
   obtain⟨rfl,rfl⟩:=hr;have hS:(s.heap.push {cls:=.type "set",dict:=none,data:=.set #[] 0 (.fresh 0 0 led)}).get? s.heap.objs.size=some {cls:=.type "set",dict:=none,data:=.set #[] 0 (.fresh 0 0 led)}:=ft _ rfl;have hT:Tf {s with heap:=s.heap.push {cls:=.type "set",dict:=none,data:=.set #[] 0 (.fresh 0 0 led)}} (.ref s.heap.objs.size) "set":=(aA _ hS rfl);have hli:=PySem.F.called_set.init.lookup;have hbi:=PySem.F.called_set.init.bind (.ref s.heap.objs.size)
   repeat (any_goals (first|assumption|wp_step))
   refine FQ (Tg (R:=wants (λr fQ=>r=.none/\Q (.ref s.heap.objs.size) fQ) E) PySem.F.called_set.init.plain PySem.F.entry_set_init (check_set_init_1 hT ?_)) λLM fQ LN=>?_
   ·unfold Builtin.«set.__init__» noKeywords;generalize hT:KI "set.__init__"=T at hu⊢
    wp_walk
    exact cQ hu (λ_ s' z=>au ⟨rfl,z⟩) λ_ _ z=>z
   ·cases LM with
    |error e=>exact LN
    |ok ahs=>
     cases ahs with
     |ret r=>
      obtain⟨rfl,hq⟩:=LN
      repeat (any_goals (first|assumption|wp_step))
     |_=>exact LN.elim
  |_=>exact hr.elim
end
section
variable{A:Am (d+3)}{xs:List PV}
theorem Js{T:String}(hs:setOf xs=some l)(hT:x.s.TypeIs (.ref a) T)(h1:isSubtype (.type T) (.type "set")=pure false)(h2:isSubtype (.type T) (.type "frozenset")=pure false)(h3:(iE T==iE "dict")=false)
(it:∀{A:Am d} {y:Pt c},Le x y->qE A (gk (.ref a)) y xs):aE A (bC (.type "set") [.ref a]) x (Rd (.set l)):=λQ E K=>Qf λo xo hf=>by
 have zC:Tf {x.s with heap:=x.s.heap.push o} (.ref a) T:=aB hT λoa e1 e2=>(aA oa (c5 _ e1) e2);have n:=x.uu (t:=x.s.toks) hf;unfold KI Ta;refine ae (ae (q9 zC h1 (q9 zC h2 (fJ dy (ae (FX zC (aa (h3) (fJ dy (ae (it (A:=(A.in1.in1).mono (iH d)) (y:=x.push o x.s.toks) (x.cG _) _ _ λy I K' g le i nw g1 g2=>ae (Th ?_)))))))))));have nS:=eV x.s.heap;have nK:∀b,K' b->x.s.heap.get? b=none:=λb k=>by
  cases e:x.s.heap.get? b with
  |none=>rfl|some ob=>nomatch (nw b k).symm.trans (c5 _ e:am.get? (x.s.heap.push o) b=some ob)
 have F:Fl d x y x.s.heap.objs.size I g xs [] K':=⟨cH.trans (x.cG (t:=x.s.toks) λ_ _=>c5 o).st le.st,i,⟨n.1.le le ⟨_,n.2⟩,(aA o (le.e.keep _ _ n.2 (cK n.1.hi)) xo),λk=>nomatch (nw _ k).symm.trans n.2⟩,nK,nS,g1,g2⟩;exact ZQ (m:=l) (A:=A.in1.in1) (R:=λr s'=>match r with
  |.ok (.ret v)=>ai (ah pw c.w) A.in1.in1.A (pure Ct) (λ_ s'=>Q (.ref x.s.heap.objs.size) s') E s'|.ok _=>False|.error e=>E e s') (λw le r rd hr up=>au (K _ w le (ue up (Ni hs) (λi=>(hr i).trans kz)▸rd))) hs .nil (λi=>⟨.inr,λh=>h.elim (λh=>mN h) id⟩) F
theorem ael(h:eG p setOf=some l)(r:Rd p x u):aE A (bC (.type "set") [u]) x (Rd (.set l)):=fZ h λhn h=>by
 induction p using dq with
 |tup xs=>exact iT r λ{a n vs} e rl z=>Js (xs:=xs) h (aA _ (x.hs _ _ e) rfl) PySem.F.sub_tuple_set PySem.F.sub_tuple_frozenset (by decide) λle=>R4 (.tup (le.sub _ _ e) (rl.mono le.sub) z)|list xs=>exact dY r λ{a n vs} e rl z=>Js (xs:=xs) h (aA _ (x.hs _ _ e) rfl) ags agt (by decide) λle=>Eg (.list (le.sub _ _ e) (rl.mono le.sub) z)|d5 lo hi=>exact qz r λ{a t u z} e z1 z2 z3=>Js h (aA _ (x.hs _ _ e) rfl) PySem.F.sub_range_set PySem.F.sub_range_frozenset (by decide) λle=>Hm (.d5 (le.sub _ _ e) z1 z2 z3)
 |set m=>
  refine kX r λ{a es n t} e he ht Q E K=>?_;obtain rfl:=aer ht.up (xL (h:qe m setOf=some l) (B6 _));have ga:=x.hs _ _ e;refine Qf λo xo hf=>?_;have xa:cR c.w.params l (dJ es n t):=(j5 es n t rfl he ht);have LO:(x.s.heap.push o).get? a=some (dJ es n t):=c5 _ ga;unfold KI;refine ae (DI (s:={x.s with heap:=x.s.heap.push o}) xa LO (oP rfl (ae (m:=za _) (au ?_))));unfold Builtin.Frozenset.merge;exact ae (Fq (s:={x.s with heap:=x.s.heap.push o}) he ht LO (Nc (s:={x.s with heap:=x.s.heap.push o}) xo (ft _ hf) xa LO (fO (fB ga)) λh' o' sb g' x'=>Mz K (Eh sb) g' x'))
 |inst=>exact absurd rfl hn|_=>exact nS h
end
theorem QQ:Manifest.owners.lookup (String.ofList ['r','o','t','a','r','e','t','i','_','t','e','s'].reverse)=some Manifest.sig_set_iterator:=⋯
theorem Sy:Slot "set_iterator" "__iter__" "set_iterator.__iter__":=
 .of (owner:="set_iterator") (n:="__iter__") (by rw[typeLookup_type,builtinLookup_eq_fast];rfl') (by decide+kernel) (by decide+kernel) (by decide+kernel)
  (by first|exact .inl (by decide+kernel)|exact .inr (by decide+kernel)) (by rw[isSubtype_type];rfl')
theorem aeI:zb table "set_iterator.__iter__"=some Builtin.«dict_keyiterator.__iter__»:=
 KH (id':="dict_keyiterator.__iter__") ⋯ (by first|rfl|decide+kernel|(unfold String.splitOn;simp+decide [String.splitOnAux])) (by decide+kernel) ⋯
theorem adZ(a:ac):argsOk "set_iterator.__iter__" ⟨[a],[]⟩:=by
 unfold argsOk;rw[signature?_of (id:="set_iterator.__iter__") (n:=['_','_','r','e','t','i','_','_']) (o:=['r','o','t','a','r','e','t','i','_','t','e','s']) ⋯ QQ];rfl'
theorem xF:Slot "set_iterator" "__next__" "set_iterator.__next__":=
 .of (owner:="set_iterator") (n:="__next__") (by rw[typeLookup_type,builtinLookup_eq_fast];rfl') (by decide+kernel) (by decide+kernel) (by decide+kernel)
  (by first|exact .inl (by decide+kernel)|exact .inr (by decide+kernel)) (by rw[isSubtype_type];rfl')
theorem Sr:zb table "set_iterator.__next__"=some Builtin.«set_iterator.__next__»:=Ti ⋯
theorem QS(a:ac):argsOk "set_iterator.__next__" ⟨[a],[]⟩:=by
 unfold argsOk;rw[signature?_of (id:="set_iterator.__next__") (n:=['_','_','t','x','e','n','_','_']) (o:=['r','o','t','a','r','e','t','i','_','t','e','s']) ⋯ QQ];rfl'
theorem Zu:zb table "set.__iter__"=some Builtin.«frozenset.__iter__»:=
 KH (id':="frozenset.__iter__") ⋯ rfl (by decide+kernel) ⋯
section
variable{A:bh}{o:Obj}{it:ao}{es:Array (Int×ac)}{ep k:Nat}{t:a8}
noncomputable def qG(w:cO)(a:ao)(ep:Nat)(es:Array (Int×ac)):Array (Int×ac):=if w.params.followText "set-order"=true then pickOrder (w.params.setOrder a ep) es else es
noncomputable def vP(w:cO)(l:List Nat)(k:Nat):Nat:=if w.params.followText "set-order"=true then 0 else if k=0 then 0 else l.getD (k-1) 0+1
theorem Χ:(pB 0 6).all (λl=>(ax (l.length+1)).all λk=>pU l.toArray (if k=0 then 0 else l.getD (k-1) 0+1)==k)=true:=⋯
theorem XN{Q:Option (ac×Nat)->ag->Prop}(h1:bS es.toList l)(h2:eS w.params l t)(ho:s.heap.get? a=some (dJ es ep t))(hk:k<=l.length)
(h:Q (((qG w a ep es)[k]?).map λe=>(e.2,vP w l (k+1))) s):ai (ah pw w) A (setNext a (vP w l k) k ep) Q E s:=by
 unfold qG vP at h;unfold setNext Cr vP;refine ae (lQ h1 h2 ho (ae (ae (oC (au ?_)))));cases hb:w.params.followText "set-order" with
 |true=>
  rw[hb] at h;refine aa (hb:(ah pw w).w.params.followText "set-order"=true) (oP rfl (fJ (by simp) ?_));unfold setWalk Cr;refine ae (ae (lQ h1 h2 ho (ae (ae (oC (au (oP hb (ae (oC (au (au h)))))))))))
 |false=>
  rw[hb] at h;refine aa (hb:(ah pw w).w.params.followText "set-order"=false) (fJ dy (fJ (c:=(!t.plain&&decide (es.size>1))=true) (by erw[h2.plain];exact dy) (ae (fJ (c:=(!t.led&& !es.isEmpty)=true) (by erw[h2.led];erw[hb];exact dy) (au ?_)))));simp only[yW,if_false] at h⊢;refine aa (h2.place) (aa (a5 (b7 (b7 Χ l h2.sub) k (dH (kA hk)))) ?_);by_cases c:k<l.length
  ·have e1:es[k]?=some (es[k]'(h1.size.symm▸c)):=tn _;rw[e1] at h;refine aa (e1) (aa (re) ?_);erw[jM c];simp only[Option.map_some,rg,if_false,wY] at h;rw[tA,jM c] at h;exact au h
  ·have e1:es[k]?=none:=Ki (h1.size▸cZ c);rw[e1] at h⊢;exact au h
def vO(w:cO)(l:List Nat)(h:am)(it a:ao)(ep k:Nat):Prop:=h.get? it=some {cls:=.type "set_iterator",data:=.fields #[c6 (vP w l k),c6 k,.ref a,c6 l.length,c6 ep]}
theorem Na(h:bS es.toList l):∃l',bS (qG w a ep es).toList l'/\l'.Perm l:=by
 unfold qG;by_cases q:w.params.followText "set-order"=true
 ·erw[iP q];exact h.perm (Qw _ es)
 ·erw[iN q];exact(aA l h (.refl _))
theorem GQ(h:bS es.toList l):(qG w a ep es).size=l.length:=aB (Na (w:=w) (a:=a) (ep:=ep) h) λl' k1 k2=>k1.size.trans k2.length_eq
theorem bS.at_{es:List (Int×ac)}(h:bS es l){e:Int×ac}(q:es[k]?=some e):∃(n:Nat) (t:Tok),l[k]?=some n/\e.2=.int (n:Int) t:=by
 induction l generalizing es k with
 |nil=>obtain rfl:es=[]:=h;exact nS q
 |cons n l ih=>
  obtain⟨tk,r,rfl,h⟩:=h;induction k using nq with
  |zero=>exact(dh n tk rfl (ay q▸rfl))|succ k=>exact ih h q
theorem N7{Q:ac->ag->Prop}(hit:vO w l s.heap it a ep k)(h1:bS es.toList l)(h2:eS w.params l t)(ho:s.heap.get? a=some (dJ es ep t))(hk:k<=l.length)
(h:ai (ah pw w) A (match((qG w a ep es)[k]?).map λe=>(e.2,vP w l (k+1)) with
   |some (x,next)=>do
    setField (.ref it) 0 (c6 next)
    setField (.ref it) 1 (c6 ((k:Int)+1))
    ret x
   |none=>do setField (.ref it) 2 .none;raiseNew (<-newExc (.type "StopIteration") [])) (λfin s'=> ∃v,fin=.done (.ret v)/\Q v s') E s):
  ai (ah pw w) A (Builtin.«set_iterator.__next__» ⟨[.ref it],[]⟩) (λfin s'=> ∃v,fin=.done (.ret v)/\Q v s') E s:=by
 unfold Builtin.«set_iterator.__next__»;refine ae (m:=slotArgs _ _ _) (au ?_);dsimp only;refine ae (wpAny_fieldsOf hit rfl ?_);dsimp only[c6];unfold setEntries;refine ae (ae (lQ h1 h2 ho (au (fJ (by erw[h1.size];simp) ?_))));exact ae (XN h1 h2 ho hk h)
theorem ad9{e:Int×ac}{Q:Option ac->ag->Prop}(hit:vO w l s.heap it a ep k)(h1:bS es.toList l)(h2:eS w.params l t)(ho:s.heap.get? a=some (dJ es ep t))(he:(qG w a ep es)[k]?=some e)
(h:∀h',vO w l h' it a ep (k+1)->dD it s.heap h'->Q (some e.2) {s with heap:=h'}):ai (ah pw w) A (gm (.ref it)) Q E s:=by
 have hk:k<=l.length:=GQ (w:=w) (a:=a) (ep:=ep) h1▸cZ λq=>nS ((Ki (cy q)).symm.trans he);have hT:s.TypeIs (.ref it) "set_iterator":=(aA _ hit rfl);unfold gm;refine ae (KJ (KA (name:=dw "__next__") hT xF
  (uZ xF hT Sr (N7 hit h1 h2 ho hk ?_) (QS _))))
 erw[he];dsimp only[Option.map_some];refine ae (Tj hit (by simp) λg1 e1 b1=>ae (Tj (s:={s with heap:=g1}) e1 (by simp) λg2 e2 b2=>au (aA _ rfl (au (h g2 ?_ (b1.trans b2))))));unfold vO;erw[e2];rfl
theorem aey{Q:Option ac->ag->Prop}(hh:A.handled=none)(hit:vO w l s.heap it a ep l.length)(h1:bS es.toList l)(h2:eS w.params l t)(ho:s.heap.get? a=some (dJ es ep t))
(h:∀h',am.ExtBut it s.heap h'->Q none {s with heap:=h'}):ai (ah pw w) A (gm (.ref it)) Q E s:=by
 have he:(qG w a ep es)[l.length]?=none:=Ki (aD (GQ h1));have hT:s.TypeIs (.ref it) "set_iterator":=(aA _ hit rfl);unfold gm;refine ae (KJ (KA (name:=dw "__next__") hT xF
  (uZ xF hT Sr (N7 hit h1 h2 ho (bf _) ?_) (QS _))))
 erw[he];dsimp only[Option.map_none];refine ae (Tj hit (by simp) λg1 e1 b1=>ae ?_);simp only[newExc,newTuple];refine ae (uW ?_ (by size_fits));refine ae (m:=KM _ _) (Cf (a:=oj) (by first|rfl|(simp only[KM];rfl)) (uW ?_ (by size_fits)));unfold raiseNew;refine ae (wpAny_handled (aa (hh:A.in1.handled=none) (ae (au (wpAny_throw ?_)))));refine ae (q9 (T:="StopIteration") (b:=true) (aA _ (ft _ rfl) rfl) isSubtype_stop ?_);exact au (h _ (((dD.extBut b1).push _).push _))
theorem Walks.set{I:ao}(hh:A.handled=none)(jQ:a≠I)(h1:bS es.toList l)(h2:eS w.params l t):
  Walks pw w A I [I,a] [I] l.length (λi v=> ∃e,(qG w a ep es)[i]?=some e/\e.2=v) (λi h=>vO w l h I a ep i/\h.get? a=some (dJ es ep t)) where
 sub:=λb hb=>by simp at hb;simp[hb]
 frame:=λ_ _ _ st hk=>⟨hk I (by simp) _ st.1,hk a (by simp) _ st.2⟩
 item:=λi s Q E hi st hQ=>by
  have eZ:i<(qG w a ep es).size:=(GQ h1).symm▸hi;refine ad9 st.1 h1 h2 st.2 (tn eZ) λh' aht mZ=>?_;exact hQ _ h' s.toks (aA _ (tn eZ) rfl) ⟨aht,by erw[mZ.2 a jQ];exact st.2⟩ λb o hb e=>mZ.extBut b o (λh=>hb (by simp[h])) e
 done:=λs Q E st hQ=>aey hh st.1 h1 h2 st.2 λh' he'=>hQ h' s.toks λb o hb e=>he' b o (λh=>hb (by simp[h])) e
 self:=λ_ s Q E st hQ=>by
  have hT:s.TypeIs (.ref I) "set_iterator":=(aA _ st.1 rfl);refine wpAny_pyIter_slot hT Sy (uZ Sy hT aeI ?_ (adZ _));show ai _ _ (ret (.ref I)) _ _ s;exact au ⟨_,rfl,"set_iterator",_,hT,xF.lookup,hQ⟩
theorem VD{Q:ac->ag->Prop}(h1:bS es.toList l)(h2:eS w.params l t)(ho:s.heap.get? a=some (dJ es ep t))
(h:Q (.ref s.heap.objs.size) {s with heap:=s.heap.push {cls:=.type "set_iterator",data:=.fields #[c6 0,c6 0,.ref a,c6 l.length,c6 ep]}}):ai (ah pw w) A (gk (.ref a)) Q E s:=by
 have hT:s.TypeIs (.ref a) "set":=(aA _ ho rfl);refine wpAny_pyIter_slot hT agu (uZ agu hT Zu ?_ (PySem.F.args_set_iter_1 _));unfold Builtin.«frozenset.__iter__»;refine ae (m:=Builtin.Frozenset.slot0 _ _) (au (ae (AD (j5 es ep t rfl h1 h2) ho ?_)));unfold setDrawn Cr;refine ae (ae (lQ h1 h2 ho (ae (ae (oC (au (au (fJ (c:=(!w.params.followText "set-order" &&(!t.plain&&decide (es.size>1)))=true) (by erw[h2.plain];simp) (ae (au (ae (Fq h1 h2 ho ?_))))))))))));exact ae (uW (au ⟨_,rfl,"set_iterator",_,(aA _ (ft _ rfl) rfl),xF.lookup,h⟩))
end
section
variable{A:Am d}{v:ac}{β:Type}{k:List PV->Option β}{r:β}
theorem MT(rd:Rd (.set l) x v):∃l':List Nat,l'.Perm l/\∀{A:Am d} {x':Pt c},Sub x.f x'.f->uH A (gk v) x' (l'.map λn:Nat=>PV.int n):=kX rd λ{a es ep t} h0 he ht=>by
 refine aB (Na (w:=c.w) (a:=a) (ep:=ep) he) λl' k1 k2=>(aA l' k2 (λ{A x} sub=>?_));have h:=sub _ _ h0;have jQ:a≠x.s.heap.objs.size:=gE (fB (x.hs _ _ h));refine Fs (o:={cls:=.type "set_iterator",data:=.fields #[c6 0,c6 0,.ref a,c6 l.length,c6 ep]}) (T:="set_iterator") (λA=>Walks.set (I:=x.s.heap.objs.size) (ep:=ep) A.ok.handled jQ he ht) (by rw[bi,k2.length_eq]) (λi v p e1 e2=>?_) (λb hb=>?_) (λi h st=>(aA _ st.1 rfl)) (by decide) (by decide) ⟨?_,c5 _ (x.hs _ _ h)⟩ (λQ E q=>VD he ht (x.hs _ _ h) q)
 ·refine aB e1 λe e3 bZ=>?_;subst bZ;rw[<-agc] at e3;refine eH (k1.at_ e3) λn tk e4 e5=>?_;rw[oy,e4] at e2;exact ay e2▸e5▸ .int
 ·exact(bw hb).imp id λq=>⟨_,(af x.f (cY q)).trans h⟩
 ·unfold vO vP;erw[iP rfl];rw[ite_self];exact ft _ rfl
theorem PU(rd:Rd (.set l) x v):∃l':List Nat,l'.Perm l/\∀{A:Am d} {x':Pt c},Sub x.f x'.f->qE A (gk v) x' (l'.map λn:Nat=>PV.int n):=aB (MT (d:=d) rd) λl' p g=>(aA l' p (λs=>(g s).i))
theorem YV(h:over p k=some r)(hn:p.pJ=false)(rd:Rd p x v):∃xs,k xs=some r/\qE A (gk v) x xs:=by
 induction p using dq with
 |tup l=>exact⟨l,h,R4 rd⟩|list l=>exact⟨l,h,Eg rd⟩|d5=>exact(aA _ h (Hm rd))
 |set l=>
  exact aB (PU (d:=d) rd) λl' p g=>(aA _ (xL (h:qe l k=some r) p) (g λ_ _ e=>e))
 |inst=>exact tf hn|_=>exact nS h
end
end
section
variable{c:Cx}{x y:Pt c}{d g:Nat}{v u:ac}{a S:ao}{xs:List PV}{O:aK}
section
set_option tactic.hygienic true
theorem Rz:zb table "frozenset.intersection.loop"=some Builtin.«frozenset.intersection.loop»:=Ti ⋯
theorem EB:plainId "frozenset.intersection.loop"=true:=by decide+kernel
theorem aeJ:zb table "set.intersection"=some Builtin.«frozenset.intersection»:=
 KH (id':="frozenset.intersection") ⋯ rfl (by decide+kernel) ⋯
section
variable{l m acc:List Nat}{I:ao}{dW:List Int}{n:Nat}{es:Array (Int×ac)}{t:a8}{K:ao->Prop}{ls:List PV}
theorem PE(h:qF ls=some dW):ls=dW.map PV.int:=by
 induction ls generalizing dW with
 |nil=>refine gZ (ay h) ?_;rfl
 |cons p ls ih=>
  unfold qF at h ih;rw[qY] at h;refine aj h λi h1 h=>aj h λr h2 h=>?_;obtain rfl:=ay h;exact eu h1 (af _ (ih h2))
theorem acF(ul:l.Pairwise (· < ·)):∀{m:List Nat},m.Pairwise (· < ·)->(∀x∈m,x∈l)->m.Sublist l:=by
 induction l with
 |nil=>
  intro m _ h;induction m using bO with
  |nil=>exact .slnil|cons a m=>exact mN (h a (.head _))
 |cons a l ih=>
  intro m um h;have ul:=lO ul;have rest:∀{m:List Nat},m.Pairwise (· < ·)->(∀x∈m,x∈a::l)->(∀x∈m,a<x)->m.Sublist l:=λum h g=>ih ul.2 um λx mx=>(bw (h x mx)).elim (λq=>absurd (g x mx) (q▸cV _)) id;induction m using bO with
  |nil=>exact Tk _
  |cons b m=>
   have UA:=lO um;by_cases e:b=a
   ·subst e;exact .cons_cons _ (rest UA.2 (λx mx=>h x (.tail _ mx)) UA.1)
   ·have lb:=ul.1 b ((bw (h b (.head _))).resolve_left e);exact .cons _ (rest um h λx mx=>ba lb (DY um mx))
theorem Yb{r:List Nat}(up:l.Pairwise (· < ·))(ur:r.Pairwise (· < ·))(h:∀x,x∈r↔x∈l/\(x:Int)∈dW):r=l.filter λx:Nat=>dW.contains (x:Int):=
 ue ur (up.filter _) λx=>by rw[h x,oE,kz]
theorem afP{A:Am (d+1)}{R:mL->ag->Prop}{ep:Nat}(ea:x.f a=some (dJ es ep t))(a1:bS es.toList l)(a2:eS c.w.params l t)(k:∀(w:Pt c),Le x w->∀r,Rd (.set r) w (.ref S)->r.Pairwise (· < ·)->(∀i,i∈r↔i∈l/\(i:Int)∈dW)->R (.ok (.ret .none)) w.s):
  ∀{js:List Int} {acc:List Nat} {y:Pt c} {K:ao->Prop},acc.Pairwise (· < ·)->(∀i:Nat,i∈l/\(i:Int)∈dW↔i∈acc\/(i∈l/\(i:Int)∈js))->Fl d x y S I g (js.map PV.int) acc K->eO (ah pw c.w) A.A (.builtin "frozenset.intersection.loop" ⟨[.ref a,.ref I,.ref S],[]⟩) R y.s:=by
 intro js;have xa:cR c.w.params l (dJ es ep t):=(j5 es ep t rfl a1 a2);induction js with
 |nil=>
  intro acc y K up hm F;exact jP Rz (aa (kD EB _) (ae (F.it.done A.in1 λz st=>cP (F.done st) λw e le r=>au (e▸k w le acc r up λi=>⟨λh=>(hm i).mpr (.inl h),λh=>((hm i).mp h).elim id λh=>mN h.2⟩))))
 |cons j js ih=>
  intro acc y K up hm F;refine jP Rz (aa (kD EB _) (ae (F.it.next A.in1 λv K' z rd i st _ dn=>?_)));have F1:=F.next st i dn;have sub:∀{z:Pt c},cH (λb=>x.s.heap.get? b=none) x z->z.s.heap.get? a=some (dJ es ep t):=λl=>_root_.Mine.Pt.hs _ _ _ (l.sub _ _ ea);refine bU rd λtk=>ae (dO (RI (ae (dO (Oi (s:={z.s with toks:=z.s.toks+1}) xa (sub F1.st) λq hq=>?_)))));by_cases c:∃n∈l,(n:Int)=j
  ·obtain⟨n,hn,rfl⟩:=c;have CV:∀i:Nat,i∈l/\(i:Int)∈dW↔i∈fy n acc\/(i∈l/\(i:Int)∈js):=λi=>(hm i).trans ⟨λh=>h.elim (λh=>.inl (pi.mpr (.inr h))) λh=>(bw h.2).elim (λe=>.inl (pi.mpr (.inl (FW e)))) λq=>.inr ⟨h.1,q⟩,λh=>h.elim (λh=>(pi.mp h).elim (λe=>.inr ⟨e▸hn,e▸ .head _⟩) .inl) λh=>.inr ⟨h.1,.tail _ h.2⟩⟩;refine aB F1.fl.o λo g1 xo=>oP (hq.trans (dT (aA n hn rfl))) (ae (dO (Jo (s:={z.s with toks:=z.s.toks+1}) xo g1 (a2.small n hn) λh' o' sb g' x'=>aB (F1.add (tk:=z.s.toks+1) sb g' x') λw ew F2=>?_)));have gw:h'.get? a=some (dJ es ep t):=af (λs:ag=>s.heap.get? a) ew▸sub F2.st;refine ae (AD (s:={z.s with heap:=h',toks:=z.s.toks+1}) x' g' (ae (AD (s:={z.s with heap:=h',toks:=z.s.toks+1}) xa gw ?_)));by_cases cl:l.length<=(fy n acc).length
   ·have e:=(acF a2.up (sX up) λi h=>((CV i).mpr (.inl h)).1).eq_of_length_le cl;exact cP (F2.done .refl) λw' e' le r=>oP cl (ae (uV (au (ew▸e'▸k w' le _ r (sX up) λi=>⟨λh=>(CV i).mpr (.inl h),λh=>e.symm▸h.1⟩))))
   ·exact fJ cl (au ⟨iJ EB _,ew▸ih (sX up) CV F2⟩)
  ·obtain⟨w,ew,F2⟩:=F1.tok (z.s.toks+1);exact fJ (by erw[hq];erw[dF c];exact dy) (au ⟨iJ EB _,ew▸ih up (λi=>(hm i).trans ⟨λh=>h.imp id λh=>⟨h.1,(bw h.2).elim (λe=>absurd ⟨i,h.1,e⟩ c) id⟩,λh=>h.imp id λh=>⟨h.1,.tail _ h.2⟩⟩) F2⟩)
theorem afF{A:Am (d+3)}(hv:qF ls=some dW)(ra:Rd (.set l) x v)(rb:Rd (.list ls) x u):aE A (bC (.builtin "set.intersection") [v,u]) x (Rd (.set (l.filter λx:Nat=>dW.contains (x:Int)))):=by
 have LP:=rb;revert LP;obtain rfl:=PE hv;refine kX ra λ{a es n t} ea a1 a2=>dY rb λ{b m vs} eb _ _ LP Q E K=>?_;have xa:cR c.w.params l (dJ es n t):=(j5 es n t rfl a1 a2);have ga:=x.hs _ _ ea;refine uZ agv (aA _ ga rfl) aeJ ?_ (PySem.F.args_set_intersection_2 _ _);unfold Builtin.«frozenset.intersection»;refine ae (m:=Builtin.Frozenset.manyOthers _ _) (au (fJ dy (ae ?_)));rw[wP];refine ae (ae (dO (ae (m:=za _) (au ?_))));unfold Tc;refine fJ (λq=>by
  cases a5 q;exact absurd (af uX (ay (ea.symm.trans eb))) (by show ¬(iE "set"=iE "list");decide)) (ae (GG xa ga (ae (Ij λo xo hf=>ae (m:=za _) (au (ae (dO (ae ?_))))))))
 have n:=x.uu (t:=x.s.toks) hf;have zC:Tf {x.s with heap:=x.s.heap.push o} (.ref b) "list":=(aA _ (c5 _ (x.hs _ _ eb)) rfl);unfold Ta;refine ae (q9 zC ags (q9 zC agt (fJ dy (ae (Eg (A:=(A.in1).mono (e:=d) (by lia)) (x:=x.push o x.s.toks) LP _ _ λy I K' g le i nw g1 g2=>ae (Th ?_))))));have nS:=eV x.s.heap;have nK:∀b,K' b->x.s.heap.get? b=none:=λb k=>by
  cases e:x.s.heap.get? b with
  |none=>rfl|some ob=>nomatch (nw b k).symm.trans (c5 _ e:am.get? (x.s.heap.push o) b=some ob)
 have F:Fl d x y x.s.heap.objs.size I g (dW.map PV.int) [] K':=⟨cH.trans (x.cG (t:=x.s.toks) λ_ _=>c5 o).st le.st,i,⟨n.1.le le ⟨_,n.2⟩,(aA o (le.e.keep _ _ n.2 (cK n.1.hi)) xo),λk=>nomatch (nw _ k).symm.trans n.2⟩,nK,nS,g1,g2⟩;refine afP (A:=(A.in1).mono (e:=d+1) (by lia)) ea a1 a2 (λw le r rd up hr=>?_) .nil (λi=>⟨.inr,λh=>h.elim (λh=>mN h) id⟩) F;refine au (au (au ?_));dsimp only;exact aa (yU) (au (au (aA _ rfl (K _ w le (Yb a2.up up hr▸rd)))))
theorem ZW{A:Am d}{pl:Sem Bool}{Q:ac×List ac->ag->Prop}{E:ac->ag->Prop}(r:Rd (.set l) x v)(h:Q (.builtin "set.intersection",[v]) x.s):ai (ah pw c.w) A.A (Ce v "intersection" pl) Q E x.s:=by
 revert h;refine kX r λ{a es n t} ea _ _ h=>getMethod_builtin (aA _ (x.hs _ _ ea) rfl) PySem.F.plainAttrs_set agv PySem.F.type_set_intersection (λb e=>?_) h;injection e with e
 exact e▸(aA _ (x.hs _ _ ea) rfl)
end
end
structure Bx{c:Cx}(x y:Pt c)(S:ao)(φ:Obj->Prop):Prop where
 st:cH (λb=>x.s.heap.get? b=none) x y
 o:∃o,y.s.heap.get? S=some o/\φ o
 fr:bV y S
 nS:x.s.heap.get? S=none
structure BI{c:Cx}(d:Nat)(x y:Pt c)(S I g:Nat)(xs:List PV)(K:ao->Prop)(φ:Obj->Prop):Prop where
 b:Bx x y S φ
 it:dM d I g xs K y
 nK:∀b,K b->x.s.heap.get? b=none
 dj:¬K S
 g1:x.s.gens.size<=g
 g2:g<=y.s.gens.size
def ed(us:List ac)(o:Obj):Prop:=∃n,o=bu us n
section
variable{z w:Pt c}{I:ao}{φ ψ:Obj->Prop}{K K':ao->Prop}{CU:List PV}{h':am}{o:Obj}{tk:Nat}{us:List ac}{ps:List PV}
theorem Bx.new(hf:o.isFreed=false)(p:φ o):Bx x (x.push o tk) x.s.heap.objs.size φ:=⟨(x.cG _).st,(aA o (ft _ hf) p),(Pt.uu hf).1,eV _⟩
theorem Bx.le(b:Bx x y S φ)(l:Le y z):Bx x z S φ:=aB b.o λo e p=>⟨cH.trans b.st l.st,(aA o (l.e.keep S o e (cK b.fr.hi)) p),b.fr.le l ⟨o,e⟩,b.nS⟩
theorem Bx.but(b:Bx x y S φ)(nc:∀o,φ o->o.cls≠ .type "code")(sb:dD S y.s.heap h')(e:h'.get? S=some o)(p:ψ o):∃w:Pt c,w.s={y.s with heap:=h',toks:=tk}/\w.f=y.f/\Bx x w S ψ/\∀g,br (λb=>b=S) g y w:=by
 refine aB b.o λo' e' p'=>?_;have n:∀o,y.s.heap.get? S=some o->¬(o.cls=.type "code"/\∃vs,o.data=.fields vs):=λo k q=>nc o (ay (e'.symm.trans k)▸p') q.1;have w:∀g,Wr (λb=>b=S) g y (y.but (t:=tk) sb b.fr n):=λ_=>.but rfl;exact(wc (y.but (t:=tk) sb b.fr n) rfl rfl ⟨br.trans b.st ((w _).st.weaken λq k=>k▸b.nS),(aA o e p),(w 0).free b.fr,b.nS⟩ (λg=>(w g).st))
theorem Bx.to(b:Bx x y S φ):Le x y:=br.le b.st λ_ q=>q
theorem BI.next(F:BI d x y S I g xs K φ)(st:br K g y z)(i:dM d I g CU K' z)(dn:∀b,K' b->K b\/y.s.heap.get? b=none):BI d x z S I g CU K' φ:=by
 refine aB F.b.o λo e p=>?_;have nf:z.f S=none:=by
  cases q:z.f S with
  |none=>rfl|some o'=>exact(st.new S o' q).elim (λq=>nS (F.b.fr.f.symm.trans q)) λq=>q.elim (λq=>nS (q.symm.trans e)) λq=>absurd q F.dj
 exact⟨⟨br.trans F.b.st ((st.lower F.g1 F.g2).weaken F.nK),(aA o (st.e.keep S o e (cK F.b.fr.hi) F.dj) p),⟨nf,F.b.fr.h₀,F.b.fr.hi⟩,F.b.nS⟩,i,λb k=>(dn b k).elim (F.nK b) λn=>(F.b.st.e.back (cK (i.live b k).1.hi) n).elim id id,λk=>(dn S k).elim F.dj λq=>nS (q.symm.trans e),F.g1,aq F.g2 st.e.di⟩
theorem BI.end_(F:BI d x y S I g xs K φ)(st:br K g y z):Bx x z S φ:=by
 refine aB F.b.o λo e p=>?_;have nf:z.f S=none:=by
  cases q:z.f S with
  |none=>rfl|some o'=>exact(st.new S o' q).elim (λq=>nS (F.b.fr.f.symm.trans q)) λq=>q.elim (λq=>nS (q.symm.trans e)) λq=>absurd q F.dj
 exact⟨br.trans F.b.st ((st.lower F.g1 F.g2).weaken F.nK),(aA o (st.e.keep S o e (cK F.b.fr.hi) F.dj) p),⟨nf,F.b.fr.h₀,F.b.fr.hi⟩,F.b.nS⟩
theorem BI.le(F:BI d x y S I g xs K φ)(l:Le y z):BI d x z S I g xs K φ:=⟨F.b.le l,F.it.later (cH.later (W:=λ_=>False) l.st F.it.live λ_ _=>id),F.nK,F.dj,F.g1,aq F.g2 l.e.di⟩
theorem BI.but(F:BI d x y S I g xs K φ)(nc:∀o,φ o->o.cls≠ .type "code")(sb:dD S y.s.heap h')(e:h'.get? S=some o)(p:ψ o):∃w:Pt c,w.s={y.s with heap:=h',toks:=tk}/\w.f=y.f/\BI d x w S I g xs K ψ:=by
 refine kP (F.b.but (tk:=tk) nc sb e p) λw e1 e2 b st=>⟨w,e1,e2,b,F.it.later (cH.later (st _) F.it.live λb k q=>F.dj (q▸k)),F.nK,F.dj,F.g1,?_⟩;exact aa (e1) (F.g2)
theorem BI.mk'(b:Bx x y S φ)(l:Le y z)(i:dM d I g xs K z)(nw:∀b,K b->y.s.heap.get? b=none)(g1:y.s.gens.size<=g)(g2:g<=z.s.gens.size):BI d x z S I g xs K φ:=aB b.o λo e p=>⟨b.le l,i,λq k=>(b.st.e.back (cK (i.live q k).1.hi) (nw q k)).elim id id,λk=>nS ((nw S k).symm.trans e),aq b.st.e.di g1,g2⟩
theorem ed.nc(o:Obj)(h:ed us o):o.cls≠ .type "code":=by
 obtain⟨n,rfl⟩:=h;show(iE "list")≠iE "code";decide
theorem Bx.rd(b:Bx x y S (ed us))(r:bt ps y us)(hz:ps.length<=az):∃w:Pt c,w.s=y.s/\Le x w/\Rd (.list ps) w (.ref S):=by
 refine bE λgG hG=>?_;obtain⟨o,e,n,rfl⟩:=b.o;exact hG ((cz (y.add S _ e (cK b.fr.hi)) rfl (.add b.to e _ b.nS) (.list o5 (r.mono Pt.Bu) hz)))
end
section
variable{A:Am d}{l:List PV}{i:Int}{z r:Str}
theorem Yj(dW:List Int)(j:Nat)(h:j<=dW.length):preSum (λi=>dW.getD i 0) j=(dW.take j).sum:=by
 induction j with
 |zero=>rfl
 |succ j ih=>
  unfold preSum;refine aa (ih (cy h)) (aa (List.take_succ_eq_append_getElem h) (aa (List.sum_append) (aa (tA) ?_)));erw[jM h];exact af _ (uS _).symm
theorem UX(h:qw l=some i)(r:Rd (.list l) x v):aE A (bC (.builtin "sum") [v]) x (Rd (.int i)):=fH h λdW h1 h2=>by
 subst h2;obtain rfl:=PE h1;refine dY r λ{a n vs} e rl hz Q E K=>?_;have hl:x.s.heap.IsList a vs.toArray:=kQ e;have hn:vs.length=dW.length:=rl.length.trans (bi _);have la:=fB (x.hs _ _ e);refine call_sum_walkG (wpAny_pyIter_list hl ⟨_,_,_,_,_,_,λi=>dW.getD i 0,rfl,Walks.list (A:=A.A.in1) A.ok.handled x.s.heap.objs.size a (gE la) vs.toArray,⟨(cz _ (ft _ rfl) rfl rfl),hl.push _⟩,λb hb=>?_,λi v e=>?_,λh' tk t' k=>?_⟩)
 ·rw[oA];exact(bw hb).elim (λe=>e▸i5 _) λhb=>cY hb▸KN la
 ·have e':vs[i]?=some v:=re.symm.trans e;have hi:i<dW.length:=hn▸(zq.mp e').1;refine aB (rl.get (i:=i) (p:=.int dW[i]) (by erw[oy];erw[jM hi];rfl)) λu e1 e2=>?_;obtain rfl:=ay (e'.symm.trans e1);exact bU e2 λtk=>⟨tk,by show qV dW[i] tk=qV (dW.getD i 0) tk;erw[tA];erw[jM hi];rfl⟩
 ·erw[(show preSum (λi=>dW.getD i 0) vs.toArray.size=dW.sum by refine aa (i4) ?_;refine aa (hn) ?_;refine aa (Yj dW _ (bf _)) ?_;refine aa (Tl) ?_;rfl)];exact K _ (x.grow h' tk λb o q=>k b o (λm=>gE (fB q) (cY m)) (c5 _ q)) (x.cG _) .int
theorem q_:∀ts:List Str,DA z ts=kr.join z ts:=by
 intro ts;induction ts with
 |nil=>rfl
 |cons y ts ih=>induction ts using bO with
  |nil=>rfl|cons t ts=>exact af (λr=>y++z++r) ih
theorem aaI{f:Fz}:∀{l:List PV} {ts:List Str} {vs:List ac},Ih l=some ts->aR c f vs l->∃q:List (Str×Tok),strValues q=vs/\q.map (·.1)=ts:=by
 intro l;induction l with
 |nil=>exact λh r=>(aA ([]) (i0 r rfl) (ay h))
 |cons p l ih=>
  intro ts vs h r;unfold Ih at h ih;rw[qY] at h;refine aj h λy h1 h=>aj h λys h2 h=>?_;obtain rfl:=ay h;exact eB (m:=λvs=> ∃q:List (Str×Tok),strValues q=vs/\q.map (·.1)=y::ys) r λ{v us} r1 r2=>by
   refine aB (ih h2 r2) λq bY bZ=>?_;subst bY;subst bZ;exact AZ (m:=λp=>aV c f v p->_) h1 (λr1=>je r1 λt=>(aA ((y,t)::q) rfl rfl)) r1
theorem Μ{l:List PV}(h:J9 z l=some r)(rz:Rd (.str z) x v)(rl:Rd (.list l) x u):aE A (bC (.builtin "str.join") [v,u]) x (Rd (.str r)):=aj h λts h1 h2=>aL h2 λhz h3=>je rz λt=>dY rl λ{a n vs} e r hl Q E K=>by
 refine bE λgG hG=>?_;obtain rfl:=ay h3;refine aB (aaI h1 r) λq bY bZ=>?_;subst bY;subst bZ;have hs:∀(ts:List Str) (a:Nat),ts.foldl (λa p=>a+p.length+z.length) a=a+(ts.map λx=>x.length+z.length).sum:=λts=>by
  induction ts with
  |nil=>exact λa=>rfl|cons y ts ih=>exact λa=>by rw[Tm,ih,oB,List.sum_cons,fC,fC,fC]
 have xh:JoinOk z (q.map (·.1))=true:=by
  unfold JoinOk Builtin.Str.tooLong;rw[tu,decide_eq_false_iff_not];show ¬(q.map (·.1)).toArray.foldl (λa p=>a+p.length+z.length) 0>qW;rw[List.foldl_toArray' (h:=rfl),hs,f5];exact gJ (aq hz (by erw[KB];decide))
 unfold JoinOk at xh;rw[tu] at xh;refine hG (Fv PySem.F.slot_str_join (typeIs_str _ _ _) PySem.F.entry_str_join (PySem.F.args_str_join_2 _ _) (meets_str_join_list z t a q xh) ⟨kQ e,post_join q ⟨joinFit_length xh,λt' k=>?_⟩⟩);exact aa (show Txt.join z (q.map (·.1))=DA z (q.map (·.1)) from(StrLaws.glued_eq_join ..).trans (q_ _).symm) (jC K .str)
end
theorem PT:zb table "list.__eq__.loop"=some Builtin.«list.__eq__.loop»:=Ti ⋯
theorem xR:plainId "list.__eq__.loop"=true:=by decide+kernel
def I'(gt:Bool)(l m:List PV):Option Bool:=if gt=true then e7.pD m l else e7.pD l m
noncomputable def D9(gt:Bool):Int:=if gt=true then 4 else 0
noncomputable def DB(gt:Bool)(m n:Nat):Bool:=if gt=true then decide (m>n) else decide (m<n)
noncomputable def OK(gt:Bool)(m n:Int):Bool:=if gt=true then decide (m>n) else decide (m<n)
section
variable{A:Am d}{l m k:List PV}{i j:Int}{r b:Bool}{gt:Bool}{s:ag}{w:cO}{Ar:bh}{E:ac->ag->Prop}{n n' p:Nat}{e:ao}{vs ws:List ac}{f:Fz}{R:mL->ag->Prop}{pv qv:PV}
theorem M8{X:Prop}(h:e7.pD l m=some r)(k1:l=[]->m=[]->r=false->X)(k2:∀j m',l=[]->m=.int j::m'->r=true->X)(k3:∀i l',l=.int i::l'->m=[]->r=false->X)(k4:∀i l' j m',l=.int i::l'->m=.int j::m'->(if i=j then e7.pD l' m' else some (decide (i<j)))=some r->X):X:=by
 induction l using bO with
 |nil=>induction m using bO with
  |nil=>exact k1 rfl rfl (ay h).symm|cons q m=>exact fH h λj h1 h2=>k2 j m rfl (eu h1 rfl) h2.symm
 |cons q l=>
  refine aj h λi h1 h=>?_;induction m using bO with
  |nil=>exact k3 i l (eu h1 rfl) rfl (ay h).symm|cons q m=>exact aj h λj h2 h=>k4 i l j m (eu h1 rfl) (eu h2 rfl) h
theorem M9{X:Prop}(h:I' gt l m=some r)(k1:(l=[]\/m=[])->r=DB gt l.length m.length->X)(k2:∀i l' j m',l=.int i::l'->m=.int j::m'->(if i=j then I' gt l' m' else some (OK gt i j))=some r->X):X:=by
 induction gt using ji with
 |false=>exact M8 h (λe1 e2 e=>k1 (.inl e1) (by erw[e1];erw[e2];erw[e];rfl)) (λj m' e1 e2 e=>k1 (.inl e1) (by erw[e1];erw[e2];erw[e];rfl)) (λi l' e1 e2 e=>k1 (.inr e2) (by erw[e1];erw[e2];erw[e];rfl)) k2|true=>exact M8 h (λe1 e2 e=>k1 (.inr e1) (by erw[e1];erw[e2];erw[e];rfl)) (λj m' e1 e2 e=>k1 (.inr e1) (by erw[e1];erw[e2];erw[e];rfl)) (λi l' e1 e2 e=>k1 (.inl e2) (by erw[e1];erw[e2];erw[e];rfl)) λi l' j m' e1 e2 h=>k2 j m' i l' e2 e1 (d3 h (λe h=>(iP e.symm).trans h) λe h=>(iN (gV e)).trans h)
theorem Pk:DB gt (p+n) (p+n')=DB gt n n':=by
 induction gt using ji with
 |false=>exact fA (agw)|true=>exact fA (agw)
theorem xw(r:aR c f (vs.drop p) l)(h:p<=vs.length):vs.length=p+l.length:=by
 refine gZ (r.length) (aa (FT) (aa (iK h) ?_));rfl
theorem Q4{v:ac}{us:List ac}(e:vs.drop p=v::us):vs[p]?=some v/\vs.drop (p+1)=us/\p<vs.length:=by
 have h:p<vs.length:=om λq=>nl ((List.drop_eq_nil_of_le q).symm.trans e);have e2:=(Cg h).symm.trans e;injection e2 with e2 e3
 exact(eA ((jM h).trans (af some e2)) e3 h)
variable(ha:s.heap.get? a=some (bu vs n))(hb:s.heap.get? e=some (bu ws n'))
include ha hb
theorem Oe(hn:vs[p]?=none\/ws[p]?=none)(q:R (.ok (.ret (.bool (DB gt vs.length ws.length)))) s):eO (ah pw w) Ar (.builtin "list.__eq__.loop" ⟨[.ref a,.ref e,c6 p,c6 (D9 gt)],[]⟩) R s:=by
 refine jP PT (aa (kD xR _) ?_);induction gt using ji with
 |false=>
  refine ae (f6 ha rfl (ae (f6 hb rfl ?_)));simp only[KO,re];rcases hn with e1|e1
  ·erw[e1];exact ae (f6 ha rfl (ae (f6 hb rfl (au q))))
  ·erw[e1];cases vs[p]?<;>exact ae (f6 ha rfl (ae (f6 hb rfl (au q))))
 |true=>
  refine ae (f6 ha rfl (ae (f6 hb rfl ?_)));simp only[KO,re];rcases hn with e1|e1
  ·erw[e1];exact ae (f6 ha rfl (ae (f6 hb rfl (au q))))
  ·erw[e1];cases vs[p]?<;>exact ae (f6 ha rfl (ae (f6 hb rfl (au q))))
theorem Zd{t t':Tok}(v1:vs[p]?=some (.int i t))(u1:ws[p]?=some (.int j t'))(UB:i=j->eO (ah pw w) Ar (.builtin "list.__eq__.loop" ⟨[.ref a,.ref e,c6 ((p+1:Nat):Int),c6 (D9 gt)],[]⟩) R s)(q:i≠j->R (.ok (.ret (.bool (OK gt i j)))) s):
  eO (ah pw w) Ar (.builtin "list.__eq__.loop" ⟨[.ref a,.ref e,c6 p,c6 (D9 gt)],[]⟩) R s:=by
 refine jP PT (aa (kD xR _) ?_);induction gt using ji with
 |false=>
  refine ae (f6 ha rfl (ae (f6 hb rfl ?_)));simp only[KO,re,v1,u1];refine ae (wpAny_eqBool_int ?_);by_cases q':i=j
  ·exact oP (c:=decide (i=j)=true) (dT q') (au ⟨iJ xR _,UB q'⟩)
  ·refine fJ (c:=decide (i=j)=true) (by rw[dF q'];exact dy) (ae (f6 ha rfl (ae (f6 hb rfl ?_))));simp only[re,v1,u1];exact ae (lt_int (au (q q')))
 |true=>
  refine ae (f6 ha rfl (ae (f6 hb rfl ?_)));simp only[KO,re,v1,u1];refine ae (wpAny_eqBool_int ?_);by_cases q':i=j
  ·exact oP (c:=decide (i=j)=true) (dT q') (au ⟨iJ xR _,UB q'⟩)
  ·refine fJ (c:=decide (i=j)=true) (by rw[dF q'];exact dy) (ae (f6 ha rfl (ae (f6 hb rfl ?_))));simp only[re,v1,u1];exact ae (gt_int (au (q q')))
theorem N6(q:R (.ok (.ret (.bool r))) s):∀{l k:List PV} {p:Nat},aR c f (vs.drop p) l->aR c f (ws.drop p) k->I' gt l k=some r->p<=vs.length->p<=ws.length->eO (ah pw w) Ar (.builtin "list.__eq__.loop" ⟨[.ref a,.ref e,c6 p,c6 (D9 gt)],[]⟩) R s:=by
 intro l;induction l with
 |nil=>exact λ{k p} r1 r2 h z1 z2=>M9 h (λ_ e1=>Oe ha hb (.inl (zc (aD (xw r1 z1)))) (by erw[xw r1 z1];erw[xw r2 z2];erw[Pk];refine gZ (e1) ?_;exact q)) λ_ _ _ _ e=>nl e
 |cons x l ih=>
  intro k p r1 r2 h z1 z2;refine M9 h (λhn e1=>Oe ha hb (.inr (by
   obtain rfl:k=[]:=hn.resolve_left ln;exact zc (aD (xw r2 z2)))) (by erw[xw r1 z1];erw[xw r2 z2];erw[Pk];refine gZ (e1) ?_;exact q)) λi l' j m' e1 e2 hc=>?_
  injection e1 with e1 e3
  subst e1 e3 e2;generalize h1:vs.drop p=d1 at r1;generalize h2:ws.drop p=d2 at r2;revert h1 h2;refine eB r1 λa1 r1=>eB r2 λa2 r2 h1 h2=>?_;have h1:=Q4 h1;have h2:=Q4 h2;revert h1 h2;refine bU a1 λt=>bU a2 λt' h1 h2=>Zd ha hb h1.1 h2.1 (λe=>ih (h1.2.1.symm▸r1) (h2.2.1.symm▸r2) ((iP e).symm.trans hc) h1.2.2 h2.2.2) λe=>ay ((iN e).symm.trans hc)▸q
end
section
variable{A:Am d}{l m:List PV}{r b:Bool}{pv qv:PV}{E:ac->ag->Prop}
theorem J7(ru:Rd (.list l) x u):x.s.TypeIs u "list":=dY ru λ{a n vs} e _ _=>(aA _ (x.hs _ _ e) rfl)
theorem Zp{A:bh}{Q:ac->ag->Prop}(h:e7.pD l m=some b)(ru:Rd (.list l) x u)(rv:Rd (.list m) x v)(q:Q (.bool b) x.s):ai (ah pw c.w) A (bC (.builtin "list.__lt__") [u,v]) Q E x.s:=dY ru λ{a n vs} e1 r1 _=>dY rv λ{a' n' ws} e2 r2 _=>by
 refine q8 (Tg To.plain PySem.F.entry_list_lt (To.check _ _ _ _ _ _ _ _ ⟨_,x.hs _ _ e1,rfl⟩ (PySem.F.args_list_lt_2 _ _) ?_));show ai _ _ (do
   if !(<-isInstance (.ref a') (.type "list")) then return<-ret .notImplemented
   again (.builtin "list.__eq__.loop" ⟨[.ref a,.ref a',c6 0,c6 0],[]⟩)) _ _ x.s
 exact ae (q9 (T:="list") ⟨_,x.hs _ _ e2,rfl⟩ agx (au ⟨iJ xR _,N6 (gt:=false) (p:=0) (x.hs _ _ e1) (x.hs _ _ e2) (R:=wants Q E) q r1 r2 h (cu _) (cu _)⟩))
theorem aec{A:bh}{Q:ac->ag->Prop}(h:e7.pD m l=some b)(ru:Rd (.list l) x u)(rv:Rd (.list m) x v)(q:Q (.bool b) x.s):ai (ah pw c.w) A (bC (.builtin "list.__gt__") [u,v]) Q E x.s:=dY ru λ{a n vs} e1 r1 _=>dY rv λ{a' n' ws} e2 r2 _=>by
 refine q8 (Tg Tn.plain PySem.F.entry_list_gt (Tn.check _ _ _ _ _ _ _ _ ⟨_,x.hs _ _ e1,rfl⟩ (PySem.F.args_list_gt_2 _ _) ?_));show ai _ _ (do
   if !(<-isInstance (.ref a') (.type "list")) then return<-ret .notImplemented
   again (.builtin "list.__eq__.loop" ⟨[.ref a,.ref a',c6 0,c6 4],[]⟩)) _ _ x.s
 exact ae (q9 (T:="list") ⟨_,x.hs _ _ e2,rfl⟩ agx (au ⟨iJ xR _,N6 (gt:=true) (p:=0) (x.hs _ _ e1) (x.hs _ _ e2) (R:=wants Q E) q r1 r2 h (cu _) (cu _)⟩))
theorem aeH(h:yb O pv qv=some b)(Or:b9 c O d)(ru:Rd pv x u)(rv:Rd qv x v):aE A (FP .Gt u v) x (Rd (.bool b)):=by
 induction pv using dq with
 |int i=>
  revert rv;exact fH h λj h1 h2=>eu h1 λrv=>bU ru λt=>bU rv λt' Q E K=>gt_int (h2▸k_here K .bool)
 |list l=>
  revert rv;exact aj h λm h1 h2=>pM h1 λrv Q E K=>wpAny_richCompare_same_room (J7 ru) (J7 rv) Tn (aec h2 ru rv ⟨nofun,k_here K .bool⟩) (A.room (n:=0) (by lia))
 |inst k fs=>exact Or.cmp h ru rv|_=>exact nS h
theorem aex{Q:Bool->ag->Prop}(h:e7 O pv qv=some b)(Or:b9 c O d)(ru:Rd pv x u)(rv:Rd qv x v)(K:∀y,Le x y->Q b y.s):ai (ah pw c.w) A.A (keyLt' wZ u v) Q E x.s:=by
 have hu:=A.room (n:=0) (by lia);rw[keyLt'_oneType];induction pv using dq with
 |int i=>
  revert rv;exact fH h λj h1 h2=>eu h1 λrv=>bU ru λt=>bU rv λt'=>oneLt_int (h2▸K x (.refl x))
 |str i=>
  revert rv;exact fH h λj h1 h2=>AZ h1 λrv=>je ru λt=>je rv λt'=>oneLt_str (h2▸K x (.refl x):Q (si i j) x.s)
 |list l=>
  revert rv;refine aj h λm h1 h2=>pM h1 λrv=>?_;rw[oneLt'_eq];exact ae (SZ hu (ae (wpAny_callSpecialIfBound?_slot (J7 ru) To (Zp h2 ru rv (wM (K x (.refl x)))))))
 |inst k fs=>
  refine cP (Or.lt h) λg' h1 h2 h3=>?_;rw[oneLt'_eq];exact m7 ru λI _ _ ru=>ae (SZ hu (ae (ifBound_K x.cT I h1 h2 (h3 (A:=A) ru rv _ _ λw y l r=>(r:w=Kc b)▸wM (K y l)))))
 |_=>exact nS h
end
theorem Ez:(toString "max" ++toString ".loop":String)="max.loop":=by decide
section
variable{z:Pt c}{n:Nat}{vb:ac}{l:List PV}{r p:PV}{I:ao}{us:List ac}{K:ao->Prop}
theorem BI.seq{M:f4}{A:bh}{E:ac->ag->Prop}{Q:Unit->ag->Prop}{f:Array ac->Array ac}{us':List ac}(F:BI d x y S I g xs K (ed us))(e:f us.toArray=us'.toArray)(k:∀w:Pt c,w.f=y.f->BI d x w S I g xs K (ed us')->Q () w.s)(h1:us.toArray.size<=qW)(h2:(f us.toArray).size<=qW+1):ai M A (updateSeq S f) Q E y.s:=by
 obtain⟨o,go,n,rfl⟩:=F.b.o;have e':=KP go f;rw[e] at e';exact cP (F.but (tk:=y.s.toks) ed.nc (uY y.s.heap S (FI f)) e' (ψ:=ed us') ⟨_,rfl⟩) λw e1 e2 F'=>wpAny_updateSeq go rfl (e1▸k w e2 F') h1 h2
theorem BI.items{M:f4}{A:bh}{E:ac->ag->Prop}{Q:Option (Array ac)->ag->Prop}(F:BI d x y S I g xs K (ed us))(q:Q (some us.toArray) y.s):ai M A (seqItems? (.ref S)) Q E y.s:=by
 obtain⟨o,go,n,rfl⟩:=F.b.o;exact wpAny_seqItems go rfl q
theorem Hn(e:y.f=x.f)(r:Rd p x v):Rd p y v:=mF (af (λf=>aV c f v p) e) r
theorem t6{k:Nat}(h:us.length<=2):us.toArray.size<=qW+k:=aa (i4) (aa (KB) (aq h (aq (by decide) (cW _ k))))
theorem XC{A:Am (d+1)}{R:mL->ag->Prop}(Or:b9 c O d)(k:∀v (w:Pt c),Le x w->Rd r w v->R (.ok (.ret v)) w.s):∀{xs:List PV} {K:ao->Prop} {y:Pt c} {vb:ac} {p:PV},BI d x y S I g xs K (ed [vb,vb])->Rd p y vb->vW (yb O) p xs=some r->eO (ah pw c.w) A.A (.builtin "max.loop" ⟨[.ref I,.none,.ref S],[]⟩) R y.s:=by
 intro xs;induction xs with
 |nil=>
  intro K y vb p F rp h;refine bE λgG hG=>?_;obtain rfl:=ay h;refine hG (jP Tp (aa (kD zd _) (ae (F.items ?_))));show ai _ A.in1.A (tryCatch (gm (.ref I)) _>>=_) _ _ _;refine ae (FY (F.it.done A.in1 λz st=>bE λgG hG=>?_));have b:=F.end_ st;obtain⟨o,go,n,rfl⟩:=b.o;refine kP (b.but (tk:=z.s.toks) ed.nc (uY z.s.heap S (FI λ_=> #[])) (KP go λ_=> #[]) (ψ:=λ_=>True) trivial) λw e1 e2 b' _=>?_;exact hG (ae (wpAny_updateSeq go rfl (ae (wV (au (e1▸k vb w b'.to (Hn e2 (st.rd rp))))))))
 |cons q xs ih=>
  intro K y vb p F rp h;refine aj h λb h1 h2=>jP Tp (aa (kD zd _) (ae (F.items ?_)));show ai _ A.in1.A (tryCatch (gm (.ref I)) _>>=_) _ _ _;refine ae (FY (F.it.next A.in1 λv K' z rv i st _ dn=>?_));have F1:=F.next st i dn;show ai _ A.in1.A (tryCatch (yV [v,v] (FP .Gt v vb>>=_)) _>>=_) _ _ _;refine ae (FY (dO (ae (aeH (A:=A.in1) h1 Or rv (st.rd rp) _ _ λrr w le e=>?_))));obtain rfl:rr=.bool b:=e;have F2:=F1.le le;refine ae (dO (wM (ae (wV (au ?_)))));induction b using ji with
  |true=>
   refine ae (F2.seq (us':=[v,v]) rfl (λw' e F3=>ae (wV ?_)) (t6 (k:=0) (bf _)) (t6 (us:=[v,v]) (bf _)));exact aa (Ez) (au ⟨iJ zd _,ih F3 (Hn e (rv.mono le.sub)) h2⟩)
  |false=>
   exact ae (wV (aa (Ez) (au ⟨iJ zd _,ih F2 ((st.rd rp).mono le.sub) h2⟩)))
theorem Yn{A:Am (d+2)}(hm:tY O l=some r)(Or:b9 c O d)(ra:Rd (.list l) x v):aE A (bC (.builtin "max") [v]) x (Rd r):=λQ E K=>by
 induction l using bO with
 |nil=>exact nS hm
 |cons q xs=>
  refine Tq PySem.F.kind_max PySem.F.plain_max PySem.F.entry_max (PySem.F.args_max1 _) ?_;show ai _ A.in1.A (agy "max" ["key","default"] 0 ⟨[],[]⟩>>=_) _ _ x.s;refine ae (Cf (show agy "max" ["key","default"] 0 ⟨[],[]⟩=pure [none,none] from rfl) (ae (au (ae (Eg (A:=A.in1.mono (e:=d) (iH d)) ra _ _ λy I K' g le i nw g1 g2=>ae (uW (aa (Ez) (au ⟨iJ zd _,jP Tp ?_⟩))))))));erw[kD zd _];have b:Bx x (y.push (bu [] 0) y.s.toks) y.s.heap.objs.size (ed []):=⟨cH.trans le.st (y.cG (t:=y.s.toks) λ_ _=>c5 _).st,⟨_,ft _ rfl,0,rfl⟩,(Pt.uu rfl).1,le.e.back (y.j0 (bf _)) (eV _)⟩;have F:BI d x (y.push (bu [] 0) y.s.toks) y.s.heap.objs.size I g (q::xs) K' (ed []):=⟨b,i.later (cH.later (W:=λ_=>False) (y.cG (t:=y.s.toks) λ_ _=>c5 _).st i.live λ_ _=>id),nw,λk=>(i.live _ k).2.elim λo e=>nS ((eV _).symm.trans e),g1,g2⟩;refine ae (F.items ?_);show ai _ A.in1.A (tryCatch (gm (.ref I)) _>>=_) _ _ _;refine ae (FY (F.it.next (A.in1.mono (e:=d) (iH d)) λv K2 z rv i st _ dn=>?_));show ai _ A.in1.A (updateSeq _ (λ_=> #[v,v])>>=_) _ _ _;refine ae ((F.next st i dn).seq (us':=[v,v]) rfl (λw e F3=>?_) (t6 (k:=0) (by decide)) (t6 (us:=[v,v]) (bf _)));exact aa (Ez) (au ⟨iJ zd _,XC (A:=A.mono (e:=d+1) (iH _)) Or (λv w l r=>K v w l r) F3 (Hn e rv) hm⟩)
end
end
section
variable{c:Cx}{x y:Pt c}{d n:Nat}{u v:ac}{ps xs:List PV}{O:aK}{us vs keys items:List ac}{E:ac->ag->Prop}{S:ao}
def vX(n:Nat):ac:=if n=4 then .ref dg else .type (if n=1 then"int" else if n=2 then"str" else"list")
section
variable{e:Nat}{A:Am d}{p q:PV}{α:Type}{l r:List α}{k w:α->PV}{kind:SortKind}
theorem Rp{α β:Type}{M:f4}{A:bh}{s:ag}{c:Prop}[Decidable c]{X Y:Sem α}{k:α->Sem β}{Q:β->ag->Prop}(h:ai M A ((if c then X else Y)>>=k) Q E s):ai M A (if c then X>>=k else Y>>=k) Q E s:=by
 by_cases q:c
 ·rw[iP q] at h⊢;exact h
 ·rw[iN q] at h⊢;exact h
theorem abW(h:jV q≠0)(r:Rd q x v):iG (ah pw c.w) x.s.heap (tx v) (vX (jV q)):=by
 induction q using dq with
 |int=>exact bU r λ_=>.of_pure rfl|str=>exact je r λ_=>.of_pure rfl|list=>exact λ_ _ _ _ k q=>dY r (λ{a n vs} e _ _ q=>FX (T:="list") (aA _ (k _ _ (x.hs _ _ e)) rfl) q) q
 |inst k fs=>
  by_cases e:k=dg
  ·obtain rfl:=e;exact m7 r λI _ _ _=>I.type
  ·exact absurd (iN e) h
 |_=>exact absurd rfl h
theorem MA:(vX n !=iE "tuple")=true/\(vX n==vX n)=true:=by
 refine⟨?_,beq_self_eq_true _⟩;unfold vX;by_cases h:n=4
 ·erw[iP h];decide
 ·erw[iN h];by_cases h:n=1
  ·erw[iP h];decide
  ·erw[iN h];by_cases h:n=2
   ·erw[iP h];decide
   ·erw[iN h];decide
theorem ϣ(h:ph ps=true)(jQ:ps≠[])(r:bt ps x vs):∃p,∀v∈vs,iG (ah pw c.w) x.s.heap (tx v) (vX (jV p)):=by
 induction ps using bO with
 |nil=>exact absurd rfl jQ
 |cons p ps=>
  obtain⟨h1,h2⟩:=aX h;have hp:jV p≠0:=λe=>by rw[e] at h1;exact ff h1
  have go:∀{ps:List PV} {vs:List ac},(∀q∈ps,jV q=jV p)->bt ps x vs->∀v∈vs,iG (ah pw c.w) x.s.heap (tx v) (vX (jV p)):=λ{ps}=>by
   induction ps with
   |nil=>exact λ_ r=>i0 r λ_ m=>mN m|cons q ps ih=>exact λh r=>eB r λa r v m=>(bw m).elim (λe=>e▸h q (.head _)▸abW (h q (.head _)▸hp) a) λm=>ih (λq m=>h q (.tail _ m)) r v m
  exact⟨p,go (λq m=>(bw m).elim (λe=>e▸rfl) λm=>a5 (b7 h2 q m)) r⟩
theorem Ri{Q:SortKind->ag->Prop}(hn:n=keys.length)(ty:ph ps=true)(rk:bt ps x keys)(h:∀k,(¬n<2->k=wZ)->Q k x.s):ai (ah pw c.w) A.A (if n<2 then pure general' else keyKind' keys.toArray) Q E x.s:=by
 by_cases c:n<2
 ·exact oP c (au (h _ λq=>absurd c q))
 ·refine dL (ϣ ty (λe=>c (by erw[hn];erw[rk.length];erw[e];decide)) rk) λp t=>?_;exact fJ c (kas_kind (hn▸cZ c) t MA.1 MA.2 (h _ λ_=>rfl))
theorem M3(hl:keys.length=items.length){i:Nat}(hi:i<keys.length):kas_item (keys.toArray.zip items.toArray) i=(keys.getD i oj,items.getD i oj):=by
 have h2:i<items.length:=hl▸hi;have hz:i<(keys.toArray.zip items.toArray).size:=by simp;exact Nat.lt_min.mpr ⟨hi,h2⟩
 unfold kas_item Array.getD;erw[dif_pos hz];simp[hi,h2]
theorem R8{i:Nat}(e:us[i]?=some u):us.getD i oj=u:=by erw[tA];erw[e];rfl
theorem Vb(r:bt (l.map w) x items):∀{ps:List Nat} {out:List α},(ps.mapM λi=>l[i]?)=some out->bt (out.map w) x (ps.map λi=>items.getD i oj)/\∀i∈ps,i<l.length:=by
 intro ps;induction ps with
 |nil=>exact λh=>ay h▸⟨.nil,λ_ m=>mN m⟩
 |cons i ps ih=>
  intro out h;rw[qY] at h;refine aj h λa h1 h2=>aj h2 λo h3 h4=>?_;obtain rfl:=ay h4;obtain⟨k1,k2⟩:=ih h3;refine aB (r.get (i:=i) (p:=w a) (by erw[oy];erw[h1];rfl)) λu e1 e2=>?_;refine⟨?_,λj m=>(bw m).elim (λe=>e▸(zq.mp h1).1) (k2 j)⟩;exact aa (oB) (aa (oB) (aa (R8 e1) (.cons e2 k1)))
theorem abH{β:Type}{it:Array Keyed}(Or:b9 c O d)(hk:∀i a,l[i]?=some a->Rd (k a) x (kas_item it i).1)(t:KasT β):∀{r:β} {y:Pt c} {Q:β->ag->Prop},qQ (λi j=>(l[i]?).bind λa=>(l[j]?).bind λb=>e7 O (k a) (k b)) t=some r->Le x y->(∀z:Pt c,Le x z->Q r z.s)->t.kasWp (kas_cmp pw c.w A.A wZ it) Q y.s:=by
 induction t with
 |ret b=>exact λh le K=>ay h▸K _ le|ask i j kk ih=>exact λh le K=>aj h λb h1 h2=>aj h1 λa h3 h4=>aj h4 λa' h5 h6=>aex (A:=A) h6 Or ((hk i a h3).mono le.sub) ((hk j a' h5).mono le.sub) λz l=>ih b h2 (le.trans l) K
theorem Pi{Q:Unit×SortSt->ag->Prop}(hs:ly (λa b=>e7 O (k a) (k b)) l=some r)(Or:b9 c O d)(rk:bt (l.map k) x keys)(ri:bt (l.map w) x items)(hk:¬items.length<2->kind=wZ)
(K:∀(y:Pt c) z us,Le x y->(arrOf z.2).map (·.2)=us.toArray->bt (r.map w) y us->failedOf z.2=none->r.length=l.length->Q z y.s):ai (ah pw c.w) A.A ((if items.length<2 then pure () else sortRuns').run (Tr kind (keys.toArray.zip items.toArray) #[] 7 none)) Q E x.s:=by
 have l1:keys.length=l.length:=rk.length.trans (bi _);have l2:items.length=l.length:=ri.length.trans (bi _);refine d3 hs (λcc hs=>?_) λcc hs=>aL hs λvi hs=>aj hs λp h1 h2=>?_
 ·refine bE λgG hG=>?_;obtain rfl:=ay hs;refine hG (aa (iP (l2.symm▸cc)) ?_);rw[StateT.run_pure];exact au (K x _ items (.refl x) (zr.mp (by
   show((keys.toArray.zip items.toArray).map (·.2)).toList=items;refine aa (Ts) (aa (Array.toList_zip) ?_);exact List.map_snd_zip (aD (l2.trans l1.symm)))) ri rfl rfl)
 ·refine aa (iN (l2.symm▸cc)) (aa (hk (l2.symm▸cc)) ?_);have hn:(keys.toArray.zip items.toArray).size=l.length:=by simp[l1,l2]
  have run:=kas_runs (prog:=pw) (w:=c.w) (A:=A.A) (E:=No) (n:=l.length) (it:=keys.toArray.zip items.toArray) (κ:=wZ) (Q:=λa st' s'=>Q (a,st') s') (G:=λp' s'=>p'=p/\∃y:Pt c,Le x y/\s'=y.s) (s:=x.s)
   (cZ cc) vi (λp' st' s' a1 a2 a3 a4=>by
    obtain⟨rfl,y,le,rfl⟩:=a4;refine dU (Vb (ri.mono le.sub) h2) λk1 k2=>K y ((),st') _ le ?_ k1 a3 (by have:=k1.length;rw[bi,bi,FB,a1] at this;exact this.symm);show(arrOf st').map (·.2)=_;erw[a2];apply zr.mp;refine aa (Array.map_map) (aa (Ts) ?_);refine pV λi m=>?_;show(kas_item (keys.toArray.zip items.toArray) i).2=_;erw[M3 (l1.trans l2.symm) (l1.symm▸k2 i m)];rfl)
   (abH (A:=A) Or (λi a e=>by
    refine aB (rk.get (i:=i) (p:=k a) (by erw[oy];erw[e];rfl)) λu e1 e2=>?_;erw[M3 (l1.trans l2.symm) (zq.mp e1).1];exact(R8 e1).symm▸e2) (kas_sort l.length) h1 (.refl x) λz le=>⟨rfl,z,le,rfl⟩)
  have est:kas_st wZ (keys.toArray.zip items.toArray) (List.toArray (ax l.length))=Tr wZ (keys.toArray.zip items.toArray) #[] 7 none:=by
   have e:=kas_range (keys.toArray.zip items.toArray);rw[hn] at e;exact af (λz=>Tr wZ z #[] 7 none) e
  rw[est] at run;exact cQ run (λ_ _ z=>z) λ_ _ z=>z.elim
end
section
variable{z:Pt c}{A:Am d}{out:List PV}{p:PV}{k:Str}{r:List (PV×PV)}{o:Obj}
theorem xO(h:us.length<=az):us.toArray.size<=qW:=by erw[i4];exact rN h
theorem zO{M:f4}{A:bh}{f:Array ac->Array ac}{Q:Unit->ag->Prop}{φ:Obj->Prop}(b:Bx x y S φ)(CW:∀o,φ o->∃n,o=bu us n)(e:f us.toArray=vs.toArray)(h1:us.length<=az)(h2:vs.length<=az)
(k:∀(w:Pt c) n,w.f=y.f->Bx x w S (· =bu vs n)->Q () w.s):ai M A (Tt (.ref S) f) Q E y.s:=by
 have nc:∀o,φ o->o.cls≠ .type "code":=λo p=>ed.nc o (CW o p);have b':=b;refine aB b'.o λo go p=>?_;obtain⟨n,rfl⟩:=CW o p;have e':=KP go f;rw[e] at e';exact kP (b.but (tk:=y.s.toks) nc (uY y.s.heap S (FI f)) e' (ψ:=(· =seqObj "list" vs.toArray _)) rfl) λw e1 e2 F _=>listUpdate_at go rfl (e1▸k w _ e2 F) (xO h1) (by erw[e];exact y6 (xO h2))
theorem Bx.at_(b:Bx x y S (· =o)):y.s.heap.get? S=some o:=by
 refine aB b.o λ_ e bZ=>?_;subst bZ;exact e
theorem ab1{Q:PySem.Fin->ag->Prop}(hs:ly (e7 O) ps=some out)(ty:ph ps=true)(Or:b9 c O d)(b:Bx x y S (ed us))(rd:bt ps y us)(hz:ps.length<=az)
(K:∀(w:Pt c) us',Bx x w S (ed us')->bt out w us'->out.length=ps.length->Q (.done (.ret .none)) w.s):ai (ah pw c.w) A.A (Builtin.«list.sort» ⟨[.ref S],[]⟩) Q E y.s:=by
 refine bE λgG hG=>?_;obtain⟨o,go,n,rfl⟩:=b.o;have hl:us.length<=az:=rd.length▸hz;refine hG ?_;rw[list_sort_plain];refine ae (f6 go rfl (ae (zO (vs:=[]) b (λ_=>id) rfl hl (cu _) λw n1 e1 b1=>ae (KQ b1.at_ rfl (ae (wpAny_newTuple (ae (KR ?_ (cu _))) (by erw[agz];exact rN hl)))))));have le:=(w.cG (t:=w.s.toks) λ_ _=>c5 (fW us 0)).trans (Pt.cG (t:=w.s.toks) (w.push (fW us 0) w.s.toks) λ_ _=>c5 (bu [] 0));have r1:bt ps ((w.push (fW us 0) w.s.toks).push (bu [] 0) w.s.toks) us:=(mF (af (λf=>aR c f us ps) e1) rd:bt ps w us).mono le.sub;refine dO (Rp (ae (Ri (A:=A) (x:=(w.push (fW us 0) w.s.toks).push (bu [] 0) w.s.toks) (keys:=us) (ps:=ps) (n:=us.toArray.size) i4 ty r1 λkd hk=>ae (Pi (A:=A) (α:=PV) (l:=ps) (r:=out) (k:=λx=>x) (w:=λx=>x) (keys:=us) (items:=us) hs Or (by rw[KS];exact r1) (by rw[KS];exact r1) hk λy3 z us' GD e3 r3 f3 l3=>?_))));rw[KS] at r3;have b3:=(b1.le le).le GD;have LQ:us'.length<=az:=r3.length▸l3▸hz;obtain⟨u,st⟩:=z;dsimp only at e3 f3⊢;refine ae (KQ b3.at_ rfl (ae (zO (us:=[]) (vs:=us') b3 (λo e=>⟨_,e⟩) e3 (cu _) LQ λw4 n4 e4 b4=>aa (f3) (fJ (by simp) (au (K w4 us' ⟨b4.st,⟨_,b4.at_,n4,rfl⟩,b4.fr,b4.nS⟩ (mF (af (λf=>aR c f us' out) e4) r3) l3))))))
end
section
variable{z:Pt c}{A:Am d}{g:ac}{kd:List PV}{p q:PV}{T:ao}{k:Str}{ks r:List (PV×PV)}{o:Obj}
theorem Ii{X:Prop}{ks:List (PV×PV)}(h:nX O k (p::ps)=some ks)(K:∀u r,O.fn k [p] []=some u->nX O k ps=some r->ks=(u,p)::r->X):X:=by
 unfold nX at h K;rw[qY] at h;exact aj h λq h1 h2=>aj h2 λr h3 h4=>fH h1 λu h5 h6=>K u r h5 h3 (h6▸(ay h4).symm)
theorem QU(h:nX O k ps=some ks):ks.map (·.2)=ps:=by
 induction ps generalizing ks with
 |nil=>exact ay h▸rfl|cons p ps ih=>exact Ii h λu r _ h2 e=>e▸af (List.cons p) (ih h2)
theorem Bx.aee{φ:Obj->Prop}{w:Pt c}(b:Bx x y S φ)(ne:S≠T)(st:br (λb=>b=T) 0 y w)(f:w.f=y.f)(l:cH (λb=>x.s.heap.get? b=none) x w):Bx x w S φ:=aB b.o λo e p=>⟨l,(aA o (st.e.keep S o e (cK b.fr.hi) ne) p),⟨(congrFun f S).trans b.fr.f,b.fr.h₀,b.fr.hi⟩,b.nS⟩
theorem QB{M:f4}{A:bh}{f:Array ac->Array ac}{Q:Unit->ag->Prop}{φ ψ:Obj->Prop}(b:Bx x y T φ)(b':Bx x y S ψ)(ne:S≠T)(CW:∀o,φ o->∃n,o=bu us n)(e:f us.toArray=vs.toArray)(h1:us.length<=az)(h2:vs.length<=az)
(k:∀(w:Pt c) n,w.f=y.f->Bx x w T (· =bu vs n)->Bx x w S ψ->Q () w.s):ai M A (Tt (.ref T) f) Q E y.s:=by
 have nc:∀o,φ o->o.cls≠ .type "code":=λo p=>ed.nc o (CW o p);have bb:=b;refine aB bb.o λo go p=>dL (CW o p) λn bY=>?_;subst bY;have e':=KP go f;rw[e] at e';exact kP (b.but (tk:=y.s.toks) nc (uY y.s.heap T (FI f)) e' (ψ:=(· =seqObj "list" vs.toArray _)) rfl) λw e1 e2 F st=>listUpdate_at go rfl (e1▸k w _ e2 F (b'.aee ne (st 0) e2 F.st)) (xO h1) (by erw[e];exact y6 (xO h2))
theorem vK{w:Pt c}(e:w.f=y.f)(r:bt ps y us):bt ps w us:=mF (af (λf=>aR c f us ps) e) r
theorem Wl{ψ:Obj->Prop}{Q:PUnit->ag->Prop}{body:ac->PUnit->Sem (ForInStep PUnit)}(hb:∀(v:ac) (s:ag) (Q:ForInStep PUnit->ag->Prop),(∀E',ai (ah pw c.w) A.A (bC g [v]) (λk s=>ai (ah pw c.w) A.A (Tt (.ref T) (·.push k)) (λ_ s=>Q (.yield ⟨⟩) s) E s) E' s)->ai (ah pw c.w) A.A (body v ⟨⟩) Q E s)
(CX:∀{p q:PV} {v:ac} {y:Pt c},O.fn k [p] []=some q->Rd p y v->aE A (bC g [v]) y (Rd q))(ne:S≠T)(hz:kd.length+ks.length<=az)
(hk:nX O k ps=some ks)(r1:bt ps y us)(r2:bt kd y vs)(b:Bx x y T (ed vs))(b':Bx x y S ψ)(K:∀(w:Pt c) xe,Sub y.f w.f->Bx x w T (ed xe)->Bx x w S ψ->bt (kd++ks.map (·.1)) w xe->Q ⟨⟩ w.s):
  ai (ah pw c.w) A.A (forIn us Ct body) Q E y.s:=by
 induction ps generalizing y us vs kd ks with
 |nil=>
  obtain rfl:[]=ks:=ay hk;exact i0 r1 (aa (yU) (au (K y vs (λ_ _ e=>e) b b' (by erw[List.map_nil];rw[gO];exact r2))))
 |cons p ps ih=>
  refine eB r1 λ{v us} a r1=>Ii hk λu r h1 h2 e=>?_;subst e;rw[wP];refine ae (hb _ _ _ λE'=>CX h1 a _ _ λkv z le rk=>?_);have hv:vs.length+1<=az:=by erw[r2.length];exact aq (i3 (eE _) _) hz
  refine QB (vs:=vs++[kv]) (b.le le) (b'.le le) ne (λ_=>id) (by simp) (lF hv) (by erw[da];exact hv) λw n e1 b1 b2=>?_;refine ih (kd:=kd++[u]) (by rw[da,fC,gj [u].length];exact hz) h2 (vK e1 (r1.mono le.sub)) (vK e1 (aR.append (.cons rk .nil) (r2.mono le.sub))) ⟨b1.st,⟨_,b1.at_,n,rfl⟩,b1.fr,b1.nS⟩ b2 λw' xe sub c1 c2 rd=>K w' xe (λa o q=>sub a o ((congrFun e1 a).trans (le.sub a o q))) c1 c2 ?_;rw[kx] at rd;exact rd
theorem Β{Q:PySem.Fin->ag->Prop}(ht:∀a,Builtin.«list.sort» ⟨[.ref a],[(dw "key",g)]⟩=ksk_tree a g false)(hk:nX O k ps=some ks)(ty:ph (ks.map (·.1))=true)(hs:ly (λa b=>e7 O a.1 b.1) ks=some r)(Or:b9 c O d)
(CX:∀{p q:PV} {v:ac} {y:Pt c},O.fn k [p] []=some q->Rd p y v->aE A (bC g [v]) y (Rd q))(b:Bx x y S (ed us))(rd:bt ps y us)(hz:ps.length<=az)
(K:∀(w:Pt c) us',Bx x w S (ed us')->bt (r.map (·.2)) w us'->(r.map (·.2)).length=ps.length->Q (.done (.ret .none)) w.s):ai (ah pw c.w) A.A (Builtin.«list.sort» ⟨[.ref S],[(dw "key",g)]⟩) Q E y.s:=by
 refine bE λgG hG=>?_;obtain⟨o,go,n,rfl⟩:=b.o;have hl:us.length<=az:=rd.length▸hz;have lk:ks.length=ps.length:=by refine gZ (QU hk) ?_;rw[bi]
 refine hG ?_;rw[ht];refine ae (f6 go rfl (ae (zO (vs:=[]) b (λ_=>id) rfl hl (cu _) λw n1 e1 b1=>ae (KQ b1.at_ rfl (ae (wpAny_newTuple (ae (KR ?_ (cu _))) (by erw[agz];exact rN hl)))))));have l1:=w.cG (t:=w.s.toks) λ_ _=>c5 (fW us 0);have l2:=Pt.cG (t:=w.s.toks) (w.push (fW us 0) w.s.toks) λ_ _=>c5 (bu [] 0);have bT:Bx x ((w.push (fW us 0) w.s.toks).push (bu [] 0) w.s.toks) (w.push (fW us 0) w.s.toks).s.heap.objs.size (ed []):=by
  have n:=(w.push (fW us 0) w.s.toks).uu (o:=bu [] 0) (t:=w.s.toks) rfl;exact⟨((b1.le l1).le l2).st,⟨_,n.2,0,rfl⟩,n.1,((b1.le l1).st.e.back (cK n.1.hi) (eV _)).elim id id⟩
 have ne:S≠(w.push (fW us 0) w.s.toks).s.heap.objs.size:=gE (fB (b1.le l1).at_);have r1:bt ps ((w.push (fW us 0) w.s.toks).push (bu [] 0) w.s.toks) us:=(vK e1 rd).mono (l1.trans l2).sub;refine dO (ae (uV ?_));rw[Td];refine ae (Wl (A:=A) (O:=O) (k:=k) (g:=g) (kd:=[]) (vs:=[]) (y:=(w.push (fW us 0) w.s.toks).push (bu [] 0) w.s.toks) (λv s Q h=>ae (KJ (cQ (h _) (λ_ _ z=>ae (cQ z (λ_ _ z=>au z) λ_ _ z=>z)) λ_ _ z=>z))) CX ne (by erw[lk];erw[Cn];rw[f5];exact hz) hk r1 .nil bT ((b1.le l1).le l2) λw2 ku sub UC b2 rk=>?_);refine bE λgG hG=>?_;have rk:bt (ks.map (·.1)) w2 ku:=rk;have UD:ku.length=us.length:=rk.length.trans ((bi _).trans (lk.trans rd.length.symm));have hku:ku.length<=az:=UD▸hl;obtain⟨_,gT,nT,rfl⟩:=UC.o;have ri:bt (ks.map (·.2)) w2 us:=QU hk▸r1.mono sub;refine hG (ae (f6 gT rfl (Rp (ae (Ri (A:=A) (x:=w2) (keys:=ku) (ps:=ks.map (·.1)) (n:=us.toArray.size) (i4.trans UD.symm) ty rk λkd hkd=>ae (Pi (A:=A) (α:=PV×PV) (l:=ks) (r:=r) (k:=(·.1)) (w:=(·.2)) (keys:=ku) (items:=us) hs Or rk ri hkd λy3 z us' GD e3 r3 f3 l3=>?_))))));have LQ:us'.length<=az:=r3.length▸(bi (f:=(·.2)) (as:=r))▸l3▸lk▸hz;obtain⟨u,st⟩:=z;dsimp only at e3 f3⊢;exact ae (QB (us:=ku) (vs:=[]) (UC.le GD) (b2.le GD) ne (λ_=>id) rfl hku (cu _) λw4 n4 e4 b4 b5=>ae (wV (ae (KQ b5.at_ rfl (ae (zO (us:=[]) (vs:=us') b5 (λo e=>⟨_,e⟩) e3 (cu _) LQ λw5 n5 e5 b6=>aa (f3) (fJ (by simp) (au (K w5 us' ⟨b6.st,⟨_,b6.at_,n5,rfl⟩,b6.fr,b6.nS⟩ (vK e5 (vK e4 r3)) ((bi _).trans (l3.trans lk)))))))))))
end
def Hi(Q:List ac->ag->Prop)(v:ac)(s:ag):Prop:=∃a us n,v=.ref a/\s.heap.get? a=some (bu us n)/\Q us s
def Hu(Q:List ac->ag->Prop)(r:mL)(s:ag):Prop:=∃v,r=.ok (.ret v)/\Hi Q v s
def GI{c:Cx}{d:Nat}(A:Am d)(u:ac)(x:Pt c)(ps:List PV):Prop:=∀(Q:List ac->ag->Prop) E,(∀y us,Le x y->bt ps y us->Q us y.s)->ai (ah pw c.w) A.A (collect u) Q E x.s
section
variable{z:Pt c}{g:Nat}{res:ac}{all:List PV}{I a:ao}{K:ao->Prop}{s:ag}{w:cO}{A:bh}{Q:List ac->ag->Prop}
theorem OY(h:ai (ah pw w) A.in1 (KU (.ref s.heap.objs.size) u (.ref s.heap.objs.size)) (λfin s'=>match fin with
    |.done fl=>Hu Q (.ok fl) s'|.again c'=>c'.quiet=true/\eO (ah pw w) A c' (Hu Q) s') No {s with heap:=s.heap.push (bu [] 0)}):ai (ah pw w) A (collect u) Q E s:=by
 have fin:∀v s',Hi Q v s'->ai (ah pw w) A (match v with
   |.ref a=>do match(<-load a).data with
    |.seq xs _=>pure xs.toList|_=>unsupported "internal:collect"
   |_=>unsupported "internal:collect") Q E s':=λv s' z=>by
  refine jH z λa us n c4 ga q=>?_;subst c4;exact ae (FE ga (au q))
 unfold collect;refine ae (Th (jP PySem.F.entry_proto_collect (aa (kD PySem.F.plain_proto_collect _) (ae (m:=newList []) (uW (au ⟨iJ agA _,jP PySem.F.entry_list_iadd ?_⟩))))));erw[kD agA _];show ai _ A.in1 (KU (.ref s.heap.objs.size) u (.ref s.heap.objs.size)) _ _ _;refine cQ h (λahu s' z=>?_) λ_ _ z=>z.elim;cases ahu with
 |done fl=>
  refine aB z λv e z=>?_;injection e with e
  exact e▸fin v s' z
 |again c'=>
  refine⟨z.1,FQ z.2 λr i8 q=>?_⟩;obtain⟨v,rfl,q⟩:=q;exact fin v i8 q
theorem Bx.Qd(b:Bx x y S (ed us))(r:bt ps y us)(K:∀y us,Le x y->bt ps y us->Q us y.s):Hi Q (.ref S) y.s:=by
 obtain⟨o,e,n,rfl⟩:=b.o;exact(j5 S us n rfl e (K y us b.to r))
theorem Z6{A:Am (d+1)}{R:mL->ag->Prop}(hz:all.length<=az)(k:∀(w:Pt c) us',Bx x w S (ed us')->bt all w us'->R (.ok (.ret res)) w.s):∀{xs ps:List PV} {K:ao->Prop} {y:Pt c} {us:List ac},BI d x y S I g xs K (ed us)->bt ps y us->ps++xs=all->eO (ah pw c.w) A.A (.builtin "list.extend.loop" ⟨[.ref S,.ref I,res],[]⟩) R y.s:=by
 intro xs;induction xs with
 |nil=>
  intro ps K y us F r e;exact jP agB (aa (kD FZ _) (ae (F.it.done A.in1 λz st=>au (k z us (F.end_ st) ((gO ps).symm.trans e▸r.mono st.sub)))))
 |cons p xs ih=>
  intro ps K y us F r e;refine jP agB (aa (kD FZ _) (ae (F.it.next A.in1 λv K' z rv i st _ dn=>?_)));show ai _ A.in1.A (updateSeq S (·.push v)>>=_) _ _ _;have hl:us.length+1<=az:=by
   refine aa (r.length) (aq ?_ hz);exact gZ (e) (aa (da) (aa (wL) (i3 (eE _) _)))
  exact ae ((F.next st i dn).seq (us':=us++[v]) (by simp) (λw e1 F2=>au ⟨iJ FZ _,ih (ps:=ps++[p]) F2 (vK e1 (aR.append (.cons rv .nil) (r.mono st.sub))) (by rw[kx];exact e)⟩) (xO (lF hl)) (by rw[Array.size_push];exact yP (xO (lF hl))))
theorem Q2{A:Am d}{T:String}(hT:T="list"\/T="tuple")(ha:x.f a=some {cls:=.type T,data:=.seq vs.toArray n})(r:bt ps x vs)(hz:ps.length<=az):GI A (.ref a) x ps:=λQ E K=>by
 have vh:=c5 (bu [] 0) (x.hs _ _ ha);have hl:vs.length<=az:=r.length▸hz;refine OY ?_;unfold KU;refine ae (FX (T:=T) (aA _ vh rfl) (oP (by rcases hT with rfl|rfl<;>simp) (ae (f6 vh rfl (ae (f6 (xs:= #[]) (n:=0) (ft _ rfl) rfl (fJ (by simp) ?_)))))));exact ae (zO (x:=x) (y:=x.push (bu [] 0) x.s.toks) (us:=[]) (vs:=vs) (Bx.new (φ:=ed []) rfl ⟨0,rfl⟩) (λ_=>id) (by simp) (cu _) hl λw n e b=>au (aA _ rfl (Bx.Qd ⟨b.st,⟨_,b.at_,n,rfl⟩,b.fr,b.nS⟩ (vK e (r.mono (x.cG (t:=x.s.toks) λ_ _=>c5 (bu [] 0)).sub)) K)))
def By(w:cO)(a:ao)(s:ag):Prop:=∀{A:bh} {Q:Bool->ag->Prop},(∀b t,Q b {s with toks:=t})->ai (ah pw w) A (Tu (.ref a)) Q No s
end
section
variable{z:Pt c}{g:Nat}{I a:ao}{K:ao->Prop}{s:ag}{w:cO}{es:Array (Int×ac)}{t:a8}{lo hi:Int}{p:PV}{β:Type}{k:List PV->Option β}{r:β}{Q:List ac->ag->Prop}
theorem YX(ga:s.heap.get? a=some (dJ es n t)):By w a s:=λ{A Q} h=>by
 have hT:s.TypeIs (.ref a) "set":=(aA _ ga rfl);unfold Tu;refine ae (Fy hT PySem.F.slot_set_len.lookup ?_);generalize UE:("set.__len__":String)=id0;dsimp only;erw[(by subst UE;decide+kernel:splitId id0=some ("set","__len__"))];subst UE;refine ae (q9 (T:="set") (b:=true) hT KG (Tv (λLR=>absurd LR (by decide)) (λ_=>Tv (λ_=>?_) (λLR=>absurd (by decide+kernel) LR))));exact ae (FX hT (au (h false s.toks)))
theorem aeA{t1 t2 t3:Tok}(e:s.heap.get? a=some (zD lo hi t1 t2 t3))(hn:hi-lo<=(az:Nat)):By w a s:=λ{A Q} h=>wpAny_hint_range (n:=(hi-lo).toNat) e HG (by unfold az at hn;lia) (h _ _)
theorem OQ{x0:Pt c}{A:Am (d+1)}{T:String}(UF:Le x0 x)(hT:x.s.TypeIs (.ref a) T)(h1:(iE T==iE "list")=false)(h2:(iE T==iE "tuple")=false)(hz:xs.length<=az)
(it:∀{y:Pt c} {S:ao} {Q:ac->ag->Prop} {E},Le x y->Bx x0 y S (ed [])->x.s.heap.get? S=none->(∀z I K g,BI d x0 z S I g xs K (ed [])->By c.w a z.s->Q (.ref I) z.s)->ai (ah pw c.w) A.in1.A (gk (.ref a)) Q E y.s)
(K:∀y us,Le x0 y->bt xs y us->Q us y.s):ai (ah pw c.w) A.A (collect (.ref a)) Q E x.s:=by
 refine aB hT λo e1 e2=>?_;have le:=x.cG (t:=x.s.toks) λ_ _=>c5 (bu [] 0);have b:Bx x0 (x.push (bu [] 0) x.s.toks) x.s.heap.objs.size (ed []):=⟨cH.trans UF.st le.st,⟨_,ft _ rfl,0,rfl⟩,(Pt.uu rfl).1,UF.e.back (x.j0 (bf _)) (eV _)⟩;refine OY ?_;unfold KU;refine ae (FX (T:=T) (aA o (c5 _ e1) e2) ?_);have h3:agC (.ref x.s.heap.objs.size) (.ref a)=false:=by simp[agC,fO (fB e1)]
 simp only[h1,h2,h3,CA,yW,if_false];refine ae (it le b (eV _) λz I K' g F hint=>ae (dO (hint λroom tk=>?_)));have F:=F.le (z.cG (h':=z.s.heap) (t:=tk) λ_ _ e=>e);have fin:∀{y:Pt c},BI d x0 y x.s.heap.objs.size I g xs K' (ed [])->eO (ah pw c.w) A.A (.builtin "list.extend.loop" ⟨[.ref x.s.heap.objs.size,.ref I,.ref x.s.heap.objs.size],[]⟩) (Hu Q) y.s:=λF=>Z6 hz (λw us' b r=>⟨_,rfl,b.Qd r K⟩) F .nil rfl;refine Tv (λ_=>ae (uV ?_)) (λ_=>au ⟨iJ FZ _,fin F⟩);unfold Builtin.List.listTouch;refine ae (ae (F.seq (us':=[.none]) rfl (λw1 _ F1=>F1.seq (us':=[]) rfl (λw2 _ F2=>au ⟨iJ FZ _,fin F2⟩) (t6 (k:=0) (by decide)) (t6 (us:=[]) (by decide))) (t6 (k:=0) (by decide)) (t6 (us:=[.none]) (by decide))))
theorem On{A:Am (d+1)}{T:String}(hT:x.s.TypeIs (.ref a) T)(h1:(iE T==iE "list")=false)(h2:(iE T==iE "tuple")=false)(hint:∀{y:Pt c},Le x y->By c.w a y.s)(hz:xs.length<=az)(it:∀{A:Am d} {y:Pt c},Le x y->qE A (gk (.ref a)) y xs):GI A (.ref a) x xs:=λQ E K=>
 OQ (.refl x) hT h1 h2 hz (λle b _ k=>it le _ _ λz I K g l i nw g1 g2=>k z I K g (BI.mk' b l i nw g1 g2) (hint (le.trans l))) K
theorem aax{A:Am (d+1)}(h:eG p k=some r)(rd:Rd p x u):∃ps,k ps=some r/\ps.length<=az/\GI A u x ps:=fZ h λhn h=>by
 induction p using dq with
 |tup l=>exact iT rd λ{a n vs} e rl z=>⟨l,h,z,Q2 (T:="tuple") (.inr rfl) e rl z⟩|list l=>exact dY rd λ{a n vs} e rl z=>⟨l,h,z,Q2 (T:="list") (.inl rfl) e rl z⟩
 |d5 lo hi=>
  exact qz rd λ{a t1 t2 t3} e z1 z2 hz=>by
   have UG:((ax (hi-lo).toNat).map λk:Nat=>PV.int (lo+k)).length<=az:=by
    rw[bi,cF];exact Lo.mpr hz
   exact(cz _ h UG (On (T:="range") (aA _ (x.hs _ _ e) rfl) (by decide) (by decide) (λle=>aeA (Pt.hs _ _ _ (le.sub _ _ e)) hz) UG λle=>Hm (.d5 (le.sub _ _ e) z1 z2 hz)))
 |set l=>
  have LS:=rd;revert LS;exact kX rd λ{a es n t} e he ht LS=>by
   refine aB (PU (d:=d) LS) λl' p g=>?_;have hz:(l'.map λn:Nat=>PV.int n).length<=az:=by
    rw[bi,p.length_eq];exact aq ht.len (by decide)
   exact(cz _ (xL (h:qe l k=some r) p) hz (On (T:="set") (aA _ (x.hs _ _ e) rfl) (by decide) (by decide) (λle=>YX (Pt.hs _ _ _ (le.sub _ _ e))) hz λle=>g le.sub))
 |inst=>exact absurd rfl hn|_=>exact nS h
end
end
section
variable{c:Cx}{x y:Pt c}{d:Nat}{A:Am (d+2)}{u g:ac}{ps:List PV}{O:aK}{k:Str}
section
variable{out:List PV}{s:ag}{ks r:List (PV×PV)}{Q:ac->ag->Prop}{E:ac->ag->Prop}
def Ac(x:Pt c)(A:bh)(u:ac)(ps:List PV)(s:ag):Prop:=∀(Q:List ac->ag->Prop) E,(∀y us,Le x y->bt ps y us->Q us y.s)->ai (ah pw c.w) A (collect u) Q E s
theorem Ο(hs:ly (e7 O) ps=some out)(ty:ph ps=true)(Or:b9 c O d)(hz:ps.length<=az)(hc:Ac x A.A.in1 u ps s)(K:∀v y,Le x y->Rd (.list out) y v->Q v y.s):ai (ah pw c.w) A.A (bC (.builtin "sorted") [u]) Q E s:=by
 refine agj kind_sorted plain_sorted entry_sorted (args_sorted1 _) ?_;unfold Builtin.«sorted»;refine ae (m:=checkCount "sorted" 1 1 _) (au (ae (hc _ _ λy us le rd=>ae (KR ?_ (rN (rd.length▸hz))))));refine ae (dO (uZ slot_list_sort (aA _ (ft _ rfl) rfl) entry_list_sort ?_ (args_list_sort _)));exact ab1 (A:=A.in1.in1) hs ty Or (Bx.new (x:=y) (o:=bu us 0) (tk:=y.s.toks) (φ:=ed us) rfl ⟨0,rfl⟩) (rd.mono (y.cG (t:=y.s.toks) λ_ _=>c5 (bu us 0)).sub) hz λw us' b r hl=>cP (b.rd r (hl▸hz)) λw' e l rr=>(aA _ rfl (au (aA _ rfl (e▸K _ w' (le.trans l) rr))))
theorem Y6(ht:∀a,Builtin.«list.sort» ⟨[.ref a],[(dw "key",g)]⟩=ksk_tree a g false)(hk:nX O k ps=some ks)(ty:ph (ks.map (·.1))=true)(hs:ly (λa b=>e7 O a.1 b.1) ks=some r)(Or:b9 c O d)
(CX:∀{A:Am d} {p q:PV} {v:ac} {y:Pt c},O.fn k [p] []=some q->Rd p y v->aE A (bC g [v]) y (Rd q))(hz:ps.length<=az)(hc:Ac x A.A.in1 u ps s)(K:∀v y,Le x y->Rd (.list (r.map (·.2))) y v->Q v y.s):ai (ah pw c.w) A.A (bC (.builtin "sorted") [u] [(dw "key",g)]) Q E s:=by
 refine call_function_entry_kw kind_sorted plain_sorted entry_sorted (ksk_s1 _ _) ?_;unfold Builtin.«sorted»;refine ae (m:=checkCount "sorted" 1 1 _) (au (ae (hc _ _ λy us le rd=>ae (KR ?_ (rN (rd.length▸hz))))));refine ae (dO (wpAny_call_entry_kw slot_list_sort (aA _ (ft _ rfl) rfl) entry_list_sort ?_ (ksk_l1 _ _)));exact Β (A:=A.in1.in1) ht hk ty hs Or CX (Bx.new (x:=y) (o:=bu us 0) (tk:=y.s.toks) (φ:=ed us) rfl ⟨0,rfl⟩) (rd.mono (y.cG (t:=y.s.toks) λ_ _=>c5 (bu us 0)).sub) hz λw us' b r hl=>cP (b.rd r (hl▸hz)) λw' e l rr=>(aA _ rfl (au (aA _ rfl (e▸K _ w' (le.trans l) rr))))
end
section
variable{p v:PV}{F:Fm}{np pos:Pos}{e:Expr}{kws:List fj}{I:Ip}{σ:bj}
theorem Sa(P:cD):de P "sorted"=some (.builtin "sorted"):=⋯
theorem acS{P:cD}(h:pe P g)(a:ao):Builtin.«list.sort» ⟨[.ref a],[(dw "key",g)]⟩=ksk_tree a g false:=by
 rcases h with⟨id,rfl⟩|⟨T,rfl⟩|h
 ·rfl
 ·rfl
 ·induction g using AF with
  |ref q=>rfl|builtin=>rfl|type=>rfl|_=>exact ff h
theorem Rq(Or:b9 c O d)(hk:ak F.nm ("sorted":Str)=some .globalImplicit)(hs:iC e=false)(hex:∃ps,eC O F.nm ps kws=some p)
(h:∀(Q:ac->ag->Prop) E,(∀(y:Pt c) u ps,Le x y->eC O F.nm ps kws=some p->ps.length<=az->Ac x A.A.in1 u ps y.s->Q u y.s)->ai (ah pw c.w) A.A (eval e F.env) Q E x.s):aE A (eval (.Call (.Name "sorted" np) [e] kws pos) F.env) x (Rd p):=λQ E K=>by
 have hs:∀e'∈[e],iC e'=false:=λe' m=>cY m▸hs;have sp:∀{Q:List ac->ag->Prop},(∀(y:Pt c) u ps,Le x y->eC O F.nm ps kws=some p->ps.length<=az->Ac x A.A.in1 u ps y.s->Q [u] y.s)->ai (ah pw c.w) A.A (oq (ot pos (lE [e] F.env))) Q E x.s:=λ{Q} hh=>aa (wq hs) (wS (h _ _ λy u ps le a b c=>Cp (hh y u ps le a b c)));induction kws using bO with
 |nil=>
  exact wR (nj hk (Sa _) (by decide) x (sQ (lq hs) rfl (.inl ⟨_,rfl⟩) (sp λy u ps le hp hz hc=>uR ⟨y.cT,aL hp λty hp=>fH hp λout q1 q2=>Ο q1 ty Or hz hc (q2▸K)⟩)))
 |cons kw r=>
  obtain⟨UH,hex⟩:=hex;refine aL hex λh1 hex=>aj hex λkn h2 hex=>aL hex λh3 hex=>aj hex λks0 h4 _=>?_;obtain⟨ky,ex,kp⟩:=kw;obtain⟨h0,h1⟩:=h1;obtain rfl:=jI h0;obtain rfl:ky=some ("key":Str):=h1;obtain⟨ahR,rfl⟩:=uA h2;obtain⟨gv,g1,g2,g3⟩:∃g,de c.w.params kn=some g/\pe c.w.params g/\∀{p q:PV},O.fn kn [p] []=some q->qd c d g [p] [] q:=by
   induction UH using bO with
   |nil=>exact absurd rfl h3.2.2
   |cons p0 UH=>
    exact Ii h4 λu r hf _ _=>by
     refine cP (Or.fn hf) λg g1 g2 _=>(cz g g1 g2 (λhf'=>?_));obtain⟨g',e1,_,e3⟩:=Or.fn hf';cases ay (g1.symm.trans e1);exact e3
  refine wR (nj hk (Sa _) (by decide) x (sQ (lq hs) rfl (.inl ⟨_,rfl⟩) (sp λy u ps le hp hz hc=>bE λgG hG=>?_)));have hp:(if kn≠("__debug__":Str)/\ak F.nm kn=some .globalImplicit/\ps≠[] then(nX O kn ps).bind λks=>if ph (ks.map (·.1))=true then(ly (λa b=>e7 O a.1 b.1) ks).map λl=>PV.list (l.map (·.2)) else none else none)=some p:=hp;refine aL hp λ_ hp=>aj hp λks k1 hp=>aL hp λty hp=>fH hp λout q1 q2=>hG (wpAny_evalAll_cons (ae (nj h3.2.1 g1 h3.1 y (ae (jr (au (uR ⟨y.cT,?_⟩)))))));exact Y6 (acS g2) k1 ty q1 Or (λhf r=>g3 hf (.cons r .nil) .nil) hz hc (q2▸K)
theorem R1{β:Type}{k:List PV->Option β}{r:β}(h:eG v k=some r):∃ps,k ps=some r:=fZ h λ_ h=>by
 unfold over at h;cases e:v.Af with
 |none=>rw[e] at h;exact aj h λps _ h=>⟨ps,h⟩
 |some l=>rw[e] at h;exact⟨_,xL h (B6 _)⟩
theorem aei(S:aW c (d+2) I)(Or:b9 c O d)(hk:ak F.nm ("sorted":Str)=some .globalImplicit)(h1:I.e F.nm σ e=some v)(h2:(eG v λl=>eC O F.nm l kws)=some p)(X:bA F x σ):aE A (eval (.Call (.Name "sorted" np) [e] kws pos) F.env) x (Rd p):=
 Rq Or hk (Ax (S.nZ h1)) (R1 h2) λQ E K=>S.ev h1 X _ _ λu y l r=>cP (aax (A:=A.in1) h2 r) λps q1 q2 q3=>K y u ps l q1 q2 λQ E k=>q3 Q E λz us le=>k z us (l.trans le)
end
end
section
variable{c:Cx}{d e:Nat}{O:aK}
theorem RG(Or:b9 c O d)(h:d+3<=e):pH c O e where
 Nr ra rb:=aam ra rb
 sum h r:=UX h r
 max {A x v l p} hm r:=Yn (A:=A.mono (e:=d+2) (aq (iH _) h)) hm Or r
 set {A x v p l} hs r:=ael (A:=A.mono (e:=0+3) (aq (mG (cu d) 3) h)) hs r
 inter {A x v u l m dW} hv ra rb:=afF (A:=A.mono (e:=0+3) (aq (mG (cu d) 3) h)) hv ra rb
 QI r q:=ZW r q
 join h rz rl:=Μ h rz rl
theorem b9.mono(x:b9 c O d)(h:d<=e):b9 c O e where
 fn k:=by refine cP (x.fn k) λg a b r=>?_;exact(cz g a b (λ{A}=>r (A:=A.mono h)))
 bM k n:=by refine aB (x.bM k n) λg a r=>?_;exact(aA g a (λ{A}=>r (A:=A.mono h)))
 AI k A _ _ _:=x.AI k (A:=A.mono h)
 attr k n A _ _:=x.attr k n (A:=A.mono h)
 bin k A _ _ _:=x.bin k (A:=A.mono h)
 cmp k A _ _ _:=x.cmp k (A:=A.mono h)
 lt k:=by refine cP (x.lt k) λg a b r=>?_;exact(cz g a b (λ{A}=>r (A:=A.mono h)))
end
section
variable{w:cO}{A:bh}{s s':ag}{E:ac->ag->Prop}{a:ao}{g n:Nat}{gs y:jp}{K:ao->Prop}
theorem Za{R:GenEnd}{Y:Protocol}{Q:Option ac->ag->Prop}(hh:A.handled=none)(hl:s.heap.NoLimit)(ahv:A.depth<SI)(hg:s.heap.IsGen a g)(UI:s.gens[g]?=some gs)(hR:∀{n cX r bJ},R n cX r bJ->r=.ok .next\/r=.ok (.ret .none))
(UJ:gs.Goes (ah pw w) A.in1 R Y n (.send .none) (s.setGen g .running))
(hY:∀v bJ ie,ie.bare=true->Y (n-1) (s.setGen g .running) v bJ (λr' i8=>match n with
    |0=>False|m+1=>ie.Goes (ah pw w) A.in1 R Y m r' i8)->Q (some v) (bJ.setGen g ie))
(hP:∀r bJ,R n (s.setGen g .running) r bJ->∀h',(∀b o,bJ.heap.get? b=some o->h'.get? b=some o)->Q none {bJ.setGen g .finished with heap:=h'}):
  ai (ah pw w) A (gm (.ref a)) Q E s:=by
 have stop:∀{bJ:ag} {k:Unit->Sem Fin},(∀h',(∀b o,bJ.heap.get? b=some o->h'.get? b=some o)->Q none {bJ with heap:=h'})->ai (ah pw w) A.in1 (newExc (.type "StopIteration") []>>=λe=>raiseNew e>>=k) (λfin s'=> ∃v,fin=.done (.ret v)/\Q (some v) s') (λe s'=>s'.TypeIs e "StopIteration"/\Q none s') bJ:=λq=>by
  unfold newExc newTuple raiseNew;refine ae (ae (uW (ae (m:=KM _ _) (Cf (a:=oj) (by unfold KM;rfl) (uW (ae (ae (wpAny_handled ?_))) (by size_fits)))) (by size_fits)));exact aa (hh:A.in1.handled=none) (wpAny_throw ⟨(aA _ (ft _ rfl) rfl),q _ λb o q=>c5 _ (c5 _ q)⟩)
 have go:(gs=.running\/gs=.finished->False)->ai (ah pw w) A.in1 (agD (.ref a) (.send .none)) (λfin s'=> ∃v,fin=.done (.ret v)/\Q (some v) s') (λe s'=>s'.TypeIs e "StopIteration"/\Q none s') s:=λnr=>by
  unfold agD;refine ae (dO (wpAny_genNumber hg (ae (wpAny_genState UI ?_))));cases gs with
  |running=>exact(nr (.inl rfl)).elim|finished=>exact(nr (.inr rfl)).elim
  |_=>
   refine ae (wpAny_roomToWake hl ahv ?_);show ai _ A.in1 (.resume g (.send .none) [] _) _ _ s;exact wpAny_resumeQ UI UJ (λx bJ hx=>(hR hx).elim (λe=>by subst e;exact stop (hP _ bJ hx)) λe=>by subst e;exact stop (hP _ bJ hx)) λv bJ ie hb hv=>au (aA v rfl (hY v bJ ie hb hv))
 unfold gm;refine ae (KJ (KA (name:=dw "__next__") hg.typeIs slot_gen_next (uZ slot_gen_next hg.typeIs entry_gen_next ?_ (args_gen_next _))));refine cQ (go (λq=>by rcases q with rfl|rfl<;>exact UJ)) (λfin s' z=>?_) (λe s' z=>?_)
 ·refine aB z λv bY q=>?_;subst bY;exact(aA v rfl (au q))
 ·exact ae (q9 z.1 isSubtype_stop (au z.2))
theorem EL{i:Nat}(h:i≠g):(s.setGen g y).gens[i]?=s.gens[i]?:=by
 unfold ag.setGen;exact Array.getElem?_setIfInBounds_ne (gV h)
theorem Pc:(s.setGen g y).gens.size=s.gens.size:=Array.size_setIfInBounds
theorem MH(hg:s.gens[g]?=some gs)(hy:y.bare=true)(X:ch K (g+1) (s.setGen g .running) s'):s'.gens[g]?=some .running/\ch K g s (s'.setGen g y):=by
 have r:=X.gens g _ (i5 g) (setGen_self hg);refine⟨r,X.keep,λi z q e=>(EL (gE q)).trans (X.gens i z (KN q) ((EL (gE q)).trans e)),aq (aD (Pc (s:=s) (g:=g) (y:=.running)).symm) (aq X.di (aD Pc.symm)),λhb i z q e=>?_,X.os⟩;by_cases c:i=g
 ·subst c;rw[setGen_self r] at e;exact ay e▸hy
 ·rw[EL c] at e;exact X.bare (λj u q' e'=>hb j u (lF q') ((EL (fO q')).symm.trans e')) i z (pT q (gV c)) e
end
noncomputable def iL(d:Nat):bh:=⟨none,SI-4*d-1,none,none,tq- (40*d+40) -1⟩
section
variable{c:Cx}{x y z p:Pt c}{d g m n:Nat}{A:Am d}{a b:ao}{gs:jp}{s:ag}{E:ac->ag->Prop}{Q:Option ac->ag->Prop}{o:Obj}{l:List PV}
theorem O9{L b:Nat}(h:b<L):L-b-1+b<L:=aD (F0 h)
theorem Q0{L b n:Nat}(h:n+b<L):n<=L-b-1:=mP (agE h)
theorem Am.top(A:Am d):jy d (iL d):=⟨rfl,O9 (aQ (i7 _ _) A.ok.depth),aQ (aD (fC ..)) (O9 (aQ (mG (i7 ..) _) A.ok.units))⟩
theorem Am.up{α:Type}{M:f4}{t:Sem α}{Q:α->ag->Prop}(A:Am d)(h:ai M (iL d) t Q E s):ai M A.A t Q E s:=λΓ p i=>h Γ p
 (O' (i.1.trans A.ok.handled) (aq i.2.1 (Q0 A.ok.depth)) (λ_ h=>(nS h)) (λ_ h=>(nS h)) (aq i.2.2.2.2 (Q0 (aQ (aD (fC ..).symm) A.ok.units))))
noncomputable def Pt.base(y p:Pt c)(h:Sub p.f y.f):Pt c:={y with f:=p.f,K:=p.K,nt:=λa o e=>y.nt a o (h a o e),hs:=λa o e=>y.hs a o (h a o e)}
noncomputable def Pt.gen(y:Pt c)(g:Nat)(gs:jp):Pt c:={y with s:=y.s.setGen g gs}
noncomputable def Pt.join(y z:Pt c)(h:∀b o,y.f b=some o->z.s.heap.get? b=some o):Pt c where
 s:=z.s
 f b:=(y.f b).or (z.f b)
 keep:=z.keep
 tab:=z.tab
 K b o e:=by erw[y.K b o e];rfl
 nt b o e:=(CJ.mp e).elim (y.nt b o) λq=>z.nt b o q.2
 hs b o e:=(CJ.mp e).elim (h b o) λq=>z.hs b o q.2
theorem abN{h:∀b o,y.f b=some o->z.s.heap.get? b=some o}:Sub z.f (y.join z h).f:=λb o e=>by
 show(y.f b).or (z.f b)=some o;cases q:y.f b with
 |none=>exact e|some o'=>exact(h b o' q).symm.trans (z.hs b o e)
structure Gn(c:Cx) where
 p:Pt c
 a:ao
 g:Nat
 K:ao->Prop
 o:List PV
 T:Nat->Pt c->Prop
variable{G:Gn c}
def Gn.At(G:Gn c)(m:Nat)(s:ag):Prop:=∃y:Pt c,y.s=s/\y.f=G.p.f/\G.T m y
def Gn.R(G:Gn c):GenEnd:=λn cX r s=>(r=.ok .next\/r=.ok (.ret .none))/\n=0/\(∃z:Pt c,z.s=s)/\ch G.K (G.g+1) cX s
def Gn.Y(G:Gn c):Protocol:=λm cX v s CY=>(∃z:Pt c,z.s=s/\((∀b o,z.f b=some o->G.p.f b=some o\/cX.heap.get? b=none)/\∀b,G.K b->z.f b=none)/\∃p,G.o[G.o.length-1-m]?=some p/\Rd p z v)/\ch G.K (G.g+1) cX s/\G.At m s/\∀i8,G.At m i8->CY (.send .none) i8
def Gn.O(G:Gn c)(b:ao):Prop:=G.K b\/b=G.a
structure Gn.Ok(G:Gn c):Prop where
 st:∀{m u v},G.T m u->u.f=G.p.f->v.f=G.p.f->(∀b o,G.K b->u.s.heap.get? b=some o->v.s.heap.get? b=some o)->G.T m v
 lv:∀{m u},G.T m u->∀b,G.K b->∃o,u.s.heap.get? b=some o
 na:¬G.K G.a
structure Gn.Is(G:Gn c)(d m:Nat)(gs:jp)(x:Pt c):Prop where
 sub:Sub G.p.f x.f
 lv:lX G.O x
 ob:x.s.heap.IsGen G.a G.g
 gen:x.s.gens[G.g]?=some gs
 go:∀s,G.At m s->gs.Goes (ah pw c.w) (iL d).in1 G.R G.Y m (.send .none) s
 t:∃u:Pt c,u.f=G.p.f/\G.T m u/\∀b o,G.K b->u.s.heap.get? b=some o->x.s.heap.get? b=some o
theorem Gn.Is.later(i:G.Is d m gs x)(ok:G.Ok)(l:iu G.O (· <=G.g) x y):G.Is d m gs y where
 sub a o e:=l.sub a o (i.sub a o e)
 lv:=i.lv.later l
 ob:=by refine uz i.ob λo nm qn e r=>?_;exact(AN o nm qn (l.k _ _ (.inr rfl) e) r)
 gen:=l.g _ _ (bf _) i.gen
 go:=i.go
 t:=by refine cP i.t λu e t k=>?_;exact(cz u e t (λb o q e=>l.k b o (.inl q) (k b o q e)))
theorem Gn.step(ok:G.Ok)(A:Am d)(sub:Sub G.p.f y.f)(lv:∀b,G.O b->bV y b)(ob:y.s.heap.IsGen G.a G.g)(gen:y.s.gens[G.g]?=some gs)(go:gs.Goes (ah pw c.w) (iL d).in1 G.R G.Y n (.send .none) (y.s.setGen G.g .running))(kd:n=0->∀z,br G.K G.g y z->Q none z.s)(ki:∀m v p ie z,n=m+1->G.o[G.o.length-n]?=some p->Rd p z v->br G.K G.g y z->G.Is d m ie z->Q (some v) z.s):ai (ah pw c.w) A.A (gm (.ref G.a)) Q E y.s:=by
 have old:∀{s':ag},ch G.K (G.g+1) (y.s.setGen G.g .running) s'->∀b o,y.f b=some o->s'.heap.get? b=some o:=λX b o e=>X.keep b o (y.hs b o e) (y.nt b o e) λq=>nS ((lv b (.inl q)).f.symm.trans e);refine A.up (Za (A:=iL d) rfl y.nolimit (aQ (cW _ _) A.top.depth) ob gen (λq=>q.1) go (λv bJ ie hb hv=>?_) λr bJ hp h' k=>?_)
 ·obtain⟨⟨z,rfl,⟨new,kf⟩,p,e,r⟩,X,⟨u,e1,e2,t⟩,hk⟩:=hv;induction n using nq with
  |zero=>exact(hk z.s (cz u e1 e2 t)).elim
  |succ m=>
   refine dU (MH gen hb X) λrun X'=>?_;have UK:∀b o,(y.join z (old X)).f b=some o->y.f b=some o\/z.f b=some o/\y.s.heap.get? b=none:=λb o e=>(CJ.mp e).elim .inl λq=>(new b o q.2).imp (sub b o) λn=>⟨q.2,n⟩;have hu:u.s.heap=z.s.heap:=af _ e1;refine uz ob λo nm qn ea ra=>?_;have UL:=X.keep _ _ ea (cK (lv _ (.inr rfl)).hi) ok.na;refine ki m v p ie ((y.join z (old X)).gen G.g ie) rfl (by erw[gj m 1];rw[<-F4];exact e) (aV.mono (abN (h:=old X)) r) ⟨λb o e=>CJ.mpr (.inl e),λb o e=>(UK b o e).imp id λq=>.inl q.2,X'⟩
    ⟨λb o e=>CJ.mpr (.inl (sub b o e)),λb q=>⟨⟨?_,(lv b q).h₀,(lv b q).hi⟩,?_⟩,(AN o nm qn UL ra),setGen_self run,hk,u,e2,t,λb o q e=>(af (λh=>h.get? b) hu).symm.trans e⟩
   ·cases q':(y.join z (old X)).f b with
    |none=>exact q'|some o=>exact(UK b o q').elim (λe=>nS ((lv b q).f.symm.trans e)) λe=>q.elim (λq=>nS ((kf b q).symm.trans e.1)) λq=>nS (e.2.symm.trans (q▸ea))
   ·exact q.elim (λq=>(ok.lv t b q).elim λo e=>⟨o,(af (λh=>h.get? b) hu).symm.trans e⟩) λq=>⟨o,q▸UL⟩
 ·obtain⟨_,hn,⟨z,rfl⟩,X⟩:=hp;obtain⟨run,X'⟩:=MH (y:=.finished) gen rfl X;exact kd hn ((((y.join z (old X)).base y λb o e=>CJ.mpr (.inl e)).gen G.g .finished).grow h' z.s.toks k) ⟨λ_ _ e=>e,λ_ _=>.inl,⟨λb o e t q=>k b o (X'.keep b o e t q),X'.gens,X'.di,X'.bare,X'.os⟩⟩
theorem Gn.Is.next(i:G.Is d n gs y)(ok:G.Ok)(A:Am d)(kd:n=0->∀z,br G.K G.g y z->Q none z.s)(ki:∀m v p ie z,n=m+1->G.o[G.o.length-n]?=some p->Rd p z v->br G.K G.g y z->G.Is d m ie z->Q (some v) z.s):ai (ah pw c.w) A.A (gm (.ref G.a)) Q E y.s:=cP i.t λu e t k=>Gn.step ok A i.sub (λb q=>(i.lv b q).1) i.ob i.gen (i.go _ (cz ((y.base G.p i.sub).gen G.g .running) rfl rfl (ok.st t e rfl k))) kd ki
theorem Gn.iter(ok:G.Ok):∀{l:List PV} {x:Pt c} {gs:jp},G.o.drop (G.o.length-l.length)=l->l.length<=G.o.length->G.Is d l.length gs x->dM d G.a G.g l G.O x:=by
 have two:∀{n:Nat} {y:Pt c} {gs:jp} {A:Am d},G.Is d n gs y->(∀Q E,Q (.ref G.a) y.s->ai (ah pw c.w) A.A (gk (.ref G.a)) Q E y.s)/\(∀v t Q E,Q () y.s->ai (ah pw c.w) A.A (yR t (.ref G.a) v) Q E y.s):=λj=>aB j.ob.typeIs λo h1 h2=>⟨λQ E q=>wpAny_pyIter_gen j.ob q,λv t Q E q=>Dy h1 h2 (by decide) q⟩;intro l;induction l with
 |nil=>
  intro x gs hd hl i;refine⟨i.lv,λy A m=>?_⟩;have j:=i.later ok m;exact(eA ((two j).1) ((two j).2) (λQ E q=>j.next ok A (λ_ z st=>q z (st.weaken λ_=>.inl)) λm v p ie z e=>nomatch e))
 |cons p l ih=>
  intro x gs hd hl i;refine⟨i.lv,λy A m=>?_⟩;have j:=i.later ok m;have lt:G.o.length- (l.length+1)<G.o.length:=ze (ba (eE _) hl) (eE _);have LG:=(Cg lt).symm.trans hd;injection LG with d1 d2
  refine(eA ((two j).1) ((two j).2) (λQ E q=>j.next ok A (λe=>nomatch e) λm' v p' ie z e1 e2 r st j'=>?_));cases wK e1;cases(jM lt).symm.trans e2;exact q v G.O z (d1▸r) (ih ((af (List.drop · G.o) ((Nat.sub_add_comm hl).symm.trans (Tw ..))).symm.trans d2) (lF hl) j') (st.weaken λ_=>.inl) (λ_ q=>q) λ_=>.inl
end
section
variable{c:Cx}{F G:Fm}{sc:fk}{a:ao}{d e g:Nat}{σ:bj}{v:ac}{pos:Pos}{iter:Expr}
section
variable{x y z:Pt c}{A:bh}{E:ac->ag->Prop}{C I:ao}{code:ac}{m:Nat}{q:Str}
theorem afH{h:am}{c P:ao}{ps:Array ac}(t:h.TableAt c P ps)(r:h.CodeRec (.ref c) q):vF h (.ref c) q:=by
 refine bE λgG hG=>?_;obtain⟨⟨o,vs,e1,e2,e3,_⟩,_⟩:=t;refine Mf r λc' o' xe tk a1 a2 a3 a4=>?_;cases a1;cases ay (e1.symm.trans a2);exact hG ((zU c o xe tk rfl e1 e2 a3 a4))
theorem Nu{h h':am}{x:ac}{P:ao}(y:vF h x q)(k:am.ExtBut P h h')(n:∀o,h.get? P=some o->o.cls≠ .type "code"):vF h' x q:=Ny y λc o vs t a b e r z=>(zU c o vs t a (k c o (λq=>n o (q▸b) e) b) e r z)
theorem ζ{c:ao}(h:vw (.ref c)=true):∃P:ao,dC P/\((c=29/\P=25)\/(c=36/\P=32)\/(c=44/\P=40)):=by
 rcases mA h with h|h
 ·rcases mA h with h|h
  ·exact(aA 25 (.inl rfl) (.inl ⟨a5 h,rfl⟩))
  ·exact(aA 32 (.inr (.inl rfl)) (.inr (.inl ⟨a5 h,rfl⟩)))
 ·exact(aA 40 (.inr (.inr rfl)) (.inr (.inr ⟨a5 h,rfl⟩)))
theorem adq{pos:Pos}{a b:Int}{c x:ac}{l:List ac}:TriplesOk l->B7 pos (l++[c6 a,c6 b,c])=some x->B7 pos l=some x\/x=c:=
 TriplesOk.induct_unfolding (λl T=>T->B7 pos (l++[c6 a,c6 b,c])=some x->B7 pos l=some x\/x=c)
  (λ_ h=>.inr (aL (c:=(a==(pos.line:Int)&&b==(pos.col:Int))=true) h λ_ h=>(ay h).symm))
  (λi _ j _ _ _ ih k h=>d3 (c:=(i==(pos.line:Int)&&j==(pos.col:Int))=true) h (λq h=>.inl ((iP q).trans h)) λq h=>(ih k h).imp_left (iN q).trans) (λ_ _ _ k=>k.elim) l
theorem U1{pos:Pos}{Q:ac->ag->Prop}(hc:vw F.env.code=true)(hQ:∀v y,Le x y->y.f=x.f->Q v y.s):ai (ah pw c.w) A (genexprCode F.env pos q sc) Q E x.s:=by
 cases ec:F.env.code with
 |ref cc=>
  rw[ec] at hc;refine aB (ζ hc) λP tP hm=>cP (x.tab cc P hm) λps i t r=>?_;have nP:∀o,x.s.heap.get? P=some o->o.cls≠ .type "code":=λo e h=>by
   cases ay (t.2.symm.trans e);nomatch h
  cases hf:B7 pos ps.toList with
  |some c'=>exact wpAny_genexprCode_hit ec i hf (hQ _ x (.refl x) rfl)
  |none=>
   refine wpAny_genexprCodeX ec i t hf λc' h' tk k1 k2 k3 k4 k5 k6 k7=>cP k7 λP' k8 _ k9=>?_;have new:=afH k9 k5;have T:ir h':=λLU UM LV=>by
    by_cases hP:UM=P
    ·have hcc:LU=cc:=by
      subst hP;rcases hm with⟨rfl,rfl⟩|⟨rfl,rfl⟩|⟨rfl,rfl⟩<;>rcases LV with⟨rfl,h⟩|⟨rfl,h⟩|⟨rfl,h⟩<;>first|rfl|nomatch h
     subst hP hcc;refine(cz _ k4 k6 (λpos' x e=>?_));have htr:TriplesOk ps.toList:=by obtain⟨_,_,_,_,_,_,_,_,_,_,_,_,_,_,_,_,_,_,_,z,_⟩:=i;exact z
     rw[show(ps++ #[c6 pos.line,c6 pos.col,pO c']).toList=ps.toList++[c6 pos.line,c6 pos.col,.ref c'] from Array.toList_append] at e;rcases adq htr e with e|rfl
     ·exact dL (r pos' x e) λq' z=>⟨q',Nu z k1 nP⟩
     ·exact⟨_,new⟩
    ·refine cP (x.tab LU UM LV) λahw ahx ahy LM=>?_;have UN:LU≠P:=λe=>by
      refine bE λgG hG=>?_;subst e;refine hG ?_;rcases hm with⟨rfl,h⟩|⟨rfl,h⟩|⟨rfl,h⟩<;>rcases LV with⟨h',rfl⟩|⟨h',rfl⟩|⟨h',rfl⟩<;>rw[h'] at h<;>nomatch h
     exact(cz ahw (ahx.extBut k1 UN hP) (ahy.extBut k1 UN hP) (λpos' x e=>dL (LM pos' x e) λq' z=>⟨q',Nu z k1 nP⟩))
   exact hQ _ (x.to _ (.Nf λb o e n=>k1 b o (λq=>n (q▸tP)) e) T) (Le.to _ _) rfl
 |_=>rw[ec] at hc;exact ff hc
def OI(F:Fm)(sc:fk)(C:ao)(code:ac):Env:=genEnv sc (iV F.env sc.names []) C code uM F.env
theorem qc(S:tZ F.nm sc)(h:(iV F.env sc.names []).lookup q=some a):F.env.cells.lookup q=some a:=(Ml (EH S) h).elim id λh=>nS h
theorem Dj:(OI F sc C code).kindOf q=ak sc.names q:=HM
def QH(F:Fm)(sc:fk)(C:ao)(code:ac)(S:tZ F.nm sc)(hn:∀y∈sc.names,y.2≠tv)(nC:¬dC C)(old:∀z a,F.env.cells.lookup z=some a->a≠C):Fm where
 env:=OI F sc C code
 nm:=sc.names
 kind:=S.kind
 glob:=F.glob
 blt:=rfl
 names x e:=Dj.trans e
 cells x e n:=e.elim (λe=>absurd rfl (hn _ (gN e))) λe=>⟨.inr (Dj.trans e),E0 (.inr (gN e))⟩
 i9:=⟨nC,λx a e=>F.i9.2 x a (qc S e)⟩
 cl x a e:=old x a (qc S e)
 apart x y a e1 e2:=F.apart x y a (qc S e1) (qc S e2)
 code g:=by rw[S.ng] at g;exact ff g
structure rR(G:Fm)(x:Pt c)(σ:bj):Prop where
 v:bA G x σ
 o:jD G x
def Ek(G:Fm)(f:Fz):Prop:=∀z b,G.env.cells.lookup z=some b->∃o,f b=some o
theorem acz(hc:Ek G x.f)(hf:Sub x.f y.f)(k:∀o,x.s.heap.get? G.env.locals=some o->y.s.heap.get? G.env.locals=some o)(b:ao)(o:Obj)(w:dm G.env b)(e:x.s.heap.get? b=some o):y.s.heap.get? b=some o:=w.elim (λq=>by subst q;exact k o e) λq=>q.elim λz q=>(hc z b q).elim λo' e'=>y.hs b o (hf b o (ay ((x.hs b o' e').symm.trans e)▸e'))
theorem rR.keep(r:rR G x σ)(hc:Ek G x.f)(hf:y.f=x.f)(k:∀o,x.s.heap.get? G.env.locals=some o->y.s.heap.get? G.env.locals=some o):rR G y σ:=
 have k:=acz hc (λb o e=>(congrFun hf b).trans e) k
 ⟨r.v.keep k λb o e=>(congrFun hf b).trans e,r.o.keep r.v.cU k λb _ n _=>⟨(congrFun hf b).trans n.f,n.h₀,n.hi⟩⟩
structure GP(c:Cx) where
 p:Pt c
 a:ao
 g:Nat
 e:Nat
 F:Fm
 I:ao
 J:Ip
 t:Expr
 elt:Expr
 σ:bj
 o:List PV
variable{B:GP c}{cX:ag}{Q:ac->ag->Prop}
def GP.K(B:GP c)(b:ao):Prop:=b=B.F.env.locals\/b=B.I
def GP.T(B:GP c)(m:Nat)(u:Pt c):Prop:=rR B.F u B.σ/\∃src,(src.length=m/\m<=B.o.length)/\n7 B.e B.I src u/\kJ (B.J.e B.F.nm) B.F.nm B.t B.elt B.σ src=some (B.o.drop (B.o.length-m))
noncomputable def GP.gn(B:GP c):Gn c:=⟨B.p,B.a,B.g,B.K,B.o,B.T⟩
structure GP.Ok(B:GP c):Prop where
 co:B.F.env.scope.isCoroutine=false
 tQ:Ek B.F B.p.f
 na:¬B.K B.a
 nI:¬dm B.F.env B.I
 ow:∀b,tK B.F b->b=B.F.env.locals
 S:aW c B.e B.J
theorem GP.Ok.gn(k:B.Ok):B.gn.Ok where
 st {m u v} h hu hv kp:=by
  obtain⟨r,src,h1,h2,h3⟩:=h;have hf:v.f=u.f:=hv.trans hu.symm;exact⟨r.keep (λz b q=>hu▸k.tQ z b q) hf λo=>kp _ o (.inl rfl),src,h1,h2.later ⟨λb o e=>(congrFun hf b).trans e,λb o q=>kp b o (.inr q),λb q=>(congrFun hf b).trans (h2.live b q).1.f,λ_ _ q=>q.elim⟩,h3⟩
 lv {m u} h b q:=by
  refine bE λgG hG=>?_;obtain⟨r,src,h1,h2,h3⟩:=h;exact hG (q.elim (λq=>by subst q;refine ut r.o.ns λm o es ep e _=>?_;exact⟨o,e⟩) λq=>(h2.live b q).2)
 na:=k.na
structure GP.Dw(B:GP c)(m:Nat)(cX:ag)(v:ac)(z:Pt c):Prop where
 f:z.f=B.p.f
 x:ch B.K (B.g+1) cX z.s
 r:rR B.F z B.σ
 ex:∃v0 σ' px src,((src.length=m/\m+1<=B.o.length)/\n7 B.e B.I src z/\kJ (B.J.e B.F.nm) B.F.nm B.t B.elt B.σ src=some (B.o.drop (B.o.length-m)))/\B.o[B.o.length-1-m]?=some px/\lx B.t B.σ=true/\fT (gY B.F.nm) B.t v0 B.σ=some σ'/\B.J.e B.F.nm σ' B.elt=some px/\Rd v0 z v
structure GP.RL(B:GP c)(m:Nat)(cX:ag)(px:PV)(σ':bj)(y:Pt c):Prop where
 f:y.f=B.p.f
 x:ch B.K (B.g+1) cX y.s
 v:bA B.F y σ'
 o:B.o[B.o.length-1-m]?=some px
 e:B.J.e B.F.nm σ' B.elt=some px
 t:B.T m y
theorem GP.Ok.done(k:B.Ok)(A:Am B.e){u:Pt c}(x:ch B.K (B.g+1) cX u.s)(h:B.T 0 u){Q:Option ac->ag->Prop}(q:∀z:Pt c,ch B.K (B.g+1) cX z.s->Q none z.s):ai (ah pw c.w) A.A (gm (.ref B.I)) Q E u.s:=by
 refine bE λgG hG=>?_;obtain⟨r,src,h1,h2,h3⟩:=h;cases List.eq_nil_of_length_eq_zero h1.1;exact hG ((h2.2 u A (.refl h2.1)).2.2 _ _ λz w=>q z (x.trans ((w _).e.weaken λ_=>.inr)))
theorem GP.Ok.next(k:B.Ok)(A:Am B.e){u:Pt c}(hu:u.f=B.p.f)(x:ch B.K (B.g+1) cX u.s)(h:B.T (m+1) u){Q:Option ac->ag->Prop}(q:∀v z,B.Dw m cX v z->Q (some v) z.s):ai (ah pw c.w) A.A (gm (.ref B.I)) Q E u.s:=by
 refine bE λgG hG=>?_;obtain⟨r,src,h1,h2,h3⟩:=h;refine hG ?_;induction src using bO with
 |nil=>nomatch h1.1
 |cons v0 src=>
  refine bE λgG hG=>aL h3 λhf h3=>aj h3 λσ' hb h3=>aj h3 λpx hv h3=>fH h3 λmore h4 h5=>?_;have lt:B.o.length- (m+1)<B.o.length:=ze (ba (eE _) h1.2) (eE _);have hd:=h5.trans (Cg lt);injection hd with d1 d2
  refine hG ((h2.2 u A (.refl h2.1)).2.2 _ _ λv z rv i w=>q v z ⟨(w 0).f.trans hu,x.trans ((w _).e.weaken λ_=>.inr),r.keep (λz b q=>hu▸k.tQ z b q) (w 0).f λo e'=>(w 0).e.keep _ o e' B.F.i9.1 λq=>k.nI (.inl q.symm),v0,σ',px,src,(eA ⟨wK h1.1,h1.2⟩ i (h4.trans (af some (d2.trans (af (B.o.drop ·) ?_))))),?_,hf,hb,hv,rv⟩)
  ·rw[Nat.sub_succ];exact agF (rh h1.2)
  ·rw[F4,gj 1];exact(jM lt).trans (af some d1.symm)
theorem GP.Dw.go{z:Pt c}(M:B.Dw m cX v z)(A:Am B.e){Q:Unit->ag->Prop}(q:Q () z.s):ai (ah pw c.w) A.A (yR B.t (.ref B.I) v) Q E z.s:=by
 refine bE λgG hG=>?_;obtain⟨v0,σ',px,src,⟨_,i,_⟩,_⟩:=M.ex;exact hG ((i.iter (g:=0)).go A q)
theorem GP.Ok.put(k:B.Ok){z:Pt c}(M:B.Dw m cX v z)(A:Am B.e){Q:Unit->ag->Prop}(q:∀px σ' y,B.RL m cX px σ' y->Q () y.s):ai (ah pw c.w) A.A (uT B.t B.F.env v) Q E z.s:=by
 refine bE λgG hG=>?_;obtain⟨v0,σ',px,src,⟨h1,i,h4⟩,ho,hf,hb,hv,rv⟩:=M.ex;exact hG (RE hb M.r.v M.r.o rv λy b=>q px σ' y ⟨(b.w 0).f.trans M.f,M.x.trans ((b.w _).e.weaken λb q=>.inl (k.ow b q)),b.v,ho,hv,⟨b.v.weaken λz q e=>Se hb hf e,b.o⟩,src,⟨h1.1,lF h1.2⟩,i.later (cH.later (b.w _).st i.live λb q h=>k.nI (q▸m9 h)),h4⟩)
theorem GP.Ok.give(k:B.Ok){y y':Pt c}{px:PV}{σ':bj}{CY:Resume->ag->Prop}(T:B.RL m cX px σ' y)(le:Le y y')(r:Rd px y' v)(h:∀u:Pt c,u.f=B.p.f->B.T m u->CY (.send .none) u.s):B.gn.Y m cX v y'.s CY:=by
 have sub:Sub B.p.f y'.f:=T.f▸le.sub;have hi:∀b,B.K b->¬dC b:=λb q=>q.elim (λq=>q▸cK T.t.1.o.own.hi) λq=>T.t.2.elim λsrc h=>q▸cK (h.2.1.live B.I rfl).1.hi;exact(Aa ⟨y',rfl,⟨λb o q=>(le.new b o q).imp (λq=>(congrFun T.f b).symm.trans q) λq'=>(T.x.back (y'.nt b o q) q').elim id λz=>(k.gn.lv T.t b z).elim λo e=>nS (q'.symm.trans e),λb q=>(bV.le (q.elim (λq=>q▸T.t.1.o.own) λq=>T.t.2.elim λsrc h=>q▸(h.2.1.live B.I rfl).1) le (k.gn.lv T.t b q)).f⟩,px,T.o,r⟩ (T.x.trans le.e.nJ) (cz (y'.base B.p sub) rfl rfl (k.gn.st T.t T.f rfl λb o q e=>le.e.keep b o e (hi b q))) (λi8 q=>by refine cP q λu bY e t=>?_;subst bY;exact h u e t))
theorem jy.over{A:bh}{d:Nat}{G:Fm}{elt:Expr}{gens:List jL}{it acc:ac}(x:jy (d+1) A):jy d (A.over (.compLoop (.GeneratorExp elt gens sc pos) 0 it acc G.env) []):=x.to x.handled (o6 (show 1<=4 by decide)) (o6 (show 3<=40 by decide))
noncomputable def GP.IR(B:GP c)(iter:Expr)(sc:fk)(pos:Pos):Code:=.compLoop (.GeneratorExp B.elt [⟨B.t,iter,[],0⟩] sc pos) 0 (.ref B.I) .none B.F.env
theorem afN(k:B.Ok)(hA:jy B.e (((iL (B.e+2)).in1).over (B.IR iter sc pos) [])):∀(m:Nat) (u:Pt c),u.f=B.p.f->B.T m u->Seg (ah pw c.w) (iL (B.e+2)).in1 B.gn.R B.gn.Y m u.s (B.IR iter sc pos) ((ah pw c.w).den (B.IR iter sc pos)) [] u.s:=by
 intro m;induction m with
 |zero=>
  intro u hu h;show Seg _ _ _ _ _ u.s _ ((Cm (.GeneratorExp B.elt [⟨B.t,iter,[],0⟩] sc pos) 0 (.ref B.I) .none B.F.env).onRaise (wU B.F.env)) [] u.s;rw[agG,F5];exact ib (jr (ib (k.done ⟨_,hA⟩ (.refl _) h λz x=>seg_end (.ok .next) (Aa (.inl rfl) rfl ⟨z,rfl⟩ x))))
 |succ m ih=>
  intro u hu h;show Seg _ _ _ _ _ u.s _ ((Cm (.GeneratorExp B.elt [⟨B.t,iter,[],0⟩] sc pos) 0 (.ref B.I) .none B.F.env).onRaise (wU B.F.env)) [] u.s;rw[agG,F5];refine ib (jr (ib (k.next ⟨_,hA⟩ hu (.refl _) h λv z M=>ib (M.go ⟨_,hA⟩ (ib (k.put M ⟨_,hA⟩ λpx σ' y T=>?_))))));simp only[yU,pure_bind,if_true];have hyo:∀v,yieldOut B.F.env v=yieldValue v:=λv=>by simp only[yieldOut,k.co,yW,if_false]
  simp only[hyo];rw[Tx,Tx,Tz,Tz];exact seg_wrap (k.S.ev (A:=(⟨_,hA⟩:Am B.e)) T.e T.v _ _ λv' y' le LW=>seg_at (seg_yield rfl rfl rfl (k.give T le LW λu e t=>F6 rfl (ih u e t))))
end
section
variable{x y z w:Pt c}{b:ao}{elt:Expr}{outs ps:List PV}{p:PV}{u:ac}{β:Type}{k:List PV->Option β}{r:β}{n:Nat}
theorem ε{B:GP c}(k:B.Ok)(hA:jy (B.e+1) ((iL (B.e+2)).in1)){u:Pt c}(hu:u.f=B.p.f)(h:B.T n u):Seg (ah pw c.w) (iL (B.e+2)).in1 B.gn.R B.gn.Y n u.s (.compStart (.GeneratorExp B.elt [⟨B.t,iter,[],0⟩] sc pos) 0 (.ref B.I) .none B.F.env) ((ah pw c.w).den (.compStart (.GeneratorExp B.elt [⟨B.t,iter,[],0⟩] sc pos) 0 (.ref B.I) .none B.F.env)) [] u.s:=by
 refine bE λgG hG=>?_;have o:=jy.over (sc:=sc) (G:=B.F) (gens:=[⟨B.t,iter,[],0⟩]) (elt:=B.elt) (pos:=pos) (it:=.ref B.I) (acc:=.none) hA;have loop:=afN k o n u hu h;obtain⟨r,src,h1,h2,h3⟩:=h;refine hG ?_;show Seg _ _ _ _ _ u.s _ ((Kv (.GeneratorExp B.elt [⟨B.t,iter,[],0⟩] sc pos) 0 (.ref B.I) .none B.F.env).onRaise (wU B.F.env)) [] u.s;unfold Kv;rw[F5];show Seg _ _ _ _ _ u.s _ ((ask>>=_).wrap _ _ _ _) [] u.s;refine ib (oC ?_);split
 ·exact F6 rfl loop
 ·have hA':jy B.e ((iL (B.e+2)).in1.over (.compStart (.GeneratorExp B.elt [⟨B.t,iter,[],0⟩] sc pos) 0 (.ref B.I) .none B.F.env) []):=⟨o.handled,o.depth,o.units⟩;exact ib (uV (ib (jr (ib ((h2.iter (g:=0)).self (A:=(⟨_,hA'⟩:Am B.e)) (F6 rfl loop))))))
theorem Y4{env:Env}{l:aN}{acc:List (Str×ao)}(h:l.all (λp=>p.2 !=.free)=true):iV env l acc=acc:=by
 induction l with
 |nil=>rfl
 |cons p l ih=>
  obtain⟨h1,h2⟩:=aX h;show(if(p.2==.free)=true then _ else _)=_;exact aa (iN λq=>bne_iff_ne.mp h1 (a5 q)) (ih h2)
open Classical in
def Pt.ll(x:Pt c)(F:Fm):Pt c where
 s:=x.s
 f b:=if∃z,F.env.cells.lookup z=some b then x.s.heap.get? b else x.f b
 keep:=x.keep
 tab:=x.tab
 K a o e:=by
  by_cases q:∃z,F.env.cells.lookup z=some a
  ·exact(iP q).trans (x.cT a o e)
  ·exact(iN q).trans (x.K a o e)
 nt a o e:=by
  by_cases q:∃z,F.env.cells.lookup z=some a
  ·exact q.elim λz q=>F.i9.2 z a q
  ·exact x.nt a o ((iN q).symm.trans e)
 hs a o e:=by
  by_cases q:∃z,F.env.cells.lookup z=some a
  ·exact(iP q).symm.trans e
  ·exact x.hs a o ((iN q).symm.trans e)
structure Ae(F:Fm)(sc:fk)(x y:Pt c):Prop where
 s:y.s=x.s
 sub:Sub x.f y.f
 tQ:∀z b,(iV F.env sc.names []).lookup z=some b->∃o,y.f b=some o
theorem Ae.ll(X:bA F x σ)(S:tZ F.nm sc):Ae F sc x (x.ll F) where
 s:=rfl
 sub b o e:=by
  by_cases q:∃z,F.env.cells.lookup z=some b
  ·exact(iP q).trans (x.hs b o e)
  ·exact(iN q).trans e
 tQ z b e:=eH (X.cU z b (qc S e)) λv o e1 _=>⟨o,(iP ⟨z,qc S e⟩).trans e1⟩
theorem Ae.id(h:sc.names.all (λp=>p.2 !=.free)=true):Ae F sc x x:=⟨rfl,λ_ _ e=>e,λz b e=>by rw[Y4 h] at e;exact nS e⟩
theorem ϐ(h:eG p k=some r)(rd:Rd p x u):∃ps,k ps=some r/\ps.length<=az/\∀{A:Am d} {y:Pt c},Sub x.f y.f->uH A (gk u) y ps:=fZ h λhn h=>by
 induction p using dq with
 |tup l=>exact⟨l,h,(iT rd λ_ _ z=>⟨l,rfl,z⟩:∃z,_/\_).elim λ_ q=>q.2,λs=>Qo (rd.mono s)⟩|list l=>exact⟨l,h,(dY rd λ_ _ z=>⟨l,rfl,z⟩:∃z,_/\_).elim λ_ q=>q.2,λs=>Ht (rd.mono s)⟩
 |d5 lo hi=>exact(cz _ h (by
   rw[bi,cF];exact qz (m:=λ_=>(hi-lo).toNat<=az) rd λ_ _ _ hz=>Lo.mpr hz) (λs=>OG (rd.mono s)))
 |set l=>
  exact aB (MT (d:=d) rd) λl' p g=>(cz _ (xL (h:qe l k=some r) p) (by
   rw[bi,p.length_eq];exact kX (m:=λ_=>l.length<=az) rd λ_ _ ht=>aq ht.len (by decide)) g)
 |inst=>exact absurd rfl hn|_=>exact nS h
theorem aa8(P:cD):nsIn (KL P) mE "__builtins__"=some (some (.ref 4)):=⋯
theorem ZF(P:cD):(KL P).lookup 4=some {cls:=.type "module",dict:=some 0,data:=.plain}:=⋯
theorem Zj{A:bh}{E:ac->ag->Prop}{Q:ao->ag->Prop}(x:Pt c)(h:Q uM x.s):ai (ah pw c.w) A (builtinsFor mE uM) Q E x.s:=dL c.g λmg g=>wpAny_builtinsFor (g.keeps x.keep) (mg_of c.K g (aa8 _)) (by decide) (x.cT 4 _ (ZF _)) rfl rfl rfl h
structure A7(d:Nat)(x w:Pt c)(u:ac)(outs:List PV):Prop where
 le:Le x w
 it:∃a K g,u=.ref a/\K a/\dM d a g outs K w/\(∀b,K b->x.s.heap.get? b=none)/\x.s.gens.size<=g/\g<=w.s.gens.size
 ty:w.s.TypeIs u "generator"
end
end
section
variable{c:Cx}{x:Pt c}{F:Fm}{d e:Nat}{σ:bj}{I J:Ip}{O:aK}{ex:Expr}{pos:Pos}{p v:PV}
section
variable{y z w:Pt c}{sc:fk}{A:Am d}{t elt it:Expr}{outs ps:List PV}{kk:List PV->Option PV}{fr:Bool}{Q:ac->ag->Prop}{E:ac->ag->Prop}{ev:bj->Expr->Option PV}{nm:aN}
theorem XB:∀{ps outs:List PV},kJ ev nm t elt σ ps=some outs->outs.length=ps.length:=by
 intro ps;induction ps with
 |nil=>exact λh=>ay h▸rfl|cons v ps ih=>exact λh=>aL h λ_ h=>aj h λ_ _ h=>aj h λ_ _ h=>fH h λmore h e=>e▸af jq (ih h)
theorem OW{m:Expr->Prop}(h:vA O I J nm σ fr kk ex=some p)(K:∀elt t it sc pos v,(fr=true\/(sc.names.all λp=>p.2 !=.free)=true)->O.gens=true->pC nm=true->HV sc=true->zG it=true->Bs nm sc=true->I.e nm σ it=some v->(eG v λsrc=>(kJ (J.e sc.names) sc.names t elt (lH sc σ) src).bind kk)=some p->m (.GeneratorExp elt [⟨t,it,[],0⟩] sc pos)):m ex:=by
 induction ex using ej with
 |GeneratorExp elt gs sc pos=>
  refine aj h λg h1 h=>aL h λq h=>aj h λv h2 h3=>dU (aX q) λr1 q1=>dU (aX r1) λr2 q2=>dU (aX r2) λr3 q3=>?_;obtain⟨r4,q4⟩:=aX r3;obtain⟨r5,q5⟩:=aX r4;obtain⟨r6,q6⟩:=aX r5;refine dU (aX r6) λr7 q7=>?_;obtain⟨t,it,ifs,as⟩:=g;cases jI q2;cases a5 q1;induction gs using bO with
  |nil=>exact nS h1
  |cons g gs=>induction gs using bO with
   |nil=>cases ay h1;exact K elt t it sc pos v (mA r7) q7 q6 q5 q4 q3 h2 h3
   |cons=>exact nS h1
 |_=>exact nS h
theorem afo{env:Env}(h:zG it=true)(k:qa it=true):genFold it env=pure:=funext λv=>by
 induction it using ej with
 |Name=>exact AA k env v|Call=>exact AA k env v|_=>exact ff h
theorem Ze{C:ao}{code:ac}{c3:∀y∈sc.names,y.2≠tv}{nC:¬dC C}{old:∀z a,F.env.cells.lookup z=some a->a≠C}(so:tZ F.nm sc)(X:bA F y σ)(k:∀b o,y.s.heap.get? b=some o->¬dC b->w.s.heap.get? b=some o)(sub:Sub y.f w.f):bA (QH F sc C code so c3 nC old) w (lH sc σ) where
 cU z a e:=eH (X.cU z a (qc so e)) λv o e1 e2=>(dh v o (k a o e1 (F.i9.2 z a (qc so e))) e2)
 var z p e:=by
  refine dU (OD e) λe1 e2=>aB (X.var z p e1) λv V r=>dU (so.free z (gN e2)) λa b=>?_;have kk:=F.cells z a b;refine(aA v (.inr ⟨.inr ⟨Dj.trans e2,kH b⟩,?_⟩) (r.mono sub));rcases V with⟨q,_⟩|⟨q,c0,e3,o,i1,i2⟩
  ·rw[q] at kk;exact kk.1.elim (λq=>nomatch q) λq=>nomatch q
  ·obtain⟨c',e4⟩:=tG.mp (E0 (env:=F.env) (acc:=[]) (.inr (gN e2)));cases ay ((qc so e4).symm.trans e3);exact⟨_,e4,o,k _ o i1 (F.i9.2 z _ e3),i2⟩
theorem Pp{C:Pt c->Pt c->Prop}(S:aW c d I)(S':aW c e J)(he:e+2<=d)(hg:pC F.nm=true)(CZ:HV sc=true)(hp:zG it=true)(hs:Bs F.nm sc=true)(h1:I.e F.nm σ it=some v)(h2:(eG v λsrc=>(kJ (J.e sc.names) sc.names t elt (lH sc σ) src).bind kk)=some p)(X:bA F x σ)
(zV:∀{y:Pt c},bA F y σ->∃y',C y y'/\Ae F sc y y')(k:∀y y' w u outs,Le x y->C y y'->kk outs=some p->outs.length<=az->A7 (e+2) y' w u outs->Q u w.s):ai (ah pw c.w) A.A (eval (.GeneratorExp elt [⟨t,it,[],0⟩] sc pos) F.env) Q E x.s:=by
 have so:=HN hs;obtain⟨c1,c3⟩:=aX CZ;refine dU (aX c1) λc1 c2=>?_;have c3:∀y∈sc.names,y.2≠tv:=λy m=>bne_iff_ne.mp (b7 c3 y m);refine wpAny_GeneratorExp_make (tu _▸c1) (Qa λq m e=>EH so q.1 (e▸m)) c3 (a5 c2) so.kind (aQ (cW _ _) A.ok.depth) (S.ev h1 X _ _ λxv y le r=>?_) λv=>?_
 rotate_left
 ·exact congrFun (afo hp (S.nZ h1)) v
 refine bE λgG hG=>cP (ϐ (d:=e) h2 r) λps q1 q2 q3=>aj q1 λouts q4 q5=>aB (zV (X.le le)) λy' hC ct=>hG (gZ (ct.s) (q3 (A:=A.mono (aq (cW _ 2) he)) ct.sub _ _ λy1 DT _ i=>⟨y1.nolimit,U1 (F.code hg) λcode z UO hz=>?_⟩));have nI:=eV y'.s.heap;generalize y'.s.heap.objs.size=Ia at i nI⊢;refine aa (F.glob) (aa (F.blt) (Zj z λh' hn mZ=>?_));have tJ:=DT.trans UO;have keep:∀{ob:Obj} b o,z.s.heap.get? b=some o->(h'.push ob).get? b=some o:=λb o e=>c5 _ (mZ.extBut b o (gE (fB e)) (c5 _ e));have hsz:h'.objs.size=z.s.heap.objs.size+1:=by erw[mZ.1];rw[oA]
 have Iz:=(i.later ((cH.later (W:=λ_=>False) UO.st i.live λ_ _=>id)));have ahz:∀z' a,F.env.cells.lookup z'=some a->a<z.s.heap.objs.size:=λz' a q=>eH ((X.le le).cU z' a q) λv o e _=>fB (tJ.e.keep a o (ct.s▸e) (F.i9.2 z' a q));have nC:∀b,z.s.heap.objs.size<=b->y'.s.heap.get? b=none/\bV z b:=λb l=>⟨tJ.e.back (z.j0 l) (DJ l),z.free l (DJ l)⟩;have old:=λz' a q=>gE (ahz z' a q);have ltI:Ia<z.s.heap.objs.size:=(Iz.live Ia rfl).2.elim λo e=>fB e;have hl:=XB q4;generalize hG:QH F sc z.s.heap.objs.size code so c3 (z.j0 (bf _)) old=G;have hE:G.env=genEnv sc (iV F.env sc.names []) z.s.heap.objs.size code uM F.env:=hG▸rfl;have hN:G.nm=sc.names:=hG▸rfl;have hL:G.env.locals=z.s.heap.objs.size:=hE▸rfl;refine gZ (hE) ?_;generalize pY:({cls:=.type "generator",data:=.fields #[.int z.s.gens.size 0,.str "<genexpr>" (z.s.toks+1),.str (F.env.qual++ "<genexpr>") (z.s.toks+1+1)]}:Obj)=ob;have LZ:ob.isFreed=false:=pY▸rfl;have x3:e9 z.s {z.s with gens:=z.s.gens.push (.fresh (.compStart (.GeneratorExp elt [⟨t,it,[],0⟩] sc pos) 0 (.ref Ia) .none G.env)),toks:=z.s.toks+1+1+1,heap:=h'.push ob}:=⟨λb o e _=>keep b o e,λi x e=>by
   erw[KV];erw[iN (gE (ag'.mp e).1)];exact e,λi x l e=>by
   rw[KV] at e;by_cases q:i=z.s.gens.size
   ·rw[iP q] at e;cases ay e;rfl
   ·rw[iN q] at e;exact uc l e,rfl⟩
 have lw:Le z (z.to _ x3 (z.tab.keeps keep)):=Le.to _ _;generalize hw:z.to _ x3 (z.tab.keeps keep)=w at lw;have ws:w.s={z.s with gens:=z.s.gens.push (.fresh (.compStart (.GeneratorExp elt [⟨t,it,[],0⟩] sc pos) 0 (.ref Ia) .none G.env)),toks:=z.s.toks+1+1+1,heap:=h'.push ob}:=hw▸rfl;have wf:w.f=z.f:=hw▸rfl;have Iw:=Iz.later (cH.later (W:=λ_=>False) lw.st Iz.live λ_ _=>id);have fr:∀b,z.s.heap.objs.size<=b->bV w b:=λb l=>⟨(congrFun wf b).trans (nC b l).2.f,(nC b l).2.h₀,(nC b l).2.hi⟩;have sub:Sub y'.f w.f:=λb o e=>lw.sub b o (tJ.sub b o e);have V:rR G w (lH sc σ):=by
  subst hG;exact⟨Ze so (X.le le) (λb o e n=>(tJ.trans lw).e.keep b o (ct.s▸e) n) λb o e=>sub b o (ct.sub b o e),⟨_,by erw[ws];exact hn.push _⟩,fr _ (bf _),λq e=>Dj.trans e,λq e=>absurd rfl (c3 _ (gN e))⟩
 have tQ:Ek G w.f:=λz' b q=>by
  subst hG;exact(ct.tQ z' b q).elim λo e=>⟨o,sub b o e⟩
 have sa:z.s.heap.objs.size<=h'.objs.size:=hsz▸iH _;have na:¬(h'.objs.size=G.env.locals\/h'.objs.size=Ia):=λq=>q.elim (λq=>Nat.succ_ne_self _ (hsz.symm.trans (q.trans hL))) λq=>cV _ (aQ sa (q▸ltI));have nI':¬dm G.env Ia:=λq=>q.elim (λq=>cV _ (hL▸q▸ltI)) λq=>q.elim λz' q=>by
  subst hG;exact eH ((X.le le).cU z' Ia (qc so q)) λv o e _=>nS (nI.symm.trans (ct.s▸e))
 have gs:w.s.gens[z.s.gens.size]?=some (.fresh (.compStart (.GeneratorExp elt [⟨t,it,[],0⟩] sc pos) 0 (.ref Ia) .none G.env)):=by erw[ws];exact agH
 have ga:w.s.heap.get? h'.objs.size=some ob:=by erw[ws];exact ft _ LZ
 have H:GP.Ok ⟨w,h'.objs.size,z.s.gens.size,e,G,Ia,J,t,elt,lH sc σ,outs⟩:=⟨by show G.env.scope.isCoroutine=false;erw[hE];exact tu _▸c1,tQ,na,nI',λb q=>q.elim id λq=>q.elim λx q=>absurd rfl (c3 _ (gN (hN▸q.1))),S'⟩;have Is:(GP.gn ⟨w,h'.objs.size,z.s.gens.size,e,G,Ia,J,t,elt,lH sc σ,outs⟩).Is (e+2) outs.length (.fresh (.compStart (.GeneratorExp elt [⟨t,it,[],0⟩] sc pos) 0 (.ref Ia) .none G.env)) w:={
  sub:=λ_ _ e=>e
  lv:=λb q=>q.elim (λq=>q.elim (λq=>q▸⟨V.o.own,V.o.ns.elim λm n=>by refine uz n λo es ep e _=>?_;exact⟨o,e⟩⟩) λq=>Iw.live b q) λq=>by subst q;exact⟨fr _ sa,ob,ga⟩
  ob:=(yv ob (.str "<genexpr>" (z.s.toks+1)) (.str (F.env.qual++ "<genexpr>") (z.s.toks+1+1)) ga (pY▸rfl) (pY▸rfl) (pY▸rfl))
  gen:=gs
  go:=λs h=>by obtain⟨u,rfl,hu,h⟩:=h;exact⟨rfl,ε H (Am.in1 (d:=e+1) ⟨iL (e+2),(A.mono he).top⟩).ok hu h⟩
  t:=(cz w rfl ⟨V,ps,⟨hl.symm,bf _⟩,Iw,by show kJ (J.e G.nm) G.nm t elt (lH sc σ) ps=some (outs.drop (outs.length-outs.length));erw[hN];rw[zf];exact q4⟩ (λb o _ e=>e))}
 exact gZ (ws) (k y y' w _ outs le hC q5 (hl▸q2) ⟨tJ.trans lw,(YG _ _ z.s.gens.size rfl (.inr rfl) (Gn.iter H.gn (show outs.drop (outs.length-outs.length)=outs by rw[zf];rfl) (bf _) Is) (λb q=>q.elim (λq=>q.elim (λq=>(nC b (aD (hL.symm.trans q.symm))).1) λq=>q▸nI) λq=>(nC b (q▸sa)).1) tJ.e.di lw.e.di),ob,ga,pY▸rfl⟩)
end
noncomputable def ZV(I:ao):Option ac->Sem Fin
 |none=>do rule "all.exhausted";ret (.bool true)
 |some v=>do
  let yes<-yV [v] (yM v)
  letGo [v]
  if yes then again (.builtin "all.loop" ⟨[.ref I],[]⟩) else(do rule "all.false-item";ret (.bool false))
noncomputable def aeX(I:ao):Option ac->Sem Fin
 |none=>do rule "any.exhausted";ret (.bool false)
 |some v=>do
  let yes<-yV [v] (yM v)
  letGo [v]
  if yes then(do rule "any.true-item";ret (.bool true)) else again (.builtin "any.loop" ⟨[.ref I],[]⟩)
section
variable{y z w:Pt c}{g:Nat}{outs l:List PV}{u:ac}{a:ao}{K:ao->Prop}{b:Bool}
theorem ad4{w:cO}{s:ag}(hT:s.TypeIs (.ref a) "generator"):By w a s:=λ{A Q} h=>by
 unfold Tu;refine ae (Fy hT PySem.F.gen_no_len ?_);show ai _ A (specialOf (pO a) (dw "__length_hint__")>>=_) _ _ _;exact ae (Fy hT PySem.F.gen_no_hint (au (h true s.toks)))
theorem Η{A:Am (d+1)}(i:A7 d x w u outs)(hz:outs.length<=az):Ac x A.A u outs w.s:=λQ E k=>by
 refine bE λgG hG=>?_;obtain⟨le,⟨a,K,g,rfl,ka,i,nw,g1,g2⟩,ty⟩:=i;refine hG (OQ (A:=A) le ty (by decide) (by decide) hz (λ{y S Q E} l b nS q=>?_) k);have i':=i.later (cH.later (W:=λ_=>False) l.st i.live λ_ _=>id);exact aB ty λo t1 t2=>i'.self A.in1 (q y a K g ⟨b,i',nw,λk=>(i.live S k).2.elim λo e=>Mine.nS (nS.symm.trans e),g1,aq g2 l.e.di⟩ (ad4 (aA o (l.e.keep _ _ t1 (cK (i.live a ka).1.hi)) t2)))
theorem Le.on(l:Le x y)(st:br K g y z)(nK:∀b,K b->x.s.heap.get? b=none)(g1:x.s.gens.size<=g)(g2:g<=y.s.gens.size):Le x z:=br.le (br.trans l.st ((st.lower g1 g2).weaken nK)) λ_ q=>q
theorem Mp{A:Am (d+1)}{R:mL->ag->Prop}{L:String}{kk:Option ac->Sem Fin}(ahA:(Code.builtin L ⟨[.ref a],[]⟩).quiet=true)
(GC:∀{s:ag},ai (ah pw c.w) A.in1.A (gm (.ref a)>>=kk) (λfin s'=>match fin with|.done f=>R (.ok f) s'|.again c'=>c'.quiet=true/\eO (ah pw c.w) A.A c' R s') No s->eO (ah pw c.w) A.A (.builtin L ⟨[.ref a],[]⟩) R s)
(hd:∀{Q:Fin->ag->Prop} {s:ag},Q (.done (.ret (.bool b))) s->ai (ah pw c.w) A.in1.A (kk none) Q No s)(hi:∀{Q:Fin->ag->Prop} {s:ag},Q (.again (.builtin L ⟨[.ref a],[]⟩)) s->ai (ah pw c.w) A.in1.A (kk (some (.bool b))) Q No s)
(k:∀z,Le x z->R (.ok (.ret (.bool b))) z.s)(g1:x.s.gens.size<=g):∀{l:List PV} {K:ao->Prop} {y:Pt c},l.all (PV.BZ b)=true->Le x y->dM d a g l K y->(∀b,K b->x.s.heap.get? b=none)->g<=y.s.gens.size->eO (ah pw c.w) A.A (.builtin L ⟨[.ref a],[]⟩) R y.s:=by
 intro l;induction l with
 |nil=>exact λhb le i nK g2=>GC (ae (i.done A.in1 λz st=>hd (k z (le.on st nK g1 g2))))
 |cons p l ih=>
  intro K y hb le i nK g2;refine dU (aX hb) λhp vg=>GC (ae (i.next A.in1 λv K' z rv i' st _ dn=>?_));revert rv;cases p with
  |bool b'=>
   cases a5 hp;exact λrv=>lW rv (hi ⟨ahA,ih vg (le.on st nK g1 g2) i' (λq h=>(dn q h).elim (nK q) λn=>le.e.back (cK (i'.live q h).1.hi) n) (aq g2 st.e.di)⟩)
  |_=>exact ff hp
theorem VS{A:Am (d+2)}{Q E}(i:A7 d x w u outs)(hb:outs.all (PV.BZ true)=true)(k:∀z,Le x z->Q (.bool true) z.s):ai (ah pw c.w) A.A (bC (.builtin "all") [u]) Q E w.s:=by
 refine bE λgG hG=>?_;obtain⟨le,⟨a,K,g,rfl,ka,i,nw,g1,g2⟩,ty⟩:=i;refine hG (Tq PySem.F.kind_all PySem.F.plain_all PySem.F.entry_all (PySem.F.args_all1 _) ?_);unfold Builtin.«all»;refine ae (m:=oneArg "all" _) (au (ae (i.self (A.in1.mono (e:=d) (iH d)) (au ⟨iJ TA _,Mp (A:=A.mono (e:=d+1) (iH _)) (kk:=ZV a) (iJ TA _) (λh=>jP PySem.F.entry_all_loop (by
  erw[kD TA _];exact cQ h (λ_ _ z=>z) λ_ _ z=>z.elim)) (λq=>ae (uV (au q))) (λq=>ae (dO (wM (ae (wV (au q)))))) k g1 hb le i nw g2⟩))))
theorem aaC{A:Am (d+2)}{Q E}(i:A7 d x w u outs)(hb:outs.all (PV.BZ false)=true)(k:∀z,Le x z->Q (.bool false) z.s):ai (ah pw c.w) A.A (bC (.builtin "any") [u]) Q E w.s:=by
 refine bE λgG hG=>?_;obtain⟨le,⟨a,K,g,rfl,ka,i,nw,g1,g2⟩,ty⟩:=i;refine hG (Tq PySem.F.kind_any PySem.F.plain_any PySem.F.entry_any (PySem.F.args_any1 _) ?_);unfold Builtin.«any»;refine ae (m:=oneArg "any" _) (au (ae (i.self (A.in1.mono (e:=d) (iH d)) (au ⟨iJ TB _,Mp (A:=A.mono (e:=d+1) (iH _)) (kk:=aeX a) (iJ TB _) (λh=>jP PySem.F.entry_any_loop (by
  erw[kD TB _];exact cQ h (λ_ _ z=>z) λ_ _ z=>z.elim)) (λq=>ae (uV (au q))) (λq=>ae (dO (wM (ae (wV (au q)))))) k g1 hb le i nw g2⟩))))
theorem aaG(P:cD):de P "all"=some (.builtin "all"):=⋯
theorem aed(P:cD):de P "any"=some (.builtin "any"):=⋯
end
section
variable{A:Am (d+2)}{np:Pos}{kws:List fj}{nm:Str}
theorem aaE(S:aW c (d+2) I)(S':O.gens=true->aW c e J)(he:e+4<=d+2)(hk:ak F.nm nm=some .globalImplicit)(hx:nm=("all":Str)\/nm=("any":Str))(h:vA O I J F.nm σ true (xY (nm==("all":Str))) ex=some p)(X:bA F x σ):aE A (eval (.Call (.Name nm np) [ex] [] pos) F.env) x (Rd p):=
 OW (m:=λex=>aE A (eval (.Call (.Name nm np) [ex] [] pos) F.env) x (Rd p)) h λelt t it sc gp v _ hO hg CZ hp hs h1 h2 Q E K=>by
  have go:∀(g:ac) (b:Bool),(nm==("all":Str))=b->de c.w.params nm=some g->pe c.w.params g->nm≠("__debug__":Str)->(∀{y w:Pt c} {u:ac} {outs:List PV} {Q E},A7 (e+2) y w u outs->outs.all (PV.BZ b)=true->(∀z,Le y z->Q (.bool b) z.s)->ai (ah pw c.w) A.A (bC g [u]) Q E w.s)->
    ai (ah pw c.w) A.A (eval (.Call (.Name nm np) [.GeneratorExp elt [⟨t,it,[],0⟩] sc gp] [] pos) F.env) Q E x.s:=λg b hb gv kg nd fin=>by
   have UP:∀e'∈[Expr.GeneratorExp elt [⟨t,it,[],0⟩] sc gp],iC e'=false:=λe' m=>cY m▸rfl;refine wR (nj hk gv nd x (sQ (lq UP) rfl kg (aa (wq UP) (wS (Pp (C:=λy y'=>y'.s=y.s) S (S' hO) (aq (i3 (by decide) e) he) hg CZ hp hs h1 h2 X (λ{y} X=>(aA (y.ll F) rfl (.ll X (HN hs)))) λy y' w u outs le ce q1 q2 gi=>Cp (uR ⟨w.cT,?_⟩))))));rw[hb] at q1;exact aL q1 λq e=>fin gi q λz lz=>K _ (y.to z.s (ce▸lz.e) z.tab) (le.trans (Le.to _ _)) (ay e▸ .bool)
  rcases hx with rfl|rfl
  ·exact go _ true rfl (aaG _) (.inl ⟨_,rfl⟩) (by decide) λgi q k=>VS (A:=A.mono he) gi q k
  ·exact go _ false rfl (aed _) (.inl ⟨_,rfl⟩) (by decide) λgi q k=>aaC (A:=A.mono he) gi q k
theorem B_(Or:b9 c O d)(S:aW c (d+2) I)(S':O.gens=true->aW c e J)(he:e+4<=d+2)(hk:ak F.nm ("sorted":Str)=some .globalImplicit)(h:vA O I J F.nm σ false (λvs=>eC O F.nm vs kws) ex=some p)(X:bA F x σ):aE A (eval (.Call (.Name "sorted" np) [ex] kws pos) F.env) x (Rd p):=
 OW (m:=λex=>aE A (eval (.Call (.Name "sorted" np) [ex] kws pos) F.env) x (Rd p)) h λelt t it sc gp v nf hO hg CZ hp hs h1 h2=>by
  refine dL (R1 h2) λps q=>Rq Or hk rfl (aj q λouts _ q=>⟨outs,q⟩) λQ E K=>Pp (C:=λy y'=>y'=y) S (S' hO) (aq (i3 (by decide) e) he) hg CZ hp hs h1 h2 X (λX=>(aA _ rfl (.id (nf.resolve_left dy)))) λy y' w u outs le ce q1 q2 gi=>?_;subst ce;exact K w u outs (le.trans gi.le) q1 q2 λQ E k=>Η (A:=A.in1.mono (KC he)) gi q2 Q E λz us l=>k z us (le.trans l)
theorem NI(Or:b9 c O d)(S:aW c (d+2) I)(S':O.gens=true->aW c e J)(he:e+4<=d+2):BD c O (d+2) I J where
 Rb hk hx h X:=aaE S S' he hk hx h X
 Nq hk h X:=B_ Or S S' he hk h X
 PF hk h1 h2 X:=aei S Or hk h1 h2 X
end
end
section
variable{c:Cx}{x y z w:Pt c}{d:Nat}{v:ac}{yp ey py ps pa:Pos}{l:List PV}
def lD:Ip:=⟨λnm σ e=>(iB e).bind λx=>HA nm σ x,λ_ _ _=>none⟩
section
variable{B:GP c}{m:Nat}{cX:ag}{UQ:Pos}{kk:mL->Sem Fin}{hd:Option ac}{lv kp:List ac}{cc:Code}
theorem abE:aW c d lD where
 nZ h:=aj h λz e _=>BV (m:=λe=>qa e=true) e λ_=>rfl
 tup h:=nS h
 lst h:=nS h
 ev {A x F σ e p} h X:=aj h λz e h=>BV (m:=λe=>aE A (eval e F.env) x (Rd p)) e λ_=>RH h X
 te h:=nS h
theorem aaW{env:Env}(h:env.scope.kind=.function):Ky env=false:=by unfold Ky;erw[h];rfl
noncomputable def GP.IF(B:GP c)(yp ey:Pos):Code:=.forLoop B.t (.ref B.I) [.Expr (.Yield (some B.elt) yp) ey] [] B.F.env
theorem abk(k:B.Ok)(hA:jy B.e ((iL (B.e+2)).in1.over (B.IF yp ey) [.ret kk hd false lv cc UQ kp]))
(hk:∀cX (z:Pt c),ch B.K (B.g+1) cX z.s->Seg (ah pw c.w) (iL (B.e+2)).in1 B.gn.R B.gn.Y 0 cX cc (kk (.ok .next)) [] z.s):
  ∀(m:Nat) (cX:ag) (u:Pt c),u.f=B.p.f->B.T m u->ch B.K (B.g+1) cX u.s->Seg (ah pw c.w) (iL (B.e+2)).in1 B.gn.R B.gn.Y m cX (B.IF yp ey) ((ah pw c.w).den (B.IF yp ey)) [.ret kk hd false lv cc UQ kp] u.s:=by
 intro m;induction m with
 |zero=>
  intro cX u hu h X;show Seg _ _ _ _ _ cX _ ((forTurn B.t (.ref B.I) [.Expr (.Yield (some B.elt) yp) ey] [] B.F.env).onRaise _) _ u.s;rw[F5];unfold forTurn;exact ib (jr (ib (wpAny_onRaise (k.done ⟨_,hA⟩ X h λz x=>F6 rfl (seg_leaf (.ok .next) (hk cX z x))))))
 |succ m ih=>
  intro cX u hu h X;show Seg _ _ _ _ _ cX _ ((forTurn B.t (.ref B.I) [.Expr (.Yield (some B.elt) yp) ey] [] B.F.env).onRaise _) _ u.s;rw[F5];unfold forTurn;refine ib (jr (ib (wpAny_onRaise (k.next ⟨_,hA⟩ hu X h λv z M=>ib (M.go ⟨_,hA⟩ (ib (k.put M ⟨_,hA⟩ λpx σ' y T=>?_)))))));rw[Tx,Tz];exact seg_execs_cons (seg_Expr_Yield rfl rfl rfl (k.S.ev (A:=(⟨_,hA⟩:Am B.e)) T.e T.v _ _ λv' y' le LW CY ahB=>k.give T le LW λu e t=>ahB .none u.s (F6 rfl (ih u.s u e t (.refl _)))) k.co (aaW B.F.kind))
end
section
variable{F:Fm}{e g m:Nat}{A:Am d}{a:ao}{z1:Str}{px pos:Pos}
theorem Wa{w:cO}{A:bh}{s:ag}{E:ac->ag->Prop}{K:kq}{x C c:ao}{ox:Obj}{od:Option Obj}{Q:ac->ag->Prop}(X:K.In s.heap)(J:InstAt s.heap x ox C od)(hs:fN K (.ref C) "__iter__"=some (some (.ref c)))(hf:ou K (.ref c)=true)
(h:ai (ah pw w) A (bC (.ref c) [.ref x]) (λit s'=>s'.TypeIs it "generator"/\Q it s') E s):ai (ah pw w) A (gk (.ref x)) Q E s:=by
 have key:∀t:Sem ac,ai (ah pw w) A (agI (.ref x) "__iter__" t) (λr s'=> ∃v,r=some v/\s'.TypeIs v "generator"/\Q v s') E s:=λt=>by
  unfold agI bindSpecialIfBound?;refine dO (ae (ae (ae (J.type.here ((y7 X hs).here (ae (oC (wpAny_ite ?_))))))));have last:ai (ah pw w) A (bC (.ref c) [.ref x]>>=λv=>pure (some v)) (λr s'=> ∃v,r=some v/\s'.TypeIs v "generator"/\Q v s') E s:=
   ae (cQ h (λv s' z=>au (aA v rfl z)) λ_ _ z=>z)
  split
  ·exact ae ((bind_fn X _ (a5 hf)).here (au (by exact last)))
  ·exact FY (ae ((bind_fn X _ (a5 hf)).here (au (by exact last))))
 unfold gk;refine ae (ae (J.type.here ((y7 X hs).here (ae (cQ (key _) (λr s' z=>?_) λ_ _ z=>z)))));refine cP z λv bY T q=>?_;subst bY;exact ae (Fy T slot_gen_next.lookup (au q))
theorem afR{nm:aN}{σ:bj}(hx:ak nm z1=some .local)(hd:z1≠("__debug__":Str))(hσ:ak σ z1=none):kJ (lD.e nm) nm (.Name z1 px) (.Name z1 py) σ l=some l:=by
 induction l with
 |nil=>rfl
 |cons v l ih=>
  have h1:lx (.Name z1 px) σ=true:=by show(wb (.Name z1 px)).all _=true;unfold wb;erw[Ko];erw[hσ];rfl
  have h2:fT (gY nm) (.Name z1 px) v σ=some (cf σ z1 v):=iP (.inl hx);have h3:lD.e nm (cf σ z1 v) (.Name z1 py)=some v:=by
   show(if z1=("__debug__":Str) then none else if ak nm z1=some .globalImplicit then IN z1 else ak (cf σ z1 v) z1)=some v;refine aa (iN hd) (aa (hx) (aa (iN (by decide)) (aa (wn) (aa (iP rfl) ?_))));rfl
  show(if lx (.Name z1 px) σ=true then(fT (gY nm) (.Name z1 px) v σ).bind λσ'=>(lD.e nm σ' (.Name z1 py)).bind λx=>(kJ (lD.e nm) nm (.Name z1 px) (.Name z1 py) σ l).map λmore=>x::more else none)=_;refine aa (iP h1) (aa (h2) (aa (ih) ?_));show((lD.e nm (cf σ z1 v) (.Name z1 py)).bind _)=_;erw[h3];rfl
noncomputable def rJ(z1:Str)(px py ps pa yp ey pos:Pos):List aH:=[.For (.Name z1 px) (.Attribute (.Name "self" ps) "_voters" pa) [.Expr (.Yield (some (.Name z1 py)) yp) ey] [] pos]
structure PR(F:Fm)(w:Pt c)(a:ao)(e:Nat)(z1:Str)(σ:bj)(v vl:ac)(l:List PV):Prop where
 co:F.env.scope.isCoroutine=false
 cl:∀b,dm F.env b->b=F.env.locals
 na:a≠F.env.locals
 fa:bV w a
 hx:ak F.nm z1=some .local
 hd:z1≠("__debug__":Str)
 hσ:ak σ z1=none
 r:rR F w σ
 V:dB F.env w.s.heap "self" v
 rd:Rd (.list l) w vl
 get:∀{y:Pt c} {A:bh} {Q:ac->ag->Prop} {E:ac->ag->Prop},Sub w.f y.f->(∀t,Q vl {y.s with toks:=t})->ai (ah pw c.w) A (uP v "_voters" true) Q E y.s
theorem PR.ok{σ:bj}{vl:ac}(H:PR F w a e z1 σ v vl l){I:ao}(h1:I≠F.env.locals)(h2:a≠I):GP.Ok ⟨w,a,g,e,F,I,lD,.Name z1 px,.Name z1 py,σ,l⟩ where
 co:=H.co
 tQ z b q:=absurd (H.cl b (.inr ⟨z,q⟩)) (F.cl z b q)
 na q:=q.elim H.na h2
 nI q:=h1 (H.cl _ q)
 ow b q:=H.cl b (m9 q)
 S:=abE
theorem VE{σ:bj}{vl:ac}(H:PR F w a e z1 σ v vl l)(hA:jy (e+1) (iL (e+2)).in1)(hy:y.f=w.f)(r:rR F y σ)(V:dB F.env y.s.heap "self" v)(na:a≠y.s.heap.objs.size):
  Seg (ah pw c.w) (iL (e+2)).in1 (GP.gn ⟨w,a,g,e,F,y.s.heap.objs.size,lD,.Name z1 px,.Name z1 py,σ,l⟩).R (GP.gn ⟨w,a,g,e,F,y.s.heap.objs.size,lD,.Name z1 px,.Name z1 py,σ,l⟩).Y l.length y.s (.func (rJ z1 px py ps pa yp ey pos) F.env) ((ah pw c.w).den (.func (rJ z1 px py ps pa yp ey pos) F.env)) [] y.s:=by
 have nl:y.s.heap.objs.size≠F.env.locals:=λq=>ut r.o.ns λm o es ep e _=>cV _ (fB (q▸e));have ok:=H.ok (g:=g) (px:=px) (py:=py) nl na;have hA1:jy e ((iL (e+2)).in1.over (.func (rJ z1 px py ps pa yp ey pos) F.env) []):=hA.to rfl (o6 (show 1<=4 by decide)) (o6 (show 3<=40 by decide));refine seg_func (seg_execs_cons ?_);rw[exec_For];refine ib (jr (ib (H3 rfl (Co (Az F V (H.get (λb o e=>(congrFun hy b).trans e) λt=>?_)) rfl))));refine ib (Cf rfl (ib (jr (ib (dO (Ht (A:=(⟨_,hA1⟩:Am e)) (x:=y.tok t) (l:=l) (H.rd.mono λb o e=>(congrFun hy b).trans e) _ _ λy2 le hf i=>seg_call λp=>abk (B:=⟨w,a,g,e,F,y.s.heap.objs.size,lD,.Name z1 px,.Name z1 py,σ,l⟩) ok ?_ (λcX z X=>seg_end (.ok (.ret .none)) (Aa (.inr rfl) rfl ⟨z,rfl⟩ X)) l.length y.s y2 (hf.trans hy) ⟨⟨r.v.le ((y.cG _).trans le),r.o.le r.v ((y.cG _).trans le)⟩,l,⟨rfl,bf _⟩,i,?_⟩ ((y.cG _).trans le).e.nJ))))))
 ·exact hA.to rfl (o6 (show 1<=4 by decide)) (o6 (show 3<=40 by decide))
 ·show _=some (l.drop (l.length-l.length));rw[zf];exact afR H.hx H.hd H.hσ
end
section
variable{F:Fm}{e g m:Nat}{A:Am d}{a:ao}{vl:ac}{z1:Str}{px pos:Pos}{σ:bj}
def pK(F:Fm)(a b:ao):Prop:=b=F.env.locals\/b=a
theorem PR.next{B:Am (e+2)}(H:PR F w a e z1 σ v vl l)(hg:w.s.gens[g]?=some (.fresh (.func (rJ z1 px py ps pa yp ey pos) F.env)))(ob:w.s.heap.IsGen a g)(lv:lX (pK F a) w)(m:iu (pK F a) (· <=g) w y){Q:Option ac->ag->Prop}{E:ac->ag->Prop}
(kd:l.length=0->∀z,br (pK F a) g y z->Q none z.s)(ki:∀m v p ie z,l.length=m+1->l[l.length-l.length]?=some p->Rd p z v->br (pK F a) g y z->(GP.gn ⟨w,a,g,e,F,y.s.heap.objs.size,lD,.Name z1 px,.Name z1 py,σ,l⟩).Is (e+2) m ie z->GP.Ok ⟨w,a,g,e,F,y.s.heap.objs.size,lD,.Name z1 px,.Name z1 py,σ,l⟩->Q (some v) z.s):
  y.s.heap.IsGen a g/\ai (ah pw c.w) B.A (gm (.ref a)) Q E y.s:=by
 have L0:=lv.later m;have UR:y.s.heap.IsGen a g:=by refine uz ob λo nm qn e r=>?_;exact(AN o nm qn (m.k a o (.inr rfl) e) r)
 have nI:y.s.heap.get? y.s.heap.objs.size=none:=eV _;have kp:∀b o,dm F.env b->w.s.heap.get? b=some o->y.s.heap.get? b=some o:=λb o q e=>m.k b o (.inl (H.cl b q)) e;have nl:∀b,pK F a b->b≠y.s.heap.objs.size:=λb q e=>(L0 b q).2.elim λo e'=>nS (nI.symm.trans (e▸e'));have ok:=H.ok (g:=g) (px:=px) (py:=py) (gV (nl _ (.inl rfl))) (nl _ (.inr rfl));have r1:rR F ((y.base w m.sub).gen g .running) σ:=⟨H.r.v.keep kp λ_ _ e=>e,H.r.o.keep H.r.v.cU kp λb _ n _=>⟨n.f,n.h₀,n.hi⟩⟩;have seg:=VE (g:=g) (px:=px) (py:=py) (ps:=ps) (pa:=pa) (yp:=yp) (ey:=ey) (pos:=pos) H (Am.in1 (d:=e+1) ⟨iL (e+2),B.top⟩).ok (y:=(y.base w m.sub).gen g .running) rfl r1 (H.V.keep kp) (nl _ (.inr rfl));have sh:∀{z:Pt c},br (GP.gn ⟨w,a,g,e,F,y.s.heap.objs.size,lD,.Name z1 px,.Name z1 py,σ,l⟩).K g y z->br (pK F a) g y z:=λst=>st.shrink λb q=>q.elim (λq=>.inl (.inl q)) λq=>.inr (q▸nI);exact⟨UR,Gn.step (G:=GP.gn ⟨w,a,g,e,F,y.s.heap.objs.size,lD,.Name z1 px,.Name z1 py,σ,l⟩) ok.gn B m.sub (λb q=>q.elim (λq=>q.elim (λq=>(L0 b (.inl q)).1) λq=>y.free (aD q.symm) (q▸nI)) λq=>(L0 b (.inr q)).1) UR (m.g g _ (bf _) hg) ⟨rfl,seg⟩ (λe z st=>kd e z (sh st)) λm' v p ie z e1 e2 r st i=>ki m' v p ie z e1 e2 r (sh st) i ok⟩
theorem WP(H:PR F w a e z1 σ v vl l)(hg:w.s.gens[g]?=some (.fresh (.func (rJ z1 px py ps pa yp ey pos) F.env)))(ob:w.s.heap.IsGen a g):dM (e+2) a g l (pK F a) w:=by
 have lv:lX (pK F a) w:=λb q=>q.elim (λq=>q▸⟨H.r.o.own,by refine ut H.r.o.ns λm o es ep e _=>?_;exact⟨o,e⟩⟩) λq=>q▸⟨H.fa,by refine uz ob λo _ _ e _=>?_;exact⟨o,e⟩⟩;have two:∀{y:Pt c} {A:Am (e+2)},y.s.heap.IsGen a g->(∀Q E,Q (.ref a) y.s->ai (ah pw c.w) A.A (gk (.ref a)) Q E y.s)/\(∀v t Q E,Q () y.s->ai (ah pw c.w) A.A (yR t (.ref a) v) Q E y.s):=λj=>aB j.typeIs λo h1 h2=>⟨λQ E q=>wpAny_pyIter_gen j q,λv t Q E q=>Dy h1 h2 (by decide) q⟩;have obs:∀{y:Pt c},iu (pK F a) (· <=g) w y->y.s.heap.IsGen a g:=λm=>by refine uz ob λo nm qn e r=>?_;exact(AN o nm qn (m.k a o (.inr rfl) e) r)
 induction l using bO with
 |nil=>exact⟨lv,λy A m=>(eA ((two (obs m)).1) ((two (obs m)).2) (λQ E k=>(H.next (B:=A) hg ob lv m (λ_=>k) λm v p ie z e=>nomatch e).2))⟩
 |cons p l=>
  refine⟨lv,λy A m=>(eA ((two (obs m)).1) ((two (obs m)).2) (λQ E k=>(H.next (B:=A) hg ob lv m (λe=>nomatch e) λm' v p' ie z e1 e2 r st i ok=>?_).2))⟩;rw[zf] at e2;cases ay e2;cases wK e1;refine k v _ z r (Gn.iter ok.gn ?_ (iH _) i) st (λb q=>q.imp .inl id) λb q=>q.elim (λq=>q.elim (λq=>.inl (.inl q)) λq=>.inr (q▸eV _)) λq=>.inl (.inr q);show(p::l).drop (l.length+1-l.length)=l;rw[F7];rfl
def ja:aY:=⟨582,c7 37 11,"Profile.__iter__",.none,.str (dw "abcvoting.preferences") 849,.ref 581,[],[]⟩
noncomputable def v8(l c e f:Nat):Pos:={line:=l,col:=c,endLine:=e,endCol:=f}
theorem aeS:ja.body=rJ "voter" (v8 634 12 634 17) (v8 635 18 635 23) (v8 634 21 634 25) (v8 634 21 634 33) (v8 635 12 635 23) (v8 635 12 635 23) (v8 634 8 635 23)/\ja.scope.names=([("self",.local),("voter",.local)]:aN)/\ja.names=(["self"]:List Str)/\ja.plain=true/\ja.scope.kind=.function/\ja.scope.isCoroutine=false/\ja.scope.isGenerator=true:=by
 refine(adr (?_) (?_) (?_) (?_) (?_) (?_) (?_))<;>rfl'
theorem ae1(P:cD):(KL P).lookup ja.addr=some (cj ja.st ja.qual ja.dflt ja.pm ja.code [] .none):=⋯
theorem X5(P:cD):(fN (KL P) (.ref bv) "__iter__"==some (some (.ref ja.addr))&&(ou (KL P) (.ref ja.addr)&&codeIn (KL P) ja.code (dw ja.qual)))=true:=⋯
end
section
variable{F:Fm}{A:Am (d+2)}{fs:List (Str×PV)}{px fp:Pos}{R:aY}{Q:mL->ag->Prop}
theorem Ρ(z:Pt c){h':am}{code:Code}{t:Nat}(keep:∀b o,z.s.heap.get? b=some o->h'.get? b=some o):∃w:Pt c,w.s={z.s with gens:=z.s.gens.push (.fresh code),toks:=t,heap:=h'}/\w.f=z.f/\Le z w/\w.s.gens[z.s.gens.size]?=some (.fresh code):=
 have x3:e9 z.s {z.s with gens:=z.s.gens.push (.fresh code),toks:=t,heap:=h'}:=⟨λb o e _=>keep b o e,λi x e=>by
   erw[KV];erw[iN (gE (ag'.mp e).1)];exact e,λi x l e=>by
   rw[KV] at e;by_cases q:i=z.s.gens.size
   ·rw[iP q] at e;cases ay e;rfl
   ·rw[iN q] at e;exact uc l e,rfl⟩
 (wc (z.to _ x3 (z.tab.keeps keep)) rfl rfl (Le.to _ _) (agH))
theorem Y5(hp:R.plain=true)(hb:R.body=rJ "voter" px py ps pa yp ey fp)(hn:R.scope.names=([("self",.local),("voter",.local)]:aN))(ha:R.names=(["self"]:List Str))(hk:R.scope.kind=.function)(L7:R.scope.isCoroutine=false)(ahC:R.scope.isGenerator=true)
(at_:(KL c.w.params).lookup R.addr=some (cj R.st R.qual R.dflt R.pm R.code [] .none))(hd:R.dflt=.none)(hc:codeIn (KL c.w.params) R.code (dw R.qual)=true)(h:ak fs ("_voters":Str)=some (.list l))(r:Rd (.inst bv fs) x v)
(k:∀w I K g,Le x w->w.s.TypeIs (.ref I) "generator"->dM 2 I g l K w->(∀b,K b->x.s.heap.get? b=none)->x.s.gens.size<=g->g<=w.s.gens.size->Q (.ok (.ret (.ref I))) w.s):eO (ah pw c.w) A.A (.call (.ref R.addr) ⟨[v],[]⟩) Q x.s:=by
 refine bE λgG hG=>aB (SB h ⋯ rfl r) λvl rv get=>?_;have ho:=x.cT _ _ at_;have al:∀z k,(z,k)∈R.scope.names->ak R.scope.names z=some k/\k=.local:=λz k m=>by
  rw[hn] at m⊢;rcases bw m with q|q
  ·cases q;exact⟨rfl,rfl⟩
  ·cases cY q;exact⟨rfl,rfl⟩
 have S:Fk R.scope:=⟨hk,L7,λz e=>absurd (al z _ (gN e)).2 (by decide),λz kd m=>(al z kd m).1⟩;have cd:=codeRec_of x.cT hc;have Gu:∀z,ak R.scope.names z≠some .cell:=λz e=>absurd (al z _ (gN e)).2 (by decide);have ng:pC R.scope.names=true->vw R.code=true:=λq=>by rw[hn] at q;exact ff q
 have e1:ak R.scope.names ("self":Str)=some .local:=by erw[hn];rfl
 have e2:ak R.scope.names ("voter":Str)=some .local:=by erw[hn];rfl
 clear at_ hc hn al;obtain⟨addr,st,qual,dflt,pm,code,LJ,mu⟩:=R;obtain⟨name,args,body,dl,rt,tp,sc,ts,bd,pos,rfl⟩:=H4 (R:=⟨addr,st,qual,dflt,pm,code,LJ,mu⟩) hp;cases(show body=_ from hb);cases(show dflt=.none from hd);refine hG (codeAny_call_generator (o:=cj (.FunctionDef name args (rJ "voter" px py ps pa yp ey fp) dl rt tp sc ts bd pos) qual .none pm code [] .none) (aQ (cW _ _) A.ok.depth) ho rfl L7 ahC rfl cd (J6 (ds:=[]) (o:=none) (binds:=[(("self":Str),v)]) (show zQ args=true from hp) (λ_ _ _ _ q=>au q) rfl (by erw[(show args.args.map (·.arg)=_ from ha)];rfl) _ _ _ _ (Iv S (ny ⟨eX,.nil⟩) (λq m=>by erw[cY m];exact .inl e1) ng λF y e=>⟨x.nolimit.keeps e.kp,?_⟩)));dsimp only;generalize pY:({cls:=.type "generator",data:=.fields #[.int y.s.gens.size 0,.str _ y.s.toks,.str _ (y.s.toks+1)]}:Obj)=ob;have LZ:ob.isFreed=false:=pY▸rfl;refine kP (Ρ y (h':=y.s.heap.push ob) (code:=.func (rJ "voter" px py ps pa yp ey fp) F.env) (t:=y.s.toks+1+1) λ_ _=>c5 _) λw ws wf lw wg=>?_;have ga:w.s.heap.get? y.s.heap.objs.size=some ob:=by erw[ws];exact ft _ LZ
 have ho:w.s.heap.IsGen y.s.heap.objs.size y.s.gens.size:=(yv ob (.str name y.s.toks) (.str (dw qual) (y.s.toks+1)) ga (pY▸rfl) (pY▸rfl) (pY▸rfl));have V:dB F.env y.s.heap "self" v:=e.var _ _ (.head _);have X:bA F y [(("self":Str),.inst bv fs)]:=⟨e.cU,λz p q=>d3 (c:=("self":Str)=z) q (λk q=>by subst k;exact(aA v V (ay q▸r.mono e.le.sub))) λ_ q=>nS q⟩;have kw:∀b o,y.s.heap.get? b=some o->w.s.heap.get? b=some o:=λb o q=>by erw[ws];exact c5 _ q
 have H:PR F w y.s.heap.objs.size 0 "voter" [(("self":Str),.inst bv fs)] v vl l:={
  co:=e.VM▸L7
  cl:=λb q=>q.elim id λq=>q.elim λz q=>absurd (e.only z b q) (Gu z)
  na:=λq=>by refine ut e.own.ns λm o es ep q' _=>?_;exact cV _ (fB (q▸q'))
  fa:=⟨(congrFun wf _).trans (y.EN (eV _)),y.DG (eV _),y.hi (bf _)⟩
  hx:=e.nm▸e2
  hd:=by decide
  hσ:=rfl
  r:=⟨X.le lw,e.own.le X lw⟩
  V:=V.keep λb o _=>kw b o
  rd:=rv.mono (λb o q=>lw.sub b o (e.le.sub b o q))
  get:=λs q=>get (λb o q=>s b o (lw.sub b o (e.le.sub b o q))) q}
 exact gZ (ws) (k w _ _ _ (e.le.trans lw) (aA ob ga (pY▸rfl)) (WP H wg ho) (λb q=>q.elim (λq=>q▸e.new _ (.inl rfl)) λq=>q▸e.le.e.back (y.j0 (bf _)) (eV _)) (aD (af S9 e.gens.symm)) (lw.e.di))
theorem Yk(h:ak fs ("_voters":Str)=some (.list l))(r:Rd (.inst bv fs) x v):qE A (gk v) x l:=λQ E k=>by
 refine dU (aX (X5 c.w.params)) λz1 z=>?_;obtain⟨z2,z3⟩:=aX z;exact aaf aeS λs1 s2 s3 s4 s5 s6 s7=>m7 r λI _ _ r'=>Wa x.cT I (a5 z1) z2 (q8 (Y5 s4 s1 s2 s3 s5 s6 s7 (ae1 _) rfl z3 h r' λw I K g le ty i n g1 g2=>⟨ty,k w I K g le (i.mono (i7 2 d)) n g1 g2⟩))
theorem Kb:Ov c (d+2):=λ{β k r v p A x} h rd=>by
 induction p using dq with
 |inst cc fs=>
  refine bE λgG hG=>aj h λxs h1 h2=>aL h1 λhc h1=>aj h1 λq e h3=>?_;subst hc;exact hG ((aA xs h2 (Yk (pM (m:=λq=>ak fs ("_voters":Str)=some q->_) h3 id e) rd)))
 |_=>exact YV h rfl rd
end
section
variable{e k N:Nat}{O:aK}
theorem b9.gens{b:Bool}(Or:b9 c O d):b9 c {O with gens:=b} d:=⟨Or.fn,Or.bM,Or.AI,Or.attr,Or.bin,Or.cmp,Or.lt⟩
theorem Ig(Or:b9 c O e)(h:O.gens=false)(hd:e<=d):GZ c O (d+4):=
 ⟨Kb,Or.mono (aq hd (cW _ _)),RG Or (aq (mG hd 3) (iH _)),λn S _=>NI (d:=d+2) (e:=0) (Or.mono (aq hd (cW _ _))) S (λq=>ff (h.symm.trans q)) (i7 4 d)⟩
theorem Xf(Or:b9 c O e)(hd:e<=d)(n:Nat):aW c (d+4) (ip n {O with gens:=false}):=Pa n (Ig Or.gens rfl hd) (Ig (O:={O with gens:=false}) Or.gens rfl hd)
theorem Mx(Or:b9 c O d)(n:Nat):aW c (d+8) (ip n O):=
 Pa n ⟨Kb,Or.mono (cW _ _),RG Or (i3 (by decide) d),λn S _=>NI (d:=d+6) (e:=d+4) (Or.mono (cW _ _)) S (λ_=>Xf Or (bf _) n) (bf _)⟩ (Ig (d:=d+4) Or.gens rfl (cW _ _))
theorem g9.mono(M:g9 c O e)(h:e<=d):g9 c O d where
 l6 k:=by refine cP (M.l6 k) λg a b r=>?_;exact(cz g a b (λ{A}=>r (A:=A.mono h)))
 make k:=by refine cP (M.make k) λg a b r=>?_;exact(cz g a b (λ{A}=>r (A:=A.mono h)))
 n9 k:=by refine cP (M.n9 k) λg a b r=>?_;exact(cz g a b (λ{A}=>r (A:=A.mono h)))
theorem Hv(Or:b9 c O d)(M:g9 c O d)(n:Nat):Sd c (d+8) (aw O n):=ad8 (Mx Or) Kb (M.mono (cW _ _)) (Or.mono (cW _ _)) n
theorem Fb:∀k,b9 c (aI N k) (11*k)/\g9 c (aI N k) (11*k):=by
 intro k;induction k with
 |zero=>exact⟨Ϛ,ab7⟩|succ k ih=>exact⟨adn (Hv ih.1 ih.2),Yy (Hv ih.1 ih.2)⟩
end
end
section
variable{st:aH}{σ:ar}{nm:aN}{mu:List Str}{p com:PV}
section
noncomputable abbrev NN:Nat:=1000000
noncomputable abbrev nx(σ:ar):aZ:=some (.next,σ)
section
variable{α β:Type}{x:Option α}{a:α}{K:α->Option β}{r:Option β}{X:ar->aH->aZ}{l:List aH}{σ₁:ar}{o:aZ}{f:fS}
theorem aG(h:x=some a)(k:K a=r):x.bind K=r:=h▸k
theorem aF(h:X σ st=some (.next,σ₁))(k:aS X l σ₁=o):aS X (st::l) σ=o:=(af (λr:aZ=>r.bind λq=>if q.1.hZ=true then aS X l q.2 else some q) h).trans k
theorem xZ{m:List aH}(h:aS X l σ=some (.next,σ₁))(k:aS X m σ₁=o):aS X (l++m) σ=o:=by
 induction l generalizing σ with
 |nil=>cases ay h;exact k
 |cons st l ih=>
  refine aj h λq e h=>?_;obtain⟨fl,σ'⟩:=q;cases fl with
  |next=>exact aF e (ih h)|ret p=>nomatch ay h|exc=>nomatch ay h
theorem O0(k:Nat)(h:aS X (l.take k) σ=some (.next,σ₁))(q:aS X (l.drop k) σ₁=o):aS X l σ=o:=(af (λl=>aS X l σ) (TC k l).symm).trans (xZ h q)
end
noncomputable def mq:Expr:=.Constant .none 0 default
def sE:aH->Expr
 |.If t _ _ _=>t|.While t _ _ _=>t|.For _ it _ _ _=>it|.Return e _=>e.getD mq|.Assign _ e _=>e|.AugAssign _ _ e _=>e|.Expr e _=>e|_=>mq
def sT:aH->Expr
 |.Assign ts _ _=>ts.getD 0 mq|.AugAssign t _ _ _=>t|.For t _ _ _ _=>t|_=>mq
noncomputable def sB(i:Nat):aH->List aH
 |.If _ b c _=>if i=0 then b else c
 |.While _ b _ _=>b|.For _ _ b _ _=>b|.Try b _ _ _ _=>b|_=>[]
def HS(nm:aN)(x f:Str)(b:Bool)(q:PV×ar):aZ:=(j8 q.2 x).bind λv=>v.lR.bind λi=>if zY.contains (i.1,f)=true/\i.2.1.length<=100 then eD (putN nm x (zT b i.1 i.2.1 i.2.2 f q.1) q.2) else none
def bI(nm:aN)(x:Str)(b:Bool)(q:PV×ar):aZ:=eD (putN nm x (Fe b q.1) q.2)
def Hs(O:aK)(nm:aN)(x:Str)(op:ia)(a:PV)(q:PV×ar):aZ:=(uj O op a q.1).bind λp=>eD (putN nm x (.pv p) q.2)
section
variable{O:aK}{n:Nat}{K:PV×ar->aZ}{r:aZ}{ev:bj->Expr->Option PV}{e:Expr}
theorem wj(h:ev (fL σ) e=some p):bW ev σ e=some (p,σ):=by unfold bW;rw[h];rfl
theorem Di(he:cI O n nm (bB σ) e=some p):se O (ip n O) nm σ e=some (.ret p,σ):=af (λx:Option PV=>qM x (λp=>some (fS.ret p,σ)) (if raises O (ip n O) nm (bB σ) e=true then some (fS.exc,σ) else none)) he
theorem bg(hs:aw O (n+1) nm mu σ st=(bW (cI O n nm) σ (sE st)).bind K)(he:cI O n nm (fL σ) (sE st)=some p)(hk:K (p,σ)=r):aw O (n+1) nm mu σ st=r:=hs.trans (aG (wj he) hk)
end
def fr(n d:Int):PV:=.inst dg [("numerator",.int n),("denominator",.int d)]
def ef(q:Rat):PV:=fr q.num q.den
def tg:aN:=n3.scope.names
def vn(fs:List (Str×PV))(n d dv r:Int):ar:=[("self",.a7 dg fs []),("numerator",.pv (.int n)),("denominator",.pv (.int d)),("upper",.pv (.int n)),("lower",.pv (.int d)),("divisor",.pv (.int dv)),("rest",.pv (.int r))]
variable{O:aK}{n k:Nat}
theorem abx(n:Int)(d:Nat):a9 O NN tg [] [("self",.a7 dg [] []),("numerator",.pv (.int n)),("denominator",.pv (.int ((d+1:Nat):Int)))] (n3.body.take 11)=some (.next,vn [] n ((d+1:Nat):Int) ((d+1:Nat):Int) (n.fmod ((d+1:Nat):Int))):=⋯
theorem afj{N D:Int}{dv r f:Nat}:aw O (f+31) tg [] (vn [] N D dv (r+1:Nat)) (aJ n3.body 11)=aw O (f+30) tg [] (vn [] N D (r+1:Nat) ((dv:Int).fmod (r+1:Nat))) (aJ n3.body 11):=⋯
theorem ZJ{N D:Int}(r:Nat):∀{dv f:Nat},r<f->aw O (f+30) tg [] (vn [] N D dv r) (aJ n3.body 11)=some (.next,vn [] N D (F8 dv r:Nat) 0):=by
 induction r using Nat.strongRecOn with
 |ind r ih=>
  intro dv f hf;cases r with
  |zero=>
   rw[Nat.gcd_zero_right];cases f with
   |zero=>exact absurd hf (cV _)|succ f=>rfl'
  |succ r=>
   cases f with
   |zero=>exact absurd hf (y9 _)
   |succ f=>
    have e:(dv:Int).fmod (r+1:Nat)=((dv%(r+1):Nat):Int):=Km _ (fP _);have eZ:dv%(r+1)<r+1:=Cs dv (eE r);refine afj.trans ?_;rw[e,ih _ eZ (ba eZ (ju hf)),Nat.gcd_comm (r+1),<-Nat.gcd_rec,Nat.gcd_comm]
theorem I4{i j:Int}(h:j≠0/\j.natAbs<d7):fw .FloorDiv i j=some (.int (i.fdiv j)):=iP h
theorem o9{i j:Int}(h:j.natAbs<d7\/i.natAbs<d7):fw .Mult i j=some (.int (i*j)):=iP h
theorem WK(N:Int){D r g:Nat}(hr:N.fmod ((D+1:Nat):Int)=r)(hrl:r<999000)(hg:F8 (D+1) r=g)(xh:((g:Int))≠0/\((g:Int)).natAbs<d7):a9 O NN tg [] [("self",.a7 dg [] []),("numerator",.pv (.int N)),("denominator",.pv (.int ((D+1:Nat):Int)))] n3.body=
   some (.next,vn [("numerator",.int (N.fdiv g)),("denominator",.int (((D+1:Nat):Int).fdiv g))] N ((D+1:Nat):Int) g 0):=by
 refine O0 11 (abx N D) ((af (λl=>a9 O NN tg [] _ l) (⋯:n3.body.drop 11=[aJ n3.body 11,aJ n3.body 12,aJ n3.body 13])).trans ?_);have l1:=ZJ (O:=O) (N:=N) (D:=((D+1:Nat):Int)) r (dv:=D+1) (f:=999970) (eN hrl (by decide));rw[hg,<-hr] at l1;refine aF l1 (aF (bg (n:=999999) (K:=HS tg "self" "numerator" false) ⋯ ((⋯:_=fw .FloorDiv N g).trans (I4 xh)) (⋯:_=nx (vn [("numerator",.int (N.fdiv g))] N ((D+1:Nat):Int) g 0))) (aF (bg (n:=999999) (K:=HS tg "self" "denominator" false) ⋯ ((⋯:_=fw .FloorDiv ((D+1:Nat):Int) g).trans (I4 xh)) ⋯) rfl))
theorem ι(N:Int)(D:Nat):F8 (D+1) (N%((D+1:Nat):Int)).natAbs=F8 (D+1) N.natAbs:=by
 show Int.gcd ((D+1:Nat):Int) (N%((D+1:Nat):Int))=Int.gcd ((D+1:Nat):Int) N;conv=>rhs;rw[<-Int.emod_add_mul_ediv N ((D+1:Nat):Int)]
 rw[Int.gcd_add_mul_left_right]
theorem QW(N:Int){D:Nat}(h0:0<D)(hD:D<999000):(next NN O).fn "Fraction" [.int N,.int D] []=some (ef (mkRat N D)):=by
 obtain⟨D,rfl⟩:=u6 (fO h0);have p0:(0:Int)<((D+1:Nat):Int):=zt.mpr h0;have m0:=Int.emod_nonneg N (TD p0);have hr:N.fmod ((D+1:Nat):Int)=((N%((D+1:Nat):Int)).natAbs:Nat):=by rw[Km _ (fP _),Kl m0]
 have hl:(N%((D+1:Nat):Int)).natAbs<D+1:=u9.mp (by rw[Kl m0];exact Int.emod_lt_of_pos N p0);have g0:0<F8 (D+1) N.natAbs:=agJ _ h0;have body:=WK (O:=O) N hr (eN hl hD) (ι N D) ⟨TD (zt.mpr g0),aQ (Nat.gcd_le_left _ h0) (eN hD (by decide))⟩;refine(show _=((a9 O NN tg [] [("self",.a7 dg [] []),("numerator",.pv (.int N)),("denominator",.pv (.int ((D+1:Nat):Int)))] n3.body).bind λr=>if r.1.hZ=true then(ak r.2 "self").bind λv=>v.lR.bind λi=>if i.1=dg then some i.2 else none else none).map (λr:List (Str×PV)×List Str=>PV.inst dg r.1) by rfl').trans ?_;rw[body];show some (fr _ _)=some (fr _ _);rw[TE,Rat.den_mkRat,iN (rg D),iN (rg D),Fw _ (fP _),Fw _ (fP _)];rfl
noncomputable def DO(a b:PV):ar:=[("self",.pv a),("other",.pv b)]
def C5(R:aY)(i:Nat):Expr:=sE (aJ (sB 0 (aJ R.body i)) 0)
def JL(O:aK)(R:aY)(i:Nat)(o:aZ):aZ:=(o.bind λq=>if q.1.hZ=true then aS (aw O 999999 R.scope.names R.mu) [] q.2 else some q).bind λq=>if q.1.hZ=true then aS (aw O NN R.scope.names R.mu) (R.body.drop (i+1)) q.2 else some q
theorem xu{R:aY}{a b p:PV}(i:Nat)(hs:bm O NN R [a,b] []=cm (JL O R i (se O (ip 999998 O) R.scope.names (DO a b) (C5 R i))))(he:cI O 999998 R.scope.names (bB (DO a b)) (C5 R i)=some p):bm O NN R [a,b] []=some p:=hs.trans (af (λo=>cm (JL O R i o)) (Di he))
def Aw(O:aK):Prop:=∀(N:Int) {D:Nat},0<D->D<999000->O.fn "Fraction" [.int N,.int D] []=some (ef (mkRat N D))
variable{a b:Rat}{m:Int}
theorem yn(h:a.den<999000):((a.den:Int)).natAbs<d7:=eN h (by decide)
theorem Pg(m:Int):mkRat m 1=(m:Rat):=F9 (m:Rat)
theorem C_(F:Aw O)(h:a.den<999000)(hs:a.num.natAbs<d7):bm O NN JN [ef a,.int m] []=some (ef (a*m)):=by
 refine xu 0 ⋯ ((show _=((fw .Mult a.num m).bind λv=>some [v,.int a.den]).bind λvs=>O.fn "Fraction" vs [] by rfl').trans (aG (aG (o9 (.inr hs)) rfl) ((F _ a.den_pos h).trans ?_)));have:=agK a.num m a.den 1;rw[F9,Pg,TF] at this;rw[this]
theorem WI(F:Aw O)(ha:a.den<999000)(hb:b.den<999000)(h:a.den*b.den<999000):bm O NN Bi [ef a,ef b] []=some (ef (a+b)):=by
 refine xu 1 ⋯ ((show _=(((fw .Mult a.num b.den).bind λx=>(fw .Mult b.num a.den).bind λy=>fV O .Add x y).bind λv=>((fw .Mult a.den b.den).bind λw=>some [w]).map λvs=>v::vs).bind λvs=>O.fn "Fraction" vs [] by rfl').trans (aG (aG (aG (o9 (.inl (yn hb))) (aG (o9 (.inl (yn ha))) rfl)) (af (eP _) (aG (o9 (.inl (yn hb))) rfl))) ((F (D:=a.den*b.den) _ (TG a.den_pos b.den_pos) h).trans ?_)));have:=agL a.num b.num (d₁:=a.den) (d₂:=b.den) a.den_nz b.den_nz;rw[F9,F9] at this;rw[this]
theorem adC(F:Aw O)(h:a.den<999000):bm O NN Bi [ef a,.int 0] []=some (ef a):=by
 refine xu 0 ⋯ ((show _=(((fw .Mult 0 a.den).bind λy=>fV O .Add (.int a.num) y).bind λv=>some [v,.int a.den]).bind λvs=>O.fn "Fraction" vs [] by rfl').trans (aG (aG (aG (o9 (.inr (by decide))) rfl) rfl) ((F _ a.den_pos h).trans ?_)));rw[yS,uS,F9]
theorem Ka{R:aY}{op:iF}{r:Int->Int->Bool}(hop:∀i j,fe O op (.int i) (.int j)=some (r i j))(hs:bm O NN R [ef a,ef b] []=cm (JL O R 1 (se O (ip 999998 O) R.scope.names (DO (ef a) (ef b)) (C5 R 1))))(he:cI O 999998 R.scope.names (bB (DO (ef a) (ef b))) (C5 R 1)=(((fw .Mult a.num b.den).bind λx=>(fw .Mult b.num a.den).bind λy=>fe O op x y).map PV.bool))(ha:a.den<999000)(hb:b.den<999000):bm O NN R [ef a,ef b] []=some (.bool (r (a.num*b.den) (b.num*a.den))):=
 xu 1 hs (he.trans (af (eP PV.bool) (aG (o9 (.inl (yn hb))) (aG (o9 (.inl (yn ha))) (hop _ _)):_=some (r (a.num*b.den) (b.num*a.den)))))
theorem I_(ha:a.den<999000)(hb:b.den<999000):bm O NN He [ef a,ef b] []=some (.bool (decide (a<b))):=(Ka (op:=.Lt) (r:=λi j=>decide (i<j)) (λ_ _=>rfl) ⋯ ⋯ ha hb).trans (by rw[fA (Rat.lt_iff a b).symm])
theorem ZC(ha:a.den<999000)(hb:b.den<999000):bm O NN Bf [ef a,ef b] []=some (.bool (decide (b<a))):=(Ka (op:=.Gt) (r:=λi j=>decide (j<i)) (λ_ _=>rfl) ⋯ ⋯ ha hb).trans (by rw[fA (Rat.lt_iff b a).symm])
theorem geF(ha:a.den<999000)(hb:b.den<999000):bm O NN HP [ef a,ef b] []=some (.bool (decide (b<=a))):=(Ka (op:=.GtE) (r:=λi j=>decide (j<=i)) (λ_ _=>rfl) ⋯ ⋯ ha hb).trans (by rw[fA (Rat.le_iff b a).symm])
theorem I1(ha:a.den<999000)(h0:0<=a):bm O NN Bf [ef a,.int (-1)] []=some (.bool true):=by
 refine xu 0 ⋯ ((show _=((fw .Mult (-1) a.den).bind λy=>yd (λi j=>decide (j<i)) (.int a.num) y).map PV.bool by rfl').trans ((af (eP _) (aG (o9 (.inl (yn ha))) rfl)).trans ?_));show some (PV.bool (decide (-1*(a.den:Int)<a.num)))=_;rw[dT (lG (agM (by decide) (zt.mpr a.den_pos)) (Rat.num_nonneg.mpr h0))]
theorem Zi:bm O NN JS [ef a,ef b] []=some (.bool (decide (a=b))):=by
 refine xu 1 ⋯ ((⋯:_=if(a.num==b.num)=false then some (PV.bool false) else some (PV.bool ((a.den:Int)==(b.den:Int)))).trans ?_);by_cases h:a.num=b.num
 ·rw[jU h,iN Bool.noConfusion];refine af (λb=>some (PV.bool b)) (FK.mpr (beq_iff_eq.trans (KW ⟨λk=>Rat.ext h (FW k),λk=>k▸rfl⟩ decide_eq_true_iff.symm)))
 ·rw[kH h,iP rfl,dF λk=>h (af _ k)]
end
def fq(D:Nat)(z:Int):PV:=ef (mkRat z D)
section
variable{D:Nat}{a b m:Int}(h:0<D)
include h
theorem Qm:0<=mkRat a D↔0<=a:=by
 have g:(0:Int)<(D.gcd a.natAbs:Nat):=zt.mpr (agJ _ h);rw[<-Rat.num_nonneg,TE,iN (fO h)];exact⟨λk=>jK λq=>iA k (Int.ediv_neg_of_neg_of_pos q g),λk=>Int.ediv_nonneg k (mJ g)⟩
theorem QC:mkRat a D+mkRat b D=mkRat (a+b) D:=by
 rw[agL _ _ (fO h) (fO h),<-Ga,agN (fO h)]
theorem aag:mkRat a D*(m:Rat)=mkRat (a*m) D:=by rw[<-Pg m,agK,TF]
theorem J2:(mkRat a D).den<=D:=by rw[Rat.den_mkRat,iN (fO h)];exact Kk _ _
theorem Ep:mkRat a D<=mkRat b D↔a<=b:=by
 have e:mkRat b D-mkRat a D=mkRat (b-a) D:=by rw[Rat.sub_eq_add_neg,Rat.neg_mkRat,QC h,Int.sub_eq_add_neg]
 rw[Rat.le_iff_sub_nonneg,e,Qm h,Int.sub_nonneg]
theorem Nm:mkRat a D<mkRat b D↔a<b:=by rw[<-Rat.not_le,Ep h,zg]
theorem k_:mkRat a D=mkRat b D↔a=b:=⟨λk=>zh ((Ep h).mp (k▸Rat.le_refl)) ((Ep h).mp (k▸Rat.le_refl)),λk=>k▸rfl⟩
theorem aeU:(mkRat a D).num.natAbs<=a.natAbs:=by
 rw[TE,iN (fO h)];exact Int.natAbs_ediv_le_natAbs _ _
end
structure fX(O:aK)(D:Nat):Prop where
 gt:∀{a b},O.cmp .Gt (fq D a) (fq D b)=some (decide (b<a))
 ge:∀{a b},O.cmp .GtE (fq D a) (fq D b)=some (decide (b<=a))
 lt:∀{a b},O.cmp .Lt (fq D a) (fq D b)=some (decide (a<b))
 eq:∀{a b},O.cmp .Eq (fq D a) (fq D b)=some (decide (a=b))
 I1:∀{a},0<=a->O.cmp .Gt (fq D a) (.int (-1))=some true
 mul:∀{a m},a.natAbs<d7->O.bin .Mult (fq D a) (.int m)=some (fq D (a*m))
 add:∀{a b},O.bin .Add (fq D a) (fq D b)=some (fq D (a+b))
 Wn:∀{a},O.bin .Add (fq D a) (.int 0)=some (fq D a)
 one:∀{z:Int},O.fn "Fraction" [.int z] []=some (fq D (z*D))
theorem Wx{O:aK}{D:Nat}(F:Aw O)(h:0<D)(h2:D<=500):fX (next NN O) D:=by
 have d:∀{a},(mkRat a D).den<999000:=λ{a}=>aQ (J2 h) (aQ h2 (by decide));have dd:∀{a b},(mkRat a D).den*(mkRat b D).den<999000:=λ{a b}=>aQ (Cb (aq (J2 h) h2) (aq (J2 h) h2)) (by decide);have c:∀{op:iF} {R:aY} {x y:PV} {b b':Bool},(next NN O).cmp op x y=(bm O NN R [x,y] []).bind PV.xC->bm O NN R [x,y] []=some (.bool b)->b=b'->(next NN O).cmp op x y=some b':=λe1 e2 e3=>e1.trans (aG e2 (af some e3));have bn:∀{op:ia} {R:aY} {x y:PV} {q q':Rat},(next NN O).bin op x y=(bm O NN R [x,y] []).bind DE->bm O NN R [x,y] []=some (ef q)->q=q'->(next NN O).bin op x y=some (ef q'):=λe1 e2 e3=>e1.trans (aG e2 (af (λq=>some (ef q)) e3));exact⟨c (R:=Bf) ⋯ (ZC d d) (fA (Nm h)),c (R:=HP) ⋯ (geF d d) (fA (Ep h)),c (R:=He) ⋯ (I_ d d) (fA (Nm h)),c (R:=JS) ⋯ Zi (fA (k_ h)),
  λk=>c (R:=Bf) ⋯ (I1 d ((Qm h).mpr k)) rfl,λk=>bn (R:=JN) ⋯ (C_ F d (aQ (aeU h) k)) (aag h),bn (R:=Bi) ⋯ (WI F d d dd) (QC h),bn (R:=Bi) ⋯ (adC F d) rfl,λ{z}=>(⋯:_=(next NN O).fn "Fraction" [.int z,.int (1:Nat)] []).trans ((QW z (by decide) (by decide)).trans (af (λq=>some (ef q)) ((agN (fO h)).symm.trans (af (mkRat (z*D)) (zi D)))))⟩
section
section
variable{O:aK}{n:Nat}{σ₁ σ':ar}{r:aZ}{l:List PV}{B:ar->aZ}{t:Expr}{v:PV}
def fY(X:ar->aH->aZ)(nm:aN)(t:Expr)(b:List aH)(q:PV×ar):aZ:=over q.1 λsrc=>(dX (aS X b) nm t src q.2).bind (lh t q.1)
theorem ik(h:fT (sk nm) t v σ=some σ₁)(hb:B σ₁=nx σ')(k:dX B nm t l σ'=r):dX B nm t (v::l) σ=r:=aG h (aG hb k)
theorem rY{X:ar->aH->aZ}{b:List aH}(h:dX (aS X b) nm t l σ=nx σ'):fY X nm t b (.list l,σ)=nx σ':=aG (K:=lh t (.list l)) h rfl
theorem Oa{X:ar->aH->aZ}{b:List aH}{c:Nat}{fs:List (Str×PV)}(hx:yy (.inst c fs)=some l)(h:dX (aS X b) nm t l σ=nx σ'):fY X nm t b (.inst c fs,σ)=nx σ':=aG hx (aG (K:=lh t (.inst c fs)) h rfl)
theorem Ji{X:ar->aH->aZ}{b:List aH}{s:List Nat}(h:∀l':List Nat,l'.Perm s->∃cJ,dX (aS X b) nm t (l'.map λn:Nat=>PV.int n) σ=nx cJ/\B3 (wb t) cJ=σ'):fY X nm t b (.set s,σ)=nx σ':=show qe s (λsrc=>(dX (aS X b) nm t src σ).bind (lh t (.set s)))=nx σ' from MQ λl' hp=>by
 obtain⟨cJ,h1,h2⟩:=h l' hp;exact aG (K:=lh t (.set s)) h1 (af (λσ=>some (fS.next,σ)) h2)
end
def fU(id:Str):PV:=.inst p8 [("name",.str id),("param",.none)]
def bq(q:List Nat×Nat):PV:=.inst iw [("approved",.set q.1),("weight",.int q.2)]
def a6(n:Nat)(ns:PV)(vs:List (List Nat×Nat)):PV:=.inst bv [("candidates",.list ((ax n).map λi:Nat=>.int i)),("cand_names",ns),("_voters",.list (vs.map bq))]
structure iU(O:aK)(id:Str)(S:Nat->Int)(D:Nat):Prop extends fX O D where
 val:∀j,j<4->O.bM p8 "__call__" [fU id,.int (j+1:Nat)] []=some (fq D (S (j+1) -S j))
 num:∀j,j<4->(S (j+1) -S j).natAbs<d7
 zero:S 0=0
def jX(D:Nat)(id:Str)(p com:PV)(s:Int)(r:ar):ar:=("scorefct_id",.pv (.str id))::("profile",.pv p)::("committee",.pv com)::("marginal_scorefct",.pv (fU id))::("score",.pv (fq D s))::r
noncomputable def lY(v:PV)(j:Nat)(x:Option PV):ar:=("vote",.pv v)::("cand_in_com",.pv (.int j))::x.elim [] λx=>[("_",.pv x)]
def jd:aN:=qL.scope.names
def xS:aH:=aJ qL.body 2
def uy:aH:=aJ (sB 0 xS) 1
variable{O:aK}{id:Str}{S:Nat->Int}{D:Nat}{x:PV}{c s:Int}{q:List Nat×Nat}{j:Nat}
theorem aav(H:iU O id S D)(hj:j<4):a9 O 999998 jd [] (jX D id p com (c+S j*q.2) (lY (bq q) j (some x))) (sB 0 uy)=nx (jX D id p com (c+S (j+1)*q.2) (lY (bq q) (j+1) (some x))):=by
 refine(⋯:_=a9 O 999998 jd [] (jX D id p com (c+S j*q.2) (lY (bq q) (j+1) (some x))) [aJ (sB 0 uy) 1]).trans (aF (bg (n:=999997) (K:=Hs O jd "score" .Add (fq D (c+S j*q.2))) ⋯
  ((show _=(O.bM p8 "__call__" [fU id,.int (j+1:Nat)] []).bind λa=>fV O .Mult a (.int q.2) by rfl').trans (aG (H.val j hj) (H.mul (H.num j hj)))) (aG H.add (?_:_=nx _))) rfl)
 rw[mQ,<-Ga,u7 (S j),KX];rfl'
theorem τ(H:iU O id S D):∀{l:List PV} {j:Nat} {x:Option PV},j+l.length<=4->∃x',dX (aS (aw O 999998 jd []) (sB 0 uy)) jd (sT uy) l (jX D id p com (c+S j*q.2) (lY (bq q) j x))=nx (jX D id p com (c+S (j+l.length)*q.2) (lY (bq q) (j+l.length) x')):=by
 intro l;induction l with
 |nil=>exact λ{j x} _=>⟨x,rfl⟩
 |cons v l ih=>
  intro j x h;obtain⟨x',e⟩:=ih (j:=j+1) (x:=some v) (aq (aD (pS ..)) h);refine⟨x',ik (σ₁:=jX D id p com (c+S j*q.2) (lY (bq q) j (some v))) ?_ (aav H (ba (qX (eE _)) h)) (e.trans (by rw[pS];rfl))⟩;cases x<;>rfl'
noncomputable def fb(C A:List Nat):List Nat:=C.filter λx=>A.contains x
theorem Yd{C:List Nat}(H:iU O id S D)(hC:eG com setOf=some C)(h:(fb C q.1).length<=4):aw O 999999 jd [] (jX D id p com c (lY (bq q) 0 none)) uy=nx (jX D id p com (c+S (fb C q.1).length*q.2) (lY (bq q) (fb C q.1).length none)):=by
 refine bg (n:=999998) (K:=fY (aw O 999998 jd []) jd (sT uy) (sB 0 uy)) ⋯ ((show _=((eG com setOf).map PV.set).bind λa=>fV O .BitAnd a (.set q.1) by rfl').trans (aG (af (eP PV.set) hC) rfl)) (Ji λl' hp=>?_);have e:(l'.map λn:Nat=>PV.int n).length=(fb C q.1).length:=(bi _).trans hp.length_eq;obtain⟨x,k⟩:=τ H (p:=p) (com:=com) (c:=c) (q:=q) (l:=l'.map λn:Nat=>PV.int n) (j:=0) (x:=none) (by rw[f5,e];exact h);rw[H.zero,yS,uS,f5,e] at k;exact⟨_,k,by cases x<;>rfl⟩
def d6(S:Nat->Int)(C:List Nat):List (List Nat×Nat)->Int
 |[]=>0|q::vs=>S (fb C q.1).length*q.2+d6 S C vs
theorem ϝ{C:List Nat}(H:iU O id S D)(hC:eG com setOf=some C):∀{vs:List (List Nat×Nat)} {s:Int} {r:Option (PV×Nat)},(∀q∈vs,(fb C q.1).length<=4)->∃r':Option (PV×Nat),dX (aS (aw O 999999 jd []) (sB 0 xS)) jd (sT xS) (vs.map bq) (jX D id p com s (r.elim [] λr=>lY r.1 r.2 none))=nx (jX D id p com (s+d6 S C vs) (r'.elim [] λr=>lY r.1 r.2 none)):=by
 intro vs;induction vs with
 |nil=>exact λ{s r} _=>⟨r,by rw[d6,uS];rfl⟩
 |cons q vs ih=>
  intro s r h;obtain⟨r',e⟩:=ih (s:=s+S (fb C q.1).length*q.2) (r:=some (bq q,(fb C q.1).length)) λq m=>h q (.tail _ m);rw[mQ] at e;refine⟨r',ik (σ₁:=jX D id p com s (r.elim [("vote",.pv (bq q))] λr=>lY (bq q) r.2 none)) (by cases r<;>rfl') ((?_:_=a9 O 999999 jd [] (jX D id p com s (lY (bq q) 0 none)) [uy]).trans (aF (Yd H hC (h q (.head _))) rfl)) e⟩;cases r<;>rfl'
theorem adk{C:List Nat}{n:Nat}{ns:PV}{vs:List (List Nat×Nat)}(H:iU O id S D)(hC:eG com setOf=some C)(hv:∀q∈vs,(fb C q.1).length<=4)
(h0:a9 O NN jd [] [("scorefct_id",.pv (.str id)),("profile",.pv (a6 n ns vs)),("committee",.pv com)] (qL.body.take 2)=nx (jX D id (a6 n ns vs) com 0 [])):
  bm O NN qL [.str id,a6 n ns vs,com] []=some (fq D (d6 S C vs)):=by
 obtain⟨r,e⟩:=ϝ H hC (p:=a6 n ns vs) (s:=0) (r:=none) hv;rw[Gb] at e;refine(⋯:_=cm (a9 O NN jd [] [("scorefct_id",.pv (.str id)),("profile",.pv (a6 n ns vs)),("committee",.pv com)] qL.body)).trans (af cm (O0 2 h0 ((af (λl=>a9 O NN jd [] _ l) (⋯:qL.body.drop 2=[xS,aJ qL.body 3])).trans (aF (bg (n:=999999) (K:=fY (aw O 999999 jd []) jd (sT xS) (sB 0 xS)) ⋯ (⋯:_=some (a6 n ns vs)) (Oa ⋯ e)) (show _=some (fS.ret (fq D (d6 S C vs)),jX D id (a6 n ns vs) com (d6 S C vs) (r.elim [] λr=>lY r.1 r.2 none)) by cases r<;>rfl')))))
end
section
noncomputable def sv(l:List Int)(j:Nat):Int:=(l.take j).sum
theorem vT{P:Nat->Prop}{n:Nat}(h:∀j,j<n->P j)(k:P n)(j:Nat)(q:j<n+1):P j:=(TH (ju q)).elim (h j) λe=>e.symm▸k
theorem vV{P:Nat->Prop}(h0:P 0)(h1:P 1)(h2:P 2)(h3:P 3):∀j,j<4->P j:=vT (vT (vT (vT nofun h0) h1) h2) h3
def OB:Nat->Int:=sv [12,6,4,3]
def R7:Nat->Int:=sv [105,35,21,15]
def nD:Nat->Int:=sv [6,6,3,2]
def ui:Nat->Int:=sv [1,0,0,0]
variable{k:Nat}
theorem G_:Aw (aI NN (k+1)):=λN _ h1 h2=>QW (O:=aI NN k) N h1 h2
theorem qk{D:Nat}(h:0<D)(h2:D<=500):fX (aI NN (k+3)) D:=Wx (O:=aI NN (k+2)) G_ h h2
theorem Z7:iU (aI NN (k+3)) "pav" OB 12:=⟨qk (by decide) (by decide),vV ⋯ ⋯ ⋯ ⋯,by decide,rfl⟩
theorem ac1:iU (aI NN (k+3)) "slav" R7 105:=⟨qk (by decide) (by decide),vV ⋯ ⋯ ⋯ ⋯,by decide,rfl⟩
theorem afS:iU (aI NN (k+3)) "adams" nD 6:=⟨qk (by decide) (by decide),vV ⋯ ⋯ ⋯ ⋯,by decide,rfl⟩
theorem Vr:iU (aI NN (k+3)) "cc" ui 1:=⟨qk (by decide) (by decide),vV ⋯ ⋯ ⋯ ⋯,by decide,rfl⟩
inductive Cv:PV->List Nat->Prop
 |tup (l:List Nat):Cv (.tup (l.map λn:Nat=>PV.int n)) l|list (l:List Nat):Cv (.list (l.map λn:Nat=>PV.int n)) l
 |set (l:List Nat):Cv (.set l) l
def oJ(k D:Nat)(id:Str)(p com:PV):Prop:=a9 (aI NN (k+3)) NN jd [] [("scorefct_id",.pv (.str id)),("profile",.pv p),("committee",.pv com)] (qL.body.take 2)=nx (jX D id p com 0 [])
variable{l:List Nat}
theorem Z2(c:Cv com l):oJ k 12 "pav" p com:=by
 unfold oJ;cases c<;>rfl'
theorem afu(c:Cv com l):oJ k 105 "slav" p com:=by
 unfold oJ;cases c<;>rfl'
theorem adi(c:Cv com l):oJ k 6 "adams" p com:=by
 unfold oJ;cases c<;>rfl'
theorem abC(c:Cv com l):oJ k 1 "cc" p com:=by
 unfold oJ;cases c<;>rfl'
end
section
section
variable{O:aK}{n:Nat}{b:Bool}{r:aZ}{g:PV->PV}{ρ:bj}{src:List PV}{cv:PV}{l:List Nat}
theorem cN(hs:aw O (n+1) nm mu σ st=(fF O n nm (bB σ) (sE st)).bind λr=>aS (aw O n nm mu) (if r=true then sB 0 st else sB 1 st) σ)(ht:fF O n nm (bB σ) (sE st)=some b)(k:aS (aw O n nm mu) (if b=true then sB 0 st else sB 1 st) σ=r):aw O (n+1) nm mu σ st=r:=hs.trans (aG ht k)
theorem ke(hs:aw O (n+1) nm mu σ st=(fF O n nm (bB σ) (sE st)).bind λr=>aS (aw O n nm mu) (if r=true then sB 0 st else sB 1 st) σ)(h1:sB 1 st=[])(ht:fF O n nm (bB σ) (sE st)=some false):aw O (n+1) nm mu σ st=nx σ:=cN hs ht (h1▸rfl:aS _ (sB 1 st) σ=nx σ)
theorem yh{β:Type}{kk:List PV->Option β}{r:β}(c:Cv cv l)(h:∀l':List Nat,l'.Perm l->kk (l'.map λn:Nat=>PV.int n)=some r):eG cv kk=some r:=by
 cases c with
 |tup=>exact h l (.refl _)|list=>exact h l (.refl _)|set=>exact MQ h
theorem RV{g:Nat->Bool}(h:∀v∈l,g v=b):xY b (l.map λv=>PV.bool (g v))=some (.bool b):=iP (by
 rw[SL,KY];intro v m;exact jU (h v m))
end
def bR(i:Nat):Expr->Expr:=EA.on {d:=mq,uI:=λ_ as _ _=>as.getD i mq,BN:=λ_ x _=>x,BC:=λ_ es _=>es.getD i mq,yc:=λl _ r _=>if i=0 then l else r,A3:=λl _ _ _=>l,wd:=λl r _=>if i=0 then l else r,AU:=λe _ _ _=>e,yk:=λe _ _ _=>e}
def gP:Expr->List jL×fk:=EA.on {d:=([],default),AU:=λ_ gs s _=>((gs,s)),yk:=λ_ gs s _=>((gs,s))}
def gC(e:Expr):jL:=(gP e).1.getD 0 ⟨mq,mq,[],0⟩
def gT(e:Expr):Expr:=(gC e).target
def gS(e:Expr):fk:=(gP e).2
def A4(O:aK)(n:Nat)(e:Expr)(ρ:bj)(K:List PV->Option PV)(src:List PV):Option PV:=(kJ ((ip n {O with gens:=false}).e (gS e).names) (gS e).names (gT e) (bR 0 e) ρ src).bind K
theorem Jx{O:aK}{n:Nat}{e:Expr}{ρ:bj}{K:List PV->Option PV}{l:List Nat}{g:Nat->PV}{r:PV}(hf:lx (gT e) ρ=true)(h:∀x∈l,((fT (gY (gS e).names) (gT e) (.int (x:Nat)) ρ).bind λfR=>(ip n {O with gens:=false}).e (gS e).names fR (bR 0 e))=some (g x))(hK:K (l.map g)=some r):A4 O n e ρ K (l.map λn:Nat=>PV.int n)=some r:=by
 refine aG (?_:kJ ((ip n {O with gens:=false}).e (gS e).names) (gS e).names (gT e) (bR 0 e) ρ (l.map λn:Nat=>PV.int n)=some (l.map g)) hK;clear hK;induction l with
 |nil=>rfl|cons v l ih=>exact aj (h v (.head _)) λfR h1 h2=>(iP hf).trans (aG h1 (aG h2 (af (eP _) (ih λx m=>h x (.tail _ m)))))
noncomputable def rW(cv nc:PV)(S:List Nat)(x:Option PV):ar:=("candidates",.pv cv)::("num_cand",.pv nc)::("approved",.pv (.set S))::x.elim [] λx=>[("cand",.pv x)]
def uL:aN:=wx.scope.names
def kW(i:Nat):aH:=aJ wx.body i
variable{O:aK}{cv nc:PV}{S l:List Nat}{x:Option PV}
theorem JU{l:List Nat}:∀{x:Option PV},∃x',dX (aS (aw O 999999 uL []) (sB 0 (kW 2))) uL (sT (kW 2)) (l.map λn:Nat=>PV.int n) (rW cv nc S x)=nx (rW cv nc S x'):=by
 induction l with
 |nil=>exact λ{x}=>⟨x,rfl⟩
 |cons y l ih=>
  intro x;obtain⟨x',e⟩:=ih (x:=some (.int (y:Nat)));exact⟨x',ik (σ₁:=rW cv nc S (some (.int (y:Nat)))) (by cases x<;>rfl') ⋯ e⟩
theorem abl(c:Cv cv l):∃x,aw O NN uL [] (rW cv nc S none) (kW 2)=nx (rW cv nc S x):=by
 have run:∀{r},fY (aw O 999999 uL []) uL (sT (kW 2)) (sB 0 (kW 2)) (cv,rW cv nc S none)=r->aw O NN uL [] (rW cv nc S none) (kW 2)=r:=bg (n:=999999) ⋯ ⋯;cases c with
 |tup l=>
  obtain⟨x',e⟩:=JU (O:=O) (cv:=.tup (l.map λn:Nat=>PV.int n)) (nc:=nc) (S:=S) (l:=l) (x:=none);exact⟨x',run (aG (K:=lh _ _) e rfl)⟩
 |list l=>
  obtain⟨x',e⟩:=JU (O:=O) (cv:=.list (l.map λn:Nat=>PV.int n)) (nc:=nc) (S:=S) (l:=l) (x:=none);exact⟨x',run (rY e)⟩
 |set l=>
  refine⟨none,run (Ji λl' _=>?_)⟩;obtain⟨x',e⟩:=JU (O:=O) (cv:=.set l) (nc:=nc) (S:=S) (l:=l') (x:=none);exact⟨_,e,by cases x'<;>rfl'⟩
theorem Xm(c:Cv cv l)(hS:∀l':List Nat,l'.Perm l->setOf (l'.map λn:Nat=>PV.int n)=some S)(hl:S.length=l.length)(hn:nc=.none\/∃m,nc=.int m/\∀x∈l,(x:Int)<m):
  bm (next NN O) NN wx [cv,nc] []=some (.set S):=by
 obtain⟨x,h2⟩:=abl (O:=next NN O) (nc:=nc) (S:=S) c;refine(⋯:_=cm (a9 (next NN O) NN uL [] [("candidates",.pv cv),("num_cand",.pv nc)] [kW 0,kW 1,kW 2,kW 3,kW 4,kW 5])).trans (af cm (?_:_=some (fS.ret (.set S),rW cv nc S x)));refine aF (bg (n:=999999) (K:=bI uL "approved" false) ⋯ ((⋯:_=(eG cv setOf).map PV.set).trans (af (eP PV.set) (yh c hS))) (⋯:_=nx (rW cv nc S none))) (aF (ke (n:=999999) ⋯ ⋯ ?_) (aF h2 ?_))
 ·have e:(!((l.length:Int)==(S.length:Int)))=false:=by rw[hl,beq_self_eq_true];rfl
  cases c with
  |tup l=>exact(show _=some (!(((l.map λn:Nat=>PV.int n).length:Int)==(S.length:Int))) by rfl').trans (by rw[bi,e])|list l=>exact(show _=some (!(((l.map λn:Nat=>PV.int n).length:Int)==(S.length:Int))) by rfl').trans (by rw[bi,e])|set l=>exact(⋯:_=some (!((l.length:Int)==(S.length:Int)))).trans (af some e)
 refine aF (ke (n:=999999) ⋯ ⋯ ((show _=((eG cv (A4 (next NN O) 999996 (bR 0 (bR 0 (sE (kW 3)))) [] (xY true))).bind PV.truth).map not by cases x<;>rfl').trans (af (λo:Option PV=>(o.bind PV.truth).map not) (yh c λl' _=>Jx (g:=λx=>.bool (decide ((0:Int)<=x))) ⋯ (λx _=>⋯) (RV λv _=>dT (fP v)))))) (aF (ke (n:=999999) ⋯ ⋯ ?_) (by cases x<;>rfl'));rcases hn with rfl|⟨m,rfl,hm⟩
 ·cases x<;>rfl'
 ·refine(show _=(((eG cv (A4 (next NN O) 999996 (bR 0 (bR 1 (sE (kW 4)))) [("num_cand",.int m)] (xY false))).bind PV.truth).bind λb=>if b=false then some false else some true) by cases x<;>rfl').trans (aG (aG (yh c λl' p=>Jx (g:=λx=>.bool (decide (m<=(x:Int)))) ⋯ (λx _=>⋯) (RV λv k=>dF (zg.mpr (hm v (p.mem_iff.mp k))))) rfl) rfl)
end
end
structure t9(lt:Nat->Nat->Bool):Prop where
 uE:∀a b,lt a b=true->lt b a=false
 tr:∀a b c,lt b a=false->lt c b=false->lt c a=false
structure f8(n:Nat)(p:Array Nat):Prop where
 perm:p.toList.Perm (ax n)
section
variable{α β:Type}{cmp:Nat->Nat->Option Bool}{lt:Nat->Nat->Bool}{n i j k m s q f l r:Nat}{p:Array Nat}{Q:α->Prop}{R:Nat->Nat->Prop}{g:Nat->Nat}
theorem f8.size(o:f8 n p):p.size=n:=o.perm.length_eq.trans cF
noncomputable def at_(p:Array Nat)(i:Nat):Nat:=p.getD i 0
theorem pG:at_ p i=(p[i]?).getD 0:=Array.getD_eq_getD_getElem? ..
theorem f8.uo(o:f8 n p)(h:i<n):at_ p i<n:=by
 have hs:i<p.size:=i6 h o.size.symm;rw[pG,tn hs];exact eL (o.perm.mem_iff.mp (Array.getElem_mem_toList hs))
theorem f8.of{q:Array Nat}(o:f8 n p)(h:q.Perm p):f8 n q:=⟨(Array.perm_iff_toList_perm.mp h).trans o.perm⟩
structure qU(cmp:Nat->Nat->Option Bool)(lt:Nat->Nat->Bool)(n:Nat):Prop where
 L:t9 lt
 c:∀i j,i<n->j<n->cmp i j=some (lt i j)
def Gv(cmp:Nat->Nat->Option Bool)(t:KasT α)(Q:α->Prop):Prop:=∃v,qQ cmp t=some v/\Q v
theorem oQ{v:α}(h:Q v):Gv cmp (.ret v) Q:=⟨v,rfl,h⟩
theorem Ah{t:Bool->KasT α}(C:qU cmp lt n)(hi:i<n)(hj:j<n)(k1:lt i j=true->Gv cmp (t true) Q)(k2:lt i j=false->Gv cmp (t false) Q):Gv cmp (.ask i j t) Q:=by
 have e:∀b,lt i j=b->Gv cmp (t b) Q->Gv cmp (.ask i j t) Q:=λb h k=>k.imp λv h'=>⟨(af (λo:Option Bool=>o.bind λb=>qQ cmp (t b)) ((C.c i j hi hj).trans (af some h))).trans h'.1,h'.2⟩;cases h:lt i j with
 |true=>exact e _ h (k1 h)|false=>exact e _ h (k2 h)
theorem JJ{P:Prop}[Decidable P]{a b:KasT α}(h1:P->Gv cmp a Q)(h2:¬P->Gv cmp b Q):Gv cmp (if P then a else b) Q:=by
 by_cases z:P
 ·rw[iP z];exact h1 z
 ·rw[iN z];exact h2 z
theorem aal{h:α->KasT β}(t:KasT α):qQ cmp (t.bind h)=(qQ cmp t).bind λa=>qQ cmp (h a):=by
 induction t with
 |ret a=>rfl
 |ask i j k ih=>
  show(cmp i j).bind _=((cmp i j).bind _).bind _;cases cmp i j with
  |none=>rfl|some b=>exact ih b
theorem B4{t:KasT α}{h:α->KasT β}{P:β->Prop}(k:Gv cmp t Q)(K:∀a,Q a->Gv cmp (h a) P):Gv cmp (t.bind h) P:=by
 obtain⟨a,e,q⟩:=k;exact(K a q).imp λv k=>⟨(aal t).trans ((af (λo:Option α=>o.bind λa=>qQ cmp (h a)) e).trans k.1),k.2⟩
def Up(lt:Nat->Nat->Bool)(a b:Nat):Prop:=lt b a=false
def Dn(lt:Nat->Nat->Bool)(a b:Nat):Prop:=lt a b=false
structure z8(R:Nat->Nat->Prop):Prop where
 refl:∀a,R a a
 tr:∀{a b c},R a b->R b c->R a c
theorem t9.refl(L:t9 lt)(a:Nat):lt a a=false:=by
 cases h:lt a a with
 |false=>rfl|true=>exact h.symm.trans (L.uE a a h)
theorem t9.up(L:t9 lt):z8 (Up lt):=⟨L.refl,λh k=>L.tr _ _ _ h k⟩
theorem t9.dn(L:t9 lt):z8 (Dn lt):=⟨L.refl,λh k=>L.tr _ _ _ k h⟩
def iz(R:Nat->Nat->Prop)(g:Nat->Nat)(m:Nat):Prop:=∀i j,i<=j->j<m->R (g i) (g j)
def yD(R:Nat->Nat->Prop)(g:Nat->Nat)(s m:Nat):Prop:=∀a b,s<=a->a<m->s<=b->b<m->R (g a) (g b)
theorem RO(h:i<m+1):i<m\/i=m:=TH (ju h)
theorem pf(h:j<m):m-1<m:=Nat.sub_one_lt (fO (aQ (cu _) h))
theorem yG(P:z8 R)(M:iz R g m)(h:0<m->R (g (m-1)) (g m)):iz R g (m+1):=λi j hi hj=>by
 rcases RO hj with k|rfl
 ·exact M i j hi k
 ·rcases TH hi with k|rfl
  ·exact P.tr (M i (j-1) (mP k) (pf k)) (h (aQ (cu _) k))
  ·exact P.refl _
theorem JW(P:z8 R):yD R g m (m+1):=λa b h1 h2 h3 h4=>by
 rw[mM (ju h2) h1,mM (ju h4) h3];exact P.refl _
theorem Xy(P:z8 R)(hs:s<m)(S:yD R g s m)(h1:R (g (m-1)) (g m))(h2:R (g m) (g (m-1))):yD R g s (m+1):=by
 have z:∀a,s<=a->a<m+1->R (g a) (g (m-1))/\R (g (m-1)) (g a):=λa h k=>by
  rcases RO k with k|rfl
  ·exact⟨S _ _ h k (mP hs) (pf hs),S _ _ (mP hs) (pf hs) h k⟩
  ·exact⟨h2,h1⟩
 exact λa b k1 k2 k3 k4=>P.tr (z a k1 k2).1 (z b k3 k4).2
theorem yl(h:s<=k)(h2:k<m):s<=s+m-1-k/\s+m-1-k<m:=by
 obtain⟨d,rfl⟩:=Nat.exists_eq_add_of_lt h2;rw[show s+(k+d+1) -1-k=s+d from(af (· -k) (TI s k d)).trans (F7 ..)];exact⟨cW ..,kA (mG h d)⟩
theorem yI(hm:m<=p.size)(h:s<=k)(h2:k<m):at_ (w0 p s m) k=at_ p (s+m-1-k):=pG.trans ((af (·.getD 0) ((getElem?_mirror_all hm k).trans (iP ⟨h,h2⟩))).trans pG.symm)
theorem AB(hm:m<=p.size)(h:¬(s<=k/\k<m)):at_ (w0 p s m) k=at_ p k:=pG.trans ((af (·.getD 0) ((getElem?_mirror_all hm k).trans (iN h))).trans pG.symm)
theorem Ir(hm:m<=p.size)(M:iz R (at_ p) m)(S:yD R (at_ p) s m):iz R (at_ (w0 p s m)) m:=λi j hi hj=>by
 by_cases hs:s<=j
 ·rw[yI hm hs hj];have b:=yl hs hj;by_cases h:s<=i
  ·have hi:=aQ hi hj;rw[yI hm h hi];exact S _ _ (yl h hi).1 (yl h hi).2 b.1 b.2
  ·rw[AB hm λq=>h q.1];exact M _ _ (aq (Nat.le_of_not_le h) b.1) b.2
 ·rw[AB hm λq=>hs q.1,AB hm λq=>hs (aq q.1 hi)];exact M i j hi hj
theorem V_(hm:m<=p.size)(M:iz R (at_ p) m):iz (λa b=>R b a) (at_ (w0 p 0 m)) m:=λi j hi hj=>by
 rw[yI hm (cu i) (aQ hi hj),yI hm (cu j) hj];exact M _ _ (Nat.sub_le_sub_left hi _) (yl (cu i) (aQ hi hj)).2
theorem f8.rev(o:f8 n p):f8 n (w0 p s m):=o.of (mirror_perm _ _ _ _)
theorem f8.le(o:f8 n p)(h:m<=n):m<=p.size:=aq h (aD o.size.symm)
structure Of(lt:Nat->Nat->Bool)(n:Nat)(p:Array Nat)(m:Nat):Prop where
 lo:1<=m
 hi:m<=n
 up:iz (Up lt) (at_ p) m
 stop:m=n\/lt (at_ p m) (at_ p (m-1))=true
theorem OF(C:qU cmp lt n)(o:f8 n p):∀{f m:Nat},1<=m->m+f=n->iz (Up lt) (at_ p) m->Gv cmp (kas_asc p f m) (Of lt n p):=by
 intro f;induction f with
 |zero=>exact λ{m} h e M=>oQ ⟨h,aD e,M,.inl e⟩
 |succ f ih=>
  intro m h e M;have hm:m<n:=i6 (qX (eE f)) e;exact Ah C (o.uo hm) (o.uo (aQ (kE ..) hm)) (λq=>oQ ⟨h,cy hm,M,.inr q⟩) λq=>ih (y6 h) ((wN m f).trans e) (yG C.L.up M λ_=>q)
structure acy(lt:Nat->Nat->Bool)(n:Nat)(r:Array Nat×Nat×Nat)(s:Nat):Prop where
 e:r.2.1=s+(r.2.2+1)
 hi:r.2.1<=n
 o:f8 n r.1
 dn:iz (Dn lt) (at_ r.1) r.2.1
 tail:yD (Dn lt) (at_ r.1) s r.2.1
theorem aff(C:qU cmp lt n):∀{f s q:Nat} {p:Array Nat},f8 n p->s+(q+1)+f=n->iz (Dn lt) (at_ p) (s+(q+1))->yD (Dn lt) (at_ p) s (s+(q+1))->Gv cmp (kas_desc f p (s+(q+1)) q) λr=> ∃s,acy lt n r s:=by
 intro f;induction f with
 |zero=>exact λ{s q p} o e M S=>oQ ⟨s,rfl,aD e,o,M,S⟩
 |succ f ih=>
  intro s q p o e M S;have hm:s+(q+1)<n:=i6 (qX (eE f)) e;have e':s+(q+1)+(0+1)+f=n:=(wN (s+(q+1)) f).trans e;have hs:s<s+(q+1):=qX (eE q);have l1:=o.uo hm;have l2:=o.uo (aQ (kE (s+(q+1)) 1) hm);refine Ah C l1 l2 (λc=>?_) λc=>Ah C l2 l1 (λ_=>oQ ⟨s,rfl,cy hm,o,M,S⟩) λd=>ih (q:=q+1) o e' (yG C.L.dn M λ_=>d) (Xy C.L.dn hs S d c);have d:Dn lt (at_ p (s+(q+1) -1)) (at_ p (s+(q+1))):=C.L.uE _ _ c;refine(JJ (λz=>?_) λz=>ih (s:=s+(q+1)) (q:=0) o e' (yG C.L.dn M λ_=>d) (JW C.L.dn):Gv cmp (if q>0 then kas_desc f (w0 p (s+(q+1) - (q+1)) (s+(q+1))) (s+(q+1)+1) 0 else kas_desc f p (s+(q+1)+1) 0) _);rw[wY];have hp:=o.le (cy hm);refine ih (s:=s+(q+1)) (q:=0) o.rev e' (yG C.L.dn (Ir hp M S) λ_=>?_) (JW C.L.dn);rw[yI hp (mP hs) (pf hs),AB hp λz=>cV _ z.2];exact C.L.dn.tr (M _ _ (mP (yl (mP hs) (pf hs)).2) (pf hs)) d
def C1(lt:Nat->Nat->Bool)(n:Nat)(r:Nat×Array Nat):Prop:=f8 n r.2/\Of lt n r.2 r.1
theorem Su(C:qU cmp lt n)(o:f8 n p)(h:1<=m)(hm:m<=n)(M:iz (Dn lt) (at_ p) m):Gv cmp (kas_tail3 m n p) (C1 lt n):=B4 (OF C o.rev h (iK hm) (V_ (o.le hm) M)) λm' R=>oQ ⟨o.rev,R⟩
theorem O7(C:qU cmp lt n)(o:f8 n p)(hm:m+1<=n)(M:iz (Dn lt) (at_ p) (m+1)):Gv cmp (kas_descPart m n p) (C1 lt n):=by
 refine B4 (aff C (s:=m) (q:=0) o (iK hm) M (JW C.L.dn)) λr D=>?_;obtain⟨s,D⟩:=D;have h1:1<=r.2.1:=D.e.symm▸eE _;refine(JJ (λz=>Su C D.o.rev h1 D.hi (Ir (D.o.le D.hi) D.dn ?_)) λz=>Su C D.o h1 D.hi D.dn:Gv cmp (if r.2.2>0 then kas_tail3 r.2.1 n (w0 r.1 (r.2.1- (r.2.2+1)) r.2.1) else kas_tail3 r.2.1 n r.1) _);rw[show r.2.1- (r.2.2+1)=s from(af (· - (r.2.2+1)) D.e).trans (wY ..)];exact D.tail
theorem Xz(C:qU cmp lt n)(o:f8 n p)(hn:1<=n):Gv cmp (kas_count n p) (C1 lt n):=by
 have one:iz (Up lt) (at_ p) 1:=λi j h k=>by
  rw[Lr.mp k] at h;rw[Lr.mp k,Ub.mp h];exact C.L.refl _
 refine B4 (OF C o (bf 1) (iK hn) one) λm R=>?_;show Gv cmp (if(m==n)=true then .ret (m,p) else if m>1 then .ask (p.getD 0 0) (p.getD (m-1) 0) λc=>if c=true then .ret (m,p) else kas_descPart m n (w0 p 0 m) else kas_descPart m n p) (C1 lt n);by_cases z:(m==n)=true
 ·rw[iP z];exact oQ ⟨o,R⟩
 rw[iN z];have nz:m≠n:=λe=>z (jU e);have lm:m<n:=pT R.hi nz;have st:Dn lt (at_ p (m-1)) (at_ p m):=C.L.uE _ _ (R.stop.resolve_left nz);by_cases z1:m>1
 ·rw[iP z1];refine Ah C (o.uo hn) (o.uo (aQ (kE ..) lm)) (λ_=>oQ ⟨o,R⟩) λd=>O7 C o.rev lm ?_;have hp:=o.le R.hi;have al:∀i j,i<m->j<m->Dn lt (at_ p i) (at_ p j):=λi j hi hj=>C.L.dn.tr (C.L.dn.tr (b:=at_ p 0) (R.up 0 i (cu i) hi) d) (R.up j (m-1) (mP hj) (pf hj));refine yG C.L.dn (Ir hp (λi j hi hj=>al i j (aQ hi hj) hj) λa b _ k _ k2=>al a b k k2) λp0=>?_;rw[yI hp (cu _) (pf p0),AB hp λz=>cV _ z.2];exact C.L.dn.tr (al _ _ (yl (cu _) (pf p0)).2 (pf p0)) st
 ·rw[iN z1];obtain rfl:m=1:=mM (cZ z1) R.lo;exact O7 C o lm (yG C.L.dn (λi j h k=>by
   rw[Lr.mp k] at h;rw[Lr.mp k,Ub.mp h];exact C.L.refl _) λ_=>st)
structure H9(lt:Nat->Nat->Bool)(g:Nat->Nat)(k l r:Nat):Prop where
 hr:r<=k
 lo:∀i,i<l->lt (g k) (g i)=false
 hi:∀i,r<=i->i<k->lt (g k) (g i)=true
theorem aaV(C:qU cmp lt n)(o:f8 n p)(hk:k<n)(M:iz (Up lt) (at_ p) k):∀{f l r:Nat},l<=r->r<=l+f->H9 lt (at_ p) k l r->Gv cmp (kas_place p k f l r) λl=>H9 lt (at_ p) k l l:=by
 intro f;induction f with
 |zero=>exact λ{l r} h1 h2 P=>oQ (mM h1 h2▸P)
 |succ f ih=>
  intro l r h1 h2 P;refine(show Gv cmp (if l>=r then .ret l else .ask (p.getD k 0) (p.getD ((l+r) /2) 0) λc=>if c=true then kas_place p k f l ((l+r) /2) else kas_place p k f ((l+r) /2+1) r) _ from JJ (λz=>oQ (mM h1 z▸P)) λz=>?_);have lr:l<r:=om z;have m1:l<=(l+r) /2:=(Nat.le_div_iff_mul_le (by decide)).mpr (aq (aD (Nat.mul_two l)) (i3 h1 l));have m2:(l+r) /2<r:=Nat.div_lt_of_lt_mul (i6 (Nat.add_lt_add_right lr r) (Nat.two_mul r).symm);have mk:=ba m2 P.hr;refine Ah C (o.uo hk) (o.uo (eN mk hk)) (λc=>ih m1 (ju (ba m2 h2)) ⟨cy mk,P.lo,λi a b=>?_⟩) λc=>ih m2 (aq h2 (aq (mG m1 _) (aD (wN ..).symm))) ⟨P.hr,λi a=>C.L.tr _ _ _ (M i _ (ju a) mk) c,P.hi⟩;cases z:lt (at_ p k) (at_ p i) with
  |true=>rfl|false=>exact(C.L.tr _ _ _ (M _ i a b) z).symm.trans c
theorem MZ(hk:k<p.size)(hl:l<=k)(t:Nat):at_ (bubble p k (k-l)) t=if t=l then at_ p k else if l<t/\t<=k then at_ p (t-1) else at_ p t:=by
 rw[pG,getElem?_bubble hk _ (kE ..),TJ hl,apply_ite (λo:Option Nat=>o.getD 0),apply_ite (λo:Option Nat=>o.getD 0),<-pG,<-pG,<-pG]
theorem ace(C:qU cmp lt n)(hk:k<p.size)(M:iz (Up lt) (at_ p) k)(P:H9 lt (at_ p) k l l):iz (Up lt) (at_ (bubble p k (k-l))) (k+1):=λi j hi hj=>by
 have hj:=ju hj;rw[MZ hk P.hr,MZ hk P.hr];by_cases e:j=l
 ·rw[iP e];by_cases e2:i=l
  ·rw[iP e2];exact C.L.refl _
  ·have il:=pT (e▸hi) e2;rw[iN e2,iN λq:l<i/\i<=k=>oD il q.1];exact P.lo i il
 rw[iN e];by_cases g:l<j
 ·rw[iP (FH g hj)];have jk:j-1<k:=ba (pf g) hj;have lj:=mP g;by_cases e2:i=l
  ·rw[iP e2];exact C.L.uE _ _ (P.hi _ lj jk)
  ·rw[iN e2];by_cases g2:l<i
   ·rw[iP (FH g2 (aq hi hj))];exact M _ _ (KZ hi 1) jk
   ·rw[iN λq:l<i/\i<=k=>g2 q.1];exact M _ _ (aq (cZ g2) lj) jk
 ·have jl:=pT (cZ g) e;have il:=aQ hi jl;rw[iN λq:l<j/\j<=k=>g q.1,iN (gE il),iN λq:l<i/\i<=k=>oD il q.1];exact M i j hi (ba jl P.hr)
theorem d_(C:qU cmp lt n):∀{f:Nat} {p:Array Nat} {k:Nat},f8 n p->k+f=n->iz (Up lt) (at_ p) k->Gv cmp (kas_bin f p k) λp=>f8 n p/\iz (Up lt) (at_ p) n:=by
 intro f;induction f with
 |zero=>exact λ{p k} o e M=>oQ ⟨o,e▸M⟩
 |succ f ih=>
  intro p k o e M;have hk:k<n:=i6 (qX (eE f)) e;exact B4 (aaV C o hk M (cu k) (i7 ..) ⟨bf k,λi a=>absurd a (y9 i),λi a b=>absurd a (nF b)⟩) λl P=>ih (o.of (bubble_perm _ _ _)) ((wN k f).trans e) (ace C (i6 hk o.size.symm) M P)
theorem afZ(L:t9 lt)(hc:∀i j,i<n->j<n->cmp i j=some (lt i j))(hn:1<=n):Gv cmp (kas_sort n) λp=>f8 n p/\iz (Up lt) (at_ p) n:=by
 have C:qU cmp lt n:=⟨L,hc⟩;refine B4 (Xz C ⟨.refl _⟩ hn) λr D=>?_;rw[Nat.max_eq_left D.2.lo];by_cases z:r.1<n
 ·rw[iP z];exact d_ C D.1 (iK D.2.hi) D.2.up
 ·rw[iN z];exact oQ ⟨D.1,mM D.2.hi (cZ z)▸D.2.up⟩
end
section
variable{α β:Type}{O:aK}{nm:aN}{v:β->PV}{D:Nat}{id:Str}{cs:List (List Nat)}{ns:PV}
section
variable{l:List α}{d:α}{i:Nat}
theorem B0(h:i<l.length):l[i]?=some (l.getD i d):=by
 rw[tA,jM h];rfl
theorem UZ{is:List Nat}(h:∀i∈is,i<l.length):(is.mapM λi=>l[i]?)=some (is.map λi=>l.getD i d):=by
 induction is with
 |nil=>rfl
 |cons i r ih=>
  rw[qY,ih λj m=>h j (.tail _ m),B0 (d:=d) (h i (.head _))];rfl
theorem HL:(ax l.length).map (λi=>l.getD i d)=l:=List.ext_getElem? λi=>by
 rw[oy];by_cases h:i<l.length
 ·rw[agO h,B0 (d:=d) h];rfl
 ·rw[zc (cZ h),zc (aq (aD cF) (cZ h))];rfl
theorem PO{lt:α->α->Option Bool}{le:α->α->Bool}(h:∀a∈l,∀b∈l,lt a b=some (le a b))(uE:∀a∈l,∀b∈l,le a b=true->le b a=false)(tr:∀a∈l,∀b∈l,∀c∈l,le b a=false->le c b=false->le c a=false)(hz:l.length<64):
  ∃out,ly lt l=some out/\out.Perm l/\out.Pairwise λa b=>le b a=false:=by
 unfold ly;by_cases q:l.length<2
 ·rw[iP q];refine⟨l,rfl,.refl _,?_⟩;cases l with
  |nil=>exact .nil
  |cons a l=>cases l with
   |nil=>exact TK _ _|cons=>exact absurd q (gJ (i7 ..))
 rw[iN q,iP hz];refine bE λgG hG=>?_;have hn:0<l.length:=ba Nat.two_pos (cZ q);obtain⟨d,hd⟩:∃d,d∈l:=⟨l[0],S7 hn⟩;have mem (i:Nat):l.getD i d∈l:=by
  by_cases q:i<l.length
  ·exact TL (B0 q)
  ·rw[tA,zc (cZ q)];exact hd
 obtain⟨p,e,o,s⟩:=afZ (lt:=λi j=>le (l.getD i d) (l.getD j d)) (n:=l.length) (cmp:=λi j=>(l[i]?).bind λa=>(l[j]?).bind (lt a)) ⟨λa b=>uE _ (mem a) _ (mem b),λa b c=>tr _ (mem a) _ (mem b) _ (mem c)⟩ (λi j hi hj=>by
  rw[B0 (d:=d) hi,B0 (d:=d) hj];exact h _ (mem i) _ (mem j)) hn
 refine hG (⟨p.toList.map λi=>l.getD i d,(af (λo:Option (Array Nat)=>o.bind λp=>p.toList.mapM λi=>l[i]?) e).trans (UZ λi m=>eL (o.perm.mem_iff.mp m)),(o.perm.map _).trans (.of_eq HL),?_⟩);rw[TM,TN];intro i j hi hj hij;have k:=s i j (cy hij) (i6 hj o.size);rw[pG,pG,tn hi,tn hj] at k;exact k
end
section
section
variable{lt:α->α->Option Bool}{lt':β->β->Option Bool}{g:β->α}{l:List β}{le:β->β->Bool}{f:Str}{p q:Pos}
theorem X9{is:List Nat}:(is.mapM λi=>(l.map g)[i]?)=(is.mapM λi=>l[i]?).map (List.map g):=by
 induction is with
 |nil=>rfl
 |cons i is ih=>
  rw[qY,qY,ih,oy];cases l[i]? with
  |none=>rfl|some b=>cases is.mapM λi=>l[i]?<;>rfl
theorem QD(h:∀a b,lt' a b=lt (g a) (g b)):ly lt (l.map g)=(ly lt' l).map (List.map g):=by
 have e:(λi j:Nat=>((l.map g)[i]?).bind λa=>((l.map g)[j]?).bind (lt a))=λi j:Nat=>(l[i]?).bind λa=>(l[j]?).bind (lt' a):=by
  funext i j;rw[oy,oy,Option.bind_map];exact af _ (funext λa=>(Option.bind_map ..).trans (af _ (funext λb=>(h a b).symm)))
 unfold ly;rw[bi,e];by_cases q:l.length<2
 ·rw[iP q,iP q];rfl
 rw[iN q,iN q];by_cases q:l.length<64
 ·rw[iP q,iP q];cases qQ _ (kas_sort l.length) with
  |none=>rfl|some p=>exact X9
 ·rw[iN q,iN q];rfl
theorem PL{k:Nat}(hk:(k !=0)=true)(h:∀a,jV (v a)=k):ph (l.map v)=true:=by
 cases l with
 |nil=>rfl
 |cons a l=>
  show(jV (v a) !=0&&(l.map v).all λq=>jV q==jV (v a))=true;rw[h,hk,SL];exact KY.mpr λb _=>by rw[agP,h];exact beq_self_eq_true k
theorem Bh{k:Nat}(hk:(k !=0)=true)(ht:∀a,jV (v a)=k)(h:∀a∈l,∀b∈l,e7 O (v a) (v b)=some (le a b))(uE:∀a∈l,∀b∈l,le a b=true->le b a=false)(tr:∀a∈l,∀b∈l,∀c∈l,le b a=false->le c b=false->le c a=false)(hz:l.length<64):
  ∃out:List β,eC O nm (l.map v) []=some (.list (out.map v))/\out.Perm l/\out.Pairwise λa b=>le b a=false:=by
 obtain⟨out,e,r⟩:=PO (lt:=λa b=>e7 O (v a) (v b)) h uE tr hz;refine⟨out,(iP (PL hk ht)).trans ?_,r⟩;rw[QD (lt':=λa b=>e7 O (v a) (v b)) λ_ _=>rfl,e];rfl
theorem afL{a b:Str}(h:si a b=true):si b a=false:=dF (List.lt_asymm (cC h))
theorem Yz{a b c:Str}(h:si b a=false)(h2:si c b=false):si c a=false:=
 dF (Uc.mpr (List.le_trans (Uc.mp (iX h)) (Uc.mp (iX h2))))
def tV(o:Option PV):Str:=(o.bind PV.wt).getD ""
theorem Yi{vs:List PV}:eC O nm vs [⟨some "key",.Name f p,q⟩]=if f≠("__debug__":Str)/\ak nm f=some .globalImplicit/\vs≠[] then(nX O f vs).bind λks=>if ph (ks.map (·.1))=true then(ly (λa b=>e7 O a.1 b.1) ks).map λl=>.list (l.map (·.2)) else none else none:=⋯
theorem μ(h1:f≠("__debug__":Str))(h2:ak nm f=some .globalImplicit)(h3:l≠[])(hk:∀a∈l,∃s,O.fn f [v a] []=some (.str s))(hz:l.length<64):∃out:List β,eC O nm (l.map v) [⟨some "key",.Name f p,q⟩]=some (.list (out.map v))/\out.Perm l:=by
 have hk:nX O f (l.map v)=some (l.map λa=>(PV.str (tV (O.fn f [v a] [])),v a)):=by
  unfold nX;clear h3 hz;induction l with
  |nil=>rfl
  |cons a l ih=>
   obtain⟨s,e⟩:=hk a (.head _);rw[oB,qY,ih λb m=>hk b (.tail _ m),oB,e];rfl
 obtain⟨out,e,p,_⟩:=PO (lt:=λa b=>e7 O (.str (tV (O.fn f [v a] []))) (.str (tV (O.fn f [v b] [])))) (le:=λa b=>si (tV (O.fn f [v a] [])) (tV (O.fn f [v b] []))) (l:=l) (λ_ _ _ _=>rfl) (λ_ _ _ _=>afL) (λ_ _ _ _ _ _=>Yz) hz;refine⟨out,Yi.trans ((iP ⟨h1,h2,λq=>h3 (Ua.mp q)⟩).trans (aG hk ((iP ?_).trans ?_))),p⟩
 ·rw[jt];exact PL (k:=2) rfl λ_=>rfl
 ·rw[QD (lt:=λa b:PV×PV=>e7 O a.1 b.1) (g:=λa=>(PV.str (tV (O.fn f [v a] [])),v a)) (lt':=λa b=>e7 O (.str (tV (O.fn f [v a] []))) (.str (tV (O.fn f [v b] [])))) λ_ _=>rfl,e];show some (PV.list ((out.map _).map _))=_;rw[jt];rfl
end
structure SS(S:List Nat):Prop where
 up:S.Pairwise (· < ·)
 six:∀x∈S,x<6
theorem SS.sub{S:List Nat}(h:SS S):S∈pB 0 6:=NV 6 h.up λx m=>⟨cu _,i6 (h.six x m) (f5 6).symm⟩
theorem SS.all{S:List Nat}{t:List Nat->Bool}(h:SS S)(a:(pB 0 6).all t=true):t S=true:=b7 a S h.sub
theorem SS.len{S:List Nat}(h:SS S):S.length<7:=cC (h.all (t:=λS=>decide (S.length<7)) ⋯)
theorem SS.eq{l S:List Nat}(h:SS S)(p:l.Perm S)(s:l.Pairwise λa b=>decide (b<a)=false):l=S:=
 agQ (le:=λa b=>a<=b) (λ_ _ _ _ h1 h2=>mM h1 h2) (s.imp λq=>cZ (iX q)) (h.up.imp cy) p
noncomputable def HZ(n:Nat):Str:=dw (toString (n:Int))
def ds(n:Nat):PV:=.str (HZ n)
variable{S l:List Nat}
theorem v_{a b:Nat}(ha:a<6)(hb:b<6):e7 O (ds a) (ds b)=some (decide (a<b)):=by
 have h:(ax 6).all (λa=>(ax 6).all λb=>si (HZ a) (HZ b)==decide (a<b))=true:=⋯;exact af some (a5 (b7 (b7 h a (dH ha)) b (dH hb)))
theorem Zt{nm:aN}(h:SS S)(p:l.Perm S):eC O nm (l.map ds) []=some (.list (S.map ds)):=by
 have m {x} (m:x∈l):x<6:=h.six x (p.mem_iff.mp m);obtain⟨out,e,q,s⟩:=Bh (O:=O) (nm:=nm) (v:=ds) (le:=λa b=>decide (a<b)) (l:=l) (k:=2) rfl (λ_=>rfl) (λa ma b mb=>v_ (m ma) (m mb)) (λa _ b _ x=>dF (oD (cC x))) (λa _ b _ c _ x y=>dF (gJ (aq (cZ (iX x)) (cZ (iX y))))) (p.length_eq▸eN h.len (by decide));rw[e,h.eq (q.trans p) s]
def qN:aN:=qm.scope.names
def p7:aH:=aJ (sB 0 (aJ qm.body 0)) 0
noncomputable def r0(S:List Nat)(x:Option PV):ar:=("candset",.pv (.set S))::("cand_names",.pv .none)::x.elim [] λx=>[("named",.pv x)]
noncomputable def isS:Option PV->Bool
 |some (.str _)=>true|_=>false
theorem Wb:(pB 0 6).all (λS=>isS (cm (a9 (next NN O) NN qN [] (r0 S (some (.list (S.map ds)))) [aJ qm.body 1])))=true:=⋯
theorem Md{P:Nat->Prop}(h0:P 0)(h1:P 1)(h2:P 2)(h3:P 3)(h4:P 4)(h5:P 5):∀j,j<6->P j:=vT (vV h0 h1 h2 h3|>(vT · h4)) h5
theorem Ζ:∀x:Nat,x<6->((fT (gY (gS (bR 0 (sE p7))).names) (gT (bR 0 (sE p7))) (.int (x:Nat)) []).bind λfR=>(ip 999997 {O with gens:=false}).e (gS (bR 0 (sE p7))).names fR (bR 0 (bR 0 (sE p7))))=some (ds x):=Md ⋯ ⋯ ⋯ ⋯ ⋯ ⋯
def Mm(O:aK):List PV->Option PV:=A4 O 999997 (bR 0 (sE p7)) [] λvs=>eC O qN vs []
theorem YM(h:SS S):eG (.set S) (Mm O)=some (.list (S.map ds)):=yh (kk:=Mm O) (.set S) λl' p=>Jx (g:=ds) ⋯ (λx m=>Ζ x (h.six x (p.mem_iff.mp m))) (Zt h p)
theorem WQ:cI (next NN O) 999998 qN (fL (r0 S none)) (sE p7)=eG (.set S) (A4 (next NN O) 999997 (bR 0 (sE p7)) [] λvs=>eC (next NN O) qN vs []):=⋯
theorem Yp(h:SS S):cI (next NN O) 999998 qN (fL (r0 S none)) (sE p7)=some (.list (S.map ds)):=WQ.trans (YM (O:=next NN O) h)
theorem acQ(h:SS S):aw (next NN O) (999998+1) qN [] (r0 S none) p7=nx (r0 S (some (.list (S.map ds)))):=bg (n:=999998) (K:=bI qN "named" false) ⋯ (Yp h) ⋯
theorem afD(h:SS S):∃s,bm (next NN O) NN qm [.set S] []=some (.str s):=by
 have q:=h.all (Wb (O:=O));suffices e:bm (next NN O) NN qm [.set S] []=cm (a9 (next NN O) NN qN [] (r0 S (some (.list (S.map ds)))) [aJ qm.body 1]) by
  rw[e];revert q;cases cm _ with
  |none=>exact ff
  |some p=>cases p with
   |str s=>exact λ_=>⟨s,rfl⟩|_=>exact ff
 refine(⋯:_=cm (aS (aw (next NN O) NN qN []) [aJ qm.body 0,aJ qm.body 1] (r0 S none))).trans (af cm (aF (σ₁:=r0 S (some (.list (S.map ds)))) (cN (n:=999999) (b:=true) ⋯ ⋯ ?_) rfl));exact(⋯:_=aS (aw (next NN O) 999999 qN []) [p7] (r0 S none)).trans (aF (acQ h) rfl)
def C8:aN:=Bv.scope.names
def lp:aH:=aJ Bv.body 0
theorem π{β:Type}{g v:β->PV}{l:List β}{ev:bj->Expr->Option PV}{nm:aN}{t elt:Expr}{ρ:bj}(hf:lx t ρ=true)(h:∀x∈l,((fT (gY nm) t (v x) ρ).bind λfR=>ev fR elt)=some (g x)):kJ ev nm t elt ρ (l.map v)=some (l.map g):=by
 induction l with
 |nil=>rfl|cons v l ih=>exact aj (h v (.head _)) λfR h1 h2=>(iP hf).trans (aG h1 (aG h2 (af (eP _) (ih λx m=>h x (.tail _ m)))))
theorem v9{n:Nat}{nm:aN}{mu:List Str}{σ:ar}{st:aH}{p:PV}(hs:aw O (n+1) nm mu σ st=se O (ip n O) nm σ (sE st))(he:cI O n nm (bB σ) (sE st)=some p):aw O (n+1) nm mu σ st=some (.ret p,σ):=hs.trans (Di he)
theorem sH{X:ar->aH->aZ}{st:aH}{l:List aH}{σ σ₁:ar}{p:PV}(h:X σ st=some (.ret p,σ₁)):aS X (st::l) σ=some (.ret p,σ₁):=af (λr:aZ=>r.bind λq=>if q.1.hZ=true then aS X l q.2 else some q) h
def Db(e:Expr):Pos×Pos:=((zW e).bind λq=>oM q.2.2.1).elim default λk=>(k.value.pos,k.pos)
def N8(O:aK)(vs:List PV):Option PV:=eC O C8 vs [⟨some "key",.Name "str_set_of_candidates" (Db (sE lp)).1,(Db (sE lp)).2⟩]
def scG(O:aK)(l:List PV):Option PV:=(kJ ((ip 999998 {O with gens:=false}).e (gS (bR 0 (sE lp))).names) (gS (bR 0 (sE lp))).names (gT (bR 0 (sE lp))) (bR 0 (bR 0 (sE lp))) [] l).bind (N8 O)
theorem Vi{l:List PV}:cI (next NN O) 999999 C8 (bB [("committees",.pv (.list l))]) (sE lp)=scG (next NN O) l:=⋯
theorem WM{x:PV}:((fT (gY (gS (bR 0 (sE lp))).names) (gT (bR 0 (sE lp))) x []).bind λfR=>(ip 999998 {O with gens:=false}).e (gS (bR 0 (sE lp))).names fR (bR 0 (bR 0 (sE lp))))=O.fn "CandidateSet" [x] []:=⋯
theorem af1{β:Type}{v:β->PV}{so:β->List Nat}{l:List β}(h0:l≠[])(hz:l.length<64)(hc:∀a∈l,(next NN O).fn "CandidateSet" [v a] []=some (.set (so a)))(hk:∀a∈l,∃s,(next NN O).fn "str_set_of_candidates" [.set (so a)] []=some (.str s)):
  ∃out:List (List Nat),bm (next NN O) NN Bv [.list (l.map v)] []=some (.list (out.map PV.set))/\out.Perm (l.map so):=by
 obtain⟨out,e,hp⟩:=μ (O:=next NN O) (nm:=C8) (f:="str_set_of_candidates") (p:=(Db (sE lp)).1) (q:=(Db (sE lp)).2) (v:=λa=>PV.set (so a)) (l:=l) (by decide) ⋯ h0 hk hz;refine⟨out.map so,?_,hp.map so⟩;refine(⋯:_=cm (aS (aw (next NN O) NN C8 []) [lp] [("committees",.pv (.list (l.map v)))])).trans (af cm (sH (v9 (n:=999999) ⋯ (?_:_=some (PV.list ((out.map so).map PV.set))))));refine Vi.trans (aG (K:=N8 (next NN O)) (π (g:=λa=>PV.set (so a)) ⋯ λx m=>WM.trans (hc x m)) (e.trans ?_));rw[jt];rfl
end
section
variable{sc:β->Int}{l:List β}{c x:β}{m:Int}
noncomputable def rU(sc:β->Int)(m:Int)(l:List β):Int:=l.foldl (λm c=>max m (sc c)) m
def mx(sc:β->Int)(l:List β):Int:=rU sc (-1) l
def dP(sc:β->Int)(l:List β):List β:=l.filter λc=>decide (sc c=mx sc l)
theorem sJ:m<=rU sc m l/\∀x∈l,sc x<=rU sc m l:=by
 induction l generalizing m with
 |nil=>exact⟨tB _,λx h=>absurd h eX⟩|cons c l ih=>exact⟨ic (Int.le_max_left ..) (ih (m:=max m (sc c))).1,λx h=>(bw h).elim (λe=>ic (oF (af sc e)) (ic (Int.le_max_right m (sc c)) ih.1)) λh=>ih.2 x h⟩
theorem JD:rU sc m l=m\/∃x∈l,sc x=rU sc m l:=by
 induction l generalizing m with
 |nil=>exact .inl rfl
 |cons c l ih=>
  refine(ih (m:=max m (sc c))).elim (λe=>?_) λ⟨x,h,e⟩=>.inr ⟨x,.tail _ h,e⟩;by_cases q:m<=sc c
  ·exact .inr ⟨c,.head _,(TO q).symm.trans e.symm⟩
  ·exact .inl (e.trans (TP (Int.le_of_not_le q)))
theorem PK:mx sc (l++[c])=max (mx sc l) (sc c):=List.foldl_append ..
theorem Hy(h:∀x∈l,0<=sc x)(n:l≠[]):∃x∈l,sc x=mx sc l:=(JD (sc:=sc) (m:= -1) (l:=l)).elim (λe=>by
 obtain⟨c,l,rfl⟩:=CB n;exact absurd (ic (h c (.head _)) (e▸sJ.2 c (.head _))) (by decide)) id
theorem Hq(h:∀x∈l,0<=sc x):x∈dP sc l↔x∈l/\∀y∈l,sc y<=sc x:=by
 refine oE.trans (and_congr_right λm=>decide_eq_true_iff.trans ⟨λe=>e▸sJ.2,λk=>?_⟩);obtain⟨y,my,e⟩:=Hy h (CC m);exact zh (sJ.2 x m) (e▸k y my)
theorem tU(h:∀x∈l,0<=sc x)(n:l≠[]):dP sc l≠[]:=by
 obtain⟨y,my,e⟩:=Hy h n;exact CC (oV ⟨my,dT e⟩)
theorem IP{P:β->Bool}:[c].filter P=if P c=true then[c] else[]:=by
 cases h:P c with
 |true=>exact tD h|false=>exact u8 (ne_true_of_eq_false h)
theorem Ob(h:mx sc l<sc c):mx sc (l++[c])=sc c/\dP sc (l++[c])=[c]:=by
 have e:mx sc (l++[c])=sc c:=PK.trans (TO (mJ h));refine⟨e,?_⟩;unfold dP;rw[e,pW,Gp.mpr λx m k=>iA (sJ.2 x m) (cC k▸h),IP,dT rfl];rfl
theorem SC(h:¬mx sc l<sc c):mx sc (l++[c])=mx sc l/\dP sc (l++[c])=if sc c=mx sc l then dP sc l++[c] else dP sc l:=by
 have e:mx sc (l++[c])=mx sc l:=PK.trans (TP (jK h));refine⟨e,?_⟩;unfold dP;rw[e,pW];by_cases q:sc c=mx sc l
 ·rw[iP q,IP,dT q];rfl
 ·rw[iN q,IP,dF q];exact gO _
end
def nh{β:Type}(D:Nat)(sc:β->Int):List β->PV
 |[]=>.int (-1)|c::l=>fq D (mx sc (c::l))
structure BL(O:aK)(D:Nat)(id:Str)(p:PV)(B:ar->aZ)(nm:aN)(t:Expr)(E:List PV->PV->Option PV->Option PV->ar):Prop where
 bind:∀{b s c} {r:Option (PV×PV)},fT (sk nm) t c (E b s (r.map wQ) (r.map oz))=some (E b s (some c) (r.map oz))
 turn:∀{b s c y z b1 b2},O.fn "thiele_score" [.str id,p,c] []=some (fq D z)->O.cmp .Gt (fq D z) s=some b1->(b1=false->O.cmp .Eq (fq D z) s=some b2)->b.length<az->B (E b s (some c) y)=nx (if b1=true then E [c] (fq D z) (some c) (some (fq D z)) else E (if b2=true then b++[c] else b) s (some c) (some (fq D z)))
section
variable{p:PV}{B:ar->aZ}{t:Expr}{E:List PV->PV->Option PV->Option PV->ar}{sc:β->Int}{c:β}{y:Option PV}
theorem Sb:mx sc []<0:=show(-1:Int)<0 by decide
theorem acH{l:List β}(H:fX O D)(h:0<=sc c):O.cmp .Gt (fq D (sc c)) (nh D sc l)=some (decide (mx sc l<sc c)):=by
 cases l with
 |nil=>exact(H.I1 h).trans (af some (dT (lG Sb h)).symm)|cons=>exact H.gt
theorem Ox{l:List β}(H:fX O D)(h:0<=sc c)(n:¬mx sc l<sc c):nh D sc (l++[c])=nh D sc l/\O.cmp .Eq (fq D (sc c)) (nh D sc l)=some (decide (sc c=mx sc l)):=by
 cases l with
 |nil=>exact absurd (lG Sb h) n|cons=>exact⟨af (fq D) (SC n).1,H.eq⟩
theorem WJ{l:List β}(H:fX O D)(L:BL O D id p B nm t E)(h:O.fn "thiele_score" [.str id,p,v c] []=some (fq D (sc c))/\0<=sc c)(hz:l.length<az):B (E ((dP sc l).map v) (nh D sc l) (some (v c)) y)=nx (E ((dP sc (l++[c])).map v) (nh D sc (l++[c])) (some (v c)) (some (fq D (sc c)))):=by
 refine(L.turn h.1 (acH H h.2) (b2:=decide (sc c=mx sc l)) (λq=>(Ox H h.2 (iX q)).2) (aQ (aq (aD (bi _)) (rm ..)) hz)).trans (af nx ?_);by_cases q:mx sc l<sc c
 ·rw[dT q,iP rfl,(Ob q).2,show nh D sc (l++[c])=fq D (sc c) by rw[<-(Ob q).1];cases l<;>rfl];rfl
 ·rw[dF q,iN dy,(SC q).2,(Ox H h.2 q).1];by_cases k:sc c=mx sc l
  ·rw[dT k,iP rfl,iP k,mR];rfl
  ·rw[dF k,iN dy,iN k];rfl
theorem Hg(H:fX O D)(L:BL O D id p B nm t E):∀{l' l:List β} {r:Option (PV×PV)},(∀c∈l',O.fn "thiele_score" [.str id,p,v c] []=some (fq D (sc c))/\0<=sc c)->l.length+l'.length<az->∃r':Option (PV×PV),(r'=none->r=none/\l'=[])/\dX B nm t (l'.map v) (E ((dP sc l).map v) (nh D sc l) (r.map wQ) (r.map oz))=nx (E ((dP sc (l++l')).map v) (nh D sc (l++l')) (r'.map wQ) (r'.map oz)):=by
 intro l';induction l' with
 |nil=>exact λ{l r} _ _=>⟨r,λe=>⟨e,rfl⟩,by rw[gO];rfl⟩
 |cons c l' ih=>
  intro l r h hz;obtain⟨r',n,e⟩:=ih (l:=l++[c]) (r:=some (v c,fq D (sc c))) (λc m=>h c (.tail _ m)) (aQ (aD (by rw[da,fC];exact af _ (gj ..))) hz);rw[kx] at e;exact⟨r',(λq=>sN ((n q).1)),ik L.bind (WJ H L (h c (.head _)) (aQ (cW ..) hz)) e⟩
end
section
section
variable{n:Nat}{mu:List Str}{σ σ₁:ar}{st:aH}{K:PV×ar->aZ}{p:PV}{r:aZ}
theorem uq(hs:aw O (n+1) nm mu σ st=(bW (cI O n nm) σ (sE st)).bind K)(h0:cI O n nm (fL σ) (sE st)=none)(h:cI O n nm (bB σ) (sE st)=some p)(hc:(σ.any λq=>q.2.kM&&q.2.seen p)=false)(hk:K (p,dZ p σ)=r):aw O (n+1) nm mu σ st=r:=hs.trans (aG (show bW (cI O n nm) σ (sE st)=some (p,dZ p σ) by unfold bW;rw[h0,h];exact iN (ne_true_of_eq_false hc)) hk)
theorem dz{X:ar->aH->aZ}{l:List aH}{σ₁:ar}{q:Option PV}(h:X σ st=nx σ₁)(k:cm (aS X l σ₁)=q):cm (aS X (st::l) σ)=q:=(af cm (aF h rfl)).trans k
noncomputable def AV.qp(b:Bool)(l:List PV):AV:=if b=true then .pv (.list l) else .own l
end
noncomputable def eF(c:List Nat):PV:=.tup (c.map λn:Nat=>PV.int n)
def rX:aN:=AG.scope.names
def pL(i:Nat):aH:=aJ AG.body i
def bfI:aH:=aJ (sB 0 (pL 2)) 1
def P9:aH:=aJ (sB 1 bfI) 0
noncomputable def AC:List Str:=["opt_committees"]
noncomputable def Px(a b:Str)(r:ar)(x y:Option PV):ar:=x.elim r λx=>(a,.pv x)::y.elim r λy=>(b,.pv y)::r
def uh(id:Str)(p:PV)(k:Nat)(r:ar)(b:AV)(s:PV)(x y:Option PV):ar:=("scorefct_id",.pv (.str id))::("profile",.pv p)::("committeesize",.pv (.int k))::("resolute",.pv (.bool false))::("max_num_of_committees",.pv .none)::("opt_committees",b)::("opt_thiele_score",.pv s)::Px "committee" "score" r x y
variable{k n:Nat}{p:PV}{sc:List Nat->Int}{out:List PV}{vs:List (List Nat×Nat)}
theorem abn{p:PV}:BL O D id p (aS (aw O 999999 rX AC) (sB 0 (pL 2))) rX (sT (pL 2)) λb=>uh id p k [] (.own b) where
 bind:=λ{b s c r}=>by cases r<;>rfl'
 turn:=λ{b s c y z b1 b2} h hg he hz=>by
  refine aF (bg (n:=999998) (K:=bI rX "score" false) ⋯ ((show _=O.fn "thiele_score" [.str id,p,c] [] by cases y<;>rfl').trans h) (show _=nx (uh id p k [] (.own b) s (some c) (some (fq D z))) by cases y<;>rfl')) (aF (cN (n:=999998) (b:=b1) ⋯ ((⋯:_=O.cmp .Gt (fq D z) s).trans hg) ?_) rfl);cases b1 with
  |true=>rfl'
  |false=>
   refine(⋯:_=aS (aw O 999998 rX AC) [P9] (uh id p k [] (.own b) s (some c) (some (fq D z)))).trans (aF (cN (n:=999997) (b:=b2) ⋯ ((⋯:_=O.cmp .Eq (fq D z) s).trans (he rfl)) ?_) rfl);cases b2 with
   |true=>exact(⋯:_=aS (aw O 999997 rX AC) [aJ (sB 0 P9) 0] (uh id p k [] (.own b) s (some c) (some (fq D z)))).trans (aF (cN (n:=999996) (b:=true) ⋯ ⋯ (aF (σ₁:=uh id p k [] (.own (b++[c])) s (some c) (some (fq D z))) ((⋯:_=if b.length<az then nx (uh id p k [] (.own (b++[c])) s (some c) (some (fq D z))) else none).trans (iP hz)) rfl)) rfl)|false=>rfl'
def I3(O:aK)(D:Nat)(id:Str)(p:PV)(sc:List Nat->Int)(cs:List (List Nat)):Prop:=∀c∈cs,O.fn "thiele_score" [.str id,p,eF c] []=some (fq D (sc c))/\0<=sc c
theorem F_(H:fX O D)(hc:O.fn "combinations" [.list ((ax n).map λi:Nat=>.int i),.int k] []=some (.list (cs.map eF)))(hz:cs.length<az)(h:I3 O D id (a6 n ns vs) sc cs)(hs:O.fn "sorted_committees" [.list ((dP sc cs).map eF)] []=some (.list out)):
  bm O NN AG [] [("scorefct_id",.str id),("profile",a6 n ns vs),("committeesize",.int k),("resolute",.bool false),("max_num_of_committees",.none)]=some (.tup [.list out,.any]):=by
 obtain⟨r,_,e⟩:=Hg (l:=[]) (r:=none) H (abn (k:=k)) h (by rw[Cn,f5];exact hz);refine(⋯:_=cm (a9 O NN rX AC (uh id (a6 n ns vs) k [] (.own []) (.int (-1)) none none) [pL 2,pL 3,pL 4,pL 5,pL 6,pL 7])).trans (dz (bg (n:=999999) (K:=fY (aw O 999999 rX AC) rX (sT (pL 2)) (sB 0 (pL 2))) ⋯ ((show _=O.fn "combinations" [.list ((ax n).map λi:Nat=>.int i),.int k] [] by rfl').trans hc) (rY e)) (dz (uq (n:=999999) (K:=bI rX "committees" false) (p:=.list out) ⋯ (by cases r<;>rfl') ((show _=O.fn "sorted_committees" [.list ((dP sc cs).map eF)] [] by cases r<;>rfl').trans hs) (by cases r<;>rfl') (show _=nx (uh id (a6 n ns vs) k [("committees",.pv (.list out))] (.qp (cg [(dP sc cs).map eF] [] (.list out)) ((dP sc cs).map eF)) (nh D sc cs) (r.map wQ) (r.map oz)) by cases r<;>rfl')) ?_));cases cg [(dP sc cs).map eF] [] (.list out)<;>cases r<;>rfl'
end
section
def gI(e:Expr):List Expr:=(gC e).ifs
def gR(e:Expr):List jL:=(gP e).1.drop 1
def c8(O:aK)(n:Nat)(e:Expr)(ρ:bj)(src:List PV):Option PV:=(qA (rH (ip n O) (gS e).names (bR 0 e) (gR e)) ((ip n O).t (gS e).names) (gS e).names (gT e) (gI e) ρ src).bind (oZ .list)
section
variable{n:Nat}{e:Expr}{ρ:bj}{w:β->PV}{l:List β}{ok:β->Bool}{t:Expr}{ifs:List Expr}{body:bj->Option (List PV)}{te:bj->Expr->Option Bool}{f:β->List PV}
theorem GR(hf:lx t ρ=true)(h:∀a∈l,((fT (gY nm) t (v a) ρ).bind λfR=>(pZ (te fR) false ifs).bind λok=>if ok=true then body fR else some [])=some (f a)):qA body te nm t ifs ρ (l.map v)=some (l.flatMap f):=by
 induction l with
 |nil=>rfl|cons a l ih=>exact aj (h a (.head _)) λfR h1 h2=>aj h2 λk h2 h3=>(iP hf).trans (aG h1 (aG h2 (aG h3 (af (eP _) (ih λx m=>h x (.tail _ m))))))
theorem WV:(l.flatMap λa=>if ok a=true then[w a] else[])=(l.filter ok).map w:=by
 induction l with
 |nil=>rfl
 |cons a l ih=>
  rw[K0,ih];cases h:ok a with
  |true=>rw[tD h];rfl|false=>rw[u8 (ne_true_of_eq_false h)];rfl
theorem wh(hf:lx (gT e) ρ=true)(h:∀a∈l,((fT (gY (gS e).names) (gT e) (v a) ρ).bind λfR=>(pZ ((ip n O).t (gS e).names fR) false (gI e)).bind λok=>if ok=true then rH (ip n O) (gS e).names (bR 0 e) (gR e) fR else some [])=some (if ok a=true then[w a] else[]))(hz:l.length<=az):c8 O n e ρ (l.map v)=some (.list ((l.filter ok).map w)):=
 aG ((GR hf h).trans (af some WV)) (iP (aq (aD (bi _)) (aq (rm ..) hz)))
theorem ni(hf:lx (gT e) ρ=true)(h:∀a∈l,((fT (gY (gS e).names) (gT e) (v a) ρ).bind λfR=>(pZ ((ip n O).t (gS e).names fR) false (gI e)).bind λok=>if ok=true then rH (ip n O) (gS e).names (bR 0 e) (gR e) fR else some [])=some [w a])(hz:l.length<=az):c8 O n e ρ (l.map v)=some (.list (l.map w)):=
 (wh (ok:=λ_=>true) hf h hz).trans (by rw[Go.mpr λ_ _=>rfl])
end
def ij:aN:=Au.scope.names
noncomputable def oS:List Str:=["best_committees","final_committees"]
def dI(i:Nat):aH:=aJ Au.body i
def VU(i:Nat):aH:=aJ (sB 0 (dI i)) 1
def EW(i:Nat):aH:=aJ (sB 1 (VU i)) 0
def jF(p:PV)(k:Nat)(bc:AV)(d9:PV)(r:ar)(x y:Option PV):ar:=("profile",.pv p)::("committeesize",.pv (.int k))::("resolute",.pv (.bool false))::("max_num_of_committees",.pv .none)::("best_committees",bc)::("best_coverage",.pv d9)::Px "committee" "coverage" r x y
noncomputable def rV(fc:AV)(s:PV)(y:Option PV)(r:ar):ar:=("final_committees",fc)::("best_score",.pv s)::y.elim r λy=>("score",.pv y)::r
variable{k n:Nat}{p d9 c0 a0:PV}{vj xi:List Nat->Int}{L:List PV}{vs:List (List Nat×Nat)}
theorem ϒ:BL O D "cc" p (aS (aw O 999999 ij oS) (sB 0 (dI 2))) ij (sT (dI 2)) λb s=>jF p k (.own b) s [] where
 bind:=λ{b s c r}=>by cases r<;>rfl'
 turn:=λ{b s c y z b1 b2} h hg he hz=>by
  refine aF (bg (n:=999998) (K:=bI ij "coverage" false) ⋯ ((show _=O.fn "thiele_score" [.str "cc",p,c] [] by cases y<;>rfl').trans h) (show _=nx (jF p k (.own b) s [] (some c) (some (fq D z))) by cases y<;>rfl')) (aF (cN (n:=999998) (b:=b1) ⋯ ((⋯:_=O.cmp .Gt (fq D z) s).trans hg) ?_) rfl);cases b1 with
  |true=>rfl'
  |false=>
   refine(⋯:_=aS (aw O 999998 ij oS) [EW 2] (jF p k (.own b) s [] (some c) (some (fq D z)))).trans (aF (cN (n:=999997) (b:=b2) ⋯ ((⋯:_=O.cmp .Eq (fq D z) s).trans (he rfl)) ?_) rfl);cases b2 with
   |true=>exact aF (st:=aJ (sB 0 (EW 2)) 0) (σ₁:=jF p k (.own (b++[c])) s [] (some c) (some (fq D z))) ((⋯:_=if b.length<az then nx (jF p k (.own (b++[c])) s [] (some c) (some (fq D z))) else none).trans (iP hz)) rfl|false=>rfl'
theorem Zr:BL O D "adams" p (aS (aw O 999999 ij oS) (sB 0 (dI 5))) ij (sT (dI 5)) λb s x y=>jF p k (.pv (.list L)) d9 (rV (.own b) s y []) (some (x.getD c0)) (some a0) where
 bind:=λ{b s c r}=>by cases r<;>rfl'
 turn:=λ{b s c y z b1 b2} h hg he hz=>by
  refine aF (bg (n:=999998) (K:=bI ij "score" false) ⋯ ((show _=O.fn "thiele_score" [.str "adams",p,c] [] by cases y<;>rfl').trans h) (show _=nx (jF p k (.pv (.list L)) d9 (rV (.own b) s (some (fq D z)) []) (some c) (some a0)) by cases y<;>rfl')) (aF (cN (n:=999998) (b:=b1) ⋯ ((⋯:_=O.cmp .Gt (fq D z) s).trans hg) ?_) rfl);cases b1 with
  |true=>rfl'
  |false=>
   refine(⋯:_=aS (aw O 999998 ij oS) [EW 5] (jF p k (.pv (.list L)) d9 (rV (.own b) s (some (fq D z)) []) (some c) (some a0))).trans (aF (cN (n:=999997) (b:=b2) ⋯ ((⋯:_=O.cmp .Eq (fq D z) s).trans (he rfl)) ?_) rfl);cases b2 with
   |true=>exact aF (st:=aJ (sB 0 (EW 5)) 0) (σ₁:=jF p k (.pv (.list L)) d9 (rV (.own (b++[c])) s (some (fq D z)) []) (some c) (some a0)) ((⋯:_=if b.length<az then nx (jF p k (.pv (.list L)) d9 (rV (.own (b++[c])) s (some (fq D z)) []) (some c) (some a0)) else none).trans (iP hz)) rfl|false=>rfl'
theorem Θ{ls:List (List PV)}:∀l:List (List Nat),iq ls [] (l.map eF)=false:=by
 have i (c:List Nat):iq ls [] (c.map λn:Nat=>PV.int n)=false:=by
  induction c with
  |nil=>rfl|cons=>assumption
 intro l;induction l with
 |nil=>rfl|cons c l ih=>exact(af (λb=>b||iq ls [] (l.map eF)) (i c)).trans ih
theorem χ(H:fX O 1)(H6:fX O 6)(hc:O.fn "combinations" [.list ((ax n).map λi:Nat=>.int i),.int k] []=some (.list (cs.map eF)))(h0:cs≠[])(hz:cs.length<az)(h:I3 O 1 "cc" (a6 n ns vs) vj cs)(h':I3 O 6 "adams" (a6 n ns vs) xi cs)
(ha:O.attr bv "num_cand" (a6 n ns vs)=some (.int n))(hs:∀c∈cs,O.fn "CandidateSet" [eF c] [("num_cand",.int n)]=some (.set c)):
  bm O NN Au [a6 n ns vs,.int k,.bool false,.none] []=some (.list ((dP xi (dP vj cs)).map PV.set)):=by
 have sub:∀c∈dP vj cs,c∈cs:=λc m=>(eJ m).1;have z1:(dP vj cs).length<az:=aQ (rm ..) hz;have z2:(dP xi (dP vj cs)).length<=az:=aq (rm ..) (cy z1);have n1:=tU (λx m=>(h x m).2) h0;obtain⟨r,nr,e1⟩:=Hg (l:=[]) (r:=none) H (ϒ (k:=k)) h (by rw[Cn,f5];exact hz);refine(⋯:_=cm (a9 O NN ij oS (jF (a6 n ns vs) k (.own []) (.int (-1)) [] none none) [dI 2,dI 3,dI 4,dI 5,dI 6,dI 7,dI 8,dI 9])).trans (dz (bg (n:=999999) (K:=fY (aw O 999999 ij oS) ij (sT (dI 2)) (sB 0 (dI 2))) ⋯ ((show _=O.fn "combinations" [.list ((ax n).map λi:Nat=>.int i),.int k] [] by rfl').trans hc) (rY e1)) ?_);clear e1;cases r with
 |none=>exact absurd (nr rfl).2 h0
 |some r=>
 obtain⟨c0,a0⟩:=r;generalize nh 1 vj ([]++cs)=d9;show cm (aS (aw O NN ij oS) [dI 3,dI 4,dI 5,dI 6,dI 7,dI 8,dI 9] (jF (a6 n ns vs) k (.own ((dP vj cs).map eF)) d9 [] (some c0) (some a0)))=_;generalize dP vj cs=T at*;obtain⟨r,_,e2⟩:=Hg (l:=[]) (r:=none) H6 (Zr (k:=k) (L:=T.map eF) (d9:=d9) (c0:=c0) (a0:=a0)) (λc m=>h' c (sub c m)) (by rw[Cn,f5];exact z1);refine(⋯:_=cm (a9 O NN ij oS (jF (a6 n ns vs) k (.own (T.map eF)) d9 (rV (.own []) (.int (-1)) none []) (some c0) (some a0)) [dI 5,dI 6,dI 7,dI 8,dI 9])).trans (dz (uq (n:=999999) (K:=fY (aw O 999999 ij oS) ij (sT (dI 5)) (sB 0 (dI 5))) (p:=.list (T.map eF)) ⋯ ⋯ ⋯ ⋯ (rY ((af (λσ=>dX (aS (aw O 999999 ij oS) (sB 0 (dI 5))) ij (sT (dI 5)) (T.map eF) σ) ?_).trans e2))) ?_)
 ·cases T with
  |nil=>exact absurd rfl n1|cons d T=>exact(⋯:_=jF (a6 n ns vs) k (.pv (.list ((d::T).map eF))) d9 (rV (if iq [[]] [] ((d::T).map eF)=true then .pv (.list []) else .own []) (.int (-1)) none []) (some c0) (some a0)).trans (by rw[Θ];rfl)
 generalize nh 6 xi ([]++T)=s;show cm (aS (aw O NN ij oS) [dI 6,dI 7,dI 8,dI 9] (jF (a6 n ns vs) k (.pv (.list (T.map eF))) d9 (rV (.own ((dP xi T).map eF)) s (r.map oz) []) (some ((r.map wQ).getD c0)) (some a0)))=_;have ahD:∀c∈dP xi T,c∈cs:=λc m=>sub c (eJ m).1;generalize dP xi T=F at*;refine dz (uq (n:=999999) (K:=bI ij "committees" false) (p:=.list (F.map PV.set)) ⋯ (by cases r<;>rfl') ((show _=c8 O 999998 (sE (dI 6)) [("profile",a6 n ns vs)] (F.map eF) by cases r<;>rfl').trans (ni ⋯ (λc m=>(show _=(((O.attr bv "num_cand" (a6 n ns vs)).bind λv=>some [(("num_cand":Str),v)]).bind λks=>O.fn "CandidateSet" [eF c] ks).map λx=>[x] by rfl').trans ?_) z2)) (by cases r<;>rfl') (show _=nx (jF (a6 n ns vs) k (.pv (.list (T.map eF))) d9 (rV (.qp (cg [F.map eF] [] (.list (F.map PV.set))) (F.map eF)) s (r.map oz) [("committees",.pv (.list (F.map PV.set)))]) (some ((r.map wQ).getD c0)) (some a0)) by cases r<;>rfl')) ?_
 ·rw[ha];exact af (eP _) (hs c (ahD c m))
 cases cg [F.map eF] [] (.list (F.map PV.set))<;>cases r<;>rfl'
end
end
section
variable{α:Type}{n D:Nat}{f:Nat->α}{O:aK}{id:Str}
section
noncomputable def dQ{α:Type}(n:Nat)(f:Nat->α):List α:=(ax n).map f
noncomputable def gz{α:Type}(f:Nat->α)(i:Nat)(v:α)(c:Nat):α:=if c=i then v else f c
section
variable{i:Nat}{h:Nat->PV}{v:PV}{nm:aN}{mu:List Str}{σ:ar}{st:aH}{x:Str}{op:ia}{l l':List PV}{k a w p:PV}{r:aZ}
theorem tW:(dQ n f).length=n:=(bi _).trans cF
theorem EV(q:i<n):(dQ n f)[i]?=some (f i):=oy.trans (af (eP f) (agO q))
theorem GO{m:Nat}(q:i<m):wJ (i:Int) m=some i:=(⋯:_=if decide ((i:Int)<m)=true then some i else none).trans (iP (dT (jf q)))
theorem DS(q:i<n):bQ (.list (dQ n h)) (.int i)=some (h i):=aG (K:=λj=>(dQ n h)[j]?) ((af _ tW).trans (GO q)) (EV q)
theorem YI(q:i<n){w:α}:(dQ n f).set i w=dQ n (gz f i w):=by
 refine List.ext_getElem? λj=>?_;rw[List.getElem?_set,tW];by_cases e:i=j
 ·subst e;rw[iP rfl,iP q,EV q];exact af some (iP rfl).symm
 ·rw[iN e];by_cases hj:j<n
  ·rw[EV hj,EV hj];exact af some (iN λk=>e k.symm).symm
  ·rw[zc (aq (aD tW) (cZ hj)),zc (aq (aD tW) (cZ hj))]
theorem G'(q:i<n):kh (dQ n h) (.int i) v=some (dQ n (gz h i v)):=(iP ⟨fP i,jf (tW.symm▸q)⟩).trans (af some (YI q))
theorem ν{v:α}:∀n,(kt n [v]).flatten=dQ n λ_=>v:=λn=>by
 refine .trans ?_ ((List.map_const ..).trans (af (λn=>kt n v) cF)).symm;induction n with
 |zero=>rfl|succ n ih=>exact af (v:: ·) ih
theorem HE(hn:n<=100):fV O .Mult (.list [v]) (.int n)=some (.list (dQ n λ_=>v)):=(⋯:_=if(0:Int)<=n/\(n:Int)<=100/\[v].length<=100 then some (PV.list (kt n [v]).flatten) else none).trans ((iP ⟨fP n,pz hn,(by decide:1<=100)⟩).trans (af (λl=>some (PV.list l)) (ν n)))
theorem IZ(hs:aw O (n+1) nm mu σ st=(bQ (.list l) k).bind λa=>(bW (cI O n nm) σ (sE st)).bind λq=>(uj O op a q.1).bind λp=>(gu q.2 x).bind λl=>(kh l k p).bind λl'=>eD (putN nm x (.own l') q.2))(ha:bQ (.list l) k=some a)(he:cI O n nm (fL σ) (sE st)=some w)(hr:uj O op a w=some p)(hw:gu σ x=some l)(hp:kh l k p=some l')(hk:eD (putN nm x (.own l') σ)=r):aw O (n+1) nm mu σ st=r:=hs.trans (aG ha (aG (wj he) (aG hr (aG hw (aG hp hk)))))
end
noncomputable def aC(l:List Nat):List PV:=l.map λn:Nat=>PV.int n
def gd:aN:=A6.scope.names
def iD(i:Nat):aH:=aJ A6.body i
def AM:aH:=aJ (sB 0 (iD 1)) 1
def gA(D:Nat)(id:Str)(p:PV)(C:List Nat)(n:Nat)(g:Nat->Int)(r:ar):ar:=("marginal_scorefct",.pv (fU id))::("profile",.pv p)::("committee",.pv (.list (aC C)))::("marginal",.own (dQ n λc=>fq D (g c)))::r
noncomputable def jT(y:Option PV)(q:PV×Nat):ar:=("voter",.pv q.1)::("intersectionsize",.pv (.int q.2))::y.elim [] λy=>[("cand",.pv y)]
noncomputable def qP:List Str:=["marginal"]
noncomputable def yz(l:List Nat)(x:Int)(g:Nat->Int)(c:Nat):Int:=if c∈l then g c+x else g c
theorem abh{i:Nat}{l:List Nat}{x:Int}{g:Nat->Int}(h:i∉l):yz l x (gz g i (g i+x))=yz (i::l) x g:=by
 funext c;unfold yz gz;by_cases e:c=i
 ·subst e;rw[iN h,iP rfl,iP (.head _)]
 ·rw[iN e,ite_congr (propext (jO.trans (or_iff_right e))) (λ_=>rfl) λ_=>rfl]
theorem Nv{D n i:Nat}{g:Nat->Int}{z:Int}:dQ n (gz (λc=>fq D (g c)) i (fq D z))=dQ n λc=>fq D (gz g i z c):=af (dQ n) (funext λc=>(apply_ite (fq D) ..).symm)
variable{S:Nat->Int}{j:Nat}{p:PV}{C l:List Nat}{g:Nat->Int}{q:List Nat×Nat}{y:Option PV}
theorem WT{i:Nat}(H:iU O id S D)(hj:j<4)(hi:i<n):aw O 999998 gd qP (gA D id p C n g (jT (some (.int i)) (bq q,j))) (aJ (sB 0 AM) 0)=nx (gA D id p C n (gz g i (g i+(S (j+1) -S j)*q.2)) (jT (some (.int i)) (bq q,j))):=
 IZ (n:=999997) (x:="marginal") (op:=.Add) (k:=.int i) ⋯ (DS (h:=λc=>fq D (g c)) hi) ((show _=(O.bM p8 "__call__" [fU id,.int (j+1:Nat)] []).bind λa=>fV O .Mult a (.int q.2) by rfl').trans (aG (H.val j hj) (H.mul (H.num j hj)))) H.add ⋯ ((G' hi).trans (af some Nv)) ⋯
theorem S_(H:iU O id S D)(hj:j<4):∀{l:List Nat} {g:Nat->Int} {y:Option PV},l.Nodup->(∀i∈l,i<n)->∃y',dX (aS (aw O 999998 gd qP) (sB 0 AM)) gd (sT AM) (aC l) (gA D id p C n g (jT y (bq q,j)))=nx (gA D id p C n (yz l ((S (j+1) -S j)*q.2) g) (jT y' (bq q,j))):=by
 intro l;induction l with
 |nil=>exact λ{g y} _ _=>⟨y,rfl⟩
 |cons i l ih=>
  intro g y hd hi;have hd:=iS hd;obtain⟨y',e⟩:=ih (g:=gz g i (g i+(S (j+1) -S j)*q.2)) (y:=some (.int i)) hd.2 λx m=>hi x (.tail _ m);rw[abh hd.1] at e;exact⟨y',ik (σ₁:=gA D id p C n g (jT (some (.int i)) (bq q,j))) (by cases y<;>rfl') (aF (WT H hj (hi i (.head _))) rfl) e⟩
noncomputable def l5(C A:List Nat):Nat:=(A.filter λx=>C.contains x).length
structure zN(C:List Nat)(n:Nat)(q:List Nat×Nat):Prop where
 l5:l5 C q.1<4
 nd:q.1.Nodup
 lt:∀i∈q.1,i<n
theorem aeC{C:List Nat}:qF (aC C)=some (C.map λn:Nat=>(n:Int)):=by
 induction C with
 |nil=>rfl|cons c C ih=>exact qY.trans (af (λr:Option (List Int)=>r.bind λl=>some ((c:Int)::l)) ih)
theorem Wt{x:Nat}:(C.map λn:Nat=>(n:Int)).contains (x:Int)=C.contains x:=by
 rw[FK,kz,kz,rn];exact⟨λ⟨y,m,e⟩=>FW e▸m,λm=>⟨x,m,rfl⟩⟩
def uF(S:Nat->Int)(C:List Nat)(q:List Nat×Nat)(c:Nat):Int:=if c∈q.1 then(S (l5 C q.1+1) -S (l5 C q.1))*q.2 else 0
theorem VR{x:Option (PV×Nat)}(H:iU O id S D)(h:zN C n q):a9 O 999999 gd qP (gA D id p C n g (x.elim [("voter",.pv (bq q))] λx=>jT none (bq q,x.2))) (sB 0 (iD 1))=nx (gA D id p C n (λc=>g c+uF S C q c) (jT none (bq q,l5 C q.1))):=by
 refine aF (bg (n:=999998) (K:=bI gd "intersectionsize" false) ⋯ ((show _=(((qF (aC C)).map λdW=>PV.set (q.1.filter λx=>dW.contains (x:Int))).bind λv=>some [v]).bind λvs=>nV O "len" vs [] by cases x<;>rfl').trans (aG (aG (af (eP _) aeC) rfl) rfl)) ((af (λh=>bI gd "intersectionsize" false (PV.int ((q.1.filter h).length:Nat),gA D id p C n g (x.elim [("voter",.pv (bq q))] λx=>jT none (bq q,x.2)))) (funext λ_=>Wt)).trans (show _=nx (gA D id p C n g (jT none (bq q,l5 C q.1))) by cases x<;>rfl'))) (aF (bg (n:=999998) (K:=fY (aw O 999998 gd qP) gd (sT AM) (sB 0 AM)) (p:=.set q.1) ⋯ ⋯ (Ji λl' hp=>?_)) rfl)
 ·obtain⟨y,e⟩:=S_ (p:=p) (C:=C) (q:=q) (g:=g) (y:=none) H h.l5 (hp.nodup_iff.mpr h.nd) λi m=>h.lt i (hp.mem_iff.mp m);refine⟨_,e,?_⟩;rw[show yz l' ((S (l5 C q.1+1) -S (l5 C q.1))*q.2) g=λc=>g c+uF S C q c from funext λc=>by
   unfold yz uF;by_cases k:c∈q.1
   ·rw[iP k,iP (hp.mem_iff.mpr k)]
   ·rw[iN k,iN λm=>k (hp.mem_iff.mp m),uS]]
  cases y<;>rfl'
def jJ(S:Nat->Int)(C:List Nat)(c:Nat):List (List Nat×Nat)->Int
 |[]=>0|q::vs=>uF S C q c+jJ S C c vs
theorem abb(H:iU O id S D):∀{vs:List (List Nat×Nat)} {g:Nat->Int} {x:Option (PV×Nat)},(∀q∈vs,zN C n q)->∃x':Option (PV×Nat),dX (aS (aw O 999999 gd qP) (sB 0 (iD 1))) gd (sT (iD 1)) (vs.map bq) (gA D id p C n g (x.elim [] (jT none)))=nx (gA D id p C n (λc=>g c+jJ S C c vs) (x'.elim [] (jT none))):=by
 intro vs;induction vs with
 |nil=>exact λ{g x} _=>⟨x,af (λg=>nx (gA D id p C n g (x.elim [] (jT none)))) (funext λc=>(uS (g c)).symm)⟩
 |cons q vs ih=>
  intro g x h;obtain⟨x',e⟩:=ih (g:=λc=>g c+uF S C q c) (x:=some (bq q,l5 C q.1)) λq m=>h q (.tail _ m);exact⟨x',ik (σ₁:=gA D id p C n g (x.elim [("voter",.pv (bq q))] λx=>jT none (bq q,x.2))) (by cases x<;>rfl') (VR H (h q (.head _))) (e.trans (af (λg=>nx (gA D id p C n g (x'.elim [] (jT none)))) (funext λc=>mQ ..)))⟩
noncomputable def im(D:Nat)(C:List Nat)(g:Nat->Int)(c:Nat):Int:=if c∈C then-1*D else g c
theorem aaB{i:Nat}:im D l (gz g i (-1*D))=im D (i::l) g:=by
 funext c;unfold im gz;by_cases m:c∈l
 ·rw[iP m,iP (.tail _ m)]
 ·rw[iN m,ite_congr (propext (jO.trans (or_iff_left m))).symm (λ_=>rfl) λ_=>rfl]
def vN(x:Option (PV×Nat))(y:Option PV):ar:=x.elim (y.elim [] λy=>[("cand",.pv y)]) (jT y)
theorem af0(H:fX O D){x:Option (PV×Nat)}:∀{l:List Nat} {g:Nat->Int} {y:Option PV},(∀i∈l,i<n)->∃y',dX (aS (aw O 999999 gd qP) (sB 0 (iD 2))) gd (sT (iD 2)) (aC l) (gA D id p C n g (vN x y))=nx (gA D id p C n (im D l g) (vN x y')):=by
 intro l;induction l with
 |nil=>exact λ{g y} _=>⟨y,af (λg=>nx (gA D id p C n g (vN x y))) (funext λc=>(iN eX).symm)⟩
 |cons i l ih=>
  intro g y hi;obtain⟨y',e⟩:=ih (g:=gz g i (-1*D)) (y:=some (.int i)) λx m=>hi x (.tail _ m);rw[aaB] at e;refine⟨y',ik (σ₁:=gA D id p C n g (vN x (some (.int i)))) (by cases x<;>cases y<;>rfl') (aF (st:=aJ (sB 0 (iD 2)) 0) ((show _=(bW (cI O 999998 gd) (gA D id p C n g (vN x (some (.int i)))) (sE (aJ (sB 0 (iD 2)) 0))).bind λq=>(gu q.2 "marginal").bind λl=>(cI O 999998 gd (bB q.2) (bR 1 (sT (aJ (sB 0 (iD 2)) 0)))).bind λk=>(kh l k q.1).bind λl'=>eD (putN gd "marginal" (.own l') q.2) by rfl').trans (aG (wj ((show _=O.fn "Fraction" [.int (-1)] [] by cases x<;>rfl').trans H.one)) (aG (a:=dQ n λc=>fq D (g c)) ⋯ (aG (a:=.int i) (by cases x<;>rfl') (aG ((G' (hi i (.head _))).trans (af some Nv)) (show _=nx (gA D id p C n (gz g i (-1*D)) (vN x (some (.int i)))) by cases x<;>rfl')))))) rfl) e⟩
theorem aaF(H:iU O id S D){ns:PV}{vs:List (List Nat×Nat)}(ha:O.attr bv "num_cand" (a6 n ns vs)=some (.int n))(hn:n<=100)(hv:∀q∈vs,zN C n q)(hi:∀i∈C,i<n):
  bm O NN A6 [fU id,a6 n ns vs,.list (aC C)] []=some (.list (dQ n λc=>fq D (im D C (jJ S C · vs) c))):=by
 obtain⟨x,e1⟩:=abb (p:=a6 n ns vs) (g:=λ_=>0) (x:=none) H hv;obtain⟨y,e2⟩:=af0 (id:=id) (p:=a6 n ns vs) (C:=C) (g:=λc=>0+jJ S C c vs) (x:=x) (y:=none) H.tofX hi;refine(⋯:_=cm (a9 O NN gd qP [("marginal_scorefct",.pv (fU id)),("profile",.pv (a6 n ns vs)),("committee",.pv (.list (aC C)))] [iD 0,iD 1,iD 2,iD 3])).trans (dz (bg (n:=999999) (K:=bI gd "marginal" true) (p:=.list (dQ n λ_=>fq D 0)) ⋯ ?_ (show _=nx (gA D id (a6 n ns vs) C n (λ_=>0) []) by rfl')) (dz (bg (n:=999999) (K:=fY (aw O 999999 gd qP) gd (sT (iD 1)) (sB 0 (iD 1))) (p:=a6 n ns vs) ⋯ ⋯ (Oa ⋯ e1)) (dz (bg (n:=999999) (K:=fY (aw O 999999 gd qP) gd (sT (iD 2)) (sB 0 (iD 2))) (p:=.list (aC C)) ⋯ (by cases x<;>rfl') (rY ((af (dX (aS (aw O 999999 gd qP) (sB 0 (iD 2))) gd (sT (iD 2)) (aC C)) (show _=gA D id (a6 n ns vs) C n (λc=>0+jJ S C c vs) (vN x none) by cases x<;>rfl')).trans e2))) ?_)))
 ·refine(show _=(((O.fn "Fraction" [.int 0] []).bind λv=>some [v]).bind (oZ .list)).bind λa=>(O.attr bv "num_cand" (a6 n ns vs)).bind λb=>fV O .Mult a b by rfl').trans (aG (a:=.list [fq D (0*D)]) (aG (aG H.one rfl) rfl) (aG ha ((HE hn).trans ?_)));rw[yS]
 ·rw[show(λc=>fq D (im D C (jJ S C · vs) c))=λc=>fq D (im D C (λc=>0+jJ S C c vs) c) from af (λg c=>fq D (im D C g c)) (funext λc=>(Gb _).symm)];cases x<;>cases y<;>rfl'
end
def vy:aN:=AE.scope.names
def wo(i:Nat):aH:=aJ AE.body i
noncomputable def sL(l:List PV)(s:PV)(v:Option PV):ar:=("values",.pv (.list l))::("result",.pv s)::v.elim [] λv=>[("value",.pv v)]
section
variable{L:List PV}{s:Int}
def ii(D:Nat)(l:List Int):List PV:=l.map (fq D)
theorem Qh{v:Option PV}{a:Int}{p q:PV}(h:O.bin .Add (fq D a) p=some q):a9 O 999999 vy [] (sL L p (some (fq D a))) (sB 0 (wo 1))=nx (sL L q (some (fq D a))):=aF (bg (n:=999998) (K:=bI vy "result" false) ⋯ ((⋯:_=O.bin .Add (fq D a) p).trans h) (⋯:_=nx (sL L q (some (fq D a))))) rfl
theorem X7(H:fX O D):∀{l:List Int} {s:Int} {v:Option PV},∃v',dX (aS (aw O 999999 vy []) (sB 0 (wo 1))) vy (sT (wo 1)) (ii D l) (sL L (fq D s) v)=nx (sL L (fq D (s+l.sum)) v'):=by
 intro l;induction l with
 |nil=>exact λ{s v}=>⟨v,af (λs=>nx (sL L (fq D s) v)) (uS s).symm⟩
 |cons a l ih=>
  intro s v;obtain⟨v',e⟩:=ih (s:=a+s) (v:=some (fq D a));rw[u7 a,mQ] at e;exact⟨v',ik (σ₁:=sL L (fq D s) (some (fq D a))) (by cases v<;>rfl') (Qh (v:=v) (u7 s a▸H.add)) e⟩
theorem Wu{a:Int}{l:List Int}(H:fX O D):bm O NN AE [.list (ii D (a::l))] []=some (fq D (a::l).sum):=by
 obtain⟨v,e⟩:=X7 (L:=ii D (a::l)) (l:=l) (s:=a) (v:=some (fq D a)) H;exact(⋯:_=cm (a9 O NN vy [] (sL (ii D (a::l)) (.int 0) none) [wo 1,wo 2])).trans (dz (bg (n:=999999) (K:=fY (aw O 999999 vy []) vy (sT (wo 1)) (sB 0 (wo 1))) ⋯ (⋯:_=some (PV.list (ii D (a::l)))) (rY (ik (σ₁:=sL (ii D (a::l)) (.int 0) (some (fq D a))) ⋯ (Qh (v:=none) H.Wn) e))) (by cases v<;>rfl'))
theorem sR{β:Type}(K:List PV->Option β):over (.d5 0 n) K=K (aC (ax n)):=by
 show K ((ax ((n:Int) -0).toNat).map λk:Nat=>PV.int (0+k))=_;rw[Kt];exact af K (pV λk _=>af PV.int (Gb _))
theorem Ai{X:ar->aH->aZ}{b:List aH}{nm:aN}{t:Expr}{σ σ':ar}(h:dX (aS X b) nm t (aC (ax n)) σ=nx σ'):fY X nm t b (.d5 0 n,σ)=nx σ':=(sR _).trans (aG (K:=lh t (.d5 0 n)) h rfl)
theorem nO(h:n<=az):f9 0 n=some (.d5 0 n):=iP ⟨by decide,aQ h (by decide),(Kt _).symm▸pz h⟩
theorem ZD{β:Type}{g:β->Int}(H:fX O D):∀{l:List β} {a:Int},vW (yb O) (fq D a) (l.map λc=>fq D (g c))=some (fq D (rU g a l)):=by
 intro l;induction l with
 |nil=>exact rfl
 |cons c l ih=>
  intro a;refine aG H.gt ?_;show(if decide (a<g c)=true then _ else _)=some (fq D (rU g (max a (g c)) l));by_cases q:a<g c
  ·rw[iP (dT q),TO (mJ q)];exact ih
  ·rw[iN (ne_true_of_eq_false (dF q)),TP (jK q)];exact ih
def top(n:Nat)(g:Nat->Int):Int:=rU g (g 0) (ax n)
theorem RP{g:Nat->Int}(H:fX O D)(h:0<n):tY O (dQ n λc=>fq D (g c))=some (fq D (top n g)):=by
 obtain⟨m,rfl⟩:=u6 (fO h);unfold top dQ;rw[yL];exact(ZD H).trans (af (λa=>some (fq D (rU g a ((ax m).map jq)))) (Int.max_self _).symm)
theorem O3{g:Nat->Int}(h:0<n):(∃c,c<n/\g c=top n g)/\∀c,c<n->g c<=top n g:=
 ⟨JD.elim (λe=>⟨0,h,e.symm⟩) λ⟨c,m,e⟩=>⟨c,eL m,e⟩,λc m=>sJ.2 c (dH m)⟩
end
section
def lu:aN:=AT.scope.names
def nR(i:Nat):aH:=aJ AT.body i
def qq(i:Nat):aH:=aJ (sB 0 (nR 3)) i
noncomputable def Bb:List Str:=["next_cand","tied_cands","delta_score"]
def jb(id:Str)(p:PV)(k:Nat)(A:AV)(c:Nat)(r:ar):ar:=("scorefct_id",.pv (.str id))::("profile",.pv p)::("committeesize",.pv (.int k))::("committee",A)::("marginal_scorefct",.pv (fU id))::("detailed_info",.dl Bb c)::r
noncomputable def kl(i:PV)(a b c:Option PV):ar:=("_",.pv i)::a.elim [] λa=>("additional_score_cand",.pv a)::b.elim [] λb=>("tied_cands",.pv b)::c.elim [] λc=>[("next_cand",.pv c)]
abbrev JQ:Type:=Option (PV×PV×PV×PV)
noncomputable def AO:List Str:=["committee"]
def Bk(n:Nat)(g:Nat->Int):List Nat:=(ax n).filter λc=>decide (g c=top n g)
abbrev vq(D n:Nat)(g:Nat->Int):List PV:=dQ n λc=>fq D (g c)
variable{k c:Nat}{p i:PV}{C:List Nat}{g:Nat->Int}{r:JQ}
theorem E9{t:Nat}:aC C++[.int t]=aC (C++[t]):=(mR (l₁:=C) (l₂:=[t])).symm
theorem Im{q:PV}{l:List PV}:bQ (.list (q::l)) (.int 0)=some q:=aG (K:=λj=>(q::l)[j]?) (GO (i:=0) (eE _)) rfl
theorem abf(hn:0<n):cg [aC C] [] (.list (vq D n g))=false:=by
 have s:∀l:List Nat,iq [aC C] [] (l.map λc=>fq D (g c))=false:=λl=>by
  induction l with
  |nil=>rfl|cons=>assumption
 obtain⟨m,rfl⟩:=u6 (fO hn);show(([aC C].any λm'=>m6 m' (vq D (m+1) g))||iq [aC C] [] (vq D (m+1) g))=false;unfold vq dQ;rw[s,yL];cases C<;>rfl
theorem aaY{x:Nat}(H:fX O D)(hx:x<n):((((bQ (.list (vq D n g)) (.int x)).bind λa=>(tY O (vq D n g)).bind λm=>fe O .Eq a m).bind λb=>if b=false then some false else some true).bind λok=>if ok=true then some [PV.int x] else some [])=some (if decide (g x=top n g)=true then[PV.int x] else[]):=by
 rw[show((bQ (.list (vq D n g)) (.int x)).bind λa=>(tY O (vq D n g)).bind λm=>fe O .Eq a m)=some (decide (g x=top n g)) from aG (DS (h:=λc=>fq D (g c)) hx) (aG (RP H (aQ (cu _) hx)) H.eq)];cases decide (g x=top n g)<;>rfl
theorem abJ(hn:0<n):dZ (.list (vq D n g)) (jb id p k (.own (aC C)) c (kl i (r.map (·.2.1)) (r.map (·.2.2.1)) (r.map (·.2.2.2))))=jb id p k (.own (aC C)) c (kl i (r.map (·.2.1)) (r.map (·.2.2.1)) (r.map (·.2.2.2))):=by
 refine y5 (b:=jb id p k (if cg [aC C] [] (.list (vq D n g))=true then .pv (.list (aC C)) else .own (aC C)) c (kl i (r.map (·.2.1)) (r.map (·.2.2.1)) (r.map (·.2.2.2)))) (by cases r<;>rfl') ?_;rw[abf hn];rfl
theorem Ϙ(H:fX O D)(hz:n<=az)(hn:0<n)(hc:c+3<az)(hC:C.length<az)(h:O.fn "marginal_thiele_scores_add" [fU id,p,.list (aC C)] []=some (.list (vq D n g))):∃t,t<n/\g t=top n g/\aS (aw O 999999 lu AO) (sB 0 (nR 3)) (jb id p k (.own (aC C)) c (kl i (r.map (·.2.1)) (r.map (·.2.2.1)) (r.map (·.2.2.2))))=nx (jb id p k (.own (aC (C++[t]))) (c+3) (kl i (some (.list (vq D n g))) (some (.list (aC (Bk n g)))) (some (.int t)))):=by
 obtain⟨⟨t0,ht0,e0⟩,_⟩:=O3 (g:=g) hn;have mt {t:Nat} (m:t∈Bk n g):t<n/\g t=top n g:=(eJ m).imp eL cC;have s1:c8 O 999997 (sE (qq 1)) [("additional_score_cand",.list (vq D n g))] (aC (ax n))=some (.list (aC (Bk n g))):=wh (ok:=λc=>decide (g c=top n g)) (v:=λc:Nat=>.int c) (w:=λc:Nat=>.int c) ⋯ (λx m=>(show _=(((bQ (.list (vq D n g)) (.int x)).bind λa=>(tY O (vq D n g)).bind λm=>fe O .Eq a m).bind λb=>if b=false then some false else some true).bind λok=>if ok=true then some [PV.int x] else some [] by rfl').trans (aaY H (eL m))) (aq (aD cF) hz);have mz:t0∈Bk n g:=oV ⟨dH ht0,dT e0⟩;generalize Bk n g=T at*;cases T with
 |nil=>exact absurd mz eX
 |cons t T=>
 refine⟨t,(mt (.head _)).1,(mt (.head _)).2,?_⟩;refine aF (st:=qq 0) (σ₁:=jb id p k (.own (aC C)) c (kl i (some (.list (vq D n g))) (r.map (·.2.2.1)) (r.map (·.2.2.2)))) (uq (n:=999998) (K:=bI lu "additional_score_cand" false) ⋯ (by cases r<;>rfl') ((show _=O.fn "marginal_thiele_scores_add" [fU id,p,.list (aC C)] [] by cases r<;>rfl').trans h) (by cases r<;>rfl') ?_) ?_
 ·refine(af (λσ=>bI lu "additional_score_cand" false (.list (vq D n g),σ)) (abJ hn)).trans ?_;cases r<;>rfl'
 refine aF (st:=qq 1) (σ₁:=jb id p k (.own (aC C)) c (kl i (some (.list (vq D n g))) (some (.list (aC (t::T)))) (r.map (·.2.2.2)))) (bg (n:=999998) (K:=bI lu "tied_cands" false) ⋯ ((show _=(f9 0 ((vq D n g).length:Nat)).bind λv=>over v (c8 O 999997 (sE (qq 1)) [("additional_score_cand",.list (vq D n g))]) by cases r<;>rfl').trans (aG ((af (λm:Nat=>f9 0 m) tW).trans (nO hz)) ((sR _).trans s1))) (by cases r<;>rfl')) (aF (st:=qq 2) (σ₁:=jb id p k (.own (aC C)) c (kl i (some (.list (vq D n g))) (some (.list (aC (t::T)))) (some (.int t)))) (bg (n:=999998) (K:=bI lu "next_cand" false) (p:=.int t) ⋯ ((show _=bQ (.list (aC (t::T))) (.int 0) by cases r<;>rfl').trans Im) (by cases r<;>rfl')) ?_);clear s1;generalize aC (t::T)=w;refine aF (st:=qq 3) (σ₁:=jb id p k (.own (aC (C++[t]))) c (kl i (some (.list (vq D n g))) (some (.list w)) (some (.int t)))) ((⋯:_=if(aC C).length<az then nx (jb id p k (.own (aC C++[.int t])) c (kl i (some (.list (vq D n g))) (some (.list w)) (some (.int t)))) else none).trans ((iP (aQ (aD (bi _)) hC)).trans (af (λl=>nx (jb id p k (.own l) c (kl i (some (.list (vq D n g))) (some (.list w)) (some (.int t))))) E9))) ?_;generalize aC (C++[t])=W;exact aF (st:=qq 4) ((⋯:_=if Bb.contains "next_cand"=true/\c<az then nx (jb id p k (.own W) (c+1) (kl i (some (.list (vq D n g))) (some (.list w)) (some (.int t)))) else none).trans (iP ⟨by decide,aQ (cW c 3) hc⟩)) (aF (st:=qq 5) ((⋯:_=if Bb.contains "tied_cands"=true/\c+1<az then nx (jb id p k (.own W) (c+2) (kl i (some (.list (vq D n g))) (some (.list w)) (some (.int t)))) else none).trans (iP ⟨by decide,aQ (i3 (by decide) c) hc⟩)) (aF (st:=qq 6) ((show _=if Bb.contains "delta_score"=true/\c+2<az then(bW (cI O 999998 lu) (jb id p k (.own W) (c+2) (kl i (some (.list (vq D n g))) (some (.list w)) (some (.int t)))) (bR 0 (sE (qq 6)))).bind λq=>eD (putN lu "detailed_info" (.dl Bb (c+3)) q.2) else none by rfl').trans ((iP ⟨by decide,aQ (i3 (by decide) c) hc⟩).trans (aG (wj ((⋯:_=tY O (vq D n g)).trans (RP H hn))) ⋯))) rfl))
structure pN(n:Nat)(C:List Nat):Prop where
 nd:C.Nodup
 lt:∀i∈C,i<n
theorem pN.snoc{t:Nat}(h:pN n C)(ht:t<n)(hC:t∉C):pN n (C++[t]):=
 ⟨w8.mpr ⟨h.nd,TK _ _,λa ma b mb e=>hC (by rw[cY mb] at e;exact e▸ma)⟩,λi m=>(mf m).elim (h.lt i) λm=>cY m▸ht⟩
theorem pN.len(h:pN n C):C.length<=n:=aq (h.nd.length_le_of_subset λx m=>dH (h.lt x m)) (aD cF)
structure IX(O:aK)(D n:Nat)(id:Str)(p:PV)(m:List Nat->Nat->Int):Prop where
 fn:∀{C:List Nat},pN n C->O.fn "marginal_thiele_scores_add" [fU id,p,.list (aC C)] []=some (.list (vq D n (im D C (m C))))
 pos:∀{C:List Nat} {c:Nat},pN n C->0<=m C c
variable{m:List Nat->Nat->Int}
theorem c_(hD:0<D)(hg:∀c,0<=g c)(hC:pN n C)(hl:C.length<n){t:Nat}(e:im D C g t=top n (im D C g)):t∉C:=λm=>by
 obtain⟨c,hc,nc⟩:∃c,c<n/\c∉C:=zj λh=>gJ (aq (aD cF.symm) (vc.length_le_of_subset λc m=>zj λq=>h ⟨c,eL m,q⟩)) hl;have h:=(O3 (g:=im D C g) (aQ (cu _) hl)).2 c hc;rw[<-e,show im D C g t= -1*D from iP m,show im D C g c=g c from iN nc] at h;exact iA (ic (hg c) h) (agM (by decide) (zt.mpr hD))
def Hb(r:JQ):ar:=r.elim [] λr=>kl r.1 (some r.2.1) (some r.2.2.1) (some r.2.2.2)
theorem ab4(H:fX O D)(hD:0<D)(hz:n<1000)(M:IX O D n id p m):∀{l C:List Nat} {c:Nat} {r:JQ},pN n C->C.length+l.length<=n->c+3*l.length<az->∃C' c' r',pN n C'/\C'.length=C.length+l.length/\dX (aS (aw O 999999 lu AO) (sB 0 (nR 3))) lu (sT (nR 3)) (aC l) (jb id p k (.own (aC C)) c (Hb r))=nx (jb id p k (.own (aC C')) c' (Hb r')):=by
 intro l;induction l with
 |nil=>exact λ{C c r} hC _ _=>⟨C,c,r,hC,rfl,rfl⟩
 |cons i l ih=>
  intro C c r hC hl hc;have L8:C.length<n:=ba (qX (eE _)) hl;have jv:c+3+3*l.length<az:=aQ (aD (by rw[fC,gj 3];rfl)) hc;obtain⟨t,ht,e,q⟩:=Ϙ (k:=k) (c:=c) (r:=r) (i:=.int i) H (aq (cy hz) (by decide)) (aQ (cu _) L8) (aQ (cW _ _) jv) (eN L8 (eN hz (by decide))) (M.fn hC);have z:(C++[t]).length+l.length=C.length+(l.length+1):=by rw[da,fC,gj [t].length];rfl
  obtain⟨C',c',r',h1,h2,h3⟩:=ih (C:=C++[t]) (c:=c+3) (r:=some (.int i,_,_,.int t)) (hC.snoc ht (c_ hD (λ_=>M.pos hC) hC L8 e)) (aq (aD z) hl) jv;exact⟨C',c',r',h1,h2.trans z,ik (by cases r<;>rfl') q h3⟩
theorem aeL(H:fX O D)(hD:0<D)(hz:n<1000)(M:IX O D n id p m)(hk:k<=n)(hg:O.fn "get_marginal_scorefct" [.str id,.int k] []=some (fU id)):
  ∃C,pN n C/\C.length=k/\∀v,O.fn "sorted_committees" [.list [.list (aC C)]] []=some v->bm O NN AT [.str id,p,.int k] []=some (.tup [v,.any]):=by
 refine bE λgG hG=>?_;obtain⟨C,c,r,h1,h2,h3⟩:=ab4 (k:=k) (l:=ax k) (C:=[]) (c:=0) (r:=none) H hD hz M ⟨.nil,λ_ m=>absurd m eX⟩ (aq (aD (by rw[cF];exact f5 k)) hk) (by rw[cF];exact aQ (aq (aD (f5 _)) (Kj 3 (aq hk (cy hz)))) (by decide));refine hG (⟨C,h1,h2.trans ((f5 _).trans cF),λv hs=>?_⟩);exact(⋯:_=cm (a9 O NN lu AO [("scorefct_id",.pv (.str id)),("profile",.pv p),("committeesize",.pv (.int k)),("committee",.own [])] [nR 1,nR 2,nR 3,nR 4])).trans (dz (bg (n:=999999) (K:=bI lu "marginal_scorefct" false) ⋯ ((⋯:_=O.fn "get_marginal_scorefct" [.str id,.int k] []).trans hg) rfl) ((⋯:_=cm (a9 O NN lu AO (jb id p k (.own (aC [])) 0 (Hb none)) [nR 3,nR 4])).trans (dz (bg (n:=999999) (K:=fY (aw O 999999 lu AO) lu (sT (nR 3)) (sB 0 (nR 3))) ⋯ ((⋯:_=f9 0 k).trans (nO (aq hk (aq (cy hz) (by decide))))) (Ai h3)) (af cm (sH (v9 (n:=999999) ⋯ ((show _=((O.fn "sorted_committees" [.list [.list (aC C)]] []).bind λv=>some [v,.any]).bind (oZ .tup) by cases r<;>rfl').trans (aG (aG hs rfl) rfl))))))))
end
section
variable{l:List α}{i j:Nat}{nm:aN}
theorem N9{x:Int}{m:Nat}(e:wI l.length x=m):jz l (some x) none=l.drop m:=e▸zk (aD (FT ..))
theorem Wk(h:i<=l.length):jz l (some (i:Int)) none=l.drop i:=N9 (clipAt_in (fP i) (pz h))
theorem Δ(h1:1<=j)(h:j<=l.length):jz l (some (-(j:Int))) none=l.drop (l.length-j):=N9 (clipAt_neg _ _ h1)
theorem WE(h:i<=n):(dQ n f).drop i=(gW i (n-i)).map f:=by
 unfold dQ;rw[<-List.map_drop,yQ,List.drop_range',f5,TF]
theorem ϓ{l:List Int}(H:fX O D)(hz:l.length<64):∃out:List Int,eC O nm (ii D l) []=some (.list (ii D out))/\out.Perm l/\out.Pairwise (· <=·):=by
 obtain⟨out,e,p,s⟩:=Bh (O:=O) (nm:=nm) (v:=fq D) (le:=λa b=>decide (a<b)) (l:=l) (k:=4) rfl (λ_=>rfl) (λa _ b _=>H.lt) (λa _ b _ x=>dF (TQ (cC x))) (λa _ b _ c _ x y=>dF (iA (ic (jK (iX x)) (jK (iX y))))) hz;exact⟨out,e,p,s.imp λq=>jK (iX q)⟩
theorem Zh{l:List PV}{p:PV}:bQ (.list (l++[p])) (.int (-1))=some p:=aG (a:=l.length) (by
 rw[da];refine(⋯:_=if(decide ((0:Int)<= -1+((l.length+1:Nat):Int))&&decide (-1+((l.length+1:Nat):Int)<((l.length+1:Nat):Int)))=true then some (-1+((l.length+1:Nat):Int)).toNat else none).trans ?_;rw[show-1+((l.length+1:Nat):Int)=(l.length:Nat) by lia,iP (by rw[dT (fP _),dT (jf (i5 _))];rfl)];rfl) agR
end
def lst(C:List Nat):PV:=.list (aC C)
def DQ(O:aK)(nm:aN)(V:List PV)(i j:Int)(s:Option PV):Option PV:=((((eC O nm (jz V (some i) none) []).bind λa=>a.io.map λl=>.list (jz l (some (-j)) none)).bind λv=>some [v]).bind λvs=>O.fn "total" vs []).bind λa=>s.bind λb=>fV O .Add a b
theorem afv{O:aK}{D n i j:Nat}{nm:aN}{g:Nat->Int}{s:Option PV}{x:Int}(H:fX O D)(hi:i+j<=n)(hj:1<=j)(hn:n<64)(ht:∀{a:Int} {l:List Int},O.fn "total" [.list (ii D (a::l))] []=some (fq D (a::l).sum))(hs:s=some (fq D x)):
  ∃out:List Int,out.Perm ((gW i (n-i)).map g)/\out.Pairwise (· <=·)/\DQ O nm (vq D n g) i j s=some (fq D ((out.drop (out.length-j)).sum+x)):=by
 have GA:i<=n:=aq (cW i j) hi;have hl:((gW i (n-i)).map g).length=n-i:=(bi _).trans K4;obtain⟨out,e,hp,so⟩:=ϓ (nm:=nm) H (l:=(gW i (n-i)).map g) (aQ (aq (aD hl) (kE ..)) hn);refine⟨out,hp,so,aG (a:=fq D (out.drop (out.length-j)).sum) (aG (a:=[.list (ii D (out.drop (out.length-j)))]) (aG (a:=.list (ii D (out.drop (out.length-j)))) (aG (a:=.list (ii D out)) ?_ ?_) rfl) ?_) (aG hs H.add)⟩
 ·rw[Wk (tW.symm▸GA),WE GA,<-e];unfold ii;rw[jt];rfl
 ·show some (PV.list (jz (ii D out) (some (-(j:Int))) none))=_;have lo:(ii D out).length=out.length:=bi _;rw[Δ hj (by rw[lo,hp.length_eq,hl];exact agS hi),lo];unfold ii;rw[List.map_drop]
 ·have LI:(out.drop (out.length-j)).length=j:=by rw[FT,TJ (by rw[hp.length_eq,hl];exact agS hi)]
  generalize out.drop (out.length-j)=w at*;cases w with
  |nil=>exact absurd LI (gE hj)|cons a l=>exact ht
end
section
variable{O:aK}{f:Nat}{T:List PV}{st best:List (List Nat)}{pc:List Nat}{bs M:Int}{sc:List Nat->Int}
section
def dk:aN:=Bt.scope.names
def fI(i:Nat):aH:=aJ Bt.body i
noncomputable def hJ:List Str:=["best_committees","part_coms"]
def tO(i:Nat):aH:=aJ (sB 0 (fI 6)) i
def Dm(i:Nat):aH:=aJ (sB 0 (tO 1)) i
def j9(i:Nat):aH:=aJ (sB 1 (tO 1)) i
structure BX where
 id:Str
 n:Nat
 ns:PV
 vs:List (List Nat×Nat)
 k:Nat
 S:PV
 D:Nat
def BX.p(X:BX):PV:=a6 X.n X.ns X.vs
def OR(X:BX)(B:AV)(s:Int)(T:AV)(r:ar):ar:=("scorefct_id",.pv (.str X.id))::("profile",.pv X.p)::("committeesize",.pv (.int X.k))::("resolute",.pv (.bool false))::("max_num_of_committees",.pv .none)::("marginal_scorefct",.pv (fU X.id))::("best_committees",B)::("init_com",.pv X.S)::("_",.pv .any)::("best_score",.pv (fq X.D s))::("part_coms",T)::r
def dA(X:BX)(B:List PV)(s:Int)(T:List PV)(r:ar):ar:=OR X (.own B) s (.own T) r
abbrev ES:Type:=Option (PV×Option PV)
noncomputable def gM(pc:PV)(a b c d:Option PV)(y:ES):ar:=("part_com",.pv pc)::a.elim [] λa=>("largest_cand",.pv a)::b.elim [] λb=>("missing",.pv b)::c.elim [] λc=>("marg_util_cand",.pv c)::d.elim [] λd=>("upper_bound",.pv d)::y.elim [] λy=>("cand",.pv y.1)::y.2.elim [] λs=>[("score",.pv s)]
structure R5 where
 a:PV
 b:PV
 c:PV
 d:PV
 y:PV×Option PV
variable{X:BX}{i j m x:Nat}{a b c d:PV}{B:List PV}{u:Int}{r:Option R5}{y:ES}{w:Option PV}
noncomputable def low(pc:List Nat):Nat:=match pc.getLast? with
 |some x=>x+1|none=>0
theorem zZ:low (pc++[x])=x+1:=by unfold low;rw[List.getLast?_concat]
theorem υ:aw O (f+40) dk hJ (dA X B bs T (gM (lst pc) (r.map R5.a) (r.map R5.b) (r.map R5.c) (r.map R5.d) (r.map R5.y))) (j9 0)=nx (dA X B bs T (gM (lst pc) (some (.int ((low pc:Nat) -1))) (r.map R5.b) (r.map R5.c) (r.map R5.d) (r.map R5.y))):=by
 rcases agT pc with rfl|⟨q,x,e⟩
 ·cases r<;>rfl'
 ·rw[agU] at e;have ht:some (decide ((0:Int)<((aC pc).length:Nat)))=some true:=af some (dT (jf (by rw[e,<-E9,da];exact eE _)));have hi:bQ (lst pc) (.int (-1))=some (.int ((low pc:Nat) -1)):=by
   unfold lst;rw[e,<-E9,Zh,zZ];exact af (λi=>some (PV.int i)) (Int.add_sub_cancel (x:Int) 1).symm
  clear e;refine cN (n:=f+39) (b:=true) ⋯ ((⋯:_=some (decide ((0:Int)<((aC pc).length:Nat)))).trans ht) (aF (st:=aJ (sB 0 (j9 0)) 0) (bg (n:=f+38) (K:=bI dk "largest_cand" false) ⋯ ((⋯:_=bQ (lst pc) (.int (-1))).trans hi) ?_) rfl);cases r<;>rfl'
theorem af7{t:Nat}(hz:T.length<az)(hp:pc.length<az):aw O (f+30) dk hJ (dA X B bs T (gM (lst pc) (some a) (some b) (some c) (some d) (some (.int t,w)))) (aJ (sB 0 (aJ (sB 0 (j9 4)) 0)) 0)=nx (dA X B bs (lst (pc++[t])::T) (gM (lst pc) (some a) (some b) (some c) (some d) (some (.int t,w)))):=
 (show _=if T.length<az then(bW (cI O (f+29) dk) (dA X B bs T (gM (lst pc) (some a) (some b) (some c) (some d) (some (.int t,w)))) (bR 1 (sE (aJ (sB 0 (aJ (sB 0 (j9 4)) 0)) 0)))).bind λq=>(gu q.2 "part_coms").bind λl=>eD (putN dk "part_coms" (.own (q.1::l)) q.2) else none by rfl').trans ((iP hz).trans (aG (wj ((⋯:_=if(aC pc).length+1<=az then some (PV.list (aC pc++[.int t])) else none).trans ((iP (aq (aD (af jq (bi _))) hp)).trans (af (λl=>some (PV.list l)) E9)))) ⋯))
def AQ:aH:=aJ (sB 0 (j9 4)) 0
noncomputable def qD(pc:List Nat)(l:List Nat)(st:List (List Nat)):List (List Nat):=l.foldl (λst t=>(pc++[t])::st) st
theorem YQ(hp:pc.length<az):∀{l:List Nat} {st:List (List Nat)} {y:ES},st.length+l.length<az->∃y':ES,(y'=none->y=none/\l=[])/\dX (aS (aw O (f+30) dk hJ) (sB 0 AQ)) dk (sT AQ) (aC l) (dA X B bs (st.map lst) (gM (lst pc) (some a) (some b) (some c) (some d) y))=nx (dA X B bs ((qD pc l st).map lst) (gM (lst pc) (some a) (some b) (some c) (some d) y')):=by
 intro l;induction l with
 |nil=>exact λ{st y} _=>⟨y,λe=>⟨e,rfl⟩,rfl⟩
 |cons t l ih=>
  intro st y hz;obtain⟨y',h1,h2⟩:=ih (st:=(pc++[t])::st) (y:=some (.int t,y.bind oz)) (aQ (aD (wN ..)) hz);exact⟨y',(λe=>sN ((h1 e).1)),ik (σ₁:=dA X B bs (st.map lst) (gM (lst pc) (some a) (some b) (some c) (some d) (some (.int t,y.bind oz)))) (by cases y<;>rfl') (aF (af7 (aQ (aq (aD (bi _)) (cW ..)) hz) hp) rfl) h2⟩
theorem Yt{β:Type}(K:List PV->Option β):over (.d5 i (i+m:Nat)) K=K (aC (gW i m)):=by
 show K ((ax (((i+m:Nat):Int) -i).toNat).map λk:Nat=>PV.int (i+k))=_;rw[show(((i+m:Nat):Int) -i).toNat=m from af Int.toNat (a₂:=(m:Int)) ((af (λa:Nat=>(a:Int) -i) (gj i m)).trans (Int.add_sub_cancel (m:Int) i)),List.range'_eq_map_range];exact af K (jt (g:=λn:Nat=>PV.int n) (f:=λx=>i+x)).symm
theorem abZ(H:fX O X.D)(hn:O.attr bv "num_cand" X.p=some (.int X.n))(hp:pc.length<az)(hi:i+m+j=X.n+1)(hz:st.length+(X.n+1)<az):∃y':ES,(y'=none->y=none/\(¬bs<=u\/m=0))/\
  aw O (f+50) dk hJ (dA X B bs (st.map lst) (gM (lst pc) (some (.int ((i:Nat) -1))) (some (.int j)) (some c) (some (fq X.D u)) y)) (j9 4)=nx (dA X B bs ((if bs<=u then qD pc (gW i m) st else st).map lst) (gM (lst pc) (some (.int ((i:Nat) -1))) (some (.int j)) (some c) (some (fq X.D u)) y')):=by
 have run {r:aZ}:=cN (r:=r) (O:=O) (n:=f+49) (nm:=dk) (mu:=hJ) (st:=j9 4) (σ:=dA X B bs (st.map lst) (gM (lst pc) (some (.int ((i:Nat) -1))) (some (.int j)) (some c) (some (fq X.D u)) y)) (b:=decide (bs<=u)) ⋯ ((⋯:_=O.cmp .GtE (fq X.D u) (fq X.D bs)).trans H.ge);by_cases q:bs<=u
 ·rw[dT q] at run;rw[iP q];obtain⟨y',h1,h2⟩:=YQ (O:=O) (X:=X) (f:=f+18) (B:=B) (bs:=bs) (a:=.int ((i:Nat) -1)) (b:=.int j) (c:=c) (d:=fq X.D u) hp (l:=gW i m) (st:=st) (y:=y) (by rw[K4];exact aQ (i3 (aq (i7 ..) (TR hi)) _) hz);refine⟨y',λe=>⟨(h1 e).1,.inr (K4.symm.trans (af yO (h1 e).2))⟩,run (aF (st:=AQ) (bg (n:=f+48) (K:=fY (aw O (f+48) dk hJ) dk (sT AQ) (sB 0 AQ)) (p:=.d5 i (i+m:Nat)) ⋯ ((show _=(((((O.attr bv "num_cand" X.p).bind λx=>fV O .Sub x (.int j)).bind λx=>fV O .Add x (.int 1)).bind λv=>some [v]).map λvs=>PV.int ((i:Nat) -1+1)::vs).bind λvs=>nV O "range" vs [] by rfl').trans ?_) ((Yt _).trans (aG (K:=lh _ _) h2 rfl))) rfl)⟩;rw[hn];show f9 ((i:Int) -1+1) ((X.n:Int) -j+1)=_;rw[KX,show(X.n:Int) -j+1=(i+m:Nat) by lia];have z:X.n+1<az:=aQ (i7 ..) hz;exact iP ⟨eN (aQ (aq (cW ..) (TR hi)) z) (by decide),eN (aQ (TR hi) z) (by decide),by lia⟩
 ·rw[dF q] at run;rw[iN q];exact⟨y,λe=>⟨e,.inl q⟩,run ⋯⟩
end
section
variable{n k:Nat}{stack:List (List Nat)}
noncomputable def ym(sc:List Nat->Int)(q:List (List Nat)×Int)(c:List Nat):List (List Nat)×Int:=if sc c=q.2 then(q.1++[c],q.2) else if q.2<sc c then([c],sc c) else q
noncomputable def ci(n:Nat):Nat->Nat->List (List Nat)
 |_,0=>[[]]|lo,j+1=>(gW lo (n-j-lo)).flatMap λc=>(ci n (c+1) j).map (c:: ·)
def dS(n k:Nat)(pc:List Nat):List (List Nat):=(ci n (low pc) (k-pc.length)).map (pc++ ·)
theorem Q5(h:pc.length=k):dS n k pc=[pc]:=by
 unfold dS;rw[h,zf];show[pc++[]]=[pc];rw[gO]
def qT(n k:Nat)(pc:List Nat):List Nat:=gW (low pc) (n+1- (k-pc.length) -low pc)
theorem abY(h:pc.length<k):dS n k pc=(qT n k pc).flatMap λc=>dS n k (pc++[c]):=by
 obtain⟨j,hj⟩:=u6 (fO (rh h));unfold dS qT;rw[hj,Tw];show((gW (low pc) (n-j-low pc)).flatMap λc=>(ci n (c+1) j).map (c:: ·)).map (pc++ ·)=_;rw[List.map_flatMap];refine af (λh=>List.flatMap h _) (funext λc=>?_);rw[zZ,da,show k- (pc.length+[c].length)=j from agV hj,jt];exact pV λs _=>(kx pc [c] s).symm
theorem Mr{l:List Nat}:∀{stack:List (List Nat)},qD pc l stack=(l.map (pc++[·])).reverse++stack:=by
 induction l with
 |nil=>exact rfl
 |cons t l ih=>
  intro stack;show qD pc l ((pc++[t])::stack)=_;rw[ih,oB,List.reverse_cons,kx];rfl
theorem XW(h:pc.length<k):((qD pc (qT n k pc) stack).flatMap (dS n k)).Perm ((pc::stack).flatMap (dS n k)):=by
 rw[Mr,List.flatMap_append,K0,abY h];refine List.Perm.append ?_ (.refl _);have:=List.Perm.flatMap_right (dS n k) (Gc ((qT n k pc).map (pc++[·])));rwa[List.flatMap_map] at this
structure BA(n:Nat)(pc:List Nat):Prop where
 up:pc.Pairwise (· < ·)
 lt:∀i∈pc,i<n
structure rQ(n k:Nat)(pc:List Nat):Prop where
 oT:BA n pc
 len:pc.length<=k
 room:low pc+(k-pc.length)<=n
theorem Hw{pc:List Nat}(h:pc.Pairwise (· < ·)):∀i∈pc,i<low pc:=λi m=>by
 rcases agT pc with rfl|⟨pc',x,e⟩
 ·exact absurd m eX
 ·rw[agU] at e;subst e;rw[zZ];rcases mf m with m|m
  ·exact KN ((Gq.mp h).2.2 i m x (.head _))
  ·rw[cY m];exact i5 x
theorem Ju{α:Type}{a b c:List α}:(b++(a++c)).Perm (a++(b++c)):=((kx b a c).symm▸ .refl _:(b++(a++c)).Perm (b++a++c)).trans ((List.perm_append_comm.append_right c).trans (kx a b c▸ .refl _))
theorem rQ.bR(R:rQ n k pc)(h:pc.length<k){c:Nat}(m:c∈qT n k pc):rQ n k (pc++[c]):=by
 have hc:=Ud.mp m;have hr:=R.room;obtain⟨j,hj⟩:=u6 (fO (rh h));rw[hj] at hc hr;have hn:c<n-j:=ba hc.2 (aD (by rw[Tw,iK (K5 (lF hr))]));refine⟨⟨Gq.mpr ⟨R.oT.up,TK _ _,λa ma b mb=>?_⟩,λi mi=>?_⟩,by rw[da];exact h,?_⟩
 ·rw[cY mb];exact ba (Hw R.oT.up a ma) hc.1
 ·exact(mf mi).elim (R.oT.lt i) λmi=>cY mi▸ba hn (kE ..)
 ·rw[zZ,da,show k- (pc.length+[c].length)=j from agV hj];exact TS (aq (i7 ..) (lF hr)) hn
structure BB(n k:Nat)(sc:List Nat->Int)(M:Int)(stack best:List (List Nat))(bs:Int):Prop where
 room:∀pc∈stack,rQ n k pc
 BH:bs<=M
 val:∀c∈best,sc c=bs
 rest:∃rest,(best++(stack.flatMap (dS n k)++rest)).Perm (dS n k [])/\∀c∈rest,sc c<M
theorem BB.expand(B:BB n k sc M (pc::stack) best bs)(h:pc.length<k):BB n k sc M (qD pc (qT n k pc) stack) best bs:=by
 obtain⟨rest,p,hr⟩:=B.rest;refine⟨λx m=>?_,B.BH,B.val,rest,(((XW h).append_right rest).append_left best).trans p,hr⟩;rw[Mr] at m;refine(mf m).elim (λm=>?_) λm=>B.room x (.tail _ m);obtain⟨c,mc,rfl⟩:=rn.mp (T2.mp m);exact(B.room pc (.head _)).bR h mc
theorem BB.drop(B:BB n k sc M (pc::stack) best bs)(h:∀c∈dS n k pc,sc c<M):BB n k sc M stack best bs:=by
 obtain⟨rest,p,hr⟩:=B.rest;rw[K0,kx] at p;exact⟨λx m=>B.room x (.tail _ m),B.BH,B.val,dS n k pc++rest,(Ju.append_left best).trans p,λc m=>(mf m).elim (h c) (hr c)⟩
theorem BB.full(B:BB n k sc M (pc::stack) best bs)(h:pc.length=k)(hM:∀c∈dS n k [],sc c<=M):BB n k sc M stack (ym sc (best,bs) pc).1 (ym sc (best,bs) pc).2:=by
 have room:∀x∈stack,rQ n k x:=λx m=>B.room x (.tail _ m);obtain⟨rest,p,hr⟩:=B.rest;rw[K0,Q5 h,kx] at p;unfold ym;by_cases e:sc pc=bs
 ·rw[iP e];exact⟨room,B.BH,λc m=>(mf m).elim (B.val c) λm=>cY m▸e,rest,(kx ..).symm▸p,hr⟩
 rw[iN e];by_cases l:bs<sc pc
 ·rw[iP l];have m:=hM pc (p.mem_iff.mp (fE _ (.head _)));exact⟨room,m,λc m=>cY m▸rfl,best++rest,(Ju.append_left [pc]).trans (Ju.trans p),λc mc=>(mf mc).elim (λmc=>B.val c mc▸lG l m) (hr c)⟩
 ·rw[iN l];exact B.drop λc m=>by
   rw[Q5 h] at m;rw[cY m];exact lG (Ue.mpr ⟨jK l,e⟩) B.BH
theorem W0(hk:k<=n)(hb:bs<=M):BB n k sc M [[]] [] bs:=
 ⟨λpc m=>cY m▸⟨⟨.nil,λ_ m=>absurd m eX⟩,cu _,aq (aD (f5 _)) hk⟩,hb,λ_ m=>absurd m eX,[],by rw[K6,gO,List.flatMap_singleton],λ_ m=>absurd m eX⟩
theorem adD(B:BB n k sc (mx sc (dS n k [])) [] best bs)(h0:∀c∈dS n k [],0<=sc c)(hx:dS n k []≠[]):best.Perm (dP sc (dS n k [])):=by
 obtain⟨rest,p,hr⟩:=B.rest;obtain⟨c,m,e⟩:=Hy h0 hx;have hb:bs=mx sc (dS n k []):=(mf (p.mem_iff.mpr m)).elim (λm=>(B.val c m).symm.trans e) λm=>absurd (hr c m) (e▸CD _);have p:(best++rest).Perm (dS n k []):=p;have q:=p.filter λc=>decide (sc c=mx sc (dS n k []));rw[pW,Go.mpr λc m=>dT ((B.val c m).trans hb),Gp.mpr λc m e=>Int.ne_of_lt (hr c m) (cC e),gO] at q;exact q
def turns(n:Nat):List (List Nat)->Nat
 |[]=>0|pc::r=>2^(n-low pc)+turns n r
theorem Z4:∀{m lo:Nat} {stack:List (List Nat)},lo+m<=n->turns n (qD pc (gW lo m) stack)+2^(n-lo-m)<=2^(n-lo)+turns n stack:=by
 intro m;induction m with
 |zero=>exact λ{lo stack} _=>aD (gj ..)
 |succ m ih=>
  intro lo stack h;have h:lo+1+m<=n:=aq (aD (pS ..)) h;have:=ih (lo:=lo+1) (stack:=(pc++[lo])::stack) h;rw[show turns n ((pc++[lo])::stack)=2^(n- (lo+1))+turns n stack from af (λl=>2^(n-l)+turns n stack) zZ,<-fC,<-Nat.mul_two,<-Nat.pow_succ,F4,pS,show(n- (lo+1)).succ=n-lo from agF (rh (ba (ba (i5 lo) (cW ..)) h))] at this;rw[F4];exact this
theorem aeT{stack:List (List Nat)}:stack.length<=turns n stack:=by
 induction stack with
 |nil=>exact bf _|cons pc r ih=>exact aq (aD (gj ..)) (B8 (Gd (by decide)) ih)
end
section
structure EK(O:aK)(X:BX)(sc:List Nat->Int)(g:List Nat->Nat->Int):Prop extends fX O X.D where
 th:∀{C:List Nat},BA X.n C->C.length<=X.k->O.fn "thiele_score" [.str X.id,X.p,lst C] []=some (fq X.D (sc C))
 mt:∀{C:List Nat},BA X.n C->C.length<X.k->O.fn "marginal_thiele_scores_add" [fU X.id,X.p,lst C] []=some (.list (vq X.D X.n (g C)))
 ub:∀{C:List Nat} {out:List Int},rQ X.n X.k C->C.length<X.k->out.Perm ((gW (low C) (X.n-low C)).map (g C))->out.Pairwise (· <=·)->∀c∈dS X.n X.k C,sc c<=(out.drop (out.length- (X.k-C.length))).sum+sc C
 Ng:∀{a:Int} {l:List Int},O.fn "total" [.list (ii X.D (a::l))] []=some (fq X.D (a::l).sum)
 nc:O.attr bv "num_cand" X.p=some (.int X.n)
 Dl:X.n<64
 kn:X.k<=X.n
variable{X:BX}{B:List PV}{r:Option R5}{y:ES}{g:List Nat->Nat->Int}
theorem RR{R:ar}{b:Bool}(h:decide (pc.length=X.k)=b):fF O (f+30) dk (bB (dA X B bs (st.map lst) (("part_com",.pv (lst pc))::R))) (sE (tO 1))=some b:=(⋯:_=some (((aC pc).length:Int)==(X.k:Int))).trans (af some (by
 rw[<-h,show(aC pc).length=pc.length from bi _,FK,beq_iff_eq,decide_eq_true_iff];exact w3))
theorem Z1{a b:PV}(h:PV.int ((X.k:Int) - ((aC pc).length:Nat))=b):aw O (f+30) dk hJ (dA X B bs (st.map lst) (gM (lst pc) (some a) (r.map R5.b) (r.map R5.c) (r.map R5.d) (r.map R5.y))) (j9 1)=nx (dA X B bs (st.map lst) (gM (lst pc) (some a) (some b) (r.map R5.c) (r.map R5.d) (r.map R5.y))):=by
 subst h;cases r<;>rfl'
theorem aen{a b c:PV}(h:O.fn "marginal_thiele_scores_add" [fU X.id,X.p,lst pc] []=some c):aw O (f+30) dk hJ (dA X B bs (st.map lst) (gM (lst pc) (some a) (some b) (r.map R5.c) (r.map R5.d) (r.map R5.y))) (j9 2)=nx (dA X B bs (st.map lst) (gM (lst pc) (some a) (some b) (some c) (r.map R5.d) (r.map R5.y))):=
 bg (n:=f+29) (K:=bI dk "marg_util_cand" false) ⋯ ((show _=O.fn "marginal_thiele_scores_add" [fU X.id,X.p,lst pc] [] by cases r<;>rfl').trans h) (by cases r<;>rfl')
theorem adg{i j:Int}{V:List PV}{d:PV}(h:DQ O dk V (i+1) j (O.fn "thiele_score" [.str X.id,X.p,lst pc] [])=some d):aw O (f+30) dk hJ (dA X B bs (st.map lst) (gM (lst pc) (some (.int i)) (some (.int j)) (some (.list V)) (r.map R5.d) (r.map R5.y))) (j9 3)=nx (dA X B bs (st.map lst) (gM (lst pc) (some (.int i)) (some (.int j)) (some (.list V)) (some d) (r.map R5.y))):=
 bg (n:=f+29) (K:=bI dk "upper_bound" false) ⋯ ((show _=DQ O dk V (i+1) j (O.fn "thiele_score" [.str X.id,X.p,lst pc] []) by cases r<;>rfl').trans h) (by cases r<;>rfl')
theorem Rl{P:Prop}(H:EK O X sc g)(R:rQ X.n X.k pc)(hl:pc.length<X.k)(hz:st.length+(X.n+1)<az)(K:∀(u:Int) (q:PV×PV×PV×PV) (y:ES),(∀x∈dS X.n X.k pc,sc x<=u)->(y=none->r=none/\¬bs<=u)->
  aw O (f+60) dk hJ (dA X B bs (st.map lst) (gM (lst pc) (r.map R5.a) (r.map R5.b) (r.map R5.c) (r.map R5.d) (r.map R5.y))) (tO 1)=nx (dA X B bs ((if bs<=u then qD pc (qT X.n X.k pc) st else st).map lst) (gM (lst pc) (some q.1) (some q.2.1) (some q.2.2.1) (some q.2.2.2) y))->P):P:=by
 have hr:=R.room;obtain⟨j,hj⟩:∃j,X.k-pc.length=j:=⟨_,rfl⟩;rw[hj] at hr;obtain⟨m,hm⟩:=TT hr;obtain⟨out,p1,p2,e3⟩:=afv (nm:=dk) (g:=g pc) H.tofX hr (hj▸rh hl) H.Dl H.Ng (H.th R.oT R.len);have hu:=H.ub R hl p1 p2;rw[hj] at hu;clear p1 p2;generalize (out.drop (out.length-j)).sum+sc pc=u at*;have em:low pc+(m+1)+j=X.n+1:=by rw[hm,pS,<-fC]
 obtain⟨y,hy,e4⟩:=abZ (X:=X) (f:=f+9) (B:=B) (bs:=bs) (u:=u) (c:=.list (vq X.D X.n (g pc))) (y:=r.map R5.y) (i:=low pc) (j:=j) (m:=m+1) H.tofX H.nc (eN (ba hl H.kn) (eN H.Dl (by decide))) em hz;have es:qT X.n X.k pc=gW (low pc) (m+1):=af (gW (low pc)) (by rw[hj,<-em,wY,F7]);refine K u (.int ((low pc:Nat) -1),.int j,.list (vq X.D X.n (g pc)),fq X.D u) y hu (λe=>⟨Option.map_eq_none_iff.mp (hy e).1,(hy e).2.resolve_right (rg m)⟩) ?_;rw[es];have e1:(k:Nat)->k=pc.length->PV.int ((X.k:Int) - (k:Nat))=.int j:=λk e=>by rw[e,<-Ge R.len,hj]
 have h2:=H.mt R.oT hl;clear hu es em hm hr K hy;refine cN (n:=f+59) (b:=false) ⋯ (RR (f:=f+29) (dF (gE hl))) ?_;show aS _ [j9 0,j9 1,j9 2,j9 3,j9 4] _=_;exact(aF (υ (f:=f+19)) (aF (Z1 (f:=f+29) (e1 _ (bi _))) (aF (aen (f:=f+29) h2) (aF (adg (f:=f+29) ((af (λi=>DQ O dk (vq X.D X.n (g pc)) i j (O.fn "thiele_score" [.str X.id,X.p,lst pc] [])) (KX (low pc:Int) 1)).trans e3)) (aF e4 rfl)))))
end
section
variable{X:BX}{n k:Nat}{u:Int}{g:List Nat->Nat->Int}
theorem BB.part(B:BB n k sc M (pc::st) best bs)(hl:pc.length<k)(hu:∀x∈dS n k pc,sc x<=u):BB n k sc M (if bs<=u then qD pc (qT n k pc) st else st) best bs/\turns n (if bs<=u then qD pc (qT n k pc) st else st)<turns n (pc::st):=by
 have p {i:Nat}:0<2^i:=Gd (by decide);by_cases q:bs<=u
 ·rw[iP q];have h:low pc+(n+1- (k-pc.length) -low pc)<=n:=by
   have r:=(B.room pc (.head _)).room;rw[iK (K5 (y6 r))];exact agW (i3 (rh hl) n)
  exact⟨B.expand hl,ba (qX p) (Z4 h)⟩
 ·rw[iN q];exact⟨B.drop λc m=>mH (hu c m) (lG (zg.mp q) B.BH),TU p⟩
theorem N0{nm:aN}{mu:List Str}{σ σ₁:ar}{s:aH}{r:aZ}(hs:aw O (n+1) nm mu σ s=(fF O n nm (bB σ) (sE s)).bind λr=>if r=true then(aS (aw O n nm mu) (sB 0 s) σ).bind λq=>if q.1.hZ=true then aw O n nm mu q.2 s else some q else some (.next,σ))(ht:fF O n nm (bB σ) (sE s)=some true)(hb:aS (aw O n nm mu) (sB 0 s) σ=nx σ₁)(k:aw O n nm mu σ₁ s=r):aw O (n+1) nm mu σ s=r:=hs.trans (aG ht (aG hb k))
abbrev W4:Type:=PV×PV×PV×PV
def jx(pc:PV)(w:W4)(y:ES):ar:=gM pc (some w.1) (some w.2.1) (some w.2.2.1) (some w.2.2.2) y
variable{w:W4}{y:PV×Option PV}{q:PV}
theorem j_(H:fX O X.D)(hl:pc.length=X.k)(h:O.fn "thiele_score" [.str X.id,X.p,lst pc] []=some (fq X.D (sc pc)))(hz:best.length<az):
  aw O (f+60) dk hJ (dA X (best.map lst) bs (st.map lst) (jx (lst pc) w (some y))) (tO 1)=nx (dA X ((ym sc (best,bs) pc).1.map lst) (ym sc (best,bs) pc).2 (st.map lst) (jx (lst pc) w (some (y.1,some (fq X.D (sc pc)))))):=by
 refine cN (n:=f+59) (b:=true) ⋯ (RR (f:=f+29) (dT hl)) ?_;show aS _ [Dm 0,Dm 1] _=_;refine aF (σ₁:=dA X (best.map lst) bs (st.map lst) (jx (lst pc) w (some (y.1,some (fq X.D (sc pc)))))) (bg (n:=f+58) (K:=bI dk "score" false) ⋯ ((⋯:_=O.fn "thiele_score" [.str X.id,X.p,lst pc] []).trans h) (by obtain⟨_,_|_⟩:=y<;>rfl')) (aF (cN (n:=f+58) (b:=decide (sc pc=bs)) ⋯ ((⋯:_=O.cmp .Eq (fq X.D (sc pc)) (fq X.D bs)).trans H.eq) ?_) rfl);unfold ym;generalize sc pc=x;by_cases e:x=bs
 ·rw[dT e,iP e];refine aF (st:=aJ (sB 0 (Dm 1)) 0) (l:=[]) ((⋯:_=if(best.map lst).length<az then nx (dA X (best.map lst++[lst pc]) bs (st.map lst) (jx (lst pc) w (some (y.1,some (fq X.D x))))) else none).trans ((iP (aQ (aD (bi _)) hz)).trans (af (λl=>nx (dA X l bs (st.map lst) (jx (lst pc) w (some (y.1,some (fq X.D x)))))) (mR (l₁:=best) (l₂:=[pc])).symm))) rfl
 ·rw[dF e,iN e];refine aF (st:=aJ (sB 1 (Dm 1)) 0) (l:=[]) (cN (n:=f+57) (b:=decide (bs<x)) ⋯ ((⋯:_=O.cmp .Gt (fq X.D x) (fq X.D bs)).trans H.gt) ?_) rfl;by_cases l:bs<x
  ·rw[dT l,iP l];rfl'
  ·rw[dF l,iN l];rfl'
theorem M4:aw O (f+100) dk hJ (dA X T bs (([]:List (List Nat)).map lst) (jx q w (some y))) (fI 6)=nx (dA X T bs [] (jx q w (some y))):=⋯
theorem Qu{T' S':List PV}{xj:Int}{w':W4}{y':PV×Option PV}{r:aZ}(h:aw O (f+40+60) dk hJ (dA X T bs (st.map lst) (jx (lst pc) w (some y))) (tO 1)=nx (dA X T' xj S' (jx (lst pc) w' (some y'))))(k:aw O (f+100) dk hJ (dA X T' xj S' (jx (lst pc) w' (some y'))) (fI 6)=r):aw O (f+1+100) dk hJ (dA X T bs ((pc::st).map lst) (jx q w (some y))) (fI 6)=r:=
 N0 (n:=f+100) ⋯ ⋯ ((⋯:_=aS (aw O (f+100) dk hJ) [tO 1] (dA X T bs (st.map lst) (jx (lst pc) w (some y)))).trans (aF h rfl)) k
inductive ZZ (O:aK) (X:BX) (sc:List Nat->Int) (M:Int) (f:Nat) (σ:ar):Prop
 |mk (best:List (List Nat)) (bs:Int) (q:PV) (w:W4) (y:PV×Option PV) (B:BB X.n X.k sc M [] best bs) (e:aw O f dk hJ σ (fI 6)=nx (dA X (best.map lst) bs [] (jx q w (some y))))
theorem BB.len(B:BB n k sc M st best bs):best.length<=(dS n k []).length:=by
 obtain⟨rest,p,_⟩:=B.rest;exact p.length_eq▸da▸cW ..
theorem af2(H:EK O X sc g)(hz:(dS X.n X.k []).length<az)(hM:∀c∈dS X.n X.k [],sc c<=M):∀{t:Nat} {st best:List (List Nat)} {bs:Int} {q:PV} {w:W4} {y:PV×Option PV},turns X.n st<=t->t<=64->BB X.n X.k sc M st best bs->ZZ O X sc M (f+t+100) (dA X (best.map lst) bs (st.map lst) (jx q w (some y))):=by
 intro t;induction t with
 |zero=>
  intro st best bs q w y ht _ B;cases st with
  |nil=>exact⟨best,bs,q,w,y,B,M4 (f:=f+0)⟩|cons pc st=>exact absurd ht (nF (Nat.add_pos_left (Gd (by decide)) _))
 |succ t ih=>
  intro st best bs q w y ht vi B;cases st with
  |nil=>exact⟨best,bs,q,w,y,B,M4 (f:=f+(t+1))⟩
  |cons pc st=>
  have R:=B.room pc (.head _);have bz:=aQ B.len hz;by_cases hl:pc.length=X.k
  ·obtain⟨L9,xj,q',w',y',B',e⟩:=ih (q:=lst pc) (w:=w) (y:=(y.1,some (fq X.D (sc pc)))) (ju (ba (TU (Gd (by decide))) ht)) (lF vi) (B.full hl hM);exact⟨L9,xj,q',w',y',B',Qu (f:=f+t) (j_ (f:=f+t+40) H.tofX hl (H.th R.oT R.len) bz) e⟩
  ·have hl:=pT R.len hl;have sz:st.length+(X.n+1)<az:=aQ (B8 (aq (iH _) (aq (aeT (n:=X.n) (stack:=pc::st)) (aq ht vi))) H.Dl) (by decide);refine Rl (f:=f+t+40) (B:=best.map lst) (bs:=bs) (r:=some ⟨w.1,w.2.1,w.2.2.1,w.2.2.2,y⟩) H R hl sz λu w' y' hu hy e1=>?_;have z:=B.part hl hu;cases y' with
   |none=>exact sN ((hy rfl).1)
   |some y'=>
    obtain⟨L9,xj,q',w',y',B',e⟩:=ih (q:=lst pc) (w:=w') (y:=y') (ju (ba z.2 ht)) (lF vi) z.1;exact⟨L9,xj,q',w',y',B',Qu (f:=f+t) e1 e⟩
def JP(O:aK)(nm:aN)(st:aH)(q:PV×ar):aZ:=JM O ⟨λ_ _ _=>some q.1,λ_ _ _=>none⟩ nm [] q.2 (sE st) (sT st)
theorem Yq{out:List PV}(hs:O.fn "sorted_committees" [.list (best.map lst)] []=some (.list out)):cm (aS (aw O NN dk hJ) [fI 7,fI 8,fI 9,fI 10,fI 11] (dA X (best.map lst) bs [] (jx q w (some y))))=some (.tup [.list out,.any]):=by
 obtain⟨y,s⟩:=y;refine dz (uq (n:=999999) (K:=bI dk "committees" false) (p:=.list out) ⋯ (by cases s<;>rfl') ((show _=O.fn "sorted_committees" [.list (best.map lst)] [] by cases s<;>rfl').trans hs) (by cases s<;>rfl') (show _=nx (OR X (.qp (cg [best.map lst] [] (.list out)) (best.map lst)) bs (.qp (cg [[]] [] (.list out)) []) ((jx q w (some (y,s))).append [("committees",.pv (.list out))])) by cases s<;>rfl')) ?_;cases cg [best.map lst] [] (.list out)<;>cases cg [[]] [] (.list out)<;>cases s<;>rfl'
theorem ξ{C:List Nat}(H:EK O X sc g)(h6:X.n<=6)(hz:(dS X.n X.k []).length<az)(hk:0<X.k)(hC:C∈dS X.n X.k [])(h0:∀c∈dS X.n X.k [],0<=sc c)(hg:O.fn "get_marginal_scorefct" [.str X.id,.int X.k] []=some (fU X.id))(hq:O.fn "_seq_thiele_resolute" [.str X.id,X.p,.int X.k] []=some (.tup [.list [X.S],.any]))(ht:O.fn "thiele_score" [.str X.id,X.p,X.S] []=some (fq X.D (sc C))):
  ∃best:List (List Nat),best.Perm (dP sc (dS X.n X.k []))/\∀out,O.fn "sorted_committees" [.list (best.map lst)] []=some (.list out)->bm O NN Bt [] [("scorefct_id",.str X.id),("profile",X.p),("committeesize",.int X.k),("resolute",.bool false),("max_num_of_committees",.none)]=some (.tup [.list out,.any]):=by
 have B:=W0 (sc:=sc) (bs:=sc C) (M:=mx sc (dS X.n X.k [])) H.kn (sJ.2 C hC);refine Rl (f:=999939) (B:=[]) (bs:=sc C) (st:=[]) (r:=none) H (B.room [] (.head _)) hk (aQ (aq (aD (f5 _)) (yP h6)) (by decide)) λu w y hu hy e1=>?_;cases y with
 |none=>exact absurd (hu C hC) (hy rfl).2
 |some y=>
 have z:=B.part hk hu;obtain⟨best,xj,q,w',y',B',e2⟩:=af2 (f:=999835) (t:=64) (q:=lst []) (w:=w) (y:=y) H hz (λc m=>sJ.2 c m) (aq (cy z.2) (SJ (n:=2) (by decide) h6)) (bf _) z.1;refine⟨best,adD B' h0 (CC hC),λout hs=>?_⟩;refine(⋯:_=cm (a9 O NN dk hJ [("scorefct_id",.pv (.str X.id)),("profile",.pv X.p),("committeesize",.pv (.int X.k)),("resolute",.pv (.bool false)),("max_num_of_committees",.pv .none)] [fI 0,fI 1,fI 2,fI 3,fI 4,fI 5,fI 6,fI 7,fI 8,fI 9,fI 10,fI 11])).trans (dz (bg (n:=999999) (K:=bI dk "marginal_scorefct" false) ⋯ ((⋯:_=O.fn "get_marginal_scorefct" [.str X.id,.int X.k] []).trans hg) rfl) (dz (st:=fI 1) (σ₁:=[("scorefct_id",.pv (.str X.id)),("profile",.pv X.p),("committeesize",.pv (.int X.k)),("resolute",.pv (.bool false)),("max_num_of_committees",.pv .none),("marginal_scorefct",.pv (fU X.id)),("best_committees",.own [])]) ⋯ (dz (bg (n:=999999) (K:=JP O dk (fI 2)) ⋯ ((⋯:_=O.fn "_seq_thiele_resolute" [.str X.id,X.p,.int X.k] []).trans hq) (⋯:_=nx [("scorefct_id",.pv (.str X.id)),("profile",.pv X.p),("committeesize",.pv (.int X.k)),("resolute",.pv (.bool false)),("max_num_of_committees",.pv .none),("marginal_scorefct",.pv (fU X.id)),("best_committees",.own []),("init_com",.pv (.list [X.S])),("_",.pv .any)])) (dz (bg (n:=999999) (K:=bI dk "init_com" false) (p:=X.S) ⋯ ⋯ rfl) (dz (bg (n:=999999) (K:=bI dk "best_score" false) ⋯ ((⋯:_=O.fn "thiele_score" [.str X.id,X.p,X.S] []).trans ht) rfl) (dz (st:=fI 5) (σ₁:=dA X [] (sc C) [lst []] []) ⋯ (dz (N0 (n:=999999) ⋯ ⋯ ((⋯:_=aS (aw O 999999 dk hJ) [tO 1] (dA X [] (sc C) [] (gM (lst []) none none none none none))).trans (aF e1 rfl)) e2) (Yq hs))))))))
end
end
section
variable{n k:Nat}{id:Str}{ns cv:PV}{vs:List (List Nat×Nat)}{A C:List Nat}{S:Nat->Int}
section
variable{O:aK}{m:Nat}{fu:Str}{p self v:PV}{b:Bool}{fs:List (Str×PV)}
noncomputable def Qb(l:List Str):List PV:=l.map PV.str
def GX(id cq long:Str)(H5 ahE:List Str):List (Str×PV):=[("rule_id",.str id),("shortname",.str cq),("longname",.str long),("algorithms",.tup (Qb H5)),("resolute_values",.tup [.bool false,.bool true]),("available_algorithms",.list (Qb ahE))]
noncomputable def MN:List Str:=["gurobi","pulp-highs","pulp-cbc","branch-and-bound","brute-force"]
def JK:List (Str×PV):=GX "pav" "PAV" "Proportional Approval Voting (PAV)" MN ["branch-and-bound","brute-force"]
def Hd:List (Str×PV):=GX "slav" "SLAV" "Sainte-Laguë Approval Voting (SLAV)" MN ["branch-and-bound","brute-force"]
def qx:List (Str×PV):=GX "adams" "Adams-AV" "Adams Approval Voting" ["gurobi","pulp-highs","pulp-cbc","brute-force"] ["brute-force"]
theorem XS:(aI NN (k+1)).fn "Rule" [.str "pav"] []=some (.inst cM JK):=⋯
theorem W2:(aI NN (k+1)).fn "Rule" [.str "slav"] []=some (.inst cM Hd):=⋯
theorem aeo:(aI NN (k+1)).fn "Rule" [.str "adams"] []=some (.inst cM qx):=⋯
theorem aat:(aI NN (k+1)).bM cM "fastest_available_algorithm" [.inst cM qx] []=some (.str "brute-force"):=⋯
noncomputable def g8(b:Bool):Str:=cond b "branch-and-bound" "brute-force"
noncomputable def Ak(b:Bool):Str:=cond b "_thiele_methods_branchandbound" "_thiele_methods_bruteforce"
def R6:aN:=vU.scope.names
def oH(i:Nat):aH:=aJ vU.body i
noncomputable def sZ(p:PV)(k:Nat)(fu:Str):List (Str×PV):=[("profile",p),("committeesize",.int k),("algorithm",.str fu),("resolute",.bool false),("max_num_of_committees",.none)]
def Hx(fs:List (Str×PV))(p:PV)(k:Nat)(fu:Str):ar:=lZ (("self",.inst cM fs)::sZ p k fu)
def yF(O:aK)(fs:List (Str×PV))(fu:Str):Prop:=∀(p:PV) (k:Nat),a9 O NN R6 [] (Hx fs p k fu) [oH 3,oH 4,oH 5,oH 6]=nx (Hx fs p k fu)
theorem Y0:yF O JK (g8 b):=λp k=>by cases b<;>rfl'
theorem Zb:yF O Hd (g8 b):=λp k=>by cases b<;>rfl'
theorem ac':yF O qx (g8 false):=λp k=>⋯
theorem VX(V:yF O fs fu)(hk:1<=k)(hn:k<=n)(ha:O.attr bv "num_cand" (a6 n ns vs)=some (.int n))(hl:O.fn "len" [a6 n ns vs] []=some (.int (m+1:Nat))):bm O NN vU [.inst cM fs] (sZ (a6 n ns vs) k fu)=some .none:=
 (⋯:_=cm (a9 O NN R6 [] (Hx fs (a6 n ns vs) k fu) [oH 0,oH 1,oH 2,oH 3,oH 4,oH 5,oH 6])).trans
  (dz (ke (n:=999999) ⋯ ⋯ ((⋯:_=some (decide ((k:Int)<1))).trans (af some (dF (iA (pz hk))))))
  (dz (ke (n:=999999) ⋯ ⋯ ((show _=(O.attr bv "num_cand" (a6 n ns vs)).bind λb=>fe O .Gt (.int k) b by rfl').trans (aG ha (af some (dF (iA (pz hn)))))))
  (dz (ke (n:=999999) ⋯ ⋯ ((show _=(O.fn "len" [a6 n ns vs] []).bind λa=>fe O .Eq a (.int 0) by rfl').trans (aG hl rfl))) (af cm (V _ _)))))
def z9:aN:=AP.scope.names
def n8(i:Nat):aH:=aJ AP.body i
noncomputable def zJ(id:Str)(p:PV)(k:Nat)(fu:Str)(r:ar):ar:=("scorefct_id",.pv (.str id))::("profile",.pv p)::("committeesize",.pv (.int k))::("algorithm",.pv (.str fu))::("resolute",.pv (.bool false))::("max_num_of_committees",.pv .none)::("lexicographic_tiebreaking",.pv (.bool false))::r
theorem Nt{σ:ar}{nm:aN}{mu:List Str}{st:aH}{w:PV}(h:aw O (n+1) nm mu σ st=(cI O n nm (bB σ) (sE st)).map λ_=>(.next,σ))(he:cI O n nm (bB σ) (sE st)=some w):aw O (n+1) nm mu σ st=nx σ:=h.trans (af (eP _) he)
theorem Xx(h:O.fn (Ak b) [] [("scorefct_id",.str id),("profile",p),("committeesize",.int k),("resolute",.bool false),("max_num_of_committees",.none)]=some (.tup [v,.any])):aw O NN z9 [] (zJ id p k (g8 b) [("rule",.pv self)]) (n8 3)=nx (zJ id p k (g8 b) [("rule",.pv self),("committees",.pv v),("detailed_info",.pv .any)]):=by
 cases b with
 |true=>exact cN (n:=999999) (b:=true) ⋯ ⋯ (aF (st:=aJ (sB 0 (n8 3)) 0) (bg (n:=999998) (K:=JP O z9 (aJ (sB 0 (n8 3)) 0)) ⋯ ((⋯:_=O.fn (Ak true) [] [("scorefct_id",.str id),("profile",p),("committeesize",.int k),("resolute",.bool false),("max_num_of_committees",.none)]).trans h) ⋯) rfl)|false=>exact cN (n:=999999) (b:=false) ⋯ ⋯ (aF (st:=aJ (sB 1 (n8 3)) 0) (cN (n:=999998) (b:=true) ⋯ ⋯ (aF (st:=aJ (sB 0 (aJ (sB 1 (n8 3)) 0)) 0) (bg (n:=999997) (K:=JP O z9 (aJ (sB 0 (aJ (sB 1 (n8 3)) 0)) 0)) ⋯ ((⋯:_=O.fn (Ak false) [] [("scorefct_id",.str id),("profile",p),("committeesize",.int k),("resolute",.bool false),("max_num_of_committees",.none)]).trans h) ⋯) rfl)) rfl)
theorem Wz(hR:O.fn "Rule" [.str id] []=some (.inst cM fs))(h0:(ak fs "verify_compute_parameters").isNone=true)(hv:O.bM cM "verify_compute_parameters" [.inst cM fs] (sZ p k (g8 b))=some .none)(h:O.fn (Ak b) [] [("scorefct_id",.str id),("profile",p),("committeesize",.int k),("resolute",.bool false),("max_num_of_committees",.none)]=some (.tup [v,.any])):
  bm O NN AP [] [("scorefct_id",.str id),("profile",p),("committeesize",.int k),("algorithm",.str (g8 b)),("resolute",.bool false),("max_num_of_committees",.none),("lexicographic_tiebreaking",.bool false)]=some v:=
 (⋯:_=cm (a9 O NN z9 [] (zJ id p k (g8 b) []) [n8 0,n8 1,n8 2,n8 3,n8 4])).trans
  (dz (bg (n:=999999) (K:=bI z9 "rule" false) ⋯ ((⋯:_=O.fn "Rule" [.str id] []).trans hR) (⋯:_=nx (zJ id p k (g8 b) [("rule",.pv (.inst cM fs))])))
  (dz (st:=n8 1) (σ₁:=zJ id p k (g8 b) [("rule",.pv (.inst cM fs))]) (by cases b<;>rfl')
  (dz (Nt (n:=999999) (w:=.none) ⋯ ((⋯:_=if(ak fs "verify_compute_parameters").isNone=true then O.bM cM "verify_compute_parameters" [.inst cM fs] (sZ p k (g8 b)) else none).trans ((iP h0).trans hv))) (dz (Xx h) ⋯))))
noncomputable def xl(id:Str)(p:PV)(k:Nat)(fu:Str):List (Str×PV):=[("scorefct_id",.str id),("profile",p),("committeesize",.int k),("algorithm",.str fu),("resolute",.bool false),("max_num_of_committees",.none),("lexicographic_tiebreaking",.bool false)]
theorem abL(h:O.fn "compute_thiele_method" [] (xl "pav" p k fu)=some v):bm O NN Bm [p,.int k] [("algorithm",.str fu)]=some v:=
 (⋯:_=cm (a9 O NN Bm.scope.names [] (lZ [("profile",p),("committeesize",.int k),("algorithm",.str fu),("resolute",.bool false),("max_num_of_committees",.none),("lexicographic_tiebreaking",.bool false)]) [aJ Bm.body 0])).trans (af cm (sH (v9 (n:=999999) ⋯ ((⋯:_=O.fn "compute_thiele_method" [] (xl "pav" p k fu)).trans h))))
theorem O_(h:O.fn "compute_thiele_method" [] (xl "slav" p k fu)=some v):bm O NN BF [p,.int k] [("algorithm",.str fu)]=some v:=
 (⋯:_=cm (a9 O NN BF.scope.names [] (lZ [("profile",p),("committeesize",.int k),("algorithm",.str fu),("resolute",.bool false),("max_num_of_committees",.none),("lexicographic_tiebreaking",.bool false)]) [aJ BF.body 0])).trans (af cm (sH (v9 (n:=999999) ⋯ ((⋯:_=O.fn "compute_thiele_method" [] (xl "slav" p k fu)).trans h))))
def DL:aN:=zK.scope.names
def vz(i:Nat):aH:=aJ zK.body i
noncomputable def Dz(p:PV)(k:Nat)(fu:Str)(r:ar):ar:=("profile",.pv p)::("committeesize",.pv (.int k))::("algorithm",.pv (.str fu))::("resolute",.pv (.bool false))::("max_num_of_committees",.pv .none)::("rule_id",.pv (.str "adams"))::r
def HI:Str×AV:=("rule",.pv (.inst cM qx))
theorem ac3{w:List PV}(hR:O.fn "Rule" [.str "adams"] []=some (.inst cM qx))(hf:O.bM cM "fastest_available_algorithm" [.inst cM qx] []=some (.str "brute-force"))(hv:O.bM cM "verify_compute_parameters" [.inst cM qx] (sZ p k "brute-force")=some .none)(h:O.fn "_adams_bruteforce" [p,.int k,.bool false,.none] []=some (.list w))(hs:O.fn "sorted_committees" [.list w] []=some v):
  bm O NN zK [p,.int k] []=some v:=
 (⋯:_=cm (a9 O NN DL [] (Dz p k "fastest" []) [vz 1,vz 2,vz 3,vz 4,vz 5])).trans
  (dz (bg (n:=999999) (K:=bI DL "rule" false) ⋯ ((⋯:_=O.fn "Rule" [.str "adams"] []).trans hR) (⋯:_=nx (Dz p k "fastest" [HI])))
  (dz (cN (n:=999999) (b:=true) ⋯ ⋯ (aF (st:=aJ (sB 0 (vz 2)) 0) (σ₁:=Dz p k "brute-force" [HI]) (bg (n:=999998) (K:=bI DL "algorithm" false) ⋯ ((⋯:_=O.bM cM "fastest_available_algorithm" [.inst cM qx] []).trans hf) ⋯) rfl))
  (dz (Nt (n:=999999) ⋯ ((⋯:_=O.bM cM "verify_compute_parameters" [.inst cM qx] (sZ p k "brute-force")).trans hv))
  (dz (cN (n:=999999) (b:=true) ⋯ ⋯ (aF (st:=aJ (sB 0 (vz 4)) 0) (σ₁:=Dz p k "brute-force" [HI,("committees",.pv (.list w))]) (bg (n:=999998) (K:=bI DL "committees" false) ⋯ ((⋯:_=O.fn "_adams_bruteforce" [p,.int k,.bool false,.none] []).trans h) ⋯) rfl))
  (af cm (sH (v9 (n:=999999) ⋯ ((⋯:_=O.fn "sorted_committees" [.list w] []).trans hs))))))))
end
section
variable{O:aK}{v:Nat}{nc:PV}
def A2:aN:=rC.scope.names
def ww(fs:List (Str×PV))(cv:PV)(v:Nat)(nc:PV):ar:=[("self",.a7 iw fs []),("approved",.pv cv),("weight",.pv (.int v)),("num_cand",.pv nc)]
theorem RX(h:O.fn "CandidateSet" [cv] [("num_cand",nc)]=some (.set A))(hv:1<=v):a9 O NN A2 [] (ww [] cv v nc) rC.body=nx (ww [("approved",.set A),("weight",.int v)] cv v nc):=
 (⋯:_=a9 O NN A2 [] (ww [] cv v nc) [aJ rC.body 0,aJ rC.body 1,aJ rC.body 2]).trans (aF (bg (n:=999999) (K:=HS A2 "self" "approved" false) ⋯ ((⋯:_=O.fn "CandidateSet" [cv] [("num_cand",nc)]).trans h) (⋯:_=nx (ww [("approved",.set A)] cv v nc)))
  (aF (st:=aJ rC.body 1) (σ₁:=ww [("approved",.set A),("weight",.int v)] cv v nc) ⋯ (aF (ke (n:=999999) ⋯ ⋯ ((⋯:_=some (decide ((v:Int)<=0))).trans (af some (dF (zg.mpr (jf hv)))))) rfl)))
def xE(x:Str)(c:Nat)(r:aZ):Option (List (Str×PV)×List Str):=r.bind λr=>if r.1.hZ=true then(ak r.2 x).bind λv=>v.lR.bind λi=>if i.1=c then some i.2 else none else none
theorem Xg(h:O.fn "CandidateSet" [cv] [("num_cand",.none)]=some (.set A))(hv:1<=v):(next NN O).fn "Voter" [cv] [("weight",.int v)]=some (bq (A,v)):=
 (show _=(xE "self" iw (a9 O NN A2 [] (ww [] cv v .none) rC.body)).map λr=>PV.inst iw r.1 by rfl').trans ((af (λo=>(xE "self" iw o).map λr=>PV.inst iw r.1) (RX h hv)).trans ⋯)
theorem YY(h:O.fn "CandidateSet" [cv] [("num_cand",nc)]=some (.set A))(hv:1<=v):(next NN O).fn "Voter" [cv] [("weight",.int v),("num_cand",nc)]=some (bq (A,v)):=
 (show _=(xE "self" iw (a9 O NN A2 [] (ww [] cv v nc) rC.body)).map λr=>PV.inst iw r.1 by rfl').trans ((af (λo=>(xE "self" iw o).map λr=>PV.inst iw r.1) (RX h hv)).trans ⋯)
def Sw:aN:=Aq.scope.names
def Jt(i:Nat):aH:=aJ Aq.body i
theorem VC(ha:O.attr bv "num_cand" (a6 n ns vs)=some (.int n))(h:O.fn "Voter" [.set A] [("weight",.int v),("num_cand",.int n)]=some (bq (A,v))):bm O NN Aq [a6 n ns vs,bq (A,v)] []=some (bq (A,v)):=
 (⋯:_=cm (a9 O NN Sw [] [("self",.pv (a6 n ns vs)),("voter",.pv (bq (A,v)))] [Jt 0,Jt 1])).trans (dz (cN (n:=999999) (b:=true) ⋯ ⋯ (aF (st:=aJ (sB 0 (Jt 0)) 0) (σ₁:=[("self",.pv (a6 n ns vs)),("voter",.pv (bq (A,v))),("_voter",.pv (bq (A,v)))]) (bg (n:=999998) (K:=bI Sw "_voter" false) ⋯ ((show _=(((O.attr bv "num_cand" (a6 n ns vs)).bind λv=>some [(("num_cand":Str),v)]).map λks=>(("weight":Str),PV.int v)::ks).bind λks=>O.fn "Voter" [.set A] ks by rfl').trans (by rw[ha];exact h)) ⋯) rfl)) ⋯)
def t8:aN:=wm.scope.names
def AK:aH:=aJ wm.body 0
def Bz(n:Nat):PV:=.list ((ax n).map ds)
def eW(n:Nat)(vs:List (List Nat×Nat)):List (Str×PV):=[("candidates",.list ((ax n).map λi:Nat=>.int i)),("cand_names",Bz n),("_voters",.list (vs.map bq))]
noncomputable def fK:List Str:=["_voters","cand_names"]
def r8(n:Nat)(vs:List (List Nat×Nat))(w:PV):ar:=[("self",.a7 bv (eW n vs) fK),("voter",.pv w)]
theorem ϙ(h:O.bM bv "_unique_voter" [a6 n (Bz n) vs,bq (A,v)] []=some (bq (A,v)))(hz:vs.length<az):a9 O NN t8 [] (r8 n vs (bq (A,v))) wm.body=nx (r8 n (vs++[(A,v)]) (bq (A,v))):=by
 refine(⋯:_=a9 O NN t8 [] (r8 n vs (bq (A,v))) [AK]).trans (aF ?_ rfl);have e1:bW (cI O 999999 t8) (r8 n vs (bq (A,v))) (bR 0 (sE AK))=some (bq (A,v),r8 n vs (bq (A,v))):=by
  unfold bW;rw[show cI O 999999 t8 (fL (r8 n vs (bq (A,v)))) (bR 0 (sE AK))=none by rfl',show cI O 999999 t8 (bB (r8 n vs (bq (A,v)))) (bR 0 (sE AK))=some (bq (A,v)) from(⋯:_=O.bM bv "_unique_voter" [a6 n (Bz n) vs,bq (A,v)] []).trans h];rfl'
 refine(show _=(bW (cI O 999999 t8) (r8 n vs (bq (A,v))) (bR 0 (sE AK))).bind λq=>if fK.contains "_voters"=true/\(vs.map bq).length<az then eD (putN t8 "self" (.a7 bv (cf (eW n vs) "_voters" (.list (vs.map bq++[q.1]))) fK) q.2) else none by rfl').trans (aG e1 ((iP ⟨by decide,aQ (aD (bi _)) hz⟩).trans ?_));rw[show vs.map bq++[bq (A,v)]=(vs++[(A,v)]).map bq from(mR (l₁:=vs) (l₂:=[(A,v)])).symm];rfl'
end
section
variable{m v D:Nat}{nc:PV}
theorem aeh(h:(aI NN k).bM bv "_unique_voter" [a6 n (Bz n) vs,bq (A,v)] []=some (bq (A,v)))(hz:vs.length<az):(aI NN (k+1)).l6 bv (eW n vs) fK "add_voter" [bq (A,v)]=some (eW n (vs++[(A,v)])):=
 (show _=(xE "self" bv (a9 (aI NN k) NN t8 [] (r8 n vs (bq (A,v))) wm.body)).bind λr=>if r.2=fK then some r.1 else none by rfl').trans ((af (λo=>(xE "self" bv o).bind λr=>if r.2=fK then some r.1 else none) (ϙ h hz)).trans ⋯)
theorem acg(h:n<6):(aI NN (k+1)).make "Profile" [.int (n+1:Nat)] []=some (bv,eW (n+1) [],fK):=Md (P:=λn=>(aI NN (k+1)).make "Profile" [.int (n+1:Nat)] []=some (bv,eW (n+1) [],fK)) ⋯ ⋯ ⋯ ⋯ ⋯ ⋯ n h
theorem A':(aI NN (k+1)).attr bv "num_cand" (a6 n ns vs)=some (.int n):=
 (show _=some (PV.int (((ax n).map λi:Nat=>PV.int i).length:Nat)) by rfl').trans (by rw[bi,cF])
theorem acs{a b:List Nat×Nat}:(aI NN (k+1)).fn "len" [a6 n ns [a,b]] []=some (.int (2:Nat)):=⋯
theorem Zy{a b c:List Nat×Nat}:(aI NN (k+1)).fn "len" [a6 n ns [a,b,c]] []=some (.int (3:Nat)):=⋯
theorem WF(h:(aI NN (k+1)).fn "Voter" [.set A] [("weight",.int v),("num_cand",.int n)]=some (bq (A,v))):(aI NN (k+2)).bM bv "_unique_voter" [a6 n ns vs,bq (A,v)] []=some (bq (A,v)):=
 (⋯:_=bm (aI NN (k+1)) NN Aq [a6 n ns vs,bq (A,v)] []).trans (VC A' h)
def d8(C:List Nat):List Nat:=C.foldr fy []
theorem rB{x:Nat}:x∈d8 C↔x∈C:=by
 induction C with
 |nil=>exact .rfl|cons c C ih=>exact pi.trans ((or_congr_right ih).trans jO.symm)
theorem oK:(d8 C).Pairwise (· < ·):=by
 induction C with
 |nil=>exact .nil|cons c C ih=>exact sX ih
theorem O6:∀{C:List Nat},(∀x∈C,x<6)->setOf (aC C)=some (d8 C):=by
 intro C;induction C with
 |nil=>exact λ_=>rfl|cons c C ih=>exact λh=>(iP ⟨fP c,jf (h c (.head _))⟩).trans (af (eP (fy c)) (ih λx m=>h x (.tail _ m)))
theorem li(h:C.Pairwise (· < ·)):C.Nodup:=h.imp gE
theorem Fi(h:C.Nodup):(d8 C).Perm C:=(Gf (li oK) h).mpr λ_=>rB
theorem Sv{C':List Nat}(h:C'.Perm C):d8 C'=d8 C:=ue oK oK λx=>rB.trans (h.mem_iff.trans rB.symm)
theorem Fj(h:C.Pairwise (· < ·)):d8 C=C:=ue oK h λ_=>rB
theorem aet(h:∀x∈C,x<6):SS (d8 C):=⟨oK,λx m=>h x (rB.mp m)⟩
theorem aeN(c:Cv cv A)(h:∀x∈A,x<6):eG cv setOf=some (d8 A):=yh c λ_ hp=>(O6 λx m=>h x (hp.mem_iff.mp m)).trans (af some (Sv hp))
theorem QX(c:Cv cv A)(hd:A.Nodup)(h:∀x∈A,x<6)(hn:nc=.none\/∃m,nc=.int m/\∀x∈A,(x:Int)<m):bm (aI NN (k+1)) NN wx [cv,nc] []=some (.set (d8 A)):=
 Xm (O:=aI NN k) c (λl' hp=>(O6 λx m=>h x (hp.mem_iff.mp m)).trans (af some (Sv hp))) (Fi hd).length_eq hn
theorem VP(c:Cv cv A)(hd:A.Nodup)(h:∀x∈A,x<6):(aI NN (k+2)).fn "CandidateSet" [cv] []=some (.set (d8 A)):=
 (⋯:_=bm (aI NN (k+1)) NN wx [cv,.none] []).trans (QX c hd h (.inl rfl))
theorem ID(c:Cv cv A)(hd:A.Nodup)(h:∀x∈A,x<6)(hn:nc=.none\/∃m,nc=.int m/\∀x∈A,(x:Int)<m):(aI NN (k+2)).fn "CandidateSet" [cv] [("num_cand",nc)]=some (.set (d8 A)):=
 (⋯:_=bm (aI NN (k+1)) NN wx [cv,nc] []).trans (QX c hd h hn)
theorem aeM(h:SS A):∃s,(aI NN (k+2)).fn "str_set_of_candidates" [.set A] []=some (.str s):=(afD (O:=aI NN k) h).imp λs e=>(⋯:_=bm (aI NN (k+1)) NN qm [.set A] []).trans e
theorem ND{α:Type}{l:List α}{v:α->PV}{so:α->List Nat}(h0:l≠[])(hz:l.length<64)(hc:∀a∈l,Cv (v a) (so a)/\(so a).Nodup/\∀x∈so a,x<6):∃out:List (List Nat),(aI NN (k+3)).fn "sorted_committees" [.list (l.map v)] []=some (.list (out.map PV.set))/\out.Perm (l.map λa=>d8 (so a)):=
 (af1 (O:=aI NN (k+1)) (v:=v) (so:=λa=>d8 (so a)) h0 hz (λa m=>VP (k:=k) (hc a m).1 (hc a m).2.1 (hc a m).2.2) (λa m=>aeM (k:=k) (aet (hc a m).2.2))).imp λout e=>⟨(⋯:_=bm (aI NN (k+2)) NN Bv [.list (l.map v)] []).trans e.1,e.2⟩
theorem V5:(aI NN (k+2)).fn "get_marginal_scorefct" [.str "pav",.int m] []=some (fU "pav"):=⋯
theorem aeq:(aI NN (k+2)).fn "get_marginal_scorefct" [.str "slav",.int m] []=some (fU "slav"):=⋯
theorem ZU(H:iU (aI NN (k+3)) id S D)(c:Cv cv A)(h6:∀x∈A,x<6)(hv:∀q∈vs,(fb (d8 A) q.1).length<=4)(h0:oJ k D id (a6 n ns vs) cv):(aI NN (k+4)).fn "thiele_score" [.str id,a6 n ns vs,cv] []=some (fq D (d6 S (d8 A) vs)):=
 (⋯:_=bm (aI NN (k+3)) NN qL [.str id,a6 n ns vs,cv] []).trans (adk H (aeN c h6) hv h0)
theorem Wy(H:iU (aI NN (k+3)) id S D)(hn:n<=100)(hv:∀q∈vs,zN C n q)(hi:∀i∈C,i<n):(aI NN (k+4)).fn "marginal_thiele_scores_add" [fU id,a6 n ns vs,.list (aC C)] []=some (.list (vq D n (im D C (jJ S C · vs)))):=
 (⋯:_=bm (aI NN (k+3)) NN A6 [fU id,a6 n ns vs,.list (aC C)] []).trans (aaF H A' hn hv hi)
theorem afC{a:Int}{l:List Int}(h:0<D)(h2:D<=500):(aI NN (k+4)).fn "total" [.list (ii D (a::l))] []=some (fq D (a::l).sum):=
 (⋯:_=bm (aI NN (k+3)) NN AE [.list (ii D (a::l))] []).trans (Wu (qk h h2))
end
section
variable{m lo:Nat}{s c:List Nat}
theorem sP:∀{j lo:Nat} {c:List Nat},c∈ci n lo j->c.length=j/\c.Pairwise (· < ·)/\∀x∈c,lo<=x/\x<n:=by
 intro j;induction j with
 |zero=>exact λm=>cY m▸⟨rfl,.nil,λ_ m=>absurd m eX⟩
 |succ j ih=>
  intro lo c m;obtain⟨a,ma,mc⟩:=Gm.mp m;obtain⟨d,md,rfl⟩:=rn.mp mc;have h:=ih md;have ha:=Ud.mp ma;refine⟨af (· +1) h.1,Gk.mpr ⟨λx m=>(h.2.2 x m).1,h.2.1⟩,λx m=>(bw m).elim (λe=>e▸⟨ha.1,?_⟩) λm=>⟨aq ha.1 (cy (h.2.2 x m).1),(h.2.2 x m).2⟩⟩;exact ba ((K7 lo (n-j)).elim (λh=>ba ha.2 (aD (iK h))) λh=>absurd (ba ha.2 (aD (af (lo+ ·) (Nat.sub_eq_zero_of_le h)))) (gJ ha.1)) (kE ..)
theorem MU:∀{m lo:Nat} {s:List Nat},s.Pairwise (· < ·)->(∀x∈s,lo<=x/\x<lo+m)->s.Sublist (gW lo m):=by
 intro m;induction m with
 |zero=>
  intro lo s _ h;cases s with
  |nil=>exact .refl _|cons x s=>exact absurd (aQ (h x (.head _)).1 (h x (.head _)).2) (cV _)
 |succ m ih=>
  intro lo s p h;cases s with
  |nil=>exact Tk _
  |cons x s=>
  have q:=lO p;have u:∀y∈x::s,y<lo+1+m:=λy my=>ba (h y my).2 (aD ((fC lo m 1).symm.trans (pS lo m 1)));by_cases e:x=lo
  ·exact e▸(ih q.2 λy my=>⟨e▸q.1 y my,u y (.tail _ my)⟩).cons_cons x
  ·have l:=pT (h x (.head _)).1 (gV e);exact(ih p λy my=>⟨(bw my).elim (λe=>e▸l) λmy=>aq l (cy (q.1 y my)),u y my⟩).cons lo
theorem BP:∀{j lo:Nat} {c:List Nat},c.length=j->c.Pairwise (· < ·)->(∀x∈c,lo<=x/\x<n)->c∈ci n lo j:=by
 intro j;induction j with
 |zero=>exact λh _ _=>Gi.mpr (zn.mp h)
 |succ j ih=>
  intro lo c h p q;cases c with
  |nil=>nomatch h
  |cons a d=>
  have p':=lO p;have ha:=q a (.head _);have hd:=wK h;have hl:=(MU (m:=n- (a+1)) (lo:=a+1) p'.2 λx m=>⟨p'.1 x m,ba (q x (.tail _ m)).2 (aD (iK ha.2).symm)⟩).length_le;rw[K4,hd] at hl;have hz:a<n-j:=agE (aq (aD (af jq (gj a j))) (TS ha.2 hl));exact Gm.mpr ⟨a,Ud.mpr ⟨ha.1,ba hz (aD (iK (cy (aQ ha.1 hz))).symm)⟩,qZ (ih hd p'.2 λx m=>⟨p'.1 x m,(q x (.tail _ m)).2⟩)⟩
theorem MW{a b c d:Int}:a+b+(c+d)=a+c+(b+d):=by rw[mQ,Int.add_left_comm b,<-mQ]
theorem Mo{f g:Nat->Int}:(s.map λx=>f x+g x).sum=(s.map f).sum+(s.map g).sum:=by
 induction s with
 |nil=>rfl|cons x s ih=>exact(af (f x+g x+ ·) ih).trans MW
theorem ϭ{v:Int}:(s.map λx=>if x∈A then v else 0).sum=(fb s A).length*v:=by
 induction s with
 |nil=>exact(yS v).symm
 |cons x s ih=>
  refine(af ((if x∈A then v else 0)+ ·) ih).trans ?_;by_cases h:x∈A
  ·rw[iP h,show fb (x::s) A=x::fb s A from tD (kz.mpr h),wL,w6,Ga,u7];exact af _ (Int.one_mul v).symm
  ·rw[iN h,show fb (x::s) A=fb s A from u8 λq=>h (qg q),Gb]
theorem ac7{l l':List Int}(p:l.Perm l'):l.sum=l'.sum:=by
 induction p with
 |nil=>rfl|cons a _ ih=>exact af (a+ ·) ih|swap a b l=>exact Int.add_left_comm ..|trans _ _ h1 h2=>exact h1.trans h2
theorem W3:∀{L s r:List Int},L.Pairwise (· <=·)->(s++r).Perm L->s.sum<=(L.drop r.length).sum:=by
 intro L;induction L with
 |nil=>exact λ{s r} _ p=>by rw[(List.append_eq_nil_iff.mp p.eq_nil).1,FR];exact tB _
 |cons a L ih=>
  intro s r hs p;have q:=lO hs;by_cases mr:a∈r
  ·have p1:=agX mr;rw[p1.length_eq];exact ih q.2 (List.perm_middle.symm.trans ((p1.symm.append_left s).trans p)).cons_inv
  ·have ms:=(mf (p.mem_iff.mpr (.head _))).resolve_right mr;have p1:=agX ms;have p2:=((p1.symm.append_right r).trans p).cons_inv;have h:=ih q.2 p2;rw[ac7 p1];cases r with
   |nil=>exact Int.add_le_add_left h a
   |cons b r=>
    have hl:r.length<L.length:=ba (i5 _) (aq (i7 ..) (aD (da.symm.trans p2.length_eq)));show _<=(L.drop r.length).sum;rw[Cg hl];exact Gg (q.1 _ (S7 hl)) h
theorem QY:fb (C++s) A=fb C A++fb s A:=pW ..
theorem Nn(hC:C.Nodup)(hA:A.Nodup):l5 C A=(fb C A).length:=
 ((Gf (hA.filter _) (hC.filter _)).mpr λx=>by
  rw[oE,oE,kz,kz];exact And.comm).length_eq
structure tc(S:Nat->Int):Prop where
 YN:∀a,a<5->∀b,b<5->a+b<=4->S (a+b)<=S a+b*(S (a+1) -S a)
 inc:∀a,a<4->0<=S (a+1) -S a
 pos:∀a,a<5->0<=S a
theorem Ε(H:tc S)(hC:C.Nodup):∀{vs:List (List Nat×Nat)},(∀q∈vs,q.1.Nodup/\(fb (C++s) q.1).length<=4)->d6 S (C++s) vs<=(s.map λx=>jJ S C x vs).sum+d6 S C vs:=by
 intro vs;induction vs with
 |nil=>
  intro _;show 0<=(s.map λ_=>(0:Int)).sum+0;rw[uS];induction s with
  |nil=>exact tB _|cons x s ih=>exact ic (ih nofun) (oF (Gb _).symm)
 |cons q vs ih=>
  intro h;have hq:=h q (.head _);have h1:=ih λq m=>h q (.tail _ m);have hb:=hq.2;rw[QY,da] at hb;show S (fb (C++s) q.1).length*q.2+d6 S (C++s) vs<=(s.map λx=>uF S C q x+jJ S C x vs).sum+(S (fb C q.1).length*q.2+d6 S C vs);rw[Mo,show(s.map (uF S C q)).sum=_ from ϭ,Nn hC hq.1,QY,da];have hf:=H.YN _ (kA (aq (cW ..) hb)) _ (kA (aq (i7 ..) hb)) hb;have:=Gg (Int.mul_le_mul_of_nonneg_right hf (fP q.2)) h1;rw[Ga,Int.mul_assoc] at this;exact ic this (oF ((af (· +_) (u7 ..)).trans MW))
theorem Xa(H:tc S){x:Nat}:∀{vs:List (List Nat×Nat)},(∀q∈vs,l5 C q.1<4)->0<=jJ S C x vs:=by
 intro vs;induction vs with
 |nil=>exact λ_=>tB _
 |cons q vs ih=>
  intro h;refine K8 ?_ (ih λq m=>h q (.tail _ m));unfold uF;by_cases k:x∈q.1
  ·rw[iP k];exact Int.mul_nonneg (H.inc _ (h q (.head _))) (fP _)
  ·rw[iN k];exact tB _
theorem WH(H:tc S):∀{vs:List (List Nat×Nat)},(∀q∈vs,(fb C q.1).length<=4)->0<=d6 S C vs:=by
 intro vs;induction vs with
 |nil=>exact λ_=>tB _|cons q vs ih=>exact λh=>K8 (Int.mul_nonneg (H.pos _ (kA (h q (.head _)))) (fP _)) (ih λq m=>h q (.tail _ m))
theorem adw{D:Nat}(H:tc S)(R:rQ n k C)(hv:∀q∈vs,q.1.Nodup/\(fb c q.1).length<=4){out:List Int}(hp:out.Perm ((gW (low C) (n-low C)).map (im D C (jJ S C · vs))))(hs:out.Pairwise (· <=·))(hc:c∈dS n k C):d6 S c vs<=(out.drop (out.length- (k-C.length))).sum+d6 S C vs:=by
 obtain⟨s,ms,rfl⟩:=rn.mp hc;have h:=sP ms;have ln:low C<=n:=aq (cW ..) R.room;obtain⟨r,pr⟩:=((MU (m:=n-low C) (lo:=low C) h.2.1 λx m=>⟨(h.2.2 x m).1,ba (h.2.2 x m).2 (aD (iK ln).symm)⟩).map (im D C (jJ S C · vs))).exists_perm_append;have t:=W3 (s:=s.map (im D C (jJ S C · vs))) (r:=r) hs (pr.symm.trans hp.symm);have hl:=(pr.symm.trans hp.symm).length_eq;rw[da,bi,h.1] at hl;rw[<-hl,F7];refine ic (Ε H (li R.oT.up) hv) (Int.add_le_add_right (ic (oF (af yJ ?_)) t) _);exact pV λx m=>(iN λq=>cV _ (ba (Hw R.oT.up x q) (h.2.2 x m).1)).symm
end
section
variable{O:aK}{m j D:Nat}{v:PV}{c:List Nat}{r b:Bool}
noncomputable def Jv(n:Nat):PV:=.list ((ax n).map λi:Nat=>.int i)
theorem acU:(ax 6).map (λn=>(ax 6).map λk=>bm O NN JY [Jv (n+1),.int (k+1:Nat)] [])=(ax 6).map λn=>(ax 6).map λk=>some (PV.list ((ci (n+1) 0 (k+1)).map eF)):=⋯
theorem acD:(ax 7).all (λn=>(ax 7).all λk=>decide ((ci n 0 k).length<60))=true:=⋯
theorem adv(hn:n<7)(hk:k<7):(ci n 0 k).length<60:=cC (b7 (b7 acD n (dH hn)) k (dH hk))
theorem BU(hk:k<=n):ci n 0 k≠[]:=CC (a:=ax k) (BP cF TV λ_ m=>⟨cu _,ba (eL m) hk⟩)
theorem En:dS n k []=ci n 0 k:=KS _
structure gh(n k:Nat)(vs:List (List Nat×Nat)):Prop where
 n6:n<7
 k1:1<=k
 kn:k<=n
 up:∀q∈vs,q.1.Pairwise (· < ·)
 lt:∀q∈vs,∀x∈q.1,x<n
 len:∀q∈vs,q.1.length<=3
 many:vs.length=2\/vs.length=3
theorem gh.comb(V:gh n k vs):(aI NN (j+1)).fn "combinations" [Jv n,.int k] []=some (.list ((ci n 0 k).map eF)):=by
 obtain⟨k,rfl⟩:=u6 (fO V.k1);obtain⟨n,rfl⟩:=u6 (fO (aq V.k1 V.kn));have hn:=agp V.n6;exact(⋯:_=bm (aI NN j) NN JY [Jv (n+1),.int (k+1:Nat)] []).trans (Gj.mp (Gj.mp acU n (dH hn)) k (dH (aQ (KC V.kn) hn)))
theorem gh.I8(V:gh n k vs)(hC:C.Nodup):∀q∈vs,(fb C q.1).length<=4:=λq m=>aq (List.Nodup.length_le_of_subset (hC.filter _) λx m=>qg (eJ m).2) (y6 (V.len q m))
theorem gh.Nk(V:gh n k vs):∀q∈vs,zN C n q:=λq m=>⟨kA (aq (rm ..) (V.len q m)),li (V.up q m),V.lt q m⟩
theorem gh.iY(V:gh n k vs):(ci n 0 k).length<60:=adv V.n6 (aQ V.kn V.n6)
theorem ql(h:c∈ci n 0 k):BA n c:=⟨(sP h).2.1,λx m=>((sP h).2.2 x m).2⟩
theorem gh.six(V:gh n k vs)(h:∀x∈c,x<n):∀x∈c,x<6:=λx m=>ba (h x m) (ju V.n6)
theorem E_(R:rQ n k C)(h:c∈dS n k C):c∈ci n 0 k:=by
 obtain⟨s,ms,rfl⟩:=rn.mp h;have h:=sP ms;exact BP (by rw[da,h.1,iK R.len]) (Gq.mpr ⟨R.oT.up,h.2.1,λa ma b mb=>ba (Hw R.oT.up a ma) (h.2.2 b mb).1⟩) λx m=>⟨cu _,(mf m).elim (R.oT.lt x) λm=>(h.2.2 x m).2⟩
noncomputable def gL(r:Bool):Str:=cond r "slav" "pav"
def rS(r:Bool):Nat->Int:=cond r R7 OB
noncomputable def rD(r:Bool):Nat:=cond r 105 12
def rF(r:Bool):List (Str×PV):=cond r Hd JK
theorem EC:iU (aI NN (k+3)) (gL r) (rS r) (rD r):=r.rec Z7 ac1
theorem JG(h:Cv cv A):oJ k (rD r) (gL r) v cv:=r.rec (Z2 h) (afu h)
theorem MK:(aI NN (k+2)).fn "get_marginal_scorefct" [.str (gL r),.int m] []=some (fU (gL r)):=r.rec V5 aeq
theorem aaq:(aI NN (k+1)).fn "Rule" [.str (gL r)] []=some (.inst cM (rF r)):=r.rec XS W2
theorem ab6:(ak (rF r) "verify_compute_parameters").isNone=true:=r.rec ⋯ ⋯
theorem aa4:yF O (rF r) (g8 b):=r.rec Y0 Zb
noncomputable def Wq(S:Nat->Int):Bool:=((ax 5).all λa=>(ax 5).all λb=> !decide (a+b<=4)||decide (S (a+b)<=S a+b*(S (a+1) -S a)))&&((ax 4).all λa=>decide (0<=S (a+1) -S a))&&(ax 5).all λa=>decide (0<=S a)
theorem Ic(h:Wq S=true):tc S:=by
 have h:=aX h;have g:=aX h.1;refine⟨λa ha b hb l=>?_,λa ha=>cC (b7 g.2 a (dH ha)),λa ha=>cC (b7 h.2 a (dH ha))⟩;have:=b7 (b7 g.1 a (dH ha)) b (dH hb);rw[dT l] at this;exact cC this
theorem uC:tc (rS r):=Ic (r.rec ⋯ ⋯)
theorem sK:0<rD r/\rD r<=500:=r.rec (by decide) (by decide)
theorem A8(V:gh n k vs)(H:iU (aI NN (j+3)) id S D)(h:Cv cv A)(a:BA n A)(pre:oJ j D id (a6 n ns vs) cv):(aI NN (j+4)).fn "thiele_score" [.str id,a6 n ns vs,cv] []=some (fq D (d6 S A vs)):=by
 have e:=Fj a.up;have t:=ZU H h (V.six a.lt) (by rw[e];exact V.I8 (li a.up)) pre;rw[e] at t;exact t
end
section
variable{j:Nat}{v:PV}{c:List Nat}{r b:Bool}
def yr(S:Nat->Int)(n k:Nat)(vs:List (List Nat×Nat)):List (List Nat):=dP (λc=>d6 S c vs) (ci n 0 k)
def HB(n k:Nat)(vs:List (List Nat×Nat)):List (List Nat):=dP (λc=>d6 nD c vs) (dP (λc=>d6 ui c vs) (ci n 0 k))
def pk(o:Option PV)(f:PV->PV)(W:List (List Nat)):Prop:=∃out:List (List Nat),o=some (f (.list (out.map PV.set)))/\out.Perm W
theorem pk.of{o o':Option PV}{f g:PV->PV}{W:List (List Nat)}(h:pk o f W)(k:∀l:List PV,o=some (f (.list l))->o'=some (g (.list l))):pk o' g W:=h.imp λout e=>⟨k _ e.1,e.2⟩
theorem lC(H:tc S)(V:gh n k vs):∀c∈ci n 0 k,0<=d6 S c vs:=λc m=>WH H (V.I8 (li (ql m).up))
theorem G0{W:List (List Nat)}{w:List Nat->PV}(V:gh n k vs)(h:∀c∈W,c∈ci n 0 k)(n0:W≠[])(hz:W.length<=(ci n 0 k).length)(hw:∀c,Cv (w c) c):pk ((aI NN (j+3)).fn "sorted_committees" [.list (W.map w)] []) (λv=>v) W:=by
 refine(ND (k:=j) (so:=λc=>c) n0 (aQ hz (eN V.iY (by decide))) λc m=>⟨hw c,li (ql (h c m)).up,V.six (ql (h c m)).lt⟩).imp λout e=>⟨e.1,e.2.trans (.of_eq ?_)⟩;exact(pV λc m=>Fj (ql (h c m)).up).trans (List.map_id _)
theorem A_(V:gh n k vs):pk ((aI NN (j+6)).fn "_thiele_methods_bruteforce" [] [("scorefct_id",.str (gL r)),("profile",a6 n ns vs),("committeesize",.int k),("resolute",.bool false),("max_num_of_committees",.none)]) (λv=>.tup [v,.any]) (yr (rS r) n k vs):=
 (G0 (j:=j+2) (w:=eF) V (λc m=>(eJ m).1) (tU (lC uC V) (BU V.kn)) (rm ..) .tup).of λl e=>
  (⋯:_=bm (aI NN (j+5)) NN AG [] [("scorefct_id",.str (gL r)),("profile",a6 n ns vs),("committeesize",.int k),("resolute",.bool false),("max_num_of_committees",.none)]).trans
   (F_ (qk (k:=j+2) sK.1 sK.2) (V.comb (j:=j+4)) (eN V.iY (by decide)) (λc m=>⟨A8 (j:=j+1) V EC (.tup c) (ql m) (JG (.tup c)),lC uC V c m⟩) e)
theorem OS(V:gh n k vs):IX (aI NN (j+4)) (rD r) n (gL r) (a6 n ns vs) (λC c=>jJ (rS r) C c vs):=
 ⟨λh=>Wy EC (aq (cy V.n6) (by decide)) V.Nk h.lt,λ_=>Xa uC λq m=>(V.Nk q m).l5⟩
def bxT(r:Bool)(n:Nat)(ns:PV)(vs:List (List Nat×Nat))(k:Nat)(C:List Nat):BX:=⟨gL r,n,ns,vs,k,.set C,rD r⟩
theorem Ϧ(V:gh n k vs):EK (aI NN (j+5)) (bxT r n ns vs k C) (λc=>d6 (rS r) c vs) λC=>im (rD r) C (jJ (rS r) C · vs) where
 tofX:=qk (k:=j+2) sK.1 sK.2
 th h _:=A8 (j:=j+1) V EC (.list _) h (JG (.list _))
 mt h _:=(OS (j:=j+1) V).fn ⟨li h.up,h.lt⟩
 ub R _ hp hs c hc:=adw uC R (λq m=>⟨li (V.up q m),V.I8 (li (ql (E_ R hc)).up) q m⟩) hp hs hc
 Ng:=afC (k:=j+1) sK.1 sK.2
 nc:=A'
 Dl:=eN V.n6 (by decide)
 kn:=V.kn
theorem Ϝ(V:gh n k vs):pk ((aI NN (j+6)).fn "_thiele_methods_branchandbound" [] [("scorefct_id",.str (gL r)),("profile",a6 n ns vs),("committeesize",.int k),("resolute",.bool false),("max_num_of_committees",.none)]) (λv=>.tup [v,.any]) (yr (rS r) n k vs):=by
 refine bE λgG hG=>?_;obtain⟨C,hC,hl,hs⟩:=aeL (k:=k) (qk (k:=j+1) sK.1 sK.2) sK.1 (eN V.n6 (by decide)) (OS (r:=r) (ns:=ns) (j:=j) V) V.kn (MK (k:=j+2));obtain⟨out,e,hp⟩:=ND (k:=j+1) (l:=[C]) (v:=lst) (so:=λc=>c) (SF _ _) (show(1:Nat)<64 by decide) λc m=>cY m▸⟨.list C,hC.nd,V.six hC.lt⟩;have eo:out=[d8 C]:=List.perm_singleton.mp hp;subst eo;have mC:d8 C∈ci n 0 k:=BP ((Fi hC.nd).length_eq.trans hl) oK λx m=>⟨cu _,hC.lt x (rB.mp m)⟩;have hq:(aI NN (j+5)).fn "_seq_thiele_resolute" [.str (gL r),a6 n ns vs,.int k] []=some (.tup [.list [.set (d8 C)],.any]):=(⋯:_=bm (aI NN (j+4)) NN AT [.str (gL r),a6 n ns vs,.int k] []).trans (hs _ e);obtain⟨best,hb,hr⟩:=ξ (C:=d8 C) (Ϧ (r:=r) (ns:=ns) (j:=j) (C:=d8 C) V) (ju V.n6) (En▸eN V.iY (by decide)) V.k1 (En▸mC) (En▸lC uC V) (MK (k:=j+3)) hq (A8 (j:=j+1) V EC (.set _) (ql mC) (JG (.set _)));rw[En] at hb;have W:=G0 (j:=j+2) (W:=best) (w:=lst) V (λc m=>(eJ (hb.mem_iff.mp m)).1) (λq=>tU (lC uC V) (BU V.kn) (List.Perm.eq_nil (q▸hb.symm))) (aq (aD hb.length_eq) (rm ..)) .list;exact hG (W.elim λout e=>⟨out,(⋯:_=bm (aI NN (j+5)) NN Bt [] [("scorefct_id",.str (gL r)),("profile",a6 n ns vs),("committeesize",.int k),("resolute",.bool false),("max_num_of_committees",.none)]).trans (hr _ e.1),e.2.trans hb⟩)
theorem Vl:∀{vs:List (List Nat×Nat)},vs.length=2\/vs.length=3->∃m,(aI NN (j+1)).fn "len" [a6 n ns vs] []=some (.int (m+1:Nat))
 |[a,b],_=>⟨1,acs⟩|[a,b,c],_=>⟨2,Zy⟩|[],h=>absurd h (by decide)|[a],h=>absurd h (by show ¬(1=2\/1=3);decide)|a::b::c::d::l,h=>h.elim nofun nofun
theorem Pz{fs:List (Str×PV)}{fu:Str}(V:gh n k vs)(F:yF (aI NN (j+1)) fs fu):bm (aI NN (j+1)) NN vU [.inst cM fs] (sZ (a6 n ns vs) k fu)=some .none:=(Vl V.many).elim λ_ h=>VX F V.k1 V.kn A' h
theorem U7(V:gh n k vs):pk ((aI NN (j+6)).fn (Ak b) [] [("scorefct_id",.str (gL r)),("profile",a6 n ns vs),("committeesize",.int k),("resolute",.bool false),("max_num_of_committees",.none)]) (λv=>.tup [v,.any]) (yr (rS r) n k vs):=b.rec (A_ V) (Ϝ V)
theorem OO(V:gh n k vs):pk ((aI NN (j+7)).fn "compute_thiele_method" [] (xl (gL r) (a6 n ns vs) k (g8 b))) (λv=>v) (yr (rS r) n k vs):=(U7 (b:=b) V).of λl e=>
 (⋯:_=bm (aI NN (j+6)) NN AP [] (xl (gL r) (a6 n ns vs) k (g8 b))).trans (Wz (b:=b) (aaq (k:=j+5)) ab6 ((show _=bm (aI NN (j+5)) NN vU [.inst cM (rF r)] (sZ (a6 n ns vs) k (g8 b)) by cases r<;>cases b<;>rfl').trans (Pz (j:=j+4) V aa4)) e)
theorem abc(V:gh n k vs):pk ((aI NN (j+8)).fn (cond r "compute_slav" "compute_pav") [a6 n ns vs,.int k] [("algorithm",.str (g8 b))]) (λv=>v) (yr (rS r) n k vs):=by
 cases r with
 |false=>exact(OO (r:=false) (b:=b) V).of λl e=>(⋯:_=bm (aI NN (j+7)) NN Bm [a6 n ns vs,.int k] [("algorithm",.str (g8 b))]).trans (abL e)|true=>exact(OO (r:=true) (b:=b) V).of λl e=>(⋯:_=bm (aI NN (j+7)) NN BF [a6 n ns vs,.int k] [("algorithm",.str (g8 b))]).trans (O_ e)
theorem uK:tc nD/\tc ui:=⟨Ic ⋯,Ic ⋯⟩
theorem acL(V:gh n k vs):pk ((aI NN (j+8)).fn "compute_adams" [a6 n ns vs,.int k] []) (λv=>v) (HB n k vs):=by
 have e1:(aI NN (j+7)).fn "_adams_bruteforce" [a6 n ns vs,.int k,.bool false,.none] []=some (.list ((HB n k vs).map PV.set)):=
  (⋯:_=bm (aI NN (j+6)) NN Au [a6 n ns vs,.int k,.bool false,.none] []).trans (χ (qk (k:=j+3) (by decide) (by decide)) (qk (k:=j+3) (by decide) (by decide)) (V.comb (j:=j+5)) (BU V.kn) (eN V.iY (by decide)) (λc m=>⟨A8 (j:=j+2) V Vr (.tup c) (ql m) (abC (.tup c)),lC uK.2 V c m⟩) (λc m=>⟨A8 (j:=j+2) V afS (.tup c) (ql m) (adi (.tup c)),lC uK.1 V c m⟩) A' λc m=>by
   have a:=ql m;have:=ID (k:=j+4) (nc:=.int n) (.tup c) (li a.up) (V.six a.lt) (.inr ⟨n,rfl,λx m=>jf (a.lt x m)⟩);rw[Fj a.up] at this;exact this)
 have sub:∀c∈dP (λc=>d6 ui c vs) (ci n 0 k),c∈ci n 0 k:=λc m=>(eJ m).1;exact(G0 (j:=j+4) (w:=PV.set) V (λc m=>sub c (eJ m).1) (tU (λc m=>lC uK.1 V c (sub c m)) (tU (lC uK.2 V) (BU V.kn))) (aq (rm ..) (rm ..)) .set).of λl e=>
  (⋯:_=bm (aI NN (j+7)) NN zK [a6 n ns vs,.int k] []).trans (ac3 (aeo (k:=j+6)) (aat (k:=j+6)) ((⋯:_=bm (aI NN (j+6)) NN vU [.inst cM qx] (sZ (a6 n ns vs) k (g8 false))).trans (Pz (j:=j+5) V ac')) e1 e)
end
end
section
variable{q W:Nat->Nat->Int}{rk:Nat->Nat}{ps l:List Nat}{b K S:Nat}{T:Nat->Bool}
section
def fg(q:Nat->Nat->Int):Prop:=∀a j,q a (j+1)<q a j
variable{M M' t t':Nat->Nat}{a c i j:Nat}
theorem fg.Df(h:fg q)(k:i<j):q a j<q a i:=by
 induction k with
 |refl=>exact h a i|step _ ih=>exact yK (h a _) ih
theorem fg.p6(h:fg q)(k:i<=j):q a j<=q a i:=(Nat.eq_or_lt_of_le k).elim (λe=>e▸tB _) λk=>mJ (h.Df k)
def qH(q:Nat->Nat->Int)(rk M:Nat->Nat)(ps:List Nat)(t:Nat->Nat):Prop:=
 ∀a∈ps,∀b∈ps,a≠b->0<t a->t b<M b->q b (t b)<=q a (t a-1)/\(rk b<rk a->q b (t b)<q a (t a-1))
def Ba(q:Nat->Nat->Int)(rk:Nat->Nat)(ps:List Nat)(t:Nat->Nat):Prop:=∀M,qH q rk M ps t
def Dk(rk:Nat->Nat)(ps:List Nat):Prop:=∀a∈ps,∀b∈ps,rk a=rk b->a=b
theorem ML{GE:List Nat}(h:fg q)(inj:Dk rk ps)(hs:∀a∈GE,a∈ps)(F:qH q rk M ps t)(F':qH q rk M' GE t')(ha:a∈GE)(hb:b∈GE)(h1:t' b<t b)(h2:t a<t' a)(ma:t a<M a)(mb:t' b<M' b):False:=by
 have ne:a≠b:=λe=>oD h2 (e▸h1);have x:=F b (hs b hb) a (hs a ha) ne.symm (aQ (cu _) h1) ma;have y:=F' a ha b hb ne (aQ (cu _) h2) mb;have z1:q b (t b-1)<=q b (t' b):=h.p6 (mP h1);have z2:q a (t' a-1)<=q a (t a):=h.p6 (mP h2);rcases TW (rk a) (rk b) with r|r|r
 ·exact iA (ic z1 (ic y.1 z2)) (x.2 r)
 ·exact ne (inj a (hs a ha) b (hs b hb) r)
 ·exact iA x.1 (mH z1 (lG (y.2 r) z2))
noncomputable def su(t:Nat->Nat)(ps:List Nat):Nat:=(ps.map t).sum
theorem lS(h:∀a∈ps,t a<=t' a):su t ps<=su t' ps:=by
 induction ps with
 |nil=>exact bf _|cons c ps ih=>exact B8 (h c (.head _)) (ih λa m=>h a (.tail c m))
theorem Yr(h:su t ps<su t' ps):∃a∈ps,t a<t' a:=zj λn=>gJ (lS λa m=>cZ λk=>n ⟨a,m,k⟩) h
theorem HT(h:∀a∈ps,t a<=t' a)(hb:b∈ps)(k:t b<t' b):su t ps<su t' ps:=by
 induction ps with
 |nil=>exact mN hb
 |cons c ps ih=>
  have g:=lS λa m=>h a (.tail c m);rcases bw hb with rfl|m
  ·exact Nat.add_lt_add_of_lt_of_le k g
  ·exact Nat.add_lt_add_of_le_of_lt (h c (.head _)) (ih (λa m=>h a (.tail c m)) m)
theorem Q1(h:su t ps<=su t' ps)(hb:b∈ps)(k:t' b<t b):∃a∈ps,t a<t' a:=zj λn=>gJ h (HT (λa m=>cZ λk=>n ⟨a,m,k⟩) hb k)
theorem zE(h:∀a∈ps,t a<=t' a)(e:su t ps=su t' ps)(ha:a∈ps):t a=t' a:=mM (h a ha) (cZ λk=>gE (HT h ha k) e)
theorem qO:su (λi=>t i+t' i) ps=su t ps+su t' ps:=by
 induction ps with
 |nil=>rfl|cons c ps ih=>exact(af (t c+t' c+ ·) ih).trans (by rw[fC,TI (t' c),<-fC];rfl)
theorem xA(h:∀a∈ps,t a=t' a):su t ps=su t' ps:=af yJ (pV h)
theorem gy{n:Nat}:su (λ_=>n) ps=n*ps.length:=by
 induction ps with
 |nil=>rfl|cons c ps ih=>exact(af (n+ ·) ih).trans ((gj ..).trans (Nat.mul_succ ..).symm)
theorem H0{P:Nat->Bool}:su t (ps.filter P)=su (λi=>if P i=true then t i else 0) ps:=by
 induction ps with
 |nil=>rfl
 |cons c ps ih=>
  cases h:P c with
  |true=>rw[tD h];exact(af (t c+ ·) ih).trans (af (· +_) (iP h).symm)|false=>rw[u8 (ne_true_of_eq_false h)];exact ih.trans ((f5 _).symm.trans (af (· +_) (iN (ne_true_of_eq_false h)).symm))
theorem Ej(m:a∈ps):t a<=su t ps:=by
 induction ps with
 |nil=>exact mN m|cons c ps ih=>exact(bw m).elim (λe=>e▸cW ..) λm=>aq (ih m) (i7 ..)
theorem aeV(h:fg q)(inj:Dk rk ps)(F:qH q rk M ps t)(F':qH q rk M ps t')(hm:∀a∈ps,t a<=M a)(CV:∀a∈ps,t' a<=M a)(hs:su t ps=su t' ps):∀a∈ps,t a=t' a:=λa ha=>zE (λb hb=>cZ λk=>by
 obtain⟨a,ha,k'⟩:=Q1 (aD hs) hb k;exact ML h inj (λ_ m=>m) F F' ha hb k k' (ba k' (CV a ha)) (ba k (hm b hb))) hs ha
end
section
noncomputable def jE(t M:Nat->Nat)(l:List Nat):List Nat:=l.filter λi=>decide (t i<=M i)
noncomputable def cq(t M:Nat->Nat)(l:List Nat):List Nat:=l.filter λi=>decide (M i<t i)
def rE(bp:List Nat->Nat->Nat->Nat)(M:Nat->Nat):Nat->List Nat->Nat->Nat->Nat
 |0,_,_=>M|n+1,l,K=>if cq (bp l K) M l=[] then λi=>if i∈l then bp l K i else M i else rE bp M n (jE (bp l K) M l) (K-su M (cq (bp l K) M l))
structure lJ(b B:Nat)(l:List Nat)(K:Nat):Prop where
 lo:b*l.length<=K
 one:1<=K
 hi:K<=B
structure H'(q:Nat->Nat->Int)(rk:Nat->Nat)(b K:Nat)(l:List Nat)(t:Nat->Nat):Prop where
 sum:su t l=K
 mw:Ba q rk l t
 ge:∀i∈l,b<=t i
def Bc(q:Nat->Nat->Int)(rk:Nat->Nat)(ps:List Nat)(bp:List Nat->Nat->Nat->Nat)(b B:Nat):Prop:=∀l K,l.Sublist ps->l≠[]->lJ b B l K->H' q rk b K l (bp l K)
variable{M t t':Nat->Nat}{a B c i K₀ n:Nat}{bp:List Nat->Nat->Nat->Nat}
theorem EO{f:Nat->Nat}:su f l=su f (cq t M l)+su f (jE t M l):=by
 refine y5 (xA λa _=>?_) (qO.trans (congr (af HAdd.hAdd H0.symm) H0.symm));by_cases k:M a<t a
 ·rw[iP (dT k),iN λh=>nF k (cC h)];rfl
 ·rw[iN λh=>k (cC h),iP (dT (cZ k)),f5]
theorem HD(s:l.Sublist ps)(nd:ps.Nodup):su (λi=>if i∈l then t i else M i) ps+su M l=su t l+su M ps:=by
 induction s with
 |slnil=>rfl
 | @cons l ps a s ih=>
  have nd:=iS nd;refine((fC ..).trans (congr (af HAdd.hAdd (iN λm=>nd.1 (s.mem m))) (ih nd.2))).trans (TI ..)
 | @cons_cons l ps a s ih=>
  have nd:=iS nd;have e:su (λi=>if i∈a::l then t i else M i) ps=su (λi=>if i∈l then t i else M i) ps:=xA λx m=>ite_congr (propext ⟨λh=>(bw h).resolve_left λe=>nd.1 (e▸m),.tail _⟩) (λ_=>rfl) λ_=>rfl;show(if a∈a::l then t a else M a)+su (λi=>if i∈a::l then t i else M i) ps+(M a+su M l)=t a+su t l+(M a+su M ps);rw[iP (.head _),e,agY,ih nd.2,agY]
theorem H'.next(A:H' q rk b K l t)(G:lJ b B l K)(hc:c∈cq t M l):su M (cq t M l)<K/\lJ b B (jE t M l) (K-su M (cq t M l)):=by
 have le:∀a∈cq t M l,M a<=t a:=λa m=>cy (cC (eJ m).2);have h1:=HT le hc (cC (eJ hc).2);have e:=(A.sum.symm.trans (EO (t:=t) (M:=M)));have h2:su M (cq t M l)<K:=ba h1 (aq (cW ..) (aD e.symm));refine⟨h2,K5 ?_,rh h2,aq (kE ..) G.hi⟩;rw[e,gj];exact B8 (cy h1) (aq (aD gy.symm) (lS λa m=>A.ge a (eJ m).1))
structure xP(q:Nat->Nat->Int)(rk M:Nat->Nat)(ps:List Nat)(K:Nat)(t:Nat->Nat):Prop where
 mw:qH q rk M ps t
 sum:su t ps=K
 le:∀a∈ps,t a<=M a
def Yv(q:Nat->Nat->Int)(rk M:Nat->Nat)(ps:List Nat)(K:Nat)(l:List Nat):Prop:=∀c∈ps,c∉l->0<M c->∀b∈l,∀t,su t l=K->Ba q rk l t->q b (t b)<q c (M c-1)
theorem Vw(h:fg q)(nd:ps.Nodup)(inj:Dk rk ps)(A:Bc q rk ps bp b B):∀{n:Nat} {l:List Nat} {K:Nat},l.length<n->l.Sublist ps->(l≠[]->lJ b B l K)->su M l+K₀=su M ps+K->K<=su M l->Yv q rk M ps K l->xP q rk M ps K₀ (rE bp M n l K):=by
 intro n;induction n with
 |zero=>exact λhn=>absurd hn (y9 _)
 |succ n ih=>
  intro l K hn s hG hK hM inv;show xP q rk M ps K₀ (if cq (bp l K) M l=[] then λi=>if i∈l then bp l K i else M i else rE bp M n (jE (bp l K) M l) (K-su M (cq (bp l K) M l)));by_cases hs:cq (bp l K) M l=[]
  ·rw[iP hs];have le:∀i∈l,bp l K i<=M i:=λi m=>cZ λk=>CC (oV ⟨m,dT k⟩:i∈cq (bp l K) M l) hs;by_cases hl:l=[]
   ·subst hl;have hK0:K=0:=Ub.mp hM;have ex:(λi=>if i∈[] then bp [] K i else M i)=M:=funext λi=>iN eX;rw[ex];exact⟨λa _ b _ _ _ eZ=>absurd eZ (cV _),by rw[hK0] at hK;exact((f5 _).symm.trans hK).symm,λa _=>bf _⟩
   ·have C:=A l K s hl (hG hl);refine⟨λa ha b hb ne h0 eZ=>?_,?_,λa m=>?_⟩
    ·by_cases pb:b∈l
     ·rw[iP pb] at eZ⊢;by_cases pa:a∈l
      ·rw[iP pa] at h0⊢;exact C.mw M a pa b pb ne h0 eZ
      ·rw[iN pa] at h0⊢;have:=inv a ha pa h0 b pb _ C.sum C.mw;exact⟨mJ this,λ_=>this⟩
     ·rw[iN pb] at eZ;exact absurd eZ (cV _)
    ·have e:=HD (t:=bp l K) (M:=M) s nd;rw[C.sum,gj K,<-hK,gj] at e;exact K9 e
    ·by_cases pa:a∈l
     ·exact aq (aD (iP pa)) (le a pa)
     ·exact aD (iN pa)
  ·rw[iN hs];obtain⟨c,l',e⟩:=CB hs;have hc:c∈cq (bp l K) M l:=e▸ .head _;clear e l';have hl:l≠[]:=CC (eJ hc).1;have C:=A l K s hl (hG hl);generalize bp l K=t at*;have N:=C.next (hG hl) hc;have eM:=EO (f:=M) (t:=t) (M:=M) (l:=l);have et:=C.sum.symm.trans (EO (f:=t) (t:=t) (M:=M) (l:=l));have sub:∀a∈jE t M l,a∈l:=λa m=>(eJ m).1;have more:su M (cq t M l)<=su t (cq t M l):=lS λa m=>cy (cC (eJ m).2);refine ih ?_ (u0.trans s) (λ_=>N.2) ?_ ?_ λd hd pd h0 b hb t' s' f'=>?_
   ·refine ba (aha.mpr ⟨c,(eJ hc).1,λk=>?_⟩) (ju hn);exact nF (cC (eJ hc).2) (cC k)
   ·rw[<-Nat.add_sub_assoc (cy N.1),<-hK,eM,fC,F7]
   ·exact Uf.mpr (eM▸hM)
   ·have up:t b<=t' b:=cZ λk=>by
     obtain⟨a,ha,k'⟩:=Q1 (t:=t) (t':=t') (aq (K5 (aq (aD (gj ..)) (aq (mG more _) (aD et.symm)))) (aD s'.symm)) hb k;exact ML h (λa ha b hb=>inj a (s.mem ha) b (s.mem hb)) sub (C.mw λi=>t i+1) (f' λi=>t' i+1) ha hb k k' (i5 _) (i5 _)
    have hq:=h.p6 (a:=b) up;by_cases dl:d∈l
    ·have lt:M d<t d:=om λk=>pd (oV ⟨dl,dT k⟩);have ne:d≠b:=λe=>pd (e▸hb);exact mH (ic hq ((C.mw λi=>t i+1) d dl b (sub b hb) ne (aQ (cu _) lt) (i5 _)).1) (h.Df (agZ h0 lt))
    ·exact mH hq (inv d hd dl h0 b (sub b hb) t C.sum C.mw)
end
section
noncomputable def iW(q:Nat->Nat->Int)(i:Nat):Nat->Int
 |0=>0|c+1=>iW q i c+q i c
noncomputable def sI(f:Nat->Int)(ps:List Nat):Int:=(ps.map f).sum
def kZ(q:Nat->Nat->Int)(ps:List Nat)(x:Nat->Nat):Int:=sI (λi=>iW q i (x i)) ps
def l7(q:Nat->Nat->Int)(M:Nat->Nat)(ps:List Nat)(x:Nat->Nat):Prop:=∀a∈ps,∀b∈ps,a≠b->0<x a->x b<M b->q b (x b)<=q a (x a-1)
variable{M x y:Nat->Nat}{a i n d:Nat}{f g:Nat->Int}{r:Int}
theorem qH.opt(F:qH q rk M ps x):l7 q M ps x:=λa ha b hb n h k=>(F a ha b hb n h k).1
theorem Vv(h:∀a∈ps,f a<=g a):sI f ps<=sI g ps:=by
 induction ps with
 |nil=>exact tB _|cons c ps ih=>exact Gg (h c (.head _)) (ih λa m=>h a (.tail c m))
theorem xD(h:∀a∈ps,f a=g a):sI f ps=sI g ps:=af yJ (pV h)
theorem EU{f:Nat->Nat}:sI (λi=>r*(f i:Int)) ps=r*(su f ps:Int):=by
 induction ps with
 |nil=>exact(TX r).symm|cons c ps ih=>exact(af (r*(f c:Int)+ ·) ih).trans ((La ..).symm.trans (af (r* ·) (w6 ..).symm))
theorem ϥ(h:fg q)(h1:0<x i->r<=q i (x i-1))(h2:x i<y i->q i (x i)<=r):iW q i (y i)+r*(x i:Int)<=iW q i (x i)+r*(y i:Int):=by
 have mul (n:Nat):r*((n+1:Nat):Int)=r*(n:Int)+r:=by rw[w6];exact(La ..).trans (af _ (Kp r))
 generalize y i=n at*;generalize x i=m at*;rcases K7 m n with k|k
 ·obtain⟨d,rfl⟩:=TT k;clear k;induction d with
  |zero=>exact tB _
  |succ d ih=>
   have:=Gg (ih λl=>h2 (KN l)) (ic (h.p6 (cW m d)) (h2 (qX (eE d))));rw[show m+(d+1)=(m+d)+1 from rfl,mul];show iW q i (m+d)+q i (m+d)+r*m<=_;rw[Gh,<-mQ];exact this
 ·obtain⟨d,rfl⟩:=TT k;clear k;induction d with
  |zero=>exact tB _
  |succ d ih=>
   have hr:r<=q i (n+d):=h1 (eE _);have:=Gg (ih (λl=>ic hr (h.p6 (kE ..))) λl=>absurd l (gJ (cW ..))) hr;rw[show n+(d+1)=(n+d)+1 from rfl,mul];show _<=iW q i (n+d)+q i (n+d)+r*n;rw[Gh,<-mQ];exact this
theorem JB{f g:Nat->Int}:sI (λi=>f i+g i) ps=sI f ps+sI g ps:=Mo
theorem W7(h:fg q)(O:l7 q M ps x)(hx:∀a∈ps,x a<=M a)(hy:∀a∈ps,y a<=M a)(hs:su y ps=su x ps):kZ q ps y<=kZ q ps x:=by
 by_cases e:∃b∈ps,x b<M b
 ·obtain⟨b0,hb0,lb0⟩:=e;have mb:∀{b},b∈ps.filter (λi=>decide (x i<M i))↔b∈ps/\x b<M b:=oE.trans (and_congr_right λ_=>decide_eq_true_iff);obtain⟨b,hb,ebl⟩:∃b∈ps.filter (λi=>decide (x i<M i)),∀c∈ps.filter (λi=>decide (x i<M i)),q c (x c)<=q b (x b):=(JD (sc:=λi=>q i (x i)) (m:=q b0 (x b0)) (l:=ps.filter λi=>decide (x i<M i))).elim (λe=>⟨b0,mb.mpr ⟨hb0,lb0⟩,λc m=>e▸sJ.2 c m⟩) λ⟨b,m,e⟩=>⟨b,m,λc mc=>ic (sJ.2 c mc) (oF e.symm)⟩;have hb:=mb.mp hb;have t:sI (λi=>iW q i (y i)+q b (x b)*(x i:Int)) ps<=sI (λi=>iW q i (x i)+q b (x b)*(y i:Int)) ps:=Vv λa ha=>by
   refine ϥ h (λh0=>?_) λl=>ebl a (mb.mpr ⟨ha,ba l (hy a ha)⟩);by_cases k:a=b
   ·exact k▸h.p6 (kE ..)
   ·exact O a ha b hb.1 k h0 hb.2
  rw[JB,JB,EU,EU,hs] at t;exact Int.le_of_add_le_add_right t
 ·have le:∀a∈ps,y a<=x a:=λa m=>aq (hy a m) (cZ λk=>e ⟨a,m,k⟩);exact oF (xD λa m=>af (iW q a) (zE le hs m))
theorem Oc(nd:ps.Nodup)(ha:a∈ps)(h:∀i,i≠a->f i=g i):sI f ps+g a=sI g ps+f a:=by
 induction ps with
 |nil=>exact mN ha
 |cons c ps ih=>
  have nd:=iS nd;show f c+sI f ps+g a=g c+sI g ps+f a;by_cases e:c=a
  ·subst e;rw[xD (f:=f) (g:=g) λi m=>h i λe=>nd.1 (e▸m),Gh,u7 (f c),mQ,u7 (f c),<-mQ]
  ·rw[h c e,mQ,mQ,ih nd.2 ((bw ha).resolve_left (gV e))]
noncomputable def pj(x:Nat->Nat)(a b i:Nat):Nat:=if i=a then x a-1 else if i=b then x b+1 else x i
theorem Qn{F:Nat->Nat->Int}(nd:ps.Nodup)(ha:a∈ps)(hb:b∈ps)(ne:a≠b):sI (λi=>F i (pj x a b i)) ps+(F a (x a)+F b (x b))=sI (λi=>F i (x i)) ps+(F a (x a-1)+F b (x b+1)):=by
 have e1:=Oc (f:=λi=>F i (pj x a b i)) (g:=λi=>if i=a then F a (x a) else F i (pj x a b i)) nd ha λi h=>(iN h).symm;have e2:=Oc (f:=λi=>if i=a then F a (x a) else F i (pj x a b i)) (g:=λi=>F i (x i)) nd hb λi h=>by
  by_cases k:i=a
  ·rw[iP k,k]
  ·rw[iN k];unfold pj;rw[iN k,iN h]
 rw[iP rfl,show pj x a b a=x a-1 from iP rfl] at e1;rw[iN ne.symm,show pj x a b b=x b+1 from(iN ne.symm).trans (iP rfl)] at e2;rw[<-mQ,e1,Gh,e2,Gh,mQ]
theorem aaN(nd:ps.Nodup)(hx:∀a∈ps,x a<=M a)(h:∀y:Nat->Nat,(∀a∈ps,y a<=M a)->su y ps=su x ps->kZ q ps y<=kZ q ps x):l7 q M ps x:=λa ha b hb ne h0 ry=>by
 obtain⟨m,hm⟩:=u6 (fO h0);have e:=Qn (F:=λi n=>iW q i n) (x:=x) nd ha hb ne;have es:=Qn (F:=λ_ n=>(1:Int)*(n:Int)) (x:=x) nd ha hb ne;rw[EU,EU,hm] at es;have l:=h (pj x a b) (λi mi=>?_) (w3.mp ?_)
 ·rw[hm] at e⊢;have e:kZ q ps (pj x a b)+(iW q a m+q a m+iW q b (x b))=kZ q ps x+(iW q a m+(iW q b (x b)+q b (x b))):=e;show q b (x b)<=q a m;lia
 ·unfold pj;by_cases k:i=a
  ·rw[iP k];exact aq (kE ..) (k▸hx i mi)
  ·rw[iN k];by_cases k2:i=b
   ·rw[iP k2];exact k2▸ry
   ·rw[iN k2];exact hx i mi
 ·show((su (pj x a b) ps:Nat):Int)=(su x ps:Nat);lia
end
section
variable{M x g:Nat->Nat}{A B:List Nat}{a:Nat}
theorem ZR(ha:a∈A)(hb:b∉A):(A++B).idxOf a<(A++B).idxOf b:=by
 rw[List.idxOf_append,List.idxOf_append,iP ha,iN hb];exact ba (List.idxOf_lt_length_of_mem ha) (i7 ..)
noncomputable def yg(p:Nat->Bool)(ps:List Nat):List Nat:=ps.filter p++ps.filter λi=> !p i
structure GV(q:Nat->Nat->Int)(M x:Nat->Nat)(a b:Nat):Prop where
 ne:a≠b
 pos:0<x a
 room:x b<M b
 eq:q b (x b)=q a (x a-1)
open Classical in
theorem Vd(h:fg q)(O:l7 q M ps x):∃p:Nat->Bool,qH q (λi=>(yg p ps).idxOf i) M ps x:=by
 have key {a b c:Nat} (ha:a∈ps) (hc:c∈ps) (t:GV q M x a b) (u:GV q M x b c):False:=by
  have s1:q c (x c)<q a (x a-1)->False:=λz=>by
   have:=h.p6 (a:=b) (kE (x b) 1);exact absurd (lG z (oF t.eq.symm)) (iA (u.eq▸this))
  have s2:q b (x b)<q c (x c):=u.eq▸h.Df (ze u.pos Lb);by_cases e:a=c
  ·exact s1 (e▸h.Df (ze t.pos Lb))
  ·exact iA (O a ha c hc e t.pos u.room) (t.eq▸s2)
 refine⟨λa=>decide (∃b∈ps,GV q M x a b),λa ha b hb ne h0 hm=>⟨O a ha b hb ne h0 hm,λr=>?_⟩⟩;refine Ue.mpr ⟨O a ha b hb ne h0 hm,λe=>oD r (ZR (oV ⟨ha,dT ⟨b,hb,ne,h0,hm,e⟩⟩) λm=>?_)⟩;obtain⟨c,hc,u⟩:=cC (eJ m).2;exact key ha hc ⟨ne,h0,hm,e⟩ u
noncomputable def Be:List Nat->List Nat->Bool
 |a::l,b::m=>decide (a<b)||(decide (a=b)&&Be l m)|_,_=>true
theorem Xc(h:fg q)(F:qH q rk M ps g)(O:l7 q M ps x)(hg:∀a∈ps,g a<=M a)(hx:∀a∈ps,x a<=M a):∀{l:List Nat},l.Pairwise (λa b=>rk a<rk b)->(∀a∈l,a∈ps)->su x l=su g l->Be (l.map x) (l.map g)=true:=by
 intro l;induction l with
 |nil=>exact λ_ _ _=>rfl
 |cons a l ih=>
  intro hp hl hs;have hp:=lO hp;have hs:x a+su x l=g a+su g l:=hs;show(decide (x a<g a)||(decide (x a=g a)&&Be (l.map x) (l.map g)))=true;rcases TW (x a) (g a) with k|k|k
  ·rw[dT k];rfl
  ·rw[k] at hs;rw[dF (gJ (aD k.symm)),dT k,ih hp.2 (λb m=>hl b (.tail _ m)) (K9 hs)];rfl
  ·exfalso;obtain⟨b,hb,k'⟩:=Yr (ps:=l) (t:=x) (t':=g) (by lia);have ha:=hl a (.head _);have ry:=hl b (.tail _ hb);have ne:a≠b:=λe=>oD k (e▸k');have z1:=(F b ry a ha ne.symm (aQ (cu _) k') (ba k (hx a ha))).2 (hp.1 b hb);have z2:=O a ha b ry ne (aQ (cu _) k) (ba k' (hg b ry));exact iA z2 (mH (h.p6 (mP k)) (lG z1 (h.p6 (mP k'))))
end
section
noncomputable def bG(W:Nat->Nat->Int)(S:Nat)(m:Int)(i:Nat):Nat:=((ax S).filter λj=>decide (m<W i j)).length
noncomputable def bF(W:Nat->Nat->Int)(S:Nat)(m:Int)(i:Nat):Bool:=(ax S).any λj=>decide (W i j=m)
noncomputable def l9(T:Nat->Bool)(l:List Nat)(r:Nat):List Nat:=(l.filter T).take r
def fv(W:Nat->Nat->Int)(S:Nat)(m:Int)(l:List Nat)(K i:Nat):Nat:=bG W S m i+if i∈l9 (bF W S m) l (K-su (bG W S m) l) then 1 else 0
structure iM(W:Nat->Nat->Int)(S:Nat)(m:Int)(l:List Nat)(K:Nat):Prop where
 lo:su (bG W S m) l<K
 hi:K<=su (bG W S m) l+(l.filter (bF W S m)).length
 le:K<=S
variable{i j a r:Nat}{m:Int}{p:Nat->Bool}
theorem MY(h:∀j,p (j+1)=true->p j=true):(ax S).filter p=ax ((ax S).filter p).length/\((ax S).filter p).length<=S:=by
 induction S with
 |zero=>exact⟨rfl,bf _⟩
 |succ S ih=>
  rw[CE,pW];cases e:p S with
  |false=>rw[u8 (ne_true_of_eq_false e),CF,gO];exact⟨ih.1,y6 ih.2⟩
  |true=>
   have down:∀d,∀j,j+d=S->p j=true:=λd=>by
    induction d with
    |zero=>exact λj k=>(af p k).trans e|succ d ih=>exact λj k=>h j (ih (j+1) ((wN ..).trans k))
   rw[Go.mpr λj m=>down (S-j) j (iK (cy (eL m))),tD e,CF,da,cF];exact⟨CE.symm,bf _⟩
theorem uf(h:fg W)(hj:j<S):m<W i j↔j<bG W S m i:=by
 have z:=(MY (S:=S) (p:=λj=>decide (m<W i j)) λj k=>dT (yK (cC k) (h i j))).1;refine KW ⟨λk=>?_,λk=>?_⟩ Lc
 ·exact z▸oV ⟨dH hj,dT k⟩
 ·exact cC (eJ (z▸k:j∈(ax S).filter λj=>decide (m<W i j))).2
theorem PD(h:fg W):bG W S m i<=S:=(MY (S:=S) (p:=λj=>decide (m<W i j)) λj k=>dT (yK (cC k) (h i j))).2
theorem QE(h:i∈l9 T l r):i∈l/\T i=true:=eJ (Ld h)
theorem adO(hp:l.Pairwise λa b=>rk a<rk b)(ha:a∈l9 T l r)(hb:b∈l)(tb:T b=true)(eZ:rk b<rk a):b∈l9 T l r:=by
 have hp:=hp.filter T;have mb:b∈l.filter T:=oV ⟨hb,tb⟩;rw[<-TC r (l.filter T)] at hp mb;exact(mf mb).elim (λh=>h) λh=>absurd eZ (oD ((Gq.mp hp).2.2 a ha b h))
theorem Wj(nd:l.Nodup):su (λi=>if i∈l9 T l r then 1 else 0) l=(l9 T l r).length:=by
 have:=HD (t:=λ_=>1) (M:=λ_=>0) ((SM r _).trans (u0 (p:=T) (l:=l))) nd;rw[gy,gy,gy,Ca,Ca,zi] at this;exact this
theorem NA(L:iM W S m l K)(nd:l.Nodup):su (fv W S m l K) l=K:=by
 refine qO.trans ?_;rw[Wj nd,show(l9 (bF W S m) l (K-su (bG W S m) l)).length=K-su (bG W S m) l from FS.trans (wW (agW (aq L.hi (aD (gj ..)))))];exact iK (cy L.lo)
theorem Do(L:iM W S m l K)(hi:i∈l):bG W S m i<S:=aQ (Ej hi) (ba L.lo L.le)
theorem EQ(h:fg W)(hs:bG W S m i<S):W i (bG W S m i)<=m/\(bF W S m i=true↔W i (bG W S m i)=m):=by
 have le:=jK λk=>cV _ ((uf h hs).mp k);refine⟨le,λt=>?_,λe=>Lq.mpr ⟨_,dH hs,dT e⟩⟩;obtain⟨j,hj,e⟩:=Lq.mp t;have e:W i j=m:=cC e;have hj:¬j<bG W S m i:=λk=>CD m (lG ((uf h (eL hj)).mpr k) (oF e));exact zh le (ic (oF e.symm) (h.p6 (cZ hj)))
theorem ϡ{t:Nat->Nat}(ne:a≠b)(ha:a∈l)(hb:b∈l):t a+t b<=su t l:=by
 induction l with
 |nil=>exact mN ha
 |cons c l ih=>
  rcases bw ha with rfl|ma
  ·exact i3 (Ej ((bw hb).resolve_left ne.symm)) _
  ·rcases bw hb with rfl|mb
   ·exact aq (aD (gj ..)) (i3 (Ej ma) (t b))
   ·exact aq (ih ma mb) (i7 ..)
theorem θ(hW:∀a b i j,i<S->j<S->(W a i<=W b j↔q a i<=q b j))(h:fg W)(L:iM W S m l K)(nd:l.Nodup)(hp:l.Pairwise λa b=>rk a<rk b):Ba q rk l (fv W S m l K):=λ_ a ha b hb ne h0 _=>by
 have ca:=Do L ha;have cb:=Do L hb;have na:=EQ h ca;have nb:=EQ h cb;have sa:fv W S m l K a-1<S:=by
  refine aQ ?_ ca;unfold fv;by_cases k:a∈l9 (bF W S m) l (K-su (bG W S m) l)
  ·rw[iP k];exact bf _
  ·rw[iN k];exact kE ..
 have la:m<=W a (fv W S m l K a-1)/\(W a (fv W S m l K a-1)=m->a∈l9 (bF W S m) l (K-su (bG W S m) l)):=by
  unfold fv at h0⊢;by_cases k:a∈l9 (bF W S m) l (K-su (bG W S m) l)
  ·rw[iP k,wY];exact⟨oF (na.2.mp (QE k).2).symm,λ_=>k⟩
  ·rw[iN k] at h0⊢;have:=(uf h (m:=m) (i:=a) (aQ (kE ..) ca)).mpr (ze h0 Lb);exact⟨mJ this,λe=>absurd (e▸this) (CD _)⟩
 have lb:W b (fv W S m l K b)<=m/\(W b (fv W S m l K b)=m->bF W S m b=true/\b∉l9 (bF W S m) l (K-su (bG W S m) l)):=by
  unfold fv;by_cases k:b∈l9 (bF W S m) l (K-su (bG W S m) l)
  ·rw[iP k];have:=h b (bG W S m b);rw[nb.2.mp (QE k).2] at this;exact⟨mJ this,λe=>absurd (e▸this) (CD _)⟩
  ·rw[iN k];exact⟨nb.1,λe=>⟨nb.2.mpr e,k⟩⟩
 have lt:rk b<rk a->W b (fv W S m l K b)<W a (fv W S m l K a-1):=λr=>Ue.mpr ⟨ic lb.1 la.1,λe=>by
  have t:=lb.2 (zh lb.1 (e▸la.1));exact t.2 (adO hp (la.2 (zh (e▸lb.1) la.1)) hb t.1 r)⟩
 have sb:fv W S m l K b<S:=ba (TU h0) (aq (ϡ ne ha hb) (aq (aD (NA L nd)) L.le));exact⟨(hW b a _ _ sb sa).mp (ic lb.1 la.1),λr=>zg.mp λz=>iA ((hW a b _ _ sa sb).mpr z) (lt r)⟩
end
section
variable{i r:Nat}{m:Int}{fs:List Int}
noncomputable def qu(W:Nat->Nat->Int)(S:Nat)(l:List Nat):List Int:=l.flatMap λi=>(ax S).map (W i)
theorem Sl:((qu W S l).filter λw=>decide (m<w)).length=su (bG W S m) l:=by
 induction l with
 |nil=>rfl
 |cons c l ih=>
  show(((ax S).map (W c)++qu W S l).filter λw=>decide (m<w)).length=bG W S m c+su (bG W S m) l;rw[pW,da,ih,Lf,bi];rfl
theorem Er:(qu W S l).length=S*l.length:=by
 induction l with
 |nil=>rfl
 |cons c l ih=>
  show((ax S).map (W c)++qu W S l).length=_;rw[da,ih,bi,cF,gj];rfl
theorem Τ(h:fg W):bG W S (m-1) i<=bG W S m i+if bF W S m i=true then 1 else 0:=cZ λk=>by
 have z:∀j,j<bG W S (m-1) i->m<=W i j:=λj hj=>Int.le_of_sub_one_lt ((uf h (ba hj (PD h))).mpr hj);have c:=aQ (cW ..) k;have cS:=ba c (PD h);have a:=EQ h cS;cases t:bF W S m i with
 |true=>
  rw[t,iP rfl] at k;exact cV _ ((uf h cS).mp (mH (z _ k) (h i _)))
 |false=>exact dy (t.symm.trans (a.2.mpr (zh a.1 (z _ c))))
theorem MS:su (λi=>if T i=true then 1 else 0) l=(l.filter T).length:=by rw[<-H0,gy,zi]
theorem acN(h:fg W)(hp:fs.Perm (qu W S l))(hs:fs.Pairwise (· <=·))(h0:0<K)(hl:l≠[])(hK:K<=S)(hm:fs[fs.length-K]?=some m):iM W S m l K:=by
 obtain⟨eZ,hm⟩:=zq.mp hm;have e:fs.take (fs.length-K)++m::fs.drop (fs.length-K+1)=fs:=by rw[<-hm,<-Cg eZ,TC]
 have ld:(fs.drop (fs.length-K+1)).length+1=K:=by
  rw[FT,<-F4,TJ (aq hK (aq (TY S (ahb.mpr hl)) (aD (hp.length_eq.trans Er).symm))),F0 h0]
 generalize fs.take (fs.length-K)=A at e;generalize fs.drop (fs.length-K+1)=D at e ld;subst e;have hs:=Gq.mp hs;have hd:=lO hs.2.1;have c1:A.filter (λw=>decide (m<w))=[]:=Gp.mpr λw k e=>iA (hs.2.2 w k m (.head _)) (cC e);have g1:=(hp.filter λw=>decide (m<w)).length_eq.trans Sl;have g2:=(hp.filter λw=>decide (m-1<w)).length_eq.trans Sl;rw[pW,c1,K6,show(m::D).filter (λw=>decide (m<w))=D.filter (λw=>decide (m<w)) from u8 (ne_true_of_eq_false (dF (CD m)))] at g1;rw[pW,da,Go.mpr λw k=>dT (lG (Int.sub_lt_self m Int.one_pos) ((bw k).elim (λe=>oF e.symm) (hd.1 w)))] at g2;refine⟨?_,?_,hK⟩
 ·rw[<-g1,<-ld];exact kA (rm ..)
 ·rw[<-MS,<-qO,<-ld];exact aq (aq (i7 ..) (aD g2)) (lS λa _=>Τ h)
def wi(W:Nat->Nat->Int)(S:Nat)(m:Int)(l:List Nat)(K:Nat):Bool:=decide (K<su (bG W S m) l+(l.filter (bF W S m)).length)
theorem IH{f:Nat->Nat}:su f l.reverse=su f l:=((Gc l).map f).sum_nat
theorem r_(L:iM W S m l K)(nd:l.Nodup):wi W S m l K=true↔∃i∈l,fv W S m l K i≠fv W S m l.reverse K i:=by
 have hr:0<K-su (bG W S m) l:=rh L.lo;have hz:K-su (bG W S m) l<=(l.filter (bF W S m)).length:=Uf.mpr L.hi;have e:wi W S m l K=decide (K-su (bG W S m) l<(l.filter (bF W S m)).length):=fA (TZ (cy L.lo)).symm;rw[e,decide_eq_true_iff];unfold fv l9;rw[IH,List.filter_reverse];have mem:∀{i},i∈l.filter (bF W S m)->i∈l:=λh=>(eJ h).1;have nd:=nd.filter (bF W S m);generalize K-su (bG W S m) l=r at*;generalize l.filter (bF W S m)=F at*;constructor
 ·intro h;cases F with
  |nil=>exact absurd h (y9 _)
  |cons x F=>
   have x1:x∈(x::F).take r:=by
    cases r with
    |zero=>exact absurd hr (cV _)|succ r=>exact .head _
   have x2:x∉(x::F).reverse.take r:=λk=>by
    rw[List.reverse_cons,ag0 (aq (ju h) (aD T1.symm))] at k;exact(iS nd).1 (T2.mp (Ld k))
   exact⟨x,mem (.head _),λk=>by rw[iP x1,iN x2] at k;exact rg 0 (K9 k)⟩
 ·rintro⟨i,_,ne⟩;refine pT hz λe=>ne ?_;rw[zk (aD e.symm),zk (aq (aD T1) (aD e.symm)),ite_congr (propext T2) (λ_=>rfl) λ_=>rfl]
end
end
section
variable{j:Nat}{v t:Nat->Nat}{O:aK}{l:List Nat}{R:List PV}
section
noncomputable def c9(c:Bool)(j:Nat):Nat:=cond c (2*j+1) (j+1)
def dN(c:Bool)(K:Nat):Nat:=((ax K).map (c9 c)).foldl (· * ·) 1
def Wd(c:Bool)(K:Nat)(v:Nat->Nat)(i j:Nat):Int:=if j<K then((v i*(dN c K/c9 c j):Nat):Int) else-((j:Int)+1)
theorem ZI:[false,true].all (λc=>(ax 8).all λK=>decide (dN c K<d7)&&(ax K).all λj=>decide (dN c K/c9 c j*c9 c j=dN c K)&&decide (0<dN c K/c9 c j)&&(decide (K<=j+1)||decide (dN c K/c9 c (j+1)<dN c K/c9 c j)))=true:=⋯
variable{c:Bool}{K i a b:Nat}
theorem Ag(hK:K<8):dN c K<d7/\∀j,j<K->dN c K/c9 c j*c9 c j=dN c K/\0<dN c K/c9 c j/\(j+1<K->dN c K/c9 c (j+1)<dN c K/c9 c j):=by
 have h:=aX (b7 (b7 ZI c (by cases c<;>decide)) K (dH hK));refine⟨cC h.1,λj hj=>?_⟩;have h:=aX (b7 h.2 j (dH hj));have g:=aX h.1;exact⟨cC g.1,cC g.2,λq=>(mA h.2).elim (λh=>absurd (cC h) (nF q)) cC⟩
theorem C9:0<c9 c j:=by cases c<;>exact eE _
theorem vG(h:j<K):Wd c K v i j=((v i*(dN c K/c9 c j):Nat):Int):=iP h
theorem De(hK:K<8)(hv:∀i,1<=v i):fg (Wd c K v):=λa j=>by
 by_cases h:j+1<K
 ·rw[vG h,vG (Nat.lt_of_succ_lt h)];exact jf (Nat.mul_lt_mul_of_pos_left (((Ag hK).2 j (Nat.lt_of_succ_lt h)).2.2 h) (hv a))
 ·have n:((j+1:Nat):Int)=(j:Int)+1:=w6 j 1;rw[show Wd c K v a (j+1)= -(((j+1:Nat):Int)+1) from iN h,n];by_cases h2:j<K
  ·rw[vG h2];exact lG (T3 (ag1 (K8 (fP j) (by decide)) (by decide))) (fP _)
  ·rw[show Wd c K v a j= -((j:Int)+1) from iN h2];exact Int.neg_lt_neg (Int.lt_add_of_pos_right _ (by decide))
theorem QO(hK:K<8)(hi:i<K)(hj:j<K):Wd c K v a i<=Wd c K v b j↔v a*c9 c j<=v b*c9 c i:=by
 rw[vG hi,vG hj,T4];have x:=(Ag (c:=c) hK).2 i hi;have y:=(Ag (c:=c) hK).2 j hj;have e1:v a*(dN c K/c9 c i)*(c9 c i*c9 c j)=dN c K*(v a*c9 c j):=by rw[Lg,<-Lg (dN c K/c9 c i),x.1,Nat.mul_left_comm]
 have e2:v b*(dN c K/c9 c j)*(c9 c i*c9 c j)=dN c K*(v b*c9 c i):=by rw[Nat.mul_comm (c9 c i),Lg,<-Lg (dN c K/c9 c j),y.1,Nat.mul_left_comm]
 have p:0<dN c K:=x.1▸TG x.2.1 C9;rw[<-Nat.mul_le_mul_right_iff (TG (C9 (c:=c) (j:=i)) (C9 (c:=c) (j:=j))),e1,e2,Nat.mul_le_mul_left_iff p]
def iy(c:Bool)(K:Nat)(v:Nat->Nat)(i:Nat):List Int:=(ax K).map (Wd c K v i)
end
section
structure DX where
 l:List Nat
 v:Nat->Nat
 K:Nat
 bM:Str
 ta:Bool
 c:Bool
 b:Nat
def DX.W(X:DX):Nat->Nat->Int:=Wd X.c X.K X.v
noncomputable def DX.vs(X:DX):List PV:=X.l.map λi=>.int (X.v i)
noncomputable def cL(l:List Int):List PV:=l.map PV.int
def bx:aN:=xU.scope.names
def d4(i:Nat):aH:=aJ xU.body i
noncomputable def dG:List Str:=["representatives"]
noncomputable def bN(X:DX)(R:AV)(r:ar):ar:=("votes",.pv (.list X.vs))::("seats",.pv (.int X.K))::("method",.pv (.str X.bM))::("tiesallowed",.pv (.bool X.ta))::("representatives",R)::r
noncomputable def aO(l:List Nat)(t:Nat->Nat):List PV:=l.map λi=>.int (t i)
def vQ(c:Bool)(j:Nat):PV:=.tup [.int (c9 c j:Nat),.int 1]
def sW(c:Bool)(K:Nat):List PV:=(ax K).map (vQ c)
variable{X:DX}{n:Nat}
theorem Yl(h:X.l.length<=100):aw O NN bx dG [("votes",.pv (.list X.vs)),("seats",.pv (.int X.K)),("method",.pv (.str X.bM)),("tiesallowed",.pv (.bool X.ta))] (d4 0)=nx (bN X (.own (aO X.l λ_=>0)) []):=by
 refine bg (n:=999999) (K:=bI bx "representatives" true) (p:=.list (aO X.l λ_=>0)) ⋯ ((⋯:_=fV O .Mult (.list [.int 0]) (.int (X.vs.length:Nat))).trans ((HE (aq (aD (bi _)) h)).trans (af (λl=>some (PV.list l)) ?_))) ⋯;unfold dQ aO;rw[bi,List.map_const',List.map_const',cF];rfl
def tX(O:aK)(X:DX):Prop:=aw O NN bx dG (bN X (.own (aO X.l λ_=>0)) []) (d4 1)=nx (bN X (.own (aO X.l λ_=>X.b)) [("divisors",.pv (.list (sW X.c X.K)))])
def Od:aH:=aJ (sB 0 (d4 1)) 0
def B1:aH:=aJ (sB 1 (d4 1)) 0
theorem GU{e:Expr}(hf:lx (gT e) []=true)(he:∀j:Nat,((fT (gY (gS e).names) (gT e) (.int j) []).bind λfR=>(pZ ((ip n O).t (gS e).names fR) false (gI e)).bind λok=>if ok=true then rH (ip n O) (gS e).names (bR 0 e) (gR e) fR else some [])=some [vQ X.c j])(hK:X.K<8):((f9 0 X.K).bind λv=>over v (c8 O n e []))=some (.list (sW X.c X.K)):=
 have z:X.K<=az:=aq (cy hK) (by decide)
 aG (nO z) ((sR _).trans (ni (v:=λn:Nat=>.int n) (w:=vQ X.c) hf (λj _=>he j) (aq (aD cF) z)))
theorem PX(hK:X.K<8)(hb:X.b=0)(hc:X.c=false)(hm:X.bM="dhondt"\/X.bM="jefferson"):tX O X:=by
 unfold tX;refine cN (n:=999999) (b:=true) ⋯ (by obtain⟨l,v,K,bM,ta,c,b⟩:=X;rcases hm with rfl|rfl<;>rfl') (aF (st:=Od) (bg (n:=999998) (K:=bI bx "divisors" false) ⋯ ((show _=(f9 0 X.K).bind λv=>over v (c8 O 999997 (sE Od) []) by rfl').trans (GU ⋯ (λj=>by rw[hc];rfl') hK)) (by rw[hb];rfl')) rfl)
theorem PJ(hK:X.K<8)(hb:X.b=0)(hc:X.c=true)(hm:X.bM="saintelague"\/X.bM="webster"):tX O X:=by
 unfold tX;refine cN (n:=999999) (b:=false) ⋯ (by obtain⟨l,v,K,bM,ta,c,b⟩:=X;rcases hm with rfl|rfl<;>rfl') (aF (st:=B1) (cN (n:=999998) (b:=true) ⋯ (by obtain⟨l,v,K,bM,ta,c,b⟩:=X;rcases hm with rfl|rfl<;>rfl') (aF (st:=aJ (sB 0 B1) 0) (bg (n:=999997) (K:=bI bx "divisors" false) ⋯ ((show _=(f9 0 X.K).bind λv=>over v (c8 O 999996 (sE (aJ (sB 0 B1) 0)) []) by rfl').trans (GU ⋯ (λj=>(show _=((((fw .Mult 2 j).bind λx=>fV O .Add x (.int 1)).bind λv=>some [v,.int 1]).bind (oZ .tup)).map λx=>[x] by rfl').trans (by rw[hc,o9 (.inr (by decide))];rfl')) hK)) (by rw[hb];rfl')) rfl)) rfl)
def Qi:aH:=aJ (sB 1 B1) 0
def Mn:aH:=aJ (sB 1 Qi) 0
def N5:aH:=aJ (sB 1 Mn) 0
def BS:aH:=aJ (sB 0 N5) 0
theorem Z3(hK:X.K<8)(hb:X.b=1)(hc:X.c=false)(hm:X.bM="adams")(hl:X.l.length<=X.K)(hv:∀i,1<=X.v i):tX O X:=by
 obtain⟨l,v,K,bM,ta,c,b⟩:=X;obtain rfl:bM="adams":=hm;obtain rfl:b=1:=hb;obtain rfl:c=false:=hc;unfold tX;refine cN (n:=999999) (b:=false) ⋯ ⋯ (aF (st:=B1) (cN (n:=999998) (b:=false) ⋯ ⋯ (aF (st:=Qi) (cN (n:=999997) (b:=false) ⋯ ⋯ (aF (st:=Mn) (cN (n:=999996) (b:=false) ⋯ ⋯ (aF (st:=N5) (cN (n:=999995) (b:=true) ⋯ ⋯ (aF (st:=BS) (cN (n:=999994) (b:=false) ⋯ ?_ ?_) rfl)) rfl)) rfl)) rfl)) rfl)
 ·exact(⋯:_=some (decide ((K:Int)<((DX.vs ⟨l,v,K,"adams",ta,false,1⟩).length:Nat)))).trans (af some (dF (iA (pz (aq (aD (bi _)) hl)))))
 ·refine(show _=aS (aw O 999994 bx dG) [aJ (sB 1 BS) 0,aJ (sB 1 BS) 1] (bN ⟨l,v,K,"adams",ta,false,1⟩ (.own (aO l λ_=>0)) []) by rfl').trans (aF (bg (n:=999993) (K:=bI bx "representatives" true) (p:=.list (aO l λ_=>1)) ⋯ ((show _=c8 O 999992 (sE (aJ (sB 1 BS) 0)) [] (l.map λi=>.int (v i)) by rfl').trans (ni ⋯ (λi _=>(show _=(if decide ((0:Int)<(v i:Nat))=true then some (PV.int (1:Nat)) else some (PV.int 0)).map λx=>[x] by rfl').trans (af (eP _) (iP (dT (jf (hv i):(0:Int)<(v i:Nat)))))) (aq (aq hl (cy hK)) (by decide)))) (show _=nx (bN ⟨l,v,K,"adams",ta,false,1⟩ (.own (aO l λ_=>1)) []) by rfl')) (aF (bg (n:=999993) (K:=bI bx "divisors" false) ⋯ ((show _=(f9 0 K).bind λv=>over v (c8 O 999992 (sE (aJ (sB 1 BS) 1)) []) by rfl').trans (GU (X:=⟨l,v,K,"adams",ta,false,1⟩) ⋯ (λj=>⋯) hK)) ⋯) rfl))
end
section
variable{X:DX}{n i m:Nat}{fs:List Int}{w:Int}
def hX(i:Nat):aH:=aJ (sB 0 (d4 2)) i
def oX(X:DX)(x:Nat)(d:Option PV)(r:ar):ar:=("divisors",.pv (.list (sW X.c X.K)))::("common",.pv (.int x))::d.elim r λd=>("d",.pv d)::r
theorem NJ(h:j<8):((c9 X.c j:Nat):Int).natAbs<d7:=by
 refine aQ (?_:c9 X.c j<=2*8+1) (by decide);cases X.c
 ·exact aq h (by decide)
 ·exact yP (Kj 2 (cy h))
theorem aa1:∀{js:List Nat} {x:Nat} {d:Option PV},(∀j∈js,j<8)->∃d',dX (aS (aw O 999998 bx dG) (sB 0 (hX 1))) bx (sT (hX 1)) (js.map (vQ X.c)) (bN X (.own R) (oX X x d []))=nx (bN X (.own R) (oX X ((js.map (c9 X.c)).foldl (· * ·) x) d' [])):=by
 intro js;induction js with
 |nil=>exact λ{x d} _=>⟨d,rfl⟩
 |cons j js ih=>
  intro x d h;obtain⟨d',e⟩:=ih (x:=x*c9 X.c j) (d:=some (vQ X.c j)) λj m=>h j (.tail _ m);exact⟨d',ik (σ₁:=bN X (.own R) (oX X x (some (vQ X.c j)) [])) (by cases d<;>rfl') (aF (bg (n:=999997) (K:=bI bx "common" false) ⋯ ((⋯:_=fw .Mult x (c9 X.c j:Nat)).trans (o9 (.inl (NJ (h j (.head _)))))) ⋯) rfl) e⟩
def BR:aH:=aJ (sB 1 (hX 2)) 0
def kj(X:DX):List PV:=X.l.map λi=>.list (cL (iy X.c X.K X.v i))
theorem aby(hK:X.K<8)(hj:j<X.K):fw .FloorDiv ((X.v i:Int)*1*(dN X.c X.K:Nat)) (c9 X.c j:Nat)=some (.int (X.W i j)):=by
 have f:=(Ag (c:=X.c) hK).2 j hj;have p:=C9 (c:=X.c) (j:=j);have p':((c9 X.c j:Nat):Int)≠0:=TD (zt.mpr p);rw[I4 ⟨p',NJ (eN hj hK)⟩,show X.W i j=_ from vG hj,Kp,<-f.1,Nat.mul_div_cancel _ p,Fw _ (fP _)];exact af (λi=>some (PV.int i)) (by rw[T5,T5,<-Int.mul_assoc,Int.mul_ediv_cancel _ p'])
theorem af4(hK:X.K<8):c8 O 999995 (bR 0 (sE BR)) [("common",.int (dN X.c X.K:Nat)),("p",.int (X.v i))] (sW X.c X.K)=some (.list (cL (iy X.c X.K X.v i))):=by
 have:=ni (O:=O) (n:=999995) (e:=bR 0 (sE BR)) (ρ:=[("common",.int (dN X.c X.K:Nat)),("p",.int (X.v i))]) (v:=vQ X.c) (w:=λj=>.int (X.W i j)) (l:=ax X.K) ⋯ (λj m=>(show _=((fw .Mult ((X.v i:Int)*1) (dN X.c X.K:Nat)).bind λx=>fV O .FloorDiv x (.int (c9 X.c j:Nat))).map λx=>[x] by rfl').trans (af (eP λx=>[x]) (aG (o9 (.inl (show((dN X.c X.K:Nat):Int).natAbs<d7 from(Ag (c:=X.c) hK).1))) (aby hK (eL m)):_=some (PV.int (X.W _ j))))) (aq (aD cF) (aq (cy hK) (by decide)));refine this.trans (af (λl=>some (PV.list l)) ?_);unfold cL iy;rw[jt];rfl
def PN(X:DX)(d:Option PV)(r:ar):ar:=oX X (dN X.c X.K) d (("weights",.pv (.list (kj X)))::r)
theorem T_{d:Option PV}(hK:X.K<8)(hl:X.l.length<=100)(hn:fF O 999998 bx (bB (bN X (.own R) (oX X (dN X.c X.K) d []))) (sE (hX 2))=some false):aw O 999999 bx dG (bN X (.own R) (oX X (dN X.c X.K) d [])) (hX 2)=nx (bN X (.own R) (PN X d [])):=
 cN (n:=999998) (b:=false) ⋯ hn (aF (st:=BR) (bg (n:=999997) (K:=bI bx "weights" false) (p:=.list (kj X)) ⋯ ((show _=c8 O 999996 (sE BR) [("divisors",.list (sW X.c X.K)),("common",.int (dN X.c X.K:Nat))] X.vs by cases d<;>rfl').trans (ni ⋯ (λi _=>(show _=(c8 O 999995 (bR 0 (sE BR)) [("common",.int (dN X.c X.K:Nat)),("p",.int (X.v i))] (sW X.c X.K)).map λx=>[x] by rfl').trans (af (eP λx=>[x]) (af4 hK))) (aq hl (by decide)))) (by cases d<;>rfl')) rfl)
def nW:Expr:=bR 0 (sE (hX 3))
theorem ω(hK:X.K<8)(hl:X.l.length<=3):c8 O 999996 nW [] (kj X)=some (.list (cL (qu X.W X.K X.l))):=by
 have in_ (i:Nat):qA (rH (ip 999996 O) (gS nW).names (bR 0 nW) []) ((ip 999996 O).t (gS nW).names) (gS nW).names ((gR nW).getD 0 ⟨mq,mq,[],0⟩).target [] [("l",.list (cL (iy X.c X.K X.v i)))] (cL (iy X.c X.K X.v i))=some (cL (iy X.c X.K X.v i)):=
  (GR (v:=PV.int) (f:=λw=>[PV.int w]) ⋯ λw _=>⋯).trans (af some List.map_eq_flatMap.symm)
 refine aG ((GR (v:=λi=>PV.list (cL (iy X.c X.K X.v i))) (f:=λi=>cL (iy X.c X.K X.v i)) ⋯ λi _=>(⋯:_=qA (rH (ip 999996 O) (gS nW).names (bR 0 nW) []) ((ip 999996 O).t (gS nW).names) (gS nW).names ((gR nW).getD 0 ⟨mq,mq,[],0⟩).target [] [("l",.list (cL (iy X.c X.K X.v i)))] (cL (iy X.c X.K X.v i))).trans (in_ i)).trans (af some List.map_flatMap.symm)) (iP ?_);show(cL (qu X.W X.K X.l)).length<=az;rw[show(cL (qu X.W X.K X.l)).length=X.K*X.l.length from(bi _).trans Er];exact aq (Cb (cy hK) hl) (by decide)
theorem aa5{nm:aN}{l:List Int}(hz:l.length<64):∃out:List Int,eC O nm (cL l) []=some (.list (cL out))/\out.Perm l/\out.Pairwise (· <=·):=by
 obtain⟨out,e,p,s⟩:=Bh (O:=O) (nm:=nm) (v:=PV.int) (le:=λa b=>decide (a<b)) (l:=l) (k:=1) rfl (λ_=>rfl) (λa _ b _=>rfl) (λa _ b _ x=>dF (TQ (cC x))) (λa _ b _ c _ x y=>dF (iA (ic (jK (iX x)) (jK (iX y))))) hz;exact⟨out,e,p,s.imp λq=>jK (iX q)⟩
def E3(X:DX)(d:Option PV)(fs:List Int)(r:ar):ar:=oX X (dN X.c X.K) d (("weights",.pv (.list (kj X)))::("flatweights",.pv (.list (cL fs)))::r)
theorem ae7{d:Option PV}(hK:X.K<8)(hl:X.l.length<=3):∃fs:List Int,fs.Perm (qu X.W X.K X.l)/\fs.Pairwise (· <=·)/\aw O 999999 bx dG (bN X (.own R) (PN X d [])) (hX 3)=nx (bN X (.own R) (E3 X d fs [])):=by
 obtain⟨fs,e,p,s⟩:=aa5 (O:=O) (nm:=bx) (l:=qu X.W X.K X.l) (by rw[Er];exact aQ (Cb (cy hK) hl) (by decide));exact⟨fs,p,s,bg (n:=999998) (K:=bI bx "flatweights" false) ⋯ ((show _=(c8 O 999996 nW [] (kj X)).bind λv=>eG v λl=>eC O bx l [] by cases d<;>rfl').trans (aG (ω hK hl) e)) (by cases d<;>rfl')⟩
theorem Jd:qw (aO l t)=some (su t l:Nat):=by
 induction l with
 |nil=>rfl
 |cons a l ih=>
  have h:((qF (aO l t)).map yJ)=some (su t l:Nat):=ih;refine(af (eP yJ) qY).trans ?_;show(((aO l t).mapM PV.eg).bind λr=>some ((t a:Int)::r)).map yJ=some (((t a+su t l:Nat)):Int);rw[w6];unfold qF at h;revert h;cases(aO l t).mapM PV.eg with
  |none=>exact nS|some r=>exact λh=>af (λx:Int=>some ((t a:Int)+x)) (ay h)
theorem XF{l:List PV}(h1:1<=j)(h:j<=l.length):bQ (.list l) (.int (-(j:Int)))=l[l.length-j]?:=by
 refine aG (K:=λi=>l[i]?) (a:=l.length-j) ?_ rfl;show(if(decide (0<=if(-(j:Int))<0 then-(j:Int)+l.length else-(j:Int))&&decide ((if(-(j:Int))<0 then-(j:Int)+l.length else-(j:Int))<l.length))=true then some (if(-(j:Int))<0 then-(j:Int)+l.length else-(j:Int)).toNat else none)=_;have e: -(j:Int)+l.length=((l.length-j:Nat):Int):=by rw[Ge h,u7];rfl
 rw[iP (T3 (zt.mpr h1)),e,dT (fP _),dT (jf (ze (ba h1 h) h1))];rfl
theorem aao{d:Option PV}{K':Nat}(hs:su t X.l+K'=X.K)(h1:1<=K')(hl:K'<=fs.length)(hm:fs[fs.length-K']?=some w):aw O 999999 bx dG (bN X (.own (aO X.l t)) (E3 X d fs [])) (hX 4)=nx (bN X (.own (aO X.l t)) (E3 X d fs [("minweight",.pv (.int w))])):=by
 refine uq (n:=999998) (K:=bI bx "minweight" false) (p:=.int w) ⋯ (by cases d<;>rfl') ((show _=(((qw (aO X.l t)).map PV.int).bind λb=>fV O .Add (.int (-(X.K:Int))) b).bind λb=>bQ (.list (cL fs)) b by cases d<;>rfl').trans ?_) (by cases d<;>rfl') (by cases d<;>rfl');rw[Jd];show bQ (.list (cL fs)) (.int (-(X.K:Int)+(su t X.l:Nat)))=_;rw[show-(X.K:Int)+(su t X.l:Nat)= -(K':Int) by lia,XF (l:=cL fs) h1 (aq hl (aD (bi _).symm))];unfold cL;rw[bi,oy,hm];rfl
end
end
section
variable{O:aK}{X:DX}{t:Nat->Nat}{fs:List Int}{m:Int}{d o:Option PV}{tie:Bool}
section
variable{n i j p:Nat}{l:List Nat}
theorem tj{α:Type}{f:α->PV}{l:List α}{a:α}(h:l[i]?=some a):bQ (.list (l.map f)) (.int i)=some (f a):=aG (K:=λj=>(l.map f)[j]?) (GO (ba (zq.mp h).1 (aD (bi _).symm))) (oy.trans (af (eP f) h))
theorem XD{nm:aN}{t:Expr}{ifs:List Expr}{ρ:bj}{body:bj->Option (List PV)}{te:bj->Expr->Option Bool}{a:PV}{src:List PV}(h:((fT (gY nm) t a ρ).bind λfR=>(pZ (te fR) false ifs).bind λok=>if ok=true then body fR else some [])=none):qA body te nm t ifs ρ (a::src)=none:=by
 show(if lx t ρ=true then _ else _)=_;by_cases q:lx t ρ=true
 ·rw[iP q];refine y5 ?_ (af (λx:Option (List PV)=>x.bind λhere=>(qA body te nm t ifs ρ src).map λmore=>here++more) h);rw[ag2];exact af _ (funext λσ=>(ag2 ..).symm)
 ·rw[iN q]
def EG:Expr:=sE (hX 5)
def Dg:Expr:=bR 0 (bR 1 (bR 0 EG))
theorem acM(hK:(iy X.c X.K X.v p).length<=az):c8 O 999994 Dg [("minweight",.int m)] (cL (iy X.c X.K X.v p))=some (.list (cL ((iy X.c X.K X.v p).filter λw=>decide (m<w)))):=wh (v:=PV.int) (w:=PV.int) (ok:=λw=>decide (m<w)) ⋯ (λw _=>(show _=((if decide (m<w)=false then some false else some true).bind λok=>if ok=true then some [PV.int w] else some []) by rfl').trans (by cases decide (m<w)<;>rfl)) hK
theorem Α(h:X.l[i]?=some p)(hK:X.K<8):((((bQ (.list (aO X.l t)) (.int i)).bind λa=>((((bQ (.list (kj X)) (.int i)).bind λv=>over v (c8 O 999994 Dg [("minweight",.int m)])).bind λv=>some [v]).bind λvs=>nV O "len" vs []).bind λb=>fV O .Add a b)).map λx=>[x])=some [PV.int ((t p+bG X.W X.K m p:Nat))]:=by
 rw[show bQ (.list (aO X.l t)) (.int i)=some (.int (t p)) from tj h,show bQ (.list (kj X)) (.int i)=some (.list (cL (iy X.c X.K X.v p))) from tj h];show((((c8 O 999994 Dg [("minweight",.int m)] (cL (iy X.c X.K X.v p))).bind λv=>some [v]).bind λvs=>nV O "len" vs []).bind λb=>fV O .Add (.int (t p)) b).map (λx=>[x])=_;rw[acM (aq (aD ((bi _).trans cF)) (aq (cy hK) (by decide)))];refine af (λn:Int=>some [PV.int n]) (y5 (af (λn:Nat=>(t p:Int)+n) ((bi _).trans ?_)) (w6 ..).symm);unfold iy;rw[Lf,bi];rfl
def yi(X:DX)(d:Option PV)(fs:List Int)(m:Int)(r:ar):ar:=E3 X d fs (("minweight",.pv (.int m))::r)
theorem afY(hK:X.K<8)(hl:X.l.length<=3):((f9 0 (X.vs.length:Nat)).bind λv=>over v (c8 O 999997 EG [("representatives",.list (aO X.l t)),("weights",.list (kj X)),("minweight",.int m)]))=some (.list (aO X.l λi=>t i+bG X.W X.K m i)):=by
 have z:X.l.length<=az:=aq hl (by decide);rw[show X.vs.length=X.l.length from bi _];refine aG (nO z) ((sR _).trans ((ni (v:=λi:Nat=>.int i) (w:=λi=>.int ((t (X.l.getD i 0)+bG X.W X.K m (X.l.getD i 0):Nat))) ⋯ (λi hi=>?_) (aq (aD cF) z)).trans (af (λl=>some (PV.list l)) ?_)))
 ·have h:X.l[i]?=some (X.l.getD i 0):=by rw[tA,jM (eL hi)];rfl
  exact(show _=((((bQ (.list (aO X.l t)) (.int i)).bind λa=>((((bQ (.list (kj X)) (.int i)).bind λv=>over v (c8 O 999994 Dg [("minweight",.int m)])).bind λv=>some [v]).bind λvs=>nV O "len" vs []).bind λb=>fV O .Add a b)).map λx=>[x]) by rfl').trans (Α h hK)
 ·have:=af (List.map λp=>PV.int ((t p+bG X.W X.K m p:Nat))) (HL (l:=X.l) (d:=0));rw[jt] at this;exact this
theorem afw(hK:X.K<8)(hl:X.l.length<=3)(h0:X.l≠[]):aw O 999999 bx dG (bN X (.own (aO X.l t)) (yi X d fs m [])) (hX 5)=nx (bN X (.own (aO X.l λi=>t i+bG X.W X.K m i)) (yi X d fs m [])):=by
 refine uq (n:=999998) (K:=bI bx "representatives" true) (p:=.list (aO X.l λi=>t i+bG X.W X.K m i)) ⋯ ?_ ((show _=(f9 0 (X.vs.length:Nat)).bind λv=>over v (c8 O 999997 EG [("representatives",.list (aO X.l t)),("weights",.list (kj X)),("minweight",.int m)]) by cases d<;>rfl').trans (afY hK hl)) (by cases d<;>rfl') ?_
 ·refine(show _=(f9 0 (X.vs.length:Nat)).bind λv=>over v (c8 O 999997 EG [("weights",.list (kj X)),("minweight",.int m)]) by cases d<;>rfl').trans ?_;rw[show X.vs.length=X.l.length from bi _];obtain⟨a,l,e⟩:=CB h0;refine aG (nO (aq hl (by decide))) ((sR _).trans ?_);rw[e,wL,yL];exact af (λx:Option (List PV)=>x.bind (oZ .list)) (XD ⋯)
 ·refine(show _=bI bx "representatives" true (.list (aO X.l λi=>t i+bG X.W X.K m i),bN X (.qp (cg [aO X.l t] [] (.list (aO X.l λi=>t i+bG X.W X.K m i))) (aO X.l t)) (yi X d fs m [])) by cases d<;>rfl').trans ?_;cases cg [aO X.l t] [] (.list (aO X.l λi=>t i+bG X.W X.K m i))<;>cases d<;>rfl'
end
section
variable{i p:Nat}{l l1 l2:List Nat}{b:Bool}{op:iF}
def eT(X:DX)(d:Option PV)(fs:List Int)(m:Int)(tie:Bool)(o:Option PV):ar:=yi X d fs m (("ties",.pv (.bool tie))::o.elim [] λi=>[("i",.pv i)])
def jA:aH:=aJ (sB 0 (d4 4)) 0
def qo(i:Nat):aH:=aJ (sB 0 jA) i
theorem aaZ{l:List Int}:kR 4 (.int m) (cL l)=some (l.any λw=>decide (w=m)):=by
 induction l with
 |nil=>rfl|cons a l ih=>exact af (eP (or (a==m))) ih
theorem U8:fe O .In (.int m) (.list (cL (iy X.c X.K X.v p)))=some (bF X.W X.K m p):=aaZ.trans (af some (List.any_map ..))
theorem MJ(h:X.l[i]?=some p)(hb:fe O op (.int (su t X.l:Nat)) (.int X.K)=some b):(((((qw (aO X.l t)).map PV.int).bind λa=>fe O op a (.int X.K)).bind λb=>if b=false then some false else((bQ (.list (kj X)) (.int i)).bind λv=>fe O .In (.int m) v).bind λb=>if b=false then some false else some true))=some (b&&bF X.W X.K m p):=by
 rw[Jd,show bQ (.list (kj X)) (.int i)=some (.list (cL (iy X.c X.K X.v p))) from tj h];show((fe O op (.int (su t X.l:Nat)) (.int X.K)).bind λb=>if b=false then some false else(fe O .In (.int m) (.list (cL (iy X.c X.K X.v p)))).bind λb=>if b=false then some false else some true)=_;rw[hb,U8];cases b<;>cases bF X.W X.K m p<;>rfl
theorem DC(h:X.l[i]?=some p):fF O 999997 bx (bB (bN X (.own (aO X.l t)) (eT X d fs m tie (some (.int i))))) (sE (qo 0))=some ((((su t X.l:Nat):Int)==(X.K:Int))&&bF X.W X.K m p):=
 (show _=((((qw (aO X.l t)).map PV.int).bind λa=>fe O .Eq a (.int X.K)).bind λb=>if b=false then some false else((bQ (.list (kj X)) (.int i)).bind λv=>fe O .In (.int m) v).bind λb=>if b=false then some false else some true) by cases d<;>rfl').trans (MJ h rfl)
theorem G7(h:X.l[i]?=some p):fF O 999997 bx (bB (bN X (.own (aO X.l t)) (eT X d fs m tie (some (.int i))))) (sE (qo 1))=some (decide (((su t X.l:Nat):Int)<(X.K:Int))&&bF X.W X.K m p):=
 (show _=((((qw (aO X.l t)).map PV.int).bind λa=>fe O .Lt a (.int X.K)).bind λb=>if b=false then some false else((bQ (.list (kj X)) (.int i)).bind λv=>fe O .In (.int m) v).bind λb=>if b=false then some false else some true) by cases d<;>rfl').trans (MJ h rfl)
theorem abM(h:X.l[i]?=some p)(hT:bF X.W X.K m p=false):a9 O 999998 bx dG (bN X (.own (aO X.l t)) (eT X d fs m tie (some (.int i)))) (sB 0 jA)=nx (bN X (.own (aO X.l t)) (eT X d fs m tie (some (.int i)))):=
 (⋯:_=a9 O 999998 bx dG (bN X (.own (aO X.l t)) (eT X d fs m tie (some (.int i)))) [qo 0,qo 1]).trans (aF (ke (n:=999997) ⋯ ⋯ ((DC h).trans (by rw[hT,FJ]))) (aF (ke (n:=999997) ⋯ ⋯ ((G7 h).trans (by rw[hT,FJ]))) rfl))
theorem ad6(h:X.l[i]?=some p)(hT:bF X.W X.K m p=true)(hs:su t X.l=X.K)(ta:X.ta=true):a9 O 999998 bx dG (bN X (.own (aO X.l t)) (eT X d fs m tie (some (.int i)))) (sB 0 jA)=nx (bN X (.own (aO X.l t)) (eT X d fs m true (some (.int i)))):=by
 refine(⋯:_=a9 O 999998 bx dG (bN X (.own (aO X.l t)) (eT X d fs m tie (some (.int i)))) [qo 0,qo 1]).trans (aF (σ₁:=bN X (.own (aO X.l t)) (eT X d fs m true (some (.int i)))) (cN (n:=999997) (b:=true) ⋯ ((DC h).trans (by rw[hT,hs,beq_self_eq_true];rfl)) ?_) (aF (ke (n:=999997) ⋯ ⋯ ((G7 h).trans (by rw[hs,dF (CD _)];rfl))) rfl));obtain⟨l,v,K,bM,Ma,c,b⟩:=X;obtain rfl:Ma=true:=ta;cases tie<;>cases d<;>rfl'
theorem aaO{f f':Nat->Nat}(nd:l.Nodup)(e:l=l1++p::l2)(h:∀x,x≠p->f x=f' x):(aO l f).set l1.length (.int (f' p))=aO l f':=by
 subst e;have nd:=w8.mp nd;unfold aO;rw[mR,mR,List.set_append_right _ _ (aD (bi _)),bi,zf];exact congr (af ag3 (pV λx m=>by rw[h x λe=>nd.2.2 x m p (.head _) e])) (af (PV.int (f' p):: ·) (pV λx m=>by rw[h x λe=>(iS nd.2.1).1 (e▸m)]))
theorem EM(e:l=l1++p::l2):l[l1.length]?=some p:=by rw[e,List.getElem?_append_right (bf _),zf];rfl
theorem acZ{t':Nat->Nat}(nd:X.l.Nodup)(e:X.l=l1++p::l2)(hT:bF X.W X.K m p=true)(hs:su t X.l<X.K)(h:∀x,x≠p->t x=t' x)(hp:t' p=t p+1):a9 O 999998 bx dG (bN X (.own (aO X.l t)) (eT X d fs m tie (some (.int l1.length)))) (sB 0 jA)=nx (bN X (.own (aO X.l t')) (eT X d fs m tie (some (.int l1.length)))):=by
 have ha:=EM e;have it:bQ (.list (aO X.l t)) (.int l1.length)=some (.int (t p)):=tj ha;have sa:kh (aO X.l t) (.int l1.length) (.int (t' p:Nat))=some (aO X.l t'):=(iP ⟨fP _,jf (ba (zq.mp ha).1 (aD (bi _).symm))⟩).trans (af some (aaO nd e h));rw[hp] at sa;generalize l1.length=i at*;exact(⋯:_=a9 O 999998 bx dG (bN X (.own (aO X.l t)) (eT X d fs m tie (some (.int i)))) [qo 0,qo 1]).trans (aF (ke (n:=999997) ⋯ ⋯ ((DC ha).trans (by rw[kH λe=>gE hs (w3.mp e)];rfl))) (aF (cN (n:=999997) (b:=true) ⋯ ((G7 ha).trans (by rw[hT,dT (jf hs)];rfl)) (aF (st:=aJ (sB 0 (qo 1)) 0) (IZ (n:=999996) (x:="representatives") (op:=.Add) (k:=.int i) (w:=.int 1) (by cases d<;>rfl') it (by cases d<;>rfl') rfl ⋯ sa (by cases d<;>rfl')) rfl)) rfl))
end
section
variable{i p r:Nat}{l l1 l2 F:List Nat}{C:Nat->Nat}
noncomputable def tF(C:Nat->Nat)(F:List Nat)(r i:Nat):Nat:=C i+if i∈F.take r then 1 else 0
noncomputable def lT(F:List Nat)(r:Nat):Bool:=decide (r<F.length)
theorem OZ(nd:l.Nodup)(s:F.Sublist l):su (tF C F r) l=su C l+min r F.length:=by
 have:=HD (t:=λ_=>1) (M:=λ_=>0) ((SM r F).trans s) nd;rw[gy,gy,gy,Ca,Ca,zi,FS] at this;exact qO.trans (af (su C l+ ·) this)
theorem Pb(nd:X.l.Nodup)(hs:su C X.l+r=X.K)(vm:r<=(l1.filter (bF X.W X.K m)).length->bF X.W X.K m p=true->X.ta=true)(e:X.l=l1++p::l2):a9 O 999998 bx dG (bN X (.own (aO X.l (tF C (l1.filter (bF X.W X.K m)) r))) (eT X d fs m (lT (l1.filter (bF X.W X.K m)) r) (some (.int l1.length)))) (sB 0 jA)=nx (bN X (.own (aO X.l (tF C ((l1++[p]).filter (bF X.W X.K m)) r))) (eT X d fs m (lT ((l1++[p]).filter (bF X.W X.K m)) r) (some (.int l1.length)))):=by
 have ha:=EM e;have sl:(l1++[p]).Sublist X.l:=e▸(List.Sublist.refl l1).append ((Tk l2).cons_cons p);have sF:(l1.filter (bF X.W X.K m)).Sublist X.l:=u0.trans ((ag4 ..).trans sl);have pF:p∉l1.filter (bF X.W X.K m):=λh=>(w8.mp (e▸nd)).2.2 p (eJ h).1 p (.head _) rfl;have GF:=OZ (C:=C) (r:=r) nd sF;rw[pW];generalize l1.filter (bF X.W X.K m)=F at*;cases hT:bF X.W X.K m p with
 |false=>
  rw[u8 (ne_true_of_eq_false hT),CF,gO];exact abM ha hT
 |true=>
  rw[tD hT,CF];by_cases k:r<=F.length
  ·rw[wW k] at GF;rw[show tF C (F++[p]) r=tF C F r from funext λi=>af (λl=>C i+if i∈l then 1 else 0) (ag0 k),show lT (F++[p]) r=true from dT (ba (kA k) (aD (da (as:=F) (bs:=[p])).symm))];exact ad6 ha hT (GF.trans hs) (vm k hT)
  ·have k:=om k;have e1:(F++[p]).take r=F++[p]:=zk (aq (aD da) k);have e2:F.take r=F:=zk (cy k);rw[T6 (cy k)] at GF;rw[show lT (F++[p]) r=lT F r from(dF (gJ (aq (aD da) k))).trans (dF (oD k)).symm];refine acZ nd e hT (by rw[GF,<-hs];exact T7 k _) (λx ne=>?_) ?_
   ·unfold tF;rw[e1,e2,ite_congr (propext (Lh.trans (or_iff_left λh=>ne (cY h)))) (λ_=>rfl) λ_=>rfl]
   ·unfold tF;rw[e1,e2,iP (fE _ (.head _)),iN pF]
theorem Zs{T:Nat->Bool}(e:l=l1++p::l2)(hT:T p=true):(l1.filter T).length+1<=(l.filter T).length:=by
 rw[e,pW,tD hT,da,wL];exact i3 (eE _) _
theorem aeD(nd:X.l.Nodup)(hs:su C X.l+r=X.K)(vm:X.ta=true\/(X.l.filter (bF X.W X.K m)).length<=r):∀{l2 l1:List Nat} {o:Option PV},X.l=l1++l2->∃o',dX (aS (aw O 999998 bx dG) (sB 0 jA)) bx (sT jA) (aC (gW l1.length l2.length)) (bN X (.own (aO X.l (tF C (l1.filter (bF X.W X.K m)) r))) (eT X d fs m (lT (l1.filter (bF X.W X.K m)) r) o))=nx (bN X (.own (aO X.l (tF C (X.l.filter (bF X.W X.K m)) r))) (eT X d fs m (lT (X.l.filter (bF X.W X.K m)) r) o')):=by
 intro l2;induction l2 with
 |nil=>exact λ{l1 o} e=>⟨o,by rw[e,gO];rfl⟩
 |cons p l2 ih=>
  intro l1 o e;obtain⟨o',h⟩:=ih (l1:=l1++[p]) (o:=some (.int l1.length)) (e.trans (kx l1 [p] l2).symm);rw[da] at h;exact⟨o',ik (σ₁:=bN X (.own (aO X.l (tF C (l1.filter (bF X.W X.K m)) r))) (eT X d fs m (lT (l1.filter (bF X.W X.K m)) r) (some (.int l1.length)))) (by cases d<;>cases o<;>rfl') (Pb nd hs (λk hT=>vm.resolve_right λh=>nF (kA k) (aq (Zs e hT) h)) e) h⟩
end
section
variable{K':Nat}{R:List PV}
theorem jY{Y:ar->aH->aZ}{st:aH}{σ:ar}:aS Y [st] σ=Y σ st:=by
 show(Y σ st).bind (λq=>if q.1.hZ=true then some (.next,q.2) else some q)=_;cases Y σ st with
 |none=>rfl
 |some q=>
  obtain⟨f,σ⟩:=q;cases f<;>rfl
structure sU(O:aK)(X:DX):Prop where
 pre:tX O X
 no:∀R x d,fF O 999998 bx (bB (bN X (.own R) (oX X x d []))) (sE (hX 2))=some false
def JR(X:DX):ar:=[("divisors",.pv (.list (sW X.c X.K)))]
theorem GL{i:Nat}{r:ar}(hs:fF O 999999 bx (bB (bN X (.own (aO X.l t)) r)) (sE (d4 i))=((qw (aO X.l t)).map PV.int).bind λb=>fe O .Gt (.int X.K) b):fF O 999999 bx (bB (bN X (.own (aO X.l t)) r)) (sE (d4 i))=some (decide (su t X.l<X.K)):=hs.trans (by
 rw[Jd];exact af some (fA u9))
inductive Dv2 (O:aK) (X:DX) (K':Nat):Prop
 |mk (fs:List Int) (m:Int) (d:Option PV) (L:iM X.W X.K m X.l K') (e:aw O NN bx dG (bN X (.own (aO X.l λ_=>X.b)) (JR X)) (d4 2)=nx (bN X (.own (aO X.l λi=>X.b+bG X.W X.K m i)) (yi X d fs m [])))
theorem Mi(M:sU O X)(hK:X.K<8)(hv:∀i,1<=X.v i)(hl:X.l.length<=3)(h0:X.l≠[])(kG:X.b*X.l.length+K'=X.K)(h1:1<=K'):Dv2 O X K':=by
 obtain⟨d,e1⟩:=aa1 (O:=O) (X:=X) (R:=aO X.l λ_=>X.b) (js:=ax X.K) (x:=1) (d:=none) λj m=>eN (eL m) hK;obtain⟨fs,p,s,e3⟩:=ae7 (O:=O) (X:=X) (R:=aO X.l λ_=>X.b) (d:=d) hK hl;have kk:K'<=X.K:=kG▸i7 ..;have hf:K'<=fs.length:=aq kk (aq (TY X.K (ahb.mpr h0)) (aD (p.length_eq.trans Er).symm));have hm:=jM (ze (ba h1 hf) h1);generalize fs[fs.length-K']'_=m at hm;have h7:X.b*X.l.length<X.K:=kG▸qX h1;refine⟨fs,m,d,acN (De hK hv) p s h1 h0 kk hm,cN (n:=999999) (b:=true) ⋯ ((GL ⋯).trans (af some (dT (gy.symm▸h7)))) ?_⟩;refine(show _=aS (aw O 999999 bx dG) [hX 1,hX 2,hX 3,hX 4,hX 5] (bN X (.own (aO X.l λ_=>X.b)) (oX X 1 none [])) by rfl').trans (aF (bg (n:=999998) (K:=fY (aw O 999998 bx dG) bx (sT (hX 1)) (sB 0 (hX 1))) (p:=.list (sW X.c X.K)) ⋯ ⋯ (rY e1)) (aF (T_ hK (aq hl (by decide)) (M.no ..)) (aF e3 (aF (aao (by rw[gy];exact kG) h1 hf hm) (aF (afw hK hl h0) rfl)))))
theorem n_(h:X.ta=true\/tie=false):cm (aS (aw O NN bx dG) [d4 5,d4 6] (bN X (.own R) (eT X d fs m tie o)))=some (.list R):=by
 obtain⟨l,v,K,bM,ta,c,b⟩:=X;cases tie with
 |false=>cases d<;>cases o<;>cases ta<;>rfl'
 |true=>
  obtain rfl:ta=true:=h.resolve_right tf;cases d<;>cases o<;>rfl'
def D7(O:aK)(X:DX)(g:Nat->Nat):Prop:=bm O NN xU [.list X.vs,.int X.K,.str X.bM,.bool X.ta] []=some (.list (aO X.l g))
def xq(X:DX):ar:=[("votes",.pv (.list X.vs)),("seats",.pv (.int X.K)),("method",.pv (.str X.bM)),("tiesallowed",.pv (.bool X.ta))]
def yq:List aH:=[d4 0,d4 1,d4 2,d4 3,d4 4,d4 5,d4 6]
theorem J1:bm O NN xU [.list X.vs,.int X.K,.str X.bM,.bool X.ta] []=cm (a9 O NN bx dG (xq X) yq):=⋯
theorem NW(M:sU O X)(hl:X.l.length<=3):a9 O NN bx dG (xq X) yq=a9 O NN bx dG (bN X (.own (aO X.l λ_=>X.b)) (JR X)) [d4 2,d4 3,d4 4,d4 5,d4 6]:=aF (Yl (aq hl (by decide))) (aF M.pre rfl)
theorem OJ(M:sU O X)(hl:X.l.length<=3)(e:aw O NN bx dG (bN X (.own (aO X.l λ_=>X.b)) (JR X)) (d4 2)=nx (bN X (.own (aO X.l t)) (yi X d fs m []))):a9 O NN bx dG (xq X) yq=a9 O NN bx dG (bN X (.own (aO X.l t)) (eT X d fs m false none)) [d4 4,d4 5,d4 6]:=(NW M hl).trans (aF e (aF (st:=d4 3) (σ₁:=bN X (.own (aO X.l t)) (eT X d fs m false none)) (by cases d<;>rfl') rfl))
theorem Nw{r:aZ}(hl:X.l.length<=3)(eZ:su t X.l<X.K)(h:fY (aw O 999998 bx dG) bx (sT jA) (sB 0 jA) (.d5 0 X.l.length,bN X (.own (aO X.l t)) (eT X d fs m false none))=r):aw O NN bx dG (bN X (.own (aO X.l t)) (eT X d fs m false none)) (d4 4)=r:=
 cN (n:=999999) (b:=true) ⋯ ((GL (by cases d<;>rfl')).trans (af some (dT eZ))) ((⋯:_=aS (aw O 999999 bx dG) [jA] (bN X (.own (aO X.l t)) (eT X d fs m false none))).trans (jY.trans (bg (n:=999998) (K:=fY (aw O 999998 bx dG) bx (sT jA) (sB 0 jA)) ⋯ ((show _=f9 0 (X.vs.length:Nat) by cases d<;>rfl').trans ((af (λn:Nat=>f9 0 n) (bi _)).trans (nO (aq hl (by decide))))) h)))
theorem adj(M:sU O X)(hl:X.l.length<=3)(hK:X.b*X.l.length=X.K):D7 O X λ_=>X.b:=by
 have no:∀{i:Nat} {r:ar},fF O 999999 bx (bB (bN X (.own (aO X.l λ_=>X.b)) r)) (sE (d4 i))=(((qw (aO X.l λ_=>X.b)).map PV.int).bind λb=>fe O .Gt (.int X.K) b)->fF O 999999 bx (bB (bN X (.own (aO X.l λ_=>X.b)) r)) (sE (d4 i))=some false:=λh=>(GL h).trans (af some (dF (by rw[gy,hK];exact cV _)));refine(J1.trans (af cm (NW M hl))).trans (dz (ke (n:=999999) ⋯ ⋯ (no ⋯)) (dz (st:=d4 3) (σ₁:=bN X (.own (aO X.l λ_=>X.b)) [("divisors",.pv (.list (sW X.c X.K))),("ties",.pv (.bool false))]) ⋯ (dz (ke (n:=999999) ⋯ ⋯ (no ⋯)) ?_)));rfl'
theorem XA(M:sU O X)(hK:X.K<8)(hv:∀i,1<=X.v i)(nd:X.l.Nodup)(hl:X.l.length<=3)(h0:X.l≠[])(kG:X.b*X.l.length+K'=X.K)(h1:1<=K'):∃m,iM X.W X.K m X.l K'/\(X.ta=true\/wi X.W X.K m X.l K'=false->D7 O X λi=>X.b+fv X.W X.K m X.l K' i):=by
 obtain⟨fs,m,d,L,e2⟩:=Mi M hK hv hl h0 kG h1;refine⟨m,L,λvm=>?_⟩;have hr:su (bG X.W X.K m) X.l+(K'-su (bG X.W X.K m) X.l)=K':=iK (cy L.lo);have sC:su (λi=>X.b+bG X.W X.K m i) X.l=X.b*X.l.length+su (bG X.W X.K m) X.l:=qO.trans (af (· +_) gy);have et:lT (X.l.filter (bF X.W X.K m)) (K'-su (bG X.W X.K m) X.l)=wi X.W X.K m X.l K':=fA (TZ (cy L.lo));have eZ:su (λi=>X.b+bG X.W X.K m i) X.l<X.K:=sC▸ba (T7 L.lo _) (aD kG);obtain⟨o,e4⟩:=aeD (O:=O) (X:=X) (fs:=fs) (m:=m) (d:=d) (C:=λi=>X.b+bG X.W X.K m i) (r:=K'-su (bG X.W X.K m) X.l) nd (by rw[sC,fC,hr,kG]) (vm.imp id λh=>cZ λk=>dy (h.symm.trans (et.symm.trans (dT k)))) (l2:=X.l) (l1:=[]) (o:=none) rfl;rw[et,show tF (λi=>X.b+bG X.W X.K m i) (List.filter (bF X.W X.K m) []) (K'-su (bG X.W X.K m) X.l)=λi=>X.b+bG X.W X.K m i from funext λi=>by unfold tF;rw[CF,u5,iN eX];rfl,show tF (λi=>X.b+bG X.W X.K m i) (X.l.filter (bF X.W X.K m)) (K'-su (bG X.W X.K m) X.l)=λi=>X.b+fv X.W X.K m X.l K' i from funext λi=>fC ..] at e4;exact(J1.trans (af cm (OJ M hl e2))).trans (dz (Nw hl eZ (Ai (by rw[yQ];exact e4))) (n_ (o:=o) vm))
end
end
section
variable{O:aK}{X:DX}{K S k b i:Nat}{m m':Int}{l:List Nat}{W:Nat->Nat->Int}{c:Bool}{v:Nat->Nat}{w:PV}
theorem M6(h:fg W)(L:iM W S m l K)(L':iM W S m' l K):¬m<m':=λk=>by
 refine nF L.lo (aq L'.hi ?_);rw[<-MS,<-qO];refine lS λi hi=>?_;have a:=EQ h (Do L' hi);have s:=Do L' hi;have le:bG W S m' i<=bG W S m i:=cZ λq=>TQ k (lG ((uf h (eN q s)).mpr q) (jK λz=>cV _ ((uf h (eN q s)).mp z)));cases t:bF W S m' i with
 |false=>exact le|true=>exact(uf h s).mp (lG k (oF (a.2.mp t).symm))
theorem Υ(h:fg W)(L:iM W S m l K)(L':iM W S m' l K):m=m':=zh (jK (M6 h L' L)) (jK (M6 h L L'))
open Classical in
def mh(W:Nat->Nat->Int)(S:Nat)(l:List Nat)(K:Nat):Int:=if h:∃m,iM W S m l K then h.choose else 0
theorem Jl(h:fg W)(L:iM W S m l K):mh W S l K=m:=by
 have e:∃m,iM W S m l K:=⟨m,L⟩;unfold mh;rw[dif_pos e];exact Υ h e.choose_spec L
def tm(c:Bool)(b:Nat)(v:Nat->Nat)(l:List Nat)(K i:Nat):Nat:=if b*l.length=K then b else b+fv (Wd c K v) K (mh (Wd c K v) K l (K-b*l.length)) l (K-b*l.length) i
def sV(c:Bool)(b:Nat)(v:Nat->Nat)(l:List Nat)(K:Nat):Bool:=if b*l.length=K then false else wi (Wd c K v) K (mh (Wd c K v) K l (K-b*l.length)) l (K-b*l.length)
structure o7(X:DX):Prop where
 G:lJ X.b 6 X.l X.K
 v1:∀i,1<=X.v i
 nd:X.l.Nodup
 l3:X.l.length<=3
 l0:X.l≠[]
theorem o7.dec(P:o7 X):fg X.W:=De (aQ P.G.hi (by decide)) P.v1
theorem G1(M:sU O X)(P:o7 X)(e:X.b*X.l.length≠X.K):iM X.W X.K (mh X.W X.K X.l (X.K-X.b*X.l.length)) X.l (X.K-X.b*X.l.length)/\(X.ta=true\/sV X.c X.b X.v X.l X.K=false->D7 O X (tm X.c X.b X.v X.l X.K)):=by
 obtain⟨m,L,h⟩:=XA M (aQ P.G.hi (by decide)) P.v1 P.nd P.l3 P.l0 (iK P.G.lo) (rh (pT P.G.lo e));have em:=Jl P.dec L;refine⟨em.symm▸L,λvm=>?_⟩;rw[show tm X.c X.b X.v X.l X.K=λi=>X.b+fv X.W X.K m X.l (X.K-X.b*X.l.length) i from funext λi=>(iN e).trans (af (λm=>X.b+fv X.W X.K m X.l (X.K-X.b*X.l.length) i) em)];exact h (vm.imp_right λt=>((iN e).trans (af (λm=>wi X.W X.K m X.l (X.K-X.b*X.l.length)) em)).symm.trans t)
theorem Pd(M:sU O X)(P:o7 X)(h:X.ta=true\/sV X.c X.b X.v X.l X.K=false):D7 O X (tm X.c X.b X.v X.l X.K):=by
 by_cases e:X.b*X.l.length=X.K
 ·rw[show tm X.c X.b X.v X.l X.K=λ_=>X.b from funext λi=>iP e];exact adj M P.l3 e
 ·exact(G1 M P e).2 h
def jB:aN:=JV.scope.names
def qi(i:Nat):aH:=aJ JV.body i
def Bp(X:DX)(r:ar):ar:=("method",.pv (.str X.bM))::("votes",.pv (.list X.vs))::("seats",.pv (.int X.K))::("threshold",.pv .none)::("tiesallowed",.pv (.bool X.ta))::r
def lN(X:DX):ar:=Bp X [("filtered_votes",.pv (.list X.vs))]
def IU:aH:=aJ (sB 1 (qi 1)) 0
def Hl:aH:=aJ (sB 1 IU) 0
def xK:aH:=aJ (sB 0 Hl) 0
structure HW(O:aK)(X:DX):Prop where
 t0:fF O 999999 jB (bB (lN X)) (sE (qi 1))=some false
 t1:fF O 999998 jB (bB (lN X)) (sE IU)=some false
 t2:fF O 999997 jB (bB (lN X)) (sE Hl)=some true
theorem RZ(M:HW O X)(h:O.fn "apply_threshold" [.list X.vs,.none] []=some (.list X.vs)):a9 O NN jB [] (Bp X []) [qi 0,qi 1]=se O (ip 999996 O) jB (lN X) (sE xK):=
 aF (bg (n:=999999) (K:=bI jB "filtered_votes" false) ⋯ ((⋯:_=O.fn "apply_threshold" [.list X.vs,.none] []).trans h) (⋯:_=nx (lN X))) (jY.trans (cN (n:=999999) (b:=false) ⋯ M.t0 ((⋯:_=aS (aw O 999999 jB []) [IU] (lN X)).trans (jY.trans (cN (n:=999998) (b:=false) ⋯ M.t1 ((⋯:_=aS (aw O 999998 jB []) [Hl] (lN X)).trans (jY.trans (cN (n:=999997) (b:=true) ⋯ M.t2 ((⋯:_=aS (aw O 999997 jB []) [xK] (lN X)).trans (jY.trans ⋯))))))))))
theorem Qc:(aI NN (k+1)).fn "apply_threshold" [w,.none] []=some w:=⋯
noncomputable def nn:List Str:=["dhondt","jefferson","saintelague","webster","adams"]
noncomputable def dK(κ:Nat):Bool:=κ==2||κ==3
noncomputable def bK(κ:Nat):Nat:=if κ=4 then 1 else 0
def mX(κ:Nat)(l:List Nat)(v:Nat->Nat)(K:Nat)(ta:Bool):DX:=⟨l,v,K,nn.getD κ "",ta,dK κ,bK κ⟩
theorem AX{P:Nat->Prop}(h0:P 0)(h1:P 1)(h2:P 2)(h3:P 3)(h4:P 4):∀j,j<5->P j:=vT (vV h0 h1 h2 h3) h4
theorem RT{κ:Nat}{ta:Bool}(h:κ<5):HW O (mX κ l v K ta):=AX (P:=λκ=>HW O (mX κ l v K ta)) ⟨⋯,⋯,⋯⟩ ⟨⋯,⋯,⋯⟩ ⟨⋯,⋯,⋯⟩ ⟨⋯,⋯,⋯⟩ ⟨⋯,⋯,⋯⟩ κ h
theorem ae8{κ:Nat}{ta:Bool}{R:List PV}{x:Nat}{d:Option PV}(h:κ<5):fF O 999998 bx (bB (bN (mX κ l v K ta) (.own R) (oX (mX κ l v K ta) x d []))) (sE (hX 2))=some false:=AX (P:=λκ=>fF O 999998 bx (bB (bN (mX κ l v K ta) (.own R) (oX (mX κ l v K ta) x d []))) (sE (hX 2))=some false) (by cases d<;>rfl') (by cases d<;>rfl') (by cases d<;>rfl') (by cases d<;>rfl') (by cases d<;>rfl') κ h
theorem BK{κ:Nat}{ta:Bool}(h:κ<5)(P:o7 (mX κ l v K ta)):sU O (mX κ l v K ta):=by
 refine⟨?_,λR x d=>ae8 h⟩;have hK:K<8:=aQ P.G.hi (by decide);have hl:=P.G.lo;have hv:=P.v1;clear P;revert hl hv;exact AX (P:=λκ=>bK κ*l.length<=K->(∀i,1<=v i)->tX O (mX κ l v K ta)) (λ_ _=>PX hK rfl rfl (.inl rfl)) (λ_ _=>PX hK rfl rfl (.inr rfl)) (λ_ _=>PJ hK rfl rfl (.inl rfl)) (λ_ _=>PJ hK rfl rfl (.inr rfl)) (λhl hv=>Z3 hK rfl rfl rfl (aq (aD (zi _).symm) hl) hv) κ h
theorem U_{κ:Nat}(h:κ<5)(P:o7 (mX κ l v K true)):(aI NN (k+3)).fn "compute" [.str (nn.getD κ ""),.list (l.map λi=>.int (v i)),.int K] []=some (.list (aO l (tm (dK κ) (bK κ) v l K))):=
 (⋯:_=cm (a9 (aI NN (k+2)) NN jB [] (Bp (mX κ l v K true) []) [qi 0,qi 1])).trans (af cm ((RZ (RT h) (Qc (k:=k+1))).trans (Di ((⋯:_=bm (aI NN (k+1)) NN xU [.list (mX κ l v K true).vs,.int K,.str (mX κ l v K true).bM,.bool true] []).trans (Pd (BK h P) P (.inl rfl))))))
end
section
variable{O:aK}{i p f:Nat}{l s:List Nat}{t g:Nat->Nat}{st:aH}
section
variable{X:DX}{r k K κ:Nat}{l1 l2:List Nat}{C v:Nat->Nat}{fs:List Int}{m:Int}{d o:Option PV}{σ σ₁:ar}{Y:ar->aH->aZ}{ss:List aH}
def A9(o:aZ):Prop:=∃σ,o=some (.exc,σ)
theorem PS(h:A9 (Y σ st)):A9 (aS Y (st::ss) σ):=h.imp λσ₁ h=>show(Y σ st).bind (λq=>if q.1.hZ=true then aS Y ss q.2 else some q)=_ from aG h rfl
theorem Yu(h:X.l[i]?=some p)(hT:bF X.W X.K m p=true)(hs:su t X.l=X.K)(ta:X.ta=false):A9 (a9 O 999998 bx dG (bN X (.own (aO X.l t)) (eT X d fs m false (some (.int i)))) (sB 0 jA)):=by
 have e:=cN (O:=O) (n:=999997) (nm:=bx) (mu:=dG) (st:=qo 0) (b:=true) (r:=some (.exc,bN X (.own (aO X.l t)) (eT X d fs m false (some (.int i))))) ⋯ ((DC (d:=d) (fs:=fs) (tie:=false) h).trans (by rw[hT,hs,beq_self_eq_true];rfl)) (by
  obtain⟨l,v,K,bM,Ma,c,b⟩:=X;obtain rfl:Ma=false:=ta;cases d<;>rfl')
 exact PS ⟨_,e⟩
theorem ad'(nd:X.l.Nodup)(hs:su C X.l+r=X.K)(ta:X.ta=false)(hr:r<(X.l.filter (bF X.W X.K m)).length):∀{l2 l1:List Nat} {o:Option PV},X.l=l1++l2->(l1.filter (bF X.W X.K m)).length<=r->A9 (dX (aS (aw O 999998 bx dG) (sB 0 jA)) bx (sT jA) (aC (gW l1.length l2.length)) (bN X (.own (aO X.l (tF C (l1.filter (bF X.W X.K m)) r))) (eT X d fs m (lT (l1.filter (bF X.W X.K m)) r) o))):=by
 intro l2;induction l2 with
 |nil=>exact λ{l1 o} e k=>absurd (ba hr (aq (aD (by rw[e,gO])) k)) (cV _)
 |cons p l2 ih=>
  intro l1 o e k;have hb:fT (sk bx) (sT jA) (.int l1.length) (bN X (.own (aO X.l (tF C (l1.filter (bF X.W X.K m)) r))) (eT X d fs m (lT (l1.filter (bF X.W X.K m)) r) o))=some (bN X (.own (aO X.l (tF C (l1.filter (bF X.W X.K m)) r))) (eT X d fs m (lT (l1.filter (bF X.W X.K m)) r) (some (.int l1.length)))):=by cases d<;>cases o<;>rfl'
  by_cases q:bF X.W X.K m p=true/\r<=(l1.filter (bF X.W X.K m)).length
  ·have sF:(l1.filter (bF X.W X.K m)).Sublist X.l:=u0.trans (e▸ag4 ..);have z:=Yu (O:=O) (d:=d) (fs:=fs) (EM e) q.1 ((OZ (C:=C) (r:=r) nd sF).trans (by rw[wW q.2];exact hs)) ta;have tf:lT (l1.filter (bF X.W X.K m)) r=false:=dF (gJ k);rw[tf] at hb⊢;obtain⟨σ,z⟩:=z;exact⟨σ,aG hb (aG z rfl)⟩
  ·have h:=ih (l1:=l1++[p]) (o:=some (.int l1.length)) (e.trans (kx l1 [p] l2).symm) (by
    rw[pW,da];cases hT:bF X.W X.K m p with
    |false=>rw[u8 (ne_true_of_eq_false hT)];exact k|true=>rw[tD hT];exact om λz=>q ⟨hT,z⟩)
   rw[da] at h;exact h.imp λσ h=>ik hb (Pb nd hs (λz hT=>absurd ⟨hT,z⟩ q) e) h
theorem abO(M:sU O X)(P:o7 X)(ta:X.ta=false)(h:sV X.c X.b X.v X.l X.K=true):A9 (a9 O NN bx dG (xq X) yq):=by
 by_cases e:X.b*X.l.length=X.K
 ·exact absurd ((iP e).symm.trans h) dy
 have hK:X.K<8:=aQ P.G.hi (by decide);have kG:=iK P.G.lo;obtain⟨fs,m,d,L,e2⟩:=Mi M hK P.v1 P.l3 P.l0 kG (rh (pT P.G.lo e));have t:=(iN e).symm.trans h;rw[show mh (Wd X.c X.K X.v) X.K X.l (X.K-X.b*X.l.length)=m from Jl P.dec L] at t;have sC:su (λi=>X.b+bG X.W X.K m i) X.l=X.b*X.l.length+su (bG X.W X.K m) X.l:=qO.trans (af (· +_) gy);have z:=ad' (O:=O) (fs:=fs) (m:=m) (d:=d) (C:=λi=>X.b+bG X.W X.K m i) (r:=X.K-X.b*X.l.length-su (bG X.W X.K m) X.l) P.nd (by rw[sC,fC,iK (cy L.lo),kG]) ta ((TZ (cy L.lo)).mpr (cC t)) (l2:=X.l) (l1:=[]) (o:=none) rfl (cu _);rw[show tF (λi=>X.b+bG X.W X.K m i) (List.filter (bF X.W X.K m) []) (X.K-X.b*X.l.length-su (bG X.W X.K m) X.l)=λi=>X.b+bG X.W X.K m i from funext λi=>by unfold tF;rw[CF,u5,iN eX];rfl] at z;rw[OJ M P.l3 e2];refine PS (z.imp λσ z=>Nw P.l3 (sC▸ba (T7 L.lo _) (aD kG)) ((sR _).trans (aG (K:=lh _ _) (?_:_=some (fS.exc,σ)) rfl)));rw[yQ];exact z
structure WA(O:aK)(X:DX)(b:Bool):Prop where
 yes:b=true->O.fn "compute" [.str X.bM,.list X.vs,.int X.K] [("tiesallowed",.bool false)]=none/\O.n9 "compute" [.str X.bM,.list X.vs,.int X.K] [("tiesallowed",.bool false)]=true
 no:b=false->∃p,O.fn "compute" [.str X.bM,.list X.vs,.int X.K] [("tiesallowed",.bool false)]=some p
theorem aeP(h:κ<5)(P:o7 (mX κ l v K false)):WA (aI NN (k+3)) (mX κ l v K false) (sV (dK κ) (bK κ) v l K):=by
 have f1:(aI NN (k+3)).fn "compute" [.str (mX κ l v K false).bM,.list (mX κ l v K false).vs,.int K] [("tiesallowed",.bool false)]=cm (a9 (aI NN (k+2)) NN jB [] (Bp (mX κ l v K false) []) [qi 0,qi 1]):=⋯;have f2:(aI NN (k+3)).n9 "compute" [.str (mX κ l v K false).bM,.list (mX κ l v K false).vs,.int K] [("tiesallowed",.bool false)]=(a9 (aI NN (k+2)) NN jB [] (Bp (mX κ l v K false) []) [qi 0,qi 1]).any λr=>r.1.isExc:=⋯;have c:=RZ (RT (O:=aI NN (k+2)) (l:=l) (v:=v) (K:=K) (ta:=false) h) (Qc (k:=k+1));have d1:cI (aI NN (k+2)) 999996 jB (bB (lN (mX κ l v K false))) (sE xK)=cm (a9 (aI NN (k+1)) NN bx dG (xq (mX κ l v K false)) yq):=⋯;refine⟨λt=>?_,λt=>⟨_,f1.trans (af cm (c.trans (Di (d1.trans (J1.symm.trans (Pd (BK h P) P (.inr t)))))))⟩⟩;obtain⟨σ,e⟩:=abO (BK (O:=aI NN (k+1)) h P) P rfl t;have d2:raises (aI NN (k+2)) (ip 999996 (aI NN (k+2))) jB (bB (lN (mX κ l v K false))) (sE xK)=(a9 (aI NN (k+1)) NN bx dG (xq (mX κ l v K false)) yq).any λr=>r.1.isExc:=⋯;rw[e] at d1 d2;have x:se (aI NN (k+2)) (ip 999996 (aI NN (k+2))) jB (lN (mX κ l v K false)) (sE xK)=some (.exc,lN (mX κ l v K false)):=by
  unfold se;rw[show(ip 999996 (aI NN (k+2))).e jB (bB (lN (mX κ l v K false))) (sE xK)=none from d1,d2];rfl
 rw[c.trans x] at f1 f2;exact⟨f1,f2⟩
end
section
structure SX where
 n:Nat
 bM:Str
 v:Nat->Nat
 M:Nat->Nat
 ps:List Nat
def bX(n:Nat)(g:Nat->Nat):List PV:=dQ n λi=>.int (g i)
def dR:aN:=A1.scope.names
def jR(i:Nat):aH:=aJ A1.body i
def ei(i:Nat):aH:=aJ (sB 0 (jR 2)) i
noncomputable def gf:List Str:=["given"]
def eI(X:SX)(K:Int)(g:Nat->Nat)(l:List Nat)(r:ar):ar:=("method",.pv (.str X.bM))::("votes",.pv (.list (bX X.n X.v)))::("lengths",.pv (.list (bX X.n X.M)))::("seats",.pv (.int K))::("order",.pv (.list (aC X.ps)))::("given",.own (bX X.n g))::("left",.pv (.list (aC l)))::r
noncomputable def nQ(a b c:Option PV):ar:=a.elim [] λa=>("told",.pv a)::b.elim [] λb=>("short",.pv b)::c.elim [] λc=>[("party",.pv c)]
abbrev S3:Type:=Option (PV×PV×Option PV)
variable{X:SX}{K:Int}{r:S3}{w a:PV}{b c:Option PV}
theorem IS(h:i<X.n):bQ (.list (bX X.n g)) (.int i)=some (.int (g i)):=DS (h:=λi=>.int (g i)) h
theorem Jz{x:Nat}(h:i<X.n):kh (bX X.n g) (.int i) (.int x)=some (bX X.n (gz g i x)):=(G' h).trans (af (λh=>some (dQ X.n h)) (funext λc=>(apply_ite (λn:Nat=>PV.int n) ..).symm))
theorem ae4(hl:∀i∈l,i<X.n)(hz:l.length<=az)(hc:O.fn "compute" [.str X.bM,.list (l.map λi=>.int (X.v i)),.int K] []=some w):aw O (f+40) dR gf (eI X K g l (nQ (r.map (·.1)) (r.map (·.2.1)) (r.bind (·.2.2)))) (ei 0)=nx (eI X K g l (nQ (some w) (r.map (·.2.1)) (r.bind (·.2.2)))):=by
 have e:c8 O (f+37) (bR 1 (sE (ei 0))) [("votes",.list (bX X.n X.v))] (aC l)=some (.list (l.map λi=>.int (X.v i))):=ni (v:=λn:Nat=>.int n) ⋯ (λi m=>(show _=(bQ (.list (bX X.n X.v)) (.int i)).map λx=>[x] by rfl').trans (af (eP λx=>[x]) (IS (hl i m)))) hz;refine bg (n:=f+39) (K:=bI dR "told" false) (p:=w) ⋯ ((show _=(((c8 O (f+37) (bR 1 (sE (ei 0))) [("votes",.list (bX X.n X.v))] (aC l)).bind λv=>some [v,.int K]).map λvs=>PV.str X.bM::vs).bind λvs=>O.fn "compute" vs [] by rcases r with _|⟨_,_,_|_⟩<;>rfl').trans ?_) (by rcases r with _|⟨_,_,_|_⟩<;>rfl');rw[e];exact hc
theorem aai{β:Type}{l:List Nat}{f:Nat->β}{ok:Nat->Bool}:(((ax l.length).filter λi=>ok (l.getD i 0)).map λi=>f (l.getD i 0))=(l.filter ok).map f:=by
 have h:=af (λl=>(l.filter ok).map f) (HL (l:=l) (d:=0));rw[Lf,jt] at h;exact h
theorem ad0{l:List Nat}(h:i<l.length):l[i]?=some (l.getD i 0):=by rw[tA,jM h];rfl
def R2:Expr:=sE (ei 1)
theorem af8(hl:∀i∈l,i<X.n)(hz:l.length<=az):aw O (f+40) dR gf (eI X K g l (nQ (some (.list (aO l t))) (r.map (·.2.1)) (r.bind (·.2.2)))) (ei 1)=nx (eI X K g l (nQ (some (.list (aO l t))) (some (.list (aC (cq t X.M l)))) (r.bind (·.2.2)))):=by
 have e:c8 O (f+38) R2 [("lengths",.list (bX X.n X.M)),("left",.list (aC l)),("told",.list (aO l t))] (aC (ax l.length))=some (.list (aC (cq t X.M l))):=by
  refine(wh (v:=λn:Nat=>.int n) (w:=λi=>.int (l.getD i 0:Nat)) (ok:=λi=>decide (X.M (l.getD i 0)<t (l.getD i 0))) ⋯ (λi m=>(show _=((((bQ (.list (aO l t)) (.int i)).bind λa=>((bQ (.list (aC l)) (.int i)).bind λp=>bQ (.list (bX X.n X.M)) p).bind λb=>fe O .Gt a b).bind λb=>if b=false then some false else some true).bind λok=>if ok=true then(bQ (.list (aC l)) (.int i)).map λx=>[x] else some []) by rfl').trans ?_) (aq (aD cF) hz)).trans (af (λl=>some (PV.list l)) (aai (f:=λp:Nat=>PV.int p) (ok:=λp=>decide (X.M p<t p))));have h:=ad0 (eL m);have hm:l.getD i 0∈l:=TL h;rw[show bQ (.list (aC l)) (.int i)=some (.int (l.getD i 0:Nat)) from tj h,show bQ (.list (aO l t)) (.int i)=some (.int (t (l.getD i 0):Nat)) from tj h];show((((bQ (.list (bX X.n X.M)) (.int (l.getD i 0:Nat))).bind λb=>fe O .Gt (.int (t (l.getD i 0):Nat)) b).bind λb=>if b=false then some false else some true).bind λok=>if ok=true then some [PV.int (l.getD i 0:Nat)] else some [])=_;rw[IS (hl _ hm)];show(((some (decide (((X.M (l.getD i 0):Nat):Int)<(t (l.getD i 0):Nat)))).bind λb=>if b=false then some false else some true).bind λok=>if ok=true then some [PV.int (l.getD i 0:Nat)] else some [])=_;rw[show decide (((X.M (l.getD i 0):Nat):Int)<(t (l.getD i 0):Nat))=decide (X.M (l.getD i 0)<t (l.getD i 0)) from fA u9];cases decide (X.M (l.getD i 0)<t (l.getD i 0))<;>rfl
 refine bg (n:=f+39) (K:=bI dR "short" false) (p:=.list (aC (cq t X.M l))) ⋯ ((show _=(f9 0 ((aC l).length:Nat)).bind λv=>over v (c8 O (f+38) R2 [("lengths",.list (bX X.n X.M)),("left",.list (aC l)),("told",.list (aO l t))]) by rcases r with _|⟨_,_,_|_⟩<;>rfl').trans ?_) (by rcases r with _|⟨_,_,_|_⟩<;>rfl');rw[show(aC l).length=l.length from bi _];exact aG (nO hz) ((sR _).trans e)
end
section
variable{X:SX}{K:Int}{n:Nat}{l1 l2:List Nat}{a b:PV}{c o:Option PV}{nm:aN}{mu:List Str}{σ:ar}{x:Str}{v k:PV}{L L':List PV}{ix:Expr}{rr:aZ}
theorem NS(hs:aw O (n+1) nm mu σ st=(bW (cI O n nm) σ (sE st)).bind λq=>(gu q.2 x).bind λl=>(cI O n nm (bB q.2) ix).bind λk=>(kh l k q.1).bind λl'=>eD (putN nm x (.own l') q.2))(he:cI O n nm (fL σ) (sE st)=some v)(hw:gu σ x=some L)(hi:cI O n nm (bB σ) ix=some k)(hp:kh L k v=some L')(hk:eD (putN nm x (.own L') σ)=rr):aw O (n+1) nm mu σ st=rr:=hs.trans (aG (wj he) (aG hw (aG hi (aG hp hk))))
def Jg(i:Nat):aH:=aJ (sB 0 (ei 3)) i
noncomputable def hH(g M:Nat->Nat)(s:List Nat)(i:Nat):Nat:=if i∈s then M i else g i
theorem Vp:hH (gz g p (t p)) t s=hH g t (p::s):=funext λc=>by
 unfold hH gz;by_cases m:c∈s
 ·rw[iP m,iP (.tail _ m)]
 ·rw[iN m];by_cases e:c=p
  ·rw[iP e,iP (e▸ .head _),e]
  ·rw[iN e,iN λh=>(bw h).elim e m]
theorem acA:∀{s:List Nat} {K:Int} {g:Nat->Nat} {c:Option PV},(∀i∈s,i<X.n)->∃c',dX (aS (aw O (f+39) dR gf) (sB 0 (ei 3))) dR (sT (ei 3)) (aC s) (eI X K g l (nQ (some a) (some b) c))=nx (eI X (K-su X.M s) (hH g X.M s) l (nQ (some a) (some b) c')):=by
 intro s;induction s with
 |nil=>exact λ{K g c} _=>⟨c,by rw[show hH g X.M []=g from funext λi=>iN eX,show su X.M []=0 from rfl,Int.natCast_zero,Kt];rfl⟩
 |cons p s ih=>
  intro K g c h;obtain⟨c',e⟩:=ih (K:=K-X.M p) (g:=gz g p (X.M p)) (c:=some (.int p)) λi m=>h i (.tail _ m);rw[Vp,Int.sub_sub,<-w6] at e;have hp:=h p (.head _);have iv:bQ (.list (bX X.n X.M)) (.int p)=some (.int (X.M p)):=IS hp;exact⟨c',ik (σ₁:=eI X K g l (nQ (some a) (some b) (some (.int p)))) (by cases c<;>rfl') (aF (st:=Jg 0) (NS (n:=f+38) (x:="given") (k:=.int p) (ix:=bR 1 (sT (Jg 0))) ⋯ ((⋯:_=bQ (.list (bX X.n X.M)) (.int p)).trans iv) ⋯ ⋯ (Jz (g:=g) hp) (⋯:_=nx (eI X K (gz g p (X.M p)) l (nQ (some a) (some b) (some (.int p)))))) (aF (st:=Jg 1) (bg (n:=f+38) (K:=Hs O dR "seats" .Sub (.int K)) ⋯ ((⋯:_=bQ (.list (bX X.n X.M)) (.int p)).trans iv) ⋯) rfl)) e⟩
theorem Oz:kR 4 (.int p) (aC s)=some (decide (p∈s)):=by
 induction s with
 |nil=>rfl
 |cons a s ih=>
  refine(af (eP (or ((a:Int)==(p:Int)))) ih).trans (af some ?_);by_cases e:a=p
  ·subst e;rw[beq_self_eq_true,dT (show a∈a::s from .head _)];rfl
  ·rw[kH λh=>e (w3.mp h),Bool.false_or];exact fA (jO.trans (or_iff_right (gV e))).symm
def NZ:Expr:=sE (ei 4)
theorem ado(hz:l.length<=az):aw O (f+40) dR gf (eI X K g l (nQ (some a) (some (.list (aC (cq t X.M l)))) c)) (ei 4)=nx (eI X K g (jE t X.M l) (nQ (some a) (some (.list (aC (cq t X.M l)))) c)):=by
 have e:c8 O (f+38) NZ [("short",.list (aC (cq t X.M l)))] (aC l)=some (.list (aC (jE t X.M l))):=by
  refine(wh (v:=λn:Nat=>.int n) (w:=λn:Nat=>.int n) (ok:=λp=> !decide (p∈cq t X.M l)) ⋯ (λp m=>(show _=((((kR 4 (.int p) (aC (cq t X.M l))).map not).bind λb=>if b=false then some false else some true).bind λok=>if ok=true then some [PV.int p] else some []) by rfl').trans (by rw[Oz];cases decide (p∈cq t X.M l)<;>rfl)) hz).trans (af (λl=>some (PV.list (aC l))) (CG λp m=>?_));by_cases k:X.M p<t p
  ·rw[dT (show p∈cq t X.M l from oV ⟨m,dT k⟩),dF (nF k)];rfl
  ·rw[dF (λh=>k (cC (eJ h).2):p∉cq t X.M l),dT (cZ k)];rfl
 exact bg (n:=f+39) (K:=bI dR "left" false) (p:=.list (aC (jE t X.M l))) ⋯ ((show _=c8 O (f+38) NZ [("short",.list (aC (cq t X.M l)))] (aC l) by cases c<;>rfl').trans e) (by cases c<;>rfl')
def v3:aH:=aJ (sB 0 (ei 2)) 0
noncomputable def D0(a b:PV)(c o:Option PV):ar:=("told",.pv a)::("short",.pv b)::c.elim (o.elim [] λo=>[("i",.pv o)]) λc=>("party",.pv c)::o.elim [] λo=>[("i",.pv o)]
theorem ad1(hl:∀i∈l,i<X.n):∀{l2 l1:List Nat} {o:Option PV},l=l1++l2->∃o',dX (aS (aw O (f+38) dR gf) (sB 0 v3)) dR (sT v3) (aC (gW l1.length l2.length)) (eI X K (hH g t l1) l (D0 (.list (aO l t)) b c o))=nx (eI X K (hH g t l) l (D0 (.list (aO l t)) b c o')):=by
 intro l2;induction l2 with
 |nil=>exact λ{l1 o} e=>⟨o,by rw[e,gO];rfl⟩
 |cons p l2 ih=>
  intro l1 o e;obtain⟨o',h⟩:=ih (l1:=l1++[p]) (o:=some (.int l1.length)) (e.trans (kx l1 [p] l2).symm);have ha:=EM e;have hp:p<X.n:=hl p (TL ha);have i1:bQ (.list (aO l t)) (.int l1.length)=some (.int (t p)):=tj ha;have i2:bQ (.list (aC l)) (.int l1.length)=some (.int p):=tj ha;rw[da,show hH g t (l1++[p])=gz (hH g t l1) p (t p) from funext λx=>by
   unfold hH gz;by_cases q:x=p
   ·rw[iP q,iP (fE _ (Gi.mpr q)),q]
   ·rw[iN q,ite_congr (propext (Lh.trans (or_iff_left λh=>q (cY h)))) (λ_=>rfl) λ_=>rfl]] at h
  generalize l1.length=i at*;exact⟨o',ik (σ₁:=eI X K (hH g t l1) l (D0 (.list (aO l t)) b c (some (.int i)))) (by cases c<;>cases o<;>rfl') (aF (st:=aJ (sB 0 v3) 0) (NS (n:=f+37) (x:="given") (k:=.int p) (ix:=bR 1 (sT (aJ (sB 0 v3) 0))) ⋯ ((show _=bQ (.list (aO l t)) (.int i) by cases c<;>rfl').trans i1) ⋯ ((show _=bQ (.list (aC l)) (.int i) by cases c<;>rfl').trans i2) (Jz (g:=hH g t l1) hp) ⋯) rfl) h⟩
end
section
variable{X:SX}{n K b:Nat}{q:Nat->Nat->Int}{rk:Nat->Nat}{bp:List Nat->Nat->Nat->Nat}{r:S3}
def OT(o:aZ)(v:PV):Prop:=∃σ,o=some (.ret v,σ)
structure AS(O:aK)(X:SX)(bp:List Nat->Nat->Nat->Nat)(b:Nat):Prop where
 fn:∀{l:List Nat} {K:Nat},l.Sublist X.ps->l≠[]->lJ b 6 l K->O.fn "compute" [.str X.bM,.list (l.map λi=>.int (X.v i)),.int K] []=some (.list (aO l (bp l K)))
 lt:∀i∈X.ps,i<X.n
 iY:X.ps.length<=az
def oO(r:S3):ar:=nQ (r.map (·.1)) (r.map (·.2.1)) (r.bind (·.2.2))
def Es(a b:PV)(r:S3):ar:=nQ (some a) (some b) (r.bind (·.2.2))
theorem MO(H:AS O X bp b)(s:l.Sublist X.ps)(h0:l≠[])(G:lJ b 6 l K){R:aZ}{L:List aH}(h:aS (aw O (f+40) dR gf) L (eI X K g l (Es (.list (aO l (bp l K))) (.list (aC (cq (bp l K) X.M l))) r))=R):aS (aw O (f+40) dR gf) (ei 0::ei 1::L) (eI X K g l (oO r))=R:=
 have hl:∀i∈l,i<X.n:=λi m=>H.lt i (s.mem m);have hz:=aq s.length_le H.iY
 aF (ae4 hl hz (H.fn s h0 G)) (aF (af8 hl hz) h)
theorem My{R:aZ}(hl:l≠[])(h:(a9 O (f+40) dR gf (eI X K g l (oO r)) [ei 0,ei 1,ei 2,ei 3,ei 4]).bind (λq=>if q.1.hZ=true then aw O (f+40) dR gf q.2 (jR 2) else some q)=R):aw O (f+41) dR gf (eI X K g l (oO r)) (jR 2)=R:=by
 obtain⟨p,l,rfl⟩:=CB hl;refine(show _=(fF O (f+40) dR (bB (eI X K g (p::l) (oO r))) (sE (jR 2))).bind λz=>if z=true then(a9 O (f+40) dR gf (eI X K g (p::l) (oO r)) [ei 0,ei 1,ei 2,ei 3,ei 4]).bind λq=>if q.1.hZ=true then aw O (f+40) dR gf q.2 (jR 2) else some q else some (.next,eI X K g (p::l) (oO r)) by rfl').trans (aG (a:=true) ⋯ h)
theorem N3{B:Bool}(h:decide (s=[])=B){R:aZ}{a:PV}(k:aS (aw O (f+39) dR gf) (if B=true then sB 0 (ei 2) else sB 1 (ei 2)) (eI X K g l (Es a (.list (aC s)) r))=R):aw O (f+40) dR gf (eI X K g l (Es a (.list (aC s)) r)) (ei 2)=R:=by
 subst h;exact cN (n:=f+39) ⋯ (by cases s<;>rfl') k
theorem Zq(hl:∀i∈l,i<X.n)(hz:l.length<=az){b:PV}:OT (aS (aw O (f+39) dR gf) (sB 0 (ei 2)) (eI X K g l (Es (.list (aO l t)) b r))) (.list (bX X.n (hH g t l))):=by
 obtain⟨o,e⟩:=ad1 (O:=O) (f:=f) (K:=K) (g:=g) (t:=t) (b:=b) (c:=r.bind (·.2.2)) hl (l1:=[]) (l2:=l) (o:=none) rfl;rw[show hH g t []=g from funext λi=>iN eX] at e;refine⟨_,(show _=aS (aw O (f+39) dR gf) [v3,aJ (sB 0 (ei 2)) 1] (eI X K g l (D0 (.list (aO l t)) b (r.bind (·.2.2)) none)) by rcases r with _|⟨_,_,_|_⟩<;>rfl').trans (aF (bg (n:=f+38) (K:=fY (aw O (f+38) dR gf) dR (sT v3) (sB 0 v3)) ⋯ ((show _=f9 0 ((aC l).length:Nat) by rcases r with _|⟨_,_,_|_⟩<;>rfl').trans ((af (λn:Nat=>f9 0 n) (bi _)).trans (nO hz))) (Ai (by rw[yQ];exact e))) (sH (v9 (n:=f+38) ⋯ (by rcases r with _|⟨_,_,_|_⟩<;>cases o<;>rfl'))))⟩
theorem ad2(H:AS O X bp b)(s:l.Sublist X.ps)(h0:l≠[])(G:lJ b 6 l K)(hs:cq (bp l K) X.M l≠[])(hK:su X.M (cq (bp l K) X.M l)<=K):∃r':S3,∀{R:aZ},aw O (f+40) dR gf (eI X (K-su X.M (cq (bp l K) X.M l):Nat) (hH g X.M (cq (bp l K) X.M l)) (jE (bp l K) X.M l) (oO r')) (jR 2)=R->aw O (f+41) dR gf (eI X K g l (oO r)) (jR 2)=R:=by
 have hl:∀i∈l,i<X.n:=λi m=>H.lt i (s.mem m);have hz:=aq s.length_le H.iY;obtain⟨c',e⟩:=acA (O:=O) (X:=X) (f:=f) (l:=l) (a:=.list (aO l (bp l K))) (b:=.list (aC (cq (bp l K) X.M l))) (s:=cq (bp l K) X.M l) (K:=K) (g:=g) (c:=r.bind (·.2.2)) λi m=>hl i (eJ m).1;rw[<-Ge hK] at e;refine⟨some (.list (aO l (bp l K)),.list (aC (cq (bp l K) X.M l)),c'),λ{R} k=>My h0 (aG (a:=(fS.next,eI X (K-su X.M (cq (bp l K) X.M l):Nat) (hH g X.M (cq (bp l K) X.M l)) (jE (bp l K) X.M l) (oO (some (.list (aO l (bp l K)),.list (aC (cq (bp l K) X.M l)),c'))))) (MO H s h0 G ?_) k)⟩;generalize bp l K=t at*;refine aF (N3 (dF hs) rfl) (aF (bg (n:=f+39) (K:=fY (aw O (f+39) dR gf) dR (sT (ei 3)) (sB 0 (ei 3))) (p:=.list (aC (cq t X.M l))) ⋯ (by rcases r with _|⟨_,_,_|_⟩<;>rfl') (rY e)) (aF (ado hz) rfl))
theorem e_(H:AS O X bp b)(A:Bc q rk X.ps bp b 6):∀{n:Nat} {l:List Nat} {K:Nat} {g:Nat->Nat} {r:S3},l.length<n->l.Sublist X.ps->l≠[]->lJ b 6 l K->K<=su X.M l->(∀i,g i=if i∈X.ps then(if i∈l then g i else X.M i) else 0)->OT (aw O (f+n+40) dR gf (eI X K g l (oO r)) (jR 2)) (.list (bX X.n λi=>if i∈X.ps then rE bp X.M n l K i else 0)):=by
 intro n;induction n with
 |zero=>exact λh=>absurd h (y9 _)
 |succ n ih=>
  intro l K g r hn s h0 G hK hg;have hl:∀i∈l,i<X.n:=λi m=>H.lt i (s.mem m);have hz:=aq s.length_le H.iY;have C:=A l K s h0 G;by_cases hs:cq (bp l K) X.M l=[]
  ·have es:rE bp X.M (n+1) l K=λi=>if i∈l then bp l K i else X.M i:=iP hs;obtain⟨σ,e⟩:=Zq (O:=O) (f:=f+n) (K:=K) (g:=g) (t:=bp l K) (r:=r) hl hz (b:=.list (aC (cq (bp l K) X.M l)));rw[es,show(λi=>if i∈X.ps then(if i∈l then bp l K i else X.M i) else 0)=hH g (bp l K) l from funext λi=>by
    unfold hH;by_cases m:i∈l
    ·rw[iP (s.mem m),iP m,iP m]
    ·rw[iN m,iN m,hg i,iN m]]
   exact⟨σ,My h0 ((af (λo:aZ=>o.bind λq=>if q.1.hZ=true then aw O (f+n+40) dR gf q.2 (jR 2) else some q) (MO H s h0 G (sH (N3 (dT hs) e)))).trans rfl)⟩
  ·have es:rE bp X.M (n+1) l K=rE bp X.M n (jE (bp l K) X.M l) (K-su X.M (cq (bp l K) X.M l)):=iN hs;obtain⟨c,l',ec⟩:=CB hs;have N:=C.next G (ec▸ .head _:c∈cq (bp l K) X.M l);have mc:=eJ (ec▸ .head _:c∈cq (bp l K) X.M l);obtain⟨r',e⟩:=ad2 (O:=O) (f:=f+n) (g:=g) (r:=r) H s h0 G hs (cy N.1);rw[es];clear es ec l';generalize bp l K=t at*;have K':K-su X.M (cq t X.M l)<=su X.M (jE t X.M l):=Uf.mpr (aq hK (aD EO));have n0:jE t X.M l≠[]:=λe=>nF N.2.one (aq K' (aD (af (su X.M) e)));refine(ih (l:=jE t X.M l) (g:=hH g X.M (cq t X.M l)) (r:=r') (ba (aha.mpr ⟨c,mc.1,λk=>nF (cC mc.2) (cC k)⟩) (ju hn)) (u0.trans s) n0 N.2 K' λi=>?_).imp λσ k=>e k;unfold hH;by_cases m:i∈cq t X.M l
   ·have m':=eJ m;rw[iP m,iP (s.mem m'.1)];exact(ite_self _).symm
   ·rw[iN m];refine(hg i).trans ?_;by_cases ml:i∈l
    ·rw[iP ml,iP (show i∈jE t X.M l from oV ⟨ml,dT (cZ λk=>m (oV ⟨ml,dT k⟩))⟩)]
    ·rw[iN ml,iN (λh=>ml (eJ h).1:i∉jE t X.M l)]
theorem adQ(H:AS O X bp b)(A:Bc q rk X.ps bp b 6)(h0:X.ps≠[])(G:lJ b 6 X.ps K)(hK:K<=su X.M X.ps)(hn:X.n<=az)(hp:X.ps.length<=900):
  bm O NN A1 [.str X.bM,.list (bX X.n X.v),.list (bX X.n X.M),.int K,.list (aC X.ps)] []=some (.list (bX X.n λi=>if i∈X.ps then rE bp X.M (X.ps.length+1) X.ps K i else 0)):=by
 obtain⟨σ,e⟩:=e_ (f:=999960- (X.ps.length+1)) H A (n:=X.ps.length+1) (g:=λ_=>0) (r:=none) (i5 _) (.refl _) h0 G hK λi=>by
  by_cases m:i∈X.ps
  ·rw[iP m,iP m]
  ·rw[iN m]
 rw[show 999960- (X.ps.length+1)+(X.ps.length+1)+40=NN from af (· +40) (F0 (aq (yP hp) (by decide)))] at e;have e0:c8 O 999998 (sE (jR 0)) [] (bX X.n X.v)=some (.list (bX X.n λ_=>0)):=ni (v:=λi=>.int (X.v i)) (w:=λ_=>.int (0:Nat)) ⋯ (λi _=>⋯) (aq (aD cF) hn);refine(⋯:_=cm (a9 O NN dR gf [("method",.pv (.str X.bM)),("votes",.pv (.list (bX X.n X.v))),("lengths",.pv (.list (bX X.n X.M))),("seats",.pv (.int K)),("order",.pv (.list (aC X.ps)))] [jR 0,jR 1,jR 2,jR 3])).trans (dz (bg (n:=999999) (K:=bI dR "given" true) (p:=.list (bX X.n λ_=>0)) ⋯ ((⋯:_=c8 O 999998 (sE (jR 0)) [] (bX X.n X.v)).trans e0) rfl) (dz (σ₁:=eI X K (λ_=>0) X.ps (oO none)) (bg (n:=999999) (K:=bI dR "left" false) (p:=.list (aC X.ps)) ⋯ ((⋯:_=if(aC X.ps).length<=az then some (PV.list (aC X.ps)) else none).trans (iP (aq (aD (bi _)) H.iY))) ⋯) (af cm (sH e))))
end
end
section
variable{O:aK}{ps want:List (List Nat)}{σ:ar}{st:aH}
section
def o0:List aH:=match O2 with
 |.FunctionDef _ _ body _ _ _ _ _ _ _=>body|_=>[]
def aU:aN:=match O2 with
 |.FunctionDef _ _ _ _ _ _ scope _ _ _=>scope.names|_=>[]
def bl(i:Nat):aH:=aJ o0 i
noncomputable def cr:List Str:=["lengths","parties","due","wanted","made"]
structure LX where
 sc:List Int
 H:Nat
 κ:Nat
 t:Bool
 nu:Nat->Nat
 L:Nat->Nat
 V:Nat->Nat
 s:Nat
 le:Nat
 K:Nat
noncomputable def LX.mm(X:LX):Nat:=cond X.t 3 2
noncomputable def LX.lg(X:LX):Nat:=cond X.t 2 3
def OV(X:LX)(r:ar):ar:=("script",.pv (.list (cL X.sc)))::("head",.pv (.int X.H))::("kind",.pv (.int X.κ))::r
def AL(X:LX)(r:ar):ar:=OV X (("many",.pv (.int X.mm))::("method",.pv (.str (nn.getD X.κ "")))::r)
def uG(X:LX)(r:ar):ar:=AL X (("numbers",.pv (.list (bX (1+X.mm) X.nu)))::("longest",.pv (.int X.lg))::r)
noncomputable def num(sc:List Int)(i:Nat):Nat:=(sc.getD (i+1) 0).natAbs
structure Fd(X:LX):Prop where
 H:X.H=(X.sc.headD 0).natAbs
 κ:X.κ=X.H%5
 t:X.mm=2+X.H/5%2
 nu:X.nu=num X.sc
 iY:X.sc.length<=100
variable{X:LX}{x y m k:Nat}{sc l:List Int}
theorem fm:zm (x:Int) (y:Int)=((x%y:Nat):Int):=Km _ (fP y)
theorem fd:CH (x:Int) (y:Int)=((x/y:Nat):Int):=Fw _ (fP y)
theorem k5(h:Fd X):X.κ<5:=h.κ▸Cs _ (by decide)
theorem acT(h:Fd X):a9 O NN aU cr [("script",.pv (.list (cL X.sc)))] [bl 0,bl 1,bl 2,bl 3]=nx (AL X []):=by
 have z0:aw O NN aU cr [("script",.pv (.list (cL X.sc)))] (bl 0)=nx [("script",.pv (.list (cL X.sc))),("head",.pv (.int X.H))]:=by
  rw[h.H];cases X.sc with
  |nil=>rfl'|cons a r=>exact bg (n:=999999) (K:=bI aU "head" false) ⋯ ((show _=((bQ (.list (.int a::cL r)) (.int 0)).bind λv=>some [v]).bind λvs=>nV O "abs" vs [] by rfl').trans (by rw[Im];rfl)) ⋯
 have it:bQ (.list (nn.map PV.str)) (.int X.κ)=some (.str (nn.getD X.κ "")):=AX (P:=λκ=>bQ (.list (nn.map PV.str)) (.int κ)=some (.str (nn.getD κ ""))) rfl rfl rfl rfl rfl _ (k5 h);have e2:(2:Int)+zm (CH (X.H:Int) ((5:Nat):Int)) ((2:Nat):Int)=X.mm:=by rw[fd,fm,h.t];rfl
 exact aF z0 (aF (bg (n:=999999) (K:=bI aU "kind" false) (p:=.int X.κ) ⋯ ((⋯:_=some (PV.int (zm (X.H:Int) ((5:Nat):Int)))).trans (by rw[fm,<-h.κ])) (⋯:_=nx (OV X []))) (aF (bg (n:=999999) (K:=bI aU "many" false) (p:=.int X.mm) ⋯ ((⋯:_=some (PV.int ((2:Int)+zm (CH (X.H:Int) ((5:Nat):Int)) ((2:Nat):Int)))).trans (by rw[e2])) rfl) (aF (bg (n:=999999) (K:=bI aU "method" false) ⋯ ((⋯:_=bQ (.list (nn.map PV.str)) (.int X.κ)).trans it) ⋯) rfl)))
theorem U0{α:Type}{l:List α}{j:Nat}:jz l none (some (j:Int))=l.take j:=by
 show(l.drop 0).take (wI l.length j-0)=_;rw[clipAt_nat,List.drop_zero,Nat.sub_zero];rcases K7 j l.length with h|h
 ·rw[wW h]
 ·rw[T6 h,Tl,zk h]
theorem afd{α:Type}{l:List α}{j:Nat}:jz l (some ((1:Nat):Int)) (some (((1+j:Nat)):Int))=(l.drop 1).take j:=by
 show(l.drop (wI l.length (1:Nat))).take (wI l.length (1+j:Nat) -wI l.length (1:Nat))=_;cases l with
 |nil=>rw[FR,FR,u5,u5]
 |cons a l=>
  rw[clipAt_nat,clipAt_nat,show min 1 (a::l).length=1 from wW (eE _),gj 1 j,show(a::l).length=l.length+1 from rfl,Nat.add_min_add_right,wY];show l.take (min j l.length)=l.take j;rcases K7 j l.length with h|h
  ·rw[wW h]
  ·rw[T6 h,Tl,zk h]
theorem VK{α:Type}{d:α}:∀{m k:Nat} {l:List α},m<=k->(l.take m++kt k d).take m=(ax m).map λi=>l.getD i d:=by
 intro m;induction m with
 |zero=>exact λ_=>List.take_zero
 |succ m ih=>
  intro k l h;rw[yL,oB,jt];cases l with
  |nil=>
   obtain⟨k,rfl⟩:=u6 (fO (ba (eE m) h));have:=ih (l:=[]) (KC h);rw[u5,K6] at this;rw[u5,K6];exact af (d:: ·) this
  |cons a l=>exact af (a:: ·) (ih (l:=l) (lF h))
theorem VH{i:Nat}:((cL sc).drop 1).getD i (.int 0)=.int (sc.getD (i+1) 0):=by
 cases sc with
 |nil=>rfl
 |cons a l=>
  show(cL l).getD i (.int 0)=.int (l.getD i 0);rw[tA,tA,show(cL l)[i]?=l[i]?.map PV.int from oy];cases l[i]?<;>rfl
theorem adY:((((cL sc).drop 1).take m)++dQ m λ_=>PV.int 0).take m=dQ m λi=>.int (sc.getD (i+1) 0):=by
 rw[show(dQ m λ_=>PV.int 0)=kt m (.int 0) from(List.map_const ..).trans (af (λn=>kt n _) cF),VK (bf m)];exact af (dQ m) (funext λi=>VH)
theorem vD:X.mm<=3:=by
 unfold LX.mm;cases X.t<;>decide
theorem adm(h:Fd X):aw O NN aU cr (AL X []) (bl 4)=nx (AL X [("numbers",.pv (.list (bX (1+X.mm) X.nu)))]):=by
 have hm:1+X.mm<=100:=aq (i3 vD 1) (by decide);refine bg (n:=999999) (K:=bI aU "numbers" false) (p:=.list (bX (1+X.mm) X.nu)) ⋯ ((show _=((((fV O .Mult (.list [.int 0]) (.int (1+X.mm:Nat))).bind λb=>fV O .Add (.list (jz (cL X.sc) (some ((1:Nat):Int)) (some ((2+X.mm:Nat):Int)))) b).bind λa=>a.io.map λl=>PV.list (jz l none (some ((1+X.mm:Nat):Int)))).bind λv=>over v (c8 O 999998 (sE (bl 4)) [])) by rfl').trans ?_) ⋯;rw[HE hm,show 2+X.mm=1+(1+X.mm) from fC 1 1 _,afd];refine aG (aG (aG rfl (iP ?_)) (show _=some (PV.list (dQ (1+X.mm) λi=>.int (X.sc.getD (i+1) 0))) from af (λl=>some (PV.list l)) (U0.trans adY))) (ni (v:=λi=>.int (X.sc.getD (i+1) 0)) (w:=λi=>.int (X.nu i)) ⋯ (λi _=>by rw[h.nu];rfl') ?_)
 ·rw[FS,tW];exact aq (B8 (aq (Nat.min_le_left ..) hm) hm) (by decide)
 ·exact aq (aD cF) (aq hm (by decide))
end
section
noncomputable def LX.at(X:LX)(b:Bool):LX:={X with t:=b}
@[elab_as_elim] theorem tC{P:LX->Prop}(X:LX)(h2:P (X.at false))(h3:P (X.at true)):P X:=Bool.rec (motive:=λb=>P (X.at b)) h2 h3 X.t
def nG(X:LX)(i:Nat):Nat:=1+X.nu i%X.lg
def IG(X:LX)(i:Nat):Nat:=1+X.nu i/X.lg
theorem Et{n i:Nat}{g:Nat->Nat}(h:i<n):bQ (.list (bX n g)) (.int i)=some (.int (g i)):=DS (h:=λi=>.int (g i)) h
theorem ac4{n i x:Nat}{g:Nat->Nat}(h:i<n):kh (bX n g) (.int i) (.int x)=some (bX n (gz g i x)):=Jz (X:=⟨n,"",g,g,[]⟩) h
theorem NP{x y:Nat}(h:y≠0):fw .Mod x y=some (.int (x%y:Nat)):=(rfl:_=if(y:Int)≠0 then some (PV.int (zm x y)) else none).trans ((iP (Int.natCast_ne_zero.mpr h)).trans (af (λi=>some (PV.int i)) fm))
variable{X:LX}{L:Nat->Nat}{r:ar}{fz:Bool}
theorem aeZ:aw O NN aU cr (AL X [("numbers",.pv (.list (bX (1+X.mm) X.nu)))]) (bl 5)=nx (uG X []):=tC X ⋯ ⋯
def gx(X:LX)(L:Nat->Nat)(fz:Bool)(r:ar):ar:=uG X (("lengths",.qp fz (bX X.mm L))::("votes",.pv (.list (bX X.mm X.V)))::r)
theorem ZN:aw O NN aU cr (uG X []) (bl 6)=nx (uG X [("lengths",.own (bX X.mm (nG X)))]):=
 bg (n:=999999) (K:=bI aU "lengths" true) (p:=.list (bX X.mm (nG X))) ⋯ ((show cI O 999999 aU (fL (uG X [])) (sE (bl 6))=some (.list (dQ X.mm λi=>.int (1+zm (X.nu i) X.lg))) from tC X ⋯ ⋯).trans (af (λf=>some (PV.list (dQ X.mm f))) (funext λi=>by rw[fm];rfl))) ⋯
theorem adp(h:X.V=IG X):aw O NN aU cr (uG X [("lengths",.own (bX X.mm L))]) (bl 7)=nx (gx X L false []):=
 bg (n:=999999) (K:=bI aU "votes" false) (p:=.list (bX X.mm X.V)) ⋯ ((show cI O 999999 aU (fL (uG X [("lengths",.own (bX X.mm L))])) (sE (bl 7))=some (.list (dQ X.mm λi=>.int (1+CH (X.nu i) X.lg))) from tC X ⋯ ⋯).trans (af (λf=>some (PV.list (dQ X.mm f))) (funext λi=>by rw[fd,h];rfl))) ⋯
def pA(m:Nat)(L:Nat->Nat):Nat:=su L (ax m)
noncomputable def kO(κ:Nat):Bool:=(1:Int)==(κ:Int)||((3:Int)==(κ:Int)||false)
def yE(X:LX)(L:Nat->Nat):Nat->Nat:=if(kO X.κ&&decide (5<pA X.mm L))=true then gz L 0 (L 0-1) else L
theorem ϗ(h1:1<=L 0):aw O NN aU cr (gx X L false []) (bl 8)=nx (gx X (yE X L) false []):=by
 have e:fF O 999999 aU (bB (gx X L false [])) (sE (bl 8))=(some (kO X.κ)).bind λb=>if b=false then some false else(some (decide ((5:Int)<(pA X.mm L:Nat)))).bind λb=>if b=false then some false else some true:=tC X ⋯ ⋯;refine cN (n:=999999) (b:=kO X.κ&&decide (5<pA X.mm L)) ⋯ (e.trans ?_) ?_
 ·rw[show decide ((5:Int)<(pA X.mm L:Nat))=decide (5<pA X.mm L) from fA u9];cases kO X.κ<;>cases decide (5<pA X.mm L)<;>rfl
 unfold yE;cases kO X.κ&&decide (5<pA X.mm L) with
 |false=>rfl'
 |true=>
  have p:0<X.mm:=tC (P:=λX=>0<X.mm) X (eE _) (eE _);exact(⋯:_=a9 O 999999 aU cr (gx X L false []) [aJ (sB 0 (bl 8)) 0]).trans (jY.trans (IZ (n:=999998) (x:="lengths") (op:=.Sub) (l:=bX X.mm L) (k:=.int (0:Nat)) (a:=.int (L 0)) (w:=.int 1) (p:=.int (L 0-1:Nat)) ⋯ (Et p) ⋯ (af (λi=>some (PV.int i)) (Ge h1).symm) ⋯ (ac4 p) ⋯))
theorem aem(h:X.s=pA X.mm L):aw O NN aU cr (gx X L false []) (bl 9)=nx (gx X L false [("size",.pv (.int X.s))]):=
 uq (n:=999999) (K:=bI aU "size" false) (p:=.int X.s) ⋯ ⋯ (by rw[h];exact tC X ⋯ ⋯) ⋯ ⋯
noncomputable def k4(κ:Nat):Bool:=(κ:Int)==4
theorem afT(h:X.le=cond (k4 X.κ) X.mm 1):aw O NN aU cr (gx X L false [("size",.pv (.int X.s))]) (bl 10)=nx (gx X L false [("size",.pv (.int X.s)),("least",.pv (.int X.le))]):=
 bg (n:=999999) (K:=bI aU "least" false) (p:=.int X.le) ⋯ ((show _=(some (k4 X.κ)).bind λr=>if r=true then some (PV.int X.mm) else some (.int (1:Nat)) by rfl').trans (by
  rw[h];cases k4 X.κ<;>rfl)) ⋯
noncomputable def nE(X:LX)(r:ar):ar:=("size",.pv (.int X.s))::("least",.pv (.int X.le))::("k",.pv (.int X.K))::r
theorem aea(hl:X.le<=X.s)(h:X.K=X.le+X.H/10%(X.s-X.le+1)):aw O NN aU cr (gx X L false [("size",.pv (.int X.s)),("least",.pv (.int X.le))]) (bl 11)=nx (gx X L false (nE X [])):=by
 refine bg (n:=999999) (K:=bI aU "k" false) (p:=.int X.K) ⋯ ((show _=(fw .Mod (CH X.H (10:Nat)) ((X.s:Int) -X.le+(1:Nat))).bind λb=>fV O .Add (.int X.le) b by rfl').trans ?_) ⋯;rw[fd,<-Ge hl,h];exact aG (NP (rg _)) rfl
end
section
def lists(l:List (List Nat)):List PV:=l.map lst
noncomputable def iZ(s pl len:Nat):List Nat:=(ax len).map λj=>(pl+j)%s
def lB(X:LX)(vs:List (List Nat×Nat))(ps:List (List Nat))(pl:Nat)(fz:Bool)(r:ar):ar:=gx X X.L fz (nE X (("made",.a7 bv (eW X.s vs) fK)::("parties",.own (lists ps))::("place",.pv (.int pl))::r))
noncomputable def kT(o:Option PV):ar:=o.elim [] λi=>[("i",.pv i)]
def wl:aH:=bl 15
def DW(i:Nat):aH:=aJ (sB 0 wl) i
def zI(st:aH):Expr:=bR 0 (sE st)
variable{X:LX}{i pl n:Nat}{vs:List (List Nat×Nat)}{A P l:List Nat}{fz:Bool}{nm:aN}{mu:List Str}{σ₁:ar}{e:Expr}{p:PV}{r:aZ}{x:Str}{l0 L:List PV}{c:Nat}{fs eY:List (Str×PV)}{ow:List Str}
theorem Ja(h0:cI O n nm (fL σ) e=none)(h:cI O n nm (bB σ) e=some p)(hc:(σ.any λq=>q.2.kM&&q.2.seen p)=false)(hf:dZ p σ=σ₁):bW (cI O n nm) σ e=some (p,σ₁):=by
 subst hf;unfold bW;rw[h0,h];exact iN (ne_true_of_eq_false hc)
theorem GY(hs:aw O (n+1) nm mu σ st=if l0.length<az then(bW (cI O n nm) σ (zI st)).bind λq=>(gu q.2 x).bind λl=>eD (putN nm x (.own (l++[q.1])) q.2) else none)(hl:l0.length<az)(he:bW (cI O n nm) σ (zI st)=some (p,σ₁))(ho:gu σ₁ x=some L)(hp:eD (putN nm x (.own (L++[p])) σ₁)=r):aw O (n+1) nm mu σ st=r:=hs.trans ((iP hl).trans (aG he (aG ho hp)))
theorem U'(hs:aw O (n+1) nm mu σ st=(bW (cI O n nm) σ (zI st)).bind λq=>(O.l6 c fs ow "add_voter" [q.1]).bind λeY=>eD (putN nm x (.a7 c eY ow) q.2))(he:bW (cI O n nm) σ (zI st)=some (p,σ₁))(hm:O.l6 c fs ow "add_voter" [p]=some eY)(hp:eD (putN nm x (.a7 c eY ow) σ₁)=r):aw O (n+1) nm mu σ st=r:=hs.trans (aG he (aG hm hp))
theorem acB(h:O.make "Profile" [.int X.s] []=some (bv,eW X.s [],fK)):aw O NN aU cr (gx X X.L false (nE X [])) (bl 12)=nx (gx X X.L false (nE X [("made",.a7 bv (eW X.s []) fK)])):=
 (show _=(O.make "Profile" [.int X.s] []).bind λr=>eD (putN aU "made" (.a7 r.1 r.2.1 r.2.2) (gx X X.L false (nE X []))) by rfl').trans (aG h ⋯)
theorem aek:a9 O NN aU cr (gx X X.L false (nE X [("made",.a7 bv (eW X.s []) fK)])) [bl 13,bl 14]=nx (lB X [] [] (X.nu X.mm) false []):=tC X ⋯ ⋯
theorem Y2{ls:List (List PV)}{cs:List (Nat×List Str)}:iq ls cs (aC l)=false:=by
 induction l with
 |nil=>rfl|cons=>assumption
theorem Jn{ls:List (List PV)}{cs:List (Nat×List Str)}:cg ls cs (.list (aC l))=ls.any λm=>m6 m (aC l):=(af ((ls.any λm=>m6 m (aC l))|| ·) Y2).trans (CA _)
theorem Y'{y:Nat}(h:l=y::A):cg [bX X.mm X.L] [] (.list (aC l))=true:=Jn.trans (h▸tC (P:=λX=>([bX X.mm X.L].any λm=>m6 m (aC (y::A)))=true) X rfl rfl)
theorem afc{y:Nat}(h:l=y::A):cg [lists ps] [] (.list (aC l))=false:=Jn.trans (h▸by cases ps<;>rfl)
theorem l_{y s:Nat}(h:l=y::A):cg (wA (eW s vs) fK) [(bv,(eW s vs).map (·.1))] (.list (aC l))=false:=Jn.trans (h▸(by
 show(m6 ((ax s).map ds) (aC (y::A))||(m6 (vs.map bq) (aC (y::A))||false))=false;cases s with
 |zero=>cases vs<;>rfl
 |succ s=>
  rw[yL];cases vs<;>rfl))
def GW(O:aK)(X:LX)(i pl:Nat):Option PV:=(((bQ (.list (bX X.mm X.L)) (.int i)).bind λv=>some [v]).bind λvs=>nV O "range" vs []).bind λv=>over v (c8 O 999997 (zI (DW 0)) [("size",.int X.s),("place",.int pl)])
theorem W1(hs:X.s≠0)(hz:X.L i<=az)(hi:i<X.mm):GW O X i pl=some (lst (iZ X.s pl (X.L i))):=
 aG (aG (aG (Et hi) rfl) (nO hz)) ((sR _).trans ((ni (v:=λn:Nat=>.int n) (w:=λj:Nat=>.int ((pl+j)%X.s:Nat)) ⋯ (λj _=>(show _=(fw .Mod (pl+j:Nat) X.s).map λx=>[x] by rfl').trans (af (eP λx=>[x]) (NP hs))) (aq (aD cF) hz)).trans (af (λl=>some (PV.list l)) (jt (g:=λn:Nat=>PV.int n) (f:=λj=>(pl+j)%X.s)).symm)))
theorem afK(h:1<=X.L i):iZ X.s pl (X.L i)=(pl+0)%X.s::((gW 1 (X.L i-1)).map λj=>(pl+j)%X.s):=by
 obtain⟨m,e⟩:=ag5 h;rw[e];unfold iZ;rw[yQ];rfl
theorem afz(hs:X.s≠0)(hz:X.L i<=az)(h1:1<=X.L i)(hi:i<X.mm)(hp:ps.length<az):aw O 999999 aU cr (lB X vs ps pl fz (kT (some (.int i)))) (DW 0)=nx (lB X vs (ps++[iZ X.s pl (X.L i)]) pl true (kT (some (.int i)))):=by
 have c:=afK (pl:=pl) h1;have v:=W1 (O:=O) (pl:=pl) hs hz hi;generalize iZ X.s pl (X.L i)=P at*;refine GY (n:=999998) (x:="parties") (l0:=lists ps) (L:=lists ps) (p:=lst P) (σ₁:=lB X vs ps pl true (kT (some (.int i)))) (by cases fz<;>rfl') (aQ (aD (bi _)) hp) ?_ ⋯ ((⋯:_=nx (gx X X.L true (nE X (("made",.a7 bv (eW X.s vs) fK)::("parties",.own (lists ps++[lst P]))::("place",.pv (.int pl))::kT (some (.int i)))))).trans (af (λl=>nx (gx X X.L true (nE X (("made",.a7 bv (eW X.s vs) fK)::("parties",.own l)::("place",.pv (.int pl))::kT (some (.int i)))))) (mR (l₁:=ps) (l₂:=[P])).symm));cases fz with
 |true=>exact wj ((⋯:_=GW O X i pl).trans v)|false=>exact Ja ⋯ ((⋯:_=GW O X i pl).trans v) ((⋯:_=(cg (wA (eW X.s vs) fK) [(bv,(eW X.s vs).map (·.1))] (lst P)||false)).trans ((CA _).trans (l_ c))) ((⋯:_=gx X X.L (cg [bX X.mm X.L] [] (lst P)) (nE X (("made",.a7 bv (eW X.s vs) fK)::("parties",.qp (cg [lists ps] [] (lst P)) (lists ps))::("place",.pv (.int pl))::kT (some (.int i))))).trans (by rw[show lst P=.list (aC P) from rfl,Y' c,afc c];rfl))
theorem VG(hi:i<X.mm):aw O 999999 aU cr (lB X vs ps pl true (kT (some (.int i)))) (DW 1)=nx (lB X vs ps (pl+X.L i) true (kT (some (.int i)))):=
 bg (n:=999998) (K:=Hs O aU "place" .Add (.int pl)) ⋯ ((⋯:_=bQ (.list (bX X.mm X.L)) (.int i)).trans (Et hi)) ⋯
structure HQ(O:aK)(X:LX)(P A:List Nat)(vs:List (List Nat×Nat))(i:Nat):Prop where
 fn:O.fn "Voter" [lst P] [("weight",.int (X.V i))]=some (bq (A,X.V i))
 add:O.l6 bv (eW X.s vs) fK "add_voter" [bq (A,X.V i)]=some (eW X.s (vs++[(A,X.V i)]))
theorem Vz(hi:i<X.mm)(hl:ps.length=i)(h:HQ O X P A vs i):aw O 999999 aU cr (lB X vs (ps++[P]) pl true (kT (some (.int i)))) (DW 2)=nx (lB X (vs++[(A,X.V i)]) (ps++[P]) pl true (kT (some (.int i)))):=by
 have e:bQ (.list (lists (ps++[P]))) (.int i)=some (lst P):=tj (by subst hl;exact agR);refine U' (n:=999998) (x:="made") (c:=bv) (fs:=eW X.s vs) (ow:=fK) (p:=bq (A,X.V i)) (σ₁:=lB X vs (ps++[P]) pl true (kT (some (.int i)))) ⋯ (Ja ⋯ ((show _=((bQ (.list (lists (ps++[P]))) (.int i)).bind λv=>some [v]).bind λvs=>((bQ (.list (bX X.mm X.V)) (.int i)).bind λv=>some [(("weight":Str),v)]).bind λks=>O.fn "Voter" vs ks by rfl').trans (aG (aG e rfl) (aG (aG (Et hi) rfl) h.fn))) ⋯ ⋯) h.add ⋯
end
section
def sr(X:LX):Nat->Nat
 |0=>X.nu X.mm|i+1=>sr X i+X.L i
def gq(X:LX)(i:Nat):List Nat:=iZ X.s (sr X i) (X.L i)
def lM(X:LX)(i:Nat):List (List Nat):=(ax i).map (gq X)
def mD(X:LX)(i:Nat):List (List Nat×Nat):=(ax i).map λi=>(d8 (gq X i),X.V i)
structure Fo(O:aK)(X:LX):Prop where
 s0:X.s≠0
 L1:∀i,1<=X.L i
 L3:∀i,X.L i<=3
 vo:∀i,i<X.mm->HQ O X (gq X i) (d8 (gq X i)) (mD X i) i
variable{X:LX}{i:Nat}{fz:Bool}{o:Option PV}
theorem acO(H:Fo O X)(hi:i<X.mm):a9 O 999999 aU cr (lB X (mD X i) (lM X i) (sr X i) fz (kT (some (.int i)))) (sB 0 wl)=nx (lB X (mD X (i+1)) (lM X (i+1)) (sr X (i+1)) true (kT (some (.int i)))):=by
 have e1:lM X (i+1)=lM X i++[gq X i]:=by unfold lM;rw[CE,mR];rfl
 have e2:mD X (i+1)=mD X i++[(d8 (gq X i),X.V i)]:=by unfold mD;rw[CE,mR];rfl
 have hl:(lM X i).length=i:=(bi _).trans cF;rw[e1,e2];exact aF (afz H.s0 (aq (H.L3 i) (by decide)) (H.L1 i) hi (by rw[hl];exact eN hi (aQ vD (by decide)))) (aF (VG hi) (aF (Vz hi hl (H.vo i hi)) rfl))
def yw(X:LX)(r:ar):ar:=lB X (mD X X.mm) (lM X X.mm) (sr X X.mm) true (("i",.pv (.int (X.mm-1:Nat)))::r)
theorem XG(H:Fo O X):∀{m i:Nat} {fz:Bool} {o:Option PV},i+m=X.mm->(m=0->fz=true/\o=some (.int (X.mm-1:Nat)))->dX (aS (aw O 999999 aU cr) (sB 0 wl)) aU (sT wl) (aC (gW i m)) (lB X (mD X i) (lM X i) (sr X i) fz (kT o))=nx (yw X []):=by
 intro m;induction m with
 |zero=>
  intro i fz o e h;obtain⟨rfl,rfl⟩:=h rfl;obtain rfl:i=X.mm:=e;rfl
 |succ m ih=>
  intro i fz o e _;exact ik (by cases fz<;>cases o<;>rfl') (acO (fz:=fz) H (by rw[<-e];exact qX (eE m))) (ih ((wN i m).trans e) λq=>⟨rfl,af (λn:Nat=>some (PV.int n)) (show i=X.mm-1 by rw[<-e,q];rfl)⟩)
theorem Wf(H:Fo O X):aw O NN aU cr (lB X [] [] (X.nu X.mm) false []) (bl 15)=nx (yw X []):=
 bg (n:=999999) (K:=fY (aw O 999999 aU cr) aU (sT wl) (sB 0 wl)) ⋯ ((⋯:_=f9 0 (X.mm:Nat)).trans (nO (aq vD (by decide)))) (Ai ((af (λl=>dX _ aU (sT wl) (aC l) _) yQ).trans (XG (i:=0) (m:=X.mm) (o:=none) H (f5 _) λq=>absurd q (tC (P:=λX=>X.mm≠0) X (rg _) (rg _)))))
section
variable{α:Type}[DecidableEq α]{v:α->PV}{n:Nat}{x:α}{l m:List α}
theorem VN(h:∀a b,du n (v a) (v b)=some (decide (a=b))):∀{m:List α},l.length=m.length->du.qf (du n) (l.map v) (m.map v)=some (decide (l=m)):=by
 induction l with
 |nil=>exact λ{m} e=>by cases m with
  |nil=>rfl|cons=>exact absurd e.symm (rg _)
 |cons x l ih=>exact λ{m} e=>by cases m with
  |nil=>exact absurd e (rg _)
  |cons y m=>
   exact aG (h x y) ((af (eP _) (ih (wK e))).trans (af some ((Bool.decide_and ..).symm.trans (fA List.cons_eq_cons.symm))))
theorem MX(h:∀a b,du n (v a) (v b)=some (decide (a=b))):du (n+1) (.list (l.map v)) (.list (m.map v))=some (decide (l=m)):=by
 refine(rfl:_=if(l.map v).length=(m.map v).length then du.qf (du n) (l.map v) (m.map v) else some false).trans ?_;rw[bi,bi];by_cases e:l.length=m.length
 ·rw[iP e,VN h e]
 ·rw[iN e,dF λq=>e (af _ q)]
theorem XR(h:∀a b,du 4 (v a) (v b)=some (decide (a=b))):kR 4 (v x) (l.map v)=some (decide (x∈l)):=by
 induction l with
 |nil=>rfl
 |cons y l ih=>
  exact aG (h y x) ((af (eP _) ih).trans (af some ((Bool.decide_or ..).symm.trans (fA ((or_congr_left eq_comm).trans jO.symm)))))
end
theorem D4{n:Nat}{l m:List Nat}:du (n+2) (lst l) (lst m)=some (decide (l=m)):=MX (n:=n+1) λa b=>af some (fA w3)
theorem Qr{d:List Nat}{l:List (List Nat)}:kR 4 (lst d) (lists l)=some (decide (d∈l)):=(XR λ_ _=>D4).trans (af some (fA .rfl))
end
section
noncomputable def nL(t:Bool):List (List Nat):=cond t [[0,1,2],[0,2,1],[1,0,2],[1,2,0],[2,0,1],[2,1,0]] [[0,1],[1,0]]
noncomputable def lK(o g:Option PV):ar:=o.elim [] λo=>("order",.pv o)::g.elim [] λg=>[("given",.pv g)]
def nH(X:LX)(aM:List (List Nat))(r:ar):ar:=yw X (("due",.own (lists aM))::r)
def wD:aH:=bl 17
def Ψ(i:Nat):aH:=aJ (sB 0 wD) i
noncomputable def jS(aM:List (List Nat))(g:List Nat):List (List Nat):=if g∈aM then aM else aM++[g]
def oN(O:aK)(X:LX)(M:Nat->Nat)(o:List Nat):Option PV:=O.fn "_law_shared" [.str (nn.getD X.κ ""),.list (bX X.mm X.V),.list (bX X.mm M),.int X.K,lst o] []
variable{X:LX}{aM:List (List Nat)}{o g:List Nat}{a c:PV}{r:Option (PV×PV)}{l:List (List Nat)}{G:List Nat->List Nat}
theorem abG(h:oN O X X.L o=some (lst g))(hz:aM.length<az):a9 O 999999 aU cr (nH X aM (lK (some (lst o)) (r.map (·.2)))) (sB 0 wD)=nx (nH X (jS aM g) (lK (some (lst o)) (some (lst g)))):=by
 refine aF (bg (n:=999998) (K:=bI aU "given" false) (p:=lst g) ⋯ ((show _=oN O X X.L o by cases r<;>rfl').trans h) (show _=nx (nH X aM (lK (some (lst o)) (some (lst g)))) by cases r<;>rfl')) (jY.trans (cN (n:=999998) (b:= !decide (g∈aM)) ⋯ ((⋯:_=(kR 4 (lst g) (lists aM)).map not).trans (af (eP not) Qr)) ?_));unfold jS;by_cases h:g∈aM
 ·rw[iP h,dT h];rfl'
 ·rw[iN h,dF h];exact(⋯:_=a9 O 999998 aU cr (nH X aM (lK (some (lst o)) (some (lst g)))) [aJ (sB 0 (Ψ 1)) 0]).trans (jY.trans (GY (n:=999997) (x:="due") (l0:=lists aM) (L:=lists aM) (p:=lst g) (σ₁:=nH X aM (lK (some (lst o)) (some (lst g)))) ⋯ (aQ (aD (bi _)) hz) ⋯ ⋯ ((⋯:_=nx (yw X (("due",.own (lists aM++[lst g]))::lK (some (lst o)) (some (lst g))))).trans (af (λl=>nx (yw X (("due",.own l)::lK (some (lst o)) (some (lst g))))) (mR (l₁:=aM) (l₂:=[g])).symm))))
theorem aaX:(jS aM g).length<=aM.length+1:=by
 unfold jS;by_cases h:g∈aM
 ·rw[iP h];exact iH _
 ·rw[iN h,da];exact bf _
theorem Zc(h:∀x∈l,oN O X X.L x=some (lst (G x))):∀{aM:List (List Nat)} {r:Option (PV×PV)},aM.length+l.length<az->(l=[]->r≠none)->∃a c,dX (aS (aw O 999999 aU cr) (sB 0 wD)) aU (sT wD) (lists l) (nH X aM (lK (r.map (·.1)) (r.map (·.2))))=nx (nH X (l.foldl (λd x=>jS d (G x)) aM) (lK (some a) (some c))):=by
 induction l with
 |nil=>exact λ{aM r} _ q=>match r,q with
  |some (a,c),_=>⟨a,c,rfl⟩|none,q=>absurd rfl (q rfl)
 |cons x l ih=>
  intro aM r hz _;have h1:aM.length<az:=aQ (cW aM.length _) hz;have h2:(jS aM (G x)).length+l.length<az:=aQ (aq (mG aaX l.length) (aD (pS ..))) hz;obtain⟨a,c,e⟩:=ih (λy m=>h y (.tail _ m)) (aM:=jS aM (G x)) (r:=some (lst x,lst (G x))) h2 λ_=>sN;have k:=abG (O:=O) (X:=X) (aM:=aM) (o:=x) (g:=G x) (r:=r) (h x (.head _)) h1;refine⟨a,c,?_⟩;rw[Tm];exact ik (v:=lst x) (l:=lists l) (σ₁:=nH X aM (lK (some (lst x)) (r.map (·.2)))) (σ':=nH X (jS aM (G x)) (lK (some (lst x)) (some (lst (G x))))) (by cases r<;>rfl') (by exact k) (by exact e)
def ET(G:List Nat->List Nat)(t:Bool):List (List Nat):=(nL t).foldl (λd x=>jS d (G x)) []
def rP(X:LX)(aM:List (List Nat))(q:PV×PV)(r:ar):ar:=nH X aM (("order",.pv q.1)::("given",.pv q.2)::r)
theorem ae3(h:∀x∈nL X.t,oN O X X.L x=some (lst (G x))):∃q,a9 O NN aU cr (yw X []) [bl 16,bl 17]=nx (rP X (ET G X.t) q []):=by
 obtain⟨a,c,e⟩:=Zc (O:=O) (X:=X) (aM:=[]) (r:=none) h (by cases X.t<;>decide) (λe=>absurd e (by cases X.t<;>exact ln));exact⟨(a,c),aF (σ₁:=nH X [] (lK none none)) ⋯ (jY.trans (bg (n:=999999) (K:=fY (aw O 999999 aU cr) aU (sT wD) (sB 0 wD)) (p:=.list (lists (nL X.t))) ⋯ (tC (P:=λX=>cI O 999999 aU (fL (nH X [] (lK none none))) (sE wD)=some (.list (lists (nL X.t)))) X ⋯ ⋯) (rY e)))⟩
noncomputable def fM:List Nat->List Nat->Bool
 |[],m=> !m.isEmpty|x::l,m=>m.casesOn false λy m=>if x=y then fM l m else decide (x<y)
theorem ON:∀{l m:List Nat},e7.pD (aC l) (aC m)=some (fM l m):=by
 intro l;induction l with
 |nil=>exact λ{m}=>by cases m<;>rfl
 |cons x l ih=>exact λ{m}=>by cases m with
  |nil=>rfl
  |cons y m=>
   refine(rfl:_=if(x:Int)=(y:Int) then e7.pD (aC l) (aC m) else some (decide ((x:Int)<(y:Int)))).trans (y5 ?_ (apply_ite some (x=y) (fM l m) (decide (x<y))).symm);exact ite_congr (propext w3) (λ_=>ih) λ_=>af some (fA u9)
theorem aaL{d:List Nat}(h:∀x∈l,fM d x=false):vW (yb O) (lst d) (lists l)=some (lst d):=by
 induction l with
 |nil=>rfl|cons x l ih=>exact aG (a:=false) (ON.trans (af some (h x (.head _)))) (ih λy m=>h y (.tail _ m))
theorem ach{d:List Nat}{q:PV×PV}(h:∀x∈l,fM d x=false):aw O NN aU cr (rP X (d::l) q []) (bl 18)=nx (rP X (d::l) q []):=
 ke (n:=999999) ⋯ ⋯ ((show _=(bQ (.list (lists (d::l))) (.int 0)).bind λa=>(vW (yb O) (lst d) (lists l)).bind λb=>fe O .NotEq a b by rfl').trans (aG Im (aG (aaL h) ((af (eP not) D4).trans (by rw[dT rfl];rfl)))))
noncomputable def Bq(t:Bool):List Nat:=cond t [0,1,2] [0,1]
noncomputable def A5(t:Bool):List Nat:=cond t [2,1,0] [1,0]
def qR(X:LX)(aM:List (List Nat))(q:PV×PV)(g:List Nat×List Nat)(r:ar):ar:=rP X aM q (("first",.pv (lst g.1))::("last",.pv (lst g.2))::r)
theorem abQ{q:PV×PV}{g:List Nat×List Nat}(h1:oN O X (λ_=>X.K) (Bq X.t)=some (lst g.1))(h2:oN O X (λ_=>X.K) (A5 X.t)=some (lst g.2)):a9 O NN aU cr (rP X aM q []) [bl 19,bl 20]=nx (qR X aM q g []):=by
 have e1:cI O 999999 aU (fL (rP X aM q [])) (sE (bl 19))=oN O X (λ_=>X.K) (Bq X.t):=tC X ⋯ ⋯;have e2:cI O 999999 aU (fL (rP X aM q [("first",.pv (lst g.1))])) (sE (bl 20))=oN O X (λ_=>X.K) (A5 X.t):=tC X ⋯ ⋯;exact aF (bg (n:=999999) (K:=bI aU "first" false) (p:=lst g.1) ⋯ (e1.trans h1) ⋯) (jY.trans (bg (n:=999999) (K:=bI aU "last" false) (p:=lst g.2) ⋯ (e2.trans h2) ⋯))
def pE(X:LX)(aM:List (List Nat))(q:PV×PV)(g:List Nat×List Nat)(t:Bool)(r:ar):ar:=qR X aM q g (("tied",.pv (.bool t))::r)
theorem abz{q:PV×PV}{g:List Nat×List Nat}{t:Bool}(h:t= !decide (g.1=g.2)):aw O NN aU cr (pE X aM q g t []) (bl 22)=nx (pE X aM q g t []):=
 ke (n:=999999) ⋯ ⋯ ((show _=(((du 4 (lst g.1) (lst g.2)).map not).map PV.bool).bind λb=>fe O .NotEq (.bool t) b by rfl').trans (by
  rw[D4,h];cases decide (g.1=g.2)<;>rfl))
end
section
variable{nm:aN}{l m q S:List Nat}{L M:List (List Nat)}
theorem aeQ:∀{l m:List Nat},fM l m=true->fM m l=false:=by
 intro l;induction l with
 |nil=>exact λ{m} h=>by cases m with
  |nil=>exact ff h|cons=>rfl
 |cons x l ih=>exact λ{m} h=>by cases m with
  |nil=>exact ff h
  |cons y m=>
   refine(rfl:_=if y=x then fM m l else decide (y<x)).trans ?_;have h:(if x=y then fM l m else decide (x<y))=true:=h;by_cases e:x=y
   ·rw[iP e] at h;rw[iP e.symm,ih h]
   ·rw[iN e] at h;rw[iN (gV e)];exact dF (oD (cC h))
theorem afJ:∀{l m q:List Nat},fM m l=false->fM q m=false->fM q l=false:=by
 intro l;induction l with
 |nil=>exact λ{m q} h h'=>by cases q with
  |nil=>rfl|cons=>rfl
 |cons x l ih=>exact λ{m q} h h'=>by cases m with
  |nil=>exact tf h
  |cons y m=>cases q with
   |nil=>exact tf h'
   |cons z q=>
    refine(rfl:_=if z=x then fM q l else decide (z<x)).trans ?_;have h:(if y=x then fM m l else decide (y<x))=false:=h;have h':(if z=y then fM q m else decide (z<y))=false:=h';by_cases e:y=x
    ·rw[iP e] at h;rw[<-e];by_cases e':z=y
     ·rw[iP e'] at h'⊢;exact ih h h'
     ·rwa[iN e'] at h'⊢
    ·rw[iN e] at h;have h:=iX h;have k:¬z<y:=by
      by_cases e':z=y
      ·exact e'▸cV _
      ·rw[iN e'] at h';exact iX h'
     have n:x<z:=ba (pT (cZ h) (gV e)) (cZ k);rw[iN (fO n)];exact dF (oD n)
theorem abm:∀{l m:List Nat},fM l m=false->fM m l=false->l=m:=by
 intro l;induction l with
 |nil=>exact λ{m} h _=>by cases m with
  |nil=>rfl|cons=>exact tf h
 |cons x l ih=>exact λ{m} h h'=>by cases m with
  |nil=>exact tf h'
  |cons y m=>
   have h:(if x=y then fM l m else decide (x<y))=false:=h;have h':(if y=x then fM m l else decide (y<x))=false:=h';by_cases e:x=y
   ·rw[iP e] at h;rw[iP e.symm] at h';rw[e,ih h h']
   ·rw[iN e] at h;rw[iN (gV e)] at h';exact absurd (mM (cZ (iX h')) (cZ (iX h))) e
theorem RA(hz:L.length<64):∃out,eC O nm (lists L) []=some (.list (lists out))/\out.Perm L/\out.Pairwise λa b=>fM b a=false:=
 Bh (v:=lst) (le:=fM) (k:=3) rfl (λ_=>rfl) (λa _ b _=>ON) (λa _ b _=>aeQ) (λa _ b _ c _=>afJ) hz
theorem adX(p:L.Perm M)(hz:L.length<64):∃out,eC O nm (lists L) []=some (.list (lists out))/\eC O nm (lists M) []=some (.list (lists out)):=by
 obtain⟨o1,e1,p1,s1⟩:=RA (O:=O) (nm:=nm) hz;obtain⟨o2,e2,p2,s2⟩:=RA (O:=O) (nm:=nm) (L:=M) (p.length_eq▸hz);have e:o1=o2:=agQ (le:=λa b=>fM b a=false) (λ_ _ _ _ h1 h2=>abm h2 h1) s1 s2 (p1.trans (p.trans p2.symm));exact⟨o1,e1,e▸e2⟩
theorem WG(h:SS S)(p:l.Perm S):eC O nm (aC l) []=some (.list (aC S)):=by
 obtain⟨out,e,q,s⟩:=Bh (O:=O) (nm:=nm) (v:=λn:Nat=>PV.int n) (le:=λa b=>decide (a<b)) (l:=l) (k:=1) rfl (λ_=>rfl) (λa _ b _=>af some (fA u9)) (λa _ b _ x=>dF (oD (cC x))) (λa _ b _ c _ x y=>dF (gJ (aq (cZ (iX x)) (cZ (iX y))))) (p.length_eq▸eN h.len (by decide));exact e.trans (af (λl=>some (PV.list (aC l))) (h.eq (q.trans p) s))
theorem Vy(h:SS S):(eG (.set S) λl=>eC O nm l [])=some (lst S):=yh (.set S) λl' p=>WG h p
end
section
noncomputable def iO(s m:Nat):List Nat:=(ax s).filter λc=>decide (m/2^c%2=1)
noncomputable def oi(ps:List (List Nat))(c:List Nat):List Nat:=ps.map λP=>(P.filter λx=>decide (x∈c)).length
def vB(s k:Nat)(ps aM:List (List Nat))(m:Nat):Bool:=decide ((iO s m).length=k)&&decide (oi ps (iO s m)∈aM)
def uD(s k:Nat)(ps aM:List (List Nat))(l:List Nat):List (List Nat):=(l.filter (vB s k ps aM)).map (iO s)
structure LY where
 X:LX
 aM:List (List Nat)
 q:PV×PV
 g:List Nat×List Nat
 td:Bool
def lA(Y:LY)(want:List (List Nat))(r:ar):ar:=pE Y.X Y.aM Y.q Y.g Y.td (("wanted",.own (lists want))::r)
noncomputable def jW(o m:Option PV):ar:=o.elim [] λo=>("mask",.pv o)::m.elim [] λm=>[("members",.pv m)]
def BG:aH:=bl 24
def AH(i:Nat):aH:=aJ (sB 0 BG) i
def Hj:Expr:=bR 0 (bR 1 (sE (AH 1)))
def Sc:Expr:=bR 0 (bR 0 Hj)
variable{Y:LY}{m:Nat}{C P:List Nat}{r:Option (PV×PV)}
theorem adx{x c:Nat}(h:c<8):fw .RShift x c=some (.int (x/2^c:Nat)):=(rfl:_=if 0<=(x:Int)/\0<=(c:Int)/\(c:Int)<8 then some (PV.int (CH x (2^c))) else none).trans ((iP ⟨fP _,fP _,jf h⟩).trans (af (λi=>some (PV.int i)) (by
 rw[show(2:Int)^c=(2^c:Nat) from(Int.natCast_pow 2 c).symm,fd])))
theorem abS{x:Nat}:(((fw .BitAnd x 1).bind PV.truth).bind λb=>if b=false then some false else some true)=some (decide (x%2=1)):=by
 refine aG (aG ((rfl:_=if 0<=(x:Int)/\(1:Int)=1 then some (PV.int (zm x (2:Nat))) else none).trans (iP ⟨fP _,rfl⟩)) rfl) ?_;rw[fm];rcases ag6 x with e|e<;>rw[e]<;>rfl
theorem Ω(hs:Y.X.s<=6):aw O 999999 aU cr (lA Y want (jW (some (.int m)) (r.map (·.2)))) (AH 0)=nx (lA Y want (jW (some (.int m)) (some (lst (iO Y.X.s m))))):=by
 refine bg (n:=999998) (K:=bI aU "members" false) (p:=lst (iO Y.X.s m)) ⋯ ((show _=(f9 0 Y.X.s).bind λv=>over v (c8 O 999997 (sE (AH 0)) [("mask",.int m)]) by cases r<;>rfl').trans (aG (nO (aq hs (by decide))) ((sR _).trans (wh (v:=λn:Nat=>.int n) (w:=λn:Nat=>.int n) (ok:=λc=>decide (m/2^c%2=1)) ⋯ (λj h=>(show _=((((fw .RShift m j).bind λa=>fV O .BitAnd a (.int 1)).bind PV.truth).bind λb=>if b=false then some false else some true).bind λok=>if ok=true then some [PV.int j] else some [] by rfl').trans ?_) (aq (aD cF) (aq hs (by decide))))))) (by cases r<;>rfl');rw[adx (ba (eL h) (aq hs (by decide)))];exact aG abS (apply_ite some ..).symm
theorem Zf(hz:P.length<=az):c8 O 999993 Sc [("members",lst C)] (aC P)=some (lst (P.filter λx=>decide (x∈C))):=
 wh (v:=λn:Nat=>.int n) (w:=λn:Nat=>.int n) (ok:=λx=>decide (x∈C)) ⋯ (λj h=>(show _=((kR 4 (.int j) (aC C)).bind λb=>if b=false then some false else some true).bind λok=>if ok=true then some [PV.int j] else some [] by rfl').trans (by
  rw[Oz];cases decide (j∈C)<;>rfl)) hz
theorem Xn(hp:ps.length<=az)(hz:∀P∈ps,P.length<=az):c8 O 999995 Hj [("members",lst C)] (lists ps)=some (lst (oi ps C)):=
 (ni (v:=lst) (w:=λP=>.int ((P.filter λx=>decide (x∈C)).length:Nat)) ⋯ (λP h=>(show _=(((c8 O 999993 Sc [("members",lst C)] (aC P)).bind λv=>some [v]).bind λvs=>nV O "len" vs []).map λx=>[x] by rfl').trans (by
  rw[Zf (hz P h)];exact af (λn:Nat=>some [PV.int n]) (bi _))) hp).trans (af (λl=>some (PV.list l)) (jt (g:=λn:Nat=>PV.int n) (f:=λP:List Nat=>(P.filter λx=>decide (x∈C)).length)).symm)
theorem aa6:(aC C).length=C.length:=bi _
def gK(Y:LY):List (List Nat):=lM Y.X Y.X.mm
theorem afl(hp:(gK Y).length<=az)(hz:∀P∈gK Y,P.length<=az)(hw:want.length<az):aw O 999999 aU cr (lA Y want (jW (some (.int m)) (some (lst (iO Y.X.s m))))) (AH 1)=nx (lA Y (want++if vB Y.X.s Y.X.K (gK Y) Y.aM m=true then[iO Y.X.s m] else[]) (jW (some (.int m)) (some (lst (iO Y.X.s m))))):=by
 unfold vB;generalize iO Y.X.s m=C;refine cN (n:=999998) (b:=decide (C.length=Y.X.K)&&decide (oi (gK Y) C∈Y.aM)) ⋯ ((show _=(some (((aC C).length:Int)==(Y.X.K:Int))).bind λb=>if b=false then some false else((c8 O 999995 Hj [("members",lst C)] (lists (gK Y))).bind λa=>fe O .In a (.list (lists Y.aM))).bind λb=>if b=false then some false else some true by rfl').trans ?_) ?_
 ·rw[Xn hp hz,show((lst (oi (gK Y) C)):PV)=lst (oi (gK Y) C) from rfl,show((some (lst (oi (gK Y) C))).bind λa=>fe O .In a (.list (lists Y.aM)))=some (decide (oi (gK Y) C∈Y.aM)) from Qr,aa6,show((C.length:Int)==(Y.X.K:Int))=decide (C.length=Y.X.K) from fA w3];cases decide (C.length=Y.X.K)<;>cases decide (oi (gK Y) C∈Y.aM)<;>rfl
 cases decide (C.length=Y.X.K)&&decide (oi (gK Y) C∈Y.aM) with
 |false=>exact(⋯:_=nx (lA Y want (jW (some (.int m)) (some (lst C))))).trans (af (λw=>nx (lA Y w (jW (some (.int m)) (some (lst C))))) (gO want).symm)|true=>exact(⋯:_=a9 O 999998 aU cr (lA Y want (jW (some (.int m)) (some (lst C)))) [aJ (sB 0 (AH 1)) 0]).trans (jY.trans (GY (n:=999997) (x:="wanted") (l0:=lists want) (L:=lists want) (p:=lst C) (σ₁:=lA Y want (jW (some (.int m)) (some (lst C)))) ⋯ (aQ (aD (bi _)) hw) ⋯ ⋯ ((⋯:_=nx (pE Y.X Y.aM Y.q Y.g Y.td (("wanted",.own (lists want++[lst C]))::jW (some (.int m)) (some (lst C))))).trans (af (λl=>nx (pE Y.X Y.aM Y.q Y.g Y.td (("wanted",.own l)::jW (some (.int m)) (some (lst C))))) (mR (l₁:=want) (l₂:=[C])).symm))))
theorem z_{s k:Nat}{aM:List (List Nat)}{l:List Nat}:uD s k ps aM (m::l)=(if vB s k ps aM m=true then[iO s m] else[])++uD s k ps aM l:=by
 unfold uD;cases h:vB s k ps aM m with
 |true=>rw[tD h];rfl|false=>rw[u8 (ne_true_of_eq_false h)];rfl
theorem i_(hs:Y.X.s<=6)(hp:(gK Y).length<=az)(hz:∀P∈gK Y,P.length<=az):∀{l:List Nat} {want:List (List Nat)} {r:Option (PV×PV)},want.length+l.length<az->(l=[]->r≠none)->∃a c,dX (aS (aw O 999999 aU cr) (sB 0 BG)) aU (sT BG) (aC l) (lA Y want (jW (r.map (·.1)) (r.map (·.2))))=nx (lA Y (want++uD Y.X.s Y.X.K (gK Y) Y.aM l) (jW (some a) (some c))):=by
 intro l;induction l with
 |nil=>exact λ{want r} _ q=>match r,q with
  |some (a,c),_=>⟨a,c,af (λw=>nx (lA Y w (jW (some a) (some c)))) (gO want).symm⟩|none,q=>absurd rfl (q rfl)
 |cons m l ih=>
  intro want r hw _;have h1:want.length<az:=aQ (cW want.length _) hw;have h2:(want++if vB Y.X.s Y.X.K (gK Y) Y.aM m=true then[iO Y.X.s m] else[]).length+l.length<az:=by
   refine aQ (aq (mG (m:=want.length+1) ?_ l.length) (aD (pS ..))) hw;rw[da];cases vB Y.X.s Y.X.K (gK Y) Y.aM m
   ·exact iH _
   ·exact bf _
  obtain⟨a,c,e⟩:=ih (r:=some (.int m,lst (iO Y.X.s m))) h2 λ_=>sN;rw[kx,<-z_] at e;have k0:=Ω (O:=O) (Y:=Y) (want:=want) (m:=m) (r:=r) hs;have k1:=afl (O:=O) (Y:=Y) (want:=want) (m:=m) hp hz h1;exact⟨a,c,ik (v:=.int m) (l:=aC l) (σ₁:=lA Y want (jW (some (.int m)) (r.map (·.2)))) (by cases r<;>rfl') (by exact aF k0 (jY.trans k1)) (by exact e)⟩
def nA(Y:LY)(want:List (List Nat))(u:PV×PV)(r:ar):ar:=lA Y want (("mask",.pv u.1)::("members",.pv u.2)::r)
theorem afV(hs:Y.X.s<=6)(hp:(gK Y).length<=az)(hz:∀P∈gK Y,P.length<=az):∃u,a9 O NN aU cr (pE Y.X Y.aM Y.q Y.g Y.td []) [bl 23,bl 24]=nx (nA Y (uD Y.X.s Y.X.K (gK Y) Y.aM (ax (2^Y.X.s))) u []):=by
 have vi:2^Y.X.s<=64:=SJ (n:=2) (by decide) hs;obtain⟨a,c,e⟩:=i_ (O:=O) (Y:=Y) (l:=ax (2^Y.X.s)) (want:=[]) (r:=none) hs hp hz (by rw[cF,Cn,f5];exact aQ vi (by decide)) (λe=>absurd (cF.symm.trans (af yO e)) (fO (Gd (by decide))));refine⟨(a,c),aF (σ₁:=lA Y [] (jW none none)) ⋯ (jY.trans (bg (n:=999999) (K:=fY (aw O 999999 aU cr) aU (sT BG) (sB 0 BG)) ⋯ ((show _=((fw .Pow 2 Y.X.s).bind λv=>some [v]).bind λvs=>nV O "range" vs [] by rfl').trans ?_) (Ai e)))⟩;rw[show fw .Pow 2 Y.X.s=some (.int (2^Y.X.s:Nat)) from(rfl:_=if(2:Int)=2/\0<=(Y.X.s:Int)/\(Y.X.s:Int)<8 then some (PV.int (2^Y.X.s)) else none).trans ((iP ⟨rfl,fP _,jf (aQ hs (by decide))⟩).trans (af (λi=>some (PV.int i)) (Int.natCast_pow 2 _).symm))];exact nO (aq vi (by decide))
end
section
noncomputable def LX.kd(X:LX)(κ:Nat):LX:={X with κ:=κ}
theorem kC{P:LX->Prop}(X:LX)(h:X.κ<5)(h0:P (X.kd 0))(h1:P (X.kd 1))(h2:P (X.kd 2))(h3:P (X.kd 3))(h4:P (X.kd 4)):P X:=AX (P:=λκ=>P (X.kd κ)) h0 h1 h2 h3 h4 X.κ h
noncomputable def kB(κ:Nat):Bool:=κ==1||κ==3
def Qq(X:LX):PV:=a6 X.s (Bz X.s) (mD X X.mm)
def yt(O:aK)(X:LX):Option PV:=if X.κ=4 then O.fn "compute_adams" [Qq X,.int X.K] [] else O.fn (cond (dK X.κ) "compute_slav" "compute_pav") [Qq X,.int X.K] [("algorithm",.str (g8 (kB X.κ)))]
variable{X:LX}{Y:LY}{aM l:List (List Nat)}{q u:PV×PV}{g:List Nat×List Nat}{td:Bool}{d:List Nat}{out:List (List Nat)}{r:aZ}
structure Ru(O:aK)(σ:ar)(st:aH)(o:Option PV)(n:Nat)(e:Expr):Prop where
 hs:aw O NN aU cr σ st=(bW (cI O n aU) σ e).bind (bI aU "told" false)
 h0:cI O n aU (fL σ) e=none
 h1:cI O n aU (bB σ) e=o
def sO(i:Nat):aH:=aJ (sB i (bl 25)) 0
theorem H7{n:Nat}{nm:aN}{mu:List Str}{b:Bool}{st':aH}(hs:aw O (n+1) nm mu σ st=(fF O n nm (bB σ) (sE st)).bind λr=>aS (aw O n nm mu) (if r=true then sB 0 st else sB 1 st) σ)(ht:fF O n nm (bB σ) (sE st)=some b)(hb:(if b=true then sB 0 st else sB 1 st)=[st'])(k:aw O n nm mu σ st'=r):aw O (n+1) nm mu σ st=r:=cN hs ht ((af (λl=>aS (aw O n nm mu) l σ) hb).trans (jY.trans k))
theorem Ed{b:Bool}(h4:k4 X.κ=false)(h2:fF O 999998 aU (bB (nA ⟨X,aM,q,g,td⟩ want u [])) (sE (sO 1))=some b)(k:aw O 999998 aU cr (nA ⟨X,aM,q,g,td⟩ want u []) (aJ (if b=true then sB 0 (sO 1) else sB 1 (sO 1)) 0)=r):aw O NN aU cr (nA ⟨X,aM,q,g,td⟩ want u []) (bl 25)=r:=
 H7 (n:=999999) (b:=false) ⋯ ((⋯:_=some (k4 X.κ)).trans (af some h4)) ⋯ (H7 (n:=999998) (b:=b) ⋯ h2 (by cases b<;>rfl') k)
theorem w_(h:X.κ<5):∃n e,Ru O (nA ⟨X,aM,q,g,td⟩ want u []) (bl 25) (yt O X) n e:=
 kC (P:=λX=> ∃n e,Ru O (nA ⟨X,aM,q,g,td⟩ want u []) (bl 25) (yt O X) n e) X h ⟨999997,sE (aJ (sB 0 (sO 1)) 0),Ed (b:=true) rfl ⋯ ⋯,⋯,⋯⟩ ⟨999997,sE (aJ (sB 0 (sO 1)) 0),Ed (b:=true) rfl ⋯ ⋯,⋯,⋯⟩ ⟨999997,sE (aJ (sB 1 (sO 1)) 0),Ed (b:=false) rfl ⋯ ⋯,⋯,⋯⟩ ⟨999997,sE (aJ (sB 1 (sO 1)) 0),Ed (b:=false) rfl ⋯ ⋯,⋯,⋯⟩ ⟨999998,sE (sO 0),H7 (n:=999999) (b:=true) (st':=sO 0) ⋯ ⋯ ⋯ ⋯,⋯,⋯⟩
noncomputable def l8(l:List (List Nat)):PV:=.list (l.map PV.set)
theorem abB{ls:List (List PV)}{cs:List (Nat×List Str)}:iq ls cs (l.map PV.set)=false:=by
 induction l with
 |nil=>rfl|cons=>assumption
theorem OX{ls:List (List PV)}{cs:List (Nat×List Str)}:cg ls cs (l8 l)=ls.any λm=>m6 m (l.map PV.set):=(af ((ls.any λm=>m6 m (l.map PV.set))|| ·) abB).trans (CA _)
theorem G4:cg [lists l] [] (l8 (d::out))=false:=OX.trans (by cases l<;>rfl)
theorem Ϩ{s:Nat}{vs:List (List Nat×Nat)}:cg (wA (eW s vs) fK) [(bv,(eW s vs).map (·.1))] (l8 (d::out))=false:=OX.trans (by
 show(m6 ((ax s).map ds) ((d::out).map PV.set)||(m6 (vs.map bq) ((d::out).map PV.set)||false))=false;cases s with
 |zero=>cases vs<;>rfl
 |succ s=>
  rw[yL];cases vs<;>rfl)
theorem Vf:dZ (l8 (d::out)) (nA Y want u [])=nA Y want u []:=
 (⋯:_=uG Y.X (("lengths",.pv (.list (bX Y.X.mm Y.X.L)))::("votes",.pv (.list (bX Y.X.mm Y.X.V)))::nE Y.X (("made",.a7 bv (eW Y.X.s (mD Y.X Y.X.mm)) fK)::("parties",.qp (cg [lists (gK Y)] [] (l8 (d::out))) (lists (gK Y)))::("place",.pv (.int (sr Y.X Y.X.mm)))::("i",.pv (.int (Y.X.mm-1:Nat)))::("due",.qp (cg [lists Y.aM] [] (l8 (d::out))) (lists Y.aM))::("order",.pv Y.q.1)::("given",.pv Y.q.2)::("first",.pv (lst Y.g.1))::("last",.pv (lst Y.g.2))::("tied",.pv (.bool Y.td))::("wanted",.qp (cg [lists want] [] (l8 (d::out))) (lists want))::("mask",.pv u.1)::("members",.pv u.2)::[]))).trans (by
  rw[G4,G4,G4];rfl')
theorem YD(h:Y.X.κ<5)(ht:yt O Y.X=some (l8 (d::out))):aw O NN aU cr (nA Y want u []) (bl 25)=nx (nA Y want u [("told",.pv (l8 (d::out)))]):=by
 obtain⟨n,e,R⟩:=w_ (O:=O) (aM:=Y.aM) (q:=Y.q) (g:=Y.g) (td:=Y.td) (want:=want) (u:=u) h;exact R.hs.trans (aG (Ja R.h0 (R.h1.trans ht) ((⋯:_=(cg (wA (eW Y.X.s (mD Y.X Y.X.mm)) fK) [(bv,(eW Y.X.s (mD Y.X Y.X.mm)).map (·.1))] (l8 (d::out))||false)).trans ((CA _).trans Ϩ)) Vf) ⋯)
def Ie:Expr:=bR 0 (bR 0 (sE (bl 26)))
theorem XJ(h6:∀c∈d::out,SS c)(hz:(d::out).length<64)(hp:(d::out).Perm want):aw O NN aU cr (nA Y want u [("told",.pv (l8 (d::out)))]) (bl 26)=some (.ret (.bool true),nA Y want u [("told",.pv (l8 (d::out)))]):=by
 obtain⟨o,e1,e2⟩:=adX (O:=O) (nm:=aU) hp hz;refine v9 (n:=999999) ⋯ ((show _=((((c8 O 999996 Ie [] ((d::out).map PV.set)).bind λv=>eG v λl=>eC O aU l []).bind λa=>(eC O aU (lists want) []).bind λb=>Ay O .Eq a b (du 4 a b)).map PV.bool) by rfl').trans ?_);have a0:((c8 O 999996 Ie [] ((d::out).map PV.set)).bind λv=>eG v λl=>eC O aU l [])=some (PV.list (lists o)):=
  aG (a:=PV.list (lists (d::out))) (K:=λv=>eG v λl=>eC O aU l []) (ni (v:=PV.set) (w:=lst) ⋯ (λc m=>(show _=((eG (.set c) λl=>eC O (gS Ie).names l []).map λx=>[x]) by rfl').trans (af (eP λx=>[x]) (Vy (h6 c m)))) (aq (cy hz) (by decide))) e1
 rw[a0,e2];exact af (eP PV.bool) ((MX (n:=3) (v:=lst) λ_ _=>D4).trans (af some (dT rfl)))
end
end
section
noncomputable def qB(b:Nat)(B:Int)(q:Nat->Nat->Int):Nat->Nat->Int:=b.casesOn q λ_ i j=>j.casesOn B (q i)
variable{c:Bool}{κ K i j a a' b:Nat}{v t rk:Nat->Nat}{l ps:List Nat}{q:Nat->Nat->Int}{B:Int}
theorem WX(hK:K<8)(hi:i<K)(hj:j<K):Wd c K v a i<=Wd c K v a' j↔Wd c 7 v a i<=Wd c 7 v a' j:=(QO hK hi hj).trans (QO (by decide) (ba hi (ju hK)) (ba hj (ju hK))).symm
theorem H_(hb:b<=1)(hB:∀i j,q i j<B)(h:fg q):fg (qB b B q):=λa j=>by
 cases b with
 |zero=>exact h a j
 |succ=>cases j with
  |zero=>exact hB a 0|succ j=>exact h a j
theorem Ss(hb:b<=1)(hB:∀i j,q i j<B)(F:Ba q rk l t):Ba (qB b B q) rk l λi=>b+t i:=by
 rcases Ug.mp hb with e|e<;>rw[e]
 ·rw[show(λi=>0+t i)=t from funext λi=>f5 _];exact F
 ·rw[show(λi=>1+t i)=λi=>t i+1 from funext λi=>gj ..];intro M x hx y hy ne _ _;show q y (t y)<=qB 1 B q x (t x)/\(rk y<rk x->q y (t y)<qB 1 B q x (t x));have f:=F (λi=>t i+1) x hx y hy ne;cases e:t x with
  |zero=>exact⟨mJ (hB _ _),λ_=>hB _ _⟩
  |succ n=>
   rw[e] at f;exact f (eE n) (i5 _)
theorem Pw(nd:ps.Nodup):ps.Pairwise λa b=>ps.idxOf a<ps.idxOf b:=by
 rw[TN];intro i j hi hj h;rw[nd.idxOf_getElem,nd.idxOf_getElem];exact h
theorem Pr:Dk (λi=>ps.idxOf i) ps:=λa ha b hb e=>by
 have h1:=ag7 (ahc.mpr ha);have h2:=ag7 (ahc.mpr hb);rw[<-h1,<-h2];congr 1
theorem xx:bK κ<=1:=by
 unfold bK;by_cases h:κ=4
 ·rw[iP h];exact bf 1
 ·rw[iN h];exact cu 1
structure E5(κ:Nat)(v:Nat->Nat)(B:Int):Prop where
 k5:κ<5
 v1:∀i,1<=v i
 big:∀i j,Wd (dK κ) 7 v i j<B
def qK(κ:Nat)(v:Nat->Nat)(B:Int):Nat->Nat->Int:=qB (bK κ) B (Wd (dK κ) 7 v)
theorem E5.dec(H:E5 κ v B):fg (qK κ v B):=H_ xx H.big (De (by decide) H.v1)
theorem R_(H:E5 κ v B)(nd:ps.Nodup)(h3:ps.length<=3):Bc (qK κ v B) (λi=>ps.idxOf i) ps (tm (dK κ) (bK κ) v) (bK κ) 6:=λl K s h0 G=>by
 have P:o7 (mX κ l v K true):=⟨G,H.v1,nd.sublist s,aq s.length_le h3,h0⟩;by_cases e:bK κ*l.length=K
 ·rw[show tm (dK κ) (bK κ) v l K=λi=>bK κ+0 from funext λi=>iP e];exact⟨gy.trans e,Ss xx H.big λM a _ b _ _ h=>absurd h (cV _),λ_ _=>bf _⟩
 ·have L:=(G1 (O:=BY) (BK H.k5 P) P e).1;rw[show tm (dK κ) (bK κ) v l K=λi=>bK κ+fv (Wd (dK κ) K v) K (mh (Wd (dK κ) K v) K l (K-bK κ*l.length)) l (K-bK κ*l.length) i from funext λi=>iN e];exact⟨qO.trans ((congr (af HAdd.hAdd gy) (NA L P.nd)).trans (iK G.lo)),Ss xx H.big (θ (λa b i j hi hj=>WX (aQ G.hi (by decide)) hi hj) P.dec L P.nd ((Pw nd).sublist s)),λ_ _=>cW ..⟩
end
section
variable{K i m s b:Nat}{L:Nat->Nat}{l c:List Nat}{ps:Nat->List Nat}
section
variable{j pl a k x:Nat}{y:Nat->Nat}{X:LX}
theorem aae:su L (ax (m+1))=su L (ax m)+L m:=by
 unfold su;rw[CE,mR,List.sum_append_nat];rfl
theorem ac9:iZ s pl a++iZ s (pl+a) b=iZ s pl (a+b):=by
 unfold iZ;rw[List.range_add,mR,jt];exact af _ (pV λj _=>by rw[agP,fC])
theorem ae2:∀m,(lM X m).flatten=iZ X.s (X.nu X.mm) (su X.L (ax m))/\sr X m=X.nu X.mm+su X.L (ax m):=by
 intro m;induction m with
 |zero=>exact⟨rfl,rfl⟩
 |succ m ih=>
  rw[aae];refine⟨?_,(af (· +X.L m) ih.2).trans (fC ..)⟩;unfold lM;rw[CE,mR,List.flatten_append];show(lM X m).flatten++(iZ X.s (sr X m) (X.L m)++[])=_;rw[ih.1,gO,ih.2,ac9]
theorem acI(hs:s≠0)(h:k<=s):(iZ s pl k).Nodup:=by
 unfold iZ;rw[List.nodup_iff_pairwise_ne,TM];refine TV.imp_of_mem λ{a b} ha hb eZ e=>?_;have z:=Nat.sub_mod_eq_zero_of_mod_eq e.symm;rw[Nat.add_sub_add_left,Nat.mod_eq_of_lt (aQ (kE ..) (ba (eL hb) h))] at z;exact nF eZ (Nat.sub_eq_zero_iff_le.mp z)
theorem Nb(hs:s≠0):∀x∈iZ s pl k,x<s:=λx m=>by
 obtain⟨j,_,rfl⟩:=rn.mp m;exact Cs _ (T8 hs)
theorem YO(hs:s≠0):(iZ s pl s).Perm (ax s):=by
 have nd:=acI (pl:=pl) hs (bf s);refine(Gf nd vc).mpr λx=>⟨λm=>dH (Nb hs x m),λm=>zj λn=>?_⟩;have:=(ny ⟨n,nd⟩).length_le_of_subset (l₂:=ax s) λy my=>(bw my).elim (λe=>e▸m) λmy=>dH (Nb hs y my);rw[wL,show(iZ s pl s).length=s from(bi _).trans cF,cF] at this;exact cV _ this
structure hF(ps:Nat->List Nat)(L:Nat->Nat)(m s:Nat):Prop where
 perm:((ax m).map ps).flatten.Perm (ax s)
 len:∀i,(ps i).length=L i
theorem VZ(hs:X.s≠0)(e:X.s=su X.L (ax X.mm)):hF (gq X) X.L X.mm X.s where
 perm:=.trans (.of_eq ((ae2 X.mm).1.trans (af (iZ X.s (X.nu X.mm)) e.symm))) (YO hs)
 len i:=(bi _).trans cF
theorem hF.nd(D:hF ps L m s):((ax m).map ps).flatten.Nodup:=D.perm.nodup_iff.mpr vc
theorem hF.Dh(D:hF ps L m s)(hi:i<m):(ps i).Nodup:=(ahd.mp D.nd).1 _ (qZ (dH hi))
theorem hF.lt(D:hF ps L m s)(hi:i<m):∀x∈ps i,x<s:=λx m=>eL (D.perm.mem_iff.mp (List.mem_flatten.mpr ⟨_,qZ (dH hi),m⟩))
theorem hF.up(D:hF ps L m s)(h:i<j)(hj:j<m)(a:x∈ps i)(b:x∈ps j):False:=by
 have h2:=(ahd.mp D.nd).2;rw[TM] at h2;have k:=(TN.mp h2) i j (i6 (eN h hj) cF.symm) (i6 hj cF.symm) h;rw[SN,SN] at k;exact k x a x b rfl
theorem hF.one(D:hF ps L m s)(hi:i<m)(hj:j<m)(a:x∈ps i)(b:x∈ps j):i=j:=(TW i j).elim (λh=>(D.up h hj a b).elim) λh=>h.elim (λe=>e) λh=>(D.up h hi b a).elim
noncomputable def eK(ps:Nat->List Nat)(c:List Nat)(i:Nat):Nat:=((ps i).filter λx=>decide (x∈c)).length
theorem Jh(D:hF ps L m s):eK ps c i<=L i:=D.len i▸rm _ _
theorem ac0{P:Nat->Bool}:su (λi=>((ps i).filter P).length) l=((l.map ps).flatten.filter P).length:=by
 induction l with
 |nil=>rfl|cons a l ih=>exact(af (((ps a).filter P).length+ ·) ih).trans (da.symm.trans (af yO (pW ..).symm))
theorem H8(D:hF ps L m s)(h1:c.Nodup)(h2:∀x∈c,x<s):su (eK ps c) (ax m)=c.length:=
 ac0.trans (((D.perm.filter _).length_eq).trans ((Gf (vc.filter _) h1).mpr λx=>by
  rw[oE,decide_eq_true_iff,Lc];exact⟨λh=>h.2,λh=>⟨h2 x h,h⟩⟩).length_eq)
theorem VA:∀{k:Nat},l.Nodup->l.filter (λx=>decide (x∈l.take k))=l.take k:=by
 induction l with
 |nil=>exact λ_=>u5.symm
 |cons a l ih=>
  intro k nd;have nd:=iS nd;cases k with
  |zero=>exact Gp.mpr λx _ h=>eX (cC h)
  |succ k=>
   rw[List.take_succ_cons,tD (p:=λx=>decide (x∈a::l.take k)) (dT (List.mem_cons_self ..))];exact af (a:: ·) ((CG λx m=>show decide (x∈a::l.take k)=decide (x∈l.take k) from fA (jO.trans (or_iff_right λe:x=a=>nd.1 (e▸m)))).trans (ih nd.2))
def vt(ps:Nat->List Nat)(y:Nat->Nat)(m:Nat):List Nat:=d8 ((ax m).flatMap λi=>(ps i).take (y i))
theorem NE:x∈vt ps y m↔∃i,i<m/\x∈(ps i).take (y i):=rB.trans (Gm.trans ⟨λ⟨i,h,k⟩=>⟨i,eL h,k⟩,λ⟨i,h,k⟩=>⟨i,dH h,k⟩⟩)
theorem JI(D:hF ps L m s)(hi:i<m)(hy:y i<=L i):eK ps (vt ps y m) i=y i:=by
 unfold eK;rw[CG λx mx=>show decide (x∈vt ps y m)=decide (x∈(ps i).take (y i)) from fA (NE.trans ⟨λ⟨j,hj,h⟩=>D.one hi hj mx (Ld h)▸h,λh=>⟨i,hi,h⟩⟩),VA (D.Dh hi),FS,D.len i];exact wW hy
theorem OM(D:hF ps L m s)(hy:∀i,i<m->y i<=L i)(hK:su y (ax m)=K):vt ps y m∈ci s 0 K:=by
 have h1:(vt ps y m).Pairwise (· < ·):=oK;have h2:∀x∈vt ps y m,x<s:=λx mx=>(NE.mp mx).elim λi h=>D.lt h.1 x (Ld h.2);exact BP ((H8 D (li h1) h2).symm.trans ((xA λi m=>JI D (eL m) (hy i (eL m))).trans hK)) h1 λx m=>⟨cu _,h2 x m⟩
theorem Wv(D:hF ps L m s)(hc:c.Nodup)(hi:i<m):(fb c (d8 (ps i))).length=eK ps c i:=by
 rw[<-Nn hc (li oK)];refine((Fi (D.Dh hi)).filter _).length_eq.trans ?_;unfold eK;rw[CG λx _=>List.contains_eq_mem ..]
end
section
variable{n:Nat}{x y:Nat->Nat}{ws:List Nat}{q:Nat->Nat->Int}{B:Int}
def d9(b:Nat)(ps:Nat->List Nat)(m:Nat)(c:List Nat):Prop:=∀i,i<m->b<=eK ps c i
structure Ab(q:Nat->Nat->Int)(b:Nat)(ps:Nat->List Nat)(m s K:Nat)(c:List Nat):Prop where
 d9:d9 b ps m c
 top:∀c'∈ci s 0 K,Mine.d9 b ps m c'->kZ q (ax m) (λi=>eK ps c' i-b)<=kZ q (ax m) λi=>eK ps c i-b
theorem zL(h:0<n):qB 1 B q i n=q i (n-1):=by
 cases n with
 |zero=>exact absurd h (cV 0)|succ=>rfl
theorem Nh(hb:b<=1)(hB:∀i j,q i j<B)(h:∀a∈ws,b<=x a):l7 (qB b B q) L ws x↔l7 q (λi=>L i-b) ws λi=>x i-b:=by
 rcases Ug.mp hb with rfl|rfl
 ·exact .rfl
 ·refine⟨λO a ha a' rA ne h1 h2=>?_,λO a ha a' rA ne h1 h2=>?_⟩
  ·have p:=O a ha a' rA ne (h a ha) (om λk=>gJ (KZ k 1) h2);rwa[zL (h a' rA),zL h1] at p
  ·rw[zL (h a' rA)];rcases Nat.eq_zero_or_pos (x a-1) with e|e
   ·rw[e];exact mJ (hB _ _)
   ·rw[zL e];exact O a ha a' rA ne e (agZ (h a' rA) h2)
theorem O5(hb:b<=1)(hB:∀i j,q i j<B)(O:l7 (qB b B q) L ws x)(h1:∀a∈ws,b<=L a)(hs:b*ws.length<=su x ws):∀a∈ws,b<=x a:=by
 rcases Ug.mp hb with rfl|rfl
 ·exact λ_ _=>cu _
 ·refine λa ha=>T8 λhx=>?_;by_cases e:∃a'∈ws,1<x a'
  ·obtain⟨a',rA,h2⟩:=e;have h3:=O a' rA a ha (λe=>by rw[e,hx] at h2;exact y9 1 h2) (eN Lb h2) (hx▸h1 a ha);rw[hx,zL (rh h2)] at h3;exact iA h3 (hB _ _)
  ·have all:∀a∈ws,x a<=1:=λa ha=>cZ λh=>e ⟨a,ha,h⟩;have k:=zE (t':=λ_=>1) all (mM (lS all) (gy.symm▸hs)) ha;rw[hx] at k;exact Nat.zero_ne_one k
theorem afE(h:∀a∈ws,b<=x a):su (λi=>x i-b) ws+b*ws.length=su x ws:=by
 rw[<-gy,<-qO];exact xA λa m=>F0 (h a m)
theorem vL(hc:c∈ci s 0 K):c.Nodup/\(∀x∈c,x<s)/\c.length=K:=⟨li (sP hc).2.1,λx m=>((sP hc).2.2 x m).2,(sP hc).1⟩
theorem ac8(D:hF ps L m s)(hb:b<=1)(hB:∀i j,q i j<B)(hq:fg q)(h1:∀i,i<m->b<=L i)(hK:b*m<=K)(hc:c∈ci s 0 K):Ab q b ps m s K c↔l7 (qB b B q) L (ax m) (eK ps c):=by
 have hs {c} (hc:c∈ci s 0 K):su (eK ps c) (ax m)=K:=(H8 D (vL hc).1 (vL hc).2.1).trans (vL hc).2.2;have cv {c} (h:d9 b ps m c):∀a∈ax m,b<=eK ps c a:=λa m=>h a (eL m);have sh {c} (hc:c∈ci s 0 K) (h:d9 b ps m c):su (λi=>eK ps c i-b) (ax m)+b*m=K:=by
  have z:=afE (cv h);rwa[cF,hs hc] at z
 have lL {c}:∀a∈ax m,eK ps c a-b<=L a-b:=λa m=>KZ (Jh D) b;constructor
 ·intro W;refine(Nh hb hB (cv W.1)).mpr (aaN vc lL λy hy e=>?_);have US:∀i,i<m->y i+b<=L i:=λi hi=>TS (h1 i hi) (hy i (dH hi));have ce:∀i,i<m->eK ps (vt ps (λi=>y i+b) m) i=y i+b:=λi hi=>JI D hi (US i hi);have t:=W.2 _ (OM D US (qO.trans (by rw[e,gy,cF];exact sh hc W.1))) λi hi=>by rw[ce i hi];exact i7 _ _
  refine ic (oF (xD λi m=>af (iW q i) ?_)) t;rw[ce i (eL m),wY]
 ·intro O;have C:d9 b ps m c:=λi hi=>O5 hb hB O (λa m=>h1 a (eL m)) (by rw[cF,hs hc];exact hK) i (dH hi);exact⟨C,λc' jv C'=>W7 hq ((Nh hb hB (cv C)).mp O) lL lL (Nat.add_right_cancel ((sh jv C').trans (sh hc C).symm))⟩
end
section
variable{r d:Bool}{n:Nat}{V:Nat->Nat}{S:Nat->Int}{E:Int}{f g:Nat->Int}
def jc(ps:Nat->List Nat)(V:Nat->Nat)(l:List Nat):List (List Nat×Nat):=l.map λi=>(d8 (ps i),V i)
theorem YB(D:hF ps L m s)(hc:c.Nodup)(h:∀i∈l,i<m):d6 S c (jc ps V l)=sI (λi=>S (eK ps c i)*V i) l:=by
 induction l with
 |nil=>rfl
 |cons i l ih=>
  show S (fb c (d8 (ps i))).length*V i+d6 S c (jc ps V l)=_;rw[ih λi m=>h i (.tail _ m),Wv D hc (h i (.head _))];rfl
theorem RQ:sI (λi=>E*f i) l=E*sI f l:=by
 induction l with
 |nil=>exact(TX E).symm|cons i l ih=>exact(af (E*f i+ ·) ih).trans (La ..).symm
def HJ(d:Bool)(E:Int)(S:Nat->Int):Prop:=S 0=0/\∀j,j<3->E*(S (j+1) -S j)=(dN d 7/c9 d j:Nat)
theorem QA{z:Int}(j:Nat):E*(S n*z)+E*((S j-S n)*z)=E*(S j*z):=by rw[<-La,<-Ga,u7,KX]
theorem Rw(H:HJ d E S)(h:n<=3):iW (Wd d 7 V) i n=E*(S n*V i):=by
 induction n with
 |zero=>exact(by rw[H.1,yS,TX];rfl)
 |succ n ih=>
  show iW (Wd d 7 V) i n+Wd d 7 V i n=_;rw[ih (lF h),vG (ba h (by decide)),T5,<-H.2 n h,Int.mul_left_comm (V i:Int),Int.mul_comm (V i:Int) (S (n+1) -S n),QA]
noncomputable def eR(r:Bool):Int:=cond r 1287 420
theorem P_:[false,true].all (λr=>decide (rS r 0=0)&&decide (0<eR r)&&(ax 3).all λj=>decide (eR r*(rS r (j+1) -rS r j)=(dN r 7/c9 r j:Nat)))=true:=⋯
theorem Rx:HJ r (eR r) (rS r)/\0<eR r:=by
 have h:=aX (b7 P_ r (by cases r<;>decide));have g:=aX h.1;exact⟨⟨cC g.1,λj hj=>cC (b7 h.2 j (dH hj))⟩,cC g.2⟩
def sA(n:Nat):Int:=nD (n+1) -nD 1
theorem afW:HJ false 840 sA:=⟨⋯,λj hj=>cC (b7 (show(ax 3).all (λj=>decide (840*(sA (j+1) -sA j)=((dN false 7/c9 false j:Nat):Int)))=true by rfl') j (dH hj))⟩
structure qj(ps:Nat->List Nat)(L V:Nat->Nat)(m s K:Nat):Prop where
 D:hF ps L m s
 V:gh s K (jc ps V (ax m))
 L3:∀i,L i<=3
theorem qj.sc(P:qj ps L V m s K)(hc:c∈ci s 0 K):d6 S c (jc ps V (ax m))=sI (λi=>S (eK ps c i)*V i) (ax m):=YB P.D (vL hc).1 λi m=>eL m
theorem qj.c3(P:qj ps L V m s K):eK ps c i<=3:=aq (Jh P.D) (P.L3 i)
theorem adS(P:qj ps L V m s K)(hc:c∈ci s 0 K):c∈yr (rS r) s K (jc ps V (ax m))↔Ab (Wd r 7 V) 0 ps m s K c:=by
 have e {c} (hc:c∈ci s 0 K):kZ (Wd r 7 V) (ax m) (λi=>eK ps c i-0)=eR r*d6 (rS r) c (jc ps V (ax m)):=by
  rw[P.sc hc,<-RQ];exact xD λi m=>Rw Rx.1 P.c3
 have le {c c'} (hc:c∈ci s 0 K) (jv:c'∈ci s 0 K):kZ (Wd r 7 V) (ax m) (λi=>eK ps c' i-0)<=kZ (Wd r 7 V) (ax m) (λi=>eK ps c i-0)↔d6 (rS r) c' (jc ps V (ax m))<=d6 (rS r) c (jc ps V (ax m)):=by
  rw[e hc,e jv];exact ag8 Rx.2
 exact(Hq (lC uC P.V)).trans ⟨λh=>⟨λ_ _=>cu _,λc' jv _=>(le hc jv).mpr (h.2 c' jv)⟩,λh=>⟨hc,λc' jv=>(le hc jv).mp (h.2 c' jv λ_ _=>cu _)⟩⟩
def xn(ps:Nat->List Nat)(V:Nat->Nat)(c:List Nat)(i:Nat):Nat:=if eK ps c i=0 then 0 else V i
theorem ZP(h:n<=3){v:Nat}:ui n*(v:Int)=((if n=0 then 0 else v:Nat):Int):=by
 have f:∀n,n<4->ui n=if n=0 then 0 else 1:=vV ⋯ ⋯ ⋯ ⋯;rw[f n (kA h)];by_cases e:n=0
 ·rw[iP e,iP e,yS];rfl
 ·rw[iN e,iN e,Int.one_mul]
theorem acv{f:Nat->Nat}:sI (λi=>(f i:Int)) l=(su f l:Nat):=by
 induction l with
 |nil=>rfl|cons i l ih=>exact(af ((f i:Int)+ ·) ih).trans (w6 ..).symm
theorem qj.cc(P:qj ps L V m s K)(hc:c∈ci s 0 K):d6 ui c (jc ps V (ax m))=(su (xn ps V c) (ax m):Nat):=(P.sc hc).trans ((xD λi _=>ZP P.c3).trans acv)
theorem J3:xn ps V c i<=V i:=by
 unfold xn;by_cases e:eK ps c i=0
 ·rw[iP e];exact cu _
 ·rw[iN e];exact bf _
theorem Mq(h:d9 1 ps m c):su (xn ps V c) (ax m)=su V (ax m):=xA λi m=>iN (fO (h i (eL m)))
theorem WW(P:qj ps L V m s K)(hV:∀i,1<=V i)(hx:∃c0∈ci s 0 K,d9 1 ps m c0):c∈dP (λc=>d6 ui c (jc ps V (ax m))) (ci s 0 K)↔c∈ci s 0 K/\d9 1 ps m c:=by
 refine(Hq (lC uK.2 P.V)).trans (and_congr_right λhc=>⟨λh i hi=>T8 λe=>?_,λh y hy=>?_⟩)
 ·obtain⟨c0,h0,C0⟩:=hx;have h2:=h c0 h0;rw[P.cc h0,P.cc hc,Mq C0] at h2;have k:=zE (t:=xn ps V c) (t':=V) (λ_ _=>J3) (mM (lS λ_ _=>J3) (T4.mp h2)) (dH hi);rw[show xn ps V c i=0 from iP e] at k;exact gE (hV i) k
 ·rw[P.cc hy,P.cc hc,Mq h];exact pz (lS λ_ _=>J3)
theorem ZS(P:qj ps L V m s K)(hV:∀i,1<=V i)(hx:∃c0∈ci s 0 K,d9 1 ps m c0)(hc:c∈ci s 0 K):c∈HB s K (jc ps V (ax m))↔Ab (Wd false 7 V) 1 ps m s K c:=by
 have e {c} (hc:c∈ci s 0 K) (C:d9 1 ps m c):840*d6 nD c (jc ps V (ax m))=sI (λi=>840*(nD 1*V i)) (ax m)+kZ (Wd false 7 V) (ax m) λi=>eK ps c i-1:=by
  rw[P.sc hc,<-RQ];refine(xD λi mi=>?_).trans JB;obtain⟨n,e⟩:=ag5 (C i (eL mi));have h3:=P.c3 (c:=c) (i:=i);rw[e] at h3;show 840*(nD (eK ps c i)*V i)=840*(nD 1*V i)+iW (Wd false 7 V) i (eK ps c i-1);rw[e];rw[wY,Rw afW (lF h3)];exact(QA (S:=nD) (n:=1) (n+1)).symm
 have le {c c'} (hc:c∈ci s 0 K) (jv:c'∈ci s 0 K) (C:d9 1 ps m c) (C':d9 1 ps m c'):kZ (Wd false 7 V) (ax m) (λi=>eK ps c' i-1)<=kZ (Wd false 7 V) (ax m) (λi=>eK ps c i-1)↔d6 nD c' (jc ps V (ax m))<=d6 nD c (jc ps V (ax m)):=by
  refine KW ?_ (ag8 (show(0:Int)<840 by decide));rw[e hc C,e jv C'];exact(Int.add_le_add_iff_left _).symm
 have T {c}:=WW (c:=c) P hV hx;refine(Hq λx mx=>lC uK.1 P.V x (T.mp mx).1).trans ⟨λh=>⟨(T.mp h.1).2,λc' jv C'=>(le hc jv (T.mp h.1).2 C').mpr (h.2 c' (T.mpr ⟨jv,C'⟩))⟩,λh=>⟨T.mpr ⟨hc,h.d9⟩,λc' m=>(le hc (T.mp m).1 h.d9 (T.mp m).2).mp (h.2 c' (T.mp m).1 (T.mp m).2)⟩⟩
end
end
section
variable{b K:Nat}{o c ps:List Nat}{aM:List (List Nat)}{X:LX}{B:Int}{M:Nat->Nat}
section
variable{m:Nat}{x:List Nat}{G:List Nat->List Nat}{os l:List (List Nat)}{T:Bool}
theorem WO:[false,true].all (λT=>(nL T).all λo=>o.isPerm (ax (cond T 3 2)))=true:=⋯
theorem Dr(h:o∈nL T):o.Perm (ax (cond T 3 2)):=List.isPerm_iff.mp (b7 (b7 WO T (by cases T<;>decide)) o h)
noncomputable def Aj:List Bool:=[false,true]
theorem Da{b:Bool}:b∈Aj:=by cases b<;>decide
theorem WL:Aj.all (λT=>Aj.all λa=>Aj.all λb=>Aj.all λc=>(nL T).contains (yg (λi=>[a,b,c].getD i false) (ax (cond T 3 2))))=true:=⋯
theorem m_{p p':Nat->Bool}(h:∀i∈ps,p i=p' i):yg p ps=yg p' ps:=show ps.filter p++ps.filter (λi=> !p i)=ps.filter p'++ps.filter λi=> !p' i from congr (af ag3 (CG h)) (CG λi m=>af not (h i m))
theorem acb{p:Nat->Bool}:yg p (ax (cond T 3 2))∈nL T:=by
 rw[m_ (p':=λi=>[p 0,p 1,p 2].getD i false) λi m=>?_]
 ·exact qg (b7 (b7 (b7 (b7 WL T Da) (p 0) Da) (p 1) Da) (p 2) Da)
 ·have h3:i<3:=ba (eL m) (by cases T<;>decide);cases i with
  |zero=>rfl
  |succ i=>cases i with
   |zero=>rfl
   |succ i=>cases i with
    |zero=>rfl|succ i=>exact absurd h3 (gJ (i7 ..))
theorem Xi{g:List Nat}:x∈jS aM g↔x∈aM\/x=g:=by
 unfold jS;by_cases h:g∈aM
 ·rw[iP h];exact⟨.inl,λk=>k.elim id λe=>e▸h⟩
 ·rw[iN h,Lh,Gi]
theorem aaU:∀{aM:List (List Nat)},x∈os.foldl (λd o=>jS d (G o)) aM↔x∈aM\/∃o∈os,x=G o:=by
 induction os with
 |nil=>exact⟨.inl,λh=>h.elim id λ⟨_,m,_⟩=>absurd m eX⟩|cons o os ih=>exact ih.trans ((or_congr_left Xi).trans (or_assoc.trans (or_congr_right ⟨λh=>h.elim (λe=>⟨o,.head _,e⟩) λ⟨a,m,e⟩=>⟨a,.tail _ m,e⟩,λ⟨a,m,e⟩=>(bw m).elim (λk=>.inl (k▸e)) λm=>.inr ⟨a,m,e⟩⟩)))
theorem Qj:x∈ET G T↔∃o∈nL T,x=G o:=aaU.trans (or_iff_right eX)
theorem afm:∀{l:List (List Nat)},∃l',os.foldl (λd o=>jS d (G o)) (x::l)=x::l':=by
 induction os with
 |nil=>exact⟨_,rfl⟩
 |cons o os ih=>
  intro l;rw[Tm];unfold jS;by_cases h:G o∈x::l
  ·rw[iP h];exact ih
  ·rw[iN h];exact ih (l:=l++[G o])
theorem Ϣ:∀{l m:List Nat},Be l m=true->l.length=m.length->fM m l=false:=by
 intro l;induction l with
 |nil=>exact λ{m} _ e=>by rw[zn.mp e.symm];rfl
 |cons a l ih=>
  intro m h e;cases m with
  |nil=>exact absurd e (rg _)
  |cons b m=>
   have h:(decide (a<b)||(decide (a=b)&&Be l m))=true:=h;refine(rfl:_=if b=a then fM m l else decide (b<a)).trans ?_;by_cases k:a=b
   ·rw[dF (gJ (aD k.symm)),dT k] at h;rw[iP k.symm];exact ih h (wK e)
   ·rw[dF k,Bool.false_and,CA] at h;rw[iN (gV k)];exact dF (oD (cC h))
end
section
structure fh(X:LX)(B:Int):Prop where
 H:E5 X.κ X.V B
 D:hF (gq X) X.L X.mm X.s
 L1:∀i,1<=X.L i
 L3:∀i,X.L i<=3
 es:X.s=su X.L (ax X.mm)
 s6:X.s<=6
 lo:bK X.κ*X.mm<=X.K
 K1:1<=X.K
 Ks:X.K<=X.s
variable{t t' rk:Nat->Nat}{l:List Nat}{k:Nat}{q:Nat->Nat->Int}{W:Nat->Nat->Int}{S:Nat}{z:Int}
def oY(X:LX):List Nat->Nat->Nat->Nat:=tm (dK X.κ) (bK X.κ) X.V
def gF(X:LX)(M:Nat->Nat)(o:List Nat)(i:Nat):Nat:=if i∈o then rE (oY X) M (o.length+1) o X.K i else 0
def gv(X:LX)(M:Nat->Nat)(o:List Nat):List Nat:=(ax X.mm).map (gF X M o)
theorem aau(p:o.Perm l)(G:lJ b 6 l K):lJ b 6 o K:=⟨by rw[p.length_eq];exact G.lo,G.one,G.hi⟩
theorem J4(p:o.Perm l):su t o=su t l:=(p.map t).sum_nat
theorem xP.congr(p:o.Perm l)(h:∀a∈o,t' a=t a)(R:xP q rk M o K t):xP q rk M l K t' where
 mw a ha b hb ne h0 eZ:=by
  have ha:=p.mem_iff.mpr ha;have hb:=p.mem_iff.mpr hb;rw[h a ha] at h0⊢;rw[h b hb] at eZ⊢;exact R.mw a ha b hb ne h0 eZ
 sum:=(J4 p).symm.trans ((xA h).trans R.sum)
 le a ha:=(h a (p.mem_iff.mpr ha)).symm▸R.le a (p.mem_iff.mpr ha)
theorem fh.G(P:fh X B)(p:o.Perm (ax X.mm)):lJ (bK X.κ) 6 o X.K:=aau p ⟨by rw[cF];exact P.lo,P.K1,aq P.Ks P.s6⟩
theorem B2:0<X.mm:=tC (P:=λX=>0<X.mm) X (eE _) (eE _)
theorem D2(p:o.Perm (ax X.mm)):o≠[]:=λe=>cV 0 (i6 (B2 (X:=X)) (cF.symm.trans (p.length_eq.symm.trans (af yO e))))
theorem JH(p:o.Perm (ax X.mm)):o.Nodup:=p.nodup_iff.mpr vc
theorem yu(p:o.Perm (ax X.mm)):o.length<=3:=aq (aD (p.length_eq.trans cF)) vD
theorem fh.bp(P:fh X B)(p:o.Perm (ax X.mm)):Bc (qK X.κ X.V B) (λi=>o.idxOf i) o (oY X) (bK X.κ) 6:=R_ P.H (JH p) (yu p)
theorem Bj(P:fh X B)(hM:X.K<=su M (ax X.mm))(p:o.Perm (ax X.mm)):xP (qK X.κ X.V B) (λi=>o.idxOf i) M (ax X.mm) X.K (gF X M o):=
 (Vw (K₀:=X.K) P.H.dec (JH p) Pr (P.bp p) (i5 _) (.refl o) (λ_=>P.G p) rfl ((J4 p).symm▸hM) λc h n=>absurd h n).congr p λa m=>iP m
theorem l7.congr(h:∀a∈ps,t a=t' a)(O:l7 q M ps t):l7 q M ps t':=λa ha b hb ne h0 eZ=>by
 rw[<-h a ha] at h0⊢;rw[<-h b hb] at eZ⊢;exact O a ha b hb ne h0 eZ
theorem fh.hM(P:fh X B):X.K<=su X.L (ax X.mm):=P.es▸P.Ks
theorem fh.bL(P:fh X B):∀i,bK X.κ<=X.L i:=λi=>aq xx (P.L1 i)
def jw(X:LX):List (List Nat):=ET (gv X X.L) X.t
theorem ads(P:fh X B)(hc:c∈ci X.s 0 X.K):(ax X.mm).map (eK (gq X) c)∈jw X↔Ab (Wd (dK X.κ) 7 X.V) (bK X.κ) (gq X) X.mm X.s X.K c:=by
 refine KW ?_ (ac8 P.D xx P.H.big (De (by decide) P.H.v1) (λi _=>P.bL i) P.lo hc).symm;refine Qj.trans ⟨λ⟨o,m,e⟩=>?_,λO=>?_⟩
 ·exact l7.congr (λa ha=>(Gj.mp e a ha).symm) (Bj P P.hM (Dr m)).mw.opt
 ·obtain⟨p,Fp⟩:=Vd P.H.dec O;have m:yg p (ax X.mm)∈nL X.t:=acb;have pm:=Dr m;have R:=Bj P P.hM pm;exact⟨_,m,pV (aeV P.H.dec (λa ha b hb=>Pr a (pm.mem_iff.mpr ha) b (pm.mem_iff.mpr hb)) Fp R.mw (λa _=>Jh P.D) R.le ((H8 P.D (vL hc).1 (vL hc).2.1).trans ((vL hc).2.2.trans R.sum.symm)))⟩
theorem J_(P:fh X B):∃e l,jw X=e::l/\∀x∈l,fM e x=false:=by
 obtain⟨os,eo⟩:∃os,nL X.t=ax X.mm::os:=tC (P:=λX=> ∃os,nL X.t=ax X.mm::os) X ⟨_,rfl⟩ ⟨_,rfl⟩;have e0:jw X=os.foldl (λd o=>jS d (gv X X.L o)) [gv X X.L (ax X.mm)]:=by unfold jw ET;rw[eo];rfl
 obtain⟨l',e1⟩:=afm (G:=gv X X.L) (x:=gv X X.L (ax X.mm)) (os:=os) (l:=[]);refine⟨_,l',e0.trans e1,λx m=>?_⟩;obtain⟨o,mo,rfl⟩:=Qj.mp (show x∈jw X by rw[e0,e1];exact .tail _ m);have R:=Bj P P.hM (Dr mo);have R0:=Bj P P.hM (.refl (ax X.mm));exact Ϣ (Xc P.H.dec R0.mw R.mw.opt R0.le R.le (Pw vc) (λa h=>h) (R.sum.trans R0.sum.symm)) ((bi _).trans (bi _).symm)
theorem Pv(P:fh X B)(p:o.Perm (ax X.mm)):gv X (λ_=>X.K) o=(ax X.mm).map (oY X o X.K):=by
 have e:cq (oY X o X.K) (λ_=>X.K) o=[]:=Gp.mpr λa m h=>nF (cC h) (aq (Ej m) (aD (P.bp p o X.K (.refl o) (D2 p) (P.G p)).sum));refine pV λi m=>(iP (p.mem_iff.mpr m)).trans ?_;show(if cq (oY X o X.K) (λ_=>X.K) o=[] then λi=>if i∈o then oY X o X.K i else X.K else _) i=_;rw[iP e];exact iP (p.mem_iff.mpr m)
theorem WC(R:iM W S z l K):iM W S z l.reverse K:=⟨IH.symm▸R.lo,by rw[IH,((Gc l).filter _).length_eq];exact R.hi,R.le⟩
theorem Λ(h:fg W)(R:iM W S (mh W S l k) l k)(nd:l.Nodup):wi W S (mh W S l k) l k= !decide (l.map (λi=>b+fv W S (mh W S l k) l k i)=l.map λi=>b+fv W S (mh W S l.reverse k) l.reverse k i):=by
 rw[Jl h (WC R),FK,tu,decide_eq_false_iff_not,Gj,r_ R nd];exact⟨λ⟨i,m,h⟩ h'=>h (K9 (h' i m)),λh=>zj λno=>h λi m=>af (b+ ·) (zj λh'=>no ⟨i,m,h'⟩)⟩
theorem U9(P:fh X B):sV (dK X.κ) (bK X.κ) X.V (ax X.mm) X.K= !decide (gv X (λ_=>X.K) (ax X.mm)=gv X (λ_=>X.K) (ax X.mm).reverse):=by
 rw[Pv P (.refl _),Pv P (Gc _)];have V:o7 (mX X.κ (ax X.mm) X.V X.K true):=⟨P.G (.refl _),P.H.v1,vc,yu (.refl _),D2 (.refl _)⟩;generalize ax X.mm=l at*;have hl:l.reverse.length=l.length:=T1;by_cases e:bK X.κ*l.length=X.K
 ·rw[show oY X l X.K=oY X l.reverse X.K from funext λi=>(iP e).trans (iP (hl.symm▸e)).symm,dT rfl];exact iP e
 ·rw[show oY X l X.K=λi=>bK X.κ+fv (Wd (dK X.κ) X.K X.V) X.K (mh (Wd (dK X.κ) X.K X.V) X.K l (X.K-bK X.κ*l.length)) l (X.K-bK X.κ*l.length) i from funext λi=>iN e,show oY X l.reverse X.K=λi=>bK X.κ+fv (Wd (dK X.κ) X.K X.V) X.K (mh (Wd (dK X.κ) X.K X.V) X.K l.reverse (X.K-bK X.κ*l.reverse.length)) l.reverse (X.K-bK X.κ*l.reverse.length) i from funext λi=>iN λk=>e (hl▸k),hl];exact(iN e).trans (Λ V.dec (G1 (O:=BY) (BK P.H.k5 V) V e).1 V.nd)
end
section
variable{i k s:Nat}{W pl:List (List Nat)}
theorem IL(P:fh X B)(hM:X.K<=su M (ax X.mm))(p:o.Perm (ax X.mm)):oN (aI NN (k+4)) X M o=some (lst (gv X M o)):=by
 have H:AS (aI NN (k+3)) ⟨X.mm,nn.getD X.κ "",X.V,M,o⟩ (oY X) (bK X.κ):=⟨λ{l K} s h0 G=>U_ P.H.k5 ⟨G,P.H.v1,(JH p).sublist s,aq s.length_le (yu p),h0⟩,λi m=>eL (p.mem_iff.mp m),aq (yu p) (by decide)⟩;exact(⋯:_=bm (aI NN (k+3)) NN A1 [.str (nn.getD X.κ ""),.list (bX X.mm X.V),.list (bX X.mm M),.int X.K,.list (aC o)] []).trans ((adQ H (P.bp p) (D2 p) (P.G p) ((J4 p).symm▸hM) (aq vD (by decide)) (aq (yu p) (by decide))).trans (af (λl=>some (PV.list l)) (jt (g:=λn:Nat=>PV.int n) (f:=gF X M o)).symm))
theorem Vq(P:fh X B)(hi:i<X.mm):HQ (aI NN (k+8)) X (gq X i) (d8 (gq X i)) (mD X i) i:=by
 have h6 {x} (h:x<X.s):x<6\/x<6:=.inl (ba h P.s6);have lt:∀x∈d8 (gq X i),x<X.s:=λx m=>P.D.lt hi x (rB.mp m);have h1:=ID (k:=k+3) (nc:=.int X.s) (.set (d8 (gq X i))) (li oK) (λx m=>(h6 (lt x m)).elim id id) (.inr ⟨_,rfl,λx m=>jf (lt x m)⟩);rw[Fj oK] at h1;exact⟨Xg (ID (k:=k+5) (.list _) (P.D.Dh hi) (λx m=>(h6 (P.D.lt hi x m)).elim id id) (.inl rfl)) (P.H.v1 i),aeh (k:=k+7) (WF (k:=k+5) (YY h1 (P.H.v1 i))) (aQ (aD ((bi _).trans cF)) (eN hi (aQ vD (by decide))))⟩
theorem Yo(P:fh X B):Fo (aI NN (k+8)) X:=⟨fO (ba P.K1 P.Ks),P.L1,P.L3,λ_ hi=>Vq P hi⟩
theorem X6:(ax 7).all (λs=>decide (((ax (2^s)).map (iO s)).Nodup)&&(ax 7).all λk=>decide ((ci s 0 k).Nodup)&&(ci s 0 k).all λc=>((ax (2^s)).map (iO s)).contains c)=true:=by decide+kernel
theorem YA(h6:s<=6)(hK:K<=6):((ax (2^s)).map (iO s)).Nodup/\(ci s 0 K).Nodup/\∀c∈ci s 0 K,c∈(ax (2^s)).map (iO s):=by
 have h:=aX (b7 X6 s (dH (kA h6)));have g:=aX (b7 h.2 K (dH (kA hK)));exact⟨cC h.1,cC g.1,λc m=>qg (b7 g.2 c m)⟩
theorem aaQ(h6:s<=6)(hK:K<=6)(sub:W.Sublist (ci s 0 K))(hw:∀c∈ci s 0 K,c∈W↔oi pl c∈aM):W.Perm (uD s K pl aM (ax (2^s))):=by
 obtain⟨b1,b2,b3⟩:=YA h6 hK;rw[show uD s K pl aM (ax (2^s))=((ax (2^s)).map (iO s)).filter λc=>decide (c.length=K)&&decide (oi pl c∈aM) from(Lf (p:=λc=>decide (c.length=K)&&decide (oi pl c∈aM)) (f:=iO s)).symm];refine(Gf (b2.sublist sub) (b1.filter _)).mpr λc=>?_;rw[oE,mK,decide_eq_true_iff,decide_eq_true_iff];refine⟨λm=>have mc:=sub.mem m;⟨b3 c mc,(sP mc).1,(hw c mc).mp m⟩,λ⟨m,h1,h2⟩=>?_⟩;obtain⟨m,_,rfl⟩:=rn.mp m;exact(hw _ (BP h1 (TV.filter _) λx m=>⟨cu _,eL (eJ m).1⟩)).mpr h2
structure Rn(X:LX)(o:Option PV)(d:List Nat)(out:List (List Nat)):Prop where
 eq:o=some (l8 (d::out))
 iY:(d::out).length<64
 ss:∀c∈d::out,SS c
 perm:(d::out).Perm (uD X.s X.K (lM X X.mm) (jw X) (ax (2^X.s)))
theorem fh.vs(P:fh X B):qj (gq X) X.L X.V X.mm X.s X.K:=by
 have key:∀q∈jc (gq X) X.V (ax X.mm),∃i,i<X.mm/\q.1=d8 (gq X i):=λq m=>by
  obtain⟨i,hi,rfl⟩:=rn.mp m;exact⟨i,eL hi,rfl⟩
 refine⟨P.D,⟨kA P.s6,P.K1,P.Ks,λq m=>(key q m).elim λi h=>h.2▸oK,λq m x mx=>(key q m).elim λi h=>P.D.lt h.1 x (rB.mp (h.2▸mx)),λq m=>(key q m).elim λi h=>?_,?_⟩,P.L3⟩
 ·rw[h.2,(Fi (P.D.Dh h.1)).length_eq,P.D.len i];exact P.L3 i
 ·refine tC (P:=λX=>(jc (gq X) X.V (ax X.mm)).length=2\/(jc (gq X) X.V (ax X.mm)).length=3) X (.inl rfl) (.inr rfl)
theorem Mv(P:fh X B){r:Option PV}(sub:W.Sublist (ci X.s 0 X.K))(ne:W≠[])(hW:∀c∈ci X.s 0 X.K,c∈W↔Ab (Wd (dK X.κ) 7 X.V) (bK X.κ) (gq X) X.mm X.s X.K c)(T:pk r (λv=>v) W):∃d out,Rn X r d out:=by
 obtain⟨out,e,p⟩:=T;obtain⟨d,o,rfl⟩:∃d o,out=d::o:=CB λq=>ne (q▸p).symm.eq_nil;exact⟨d,o,e,aQ (aq (aD p.length_eq) sub.length_le) (eN P.vs.V.iY (by decide)),λc m=>have h:=sP (sub.mem (p.mem_iff.mp m));⟨h.2.1,λx mx=>ba (h.2.2 x mx).2 P.s6⟩,p.trans (aaQ P.s6 (aq P.Ks P.s6) sub λc m=>(hW c m).trans ((ads P m).symm.trans (iff_of_eq (af (· ∈jw X) (jt (g:=λP:List Nat=>(P.filter λx=>decide (x∈c)).length) (f:=gq X)).symm))))⟩
theorem p_(P:fh X B):∃d out,Rn X (yt (aI NN (k+8)) X) d out:=by
 have ne:=BU P.Ks;by_cases h:X.κ=4
 ·have e1:dK X.κ=false:=by rw[h];rfl
  have e2:bK X.κ=1:=iP h;rw[show yt (aI NN (k+8)) X=_ from iP h];have R:=Bj P P.hM (.refl (ax X.mm));have hy:∀i,i<X.mm->gF X X.L (ax X.mm) i<=X.L i:=λi hi=>R.le i (dH hi);have cv:∃c0∈ci X.s 0 X.K,d9 1 (gq X) X.mm c0:=⟨_,OM P.D hy R.sum,λi hi=>by
   rw[JI P.D hi (hy i hi),<-e2];exact O5 xx P.H.big R.mw.opt (λa _=>P.bL a) (by rw[R.sum,cF];exact P.lo) i (dH hi)⟩
  exact Mv P (u0.trans u0) (tU (λx m=>lC uK.1 P.vs.V x (eJ m).1) (tU (lC uK.2 P.vs.V) ne)) (λc hc=>by rw[e1,e2];exact ZS P.vs P.H.v1 cv hc) (acL P.vs.V)
 ·have e2:bK X.κ=0:=iN h;rw[show yt (aI NN (k+8)) X=_ from iN h];exact Mv P u0 (tU (lC uC P.vs.V) ne) (λc hc=>by rw[e2];exact adS P.vs hc) (abc P.vs.V)
end
end
section
variable{X:LX}{B:Int}{sc:List Int}
structure pq(X:LX):Prop where
 H:Fd X
 V:X.V=IG X
 L:X.L=yE X (nG X)
 s:X.s=pA X.mm X.L
 le:X.le=cond (k4 X.κ) X.mm 1
 K:X.K=X.le+X.H/10%(X.s-X.le+1)
theorem Bl:X.lg*X.mm=6/\2<=X.lg/\X.lg<=3:=tC (P:=λX=>X.lg*X.mm=6/\2<=X.lg/\X.lg<=3) X (show 3*2=6/\2<=3/\3<=3 by decide) (show 2*3=6/\2<=2/\2<=3 by decide)
theorem C6{i:Nat}:nG X i<=X.lg:=aq (aD (gj ..)) (Cs _ (ba Nat.two_pos Bl.2.1))
theorem Xe:su (nG X) (ax X.mm)<=6:=aq (lS λ_ _=>C6) (aD (gy.trans ((af (X.lg* ·) cF).trans Bl.1)))
structure Ra(X:LX)(L:Nat->Nat):Prop where
 lo:∀i,1<=L i
 hi:∀i,L i<=nG X i
theorem Vk:Ra X (yE X (nG X)):=by
 unfold yE;cases h:kO X.κ&&decide (5<pA X.mm (nG X)) with
 |false=>exact⟨λi=>cW 1 _,λ_=>bf _⟩
 |true=>
  have e:nG X 0=X.lg:=zE (t':=λ_=>X.lg) (λ_ _=>C6) (mM (lS λ_ _=>C6) (aq (aD (gy.trans ((af (X.lg* ·) cF).trans Bl.1))) (cC (aX h).2))) (dH B2);refine⟨λi=>?_,λi=>?_⟩<;>rw[iP rfl]<;>unfold gz<;>by_cases k:i=0
  ·rw[iP k,e];exact mP Bl.2.1
  ·rw[iN k];exact cW 1 _
  ·rw[iP k,k];exact kE ..
  ·rw[iN k];exact bf _
theorem pq.len(S:pq X):Ra X X.L:=by rw[S.L];exact Vk
theorem pq.mm(S:pq X):X.mm<=X.s:=S.s.symm▸aq (aD ((gy (n:=1) (ps:=ax X.mm)).trans ((zi _).trans cF)).symm) (lS λi _=>S.len.lo i)
theorem pq.DT(S:pq X):1<=X.le/\X.le<=X.s/\bK X.κ*X.mm<=X.le:=by
 have e:k4 X.κ=decide (X.κ=4):=fA w3;rw[S.le,e];unfold bK;by_cases h:X.κ=4
 ·rw[iP h,dT h];exact⟨B2,S.mm,aD (zi _)⟩
 ·rw[iN h,dF h];exact⟨bf 1,aq B2 S.mm,aq (aD (Ca _)) (cu 1)⟩
theorem acd:∃N,∀i,(sc.getD i 0).natAbs<=N:=by
 induction sc with
 |nil=>exact⟨0,λ_=>bf 0⟩
 |cons a l ih=>
  obtain⟨N,h⟩:=ih;refine⟨a.natAbs+N,λi=>?_⟩;cases i with
  |zero=>exact cW ..|succ i=>exact aq (h i) (i7 ..)
theorem af5{c:Bool}{v:Nat->Nat}{N:Nat}(h:∀i,v i<=N)(i j:Nat):Wd c 7 v i j<(N*dN c 7:Nat)+1:=by
 unfold Wd;by_cases k:j<7
 ·rw[iP k];exact Int.lt_add_one_of_le (pz (Cb (h i) (Kk ..)))
 ·rw[iN k];exact lG (T3 (ag1 (fP j) Int.one_pos)) (K8 (fP _) (by decide))
theorem U3(S:pq X):∃B,fh X B:=by
 obtain⟨N,h⟩:=acd (sc:=X.sc);have hv:∀i,X.V i<=1+N:=λi=>by
  rw[S.V];exact i3 (aq (Kk ..) (by rw[S.H.nu];exact h (i+1))) 1
 have l:=S.DT;have K1:X.le<=X.K:=S.K.symm▸cW ..;exact⟨_,⟨k5 S.H,λi=>by rw[S.V];exact cW 1 _,af5 hv⟩,VZ (fO (aq l.1 l.2.1)) S.s,S.len.lo,λi=>aq (S.len.hi i) (aq C6 Bl.2.2),S.s,S.s.symm▸aq (lS λi _=>S.len.hi i) Xe,aq l.2.2 K1,aq l.1 K1,by
  rw[S.K];exact aq (i3 (ju (Cs _ (eE _))) _) (aD (iK l.2.1))⟩
def E4(sc:List Int):LX:=⟨sc,(sc.headD 0).natAbs,(sc.headD 0).natAbs%5,(sc.headD 0).natAbs/5%2==1,num sc,λ_=>0,λ_=>0,0,0,0⟩
def AJ(sc:List Int):LX:={E4 sc with L:=yE (E4 sc) (nG (E4 sc)),V:=IG (E4 sc)}
def Av(sc:List Int):LX:={AJ sc with s:=pA (AJ sc).mm (AJ sc).L,le:=cond (k4 (AJ sc).κ) (AJ sc).mm 1}
def GT(sc:List Int):LX:={Av sc with K:=(Av sc).le+(Av sc).H/10%((Av sc).s- (Av sc).le+1)}
theorem QR(h:sc.length<=100):pq (GT sc):=⟨⟨rfl,rfl,by
 show cond ((sc.headD 0).natAbs/5%2==1) 3 2=_;rcases ag6 ((sc.headD 0).natAbs/5) with e|e
 ·rw[show(GT sc).H/5%2=0 from e,e];rfl
 ·rw[show(GT sc).H/5%2=1 from e,e];rfl,rfl,h⟩,rfl,rfl,rfl,rfl,rfl⟩
end
section
variable{X:LX}{B:Int}{q:PV×PV}{O:aK}
def gX(X:LX):List Nat×List Nat:=(gv X (λ_=>X.K) (ax X.mm),gv X (λ_=>X.K) (ax X.mm).reverse)
theorem acm(S:pq X)(h:O.make "Profile" [.int X.s] []=some (bv,eW X.s [],fK)):a9 O NN aU cr [("script",.pv (.list (cL X.sc)))] ([bl 0,bl 1,bl 2,bl 3]++[bl 4,bl 5,bl 6,bl 7,bl 8,bl 9,bl 10,bl 11,bl 12])=nx (gx X X.L false (nE X [("made",.a7 bv (eW X.s []) fK)])):=xZ (acT S.H) (aF (adm S.H) (aF aeZ (aF ZN (aF (adp (L:=nG X) S.V) (aF ((ϗ (L:=nG X) (cW 1 _)).trans (af (λL=>nx (gx X L false [])) S.L.symm)) (aF (aem (L:=X.L) S.s) (aF (afT (L:=X.L) S.le) (aF (aea (L:=X.L) S.DT.2.1 S.K) (jY.trans (acB h))))))))))
theorem fh.iY(P:fh X B):X.K<=su (λ_=>X.K) (ax X.mm):=gy.symm▸TY _ (i6 B2 cF.symm)
theorem ϩ(P:fh X B):∃q,a9 (aI NN 8) NN aU cr (gx X X.L false (nE X [("made",.a7 bv (eW X.s []) fK)])) ([bl 13,bl 14]++bl 15::([bl 16,bl 17]++[bl 18,bl 19,bl 20]))=nx (qR X (jw X) q (gX X) []):=by
 obtain⟨q,e⟩:=ae3 (O:=aI NN 8) (X:=X) (G:=gv X X.L) λx m=>IL (k:=4) P P.hM (Dr m);obtain⟨d,l,e2,h2⟩:=J_ P;have e18:aw (aI NN 8) NN aU cr (rP X (jw X) q []) (bl 18)=nx (rP X (jw X) q []):=by rw[e2];exact ach h2
 have f1:oN (aI NN 8) X (λ_=>X.K) (Bq X.t)=some (lst (gX X).1):=by
  rw[show Bq X.t=ax X.mm from tC (P:=λX=>Bq X.t=ax X.mm) X rfl rfl];exact IL (k:=4) P P.iY (.refl _)
 have f2:oN (aI NN 8) X (λ_=>X.K) (A5 X.t)=some (lst (gX X).2):=by
  rw[show A5 X.t=(ax X.mm).reverse from tC (P:=λX=>A5 X.t=(ax X.mm).reverse) X rfl rfl];exact IL (k:=4) P P.iY (Gc _)
 exact⟨q,xZ aek (aF (Wf (Yo P)) (xZ e (aF e18 (abQ f1 f2))))⟩
theorem Κ(S:pq X)(P:fh X B)(h6:X.s-1<6):∃q,a9 (aI NN 8) NN aU cr [("script",.pv (.list (cL X.sc)))] (o0.take 21)=nx (qR X (jw X) q (gX X) []):=by
 obtain⟨q,e⟩:=ϩ P;have m:=acg (k:=7) h6;rw[F0 (aq P.K1 P.Ks)] at m;exact⟨q,(af (λl=>a9 (aI NN 8) NN aU cr _ l) (⋯:o0.take 21=_++_)).trans (xZ (acm S m) e)⟩
theorem ady(P:fh X B):∃σ,a9 (aI NN 8) NN aU cr (pE X (jw X) q (gX X) (sV (dK X.κ) (bK X.κ) X.V (ax X.mm) X.K) []) (o0.drop 22)=some (.ret (.bool true),σ):=by
 obtain⟨u,e⟩:=afV (O:=aI NN 8) (Y:=⟨X,jw X,q,gX X,sV (dK X.κ) (bK X.κ) X.V (ax X.mm) X.K⟩) P.s6 (aq (aD ((bi _).trans cF)) (aq vD (by decide))) λp m=>(rn.mp m).elim λi h=>h.2▸aq (aD (P.D.len i)) (aq (P.L3 i) (by decide));obtain⟨d,out,T⟩:=p_ (k:=0) P;exact⟨_,(af (λl=>a9 (aI NN 8) NN aU cr _ l) (⋯:o0.drop 22=bl 22::([bl 23,bl 24]++[bl 25,bl 26]))).trans (aF (abz (U9 P)) (xZ e (aF (YD P.H.k5 T.eq) (sH (XJ T.ss T.iY T.perm)))))⟩
end
section
variable{c:Cx}{F:Fm}{P:St c F}{d:Nat}{A:Am d}{K:Flow->ag->Prop}{E:ac->ag->Prop}{O:aK}
section
variable{R:St c F}{s':ag}{v:ac}{B:am}{e:ao}{h':am}{X:aN->List Str->ar->aH->aZ}{mu:List Str}{σ₁:ar}{rest:List aH}{x:Str}{k:Nat}
structure sf(P:St c F)(s':ag):Prop where
 keep:∀b o,P.x.s.heap.get? b=some o->¬dC b->b≠F.env.locals->s'.heap.get? b=some o
 frame:∀o,P.x.s.heap.get? F.env.locals=some o->(∀vs,o.data≠ .fields vs)->∃sl,s'.heap.get? F.env.locals=some {o with slots:=sl}
 tab:ir s'.heap
 x:ch (λ_=>True) P.x.s.gens.size P.x.s s'
theorem sf.ns(K:sf P s'){m:Str->Option ac}(h:P.x.s.heap.Ns F.env.locals m):s'.heap.Ns F.env.locals m:=by
 obtain⟨o,es,ep,e,hd,r⟩:=h;obtain⟨sl,e'⟩:=K.frame o e λvs q=>by rw[hd] at q;injection q
 exact⟨_,es,ep,e',hd,r⟩
theorem sf.env(K:sf P s'){b:ao}{o:Obj}(n:¬dm F.env b)(t:¬dC b)(e:P.x.s.heap.get? b=some o):s'.heap.get? b=some o:=K.keep b o e t λq=>n (.inl q)
noncomputable def sf.pt(K:sf P s'):Pt c where
 s:=s'
 f:=P.x.f
 keep b o h:=K.keep b o (P.x.keep b o h) (λq=>Pt.h0 c q h) λq=>nS (P.o.own.h₀.symm.trans (q▸h))
 tab:=K.tab
 K:=P.x.K
 nt:=P.x.nt
 hs a o h:=K.keep a o (P.x.hs a o h) (P.x.nt a o h) λq=>nS (P.o.own.f.symm.trans (q▸h))
theorem sf.upd(K:sf P s'):kY P K.pt λ_=>False:=by
 have cell:∀{z a o},F.env.cells.lookup z=some a->P.x.s.heap.get? a=some o->s'.heap.get? a=some o:=λ{z a o} n e=>K.keep a o e (F.i9.2 z a n) (F.cl z a n);refine⟨λ_ _ e=>e,λq v _ V=>V.imp (λV=>⟨V.1,V.2.imp λm n=>⟨K.ns n.1,n.2⟩⟩) λV=>⟨V.1,V.2.imp λb n=>⟨n.1,n.2.imp λo e=>⟨cell n.1 e.1,e.2⟩⟩⟩,λz a e=>(P.cU z a e).imp λv h=>h.imp λo h=>⟨cell e h.1,h.2⟩,⟨P.o.ns.imp λ_ n=>K.ns n,⟨P.o.own.f,P.o.own.h₀,P.o.own.hi⟩,P.o.loc,λz e=>⟨(P.o.ll z e).1,(P.o.ll z e).2.imp λa h=>⟨h.1,h.2.f,h.2.h₀,h.2.hi⟩⟩⟩,λq v _ h b m=>⟨⟨(P.fresh q v h b m).1.f,(P.fresh q v h b m).1.h₀,(P.fresh q v h b m).1.hi⟩,λo e=>K.env (P.fresh q v h b m).2 (cK (P.fresh q v h b m).1.hi) e⟩⟩
theorem Rh(f:jj [F.env] (λ_=>False) P.x.s v s' B e)(own:F.env.frame=some F.env.locals)(hb:B.StaysIn h')(u:s'.heap.UpToSlots h'):sf P {s' with heap:=h'} where
 keep b o q t n:=hb b o (f.keep b o q t id λz=>by
  rw[Io own] at z;exact n (cY z))
 frame o q k:=(f.slots _ o q F.i9.1 id k).elim λsl q'=>(u _ {o with slots:=sl} q' k).imp λUs q2=>q2
 tab:=f.tab.keeps hb
 x:=f.x.trans ((ch.heap s').lower f.x.di (bf _))
theorem abv(S:Sd c d X):∀{pre:List aH} {P:St c F},aS (X F.nm mu) pre P.σ=some (.next,σ₁)->(∀R:St c F,bD P R->R.σ=σ₁->ai (ah pw c.w) A.A (tz rest F.env) K E R.x.s)->ai (ah pw c.w) A.A (tz (pre++rest) F.env) K E P.x.s:=by
 intro pre;induction pre with
 |nil=>exact λ{P} h k=>k P (.refl P) (af oz (ay h))
 |cons st pre ih=>
  intro P h k;refine aj h λq h1 h2=>?_;obtain⟨fl,σ⟩:=q;cases fl with
  |next=>exact FM (S h1 [] _ _ λR a e=>ih (e.symm▸h2) λR' a' e'=>k R' (a.trans a') e')|ret p=>nomatch ay h2|exc=>nomatch ay h2
end
section
variable{I:Ip}{σ₁:ar}{x:Str}{kc:Nat}{ee:Expr}{st1:aH}{ep tp hp0 yp kp ap pos:Pos}
theorem XX(S:aW c d I)(Mu:g9 c O d)(h:raises O I F.nm (bB P.σ) ee=true)(hk:ak F.nm ("TiesException":Str)=some .globalImplicit)(hp:putN F.nm x (.pv (.bool true)) P.σ=some σ₁)(stack:A.A.frames=some [F.env])(own:F.env.frame=some F.env.locals)
(k:∀Q:St c F,Q.σ=σ₁->ch (λ_=>True) P.x.s.gens.size P.x.s Q.x.s->K .next Q.x.s):
  ai (ah pw c.w) A.A (iI (.Try [.Expr ee ep,st1] [.ExceptHandler (some (.Name "TiesException" tp)) none [.Assign [.Name x yp] (.Constant (.bool true) kc kp) ap] hp0] [] [] pos) F.env) K E P.x.s:=by
 refine bE λgG hG=>?_;have z:=Sn c.w.params;simp only[mK,beq_iff_eq] at z;obtain⟨n',q,bs,hdct,sn,sub,ab,col,dd,k0,k1,k2,k3,k5,ho⟩:=Qe c.w.params;obtain⟨np,Gx,he⟩:∃np Gx,∃g:Str×List Expr×List fj,ee=.Call (.Name g.1 np) g.2.1 g.2.2 Gx:=aj (Q3 h) λg h1 _=>(Ee h1).elim λnp h=>h.elim λcp e=>⟨np,cp,g,e⟩;obtain⟨g,rfl⟩:=he;refine hG (wpAny_Try_except (FM (yZ (QN S Mu h ⟨stack,own,λe m=>absurd m eX⟩ λv s' B e f=>?_) vM rfl)));obtain⟨a0,y⟩:=f.HR;obtain⟨hh,gg,dr,tk,os⟩:=s';rw[f.v];refine wpAny_looks_onW stack own y λh1 y1 u1=>wpAny_landsW y1 λh2 y2 u2=>?_;have K2:=Rh f own y2.1 (u1.trans u2);refine wpAny_handleBy_cons (codeAny_handlers_test (Co (NH F K2.pt (F.names _ hk) z.2 ?_) (by decide))) (by intro q;injection q);obtain⟨oe,hoe,ahF⟩:=y2.there;refine wpAny_excMatches_sub_self (K2.pt.cT 664 _ ho) hoe ahF (by decide) (codeAny_handlers_suite (wpAny_setFlight_noneW y2.1 y2.2.2.1 y2.2.2.2.at λh3 j1 j2 j3 j4=>?_));have K3:=Rh f own j1 ((u1.trans u2).trans λb o e hn=>⟨o.slots,j4 b o e hn⟩);exact FM (y0 (au (v6 (.refl (P.move K3.pt K3.upd)) hp .bool λR a e _=>FL (k R e (K3.x.trans (a.st.e.any.lower K3.x.di (bf _)))))))
end
section
variable{X:LX}{aM:List (List Nat)}{q:PV×PV}{g:List Nat×List Nat}
def tS(i:Nat):aH:=aJ (sB 0 (bl 21)) i
theorem abp:bl 21=.Try [.Expr (sE (tS 0)) ⟨838,8,838,58⟩,tS 1] [.ExceptHandler (some (.Name "TiesException" ⟨840,11,840,24⟩)) none [.Assign [.Name "tied" ⟨841,8,841,12⟩] (.Constant (.bool true) 0 ⟨841,15,841,19⟩) ⟨841,8,841,19⟩] ⟨840,4,841,19⟩] [] [] ⟨837,4,841,19⟩:=⋯
def EF(X:LX):List PV:=[.str (nn.getD X.κ ""),.list (bX X.mm X.V),.int X.K]
theorem af6(h:O.n9 "compute" (EF X) [("tiesallowed",.bool false)]=true):raises O (ip 999999 O) aU (bB (qR X aM q g [])) (sE (tS 0))=true:=
 (tC X ⋯ ⋯:raises O (ip 999999 O) aU (bB (qR X aM q g [])) (sE (tS 0))=O.n9 "compute" (EF X) [("tiesallowed",.bool false)]).trans h
theorem f_{p:PV}(h:O.fn "compute" (EF X) [("tiesallowed",.bool false)]=some p):a9 O NN aU cr (qR X aM q g []) [.Expr (sE (tS 0)) ⟨838,8,838,58⟩,tS 1]=nx (pE X aM q g false []):=
 aF (σ₁:=qR X aM q g []) ((show aw O NN aU cr (qR X aM q g []) (.Expr (sE (tS 0)) ⟨838,8,838,58⟩)=(O.fn "compute" (EF X) [("tiesallowed",.bool false)]).map λ_=>(.next,qR X aM q g []) from tC X ⋯ ⋯).trans (af (eP _) h)) ⋯
structure ER(c:Cx)(s s':ag):Prop where
 at_:∃y:Pt c,y.s=s'
 x:ch (λ_=>True) s.gens.size s s'
theorem Xk{B:Int}{A:Am 96}(S:pq X)(Pl:fh X B)(e1:F.nm=aU)(e2:P.σ=([("script",.pv (.list (cL X.sc)))]:ar))(stack:A.A.frames=some [F.env])(own:F.env.frame=some F.env.locals):ai (ah pw c.w) A.A (tz o0 F.env) (λfl s'=>fl=.ret (.bool true)/\ER c P.x.s s') No P.x.s:=by
 obtain⟨q,pre⟩:=Κ S Pl (kA (KZ Pl.s6 1));have sd:Sd c 96 (aw (aI NN 8) NN):=Hv (Fb 8).1 (Fb 8).2 NN;rw[show o0=o0.take 21++(bl 21::o0.drop 22) by rfl'];refine abv (mu:=cr) sd (by rw[e1,e2];exact pre) λR a er=>FM ?_;have post:∀Q:St c F,Q.σ=pE X (jw X) q (gX X) (sV (dK X.κ) (bK X.κ) X.V (ax X.mm) X.K) []->ch (λ_=>True) P.x.s.gens.size P.x.s Q.x.s->ai (ah pw c.w) A.A (tz (o0.drop 22) F.env) (λfl s'=>fl=.ret (.bool true)/\ER c P.x.s s') No Q.x.s:=λQ eq x=>by
  obtain⟨σ,e⟩:=ady (q:=q) Pl;have z:Ex A Q (tz (o0.drop 22) F.env) (.ret (.bool true),σ):=wp (mu:=cr) sd (by rw[e1,eq];exact e);exact z [] _ _ λy v l r=>⟨lW (m:=λv=>Flow.ret v=.ret (.bool true)) r rfl,⟨y,rfl⟩,x.trans (l.e.any.lower x.di (bf _))⟩
 have V:o7 (mX X.κ (ax X.mm) X.V X.K false):=⟨Pl.G (.refl _),Pl.H.v1,vc,yu (.refl _),D2 (.refl _)⟩;have Mu:g9 c (aI NN 8) 96:=(Fb 8).2.mono (show 11*8<=96 by decide);have T:=aeP (k:=5) Pl.H.k5 V;rw[abp];cases ht:sV (dK X.κ) (bK X.κ) X.V (ax X.mm) X.K with
 |true=>exact XX (Mx (Fb 8).1 999999) Mu (by rw[e1,er];exact af6 (T.yes ht).2) (by rw[e1];rfl') (show putN F.nm "tied" (.pv (.bool true)) R.σ=some (pE X (jw X) q (gX X) true []) by rw[e1,er];rfl') stack own λQ e x=>post Q (by rw[e,ht]) (a.st.e.any.trans (x.lower a.st.e.di (bf _)))
 |false=>
  obtain⟨p,hp⟩:=T.no ht;have z:Ex A R (tz [.Expr (sE (tS 0)) ⟨838,8,838,58⟩,tS 1] F.env) (.next,pE X (jw X) q (gX X) false []):=wp (mu:=cr) sd (by rw[e1,er];exact f_ hp);exact wpAny_Try_except (z [] _ _ λQ a2 e=>FL (post Q (by rw[e,ht]) (a.st.e.any.trans (a2.st.e.any.lower a.st.e.di (bf _)))))
end
end
section
variable{w:cO}{h:am}{sc:List Int}{s s':ag}{a b:ao}{o:Obj}
noncomputable def zP:List ao:=[25,32,40]
theorem Ix:dC b↔b∈zP:=⟨λh=>h.elim (λe=>e▸ .head _) λh=>h.elim (λe=>e▸ .tail _ (.head _)) λe=>e▸ .tail _ (.tail _ (.head _)),λh=>(bw h).imp id λh=>(bw h).imp id cY⟩
def Zk(c P:ao):Prop:=(c=29/\P=25)\/(c=36/\P=32)\/(c=44/\P=40)
theorem Mk(Y:uB w h):ir h:=by
 rintro c P (⟨rfl,rfl⟩|⟨rfl,rfl⟩|⟨rfl,rfl⟩)
 ·exact⟨#[],⟨_,_,_,_,_,_,_,_,_,bP,Y.1 29 _ rfl,rfl,rfl,rfl,rfl,rfl,rfl,Y.2 25 bP rfl,rfl,trivial,by decide⟩,⟨⟨_,_,Y.1 29 _ rfl,rfl,rfl,rfl⟩,Y.2 25 bP rfl⟩,λpos x e=>nS e⟩
 ·exact⟨#[],⟨_,_,_,_,_,_,_,_,_,bP,Y.1 36 _ rfl,rfl,rfl,rfl,rfl,rfl,rfl,Y.2 32 bP rfl,rfl,trivial,by decide⟩,⟨⟨_,_,Y.1 36 _ rfl,rfl,rfl,rfl⟩,Y.2 32 bP rfl⟩,λpos x e=>nS e⟩
 ·exact⟨#[],⟨_,_,_,_,_,_,_,_,_,bP,Y.1 44 _ rfl,rfl,rfl,rfl,rfl,rfl,rfl,Y.2 40 bP rfl,rfl,trivial,by decide⟩,⟨⟨_,_,Y.1 44 _ rfl,rfl,rfl,rfl⟩,Y.2 40 bP rfl⟩,λpos x e=>nS e⟩
theorem Op(Y:uB w h)(t:dC b):h.get? b=some bP:=t.elim (λe=>e▸Y.2 25 bP rfl) λt=>t.elim (λe=>e▸Y.2 32 bP rfl) λe=>e▸Y.2 40 bP rfl
theorem PH(e:(KL w.params).lookup b=some o):¬dC b:=λt=>by
 have z:(KL w.params).lookup b=none:=t.elim (λe=>e▸(⋯:(KL w.params).lookup 25=none)) λt=>t.elim (λe=>e▸(⋯:(KL w.params).lookup 32=none)) λe=>e▸(⋯:(KL w.params).lookup 40=none);exact nS (z.symm.trans e)
theorem G9(e:h.get? a=some o)(n:¬dC a):(hideAll h zP).get? a=some o:=hideAll_get _ e λm=>n (Ix.mpr m)
theorem Jf{m:Str->Option ac}(n:h.Ns a m)(k:¬dC a):(hideAll h zP).Ns a m:=by
 obtain⟨o,es,ep,e,r⟩:=n;exact⟨o,es,ep,G9 e k,r⟩
theorem Jp(h:zP.contains a=false):¬dC a:=λt=>dy (h.symm.trans (kz.mpr (Ix.mp t)))
structure yC(w:cO)(s:ag):Prop where
 Y:uB w s.heap
 g:∃mg,s.heap.Ns mE mg
 b:∃mb,s.heap.Ns uM mb/\∀x:Str,x≠ "__name__"->mb x=bootBuiltins x
 nl:s.heap.NoLimit
def yC.cx(B:yC w s):Cx where
 w:=w
 h₀:=hideAll s.heap zP
 K a o e:=G9 (B.Y.1 a o e) (PH e)
 g:=B.g.imp λ_ n=>Jf n (Jp ⋯)
 b:=B.b.imp λ_ n=>⟨Jf n.1 (Jp ⋯),n.2⟩
 nolimit:=by
  obtain⟨mc,n,q⟩:=B.nl;exact⟨mc,Jf n (Jp ⋯),q⟩
 i9 a t:=hideAll_none _ (Ix.mp t)
def yC.pt(B:yC w s):Pt B.cx where
 s:=s
 f a:=(KL w.params).lookup a
 keep _ _ e:=of_hideAll _ e
 tab:=Mk B.Y
 K _ _ e:=e
 nt _ _ e:=PH e
 hs a o e:=B.Y.1 a o e
theorem Z5{vs:List ac}{n:Nat}(Y:uB w h)(e:h.get? b=some (bu vs n)):¬dC b:=λt=>nomatch (af uX (ay ((Op Y t).symm.trans e)):oj=iE "list")
theorem aak(B:yC w s)(T:ER B.cx s s'):OldK s.heap s'.heap:=by
 obtain⟨y,rfl⟩:=T.at_;have tab:∀{c P:ao},Zk c P->dC P->∀o,s.heap.get? P=some o->asItWas s.heap y.s.heap P o/\∃o',y.s.heap.get? P=some o':=λ{c P} q t o e=>by
  obtain⟨ps,i1,i2,_⟩:=Mk B.Y c P q;obtain⟨qs,j1,j2,_⟩:=y.tab c P q;obtain rfl:=ay ((Op B.Y t).symm.trans e);exact⟨.inr (.inl ⟨i2.isCodeTable,rfl,#[],qs,rfl,by rw[j2.2,Array.empty_append];rfl⟩),_,j2.2⟩
 have all:∀b o,s.heap.get? b=some o->asItWas s.heap y.s.heap b o/\∃o',y.s.heap.get? b=some o':=λb o e=>by
  by_cases t:dC b
  ·have t':=t;rcases t with rfl|rfl|rfl
   ·exact tab (c:=29) (.inl ⟨rfl,rfl⟩) t' o e
   ·exact tab (c:=36) (.inr (.inl ⟨rfl,rfl⟩)) t' o e
   ·exact tab (c:=44) (.inr (.inr ⟨rfl,rfl⟩)) t' o e
  ·have k:=y.keep b o (G9 e t);exact⟨.inl k,o,k⟩
 exact⟨λb o e=>(all b o e).1,λb o e=>(all b o e).2⟩
theorem adz{fa:ao}{pm cd doc:ac}{vs:List ac}(B:yC w s)(hz:sc.length<=63)(hb:s.heap.get? b=some (bu vs 0))(hv:∀f:Fz,aR B.cx f vs (cL sc))(ho:s.heap.get? fa=some o)(hd:o.data=.func (Calls.docDef nM.name nM.params nM.body nM.scope pm cd doc))(xg:s.heap.CodeRec cd nM.name):
  ai (ah pw w) callerA (SE (.ref fa) [.ref b]) (λv s'=>v=.bool true/\ER B.cx s s') No s:=by
 have hA:jy 97 callerA:=⟨rfl,by decide+kernel,by decide+kernel⟩;obtain⟨Bd,Pl⟩:=U3 (QR (sc:=sc) (aq hz (by decide)));have S:=QR (sc:=sc) (aq hz (by decide));have UT:Jj nM.scope=true:=⋯;refine q8 (codeAny_call_function (aQ (cW _ _) hA.depth) ho hd ⋯ (Dv UT).2 rfl xg (J6 (ds:=[]) (o:=none) (binds:=[("script",.ref b)]) ⋯ (λ_ _ _ _ q=>au q) rfl ⋯ _ _ _ _ ?_));have nd:∀{α:Type} {x:α},[x].Nodup:=ny ⟨eX,wT⟩;refine Iv (x:=B.pt.add b _ hb (Z5 B.Y hb)) (Dv UT).1 nd (λx m=>cY m▸ .inl ⋯) (λg=>absurd ((⋯:pC nM.scope.names=false).symm.trans g) dy) λF y e=>⟨B.nl.keeps e.kp,codeAny_func ?_⟩;obtain⟨P,rfl,e2,_⟩:=Jw (U:=λ_=>[]) e (σ:=[("script",.pv (.list (cL sc)))]) nd (λz av q=>d3 q (λe q=>by
  obtain rfl:=ay q;exact⟨.ref b,e▸ .head _,.list o5 (hv _) (aq (aD (bi _)) (aq hz (by decide))),rfl⟩) λ_ q=>nS q) (λz b m=>mN m) λ_ _ _ _ m=>mN m
 exact cQ (Xk (A:=(⟨callerA,hA⟩:Am 97).deeper F.env) S Pl (e.nm.trans ⋯) e2 rfl e.fr) (λfl s2 z=>by
  obtain⟨rfl,T⟩:=z;exact⟨rfl,T.at_,e.le.e.nJ.trans (T.x.lower e.le.e.di (bf _))⟩) λ_ _ z=>z.elim
end
section
variable{w:cO}{h:am}{sc:List Int}{c:Cx}{f:Fz}{vs:List ac}
noncomputable def XY(r:Option WData):Bool:=match(match(match r with
  |some (.bool b)=>some (.bool (!b))|_=>none:Option WData) with
 |some (.bool false)=>some (.bool false)|some (.bool true)=>some (.bool true)|_=>none:Option WData) with
 |some (.bool true)=>true|_=>false
theorem WZ{xs:List WData}(q:eh.pre.holds eh.records {args:=[.list xs]}=true):xs.length<=63:=by
 rw[show eh.pre.holds eh.records {args:=[.list xs]}=XY (some (.bool (decide ((63:Int)<(xs.length:Int))))) by rfl'] at q;refine cZ λz=>?_;rw[dT (show(63:Int)<(xs.length:Int) from jf z)] at q;exact ff q
theorem aaz:∀{sc:List Int} {vs:List ac},WellAll w.params h vs (sc.map WData.int)->aR c f vs (cL sc):=by
 intro sc;induction sc with
 |nil=>exact λ{vs} W=>by cases W;exact .nil
 |cons i sc ih=>
   intro vs W;cases W with
   |cons a r=>
    cases a;exact .cons .int (ih r)
theorem walk:WalkO qv ud (λ_ _=>True) uB eh.toRowW nM [] λf vs=>SE f vs:=by
 intro w cX bJ mg mb G Y a o pm cd doc dV kV ho hd xg UU hmg UV args vals as ahG ahS hr ahH ahT;obtain⟨h1,h2⟩:=pre_splitW ahG;obtain⟨dd,rest,rfl,k1,k2⟩:=hasAllW_cons h1;obtain rfl:=hasAllW_nil k2;obtain⟨xs,rfl,k3⟩:=hasW_list k1;obtain⟨sc,rfl⟩:=items_int k3;have hz:=WZ h2;rw[bi] at hz;cases ahH with|cons q1 q2=>
 cases q2;cases q1 with| @list b vs _ hb hv=>
 have e1:dV=.none:=by
  rcases UU.pos with⟨_,q⟩|⟨q,_⟩
  ·exact q
  ·exact absurd (⋯:nM.params.defaults=[]) q
 have e2:kV=.none:=by
  rcases UU.kw with⟨_,q⟩|⟨q,_⟩
  ·exact q
  ·exact absurd rfl q
 subst e1 e2;refine cQ (adz ⟨Y,⟨_,G.T.g⟩,⟨_,G.T.b,G.T.builtins⟩,G.T.nolimit⟩ hz hb (λf=>aaz hv) ho hd xg) (λv s' z=>?_) λ_ _ z=>z.elim;obtain⟨rfl,T⟩:=z;refine⟨.inl ⟨_,.bool true,[],rfl,λ_=>rfl,.bool true,⋯,λ_=>⟨wT,λa m=>absurd m eX⟩⟩,aak _ T,T.x.os,λy m=>?_⟩;obtain⟨i,hi⟩:=Array.getElem?_of_mem m;exact T.x.bare (λi x _ e=>by rw[UV] at e;injection e) i y (by rw[UV];exact cu _) hi
end
theorem Ww(l:OpenLaw)(h0:(l.row.wellSaid)=true)(h1:(decide (l.foot<=(wF l.prog).length))=true)(h2:(l.footing.all footLine)=true)(h3:(noClassBlock l.prog l.footing)=true)(h4:(l.most.all (λn=>decide (63<=n)))=true)(h5:(l.bound.all (λn=>decide (2^63<=n)))=true)(h6:(Li {strict:=true,foot:=some l.bound',writes:=l.writes,may:=l.may} l.footing)=true)(h7:(defStands l.about l.above)=true)(h8:(l.namesIt)=true)(h9:((["type","isinstance","issubclass","getattr","hasattr"]:List Str).all (λn=>l.about !=[n]))=true)(CQ:(l.bound'.all (λn=> !CI n||l.about==[n]|| !l.reads n))=true)(CR:((!l.writes||(l.prog.main.body.flatMap Lj).all λn=> !l.reads n))=true)(CS:((l.prog.main.body.flatMap Lj).all (λn=> !l.reads n||(drawsOf n l.prog.main.body).all λmn=>mn.2 !=("attrgetter":Str)&&mn.2 !=("methodcaller":Str)))=true)(Mb:(w7 l.prog l.footing (λsc n=>(!(["type","isinstance","issubclass","getattr","hasattr"]:List Str).contains n||sc.names.lookup n==some .globalImplicit)&&
  (l.may !=some n||sc.kind==.module||sc.names.lookup n==some .globalImplicit)))=true)(h14:(l.own.contains l.name)=true)(h15:(l.own.eraseDups.length==l.own.length)=true)(h16:(l.own.all (λn=> !CI n))=true)(h17:(w7 l.prog l.above (λ_ n=> !l.own.contains n))=true)(h18:(w7 l.prog l.footing λsc n=>sc.kind==.module||sc.names.lookup n !=some .globalExplicit)=true):l.wellSaid=true:=(dE (dE (dE (dE (dE (dE (dE (dE (dE (dE (dE (dE (dE (dE (dE (dE (dE (dE h0 h1) h2) h3) h4) h5) h6) h7) h8) h9) CQ) CR) CS) Mb) h14) h15) h16) h17) h18)
theorem acw(r:OpenRow)(h0:(r.partSaid)=true)(h1:(r.prog.boundNames.contains r.name)=true)(h2:(!startupNames.contains r.name)=true):r.wellSaid=true:=(dE (dE h0 h1) h2)
theorem afg(r:OpenRow)(h0:(looksOpen r.prog)=true)(h1:(r.loose.isEmpty)=true)(h2:(r.makers.isEmpty)=true)(h3:((r.records.isEmpty||r.raises.all λct=>ct.1 !=.builtin "AttributeError" &&ct.1 !=.builtin "TypeError"))=true)(h4:((r.raises.all λct=>match ct.1 with|.builtin n=> !r.prog.boundNames.contains (dw n)&& !ofTheWorld.contains n|.own _=>true))=true)(h5:(decide (r.records.map (·.1)).Nodup)=true)(h6:((r.records.all λx=> !x.1.opensWith "__" && !CI x.1&&r.prog.boundNames.contains x.1&&x.2.all λf=> !f.1.opensWith "__"))=true)(h7:(r.toRowW.solid)=true)(h8:(r.pre.litsOk)=true)(h9:(r.post.litsOk)=true)(CQ:(r.raises.all (·.2.litsOk))=true)(CR:(r.mutates.all (λi=>match r.args[i]? with
  |some sh=> !sh.arms.any WShape.isObj|none=>false))=true)(CS:(r.within.all (λi=>decide (i<r.args.length)))=true)(Mb:(r.same.all (λi=>decide (i<r.args.length)))=true):r.partSaid=true:=(dE (dE (dE (dE (dE (dE (dE (dE (dE (dE (dE (dE (dE h0 h1) h2) h3) h4) h5) h6) h7) h8) h9) CQ) CR) CS) Mb)
theorem adl(p:Program)(h0:(sreFenced p.main)=true)(h1:(((Lk p.main.body).isEmpty||lookedIntoSs (Lk p.main.body) p.main.body))=true)(h2:(namesResolve p)=true)(h3:(p.boundNames.all (λn=> !worldNames.contains n))=true)(h4:(Li {strict:= !(wH p.main.body).all cThrough.contains,foot:=none,bare:=(["vars","dir","locals"]:List Str).filter (readsOut p p.main.body)} p.main.body)=true)(h5:(w7 p p.main.body λ_ n=>attrL n)=true):looksOpen p=true:=(dE (dE (dE (dE (dE h0 h1) h2) h3) h4) h5)
section
set_option maxHeartbeats 0
theorem sl0:(sreFenced pw.main)=true:=⋯
end
section
set_option maxHeartbeats 0
theorem VY:(((Lk pw.main.body).isEmpty||lookedIntoSs (Lk pw.main.body) pw.main.body))=true:=⋯
end
section
set_option maxHeartbeats 0
theorem sl2:(namesResolve pw)=true:=⋯
end
section
set_option maxHeartbeats 0
theorem YH:(pw.boundNames.all (λn=> !worldNames.contains n))=true:=⋯
end
section
set_option maxHeartbeats 0
theorem XM:(["vars","dir","locals"]:List Str).filter (readsOut pw pw.main.body)=[]:=⋯
theorem sl4:(Li {strict:= !(wH pw.main.body).all cThrough.contains,foot:=none,bare:=(["vars","dir","locals"]:List Str).filter (readsOut pw pw.main.body)} pw.main.body)=true:=by
 rw[XM,(⋯:(wH pw.main.body).all cThrough.contains=true)];rfl'
end
section
set_option maxHeartbeats 0
theorem ZO:(w7 pw pw.main.body λ_ n=>attrL n)=true:=⋯
end
section
set_option maxHeartbeats 0
noncomputable abbrev ahK:OpenLaw:=Ll
theorem Wi:(eh.raises.all λct=>match ct.1 with|.builtin n=> !eh.prog.boundNames.contains (dw n)&& !ofTheWorld.contains n|.own _=>true)=true:=⋯
theorem sr2:(eh.records.isEmpty||eh.raises.all λct=>ct.1 !=.builtin "AttributeError" &&ct.1 !=.builtin "TypeError")=true:=⋯
theorem VL:decide (eh.records.map (·.1)).Nodup=true:=⋯
theorem sr4:(eh.records.all λx=> !x.1.opensWith "__" && !CI x.1&&eh.prog.boundNames.contains x.1&&x.2.all λf=> !f.1.opensWith "__")=true:=⋯
theorem sr5:eh.toRowW.solid=true:=⋯
theorem X8:eh.pre.litsOk=true:=⋯
theorem sr7:eh.post.litsOk=true:=⋯
theorem Vh:(eh.mutates.all (λi=>match eh.args[i]? with
  |some sh=> !sh.arms.any WShape.isObj|none=>false))=true:=⋯
theorem aeG:looksOpen eh.prog=true:=adl pw sl0 VY sl2 YH sl4 ZO
theorem YC:eh.partSaid=true:=afg eh aeG ⋯ ⋯ sr2 Wi VL sr4 sr5 X8 sr7 ⋯ Vh ⋯ ⋯
theorem afh:eh.wellSaid=true:=acw eh YC ⋯ ⋯
theorem ahL:eh.toRowW.promised:=⟨[.list []],by decide+kernel,by decide+kernel⟩
end
section
set_option maxHeartbeats 0
noncomputable abbrev db:OpenLaw:=Ll
theorem sw1:decide (db.foot<=(wF db.prog).length)=true:=⋯
theorem sw2:db.footing.all footLine=true:=⋯
theorem sw3:noClassBlock db.prog db.footing=true:=⋯
theorem sw4:db.most.all (λn=>decide (63<=n))=true:=⋯
theorem sw5:db.bound.all (λn=>decide (2^63<=n))=true:=⋯
theorem sw6:Li {strict:=true,foot:=some db.bound',writes:=db.writes,may:=db.may} db.footing=true:=⋯
theorem sw7:defStands db.about db.above=true:=⋯
theorem L_:db.namesIt=true:=⋯
theorem o_:(["type","isinstance","issubclass","getattr","hasattr"]:List Str).all (λn=>db.about !=[n])=true:=⋯
theorem WD:db.bound'.all (λn=> !CI n||db.about==[n]|| !db.reads n)=true:=⋯
theorem Ym:(!db.writes||(db.prog.main.body.flatMap Lj).all λn=> !db.reads n)=true:=⋯
theorem x_:(db.prog.main.body.flatMap Lj).all (λn=> !db.reads n||(drawsOf n db.prog.main.body).all λmn=>mn.2 !=("attrgetter":Str)&&mn.2 !=("methodcaller":Str))=true:=⋯
theorem ZL:w7 db.prog db.footing (λsc n=>(!(["type","isinstance","issubclass","getattr","hasattr"]:List Str).contains n||sc.names.lookup n==some .globalImplicit)&&
  (db.may !=some n||sc.kind==.module||sc.names.lookup n==some .globalImplicit))=true:=⋯
theorem ϛ:db.own.contains db.name=true:=⋯
theorem Wo:(db.own.eraseDups.length==db.own.length)=true:=⋯
theorem Xo:db.own.all (λn=> !CI n)=true:=⋯
theorem Q_:w7 db.prog db.above (λ_ n=> !db.own.contains n)=true:=⋯
theorem VJ:(w7 db.prog db.footing λsc n=>sc.kind==.module||sc.names.lookup n !=some .globalExplicit)=true:=⋯
end
theorem ahJ:Ll.wellSaid=true:=Ww db afh sw1 sw2 sw3 sw4 sw5 sw6 sw7 L_ o_ WD Ym x_ ZL ϛ Wo Xo Q_ VJ
end Mine
theorem PySem.Challenge.cw_jm0010_01_holds : PySem.Challenge.rw_jm0010_01.Holds :=
 holds_law Mine.ahJ fun h => Mine.ahI h Mine.ahL Mine.walk
