import PyProof.Rows.All
import Wide.All
import OpenK.AllK
import Wide.FinOn
import KE.KSortAsk
import KE.KSortKey
import KE.KIsAll
import PyProof.ExcBaseAll.Exception
import PyProof.Rows.SetFrom
import PySem.Challenge.RW_jm0010_01
set_option Elab.async false
set_option linter.unusedVariables false
set_option genSizeOf false
set_option genInjectivity false
set_option maxRecDepth 100000
set_option tactic.hygienic false
open PySem PySem.W PyProof.Rows PySem.SeqAt
local macro_rules |`(tactic|rfl')=>`(tactic|kernel_rfl)
local macro_rules |`(⋯)=>`(by kernel_rfl)
open And renaming intro->FH
open _root_.Array renaming getElem?_eq_getElem->tn,toList_inj->zr,length_toList->FB,getElem?_eq_none->Ki,getElem?_push->KV,size->S9,toList_map->Ts,getElem?_toList->agg,toList_filterMap->agr,getElem?_push_size->agL,getElem?_eq_some_iff->ahd
open Bool renaming false_ne_true->dy,and_eq_true->mK,or_eq_false_iff->rx,not_eq_true'->tu,false_eq_true->yW,or_false->CA,and_false->FJ,eq_iff_iff->FK,and_true->Kr,or_eq_true_iff->Ln,and_eq_true_iff->T9
open Classical renaming byContradiction->zj
open Decidable renaming byContradiction->agh
open Eq renaming mpr->mF,trans->y5
open ForInStep renaming yield->uU
open Function renaming comp_apply->agT
open HAppend renaming hAppend->ag7
open Iff renaming trans->KW
open Int renaming natCast_nonneg->fP,le_trans->ic,lt_of_lt_of_le->lG,lt_of_le_of_lt->mH,le_of_lt->mJ,add_assoc->mQ,le_of_eq->oF,le_refl->tB,add_zero->uS,add_comm->u7,ofNat_lt->u9,ofNat_inj->w0,natCast_add->w3,lt_trans->yK,zero_mul->yS,not_le->zg,le_antisymm->zh,fmod->zm,natCast_pos->zt,lt_irrefl->CD,fdiv->CH,fdiv_eq_ediv_of_nonneg->Fw,add_mul->Ga,zero_add->Gb,ofNat_sub->Ge,add_le_add->Gg,add_right_comm->Gh,natAbs_of_nonneg->Kl,fmod_eq_emod_of_nonneg->Km,mul_one->Kp,sub_zero->Kt,toNat_natCast->KO,sub_add_cancel->KX,add_nonneg->K8,mul_add->La,toNat_le->Lo,toNat_of_nonneg->SK,ne_of_gt->TD,max_eq_right->TO,max_eq_left->TP,lt_asymm->TQ,mul_zero->TX,neg_neg_of_pos->T3,ofNat_le->T4,natCast_mul->T5,lt_iff_le_and_ne->Ue,mul_neg_of_neg_of_pos->agQ,add_pos_of_nonneg_of_pos->ag5,mul_le_mul_left->ahb
open Int.ofNat renaming inj->FW
open _root_.List renaming range->ax,length_map->bi,length_range->cF,length_append->da,not_mem_nil->eX,mem_append_right->fE,append_nil->gO,range'->gW,size_toArray->i4,map_map->jt,getElem?_eq_getElem->jM,mem_cons->jO,replicate->kt,append_assoc->kx,contains_iff_mem->kz,map_append->mR,getElem?_map->oy,map_cons->oB,mem_filter->oE,map_congr_left->pV,filter_append->pW,mapM_cons->qY,mem_map_of_mem->qZ,getElem?_toArray->re,length_filter_le->rm,mem_map->rn,mem_append_left->tw,getD_eq_getElem?_getD->tA,filter_cons_of_pos->tD,filter_sublist->u0,take_nil->u5,filter_cons_of_neg->u8,nodup_range->vc,any_eq_false->vd,length_cons->wK,forIn_cons->wO,nodup_nil->wS,nodup_append->w7,sum->yJ,range_succ_eq_map->yL,length->yO,range_eq_range'->yQ,forIn_nil->yU,getElem?_eq_none->zc,take_of_length_le->zk,length_eq_zero_iff->zn,getElem?_eq_some_iff->zq,drop_eq_getElem_cons->Cg,filterMap_cons->Ch,lookup->Ci,length_nil->Cn,exists_cons_of_ne_nil->CB,ne_nil_of_mem->CC,range_succ->CE,filter_nil->CF,filter_congr->CG,lookup_cons->FF,drop_nil->FR,length_take->FS,length_drop->FT,reverse_perm->Gc,perm_ext_iff_of_nodup->Gf,mem_singleton->Gi,map_inj_left->Gj,pairwise_cons->Gk,mem_flatMap->Gm,filter_eq_self->Go,filter_eq_nil_iff->Gp,pairwise_append->Gq,all_cons->Ko,filterMap_cons_some->Kz,map_id'->KS,all_eq_true->KY,flatMap_cons->K0,length_range'->K4,nil_append->K6,mem_range->Lc,mem_of_mem_take->Ld,filter_map->Lf,mem_append->Lh,any_eq_true->Lq,cons_ne_nil->SF,all_map->SL,take_sublist->SM,getElem_range->SN,getElem_mem->S7,forIn_toArray->Td,nil_sublist->Tk,take_length->Tl,foldl_cons->Tm,take_append_drop->TC,pairwise_singleton->TK,mem_of_getElem?->TL,pairwise_map->TM,pairwise_iff_getElem->TN,pairwise_lt_range->TV,length_reverse->T1,mem_reverse->T2,map_eq_nil_iff->Ua,not_lt->Uc,mem_range'_1->Ud,contains_cons->agl,zip_nil_right->agm,toList_toArray->agD,getElem?_range->agS,getElem?_concat_length->agV,eq_nil_or_concat->agX,concat_eq_append->agY,perm_cons_erase->ag1,take_append_of_le_length->ag4,sublist_append_left->ag8,getElem_idxOf->aha,mem_filterMap->ahc,length_filter_lt_length_iff_exists->ahe,length_pos_iff->ahf,idxOf_lt_length_iff->ahg,pairwise_flatten->ahh
open _root_.List.Perm renaming refl->B6,eq_of_pairwise->agU
open Nat renaming le_trans->aq,le_of_eq->aD,lt_of_le_of_lt->aQ,lt_of_lt_of_le->ba,le_refl->bf,zero_le->cu,le_of_lt->cy,lt_irrefl->cV,le_add_right->cW,le_of_not_lt->cZ,succ_pos->eE,lt_trans->eN,add_assoc->fC,ne_of_gt->fO,zero_add->f5,add_comm->gj,ne_of_lt->gE,le_succ->iH,add_sub_cancel'->iK,add_le_add_left->i3,lt_succ_self->i5,lt_of_lt_of_eq->i6,le_add_left->i7,succ->jq,le_of_lt_succ->ju,lt_succ_of_le->kA,sub_le->kE,le_of_succ_le->lF,add_le_add_right->mG,le_antisymm->mM,le_sub_one_of_lt->mP,lt_of_not_le->om,lt_asymm->oD,add_right_comm->pS,lt_of_le_of_ne->pT,lt_add_of_pos_right->qX,succ_ne_zero->rg,sub_pos_of_lt->rh,exists_eq_succ_of_ne_zero->u6,succ_add_eq_add_succ->wM,min_eq_left->wV,add_sub_cancel->wX,succ_le_succ->yP,le_succ_of_le->y6,not_lt_zero->y9,sub_lt->ze,sub_self->zf,one_mul->zi,add_le_add->B8,zero_mul->Ca,mul_le_mul->Cb,mod_lt->Cs,sub_add_cancel->F0,sub_sub->F4,add_sub_cancel_left->F7,gcd->F8,pow_pos->Gd,mul_le_mul_left->Kj,div_le_self->Kk,le_of_succ_le_succ->KC,lt_succ_of_lt->KN,sub_le_sub_right->KZ,le_sub_of_add_le->K5,le_total->K7,add_left_cancel->K9,one_pos->Lb,mul_assoc->Lg,lt_one_iff->Lr,pow_le_pow_right->SJ,mul_le_mul_right->S8,add_sub_add_right->Tw,mul_one->TF,mul_pos->TG,lt_or_eq_of_le->TH,add_left_comm->TI,sub_sub_self->TJ,add_le_of_le_sub->TS,exists_eq_add_of_le->TT,lt_add_of_pos_left->TU,lt_trichotomy->TW,le_mul_of_pos_right->TY,sub_lt_iff_lt_add'->TZ,min_eq_right->T6,add_lt_add_left->T7,pos_of_ne_zero->T8,le_zero->Ub,sub_le_iff_le_add'->Uf,le_one_iff_eq_zero_or_eq_one->Ug,lt_of_succ_lt_succ->agt,add_lt_add_iff_left->agA,lt_sub_of_add_lt->agI,succ_pred_eq_of_pos->agJ,gcd_pos_of_pos_left->agN,le_sub_of_add_le'->agW,pred_eq_of_eq_succ->agZ,sub_le_of_le_add->ag0,add_add_add_comm->ag2,sub_lt_sub_right->ag3,exists_eq_add_of_le'->ag9,mod_two_eq_zero_or_one->ag'
open Nat.le renaming intro->TR
open Nat.succ renaming inj->wJ
open Ne renaming symm->gV
open Option renaming none->aP,map->eP,map_eq_some_iff->tE,isSome_iff_exists->tG,or_eq_some_iff->CJ,isNone_iff_eq_none->Gl,bind_some->SD,bind_assoc->ag6
open Option.some renaming inj->ay
open PUnit renaming unit->Ct
open Prod renaming snd->oz,fst->wP
open PyProof.Rows renaming listItems_at->f6,oneType'->wY,subscriptTail->Fx,isTrue_plain->Kx,get?_update_seq->KP,seqEpoch_at->KQ,assignInOrder_cons->SO
open PyProof.Rows.F renaming plain_set_update_loop->Te,entry_set_update_loop->agu
open PyProof.Rows.SortSt renaming mk'->Tr
open PySem renaming Value->ac,wpAny_bind->ae,Shared->ag,model->ah,wpAny->ai,Heap->am,Addr->ao,wpAny_pure->au,Stmt->aH,Expr->aT,SetTable->a8,Around->bh,call->bC,Pos->b8,Params->cD,World->cO,wpAny_mono->cQ,rawInt->c6,wpAny_holding->dO,codeAny->eO,Keyword->fj,Scope->fk,Model->f4,pyIter->gk,pyNext->gm,Stmt->gQ,NameKind->gU,Operator->ia,seg_bind_wrap->ib,CmpOp->iF,exec->iI,plainId_quiet->iJ,GenState->jp,wpAny_standAt->jr,Comprehension->jL,compareOp->jN,codeAny_builtin->jP,Str->kr,starEach->lE,mainGlobals->mE,binaryOp->mI,Result->mL,Scope->ol,spliced->oq,backTo->ot,wpAny_askSetting->oC,treeTable->pP,DictEntry->pQ,sizeLine->qW,wpAny_call->q8,wpAny_isInstance->q9,cLine->tq,typeOf->tx,execs->tz,builtinsNs->uM,getAttr->uP,wpAny_evalAll_nil->uR,assign->uT,wpAny_rule->uV,wpAny_newObj_type->uW,wpAny_call_entry->uZ,hashInt->u3,intKind->u4,OsState->wE,clipAt->wH,seqIndex?->wI,wpAny_truthy_bool->wL,callWith->wN,wpAny_Call_Name_kw->wQ,leaving->wT,wpAny_letGo->wU,importedModules->yI,truthy->yM,getItem->yN,letOwnedTupleGo->yR,assignEach->yT,holding->yV,foldedForSure->yX,constantsAlone->yY,wpAny_Expr_any->yZ,wpAny_Assign_Name->y0,entryFor->zb,codeAmong->B7,storeName->Cc,getMethod->Ce,wpAny_of_eq->Cf,cellsFrom->Ck,compTurn->Cm,wpAny_Name->Co,setsByText->Cr,call_meets->Fv,wpAny_specialOf->Fy,wpAny_load->FE,codeAny_of_tree->FG,wpAny_execs_nil->FL,wpAny_execs_cons->FM,dunder->FN,richCompare->FP,codeAny_mono->FQ,relayAll->FU,setAddHashed->FV,wpAny_typeOf->FX,wpAny_tryCatch->FY,seg_again->F6,Comprehension->Ke,Const->Kf,TypeParam->Kg,Tok->Kh,wpAny_list_append_plain->Ku,compStart->Kv,inplaceOp->Kw,interactive->Ky,wpAny_callSpecial?_slot->KA,sizeLine_eq->KB,bindL->KD,intKind_is->KF,sub_set_self->KG,entryFor_alias->KH,wpAny_attempt->KJ,firstArgMember->KM,wpAny_newList->KR,importedNames->Lj,moduleNames->Lk,call->SE,Arguments->SG,Value->SH,recursionLimit->SI,wpAny_assign_Name->SP,newFunctionEnv->SQ,wpAny_items_nil->SR,wpAny_Constant_int->SU,wpAny_Constant_str->SV,wpAny_cRoomFor->SZ,codeAny_call_builtin->Tg,wpAny_runValue->Th,entryFor_of_tree->Ti,wpAny_setField_rec->Tj,call_function_tree->Tq,wpAny_ite_split->Tv,ExceptHandler->agc,filterMap_getElem?_range->ags,compTurn_gen->agK,callSpecialIfBoundUnlessNone?->agM
open PySem.Around renaming under_plainId->kD
open PySem.Builtin renaming divisionGoesByPylong->agd
open PySem.Builtin.Builtins renaming bindParams->agC
open PySem.Builtin.Frozenset renaming addrOf->za,updateFrom->KI,isAnySet->Ta,unchanged->Tb,intersection->Tc
open PySem.Builtin.Generator renaming genWake->agH
open PySem.Builtin.Int renaming intBits->B9,intTooBig->age
open PySem.Builtin.List renaming listExtendWith->KU,listUpdate->Tt,listLengthHint->Tu,listSameRef->agG
open PySem.Builtin.Range renaming rangeSize->agf
open PySem.Calls renaming spliced_cons->wR,spliced_nil->Cp,call_function_entry->agn
open PySem.Challenge renaming rw_jm0010_01->Ll
open PySem.F renaming plain_max_loop->zd,plain_extend_loop->FZ,slot_list_append->SW,type_list_append->SY,slot_list_gt->Tn,slot_list_lt->To,entry_max_loop->Tp,plain_all_loop->TA,plain_any_loop->TB,slot_list_insert->agi,slot_list_pop->agj,plain_set_new->agv,sub_list_set->agw,sub_list_frozenset->agx,slot_set_iter->agy,slot_set_intersection->agz,sub_list_list->agB,plain_list_iadd->agE,entry_extend_loop->agF
open PySem.Heap renaming get?_push_of_some->c5,SameBut->dD,get?_push_size->ft,lt_size->fB,size_push->oA,get?_update_self->agk
open PySem.Heap.SameBut renaming update->uY,refl->Cq
open PySem.NameKind renaming cell->tv,free->Cj
open PySem.Obj renaming cls->uX,mapSeq->FI
open PySem.PyData renaming keyHash->pR
open PySem.Sem renaming onRaise_eq_wrap->F5,bind_eq_wrap'->Tx,wrap_wrap->Tz
open PySem.SeqAt renaming EqAt->gD,RcAt->oo,RcNeAt->uN
open PySem.SetTable renaming sizeAbove->mO,below->pU,grown->wW,fill->FA,laid->S1,bits->S2,has->S4,turns->S5,insertAt->S6,probe->ago,toList_insertAt->agp,relaid->agq
open PySem.Shared renaming TypeIs->Tf
open PySem.Str renaming ofString->dw
open PySem.Value renaming type->iE,none->oj,ref->pO,int->qV,str->B5,bool->Kc
open PySem.W renaming look_both->dE,findIn->fN,Looks->iG,Frag->kq,isFn->ou,any_some->q0,dictOf->uO,plainGet_of->uQ,behindTheImports->wF,boot_heap->wG,kas_rev->wZ,namesMeet->w6,putL->y4,looks_findIn->y7,emptyDict->y8,plainGet->Cd,builtinNamed->CI,topFrame->Fu,hasDictIn->FC,lookIn_dict->FD,CmpBack->FO,boot_drawn->Kd,specialIn->Kq,selfFirst->KE,noRoadLSs->Li
open Rat renaming mkRat_self->F9,num_mkRat->TE,mkRat_mul_mkRat->agO,mkRat_add_mkRat->agP,mkRat_mul_right->agR
noncomputable section
namespace Mine
@[elab_as_elim] theorem aa{α:Type}{a b:α}{m:α->Prop}(h:a=b)(k:m b):m a:=h▸k
local macro_rules |`(tactic|erw [$e:term])=>`(tactic|refine aa $e ?_)
section
set_option maxHeartbeats 0
noncomputable abbrev pw:=PySem.Challenge.pw_jm0010_01
def zL:Env:={scope:=pw.main.scope,locals:=mainNs,globals:=mainNs,cells:=[],code:=.ref 13,frame:=some 14}
noncomputable abbrev qL:Pos:=⟨0,0,0,0⟩
noncomputable def Xx:Obj:={cls:=iE "tuple",data:=Data.seq #[]}
noncomputable def o12:Obj:={cls:=oj,data:=Data.fields #[]}
noncomputable def o13:Obj:={cls:=iE "code",data:=Data.fields (
 #[B5 (dw "<module>") 182,B5 (dw "<module>") 183,B5 (dw "/claim/cut.py") 184,qV 1 0,qV 0 0,qV 0 0,qV 0 0,
  qV 0 0,pO 11,Kc false,qV 181 0,pO 12,oj,oj,oj,oj,qV 185 0,qV 1 0,B5 (dw "/claim/cut.py") 186])}
noncomputable def o14:Obj:={cls:=iE "frame",slots:= #[some (pO 13),some (pO 3),some (pO 3),none,some (B5 (dw "__main__") 164),none,some (pO 0)]}
noncomputable def T0(P:cD):BT:=
 .node (boot_o_0 P)
  (.node (boot_o_1 P) (.node (boot_o_3 P) (.node (boot_o_7 P) .nil .nil) (.node Xx .nil .nil)) (.node (boot_o_5 P) (.node (boot_o_9 P) .nil .nil) (.node o13 .nil .nil)))
  (.node (boot_o_2 P) (.node (boot_o_4 P) (.node (boot_o_8 P) .nil .nil) (.node o12 .nil .nil)) (.node (boot_o_6 P) (.node (boot_o_10 P) .nil .nil) (.node o14 .nil .nil)))
def S0(w:cO)(os:wE):SharedT:=⟨T0 w.params,15,{},#[],Kd,187,os⟩
abbrev cE:Code:=.body (wF pw) zL
noncomputable abbrev vA:Option ac:=some (.ref 6)
theorem abf:∀(w:cO) (os:wE),topGo pP pw w 11 vA 12 ⟨wG w.params,#[],Kd,boot_toks,os⟩ (topStub pw)=
  some ((S0 w os).abs,⟨denote pP cE,cE,qL,[Fu qL]⟩):=by
 intro w os;rfl'
theorem adk:∀(w:cO) (os:wE),segRun pP pw w 11 vA 1 1 (S0 w os).abs (blockOf (wF pw) zL cE qL [Fu qL])=
  some (.next,(S0 w os).abs,cE,qL):=by
 intro w os;rfl'
theorem We:∀w:cO,(fencedOpening pP pw w 10000).map (λs=>(s.heap,s.gens,s.drawn,s.toks))=some (wG w.params,Array.mk [],Kd,boot_toks):=
 boot_open ⋯ ⋯ (λs=>⋯)
noncomputable def aJ:List aH->Nat->aH
 |[],_=>.Pass default|s::_,0=>s|_::r,n+1=>aJ r n
def cm(i:Nat):aH:=aJ (wF pw) i
def c8(i j:Nat):aH:=match cm i with
 |.ClassDef _ _ _ body _ _ _ _ _ _ _=>aJ body j|s=>s
noncomputable def ch(st:aH)(qual:String)(dflt pm code:ac)(clo:List (Str×ao))(ct:ac):Obj:=match st with
 |.FunctionDef name args body _ _ _ scope _ _ _=>
  {cls:=.type "function",data:=.func {name:=name,qualname:=dw qual,params:=args,body:=.stmts body,scope:=scope,globals:=3,closure:=clo,defaults:=dflt,kwdefaults:=.none,doc:=.none,pyModule:=pm,annotations:=none,code:=code,closureTuple:=ct,builtins:=0}}
 |_=>default
noncomputable def iu(l:List ac):Obj:={cls:=.type "tuple",data:=.seq ⟨l⟩}
noncomputable def nA(l:List ac):Obj:={cls:=.type "list",data:=.seq ⟨l⟩}
noncomputable def afJ(l:List ac):Obj:={cls:=.type "code",data:=.fields ⟨l⟩}
noncomputable def aeN(l:List ac):Obj:={cls:=.type "property",data:=.fields ⟨l⟩}
noncomputable def jY(l:List ac):Obj:={cls:=.type "getset_descriptor",data:=.fields ⟨l⟩}
noncomputable def bQ:Obj:={cls:=.none,data:=.fields #[]}
noncomputable def en(P:cD)(k:String)(t:Nat)(v:ac):pQ:=⟨pR P (dw k),.str (dw k) t,v⟩
noncomputable def vM(n:Nat)(l:List pQ):Obj:={cls:=.type "dict",data:=.dict ⟨l⟩ n}
noncomputable def xC(name:String)(bases mro:List ac)(ns:ao)(hd:Bool)(sl:List (Option ac)):Obj:=
 {cls:=.type "type",data:=.cls {name:=dw name,bases:=bases,mro:=mro,ns:=ns,qualname:=dw name,hasDict:=hd},slots:=⟨sl⟩}
noncomputable def AS(t:Nat):ac:=.str (dw "/claim/cut.py") t
noncomputable def st(s:String)(t:Nat):ac:=.str (dw s) t
noncomputable def m1:ac:=.str (dw "abcvoting.misc") 194
noncomputable def m2:ac:=.str (dw "abcvoting.abcrules") 574
noncomputable def m3:ac:=.str (dw "abcvoting.scores") 416
noncomputable def m4:ac:=.str (dw "abcvoting.preferences") 849
noncomputable def m5:ac:=.str (dw "apportionment.methods") 1042
def MA(n q:String)(t:Nat)(L c f:Int)(x y:ac)(r:List ac):Obj:=afJ ([st n t,st q (t+1),AS (t+2),.int L 0,.int c 0,.int 0 0,.int 0 0,.int f 0,x,.bool true,.int 181 0,y,.none]++r)
def cA(n q:String)(t:Nat)(L c f:Int)(e a:Nat):Obj:=MA n q t L c f (.ref (a-5)) (.ref (a-4)) [.ref (a-3),.ref (a-2),.ref (a-1),.int (e:Nat) 0,.int L 0,AS (e+1)]
def cB(n q:String)(t:Nat)(L c f:Int)(e a:Nat):Obj:=MA n q t L c f (.ref (a-3)) (.ref (a-2)) [.none,.none,.ref (a-1),.int (e:Nat) 0,.int L 0,AS (e+1)]
def KL(P:cD):kq:=[
 (3,vM 54 [en P "__name__" 165 (st "law_jm0010_01" 1119),en P "__doc__" 166 .none,en P "__package__" 167 .none,en P "__loader__" 168 (.builtin "__main__.__loader__#opaque"),en P "__spec__" 169 .none,en P "__annotations__" 170 (.ref 6),en P "__builtins__" 171 (.ref 4),en P "__file__" 173 (st "/claim/cut.py" 172),en P "__cached__" 174 .none,en P "_wall" 193 (.ref 21),en P "CandidateSet" 206 (.ref 30),en P "sorted_committees" 213 (.ref 37),en P "str_set_of_candidates" 223 (.ref 45),en P "combinations" 229 (.ref 50),en P "Fraction" 406 (.ref 194),en P "total" 415 (.ref 205),en P "UnknownScoreFunctionError" 446 (.ref 224),en P "MarginalScoreFct" 485 (.ref 252),en P "get_marginal_scorefct" 495 (.ref 264),en P "thiele_score" 509 (.ref 271),en P "geometric_marginal_score_fct" 517 (.ref 278),en P "pav_score_fct" 524 (.ref 285),en P "adams_score_fct" 531 (.ref 292),en P "slav_score_fct" 538 (.ref 299),en P "av_score_fct" 545 (.ref 306),en P "cc_score_fct" 552 (.ref 313),en P "at_least_ell_fct" 560 (.ref 320),en P "marginal_thiele_scores_add" 573 (.ref 327),en P "MAX_NUM_OF_COMMITTEES_DEFAULT" 576 .none,en P "Rule" 641 (.ref 362),en P "UnknownRuleIDError" 670 (.ref 385),en P "UnknownAlgorithm" 700 (.ref 407),en P "NoAvailableAlgorithm" 730 (.ref 429),en P "available_algorithms" 735 (.ref 433),en P "compute_thiele_method" 752 (.ref 441),en P "_thiele_methods_bruteforce" 769 (.ref 449),en P "_thiele_methods_branchandbound" 795 (.ref 457),en P "compute_pav" 808 (.ref 465),en P "compute_slav" 821 (.ref 473),en P "_adams_bruteforce" 827 (.ref 478),en P "compute_adams" 842 (.ref 486),en P "_seq_thiele_resolute" 848 (.ref 491),en P "Profile" 993 (.ref 613),en P "Voter" 1041 (.ref 650),en P "TiesException" 1063 (.ref 664),en P "compute" 1075 (.ref 675),en P "apply_threshold" 1087 (.ref 682),en P "largest_remainder" 1093 (.ref 688),en P "divisor" 1099 (.ref 694),en P "_divzero_fewerseatsthanparties" 1112 (.ref 701),en P "quota" 1118 (.ref 707),en P "_law_orders" 1143 (.ref 718),en P "_law_shared" 1149 (.ref 723),en P "law" 1155 (.ref 728)]),
 (4,{cls:=.type "module",dict:=some 0,data:=.plain}),
 (23,iu [(.ref 22),.none]),
 (29,cA "CandidateSet" "CandidateSet" 196 5 2 3 204 29),
 (30,ch (cm 2) "CandidateSet" (.ref 23) m1 (.ref 29) [] .none),
 (36,cA "sorted_committees" "sorted_committees" 207 17 1 3 211 36),
 (37,ch (cm 3) "sorted_committees" .none m1 (.ref 36) [] .none),
 (38,iu [.none]),
 (44,cA "str_set_of_candidates" "str_set_of_candidates" 214 19 2 3 221 44),
 (45,ch (cm 4) "str_set_of_candidates" (.ref 38) m1 (.ref 44) [] .none),
 (47,bQ),
 (49,cB "combinations" "combinations" 224 25 2 3 227 49),
 (50,ch (cm 5) "combinations" .none m1 (.ref 49) [] .none),
 (58,iu [(.int 0 242),(.int 1 243)]),
 (60,bQ),
 (64,cA "__init__" "Fraction.__init__" 244 35 3 3 254 64),
 (65,ch (c8 6 0) "Fraction.__init__" (.ref 58) m1 (.ref 64) [] .none),
 (95,bQ),
 (99,cA "__neg__" "Fraction.__neg__" 285 75 1 3 289 99),
 (100,ch (c8 6 5) "Fraction.__neg__" .none m1 (.ref 99) [] .none),
 (102,bQ),
 (106,cA "__add__" "Fraction.__add__" 292 78 2 3 297 106),
 (107,ch (c8 6 6) "Fraction.__add__" .none m1 (.ref 106) [] .none),
 (130,bQ),
 (134,cA "__mul__" "Fraction.__mul__" 324 96 2 3 329 134),
 (135,ch (c8 6 10) "Fraction.__mul__" .none m1 (.ref 134) [] .none),
 (158,bQ),
 (162,cA "__eq__" "Fraction.__eq__" 356 116 2 3 361 162),
 (163,ch (c8 6 14) "Fraction.__eq__" .none m1 (.ref 162) [] .none),
 (165,bQ),
 (169,cA "__lt__" "Fraction.__lt__" 364 123 2 3 369 169),
 (170,ch (c8 6 15) "Fraction.__lt__" .none m1 (.ref 169) [] .none),
 (179,bQ),
 (183,cA "__gt__" "Fraction.__gt__" 380 137 2 3 385 183),
 (184,ch (c8 6 17) "Fraction.__gt__" .none m1 (.ref 183) [] .none),
 (186,bQ),
 (190,cA "__ge__" "Fraction.__ge__" 388 144 2 3 393 190),
 (191,ch (c8 6 18) "Fraction.__ge__" .none m1 (.ref 190) [] .none),
 (193,vM 5 [en P "__module__" 237 m1,en P "__firstlineno__" 241 (.int 33 240),en P "__init__" 256 (.ref 65),en P "__bool__" 263 (.ref 72),en P "floor" 270 (.ref 79),en P "ceil" 277 (.ref 86),en P "__str__" 284 (.ref 93),en P "__neg__" 291 (.ref 100),en P "__add__" 299 (.ref 107),en P "__radd__" 307 (.ref 114),en P "__sub__" 315 (.ref 121),en P "__rsub__" 323 (.ref 128),en P "__mul__" 331 (.ref 135),en P "__rmul__" 339 (.ref 142),en P "__truediv__" 347 (.ref 149),en P "__rtruediv__" 355 (.ref 156),en P "__eq__" 363 (.ref 163),en P "__lt__" 371 (.ref 170),en P "__le__" 379 (.ref 177),en P "__gt__" 387 (.ref 184),en P "__ge__" 395 (.ref 191),en P "__static_attributes__" 398 (.ref 192),en P "__dict__" 400 (.ref 195),en P "__weakref__" 402 (.ref 196),en P "__doc__" 403 .none,en P "__hash__" 404 .none]),
 (194,xC "Fraction" [(.type "object")] [(.ref 194),(.type "object")] 193 true [none,none,some (st "Fraction" 230),some (st "Fraction" 238),some (.builtin "object.__new__"),some (.bool true)]),
 (195,jY [(st "__dict__" 399),(.ref 194),(.builtin "function.__dict__"),(.builtin "function.__dict__#set")]),
 (196,jY [(st "__weakref__" 401),(.ref 194),(.builtin "ExceptionGroup.__weakref__"),.none]),
 (200,bQ),
 (204,cA "total" "total" 407 150 1 3 413 204),
 (205,ch (cm 7) "total" .none m1 (.ref 204) [] .none),
 (225,jY [(st "__weakref__" 442),(.ref 224),(.builtin "ExceptionGroup.__weakref__"),.none]),
 (235,iu [.none]),
 (237,bQ),
 (241,cA "__init__" "MarginalScoreFct.__init__" 459 163 3 3 465 241),
 (242,ch (c8 10 0) "MarginalScoreFct.__init__" (.ref 235) m3 (.ref 241) [] .none),
 (244,bQ),
 (248,cA "__call__" "MarginalScoreFct.__call__" 468 167 2 3 473 248),
 (249,ch (c8 10 1) "MarginalScoreFct.__call__" .none m3 (.ref 248) [] .none),
 (251,vM 4 [en P "__module__" 454 m3,en P "__firstlineno__" 458 (.int 161 457),en P "__init__" 467 (.ref 242),en P "__call__" 475 (.ref 249),en P "__static_attributes__" 478 (.ref 250),en P "__dict__" 480 (.ref 253),en P "__weakref__" 482 (.ref 254),en P "__doc__" 483 .none]),
 (252,xC "MarginalScoreFct" [(.type "object")] [(.ref 252),(.type "object")] 251 true [none,none,some (st "MarginalScoreFct" 447),some (st "MarginalScoreFct" 455),some (.builtin "object.__new__"),some (.bool true)]),
 (253,jY [(st "__dict__" 479),(.ref 252),(.builtin "function.__dict__"),(.builtin "function.__dict__#set")]),
 (254,jY [(st "__weakref__" 481),(.ref 252),(.builtin "ExceptionGroup.__weakref__"),.none]),
 (257,iu [.none]),
 (259,bQ),
 (263,cA "get_marginal_scorefct" "get_marginal_scorefct" 486 181 2 3 493 263),
 (264,ch (cm 11) "get_marginal_scorefct" (.ref 257) m3 (.ref 263) [] .none),
 (266,bQ),
 (270,cA "thiele_score" "thiele_score" 496 199 3 3 507 270),
 (271,ch (cm 12) "thiele_score" .none m3 (.ref 270) [] .none),
 (280,bQ),
 (284,cA "pav_score_fct" "pav_score_fct" 518 212 1 3 522 284),
 (285,ch (cm 14) "pav_score_fct" .none m3 (.ref 284) [] .none),
 (287,bQ),
 (291,cA "adams_score_fct" "adams_score_fct" 525 216 1 3 529 291),
 (292,ch (cm 15) "adams_score_fct" .none m3 (.ref 291) [] .none),
 (294,bQ),
 (298,cA "slav_score_fct" "slav_score_fct" 532 222 1 3 536 298),
 (299,ch (cm 16) "slav_score_fct" .none m3 (.ref 298) [] .none),
 (308,bQ),
 (312,cA "cc_score_fct" "cc_score_fct" 546 230 1 3 550 312),
 (313,ch (cm 18) "cc_score_fct" .none m3 (.ref 312) [] .none),
 (322,bQ),
 (326,cA "marginal_thiele_scores_add" "marginal_thiele_scores_add" 561 238 3 3 571 326),
 (327,ch (cm 20) "marginal_thiele_scores_add" .none m3 (.ref 326) [] .none),
 (335,iu [(st "gurobi" 589),(st "pulp-highs" 590),(st "pulp-cbc" 591),(st "branch-and-bound" 592),(st "brute-force" 593)]),
 (336,iu [(.bool false),(.bool true)]),
 (337,iu [(.bool true),(.bool false)]),
 (339,bQ),
 (343,cA "__init__" "Rule.__init__" 597 254 2 3 606 343),
 (344,ch (c8 23 3) "Rule.__init__" .none m2 (.ref 343) [] .none),
 (346,bQ),
 (350,cA "fastest_available_algorithm" "Rule.fastest_available_algorithm" 609 431 1 3 613 350),
 (351,ch (c8 23 4) "Rule.fastest_available_algorithm" .none m2 (.ref 350) [] .none),
 (352,iu [.none]),
 (354,bQ),
 (358,cA "verify_compute_parameters" "Rule.verify_compute_parameters" 616 436 6 3 625 358),
 (359,ch (c8 23 5) "Rule.verify_compute_parameters" (.ref 352) m2 (.ref 358) [] .none),
 (361,vM 4 [en P "__module__" 584 m2,en P "__firstlineno__" 588 (.int 249 587),en P "_THIELE_ALGORITHMS" 594 (.ref 335),en P "_RESOLUTE_VALUES_FOR_OPTIMIZATION_BASED_RULES" 595 (.ref 336),en P "_RESOLUTE_VALUES_FOR_SEQUENTIAL_RULES" 596 (.ref 337),en P "__init__" 608 (.ref 344),en P "fastest_available_algorithm" 615 (.ref 351),en P "verify_compute_parameters" 627 (.ref 359),en P "__static_attributes__" 634 (.ref 360),en P "__dict__" 636 (.ref 363),en P "__weakref__" 638 (.ref 364),en P "__doc__" 639 .none]),
 (362,xC "Rule" [(.type "object")] [(.ref 362),(.type "object")] 361 true [none,none,some (st "Rule" 577),some (st "Rule" 585),some (.builtin "object.__new__"),some (.bool true)]),
 (363,jY [(st "__dict__" 635),(.ref 362),(.builtin "function.__dict__"),(.builtin "function.__dict__#set")]),
 (364,jY [(st "__weakref__" 637),(.ref 362),(.builtin "ExceptionGroup.__weakref__"),.none]),
 (386,jY [(st "__weakref__" 666),(.ref 385),(.builtin "ExceptionGroup.__weakref__"),.none]),
 (408,jY [(st "__weakref__" 696),(.ref 407),(.builtin "ExceptionGroup.__weakref__"),.none]),
 (430,jY [(st "__weakref__" 726),(.ref 429),(.builtin "ExceptionGroup.__weakref__"),.none]),
 (433,nA [(st "branch-and-bound" 731),(st "brute-force" 732),(st "standard" 733),(st "standard-fractions" 734)]),
 (434,iu [(st "fastest" 736),(.bool false),.none,(.bool false)]),
 (436,bQ),
 (440,cA "compute_thiele_method" "compute_thiele_method" 737 467 7 3 750 440),
 (441,ch (cm 28) "compute_thiele_method" (.ref 434) m2 (.ref 440) [] .none),
 (442,iu [.none]),
 (444,bQ),
 (448,cA "_thiele_methods_bruteforce" "_thiele_methods_bruteforce" 753 479 5 3 767 448),
 (449,ch (cm 29) "_thiele_methods_bruteforce" (.ref 442) m2 (.ref 448) [] .none),
 (450,iu [.none]),
 (452,bQ),
 (456,cA "_thiele_methods_branchandbound" "_thiele_methods_branchandbound" 770 497 5 3 793 456),
 (457,ch (cm 30) "_thiele_methods_branchandbound" (.ref 450) m2 (.ref 456) [] .none),
 (458,iu [(st "fastest" 796),(.bool false),.none,(.bool false)]),
 (460,bQ),
 (464,cA "compute_pav" "compute_pav" 797 531 6 3 806 464),
 (465,ch (cm 31) "compute_pav" (.ref 458) m2 (.ref 464) [] .none),
 (466,iu [(st "fastest" 809),(.bool false),.none,(.bool false)]),
 (468,bQ),
 (472,cA "compute_slav" "compute_slav" 810 533 6 3 819 472),
 (473,ch (cm 32) "compute_slav" (.ref 466) m2 (.ref 472) [] .none),
 (475,bQ),
 (477,cB "_adams_bruteforce" "_adams_bruteforce" 822 535 4 3 825 477),
 (478,ch (cm 33) "_adams_bruteforce" .none m2 (.ref 477) [] .none),
 (479,iu [(st "fastest" 828),(.bool false),.none]),
 (481,bQ),
 (485,cA "compute_adams" "compute_adams" 829 560 5 3 840 485),
 (486,ch (cm 34) "compute_adams" (.ref 479) m2 (.ref 485) [] .none),
 (488,bQ),
 (490,cB "_seq_thiele_resolute" "_seq_thiele_resolute" 843 571 3 3 846 490),
 (491,ch (cm 35) "_seq_thiele_resolute" .none m2 (.ref 490) [] .none),
 (499,iu [.none]),
 (501,bQ),
 (503,cB "__init__" "Profile.__init__" 863 587 3 3 866 503),
 (504,ch (c8 37 0) "Profile.__init__" (.ref 499) m4 (.ref 503) [] .none),
 (506,bQ),
 (510,cA "num_cand" "Profile.num_cand" 869 598 1 3 873 510),
 (511,ch (c8 37 1) "Profile.num_cand" .none m4 (.ref 510) [] .none),
 (512,aeN [(.ref 511),.none,.none,.none,(st "num_cand" 876),(.bool false)]),
 (521,bQ),
 (525,cA "__len__" "Profile.__len__" 884 605 1 3 888 525),
 (526,ch (c8 37 3) "Profile.__len__" .none m4 (.ref 525) [] .none),
 (528,bQ),
 (532,cA "_unique_voter" "Profile._unique_voter" 891 608 2 3 897 532),
 (533,ch (c8 37 4) "Profile._unique_voter" .none m4 (.ref 532) [] .none),
 (535,bQ),
 (539,cA "add_voter" "Profile.add_voter" 900 615 2 3 905 539),
 (540,ch (c8 37 5) "Profile.add_voter" .none m4 (.ref 539) [] .none),
 (577,bQ),
 (581,cA "__iter__" "Profile.__iter__" 944 633 1 35 949 581),
 (582,ch (c8 37 11) "Profile.__iter__" .none m4 (.ref 581) [] .none),
 (612,vM 4 [en P "__module__" 858 m4,en P "__firstlineno__" 862 (.int 585 861),en P "__init__" 868 (.ref 504),en P "num_cand" 876 (.ref 512),en P "approved_candidates" 883 (.ref 519),en P "__len__" 890 (.ref 526),en P "_unique_voter" 899 (.ref 533),en P "add_voter" 907 (.ref 540),en P "add_voters" 915 (.ref 547),en P "total_weight" 922 (.ref 554),en P "has_unit_weights" 929 (.ref 561),en P "convert_to_unit_weights" 936 (.ref 568),en P "convert_to_weighted" 943 (.ref 575),en P "__iter__" 951 (.ref 582),en P "__getitem__" 959 (.ref 589),en P "__setitem__" 968 (.ref 596),en P "copy" 975 (.ref 603),en P "is_party_list" 982 (.ref 610),en P "__static_attributes__" 986 (.ref 611),en P "__dict__" 988 (.ref 614),en P "__weakref__" 990 (.ref 615),en P "__doc__" 991 .none]),
 (613,xC "Profile" [(.type "object")] [(.ref 613),(.type "object")] 612 true [none,none,some (st "Profile" 851),some (st "Profile" 859),some (.builtin "object.__new__"),some (.bool true)]),
 (614,jY [(st "__dict__" 987),(.ref 613),(.builtin "function.__dict__"),(.builtin "function.__dict__#set")]),
 (615,jY [(st "__weakref__" 989),(.ref 613),(.builtin "ExceptionGroup.__weakref__"),.none]),
 (625,iu [(.int 1 1006),.none]),
 (627,bQ),
 (631,cA "__init__" "Voter.__init__" 1007 650 4 3 1014 631),
 (632,ch (c8 38 0) "Voter.__init__" (.ref 625) m4 (.ref 631) [] .none),
 (649,vM 4 [en P "__module__" 1001 m4,en P "__firstlineno__" 1005 (.int 648 1004),en P "__init__" 1016 (.ref 632),en P "__str__" 1023 (.ref 639),en P "str_with_names" 1031 (.ref 647),en P "__static_attributes__" 1034 (.ref 648),en P "__dict__" 1036 (.ref 651),en P "__weakref__" 1038 (.ref 652),en P "__doc__" 1039 .none]),
 (650,xC "Voter" [(.type "object")] [(.ref 650),(.type "object")] 649 true [none,none,some (st "Voter" 994),some (st "Voter" 1002),some (.builtin "object.__new__"),some (.bool true)]),
 (651,jY [(st "__dict__" 1035),(.ref 650),(.builtin "function.__dict__"),(.builtin "function.__dict__#set")]),
 (652,jY [(st "__weakref__" 1037),(.ref 650),(.builtin "ExceptionGroup.__weakref__"),.none]),
 (663,vM 3 [en P "__module__" 1051 m5,en P "__firstlineno__" 1055 (.int 662 1054),en P "__static_attributes__" 1056 (.ref 662),en P "__weakref__" 1058 (.ref 665),en P "__doc__" 1059 .none]),
 (664,xC "TiesException" [(.type "Exception")] [(.ref 664),(.type "Exception"),(.type "BaseException"),(.type "object")] 663 true [some (.ref 655),none,some (st "TiesException" 1044),some (st "TiesException" 1052),some (.builtin "Exception.__new__"),some (.bool true)]),
 (665,jY [(st "__weakref__" 1057),(.ref 664),(.builtin "ExceptionGroup.__weakref__"),.none]),
 (668,iu [.none,(.bool true)]),
 (670,bQ),
 (674,cA "compute" "compute" 1064 664 5 3 1073 674),
 (675,ch (cm 41) "compute" (.ref 668) m5 (.ref 674) [] .none),
 (677,bQ),
 (681,cA "apply_threshold" "apply_threshold" 1076 674 2 3 1085 681),
 (682,ch (cm 42) "apply_threshold" .none m5 (.ref 681) [] .none),
 (689,iu [(.bool true)]),
 (691,bQ),
 (693,cB "divisor" "divisor" 1094 708 4 3 1097 693),
 (694,ch (cm 44) "divisor" (.ref 689) m5 (.ref 693) [] .none),
 (696,bQ),
 (700,cA "_divzero_fewerseatsthanparties" "_divzero_fewerseatsthanparties" 1100 760 3 3 1110 700),
 (701,ch (cm 45) "_divzero_fewerseatsthanparties" .none m5 (.ref 700) [] .none),
 (708,nA [(.int 0 1121),(.int 1 1122)]),
 (709,nA [(.int 1 1123),(.int 0 1124)]),
 (710,nA [(.ref 708),(.ref 709)]),
 (711,nA [(.int 0 1125),(.int 1 1126),(.int 2 1127)]),
 (712,nA [(.int 0 1128),(.int 2 1129),(.int 1 1130)]),
 (713,nA [(.int 1 1131),(.int 0 1132),(.int 2 1133)]),
 (714,nA [(.int 1 1134),(.int 2 1135),(.int 0 1136)]),
 (715,nA [(.int 2 1137),(.int 0 1138),(.int 1 1139)]),
 (716,nA [(.int 2 1140),(.int 1 1141),(.int 0 1142)]),
 (717,nA [(.ref 711),(.ref 712),(.ref 713),(.ref 714),(.ref 715),(.ref 716)]),
 (718,nA [(.ref 710),(.ref 717)]),
 (720,bQ),
 (722,cB "_law_shared" "_law_shared" 1144 792 5 3 1147 722),
 (723,ch (cm 49) "_law_shared" .none (st "law_jm0010_01" 1119) (.ref 722) [] .none)]
def KT:kq:=[(25,bQ),(32,bQ),(40,bQ)]
noncomputable def QR:List ao:=[3,4,23,29,30,36,37,38,44,45,47,49,50,58,60,64,65,95,99,100,102,106,107,130,134,135,158,162,163,165,169,170,179,183,184,186,190,191,193,194,195,196,200,204,205,225,235,237,241,242,244,248,249,251,252,253,254,257,259,263,264,266,270,271,280,284,285,287,291,292,294,298,299,308,312,313,322,326,327,335,336,337,339,343,344,346,350,351,352,354,358,359,361,362,363,364,386,408,430,433,434,436,440,441,442,444,448,449,450,452,456,457,458,460,464,465,466,468,472,473,475,477,478,479,481,485,486,488,490,491,499,501,503,504,506,510,511,512,521,525,526,528,532,533,535,539,540,577,581,582,612,613,614,615,625,627,631,632,649,650,651,652,663,664,665,668,670,674,675,677,681,682,689,691,693,694,696,700,701,708,709,710,711,712,713,714,715,716,717,718,720,722,723]
noncomputable def Dz(s:ag):Nat×List (Option Obj)×List (Option Obj):=(s.heap.objs.size,QR.map s.heap.get?,[25,32,40].map s.heap.get?)
def xT(w:cO):Nat×List (Option Obj)×List (Option Obj):=(729,(KL w.params).map (λp=>some p.2),KT.map (λp=>some p.2))
def aeo:List aH:=(wF pw).drop 50
def qv:Program:={pw with main:={pw.main with body:=aeo}}
def uE:List Str:=pw.boundNames.filter (λx=>x !=("law":Str))
noncomputable def GL(w:cO)(S:ag):=
 ((staticsOk (yI pw.main.body) (wG w.params) S.heap&&namesBound pw S.heap&&gensDone S&&laidKept (wG w.params) S.heap),
  openSeen qv uE (yI pw.main.body) (λ_=>true) true S,Dz S)
def Nu(w:cO)(os:wE):=PySem.W.Fast.tw10110043849684766642 PySem.W.Fast.tw14364793385576792824 pw w 11 vA 1 4800 (S0 w os) (piecesOf (wF pw) zL cE qL [Fu qL])
theorem adm:∀(w:cO) (os:wE),(Nu w os).map (λr=>(r.1,GL w r.2.1.abs,r.2.2.1,r.2.2.2))=
  some (.next,(true,openGood qv uE,xT w),cE,⟨807,0,855,74⟩):=by
 intro w os;rfl'
theorem aay(w:cO)(os:wE):(segRunT pP pw w 11 vA 1 4800 (S0 w os) (piecesOf (wF pw) zL cE qL [Fu qL])).map (λr=>(r.1,GL w r.2.1.abs,r.2.2.1,r.2.2.2))=
  some (.next,(true,openGood qv uE,xT w),cE,⟨807,0,855,74⟩):=by
 have h:=adm w os;unfold Nu at h;rw[<-PySem.W.Fast.te10110043849684766642,<-PySem.W.Fast.te14364793385576792824] at h;exact h
end
section
set_option maxHeartbeats 400000
theorem r_:∀w:cO,((wG w.params).isNs mE&&(#[]:Array jp).size==0,(wG w.params).objs.size,(wG w.params).nsMap mE "__annotations__")=(true,11,vA):=by
 intro w;rfl'
theorem aga(w:cO)(S:SharedT):topRun pP pw w 11 vA 10 S.abs (restOf [] zL cE ⟨807,0,855,74⟩ [Fu qL])=some S.abs:=by
 rfl'
theorem Mw{α β γ δ:Type}{a a':α}{b b':β}{c c':γ}{d d':δ}(h:(a,b,c,d)=(a',b',c',d')):a=a'/\b=b'/\c=c'/\d=d':=by
 cases h;exact⟨rfl,rfl,rfl,rfl⟩
theorem JP{α β γ:Type}{a a':α}{b b':β}{c c':γ}(h:(a,b,c)=(a',b',c')):a=a'/\b=b'/\c=c':=by
 cases h;exact⟨rfl,rfl,rfl⟩
end
section
set_option maxHeartbeats 400000
theorem ZF(w:cO)(os:wE):∃S:SharedT,topRun pP pw w 11 vA 10000 ⟨wG w.params,Array.mk [],Kd,boot_toks,os⟩ (topStub pw)=some S.abs/\GL w S.abs=(true,openGood qv uE,xT w):=by
 obtain⟨⟨f,S,c,p⟩,hr,hl⟩:=tE.mp (aay w os);obtain⟨h1,hl,h3,h4⟩:=Mw hl;dsimp only at h1 h3 h4;subst h1 h3 h4;have r2:=piece_app (rest:=[]) (segRun_of hr) (aga w S);rw[gO] at r2;have r3:=piece_block (adk w os) r2;have r4:=go_top (abf w os) r3;have r:=topRun_mono 5177 _ _ _ _ r4;exact⟨S,r,hl⟩
end
section
set_option maxHeartbeats 400000
theorem YO{p:Program}{w:cO}{N CK:Nat}{s s':ag}{ann:Option ac}(h1:(s.heap.isNs mE&&s.gens.size==0,s.heap.objs.size,s.heap.nsMap mE "__annotations__")=(true,CK,ann))
(h2:topRun pP p w CK ann N s (topStub p)=some s')
(h3:(staticsOk (yI p.main.body) s.heap s'.heap&&namesBound p s'.heap&&gensDone s'&&laidKept s.heap s'.heap)=true):topFrom pP p w N s=some s':=by
 obtain⟨z1,z2,z3⟩:=JP h1;unfold topFrom;rw[z1,z2,z3,h2];dsimp only[SD];rw[h3]
theorem L_{p q:Program}{loose:List Str}{Xt:ag->Bool}{α:Type}{Yf:ag->α}{Ya:cO->α}{N:Nat}{w8:cD->am}{Ls:Array jp}{Uh:Drawn}{Ui:Nat}{CK:Nat}{ann:Option ac}
(Gr:∀w:cO,(fencedOpening pP p w N).map (λs=>(s.heap,s.gens,s.drawn,s.toks))=some (w8 w.params,Ls,Uh,Ui))
(size:∀w:cO,((w8 w.params).isNs mE&&Ls.size==0,(w8 w.params).objs.size,(w8 w.params).nsMap mE "__annotations__")=(true,CK,ann))
(run:∀(w:cO) (os:wE),∃S:SharedT,topRun pP p w CK ann N ⟨w8 w.params,Ls,Uh,Ui,os⟩ (topStub p)=some S.abs/\
   ((staticsOk (yI p.main.body) (w8 w.params) S.abs.heap&&namesBound p S.abs.heap&&gensDone S.abs&&laidKept (w8 w.params) S.abs.heap),
    openSeen q loose (yI p.main.body) Xt true S.abs,Yf S.abs)=(true,openGood q loose,Ya w)):LeftO p q loose Xt Yf Ya N:=λw=>by
 obtain⟨⟨h,gs,d,k,os⟩,e,e'⟩:=tE.mp (Gr w);obtain⟨e1,e2,e3,e4⟩:=Mw (ay (congrArg some e'));dsimp only at e1 e2 e3 e4;subst e1 e2 e3 e4;obtain⟨S,hr,hl⟩:=run w os;obtain⟨l1,l2,l3⟩:=JP hl;have t:=YO (size w) hr l1;unfold openEnds;rw[e];show(topFrom pP p w N _).map _=_;rw[t];exact congrArg some (Prod.ext l2 l3)
theorem left:LeftO pw qv uE (λ_=>true) Dz xT 10000:=L_ We r_ ZF
end
section
set_option maxHeartbeats 400000
def OW:aH:=cm 50
theorem Wi:(defOf qv ("law":Str)).isSome=true:=⋯
def n9:DefRec:=((defOf qv ("law":Str)).get Wi).1
abbrev ud(w:cO)(h:am):Prop:=(KL w.params).In h/\KT.In h
theorem hY(w:cO)(s:ag)(e:Dz s=xT w):ud w s.heap:=by
 obtain⟨_,h2,h3⟩:=JP e;exact⟨kq.in_of (as:=QR) ⋯ h2,kq.in_of (as:=[25,32,40]) ⋯ h3⟩
noncomputable abbrev eg:OpenRow:=Ll.row
theorem P_:defOf qv ("law":Str)=some (n9,[]):=⋯
theorem Yj:(chainsOk qv&&opensWell eg.prog&&(frees eg.toRowW&&eg.toRowW.within.isEmpty))=true:=⋯
theorem ϣ:eg.prog.bare:=by
 unfold Program.bare;exact⟨rfl,rfl,rfl,rfl,by rfl,⋯⟩
theorem ahN(k1:eg.wellSaid=true)(hw:eg.toRowW.promised)
(bC:WalkO qv uE (λ_ _=>True) ud eg.toRowW n9 [] λf vs=>SE f vs):eg.Holds:=
 holds_open (q:=qv) (loose:=uE) (Xt:=λ_=>true) (XP:=λ_ _=>True) (Yf:=Dz) (Ya:=xT) (YP:=ud) (d:=n9) (kwd:=[]) left hY (λw h h' x k=>⟨x.1.keeps k,x.2.keeps k⟩) (λ_ _=>trivial) (λ_ _ _ _ _=>trivial)
  P_ ⋯ ⋯ (λs _=>recFacts_nil rfl) ⋯ k1 Yj ϣ hw bC
end
section
universe u v
theorem af{α:Sort u}{β:Sort v}{Uj a₂:α}(f:α->β)(h:Uj=a₂):f Uj=f a₂:=congrArg f h
theorem iP{c:Prop}{_:Decidable c}(h:c){α:Sort u}{a b:α}:ite c a b=a:=if_pos h
theorem iN{c:Prop}{_:Decidable c}(h:¬c){α:Sort u}{a b:α}:ite c a b=b:=if_neg h
theorem dT{p:Prop}{_:Decidable p}(h:p):decide p=true:=decide_eq_true h
theorem cC{p:Prop}{_:Decidable p}(h:decide p=true):p:=of_decide_eq_true h
theorem dF{p:Prop}{_:Decidable p}(h:¬p):decide p=false:=decide_eq_false h
theorem iO{p:Prop}{_:Decidable p}(h:decide p=false):¬p:=of_decide_eq_false h
section
variable{α β:Type}{P:Prop}{c:Prop}[Decidable c]{a b:α}{x:Option α}{g:α->Option β}{r:β}{k:α->β}
theorem aj(h:x.bind g=some r)(K:∀a,x=some a->g a=some r->P):P:=by
 cases x with
 |none=>injection h|some a=>exact K a rfl h
@[elab_as_elim] theorem fF{m:β->Prop}(h:x.map k=some r)(K:∀a,x=some a->m (k a)):m r:=by
 cases x with
 |none=>injection h|some a=>injection h with h;exact h▸K a rfl
theorem fM(h:x.map k=some r)(K:∀a,x=some a->k a=r->P):P:=by
 cases x with
 |none=>injection h|some a=>injection h with h;exact K a rfl h
theorem aL(h:(if c then x else none)=some a)(K:c->x=some a->P):P:=by
 by_cases q:c
 ·rw[if_pos q] at h;exact K q h
 ·rw[if_neg q] at h;injection h
theorem fZ(h:(if c then none else x)=some a)(K:¬c->x=some a->P):P:=by
 by_cases q:c
 ·rw[if_pos q] at h;injection h
 ·rw[if_neg q] at h;exact K q h
@[elab_as_elim] theorem oI{m:α->Prop}(h:some a=some b)(K:m a):m b:=by injection h with h;exact h▸K
theorem nS(h:none=some a):P:=by injection h
theorem ff(h:false=true):P:=absurd h dy
theorem tf(h:true=false):P:=absurd h.symm dy
theorem sN(h:some a=none):P:=nS h.symm
theorem mN(h:a∈([]:List α)):P:=absurd h eX
theorem nl{l:List α}(h:[]=a::l):P:=absurd h.symm (SF a l)
theorem ln{l:List α}(h:a::l=[]):P:=absurd h (SF a l)
end
theorem aW{a b:Bool}(h:(a&&b)=true):a=true/\b=true:=T9.mp h
theorem mq{a b:Bool}(h:(a||b)=true):a=true\/b=true:=Ln.mp h
theorem a5{α:Type}[BEq α][LawfulBEq α]{a b:α}(h:(a==b)=true):a=b:=beq_iff_eq.mp h
theorem jZ{α:Type}[BEq α][LawfulBEq α]{a b:α}(h:a=b):(a==b)=true:=beq_iff_eq.mpr h
theorem kH{α:Type}[BEq α][LawfulBEq α]{a b:α}(h:a≠b):(a==b)=false:=beq_eq_false_iff_ne.mpr h
theorem bw{α:Type}{a b:α}{l:List α}(h:a∈b::l):a=b\/a∈l:=jO.mp h
theorem b7{α:Type}{p:α->Bool}{l:List α}(h:l.all p=true):∀x∈l,p x=true:=KY.mp h
theorem cY{α:Type}{a b:α}(h:a∈[b]):a=b:=Gi.mp h
theorem dL{m n:Nat}(h:m<n):m∈ax n:=Lc.mpr h
theorem eG{m n:Nat}(h:m∈ax n):m<n:=Lc.mp h
theorem eI{α:Type}{p:α->Bool}{l:List α}{x:α}(h:x∈l.filter p):x∈l/\p x=true:=oE.mp h
theorem pG{α:Type}{p:α->Bool}{l:List α}{x:α}(h:x∈l/\p x=true):x∈l.filter p:=oE.mpr h
theorem fA{p q:Prop}{_:Decidable p}{_:Decidable q}(h:p↔q):decide p=decide q:=decide_eq_decide.mpr h
theorem gK{m n:Nat}(h:n<=m):¬m<n:=Nat.not_lt.mpr h
theorem oh{m n:Nat}(h:n<m):¬m<=n:=Nat.not_le.mpr h
theorem ir{m n:Int}(h:n<=m):¬m<n:=Int.not_lt.mpr h
theorem jB{m n:Int}(h:¬m<n):n<=m:=Int.not_lt.mp h
theorem iW{α:Type}{a:α}{l:List α}(h:(a::l).Nodup):a∉l/\l.Nodup:=List.nodup_cons.mp h
theorem nR{α:Type}{a:α}{l:List α}(h:a∉l/\l.Nodup):(a::l).Nodup:=List.nodup_cons.mpr h
theorem ji{m n:Nat}(h:m<n):(m:Int)<n:=u9.mpr h
theorem oW{m n:Nat}(h:m<=n):(m:Int)<=n:=T4.mpr h
theorem jz{α:Type}{l:List α}(h:l.isEmpty=true):l=[]:=List.isEmpty_iff.mp h
theorem lY{α:Type}{R:α->α->Prop}{a:α}{l:List α}(h:(a::l).Pairwise R):(∀b∈l,R a b)/\l.Pairwise R:=Gk.mp h
theorem lU{α:Type}{a:α}{s t:List α}(h:a∈s++t):a∈s\/a∈t:=Lh.mp h
theorem nq{a:Bool}(h:a≠true):a=false:=Bool.eq_false_iff.mpr h
theorem qI{α:Type}[BEq α][LawfulBEq α]{a:α}{l:List α}(h:l.contains a=true):a∈l:=kz.mp h
theorem bE{P:Prop}(h:∀G:Prop,(P->G)->G):P:=h P id
end
section
variable{kF oG tH zv Lu:Type}{G:Prop}
section
variable{P0 P1 P2 P3 P4 P5 P6:Prop}
theorem dU(h:P0/\P1)(K:P0->P1->G):G:=K h.1 h.2
theorem e8(h:P0/\P1/\P2)(K:P0->P1->P2->G):G:=K h.1 h.2.1 h.2.2
theorem ο(h:P0/\P1/\P2/\P3)(K:P0->P1->P2->P3->G):G:=K h.1 h.2.1 h.2.2.1 h.2.2.2
theorem ϗ(h:P0/\P1/\P2/\P3/\P4/\P5/\P6)(K:P0->P1->P2->P3->P4->P5->P6->G):G:=K h.1 h.2.1 h.2.2.1 h.2.2.2.1 h.2.2.2.2.1 h.2.2.2.2.2.1 h.2.2.2.2.2.2
end
section
variable{P0 P1 P2 P3 P4 P5 P6:kF->Prop}
theorem dJ(h:∃x,P0 x)(K:∀x,P0 x->G):G:=by obtain⟨x,h0⟩:=h;exact K x h0
theorem aB(h:∃x,P0 x/\P1 x)(K:∀x,P0 x->P1 x->G):G:=by obtain⟨x,h0,h1⟩:=h;exact K x h0 h1
theorem cP(h:∃x,P0 x/\P1 x/\P2 x)(K:∀x,P0 x->P1 x->P2 x->G):G:=by obtain⟨x,h0,h1,h2⟩:=h;exact K x h0 h1 h2
theorem ll(h:∃x,P0 x/\P1 x/\P2 x/\P3 x)(K:∀x,P0 x->P1 x->P2 x->P3 x->G):G:=by obtain⟨x,h0,h1,h2,h3⟩:=h;exact K x h0 h1 h2 h3
theorem Yh(h:∃x,P0 x/\P1 x/\P2 x/\P3 x/\P4 x/\P5 x)(K:∀x,P0 x->P1 x->P2 x->P3 x->P4 x->P5 x->G):G:=by obtain⟨x,h0,h1,h2,h3,h4,h5⟩:=h;exact K x h0 h1 h2 h3 h4 h5
end
section
variable{P0 P1 P2 P3 P4 P5 P6:kF->oG->Prop}
theorem jU(h:∃x y,P0 x y)(K:∀x y,P0 x y->G):G:=by obtain⟨x,y,h0⟩:=h;exact K x y h0
theorem eJ(h:∃x y,P0 x y/\P1 x y)(K:∀x y,P0 x y->P1 x y->G):G:=by obtain⟨x,y,h0,h1⟩:=h;exact K x y h0 h1
theorem s8(h:∃x y,P0 x y/\P1 x y/\P2 x y)(K:∀x y,P0 x y->P1 x y->P2 x y->G):G:=by obtain⟨x,y,h0,h1,h2⟩:=h;exact K x y h0 h1 h2
theorem EP(h:∃x y,P0 x y/\P1 x y/\P2 x y/\P3 x y)(K:∀x y,P0 x y->P1 x y->P2 x y->P3 x y->G):G:=by obtain⟨x,y,h0,h1,h2,h3⟩:=h;exact K x y h0 h1 h2 h3
theorem Ϟ(h:∃x y,P0 x y/\P1 x y/\P2 x y/\P3 x y/\P4 x y)(K:∀x y,P0 x y->P1 x y->P2 x y->P3 x y->P4 x y->G):G:=by obtain⟨x,y,h0,h1,h2,h3,h4⟩:=h;exact K x y h0 h1 h2 h3 h4
end
section
variable{P0 P1 P2 P3 P4 P5 P6:kF->oG->tH->Prop}
theorem uu(h:∃x y z,P0 x y z/\P1 x y z)(K:∀x y z,P0 x y z->P1 x y z->G):G:=by obtain⟨x,y,z,h0,h1⟩:=h;exact K x y z h0 h1
theorem jD(h:∃x y z,P0 x y z/\P1 x y z/\P2 x y z)(K:∀x y z,P0 x y z->P1 x y z->P2 x y z->G):G:=by obtain⟨x,y,z,h0,h1,h2⟩:=h;exact K x y z h0 h1 h2
theorem xM(h:∃x y z,P0 x y z/\P1 x y z/\P2 x y z/\P3 x y z)(K:∀x y z,P0 x y z->P1 x y z->P2 x y z->P3 x y z->G):G:=by obtain⟨x,y,z,h0,h1,h2,h3⟩:=h;exact K x y z h0 h1 h2 h3
theorem DL(h:∃x y z,P0 x y z/\P1 x y z/\P2 x y z/\P3 x y z/\P4 x y z)(K:∀x y z,P0 x y z->P1 x y z->P2 x y z->P3 x y z->P4 x y z->G):G:=by obtain⟨x,y,z,h0,h1,h2,h3,h4⟩:=h;exact K x y z h0 h1 h2 h3 h4
end
section
variable{P0 P1 P2 P3 P4 P5 P6:kF->oG->tH->zv->Prop}
theorem Zh(h:∃x y z u,P0 x y z u)(K:∀x y z u,P0 x y z u->G):G:=by obtain⟨x,y,z,u,h0⟩:=h;exact K x y z u h0
theorem tU(h:∃x y z u,P0 x y z u/\P1 x y z u)(K:∀x y z u,P0 x y z u->P1 x y z u->G):G:=by obtain⟨x,y,z,u,h0,h1⟩:=h;exact K x y z u h0 h1
theorem ϭ(h:∃x y z u,P0 x y z u/\P1 x y z u/\P2 x y z u)(K:∀x y z u,P0 x y z u->P1 x y z u->P2 x y z u->G):G:=by obtain⟨x,y,z,u,h0,h1,h2⟩:=h;exact K x y z u h0 h1 h2
theorem Pu(h:∃x y z u,P0 x y z u/\P1 x y z u/\P2 x y z u/\P3 x y z u)(K:∀x y z u,P0 x y z u->P1 x y z u->P2 x y z u->P3 x y z u->G):G:=by obtain⟨x,y,z,u,h0,h1,h2,h3⟩:=h;exact K x y z u h0 h1 h2 h3
theorem Ow(h:∃x y z u,P0 x y z u/\P1 x y z u/\P2 x y z u/\P3 x y z u/\P4 x y z u)(K:∀x y z u,P0 x y z u->P1 x y z u->P2 x y z u->P3 x y z u->P4 x y z u->G):G:=by obtain⟨x,y,z,u,h0,h1,h2,h3,h4⟩:=h;exact K x y z u h0 h1 h2 h3 h4
end
section
variable{P0 P1 P2 P3 P4 P5 P6:kF->oG->tH->zv->Lu->Prop}
theorem vr(h:∃x y z u v,P0 x y z u v/\P1 x y z u v)(K:∀x y z u v,P0 x y z u v->P1 x y z u v->G):G:=by obtain⟨x,y,z,u,v,h0,h1⟩:=h;exact K x y z u v h0 h1
end
section
variable{P0 P1 P2 P3 P4 P5 P6:Prop}
theorem ei(h0:P0)(h1:P1)(h2:P2):P0/\P1/\P2:=⟨h0,h1,h2⟩
theorem zE(h0:P0)(h1:P1)(h2:P2)(h3:P3):P0/\P1/\P2/\P3:=⟨h0,h1,h2,h3⟩
theorem Sw(h0:P0)(h1:P1)(h2:P2)(h3:P3)(h4:P4):P0/\P1/\P2/\P3/\P4:=⟨h0,h1,h2,h3,h4⟩
theorem afb(h0:P0)(h1:P1)(h2:P2)(h3:P3)(h4:P4)(h5:P5)(h6:P6):P0/\P1/\P2/\P3/\P4/\P5/\P6:=⟨h0,h1,h2,h3,h4,h5,h6⟩
end
section
variable{P0 P1 P2 P3 P4 P5 P6:kF->Prop}(x:kF)
theorem az(h0:P0 x)(h1:P1 x):∃x,P0 x/\P1 x:=⟨x,h0,h1⟩
theorem cz(h0:P0 x)(h1:P1 x)(h2:P2 x):∃x,P0 x/\P1 x/\P2 x:=⟨x,h0,h1,h2⟩
theorem vL(h0:P0 x)(h1:P1 x)(h2:P2 x)(h3:P3 x):∃x,P0 x/\P1 x/\P2 x/\P3 x:=⟨x,h0,h1,h2,h3⟩
theorem Ε(h0:P0 x)(h1:P1 x)(h2:P2 x)(h3:P3 x)(h4:P4 x)(h5:P5 x):∃x,P0 x/\P1 x/\P2 x/\P3 x/\P4 x/\P5 x:=⟨x,h0,h1,h2,h3,h4,h5⟩
end
section
variable{P0 P1 P2 P3 P4 P5 P6:kF->oG->Prop}(x:kF)(y:oG)
theorem jw(h0:P0 x y):∃x y,P0 x y:=⟨x,y,h0⟩
theorem de(h0:P0 x y)(h1:P1 x y):∃x y,P0 x y/\P1 x y:=⟨x,y,h0,h1⟩
theorem xX(h0:P0 x y)(h1:P1 x y)(h2:P2 x y):∃x y,P0 x y/\P1 x y/\P2 x y:=⟨x,y,h0,h1,h2⟩
theorem uL(h0:P0 x y)(h1:P1 x y)(h2:P2 x y)(h3:P3 x y):∃x y,P0 x y/\P1 x y/\P2 x y/\P3 x y:=⟨x,y,h0,h1,h2,h3⟩
theorem Qn(h0:P0 x y)(h1:P1 x y)(h2:P2 x y)(h3:P3 x y)(h4:P4 x y):∃x y,P0 x y/\P1 x y/\P2 x y/\P3 x y/\P4 x y:=⟨x,y,h0,h1,h2,h3,h4⟩
end
section
variable{P0 P1 P2 P3 P4 P5 P6:kF->oG->tH->Prop}(x:kF)(y:oG)(z:tH)
theorem Ay(h0:P0 x y z)(h1:P1 x y z):∃x y z,P0 x y z/\P1 x y z:=⟨x,y,z,h0,h1⟩
theorem j5(h0:P0 x y z)(h1:P1 x y z)(h2:P2 x y z):∃x y z,P0 x y z/\P1 x y z/\P2 x y z:=⟨x,y,z,h0,h1,h2⟩
theorem xD(h0:P0 x y z)(h1:P1 x y z)(h2:P2 x y z)(h3:P3 x y z):∃x y z,P0 x y z/\P1 x y z/\P2 x y z/\P3 x y z:=⟨x,y,z,h0,h1,h2,h3⟩
theorem GV(h0:P0 x y z)(h1:P1 x y z)(h2:P2 x y z)(h3:P3 x y z)(h4:P4 x y z):∃x y z,P0 x y z/\P1 x y z/\P2 x y z/\P3 x y z/\P4 x y z:=⟨x,y,z,h0,h1,h2,h3,h4⟩
theorem acN(h0:P0 x y z)(h1:P1 x y z)(h2:P2 x y z)(h3:P3 x y z)(h4:P4 x y z)(h5:P5 x y z):∃x y z,P0 x y z/\P1 x y z/\P2 x y z/\P3 x y z/\P4 x y z/\P5 x y z:=⟨x,y,z,h0,h1,h2,h3,h4,h5⟩
end
section
variable{P0 P1 P2 P3 P4 P5 P6:kF->oG->tH->zv->Prop}(x:kF)(y:oG)(z:tH)(u:zv)
theorem adL(h0:P0 x y z u):∃x y z u,P0 x y z u:=⟨x,y,z,u,h0⟩
theorem wa(h0:P0 x y z u)(h1:P1 x y z u)(h2:P2 x y z u)(h3:P3 x y z u):∃x y z u,P0 x y z u/\P1 x y z u/\P2 x y z u/\P3 x y z u:=⟨x,y,z,u,h0,h1,h2,h3⟩
theorem BU(h0:P0 x y z u)(h1:P1 x y z u)(h2:P2 x y z u)(h3:P3 x y z u)(h4:P4 x y z u):∃x y z u,P0 x y z u/\P1 x y z u/\P2 x y z u/\P3 x y z u/\P4 x y z u:=⟨x,y,z,u,h0,h1,h2,h3,h4⟩
end
section
variable{P0 P1 P2 P3 P4 P5 P6:kF->oG->tH->zv->Lu->Prop}(x:kF)(y:oG)(z:tH)(u:zv)(v:Lu)
theorem RO(h0:P0 x y z u v)(h1:P1 x y z u v):∃x y z u v,P0 x y z u v/\P1 x y z u v:=⟨x,y,z,u,v,h0,h1⟩
theorem ac9(h0:P0 x y z u v)(h1:P1 x y z u v)(h2:P2 x y z u v)(h3:P3 x y z u v)(h4:P4 x y z u v):∃x y z u v,P0 x y z u v/\P1 x y z u v/\P2 x y z u v/\P3 x y z u v/\P4 x y z u v:=⟨x,y,z,u,v,h0,h1,h2,h3,h4⟩
end
end
@[elab_as_elim] theorem hH{α:Type}{a b:α}{m:α->Prop}(h:b=a)(k:m b):m a:=h▸k
@[elab_as_elim] theorem qa{α:Type}{m:Option α->Prop}(t:Option α)(none:m none)(some:∀a,m (some a)):m t:=Option.casesOn (motive:=m) t none some
@[elab_as_elim] theorem bO{α:Type}{m:List α->Prop}(t:List α)(nil:m [])(cons:∀a l,m (a::l)):m t:=List.casesOn (motive:=m) t nil cons
@[elab_as_elim] theorem jm{m:Bool->Prop}(t:Bool)(false:m false)(true:m true):m t:=Bool.casesOn (motive:=m) t false true
@[elab_as_elim] theorem m8{m:Nat->Prop}(t:Nat)(zero:m 0)(succ:∀n,m (n+1)):m t:=Nat.casesOn (motive:=m) t zero succ
@[elab_as_elim] theorem eu{m:aT->Prop}(t:aT)(BoolOp:∀(x0:PySem.BoolOp) (x1:_root_.List aT) (x2:b8),m (.BoolOp x0 x1 x2))(NamedExpr:∀(x0:aT) (x1:aT) (x2:b8),m (.NamedExpr x0 x1 x2))(BinOp:∀(x0:aT) (x1:PySem.Operator) (x2:aT) (x3:b8),m (.BinOp x0 x1 x2 x3))(UnaryOp:∀(x0:PySem.UnaryOp) (x1:aT) (x2:b8),m (.UnaryOp x0 x1 x2))(Lambda:∀(x0:SG) (x1:aT) (x2:ol) (x3:b8),m (.Lambda x0 x1 x2 x3))(IfExp:∀(x0:aT) (x1:aT) (x2:aT) (x3:b8),m (.IfExp x0 x1 x2 x3))(Dict:∀(x0:_root_.List (Option aT)) (x1:_root_.List aT) (x2:b8),m (.Dict x0 x1 x2))(Set:∀(x0:_root_.List aT) (x1:Nat) (x2:b8),m (.Set x0 x1 x2))(ListComp:∀(x0:aT) (x1:_root_.List Ke) (x2:ol) (x3:b8),m (.ListComp x0 x1 x2 x3))(SetComp:∀(x0:aT) (x1:_root_.List Ke) (x2:ol) (x3:b8),m (.SetComp x0 x1 x2 x3))(DictComp:∀(x0:aT) (x1:aT) (x2:_root_.List Ke) (x3:ol) (x4:b8),m (.DictComp x0 x1 x2 x3 x4))(GeneratorExp:∀(x0:aT) (x1:_root_.List Ke) (x2:ol) (x3:b8),m (.GeneratorExp x0 x1 x2 x3))(Await:∀(x0:aT) (x1:b8),m (.Await x0 x1))(Yield:∀(x0:Option aT) (x1:b8),m (.Yield x0 x1))(YieldFrom:∀(x0:aT) (x1:b8),m (.YieldFrom x0 x1))(Compare:∀(x0:aT) (x1:_root_.List PySem.CmpOp) (x2:_root_.List aT) (x3:b8),m (.Compare x0 x1 x2 x3))(Call:∀(x0:aT) (x1:_root_.List aT) (x2:_root_.List PySem.Keyword) (x3:b8),m (.Call x0 x1 x2 x3))(FormattedValue:∀(x0:aT) (x1:Int) (x2:Option aT) (x3:b8),m (.FormattedValue x0 x1 x2 x3))(JoinedStr:∀(x0:_root_.List aT) (x1:b8),m (.JoinedStr x0 x1))(Constant:∀(x0:Kf) (x1:Nat) (x2:b8),m (.Constant x0 x1 x2))(Attribute:∀(x0:aT) (x1:kr) (x2:b8),m (.Attribute x0 x1 x2))(Subscript:∀(x0:aT) (x1:aT) (x2:b8),m (.Subscript x0 x1 x2))(Starred:∀(x0:aT) (x1:b8),m (.Starred x0 x1))(Name:∀(x0:kr) (x1:b8),m (.Name x0 x1))(List:∀(x0:_root_.List aT) (x1:b8),m (.List x0 x1))(Tuple:∀(x0:_root_.List aT) (x1:Nat) (x2:b8),m (.Tuple x0 x1 x2))(Slice:∀(x0:Option aT) (x1:Option aT) (x2:Option aT) (x3:b8),m (.Slice x0 x1 x2 x3)):m t:=aT.casesOn (motive_1:=m) t BoolOp NamedExpr BinOp UnaryOp Lambda IfExp Dict Set ListComp SetComp DictComp GeneratorExp Await Yield YieldFrom Compare Call FormattedValue JoinedStr Constant Attribute Subscript Starred Name List Tuple Slice
@[elab_as_elim] theorem R3{m:gQ->Prop}(t:gQ)(FunctionDef:∀(x0:kr) (x1:SG) (x2:_root_.List gQ) (x3:_root_.List aT) (x4:Option aT) (x5:_root_.List Kg) (x6:ol) (x7:Option ol) (x8:kr) (x9:b8),m (.FunctionDef x0 x1 x2 x3 x4 x5 x6 x7 x8 x9))(AsyncFunctionDef:∀(x0:kr) (x1:SG) (x2:_root_.List gQ) (x3:_root_.List aT) (x4:Option aT) (x5:_root_.List Kg) (x6:ol) (x7:Option ol) (x8:kr) (x9:b8),m (.AsyncFunctionDef x0 x1 x2 x3 x4 x5 x6 x7 x8 x9))(ClassDef:∀(x0:kr) (x1:_root_.List aT) (x2:_root_.List PySem.Keyword) (x3:_root_.List gQ) (x4:_root_.List aT) (x5:_root_.List Kg) (x6:ol) (x7:Option ol) (x8:kr) (x9:_root_.List kr) (x10:b8),m (.ClassDef x0 x1 x2 x3 x4 x5 x6 x7 x8 x9 x10))(Return:∀(x0:Option aT) (x1:b8),m (.Return x0 x1))(Delete:∀(x0:_root_.List aT) (x1:b8),m (.Delete x0 x1))(Assign:∀(x0:_root_.List aT) (x1:aT) (x2:b8),m (.Assign x0 x1 x2))(TypeAlias:∀(x0:aT) (x1:_root_.List Kg) (x2:aT) (x3:ol) (x4:Option ol) (x5:kr) (x6:b8),m (.TypeAlias x0 x1 x2 x3 x4 x5 x6))(AugAssign:∀(x0:aT) (x1:PySem.Operator) (x2:aT) (x3:b8),m (.AugAssign x0 x1 x2 x3))(AnnAssign:∀(x0:aT) (x1:aT) (x2:Option aT) (x3:Int) (x4:b8),m (.AnnAssign x0 x1 x2 x3 x4))(For:∀(x0:aT) (x1:aT) (x2:_root_.List gQ) (x3:_root_.List gQ) (x4:b8),m (.For x0 x1 x2 x3 x4))(AsyncFor:∀(x0:aT) (x1:aT) (x2:_root_.List gQ) (x3:_root_.List gQ) (x4:b8),m (.AsyncFor x0 x1 x2 x3 x4))(While:∀(x0:aT) (x1:_root_.List gQ) (x2:_root_.List gQ) (x3:b8),m (.While x0 x1 x2 x3))(If:∀(x0:aT) (x1:_root_.List gQ) (x2:_root_.List gQ) (x3:b8),m (.If x0 x1 x2 x3))(With:∀(x0:_root_.List PySem.WithItem) (x1:_root_.List gQ) (x2:b8),m (.With x0 x1 x2))(AsyncWith:∀(x0:_root_.List PySem.WithItem) (x1:_root_.List gQ) (x2:b8),m (.AsyncWith x0 x1 x2))(Match:∀(x0:aT) (x1:_root_.List PySem.MatchCase) (x2:b8),m (.Match x0 x1 x2))(Raise:∀(x0:Option aT) (x1:Option aT) (x2:b8),m (.Raise x0 x1 x2))(Try:∀(x0:_root_.List gQ) (x1:_root_.List agc) (x2:_root_.List gQ) (x3:_root_.List gQ) (x4:b8),m (.Try x0 x1 x2 x3 x4))(TryStar:∀(x0:_root_.List gQ) (x1:_root_.List agc) (x2:_root_.List gQ) (x3:_root_.List gQ) (x4:b8),m (.TryStar x0 x1 x2 x3 x4))(Assert:∀(x0:aT) (x1:Option aT) (x2:b8),m (.Assert x0 x1 x2))(Import:∀(x0:_root_.List PySem.Alias) (x1:b8),m (.Import x0 x1))(ImportFrom:∀(x0:Option kr) (x1:_root_.List PySem.Alias) (x2:Option Int) (x3:b8),m (.ImportFrom x0 x1 x2 x3))(Global:∀(x0:_root_.List kr) (x1:b8),m (.Global x0 x1))(Nonlocal:∀(x0:_root_.List kr) (x1:b8),m (.Nonlocal x0 x1))(Expr:∀(x0:aT) (x1:b8),m (.Expr x0 x1))(Pass:∀(x0:b8),m (.Pass x0))(Break:∀(x0:b8),m (.Break x0))(Continue:∀(x0:b8),m (.Continue x0)):m t:=gQ.casesOn (motive_2:=m) t FunctionDef AsyncFunctionDef ClassDef Return Delete Assign TypeAlias AugAssign AnnAssign For AsyncFor While If With AsyncWith Match Raise Try TryStar Assert Import ImportFrom Global Nonlocal Expr Pass Break Continue
@[elab_as_elim] theorem Bj{m:SH->Prop}(t:SH)(none:m (.none))(ellipsis:m (.ellipsis))(notImplemented:m (.notImplemented))(bool:∀(x0:Bool),m (.bool x0))(int:∀(x0:Int) (x1:Kh),m (.int x0 x1))(float:∀(x0:UInt64) (x1:Kh),m (.float x0 x1))(str:∀(x0:kr) (x1:Kh),m (.str x0 x1))(bytes:∀(x0:Array UInt8) (x1:Kh),m (.bytes x0 x1))(type:∀(x0:String),m (.type x0))(builtin:∀(x0:String),m (.builtin x0))(ref:∀(x0:PySem.Addr),m (.ref x0)):m t:=SH.casesOn (motive:=m) t none ellipsis notImplemented bool int float str bytes type builtin ref
@[elab_as_elim] theorem YR{m:Kf->Prop}(t:Kf)(none:m (.none))(bool:∀(x0:Bool),m (.bool x0))(int:∀(x0:Int),m (.int x0))(float:∀(x0:UInt64),m (.float x0))(complex:∀(x0:UInt64) (x1:UInt64),m (.complex x0 x1))(str:∀(x0:kr),m (.str x0))(bytes:∀(x0:List UInt8),m (.bytes x0))(ellipsis:m (.ellipsis)):m t:=Kf.casesOn (motive:=m) t none bool int float complex str bytes ellipsis
inductive PV where
 |none|bool (b:Bool)|int (i:Int)|str (s:Str)
 |tup (l:List PV)|list (l:List PV)|set (l:List Nat)|d8 (lo hi:Int)
 |inst (c:Nat) (fs:List (Str×PV))
 |any
 deriving Inhabited
@[elab_as_elim] theorem dg{m:PV->Prop}(t:PV)(none:m (.none))(bool:∀(x0:Bool),m (.bool x0))(int:∀(x0:Int),m (.int x0))(str:∀(x0:Str),m (.str x0))(tup:∀(x0:List PV),m (.tup x0))(list:∀(x0:List PV),m (.list x0))(set:∀(x0:List Nat),m (.set x0))(d8:∀(x0:Int) (x1:Int),m (.d8 x0 x1))(inst:∀(x0:Nat) (x1:List (Str×PV)),m (.inst x0 x1))(any:m (.any)):m t:=PV.casesOn (motive_1:=m) t none bool int str tup list set d8 inst any
abbrev bj:=List (Str×PV)
abbrev aN:=List (Str×gU)
structure aK where
 fn:Str->List PV->List (Str×PV)->Option PV
 bM:Nat->Str->List PV->List (Str×PV)->Option PV
 attr:Nat->Str->PV->Option PV
 bin:ia->PV->PV->Option PV
 cmp:iF->PV->PV->Option Bool
 make:Str->List PV->List (Str×PV)->Option (Nat×List (Str×PV)×List Str)
 mh:Nat->List (Str×PV)->List Str->Str->List PV->Option (List (Str×PV))
 nB:Str->List PV->List (Str×PV)->Bool
 gens:Bool
noncomputable def dk:Nat:=194
noncomputable def ql:Nat:=252
noncomputable def cL:Nat:=362
noncomputable def bv:Nat:=613
noncomputable def iw:Nat:=650
noncomputable def ak{α:Type}(l:List (Str×α))(x:Str):Option α:=match l with
 |[]=>aP|(y,v)::r=>if y=x then some v else ak r x
noncomputable def b9{α:Type}(l:List (Str×α))(x:Str)(v:α):List (Str×α):=match l with
 |[]=>[(x,v)]|(y,u)::r=>if y=x then(x,v)::r else(y,u)::b9 r x v
structure PA(α:Type) where
 d:α
 Bm:α:=d
 Be:Bool->α:=λ_=>d
 pz:Int->α:=λ_=>d
 xn:Str->α:=λ_=>d
 uw:List PV->α:=λ_=>d
 pA:List PV->α:=λ_=>d
 xy:List Nat->α:=λ_=>d
 QT:Int->Int->α:=λ_ _=>d
 i9:Nat->List (Str×PV)->α:=λ_ _=>d
 QP:α:=d
noncomputable def PA.on{α:Type}(f:PA α)(p:PV):α:=match p with
 |.none=>f.Bm|.bool a=>f.Be a|.int a=>f.pz a|.str a=>f.xn a|.tup a=>f.uw a|.list a=>f.pA a|.set a=>f.xy a|.d8 a b=>f.QT a b|.inst a b=>f.i9 a b|.any=>f.QP
def PV.isScalar:PV->Bool:=PA.on {d:=false,Bm:=(true),Be:=λ_=>(true),pz:=λ_=>(true),xn:=λ_=>(true)}
def PV.pe:PV->Bool:=PA.on {d:=false,i9:=λ_ _=>(true)}
def PV.xH:PV->Option Unit:=PA.on {d:=aP,Bm:=(some ())}
def PV.ed:PV->Option Int:=PA.on {d:=aP,pz:=λi=>(some i)}
def PV.vZ:PV->Option Str:=PA.on {d:=aP,xn:=λi=>(some i)}
def PV.yD:PV->Option Bool:=PA.on {d:=aP,Be:=λi=>(some i)}
def PV.ii:PV->Option (List PV):=PA.on {d:=aP,pA:=λi=>(some i)}
def PV.Fq:PV->Option (List PV):=PA.on {d:=aP,uw:=λi=>(some i)}
def PV.BR:PV->Option (List Nat):=PA.on {d:=aP,xy:=λi=>(some i)}
section
variable{p:PV}{m:PV->Prop}
@[elab_as_elim] theorem Bi{i:Unit}(h:p.xH=some i)(K:m .none):m p:=by
 induction p using dg with
 |none=>exact K|_=>exact nS h
@[elab_as_elim] theorem ej{i:Int}(h:p.ed=some i)(K:m (.int i)):m p:=by
 induction p using dg with
 |int j=>exact ay h▸K|_=>exact nS h
@[elab_as_elim] theorem BD{i:Str}(h:p.vZ=some i)(K:m (.str i)):m p:=by
 cases p with
 |str j=>exact ay h▸K|_=>exact nS h
@[elab_as_elim] theorem Ev{i:Bool}(h:p.yD=some i)(K:m (.bool i)):m p:=by
 induction p using dg with
 |bool j=>exact ay h▸K|_=>exact nS h
@[elab_as_elim] theorem pB{i:List PV}(h:p.ii=some i)(K:m (.list i)):m p:=by
 induction p using dg with
 |list j=>exact ay h▸K|_=>exact nS h
@[elab_as_elim] theorem Hy{i:List PV}(h:p.Fq=some i)(K:m (.tup i)):m p:=by
 induction p using dg with
 |tup j=>exact ay h▸K|_=>exact nS h
@[elab_as_elim] theorem acp{i:List Nat}(h:p.BR=some i)(K:m (.set i)):m p:=by
 induction p using dg with
 |set j=>exact ay h▸K|_=>exact nS h
end
def PV.truth:PV->Option Bool:=PA.on {d:=aP,Bm:=(some false),Be:=λb=>(some b),pz:=λi=>(some (decide (i≠0))),pA:=λl=>(some (!l.isEmpty))}
noncomputable def du:Nat->PV->PV->Option Bool
 |0,_,_=>aP
 |n+1,a,b=>match a with
  |.int i=>b.ed.map λj=>i==j|.str i=>b.vZ.map λj=>i==j|.bool i=>b.yD.map λj=>i==j|.list l=>b.ii.bind λm=>if l.length=m.length then p5 (du n) l m else some false
  |_=>aP
where
 p5 (f:PV->PV->Option Bool):List PV->List PV->Option Bool
  |[],_=>some true
  |x::l,m=>(match m with
   |[]=>some true|y::m=>(f x y).bind λr=>(p5 f l m).map λq=>r&&q)
noncomputable def r0(a b:Str):Bool:=decide (a.cps.toList<b.cps.toList)
def fe(O:aK)(a b:PV):Option Bool:=match a with
 |.int i=>b.ed.map λj=>decide (i<j)|.str i=>b.vZ.map λj=>r0 i j|.list l=>b.ii.bind λm=>oM l m|.inst c fs=>O.cmp .Lt (.inst c fs) b|_=>aP
where
 oM:List PV->List PV->Option Bool
  |[],m=>(match m with
   |[]=>some false|y::_=>y.ed.map λ_=>true)
  |x::l,m=>x.ed.bind λi=>(match m with
   |[]=>some false|y::m=>y.ed.bind λj=>if i=j then oM l m else some (decide (i<j)))
noncomputable def qo{α:Type}(cmp:Nat->Nat->Option Bool):KasT α->Option α
 |.ret a=>some a|.ask i j k=>(cmp i j).bind λb=>qo cmp (k b)
def kW{α:Type}(lt:α->α->Option Bool)(l:List α):Option (List α):=
 if l.length<2 then some l
 else if l.length<64 then(qo (λi j=>(l[i]?).bind λa=>(l[j]?).bind (lt a)) (kas_sort l.length)).bind λp=>p.toList.mapM λi=>l[i]?
 else none
def qy{β:Type}(l:List Nat)(k:List PV->Option β):Option β:=
 open Classical in if h:∃r,∀l':List Nat,l'.Perm l->k (l'.map λn:Nat=>PV.int n)=some r then some h.choose else aP
theorem xF{β:Type}{l:List Nat}{k:List PV->Option β}{r:β}(h:qy l k=some r){l':List Nat}(p:l'.Perm l):k (l'.map λn:Nat=>PV.int n)=some r:=by
 unfold qy at h;split at h
 ·rename_i x;cases h;exact x.choose_spec l' p
 ·injection h
theorem RL{β:Type}{l:List Nat}{k:List PV->Option β}{r:β}(h:∀l':List Nat,l'.Perm l->k (l'.map λn:Nat=>PV.int n)=some r):qy l k=some r:=by
 unfold qy;have x:∃r,∀l':List Nat,l'.Perm l->k (l'.map λn:Nat=>PV.int n)=some r:=⟨r,h⟩;erw[dif_pos x];have:=x.choose_spec l (B6 l);rw[h l (B6 l)] at this;exact this.symm
def yf:PV->Option (List PV):=PA.on {d:=aP,uw:=λl=>(some l),pA:=λl=>(some l),QT:=λlo hi=>(some ((ax (hi-lo).toNat).map λk:Nat=>.int (lo+k))),i9:=λc fs=>(if c=bv then(ak fs "_voters").bind PV.ii else aP)}
def over{β:Type}(v:PV)(k:List PV->Option β):Option β:=v.BR.elim ((yf v).bind k) λl=>qy l k
def eH{β:Type}(v:PV)(k:List PV->Option β):Option β:=if v.pe=true then aP else over v k
noncomputable def jH{α:Type}(l:List α)(lo hi:Option Int):List α:=
 (l.drop (lo.elim 0 (wH l.length))).take (hi.elim l.length (wH l.length) -lo.elim 0 (wH l.length))
noncomputable def fv(n:Nat):List Nat->List Nat
 |[]=>[n]|m::r=>if n<m then n::m::r else if n=m then m::r else m::fv n r
def setOf:List PV->Option (List Nat)
 |[]=>some []|p::r=>p.ed.bind λi=>if 0<=i/\i<6 then(setOf r).map (fv i.toNat) else aP
noncomputable def d4:Nat:=1152921504606846976
noncomputable def aA:Nat:=100000
def fw(op:ia)(i j:Int):Option PV:=match op with
 |.Add=>some (.int (i+j))|.Sub=>some (.int (i-j))|.Mult=>if j.natAbs<d4\/i.natAbs<d4 then some (.int (i*j)) else aP
 |.FloorDiv=>if j≠0/\j.natAbs<d4 then some (.int (i.fdiv j)) else aP
 |.Mod=>if j≠0 then some (.int (i.fmod j)) else aP
 |.Pow=>if i=2/\0<=j/\j<8 then some (.int (2^j.toNat)) else aP
 |.RShift=>if 0<=i/\0<=j/\j<8 then some (.int (i.fdiv (2^j.toNat))) else aP
 |.BitAnd=>if 0<=i/\j=1 then some (.int (i.fmod 2)) else aP
 |_=>aP
def Q8(op:ia)(l:List PV)(b:PV):Option PV:=
 if op=.Add then b.ii.bind λm=>if l.length+m.length<=aA then some (.list (l++m)) else aP
 else if op=.Mult then b.ed.bind λj=>if 0<=j/\j<=100/\l.length<=100 then some (.list (kt j.toNat l).flatten) else aP
 else aP
def fT(O:aK)(op:ia)(a b:PV):Option PV:=PA.on {d:=aP,pz:=λi=>(b.ed.bind λj=>fw op i j),pA:=λl=>(Q8 op l b),uw:=λl=>(if op=.Add then b.Fq.bind λm=>if l.length+m.length<=aA then some (.tup (l++m)) else aP else aP),xn:=λs=>(if op=.Add then b.vZ.bind λt=>if s.length+t.length<=aA then some (.str (s++t)) else aP else aP),xy:=λl=>(if op=.BitAnd then b.BR.map λm=>.set (l.filter λx=>m.contains x) else aP),i9:=λc fs=>(O.bin op (.inst c fs) b)} a
def lB(n:Nat)(x:PV):List PV->Option Bool
 |[]=>some false|y::r=>(du n y x).bind λa=>(lB n x r).map λb=>a||b
def yz(k:Int->Int->Bool)(a b:PV):Option Bool:=a.ed.bind λi=>b.ed.map λj=>k i j
def AR(O:aK)(op:iF)(a b:PV)(r:Option Bool):Option Bool:=PA.on {d:=r,i9:=λc fs=>(O.cmp op (.inst c fs) b)} a
def HE(a b:PV):Option Bool:=PA.on {d:=aP,Bm:=(b.xH.map λ_=>true),pA:=λ_=>(b.xH.map λ_=>false),pz:=λ_=>(b.xH.map λ_=>false),uw:=λ_=>(b.xH.map λ_=>false)} a
def Je(a b:PV):Option Bool:=PA.on {d:=aP,pA:=λl=>(lB 4 a l),uw:=λl=>(lB 4 a l)} b
def fb(O:aK)(op:iF)(a b:PV):Option Bool:=match op with
 |.Eq=>AR O .Eq a b (du 4 a b)|.NotEq=>(du 4 a b).map not|.Lt=>yz (λi j=>decide (i<j)) a b|.LtE=>yz (λi j=>decide (i<=j)) a b|.Gt=>AR O .Gt a b (yz (λi j=>decide (j<i)) a b)|.GtE=>AR O .GtE a b (yz (λi j=>decide (j<=i)) a b)|.Is=>HE a b|.IsNot=>(HE a b).map not|.In=>Je a b|.NotIn=>(Je a b).map not
def pe(v:PV)(c:Str):Option Bool:=PA.on {d:=aP,pz:=λ_=>(if c=("int":Str) then some true else if c=("Fraction":Str) then some false else aP),i9:=λk _=>(if k=dk then(if c=("int":Str) then some false else if c=("Fraction":Str) then some true else aP)
  else if k=iw/\c=("Voter":Str) then some true else aP)} v
structure EA(α:Type) where
 d:α
 lc:Str->Pos->α:=λ_ _=>d
 uI:List aT->Nat->Pos->α:=λ_ _ _=>d
 uF:aT->List aT->List fj->Pos->α:=λ_ _ _ _=>d
 ym:aT->ia->aT->Pos->α:=λ_ _ _ _=>d
 uJ:aT->Str->Pos->α:=λ_ _ _=>d
 Bp:aT->List jL->fk->Pos->α:=λ_ _ _ _=>d
 Os:Option aT->Option aT->Option aT->Pos->α:=λ_ _ _ _=>d
 wn:List aT->Pos->α:=λ_ _=>d
 AK:Const->Nat->Pos->α:=λ_ _ _=>d
 vX:aT->aT->Pos->α:=λ_ _ _=>d
 E9:List (Option aT)->List aT->Pos->α:=λ_ _ _=>d
 xY:aT->List jL->fk->Pos->α:=λ_ _ _ _=>d
 BH:PySem.UnaryOp->aT->Pos->α:=λ_ _ _=>d
 B3:PySem.BoolOp->List aT->Pos->α:=λ_ _ _=>d
 AA:aT->List iF->List aT->Pos->α:=λ_ _ _ _=>d
 NT:aT->Pos->α:=λ_ _=>d
 Jv:aT->aT->aT->Pos->α:=λ_ _ _ _=>d
 O6:List aT->Nat->Pos->α:=λ_ _ _=>d
noncomputable def EA.on{α:Type}(f:EA α)(e:Expr):α:=match e with
 |.Name a b=>f.lc a b|.Tuple a b c=>f.uI a b c|.Call a b c d=>f.uF a b c d|.BinOp a b c d=>f.ym a b c d|.Attribute a b c=>f.uJ a b c|.GeneratorExp a b c d=>f.Bp a b c d|.Slice a b c d=>f.Os a b c d|.List a b=>f.wn a b|.Constant a b c=>f.AK a b c|.Subscript a b c=>f.vX a b c|.Dict a b c=>f.E9 a b c|.ListComp a b c d=>f.xY a b c d|.UnaryOp a b c=>f.BH a b c|.BoolOp a b c=>f.B3 a b c|.Compare a b c d=>f.AA a b c d|.Starred a b=>f.NT a b|.IfExp a b c d=>f.Jv a b c d|.Set a b c=>f.O6 a b c|_=>f.d
def iB:Expr->Option Str:=EA.on {d:=aP,lc:=λx _=>some x}
def MX:Expr->Option (List Str):=EA.on {d:=aP,lc:=λx _=>some [x],uI:=λes _ _=>es.mapM iB}
def iV(v:PV):List Str->Option Bool
 |[]=>some false|c::r=>(pe v c).bind λb=>if b=true then some true else iV v r
noncomputable def IR(x:Str):Option PV:=
 if x=("available_algorithms":Str) then some (.list [.str "branch-and-bound",.str "brute-force",.str "standard",.str "standard-fractions"])
 else if x=("_law_orders":Str) then
  let il (l:List Int):PV:=.list (l.map .int)
  some (.list [.list [il [0,1],il [1,0]],.list [il [0,1,2],il [0,2,1],il [1,0,2],il [1,2,0],il [2,0,1],il [2,1,0]]])
 else aP
def zS(c:Nat)(x:Str):Option PV:=
 if c=cL then
  if x=("_THIELE_ALGORITHMS":Str) then some (.tup [.str "gurobi",.str "pulp-highs",.str "pulp-cbc",.str "branch-and-bound",.str "brute-force"])
  else if x=("_RESOLUTE_VALUES_FOR_OPTIMIZATION_BASED_RULES":Str) then some (.tup [.bool false,.bool true])
  else aP
 else aP
def hF{α:Type}(nm:aN)(x:Str)(v:α)(σ:List (Str×α)):Option (List (Str×α)):=if ak nm x=some .local\/ak nm x=some .cell then some (b9 σ x v) else aP
def Bo{S:Type}(put:Str->PV->S->Option S):List Expr->List PV->S->Option S
 |[],l,σ=>if l.isEmpty=true then some σ else aP
 |e::es,l,σ=>(match l with
  |[]=>aP|v::l=>(iB e).bind λx=>(put x v σ).bind (Bo put es l))
def fY{S:Type}(put:Str->PV->S->Option S)(t:Expr)(v:PV)(σ:S):Option S:=EA.on {d:=aP,lc:=λx _=>put x v σ,uI:=λes _ _=>v.Fq.bind λl=>Bo put es l σ} t
def vH:Expr->List Str:=EA.on {d:=[],lc:=λx _=>[x],uI:=λes _ _=>es.filterMap iB}
def lD(t:Expr)(σ:bj):Bool:=(vH t).all λx=>(ak σ x).isNone
def pH(nm:aN):Bool:=(ak nm ("str_set_of_candidates":Str)).isSome||(ak nm ("candset":Str)).isSome||((ak nm ("approved":Str)).isSome&&(ak nm ("candidates":Str)).isSome)
noncomputable def vz:ac->Bool
 |.ref c=>c==29||c==36||c==44|_=>false
noncomputable def Iu(sc:fk):Bool:= !sc.isCoroutine&&sc.names.lookup (".0":Str)==some .local&&sc.names.all λp=>p.2 !=.cell
def Bk(nm:aN)(sc:fk):Bool:=(sc.kind==.function&& !pH sc.names)&&sc.names.all λp=>ak sc.names p.1==some p.2&&(match p.2 with
 |.free=>(ak nm p.1==some .cell||ak nm p.1==some .free)&&p.1 !=("__classdict__":Str)|.local|.cell|.globalImplicit=>true|_=>false)
def mw(sc:fk)(σ:bj):bj:=σ.filter λp=>ak sc.names p.1==some .free
def qd(l:List PV):Option (List Int):=l.mapM PV.ed
def qq(l:List PV):Option Int:=(qd l).map yJ
noncomputable def wz(gt:PV->PV->Option Bool):PV->List PV->Option PV
 |m,[]=>some m|m,x::r=>(gt x m).bind λb=>if b=true then wz gt x r else wz gt m r
def xl(O:aK)(a b:PV):Option Bool:=PA.on {d:=aP,i9:=λc fs=>(O.cmp .Gt (.inst c fs) b),pA:=λl=>(b.ii.bind λm=>fe.oM m l),pz:=λi=>(b.ed.map λj=>decide (j<i))} a
def JG(l:List PV):Option (List Str):=l.mapM PV.vZ
noncomputable def EX(sep:Str):List Str->Str
 |[]=> ""|x::r=>if r.isEmpty=true then x else x++sep++EX sep r
def Iv(sep:Str)(l:List PV):Option Str:=(JG l).bind λl=>if(l.map λx=>x.length+sep.length).sum<=aA then some (EX sep l) else aP
def Q6(v:PV):Option PV:=v.ed.map λi=>.int (-i)
def wx:List (Nat×Str):=[(dk,"numerator"),(dk,"denominator"),(ql,"name"),(ql,"param"),(cL,"rule_id"),(cL,"algorithms"),(cL,"resolute_values"),(cL,"available_algorithms"),
 (bv,"candidates"),(bv,"_voters"),(iw,"approved"),(iw,"weight")]
def PV.iV:PV->Bool:=PA.on {d:=false,QP:=(true)}
def abR(O:aK)(x:Str)(c:Nat)(fs:List (Str×PV)):Option PV:=match ak fs x with
 |some v=>if wx.contains (c,x)=true/\v.iV=false then some v else aP
 |aP=>match zS c x with
  |some v=>some v|aP=>O.attr c x (.inst c fs)
def JW(O:aK)(x:Str):PV->Option PV:=PA.on {d:=aP,i9:=λc fs=>(abR O x c fs)}
def bP(a b:PV):Option PV:=PA.on {d:=aP,pA:=λl=>(b.ed.bind λi=>(wI i l.length).bind λj=>l[j]?),uw:=λl=>(b.ed.bind λi=>(wI i l.length).bind λj=>l[j]?)} a
noncomputable def o6{α:Type}:List α->Option α
 |[a]=>some a|_=>aP
noncomputable def qg{α:Type}:List α->Option (α×α)
 |[a,b]=>some (a,b)|_=>aP
def mB(vs:List PV)(ks:List (Str×PV)):Option PV:=if ks.isEmpty=true then o6 vs else aP
def QX(vs:List PV)(ks:List (Str×PV)):Option (PV×PV):=if ks.isEmpty=true then qg vs else aP
def JF(O:aK)(m:Str)(v:PV)(vs:List PV)(ks:List (Str×PV)):Option PV:=PA.on {d:=aP,i9:=λc fs=>(if(ak fs m).isNone=true then O.bM c m (.inst c fs::vs) ks else aP),xy:=λl=>(if m=("intersection":Str) then(mB vs ks).bind λu=>u.ii.bind λv=>(qd v).map λdW=>.set (l.filter λx=>dW.contains (x:Int)) else aP),xn:=λs=>(if m=("join":Str) then(mB vs ks).bind λu=>u.ii.bind λl=>(Iv s l).map .str else aP)} v
def JV(O:aK)(v:PV):Option PV:=PA.on {d:=aP,pA:=λl=>(some (.int l.length)),uw:=λl=>(some (.int l.length)),xy:=λl=>(some (.int l.length)),i9:=λc fs=>(O.fn "len" [.inst c fs] [])} v
def f9(a b:Int):Option PV:=if a.natAbs<d4/\b.natAbs<d4/\b-a<=(aA:Nat) then some (.d8 a b) else aP
def uy(O:aK)(l:List PV):Option PV:=match l with
 |x::r=>wz (xl O) x r|[]=>aP
def oJ(mk:List PV->PV)(l:List PV):Option PV:=if l.length<=aA then some (mk l) else aP
def nj(O:aK)(f:Str)(vs:List PV)(ks:List (Str×PV)):Option PV:=
 if f=("len":Str) then(mB vs ks).bind (JV O)
 else if f=("range":Str) then(if vs.length=1 then(mB vs ks).bind λv=>v.ed.bind (f9 0) else(QX vs ks).bind λp=>p.1.ed.bind λa=>p.2.ed.bind (f9 a))
 else if f=("sum":Str) then(mB vs ks).bind λv=>v.ii.bind λl=>(qq l).map .int
 else if f=("max":Str) then(mB vs ks).bind λv=>v.ii.bind (uy O)
 else if f=("abs":Str) then(mB vs ks).bind λv=>v.ed.map λi=>.int i.natAbs
 else if f=("int":Str) then(mB vs ks).bind λv=>v.ed.map .int
 else if f=("str":Str) then(mB vs ks).bind λv=>v.ed.bind λi=>if i.natAbs<d4 then some (.str (dw (toString i))) else aP
 else if f=("set":Str) then(mB vs ks).bind λv=>(eH v setOf).map .set
 else if f=("list":Str) then(mB vs ks).bind λv=>if v.pe=true then aP else(yf v).bind (oJ .list)
 else O.fn f vs ks
def j0:PV->Nat:=PA.on {d:=0,pz:=λ_=>(1),xn:=λ_=>(2),pA:=λ_=>(3),i9:=λc _=>(if c=dk then 4 else 0)}
def o5(l:List PV):Bool:=match l with
 |[]=>true|p::r=>j0 p !=0&&r.all λq=>j0 q==j0 p
noncomputable def nZ(O:aK)(k:Str)(vs:List PV):Option (List (PV×PV)):=vs.mapM λv=>(O.fn k [v] []).map λu=>(u,v)
def eD(O:aK)(nm:aN)(vs:List PV):List fj->Option PV
 |[]=>if o5 vs=true then(kW (fe O) vs).map .list else none
 |k::r=>if r.isEmpty=true/\k.arg=some ("key":Str) then(iB k.value).bind λg=>if g≠("__debug__":Str)/\ak nm g=some .globalImplicit/\vs≠[] then(nZ O g vs).bind λks=>
   if o5 (ks.map (·.1))=true then(kW (λa b=>fe O a.1 b.1) ks).map λl=>.list (l.map (·.2)) else none
  else none else none
def PV.AZ(b:Bool):PV->Bool:=PA.on {d:=false,Be:=λc=>(c==b)}
def xu(b:Bool)(l:List PV):Option PV:=if(l.all (PV.AZ b))=true then some (.bool b) else aP
def adQ:Expr->Bool:=EA.on {d:=false,lc:=λ_ _=>true,uF:=λ_ _ _ _=>true,ym:=λ_ _ _ _=>true,uJ:=λ_ _ _=>true}
def AW:Expr->Bool:=EA.on {d:=false,lc:=λ_ _=>true,uF:=λ_ _ _ _=>true}
def Mc(nm:aN)(cs:List Str):Bool:=decide (0<cs.length/\cs.length<=100)&&cs.all λx=>ak nm x==some .globalImplicit&&(x==("int":Str)||x==("Fraction":Str)||x==("Voter":Str))
def ug:Expr->Bool:=EA.on {d:=false,uF:=λf as ks _=>(iB f).isSome&&(as.isEmpty&&ks.isEmpty)}
structure Ip where
 e:aN->bj->Expr->Option PV
 t:aN->bj->Expr->Option Bool
noncomputable def iS(ev:Expr->Option PV):List Expr->Option (List PV)
 |[]=>some []|e::r=>(ev e).bind λv=>(iS ev r).map λvs=>v::vs
noncomputable def rC(ev:Expr->Option PV):List fj->Option (List (Str×PV))
 |[]=>some []|k::r=>k.arg.bind λa=>(ev k.value).bind λv=>(rC ev r).map λvs=>(a,v)::vs
noncomputable def GN(ev:Expr->Option PV):Option Expr->Option (Option Int)
 |aP=>some aP|some e=>(ev e).bind λv=>v.ed.map some
noncomputable def Dx:BoolOp->Bool
 |.And=>false|.Or=>true
noncomputable def pZ(te:Expr->Option Bool)(o:Bool):List Expr->Option Bool
 |[]=>some (!o)|x::r=>(te x).bind λb=>if b=o then some o else pZ te o r
noncomputable def Ha(ev:Expr->Option PV)(o:Bool):List Expr->Option PV
 |[]=>aP|x::r=>(ev x).bind λv=>if r.isEmpty=true then some v else v.yD.bind λb=>if b=o then some (.bool o) else Ha ev o r
def qR(body:bj->Option (List PV))(te:bj->Expr->Option Bool)(nm:aN)(t:Expr)(ifs:List Expr)(σ:bj):List PV->Option (List PV)
 |[]=>some []|v::src=>if lD t σ=true then(fY (hF nm) t v σ).bind λσ'=>(pZ (te σ') false ifs).bind λok=>(if ok=true then body σ' else some []).bind λhere=>(qR body te nm t ifs σ src).map λmore=>here++more else aP
def sr(I:Ip)(nm:aN)(elt:Expr):List jL->bj->Option (List PV)
 |[],σ=>(I.e nm σ elt).map λx=>[x]|g::gs,σ=>(I.e nm σ g.iter).bind λv=>(yf v).bind (qR (sr I nm elt gs) (I.t nm) nm g.target g.ifs σ)
def kT(ev:bj->Expr->Option PV)(nm:aN)(t elt:Expr)(σ:bj):List PV->Option (List PV)
 |[]=>some []|v::src=>if lD t σ=true then(fY (hF nm) t v σ).bind λσ'=>(ev σ' elt).bind λx=>(kT ev nm t elt σ src).map λmore=>x::more else aP
noncomputable def N3:Const->Option PV
 |.none=>some .none|.bool b=>some (.bool b)|.int i=>some (.int i)|.str s=>some (.str s)|_=>aP
def I2(nm:aN)(σ:bj)(x:Str):Option PV:=if x=("__debug__":Str) then aP else if ak nm x=some .globalImplicit then IR x else ak σ x
def EF(O:aK)(ev:Expr->Option PV)(l:Expr)(ops:List iF)(rs:List Expr):Option Bool:=(o6 ops).bind λop=>(o6 rs).bind λr=>(ev l).bind λa=>(ev r).bind λb=>fb O op a b
def ED(I:Ip)(nm:aN)(σ:bj)(elt:Expr)(sc:fk):List jL->Option PV
 |[]=>aP
 |g::gs=>if Bk nm sc=true/\g.is_async=0/\(gs.all λg=>g.is_async==0&&AW g.iter)=true then(I.e nm σ g.iter).bind λv=>over v λsrc=>
   (qR (sr I sc.names elt gs) (I.t sc.names) sc.names g.target g.ifs (mw sc σ) src).bind (oJ .list) else aP
def N2(ev:Expr->Option PV)(a:PV)(i:Expr):Option PV:=EA.on {d:=(ev i).bind (bP a),Os:=λlo hi st _=>if st.isNone=true then(GN ev lo).bind λlo=>(GN ev hi).bind λhi=>a.ii.map λl=>.list (jH l lo hi) else aP} i
def wq(O:aK)(I J:Ip)(nm:aN)(σ:bj)(fr:Bool)(K:List PV->Option PV):Expr->Option PV:=EA.on {d:=aP,Bp:=λelt gs sc _=>((o6 gs).bind λg=>if((fr||sc.names.all λp=>p.2 !=.free)&&O.gens&&pH nm&&Iu sc&&AW g.iter&&Bk nm sc&&g.ifs.isEmpty&&g.is_async==0)=true then(I.e nm σ g.iter).bind λv=>eH v λsrc=>(kT (J.e sc.names) sc.names g.target elt (mw sc σ) src).bind K else aP)}
def adh:Expr->Bool:=EA.on {d:=false,Bp:=λ_ _ _ _=>true}
def N0(O:aK)(I J:Ip)(nm:aN)(σ:bj)(f:Str)(args:List Expr)(kws:List fj):Option PV:=
 if f=("isinstance":Str) then(if kws.isEmpty=true then(qg args).bind λp=>(I.e nm σ p.1).bind λv=>(MX p.2).bind λcs=>if Mc nm cs=true then(iV v cs).map .bool else aP else aP)
 else if f=("all":Str)\/f=("any":Str) then(if kws.isEmpty=true then(o6 args).bind (wq O I J nm σ true (xu (f==("all":Str)))) else aP)
 else if f=("sorted":Str) then(o6 args).bind λa=>if adh a=true then wq O I J nm σ false (λvs=>eD O nm vs kws) a else(I.e nm σ a).bind λv=>eH v λl=>eD O nm l kws
 else(iS (I.e nm σ) args).bind λvs=>(rC (I.e nm σ) kws).bind λks=>nj O f vs ks
def NE(O:aK)(vs:List PV):PV->Option PV:=PA.on {d:=aP,i9:=λc fs=>(O.bM c "__call__" (.inst c fs::vs) [])}
def Qg(O:aK)(I J:Ip)(nm:aN)(σ:bj)(args:List Expr)(kws:List fj)(p:Pos):Expr->Option PV:=EA.on {d:=aP,uJ:=λo m ap=>(if ug o=true\/ap.endLine≠p.line\/20<args.length+kws.length then aP else(I.e nm σ o).bind λv=>(iS (I.e nm σ) args).bind λvs=>(rC (I.e nm σ) kws).bind λks=>JF O m v vs ks),lc:=λf _=>(if f=("__debug__":Str) then aP else if ak nm f=some .globalImplicit then N0 O I J nm σ f args kws else
   (iS (I.e nm σ) args).bind λvs=>(ak σ f).bind λc=>if kws.isEmpty=true then NE O vs c else aP)}
def pf(O:aK)(I J:Ip)(nm:aN)(σ:bj):Expr->Option PV:=EA.on {d:=aP,AK:=λc _ _=>N3 c,lc:=λx _=>I2 nm σ x,ym:=λl op r _=>((I.e nm σ l).bind λa=>(I.e nm σ r).bind λb=>fT O op a b),BH:=λop x _=>if op=.USub then(I.e nm σ x).bind Q6 else aP,B3:=λop vs _=>Ha (I.e nm σ) (Dx op) vs,Jv:=λt b c _=>((I.t nm σ t).bind λr=>if r=true then I.e nm σ b else I.e nm σ c),AA:=λl ops rs _=>(EF O (I.e nm σ) l ops rs).map .bool,E9:=λks vs _=>if ks.isEmpty=true/\vs.isEmpty=true then some .any else aP,wn:=λes _=>(iS (I.e nm σ) es).bind (oJ .list),uI:=λes _ _=>(iS (I.e nm σ) es).bind (oJ .tup),xY:=λelt gs sc _=>ED I nm σ elt sc gs,uJ:=λo x _=>if ug o=true then aP else(I.e nm σ o).bind (JW O x),vX:=λo i _=>((I.e nm σ o).bind λa=>N2 (I.e nm σ) a i),uF:=λf args kws p=>Qg O I J nm σ args kws p f}
def Pf(I:Ip)(nm:aN)(σ:bj)(e:Expr):Option Bool:=if adQ e=true then(I.e nm σ e).bind PV.truth else aP
def DN(O:aK)(I:Ip)(nm:aN)(σ:bj)(e:Expr):Option Bool:=EA.on {d:=Pf I nm σ e,BH:=λop x _=>if op=.Not then(I.t nm σ x).map not else aP,B3:=λop vs _=>pZ (I.t nm σ) (Dx op) vs,AA:=λl ops rs _=>EF O (I.e nm σ) l ops rs} e
def ip:Nat->aK->Ip:=Nat.rec (λ_=>⟨λ_ _ _=>aP,λ_ _ _=>aP⟩) λ_ ih O=>⟨pf O (ih O) (ih {O with gens:=false}),DN O (ih O)⟩
abbrev cI(O:aK)(n:Nat):aN->bj->Expr->Option PV:=(ip n O).e
abbrev fG(O:aK)(n:Nat):aN->bj->Expr->Option Bool:=(ip n O).t
section
variable{a:ao}{us:List ac}{s i8:ag}{h':am}{d:Nat}{u:ac}
abbrev Fz:=ao->Option Obj
def dB(a:Nat):Prop:=a=25\/a=32\/a=40
noncomputable def E4(f:Fz)(a:ao)(o:Obj):Fz:=λb=>if b=a then some o else f b
section
variable{f:Fz}{b:ao}{o p:Obj}
theorem pJ:E4 f a o a=some o:=iP rfl
theorem Se(n:∀p,f a=some p->p=o)(e:f b=some p):E4 f a o b=some p:=by
 by_cases q:b=a
 ·exact(iP q).trans (af some (n p (q▸e)).symm)
 ·exact(iN q).trans e
theorem EH{P:Prop}(e:E4 f a o b=some p)(k1:b=a->p=o->P)(k2:f b=some p->P):P:=by
 by_cases q:b=a
 ·exact k1 q (ay (e.symm.trans (iP q)))
 ·exact k2 ((iN q).symm.trans e)
end
def wh(h:am)(x:ac)(q:Str):Prop:=∃c o vs t,x=.ref c/\h.get? c=some o/\o.cls=.type "code"/\o.data=.fields vs/\vs[1]?=some (.str q t)
theorem wh.keeps{h h':am}{x:ac}{q:Str}(y:wh h x q)(k:∀b o,h.get? b=some o->(o.cls=.type "code"/\∃vs,o.data=.fields vs)->h'.get? b=some o):wh h' x q:=by refine Ow y λc o vs t a b e r z=>?_;exact(BU c o vs t a (k c o b ⟨e,vs,r⟩) e r z)
def iD(h:am):Prop:=∀c P:ao,((c=29/\P=25)\/(c=36/\P=32)\/(c=44/\P=40))->
 ∃ps,h.IsCode c P ps/\h.TableAt c P ps/\∀pos x,B7 pos ps.toList=some x->∃q,wh h x q
theorem iD.keeps{h h':am}(x:iD h)(k:∀b o,h.get? b=some o->h'.get? b=some o):iD h':=λc P q=>
 by
 obtain⟨ps,a,b,r⟩:=x c P q;exact(cz ps (a.keeps k) (b.keeps k) (λpos x e=>by refine dJ (r pos x e) λq z=>?_;exact⟨q,z.keeps λb o e _=>k b o e⟩))
theorem iD.but{h h':am}(x:iD h)(k:∀b o,h.get? b=some o->b<719\/(o.cls=.type "code"/\∃vs,o.data=.fields vs)->h'.get? b=some o):iD h':=λc P q=>by
 obtain⟨ps,a,b,r⟩:=x c P q;have l:c<719/\P<719:=by rcases q with⟨rfl,rfl⟩|⟨rfl,rfl⟩|⟨rfl,rfl⟩<;>decide
 have e1:h'.get? c=h.get? c:=by obtain⟨⟨o,vs,e,_⟩,_⟩:=b;exact(k c o e (.inl l.1)).trans e.symm
 have e2:h'.get? P=h.get? P:=(k P _ b.2 (.inl l.2)).trans b.2.symm;refine(cz ps (?_) (?_) (λpos y e=>by refine dJ (r pos y e) λq z=>?_;exact⟨q,z.keeps λb o e c=>k b o e (.inr c)⟩))
 ·unfold am.IsCode at a⊢;erw[e1];erw[e2];exact a
 ·unfold am.TableAt at b⊢;erw[e1];erw[e2];exact b
structure Cx where
 w:cO
 h₀:am
 K:(KL w.params).In h₀
 g:∃mg,h₀.Ns mE mg
 b:∃mb,h₀.Ns uM mb/\∀x:Str,x≠ "__name__"->mb x=bootBuiltins x
 nolimit:h₀.NoLimit
 jf:∀a,dB a->h₀.get? a=none
def jW(c:Cx):List (Str×ac)->List pQ->Prop
 |[],es=>es=[]|p::l,es=> ∃t r,es=⟨pR c.w.params p.1,.str p.1 t,p.2⟩::r/\jW c l r
structure eV(P:cD)(l:List Nat)(t:a8):Prop where
 place:t.place=l.toArray
 dummies:t.dummies= #[]
 mask:t.mask=7\/t.mask=15\/t.mask=31
 room:l.length*5<t.mask*3
 finger:t.finger=0
 plain:t.plain=true
 led:t.led= !P.followText "set-order"
 up:l.Pairwise (· < ·)
 small:∀x∈l,x<6
def bS:List (Int×ac)->List Nat->Prop
 |es,[]=>es=[]|es,n::l=> ∃tk r,es=((n:Int),.int n tk)::r/\bS r l
noncomputable def bu(vs:List ac)(n:Nat):Obj:={cls:=.type "list",data:=.seq vs.toArray n}
noncomputable def fW(vs:List ac)(n:Nat):Obj:={cls:=.type "tuple",data:=.seq vs.toArray n}
noncomputable def BC(lo hi:Int)(t u v:Tok):Obj:={cls:=.type "range",data:=.fields #[.int lo t,.int hi u,.int 1 v]}
noncomputable def dM(es:Array (Int×ac))(n:Nat)(t:a8):Obj:={cls:=.type "set",data:=.set es n t}
noncomputable def l9(c dx:ao):Obj:={cls:=.ref c,dict:=some dx,data:=.plain}
noncomputable def rV(es:List pQ)(n:Nat):Obj:={cls:=.type "dict",data:=.dict es.toArray n}
def nX(f:Fz)(o:List ac->Nat->Obj)(l:List PV)(q:List ac->Prop)(v:ac):Prop:=∃a n vs,v=.ref a/\f a=some (o vs n)/\q vs/\l.length<=aA
def vJ(c:Cx)(f:Fz)(l:List Nat)(v:ac):Prop:=∃a es n t,v=.ref a/\f a=some (dM es n t)/\bS es.toList l/\eV c.w.params l t
def vK(f:Fz)(lo hi:Int)(v:ac):Prop:=∃a t u z,v=.ref a/\f a=some (BC lo hi t u z)/\lo.natAbs<d4/\hi.natAbs<d4/\hi-lo<=(aA:Nat)
def wk(c:Cx)(f:Fz)(k:Nat)(q:List (Str×ac)->Prop)(v:ac):Prop:=∃a dx n es vs,v=.ref a/\f a=some (l9 k dx)/\f dx=some (rV es n)/\jW c vs es/\q vs
def lQ{α:Type}(r:α->Prop)(q:List α->Prop)(vs:List α):Prop:=∃u us,vs=u::us/\r u/\q us
def aV(c:Cx)(f:Fz)(v:ac)(p:PV):Prop:=p.rec (motive_1:=λ_=>ac->Prop) (motive_2:=λ_=>List ac->Prop) (motive_3:=λ_=>List (Str×ac)->Prop) (motive_4:=λ_=>Str×ac->Prop)
 (λv=>v=.none) (λb v=>v=.bool b) (λi v=> ∃t,v=.int i t) (λs v=> ∃t,v=.str s t) (nX f fW) (nX f bu) (vJ c f) (vK f) (λk _=>wk c f k) (λ_=>True)
 (λvs=>vs=[]) (λ_ _=>lQ) (λvs=>vs=[]) (λ_ _=>lQ) (λx _ r u=>u.1=x/\r u.2) v
def aR(c:Cx)(f:Fz)(v:List ac)(p:List PV):Prop:=PV.rec_1 (motive_1:=λ_=>ac->Prop) (motive_2:=λ_=>List ac->Prop) (motive_3:=λ_=>List (Str×ac)->Prop) (motive_4:=λ_=>Str×ac->Prop)
 (λv=>v=.none) (λb v=>v=.bool b) (λi v=> ∃t,v=.int i t) (λs v=> ∃t,v=.str s t) (nX f fW) (nX f bu) (vJ c f) (vK f) (λk _=>wk c f k) (λ_=>True)
 (λvs=>vs=[]) (λ_ _=>lQ) (λvs=>vs=[]) (λ_ _=>lQ) (λx _ r u=>u.1=x/\r u.2) p v
def bI(c:Cx)(f:Fz)(v:List (Str×ac))(p:List (Str×PV)):Prop:=PV.rec_2 (motive_1:=λ_=>ac->Prop) (motive_2:=λ_=>List ac->Prop) (motive_3:=λ_=>List (Str×ac)->Prop) (motive_4:=λ_=>Str×ac->Prop)
 (λv=>v=.none) (λb v=>v=.bool b) (λi v=> ∃t,v=.int i t) (λs v=> ∃t,v=.str s t) (nX f fW) (nX f bu) (vJ c f) (vK f) (λk _=>wk c f k) (λ_=>True)
 (λvs=>vs=[]) (λ_ _=>lQ) (λvs=>vs=[]) (λ_ _=>lQ) (λx _ r u=>u.1=x/\r u.2) p v
section
variable{f:Fz}{v:ac}{m:ac->Prop}
theorem nX.on{o:List ac->Nat->Obj}{l:List PV}{q:List ac->Prop}(h:nX f o l q v)(K:∀{a n vs},f a=some (o vs n)->q vs->l.length<=aA->m (.ref a)):m v:=by obtain⟨_,_,_,e,h,r,z⟩:=h;subst e;exact K h r z
theorem lQ.on{α:Type}{vs:List α}{m:List α->Prop}{r:α->Prop}{q:List α->Prop}(h:lQ r q vs)(K:∀{u us},r u->q us->m (u::us)):m vs:=by refine s8 h λ_ _ e a b=>?_;subst e;exact K a b
theorem vJ.on{c:Cx}{l:List Nat}(h:vJ c f l v)(K:∀{a es n t},f a=some (dM es n t)->bS es.toList l->eV c.w.params l t->m (.ref a)):m v:=by obtain⟨_,_,_,_,e,h,r,z⟩:=h;subst e;exact K h r z
theorem vK.on{lo hi:Int}(h:vK f lo hi v)(K:∀{a t u z},f a=some (BC lo hi t u z)->lo.natAbs<d4->hi.natAbs<d4->hi-lo<=(aA:Nat)->m (.ref a)):m v:=by obtain⟨_,_,_,_,e,h,g,r,z⟩:=h;subst e;exact K h g r z
theorem wk.on{c:Cx}{k:Nat}{q:List (Str×ac)->Prop}(h:wk c f k q v)(K:∀{a dx n es vs},f a=some (l9 k dx)->f dx=some (rV es n)->jW c vs es->q vs->m (.ref a)):m v:=by obtain⟨_,_,_,_,_,e,h,g,r,z⟩:=h;subst e;exact K h g r z
end
section
variable{c:Cx}{f f':Fz}{v:ac}{m:ac->Prop}{dx:ao}{n:Nat}{vs:List ac}{l k:List PV}{lv:List (Str×ac)}{lf:List (Str×PV)}{x:Str}{p:PV}
theorem aV.none:aV c f .none .none:=Eq.refl (a:=oj)
theorem aV.bool{b:Bool}:aV c f (.bool b) (.bool b):=Eq.refl (a:=Kc b)
theorem aV.int{i:Int}{t:Tok}:aV c f (.int i t) (.int i):=⟨t,rfl⟩
theorem aV.str{s:Str}{t:Tok}:aV c f (.str s t) (.str s):=⟨t,rfl⟩
theorem aV.any:aV c f v .any:=trivial
theorem aV.tup(h:f a=some (fW vs n))(r:aR c f vs l)(hn:l.length<=aA):aV c f (.ref a) (.tup l):=show nX f fW l (λvs=>aR c f vs l) _ from(xD a n vs rfl h r hn)
theorem aV.list(h:f a=some (bu vs n))(r:aR c f vs l)(hn:l.length<=aA):aV c f (.ref a) (.list l):=show nX f bu l (λvs=>aR c f vs l) _ from(xD a n vs rfl h r hn)
theorem aV.set{es:Array (Int×ac)}{t:a8}{l:List Nat}(h:f a=some (dM es n t))(he:bS es.toList l)(ht:eV c.w.params l t):aV c f (.ref a) (.set l):=show vJ c f l _ from(wa a es n t rfl h he ht)
theorem aV.d8{lo hi:Int}{t u z:Tok}(h:f a=some (BC lo hi t u z))(h1:lo.natAbs<d4)(h2:hi.natAbs<d4)(hn:hi-lo<=(aA:Nat)):aV c f (.ref a) (.d8 lo hi):=show vK f lo hi _ from(BU a t u z rfl h h1 h2 hn)
theorem aV.inst{k:Nat}{es:List pQ}(h:f a=some (l9 k dx))(hd:f dx=some (rV es n))(he:jW c lv es)(r:bI c f lv lf):aV c f (.ref a) (.inst k lf):=show wk c f k (λvs=>bI c f vs lf) _ from(ac9 a dx n es lv rfl h hd he r)
theorem aR.nil:aR c f [] []:=Eq.refl (a:=([]:List ac))
theorem aR.cons(a:aV c f v p)(r:aR c f vs l):aR c f (v::vs) (p::l):=show lQ (λv=>aV c f v p) (λvs=>aR c f vs l) _ from(xX v vs rfl a r)
theorem bI.nil:bI c f [] []:=Eq.refl (a:=([]:List (Str×ac)))
theorem bI.cons(a:aV c f v p)(r:bI c f lv lf):bI c f ((x,v)::lv) ((x,p)::lf):=show lQ (λu=>u.1=x/\aV c f u.2 p) (λvs=>bI c f vs lf) _ from(xX _ lv rfl ⟨rfl,a⟩ r)
@[elab_as_elim] theorem qT(r:aV c f v .none)(K:m .none):m v:=mF (af m r) K
@[elab_as_elim] theorem mf{b:Bool}(r:aV c f v (.bool b))(K:m (.bool b)):m v:=mF (af m r) K
@[elab_as_elim] theorem bU{i:Int}(r:aV c f v (.int i))(K:∀t,m (.int i t)):m v:=let⟨t,e⟩:=r;mF (af m e) (K t)
@[elab_as_elim] theorem jj{x:Str}(r:aV c f v (.str x))(K:∀t,m (.str x t)):m v:=let⟨t,e⟩:=r;mF (af m e) (K t)
@[elab_as_elim] theorem dX(r:aV c f v (.list l))(K:∀{a n vs},f a=some (bu vs n)->aR c f vs l->l.length<=aA->m (.ref a)):m v:=nX.on (o:=bu) (q:=λvs=>aR c f vs l) r K
@[elab_as_elim] theorem iT(r:aV c f v (.tup l))(K:∀{a n vs},f a=some (fW vs n)->aR c f vs l->l.length<=aA->m (.ref a)):m v:=nX.on (o:=fW) (q:=λvs=>aR c f vs l) r K
@[elab_as_elim] theorem lu{l:List Nat}(r:aV c f v (.set l))(K:∀{a es n t},f a=some (dM es n t)->bS es.toList l->eV c.w.params l t->m (.ref a)):m v:=vJ.on r K
@[elab_as_elim] theorem sV{k:Nat}(r:aV c f v (.inst k lf))(K:∀{a dx n es vs},f a=some (l9 k dx)->f dx=some (rV es n)->jW c vs es->bI c f vs lf->m (.ref a)):m v:=wk.on (q:=λvs=>bI c f vs lf) r K
@[elab_as_elim] theorem qA{lo hi:Int}(r:aV c f v (.d8 lo hi))(K:∀{a t u z},f a=some (BC lo hi t u z)->lo.natAbs<d4->hi.natAbs<d4->hi-lo<=(aA:Nat)->m (.ref a)):m v:=vK.on r K
@[elab_as_elim] theorem i0{m:List ac->Prop}(r:aR c f vs [])(K:m []):m vs:=mF (af m r) K
@[elab_as_elim] theorem eC{m:List ac->Prop}(r:aR c f vs (p::l))(K:∀{v us},aV c f v p->aR c f us l->m (v::us)):m vs:=lQ.on (r:=λv=>aV c f v p) (q:=λvs=>aR c f vs l) r K
@[elab_as_elim] theorem tc{m:List (Str×ac)->Prop}(r:bI c f lv [])(K:m []):m lv:=mF (af m r) K
@[elab_as_elim] theorem oZ{m:List (Str×ac)->Prop}(r:bI c f lv ((x,p)::lf))(K:∀{v us},aV c f v p->bI c f us lf->m ((x,v)::us)):m lv:=lQ.on (r:=λu:Str×ac=>u.1=x/\aV c f u.2 p) (q:=λvs=>bI c f vs lf) r λ{u us} a b=>by obtain⟨_,_⟩:=u;obtain⟨rfl,a⟩:=a;exact K a b
abbrev Sub(f f':Fz):Prop:=∀a o,f a=some o->f' a=some o
theorem aV.mono(hs:Sub f f')(r:aV c f v p):aV c f' v p:=
 PV.rec (motive_1:=λp=> ∀v,aV c f v p->aV c f' v p) (motive_2:=λl=> ∀v,aR c f v l->aR c f' v l) (motive_3:=λl=> ∀v,bI c f v l->bI c f' v l) (motive_4:=λq=> ∀v,aV c f v q.2->aV c f' v q.2)
  (λ_ r=>r) (λ_ _ r=>r) (λ_ _ r=>r) (λ_ _ r=>r) (λ_ ih _ r=>iT r λh r z=>.tup (hs _ _ h) (ih _ r) z) (λ_ ih _ r=>dX r λh r z=>.list (hs _ _ h) (ih _ r) z)
  (λ_ _ r=>lu r λh=>.set (hs _ _ h)) (λ_ _ _ r=>qA r λh=>.d8 (hs _ _ h)) (λ_ _ ih _ r=>sV r λh g e r=>.inst (hs _ _ h) (hs _ _ g) e (ih _ r)) (λ_ r=>r)
  (λ_ r=>r) (λ_ _ a b _ r=>eC r λu us=>.cons (a _ u) (b _ us)) (λ_ r=>r) (λ_ _ a b _ r=>oZ r λu us=>.cons (a _ u) (b _ us)) (λ_ _ a=>a) p v r
theorem aR.mono(hs:Sub f f')(r:aR c f vs l):aR c f' vs l:=by
 induction l generalizing vs with
 |nil=>exact r|cons p l ih=>exact eC r λa r=>.cons (a.mono hs) (ih r)
theorem bI.mono(hs:Sub f f')(r:bI c f lv lf):bI c f' lv lf:=by
 induction lf generalizing lv with
 |nil=>exact r|cons p l ih=>exact oZ r λa r=>.cons (a.mono hs) (ih r)
theorem aR.length{vs:List ac}{l:List PV}(r:aR c f vs l):vs.length=l.length:=by
 induction l generalizing vs with
 |nil=>exact i0 r rfl|cons p l ih=>exact eC r λ_ r=>af jq (ih r)
theorem aR.get{l:List PV}:∀{vs:List ac},aR c f vs l->∀{i:Nat} {p},l[i]?=some p->∃v,vs[i]?=some v/\aV c f v p:=by
 induction l with
 |nil=>exact λ_ _ _ h=>nS h
 |cons q l ih=>exact λr i p h=>eC r λ{v _} a r=>match i,h with
   |0,h=>(az v rfl (ay h▸a))|_+1,h=>ih r h
theorem aR.append{l m:List PV}{us:List ac}(b:aR c f us m):∀{vs:List ac},aR c f vs l->aR c f (vs++us) (l++m):=by
 induction l with
 |nil=>exact λr=>i0 r b|cons q l ih=>exact λr=>eC r λa r=>.cons a (ih r)
theorem aR.at{vs:List ac}{l:List PV}(r:aR c f vs l){j:Nat}(hj:j<vs.length):∃p,l[j]?=some p/\aV c f vs[j] p:=
 let h:j<l.length:=r.length▸hj
 let⟨v,h1,h2⟩:=r.get (jM h)
 (az _ (jM h) (ay (h1.symm.trans (jM hj))▸h2))
theorem aV.scalar{v p}(r:aV c f v p)(h:p.isScalar=true):aV c f' v p:=by
 induction p using dg with
 |none=>exact qT r .none|bool b=>exact mf r .bool|int i=>exact bU r λ_=>.int|str s=>exact jj r λ_=>.str|_=>exact absurd h dy
end
structure e7(s s':ag):Prop where
 keep:∀b o,s.heap.get? b=some o->¬dB b->s'.heap.get? b=some o
 gens:∀(i:Nat) (x:jp),s.gens[i]?=some x->s'.gens[i]?=some x
 bare:∀(i:Nat) (x:jp),s.gens.size<=i->s'.gens[i]?=some x->x.bare=true
 os:s'.os=s.os
section
variable{s':ag}
theorem t4{s:Array jp}{i:Nat}{x:jp}{P:Prop}(l:s.size<=i)(e:s[i]?=some x):P:=nS ((Ki l).symm.trans e)
theorem e7.dm(x:e7 s s'):s.gens.size<=s'.gens.size:=cZ λq=>t4 (bf _) (x.gens _ _ (tn q))
theorem e7.refl(s:ag):e7 s s:=⟨λ_ _ h _=>h,λ_ _ h=>h,λ_ _=>t4,rfl⟩
theorem e7.Qi(x:e7 s s'){g:Nat}(h:∀(i:Nat) (x:jp),g<=i->s.gens[i]?=some x->x.bare=true)(i:Nat)(z:jp)(l:g<=i)(e:s'.gens[i]?=some z):z.bare=true:=by
 by_cases q:s.gens.size<=i
 ·exact x.bare i z q e
 ·have h1:=tn (om q);exact h i z l (h1.trans (af some (ay ((x.gens _ _ h1).symm.trans e))))
theorem e7.trans(x:e7 s s')(y:e7 s' i8):e7 s i8:=
 ⟨λb o h t=>y.keep b o (x.keep b o h t) t,λi z h=>y.gens i z (x.gens i z h),y.Qi x.bare,y.os.trans x.os⟩
theorem e7.Mg{h':am}{t:Nat}(k:∀b o,s.heap.get? b=some o->¬dB b->h'.get? b=some o):e7 s {s with heap:=h',toks:=t}:=
 ⟨k,λ_ _ h=>h,λ_ _=>t4,rfl⟩
theorem e7.back(x:e7 s s'){b:ao}(t:¬dB b)(h:s'.heap.get? b=none):s.heap.get? b=none:=by
 cases e:s.heap.get? b with
 |none=>rfl|some o=>exact nS (h.symm.trans (x.keep b o e t))
end
theorem eQ(h:am):h.get? h.objs.size=none:=by
 cases e:h.get? h.objs.size with
 |none=>rfl|some o=>exact absurd (fB e) (cV _)
structure Pt(c:Cx) where
 s:ag
 f:Fz
 keep:∀b o,c.h₀.get? b=some o->s.heap.get? b=some o
 tab:iD s.heap
 K:∀a o,(KL c.w.params).lookup a=some o->f a=some o
 nt:∀a o,f a=some o->¬dB a
 hs:∀a o,f a=some o->s.heap.get? a=some o
section
variable{c:Cx}{x y z:Pt c}{b:ao}{o:Obj}{t:Nat}{s':ag}
structure Le(x y:Pt c):Prop where
 e:e7 x.s y.s
 sub:Sub x.f y.f
 new:∀a o,y.f a=some o->x.f a=some o\/x.s.heap.get? a=none
theorem Le.refl(x:Pt c):Le x x:=⟨.refl _,λ_ _ e=>e,λ_ _=>.inl⟩
theorem Le.trans(l:Le x y)(m:Le y z):Le x z:=⟨l.e.trans m.e,λa o e=>m.sub a o (l.sub a o e),λa o e=>(m.new a o e).elim (l.new a o) λn=>.inr (l.e.back (z.nt a o e) n)⟩
theorem Pt.cU(x:Pt c):(KL c.w.params).In x.s.heap:=c.K.keeps x.keep
theorem Pt.big(x:Pt c):718<x.s.heap.objs.size:=dJ (tG.mp (⋯:((KL c.w.params).lookup 718).isSome=true)) λo e=>fB (x.cU 718 _ e)
theorem Ou(q:dB a):a<=718:=by rcases q with rfl|rfl|rfl<;>decide
theorem Pt.ke(x:Pt c)(h:x.s.heap.objs.size<=a):¬dB a:=λq=>cV _ (ba x.big (aq h (Ou q)))
theorem Pt.nolimit(x:Pt c):x.s.heap.NoLimit:=c.nolimit.keeps x.keep
theorem Pt.Eh(x:Pt c)(e:x.s.heap.get? a=none):x.f a=none:=by
 cases q:x.f a with
 |none=>rfl|some o=>exact nS (e.symm.trans (x.hs _ _ q))
theorem Pt.h0(c:Cx){P:Prop}(q:dB a)(e:c.h₀.get? a=some o):P:=nS ((c.jf a q).symm.trans e)
noncomputable def Pt.to(x:Pt c)(s':ag)(e:e7 x.s s')(t:iD s'.heap):Pt c where
 s:=s'
 f:=x.f
 keep b o h:=e.keep b o (x.keep b o h) λq=>Pt.h0 c q h
 tab:=t
 K:=x.K
 nt:=x.nt
 hs a o h:=e.keep a o (x.hs a o h) (x.nt a o h)
theorem Le.to(e:e7 x.s s')(t:iD s'.heap):Le x (x.to s' e t):=⟨e,λ_ _ e=>e,λ_ _=>.inl⟩
noncomputable def Pt.grow(x:Pt c)(h':am)(t:Nat)(k:∀b o,x.s.heap.get? b=some o->h'.get? b=some o):Pt c:=x.to {x.s with heap:=h',toks:=t} (.Mg λb o e _=>k b o e) (x.tab.keeps k)
theorem Pt.cG{h':am}{t:Nat}(x:Pt c)(k:∀b o,x.s.heap.get? b=some o->h'.get? b=some o):Le x (x.grow h' t k):=.to _ _
noncomputable def Pt.tok(x:Pt c)(t:Nat):Pt c:=x.grow x.s.heap t λ_ _ e=>e
noncomputable def Pt.push(x:Pt c)(o:Obj)(t:Nat):Pt c:=x.grow (x.s.heap.push o) t λ_ _=>c5 _
def Pt.add(x:Pt c)(a:ao)(o:Obj)(e:x.s.heap.get? a=some o)(n:¬dB a):Pt c where
 s:=x.s
 f:=E4 x.f a o
 keep:=x.keep
 tab:=x.tab
 K b p h:=Se (λq k=>ay ((x.hs _ _ k).symm.trans e)) (x.K b p h)
 nt b p h:=EH h (λq _=>q▸n) (x.nt b p)
 hs b p h:=EH h (λq r=>q▸r▸e) (x.hs b p)
theorem Pt.Aa{e:x.s.heap.get? a=some o}{n:¬dB a}:Sub x.f (x.add a o e n).f:=λ_ _=>Se λq k=>ay ((x.hs _ _ k).symm.trans e)
theorem Le.add(l:Le x y)(e:y.s.heap.get? a=some o)(n:¬dB a)(h:x.s.heap.get? a=none):Le x (y.add a o e n):=
 ⟨l.e,λb p q=>Pt.Aa b p (l.sub b p q),λb p q=>EH q (λq _=>.inr (q▸h)) (l.new b p)⟩
structure jE(d:Nat)(A:bh):Prop where
 handled:A.handled=none
 depth:A.depth+4*d<SI
 units:A.units+40*d+40<tq
structure Am(d:Nat) where
 A:bh
 ok:jE d A
section
variable{e:Nat}
noncomputable def Am.mono(A:Am d)(h:e<=d):Am e:=⟨A.A,A.ok.handled,aQ (i3 (Kj _ h) _) A.ok.depth,aQ (mG (i3 (Kj _ h) _) _) A.ok.units⟩
theorem Am.room(A:Am d){n:Nat}(h:n<=40):A.A.units+n<tq:=aQ (B8 (cW _ _) h) A.ok.units
theorem jE.to{A B:bh}(x:jE (d+1) A)(h:B.handled=none)(h1:B.depth<=A.depth+4)(h2:B.units<=A.units+40):jE d B:=
 ⟨h,aQ (mG h1 _) (aQ (aD ((pS A.depth 4 (4*d)).trans (fC ..))) x.depth),
  aQ (mG (mG h2 _) _) (aQ (aD (af (· +40) ((pS A.units 40 (40*d)).trans (fC ..)))) x.units)⟩
theorem pC{n k m:Nat}(h:k<=m):n+k<=n+m:=i3 h n
noncomputable def Am.deeper(A:Am (d+1))(env:Env):Am d:=⟨A.A.deeper env,A.ok.to A.ok.handled (pC (by decide)) (pC (by decide))⟩
noncomputable def Am.in1(A:Am (d+1)):Am d:=⟨A.A.in1,A.ok.to A.ok.handled (cW _ _) (pC (by decide))⟩
end
end
abbrev No:ac->ag->Prop:=λ_ _=>False
@[reducible] def Rd{c:Cx}(p:PV)(x:Pt c)(v:ac):Prop:=aV c x.f v p
@[reducible] def bt{c:Cx}(l:List PV)(x:Pt c)(vs:List ac):Prop:=aR c x.f vs l
@[reducible] def Is{c:Cx}(b:Bool)(_:Pt c)(v:Bool):Prop:=v=b
def aE{c:Cx}{d:Nat}{α:Type}(A:Am d)(t:Sem α)(x:Pt c)(P:Pt c->α->Prop):Prop:=∀(Q:α->ag->Prop) (E:ac->ag->Prop),(∀v y,Le x y->P y v->Q v y.s)->ai (ah pw c.w) A.A t Q E x.s
section
variable{c:Cx}{x y z:Pt c}{A:Am d}{α β:Type}{t:Sem α}{P:Pt c->α->Prop}{R:Pt c->β->Prop}{Q:α->ag->Prop}{E:ac->ag->Prop}{v:α}{o:Obj}{p:PV}{l:List PV}
theorem aE.bind{k:α->Sem β}(g:aE A t x P)(K:∀v y,Le x y->P y v->aE A (k v) y R):aE A (t>>=k) x R:=λQ E q=>ae (g _ _ λv y l p=>K v y l p Q E λu z m r=>q u z (l.trans m) r)
theorem aE.pure(p:P x v):aE A (pure v) x P:=λQ E k=>au (k v x (.refl x) p)
theorem aE.from(g:aE A t y P)(l:Le x y)(k:∀v y,Le x y->P y v->Q v y.s):ai (ah pw c.w) A.A t Q E y.s:=g Q E λv z m p=>k v z (l.trans m) p
noncomputable def Pt.new(x:Pt c)(o:Obj)(t:Nat)(hf:o.isFreed=false):Pt c:=(x.push o t).add x.s.heap.objs.size o (ft _ hf) (x.ke (bf _))
theorem Le.fresh{t:Nat}{hf:o.isFreed=false}:Le x (x.new o t hf):=Le.add (x.cG _) _ _ (eQ _)
theorem Dg{t n:Nat}{hf:(bu us n).isFreed=false}(r:bt l x us)(z:l.length<=aA):Rd (.list l) (x.new (bu us n) t hf) (.ref x.s.heap.objs.size):=.list pJ (r.mono Le.fresh.sub) z
theorem M8{t n:Nat}{hf:(fW us n).isFreed=false}(r:bt l x us)(z:l.length<=aA):Rd (.tup l) (x.new (fW us n) t hf) (.ref x.s.heap.objs.size):=.tup pJ (r.mono Le.fresh.sub) z
section
variable{Q:ac->ag->Prop}(K:∀v y,Le x y->Rd p y v->Q v y.s)
include K
theorem k_here(r:Rd p x u):Q u x.s:=K u x (.refl x) r
theorem jG{t:Nat}(r:Rd p x u):Q u {x.s with toks:=t}:=K u (x.tok t) (x.cG _) r
theorem sY{t:Nat}(hf:o.isFreed=false)(r:Rd p (x.new o t hf) u):Q u {x.s with heap:=x.s.heap.push o,toks:=t}:=K u (x.new o t hf) .fresh r
end
end
section
variable{c:Cx}{x y:Pt c}{A:Am d}{f:Fz}{v:ac}{i j:Int}{l m:List PV}{vs:List ac}{n:Nat}{p q:PV}{b:Bool}
theorem pL{Q:ac->ag->Prop}(K:∀v y,Le x y->Rd (.int i) y v->Q v y.s):(Made.int i).post Q x.s:=jG K .int
theorem xx{B:Nat}(h:i.natAbs<B): -(B:Int)<i/\i<B:=⟨Int.neg_lt_of_neg_lt (mH Int.le_natAbs (u9.mpr (Int.natAbs_neg i▸h))),mH Int.le_natAbs (u9.mpr h)⟩
theorem N1(h:i.natAbs<d4):B9 i<=64:=intBits_le_64 (mH (by decide) (xx h).1) (yK (xx h).2 (by decide))
theorem Rx{n:Nat}(h:n<d4):n.log2<60:=by
 by_cases z:n=0
 ·erw[z];decide
 ·exact(Nat.log2_lt z).mpr h
theorem q_(h:j.natAbs<d4):¬agd i j=true:=by
 unfold agd;have:decide (j.natAbs.log2/30+1>300)=false:=dF (gK (Nat.succ_le_of_lt (aQ (Kk _ _) (eN (Rx h) (by decide)))));dsimp only;split
 ·exact dy
 ·erw[this];exact dy
theorem lC(h:x.f a=some (bu vs n)):x.s.heap.IsList a vs.toArray:=⟨_,x.hs _ _ h,rfl,_,rfl⟩
theorem Ai(h:x.f a=some (fW vs n)):x.s.heap.IsTuple a vs.toArray:=⟨_,x.hs _ _ h,rfl,_,rfl⟩
theorem sH(h:n<=aA):n<=qW:=aq h (by decide)
theorem l8{k:Nat}(r:aR c f vs l)(z:l.length+k<=aA){r':aR c f us m}(e:m.length=k):vs.toArray.size+us.toArray.size<=qW:=by
 erw[i4];erw[i4];erw[r.length];erw[r'.length];erw[e];exact sH z
theorem Sx:vs.toArray++us.toArray=(vs++us).toArray:=by simp
theorem add_list(rv:Rd (.list l) x v)(ru:Rd (.list m) x u)(hz:l.length+m.length<=aA):aE A (mI .Add v u) x (Rd (.list (l++m))):=
 dX rv λh1 r1 _=>dX ru λh2 r2 _=>λQ E K=>P.add_list (x.hs _ _ h1) (x.hs _ _ h2) (Sx.symm▸sY K rfl (Dg (aR.append r2 r1) (by erw[da];exact hz))) (l8 r1 (r':=r2) hz rfl)
theorem Qs{x:Str}(h:(x.length==0)=true):x=Str.empty:=by
 obtain⟨c⟩:=x;erw[Array.eq_empty_of_size_eq_zero (xs:=c) (a5 h)];rfl
theorem add_str{y z:Str}(rv:Rd (.str y) x v)(ru:Rd (.str z) x u)(hz:y.length+z.length<=aA):aE A (mI .Add v u) x (Rd (.str (y++z))):=
 jj rv λt=>jj ru λt'=>λQ E K=>P.add_str (by
  split
  ·rename_i e;exact k_here K (by erw[Qs e];rw[Str.empty_append];exact .str)
  ·split
   ·rename_i e;exact k_here K (by erw[Qs e];rw[Str.append_empty];exact .str)
   ·exact⟨aq (aD (Str.length_append y z)) (sH hz),jG K .str⟩)
theorem HT(h:vs≠[]):¬vs.toArray.isEmpty=true:=by induction vs using bO with
 |nil=>exact absurd rfl h|cons=>exact dy
theorem h_(rv:Rd (.tup l) x v)(ru:Rd (.tup m) x u)(hz:l.length+m.length<=aA):aE A (mI .Add v u) x (Rd (.tup (l++m))):=by
 refine iT rv λ{a n vs} h1 r1 z1=>iT ru λ{b n' ws} h2 r2 z2=>λQ E K=>?_;have g1:=x.hs _ _ h1;have g2:=x.hs _ _ h2;by_cases e1:vs=[]
 ·subst e1;have e:l=[]:=zn.mp r1.length.symm;subst e;exact concat_meets (az _ g1 rfl) (az _ g2 rfl) noFill_tuple_add seq_tuple_add F.slot_tuple_add F.entry_tuple_add (F.args_tuple_add_2 _ _) (PyProof.Rows.tuple_addW0 _ _ [].toArray ws.toArray _ _ none none #[] #[] rfl) (ei g1 g2 (k_here K (.tup h2 r2 z2)))
 ·by_cases e2:ws=[]
  ·subst e2;have e:m=[]:=zn.mp r2.length.symm;subst e;exact concat_meets (az _ g1 rfl) (az _ g2 rfl) noFill_tuple_add seq_tuple_add F.slot_tuple_add F.entry_tuple_add (F.args_tuple_add_2 _ _) (PyProof.Rows.tuple_addW1 _ _ vs.toArray [].toArray _ _ none none #[] #[] (HT e1) rfl) (ei g1 g2 (k_here K ((gO l).symm▸ .tup h1 r1 z1)))
  ·exact P.add_tuple g1 g2 (HT e1) (HT e2) (Sx.symm▸sY K rfl (M8 (aR.append r2 r1) (by erw[da];exact hz))) (l8 r1 (r':=r2) hz rfl)
theorem aR.rep(r:aR c f vs l)(k:Nat):aR c f (kt k vs).flatten (kt k l).flatten:=by
 induction k with
 |zero=>exact .nil|succ k ih=>exact aR.append ih r
theorem ae6(k:Nat):(kt k l).flatten.length=k*l.length:=by
 induction k with
 |zero=>exact(Ca _).symm|succ k ih=>rw[List.replicate_succ,List.flatten_cons,da,ih,Nat.succ_mul,gj]
theorem VY(k:Nat):List.foldl (λx1 x2=>x1++x2) #[] (kt (if vs.toArray.isEmpty=true then 0 else k) vs.toArray)=(kt k vs).flatten.toArray:=by
 induction vs using bO with
 |nil=>simp
 |cons v r=>
  erw[iN (by simp)];rw[listMul_foldl];simp
theorem M3{Q E:ac->ag->Prop}(rv:Rd (.list l) x v)(ru:Rd (.int j) x u)(h1:0<=j)(h2:j<=100)(hz:l.length<=100)(k:∀{vs},bt (kt j.toNat l).flatten x vs->(kt j.toNat l).flatten.length<=aA->Q (.ref x.s.heap.objs.size) {x.s with heap:=x.s.heap.push (bu vs 0)}):ai (ah pw c.w) A.A (mI .Mult v u) Q E x.s:=by
 refine dX rv λ{a n vs} e r1 z1=>bU ru λt=>?_;have e1:=x.hs _ _ e;have hm:vs.toArray.size*j.toNat<=100*100:=Cb (by erw[i4];erw[r1.length];exact hz) (Lo.mpr h2);refine wpAny_binaryOp_repeat_ref (T:="list") (U:="int") (by decide) ⟨_,e1,rfl⟩ (λs'=>typeIs_int s' j t) noFill_list_mul F.fills_int_mul F.slot_int_rmul repeat_list F.slot_int_index.lookup
  (Fv F.slot_int_rmul (typeIs_int x.s j t) F.entry_int_rmul (F.args_int_rmul_2 _ _) (int___rmul___int_list j t a vs.toArray n)
   (zE e1 rfl ⟨_,e1,rfl⟩ (Fv F.slot_list_mul ⟨_,e1,rfl⟩ F.entry_list_mul (F.args_list_mul_2 _ _)
    (AutoListH.list___mul___list_int_3 a vs.toArray n j t (by simp[Builtin.List.listFitsIndex];lia) (by lia) (by simp[Builtin.List.listTooLong,qW] at hm⊢;lia))
    ⟨e1,?_⟩)))
 exact(VY _).symm▸k (r1.rep _) (by rw[ae6];exact aq (Cb (Lo.mpr h2:j.toNat<=100) hz) (by decide))
theorem Z9(rv:Rd (.list l) x v)(ru:Rd (.int j) x u)(h1:0<=j)(h2:j<=100)(hz:l.length<=100):aE A (mI .Mult v u) x (Rd (.list (kt j.toNat l).flatten)):=λQ E K=>M3 rv ru h1 h2 hz λr z=>sY K rfl (Dg r z)
theorem aec(h0:0<=j)(h1:j<8):¬age (((B9 2:Nat):Int)*j)=true:=by
 erw[(show(B9 2:Nat)=2 by decide+kernel)];unfold age bitsLine;erw[decide_eq_true_eq];lia
theorem acv(i:Int):i.natAbs<2^B9 i:=by
 unfold B9;split
 ·rename_i q;erw[a5 q];decide
 ·exact Nat.lt_log2_self
theorem Ϛ(rv:Rd (.int i) x v)(ru:Rd (.int j) x u)(c0:0<=i)(c1:0<=j):aE A (mI .RShift v u) x (Rd (.int (i.fdiv (2^j.toNat)))):=by
 refine bU rv λt=>bU ru λt'=>λQ E K=>?_;by_cases z:j>=((B9 i:Nat):Int)
 ·have h:i.natAbs<2^j.toNat:=ba (acv i) (SJ (by decide) (Int.le_toNat c1|>.mpr z));have:i.fdiv (2^j.toNat)=0:=aa (Fw _ (mJ (Int.pow_pos (by decide)))) (Int.ediv_eq_zero_of_lt c0 (by have:=ji h;rw[Kl c0] at this;simpa using this));exact AutoIntOps.rshift_1 (ir c1) z ((iN (ir c0)).symm▸this.symm▸pL (this▸K))
 ·exact AutoIntOps.rshift_2 (ir c1) z (pL K)
theorem abT(c0:0<=i):Builtin.bitAnd i 1=i.fmod 2:=by
 unfold Builtin.bitAnd;refine aa (dT c0) (aa (dT (by decide:(0:Int)<=1)) ?_);dsimp only;rw[show(1:Int).toNat=1 from rfl,Nat.and_one_is_mod,Km _ (by decide)];exact(Int.natCast_emod ..).trans (af (· %(2:Int)) (SK c0))
theorem aa1{op:ia}(h:fw op i j=some p)(rv:Rd (.int i) x v)(ru:Rd (.int j) x u):aE A (mI op v u) x (Rd p):=by
 cases op with
 |RShift=>exact aL h λc h=>oI h (Ϛ rv ru c.1 c.2.1)|Add=>exact oI h (bU rv λt=>bU ru λt'=>λQ E K=>AutoIntOps.add_0 (pL K))|Sub=>exact oI h (bU rv λt=>bU ru λt'=>λQ E K=>AutoIntOps.sub_0 (pL K))|Mult=>exact aL h λc h=>oI h (bU rv λt=>bU ru λt'=>λQ E K=>AutoIntOps.mul_0 (pL K) (c.elim (λc=>IntMulOk.of_right (N1 c)) λc=>IntMulOk.of_left (N1 c)))|Mod=>exact aL h λc h=>oI h (bU rv λt=>bU ru λt'=>λQ E K=>AutoIntOps.mod_1 (λe=>c (a5 e)) (pL K))|BitAnd=>exact aL h λc h=>oI h (bU rv λt=>bU ru λt'=>λQ E K=>and_int (by erw[c.2];erw[abT c.1];exact jG K .int))|FloorDiv=>exact aL h λc h=>oI h (bU rv λt=>bU ru λt'=>λQ E K=>AutoIntOps.floordiv_1 (λe=>c.1 (a5 e)) (q_ c.2) (pL K))
 |Pow=>
  refine aL h λc h=>oI h (bU rv λt=>bU ru λt'=>λQ E K=>?_);obtain⟨rfl,c1,c2⟩:=c;by_cases q:j=0
  ·subst q;exact AutoIntOps.pow_0 (by decide) (by decide) (pL K)
  ·exact AutoIntOps.pow_4 c1 (λe=>q (a5 e)) (by decide) (by decide) (aec c1 c2) (pL K)
 |_=>exact nS h
@[elab_as_elim] theorem G4{m:PV->PV->Bool->Prop}(h:du (n+1) p q=some b)(kI:∀i j,m (.int i) (.int j) (i==j))(kS:∀i j,m (.str i) (.str j) (i==j))(kB:∀i j,m (.bool i) (.bool j) (i==j))
(kL:∀{l l' b},l.length=l'.length->du.p5 (du n) l l'=some b->m (.list l) (.list l') b)(kN:∀{l l'},l.length≠l'.length->m (.list l) (.list l') false):m p q b:=by
 induction p using dg with
 |int i=>exact fM h λj e r=>r▸ej e (kI i j)|str i=>exact fM h λj e r=>r▸BD e (kS i j)|bool i=>exact fM h λj e r=>r▸Ev e (kB i j)
 |list l=>exact aj h λk e h=>pB e (by
   by_cases c:l.length=k.length
   ·exact kL c ((iP c).symm.trans h)
   ·exact oI ((iN c).symm.trans h) (kN c))
 |_=>exact nS h
@[elab_as_elim] theorem R2{y z:PV}{M:Bool->Prop}(h:du.p5 (du n) (y::l) (z::m)=some b)(K:∀r q,du n y z=some r->du.p5 (du n) l m=some q->M (r&&q)):M b:=aj h λr e h=>fF h λq e'=>K r q e e'
theorem Qw(h:f a=some (bu vs n))(r:aV c f (.ref a) (.list l)):aR c f vs l:=by
 revert h;exact dX (m:=λv=> ∀a,v=.ref a->f a=some (bu vs n)->aR c f vs l) r (λg r _ b e h=>by
  injection e with e;subst e
  have e:=g.symm.trans h;injection e with e;injection e with _ _ e;injection e with e;injection e with e;exact e▸r) a rfl
theorem X5{t:Tok}(r:aV c f (.int i t) (.int j)):i=j:=by refine dJ r λ_ e=>?_;injection e
theorem Vg{i j:Str}{t:Tok}(r:aV c f (.str i t) (.str j)):i=j:=by refine dJ r λ_ e=>?_;injection e
theorem WE{i j:Bool}(r:aV c f (.bool i) (.bool j)):i=j:=Kc.inj r
theorem Rv{m:List PV->Prop}(r:aR c f (v::vs) l)(K:∀{p l},aV c f v p->aR c f vs l->m (p::l)):m l:=by
 induction l using bO with
 |nil=>injection(r:v::vs=[])|cons p l=>refine s8 ((show lQ (λv=>aV c f v p) (λvs=>aR c f vs l) _ from r)) λ_ _ e a r=>?_;injection e with e1 e2;subst e1 e2;exact K a r
theorem WA(ih:∀{v:ac} {p q:PV} {b:Bool},du n p q=some b->aV c f v p->aV c f v q->b=true):∀{l m:List PV} {vs:List ac} {b:Bool},aR c f vs l->aR c f vs m->du.p5 (du n) l m=some b->b=true:=by
 intro l;induction l with
 |nil=>exact λ_ _ h=>(ay h).symm|cons y l il=>exact λ{m vs b} r=>eC r λa r r'=>Rv (m:=λm=>du.p5 (du n) (y::l) m=some b->b=true) r' λa' r' h=>R2 h λc d e1 e2=>by erw[ih e1 a a'];erw[il r r' e2];rfl
theorem acC(n:Nat):∀{v:ac} {p q:PV} {b:Bool},du n p q=some b->aV c f v p->aV c f v q->b=true:=by
 induction n with
 |zero=>exact λh=>nS h
 |succ n ih=>
  exact λ{v p q b} h=>G4 (m:=λp q b=>aV c f v p->aV c f v q->b=true) h
   (λ_ _ rp=>bU rp λ_ rq=>jZ (X5 rq)) (λ_ _ rp=>jj rp λ_ rq=>jZ (Vg rq)) (λ_ _ rp=>mf rp λrq=>jZ (WE rq))
   (λ_ h rp=>dX rp λe r _ rq=>WA ih r (Qw e rq) h) (λc rp=>dX rp λe r _ rq=>absurd (r.length.symm.trans (Qw e rq).length) c)
theorem Zx(n:Nat){l:List PV}:∀{m:List PV} {b:Bool},du.p5 (du n) l m=some b->l.length=m.length->
  ∃e:Nat->Bool,b=(ax l.length).all e/\∀j x y,l[j]?=some x->m[j]?=some y->du n x y=some (e j):=by
 induction l with
 |nil=>exact λh _=>(az (λ_=>true) ((ay h).symm) (λj x y hx=>nS hx))
 |cons x l ih=>
  intro m b h hl;induction m using bO with
  |nil=>injection hl
  |cons y m=>
   exact R2 h λr q e1 e2=>by
    refine aB (ih e2 (wJ hl)) λe he hj=>(az (λj=>j.casesOn r e) (?_) (λj x' y' hx hy=>?_))
    ·erw[wK];erw[yL];erw[Ko];erw[SL];erw[he];rfl
    ·induction j using m8 with
     |zero=>exact ay hx▸ay hy▸e1|succ j=>exact hj j x' y' hx hy
theorem OU{A:bh}{a a':ao}(R:oo A s (.ref a) (.ref a') b)(S:pO a=.ref a'->b=true):gD A s (.ref a) (.ref a') b:=by
 by_cases e:a=a'
 ·have:=S (af _ e);subst e this;exact gD.same _
 ·exact gD.of_refs e R
@[elab_as_elim] theorem Fn{M:ac->ac->Prop}(rp:Rd (.list l) x v)(rq:Rd (.list m) x u)
(K:∀{a a'} {vs us:Array ac},x.s.heap.IsList a vs->x.s.heap.IsList a' us->vs.size=l.length->us.size=m.length->(∀j (h1:j<vs.size) (h2:j<us.size),∃z y,l[j]?=some z/\m[j]?=some y/\Rd z x vs[j]/\Rd y x us[j])->M (.ref a) (.ref a')):M v u:=
 dX rp λh1 r1 _=>dX rq λh2 r2 _=>K (lC h1) (lC h2) r1.length r2.length λ_ q1 q2=>aB (r1.at q1) λz x1 x2=>aB (r2.at q2) λy y1 y2=>(uL z y x1 y1 x2 y2)
theorem PX{a b c d:Nat}(h1:a=c)(h2:b=d)(h:c≠d):(a !=b)=true:=by erw[h1];erw[h2];exact bne_iff_ne.mpr h
theorem Il{A:bh}(hu:A.units<tq)(El:∀{v u:ac} {p q:PV} {b:Bool},du n p q=some b->Rd p x v->Rd q x u->gD A.in1 x.s v u b)(h:du (n+1) p q=some b)(rp:Rd p x v)(rq:Rd q x u):oo A x.s v u b/\uN A x.s v u !b:=
 G4 (m:=λp q b=>Rd p x v->Rd q x u->oo A x.s v u b/\uN A x.s v u !b) h
  (λ_ _ rp=>bU rp λ_ rq=>bU rq λ_=>⟨oo.int_int _ _ _ _,uN.int_int _ _ _ _⟩)
  (λ_ _ rp=>jj rp λ_ rq=>jj rq λ_=>⟨oo.str_str _ _ _ _,uN.str_str _ _ _ _⟩)
  (λ_ _ rp=>mf rp λrq=>mf rq ⟨oo.bool_bool _ _,uN.bool_bool _ _⟩)
  (λhl h rp rq=>Fn (M:=λv u=>oo A x.s v u _/\uN A x.s v u !_) rp rq λ{_ _ vs us} i1 i2 z1 z2 el=>by
   refine aB (Zx n h hl) λk bY hk=>?_;subst bY;have e:=z1.trans (hl.trans z2.symm);have he:∀j (h1:j<vs.size) (h2:j<us.size),gD A.in1 x.s vs[j] us[j] (k j):=λj q1 q2=>EP (el j q1 q2) λz y x1 y1 r1 r2=>El (hk j z y x1 y1) r1 r2;exact z1▸⟨oo.lists i1 i2 e hu he,uN.lists i1 i2 e hu he⟩)
  (λc rp rq=>Fn (M:=λv u=>oo A x.s v u false/\uN A x.s v u true) rp rq λi1 i2 z1 z2 _=>⟨oo.lists_lengths i1 i2 (PX z1 z2 c) hu,uN.lists_lengths i1 i2 (PX z1 z2 c) hu⟩) rp rq
theorem Ik(n:Nat):∀{A:bh},A.units+n<tq->∀{v u:ac} {p q:PV} {b:Bool},du n p q=some b->Rd p x v->Rd q x u->gD A x.s v u b:=by
 induction n with
 |zero=>exact λ_ _ _ _ _ _ h=>nS h
 |succ n ih=>
  intro A hu v u p q b h rp rq;have R:=(Il (A:=A) (aQ (cW _ _) hu) (ih (A:=A.in1) (by show A.units+1+n<_;rw[fC,gj 1];exact hu)) h rp rq).1;have S:=λe:v=u=>acC _ h rp (e▸rq);revert R S;exact G4 (m:=λp q b=>Rd p x v->Rd q x u->oo A x.s v u b->(v=u->b=true)->gD A x.s v u b) h
   (λ_ _ rp=>bU rp λ_ rq=>bU rq λ_ _ _=>gD.int_int _ _ _ _) (λ_ _ rp=>jj rp λ_ rq=>jj rq λ_ _ _=>gD.str_str _ _ _ _) (λ_ _ rp=>mf rp λrq=>mf rq λ_ _=>gD.bool_bool _ _)
   (λ_ _ rp rq=>Fn (M:=λv u=>oo A x.s v u _->(v=u->_=true)->gD A x.s v u _) rp rq λ_ _ _ _ _ R S=>OU R S)
   (λ_ rp rq=>Fn (M:=λv u=>oo A x.s v u false->(v=u->false=true)->gD A x.s v u false) rp rq λ_ _ _ _ _ R S=>OU R S) rp rq
theorem Am.JK(A:Am d){n:Nat}(h:n+1<=40):A.A.in1.units+n<tq:=by show A.A.units+1+n<_;rw[fC,gj 1];exact A.room h
theorem Ϥ(h:du 4 p q=some b)(rp:Rd p x v)(rq:Rd q x u):aE A (jN .Eq v u) x (Rd (.bool b)):=λQ E K=>
 (Il (A.room (n:=0) (by decide)) (Ik 3 (A.JK (by decide))) h rp rq).1 _ _ _ _ (k_here K .bool)
theorem abJ(h:du 4 p q=some b)(rp:Rd p x v)(rq:Rd q x u):aE A (jN .NotEq v u) x (Rd (.bool !b)):=λQ E K=>
 (Il (A.room (n:=0) (by decide)) (Ik 3 (A.JK (by decide))) h rp rq).2 _ _ _ _ (k_here K .bool)
@[elab_as_elim] theorem Vu{M:Bool->Prop}(h:lB n p (q::l)=some b)(K:∀r k,du n q p=some r->lB n p l=some k->M (r||k)):M b:=aj h λr e h=>fF h λk e'=>K r k e e'
structure JD(A:bh)(s:ag)(v:ac)(vs:List ac)(b:Bool):Prop where
 all:∀y∈vs,∃c,gD A s y v c
 yes:b=true->∃y∈vs,gD A s y v true
 no:b=false->∀y∈vs,gD A s y v false
theorem V_{A:bh}{c q:Bool}(hy:gD A s u v c)(I:JD A s v vs q):JD A s v (u::vs) (c||q) where
 all z m:=(bw m).elim (λe=>⟨c,e▸hy⟩) (I.all z)
 yes e:=by
  induction c using jm with
  |true=>exact(az _ (.head _) hy)|false=>exact(I.yes e).elim λz k=>(az z (.tail _ k.1) k.2)
 no e z m:=(bw m).elim (λk=>k▸(rx.mp e).1▸hy) (I.no (rx.mp e).2 z)
theorem afF{A:bh}(rv:Rd p x v)(hu:A.units+n<tq){l:List PV}:∀{vs:List ac} {b:Bool},bt l x vs->lB n p l=some b->JD A x.s v vs b:=by
 induction l with
 |nil=>exact λ{vs b} r h=>i0 r (ay h▸⟨λ_ m=>absurd m eX,λe=>absurd e dy,λ_ _ m=>absurd m eX⟩)|cons y l ih=>exact λ{vs b} r h=>eC r λa r=>Vu h λc q e1 e2=>V_ (Ik n hu e1 a rv) (ih r e2)
open Classical in
theorem Mj{A:bh}(rv:Rd p x v)(hu:A.units+4<tq)(r:bt l x vs)(h:lB 4 p l=some b):∃e:ac->Bool,vs.toArray.any e=b/\∀y∈vs.toArray,gD A x.s y v (e y):=by
 have I:=afF rv hu r h;rw[show(∃e:ac->Bool,vs.toArray.any e=b/\∀y∈vs.toArray,gD A x.s y v (e y))=∃e:ac->Bool,vs.any e=b/\∀y∈vs,gD A x.s y v (e y) by simp only[List.any_toArray,List.mem_toArray]];induction b using jm with
 |false=>exact(az (λ_=>false) (vd.mpr λ_ _=>dy) (I.no rfl))
 |true=>
  refine aB (I.yes rfl) λz m k=>(az (λy=>if gD A x.s y v true then true else false) (Lq.mpr (az z m (iP k))) (λy m=>dJ (I.all y m) λc hc=>?_));by_cases q:gD A x.s y v true
  ·exact(af (gD A x.s y v) (iP q)).mpr q
  ·induction c using jm with
   |true=>exact absurd hc q|false=>exact(af (gD A x.s y v) (iN q)).mpr hc
theorem RC(h:Je p q=some b)(rp:Rd p x v)(rq:Rd q x u):aE A (jN .In v u) x (Rd (.bool b))/\aE A (jN .NotIn v u) x (Rd (.bool !b)):=by
 have hu:A.A.in1.units+4<tq:=A.JK (by decide);induction q using dg with
 |list l=>
  exact dX rq λhl r _=>by
   obtain⟨e,rfl,he⟩:=Mj rp hu r h;exact⟨λQ E K=>in_listAt e (lC hl) he (k_here K .bool),λQ E K=>notIn_listAt e (lC hl) he (k_here K .bool)⟩
 |tup l=>
  exact iT rq λhl r _=>by
   obtain⟨e,rfl,he⟩:=Mj rp hu r h;exact⟨λQ E K=>in_tupleAt e (Ai hl) he (k_here K .bool),λQ E K=>notIn_tupleAt e (Ai hl) he (k_here K .bool)⟩
 |_=>exact nS h
theorem Dw{op:iF}{k:Int->Int->Bool}(h:yz k p q=some b)(rp:Rd p x v)(rq:Rd q x u)(K:∀{i j t t'} {Q E},Q (.bool (k i j)) x.s->ai (ah pw c.w) A.A (jN op (.int i t) (.int j t')) Q E x.s):aE A (jN op v u) x (Rd (.bool b)):=by
 revert rp rq;exact aj h λi e h=>fF h λj e'=>ej e (ej e' λrp rq=>bU rp λ_=>bU rq λ_=>λQ E k=>K (k_here k .bool))
theorem Fa(h:plainIs v u=true)(e:(v==u)=b):aE A (jN .Is v u) x (Rd (.bool b))/\aE A (jN .IsNot v u) x (Rd (.bool !b)):=
 ⟨λQ E K=>wpAny_is_plain h (k_here K (e▸ .bool)),λQ E K=>wpAny_isNot_plain h (k_here K (e▸ .bool))⟩
theorem NZ(h:HE p q=some b)(rp:Rd p x v)(rq:Rd q x u):aE A (jN .Is v u) x (Rd (.bool b))/\aE A (jN .IsNot v u) x (Rd (.bool !b)):=by
 induction p using dg with
 |none=>exact fF h λ_ e=>Bi (m:=λq=>Rd q x u->_) e (λrq=>qT rp (qT rq (Fa rfl rfl))) rq|list l=>exact fF h λ_ e=>Bi (m:=λq=>Rd q x u->_) e (λrq=>dX rp λ_ _ _=>qT rq (Fa rfl rfl)) rq|int i=>exact fF h λ_ e=>Bi (m:=λq=>Rd q x u->_) e (λrq=>bU rp λ_=>qT rq (Fa rfl rfl)) rq|tup l=>exact fF h λ_ e=>Bi (m:=λq=>Rd q x u->_) e (λrq=>iT rp λ_ _ _=>qT rq (Fa rfl rfl)) rq|_=>exact nS h
theorem agb(h:p.truth=some b)(rp:Rd p x v):aE A (yM v) x (Is b):=by
 induction p using dg with
 |none=>exact oI h (qT rp λ_ _ K=>λ_ _ _=>K _ x (.refl x) rfl)|bool c=>exact oI h (mf rp (λ_ _ K=>wL (K _ x (.refl x) rfl)))|int i=>exact oI h (bU rp λ_=>λ_ _ K=>truthy_int (K _ x (.refl x) (by by_cases z:i=0<;>simp[z])))
 |list l=>exact oI h (dX rp λ{_ _ vs} h1 r1 hz=>λ_ _ K=>wpAny_truthy_list (lC h1) (mH (oW (aq (aD r1.length) hz:vs.toArray.size<=aA)) (by decide)) (K _ (x.tok _) (x.cG _) (show(!vs.toArray.isEmpty)= !l.isEmpty by
   induction l using bO with
   |nil=>exact i0 r1 rfl|cons=>exact eC r1 λ_ _=>rfl)))
 |_=>exact nS h
theorem ab2(h:Q6 p=some q)(r:Rd p x v):aE A (unaryOp .USub v) x (Rd q):=fF h λi e=>ej (m:=λp=>Rd p x v->_) e (λr=>bU r λ_=>λQ E K=>neg_int (jG K .int)) r
end
structure ci(W:ao->Prop)(g:Nat)(s s':ag):Prop where
 keep:∀b o,s.heap.get? b=some o->¬dB b->¬W b->s'.heap.get? b=some o
 gens:∀(i:Nat) (x:jp),i<g->s.gens[i]?=some x->s'.gens[i]?=some x
 dm:s.gens.size<=s'.gens.size
 bare:(∀(i:Nat) (x:jp),g<=i->s.gens[i]?=some x->x.bare=true)->∀(i:Nat) (x:jp),g<=i->s'.gens[i]?=some x->x.bare=true
 os:s'.os=s.os
section
variable{s':ag}{W W':ao->Prop}{g g0:Nat}{b:ao}
theorem ci.refl(s:ag):ci W g s s:=⟨λ_ _ h _ _=>h,λ_ _ _ h=>h,bf _,λh=>h,rfl⟩
theorem ci.trans(x:ci W g s s')(y:ci W g s' i8):ci W g s i8:=
 ⟨λb o h t k=>y.keep b o (x.keep b o h t k) t k,λi z q h=>y.gens i z q (x.gens i z q h),aq x.dm y.dm,λh=>y.bare (x.bare h),y.os.trans x.os⟩
theorem ci.weaken(x:ci W g s s')(k:∀b,W b->W' b):ci W' g s s':=⟨λb o h t n=>x.keep b o h t λq=>n (k b q),x.gens,x.dm,x.bare,x.os⟩
theorem e7.ny(x:e7 s s'):ci W g s s':=⟨λb o h t _=>x.keep b o h t,λi z _ h=>x.gens i z h,x.dm,x.Qi,x.os⟩
theorem ci.toe7(x:ci W s.gens.size s s')(k:∀b,W b->s.heap.get? b=none):e7 s s':=
 ⟨λb o h t=>x.keep b o h t λq=>nS ((k b q).symm.trans h),λi z h=>x.gens i z (om λq=>t4 q h) h,x.bare λ_ _=>t4,x.os⟩
theorem ci.shrink(x:ci W' g s s')(h:∀b,W' b->W b\/s.heap.get? b=none):ci W g s s':=
 ⟨λb o e t n=>x.keep b o e t λq=>(h b q).elim n λz=>nS (z.symm.trans e),x.gens,x.dm,x.bare,x.os⟩
theorem ci.lower(x:ci W g s s')(h:g0<=g)(hs:g<=s.gens.size):ci W g0 s s':=
 ⟨x.keep,λi z q e=>x.gens i z (ba q h) e,x.dm,λb i z q e=>by
  by_cases c:g<=i
  ·exact x.bare (λj y q e=>b j y (aq h q) e) i z c e
  ·have h1:=tn (ba (om c) hs);exact b i z q (h1.trans (af some (ay ((x.gens _ _ (om c) h1).symm.trans e)))),x.os⟩
theorem ci.back(x:ci W g s s')(t:¬dB b)(h:s'.heap.get? b=none):s.heap.get? b=none\/W b:=by
 by_cases q:W b
 ·exact .inr q
 ·cases e:s.heap.get? b with
  |none=>exact .inl rfl|some o=>exact nS (h.symm.trans (x.keep b o e t q))
theorem ci.Mf{t:Nat}(x:dD a s.heap h')(k:W a):ci W g s {s with heap:=h',toks:=t}:=
 ⟨λb o e _ n=>(x.2 b λq=>n (q▸k)).trans e,λ_ _ _ h=>h,bf _,λh=>h,rfl⟩
theorem iD.one{h h':am}{a:ao}(x:iD h)(y:dD a h h')(k:719<=a)(n:∀o,h.get? a=some o->¬(o.cls=.type "code"/\∃vs,o.data=.fields vs)):iD h':=
 x.but λb o e c=>(y.2 b λq=>c.elim (λl=>cV _ (ba (q▸l) k)) λc=>n o (q▸e) c).trans e
theorem cK(h:719<=b):¬dB b:=λq=>cV _ (ba h (Ou q))
end
structure bW{c:Cx}(x:Pt c)(b:ao):Prop where
 f:x.f b=none
 h₀:c.h₀.get? b=none
 hi:719<=b
structure Wr{c:Cx}(W:ao->Prop)(g:Nat)(x y:Pt c):Prop where
 f:y.f=x.f
 e:ci W g x.s y.s
section
variable{c:Cx}{x y z:Pt c}{W W':ao->Prop}{g:Nat}{b:ao}{s':ag}{p:PV}{v:ac}
theorem bW.le(n:bW x b)(l:Le x y)(t:∃o,x.s.heap.get? b=some o):bW y b:=by
 refine⟨?_,n.h₀,n.hi⟩;cases e:y.f b with
 |none=>rfl|some o=>exact(l.new b o e).elim (λq=>nS (n.f.symm.trans q)) λq=>t.elim λo' q'=>nS (q.symm.trans q')
theorem Pt.C5(x:Pt c)(h:x.s.heap.get? a=none):c.h₀.get? a=none:=by
 cases e:c.h₀.get? a with
 |none=>rfl|some o=>exact nS (h.symm.trans (x.keep a o e))
theorem Pt.hi(x:Pt c)(h:x.s.heap.objs.size<=a):719<=a:=aq x.big h
theorem Pt.free(x:Pt c)(h:x.s.heap.objs.size<=a)(n:x.s.heap.get? a=none):bW x a:=⟨x.Eh n,x.C5 n,x.hi h⟩
theorem Wr.refl:Wr W g x x:=⟨rfl,.refl _⟩
theorem Wr.trans(a:Wr W g x y)(b:Wr W g y z):Wr W g x z:=⟨b.f.trans a.f,a.e.trans b.e⟩
theorem Wr.rd(w:Wr W g x y)(r:Rd p x v):Rd p y v:=mF (af (λf=>aV c f v p) w.f) r
theorem Wr.sub(w:Wr W g x y):Sub x.f y.f:=λa o e=>(congrFun w.f a).trans e
theorem Wr.free(w:Wr W g x y)(n:bW x b):bW y b:=⟨(congrFun w.f b).trans n.f,n.h₀,n.hi⟩
noncomputable def Pt.wr(x:Pt c)(s':ag)(e:ci W g x.s s')(t:iD s'.heap)(k:∀b,W b->c.h₀.get? b=none/\x.f b=none):Pt c where
 s:=s'
 f:=x.f
 keep b o h:=e.keep b o (x.keep b o h) (λq=>Pt.h0 c q h) λq=>nS ((k b q).1.symm.trans h)
 tab:=t
 K:=x.K
 nt:=x.nt
 hs b o h:=e.keep b o (x.hs b o h) (x.nt b o h) λq=>nS ((k b q).2.symm.trans h)
noncomputable def Pt.but(x:Pt c){t:Nat}(hs:dD a x.s.heap h')(n:bW x a)(k:∀o,x.s.heap.get? a=some o->¬(o.cls=.type "code"/\∃vs,o.data=.fields vs)):Pt c:=
 x.wr (W:=λb=>b=a) (g:=0) {x.s with heap:=h',toks:=t} (.Mf hs rfl) (x.tab.one hs n.hi k) λb q=>q▸⟨n.h₀,n.f⟩
theorem Wr.but{t:Nat}{hs:dD a x.s.heap h'}{n:bW x a}{k:∀o,x.s.heap.get? a=some o->¬(o.cls=.type "code"/\∃vs,o.data=.fields vs)}(w:W a):Wr W g x (x.but (t:=t) hs n k):=⟨rfl,.Mf hs w⟩
end
structure br{c:Cx}(W:ao->Prop)(g:Nat)(x y:Pt c):Prop where
 sub:Sub x.f y.f
 new:∀a o,y.f a=some o->x.f a=some o\/x.s.heap.get? a=none\/W a
 e:ci W g x.s y.s
section
variable{c:Cx}{x y z:Pt c}{W W':ao->Prop}{g g':Nat}{b:ao}{p:PV}{v:ac}
theorem br.refl:br W g x x:=⟨λ_ _ e=>e,λ_ _=>.inl,.refl _⟩
theorem br.trans(l:br W g x y)(m:br W g y z):br W g x z:=⟨λa o e=>m.sub a o (l.sub a o e),λa o e=>(m.new a o e).elim (l.new a o) λq=>.inr (q.elim (λn=>l.e.back (z.nt a o e) n) .inr),l.e.trans m.e⟩
theorem Le.st(l:Le x y):br W g x y:=⟨l.sub,λa o e=>(l.new a o e).imp id .inl,l.e.ny⟩
theorem Wr.st(w:Wr W g x y):br W g x y:=⟨w.sub,λa o e=>.inl ((congrFun w.f a).symm.trans e),w.e⟩
theorem br.weaken(l:br W g x y)(k:∀b,W b->W' b):br W' g x y:=⟨l.sub,λa o e=>(l.new a o e).imp id (.imp id (k a)),l.e.weaken k⟩
theorem br.shrink(l:br W' g x y)(k:∀b,W' b->W b\/x.s.heap.get? b=none):br W g x y:=⟨l.sub,λa o e=>(l.new a o e).imp id λq=>q.elim .inl λq=>(k a q).symm,l.e.shrink k⟩
theorem br.lower(l:br W g x y)(h:g'<=g)(hs:g<=x.s.gens.size):br W g' x y:=⟨l.sub,l.new,l.e.lower h hs⟩
theorem br.le(l:br W x.s.gens.size x y)(k:∀b,W b->x.s.heap.get? b=none):Le x y:=⟨l.e.toe7 k,l.sub,λa o e=>(l.new a o e).imp id λq=>q.elim id (k a)⟩
theorem br.rd(l:br W g x y)(r:Rd p x v):Rd p y v:=r.mono l.sub
abbrev cH(W:ao->Prop)(x y:Pt c):Prop:=br W x.s.gens.size x y
theorem cH.trans(l:cH W x y)(m:cH W y z):cH W x z:=br.trans l (m.lower l.e.dm (bf _))
end
theorem I9{h:am}{a:ao}{m:Str->Option ac}(n:h.Ns a m)(o:Obj)(e:h.get? a=some o):¬(o.cls=.type "code"/\∃vs,o.data=.fields vs):=λk=>by
 obtain⟨_,vs,q⟩:=k;refine jD n λo' es ep e1 e2 _=>?_;rw[<-ay (e.symm.trans e1),q] at e2;injection e2
theorem adf{h:am}{a:ao}{v:Option ac}(n:h.IsCell a v)(o:Obj)(e:h.get? a=some o):¬(o.cls=.type "code"/\∃vs,o.data=.fields vs):=λk=>by
 obtain⟨_,vs,q⟩:=k;refine aB n λo' e1 e2=>?_;rw[<-ay (e.symm.trans e1),q] at e2;injection e2
def dA(env:Env)(h:am)(x:Str)(v:ac):Prop:=
 (env.kindOf x=some .local/\∃m,h.Ns env.locals m/\m x=some v)\/
 ((env.kindOf x=some .cell\/(env.kindOf x=some .free/\(x==("__classdict__":Str))=false))/\∃c,env.cells.lookup x=some c/\h.IsCell c (some v))
structure Fm where
 env:Env
 nm:aN
 kind:env.scope.kind=.function
 glob:env.globals=mE
 blt:env.builtins=uM
 names:∀x,ak nm x=some .globalImplicit->env.kindOf x=some .globalImplicit
 cells:∀x,(ak nm x=some .cell\/ak nm x=some .free)->x≠("__classdict__":Str)->(env.kindOf x=some .cell\/env.kindOf x=some .free)/\(env.cells.lookup x).isSome=true
 jf:¬dB env.locals/\∀x c,env.cells.lookup x=some c->¬dB c
 cl:∀x c,env.cells.lookup x=some c->c≠env.locals
 apart:∀x y c,env.cells.lookup x=some c->env.cells.lookup y=some c->x=y
 code:pH nm=true->vz env.code=true
structure bB{c:Cx}(F:Fm)(x:Pt c)(σ:bj):Prop where
 cR:∀z a,F.env.cells.lookup z=some a->∃v,x.s.heap.IsCell a v
 var:∀z p,ak σ z=some p->∃v,dA F.env x.s.heap z v/\Rd p x v
def dq(env:Env)(b:ao):Prop:=b=env.locals\/∃x,env.cells.lookup x=some b
def tM(F:Fm)(b:ao):Prop:=b=F.env.locals\/∃x,ak F.nm x=some .cell/\F.env.cells.lookup x=some b
structure jK{c:Cx}(F:Fm)(x:Pt c):Prop where
 ns:∃m,x.s.heap.Ns F.env.locals m
 own:bW x F.env.locals
 loc:∀z,ak F.nm z=some .local->F.env.kindOf z=some .local
 kJ:∀z,ak F.nm z=some .cell->F.env.kindOf z=some .cell/\∃a,F.env.cells.lookup z=some a/\bW x a
section
variable{c:Cx}{x y:Pt c}{F:Fm}{env:Env}{h:am}{z q:Str}{v:ac}{σ σ':bj}{m:Str->Option ac}{p:PV}{W:ao->Prop}{g t:Nat}{M:f4}{E Q:ac->ag->Prop}
theorem nW{b:ao}(q:tM F b):dq F.env b:=q.imp id λq=>q.imp λ_ q=>q.2
theorem qF{b:ao}(q:dq F.env b):¬dB b:=q.elim (λe=>e▸F.jf.1) λq=>q.elim λx e=>F.jf.2 x b e
theorem dA.keep(V:dA env h z v)(k:∀b o,dq env b->h.get? b=some o->h'.get? b=some o):dA env h' z v:=by
 refine V.imp (λV=>⟨V.1,?_⟩) λV=>⟨V.1,?_⟩
 ·exact aB V.2 λm n e=>(az m (n.at' λo e=>k _ o (.inl rfl) e) e)
 ·obtain⟨b,n,o,e1,e2⟩:=V.2;exact⟨b,n,o,k b o (.inr ⟨z,n⟩) e1,e2⟩
theorem bB.keep(X:bB F x σ)(k:∀b o,dq F.env b->x.s.heap.get? b=some o->y.s.heap.get? b=some o)(hf:Sub x.f y.f):bB F y σ where
 cR z a e:=by refine eJ (X.cR z a e) λv o e1 e2=>?_;exact(de v o (k a o (.inr ⟨z,e⟩) e1) e2)
 var z p e:=by refine aB (X.var z p e) λv V r=>?_;exact(az v (V.keep k) (r.mono hf))
theorem bB.le(X:bB F x σ)(l:Le x y):bB F y σ:=X.keep (λb o w e=>l.e.keep b o e (qF w)) l.sub
theorem bB.weaken(X:bB F x σ)(k:∀z p,ak σ' z=some p->ak σ z=some p):bB F x σ':=⟨X.cR,λz p e=>X.var z p (k z p e)⟩
theorem jK.keep(Z:∀z a,F.env.cells.lookup z=some a->∃v,x.s.heap.IsCell a v)(X:jK F x)(k:∀b o,dq F.env b->x.s.heap.get? b=some o->y.s.heap.get? b=some o)(kf:∀b,dq F.env b->bW x b->(∃o,x.s.heap.get? b=some o)->bW y b):jK F y where
 ns:=by obtain⟨m,n⟩:=X.ns;exact⟨m,n.at' λo e=>k _ o (.inl rfl) e⟩
 own:=kf _ (.inl rfl) X.own (by refine tU X.ns λm o es ep e _=>?_;exact⟨o,e⟩)
 loc:=X.loc
 kJ z e:=by
  obtain⟨k1,a,b,n⟩:=X.kJ z e;exact eJ (Z z a b) λv o e1 _=>⟨k1,a,b,kf a (.inr ⟨z,b⟩) n ⟨o,e1⟩⟩
theorem jK.le(X:jK F x)(V:bB F x σ)(l:Le x y):jK F y:=X.keep V.cR (λb o w e=>l.e.keep b o e (qF w)) λb _ n t=>n.le l t
theorem Ac(F:Fm)(V:dA F.env x.s.heap z v)(h:Q v x.s):ai M A (loadName F.env z) Q E x.s:=by
 rcases V with⟨a,m,n,e⟩|⟨a,c,n,e⟩
 ·exact wpAny_loadName_local F.kind a n e h
 ·exact a.elim (λa=>wpAny_loadName_cell F.kind a n e h) λa=>wpAny_loadName_free F.kind a.1 n e h a.2
def db(P:cD)(x:Str):Option ac:=(nsIn (KL P) mE x).bind λv=>match v with
 |some v=>some v|none=>if x=("__name__":Str) then none else bootBuiltins x
theorem Mh{A:bh}(F:Fm)(x:Pt c)(hx:F.env.kindOf z=some .globalImplicit)(e:db c.w.params z=some v)(h:Q v x.s):ai M A (loadName F.env z) Q E x.s:=by
 have go:ai M A (loadGlobal F.env z) Q E x.s:=by
  obtain⟨mg,g⟩:=c.g;have g':x.s.heap.Ns F.env.globals mg:=F.glob▸g.keeps x.keep;refine aj e λo q e=>?_;induction o using qa with
  |some v'=>exact Calls.loadGlobal_global g' (mg_of c.K g (q.trans (af some e))) h
  |none=>
   refine fZ e λn e=>aB c.b λmb b hb=>?_;have b':x.s.heap.Ns F.env.builtins mb:=F.blt▸b.keeps x.keep;exact Calls.loadGlobal_builtin g' (mg_none_of c.K g q) b' ((hb z n).trans e) h
 exact aa (loadName_read F.kind hx) (go)
theorem wi{α:Type}{l:List (Str×α)}{x y:Str}{v:α}:ak (b9 l x v) y=if y=x then some v else ak l y:=by
 induction l with
 |nil=>
  show(if x=y then some v else none)=_;by_cases e:x=y
  ·refine aa (iP e) (aa (iP e.symm) ?_);rfl
  ·erw[iN e];erw[iN (gV e)];rfl
 |cons q r ih=>
  obtain⟨z,u⟩:=q;by_cases e:z=x
  ·erw[(show b9 ((z,u)::r) x v=(x,v)::r from iP e)];show(if x=y then some v else ak r y)=if y=x then some v else(if z=y then some u else ak r y);by_cases q:x=y
   ·refine aa (iP q) (aa (iP q.symm) ?_);rfl
   ·refine aa (iN q) (aa (iN (gV q)) (aa (iN λk=>q (e.symm.trans k)) ?_));rfl
  ·erw[(show b9 ((z,u)::r) x v=(z,u)::b9 r x v from iN e)];show(if z=y then some u else ak (b9 r x v) y)=if y=x then some v else(if z=y then some u else ak r y);erw[ih];by_cases q:z=y
   ·refine aa (iP q) (aa (iN λk=>e (q.trans k)) (aa (iP q) ?_));rfl
   ·refine aa (iN q) (aa (iN q) ?_);rfl
theorem sK{α:Type}{P:Prop}{l:List (Str×α)}{x y:Str}{v u:α}(h:ak (b9 l x v) y=some u)(k1:y=x->u=v->P)(k2:y≠x->ak l y=some u->P):P:=by
 by_cases q:y=x
 ·exact k1 q (ay (((wi.trans (iP q)).symm.trans h)).symm)
 ·exact k2 q ((wi.trans (iN q)).symm.trans h)
structure zI{c:Cx}(F:Fm)(z:Str)(u:ac)(x y:Pt c):Prop where
 at_:dA F.env y.s.heap z u
 old:∀q v,q≠z->dA F.env x.s.heap q v->dA F.env y.s.heap q v
 cR:∀z a,F.env.cells.lookup z=some a->∃v,y.s.heap.IsCell a v
 r:jK F y
 wr:∀g,Wr (tM F) g x y
 gens:y.s.gens=x.s.gens
theorem zI.vars(S:zI F z u x y)(X:bB F x σ)(r:Rd p x u):bB F y (b9 σ z p) where
 cR:=S.cR
 var q p' e:=sK e (λe1 e2=>(az u (e1▸S.at_) (e2▸(S.wr 0).rd r))) λn e=>by refine aB (X.var q p' e) λv V r=>?_;exact(az v (S.old q v n V) ((S.wr 0).rd r))
theorem MO{M:f4}{A:bh}{Q:Unit->ag->Prop}(X:∀z a,F.env.cells.lookup z=some a->∃v,x.s.heap.IsCell a v)(Y:jK F x)(hx:ak F.nm z=some .local\/ak F.nm z=some .cell)(k:∀y,zI F z u x y->Q () y.s):ai M A (Cc F.env z u) Q E x.s:=by
 rcases hx with e|e
 ·obtain⟨m,n⟩:=Y.ns;refine wpAny_storeName_local (Y.loc z e) n (λh' hn hs=>k (x.but (t:=x.s.toks+1) hs Y.own (I9 n)) {
   at_:=.inl ⟨Y.loc z e,_,hn,iP rfl⟩
   old:=λq v ne V=>V.imp (λV=>⟨V.1,_,hn,(iN ne).trans (by refine aB V.2 λm' n' e=>?_;rw[n.agree n',e])⟩) λV=>⟨V.1,by refine aB V.2 λa b i=>?_;exact(az a b (i.sameBut hs (F.cl q a b)))⟩
   cR:=λq a b=>by obtain⟨v,i⟩:=X q a b;exact⟨v,i.sameBut hs (F.cl q a b)⟩
   r:=⟨⟨_,hn⟩,(Wr.but (W:=tM F) (g:=0) (.inl rfl)).free Y.own,Y.loc,λq e=>by obtain⟨k,a,b,n⟩:=Y.kJ q e;exact⟨k,a,b,n.f,n.h₀,n.hi⟩⟩
   wr:=λg=>.but (.inl rfl)
   gens:=rfl}) (by erw[F.kind];rfl)
 ·obtain⟨k1,a,b,n⟩:=Y.kJ z e;obtain⟨v,i⟩:=X z a b;exact wpAny_storeName_cell F.kind k1 b i λh' hn hs=>k (x.but (t:=x.s.toks) hs n (adf i)) {
   at_:=.inr ⟨.inl k1,a,b,hn⟩
   old:=λq v ne V=>V.imp (λV=>⟨V.1,by refine aB V.2 λm' n' e=>?_;exact(az m' (n'.sameBut hs (gV (F.cl z a b))) e)⟩) λV=>⟨V.1,by refine aB V.2 λa' b' i=>?_;exact(az a' b' (i.sameBut hs λe=>ne (F.apart q z a' b' (e▸b))))⟩
   cR:=λq a' b'=>by
    obtain⟨v,i⟩:=X q a' b';by_cases e:a'=a
    ·exact⟨u,e▸hn⟩
    ·exact⟨v,i.sameBut hs e⟩
   r:=⟨by refine dJ Y.ns λm n=>?_;exact⟨m,n.sameBut hs (gV (F.cl z a b))⟩,⟨Y.own.f,Y.own.h₀,Y.own.hi⟩,Y.loc,λq e=>by obtain⟨k,a,b,n⟩:=Y.kJ q e;exact⟨k,a,b,n.f,n.h₀,n.hi⟩⟩
   wr:=λg=>.but (.inr (az z e b))
   gens:=rfl}
end
end
section
variable{c:Cx}{x y:Pt c}{d:Nat}{A:Am d}{v:ac}{l:List PV}{vs us:List ac}{p:PV}
section
variable{f:Fz}{u:ac}{i j:Int}{m:List PV}{a:ao}{n k:Nat}{q r:PV}{b:Bool}{O:aK}{s:ag}
theorem Ec{w:cO}{A:bh}{value slice:Expr}{o i:ac}{T id:String}{Q:ac->ag->Prop}{E:ac->ag->Prop}(hT:s.TypeIs o T)
(hl:typeLookup (.type T) "__getitem__"=pure (some (.builtin id)))(h:ai (ah pw w) A (yN o i) Q E s):ai (ah pw w) A (Fx value slice o i) Q E s:=by
 unfold Fx;refine ae (aa (getitemInPython_of_ne hT.not_modules) (ae (Fy hT hl ?_)));have op:∀l,ai (ah pw w) A (operate l (yN o i)) (λr Gs=>ai (ah pw w) A (letTemporaryGo value o r>>=λ_=>pure r) Q E Gs) E s:=λl=>wpAny_operating (cQ h (λr Gs ahi=>ae (wpAny_letTemporaryGo (au ahi))) λ_ _ x=>x);have fin:ai (ah pw w) A (subscripted slice false o i) (λr Gs=>ai (ah pw w) A (letTemporaryGo value o r>>=λ_=>pure r) Q E Gs) E s:=by
  induction slice using eu with
  |Slice lo hi st=>induction st using qa with
   |none=>exact op _|some=>exact op _
  |_=>exact op _
 first
  |exact au (ae fin)
  |exact ae (au (ae fin))
  |exact ae fin
theorem Hh(h:wI i n=some k)(z:n<=aA): -2^63<=i/\i<2^63/\((0<=i/\k=i.toNat)\/(i<0/\ -(n:Int)<=i/\k=(i+n).toNat)):=by
 have h:(if(decide (0<=(if i<0 then i+n else i))&&decide ((if i<0 then i+n else i)<n))=true then some (if i<0 then i+n else i).toNat else none)=some k:=h;refine aL h λq h=>oI h ?_;rw[mK,decide_eq_true_eq,decide_eq_true_eq] at q;unfold aA at z;by_cases z:i<0
 ·rw[iP z] at q⊢;exact⟨by lia,by lia,.inr (ei z (by lia) rfl)⟩
 ·rw[iN z] at q⊢;exact⟨by lia,by lia,.inl ⟨q.1,rfl⟩⟩
theorem Fs{k:Nat}(e:vs[k]?=some v):vs.toArray[k]?=some v:=re.trans e
theorem MM(z:l.length<=aA)(r:aR c f vs l):((vs.toArray.size:Nat):Int)<2^63:=mH (oW (aq (aD r.length) z:vs.toArray.size<=aA)) (by decide)
theorem u_(r:Rd (.list l) x v)(ru:Rd (.int i) x u){k:Nat}(e1:wI i l.length=some k)(e2:l[k]?=some p):aE A (yN v u) x (Rd p)/\∃a vs,v=.ref a/\x.s.heap.IsList a vs:=by
 refine dX r λ{a n vs} h rl z=>bU ru λt=>⟨λQ E K=>?_,a,_,rfl,lC h⟩;obtain⟨h1,h2,c⟩:=Hh e1 z;obtain⟨v,e3,rv⟩:=rl.get e2;have hs:vs.toArray.size=l.length:=rl.length;rcases c with⟨c1,rfl⟩|⟨c1,c2,rfl⟩
 ·exact wpAny_getItem_list (lC h) c1 h2 (Fs e3) (k_here K rv)
 ·exact wpAny_getItem_list_neg (lC h) c1 (hs▸c2) h1 (by erw[hs];exact Fs e3) (k_here K rv)
theorem Ww(r:Rd (.tup l) x v)(ru:Rd (.int i) x u){k:Nat}(e1:wI i l.length=some k)(e2:l[k]?=some p):aE A (yN v u) x (Rd p)/\∃a vs,v=.ref a/\x.s.heap.IsTuple a vs:=by
 refine iT r λ{a n vs} h rl z=>bU ru λt=>⟨λQ E K=>?_,a,_,rfl,Ai h⟩;obtain⟨h1,h2,_⟩:=Hh e1 z;obtain⟨v,e3,rv⟩:=rl.get e2;exact P.getItem_tuple (k:=k) (y:=v) (x.hs _ _ h) h1 h2 (by erw[i4];erw[rl.length];exact e1) (Fs e3) (k_here K rv)
theorem Xq{value slice:Expr}(h:bP p q=some r)(rp:Rd p x v)(rq:Rd q x u):aE A (yN v u) x (Rd r)/\aE A (Fx value slice v u) x (Rd r):=by
 revert rq;induction p using dg with
 |list l=>
  exact aj h λi e h=>aj h λk e1 e2=>ej e λrq=>by
   obtain⟨g,a,vs,rfl,z⟩:=u_ (A:=A) rp rq e1 e2;exact⟨g,λQ E K=>Ec z.typeIs list_getitem_lookup (g Q E K)⟩
 |tup l=>
  exact aj h λi e h=>aj h λk e1 e2=>ej e λrq=>by
   obtain⟨g,a,vs,rfl,o,e,c,_⟩:=Ww (A:=A) rp rq e1 e2;exact⟨g,λQ E K=>Ec (T:="tuple") (az o e c) F.slot_tuple_getitem.lookup (g Q E K)⟩
 |_=>exact nS h
theorem aR.take:∀{vs:List ac} {l:List PV} (k:Nat),aR c f vs l->aR c f (vs.take k) (l.take k):=by
 intro vs l;induction l generalizing vs with
 |nil=>exact λk r=>i0 r (by cases k<;>exact .nil)
 |cons p l ih=>
  intro k r;refine eC r λa r=>?_;induction k using m8 with
  |zero=>exact .nil|succ k=>exact .cons a (ih k r)
theorem aR.drop:∀{vs:List ac} {l:List PV} (k:Nat),aR c f vs l->aR c f (vs.drop k) (l.drop k):=by
 intro vs l;induction l generalizing vs with
 |nil=>exact λk r=>i0 r (by cases k<;>exact .nil)
 |cons p l ih=>
  intro k r;induction k using m8 with
  |zero=>exact r|succ k=>exact eC r λ_ r=>ih k r
theorem Ϝ(l:List PV)(lo hi:Option Int):(jH l lo hi).length<=l.length:=aq (SM _ _).length_le (List.drop_sublist _ _).length_le
noncomputable def Ax(vl vu:ac):Obj:={cls:=.type "slice",data:=.fields #[vl,vu,.none]}
theorem afC{value slice:Expr}{vl vu:ac}{zl zu:Option Int}(r:Rd (.list l) x v)(pl:IsPart vl zl)(pu:IsPart vu zu):aE A (Fx value slice v (.ref x.s.heap.objs.size)) (x.push (Ax vl vu) x.s.toks) (Rd (.list (jH l zl zu))):=
 dX r λ{a n vs} h rl z=>λQ E K=>by
  have hl:=(lC h).push (Ax vl vu);refine Ec (T:="list") (s:=(x.push (Ax vl vu) x.s.toks).s) hl.typeIs list_getitem_lookup (wpAny_getItem_list_slice (s:=(x.push (Ax vl vu) x.s.toks).s) hl (am.IsSliceOf.new ..) pl pu .none (by simp) ?_ (l8 (us:=[]) (m:=[]) rl z (r':=.nil) rfl));have e:slicePick vs.toArray zl zu none=(jH vs zl zu).toArray:=by rw[slicePick_plain];unfold jH;erw[i4];rfl
  exact aa (e) (sY (x:=x.push (Ax vl vu) x.s.toks) K rfl (Dg (by
   unfold jH;erw[rl.length];exact(rl.drop _).take _) (aq (Ϝ _ _ _) z)))
theorem OQ:∀{l:List Nat} {es:List (Int×ac)},bS es l->es.length=l.length:=by
 intro l;induction l with
 |nil=>exact λh=>af yO h|cons n l ih=>exact λh=>by obtain⟨_,_,rfl,h⟩:=h;exact af jq (ih h)
theorem U0{l:List Nat}:∀n,l.Pairwise (· < ·)->(∀x∈l,x<6)->(∀x∈l,n<=x)->n<=6->n+l.length<=6:=by
 induction l with
 |nil=>exact λ_ _ _ _ h=>h
 |cons x l ih=>
  intro n h k m _;have g:=lY h;have:=ih (x+1) g.2 (λy hy=>k y (.tail _ hy)) g.1 (k x (.head _));exact aq (aq (aD (pS n l.length 1)) (mG (yP (m x (.head _))) _)) this
theorem Fk{l:List Nat}(h:l.Pairwise (· < ·))(k:∀x∈l,x<6):l.length<=6:=f5 l.length▸U0 0 h k (λ_ _=>cu _) (cu _)
theorem Fg{t:a8}{P:cD}{l:List Nat}(h:eV P l t):t.fits l.length=true:=by
 unfold a8.fits FA;refine aa (h.place) (aa (h.dummies) ?_);have:=h.room;simp;rcases h.mask with e|e|e<;>rw[e] at this⊢ <;>lia
theorem VB(h:JV O p=some q)(hn:p.pe=false)(r:Rd p x v):aE A (bC (.builtin "len") [v]) x (Rd q):=by
 induction p using dg with
 |list l=>exact oI h (dX r λ{a n vs} h rl z=>λQ E K=>Calls.call_len_list (lC h) (MM z rl) (jG K (by rw[i4,rl.length];exact .int)))|tup l=>exact oI h (iT r λ{a n vs} h rl z=>λQ E K=>P.len_tuple (x.hs _ _ h) (zg.mpr (MM z rl)) (jG K (by rw[i4,rl.length];exact .int)))
 |set l=>
  exact oI h (lu r λ{a es n t} h he ht=>λQ E K=>by
   have e:es.size=l.length:=FB.symm.trans (OQ he);exact call_len_set (x.hs _ _ h) (ei rfl rfl rfl) rfl (e▸Fg ht) (by have:=Fk ht.up ht.small;lia) (jG K (e▸ .int)))
 |inst=>injection hn|_=>exact nS h
theorem abb(h:f9 0 j=some p)(r:Rd (.int j) x v):aE A (bC (.type "range") [v]) x (Rd p):=aL h λz h=>oI h (bU r λt=>λQ E K=>call_range_1 (sY K rfl (.d8 pJ (by decide) z.2.1 z.2.2)))
theorem T_(h:f9 i j=some p)(r:Rd (.int i) x v)(r':Rd (.int j) x u):aE A (bC (.type "range") [v,u]) x (Rd p):=aL h λz h=>oI h (bU r λt=>bU r' λt=>λQ E K=>call_range_2 (sY K rfl (.d8 pJ z.1 z.2.1 z.2.2)))
theorem afM:(if i<0 then-i else i)=(i.natAbs:Int):=by
 by_cases h:i<0
 ·exact(iP h).trans (Int.ofNat_natAbs_of_nonpos (mJ h)).symm
 ·exact(iN h).trans (Kl (jB h)).symm
theorem aaZ(r:Rd (.int i) x v):aE A (bC (.builtin "abs") [v]) x (Rd (.int i.natAbs)):=bU r λt=>λQ E K=>
 call_abs_int λu tk=>jG K ((afM:(if i<0 then-i else i)=(i.natAbs:Int)).symm▸ .int)
theorem Xj(r:Rd (.int i) x v):aE A (bC (.type "int") [v]) x (Rd (.int i)):=bU r λt=>λQ E K=>call_int_int (k_here K .int)
theorem aeW(h:i.natAbs<d4)(r:Rd (.int i) x v):aE A (bC (.type "str") [v]) x (Rd (.str (dw (toString i)))):=bU r λt=>λQ E K=>
 P.str_of_int (by have:=Rx h;lia) (jG K .str)
theorem It{o:Obj}{Q:ac->ag->Prop}{h':am}{t:Nat}(K:∀v y,Le x y->Rd p y v->Q v y.s)(k:∀b o,x.s.heap.get? b=some o->h'.get? b=some o)(e:h'.get? x.s.heap.objs.size=some o)(r:Rd p ((x.grow h' t k).add _ o e (x.ke (bf _))) v):Q v {x.s with heap:=h',toks:=t}:=
 K v ((x.grow h' t k).add _ o e (x.ke (bf _))) (.add (x.cG _) _ _ (eQ _)) r
theorem JE{h':am}{t:Nat}{k:∀b o,x.s.heap.get? b=some o->h'.get? b=some o}{e:h'.get? x.s.heap.objs.size=some (bu vs n)}(r:bt l x vs)(z:l.length<=aA):Rd (.list l) ((x.grow h' t k).add _ _ e (x.ke (bf _))) (.ref x.s.heap.objs.size):=.list pJ (r.mono (Pt.Aa (x:=x.grow h' t k))) z
theorem IY{lo hi:Int}:agf lo hi 1=(((hi-lo).toNat:Nat):Int):=by
 rw[rangeSize_one];by_cases h:lo<hi
 ·exact(iP h).trans (SK (Int.sub_nonneg.mpr (mJ h))).symm
 ·rw[Int.toNat_of_nonpos (Int.sub_nonpos_of_le (jB h))];exact iN h
theorem N8{lo hi:Int}(h1:lo.natAbs<d4)(h2:hi.natAbs<d4):Builtin.Range.small lo hi 1=true:=
 small_one (mJ (mH (by decide) (xx h1).1)) (yK (xx h1).2 (by decide)) (mJ (mH (by decide) (xx h2).1)) (yK (xx h2).2 (by decide))
theorem Xf{g:Nat->PV}:∀(n m:Nat) {vs:List ac},vs.length=n->(∀(i:Nat) (v:ac),vs[i]?=some v->aV c f v (g (m+i)))->aR c f vs ((gW m n).map g):=by
 intro n;induction n with
 |zero=>exact λm vs h _=>zn.mp h▸ .nil
 |succ n ih=>
  intro m vs h k;induction vs using bO with
  |nil=>injection h|cons v vs=>exact .cons (k 0 v rfl) (ih (m+1) (wJ h) λi v e=>wM m i▸k (i+1) v e)
theorem abh(hn:p.pe=false)(h:yf p=some l)(z:l.length<=aA)(r:Rd p x v):aE A (bC (.type "list") [v]) x (Rd (.list l)):=by
 induction p using dg with
 |list m=>exact ay h▸dX r λ{a n vs} h rl z=>λQ E K=>call_list_seq (hsz:=l8 (us:=[]) (m:=[]) rl z (r':=.nil) rfl) a (.inl rfl) (x.hs _ _ h) rfl rfl λh' c' hk hD=>It K hk hD (JE rl z)|tup m=>exact ay h▸iT r λ{a n vs} h rl z=>λQ E K=>call_list_seq (hsz:=l8 (us:=[]) (m:=[]) rl z (r':=.nil) rfl) a (.inr rfl) (x.hs _ _ h) rfl rfl λh' c' hk hD=>It K hk hD (JE rl z)
 |d8 lo hi=>
  have e:=ay h;subst e;refine qA r λ{a t u w} h h1 h2 hn=>λQ E K=>call_list_range A.ok.handled (x.hs _ _ h) (N8 h1 h2) IY (by unfold aA at hn;lia) λh' tk acc c' hk hD hI=>It K hk hD (JE ?_ z);refine aa (yQ) (Xf _ 0 (by erw[FB];exact hI.1) λi v q=>?_);obtain⟨t,e⟩:=hI.2 i v (by refine hH (agg) ?_;exact q);rw[e,Kp,f5];exact .int
 |inst=>injection hn|_=>exact nS h
end
section
variable{f:Fz}{u g:ac}{m:List PV}{a:ao}{n k:Nat}{q r:PV}{b:Bool}{z:Str}{fs:List (Str×PV)}{E Q:ac->ag->Prop}
noncomputable def afw(K:kq)(c:ao)(x:Str):Bool:=Cd K c x&&FC K c&&(match fN K (.ref c) x with
 |some a=>noGet K a|none=>false)
theorem O5(P:cD):wx.all (λp=>afw (KL P) p.1 p.2)=true:=⋯
theorem AX{a b c:Bool}(h:(a&&b&&c)=true):a=true/\b=true/\c=true:=by
 cases a
 ·injection h
 ·cases b
  ·injection h
  ·exact(ei rfl rfl h)
theorem aby:∀{vs:List (Str×ac)} {es:List pQ},jW c vs es->(es.find? (·.key.isStr z)).map (·.val)=ak vs z/\es.any (·.refKey)=false:=by
 intro vs;induction vs with
 |nil=>exact λh=>h▸⟨rfl,rfl⟩
 |cons q vs ih=>
  intro es h;obtain⟨t,r,rfl,h⟩:=h;obtain⟨y,u⟩:=q;refine⟨?_,(ih h).2⟩;erw[List.find?_cons];refine aa (show(B5 y t).isStr z=(y==z) from rfl) (aa (show ak ((y,u)::vs) z=if y=z then some u else ak vs z from rfl) ?_);by_cases e:y=z
  ·erw[iP e];erw[jZ e];rfl
  ·erw[iN e];erw[kH e];exact(ih h).1
theorem xK{vs:List (Str×ac)}{es:List pQ}(h:jW c vs es):getL z es=some (ak vs z):=by
 have key:=aby (z:=z) h;unfold getL;refine hH (key.1) ?_;cases e:es.find? (·.key.isStr z) with
 |some v=>rfl|none=>dsimp only;erw[key.2];rfl
theorem Jx:∀{vs:List (Str×ac)} {fs:List (Str×PV)},bI c f vs fs->(∀p,ak fs z=some p->∃v,ak vs z=some v/\aV c f v p)/\(ak fs z=none->ak vs z=none):=by
 intro vs fs;induction fs generalizing vs with
 |nil=>exact λr=>tc r ⟨λp h=>nS h,λ_=>rfl⟩
 |cons q fs ih=>
  obtain⟨y,q⟩:=q;refine λr=>oZ r λ{v us} a r=>?_;show(∀p,(if y=z then some q else ak fs z)=some p->∃u,(if y=z then some v else ak us z)=some u/\aV c f u p)/\((if y=z then some q else ak fs z)=none->(if y=z then some v else ak us z)=none);by_cases e:y=z
  ·erw[iP e];erw[iP e];exact⟨λp h=>(az v rfl (ay h▸a)),λh=>sN h⟩
  ·erw[iN e];erw[iN e];exact ih r
theorem Ss(r:Rd p x v)(h:p.iV=false):handedIn v=true:=by
 induction p using dg with
 |none=>exact qT r rfl|bool=>exact mf r rfl|int=>exact bU r λ_=>rfl|str=>exact jj r λ_=>rfl|tup=>exact iT r λ_ _ _=>rfl|list=>exact dX r λ_ _ _=>rfl|set=>exact lu r λ_ _ _=>rfl|d8=>exact qA r λ_ _ _ _=>rfl|inst=>exact sV r λ_ _ _ _=>rfl|any=>injection h
@[elab_as_elim] theorem n3{M:ac->Prop}(r:Rd (.inst k fs) x v)(K:∀{a ox es n vs},InstAt x.s.heap a ox k (some (uO es n))->jW c vs es->bI c x.f vs fs->Rd (.inst k fs) x (.ref a)->M (.ref a)):M v:=
 sV r λ{a dx n es vs} h hd he r=>K ⟨x.hs _ _ h,rfl,rfl,x.hs _ _ hd⟩ he r (.inst h hd he r)
theorem PM(h:ak fs z=some p)(ht:wx.contains (k,z)=true)(hp:p.iV=false)(r:Rd (.inst k fs) x v):∃u,Rd p x u/\∀{y:Pt c} {A:bh} {Q:ac->ag->Prop} {E:ac->ag->Prop},Sub x.f y.f->(∀t,Q u {y.s with toks:=t})->ai (ah pw c.w) A (uP v z true) Q E y.s:=
 sV r λ{a dx n es vs} e1 e2 he rf=>by
  have ok:=AX (b7 (O5 c.w.params) _ (qI ht));refine aB ((Jx rf).1 p h) λv e3 rv=>e8 ok λo1 o2 o3=>(az v rv (λ{y A Q E} s q=>?_));split at o3
  ·rename_i at_ e;exact get_value y.cU (⟨y.hs _ _ (s _ _ e1),rfl,rfl,y.hs _ _ (s _ _ e2)⟩:InstAt y.s.heap a (l9 k dx) k (some (uO es n))) (uQ o1).1 (findObj_own o2 e o3 (by rw[FD,xK he,e3])) (Ss rv hp) (q _)
  ·injection o3
theorem afd(h:ak fs z=some p)(ht:wx.contains (k,z)=true)(hp:p.iV=false)(r:Rd (.inst k fs) x v):aE A (uP v z true) x (Rd p):=λQ E K=>aB (PM h ht hp r) λu r' g=>g (λ_ _ e=>e) λt=>jG K r'
def Dd(P:cD)(k:Nat):Bool:=Cd (KL P) k "__class__" &&FC (KL P) k&&fN (KL P) (.ref k) "__class__"==some (some (.builtin "object.__class__"))
  &&Kq (KL P) (.builtin "object.__class__") "__get__"==some (some (.builtin "getset_descriptor.__get__"))&&takesIn (KL P) (.builtin "object.__class__")==some true&&mroIn (KL P) k (.type "object")==some true
theorem ϯ(P:cD):Dd P dk=true:=⋯
theorem aeP(P:cD):Dd P iw=true:=⋯
theorem Sg{P:cD}{a:ao}{ox od:Obj}(h:Dd P k=true):KitX (KL P) (.ref a) (.ref k) (λh=>InstAt h a ox k (some od)):=by
 unfold Dd at h;simp only[mK,beq_iff_eq] at h;obtain⟨⟨⟨⟨⟨h1,h2⟩,h3⟩,h4⟩,h5⟩,h6⟩:=h;exact kitx_own h1 h2 h3 h4 h5 h6
def Ju:PV->ac:=PA.on {d:=.type "int",i9:=λk _=>(.ref k)}
theorem Dl(P:cD):db P "int"=some (.type "int"):=⋯
theorem Jm(P:cD):db P "Fraction"=some (.ref dk):=⋯
theorem QU(P:cD):db P "Voter"=some (.ref iw):=⋯
structure aeu(c:Cx)(p:PV)(z:Str)(b:Bool)(v:ac):Prop where
 g:db c.w.params z=some v
 one:kitOne (KL c.w.params) (Ju p) v=some b
theorem HI(h:pe p z=some b)(r:Rd p x v):(∃g,aeu c p z b g)/\(∃Hp:am->Prop,KitX (KL c.w.params) v (Ju p) Hp/\Hp x.s.heap)/\v≠ .builtin "__main__.__loader__#opaque":=by
 induction p using dg with
 |int i=>
  refine⟨?_,bU r λt=>⟨(az _ kitx_int trivial),nofun⟩⟩;have h:(if z=("int":Str) then some true else if z=("Fraction":Str) then some false else none)=some b:=h;by_cases e:z=("int":Str)
  ·exact oI ((iP e).symm.trans h) ⟨_,e▸Dl _,⋯⟩
  ·exact aL ((iN e).symm.trans h) λe h=>oI h ⟨_,e▸Jm _,⋯⟩
 |inst k fs=>
  have h:(if k=dk then(if z=("int":Str) then some false else if z=("Fraction":Str) then some true else none) else if k=iw/\z=("Voter":Str) then some true else none)=some b:=h;by_cases ek:k=dk
  ·subst ek;replace h:=(iP rfl).symm.trans h;refine⟨?_,n3 r λI _ _ _=>⟨(az _ (Sg (ϯ _)) I),nofun⟩⟩;by_cases e:z=("int":Str)
   ·exact oI ((iP e).symm.trans h) ⟨_,e▸Dl _,⋯⟩
   ·exact aL ((iN e).symm.trans h) λe h=>oI h ⟨_,e▸Jm _,⋯⟩
  ·refine aL ((iN ek).symm.trans h) λe h'=>?_;obtain⟨e1,e⟩:=e;subst e1;exact⟨ay h'▸⟨_,e▸QU _,⋯⟩,n3 r λI _ _ _=>⟨(az _ (Sg (aeP _)) I),nofun⟩⟩
 |_=>exact nS h
theorem ado(r:Rd p x v):∀{zs:List Str} {b:Bool},iV p zs=some b->∀cs,(zs.map λz=>db c.w.params z)=cs.map some->kitAny (KL c.w.params) (Ju p) cs=some b:=by
 intro zs;induction zs with
 |nil=>exact λh cs e=>Ua.mp e.symm▸h
 |cons z zs ih=>
  intro b h cs e;induction cs using bO with
  |nil=>injection e
  |cons k cs=>
   injection e with e1 e2
   refine aj h λb' h1 h2=>?_;obtain⟨⟨g,G⟩,_⟩:=HI h1 r;unfold kitAny;refine hH (ay (G.g.symm.trans e1)) (aa (G.one) ?_);cases b' with
   |true=>exact h2|false=>exact ih h2 cs e2
theorem Wt(r:Rd p x v)(h:pe p z=some b)(e:db c.w.params z=some u):aE A (bC (.builtin "isinstance") [v,u]) x (Rd (.bool b)):=λQ E K=>by
 obtain⟨⟨g,G⟩,⟨Hp,Z,hp⟩,hx⟩:=HI h r;exact kia_one Z x.cU hp (ay (G.g.symm.trans e)▸G.one) hx λtk=>jG K .bool
theorem Zs{zs:List Str}{cs:List ac}(r:Rd p x v)(h:iV p zs=some b)(jQ:zs≠[])(e:(zs.map λz=>db c.w.params z)=cs.map some)(htp:x.s.heap.get? a=some (fW cs n)):aE A (bC (.builtin "isinstance") [v,.ref a]) x (Rd (.bool b)):=λQ E K=>by
 induction zs using bO with
 |nil=>exact absurd rfl jQ
 |cons z zs=>
  refine aj h λb' h1 _=>?_;obtain⟨_,⟨Hp,Z,hp⟩,hx⟩:=HI h1 r;exact kia_tup Z x.cU hp htp (ado r h cs e) hx λtk=>jG K .bool
theorem Jh{M:f4}{A:bh}{s:ag}{args:List (Bool×Sem ac)}{kws:List (Option Str×Sem ac)}{Q:Args->ag->Prop}(ha:args.any (·.1)=false)(hk:kws.all (·.1.isSome)=true)
(h:ai M A (oq args) (λvs bJ=>ai M A (evalAll (kws.map (·.2))) (λks fQ=>Q ⟨vs,(kws.filterMap (·.1)).zip ks⟩ fQ) E bJ) E s):ai M A (evalArgs g true args kws) Q E s:=by
 have fin:∀(vs:List ac) (bJ:ag),ai M A (evalAll (kws.map (·.2))) (λks fQ=>Q ⟨vs,(kws.filterMap (·.1)).zip ks⟩ fQ) E bJ->
   ai M A (do
    let kw:=(kws.filterMap (·.1)).zip (<-evalAll (kws.map (·.2)))
    return⟨<-(pure vs:Sem (List ac)),kw⟩) Q E bJ:=λvs bJ mS=>
  ae (cQ mS (λks fQ CL=>ae (au (au CL))) λ_ _ x=>x)
 unfold evalArgs;induction args using bO with
 |nil=>
  refine ae (m:=oq []) (cQ h (λvs bJ mS=>dO ?_) λ_ _ x=>x);exact aa (iP hk) (fin vs bJ mS)
 |cons x rest=>
  obtain⟨b,t⟩:=x;have hb:b=false:=by cases b with
   |false=>rfl|true=>injection ha
  subst hb;refine ae (m:=oq ((false,t)::rest)) (cQ h (λvs bJ mS=>dO ?_) λ_ _ x=>x);exact aa (iP hk) (fin vs bJ mS)
def pE(P:cD)(g:ac):Prop:=(∃id,g=.builtin id)\/(∃T,g=.type T)\/keepIn (KL P) g=true
theorem Wn{w:cO}(k:pE w.params g)(h:am)(X:(KL w.params).In h):∃k,(k=Keeper.frame\/k=Keeper.machine\/k=Keeper.boundFrame)/\iG (ah pw w) h (keeperOf g) k:=by
 rcases k with⟨id,rfl⟩|⟨T,rfl⟩|k
 ·exact(az .machine (.inr (.inl rfl)) (iG.of_pure rfl))
 ·exact(az .machine (.inr (.inl rfl)) (iG.of_pure rfl))
 ·exact keeps_K k h X
theorem Wl{kws:List (Option Str×Sem ac)}(hk:kws.all (·.1.isSome)=true):kws.any (·.1.isNone)=false:=vd.mpr λx hx h=>by
 have:=b7 hk x hx;cases e:x.1<;>rw[e] at this h
 ·injection this
 ·injection h
theorem rK{w:cO}{A:bh}{s:ag}{pos:Pos}{first:List ac}{args:List (Bool×Sem ac)}{kws:List (Option Str×Sem ac)}(ha:args.any (·.1)=false)(hk:kws.all (·.1.isSome)=true)(k:pE w.params g)
(h:ai (ah pw w) A (oq args) (λvs bJ=>ai (ah pw w) A (evalAll (kws.map (·.2))) (λks fQ=>(KL w.params).In fQ.heap/\ai (ah pw w) A (bC g (first++vs) ((kws.filterMap (·.1)).zip ks)) Q E fQ) E bJ) E s):
  ai (ah pw w) A (wN pos g first args kws) Q E s:=
 callWith_of (P:=λh=>(KL w.params).In h) (by erw[ha];exact Wl hk) (Wn k) (Jh ha hk h)
theorem Wu{M:f4}{A:bh}{s:ag}{pos:Pos}{o:Obj}{args:List (Bool×Sem ac)}(ha:args.any (·.1)=false)
(h:ai M A (oq args) (λvs bJ=>(bJ.heap.get? a=some o/\o.data=.plain)/\ai M A (bC (.ref a) vs []) Q E bJ) E s):
  ai M A (wN pos (.ref a) [] args []) Q E s:=by
 unfold wN;refine ae (dO (Jh ha rfl (cQ h (λvs bJ mS=>uR ?_) λ_ _ x=>x)));refine ae (jr ?_);dsimp only;rw[show(args.any (·.1)||([]:List (Option Str×Sem ac)).any (·.1.isNone))=false by rw[ha];rfl];refine ae (m:=keeperOf (.ref a)) ?_;unfold keeperOf;exact ae (FE mS.1.1 (aa (mS.1.2) (au (ae (wpAny_operating (cQ mS.2 (λr fQ hr=>ae (dO (wpAny_point (au hr)))) λ_ _ x=>x))))))
def iq:Expr->Bool:=EA.on {d:=false,NT:=λ_ _=>true}
theorem Pn{env:Env}{e:Expr}{r:List Expr}(h:iq e=false):lE (e::r) env=(false,eval e env)::lE r env:=by
 cases e<;>first|rfl|injection h
theorem wd{env:Env}{pos:Pos}:∀{es:List Expr},(∀e∈es,iq e=false)->ot pos (lE es env)=es.map λe=>(false,eval e env):=by
 intro es h;have:lE es env=es.map λe=>(false,eval e env):=by
  induction es with
  |nil=>rfl|cons e r ih=>erw[Pn (h e (.head _))];erw[(ih λe m=>h e (.tail _ m))];rfl
 erw[this];unfold ot;erw[jt];rfl
theorem kP{env:Env}{pos:Pos}{es:List Expr}(h:∀e∈es,iq e=false):(ot pos (lE es env)).any (·.1)=false:=aa (wd h) (vd.mpr λx m=>by refine aB (rn.mp m) λe _ bZ=>?_;subst bZ;exact dy)
noncomputable def Ei(env:Env)(pos:Pos)(kws:List fj):List (Option Str×Sem ac):=backToKw pos (keywordEach kws env)
theorem NS{env:Env}{o:Expr}{name:Str}{whole:Sem ac}(h:ug o=false):attributeBase o name env whole=whole:=by
 induction o using eu with
 |Call f args kws p=>induction f using eu with
  |Name=>induction args using bO with
   |nil=>induction kws using bO with
    |nil=>injection h|cons=>rfl
   |cons=>rfl
  |_=>rfl
 |_=>rfl
theorem GR{M:f4}{A:bh}{s:ag}{env:Env}{o:Expr}{name:Str}{apos pos:Pos}{args:List Expr}{kws:List fj}(hb:ug o=false)(hl:apos.endLine=pos.line)(ha:∀e∈args,iq e=false)
(hk:(Ei env pos kws).all (·.1.isSome)=true)(hn:args.length+kws.length<=20)
(h:ai M A (eval o env) (λov bJ=> ∀pl,ai M A (Ce ov name pl) (λfx fQ=>ai M A (wN pos fx.1 fx.2 (ot pos (lE args env)) (Ei env pos kws)) Q E fQ) E bJ) E s):
  ai M A (eval (.Call (.Attribute o name apos) args kws pos) env) Q E s:=by
 have iZ:methodCallForm (args.length+kws.length) (ot pos (lE args env)) (backToKw pos (keywordEach kws env))=true:=by
  unfold methodCallForm;rw[show(backToKw pos (keywordEach kws env)).all (·.1.isSome)=true from hk,Kr,mK];constructor
  ·exact KY.mpr λx m=>by
    have:=vd.mp (kP (env:=env) (pos:=pos) ha) x m;cases e:x.1 with
    |false=>rfl|true=>exact absurd e this
  ·erw[decide_eq_true_eq];split<;>lia
 have ahj:methodCallPos true o env apos pos=pure pos:=by unfold methodCallPos;simp[hl]
 rw[arm_eval_Call,NS hb];refine ae (cQ h (λov bJ mS=>?_) λ_ _ x=>x);refine ae (jr ?_);unfold methodCall;refine aa (iZ) (ae (dO (cQ (mS _) (λfx fQ CL=>?_) λ_ _ x=>x)));obtain⟨g,first⟩:=fx;exact ae (Cf ahj CL)
theorem JL{w:cO}{A:bh}{s:ag}{env:Env}{o:Expr}{name:Str}{pos:Pos}(hb:ug o=false)
(h:ai (ah pw w) A (eval o env) (λov bJ=>ai (ah pw w) A (uP ov name true) Q E bJ) E s):ai (ah pw w) A (eval (.Attribute o name pos) env) Q E s:=by
 rw[arm_eval_Attribute,NS hb];refine ae (cQ h (λov bJ mS=>ae (jr (ae (dO (cQ mS (λr fQ CL=>?_) λ_ _ x=>x))))) λ_ _ x=>x);exact ae (wpAny_letTemporaryGo (au CL))
noncomputable def wc(K:kq)(c:ao)(m:Str)(g:ao):Bool:=Cd K c m&&fN K (.ref c) m==some (some (.ref g))&&ou K (.ref g)&&keepIn K (.ref g)
theorem O8{K:kq}{m:Str}{g:ao}(h:wc K k m g=true):keepIn K (.ref g)=true:=(aW h).2
theorem Xd{m:Str}{g:ao}{pl:Sem Bool}{Q:ac×List ac->ag->Prop}(hm:wc (KL c.w.params) k m g=true)(hn:ak fs m=none)(r:Rd (.inst k fs) x v)
(h:Q (.ref g,[v]) x.s):ai (ah pw c.w) A.A (Ce v m pl) Q E x.s:=by
 revert h;refine n3 r λ{a ox es n vs} I he rf _ h=>?_;have h3:=(aW hm).1;exact e8 (AX h3) λh1 h2 h3=>method_fn x.cU I (uQ h1).1 (uQ h1).2 (a5 h2) (a5 h3) (by show(lookIn m (uO es n)).map _=_;rw[FD,xK he,(Jx rf).2 hn];rfl) h
theorem F_{l:List (Int×Tok)}:aR c f (l.map λp=>.int p.1 p.2) (l.map λp=>.int p.1):=by
 induction l with
 |nil=>exact .nil|cons p l ih=>exact .cons .int ih
theorem M5{l:List (Str×Tok)}:aR c f (l.map λp=>.str p.1 p.2) (l.map λp=>.str p.1):=by
 induction l with
 |nil=>exact .nil|cons p l ih=>exact .cons .str ih
theorem uv{l:List (Int×Tok)}(h:(KL c.w.params).lookup a=some (bu (l.map λp=>qV p.1 p.2) 0))(z:l.length<=aA):Rd (.list (l.map λp=>.int p.1)) x (.ref a):=
 .list (x.K _ _ h) F_ (by rw[bi];exact z)
noncomputable def Hz:List (Str×Tok):=[("branch-and-bound",731),("brute-force",732),("standard",733),("standard-fractions",734)]
theorem XQ(h:IR z=some p):∃v,db c.w.params z=some v/\Rd p x v:=by
 have h:(if z=("available_algorithms":Str) then _ else if z=("_law_orders":Str) then _ else none)=some p:=h;by_cases e:z=("available_algorithms":Str)
 ·subst e;exact oI ((iP rfl).symm.trans h) (az (.ref 433) ⋯ (.list (vs:=Hz.map λp=>.str p.1 p.2) (n:=0) (x.K 433 _ ⋯) M5 (by decide)))
 ·refine aL ((iN e).symm.trans h) λe h=>oI h ?_;subst e;refine(az (.ref 718) ⋯ (?_));have r2:Rd (.list [.list [.int 0,.int 1],.list [.int 1,.int 0]]) x (.ref 710):=
   .list (vs:=[.ref 708,.ref 709]) (n:=0) (x.K 710 _ ⋯) (.cons (uv (l:=[(0,1121),(1,1122)]) ⋯ (by decide)) (.cons (uv (l:=[(1,1123),(0,1124)]) ⋯ (by decide)) .nil)) (by decide)
  have r3:Rd (.list [.list [.int 0,.int 1,.int 2],.list [.int 0,.int 2,.int 1],.list [.int 1,.int 0,.int 2],.list [.int 1,.int 2,.int 0],.list [.int 2,.int 0,.int 1],.list [.int 2,.int 1,.int 0]]) x (.ref 717):=
   .list (vs:=[.ref 711,.ref 712,.ref 713,.ref 714,.ref 715,.ref 716]) (n:=0) (x.K 717 _ ⋯)
    (.cons (uv (l:=[(0,1125),(1,1126),(2,1127)]) ⋯ (by decide)) (.cons (uv (l:=[(0,1128),(2,1129),(1,1130)]) ⋯ (by decide)) (.cons (uv (l:=[(1,1131),(0,1132),(2,1133)]) ⋯ (by decide))
    (.cons (uv (l:=[(1,1134),(2,1135),(0,1136)]) ⋯ (by decide)) (.cons (uv (l:=[(2,1137),(0,1138),(1,1139)]) ⋯ (by decide)) (.cons (uv (l:=[(2,1140),(1,1141),(0,1142)]) ⋯ (by decide)) .nil)))))) (by decide)
  exact .list (vs:=[.ref 710,.ref 717]) (n:=0) (x.K 718 _ ⋯) (.cons r2 (.cons r3 .nil)) (by decide)
noncomputable def E5(K:kq)(c:ao)(x:Str)(v:ac):Bool:=Cd K c x&&FC K c&&fN K (.ref c) x==some (some v)&&Kq K v "__get__"==some none&&handedIn v&& !copiedNames.contains x
theorem Wc(P:cD):(E5 (KL P) cL "_THIELE_ALGORITHMS" (.ref 335)&&E5 (KL P) cL "_RESOLUTE_VALUES_FOR_OPTIMIZATION_BASED_RULES" (.ref 336))=true:=⋯
noncomputable def ael:List (Str×Tok):=[("gurobi",589),("pulp-highs",590),("pulp-cbc",591),("branch-and-bound",592),("brute-force",593)]
theorem aew(h:zS k z=some p):∃v,E5 (KL c.w.params) k z v=true/\Rd p x v:=by
 have ok:=aW (Wc c.w.params);refine aL h λe h=>?_;subst e;by_cases e:z=("_THIELE_ALGORITHMS":Str)
 ·subst e;exact oI ((iP rfl).symm.trans h) (az _ ok.1 (.tup (vs:=ael.map λp=>.str p.1 p.2) (n:=0) (x.K 335 _ ⋯) M5 (by decide)))
 ·refine aL ((iN e).symm.trans h) λe h=>oI h ?_;subst e;exact(az _ ok.2 (.tup (vs:=[.bool false,.bool true]) (n:=0) (x.K 336 _ ⋯) (.cons .bool (.cons .bool .nil)) (by decide)))
theorem acr(h:zS k z=some p)(hn:ak fs z=none)(r:Rd (.inst k fs) x v):aE A (uP v z true) x (Rd p):=
 n3 r λ{a ox es n vs} I he rf _=>λQ E K=>by
  refine aB (aew (x:=x) h) λu ok ru=>?_;unfold E5 at ok;simp only[mK,beq_iff_eq,tu] at ok;obtain⟨⟨⟨⟨⟨k1,k2⟩,k3⟩,k4⟩,k5⟩,k6⟩:=ok;exact get_value x.cU I (uQ k1).1 (findObj_cls k2 k3 k4 k5 k6 (by rw[FD,xK he,(Jx rf).2 hn])) k5 (jG K ru)
end
structure ij{c:Cx}(K:ao->Prop)(G:Nat->Prop)(x y:Pt c):Prop where
 sub:Sub x.f y.f
 k:∀b o,K b->x.s.heap.get? b=some o->y.s.heap.get? b=some o
 f:∀b,K b->y.f b=none
 g:∀(j:Nat) (z:jp),G j->x.s.gens[j]?=some z->y.s.gens[j]?=some z
def mD{c:Cx}(K:ao->Prop)(x:Pt c):Prop:=∀b,K b->bW x b/\∃o,x.s.heap.get? b=some o
def sk{c:Cx}(d:Nat)(I:ao)(G:Nat->Prop)(K:ao->Prop)(x:Pt c)(N:Pt c->Am d->Prop):Prop:=mD K x/\∀(y:Pt c) (A:Am d),ij K G x y->
 (∀Q E,Q (.ref I) y.s->ai (ah pw c.w) A.A (gk (.ref I)) Q E y.s)/\(∀v t Q E,Q () y.s->ai (ah pw c.w) A.A (yR t (.ref I) v) Q E y.s)/\N y A
def dG{c:Cx}(d:Nat)(I:ao)(g:Nat):List PV->(ao->Prop)->Pt c->Prop
 |[],K,x=>sk d I (· <=g) K x λy A=> ∀Q E,(∀z,br K g y z->Q none z.s)->ai (ah pw c.w) A.A (gm (.ref I)) Q E y.s|p::l,K,x=>sk d I (· <=g) K x λy A=> ∀Q E,(∀v K' z,Rd p z v->dG d I g l K' z->br K g y z->(∀b,K b->K' b)->(∀b,K' b->K b\/y.s.heap.get? b=none)->Q (some v) z.s)->ai (ah pw c.w) A.A (gm (.ref I)) Q E y.s
def nh{c:Cx}(d:Nat)(I:ao):List PV->Pt c->Prop
 |[],x=>sk d I (λ_=>False) (· =I) x λy A=> ∀Q E,(∀z,(∀g,Wr (· =I) g y z)->Q none z.s)->ai (ah pw c.w) A.A (gm (.ref I)) Q E y.s|p::l,x=>sk d I (λ_=>False) (· =I) x λy A=> ∀Q E,(∀v z,Rd p z v->nh d I l z->(∀g,Wr (· =I) g y z)->Q (some v) z.s)->ai (ah pw c.w) A.A (gm (.ref I)) Q E y.s
section
variable{z:Pt c}{e:Nat}{I a:ao}{g:Nat}{G:Nat->Prop}{K W:ao->Prop}{m:List PV}{lo hi:Int}
theorem ij.refl(h:mD K x):ij K G x x:=⟨λ_ _ e=>e,λ_ _ _ e=>e,λb k=>(h b k).1.f,λ_ _ _ e=>e⟩
theorem ij.trans(l:ij K G x y)(m:ij K G y z):ij K G x z:=⟨λa o e=>m.sub a o (l.sub a o e),λb o k e=>m.k b o k (l.k b o k e),m.f,λj z q e=>m.g j z q (l.g j z q e)⟩
theorem cH.later(l:cH W x y)(h:mD K x)(d:∀b,K b->¬W b):ij K G x y where
 sub:=l.sub
 k b o k e:=l.e.keep b o e (cK (h b k).1.hi) (d b k)
 f b k:=by
  cases e:y.f b with
  |none=>rfl|some o=>exact(l.new b o e).elim (λq=>nS ((h b k).1.f.symm.trans q)) λq=>q.elim (λq=>(h b k).2.elim λo q'=>nS (q.symm.trans q')) λq=>absurd q (d b k)
 g j z _ e:=l.e.gens j z (om λq=>t4 q e) e
theorem mD.later(h:mD K x)(l:ij K G x y):mD K y:=λb k=>⟨⟨l.f b k,(h b k).1.h₀,(h b k).1.hi⟩,(h b k).2.elim λo e=>⟨o,l.k b o k e⟩⟩
theorem sk.later{N:Pt c->Am d->Prop}(i:sk d I G K x N)(l:ij K G x y):sk d I G K y N:=⟨i.1.later l,λz A m=>i.2 z A (l.trans m)⟩
theorem dG.live(i:dG d I g l K x):mD K x:=by cases l<;>exact i.1
theorem dG.later(i:dG d I g l K x)(m:ij K (· <=g) x y):dG d I g l K y:=by cases l<;>exact sk.later i m
theorem ij.none(l:ij K G x y):ij K (λ_=>False) x y:=⟨l.sub,l.k,l.f,λ_ _ q=>q.elim⟩
theorem nh.live(i:nh d I l x):mD (· =I) x:=by cases l<;>exact i.1
theorem nh.later(i:nh d I l x)(m:ij (· =I) (λ_=>False) x y):nh d I l y:=by cases l<;>exact sk.later i m
theorem nh.iter:∀{l:List PV} {x:Pt c},nh d I l x->dG d I g l (· =I) x:=by
 intro l;induction l with
 |nil=>exact λi=>⟨i.1,λy A m=>(ei ((i.2 y A m.none).1) ((i.2 y A m.none).2.1) (λQ E k=>(i.2 y A m.none).2.2 Q E λz w=>k z (w g).st))⟩|cons p l ih=>exact λi=>⟨i.1,λy A m=>(ei ((i.2 y A m.none).1) ((i.2 y A m.none).2.1) (λQ E k=>(i.2 y A m.none).2.2 Q E λv z r i w=>k v _ z r (ih i) (w g).st (λ_ q=>q) λ_=>.inl))⟩
theorem dG.go(i:dG d I g l K x)(A:Am d){t:Expr}{Q:Unit->ag->Prop}{E:ac->ag->Prop}(q:Q () x.s):ai (ah pw c.w) A.A (yR t (.ref I) v) Q E x.s:=by
 cases l<;>exact(i.2 x A (.refl i.1)).2.1 v t Q E q
theorem dG.self(i:dG d I g l K x)(A:Am d){Q:ac->ag->Prop}{E:ac->ag->Prop}(q:Q (.ref I) x.s):ai (ah pw c.w) A.A (gk (.ref I)) Q E x.s:=by
 cases l<;>exact(i.2 x A (.refl i.1)).1 Q E q
theorem dG.next(i:dG d I g (p::l) K x)(A:Am d){Q:Option ac->ag->Prop}{E:ac->ag->Prop}(k:∀v K' z,Rd p z v->dG d I g l K' z->br K g x z->(∀b,K b->K' b)->(∀b,K' b->K b\/x.s.heap.get? b=none)->Q (some v) z.s):ai (ah pw c.w) A.A (gm (.ref I)) Q E x.s:=(i.2 x A (.refl i.1)).2.2 Q E k
theorem dG.done(i:dG d I g [] K x)(A:Am d){Q:Option ac->ag->Prop}{E:ac->ag->Prop}(k:∀z,br K g x z->Q none z.s):ai (ah pw c.w) A.A (gm (.ref I)) Q E x.s:=(i.2 x A (.refl i.1)).2.2 Q E k
theorem dG.mono(h:d<=e):∀{l:List PV} {K:ao->Prop} {x:Pt c},dG d I g l K x->dG e I g l K x:=by
 intro l;induction l with
 |nil=>exact λi=>⟨i.1,λy A m=>i.2 y (A.mono h) m⟩|cons p l ih=>exact λi=>⟨i.1,λy A m=>(ei ((i.2 y (A.mono h) m).1) ((i.2 y (A.mono h) m).2.1) (λQ E k=>(i.2 y (A.mono h) m).2.2 Q E λv K' z r i=>k v K' z r (ih i)))⟩
def qJ(A:Am d)(t:Sem ac)(x:Pt c)(l:List PV):Prop:=∀(Q:ac->ag->Prop) (E:ac->ag->Prop),(∀y I K g,Le x y->dG d I g l K y->(∀b,K b->x.s.heap.get? b=none)->x.s.gens.size<=g->g<=y.s.gens.size->Q (.ref I) y.s)->ai (ah pw c.w) A.A t Q E x.s
def uA(A:Am d)(t:Sem ac)(x:Pt c)(l:List PV):Prop:=∀(Q:ac->ag->Prop) (E:ac->ag->Prop),(∀y,Le x y->y.f=x.f->nh d x.s.heap.objs.size l y->Q (.ref x.s.heap.objs.size) y.s)->ai (ah pw c.w) A.A t Q E x.s
theorem uA.i{t:Sem ac}(h:uA A t x l):qJ A t x l:=λQ E k=>h Q E λy le _ i=>k y _ _ x.s.gens.size le i.iter (λb q=>q▸eQ _) (bf _) le.e.dm
noncomputable def EY(T:String):Bool:=["enumerate","zip","dict_itemiterator","dict_reverseitemiterator","odict_iterator","itertools.zip_longest","itertools.pairwise"].contains T
theorem Ez{M:f4}{A:bh}{s:ag}{o:Obj}{n:String}{t:Expr}{Q:Unit->ag->Prop}{E:ac->ag->Prop}(ho:s.heap.get? I=some o)(hc:o.cls=.type n)(hn:EY n=false)(h:Q () s):ai M A (yR t (.ref I) v) Q E s:=by
 have body:ai M A (do
   let(.ref r,.ref a):=(pO I,v)|return
   let o<-load r
   match o.cls,o.data with
   |.type n,.fields vs=>
    if EY n&&vs[0]?==some (c6 a) then
     rule "for.unpacks-the-owned-tuple"
     updateField r 0 .none
   |_,_=>pure ()) Q E s:=by
  induction v using Bj with
  |ref a=>
   refine ae (FE ho (aa (hc) ?_));cases o.data with
   |fields vs=>
    dsimp only;erw[hn];rw[Bool.false_and];exact au h
   |_=>exact au h
  |_=>exact au h
 induction t using eu with
 |Tuple=>exact body|List=>exact body|_=>exact au h
theorem V4(A:Am d){fp:List ao}{n:Nat}{P:Nat->ac->Prop}{St:Nat->am->Prop}{T:String}{f:Fz}{xs:List PV}(W:∀A:Am d,Walks pw c.w A.A I fp [I] n P St)(hn:n=xs.length)(hP:∀i v p,P i v->xs[i]?=some p->aV c f v p)(Lw:∀b∈fp,b=I\/∃o,f b=some o)
(hT:∀i h,St i h->∃o,h.get? I=some o/\o.cls=.type T)(hc:("code"==T)=false)(ht:EY T=false):∀(l:List PV) (i:Nat) (x:Pt c),xs.drop i=l->i+l.length=xs.length->Sub f x.f->bW x I->St i x.s.heap->nh d I l x:=by
 intro l;have mv:∀{i:Nat} {y:Pt c} {h':am} {tk:Nat},bW y I->St i y.s.heap->(∀b o,b∉[I]->y.s.heap.get? b=some o->h'.get? b=some o)->∃z:Pt c,z.s={y.s with heap:=h',toks:=tk}/\∀g,Wr (λb=>b=I) g y z:=λ{i y h' tk} n st k=>
  have e:∀g,ci (λb=>b=I) g y.s {y.s with heap:=h',toks:=tk}:=λg=>⟨λb o e _ n=>k b o (λq=>n (cY q)) e,λ_ _ _ h=>h,bf _,λh=>h,rfl⟩
  (az (y.wr _ (e 0) (y.tab.but λb o e' q=>k b o (λm=>by
   cases cY m;refine q.elim (λq=>cV _ (ba q n.hi)) λq=>aB (hT i _ st) λo' e1 e2=>?_;rw[<-ay (e'.symm.trans e1),q.1] at e2;injection e2 with e2;rw[e2,beq_self_eq_true] at hc;injection hc) e') λb q=>q▸⟨n.h₀,n.f⟩) rfl (λg=>⟨rfl,e g⟩))
 have base:∀{i:Nat} {x:Pt c},Sub f x.f->bW x I->St i x.s.heap->mD (λb=>b=I) x/\∀{y:Pt c},ij (λb=>b=I) (λ_=>False) x y->Sub f y.f/\bW y I/\St i y.s.heap:=λ{i x} s n st=>
  have live:mD (λb=>b=I) x:=λb q=>q▸⟨n,(hT i _ st).elim λo e=>⟨o,e.1⟩⟩
  ⟨live,λ{y} m=>(ei (λa o e=>m.sub a o (s a o e)) ((live.later m I rfl).1) ((W A).frame i _ _ st λb hb o e=>(Lw b hb).elim (λq=>m.k b o q e) λq=>q.elim λo' q=>y.hs b o (m.sub b o (ay ((x.hs b o' (s b o' q)).symm.trans e)▸s b o' q))))⟩
 induction l with
 |nil=>
  intro i x hd hl s fr st;have B:=base s fr st;refine⟨B.1,λy A m=>?_⟩;have z:=(B.2 m).2;refine(ei (λQ E q=>(W A).self i y.s Q E z.2 q) (λv t Q E q=>(by refine aB (hT i _ z.2) λo e1 e2=>?_;exact Ez e1 e2 ht q)) (λQ E k=>(W A).done y.s Q E ((hl.trans hn.symm:i=n)▸z.2) λh' tk k'=>?_));exact aB (mv (tk:=tk) z.1 z.2 k') λw e W=>e▸k w W
 |cons p l ih=>
  intro i x hd hl s fr st;have B:=base s fr st;refine⟨B.1,λy A m=>?_⟩;have z:=(B.2 m).2;refine(ei (λQ E q=>(W A).self i y.s Q E z.2 q) (λv t Q E q=>(by refine aB (hT i _ z.2) λo e1 e2=>?_;exact Ez e1 e2 ht q)) (λQ E k=>?_));have hi:i<xs.length:=ba (qX (eE _)) (aD hl);have hx:=Cg hi;rw[hd] at hx;injection hx with e1 e2
  refine(W A).item i y.s Q E (hn▸hi) z.2 λv h' tk hv st' k'=>aB (mv (tk:=tk) z.1 z.2 k') λw e W=>?_;have sw:Sub f w.f:=λa o e=>(W 0).sub a o ((B.2 m).1 a o e);exact e▸k v w (aV.mono sw (hP i v p hv (e1▸jM hi))) (ih (i+1) w e2.symm (by refine hH (hl) ?_;erw[wK];lia) sw ((W 0).free z.1) (by erw[e];exact st')) W
theorem Eg{o:Obj}{n:Nat}{P:Nat->ac->Prop}{St:Nat->am->Prop}{fp:List ao}{xs:List PV}{T:String}{t:Sem ac}(W:∀A:Am d,Walks pw c.w A.A x.s.heap.objs.size fp [x.s.heap.objs.size] n P St)(hn:n=xs.length)
(hP:∀i v p,P i v->xs[i]?=some p->Rd p x v)(Lw:∀b∈fp,b=x.s.heap.objs.size\/∃o,x.f b=some o)(hT:∀i h,St i h->∃o,h.get? x.s.heap.objs.size=some o/\o.cls=.type T)(hc:("code"==T)=false)(ht:EY T=false)
(s0:St 0 (x.s.heap.push o))(run:∀(Q:ac->ag->Prop) E,Q (.ref x.s.heap.objs.size) {x.s with heap:=x.s.heap.push o}->ai (ah pw c.w) A.A t Q E x.s):uA A t x xs:=λQ E k=>
 run Q E (k (x.push o x.s.toks) (x.cG _) rfl (V4 A W hn hP Lw hT hc ht xs 0 (x.push o x.s.toks) rfl (f5 _) (λ_ _ e=>e) ⟨x.Eh (eQ _),x.C5 (eQ _),x.hi (bf _)⟩ s0))
theorem Hs(r:Rd (.list l) x v):uA A (gk v) x l:=dX r λ{a n vs} h rl z=>by
 have jQ:a≠x.s.heap.objs.size:=λe=>cV _ (e▸fB (x.hs _ _ h));refine Eg (o:={cls:=.type "list_iterator",data:=.fields #[.ref a,c6 0]}) (T:="list_iterator") (λA=>Walks.list A.ok.handled x.s.heap.objs.size a jQ vs.toArray) (by rw[i4];exact rl.length) (λi v p e1 e2=>?_) (λb hb=>?_) (λi h st=>?_) (by decide) (by decide) ⟨(cz _ (ft _ rfl) rfl rfl),(lC h).push _⟩ (λQ E q=>wpAny_pyIter_list (lC h) q)
 ·obtain⟨v',e3,r⟩:=rl.get e2;exact ay (e3.symm.trans (re.symm.trans e1))▸r
 ·exact(bw hb).imp id λq=>⟨_,(af x.f (cY q)).trans h⟩
 ·exact cP st.1 λo e1 e2 _=>(az o e1 e2)
theorem Q9(r:Rd (.tup l) x v):uA A (gk v) x l:=iT r λ{a n vs} h rl z=>by
 have jQ:a≠x.s.heap.objs.size:=λe=>cV _ (e▸fB (x.hs _ _ h));refine Eg (o:={cls:=.type "tuple_iterator",data:=.fields #[.ref a,c6 0]}) (T:="tuple_iterator") (λA=>Walks.tuple A.ok.handled x.s.heap.objs.size a jQ vs.toArray) (by rw[i4];exact rl.length) (λi v p e1 e2=>?_) (λb hb=>?_) (λi h st=>?_) (by decide) (by decide) ⟨(cz _ (ft _ rfl) rfl rfl),⟨_,c5 _ (x.hs _ _ h),rfl,n,rfl⟩⟩ (λQ E q=>wpAny_pyIter_tuple (Ai h) q)
 ·obtain⟨v',e3,r⟩:=rl.get e2;exact ay (e3.symm.trans (re.symm.trans e1))▸r
 ·exact(bw hb).imp id λq=>⟨_,(af x.f (cY q)).trans h⟩
 ·exact cP st.1 λo e1 e2 _=>(az o e1 e2)
theorem RU(r:Rd (.d8 lo hi) x v):uA A (gk v) x ((ax (hi-lo).toNat).map λk:Nat=>.int (lo+k)):=qA r λ{a t u z} h h1 h2 hn=>by
 refine Eg (o:={cls:=.type "range_iterator",data:=.fields #[c6 lo,c6 (agf lo hi 1),c6 1]}) (T:="range_iterator") (λA=>Walks.range A.ok.handled x.s.heap.objs.size lo 1 (hi-lo).toNat) (by rw[bi,cF]) (λi v p e1 e2=>?_) (λb hb=>.inl (cY hb)) (λi h st=>(az _ st rfl)) (by decide) (by decide) ?_ (λQ E q=>wpAny_pyIter_range (x.hs _ _ h) (N8 h1 h2) q)
 ·obtain⟨t,rfl⟩:=e1;rw[oy] at e2;refine fF e2 λk e3=>?_;have:k=i:=by
   obtain⟨_,e⟩:=zq.mp e3;exact e.symm.trans (SN _)
  subst this;rw[Kp];exact .int
 ·show am.get? _ _=_;rw[IY,ft _ rfl,Int.ofNat_zero,yS,uS,Kt]
theorem D6(r:Rd (.list l) x v):qJ A (gk v) x l:=(Hs r).i
theorem O2(r:Rd (.tup l) x v):qJ A (gk v) x l:=(Q9 r).i
theorem GW(r:Rd (.d8 lo hi) x v):qJ A (gk v) x ((ax (hi-lo).toNat).map λk:Nat=>.int (lo+k)):=(RU r).i
end
section
variable{S:Type}{put:Str->PV->S->Option S}{St:S->Pt c->Prop}{env:Env}{F:Fm}{σ σ':S}{t e:Expr}{es:List Expr}{E:ac->ag->Prop}{Q:Unit->ag->Prop}
@[elab_as_elim] theorem AI{m:Expr->Prop}{z:Str}(h:iB e=some z)(K:∀p,m (.Name z p)):m e:=by
 induction e using eu with
 |Name z' p=>exact ay h▸K p|_=>exact nS h
def Ic(St:S->Pt c->Prop)(put:Str->PV->S->Option S)(env:Env):Prop:=∀{M:f4} {A:bh} {z:Str} {p:PV} {σ σ':S} {x:Pt c} {u:ac} {Q:Unit->ag->Prop} {E:ac->ag->Prop},put z p σ=some σ'->St σ x->Rd p x u->(∀y,St σ' y->Sub x.f y.f->Q () y.s)->ai M A (Cc env z u) Q E x.s
theorem aaK{M:f4}{A:bh}(P:Ic St put env):∀{es:List Expr} {l:List PV} {σ:S} {x:Pt c} {vs:List ac},Bo put es l σ=some σ'->St σ x->bt l x vs->(∀y,St σ' y->Q () y.s)->ai M A (assignInOrder ((yT es env).map (·.2)) vs) Q E x.s:=by
 intro es;induction es with
 |nil=>
  intro l σ x vs h s r k;induction l using bO with
  |nil=>exact i0 r (assignInOrder_nil (k x (ay h▸s)))|cons=>exact nS h
 |cons e es ih=>
  intro l σ x vs h s r k;induction l using bO with
  |nil=>exact nS h|cons p l=>exact eC r λa r=>aj h λz e h=>aj h λσ₁ h1 h2=>AI (m:=λe=>ai M A (assignInOrder ((yT (e::es) env).map (·.2)) _) Q E x.s) e λpos=>SO (SP (P h1 s a λy s' b=>ih h2 s' (r.mono b) k))
theorem aa6:∀{es:List Expr} {l:List PV} {σ:S},Bo put es l σ=some σ'->(yT es env).length=l.length/\(yT es env).findIdx? (·.1)=none:=by
 intro es;induction es with
 |nil=>
  intro l σ h;induction l using bO with
  |nil=>exact⟨rfl,rfl⟩|cons=>exact nS h
 |cons e es ih=>
  intro l σ h;induction l using bO with
  |nil=>exact nS h
  |cons p l=>
   refine aj h λz e h=>aj h λσ₁ h1 h2=>AI (m:=λe=>(yT (e::es) env).length=_/\(yT (e::es) env).findIdx? (·.1)=none) e λpos=>?_;have i:=ih h2;refine⟨af jq i.1,?_⟩;show List.findIdx? (·.1) ((false,uT (.Name z pos) env)::yT es env)=none;erw[List.findIdx?_cons];erw[i.2];rfl
theorem Mq(P:Ic St put env)(gr:∀{σ:S} {x:Pt c} {h':am} {k:∀b o,x.s.heap.get? b=some o->h'.get? b=some o},St σ x->St σ (x.grow h' x.s.toks k))(h:fY put t p σ=some σ')(s:St σ x)(r:Rd p x v)(k:∀y,St σ' y->Q () y.s):ai (ah pw c.w) A.A (uT t env v) Q E x.s:=by
 induction t using eu with
 |Name z pos=>exact SP (P h s r λy s' _=>k y s')
 |Tuple es n pos=>
  revert r;refine aj h λl e h=>Hy e λr=>iT r λ{a n vs} e rl z=>?_;have f:=aa6 (env:=env) h;refine wpAny_assign_Tuple A.ok.handled (items:=vs.toArray) (Ai e) (by erw[f.1];erw[i4];erw[rl.length];rfl) f.2 λh' k'=>?_;exact aaK (x:=x.grow h' x.s.toks λb o e=>k' b o (gE (fB e)) e) P h (gr s) rl k
 |_=>exact nS h
structure C4(F:Fm)(x:Pt c)(σ:bj)(y:Pt c):Prop where
 v:bB F y σ
 o:jK F y
 w:∀g,Wr (tM F) g x y
theorem Ah{z:Str}{α:Type}{w:α}{σ σ':List (Str×α)}(h:hF F.nm z w σ=some σ'):(ak F.nm z=some .local\/ak F.nm z=some .cell)/\b9 σ z w=σ':=aL h λq h=>⟨q,ay h⟩
theorem aar:Ic (λσ y=>C4 F x σ y) (hF F.nm) F.env:=λh s r k=>by
 refine dU (Ah h) λq bY=>?_;subst bY;exact MO s.v.cR s.o q λy S=>k y ⟨S.vars s.v r,S.r,λg=>(s.w g).trans (S.wr g)⟩ (S.wr 0).sub
theorem Rz{σ σ':bj}(h:fY (hF F.nm) t p σ=some σ')(X:bB F x σ)(Y:jK F x)(r:Rd p x v)(k:∀y,C4 F x σ' y->Q () y.s):ai (ah pw c.w) A.A (uT t F.env v) Q E x.s:=
 Mq (St:=λσ y=>C4 F x σ y) aar (λ{σ y h' k} s=>⟨s.v.le (y.cG k),s.o.le s.v (y.cG k),λg=>(s.w g).trans ⟨rfl,(y.cG k).e.ny⟩⟩) h ⟨X,Y,λg=>.refl⟩ r k
theorem Wj{σ':bj}{z:Str}{q:PV}:∀{es:List Expr} {l:List PV} {σ:bj},Bo (hF F.nm) es l σ=some σ'->z∉es.filterMap iB->ak σ z=some q->ak σ' z=some q:=by
 intro es;induction es with
 |nil=>
  intro l σ h _ e;induction l using bO with
  |nil=>exact ay h▸e|cons=>exact nS h
 |cons e es ih=>
  intro l σ h n e';induction l using bO with
  |nil=>exact nS h
  |cons p l=>
   refine aj h λz' e h=>aj h λσ₁ h1 h2=>?_;rw[Ch,e] at n;refine dU (Ah h1) λ_ bY=>?_;subst bY;exact ih h2 (λm=>n (.tail _ m)) ((wi.trans (iN λq=>n (jO.mpr (.inl q)))).trans e')
theorem Mp{σ σ':bj}{z:Str}{q:PV}(h:fY (hF F.nm) t p σ=some σ')(f:lD t σ=true)(e:ak σ z=some q):ak σ' z=some q:=by
 have n:z∉vH t:=λm=>by have:=b7 f z m;rw[e] at this;injection this
 induction t using eu with
 |Name z' pos=>refine dU (Ah h) λ_ bY=>?_;subst bY;exact(wi.trans (iN λq=>n (Gi.mpr q))).trans e|Tuple es k pos=>exact aj h λl _ h=>Wj h n e|_=>exact nS h
end
end
section
variable{c:Cx}{x y:Pt c}{d:Nat}{A:Am d}{F:Fm}{σ:bj}{sc:fk}{α:Type}{D I:ao}{ys here:List PV}{W:ao->Prop}{elt:Expr}{gens:List jL}{pos:Pos}
section
variable{env:Env}{nm:aN}{z q:Str}{a:ao}{h:am}{acc cs:List (Str×ao)}
theorem wo{l:List (Str×α)}{v:α}:Ci z ((q,v)::l)=if z=q then some v else l.lookup z:=by
 erw[FF];by_cases e:z=q
 ·refine aa (iP e) (aa (jZ e) ?_);rfl
 ·refine aa (iN e) (aa (kH e) ?_);rfl
theorem gL{l:List (Str×α)}{v:α}(h:ak l z=some v):(z,v)∈l:=by
 induction l with
 |nil=>exact nS h
 |cons p r ih=>
  obtain⟨y,u⟩:=p;by_cases e:y=z
  ·exact e▸ay ((iP e).symm.trans h)▸ .head _
  ·exact .tail _ (ih ((iN e).symm.trans h))
noncomputable def iY(env:Env):aN->List (Str×ao)->List (Str×ao)
 |[],acc=>acc|(n,k)::r,acc=>if k==.free then iY env r ((n,(env.cells.lookup n).getD 0)::acc) else iY env r acc
theorem Qk(h:∀p∈sc.names,p.2=.free->(env.cells.lookup p.1).isSome=true):closureFor sc env=pure (iY env sc.names []):=by
 have go:∀(names:aN) (acc:List (Str×ao)),(∀p∈names,p.2=.free->(env.cells.lookup p.1).isSome=true)->
   (forIn names acc λ(x:Str×gU) (cs:List (Str×ao))=>(if x.2==.free then do let a<-cellOf env x.1;pure (uU ((x.1,a)::cs)) else pure (uU cs):Sem (ForInStep (List (Str×ao)))))=pure (iY env names acc):=by
  intro names;induction names with
  |nil=>intro acc _;rfl
  |cons p r ih=>
   intro acc hp;obtain⟨n,k⟩:=p;rw[wO];show _=pure (if(k==.free)=true then iY env r ((n,(env.cells.lookup n).getD 0)::acc) else iY env r acc);by_cases q:(k==.free)=true
   ·refine dJ (tG.mp (hp (n,k) (.head _) (a5 q))) λc hc=>?_;rw[iP q,iP q,hc,show cellOf env n=pure c by unfold cellOf;erw[hc];rfl];exact ih _ λp h=>hp p (.tail _ h)
   ·exact aa (iN q) (aa (iN q) (ih _ λp h=>hp p (.tail _ h)))
 have:=go sc.names [] h;unfold closureFor
 first
  |exact this
  |(rw[this];rfl)
  |(simp only[] at this⊢;erw[this];rfl)
theorem Ng:∀{names:aN} {acc:List (Str×ao)},(∀n,(n,Cj)∈names->(env.cells.lookup n).isSome=true)->(iY env names acc).lookup z=some a->env.cells.lookup z=some a\/acc.lookup z=some a:=by
 intro names;induction names with
 |nil=>exact λ_ h=>.inr h
 |cons p r ih=>
  intro acc hp h;obtain⟨n,k⟩:=p;have ve:=λn m=>hp n (.tail _ m);by_cases q:(k==.free)=true
  ·refine(ih ve ((af (Ci z) (iP q)).symm.trans h)).elim .inl λe=>?_;rw[wo] at e;by_cases y:z=n
   ·refine dJ (tG.mp (hp n (a5 q▸ .head _))) λb hb=>?_;rw[iP y,hb] at e;exact .inl (y▸hb.trans e)
   ·exact .inr ((iN y).symm.trans e)
  ·exact ih ve ((af (Ci z) (iN q)).symm.trans h)
theorem EU:∀{names:aN} {acc:List (Str×ao)},(acc.lookup z).isSome=true\/(z,Cj)∈names->((iY env names acc).lookup z).isSome=true:=by
 intro names;induction names with
 |nil=>exact λh=>h.elim id λh=>nomatch h
 |cons p r ih=>
  intro acc h;obtain⟨n,k⟩:=p;by_cases q:(k==.free)=true
  ·refine mF (af (λl=>(Ci z l).isSome=true) (iP q)) (ih (aa (wo) ?_));by_cases y:z=n
   ·erw[iP y];exact .inl rfl
   ·exact aa (iN y) (h.imp id λm=>(bw m).elim (λe=>absurd (af wP e) y) id)
  ·refine mF (af (λl=>(Ci z l).isSome=true) (iN q)) (ih (h.imp id λm=>(bw m).elim (λe=>absurd (jZ (af oz e).symm) q) id))
structure aax(h:am)(acc:List (Str×ao))(names:aN)(cs:List (Str×ao))(h':am):Prop where
 keep:∀b o,h.get? b=some o->h'.get? b=some o
 cell:∀x c,cs.lookup x=some c->∃v,h'.IsCell c v
 inj:∀x y c,cs.lookup x=some c->cs.lookup y=some c->x=y
 new:∀x c,cs.lookup x=some c->acc.lookup x=some c\/h.objs.size<=c
 own:∀x,(x,tv)∈names->∃c,cs.lookup x=some c/\h.objs.size<=c
 old:∀x,(x,tv)∉names->cs.lookup x=acc.lookup x
noncomputable def Fj:Obj:={cls:=.type "cell",data:=.cell none}
theorem laid(names:aN):∀(h:am) (acc:List (Str×ao)),(∀x c,acc.lookup x=some c->∃v,h.IsCell c v)->(∀x y c,acc.lookup x=some c->acc.lookup y=some c->x=y)->
  aax h acc names (Ck h.objs.size names acc) (pushCells h names):=by
 induction names with
 |nil=>exact λh acc a b=>⟨λ_ _ e=>e,a,b,λ_ _ e=>.inl e,λ_ e=>(nomatch e),λ_ _=>rfl⟩
 |cons p r ih=>
  intro h acc a b;obtain⟨n,k⟩:=p;unfold Ck pushCells;by_cases q:(k==.cell)=true
  ·refine aa (iP q) (aa (iP q) ?_);have lt:∀x c,acc.lookup x=some c->c<h.objs.size:=λx c e=>by refine dJ (a x c e) λv i=>?_;exact i.lt
   have two:∀{z c} {P:Prop},((n,h.objs.size)::acc).lookup z=some c->(z=n->c=h.objs.size->P)->(acc.lookup z=some c->P)->P:=λ{z c P} e k1 k2=>by
    rw[wo] at e;by_cases y:z=n
    ·exact k1 y (ay ((iP y).symm.trans e)).symm
    ·exact k2 ((iN y).symm.trans e)
   have L:=ih (h.push Fj) ((n,h.objs.size)::acc) (λx c e=>two e (λ_ e=>e▸(de none _ (ft _ rfl) rfl)) λe=>by obtain⟨v,i⟩:=a x c e;exact⟨v,i.keeps λb o e=>c5 _ e⟩)
    λx y c e1 e2=>two e1 (λz1 e=>two e2 (λz2 _=>z1.trans z2.symm) λe2=>absurd (e▸lt _ _ e2) (cV _)) λe1=>two e2 (λ_ e=>absurd (e▸lt _ _ e1) (cV _)) (b x y c e1)
   rw[show(h.push Fj).objs.size=h.objs.size+1 from oA ..] at L;refine⟨λb o e=>L.keep b o (c5 _ e),L.cell,L.inj,λx c e=>(L.new x c e).elim (λe=>two e (λ_ e=>.inr (aD e.symm)) .inl) λl=>.inr (aq (iH _) (aq (aD (oA h Fj).symm) l)),λx e=>?_,λx e=>?_⟩
   ·by_cases m:(x,tv)∈r
    ·exact aB (L.own x m) λc e1 e2=>(az c e1 (aq (iH _) (aq (aD (oA h Fj).symm) e2)))
    ·exact aa (L.old x m) (aa (wo) ((bw e).elim (λe=>(az _ (iP (af wP e)) (bf _))) λe=>absurd e m))
   ·refine aa (L.old x λz=>e (.tail _ z)) (aa (wo) ?_);rw[iN];rintro rfl;exact e (a5 q▸ .head _)
  ·refine aa (iN q) (aa (iN q) ?_);have L:=ih h acc a b;exact⟨L.keep,L.cell,L.inj,L.new,λx e=>(bw e).elim (λe=>absurd (jZ (af oz e).symm) q) (L.own x),λx e=>L.old x λz=>e (.tail _ z)⟩
structure t7(nm:aN)(sc:fk):Prop where
 kind:sc.kind=.function
 ng:pH sc.names=false
 one:∀x k,(x,k)∈sc.names->ak sc.names x=some k
 free:∀x,(x,Cj)∈sc.names->(ak nm x=some .cell\/ak nm x=some .free)/\x≠("__classdict__":Str)
theorem H'(h:Bk nm sc=true):t7 nm sc:=by
 have h1:=aW h;have h3:=aW h1.1;have h2:=b7 h1.2;refine⟨a5 h3.1,tu _▸h3.2,λx k m=>a5 (aW (h2 _ m)).1,λx m=>?_⟩;have k:=aW (aW (h2 _ m)).2;exact⟨(mq k.1).imp a5 a5,bne_iff_ne.mp k.2⟩
noncomputable def tT(env:Env)(x:Str):Option gU->Option gU
 |some .free=>if env.kindOf x=some .cell then some .cell else some .free
 |k=>k
theorem HY:tT env z (some .free)=some .cell\/tT env z (some .free)=some .free:=by
 by_cases e:env.kindOf z=some .cell
 ·exact .inl (iP e)
 ·exact .inr (iN e)
theorem ZU(hk:env.scope.kind=.function):∀{names:aN},
  (names.map λ(n,k)=>if(k==Cj&&env.scope.kind==.function&&env.kindOf n==some .cell) then(n,tv) else(n,k)).lookup z=tT env z (ak names z):=by
 intro names;induction names with
 |nil=>rfl
 |cons p r ih=>
  obtain⟨n,k⟩:=p;have one:(if(k==Cj&&env.scope.kind==.function&&env.kindOf n==some .cell)=true then(n,tv) else(n,k))=(n,(tT env n (some k)).getD k):=by
   erw[hk];by_cases q:k=.free
   ·subst q;by_cases z:env.kindOf n=some .cell
    ·erw[z];unfold tT;erw[iP z];rfl
    ·unfold tT;erw[iN z];rw[iN];rfl;exact λh=>z (a5 (aW h).2)
   ·erw[kH q];cases k<;>first|rfl|exact absurd rfl q
  erw[oB];show Ci z ((if _ then _ else _)::_)=_;refine aa (one) (aa (wo) (aa (ih) ?_));show _=tT env z (if n=z then some k else ak r z);by_cases e:n=z
  ·refine aa (iP e) (aa (iP e.symm) (aa (e) ?_));cases k<;>first|rfl|exact HY.elim (λe=>by erw[e];rfl) λe=>by erw[e];rfl
  ·refine aa (iN e) (aa (iN (gV e)) ?_);rfl
theorem Nw{p:PV}(h:ak (mw sc σ) z=some p):ak σ z=some p/\ak sc.names z=some .free:=by
 induction σ with
 |nil=>exact nS h
 |cons q r ih=>
  obtain⟨y,u⟩:=q;unfold mw at h ih;rw[List.filter_cons] at h;show(if y=z then some u else ak r z)=some p/\_;by_cases k:(ak sc.names y==some .free)=true
  ·replace h:=(af (λl=>ak l z) (iP k)).symm.trans h;by_cases e:y=z
   ·exact⟨(iP e).trans ((iP e).symm.trans h),e▸a5 k⟩
   ·have i:=ih ((iN e).symm.trans h);exact⟨(iN e).trans i.1,i.2⟩
  ·have i:=ih ((af (λl=>ak l z) (iN k)).symm.trans h);exact⟨(iN λe=>k (jZ ((af (ak sc.names) e).trans i.2))).trans i.1,i.2⟩
def xS(env:Env)(sc:fk)(L:ao):Env:=
 {scope:=relabel sc env,locals:=L,globals:=env.globals,cells:=Ck (L+1) sc.names (iY env sc.names []),qual:=env.qual,func:=none,code:=env.code,frame:=env.frame,builtins:=env.builtins}
noncomputable def BV:Obj:={cls:=.type "dict",data:=.dict #[]}
def E3(x:Pt c)(sc:fk):am:=pushCells (x.s.heap.push BV) sc.names
structure MG(F:Fm)(x:Pt c)(σ:bj)(sc:fk)(G:Fm)(y:Pt c):Prop where
 env:G.env=xS F.env sc x.s.heap.objs.size
 nm:G.nm=sc.names
 s:y.s={x.s with heap:=E3 x sc}
 le:Le x y
 v:bB G y (mw sc σ)
 o:jK G y
 new:∀b,tM G b->x.s.heap.get? b=none
 old:∀b,dq G.env b->(∃x,F.env.cells.lookup x=some b)\/x.s.heap.objs.size<=b
theorem Dk{h:am}(l:h.objs.size<=a):h.get? a=none:=by
 cases q:h.get? a with
 |none=>rfl|some o=>exact absurd (fB q) (gK l)
theorem Di(X:t7 F.nm sc)(n:Str)(m:(n,Cj)∈sc.names):(F.env.cells.lookup n).isSome=true:=(F.cells n (X.free n m).1 (X.free n m).2).2
theorem YA(X:bB F x σ)(S:t7 F.nm sc):∃G y,MG F x σ sc G y:=by
 have w9:∀{z a},(iY F.env sc.names []).lookup z=some a->F.env.cells.lookup z=some a:=λe=>(Ng (Di S) e).elim id λe=>nS e;have L:=laid sc.names (x.s.heap.push BV) (iY F.env sc.names []) (λz a e=>by
  obtain⟨v,i⟩:=X.cR z a (w9 e);exact⟨v,i.keeps λb o e=>c5 _ e⟩) λz q a e1 e2=>F.apart z q a (w9 e1) (w9 e2)
 rw[show(x.s.heap.push BV).objs.size=x.s.heap.objs.size+1 from oA ..] at L;have ge:∀{a:Nat},(x.s.heap.push BV).objs.size<=a->x.s.heap.objs.size<a:=λl=>ba (i5 _) (aq (aD (oA x.s.heap BV).symm) l);have kind:∀z,(xS F.env sc x.s.heap.objs.size).kindOf z=tT F.env z (ak sc.names z):=λz=>ZU F.kind;have look:∀{z a},(xS F.env sc x.s.heap.objs.size).cells.lookup z=some a->F.env.cells.lookup z=some a\/x.s.heap.objs.size<a:=λ{z a} e=>(L.new z a e).imp w9 ge;have Gu:∀{z},ak sc.names z=some .free->(z,tv)∉sc.names:=λe m=>nomatch (S.one _ _ m).symm.trans e;have lt:∀{z a},F.env.cells.lookup z=some a->a<x.s.heap.objs.size:=λ{z a} e=>by refine dJ (X.cR z a e) λv i=>?_;exact i.lt
 have keep:∀b o,x.s.heap.get? b=some o->(E3 x sc).get? b=some o:=λb o e=>L.keep b o (c5 _ e);have free:∀{a:Nat},x.s.heap.objs.size<=a->bW (x.grow (E3 x sc) x.s.toks keep) a:=λl=>by
  have f:=x.free l (Dk l);exact⟨f.f,f.h₀,f.hi⟩
 let G:Fm:={
  env:=xS F.env sc x.s.heap.objs.size,nm:=sc.names,kind:=S.kind,glob:=F.glob,blt:=F.blt,code:=λg=>nomatch S.ng.symm.trans g
  names:=λz e=>(kind z).trans (by erw[e];rfl)
  cells:=λz e n=>by
   rw[kind];rcases e with e|e
   ·refine aB (L.own z (gL e)) λa e' _=>aa (e) ?_;exact⟨.inl rfl,tG.mpr ⟨a,e'⟩⟩
   ·exact aa (e) (⟨HY,(af Option.isSome (L.old z (Gu e))).trans (EU (.inr (gL e)))⟩)
  jf:=⟨x.ke (bf _),λz a e=>(look e).elim (F.jf.2 z a) λl=>x.ke (cy l)⟩
  cl:=λz a e q=>(look e).elim (λe=>cV _ (i6 (lt e) q.symm)) λl=>cV _ (i6 l q)
  apart:=L.inj}
 refine⟨G,x.grow (E3 x sc) x.s.toks keep,rfl,rfl,rfl,x.cG _,⟨L.cell,λz p e=>?_⟩,⟨⟨_,(am.Ns.new x.s.heap (.type "dict")).keeps L.keep⟩,free (bf _),λz e=>(kind z).trans (by erw[(e:ak sc.names z=some .local)];rfl),λz e=>?_⟩,λb q=>?_,λb q=>?_⟩
 ·refine dU (Nw e) λe1 e2=>aB (X.var z p e1) λv V r=>dU (S.free z (gL e2)) λa b=>?_;have k:=F.cells z a b;rcases V with V|⟨_,a',e3,i⟩
  ·rw[V.1] at k;nomatch k.1
  ·refine(az v (.inr ⟨?_,a',?_,i.keeps keep⟩) r)
   ·show(xS F.env sc x.s.heap.objs.size).kindOf z=some .cell\/(xS F.env sc x.s.heap.objs.size).kindOf z=some .free/\_;rw[kind,e2];exact HY.imp id λe=>⟨e,kH b⟩
   ·exact dJ (tG.mp (EU (env:=F.env) (acc:=[]) (.inr (gL e2)))) λa'' e4=>(L.old z (Gu e2)).trans (e4.trans ((w9 e4).symm.trans e3))
 ·exact aB (L.own z (gL e)) λa e1 l=>⟨(kind z).trans (by erw[(e:ak sc.names z=some .cell)];rfl),a,e1,free (cy (ge l))⟩
 ·rcases q with rfl|⟨z,e1,e2⟩
  ·exact eQ _
  ·exact aB (L.own z (gL e1)) λa e3 l=>Dk (ay (e3.symm.trans e2)▸cy (ge l))
 ·rcases q with rfl|⟨z,e⟩
  ·exact .inr (bf _)
  ·exact(look e).imp (λe=>⟨z,e⟩) cy
theorem Zf{M:f4}{A:bh}{E:ac->ag->Prop}{Q:Env->ag->Prop}(X:bB F x σ)(S:t7 F.nm sc)(h:∀G y,MG F x σ sc G y->∀Gw,{Gw with scope:=relabel sc F.env}=G.env->Gw.locals=G.env.locals->Q Gw y.s):
  ai M A (SQ sc F.env.globals (iY F.env sc.names []) [] F.env.qual none .none (some F.env)) Q E x.s:=by
 refine jU (YA X S) λG y K=>?_;unfold SQ;refine ae (wpAny_alloc (ae (wpAny_layCells _ (λname kind cells=>by cases hkc:kind==tv<;>simp[hkc]) _ _ _ _ ?_)));simp only[Option.isSome_some,if_true,yU,pure_bind];refine au ?_;have h:=h G y K;rw[K.s,K.env] at h;refine h _ ?_ rfl;rw[oA];rfl
end
def qP:Expr->Bool:=EA.on {d:=false,AK:=λ_ _ _=>true,lc:=λ_ _=>true,ym:=λ_ _ _ _=>true,BH:=λ_ _ _=>true,B3:=λ_ _ _=>true,Jv:=λ_ _ _ _=>true,AA:=λ_ _ _ _=>true,E9:=λ_ _ _=>true,wn:=λ_ _=>true,uI:=λ_ _ _=>true,xY:=λ_ _ _ _=>true,uJ:=λ_ _ _=>true,vX:=λ_ _ _=>true,uF:=λ_ _ _ _=>true}
structure aX(c:Cx)(d:Nat)(I:Ip):Prop where
 ni:∀{nm σ e p},I.e nm σ e=some p->qP e=true
 tup:∀{nm σ es k ps p},I.e nm σ (.Tuple es k ps)=some p->∀e∈es,iq e=false
 lst:∀{nm σ es ps p},I.e nm σ (.List es ps)=some p->∃l,p=.list l
 ev:∀{A:Am d} {x:Pt c} {F:Fm} {σ e p},I.e F.nm σ e=some p->bB F x σ->aE A (eval e F.env) x (Rd p)
 te:∀{A:Am d} {x:Pt c} {F:Fm} {σ e b},I.t F.nm σ e=some b->bB F x σ->aE A (isTrue e F.env (eval e F.env)) x (Is b)
def Ov(c:Cx)(d:Nat):Prop:=∀{β:Type} {k:List PV->Option β} {r:β} {v:ac} {p:PV} {A:Am d} {x:Pt c},over p k=some r->Rd p x v->∃xs,k xs=some r/\qJ A (gk v) x xs
theorem abU{p:PV}{l:List PV}(h:yf p=some l):over p some=some l:=by
 induction p using dg with
 |set=>exact nS h|_=>exact(af (λo:Option (List PV)=>o.bind some) h)
theorem AU{e:Expr}(h:qP e=true)(env:Env)(v:ac):foldedSetIterable e env v=pure v:=by
 cases e<;>first|rfl|exact absurd h dy
theorem z8{e:Expr}(h:qP e=true):iq e=false:=by
 cases e<;>first|rfl|exact absurd h dy
theorem ϧ{e:Expr}{op:iF}(h:qP e=true):behindInMarks op e=false:=by
 cases e<;>first|rfl|exact absurd h dy
noncomputable def Er(env:Env)(ifs:List Expr):Sem Bool:=forIn ifs true λc r=>if r=true then do let ok<-isTrue c env (eval c env);pure (uU ok) else pure (uU r)
noncomputable def xI(elt:Expr)(gens:List jL)(sc:fk)(pos:Pos)(k:Nat)(acc:ac)(env:Env):Sem Unit:=match gens[k+1]? with
 |some g'=>do
  let x<-eval g'.iter env
  standAt g'.iter.pos
  let x<-foldedSetIterable g'.iter env x
  let it<-yV [x] (gk x)
  let _<-runOwn (.compStart (.ListComp elt gens sc pos) (k+1) it acc env) env
  pure ()
 |none=>do let _<-bC (.builtin "list.append") [acc,<-eval elt env]
theorem compTurn_gen{env:Env}{sc:fk}{elt:Expr}{gens:List jL}{pos:Pos}{k:Nat}{g:jL}{it acc:ac}(h:gens[k]?=some g)(h0:g.is_async=0)(h':∀g,gens[k+1]?=some g->g.is_async=0):
  Cm (.ListComp elt gens sc pos) k it acc env=(do
   standAt g.iter.pos
   match<-gm it with
   |none=>pure (.done .next)
   |some v=>
    yR g.target it v
    uT g.target env v
    let ok<-Er env g.ifs
    if ok=true then xI elt gens sc pos k acc env else pure ()
    again (.compLoop (.ListComp elt gens sc pos) k it acc env)):=by
 obtain⟨t,iter,ifs,n⟩:=g;cases h0;unfold Cm;dsimp only;erw[h];unfold Er xI;dsimp only;congr 1;funext _;show(gm it>>=_)=(gm it>>=_);congr 1;funext r;induction r using qa with
 |none=>rfl
 |some v=>
  dsimp only;congr 1;funext _;congr 1;funext _;congr 1;funext ok;induction ok using jm with
  |false=>rfl
  |true=>
   refine aa (iP rfl) (aa (iP rfl) ?_);cases e:gens[k+1]? with
   |none=>simp|some g'=>simp[h' g' e]
section
variable{z:Pt c}{σ':bj}{v:ac}{p:PV}{K:ao->Prop}{g:Nat}{Ip:Ip}{es:List Expr}{b:Bool}{k:Nat}
theorem Η{env:Env}:(forIn es false λ(c:Expr) (r:Bool)=>if r=true then do let ok<-isTrue c env (eval c env);pure (uU ok) else pure (uU r):Sem Bool)=pure false:=by
 induction es with
 |nil=>rfl|cons x r ih=>rw[wO];simp only[yW,if_false,pure_bind];exact ih
theorem adu(S:aX c d Ip):∀{x:Pt c},pZ (Ip.t F.nm σ) false es=some b->bB F x σ->aE A (Er F.env es) x (Is b):=by
 induction es with
 |nil=>exact λh X=>oI h (.pure rfl)
 |cons e r ih=>
  intro x h X;refine aj h λc h1 h2=>?_;unfold Er;rw[wO];simp only[if_true,bind_assoc,pure_bind];refine aE.bind (S.te h1 X) λv y l q=>?_;have q:v=c:=q;subst q;induction v using jm with
  |false=>exact oI h2 (mF (af (λt=>aE A t y (Is false)) Η) (.pure rfl))|true=>exact ih h2 (X.le l)
structure gA(F:Fm)(D:ao)(x:Pt c)(σ:bj)(ys:List PV):Prop where
 v:bB F x σ
 o:jK F x
 d:∃vals n,x.s.heap.get? D=some (bu vals n)/\bt ys x vals
 fd:bW x D
 nd:¬dq F.env D
def Zn(F:Fm)(D b:ao):Prop:=tM F b\/b=D
theorem bW.step{b:ao}(n:bW x b)(l:br W g x y)(t:∃o,x.s.heap.get? b=some o)(h:¬W b):bW y b:=by
 refine⟨?_,n.h₀,n.hi⟩;cases e:y.f b with
 |none=>rfl|some o=>exact(l.new b o e).elim (λq=>nS (n.f.symm.trans q)) λq=>q.elim (λq=>t.elim λo' q'=>nS (q.symm.trans q')) λq=>absurd q h
theorem gA.at(C:gA F D x σ ys):∃o,x.s.heap.get? D=some o:=by refine eJ C.d λ_ _ e _=>?_;exact⟨_,e⟩
theorem gA.yB(C:gA F D x σ ys){a:ao}(h:dq F.env a\/a=D):∃o,x.s.heap.get? a=some o:=by
 rcases h with(rfl|⟨z,e⟩)|rfl
 ·refine tU C.o.ns λm o es ep e _=>?_;exact⟨o,e⟩
 ·refine eJ (C.v.cR z a e) λv o e _=>?_;exact⟨o,e⟩
 ·exact C.at
theorem gA.step(C:gA F D x σ ys)(l:br W g x y)(h:∀b,W b->¬dq F.env b/\b≠D):gA F D y σ ys:=by
 have kv:∀b o,dq F.env b->x.s.heap.get? b=some o->y.s.heap.get? b=some o:=λb o w e=>l.e.keep b o e (qF w) λq=>(h b q).1 w;have nw:∀b,W b->b=D->False:=λb q e=>(h b q).2 e;refine⟨C.v.keep kv l.sub,?_,?_,C.fd.step l C.at λq=>nw D q rfl,C.nd⟩
 ·refine⟨by obtain⟨m,n⟩:=C.o.ns;exact⟨m,n.at' λo e=>kv _ o (.inl rfl) e⟩,C.o.own.step l (C.yB (.inl (.inl rfl))) λq=>(h _ q).1 (.inl rfl),C.o.loc,λz e=>?_⟩;obtain⟨k1,a,b,n⟩:=C.o.kJ z e;exact⟨k1,a,b,n.step l (C.yB (.inl (.inr ⟨z,b⟩))) λq=>(h _ q).1 (.inr ⟨z,b⟩)⟩
 ·exact eJ C.d λvals n e r=>(de vals n (l.e.keep D _ e (cK C.fd.hi) λq=>nw D q rfl) (r.mono l.sub))
theorem gA.le(C:gA F D x σ ys)(l:Le x y):gA F D y σ ys:=C.step (W:=λ_=>False) (g:=0) l.st λ_ q=>q.elim
theorem gA.bound(C:gA F D x σ ys)(B:C4 F x σ' y):gA F D y σ' ys:=
 ⟨B.v,B.o,by refine eJ C.d λvals n e r=>?_;exact(de vals n ((B.w 0).e.keep D _ e (cK C.fd.hi) λq=>C.nd (nW q)) (r.mono (B.w 0).sub)),(B.w 0).free C.fd,C.nd⟩
theorem gA.append{E:ac->ag->Prop}{Q:ac->ag->Prop}(C:gA F D x σ ys)(r:Rd p x v)(hz:ys.length<aA)(h:∀y,gA F D y σ (ys++[p])->cH (Zn F D) x y->Q .none y.s):ai (ah pw c.w) A.A (bC (.builtin "list.append") [.ref D,v]) Q E x.s:=by
 refine eJ C.d λvals n e rl=>Ku (items:=vals.toArray) (hsz:=l8 (us:=[]) (m:=[]) rl (cy hz) (r':=.nil) rfl) ⟨n,e⟩ λh' hp hs=>?_;have nc:∀o,x.s.heap.get? D=some o->¬(o.cls=.type "code"/\∃vs,o.data=.fields vs):=λo e' k=>by
  obtain⟨_,vs,q⟩:=k;rw[<-ay (e.symm.trans e')] at q;injection q
 have w:Wr (Zn F D) x.s.gens.size x (x.but (t:=x.s.toks) hs C.fd nc):=.but (.inr rfl);have kv:∀b o,dq F.env b->x.s.heap.get? b=some o->h'.get? b=some o:=λb o q e'=>(hs.2 b λz=>C.nd (z▸q)).trans e';refine dJ hp λn' hp=>h (x.but (t:=x.s.toks) hs C.fd nc) ⟨C.v.keep kv λ_ _ e=>e,C.o.keep C.v.cR kv λb _ n _=>w.free n,(de (vals++[v]) n' (?_) (aR.append (.cons r .nil) rl)),w.free C.fd,C.nd⟩ w.st;show h'.get? D=_;erw[hp];rw[bu];congr;simp
def QK(A:Am d)(c:Cx)(F:Fm)(D:ao)(σ:bj)(ys here:List PV)(t:Sem Unit):Prop:=
 ∀(x:Pt c) Q E,gA F D x σ ys->(∀y,cH (Zn F D) x y->gA F D y σ (ys++here)->Q () y.s)->ai (ah pw c.w) A.A t Q E x.s
def ab5(A:Am d)(c:Cx)(F:Fm)(D:ao)(co:Code)(I:ao)(g:Nat)(σ:bj)(src ys out:List PV):Prop:=
 ∀(x:Pt c) (K:ao->Prop) (R:mL->ag->Prop),dG d I g src K x->(∀b,K b->¬dq F.env b/\b≠D)->g<=x.s.gens.size->gA F D x σ ys->
  (∀y,br (λb=>Zn F D b\/K b) g x y->gA F D y σ (ys++out)->R (.ok .next) y.s)->eO (ah pw c.w) A.A co R x.s
theorem NA(S:aX c d Ip){cl:jL}{body:bj->Option (List PV)}(hg:gens[k]?=some cl)(h0:cl.is_async=0)(hn:∀g,gens[k+1]?=some g->g.is_async=0)
(hb:∀{σ ys here},body σ=some here->ys.length+here.length<=aA->QK A c F D σ ys here (xI elt gens sc pos k (.ref D) F.env)):
  ∀{src ys out:List PV},qR body (Ip.t F.nm) F.nm cl.target cl.ifs σ src=some out->ys.length+out.length<=aA->ab5 A c F D (.compLoop (.ListComp elt gens sc pos) k (.ref I) (.ref D) F.env) I g σ src ys out:=by
 have Gr:∀{R:mL->ag->Prop} {x:Pt c},ai (ah pw c.w) A.A (Cm (.ListComp elt gens sc pos) k (.ref I) (.ref D) F.env) (λfin s'=>match fin with
   |.done f=>R (.ok f) s'|.again c'=>c'.quiet=true/\eO (ah pw c.w) A.A c' R s') No x.s->eO (ah pw c.w) A.A (.compLoop (.ListComp elt gens sc pos) k (.ref I) (.ref D) F.env) R x.s:=λ{R x} h=>by
  refine FG ?_;show ai _ A.A ((Cm (.ListComp elt gens sc pos) k (.ref I) (.ref D) F.env).onRaise (λx=>do noteFrame x F.env;theTreesLotGoes x)) _ _ x.s;exact wpAny_noted (cQ h (λ_ _ z=>z) λ_ _ z=>z.elim)
 intro src;induction src with
 |nil=>
  intro ys out h hz x K R i hK Lx C q;refine Gr ((compTurn_gen hg h0 hn).symm▸ae (jr (ae (i.done A λz st=>au (q z (st.weaken λ_=>.inr) ?_)))));cases ay h;exact(gO ys).symm▸C.step st hK
 |cons p src ih=>
  intro ys out h hz x K R i hK Lx C q;refine bE λgG hG=>aL h λhf h=>aj h λσ' ry h=>aj h λok hi h=>aj h λhr hh h=>aB (tE.mp h) λmore hm bZ=>?_;subst bZ;rw[da,<-fC] at hz;refine hG (Gr ((compTurn_gen hg h0 hn).symm▸ae (jr (ae (i.next A λv K' z r i' st up dn=>?_)))));have kG:∀b,K' b->¬dq F.env b/\b≠D:=λb q=>(dn b q).elim (hK b) λn=>⟨λw=>(C.yB (.inl w)).elim λo e=>nS (n.symm.trans e),λw=>(C.yB (.inr w)).elim λo e=>nS (n.symm.trans e)⟩;have nz:∀b,K' b->¬Zn F D b:=λb q w=>w.elim (λw=>(kG b q).1 (nW w)) (kG b q).2;have Cz:=C.step st hK;refine ae (i'.go A (ae (Rz ry Cz.v Cz.o r λy B=>?_)));have Cy:=Cz.bound B;have ahk:cH (Zn F D) z y:=(B.w _).st.weaken λ_=>.inl;have rest:∀{y},cH (Zn F D) z y->gA F D y σ' (ys++hr)->ai (ah pw c.w) A.A (again (.compLoop (.ListComp elt gens sc pos) k (.ref I) (.ref D) F.env)) (λfin s'=>match fin with
   |.done f=>R (.ok f) s'
   |.again c'=>c'.quiet=true/\eO (ah pw c.w) A.A c' R s') No y.s:=λ{y} L C=>
   au ⟨rfl,ih hm (by erw[da];exact hz) y K' R (i'.later (L.later i'.live nz)) kG (aq Lx (aq st.e.dm L.e.dm)) {C with v:=C.v.weaken λz p e=>Mp ry hf e} λw sw Cw=>q w
    (((st.weaken λb q=>.inr (up b q)).trans (((L.lower (aq Lx st.e.dm) (bf _)).weaken λ_=>.inl).trans sw)).shrink λb q=>q.elim (λq=>.inl (.inl q)) λq=>(dn b q).imp .inr id) (kx ..▸Cw)⟩
  refine ae (adu S hi Cy.v _ _ λb' w l e=>?_);have e:b'=ok:=e;subst e;have Cw:=Cy.le l;have Uk:cH (Zn F D) z w:=ahk.trans l.st;cases b' with
  |false=>
   refine bE λgG hG=>?_;cases ay hh;exact hG (rest Uk ((gO ys).symm▸Cw))
  |true=>exact ae (hb hh (aq (cW _ _) hz) w _ _ Cw λu L Cu=>rest (Uk.trans L) Cu)
theorem QL{w:cO}{A:bh}{s:ag}{env:Env}{R:mL->ag->Prop}{it:ac}{acc:ac}{g:jL}(hg:gens[k]?=some g)(hs:g.is_async=0)
(h0:eO (ah pw w) A (.compLoop (.ListComp elt gens sc pos) k it acc env) R s)
(h:ai (ah pw w) A (gk it) (λvf s'=>eO (ah pw w) A (.compLoop (.ListComp elt gens sc pos) k vf acc env) R s') No s):
  eO (ah pw w) A (.compStart (.ListComp elt gens sc pos) k it acc env) R s:=by
 refine FG ?_;show ai _ _ ((Kv (.ListComp elt gens sc pos) k it acc env).onRaise (λx=>do noteFrame x env;standAt theWindowsPlace)) _ _ s;refine wpAny_notedAt (cQ (E:=No) ?_ (λ_ _ z=>z) (λ_ _ z=>z.elim));unfold Kv;rw[show(clausesOf (.ListComp elt gens sc pos))[k]?=some g from hg];simp only[Option.elim_some,hs,bne_self_eq_false,yW,if_false];show ai _ _ (ask>>=_) _ _ s;refine ae (oC (wpAny_ite ?_));split
 ·first
   |exact ae (au (au (FH rfl h0)))
   |exact au (FH rfl h0)
 ·refine ae (uV (ae (jr (ae (cQ h (λvf s' h'=>au (FH rfl h')) λ_ _ x=>x)))))
end
section
variable{z:Pt c}{v:ac}{p:PV}{K:ao->Prop}{g:Nat}{Ip:Ip}{gs:List jL}{k:Nat}
theorem RW{l r:List α}{a:α}(h:l.drop k=a::r):l[k]?=some a/\l.drop (k+1)=r:=⟨(List.head?_drop).symm.trans (af List.head? h),(List.tail_drop).symm.trans (af List.tail h)⟩
theorem drop_nil{l:List α}(h:l.drop k=[]):l[k]?=none:=(List.head?_drop).symm.trans (af List.head? h)
theorem ad4(S:aX c d Ip)(ov:Ov c d):∀{gs:List jL} {k:Nat},gens.drop (k+1)=gs->(∀g∈gs,g.is_async=0)->∀{σ:bj} {ys here:List PV},sr Ip F.nm elt gs σ=some here->ys.length+here.length<=aA->QK A c F D σ ys here (xI elt gens sc pos k (.ref D) F.env):=by
 intro gs;induction gs with
 |nil=>
  intro k hd _ σ ys here h hz x Q E C q;refine fM h λp hp e=>?_;subst e;unfold xI;exact aa (drop_nil hd) (ae (S.ev hp C.v _ _ λv y l r=>ae ((C.le l).append r hz λz Cz L=>au (q z (cH.trans l.st L) Cz))))
 |cons g gs ih=>
  intro k hd h0 σ ys here h hz x Q E C q;obtain⟨e1,e2⟩:=RW hd;refine aj h λv hv h=>aj h λsrc hs h=>?_;unfold xI;erw[e1];dsimp only;refine ae (S.ev hv C.v _ _ λu y l r=>ae (jr ?_));rw[AU (S.ni hv)];refine aB (ov (A:=A) (abU hs) r) λxs Ly it=>?_;cases ay Ly;refine ae (au (ae (dO (it _ _ λz I K g' l' i hK Lz CM=>?_))));have Cz:=(C.le l).le l';have nz:∀b,K b->¬dq F.env b/\b≠D:=λb q=>⟨λw=>((C.le l).yB (.inl w)).elim λo e=>nS ((hK b q).symm.trans e),λw=>((C.le l).yB (.inr w)).elim λo e=>nS ((hK b q).symm.trans e)⟩;have hgx:x.s.gens.size<=g':=aq l.e.dm Lz;have loop:=NA (A:=A) (gens:=gens) (k:=k+1) (I:=I) (g:=g') (D:=D) (sc:=sc) (pos:=pos) (elt:=elt) S e1 (h0 g (.head _)) (λg' e=>by
   induction gs using bO with
   |nil=>exact nS ((drop_nil e2).symm.trans e)|cons LA gs=>exact ay ((RW e2).1.symm.trans e)▸h0 LA (.tail _ (.head _))) (ih e2 λg m=>h0 g (.tail _ m)) h hz z K (λr s'=>match r with|.ok f=>ai (ah pw c.w) A.A (pure ():Sem Unit) Q E s'|.error e=>cameBackBy (ah pw c.w) A.A F.env E e s') i nz CM Cz λw st Cw=>au (q w ((((l.trans l').st).trans (st.lower hgx CM)).shrink λb q=>q.imp id λq=>l.e.back (cK (i.live b q).1.hi) (hK b q)) Cw)
  exact ae (wpAny_runOwn (QL e1 (h0 g (.head _)) loop (i.self A loop)))
theorem H0{l:List (Str×α)}{z:Str}:l.lookup z=ak l z:=by
 induction l with
 |nil=>rfl
 |cons p r ih=>
  obtain⟨y,u⟩:=p;refine aa (wo) (aa (ih) ?_);show _=if y=z then some u else ak r z;by_cases e:y=z
  ·refine aa (iP e) (aa (iP e.symm) ?_);rfl
  ·refine aa (iN e) (aa (iN (gV e)) ?_);rfl
structure l6(x y:Pt c)(D:ao)(l:List PV):Prop where
 le:Le x y
 d:∃vals n,y.s.heap.get? D=some (bu vals n)/\bt l y vals
 len:l.length<=aA
 fr:bW y D
 nw:x.s.heap.get? D=none
structure Q5(x y:Pt c)(D C:ao):Prop where
 nw:x.s.heap.get? C=none
 ne:C≠D
 fr:bW y C
 ns:∃m,y.s.heap.Ns C m
theorem aaV{β:Type}{k:List PV->Option β}{r:β}{T:Prop}(h:over p k=some r)(t:∀src,k src=some r->T):T:=by
 unfold over at h;cases e:p.BR with
 |some l=>rw[e] at h;exact t _ (xF h (B6 l))
 |none=>rw[e] at h;exact aj h λsrc _ h=>t src h
theorem yG(h:ED Ip F.nm σ elt sc gens=some p):∃t it ifs gs l,gens=⟨t,it,ifs,0⟩::gs/\p=.list l:=by
 induction gens using bO with
 |nil=>exact nS h
 |cons g gs=>
  obtain⟨t,it,ifs,n⟩:=g;refine aL h λok h=>aj h λv hv h=>aaV h λsrc h=>aj h λl _ h=>aL h λ_ h5=>?_;cases(show n=0 from ok.2.1);exact(RO t it ifs gs l rfl ((ay h5).symm))
theorem DZ{t iter:Expr}{ifs:List Expr}{l:List PV}{Gx:Pos}{use:Option (ac->Sem Unit)}{Q E:ac->ag->Prop}(S:aX c d Ip)(ov:Ov c d)(h:ED Ip F.nm σ elt sc (⟨t,iter,ifs,0⟩::gs)=some (.list l))(X:bB F x σ)
(q:∀y D C,l6 x y D l->Q5 x y D C->compPost (ah pw c.w) A.A E use Q (.ref D) C (.ok .next) y.s):ai (ah pw c.w) A.A (comprehension (.ListComp elt (⟨t,iter,ifs,0⟩::gs) sc pos) sc F.env Gx (newList []) false (eval iter F.env) use) Q E x.s:=by
 refine aL h λok h=>aj h λv hv h=>?_;have So:=H' ok.1;have h0:∀g∈gs,g.is_async=0:=λg m=>a5 (aW (b7 ok.2.2 g m)).1;refine wpAny_comprehension_free (e:=.ListComp elt (⟨t,iter,ifs,0⟩::gs) sc pos) (use:=use) (cl:=iY F.env sc.names []) rfl (AU (S.ni hv) _) (Qk λz m e=>Di So z.1 (e▸m)) So.kind (λz m e=>H0.trans (So.one z.1 .local (e▸m))) (S.ev hv X _ _ λu ahQ l₁ ahl=>aB (ov (A:=A) h ahl) λxs Ly it=>aj Ly λout hc LB=>aL LB λhz LB=>?_);cases ay LB;refine it _ _ λgH I K g' l₂ i hK Lz CM=>uW ?_;have ahm:bB F (gH.push (bu [] 0) gH.s.toks) σ:=((X.le l₁).le l₂).le (gH.cG _);refine Zf (x:=gH.push (bu [] 0) gH.s.toks) ahm So λG CN C Gw hce w9=>aa (hce) (aa (w9) ?_);have sz:(gH.push (bu [] 0) gH.s.toks).s.heap.objs.size=gH.s.heap.objs.size+1:=oA ..;have zw:Le gH CN:=(gH.cG _).trans C.le;have ahn:Le x CN:=(l₁.trans l₂).trans zw;have Ul:∀{b:ao},dq G.env b->(∃z,F.env.cells.lookup z=some b)\/gH.s.heap.objs.size<b:=λw=>(C.old _ w).imp id λl=>ba (i5 _) (aq (aD sz.symm) l);have cell:∀{b:ao} {y:Pt c},Le x y->(∃z,F.env.cells.lookup z=some b)->∃o,y.s.heap.get? b=some o:=λl e=>dJ e λz e=>eJ ((X.le l).cR z _ e) λv o e _=>⟨o,e⟩;have nK:∀b,K b->¬dq G.env b/\b≠gH.s.heap.objs.size:=λb q=>dJ ((i.live b q).2) λo e=>⟨λw=>(Ul w).elim (λw=>(cell l₁ w).elim λo e=>nS ((hK b q).symm.trans e)) λl=>oD l (fB e),λw=>cV _ (w▸fB e)⟩;have fD:bW (gH.push (bu [] 0) gH.s.toks) gH.s.heap.objs.size:=by have f:=gH.free (bf _) (eQ _);exact⟨f.f,f.h₀,f.hi⟩
 have Um:dG d I g' xs K CN:=i.later (cH.later (W:=λ_=>False) zw.st i.live λ_ _=>id);have Cv:gA G gH.s.heap.objs.size CN (mw sc σ) []:=⟨C.v,C.o,(de ([]) 0 (C.le.e.keep _ _ (ft _ rfl) (gH.ke (bf _))) .nil),
  fD.le C.le ⟨_,ft _ rfl⟩,λw=>(Ul w).elim (λw=>(cell (l₁.trans l₂) w).elim λo e=>cV _ (fB e)) (cV _)⟩
 have loop:=NA (A:=A) (gens:=⟨t,iter,ifs,0⟩::gs) (k:=0) (I:=I) (g:=g') (D:=gH.s.heap.objs.size) (sc:=sc) (pos:=pos) (elt:=elt) S rfl rfl (λg e=>by
  induction gs using bO with
  |nil=>exact nS e|cons LA gs=>exact ay e▸h0 LA (.head _)) (ad4 (F:=G) (gens:=⟨t,iter,ifs,0⟩::gs) (gs:=gs) S ov rfl h0) (C.nm.symm▸hc) (by erw[Cn];rw[f5];exact hz) CN K (compPost (ah pw c.w) A.A E use Q (.ref gH.s.heap.objs.size) G.env.locals)
  Um nK (aq CM zw.e.dm) Cv λy st Cy=>by
   have fr:∀b,Zn G gH.s.heap.objs.size b\/K b->x.s.heap.get? b=none:=λb w=>w.elim (λw=>w.elim (λw=>((l₁.trans l₂).trans (gH.cG _)).e.back (qF (nW w)) (C.new b w)) λw=>(l₁.trans l₂).e.back (cK fD.hi|>λh=>w▸h) (w▸eQ _)) λw=>l₁.e.back (cK (i.live b w).1.hi) (hK b w);exact q y _ _ ⟨((ahn.st).trans (st.lower (aq l₁.e.dm Lz) (aq CM zw.e.dm))).le fr,Cy.d,hz,Cy.fd,fr _ (.inl (.inr rfl))⟩ ⟨fr _ (.inl (.inl (.inl rfl))),λe=>Cy.nd (.inl e.symm),Cy.o.own,Cy.o.ns⟩
 exact QL rfl rfl loop (Um.self A loop)
theorem l6.but{l:List PV}{C:ao}{h':am}(g:l6 x y D l)(k:Q5 x y D C)(hs:dD C y.s.heap h'):∃z,l6 x z D l/\z.s={y.s with heap:=h'}:=by
 refine dJ k.ns λm ns=>?_;have w:Wr (λb=>b=C) x.s.gens.size y (y.but (t:=y.s.toks) hs k.fr (I9 ns)):=.but rfl;exact eJ g.d λvals n e r=>(az _ ⟨(g.le.st.trans w.st).le λb e=>e▸k.nw,(de vals n ((hs.2 D k.ne.symm).trans e) r),g.len,w.free g.fr,g.nw⟩ rfl)
theorem l6.rd{l:List PV}{Q:ac->ag->Prop}(g:l6 x y D l)(k:∀v z,Le x z->Rd (.list l) z v->Q v z.s):Q (.ref D) y.s:=eJ g.d λvals n e r=>k (.ref D) (y.add D _ e (cK g.fr.hi)) (g.le.add e _ g.nw) (.list pJ (r.mono Pt.Aa) g.len)
theorem afa(S:aX c d Ip)(ov:Ov c d)(h:ED Ip F.nm σ elt sc gens=some p)(X:bB F x σ):aE A (eval (.ListComp elt gens sc pos) F.env) x (Rd p):=λQ E q=>by
 refine vr (yG h) λt it ifs gs l tI qe6=>?_;subst tI;subst qe6;rw[eval_ListComp];exact DZ (use:=none) S ov h X λy D C g k=>by
  obtain⟨m,ns⟩:=k.ns;exact(az m ns (λh' hs=>by refine aB (g.but k hs) λz g' e=>?_;exact e▸g'.rd q))
end
end
section
variable{c:Cx}{x y:Pt c}{d:Nat}{A:Am d}{F:Fm}{σ:bj}{O:aK}{p q r:PV}{v u g:ac}{I:Ip}{e l t b:Expr}{es args:List Expr}{kws:List fj}{ls vs fp:List PV}{ks:List (Str×PV)}{pos:Pos}{z m:Str}{bo:Bool}
def qD(c:Cx)(d:Nat)(g:ac)(vs:List PV)(ks:List (Str×PV))(p:PV):Prop:=∀{A:Am d} {x:Pt c} {us kv},bt vs x us->bI c x.f kv ks->aE A (bC g us kv) x (Rd p)
structure cg(c:Cx)(O:aK)(d:Nat):Prop where
 fn:∀{z vs ks p},O.fn z vs ks=some p->∃g,db c.w.params z=some g/\pE c.w.params g/\qD c d g vs ks p
 bM:∀{k fs m vs ks p},O.bM k m (.inst k fs::vs) ks=some p->ak fs m=none->∃g,wc (KL c.w.params) k m g=true/\qD c d (.ref g) (.inst k fs::vs) ks p
 AE:∀{k fs vs p},O.bM k "__call__" (.inst k fs::vs) []=some p->∀{A:Am d} {x:Pt c} {v us},Rd (.inst k fs) x v->bt vs x us->aE A (bC v us []) x (Rd p)
 attr:∀{k fs z p},O.attr k z (.inst k fs)=some p->ak fs z=none->∀{A:Am d} {x:Pt c} {v},Rd (.inst k fs) x v->aE A (uP v z true) x (Rd p)
 bin:∀{op k fs q p},O.bin op (.inst k fs) q=some p->∀{A:Am d} {x:Pt c} {v u},Rd (.inst k fs) x v->Rd q x u->aE A (mI op v u) x (Rd p)/\aE A (Kw op v u) x (Rd p)
 cmp:∀{op k fs q b},O.cmp op (.inst k fs) q=some b->∀{A:Am d} {x:Pt c} {v u},Rd (.inst k fs) x v->Rd q x u->aE A (jN op v u) x (Rd (.bool b))
 lt:∀{k fs q b},O.cmp .Lt (.inst k fs) q=some b->∃g,fN (KL c.w.params) (.ref k) "__lt__"=some (some (.ref g))/\ou (KL c.w.params) (.ref g)=true/\∀{A:Am d} {x:Pt c} {v u},Rd (.inst k fs) x v->Rd q x u->aE A (bC (.ref g) [v,u]) x (Rd (.bool b))
structure oX(c:Cx)(O:aK)(d:Nat):Prop where
 QW:∀{A:Am d} {x:Pt c} {v u l m},Rd (.set l) x v->Rd (.set m) x u->aE A (mI .BitAnd v u) x (Rd (.set (l.filter λx=>m.contains x)))
 sum:∀{A:Am d} {x:Pt c} {v l i},qq l=some i->Rd (.list l) x v->aE A (bC (.builtin "sum") [v]) x (Rd (.int i))
 max:∀{A:Am d} {x:Pt c} {v l p},uy O l=some p->Rd (.list l) x v->aE A (bC (.builtin "max") [v]) x (Rd p)
 set:∀{A:Am d} {x:Pt c} {v p l},eH p setOf=some l->Rd p x v->aE A (bC (.type "set") [v]) x (Rd (.set l))
 inter:∀{A:Am d} {x:Pt c} {v u l m dW},qd m=some dW->Rd (.set l) x v->Rd (.list m) x u->aE A (bC (.builtin "set.intersection") [v,u]) x (Rd (.set (l.filter λx=>dW.contains (x:Int))))
 Rh:∀{A:Am d} {x:Pt c} {v l pl} {Q:ac×List ac->ag->Prop} {E},Rd (.set l) x v->Q (.builtin "set.intersection",[v]) x.s->ai (ah pw c.w) A.A (Ce v "intersection" pl) Q E x.s
 join:∀{A:Am d} {x:Pt c} {v u z l r},Iv z l=some r->Rd (.str z) x v->Rd (.list l) x u->aE A (bC (.builtin "str.join") [v,u]) x (Rd (.str r))
section
variable{first:List ac}
theorem ad2{op:ia}{l:List PV}(rp:Rd (.list l) x v)(rq:Rd q x u)(h:Q8 op l q=some r):aE A (mI op v u) x (Rd r):=by
 revert rq;by_cases e:op=.Add
 ·cases e;exact aj h λm e h=>aL h λz h=>oI h (pB e λrq=>add_list rp rq z)
 ·refine aL ((iN e).symm.trans h) λe h=>?_;cases e;exact aj h λj e h=>aL h λz h=>oI h (ej e λrq=>Z9 rp rq z.1 z.2.1 z.2.2)
theorem Y'{op:ia}(Or:cg c O d)(Re:oX c O d)(h:fT O op p q=some r)(rp:Rd p x v)(rq:Rd q x u):aE A (mI op v u) x (Rd r):=by
 revert rq;induction p using dg with
 |int i=>exact aj h λj e h=>ej e λrq=>aa1 h rp rq|list l=>exact λrq=>ad2 rp rq h|tup l=>exact aL h λo h=>aj h λm e h=>aL h λz h=>oI h (Hy e λrq=>o▸h_ rp rq z)|str s=>exact aL h λo h=>aj h λm e h=>aL h λz h=>oI h (BD e λrq=>o▸add_str rp rq z)|set l=>exact aL h λo h=>fF h λm e=>acp e λrq=>o▸Re.QW rp rq|inst k fs=>exact λrq=>(Or.bin h rp rq).1|_=>exact nS h
theorem JQ{op:iF}{o:Option Bool}(Or:cg c O d)(h:AR O op p q o=some bo)(rp:Rd p x v)(rq:Rd q x u)(K:o=some bo->aE A (jN op v u) x (Rd (.bool bo))):aE A (jN op v u) x (Rd (.bool bo)):=by
 induction p using dg with
 |inst k fs=>exact Or.cmp h rp rq|_=>exact K h
theorem acy{op:iF}(Or:cg c O d)(h:fb O op p q=some bo)(rp:Rd p x v)(rq:Rd q x u):aE A (jN op v u) x (Rd (.bool bo)):=by
 cases op with
 |Eq=>exact JQ Or h rp rq λh=>Ϥ h rp rq|NotEq=>exact fM h λb h e=>e▸abJ h rp rq|Lt=>exact Dw h rp rq λq=>lt_int q|LtE=>exact Dw h rp rq λq=>le_int q|Gt=>exact JQ Or h rp rq λh=>Dw h rp rq λq=>gt_int q|GtE=>exact JQ Or h rp rq λh=>Dw h rp rq λq=>ge_int q|Is=>exact(NZ h rp rq).1|IsNot=>exact fM h λb h e=>e▸(NZ h rp rq).2|In=>exact(RC h rp rq).1|NotIn=>exact fM h λb h e=>e▸(RC h rp rq).2
@[elab_as_elim] theorem qe{α:Type}{l:List α}{a:α}{m:List α->Prop}(h:o6 l=some a)(K:m [a]):m l:=by
 cases l with
 |nil=>exact nS h
 |cons b l=>induction l using bO with
  |nil=>exact ay h▸K|cons=>exact nS h
@[elab_as_elim] theorem xq{α:Type}{l:List α}{a:α×α}{m:List α->Prop}(h:qg l=some a)(K:m [a.1,a.2]):m l:=by
 induction l using bO with
 |nil=>exact nS h
 |cons b l=>induction l using bO with
  |nil=>exact nS h
  |cons b' l=>induction l using bO with
   |nil=>cases ay h;exact K
   |cons=>exact nS h
theorem rX{α β:Type}{l:List α}{o:Option β}{b:β}{P:Prop}(h:(if l.isEmpty=true then o else none)=some b)(K:l=[]->o=some b->P):P:=aL h λe h=>K (jz e) h
theorem qi(h:mB vs ks=some p)(K:∀{A:Am d} {x:Pt c} {v},Rd p x v->aE A (bC g [v]) x (Rd q)):qD c d g vs ks q:=by
 refine rX h λe h=>?_;subst e;exact qe h λrl rk=>eC rl λr rl=>i0 rl (tc rk (K r))
theorem H4{p:PV×PV}(h:QX vs ks=some p)(K:∀{A:Am d} {x:Pt c} {v u},Rd p.1 x v->Rd p.2 x u->aE A (bC g [v,u]) x (Rd q)):qD c d g vs ks q:=by
 refine rX h λe h=>?_;subst e;exact xq h λrl rk=>eC rl λr rl=>eC rl λr' rl=>i0 rl (tc rk (K r r'))
theorem se(P:cD):db P "len"=some (.builtin "len")/\db P "range"=some (.type "range")/\db P "sum"=some (.builtin "sum")/\db P "max"=some (.builtin "max")/\db P "abs"=some (.builtin "abs")/\
  db P "str"=some (.type "str")/\db P "set"=some (.type "set")/\db P "list"=some (.type "list"):=
 ⟨⋯,⋯,⋯,⋯,⋯,⋯,⋯,⋯⟩
def EJ(c:Cx)(d:Nat)(z:Str)(vs:List PV)(ks:List (Str×PV))(p:PV):Prop:=∃g,db c.w.params z=some g/\pE c.w.params g/\qD c d g vs ks p
theorem DI{z:Str}{id:String}(e:db c.w.params z=some (.builtin id))(k:qD c d (.builtin id) vs ks p):EJ c d z vs ks p:=(cz _ e (.inl ⟨_,rfl⟩) k)
theorem yF{z:Str}{id:String}(e:db c.w.params z=some (.type id))(k:qD c d (.type id) vs ks p):EJ c d z vs ks p:=(cz _ e (.inr (.inl ⟨_,rfl⟩)) k)
theorem d9{α:Type}{c:Prop}[Decidable c]{P:Prop}{a b r:α}(h:(if c then a else b)=r)(k1:c->a=r->P)(k2:¬c->b=r->P):P:=by
 by_cases q:c
 ·exact k1 q ((iP q).symm.trans h)
 ·exact k2 q ((iN q).symm.trans h)
theorem Vx(Or:cg c O d)(h1:mB vs ks=some q)(h:JV O q=some p):EJ c d "len" vs ks p:=by
 by_cases i:q.pe=true
 ·induction q using dg with
  |inst k fs=>
   exact cP (Or.fn h) λg a b k=>(cz g a b (qi h1 λr=>k (.cons r .nil) .nil))
  |_=>injection i
 ·exact DI (se _).1 (qi h1 (VB h (nq i)))
theorem abN(Or:cg c O d)(Re:oX c O d)(h:nj O z vs ks=some p):EJ c d z vs ks p:=by
 refine d9 h (λe h=>e▸aj h λq h1 h=>Vx Or h1 h) λ_ h=>d9 h (λe h=>e▸ ?_) λ_ h=>d9 h (λe h=>e▸aj h λq h1 h=>aj h λl e h=>fF h λi h2=>DI (se _).2.2.1 (qi h1 λr=>Re.sum h2 (pB (m:=λq=>Rd q _ _->Rd (.list l) _ _) e id r)))
  λ_ h=>d9 h (λe h=>e▸aj h λq h1 h=>aj h λl e h=>DI (se _).2.2.2.1 (qi h1 λr=>Re.max h (pB (m:=λq=>Rd q _ _->Rd (.list l) _ _) e id r)))
  λ_ h=>d9 h (λe h=>e▸aj h λq h1 h=>fF h λi e=>DI (se _).2.2.2.2.1 (qi h1 λr=>aaZ (ej (m:=λq=>Rd q _ _->Rd (.int i) _ _) e id r)))
  λ_ h=>d9 h (λe h=>e▸aj h λq h1 h=>fF h λi e=>yF (Dl _) (qi h1 λr=>Xj (ej (m:=λq=>Rd q _ _->Rd (.int i) _ _) e id r)))
  λ_ h=>d9 h (λe h=>e▸aj h λq h1 h=>aj h λi e h=>aL h λz h=>oI h (yF (se _).2.2.2.2.2.1 (qi h1 λr=>aeW z (ej (m:=λq=>Rd q _ _->Rd (.int i) _ _) e id r))))
  λ_ h=>d9 h (λe h=>e▸aj h λq h1 h=>fF h λl h2=>yF (se _).2.2.2.2.2.2.1 (qi h1 λr=>Re.set h2 r))
  λ_ h=>d9 h (λe h=>e▸aj h λq h1 h=>fZ h λi h=>aj h λl h2 h=>aL h λz h=>oI h (yF (se _).2.2.2.2.2.2.2 (qi h1 λr=>abh (nq i) h2 z r)))
  λ_ h=>Or.fn h
 exact d9 h (λ_ h=>aj h λq h1 h=>aj h λj e h=>yF (se _).2.1 (qi h1 λr=>abb h (ej (m:=λq=>Rd q _ _->Rd (.int j) _ _) e id r)))
  λ_ h=>aj h λq h1 h=>aj h λi e h=>aj h λj e' h=>yF (se _).2.1 (H4 h1 λr r'=>T_ h (ej (m:=λq=>Rd q _ _->Rd (.int i) _ _) e id r) (ej (m:=λq=>Rd q _ _->Rd (.int j) _ _) e' id r'))
theorem rM(S:aX c d I):∀{es:List Expr} {ls:List PV},iS (I.e F.nm σ) es=some ls->(∀e∈es,iq e=false)/\∀{x:Pt c},bB F x σ->aE A (oq (ot pos (lE es F.env))) x (bt ls):=by
 intro es;induction es with
 |nil=>exact λh=>oI h ⟨nofun,λX Q E k=>SR (k _ _ (.refl _) .nil)⟩
 |cons e es ih=>
  intro ls h;refine aj h λv h1 h=>fF h λvs h2=>?_;have i:=ih h2;have s:=z8 (S.ni h1);exact⟨λe' m=>(bw m).elim (λq=>q▸s) (i.1 e'),λX Q E k=>wpAny_items_cons (S.ev h1 X _ _ λu y l r=>i.2 (X.le l) _ _ λus z l' r'=>k _ z (l.trans l') (.cons (r.mono l'.sub) r')) (Pn s)⟩
def IG(A:Am d)(kws:List (Option Str×Sem ac))(x:Pt c)(ks:List (Str×PV)):Prop:=aE A (evalAll (kws.map (·.2))) x λy us=>bI c y.f ((kws.filterMap (·.1)).zip us) ks
theorem EC(S:aX c d I):∀{kws:List fj} {ks:List (Str×PV)},rC (I.e F.nm σ) kws=some ks->(Ei F.env pos kws).all (·.1.isSome)=true/\∀{x:Pt c},bB F x σ->IG A (Ei F.env pos kws) x ks:=by
 intro kws;induction kws with
 |nil=>exact λh=>oI h ⟨rfl,λX Q E k=>uR (k _ _ (.refl _) .nil)⟩
 |cons k kws ih=>
  obtain⟨a,e,ps⟩:=k;intro ks h;refine aj h λa' ha h=>aj h λv h1 h=>fF h λvs h2=>?_;cases(show a=some a' from ha);have i:=ih h2;exact⟨i.1,λX Q E k=>wpAny_evalAll_cons (ae (S.ev h1 X _ _ λu y l r=>ae (jr (au (i.2 (X.le l) _ _ λus z l' r'=>k _ z (l.trans l') (.cons (r.mono l'.sub) r'))))))⟩
theorem EK{args:List (Bool×Sem ac)}{kws:List (Option Str×Sem ac)}(rf:bt fp x first)(ha:args.any (·.1)=false)(hk:kws.all (·.1.isSome)=true)(kp:pE c.w.params g)(C:qD c d g (fp++vs) ks q)
(each:aE A (oq args) x (bt vs))(kw:∀y,Le x y->IG A kws y ks):aE A (wN pos g first args kws) x (Rd q):=λQ E k=>
 rK ha hk kp (each _ _ λus y l r=>kw y l _ _ λws z l' r'=>⟨z.cU,C (aR.append (r.mono l'.sub) (rf.mono (l.trans l').sub)) r' _ _ λu w xc=>k u w ((l.trans l').trans xc)⟩)
theorem UZ{pl:Sem Bool}{args:List (Bool×Sem ac)}{kws:List (Option Str×Sem ac)}(Or:cg c O d)(Re:oX c O d)(r:Rd p x v)(h:JF O m p vs ks=some q)(ha:args.any (·.1)=false)(hk:kws.all (·.1.isSome)=true)
(each:aE A (oq args) x (bt vs))(kw:∀y,Le x y->IG A kws y ks){Q E}(k:∀v y,Le x y->Rd q y v->Q v y.s):ai (ah pw c.w) A.A (Ce v m pl) (λfx fQ=>ai (ah pw c.w) A.A (wN pos fx.1 fx.2 args kws) Q E fQ) E x.s:=by
 revert k;induction p using dg with
 |inst c fs=>
  intro k;refine aL h λe h=>?_;have e:=Gl.mp e;exact aB (Or.bM h e) λg hm C=>Xd hm e r (EK (fp:=[.inst c fs]) (.cons r .nil) ha hk (.inr (.inr (O8 hm))) C each kw Q E k)
 |set l=>exact aL h λe h=>e▸aj h λp' h1 h=>aj h λl' e h=>fF h λdW h2 k=>Re.Rh r (EK (fp:=[.set l]) (.cons r .nil) ha hk (.inl ⟨_,rfl⟩) (H4 (p:=(.set l,p')) (rX h1 λe h=>e▸qe h rfl) λr r'=>Re.inter h2 r (pB (m:=λq=>Rd q _ _->Rd (.list l') _ _) e id r')) each kw Q E k)|str s=>exact aL h λe h=>e▸aj h λp' h1 h=>aj h λl' e h=>fF h λw h2 k=>jj r λt=>GM.join (EK (fp:=[.str s]) (.cons .str .nil) ha hk (.inl ⟨_,rfl⟩) (H4 (p:=(.str s,p')) (rX h1 λe h=>e▸qe h rfl) λr r'=>Re.join h2 r (pB (m:=λq=>Rd q _ _->Rd (.list l') _ _) e id r')) each kw Q E k)|_=>exact nS h
theorem ad'(Or:cg c O d)(h:JW O z p=some q)(r:Rd p x v):aE A (uP v z true) x (Rd q):=by
 induction p using dg with
 |inst k fs=>
  have h:(match ak fs z with
   |some v=>if wx.contains (k,z)=true/\v.iV=false then some v else none
   |none=>match zS k z with
    |some v=>some v|none=>O.attr k z (.inst k fs))=some q:=h
  cases e:ak fs z with
  |some v=>rw[e] at h;exact aL h λc h=>afd (e.trans h) (c.1) (ay h▸c.2) r
  |none=>
   rw[e] at h;dsimp only at h;cases e':zS k z with
   |some v=>rw[e'] at h;exact acr (e'.trans h) e r
   |none=>rw[e'] at h;exact Or.attr h e r
 |_=>exact nS h
end
structure zK(c:Cx)(O:aK)(d:Nat)(I J:Ip):Prop where
 MU:∀{A:Am d} {x:Pt c} {F:Fm} {σ:bj} {z e np pos p},ak F.nm z=some .globalImplicit->(z=("all":Str)\/z=("any":Str))->wq O I J F.nm σ true (xu (z==("all":Str))) e=some p->bB F x σ->aE A (eval (.Call (.Name z np) [e] [] pos) F.env) x (Rd p)
 Oc:∀{A:Am d} {x:Pt c} {F:Fm} {σ:bj} {e np pos p kws},ak F.nm ("sorted":Str)=some .globalImplicit->wq O I J F.nm σ false (λvs=>eD O F.nm vs kws) e=some p->bB F x σ->aE A (eval (.Call (.Name "sorted" np) [e] kws pos) F.env) x (Rd p)
 Qy:∀{A:Am d} {x:Pt c} {F:Fm} {σ:bj} {e np pos v p kws},ak F.nm ("sorted":Str)=some .globalImplicit->I.e F.nm σ e=some v->(eH v λl=>eD O F.nm l kws)=some p->bB F x σ->aE A (eval (.Call (.Name "sorted" np) [e] kws pos) F.env) x (Rd p)
section
variable{J:Ip}{o i:Expr}{np ap:Pos}{k:Nat}
theorem Ϩ{cn:Const}(h:N3 cn=some p):aE A (eval (.Constant cn k pos) F.env) x (Rd p):=by
 cases cn with
 |none=>exact oI h λQ E K=>wpAny_Constant_none (k_here K .none)|bool=>exact oI h λQ E K=>wpAny_Constant_bool (k_here K .bool)|int=>exact oI h λQ E K=>SU (jG K .int)|str=>exact oI h λQ E K=>SV (jG K .str)|_=>exact nS h
theorem nH{Q E}(X:ak F.nm z=some .globalImplicit)(h:db c.w.params z=some v)(hd:z≠("__debug__":Str))(x:Pt c)(k:Q v x.s):ai (ah pw c.w) A.A (eval (.Name z pos) F.env) Q E x.s:=Co (Mh F x (F.names z X) h k) (kH hd)
theorem Ox(h:I2 F.nm σ z=some p)(X:bB F x σ):aE A (eval (.Name z pos) F.env) x (Rd p):=λQ E K=>fZ h λhd h=>d9 h (λe h=>by
  obtain⟨v,e1,r⟩:=XQ (x:=x) h;exact nH e e1 hd x (k_here K r)) λ_ h=>by
  obtain⟨v,V,r⟩:=X.var z p h;exact Co (Ac F V (k_here K r)) (kH hd)
theorem VX{op:ia}(S:aX c d I)(Or:cg c O d)(Re:oX c O d)(h:((I.e F.nm σ l).bind λa=>(I.e F.nm σ e).bind λb=>fT O op a b)=some p)(X:bB F x σ):aE A (eval (.BinOp l op e pos) F.env) x (Rd p):=λQ E K=>
 aj h λ_ h1 h=>aj h λ_ h2 h=>wpAny_BinOp (S.ev h1 X _ _ λ_ _ l r=>S.ev h2 (X.le l) _ _ λ_ _ l' r'=>(Y' Or Re h (r.mono l'.sub) r').from (l.trans l') K)
theorem Ws(S:aX c d I)(h:((I.t F.nm σ t).bind λr=>if r=true then I.e F.nm σ b else I.e F.nm σ e)=some p)(X:bB F x σ):aE A (eval (.IfExp t b e pos) F.env) x (Rd p):=λQ E K=>
 aj h λr h1 h=>(arm_eval_IfExp ..).symm▸ae (S.te h1 X _ _ λr' y l q=>by
  have q:r'=r:=q;subst q;cases r' with
  |false=>exact(S.ev h (X.le l)).from l K|true=>exact(S.ev h (X.le l)).from l K)
theorem Mx{rs:List Expr}{ops:List iF}{Q E}(S:aX c d I)(Or:cg c O d)(h:EF O (I.e F.nm σ) l ops rs=some bo)(X:bB F x σ)(K:∀y,Le x y->Q (.bool bo) y.s):
  ∃op r,ops=[op]/\rs=[r]/\behindInMarks op r=false/\ai (ah pw c.w) A.A (eval l F.env) (λa bJ=>ai (ah pw c.w) A.A (eval r F.env) (λb fQ=>ai (ah pw c.w) A.A (jN op a b) Q E fQ) E bJ) E x.s:=by
 exact aj h λop e1 h=>aj h λr e2 h=>aj h λa h1 h=>aj h λb h2 h=>(uL op r (qe e1 rfl) (qe e2 rfl) (ϧ (S.ni h2)) (S.ev h1 X _ _ λu y l r=>S.ev h2 (X.le l) _ _ λv z l' r'=>acy Or h (r.mono l'.sub) r' _ _ λw y xc q=>(q:w=.bool bo)▸K y ((l.trans l').trans xc)))
theorem Y8{rs:List Expr}{ops:List iF}(S:aX c d I)(Or:cg c O d)(h:EF O (I.e F.nm σ) l ops rs=some bo)(X:bB F x σ):aE A (eval (.Compare l ops rs pos) F.env) x (Rd (.bool bo)):=λQ E K=>by
 refine EP (Mx (A:=A) (E:=E) S Or h X λy l=>K _ y l .bool) λop r bZ c4 hm w=>?_;subst bZ;subst c4;exact wpAny_Compare1 w hm
theorem aey(S:aX c d I)(h:(iS (I.e F.nm σ) es).bind (oJ .list)=some p)(X:bB F x σ):aE A (eval (.List es pos) F.env) x (Rd p):=λQ E K=>
 aj h λl h1 h=>aL h λz h=>wpAny_List ((rM S h1).2 X _ _ λus y le r=>⟨l8 (us:=[]) (m:=[]) r z (r':=.nil) rfl,sY (t:=y.s.toks) (λv w l' q=>K v w (le.trans l') q) rfl (ay h▸Dg r z)⟩)
theorem afj(S:aX c d I)(h:(iS (I.e F.nm σ) es).bind (oJ .tup)=some p)(X:bB F x σ):aE A (eval (.Tuple es k pos) F.env) x (Rd p):=λQ E K=>
 aj h λl h1 h=>aL h λz h=>wpAny_Tuple ((rM S h1).2 X _ _ λus y le r=>⟨l8 (us:=[]) (m:=[]) r z (r':=.nil) rfl,sY (t:=y.s.toks) (λv w l' q=>K v w (le.trans l') q) rfl (ay h▸M8 r z)⟩)
theorem aak(S:aX c d I)(Or:cg c O d)(h:(if ug o=true then none else(I.e F.nm σ o).bind (JW O z))=some p)(X:bB F x σ):aE A (eval (.Attribute o z pos) F.env) x (Rd p):=λQ E K=>
 fZ h λhb h=>aj h λa h1 h=>JL (nq hb) (S.ev h1 X _ _ λu y l r=>(ad' Or h r).from l K)
theorem Nk{eo:Option Expr}{zo:Option Int}(S:aX c d I)(h:GN (I.e F.nm σ) eo=some zo)(X:bB F x σ):aE A (valueOrNone (evalOpt eo F.env)) x λ_ v=>IsPart v zo:=by
 induction eo using qa with
 |none=>exact oI h λQ E K=>au (K _ _ (.refl _) .none)|some e=>exact aj h λv h1 h=>fF h λi e=>λQ E K=>S.ev h1 X _ _ λu y l r=>K u y l (bU (ej (m:=λq=>Rd q y u->Rd (.int i) y u) e id r) λ_=>.int _ _)
theorem abm(S:aX c d I)(h:((I.e F.nm σ o).bind λa=>N2 (I.e F.nm σ) a i)=some p)(X:bB F x σ):aE A (eval (.Subscript o i pos) F.env) x (Rd p):=λQ E K=>by
 refine aj h λa h1 h=>Subscript_ (S.ev h1 X _ _ λu y l r=>?_);have plain:(I.e F.nm σ i).bind (bP a)=some p->ai (ah pw c.w) A.A (eval i F.env) (λi_1 fQ=>ai (ah pw c.w) A.A (Fx o i u i_1) Q E fQ) E y.s:=λh=>
  aj h λb h2 h=>S.ev h2 (X.le l) _ _ λw z l' r'=>(Xq h (r.mono l'.sub) r').2.from (l.trans l') K
 induction i using eu with
 |Slice lo hi st pp=>
  refine bE λgG hG=>aL h λe h=>aj h λzl h2 h=>aj h λzu h3 h4=>aB (tE.mp h4) λl' e' bZ=>?_;subst bZ;cases Gl.mp e;refine hG ?_;rw[arm_eval_Slice];exact ae (Nk S h2 (X.le l) _ _ λvl ahR l₂ aho=>ae (dO (Nk S h3 ((X.le l).le l₂) _ _ λvu LC Un ahp=>ae (dO (au (uW (afC (A:=A) (pB (m:=λq=>Rd q LC u->Rd (.list l') LC u) e' id ((r.mono l₂.sub).mono Un.sub)) aho ahp _ _ λv w zw q=>K v w (((l.trans l₂).trans Un).trans ((LC.cG _).trans zw)) q)))))))
 |_=>exact plain h
theorem acx(S:aX c d I)(Or:cg c O d)(Re:oX c O d)(h:(if ug o=true\/ap.endLine≠pos.line\/20<args.length+kws.length then none else(I.e F.nm σ o).bind λv=>(iS (I.e F.nm σ) args).bind λvs=>(rC (I.e F.nm σ) kws).bind λks=>JF O m v vs ks)=some p)(X:bB F x σ):aE A (eval (.Call (.Attribute o m ap) args kws pos) F.env) x (Rd p):=λQ E K=>
 fZ h λn h=>aj h λov h1 h=>aj h λvs h2 h=>aj h λks h3 h=>by
  have ea:=rM (A:=A) (pos:=pos) S h2;have ka:=EC (A:=A) (pos:=pos) S h3;exact GR (nq λq=>n (.inl q)) (agh λq=>n (.inr (.inl q))) ea.1 ka.1 (cZ λq=>n (.inr (.inr q))) (S.ev h1 X _ _ λu y l r=>λpl=>UZ Or Re r h (kP ea.1) ka.1 (ea.2 (X.le l)) (λz l'=>ka.2 ((X.le l).le l')) λv z m=>K v z (l.trans m))
theorem YE(S:aX c d I)(Or:cg c O d)(Re:oX c O d)(hk:ak F.nm z=some .globalImplicit)(hd:z≠("__debug__":Str))(h2:iS (I.e F.nm σ) args=some vs)(h3:rC (I.e F.nm σ) kws=some ks)(h4:nj O z vs ks=some p)(X:bB F x σ):aE A (eval (.Call (.Name z np) args kws pos) F.env) x (Rd p):=λQ E K=>by
 refine cP (abN (d:=d) Or Re h4) λg hg kp C=>?_;have ea:=rM (A:=A) (pos:=pos) S h2;have ka:=EC (A:=A) (pos:=pos) S h3;exact wQ (nH hk hg hd x (EK (fp:=[]) .nil (kP ea.1) ka.1 kp C (ea.2 X) (λy l=>ka.2 (X.le l)) Q E K))
theorem τ(S:aX c d I)(Or:cg c O d)(hd:z≠("__debug__":Str))(h2:iS (I.e F.nm σ) args=some vs)(h3:ak σ z=some q)(h4:NE O vs q=some p)(X:bB F x σ):aE A (eval (.Call (.Name z np) args [] pos) F.env) x (Rd p):=λQ E K=>by
 have ea:=rM (A:=A) (pos:=pos) S h2;refine aB (X.var z q h3) λv V r=>?_;induction q using dg with
 |inst k fs=>
  have key:∀{v},Rd (.inst k fs) x v->ai (ah pw c.w) A.A (wN pos v [] (ot pos (lE args F.env)) []) Q E x.s:=λr=>
   sV (m:=λv=>Rd (.inst k fs) x v->ai (ah pw c.w) A.A (wN pos v [] (ot pos (lE args F.env)) []) Q E x.s) r (λ{a dx n es vs} h _ _ _ r=>Wu (o:=l9 k dx) (kP ea.1) (ea.2 X _ _ λus y l r'=>⟨⟨y.hs _ _ (l.sub _ _ h),rfl⟩,(Or.AE h4 (r.mono l.sub) r').from l K⟩)) r
  exact wQ (Co (Ac F V (key r)) (kH hd))
 |_=>exact nS h4
theorem adx(P:cD):db P "isinstance"=some (.builtin "isinstance"):=⋯
noncomputable def C1(z:Str):Bool:=z==("int":Str)||z==("Fraction":Str)||z==("Voter":Str)
theorem J7(P:cD)(h:C1 z=true):∃c,db P z=some c/\z≠("__debug__":Str):=by
 rcases mq h with h|h
 ·rcases mq h with h|h
  ·exact a5 h▸(az _ (Dl P) (by decide))
  ·exact a5 h▸(az _ (Jm P) (by decide))
 ·exact a5 h▸(az _ (QU P) (by decide))
theorem Nh{cs:Expr}(S:aX c d I)(hk:ak F.nm ("isinstance":Str)=some .globalImplicit)(h1:I.e F.nm σ e=some q)(hs:iq cs=false)(X:bB F x σ)
(K:∀{v} {y:Pt c} {Q:ac->ag->Prop} {E},Rd q y v->(∀u z,Le y z->aE A (bC (.builtin "isinstance") [v,u]) z (Rd p)->Q u z.s)->ai (ah pw c.w) A.A (eval cs F.env) Q E y.s):aE A (eval (.Call (.Name "isinstance" np) [e,cs] [] pos) F.env) x (Rd p):=λQ E k=>by
 have ns:∀e'∈[e,cs],iq e'=false:=λe' m=>(bw m).elim (λq=>q▸z8 (S.ni h1)) λm=>cY m▸hs;exact wQ (nH hk (adx _) (by decide) x (rK (kP ns) rfl (.inl ⟨_,rfl⟩) (aa (wd ns) (wR (S.ev h1 X _ _ λv y l r=>wR (K r λu z l' g=>Cp (uR ⟨z.cU,g.from (l.trans l') k⟩)))))))
theorem afZ{Q:List ac->ag->Prop}{E}:∀{es:List Expr} {zs:List Str} {cs:List ac},es.mapM iB=some zs->(∀z∈zs,ak F.nm z=some .globalImplicit/\C1 z=true)->(zs.map λz=>db c.w.params z)=cs.map some->Q cs x.s->ai (ah pw c.w) A.A (oq (ot pos (lE es F.env))) Q E x.s:=by
 intro es;induction es generalizing Q with
 |nil=>
  intro zs cs h _ e q;cases ay h;exact SR (Ua.mp e.symm▸q)
 |cons e es ih=>
  intro zs cs h k g q;refine bE λgG hG=>?_;rw[qY] at h;refine aj h λz h1 h=>aj h λzs' h2 h=>?_;cases ay h;refine hG ?_;induction cs using bO with
  |nil=>injection g
  |cons g' cs=>
   injection g with g1 g2
   exact aB (J7 c.w.params (k z (.head _)).2) λ_ _ hd=>AI (m:=λe=>ai _ A.A (oq (ot pos (lE (e::es) F.env))) Q E x.s) h1 λnp=>wpAny_items_cons (nH (k z (.head _)).1 g1 hd x (ih h2 (λz m=>k z (.tail _ m)) g2 q)) rfl
theorem aeA(P:cD):∀{zs:List Str},(∀z∈zs,C1 z=true)->∃vs:List ac,(zs.map λz=>db P z)=vs.map some:=by
 intro zs;induction zs with
 |nil=>exact λ_=>⟨[],rfl⟩
 |cons z zs ih=>
  intro h;refine aB (J7 P (h z (.head _))) λc e _=>?_;obtain⟨vs,e'⟩:=ih λy m=>h y (.tail _ m);exact⟨c::vs,by erw[oB];erw[oB];erw[e];erw[e'];rfl⟩
theorem aaH{e cs:Expr}{zs:List Str}(S:aX c d I)(hk:ak F.nm ("isinstance":Str)=some .globalImplicit)(h1:I.e F.nm σ e=some q)(h2:MX cs=some zs)(hc:Mc F.nm zs=true)(h3:iV q zs=some bo)(X:bB F x σ):aE A (eval (.Call (.Name "isinstance" np) [e,cs] [] pos) F.env) x (Rd (.bool bo)):=by
 have hc:=aW hc;have hz:=cC hc.1;have ok:∀z∈zs,ak F.nm z=some .globalImplicit/\C1 z=true:=λz m=>(aW (b7 hc.2 z m)).imp a5 id;refine dJ (aeA c.w.params λz m=>(ok z m).2) λvs hv=>?_;induction cs using eu with
 |Name z zp=>
  refine bE λgG hG=>?_;cases ay h2;refine aB (J7 c.w.params (ok z (.head _)).2) λg e1 hd=>?_;have h3:pe q z=some bo:=aj h3 λb e h=>d9 h (λq h=>e.trans (af some (q.trans (ay h)))) λq h=>e.trans (af some ((nq q).trans (ay h)));exact hG (Nh S hk h1 rfl X λr k=>nH (ok z (.head _)).1 e1 hd _ (k g _ (.refl _) (Wt r h3 e1)))
 |Tuple es n tp=>
  refine Nh S hk h1 rfl X λ{v y Q E} r k=>wpAny_Tuple (afZ h2 ok hv ⟨?_,k _ (y.push (fW vs 0) y.s.toks) (y.cG _) (Zs r h3 (λe=>absurd hz.1 (by erw[e];decide)) hv (ft _ rfl))⟩);have:=af yO hv;rw[bi,bi] at this;exact aq (aq (aD this.symm) hz.2) (by decide)
 |_=>exact nS h2
theorem Wg(S:aX c d I)(Or:cg c O d)(Re:oX c O d)(G:zK c O d I J)(hk:ak F.nm z=some .globalImplicit)(hd:z≠("__debug__":Str))(h:N0 O I J F.nm σ z args kws=some p)(X:bB F x σ):aE A (eval (.Call (.Name z np) args kws pos) F.env) x (Rd p):=by
 refine d9 h (λe h=>?_) λ_ h=>d9 h (λe h=>rX h λe' h=>e'▸aj h λa h1 h=>qe (m:=λargs=>aE A (eval (.Call (.Name z np) args [] pos) F.env) x (Rd p)) h1 (G.MU hk e h X)) λ_ h=>d9 h (λe h=>?_) λ_ h=>
  aj h λvs h1 h=>aj h λks h2 h=>YE S Or Re hk hd h1 h2 h X
 ·subst e;exact rX h λe' h=>e'▸aj h λa h1 h=>aj h λv h2 h=>aj h λcs h3 h=>aL h λhc h=>fF h λb h4=>xq (m:=λargs=>aE A (eval (.Call (.Name "isinstance" np) args [] pos) F.env) x (Rd (.bool b))) h1 (aaH S hk h2 h3 hc h4 X)
 ·subst e;exact aj h λa h1 h=>qe (m:=λargs=>aE A (eval (.Call (.Name "sorted" np) args kws pos) F.env) x (Rd p)) h1 (d9 h (λ_ h=>G.Oc hk h X) λ_ h=>aj h λv h1 h=>G.Qy hk h1 h X)
theorem XN{f:Expr}(S:aX c d I)(Or:cg c O d)(Re:oX c O d)(G:zK c O d I J)(h:Qg O I J F.nm σ args kws pos f=some p)(X:bB F x σ):aE A (eval (.Call f args kws pos) F.env) x (Rd p):=by
 induction f using eu with
 |Attribute o m ap=>exact acx S Or Re h X|Name z np=>exact fZ h λhd h=>d9 h (λhk h=>Wg S Or Re G hk hd h X) λ_ h=>aj h λvs h1 h=>aj h λq h2 h=>rX h λe h=>e▸τ S Or hd h1 h2 h X|_=>exact nS h
theorem aeX(S:aX c d I){op:BoolOp}:∀{es:List Expr} {x:Pt c},Ha (I.e F.nm σ) (Dx op) es=some p->bB F x σ->aE A (boolOp pos op (evalEach es F.env)) x (Rd p):=by
 intro es;induction es with
 |nil=>exact λh=>nS h
 |cons e r ih=>
  intro x h X;refine aj h λv h1 h=>d9 h (λe h=>?_) λne h=>aj h λb e2 h=>?_
  ·refine bE λgG hG=>?_;cases jz e;exact hG (ay h▸S.ev h1 X)
  ·induction r using bO with
   |nil=>exact absurd rfl ne
   |cons e' r=>
    intro Q E K;show ai _ A.A (do
     let v<-eval e F.env
     standAt pos
     let t<-yV [v] (yM v)
     match op,t with
     |.And,false|.Or,true=>pure v|_,_=>boolOp pos op (evalEach (e'::r) F.env)) _ _ x.s
    refine ae (S.ev h1 X _ _ λu y l r'=>ae (jr (mf (m:=λu=>ai _ A.A (yV [u] (yM u)>>=λt=>match op,t with
     |.And,false|.Or,true=>pure u|_,_=>boolOp pos op (evalEach (e'::r) F.env)) Q E y.s) (Ev (m:=λq=>Rd q y u->Rd (.bool b) y u) e2 id r') (ae (dO (wL ?_))))))
    have g:=λh=>(ih h (X.le l)).from (E:=E) l K;cases op with
    |And=>induction b using jm with
     |false=>exact au (K _ y l (ay h▸ .bool))|true=>exact g h
    |Or=>induction b using jm with
     |false=>exact g h|true=>exact au (K _ y l (ay h▸ .bool))
theorem acT(S:aX c d I){op:BoolOp}:∀{es:List Expr} {x:Pt c},pZ (I.t F.nm σ) (Dx op) es=some bo->bB F x σ->aE A (allTrue op es F.env) x (Is bo):=by
 intro es;induction es with
 |nil=>intro x h X;cases op<;>exact oI h (.pure rfl)
 |cons e r ih=>
  intro x h X;refine aj h λb h1 h=>aE.bind (S.te h1 X) λb' y l q=>?_;have q:b'=b:=q;subst q;have g:=λh=>ih (x:=y) h (X.le l);cases op with
  |And=>cases b' with
   |false=>exact ay h▸ .pure rfl|true=>exact g h
  |Or=>cases b' with
   |false=>exact g h|true=>exact ay h▸ .pure rfl
theorem Z1(S:aX c d I)(h:Pf I F.nm σ e=some bo)(X:bB F x σ):aE A (isTrue e F.env (eval e F.env)) x (Is bo):=λQ E K=>aL h λhp h=>aj h λv h1 h=>by
 have go:ai (ah pw c.w) A.A (eval e F.env) (λv bJ=>ai (ah pw c.w) A.A (yM v) Q E bJ) E x.s:=S.ev h1 X _ _ λu y l r=>(agb h r).from l K;induction e using eu with
 |Name=>exact Kx go|Call=>exact Kx go|BinOp=>exact Kx go|Attribute=>exact Kx go|_=>injection hp
theorem afH(S:aX c d I)(Or:cg c O d)(h:DN O I F.nm σ e=some bo)(X:bB F x σ):aE A (isTrue e F.env (eval e F.env)) x (Is bo):=by
 induction e using eu with
 |UnaryOp op e ps=>
  exact aL h λo h=>fM h λb h e=>o▸λQ E K=>isTrue_not (S.te h X _ _ λb' y l q=>K _ y l (e▸af not q))
 |BoolOp op es ps=>exact λQ E K=>wpAny_isTrue_BoolOp (acT S h X Q E K)
 |Compare l ops rs ps=>
  intro Q E K;refine EP (Mx (A:=A) (E:=E) (Q:=λv s=>ai (ah pw c.w) A.A (yM v) Q E s) S Or h X λy l=>wL (K _ y l rfl)) λop r bZ c4 hm w=>?_;subst bZ;subst c4;exact wpAny_isTrue_Compare1 w hm
 |_=>exact Z1 S h X
theorem YQ(S:aX c d I)(ov:Ov c d)(Or:cg c O d)(Re:oX c O d)(G:zK c O d I J)(h:pf O I J F.nm σ e=some p)(X:bB F x σ):aE A (eval e F.env) x (Rd p):=by
 induction e using eu with
 |Constant=>exact Ϩ h|Name=>exact Ox h X|BinOp=>exact VX S Or Re h X|UnaryOp op e ps=>exact aL h λo h=>aj h λa h1 h=>o▸λQ E K=>wpAny_UnaryOp (S.ev h1 X _ _ λu y l r=>(ab2 h r).from l K)|BoolOp op es ps=>exact(arm_eval_BoolOp ..).symm▸aeX S h X|IfExp=>exact Ws S h X|Compare=>exact fF h λb h=>Y8 S Or h X|List=>exact aey S h X|Tuple=>exact afj S h X|Attribute=>exact aak S Or h X
 |Dict ks vs ps=>
  refine aL h λe h=>?_;cases jz e.1;cases jz e.2;exact λQ E K=>wpAny_Dict_empty (sY (t:=x.s.toks) K rfl (ay h▸ .any))
 |ListComp=>exact afa S ov h X|Subscript=>exact abm S h X|Call=>exact XN S Or Re G h X|_=>exact nS h
theorem V9{nm:aN}(S:aX c d I)(h:iS (I.e nm σ) es=some ls):∀e∈es,iq e=false:=by
 induction es generalizing ls with
 |nil=>exact nofun|cons e es ih=>exact aj h λv h1 h=>fM h λvs h2 _=>λe' m=>(bw m).elim (λq=>q▸z8 (S.ni h1)) (ih h2 e')
structure IL(c:Cx)(O:aK)(d:Nat):Prop where
 ov:Ov c d
 Ri:cg c O d
 rest:oX c O d
 gen:∀n,aX c d (ip n O)->aX c d (ip n {O with gens:=false})->zK c O d (ip n O) (ip n {O with gens:=false})
theorem IB{nm:aN}(h:pf O I J nm σ e=some p):qP e=true:=by
 cases e<;>first|rfl|exact nS h
theorem MB:∀n {O:aK},IL c O d->IL c {O with gens:=false} d->aX c d (ip n O):=by
 intro n;induction n with
 |zero=>exact λ_ _=>⟨λh=>nS h,λh=>nS h,λh=>nS h,λh=>nS h,λh=>nS h⟩
 |succ n ih=>
  intro O L L';have S:=ih L L';exact⟨IB,λh=>aj h λl h _=>V9 S h,λh=>aj h λl _ h=>aL h λ_ h=>⟨l,(ay h).symm⟩,YQ S L.ov L.Ri L.rest (L.gen n S (ih L' L')),afH S L.Ri⟩
end
end
inductive AV where
 |pv (p:PV)|own (l:List PV)|a6 (c:Nat) (fs:List (Str×PV)) (ow:List Str)|dl (ks:List Str) (n:Nat)
@[elab_as_elim] theorem lA{m:AV->Prop}(t:AV)(pv:∀p,m (.pv p))(own:∀l,m (.own l))(a6:∀c fs ow,m (.a6 c fs ow))(dl:∀ks n,m (.dl ks n)):m t:=AV.casesOn (motive:=m) t pv own a6 dl
abbrev ar:=List (Str×AV)
noncomputable def AV.val:AV->PV
 |.pv p=>p|.own l=>.list l|.a6 c fs _=>.inst c fs|.dl ..=>.any
noncomputable def AV.t8:AV->Option PV
 |.pv p=>some p|_=>none
noncomputable def bA(σ:ar):bj:=σ.map λp=>(p.1,p.2.val)
noncomputable def fJ(σ:ar):bj:=σ.filterMap λp=>p.2.t8.map λv=>(p.1,v)
noncomputable def PV.kind:PV->Nat
 |.none=>0|.bool _=>1|.int _=>2|.str _=>3|.tup _=>4|.list _=>5|.set _=>6|.d8 ..=>7|.any=>8|.inst c _=>9+c
def Dj(p q:PV):Bool:=p.iV||q.iV||p.kind==q.kind
def nM(l m:List PV):Bool:=match l with
 |[]=>m.isEmpty
 |a::_=>match m with
  |[]=>false|b::_=>Dj a b
mutual
def cf(ls:List (List PV))(cs:List (Nat×List Str)):PV->Bool
 |.tup l=>io ls cs l|.list l=>ls.any (λm=>nM m l)||io ls cs l|.inst c fs=>cs.any (λq=>q.1==c||q.2==fs.map (·.1))||vB ls cs fs|_=>false
def io(ls:List (List PV))(cs:List (Nat×List Str)):List PV->Bool
 |[]=>false|p::r=>cf ls cs p||io ls cs r
def vB(ls:List (List PV))(cs:List (Nat×List Str)):List (Str×PV)->Bool
 |[]=>false|(_,p)::r=>cf ls cs p||vB ls cs r
end
def vP(fs:List (Str×PV))(ow:List Str):List (List PV):=fs.filterMap λq=>if ow.contains q.1=true then q.2.ii else none
def HG:AV->List (List PV)
 |.own l=>[l]|.a6 _ fs ow=>vP fs ow|_=>[]
noncomputable def IH:AV->List (Nat×List Str)
 |.a6 c fs _=>[(c,fs.map (·.1))]|_=>[]
def AV.seen(p:PV)(v:AV):Bool:=cf (HG v) (IH v) p
noncomputable def AV.kY:AV->Bool
 |.a6 ..=>true|_=>false
def fz(p:PV)(v:AV):AV:=match v with
 |.own l=>if cf [l] [] p=true then .pv (.list l) else .own l
 |v=>v
def dY(p:PV)(σ:ar):ar:=σ.map λq=>(q.1,fz p q.2)
inductive fS where
 |next|ret (p:PV)|exc
noncomputable def fS.hX:fS->Bool
 |.next=>true|_=>false
abbrev aZ:=Option (fS×ar)
def ab8:Expr->Bool:=EA.on {d:=false,wn:=λ_ _=>true}
def r9:Expr->Bool:=EA.on {d:=false,wn:=λ_ _=>true,xY:=λ_ _ _ _=>true,ym:=λl op _ _=>ab8 l&&op==.Mult}
def j9(σ:ar)(x:Str):Option AV:=if x=("__debug__":Str) then none else ak σ x
noncomputable def AV.own?:AV->Option (List PV)
 |.own l=>some l|_=>none
def gB(σ:ar)(x:Str):Option (List PV):=(j9 σ x).bind AV.own?
def jX(l:List PV)(i v:PV):Option (List PV):=i.ed.bind λk=>if 0<=k/\k<l.length then some (l.set k.toNat v) else none
def tK(σ:ar)(x:Str):Bool:=((ak σ x).map AV.kY).getD false
def putN(nm:aN)(x:Str)(v:AV)(σ:ar):Option ar:=if(tK σ x&& !v.kY)=true then none else hF nm x v σ
def sf(nm:aN)(x:Str)(p:PV)(σ:ar):Option ar:=putN nm x (.pv p) σ
noncomputable def qc{α β:Type}(o:Option α)(f:α->Option β)(g:Option β):Option β:=match o with
 |some a=>f a|none=>g
def bX(ev:bj->Expr->Option PV)(σ:ar)(e:Expr):Option (PV×ar):=qc (ev (fJ σ) e) (λp=>some (p,σ))<|(ev (bA σ) e).bind λp=>if σ.any (λq=>q.2.kY&&q.2.seen p)=true then none else some (p,dY p σ)
noncomputable def DK(b:Bool)(p:PV):AV:=if b=true then(match p with
 |.list l=>.own l|p=>.pv p) else .pv p
def H9:Expr->Option Str:=EA.on {d:=none,AK:=λc _ _=>(match c with
  |.str k=>some k|_=>none)}
def G5:Expr->Bool:=EA.on {d:=false,AK:=λc _ _=>(match c with
  |.int i=>i==0|_=>false)}
def QG:Expr->Option (List Expr):=EA.on {d:=none,wn:=λes _=>some es}
def vI:List (Option Expr)->List Expr->Option (List Str)
 |[],vs=>if vs.isEmpty=true then some [] else none
 |k::ks,vs=>(match vs with
  |[]=>none|v::vs=>k.bind λk=>(H9 k).bind λk=>(QG v).bind λes=>if es.isEmpty=true then(vI ks vs).map λr=>k::r else none)
def Bw:Expr->Option (Expr×List Expr×List fj×Pos):=EA.on {d:=none,uF:=λf args kws p=>(some (f,args,kws,p))}
def J3:Expr->Option (Expr×Str×Pos):=EA.on {d:=none,uJ:=λo m p=>(some (o,m,p))}
def Hf:Expr->Option (Str×Pos):=EA.on {d:=none,lc:=λx p=>(some (x,p))}
def JR(nm:aN)(v:Expr×Expr)(a b:Str×Pos):Bool:=ak nm a.1==some .local&&ak nm b.1==some .local&&a.1 !=b.1&&a.2.line==b.2.line&& !(yX 8 v.1&&yX 8 v.2)&& !(yY 8 v.1&&yY 8 v.2)
def O_(nm:aN)(es vs:List Expr):Bool:=((qg es).bind λe=>(qg vs).bind λv=>(Hf e.1).bind λa=>(Hf e.2).map (JR nm v a))==some true
def acV(nm:aN)(es:List Expr)(p:PV)(σ:ar):Option ar:=(qg es).bind λe=>(iB e.1).bind λa=>(iB e.2).bind λb=>(p.Fq.bind qg).bind λq=>(sf nm b q.2 σ).bind (sf nm a q.1)
def IW(nm:aN)(es:List Expr)(k:Nat)(tp:Pos)(p:PV)(σ:ar):Expr->Option ar:=EA.on {d:=fY (sf nm) (.Tuple es k tp) p σ,uI:=λvs _ _=>if O_ nm es vs=true then acV nm es p σ else none,wn:=λ_ _=>none,O6:=λ_ _ _=>none}
def uB(O:aK)(op:ia)(a b:PV):Option PV:=PA.on {d:=none,pz:=λi=>(b.ed.bind λj=>if op=.Add then some (.int (i+j)) else if op=.Sub then some (.int (i-j)) else none),i9:=λc fs=>(O.bin op (.inst c fs) b)} a
def By:List (Nat×Str):=[(dk,"numerator"),(dk,"denominator"),(ql,"name"),(ql,"param"),(cL,"rule_id"),(cL,"shortname"),(cL,"longname"),(cL,"algorithms"),(cL,"resolute_values"),(cL,"available_algorithms"),
 (bv,"candidates"),(bv,"cand_names"),(bv,"_voters"),(iw,"approved"),(iw,"weight")]
def zH(fresh:Bool)(c:Nat)(fs:List (Str×PV))(ow:List Str)(y:Str)(p:PV):AV:=.a6 c (b9 fs y p) (if fresh=true/\p.ii.isSome=true then y::ow else ow.filter (· !=y))
noncomputable def Za(xs:List Str)(q:Str×AV):Bool:= !(xs.contains q.1&&q.2.t8.isSome)
def A0(xs:List Str)(σ:ar):ar:=σ.filter (Za xs)
noncomputable def eB(o:Option ar):aZ:=o.map λσ=>(.next,σ)
def xj(args:List Expr)(kws:List fj):Option Expr:=if kws.isEmpty=true then o6 args else none
noncomputable def AV.lI:AV->Option (Nat×List (Str×PV)×List Str)
 |.a6 c fs ow=>some (c,fs,ow)|_=>none
noncomputable def AV.Fh:AV->Option (List Str×Nat)
 |.dl ks n=>some (ks,n)|_=>none
section
variable(O:aK)(I:Ip)(nm:aN)(mu:List Str)(σ:ar)
def OO(x:Str)(f:List PV->PV->List PV)(e:Expr):aZ:=(bX (I.e nm) σ e).bind λq=>(gB q.2 x).bind λl=>eB (putN nm x (.own (f l q.1)) q.2)
def ZK(x m:Str)(args:List Expr)(kws:List fj)(l:List PV):aZ:=
 if l.length<aA then(if m=("append":Str) then(xj args kws).bind (OO I nm σ x λl p=>l++[p])
  else if m=("insert":Str)/\kws.isEmpty=true then(qg args).bind λq=>if G5 q.1=true then OO I nm σ x (λl p=>p::l) q.2 else none else none) else none
def adn(x m:Str)(args:List Expr)(kws:List fj)(c:Nat)(fs:List (Str×PV))(ow:List Str):aZ:=
 (xj args kws).bind λe=>(bX (I.e nm) σ e).bind λq=>(O.mh c fs ow m [q.1]).bind λeY=>eB (putN nm x (.a6 c eY ow) q.2)
def Oh(x m:Str)(args:List Expr)(kws:List fj)(same:Bool)(bC:aZ):Option AV->aZ
 |some (.own l)=>if same=true then ZK I nm σ x m args kws l else none
 |some (.a6 c fs ow)=>if same=true then adn O I nm σ x m args kws c fs ow else none
 |_=>bC
def V5(x f:Str)(args:List Expr)(kws:List fj):aZ:=(j9 σ x).bind λv=>v.lI.bind λi=>if wx.contains (i.1,f)=true then(xj args kws).bind λe=>(bX (I.e nm) σ e).bind λq=>
 (ak i.2.1 f).bind λw=>w.ii.bind λl=>if i.2.2.contains f=true/\l.length<aA then eB (putN nm x (.a6 i.1 (b9 i.2.1 f (.list (l++[q.1]))) i.2.2) q.2) else none else none
def ϑ(x k:Str)(args:List Expr)(kws:List fj):aZ:=(j9 σ x).bind λv=>v.Fh.bind λi=>if i.1.contains k=true/\i.2<aA then(xj args kws).bind λe=>(bX (I.e nm) σ e).bind λq=>eB (putN nm x (.dl i.1 (i.2+1)) q.2) else none
def QC(m:Str)(args:List Expr)(kws:List fj)(same:Bool)(bC:aZ):Expr->aZ:=EA.on {d:=none,lc:=λx _=>Oh O I nm σ x m args kws same bC (j9 σ x),uJ:=λb f _=>((iB b).bind λx=>if m=("append":Str)/\same=true then V5 I nm σ x f args kws else none),vX:=λb i _=>((iB b).bind λx=>(H9 i).bind λk=>if m=("append":Str)/\same=true then ϑ I nm σ x k args kws else none)}
def Br(e:Expr):aZ:=(I.e nm (bA σ) e).map λ_=>(.next,σ)
def PE(e:Expr):aZ:=(Bw e).bind λq=>qc (J3 q.1) (λa=>QC O I nm σ a.2.1 q.2.1 q.2.2.1 (a.2.2.endLine==q.2.2.2.line) (Br I nm σ e) a.1) (Br I nm σ e)
def Qq(e:Expr):Option Str:=(Bw e).bind λq=>(J3 q.1).bind λa=>(iB a.1).bind λy=>(xj q.2.1 q.2.2.1).bind λi=>if G5 i=true/\a.2.1=("pop":Str)/\a.2.2.endLine=q.2.2.2.line then some y else none
def adp:Expr->Option (List (Option Expr)×List Expr):=EA.on {d:=none,E9:=λks vs _=>(if ks.isEmpty=true then none else some (ks,vs))}
def acH(x C:Str)(args:List Expr)(kws:List fj):aZ:=(iS (I.e nm (fJ σ)) args).bind λvs=>(rC (I.e nm (fJ σ)) kws).bind λks=>if ak nm C=some .globalImplicit/\C≠("__debug__":Str)/\tK σ x=false then(O.make C vs ks).bind λr=>eB (putN nm x (.a6 r.1 r.2.1 r.2.2) σ) else none
def aba(x y:Str):Option (List PV)->aZ
 |some (p::l)=>(putN nm y (.own l) σ).bind λσ=>eB (putN nm x (.pv p) σ)|_=>none
def Hr(x:Str)(e:Expr):aZ:=(bX (I.e nm) σ e).bind λq=>eB (putN nm x (DK (r9 e&&mu.contains x) q.1) q.2)
def DS(e:Expr):Option (Str×List Expr×List fj):=(Bw e).bind λq=>(iB q.1).map λC=>(C,q.2.1,q.2.2.1)
def ME(x:Str)(e:Expr):aZ:=qc (Qq e) (λy=>aba nm σ x y (gB σ y))<|
 qc (adp e) (λq=>(vI q.1 q.2).bind λr=>if r.Nodup/\r.length<=15 then eB (putN nm x (.dl r 0) σ) else none)<|
 qc (DS e) (λq=>if mu.contains x=true then acH O I nm σ x q.1 q.2.1 q.2.2 else Hr I nm mu σ x e) (Hr I nm mu σ x e)
def JA(e:Expr):Expr->aZ:=EA.on {d:=none,lc:=λx _=>ME O I nm mu σ x e,uI:=λes k tp=>((bX (I.e nm) σ e).bind λq=>eB (IW nm es k tp q.1 q.2 e)),vX:=λb i _=>((iB b).bind λx=>(bX (I.e nm) σ e).bind λq=>(gB q.2 x).bind λl=>(I.e nm (bA q.2) i).bind λk=>(jX l k q.1).bind λl'=>eB (putN nm x (.own l') q.2)),uJ:=λb f _=>((iB b).bind λx=>(bX (I.e nm) σ e).bind λq=>(j9 q.2 x).bind λv=>v.lI.bind λi=>if By.contains (i.1,f)=true/\i.2.1.length<=100 then eB (putN nm x (zH (r9 e) i.1 i.2.1 i.2.2 f q.1) q.2) else none)}
def PH(op:ia)(e:Expr):Expr->aZ:=EA.on {d:=none,lc:=λx _=>((j9 σ x).bind λv=>v.t8.bind λa=>(bX (I.e nm) σ e).bind λq=>(uB O op a q.1).bind λp=>eB (putN nm x (.pv p) q.2)),vX:=λb i _=>((iB b).bind λx=>(gB σ x).bind λl=>(I.e nm (bA σ) i).bind λk=>(bP (.list l) k).bind λa=>(bX (I.e nm) σ e).bind λq=>
    (uB O op a q.1).bind λp=>(gB q.2 x).bind λl=>(jX l k p).bind λl'=>eB (putN nm x (.own l') q.2))}
def raises(σ:bj)(e:Expr):Bool:=((DS e).bind λq=>if ak nm q.1=some .globalImplicit/\q.1≠("__debug__":Str) then(iS (I.e nm σ) q.2.1).bind λvs=>(rC (I.e nm σ) q.2.2).map λks=>O.nB q.1 vs ks else none).getD false
def sM(e:Expr):aZ:=qc (I.e nm (bA σ) e) (λp=>some (.ret p,σ))<|if raises O I nm (bA σ) e=true then some (.exc,σ) else none
def WJ(e c:Option Expr):aZ:=if c.isNone=true then e.bind λe=>(DS e).bind λq=>if q.1=("TiesException":Str)/\q.2.2.isEmpty=true/\ak nm q.1=some .globalImplicit then(iS (I.e nm (fJ σ)) q.2.1).bind λvs=>if vs.length<=aA then some (.exc,σ) else none else none else none
end
noncomputable def aS(X:ar->aH->aZ):List aH->ar->aZ
 |[],σ=>some (.next,σ)|st::r,σ=>(X σ st).bind λq=>if q.1.hX=true then aS X r q.2 else some q
def dZ(body:ar->aZ)(nm:aN)(t:Expr):List PV->ar->aZ
 |[],σ=>some (.next,σ)|v::r,σ=>(fY (sf nm) t v σ).bind λσ=>(body σ).bind λq=>if q.1.hX=true then dZ body nm t r q.2 else some q
def kK(t:Expr)(p:PV)(r:fS×ar):aZ:=PA.on {d:=some r,i9:=λ_ _=>(if r.1.hX=true then some r else none),xy:=λ_=>(some (r.1,A0 (vH t) r.2))} p
def Rw(O:aK)(I:Ip)(X:aN->List Str->ar->aH->aZ)(nm:aN)(mu:List Str)(σ:ar):aH->aZ
 |.Expr e _=>PE O I nm σ e|.Assign ts e _=>(o6 ts).bind (JA O I nm mu σ e)|.AugAssign t op e _=>PH O I nm σ op e t|.If t b c _=>(I.t nm (bA σ) t).bind λr=>aS (X nm mu) (if r=true then b else c) σ|.While t b CO pos=>if CO.isEmpty=true then(I.t nm (bA σ) t).bind λr=>if r=true then(aS (X nm mu) b σ).bind λq=>if q.1.hX=true then X nm mu q.2 (.While t b [] pos) else some q else some (.next,σ) else none
 |.For t it b CO _=>if CO.isEmpty=true then(bX (I.e nm) σ it).bind λq=>over q.1 λsrc=>(dZ (aS (X nm mu) b) nm t src q.2).bind (kK t q.1) else none
 |.Return e _=>e.bind (sM O I nm σ)|.Raise e c _=>WJ I nm σ e c|_=>none
def aw(O:aK):Nat->aN->List Str->ar->aH->aZ:=Nat.rec (λ_ _ _ _=>none) λn ih=>Rw O (ip n O) ih
abbrev a9(O:aK)(n:Nat)(nm:aN)(mu:List Str)(σ:ar)(b:List aH):aZ:=aS (aw O n nm mu) b σ
section
variable{c:Cx}{b:ao}{u:ac}{p:PV}{V:List ao}{o:Obj}{F:Fm}{σ':ar}
section
variable{f f':Fz}{h h':am}{a:ao}{l m:List PV}{v:ac}{q:PV}{as N:List ao}{vs us:List (Str×ac)}{fs:List (Str×PV)}{ow:List Str}{x:Str}{k n:Nat}{ls:List (List PV)}{cs:List (Nat×List Str)}{D:ao->Prop}
def uc(c:Cx)(f:Fz)(h:am)(a:ao)(l:List PV):Prop:=(∃vals n,h.get? a=some (bu vals n)/\aR c f vals l)/\l.length<=aA
def sL(c:Cx)(f:Fz)(h:am)(ow:List Str)(x:Str)(v:ac)(p:PV)(N:List ao):Prop:=(ow.contains x=false/\aV c f v p/\N=[])\/(ow.contains x=true/\∃a l,v=.ref a/\p=.list l/\uc c f h a l/\N=[a])
def jb(c:Cx)(f:Fz)(h:am)(ow:List Str):List (Str×PV)->List (Str×ac)->List ao->Prop
 |[],vs,as=>vs=[]/\as=[]|p::fs,vs,as=> ∃v r N f7,vs=(p.1,v)::r/\as=N++f7/\sL c f h ow p.1 v p.2 N/\jb c f h ow fs r f7
def oP(c:Cx)(f:Fz)(h:am)(k:Nat)(fs:List (Str×PV))(ow:List Str)(a:ao)(U:List ao):Prop:=
 ∃dx es n vs as,h.get? a=some (l9 k dx)/\h.get? dx=some (rV es n)/\jW c vs es/\jb c f h ow fs vs as/\U=a::dx::as/\(a::dx::as).Nodup/\(vs.map (·.1)).Nodup
def o0(h:am)(n:Nat):List (Str×ac)->List ao->Prop
 |[],as=>as=[]|p::vs,as=> ∃a r,p.2=.ref a/\as=a::r/\(∃vals k,h.get? a=some (bu vals k)/\vals.length<=n)/\o0 h n vs r
def abt(c:Cx)(h:am)(ks:List Str)(n:Nat)(a:ao)(U:List ao):Prop:=∃vs as,h.DictOf (strKind pw c.w) a vs/\o0 h n vs as/\vs.map (·.1)=ks/\U=a::as/\(a::as).Nodup
def je(c:Cx)(f:Fz)(h:am)(v:AV)(u:ac)(U:List ao):Prop:=match v with
 |.pv p=>aV c f u p/\U=[]|.own l=> ∃a,u=.ref a/\uc c f h a l/\U=[a]|.a6 k fs ow=> ∃a,u=.ref a/\oP c f h k fs ow a U|.dl ks n=> ∃a,u=.ref a/\abt c h ks n a U
theorem uc.mono(o:uc c f h a l)(hk:∀o,h.get? a=some o->h'.get? a=some o)(hf:Sub f f'):uc c f' h' a l:=by
 obtain⟨⟨vals,n,e,r⟩,z⟩:=o;exact⟨(de vals n (hk _ e) (r.mono hf)),z⟩
theorem sL.mono(e:sL c f h ow x v p N)(hk:∀b o,b∈N->h.get? b=some o->h'.get? b=some o)(hf:Sub f f'):sL c f' h' ow x v p N:=by
 rcases e with⟨a,r,e⟩|⟨a,d,l,e1,e2,o,rfl⟩
 ·exact .inl (ei a (r.mono hf) e)
 ·exact .inr ⟨a,d,l,e1,e2,o.mono (λo e=>hk d o (.head _) e) hf,rfl⟩
theorem jb.mono(s:jb c f h ow fs vs as)(hk:∀b o,b∈as->h.get? b=some o->h'.get? b=some o)(hf:Sub f f'):jb c f' h' ow fs vs as:=by
 induction fs generalizing vs as with
 |nil=>exact s
 |cons q fs ih=>
  obtain⟨v,r,N,f7,e1,rfl,e,s⟩:=s;exact(wa v r N f7 e1 rfl (e.mono (λb o m=>hk b o (tw _ m)) hf) (ih s λb o m=>hk b o (fE _ m)))
theorem o0.mono{n':Nat}(s:o0 h n vs as)(hk:∀b o,b∈as->h.get? b=some o->h'.get? b=some o)(hn:n<=n'):o0 h' n' vs as:=by
 induction vs generalizing as with
 |nil=>exact s
 |cons q vs ih=>
  obtain⟨a,r,e,rfl,⟨vals,k,e1,z⟩,s⟩:=s;exact(uL a r e rfl (de vals k (hk a _ (.head _) e1) (aq z hn)) (ih s λb o m=>hk b o (.tail _ m)))
theorem je.mono{v:AV}(s:je c f h v u V)(hk:∀b o,b∈V->h.get? b=some o->h'.get? b=some o)(hf:Sub f f'):je c f' h' v u V:=by
 cases v with
 |pv p=>exact⟨s.1.mono hf,s.2⟩|own l=>refine cP s λa e o c4=>?_;subst c4;exact(cz a e (o.mono (λo=>hk a o (.head _)) hf) rfl)
 |a6 k fs ow=>
  refine bE λgG hG=>?_;obtain⟨a,e,dx,es,n,vs,as,h1,h2,h3,h4,rfl,h6⟩:=s;exact hG (⟨a,e,dx,es,n,vs,as,hk _ _ (.head _) h1,hk _ _ (.tail _ (.head _)) h2,h3,h4.mono (λb o m=>hk b o (.tail _ (.tail _ m))) hf,rfl,h6⟩)
 |dl ks n=>
  refine bE λgG hG=>?_;obtain⟨a,e,vs,as,h1,h2,h3,rfl,h4⟩:=s;exact hG (⟨a,e,vs,as,h1.at λo=>hk a o (.head _),h2.mono (λb o m=>hk b o (.tail _ m)) (bf _),h3,rfl,h4⟩)
theorem jb.there(s:jb c f h ow fs vs as):∀b∈as,∃l,l∈vP fs ow/\uc c f h b l:=by
 induction fs generalizing vs as with
 |nil=>exact λb m=>mN (s.2▸m)
 |cons q fs ih=>
  obtain⟨v,r,N,f7,e1,rfl,e,s⟩:=s;intro b m;unfold vP;erw[Ch];rcases e with⟨a,_,rfl⟩|⟨a,d,l,_,e2,o,rfl⟩
  ·erw[a];exact ih s b m
  ·refine aa (a) (aa (e2) ?_);rcases bw m with rfl|m
   ·exact(az l (.head _) o)
   ·refine aB (ih s b m) λl' k1 k2=>?_;exact(az l' (.tail _ k1) k2)
theorem o0.there(s:o0 h n vs as):∀b∈as,∃o,h.get? b=some o:=by
 induction vs generalizing as with
 |nil=>exact λb m=>mN (s▸m)
 |cons q vs ih=>
  obtain⟨a,r,e,rfl,⟨vals,k,e1,z⟩,s⟩:=s;intro b m;rcases bw m with rfl|m
  ·exact⟨_,e1⟩
  ·exact ih s b m
theorem je.there{v:AV}(s:je c f h v u V)(b:ao)(m:b∈V):∃o,h.get? b=some o:=by
 cases v with
 |pv p=>exact mN (s.2▸m)|own l=>obtain⟨a,_,⟨⟨vals,n,e,_⟩,_⟩,rfl⟩:=s;exact cY m▸⟨_,e⟩
 |a6 k fs ow=>
  obtain⟨a,e,dx,es,n,vs,as,h1,h2,h3,h4,rfl,h6⟩:=s;rcases bw m with rfl|m
  ·exact⟨_,h1⟩
  ·rcases bw m with rfl|m
   ·exact⟨_,h2⟩
   ·obtain⟨_,_,⟨_,_,e,_⟩,_⟩:=h4.there b m;exact⟨_,e⟩
 |dl ks n=>
  refine bE λgG hG=>?_;obtain⟨a,e,vs,as,h1,h2,h3,rfl,h4⟩:=s;refine hG ?_;rcases bw m with rfl|m
  ·refine aB (am.dictOf_iff.mp h1) λo e _=>?_;exact⟨o,e⟩
  ·exact h2.there b m
def qG(f:Fz)(D:ao->Prop):Fz:=λa=>open Classical in if D a then none else f a
open Classical in
theorem GT(e:qG f D a=some o):f a=some o/\¬D a:=fZ e λn e=>⟨e,n⟩
open Classical in
theorem sR(e:f a=some o)(n:¬D a):qG f D a=some o:=(iN n).trans e
open Classical in
theorem MR(e:¬D a->f a=none):qG f D a=none:=by
 by_cases q:D a
 ·exact iP q
 ·exact(iN q).trans (e q)
def r8(c:Cx)(f:Fz)(ls:List (List PV))(cs:List (Nat×List Str))(o:Obj):Prop:=
 (∃l∈ls,∃vals n,o=bu vals n/\aR c f vals l)\/(∃q∈cs,∃dx,o=l9 q.1 dx)\/(∃q∈cs,∃es n vs,o=rV es n/\jW c vs es/\vs.map (·.1)=q.2)
theorem r8.mono{mT:List (List PV)}{mW:List (Nat×List Str)}(h1:∀l∈ls,l∈mT)(h2:∀q∈cs,q∈mW)(d:r8 c f ls cs o):r8 c f mT mW o:=
 d.imp (λd=>d.imp λl d=>⟨h1 l d.1,d.2⟩) λd=>d.imp (λd=>d.imp λq d=>⟨h2 q d.1,d.2⟩) λd=>d.imp λq d=>⟨h2 q d.1,d.2⟩
noncomputable def JN(o:Obj):Nat:=match o.cls with
 |.ref k=>9+k|.type t=>if t="tuple" then 4 else if t="list" then 5 else if t="set" then 6 else 7
 |_=>0
def RJ(f:Fz):ac->Nat
 |.none=>0|.bool _=>1|.int ..=>2|.str ..=>3|.ref a=>((f a).map JN).getD 0|_=>0
theorem O1(r:aV c f v p):p.iV=true\/p.kind=RJ f v:=by
 have ref:∀{a o},f a=some o->RJ f (.ref a)=JN o:=λ{a o} e=>show((f a).map JN).getD 0=_ by erw[e];rfl
 induction p using dg with
 |none=>exact qT r (.inr rfl)|bool=>exact mf r (.inr rfl)|int=>exact bU r λ_=>.inr rfl|str=>exact jj r λ_=>.inr rfl|tup=>exact iT r λh _ _=>.inr (ref h).symm|list=>exact dX r λh _ _=>.inr (ref h).symm|set=>exact lu r λh _ _=>.inr (ref h).symm|d8=>exact qA r λh _ _ _=>.inr (ref h).symm|inst=>exact sV r λh _ _ _=>.inr (ref h).symm|any=>exact .inl rfl
theorem Xg{vs:List ac}(r:aR c f vs l)(r':aR c f vs m):nM l m=true:=by
 induction l using bO with
 |nil=>induction m using bO with
  |nil=>rfl|cons=>exact i0 (m:=λvs=>aR c f vs (_::_)->_) r (λr=>(eC (m:=λvs=>vs=[]->_) r λ_ _ e=>ln e) rfl) r'
 |cons p l=>induction m using bO with
  |nil=>exact i0 (m:=λvs=>aR c f vs (_::_)->_) r' (λr=>(eC (m:=λvs=>vs=[]->_) r λ_ _ e=>ln e) rfl) r
  |cons q m=>
   refine eC (m:=λvs=>aR c f vs (q::m)->Dj p q=true) r (λa _ r'=>?_) r';refine Rv (m:=λl=>l=q::m->Dj p q=true) r' (λb _ e=>?_) rfl;injection e with e
   subst e;unfold Dj;rcases O1 a with a|a
   ·erw[a];rfl
   ·rcases O1 b with b|b
    ·erw[b];rw[Bool.or_true];rfl
    ·rw[a,b,beq_self_eq_true,Bool.or_true]
theorem Z0{es:List pQ}(e:jW c vs es)(e':jW c us es):vs.map (·.1)=us.map (·.1):=by
 induction vs generalizing us es with
 |nil=>
  cases(e:es=[]);induction us using bO with
  |nil=>rfl|cons=>refine eJ e' λ_ _ e' _=>?_;exact nl e'
 |cons p vs ih=>
  obtain⟨t,r,rfl,e⟩:=e;induction us using bO with
  |nil=>exact ln (e':_::_=[])
  |cons q us=>
   refine eJ e' λt' r' e1 e'=>?_;injection e1 with e1 e2
   subst e2;injection e1 with _ e1
   injection e1 with e1
   refine aa (oB) (aa (oB) (aa (ih e e') (aa (e1) ?_)));rfl
theorem afT(r:bI c f vs fs):vs.map (·.1)=fs.map (·.1):=by
 induction fs generalizing vs with
 |nil=>exact tc r rfl|cons q fs ih=>exact oZ r λ_ r=>af (q.1:: ·) (ih r)
theorem Dp{s t:String}{o o':Obj}{P:Prop}(e:o=o')(h:o.cls=.type s)(h':o'.cls=.type t)(n:s≠t):P:=absurd (iE.inj (h.symm.trans ((af uX e).trans h'))) n
theorem r8.GG{s:String}(d:r8 c f ls cs o)(e:o.cls=.type s)(h1:s≠ "list")(h2:s≠ "dict"):False:=by
 rcases d with⟨_,_,_,_,q,_⟩|⟨_,_,_,q⟩|⟨_,_,_,_,_,q,_⟩
 ·exact Dp q e rfl h1
 ·nomatch e.symm.trans (af uX q)
 ·exact Dp q e rfl h2
theorem eT{a b:Bool}(h:(a||b)=false):a=false/\b=false:=rx.mp h
theorem aV.gJ(hD:∀a o,D a->f a=some o->r8 c f ls cs o)(r:aV c f v p)(q:cf ls cs p=false):aV c (qG f D) v p:=
 PV.rec (motive_1:=λp=> ∀v,aV c f v p->cf ls cs p=false->aV c (qG f D) v p) (motive_2:=λl=> ∀v,aR c f v l->io ls cs l=false->aR c (qG f D) v l) (motive_3:=λl=> ∀v,bI c f v l->vB ls cs l=false->bI c (qG f D) v l) (motive_4:=λq=> ∀v,aV c f v q.2->cf ls cs q.2=false->aV c (qG f D) v q.2)
  (λ_ r _=>r) (λ_ _ r _=>r) (λ_ _ r _=>r) (λ_ _ r _=>r) (λ_ ih _ r q=>iT r λh r z=>.tup (sR h λk=>(hD _ _ k h).GG rfl (by decide) (by decide)) (ih _ r q) z)
  (λl ih _ r q=>dX r λ{a n vs} h r z=>.list (sR h λk=>by
   rcases hD _ _ k h with⟨l',m,vals,n',e,rl⟩|⟨_,_,_,e⟩|⟨_,_,_,_,_,e,_⟩
   ·injection e with _ _ e;injection e with e;injection e with e
    exact vd.mp (eT q).1 _ m (Xg rl (e▸r))
   ·nomatch af uX e
   ·exact Dp e rfl rfl (by decide)) (ih _ r (eT q).2) z)
  (λ_ _ r _=>lu r λh=>.set (sR h λk=>(hD _ _ k h).GG rfl (by decide) (by decide))) (λ_ _ _ r _=>qA r λh=>.d8 (sR h λk=>(hD _ _ k h).GG rfl (by decide) (by decide)))
  (λk fs ih _ r q=>sV r λ{a dx n es vs} h g e r=>.inst (sR h λkk=>by
   rcases hD _ _ kk h with⟨_,_,_,_,e,_⟩|⟨q',m,_,e⟩|⟨_,_,_,_,_,e,_⟩
   ·nomatch af uX e
   ·exact vd.mp (eT q).1 _ m (Ln.mpr (.inl (jZ (pO.inj (af uX e)).symm)))
   ·nomatch af uX e) (sR g λkk=>by
   rcases hD _ _ kk g with⟨_,_,_,_,e,_⟩|⟨_,_,_,e⟩|⟨q',m,d0,n',xd,e1,e2,e3⟩
   ·exact Dp e rfl rfl (by decide)
   ·nomatch af uX e
   ·injection e1 with _ _ e1;injection e1 with e1;injection e1 with e1
    exact vd.mp (eT q).1 _ m (Ln.mpr (.inr (jZ (e3.symm.trans ((Z0 e2 (e1▸e)).trans (afT r))))))) e (ih _ r (eT q).2)) (λ_ r _=>r)
  (λ_ r _=>r) (λ_ _ a b _ r q=>eC r λu us=>.cons (a _ u (eT q).1) (b _ us (eT q).2)) (λ_ r _=>r) (λ_ _ a b _ r q=>oZ r λu us=>.cons (a _ u (eT q).1) (b _ us (eT q).2)) (λ_ _ a=>a) p v r q
theorem aR.gJ{vs:List ac}(hD:∀a o,D a->f a=some o->r8 c f ls cs o)(r:aR c f vs l)(q:io ls cs l=false):aR c (qG f D) vs l:=by
 induction l generalizing vs with
 |nil=>exact r|cons p l ih=>exact eC r λa r=>.cons (a.gJ hD (eT q).1) (ih r (eT q).2)
noncomputable def AV.jc:AV->Bool
 |.own _|.a6 ..=>true|_=>false
theorem Y4(s:jb c f h ow fs vs as)(hf:Sub f f')(hk:∀b o,b∈as->h.get? b=some o->f' b=some o):bI c f' vs fs:=by
 induction fs generalizing vs as with
 |nil=>exact s.1▸ .nil
 |cons q fs ih=>
  obtain⟨v,r,N,f7,rfl,rfl,e,s⟩:=s;refine .cons ?_ (ih s λb o m=>hk b o (fE _ m));rcases e with⟨_,r,_⟩|⟨_,a,l,rfl,e2,⟨⟨vals,n,e,r⟩,z⟩,rfl⟩
  ·exact r.mono hf
  ·erw[e2];exact .list (hk _ _ (.head _) e) (r.mono hf) z
theorem Jy{v:AV}(s:je c f h v u V)(hf:Sub f f')(hk:v.jc=true->∀b o,b∈V->h.get? b=some o->f' b=some o):aV c f' u v.val:=by
 induction v using lA with
 |pv p=>exact s.1.mono hf|own l=>obtain⟨a,rfl,⟨⟨vals,n,e,r⟩,z⟩,rfl⟩:=s;exact .list (hk rfl _ _ (.head _) e) (r.mono hf) z
 |a6 k fs ow=>
  refine bE λgG hG=>?_;obtain⟨a,rfl,dx,es,n,vs,as,h1,h2,h3,h4,rfl,h6⟩:=s;exact hG (.inst (hk rfl _ _ (.head _) h1) (hk rfl _ _ (.tail _ (.head _)) h2) h3 (Y4 h4 hf λb o m=>hk rfl b o (.tail _ (.tail _ m))))
 |dl=>exact .any
theorem MZ(s:jb c f h ow fs vs as):vs.map (·.1)=fs.map (·.1):=by
 induction fs generalizing vs as with
 |nil=>exact s.1▸rfl|cons q fs ih=>obtain⟨v,r,N,f7,rfl,rfl,e,s⟩:=s;exact af (q.1:: ·) (ih s)
theorem ac1{v:AV}(s:je c f h v u V)(hv:v.jc=true)(hf:Sub f f')(m:b∈V)(e:h.get? b=some o):r8 c f' (HG v) (IH v) o:=by
 induction v using lA with
 |pv=>injection hv|dl=>injection hv
 |own l=>
  refine bE λgG hG=>?_;obtain⟨a,rfl,⟨⟨vals,n,e',r⟩,z⟩,rfl⟩:=s;cases cY m;exact hG (oI (e'.symm.trans e) (.inl ⟨l,.head _,vals,n,rfl,r.mono hf⟩))
 |a6 k fs ow=>
  refine bE λgG hG=>?_;obtain⟨a,rfl,dx,es,n,vs,as,h1,h2,h3,h4,rfl,h6⟩:=s;refine hG ?_;rcases bw m with rfl|m
  ·exact oI (h1.symm.trans e) (.inr (.inl ⟨_,.head _,dx,rfl⟩))
  ·rcases bw m with rfl|m
   ·exact oI (h2.symm.trans e) (.inr (.inr ⟨_,.head _,es,n,vs,rfl,h3,MZ h4⟩))
   ·refine bE λgG hG=>?_;obtain⟨l,k1,⟨vals,n',e',r⟩,z⟩:=h4.there b m;exact hG (oI (e'.symm.trans e) (.inl ⟨l,k1,vals,n',rfl,r.mono hf⟩))
theorem acY{mT:List (List PV)}{mW:List (Nat×List Str)}:cf ls cs p=false->cf mT mW p=false->cf (ls++mT) (cs++mW) p=false:=
 PV.rec (motive_1:=λp=>cf ls cs p=false->cf mT mW p=false->cf (ls++mT) (cs++mW) p=false) (motive_2:=λl=>io ls cs l=false->io mT mW l=false->io (ls++mT) (cs++mW) l=false) (motive_3:=λl=>vB ls cs l=false->vB mT mW l=false->vB (ls++mT) (cs++mW) l=false) (motive_4:=λq=>cf ls cs q.2=false->cf mT mW q.2=false->cf (ls++mT) (cs++mW) q.2=false)
  (λh _=>h) (λ_ h _=>h) (λ_ h _=>h) (λ_ h _=>h) (λ_ ih=>ih) (λ_ ih h h'=>rx.mpr ⟨List.any_append.trans (rx.mpr ⟨(eT h).1,(eT h').1⟩),ih (eT h).2 (eT h').2⟩) (λ_ h _=>h) (λ_ _ h _=>h)
  (λ_ _ ih h h'=>rx.mpr ⟨List.any_append.trans (rx.mpr ⟨(eT h).1,(eT h').1⟩),ih (eT h).2 (eT h').2⟩) (λh _=>h) (λh _=>h) (λ_ _ a b h h'=>rx.mpr ⟨a (eT h).1 (eT h').1,b (eT h).2 (eT h').2⟩) (λh _=>h) (λ_ _ a b h h'=>rx.mpr ⟨a (eT h).1 (eT h').1,b (eT h).2 (eT h').2⟩) (λ_ _ a=>a) p
theorem HQ:cf [] [] p=false:=
 PV.rec (motive_1:=λp=>cf [] [] p=false) (motive_2:=λl=>io [] [] l=false) (motive_3:=λl=>vB [] [] l=false) (motive_4:=λq=>cf [] [] q.2=false) rfl (λ_=>rfl) (λ_=>rfl) (λ_=>rfl) (λ_ ih=>ih) (λ_ ih=>ih) (λ_=>rfl) (λ_ _=>rfl) (λ_ _ ih=>ih) rfl
  rfl (λ_ _ a b=>rx.mpr ⟨a,b⟩) rfl (λ_ _ a b=>rx.mpr ⟨a,b⟩) (λ_ _ a=>a) p
def Av(σ:ar):List (List PV):=σ.flatMap λq=>HG q.2
def AM(σ:ar):List (Nat×List Str):=σ.flatMap λq=>IH q.2
theorem aeZ{σ:ar}(h:∀q∈σ,q.2.seen p=false):cf (Av σ) (AM σ) p=false:=by
 induction σ with
 |nil=>exact HQ|cons q σ ih=>exact acY (h q (.head _)) (ih λq m=>h q (.tail _ m))
end
section
variable{α β:Type}{l:List (Str×α)}{z y:Str}{v:α}
theorem JO(nd:(l.map (·.1)).Nodup)(m:(z,v)∈l):ak l z=some v:=by
 induction l with
 |nil=>exact mN m
 |cons q r ih=>
  have n:=iW nd;rcases bw m with e|m
  ·subst e;exact iP rfl
  ·exact(iN λe:q.1=z=>n.1 (e.symm▸qZ (f:=(·.1)) m:q.1∈r.map (·.1))).trans (ih n.2 m)
theorem G8{g:α->β}:ak (l.map λq=>(q.1,g q.2)) z=(ak l z).map g:=by
 induction l with
 |nil=>rfl
 |cons q r ih=>
  obtain⟨y,u⟩:=q;show(if y=z then some (g u) else ak (r.map λq=>(q.1,g q.2)) z)=(if y=z then some u else ak r z).map g;by_cases e:y=z
  ·erw[iP e];erw[iP e];rfl
  ·refine aa (iN e) (aa (iN e) (aa (ih) ?_));rfl
theorem acg(h:y∈(b9 l z v).map (·.1)):y=z\/y∈l.map (·.1):=by
 induction l with
 |nil=>exact .inl (cY h)
 |cons q r ih=>
  obtain⟨k,u⟩:=q;by_cases e:k=z
  ·rw[show b9 ((k,u)::r) z v=(z,v)::r from iP e] at h;exact(bw h).imp id λh=>.tail _ h
  ·rw[show b9 ((k,u)::r) z v=(k,u)::b9 r z v from iN e] at h;exact(bw h).elim (λh=>.inr (h▸ .head _)) λh=>(ih h).imp id λh=>.tail _ h
theorem Pz(h:(l.map (·.1)).Nodup):((b9 l z v).map (·.1)).Nodup:=by
 induction l with
 |nil=>exact nR ⟨eX,wS⟩
 |cons q r ih=>
  obtain⟨k,u⟩:=q;have n:=iW h;by_cases e:k=z
  ·erw[(show b9 ((k,u)::r) z v=(z,v)::r from iP e)];exact nR ⟨e▸n.1,n.2⟩
  ·erw[(show b9 ((k,u)::r) z v=(k,u)::b9 r z v from iN e)];exact nR ⟨λm=>(acg m).elim e n.1,ih n.2⟩
end
noncomputable def xz(U:Str->List ao)(x:Str)(V:List ao):Str->List ao:=λy=>if y=x then V else U y
structure St(c:Cx)(F:Fm) where
 x:Pt c
 σ:ar
 U:Str->List ao
 nd:(σ.map (·.1)).Nodup
 cR:∀z a,F.env.cells.lookup z=some a->∃v,x.s.heap.IsCell a v
 o:jK F x
 own:∀z v,ak σ z=some v->∃u,dA F.env x.s.heap z u/\je c x.f x.s.heap v u (U z)
 fresh:∀z v,ak σ z=some v->∀b∈U z,bW x b/\¬dq F.env b
 dj:∀z y v u,z≠y->ak σ z=some v->ak σ y=some u->∀b∈U z,b∉U y
def WU{c:Cx}{F:Fm}(P:St c F)(b:ao):Prop:=tM F b\/∃z v,ak P.σ z=some v/\b∈P.U z
structure bD{c:Cx}{F:Fm}(P Q:St c F):Prop where
 st:cH (WU P) P.x Q.x
 wu:∀b,WU Q b->WU P b\/P.x.s.heap.get? b=none
 a6:∀z k fs ow a,ak P.σ z=some (.a6 k fs ow)->dA F.env P.x.s.heap z (.ref a)->(∃eY ow',ak Q.σ z=some (.a6 k eY ow'))/\dA F.env Q.x.s.heap z (.ref a)
section
variable{P Q R:St c F}{y w:Pt c}{z q:Str}{v:AV}{D:ao}{W:ao->Prop}{g:Nat}{ex:Str->Prop}
theorem aaD{σ:ar}(nd:(σ.map (·.1)).Nodup)(h:ak (fJ σ) z=some p):ak σ z=some (.pv p):=by
 obtain⟨⟨y,v⟩,m,e⟩:=ahc.mp (gL h);refine aB (tE.mp e) λp' e1 e2=>?_;induction v using lA with
 |pv p''=>cases ay e1;injection e2 with e2 e3;subst e2 e3;exact JO nd m
 |_=>exact nS e1
theorem St.vars(P:St c F):bB F P.x (fJ P.σ):=⟨P.cR,λz p h=>aB (P.own z _ (aaD P.nd h)) λu V a=>(az u V a.1)⟩
theorem St.IZ(P:St c F)(h:dq F.env b):∃o,P.x.s.heap.get? b=some o:=by
 rcases h with rfl|⟨z,e⟩
 ·refine tU P.o.ns λm o es ep e _=>?_;exact⟨o,e⟩
 ·refine eJ (P.cR z b e) λv o e _=>?_;exact⟨o,e⟩
theorem St.there(P:St c F)(h:ak P.σ z=some v)(m:b∈P.U z):∃o,P.x.s.heap.get? b=some o:=by refine aB (P.own z v h) λu _ a=>?_;exact a.there b m
theorem St.afW(P:St c F)(h:WU P b):¬dB b:=h.elim (λh=>qF (nW h)) λh=>by refine eJ h λz v h m=>?_;exact cK (P.fresh z v h b m).1.hi
theorem St.vE(P:St c F)(n:P.x.s.heap.get? b=none):¬dq F.env b:=λh=>(P.IZ h).elim λo e=>nS (n.symm.trans e)
theorem St.xm(P:St c F)(n:P.x.s.heap.get? b=none)(h:ak P.σ z=some v):b∉P.U z:=λm=>(P.there h m).elim λo e=>nS (n.symm.trans e)
structure kM(P:St c F)(y:Pt c)(ex:Str->Prop):Prop where
 sub:Sub P.x.f y.f
 old:∀q v,¬ex q->dA F.env P.x.s.heap q v->dA F.env y.s.heap q v
 cR:∀z a,F.env.cells.lookup z=some a->∃v,y.s.heap.IsCell a v
 o:jK F y
 keep:∀q v,¬ex q->ak P.σ q=some v->∀b∈P.U q,bW y b/\∀o,P.x.s.heap.get? b=some o->y.s.heap.get? b=some o
theorem kM.Sz(U:kM P y ex)(n:¬ex q)(h:ak P.σ q=some v):∃u,dA F.env y.s.heap q u/\je c y.f y.s.heap v u (P.U q):=aB (P.own q v h) λu V a=>(az u (U.old q u n V) (a.mono (λb o m e=>(U.keep q v n h b m).2 o e) U.sub))
theorem kM.yn(l:br W g P.x y)(h1:∀b,W b->¬dq F.env b)(h2:∀q v,¬ex q->ak P.σ q=some v->∀b∈P.U q,¬W b):kM P y ex:=by
 have kv:∀b o,dq F.env b->P.x.s.heap.get? b=some o->y.s.heap.get? b=some o:=λb o w e=>l.e.keep b o e (qF w) λq=>h1 b q w;refine⟨l.sub,λq v _ V=>V.keep kv,λz a e=>?_,⟨?_,P.o.own.step l (P.IZ (.inl rfl)) λq=>h1 _ q (.inl rfl),P.o.loc,λz e=>?_⟩,λq v n h b m=>⟨(P.fresh q v h b m).1.step l (P.there h m) (h2 q v n h b m),λo e=>l.e.keep b o e (cK (P.fresh q v h b m).1.hi) (h2 q v n h b m)⟩⟩
 ·refine eJ (P.cR z a e) λv o e1 e2=>?_;exact(de v o (kv a o (.inr ⟨z,e⟩) e1) e2)
 ·obtain⟨m,n⟩:=P.o.ns;exact⟨m,n.at' λo e=>kv _ o (.inl rfl) e⟩
 ·obtain⟨k1,a,b,n⟩:=P.o.kJ z e;exact⟨k1,a,b,n.step l (P.IZ (.inr ⟨z,b⟩)) λq=>h1 _ q (.inr ⟨z,b⟩)⟩
theorem kM.V1(S:zI F z u P.x y):kM P y (· =z):=⟨(S.wr 0).sub,λq v n V=>S.old q v n V,S.cR,S.r,λq v n h b m=>⟨(S.wr 0).free (P.fresh q v h b m).1,λo e=>(S.wr 0).e.keep b o e (cK (P.fresh q v h b m).1.hi) λw=>(P.fresh q v h b m).2 (nW w)⟩⟩
noncomputable def St.move(P:St c F)(y:Pt c)(U:kM P y λ_=>False):St c F where
 x:=y
 σ:=P.σ
 U:=P.U
 nd:=P.nd
 cR:=U.cR
 o:=U.o
 own z v h:=U.Sz id h
 fresh z v h b m:=⟨(U.keep z v id h b m).1,(P.fresh z v h b m).2⟩
 dj:=P.dj
structure Dr(P:St c F)(y:Pt c)(z:Str)(v:AV)(V:List ao):Prop where
 nv:∃u,dA F.env y.s.heap z u/\je c y.f y.s.heap v u V
 fr:∀b∈V,bW y b/\¬dq F.env b
 ap:∀b∈V,∀q v,q≠z->ak P.σ q=some v->b∉P.U q
theorem afI{U:Str->List ao}:xz U z V z=V:=iP rfl
theorem aaU{U:Str->List ao}(n:q≠z):xz U z V q=U q:=iN n
theorem yl{U:Str->List ao}(e:q=z)(m:b∈xz U z V q):b∈V:=Eq.mp (af (b∈ ·) (iP e)) m
theorem rE{U:Str->List ao}(e:q≠z)(m:b∈xz U z V q):b∈U q:=Eq.mp (af (b∈ ·) (iN e)) m
def St.put(P:St c F)(y:Pt c)(z:Str)(v:AV)(V:List ao)(U:kM P y (· =z))(N:Dr P y z v V):St c F where
 x:=y
 σ:=b9 P.σ z v
 U:=xz P.U z V
 nd:=Pz P.nd
 cR:=U.cR
 o:=U.o
 own q u h:=sK h (λe e'=>by erw[e];erw[e'];erw[afI];exact N.nv) λn h=>by erw[aaU n];exact U.Sz n h
 fresh q u h b m:=sK h (λe _=>N.fr b (yl e m)) λn h=>⟨(U.keep q u n h b (rE n m)).1,(P.fresh q u h b (rE n m)).2⟩
 dj q r a d n h1 h2 b m m':=sK h1 (λe _=>sK h2 (λe' _=>n (e.trans e'.symm)) λn' h2=>N.ap b (yl e m) r d n' h2 (rE n' m'))
  λn' h1=>sK h2 (λe _=>N.ap b (yl e m') q a n' h1 (rE n' m)) λn'' h2=>P.dj q r a d n h1 h2 b (rE n' m) (rE n'' m')
noncomputable def St.weak(P:St c F)(σ':ar)(nd:(σ'.map (·.1)).Nodup)(h:∀z v,ak σ' z=some v->ak P.σ z=some v):St c F:=
 {P with σ:=σ',nd:=nd,own:=λz v e=>P.own z v (h z v e),fresh:=λz v e=>P.fresh z v (h z v e),dj:=λz y v u n e1 e2=>P.dj z y v u n (h z v e1) (h y u e2)}
theorem bD.refl(P:St c F):bD P P:=⟨.refl,λ_=>.inl,λ_ _ fs ow _ h V=>⟨(jw fs ow h),V⟩⟩
theorem bD.EG(a:bD P Q)(l:cH W Q.x y)(h:∀b,W b->WU P b\/P.x.s.heap.get? b=none):cH (WU P) P.x y:=br.shrink (W':=λb=>WU P b\/P.x.s.heap.get? b=none) (cH.trans (a.st.weaken λ_=>.inl) (l.weaken h)) λ_=>id
theorem bD.trans(a:bD P Q)(b:bD Q R):bD P R where
 st:=a.EG b.st a.wu
 wu c q:=(b.wu c q).elim (a.wu c) λn=>(a.st.e.back (R.afW q) n).symm
 a6 z k fs ow x h V:=by
  obtain⟨⟨eY,ow',h'⟩,V'⟩:=a.a6 z k fs ow x h V;exact b.a6 z k eY ow' x h' V'
theorem bD.move(a:bD P Q){U:kM Q y λ_=>False}(l:cH W Q.x y)(h:∀b,W b->WU P b\/P.x.s.heap.get? b=none):bD P (Q.move y U):=⟨a.EG l h,a.wu,λz k fs ow x e V=>(a.a6 z k fs ow x e V).imp id (U.old z _ id)⟩
theorem bD.put(a:bD P Q){U:kM Q y (· =z)}{N:Dr Q y z v V}(l:cH W Q.x y)(h:∀b,W b->WU P b\/P.x.s.heap.get? b=none)(hV:∀b∈V,WU P b\/P.x.s.heap.get? b=none)
(sl:∀k fs ow a,ak Q.σ z=some (.a6 k fs ow)->dA F.env Q.x.s.heap z (.ref a)->(∃eY ow',v=.a6 k eY ow')/\dA F.env y.s.heap z (.ref a)):bD P (Q.put y z v V U N) where
 st:=a.EG l h
 wu b q:=q.elim (λq=>a.wu b (.inl q)) λq=>eJ q λr d h m=>sK h (λe _=>hV b (yl e m)) λn h=>a.wu b (.inr (de r d h (rE n m)))
 a6 r k fs ow d h V':=by
  obtain⟨⟨eY,ow',h'⟩,Uo⟩:=a.a6 r k fs ow d h V';by_cases e:r=z
  ·subst e;obtain⟨⟨fs2,Uq,e⟩,V3⟩:=sl k eY ow' d h' Uo;exact⟨(jw fs2 Uq (wi.trans ((iP rfl).trans (af some e)))),V3⟩
  ·exact⟨(jw eY ow' (wi.trans ((iN e).trans h'))),U.old r _ e Uo⟩
theorem bD.weak{nd:(σ'.map (·.1)).Nodup}{h:∀z v,ak σ' z=some v->ak P.σ z=some v}(s:∀z k fs ow,ak P.σ z=some (.a6 k fs ow)->ak σ' z=some (.a6 k fs ow)):bD P (P.weak σ' nd h):=
 ⟨.refl,λb q=>.inl (q.imp id λ⟨z,v,e,m⟩=>(de z v (h z v e) m)),λz k fs ow a e V=>⟨(jw fs ow (s z k fs ow e)),V⟩⟩
theorem kM.le(l:Le P.x y):kM P y ex:=.yn (W:=λ_=>False) (g:=0) l.st (λ_=>False.elim) λ_ _ _ _ _ _=>id
noncomputable def St.le(P:St c F)(l:Le P.x y):St c F:=P.move y (.le l)
theorem bD.le(l:Le P.x y):bD P (P.le l):=(bD.refl P).move (W:=λ_=>False) l.st λ_=>False.elim
def lZ(P:St c F)(σ:ar)(b:ao):Prop:=∃z v,ak σ z=some v/\v.jc=true/\b∈P.U z
def Ap(P:St c F):Fz:=λb=>open Classical in if lZ P P.σ b then P.x.s.heap.get? b else P.x.f b
open Classical in
theorem D5{X:Prop}(e:Ap P b=some o)(k1:lZ P P.σ b->P.x.s.heap.get? b=some o->X)(k2:P.x.f b=some o->X):X:=d9 e k1 λ_=>k2
open Classical in
theorem Qf(h:lZ P P.σ b):Ap P b=P.x.s.heap.get? b:=iP h
open Classical in
theorem Rq(h:¬lZ P P.σ b):Ap P b=P.x.f b:=iN h
theorem lZ.free(h:lZ P P.σ b):bW P.x b/\¬dq F.env b:=by refine s8 h λz v h _ m=>?_;exact P.fresh z v h b m
theorem BP:Sub P.x.f (Ap P):=λb o e=>(Rq λq=>nS (q.free.1.f.symm.trans e)).trans e
def St.jc(P:St c F):Pt c where
 s:=P.x.s
 f:=Ap P
 keep:=P.x.keep
 tab:=P.x.tab
 K a o e:=BP a o (P.x.K a o e)
 nt a o e:=D5 e (λq _=>cK q.free.1.hi) (P.x.nt a o)
 hs a o e:=D5 e (λ_=>id) (P.x.hs a o)
theorem St.rH(P:St c F):bB F P.jc (bA P.σ):=⟨P.cR,λz p h=>by
 refine aB (tE.mp (G8.symm.trans h)) λv h' bZ=>?_;subst bZ;exact aB (P.own z v h') λu V a=>(az u V (Jy a BP λhv b o m e=>(Qf (xX z v h' hv m)).trans e))⟩
theorem Ro(h:(fz p v).jc=true):fz p v=v:=by
 induction v using lA with
 |own l=>
  by_cases q:cf [l] [] p=true
  ·rw[show fz p (.own l)=.pv (.list l) from iP q] at h;injection h
  ·exact iN q
 |_=>rfl
theorem zR:ak (dY p P.σ) z=(ak P.σ z).map (fz p):=G8
theorem VV{σ:ar}:(dY p σ).map (·.1)=σ.map (·.1):=by unfold dY;erw[jt];rfl
theorem GU(h:lZ P (dY p P.σ) b):lZ P P.σ b:=by
 refine s8 h λz v' h hv m=>aB (tE.mp (zR.symm.trans h)) λv h' bZ=>?_;subst bZ;exact(xX z v h' (Ro hv▸hv) m)
def Pt.drop(y:Pt c)(D:ao->Prop)(h:∀a o,(KL c.w.params).lookup a=some o->¬D a):Pt c where
 s:=y.s
 f:=qG y.f D
 keep:=y.keep
 tab:=y.tab
 K a o e:=sR (y.K a o e) (h a o e)
 nt a o e:=y.nt a o (GT e).1
 hs a o e:=y.hs a o (GT e).1
structure Pw(P:St c F)(p:PV)(y:Pt c)(Q:St c F):Prop where
 R:bD P Q
 s:Q.x.s=y.s
 σ:Q.σ=dY p P.σ
 rd:∀v q,Rd q y v->cf (Av (dY p P.σ)) (AM (dY p P.σ)) q=false->Rd q Q.x v
 UX:∀vs l,bt l y vs->io (Av (dY p P.σ)) (AM (dY p P.σ)) l=false->bt l Q.x vs
 n:∀a,y.f a=none->Q.x.f a=none
 back:∀z v,ak Q.σ z=some v->∀b∈Q.U z,∃v',ak P.σ z=some v'/\b∈P.U z
 U:∀z v,ak Q.σ z=some v->v.t8=none->Q.U z=P.U z
theorem Qu{σ:ar}(h:σ.any (λq=>q.2.kY&&q.2.seen p)=false):cf (Av (dY p σ)) (AM (dY p σ)) p=false:=aeZ λq m=>by
 obtain⟨⟨z,v⟩,m',rfl⟩:=rn.mp m;show(fz p v).seen p=false;induction v using lA with
 |own l=>
  by_cases q:cf [l] [] p=true
  ·erw[(show fz p (.own l)=.pv (.list l) from iP q)];exact HQ
  ·erw[(show fz p (.own l)=.own l from iN q)];exact nq q
 |a6 k fs ow=>exact nq λe=>vd.mp h (z,.a6 k fs ow) m' (T9.mpr ⟨rfl,e⟩)|_=>exact HQ
end
section
variable{P Q R:St c F}{y w:Pt c}{z q:Str}{v:AV}{g d:Nat}{A:Am d}{I:Ip}{e t:Expr}{l:List PV}{E:ac->ag->Prop}
noncomputable def zX(v:AV)(V:List ao):List ao:=match v with
 |.pv _=>[]|_=>V
theorem Ew(m:b∈zX v V):b∈V/\v.t8=none:=by
 induction v using lA with
 |pv=>exact absurd m eX|_=>exact⟨m,rfl⟩
theorem Qh(h:(fz p v).t8=none):fz p v=v:=by
 induction v using lA with
 |own l=>
  by_cases q:cf [l] [] p=true
  ·rw[show fz p (.own l)=.pv (.list l) from iP q] at h;injection h
  ·exact iN q
 |_=>rfl
theorem Mo(P:St c F)(hs:P.σ.any (λq=>q.2.kY&&q.2.seen p)=false)(l:Le P.jc y):∃Q,Pw P p y Q:=by
 have hK:∀a o,(KL c.w.params).lookup a=some o->¬lZ P (dY p P.σ) a:=λa o e q=>nS ((GU q).free.1.f.symm.trans (P.x.K a o e));have get:∀{z v'},ak (dY p P.σ) z=some v'->∃v,ak P.σ z=some v/\fz p v=v':=λh=>tE.mp (zR.symm.trans h);have sub:Sub P.x.f (y.drop _ hK).f:=λa o e=>sR (l.sub a o (BP a o e)) λq=>nS ((GU q).free.1.f.symm.trans e);have vk:∀{z u},dA F.env P.x.s.heap z u->dA F.env y.s.heap z u:=λV=>V.keep λb o w e=>l.e.keep b o e (qF w);have uk:∀{z v},ak P.σ z=some v->∀b o,b∈P.U z->P.x.s.heap.get? b=some o->y.s.heap.get? b=some o:=λh b o m e=>l.e.keep b o e (cK (P.fresh _ _ h b m).1.hi);have at_:∀{b o},lZ P P.σ b->P.x.s.heap.get? b=some o->y.f b=some o:=λq e=>l.sub _ _ ((Qf q).trans e);have hU:∀{z v'},ak (dY p P.σ) z=some v'->zX ((ak (dY p P.σ) z).getD (.pv .none)) (P.U z)=zX v' (P.U z):=λh=>by erw[h];rfl
 have X:=P.rH.le l;have none_:∀{b},P.x.f b=none->(∃o,P.x.s.heap.get? b=some o)->(lZ P P.σ b->lZ P (dY p P.σ) b)->(y.drop _ hK).f b=none:=λ{b} n t k=>MR λnd=>by
  cases e:y.f b with
  |none=>rfl|some o=>exact(l.new b o e).elim (λq=>nS (((Rq λq=>nd (k q)).trans n).symm.trans q)) λq=>t.elim λo' e'=>nS (q.symm.trans e')
 let Q:St c F:={
  x:=y.drop _ hK
  σ:=dY p P.σ
  U:=λz=>zX ((ak (dY p P.σ) z).getD (.pv .none)) (P.U z)
  nd:=VV.symm▸P.nd
  cR:=X.cR
  o:=P.o.keep P.cR (λb o w e=>l.e.keep b o e (qF w)) λb w n t=>⟨none_ n.f t λq=>absurd w q.free.2,n.h₀,n.hi⟩
  own:=λz v' h=>by
   refine aB (get h) λv h1 bZ=>?_;subst bZ;refine aB (P.own z v h1) λu V a=>aa (hU h) ((az u (vk V) (?_)));have keep:(fz p v)=v->je c (y.drop _ hK).f y.s.heap (fz p v) u (zX (fz p v) (P.U z)):=λe=>by
    erw[e];have a':=a.mono (λb o m=>uk h1 b o m) sub;induction v using lA with
    |pv=>exact⟨a'.1,rfl⟩|_=>exact a'
   induction v using lA with
   |own l'=>
    by_cases s:cf [l'] [] p=true
    ·refine aa (show fz p (.own l')=.pv (.list l') from iP s) (⟨Jy (v:=.own l') a sub λ_ b o m e=>sR (at_ (xX z _ h1 rfl m) e) λq=>?_,rfl⟩);refine s8 q λz' v' h2 hv m'=>aB (get h2) λv2 h3 e3=>?_;by_cases ez:z=z'
     ·subst ez;obtain rfl:=ay (h1.symm.trans h3);rw[<-e3,show fz p (.own l')=.pv (.list l') from iP s] at hv;injection hv
     ·exact P.dj z z' _ _ ez h1 h3 b m m'
    ·exact keep (iN s)
   |_=>exact keep rfl
  fresh:=λz v' h b m=>by
   refine aB (get h) λv h1 bZ=>?_;subst bZ;rw[hU h] at m;have mm:=Ew m;have f:=P.fresh z v h1 b mm.1;refine⟨⟨none_ f.1.f (P.there h1 mm.1) λq=>?_,f.1.h₀,f.1.hi⟩,f.2⟩;refine s8 q λz2 v2 h2 hv m2=>?_;by_cases ez:z=z2
   ·subst ez;obtain rfl:=ay (h1.symm.trans h2);exact(xX z _ h ((Qh mm.2).symm▸hv) m2)
   ·exact absurd m2 (P.dj z z2 _ _ ez h1 h2 b mm.1)
  dj:=λz y v' u' n h1 h2 b m m'=>by
   refine aB (get h1) λv h3 _=>aB (get h2) λu h4 _=>?_;rw[hU h1] at m;rw[hU h2] at m';exact P.dj z y v u n h3 h4 b (Ew m).1 (Ew m').1}
 have back:∀z v,ak Q.σ z=some v->∀b∈Q.U z,∃v',ak P.σ z=some v'/\b∈P.U z:=λz v h b m=>aB (get h) λv' h1 _=>(az v' h1 ((Ew (Eq.mp (af (b∈ ·) (hU h)) m)).1));have hD:∀a o,lZ P (dY p P.σ) a->y.f a=some o->r8 c y.f (Av (dY p P.σ)) (AM (dY p P.σ)) o:=λa o q e=>by
  have qb:=GU q;refine s8 q λz v' h hv m=>aB (get h) λv h1 bZ=>?_;subst bZ;refine aB (P.own z v h1) λu _ ua=>dJ (P.there h1 m) λo' e'=>?_;obtain rfl:=ay (e.symm.trans (at_ qb e'));rw[Ro hv] at h hv;exact(ac1 ua hv (λb o e=>l.sub b o (BP b o e)) m e').mono (λl k=>Gm.mpr (az _ (gL h) k)) λq k=>Gm.mpr (az _ (gL h) k)
 exact⟨Q,⟨⟨sub,λa o e=>(l.new a o (GT e).1).elim (λq=>D5 q (λq _=>.inr (.inr (.inr (by refine s8 q λz v h _ m=>?_;exact(de z v h m))))) .inl) λq=>.inr (.inl q),l.e.ny⟩,
   λb q=>.inl (q.imp id λq=>by refine eJ q λz v h m=>?_;refine dJ (back z v h b m) λv' k=>?_;exact(jw z v' k)),λz k fs ow a h V=>⟨(jw fs ow (zR.trans (af (eP (fz p)) h))),vk V⟩⟩,rfl,rfl,λv q r n=>r.gJ hD n,λvs l r n=>r.gJ hD n,λa e=>MR λ_=>e,back,λz v h n=>(hU h).trans (by cases v<;>first|rfl|exact nS n.symm)⟩
structure gh(P:St c F)(σ':ar)(Q:St c F):Prop where
 R:bD P Q
 σ:Q.σ=σ'
 e:e7 P.x.s Q.x.s
 back:∀z v,ak Q.σ z=some v->∀b∈Q.U z,∃v',ak P.σ z=some v'/\b∈P.U z
 U:∀z v,ak Q.σ z=some v->v.t8=none->Q.U z=P.U z
 a6:∀z v,ak P.σ z=some v->v.kY=true\/v.Fh.isSome=true->ak σ' z=some v
theorem gh.var(X:gh P σ' Q)(V:dA F.env P.x.s.heap z u):dA F.env Q.x.s.heap z u:=V.keep λb o w e=>X.e.keep b o e (qF w)
theorem gh.le(l:Le P.x y):gh P P.σ (P.le l):=⟨.le l,rfl,l.e,λz v h b m=>(az v h m),λ_ _ _ _=>rfl,λz v h _=>h⟩
theorem gh.seen(s:Pw P p y Q)(e:e7 P.x.s y.s):gh P (dY p P.σ) Q:=⟨s.R,s.σ,s.s▸e,s.back,s.U,λz v h k=>zR.trans (by
 erw[h];induction v using lA with
 |own=>exact k.elim ff ff|_=>rfl)⟩
theorem tW{α β:Type}{o:Option α}{f:α->Option β}{g:Option β}{b:β}{X:Prop}(h:qc o f g=some b)(k1:∀a,o=some a->f a=some b->X)(k2:o=none->g=some b->X):X:=by
 induction o using qa with
 |none=>exact k2 rfl h|some a=>exact k1 a rfl h
theorem sP{X:Prop}{ev:bj->Expr->Option PV}{σ:ar}(h:bX ev σ e=some (p,σ'))(k1:ev (fJ σ) e=some p->σ'=σ->X)(k2:ev (bA σ) e=some p->σ.any (λq=>q.2.kY&&q.2.seen p)=false->σ'=dY p σ->X):X:=
 tW h (λp' e1 h=>by cases ay h;exact k1 e1 rfl) λ_ h=>aj h λp' e2 h=>fZ h λn h=>by cases ay h;exact k2 e2 (nq n) rfl
theorem qh(S:aX c d I)(h:bX (I.e F.nm) P.σ e=some (p,σ')){K:ac->ag->Prop}(k:∀u Q,gh P σ' Q->Rd p Q.x u->K u Q.x.s):ai (ah pw c.w) A.A (eval e F.env) K E P.x.s:=
 sP h (λh e=>S.ev h P.vars _ _ λu y l r=>k u (P.le l) (e▸ .le l) r) λh hs e=>S.ev (x:=P.jc) h P.rH _ _ λu y l r=>by
  obtain⟨Q,s⟩:=Mo (p:=p) P hs l;exact s.s▸k u Q (e▸ .seen s l.e) (s.rd u p r (Qu hs))
theorem M2(l:Le P.jc y):Le P.x (P.x.to y.s l.e y.tab):=.to _ _
theorem Oj(S:aX c d I){b:Bool}(h:I.t F.nm (bA P.σ) t=some b){K:Bool->ag->Prop}(k:∀Q,gh P P.σ Q->K b Q.x.s):ai (ah pw c.w) A.A (isTrue t F.env (eval t F.env)) K E P.x.s:=
 S.te (x:=P.jc) h P.rH _ _ λb' y l e=>(e:b'=b)▸k (P.le (M2 l)) (.le _)
theorem H5(S:aX c d I)(h:I.e F.nm (bA P.σ) e=some p){K:ac->ag->Prop}(k:∀u Q,gh P P.σ Q->(p.isScalar=true->Rd p Q.x u)->K u Q.x.s):ai (ah pw c.w) A.A (eval e F.env) K E P.x.s:=
 S.ev (x:=P.jc) h P.rH _ _ λu y l r=>k u (P.le (M2 l)) (.le _) λs=>r.scalar s
theorem lV{σ₀:ar}(h:putN F.nm z v σ₀=some σ'):(ak F.nm z=some .local\/ak F.nm z=some .cell)/\b9 σ₀ z v=σ'/\(tK σ₀ z=true->v.kY=true):=by
 refine fZ h λn h=>(ei ((Ah h).1) ((Ah h).2) (λe=>?_));cases q:v.kY with
 |true=>rfl|false=>exact absurd (T9.mpr ⟨e,by erw[q];rfl⟩) n
theorem Zb{σ:ar}{k fs ow}(h:ak σ z=some (.a6 k fs ow)):tK σ z=true:=by unfold tK;erw[h];rfl
theorem zF{M:f4}{A:bh}{K:Unit->ag->Prop}(R:bD P Q)(h:putN F.nm z v Q.σ=some σ')(ns:tK Q.σ z=false)(a:je c Q.x.f Q.x.s.heap v u V)(fr:∀b∈V,bW Q.x b/\¬dq F.env b)(ap:∀b∈V,∀q v,q≠z->ak Q.σ q=some v->b∉Q.U q)(hV:∀b∈V,WU P b\/P.x.s.heap.get? b=none)
(k:∀Q',bD P Q'->Q'.σ=σ'->Q'.U=xz Q.U z V->zI F z u Q.x Q'.x->K () Q'.x.s):ai M A (Cc F.env z u) K E Q.x.s:=by
 refine e8 (lV h) λq bY _=>?_;subst bY;exact MO Q.cR Q.o q λy S=>k (Q.put y z v V (.V1 S) ⟨(az u S.at_ (a.mono (λb o m e=>(S.wr 0).e.keep b o e (cK (fr b m).1.hi) λw=>(fr b m).2 (nW w)) (S.wr 0).sub)),λb m=>⟨(S.wr 0).free (fr b m).1,(fr b m).2⟩,ap⟩)
  (R.put (S.wr _).st (λb q=>.inl (.inl q)) hV λk fs ow a h _=>ff (ns.symm.trans (Zb h))) rfl rfl S
theorem Du(h:putN F.nm z v Q.σ=some σ')(n:v.kY=false):tK Q.σ z=false:=nq λe=>ff (n.symm.trans ((lV h).2.2 e))
theorem vS{M:f4}{A:bh}{K:Unit->ag->Prop}(R:bD P Q)(h:putN F.nm z (.pv p) Q.σ=some σ')(r:Rd p Q.x u)(k:∀Q',bD P Q'->Q'.σ=σ'->Sub Q.x.f Q'.x.f->K () Q'.x.s):ai M A (Cc F.env z u) K E Q.x.s:=
 zF (V:=[]) R h (Du h rfl) ⟨r,rfl⟩ (λ_ m=>mN m) (λ_ m=>mN m) (λ_ m=>mN m) λQ' R e _ S=>k Q' R e (S.wr 0).sub
theorem OH{K:Unit->ag->Prop}(R:bD P Q)(h:fY (sf F.nm) t p Q.σ=some σ')(r:Rd p Q.x u)(k:∀Q',bD P Q'->Q'.σ=σ'->K () Q'.x.s):ai (ah pw c.w) A.A (uT t F.env u) K E Q.x.s:=
 Mq (St:=λσ y=> ∃Q,bD P Q/\Q.σ=σ/\Q.x=y) (λh s r k=>by
  obtain⟨Q,R,rfl,rfl⟩:=s;exact vS R h r λQ' R' e b=>k Q'.x (cz Q' R' e rfl) b) (λ{σ x h' k} s=>by
  refine cP s λQ R e c4=>?_;subst c4;exact(cz (Q.le (Q.x.cG k)) (R.trans (.le _)) e rfl)) h (cz Q R rfl rfl) r λy s=>by
  refine cP s λQ R e c4=>?_;subst c4;exact k Q R e
end
end
section
variable{c:Cx}{F:Fm}{P Q R:St c F}{x y w:Pt c}{z q:Str}{v v':AV}{u:ac}{V:List ao}{a b:ao}{d k n:Nat}{p r:PV}{σ' cJ:ar}{σ:bj}{o:Obj}{A:Am d}{I:Ip}{e t i:Expr}{O:aK}{l:List PV}{E K:ac->ag->Prop}{vals:List ac}{cp pos xp ap tp:Pos}{args:List Expr}{op:ia}
section
variable{D C:ao}{g:Nat}{J:Ip}{m:List PV}
theorem RE{t:Nat}(r:bt l x vals)(hz:l.length<=aA):l6 x (x.push (bu vals n) t) x.s.heap.objs.size l:=by
 have f:=x.free (bf _) (eQ _);exact⟨x.cG _,(de vals n (ft _ rfl) r),hz,⟨f.f,f.h₀,f.hi⟩,eQ _⟩
theorem l6.pre(le:Le x y)(g:l6 y w D l):l6 x w D l:=⟨le.trans g.le,g.d,g.len,g.fr,le.e.back (cK g.fr.hi) g.nw⟩
def U5(A:Am d)(t:Sem ac)(x:Pt c)(l:List PV):Prop:=∀(K:ac->ag->Prop) E,(∀y D,l6 x y D l->K (.ref D) y.s)->ai (ah pw c.w) A.A t K E x.s
theorem Ms(S:aX c d I)(ov:Ov c d)(h:pf O I J F.nm σ e=some (.list l))(hf:r9 e=true)(X:bB F x σ):U5 A (eval e F.env) x l:=λK E k=>by
 induction e using eu with
 |List es ps=>
  exact aj h λl' h1 h=>aL h λz h=>by
   cases ay h;exact wpAny_List ((rM S h1).2 X _ _ λus y le r=>⟨l8 (us:=[]) (m:=[]) r z (r':=.nil) rfl,k _ _ ((RE (t:=y.s.toks) (n:=0) r z).pre le)⟩)
 |BinOp e1 op e2 ps=>
  have hf:=aW hf;cases a5 hf.2;refine aj h λp h1 h=>aj h λq h2 h=>?_;obtain⟨m,rfl⟩:∃m,p=.list m:=by
   induction e1 using eu with
   |List es ps=>exact S.lst h1|_=>exact ff hf.1
  refine aj (show(q.ed.bind λj=>if 0<=j/\j<=100/\m.length<=100 then some (PV.list (kt j.toNat m).flatten) else none)=some (.list l) from h) λj hj h=>aL h λc h=>?_;cases ay h;exact wpAny_BinOp (S.ev h1 X _ _ λu y le r=>S.ev h2 (X.le le) _ _ λu' w tJ r'=>M3 (r.mono tJ.sub) (ej (m:=λq=>Rd q w u'->Rd (.int j) w u') hj id r') c.1 c.2.1 c.2.2 λr z=>k _ _ ((RE (t:=w.s.toks) (n:=0) r z).pre (le.trans tJ)))
 |ListComp elt gens sc ps=>
  refine vr (yG h) λt it ifs gs l' tI e=>?_;subst tI;cases e;rw[eval_ListComp];exact DZ (use:=none) S ov h X λy D C g q=>by
   obtain⟨m,ns⟩:=q.ns;exact(az m ns (λh' hs=>by refine aB (g.but q hs) λw g' e=>?_;exact e▸k w D g'))
 |_=>exact ff hf
structure rN(P Q:St c F)(D:ao)(l:List PV):Prop where
 d:∃vals n,Q.x.s.heap.get? D=some (bu vals n)/\bt l Q.x vals
 len:l.length<=aA
 fr:bW Q.x D
 nw:P.x.s.heap.get? D=none
 env:¬dq F.env D
 U:∀q v,ak Q.σ q=some v->D∉Q.U q
theorem rN.mk'(nw:P.x.s.heap.get? D=none)(X:gh P σ' Q)(d:∃vals n,Q.x.s.heap.get? D=some (bu vals n)/\bt l Q.x vals)(len:l.length<=aA)(fr:bW Q.x D):rN P Q D l:=⟨d,len,fr,nw,P.vE nw,λq v h m=>aB (X.back q v h D m) λv' h' m'=>P.xm nw h' m'⟩
theorem Zc{ls:List (List PV)}{cs:List (Nat×List Str)}(h:cf ls cs (.list l)=false):io ls cs l=false:=(eT h).2
theorem Nt(g:l6 P.x y D l):∃Q,gh P P.σ Q/\rN P Q D l/\Q.x.s=y.s/\∀a,y.f a=none->Q.x.f a=none:=(vL (P.le g.le) (.le _) (.mk' g.nw (.le g.le) g.d g.len g.fr) rfl (λ_ e=>e))
theorem Sv(hs:P.σ.any (λq=>q.2.kY&&q.2.seen (.list l))=false)(g:l6 P.jc y D l):∃Q,gh P (dY (.list l) P.σ) Q/\rN P Q D l/\Q.x.s=y.s/\∀a,y.f a=none->Q.x.f a=none:=by
 refine dJ (Mo (p:=.list l) P hs g.le) λQ s=>?_;have X:gh P (dY (.list l) P.σ) Q:=.seen s g.le.e;exact eJ g.d λvals n e r=>(vL Q X (.mk' g.nw X (de vals n (s.s.symm▸e) (s.UX _ _ r (Zc (Qu hs)))) g.len ⟨s.n _ g.fr.f,g.fr.h₀,g.fr.hi⟩) s.s s.n)
theorem JH(S:aX c d I)(ov:Ov c d)(h:bX (pf O I J F.nm) P.σ e=some (.list l,σ'))(hf:r9 e=true){K:ac->ag->Prop}(k:∀Q D,gh P σ' Q->rN P Q D l->K (.ref D) Q.x.s):ai (ah pw c.w) A.A (eval e F.env) K E P.x.s:=
 sP h (λh e=>Ms S ov h hf P.vars _ _ λy D g=>by refine ll (Nt g) λQ X L s _=>?_;exact s▸k Q D (e▸X) L)
  λh hs e=>Ms (x:=P.jc) S ov h hf P.rH _ _ λy D g=>by refine ll (Sv hs g) λQ X L s _=>?_;exact s▸k Q D (e▸X) L
theorem rN.take(R:bD P Q)(L:rN P Q D l):∃Q',bD P Q'/\Q'.σ=Q.σ/\Q'.x.s=Q.x.s/\Rd (.list l) Q'.x (.ref D)/\(∀a,a≠D->Q.x.f a=none->Q'.x.f a=none)/\Q'.U=Q.U:=by
 refine eJ L.d λvals n e r=>?_;have st:∀g,br (λb=>b=D) g Q.x (Q.x.add D _ e (cK L.fr.hi)):=λg=>⟨Pt.Aa,λa o q=>EH q (λq _=>.inr (.inr q)) .inl,.refl _⟩;refine(Ε (Q.move _ (.yn (st 0) (λb q=>q▸L.env) λq v _ h b m q'=>L.U q v h (q'▸m))) (R.move (st _) λb q=>.inr (q▸L.nw)) rfl rfl (.list pJ (r.mono (st 0).sub) L.len) (λa n h=>(iN n).trans h) rfl)
theorem GS{M:f4}{A:bh}{b:Bool}{K:Unit->ag->Prop}(X:gh P σ' Q)(L:rN P Q D l)(h:putN F.nm z (if b=true then .own l else .pv (.list l)) Q.σ=some cJ)
(k:∀R,bD P R->R.σ=cJ->(∀q v,ak cJ q=some v->∀a∈R.U q,a=D\/∃o,P.x.s.heap.get? a=some o)->(∀a,a≠D->Q.x.f a=none->R.x.f a=none)->(∀a o,Q.x.s.heap.get? a=some o->¬dB a->¬dq F.env a->R.x.s.heap.get? a=some o)->K () R.x.s):ai M A (Cc F.env z (.ref D)) K E Q.x.s:=by
 have old:∀q v,ak Q.σ q=some v->∀a∈Q.U q,∃o,P.x.s.heap.get? a=some o:=λq v h a m=>aB (X.back q v h a m) λv' h' m'=>P.there h' m';induction b using jm with
 |true=>
  refine zF (V:=[D]) X.R h (Du h rfl) (cz D rfl ⟨L.d,L.len⟩ rfl) (λb m=>cY m▸⟨L.fr,L.env⟩) (λb m q v _ h=>cY m▸L.U q v h) (λb m=>.inr (cY m▸L.nw)) λR r e u S=>k R r e (λq v h' a m=>?_) (λa n f=>((S.wr 0).sub|>λ_=>congrFun (S.wr 0).f a).trans f) λa o e t n=>(S.wr 0).e.keep a o e t λw=>n (nW w);refine e8 (lV h) λ_ bY _=>?_;subst bY;rw[u] at m;exact sK h' (λe _=>.inl (cY (yl e m))) λn h'=>.inr (old q v h' a (rE n m))
 |false=>
  refine Yh (L.take X.R) λQ' R' e1 e2 r f u'=>e2▸zF (v:=.pv (.list l)) (V:=[]) R' (e1.symm▸h) (e1.symm▸Du h rfl) ⟨r,rfl⟩ (λ_ m=>mN m) (λ_ m=>mN m) (λ_ m=>mN m) λR r e u S=>k R r e (λq v h' a m=>?_) (λa n h=>(congrFun (S.wr 0).f a).trans (f a n h)) λa o e t n=>(S.wr 0).e.keep a o (e2▸e) t λw=>n (nW w);refine e8 (lV h) λ_ bY _=>?_;subst bY;rw[u] at m;exact sK h' (λe _=>mN (yl e m)) λn h'=>.inr (old q v h' a (u'▸rE n m))
def Nx(A:Am d)(P:St c F)(st:aH)(σ':ar):Prop:=∀(K:Flow->ag->Prop) E,(∀Q,bD P Q->Q.σ=σ'->K .next Q.x.s)->ai (ah pw c.w) A.A (iI st F.env) K E P.x.s
theorem wj:Ky F.env=false:=by unfold Ky;erw[F.kind];rfl
theorem ab'{f:Expr}{kws:List fj}(S:aX c d I)(h:I.e F.nm (bA P.σ) (.Call f args kws cp)=some p):Nx A P (.Expr (.Call f args kws cp) pos) P.σ:=λK E k=>yZ (H5 S h λu Q X _=>k Q X.R X.σ) wj rfl
theorem Rg{t:Option Expr}{line:Nat}{env:Env}(h:qP e=true)(hc:∀elt gens sc pos,e≠ .ListComp elt gens sc pos):swapsWith e t line env=pure false:=by
 cases e<;>first|rfl|exact absurd h dy|exact absurd rfl (hc _ _ _ _)
theorem sy(S:aX c d I)(h:bX (I.e F.nm) P.σ e=some (p,σ')):qP e=true:=sP h (λh _=>S.ni h) λh _ _=>S.ni h
theorem aeT(S:aX c d I)(h:bX (I.e F.nm) P.σ e=some (p,σ'))(hp:putN F.nm z (.pv p) σ'=some cJ)(hc:∀elt gens sc pos,e≠ .ListComp elt gens sc pos):Nx A P (.Assign [.Name z xp] e pos) cJ:=λK E k=>
 y0 (qh S h λu Q X r=>vS X.R (X.σ.symm▸hp) r λR r e _=>k R r e) (Rg (sy S h) hc)
theorem aah{b:Bool}(S:aX c d I)(ov:Ov c d)(h:bX (pf O I J F.nm) P.σ e=some (.list l,σ'))(hf:r9 e=true)(hp:putN F.nm z (if b=true then .own l else .pv (.list l)) σ'=some cJ)(hc:∀elt gens sc pos,e≠ .ListComp elt gens sc pos):Nx A P (.Assign [.Name z xp] e pos) cJ:=λK E k=>
 y0 (JH S ov h hf λQ D X L=>GS X L (X.σ.symm▸hp) λR r e _ _ _=>k R r e) (Rg (sP h (λh _=>IB h) λh _ _=>IB h) hc)
theorem abo{elt:Expr}{gens:List jL}{sc:fk}{b:Bool}(S:aX c d I)(ov:Ov c d)(h:bX (pf O I J F.nm) P.σ (.ListComp elt gens sc cp)=some (.list l,σ'))(hp:putN F.nm z (if b=true then .own l else .pv (.list l)) σ'=some cJ):Nx A P (.Assign [.Name z xp] (.ListComp elt gens sc cp) pos) cJ:=λK E k=>by
 obtain⟨sw,hb⟩:∃b,swapsWith (.ListComp elt gens sc cp) (some (.Name z xp)) pos.line F.env=pure b:=⟨_,rfl⟩;induction sw using jm with
 |false=>exact y0 (JH S ov h rfl λQ D X L=>GS X L (X.σ.symm▸hp) λR r e _ _ _=>k R r e) hb
 |true=>
  erw[exec_Assign_Name_used _ _ _ _ hb];have fin:∀{y:Pt c} {Q:St c F} {D C:ao},gh P σ' Q->rN P Q D l->Q.x.s=y.s->(∀a,y.f a=none->Q.x.f a=none)->P.x.s.heap.get? C=none->C≠D->bW y C->(∃m,y.s.heap.Ns C m)->
    ai (ah pw c.w) A.A (uT (.Name z xp) F.env (.ref D)) (λ_ i8=> ∃m,i8.heap.Ns C m/\∀h',dD C i8.heap h'->K .next {i8 with heap:=h'}) E y.s:=λ{y Q D C} X L s f nw ne fr ns=>by
   refine tU ns λm o es ep e1 e2=>?_;rw[<-s] at e1⊢;refine SP (GS X L (X.σ.symm▸hp) λR r e hU hf hk=>?_);have cw:=P.vE nw;have ns:R.x.s.heap.Ns C m:=(Ay o es ep (hk C o e1 (cK fr.hi) cw) e2);refine(az m ns (λh' hs=>?_));have w:∀g,Wr (λb=>b=C) g R.x (R.x.but (t:=R.x.s.toks) hs ⟨hf C ne (f C fr.f),fr.h₀,fr.hi⟩ (I9 ns)):=λg=>.but rfl;exact k (R.move _ (.yn (w 0).st (λb q=>q▸cw) λq v _ h b m q'=>(hU q v (e▸h) b m).elim (λq=>ne (q'.symm.trans q)) λq=>q.elim λo e=>nS (nw.symm.trans (q'▸e)))) (r.move (w _).st λb q=>.inr (q▸nw)) e
  refine ae (jr (ae (sP h (λh e=>?_) λh hs e=>?_)))
  ·refine vr (yG h) λt it ifs gs l' tI e'=>?_;subst tI;cases e';exact ae (cQ (DZ (A:=A) (use:=some (uT (.Name z xp) F.env)) (Q:=λ_ s'=>K .next s') S ov h P.vars λy D C g q=>by refine ll (Nt g) λQ X L s f=>?_;exact fin (e▸X) L s f q.nw q.ne q.fr q.ns) (λ_ s' hq=>au (au hq)) λ_ _ e=>e)
  ·refine vr (yG h) λt it ifs gs l' tI e'=>?_;subst tI;cases e';exact ae (cQ (DZ (A:=A) (x:=P.jc) (use:=some (uT (.Name z xp) F.env)) (Q:=λ_ s'=>K .next s') S ov h P.rH λy D C g q=>by refine ll (Sv hs g) λQ X L s f=>?_;exact fin (e▸X) L s f q.nw q.ne q.fr q.ns) (λ_ s' hq=>au (au hq)) λ_ _ e=>e)
end
section
variable{m:Str}{l':List PV}{es:List Expr}
theorem QM{y:Str×Pos}(h:Hf e=some y):e=.Name y.1 y.2:=by
 induction e using eu with
 |Name=>cases ay h;rfl
 |_=>exact nS h
structure ZG(O:Prop)(ts:List Expr)(n:Nat)(env:Env)(e:Expr):Prop where
 as:O
 acG:swapsWithSole ts e n env=pure false
 sw:swappedStores ts e env=pure none
theorem aeS{nm:aN}{G:Prop}(hp:IW nm es k tp p σ' e=some cJ)(K1:∀vs j vp,e=.Tuple vs j vp->G)(K2:ZG (fY (sf nm) (.Tuple es k tp) p σ'=some cJ) [.Tuple es k tp] n env e->G):G:=by
 induction e using eu with
 |Tuple vs j vp=>exact K1 vs j vp rfl|List=>exact nS hp|Set=>exact nS hp|_=>exact K2 ⟨hp,rfl,rfl⟩
theorem ae5{f:Expr->Option Str}{e e':Expr}{x y:Str}(h:f e=some x)(k:f e'=some y):[e,e'].filterMap f=[x,y]:=by rw[Kz h,Kz k];rfl
theorem Yi{env:Env}{v1 v2:Expr}{a b:Str×Pos}{vp:Pos}{j:Nat}(ns:∀e∈[v1,v2],iq e=false)(bk:env.blockKind=.function)(l1:env.kindOf a.1=some .local)(l2:env.kindOf b.1=some .local)(k3:¬a.1=b.1)(k4:a.2.line=b.2.line)
(k5:yX 8 v1=false\/yX 8 v2=false)(k6:yY 8 v1=false\/yY 8 v2=false):swappedStores [.Tuple [.Name a.1 a.2,.Name b.1 b.2] k tp] (.Tuple [v1,v2] j vp) env=pure (some [a.1,b.1]):=by
 have e5:¬([v1,v2].all (yX 8))=true:=by simp only[Ko,List.all_nil,Kr,mK];rcases k5 with q|q<;>simp[q]
 have e6:¬([v1,v2].all (yY 8))=true:=by simp only[Ko,List.all_nil,Kr,mK];rcases k6 with q|q<;>simp[q]
 have nb:(b.1==a.1)=false:=kH (gV k3);refine(iN ?_).trans ?_
 ·simp[bk]
 refine(iN ?_).trans ?_
 ·rw[Bool.not_eq_true];refine vd.mpr λe m=>?_;have:=ns e m;clear m;induction e using eu with
  |Starred=>exact tf this|_=>exact dy
 rw[show(([Expr.Name a.1 a.2,Expr.Name b.1 b.2].head?.map (·.pos.line)).getD 0)=a.2.line from rfl];dsimp only;rw[ae5 (x:=a.1) (y:=b.1) (iP (by rw[l1];simp)) (iP (by rw[l2,k4];simp))];exact(iN (by simp[List.eraseDups_cons,nb])).trans ((iN e5).trans (iN e6))
theorem aaw{nm:aN}{v:Expr×Expr}{a b:Str×Pos}(h:JR nm v a b=true)(G:Prop)(K:ak nm a.1=some .local->ak nm b.1=some .local->¬a.1=b.1->a.2.line=b.2.line->(yX 8 v.1=false\/yX 8 v.2=false)->(yY 8 v.1=false\/yY 8 v.2=false)->G):G:=by
 unfold JR at h;simp only[mK,beq_iff_eq,bne_iff_ne,ne_eq,tu,Bool.and_eq_false_iff] at h;exact K h.1.1.1.1.1 h.1.1.1.1.2 h.1.1.1.2 h.1.1.2 h.1.2 h.2
theorem adg(S:aX c d I)(h:bX (I.e F.nm) P.σ e=some (p,σ'))(hp:IW F.nm es k tp p σ' e=some cJ):Nx A P (.Assign [.Tuple es k tp] e pos) cJ:=λK E kk=>
 aeS (n:=pos.line) (env:=F.env) hp (λvs j vp eq=>by
  subst eq;have ns:∀e∈vs,iq e=false:=sP h (λh _=>S.tup h) λh _ _=>S.tup h;refine bE λgG hG=>aL hp λok hp=>aj hp λee h1 hp=>aj hp λa ha hp=>aj hp λb hb hp=>aj hp λpr LD hp=>aj hp λahS g1 g2=>?_;have ok:=a5 ok;refine aj ok λe2 h2 ok=>aj ok λv2 hv ok=>aj ok λa' rA ok=>fM ok λb' ry okk=>?_;obtain rfl:=ay (h1.symm.trans h2);have ea:=QM rA;have eb:=QM ry;rw[ea] at ha;rw[eb] at hb;obtain rfl:=ay ha;obtain rfl:=ay hb;have ee':es=[.Name a'.1 a'.2,.Name b'.1 b'.2]:=ea▸eb▸xq h1 rfl;have vv:vs=[v2.1,v2.2]:=xq hv rfl;refine aaw okk _ λk1 k2 k3 k4 k5 k6=>hG ?_;subst ee' vv;refine Assign_Tuple_swapped (names:=[a'.1,b'.1]) (qh S h λu Q X r=>?_) rfl (Yi ns (by unfold Env.blockKind;erw[F.kind];rfl) (P.o.loc _ k1) (P.o.loc _ k2) k3 k4 k5 k6);revert r;refine aj LD λl hl LD=>Hy hl λr=>xq (m:=λl=>Rd (.tup l) Q.x u->_) LD (λr=>?_) r;refine iT r λ{ad n vs} e rl _=>?_;revert e;refine eC rl λ{w1 _} r1 rl=>eC rl λ{w2 _} r2 rl=>i0 rl λe=>unpackItems_tuple A.ok.handled (items:= #[w1,w2]) ⟨_,Q.x.hs _ _ e,rfl,n,rfl⟩ λh' k'=>?_;have le:=Q.x.cG (t:=Q.x.s.toks) (h':=h') λb o e=>k' b o (gE (fB e)) e;exact SO (bindName_ (vS (Q:=Q.le le) (X.R.trans (.le le)) (X.σ.symm▸g1) r2 λR r e b=>SO (bindName_ (vS r (e.symm▸g2) (r1.mono b) λR r e _=>assignInOrder_nil (kk R r e))))))
  λq=>Assign_Tuple (qh S h λu Q X r=>OH X.R (X.σ.symm▸q.as) r λR r e=>kk R r e) q.acG q.sw
theorem NG(Or:cg c O d)(h:uB O op p r=some p')(rp:Rd p x u)(rq:Rd r x u'):aE A (Kw op u u') x (Rd p'):=by
 induction p using dg with
 |int i=>
  revert rq;exact aj h λj e h=>ej e λrq=>bU rp λt=>bU rq λt'=>d9 h (λo h=>o▸oI h λQ E K=>AutoIntOps.iadd_0 (pL K)) λ_ h=>aL h λo h=>o▸oI h λQ E K=>AutoIntOps.isub_0 (pL K)
 |inst k fs=>exact(Or.bin h rp rq).2|_=>exact nS h
theorem tV{σ:ar}(h:j9 σ z=some v):ak σ z=some v/\z≠("__debug__":Str):=fZ h λn h=>⟨h,n⟩
theorem Dy{σ:ar}(h:gB σ z=some l):ak σ z=some (.own l)/\z≠("__debug__":Str):=aj h λv h1 h2=>by
 induction v using lA with
 |own l'=>exact ay h2▸tV h1|_=>exact nS h2
theorem y_(S:aX c d I)(Or:cg c O d)(hx:ak P.σ z=some (.pv p))(h:bX (I.e F.nm) P.σ e=some (r,σ'))(hb:uB O op p r=some p')(hp:putN F.nm z (.pv p') σ'=some cJ):Nx A P (.AugAssign (.Name z xp) op e pos) cJ:=λK E k=>aB (P.own z _ hx) λu V a=>wpAny_AugAssign_Name (Ac F V (qh S h λu' Q X r'=>NG Or hb (X.R.st.rd a.1) r' _ _ λw y l r2=>vS (Q:=Q.le l) (X.R.trans (.le l)) (X.σ.symm▸hp) r2 λR r e _=>k R r e))
theorem dA.v5{env:Env}{h:am}{u u':ac}(a:dA env h z u)(b:dA env h z u'):u=u':=by
 rcases a with⟨k1,m1,n1,e1⟩|⟨k1,c1,l1,o1,a1,a2⟩
 ·refine bE λgG hG=>?_;rcases b with⟨k2,m2,n2,e2⟩|⟨k2,_⟩
  refine hG ?_
  ·exact ay (e1.symm.trans ((n1.agree n2 z).trans e2))
  ·nomatch k1▸k2
 ·rcases b with⟨k2,_⟩|⟨k2,c2,l2,o2,b1,b2⟩
  ·nomatch k2▸k1
  ·obtain rfl:=ay (l1.symm.trans l2);obtain rfl:=ay (a1.symm.trans b1);injection a2.symm.trans b2 with e
   exact ay e
theorem bD.NB(R:bD P Q)(h:ak Q.σ z=some v)(hv:dA F.env Q.x.s.heap z u)(l:cH (· ∈Q.U z) Q.x y)(ua:je c y.f y.s.heap v' u V)(hV:∀b∈V,b∈Q.U z\/Q.x.s.heap.get? b=none)(fr:∀b∈V,bW y b)(sl:∀k fs ow,v=.a6 k fs ow->∃eY ow',v'=.a6 k eY ow'):
  ∃R',bD P R'/\R'.σ=b9 Q.σ z v'/\R'.x=y:=by
 have kv:∀b o,dq F.env b->Q.x.s.heap.get? b=some o->y.s.heap.get? b=some o:=λb o w e=>l.e.keep b o e (qF w) λm=>(Q.fresh z v h b m).2 w;have N:Dr Q y z v' V:=⟨(az u (hv.keep kv) ua),λb m=>⟨fr b m,(hV b m).elim (λm=>(Q.fresh z v h b m).2) Q.vE⟩,λb m q v' n h'=>(hV b m).elim (λm m'=>Q.dj z q v v' n.symm h h' b m m') λn=>Q.xm n h'⟩;exact(cz (Q.put y z v' V (.yn l (λb m=>(Q.fresh z v h b m).2) λq v' n h' b m m'=>Q.dj q z v' v n h' h b m m') N) (R.put l (λb m=>R.wu b (.inr (de z v h m))) (λb m=>(hV b m).elim (λm=>R.wu b (.inr (de z v h m))) λn=>(R.st.e.back (cK (fr b m).hi) n).symm) (λk fs ow a h' V'=>⟨sl k fs ow (ay (h.symm.trans h')),V'.keep kv⟩)) rfl rfl)
theorem bD.but{h':am}{t:Nat}(R:bD P Q)(h:ak Q.σ z=some v)(hv:dA F.env Q.x.s.heap z u)(m:b∈Q.U z)(hs:dD b Q.x.s.heap h')(nc:∀o,Q.x.s.heap.get? b=some o->¬(o.cls=.type "code"/\∃vs,o.data=.fields vs))(ua:je c Q.x.f h' v' u V)(hV:∀b∈V,b∈Q.U z\/(bW Q.x b/\Q.x.s.heap.get? b=none))(sl:∀k fs ow,v=.a6 k fs ow->∃eY ow',v'=.a6 k eY ow'):
  ∃R',bD P R'/\R'.σ=b9 Q.σ z v'/\R'.x.s={Q.x.s with heap:=h',toks:=t}:=by
 have w:Wr (· ∈Q.U z) Q.x.s.gens.size Q.x (Q.x.but (t:=t) hs (Q.fresh z v h b m).1 nc):=.but m;exact cP (R.NB (y:=Q.x.but (t:=t) hs (Q.fresh z v h b m).1 nc) h hv w.st ua (λb m=>(hV b m).imp id And.right) (λb m=>w.free ((hV b m).elim (λm=>(Q.fresh z v h b m).1) And.left)) sl) λR' r e ex=>(cz R' r e (ex▸rfl))
theorem Hd{h:am}{vals:List ac}(e:h.get? a=some (bu vals n))(o:Obj)(e':h.get? a=some o):¬(o.cls=.type "code"/\∃vs,o.data=.fields vs):=λk=>by
 obtain⟨_,vs,q⟩:=k;rw[<-ay (e.symm.trans e')] at q;injection q
theorem bD.own{h':am}{t:Nat}(R:bD P Q)(h:ak Q.σ z=some (.own l))(hv:dA F.env Q.x.s.heap z (.ref a))(hs:dD a Q.x.s.heap h')(e:h'.get? a=some (bu vals n))(r:bt l' Q.x vals)(hz:l'.length<=aA):∃R',bD P R'/\R'.σ=b9 Q.σ z (.own l')/\R'.x.s={Q.x.s with heap:=h',toks:=t}:=by
 refine bE λgG hG=>?_;obtain⟨u,V,a',e',⟨⟨mY,n',e1,r1⟩,z1⟩,eU⟩:=Q.own z _ h;cases e'▸V.v5 hv;exact hG (R.but (V:=[a]) h hv (eU▸ .head _) hs (Hd e1) (cz a rfl ⟨(de vals n e r),hz⟩ rfl) (λb m=>.inl (eU▸m)) nofun)
theorem tX(h:ak Q.σ z=some (.own l)):∃a vals n,dA F.env Q.x.s.heap z (.ref a)/\Q.x.s.heap.get? a=some (bu vals n)/\bt l Q.x vals/\l.length<=aA:=by
 refine bE λgG hG=>?_;obtain⟨u,V,a,rfl,⟨⟨vals,n,e,r⟩,hz⟩,_⟩:=Q.own z _ h;exact hG ((xD a vals n V e r hz))
theorem qS(P:St c F)(V:dA F.env P.x.s.heap z u)(hd:z≠("__debug__":Str)){M:f4}{A:bh}(h:K u P.x.s):ai M A (eval (.Name z xp) F.env) K E P.x.s:=Co (Ac F V h) (kH hd)
theorem gh.own(X:gh P σ' Q)(h:ak P.σ z=some (.own l))(h':ak σ' z=some (.own l'))(hs:σ'=P.σ\/σ'=dY p P.σ):l'=l:=by
 rcases hs with rfl|rfl
 ·cases ay (h.symm.trans h');rfl
 ·have q:=(zR (P:=P)).symm.trans h';rw[h] at q;have q:=ay q;have k:=Qh (p:=p) (v:=.own l) (by erw[q];rfl);cases k.symm.trans q;rfl
theorem afn{ev:bj->Expr->Option PV}(h:bX ev P.σ e=some (p,σ')):σ'=P.σ\/σ'=dY p P.σ:=sP h (λ_ e=>.inl e) λ_ _ e=>.inr e
theorem Bv{env:Env}{s:ag}{A:bh}{w:cO}{o:Expr}{id:String}{K:ac->ag->Prop}(hb:ug o=false)(hl:ap.endLine=cp.line)(hs:∀e∈args,iq e=false)(hn:args.length<=20)(slot:Slot "list" m id)(ty:tx (.builtin id)=pure (.type "method_descriptor"))
(h:ai (ah pw w) A (eval o env) (λov bJ=> ∃a vals n,ov=.ref a/\bJ.heap.get? a=some (bu vals n)/\ai (ah pw w) A (oq (ot cp (lE args env))) (λvs fQ=>(KL w.params).In fQ.heap/\ai (ah pw w) A (bC (.builtin id) (.ref a::vs) []) K E fQ) E bJ) E s):
  ai (ah pw w) A (eval (.Call (.Attribute o m ap) args [] cp) env) K E s:=by
 refine GR hb hl hs rfl hn (cQ h (λov bJ z=>λpl=>?_) λ_ _ z=>z);obtain⟨a,vals,n,rfl,e,z⟩:=z;exact getMethod_builtin (az _ e rfl) PySem.F.plainAttrs_list slot ty (λb q=>by injection q with q;subst q;exact(az _ e rfl)) (rK (kP hs) rfl (.inl ⟨_,rfl⟩) (cQ z (λvs fQ z=>uR z) λ_ _ z=>z))
theorem vC(h:qP e=true):∀e'∈[e],iq e'=false:=λe' m=>cY m▸z8 h
theorem DA(S:aX c d I)(h:bX (I.e F.nm) P.σ e=some (p,σ')){K:List ac->ag->Prop}(k:∀u Q,gh P σ' Q->Rd p Q.x u->K [u] Q.x.s):ai (ah pw c.w) A.A (oq (ot cp (lE [e] F.env))) K E P.x.s:=aa (wd (vC (sy S h))) (wR (qh S h λu Q X r=>Cp (k u Q X r)))
theorem ID(X:gh P σ' Q)(h:bX (I.e F.nm) P.σ e=some (p,σ'))(h0:ak P.σ z=some (.own l'))(h1:gB σ' z=some l)(V:dA F.env P.x.s.heap z (.ref a)):l=l'/\ak Q.σ z=some (.own l)/\dA F.env Q.x.s.heap z (.ref a)/\∃vals n,Q.x.s.heap.get? a=some (bu vals n)/\bt l Q.x vals/\l.length<=aA:=by
 refine bE λgG hG=>?_;have h1:=(Dy h1).1;refine xM (tX (Q:=Q) (X.σ.symm▸h1)) λa' vals n V' e r hz=>?_;cases V'.v5 (X.var V);exact hG (⟨X.own h0 h1 (afn h),X.σ.symm▸h1,X.var V,vals,n,e,r,hz⟩)
theorem θ(S:aX c d I)(h0:j9 P.σ z=some (.own l'))(hl:ap.endLine=cp.line)(hz:l'.length<aA)(he:bX (I.e F.nm) P.σ e=some (p,σ'))(h1:gB σ' z=some l)(hp:putN F.nm z (.own (l++[p])) σ'=some cJ):Nx A P (.Expr (.Call (.Attribute (.Name z xp) "append" ap) [e] [] cp) pos) cJ:=λK E k=>by
 have h0:=tV h0;refine jD (tX h0.1) λa vals n V e1 _=>yZ (Bv rfl hl (vC (sy S he)) (by show 1<=20;decide) SW SY (qS P V h0.2 (j5 a _ n rfl e1 (DA S he λu Q X r=>⟨Q.x.cU,?_⟩)))) wj rfl;obtain⟨rfl,hx,V',mY,n',e2,r2,z2⟩:=ID X he h0.1 h1 V;refine Ku (items:=mY.toArray) (hsz:=l8 (us:=[]) (m:=[]) r2 z2 (r':=.nil) rfl) ⟨n',e2⟩ λh' ve mZ=>dJ ve λk' e3=>?_;rw[show mY.toArray.push u=(mY++[u]).toArray by simp] at e3;refine e8 (lV (σ₀:=Q.σ) (X.σ.symm▸hp)) λ_ bY _=>?_;subst bY;refine cP (X.R.own (t:=Q.x.s.toks) hx V' mZ e3 (aR.append (.cons r .nil) r2) (by erw[da];exact hz)) λR r' e s=>?_;exact s▸k R r' e
end
section
variable{m:Str}{σ₁:ar}{l':List PV}{Gy:Pos}{f:Fz}{h h':am}
theorem acB:(have k:=if(0:Int)<0 then(0+((vals.toArray.size:Nat):Int)).toNat else min (0:Int).toNat vals.toArray.size;(vals.toArray.extract 0 k).push u++vals.toArray.extract k)=(u::vals).toArray:=by
 simp
theorem XB{k0:Nat}(S:aX c d I)(h0:j9 P.σ z=some (.own l'))(hl:ap.endLine=cp.line)(hz:l'.length<aA)(he:bX (I.e F.nm) P.σ e=some (p,σ'))(h1:gB σ' z=some l)(hp:putN F.nm z (.own (p::l)) σ'=some cJ):Nx A P (.Expr (.Call (.Attribute (.Name z xp) "insert" ap) [.Constant (.int 0) k0 Gy,e] [] cp) pos) cJ:=λK E k=>by
 have h0:=tV h0;refine jD (tX h0.1) λa vals n V e1 _=>?_;have ns:∀e'∈[.Constant (.int 0) k0 Gy,e],iq e'=false:=λe' m=>(bw m).elim (λq=>q▸rfl) (vC (sy S he) e');have le:=P.x.cG (t:=P.x.s.toks+1) (h':=P.x.s.heap) λ_ _ e=>e;refine yZ (Bv rfl hl ns (by show 2<=20;decide) agi PySem.F.type_list_insert (qS P V h0.2 (j5 a _ n rfl e1 (?_)))) wj rfl;refine aa (wd ns) (wR (SU (wR (qh (P:=P.le le) S he λu Q X r=>Cp ⟨Q.x.cU,?_⟩))));refine bE λgG hG=>?_;obtain⟨rfl,hx,V',mY,n',e2,r2,z2⟩:=ID X he h0.1 h1 V;refine hG (Fv agi (az _ e2 rfl) PySem.F.entry_list_insert (PySem.F.args_list_insert_3 _ _ _) (AutoSeq1.list_insert_list_int_val_1 a mY.toArray n' 0 P.x.s.toks u (by decide) (l8 (us:=[]) (m:=[]) r2 z2 (r':=.nil) rfl)) ⟨e2,?_⟩);have e3:=IsL.update (n:=n') (items:=mY.toArray) e2 (λxs=>have k:=if(0:Int)<0 then(0+(xs.size:Int)).toNat else min (0:Int).toNat xs.size;(xs.extract 0 k).push u++xs.extract k);rw[acB] at e3;refine e8 (lV (σ₀:=Q.σ) (X.σ.symm▸hp)) λ_ bY _=>?_;subst bY;exact cP (X.R.own (t:=Q.x.s.toks) hx V' (uY ..) e3 (.cons r r2) hz) λR r' e s=>s▸k R ((bD.le le).trans r') e
theorem VG:(u::vals).toArray.eraseIdxIfInBounds 0=vals.toArray:=by
 unfold Array.eraseIdxIfInBounds;erw[dif_pos (by simp)];simp
theorem Ξ{k0:Nat}{yp:Pos}{y:Str}(h0:gB P.σ y=some (p::l))(hl:ap.endLine=cp.line)(hp1:putN F.nm y (.own l) P.σ=some σ₁)(hp:putN F.nm z (.pv p) σ₁=some cJ):Nx A P (.Assign [.Name z xp] (.Call (.Attribute (.Name y yp) "pop" ap) [.Constant (.int 0) k0 Gy] [] cp) pos) cJ:=λK E k=>by
 have h0:=Dy h0;refine xM (tX h0.1) λa vals n V e1 r1 z1=>?_;have ns:∀e'∈[Expr.Constant (.int 0) k0 Gy],iq e'=false:=λe' m=>cY m▸rfl;refine y0 (Bv rfl hl ns (by show 1<=20;decide) agj PySem.F.type_list_pop (qS P V h0.2 (j5 a _ n rfl e1 (?_)))) rfl;refine aa (wd ns) (wR (SU (Cp ⟨(P.x.tok (P.x.s.toks+1)).cU,?_⟩)));revert e1;refine eC r1 λ{u us} ru rl e1=>Fv agj (az _ e1 rfl) PySem.F.entry_list_pop (PySem.F.args_list_pop_2 _ _) (MeetsSeq.list_pop_at a (u::us).toArray n 0 P.x.s.toks 0 u (by decide) (by simp[wI]) (by simp) (l8 (us:=[]) (m:=[]) (.cons ru rl) z1 (r':=.nil) rfl)) ⟨e1,?_⟩;refine bE λgG hG=>?_;have e3:=IsL.update (n:=n) (items:=(u::us).toArray) e1 (λxs=>xs.eraseIdxIfInBounds 0);rw[VG] at e3;refine e8 (lV hp1) λ_ bY _=>?_;subst bY;exact cP ((bD.refl P).own (t:=P.x.s.toks+1) h0.1 V (uY ..) e3 rl (lF z1)) λR r' e s=>hG (s▸vS r' (e.symm▸hp) (r'.st.rd ru) λR r e _=>k R r e)
theorem aR.set{vals:List ac}(r:aR c f vals l)(b:aV c f u p)(k:Nat):aR c f (vals.set k u) (l.set k p):=by
 induction l generalizing vals k with
 |nil=>exact i0 r .nil
 |cons q l ih=>
  refine eC r λa r=>?_;induction k using m8 with
  |zero=>exact .cons b r|succ k=>exact .cons a (ih r k)
theorem Wx{s:ag}{A:bh}{w:cO}{items:Array ac}{k:Int}{t:Tok}{v:ac}{Q:Unit->ag->Prop}(hl:s.heap.get? a=some {cls:=.type "list",data:=.seq items n})(h0:0<=k)(Gz:k<2^63)(hn:k.toNat<items.size)
(hQ:Q () {s with heap:=s.heap.update a (FI (·.setIfInBounds k.toNat v))}):ai (ah pw w) A (setItem (.ref a) (.int k t) v) Q E s:=by
 have ht:s.TypeIs (.ref a) "list":=(az _ hl rfl);unfold setItem
 try with_reducible refine dO ?_
 first|refine ae (au ?_)|skip
 refine ae (wpAny_sequenceKey ht (by decide) (ae (KA (name:=dw "__setitem__") ht slot_list_setitem (uZ slot_list_setitem ht entry_list_setitem ?_ (args_list_setitem _ _ _)))));show ai _ _ (Builtin.List.listSubscript? (.int k t)>>=_) _ _ s;refine ae (wpAny_listSubscript_int (fitsIndex_of h0 Gz) ?_);clear Gz;obtain⟨j,rfl⟩:=Int.eq_ofNat_of_zero_le h0;have hj:items[j]?=some items[j]:=tn hn
 skip
 refine ae (ae (wpAny_seqItemAt hl rfl (au (hj.symm▸ ?_))))
 skip
 refine ae (wpAny_setSeqItemAt hl rfl ?_)
 first
  |exact ae (au (au (jw .none rfl (au hQ))))
  |exact au (az .none rfl (au hQ))
theorem N6{iv:ac}{j:PV}{K:Unit->ag->Prop}(R:bD P Q)(h:ak Q.σ z=some (.own l))(hv:dA F.env Q.x.s.heap z (.ref a))(hs:jX l j p=some l')(rj:Rd j Q.x iv)(r:Rd p Q.x u)(k:∀R,bD P R->R.σ=b9 Q.σ z (.own l')->K () R.x.s):ai (ah pw c.w) A.A (setItem (.ref a) iv u) K E Q.x.s:=by
 revert rj;refine aj hs λi hj hs=>aL hs λb hs=>ej hj λrj=>bU rj λt=>bE λgG hG=>xM (tX h) λa' vals n V e rl hz=>?_;cases V.v5 hv;cases ay hs;have e3:=IsL.update (n:=n) (items:=vals.toArray) e (·.setIfInBounds i.toNat u);rw[show vals.toArray.setIfInBounds i.toNat u=(vals.set i.toNat u).toArray by simp] at e3;refine cP (R.own (t:=Q.x.s.toks) h V (uY ..) e3 (rl.set r _) (by erw[List.length_set];exact hz)) λR' r' e' s=>?_;exact hG (Wx e b.1 (yK b.2 (mH (oW hz) (by decide))) (by erw[i4];erw[rl.length];exact(Int.toNat_lt b.1).mpr b.2) (s▸k R' r' e'))
theorem acL{j:PV}{k:Int}(h:j.ed=some k):j.isScalar=true:=ej (m:=λj=>j.isScalar=true) h rfl
theorem Oe{j:PV}(hs:jX l j p=some l'):j.isScalar=true:=aj hs λ_ h _=>acL h
theorem adW{k:PV}(S:aX c d I)(he:bX (I.e F.nm) P.σ e=some (p,σ'))(h1:gB σ' z=some l)(hi:I.e F.nm (bA σ') i=some k)(hs:jX l k p=some l')(hp:putN F.nm z (.own l') σ'=some cJ):Nx A P (.Assign [.Subscript (.Name z xp) i tp] e pos) cJ:=λK E kk=>by
 have h1:=Dy h1;refine wpAny_Assign_Subscript (qh S he λu Q X r=>?_) (by cases e<;>rfl);refine uu (tX (Q:=Q) (X.σ.symm▸h1.1)) λa vals n V _=>qS Q V h1.2 (H5 S (X.σ.symm▸hi) λiv Q' X' r'=>e8 (lV (σ₀:=Q.σ) (X.σ.symm▸hp)) λ_ bY _=>?_);subst bY;exact N6 (X.R.trans X'.R) (X'.σ.symm▸X.σ.symm▸h1.1) (X'.var V) hs (r' (Oe hs)) (X'.R.st.rd r) λR r e=>kk R r (by erw[e];erw[X'.σ];rfl)
theorem Zy{k b r:PV}{l0:List PV}(S:aX c d I)(Or:cg c O d)(h0:gB P.σ z=some l0)(hi:I.e F.nm (bA P.σ) i=some k)(hg:bP (.list l0) k=some b)(he:bX (I.e F.nm) P.σ e=some (r,σ'))(hb:uB O op b r=some p)(h1:gB σ' z=some l)(hs:jX l k p=some l')(hp:putN F.nm z (.own l') σ'=some cJ):Nx A P (.AugAssign (.Subscript (.Name z xp) i tp) op e pos) cJ:=λK E kk=>by
 have h0:=Dy h0;refine xM (tX h0.1) λa vals n V e1 r1 z1=>wpAny_AugAssign_SubscriptAny (qS P V h0.2 (H5 S hi λiv Q X ri=>?_)) (by have:=S.ni hi;cases i<;>first|(intros;rfl)|exact absurd this dy);have hx:ak Q.σ z=some (.own l0):=X.σ.symm▸h0.1;refine xM (tX hx) λa' mY n' V' e2 r2 z2=>?_;cases V'.v5 (X.var V);have rk:=ri (Oe hs);have item:∃v,Rd b Q.x v/\∀{K:ac->ag->Prop},K v Q.x.s->ai (ah pw c.w) A.A (yN (.ref a) iv) K E Q.x.s:=by
  obtain⟨j,rfl,bd⟩:∃j,k=.int j/\0<=j:=aj hs λj hj hs=>aL hs λb _=>(az j (ej (m:=λk=>k=.int j) hj rfl) b.1);refine bU (m:=λiv=> ∃v,Rd b Q.x v/\∀{K:ac->ag->Prop},K v Q.x.s->ai (ah pw c.w) A.A (yN (.ref a) iv) K E Q.x.s) rk λt=>bE λgG hG=>aj (show(wI j l0.length).bind (λi=>l0[i]?)=some b from hg) λi' GA hg=>aB (r2.get hg) λv e3 rv=>e8 (Hh GA z2) λb1 b2 c'=>hG ((az v rv (λq=>?_)));rcases c' with⟨c1,rfl⟩|⟨c1,_⟩
  ·exact wpAny_getItem_list ⟨_,e2,rfl,n',rfl⟩ c1 b2 (Fs e3) q
  ·exact absurd bd (zg.mpr c1)
 refine aB item λv rv get=>get (qh (P:=Q) S (X.σ.symm▸he) λu LF CP rc=>NG Or hb (CP.R.st.rd rv) rc _ _ λt y le r3=>ο (ID CP (X.σ.symm▸he) hx h1 V') λqe0 hx2 V2 _=>?_);subst qe0;refine e8 (lV (σ₀:=LF.σ) (CP.σ.symm▸hp)) λ_ bY _=>?_;subst bY;exact N6 (Q:=LF.le le) ((X.R.trans CP.R).trans (.le le)) hx2 ((gh.le (P:=LF) le).var V2) hs (((CP.R.trans (.le le)).st.rd rk)) r3 kk
end
end
section
variable{c:Cx}{F:Fm}{P Q R:St c F}{w:Pt c}{z q m:Str}{u:ac}{V N as:List ao}{a b D dx:ao}{d k n:Nat}{p r:PV}{σ' cJ:ar}{I:Ip}{t i:Expr}{O:aK}{ow:List Str}{pos xp ap cp:Pos}{es:List Expr}{fs eY:List (Str×PV)}{vs:List (Str×ac)}{f:Fz}{h h':am}{env:Env}{v':AV}
section
set_option tactic.hygienic true
variable{y:Pt c}{v:AV}{o:Obj}{A:Am d}{J:Ip}{e:Expr}{l:List PV}{E:ac->ag->Prop}{vals:List ac}{K:ac->ag->Prop}{ow':List Str}
theorem afE{es:List pQ}{t:Tok}(e:jW c vs es):jW c (b9 vs z u) (y4 z (pR c.w.params z) (.str z t) u es):=by
 induction vs generalizing es with
 |nil=>exact(e:es=[])▸(de t ([]) rfl rfl)
 |cons q vs ih=>
  obtain⟨y,u'⟩:=q;obtain⟨t',r,rfl,e⟩:=e;by_cases k:y=z
  ·exact aa (show b9 ((y,u')::vs) z u=(z,u)::vs from iP k) (aa (show y4 z (pR c.w.params z) (.str z t) u (⟨pR c.w.params y,.str y t',u'⟩::r)=_ from iP (show(y==z)=true from jZ k)) ((de t' r (k▸rfl) e)))
  ·exact aa (show b9 ((y,u')::vs) z u=(y,u')::b9 vs z u from iN k) (aa (show y4 z (pR c.w.params z) (.str z t) u (⟨pR c.w.params y,.str y t',u'⟩::r)=_ from iN (show ¬(y==z)=true from λq=>k (a5 q))) ((de t' _ rfl (ih e))))
noncomputable def HW(K:kq)(p:Nat×Str):Bool:=plainOver K p.1&&takerIn K p.1 p.2==some none&&(clsIn K p.1).any (·.hasDict)&&fN K (.ref p.1) "__setattr__"==some (some (.builtin "object.__setattr__"))
theorem VL(P:cD):By.all (HW (KL P))=true:=⋯
theorem WK{es:List pQ}{k:ac}{hh:Int}:(y4 z hh k u es).length<=es.length+1:=by
 induction es with
 |nil=>exact bf _
 |cons e r ih=>
  unfold y4;split
  ·exact iH _
  ·exact yP ih
theorem s_{s:ag}{A:bh}{w:cO}{es:List pQ}{K:Unit->ag->Prop}(X:(KL w.params).In s.heap)(h1:s.heap.get? a=some (l9 k dx))(h2:s.heap.get? dx=some (rV es n))(ok:HW (KL w.params) (k,z)=true)(hl:(getL z es).isSome=true)(hz:es.length<=1000)
(h:∀h' t t',dD dx s.heap h'->h'.get? dx=some (rV (y4 z (pR w.params z) (.str z t) u es) (PySem.W.putN z es n))->K () {s with heap:=h',toks:=t'}):
  ai (ah pw w) A (setAttr (.ref a) z u) K E s:=by
 unfold HW at ok;simp only[mK,beq_iff_eq] at ok;obtain⟨⟨⟨o1,o2⟩,o3⟩,o4⟩:=ok;have I:InstAt s.heap a (l9 k dx) k (some (uO es n)):=⟨h1,rfl,rfl,h2⟩;refine set_plain X I o4 (osa_open (s:={s with toks:=s.toks+1}) X I o1 o2 λb=>aB (q0 o3) λcd hc LG=>?_);have e:=putName_dict z (pR w.params z) (.str z (s.toks+1)) u es n;have D':(s.heap.update dx (Obj.putName z (pR w.params z) (.str z (s.toks+1)) u)).get? dx=some (uO (y4 z (pR w.params z) (.str z (s.toks+1)) u es) (PySem.W.putN z es n)):=
  (af some e)▸agk _ h2 (by erw[e];rfl)
 refine ae (au (ae (ae (wpAny_loadPart h1 (ae (iG.here (s:={s with toks:=s.toks+1}) (looks_clsIn X hc) (LG.symm▸(au (a:=some dx) (ae (au (ae ?_)))))))))));unfold nsSet;refine ae (ae (oC (au (ae (wpAny_mkText (ae (wpAny_loadPart h2 ?_)))))));unfold rV;dsimp only;have nk:(!es.toArray.any (·.key.isStr z)&&es.toArray.any (·.refKey))=false:=by
  refine hH (Array.any_toList) (hH (Array.any_toList) ?_);unfold getL at hl;split at hl
  ·rename_i en he;erw[Lq.mpr (az en (List.mem_of_find?_eq_some he) (List.find?_some he))];rfl
  ·split at hl
   ·injection hl
   ·rename_i z;rw[Bool.not_eq_true] at z;erw[z];rw[FJ]
 rw[aRefKeyMayBeTheName_at,nk];refine wpAny_updatePart h2 (ae (wpAny_lookBehind D' (pastItsLine_dict (by erw[i4];erw[KB];have:=WK (z:=z) (u:=u) (es:=es) (k:=.str z (s.toks+1)) (hh:=pR w.params z);lia)) ?_));exact au (h _ _ _ (uY ..) D')
theorem sL.Dv(s:sL c f h ow z u p N)(k:ow'.contains z=ow.contains z):sL c f h ow' z u p N:=s.imp (λs=>⟨k.trans s.1,s.2⟩) λs=>⟨k.trans s.1,s.2⟩
theorem jb.Dv(s:jb c f h ow fs vs as)(k:∀z∈vs.map (·.1),ow'.contains z=ow.contains z):jb c f h ow' fs vs as:=by
 induction fs generalizing vs as with
 |nil=>exact s
 |cons q fs ih=>
  obtain⟨v,r,N,f7,rfl,e2,e,s⟩:=s;exact(wa v r N f7 rfl e2 (e.Dv (k _ (.head _))) (ih s λz m=>k z (.tail _ m)))
theorem U2(s:jb c f h ow fs vs as)(e:sL c f h ow' z u p N)(jQ:∀y,y≠z->ow'.contains y=ow.contains y)(nd:(vs.map (·.1)).Nodup):
  ∃f7,jb c f h ow' (b9 fs z p) (b9 vs z u) f7/\(∀b∈f7,b∈as\/b∈N)/\(as.Nodup->N.Nodup->(∀b∈N,b∉as)->f7.Nodup):=by
 induction fs generalizing vs as with
 |nil=>
  obtain⟨rfl,rfl⟩:=s;exact(cz N (BU u ([]) N ([]) rfl ((gO N).symm) e rfl rfl) (λb=>.inr) (λ_ h _=>h))
 |cons q fs ih=>
  obtain⟨v,r,N',f7,rfl,rfl,e',s⟩:=s;have n:=iW nd;obtain⟨y,p'⟩:=q;by_cases k:y=z
  ·exact aa (show b9 ((y,p')::fs) z p=(z,p)::fs from iP k) (aa (show b9 ((y,v)::r) z u=(z,u)::r from iP k) ((cz (N++f7) (wa u r N f7 rfl rfl e (s.Dv λy' m=>jQ y' λq=>n.1 (show y∈_ from k.trans q.symm▸m))) (λb m=>(lU m).elim .inr λm=>.inl (fE _ m)) (λh1 h2 h3=>w7.mpr (ei h2 ((w7.mp h1).2.1) (λa ma b mb q=>h3 a ma (q▸fE _ mb)))))))
  ·exact aa (show b9 ((y,p')::fs) z p=(y,p')::b9 fs z p from iN k) (aa (show b9 ((y,v)::r) z u=(y,v)::b9 r z u from iN k) (cP (ih s n.2) λUr k1 k2 k3=>(cz (N'++Ur) (wa v _ N' Ur rfl rfl (e'.Dv (jQ y k)) k1) (λb m=>(lU m).elim (λm=>.inl (tw _ m)) λm=>(k2 b m).imp (fE _) id) (λh1 h2 h3=>by
    have h1:=w7.mp h1;exact w7.mpr (ei h1.1 (k3 h1.2.1 h2 λb mb q=>h3 b mb (fE _ q)) (λa ma b mb q=>(k2 b mb).elim (λm=>h1.2.2 a ma b m q) λm=>h3 b m (q▸tw _ ma)))))))
theorem aaW(s:jb c f h ow fs vs as):vs.length=fs.length:=by have:=af yO (MZ s);rwa[bi,bi] at this
theorem YD{es:List pQ}(e:jW c vs es):vs.length=es.length:=by
 induction vs generalizing es with
 |nil=>exact(e:es=[])▸rfl|cons q vs ih=>obtain⟨t,r,rfl,e⟩:=e;exact af jq (ih e)
theorem P8{K:Unit->ag->Prop}(R:bD P Q)(hx:ak Q.σ z=some (.a6 k fs ow))(hv:dA F.env Q.x.s.heap z (.ref a))(ht:By.contains (k,q)=true)(hz:fs.length<=100)
(en:∀h',(∀b o,b∈N->Q.x.s.heap.get? b=some o->h'.get? b=some o)->sL c Q.x.f h' ow' q u p N)(jQ:∀y,y≠q->ow'.contains y=ow.contains y)(nN:N.Nodup)(hN:∀b∈N,bW Q.x b/\¬dq F.env b/\(∀y v,ak Q.σ y=some v->b∉Q.U y)/\P.x.s.heap.get? b=none)
(kk:∀R,bD P R->R.σ=b9 Q.σ z (.a6 k (b9 fs q p) ow')->K () R.x.s):ai (ah pw c.w) A.A (setAttr (.ref a) q u) K E Q.x.s:=by
 obtain⟨u',V',a',rfl,dx,es,n,vs,as,h1,h2,h3,h4,hU,h6,h7⟩:=Q.own z _ hx;cases V'.v5 hv;have zx:dx∈Q.U z:=hU▸ .tail _ (.head _);have nd:=iW h6;have zy:=iW nd.2;refine s_ Q.x.cU h1 h2 (b7 (VL c.w.params) _ (qI ht)) (by erw[xK h3];rfl) (by have:=YD h3;have:=aaW h4;lia) λh' t t' hs e=>?_;have keep:∀b o,b≠dx->Q.x.s.heap.get? b=some o->h'.get? b=some o:=λb o ne e=>(hs.2 b ne).trans e;refine cP (U2 (h4.mono (h':=h') (λb o mb e=>keep b o (λq=>zy.1 (q▸mb)) e) λ_ _ e=>e) (en h' λb o mb e=>keep b o (λq=>(hN b mb).2.2.1 z _ hx (q▸zx)) e) jQ h7) λf7 k1 k2 k3=>?_;have no:∀b,b∈a::dx::as->b∉N:=λb m q=>(hN b q).2.2.1 z _ hx (hU▸m);have w:Wr (· ∈Q.U z) Q.x.s.gens.size Q.x (Q.x.but (t:=t') hs (Q.fresh z _ hx dx zx).1 λo e' k=>by obtain⟨_,vs,q⟩:=k;rw[<-ay (h2.symm.trans e')] at q;injection q):=.but zx;have mem:∀b∈a::dx::f7,b∈Q.U z\/b∈N:=λb m=>(bw m).elim (λq=>.inl (hU▸q▸ .head _)) λm=>(bw m).elim (λq=>.inl (q▸zx)) λm=>(k2 b m).imp (λm=>hU▸ .tail _ (.tail _ m)) id;have N':Dr Q _ z (.a6 k (b9 fs q p) ow') (a::dx::f7):=⟨⟨.ref a,hv.keep λb o w e=>keep b o (λq=>(Q.fresh z _ hx dx zx).2 (q▸w)) e,a,rfl,dx,_,_,b9 vs q u,f7,keep _ _ (λq=>nd.1 (q▸ .head _)) h1,e,afE h3,k1,rfl,
   nR ⟨λm=>(bw m).elim (λq=>nd.1 (q▸ .head _)) λm=>(k2 _ m).elim (λm=>nd.1 (.tail _ m)) (no _ (.head _)),nR ⟨λm=>(k2 _ m).elim zy.1 (no _ (.tail _ (.head _))),k3 zy.2 nN λb mb q=>no b (.tail _ (.tail _ q)) mb⟩⟩,Pz h7⟩,
  λb m=>(mem b m).elim (λm=>⟨w.free (Q.fresh z _ hx b m).1,(Q.fresh z _ hx b m).2⟩) λm=>⟨w.free (hN b m).1,(hN b m).2.1⟩,λb m q v n h'=>(mem b m).elim (λm m'=>Q.dj z q _ v n.symm hx h' b m m') λm=>(hN b m).2.2.1 q v h'⟩
 exact kk (Q.put _ z _ _ (.yn w.st (λb m=>(Q.fresh z _ hx b m).2) λq v n h' b m m'=>Q.dj q z v _ n h' hx b m m') N') (R.put w.st (λb m=>R.wu b (.inr (de z _ hx m))) (λb m=>(mem b m).elim (λm=>R.wu b (.inr (de z _ hx m))) λm=>.inr (hN b m).2.2.2)
  λk' eY Uq a2 h' V2=>⟨by cases ay (hx.symm.trans h');exact(jw _ _ rfl),V2.keep λb o w e=>keep b o (λq=>(Q.fresh z _ hx dx zx).2 (q▸w)) e⟩) rfl
theorem Sb{y:Str}:(ow.filter (· !=z)).contains y=(ow.contains y&&y !=z):=by
 rw[FK,kz,oE,mK,kz]
theorem lI{v:AV}{i:Nat×List (Str×PV)×List Str}(h:v.lI=some i):v=.a6 i.1 i.2.1 i.2.2:=by
 induction v using lA with
 |a6=>cases ay h;rfl
 |_=>exact nS h
theorem abM{i:Nat×List (Str×PV)×List Str}{y:Str}(S:aX c d I)(S':aX c d ⟨pf O I J,DN O I⟩)(ov:Ov c d)(he:bX (pf O I J F.nm) P.σ e=some (p,σ'))(hx:j9 σ' z=some v)(hi:v.lI=some i)(ht:By.contains (i.1,y)=true)(hz:i.2.1.length<=100)(hp:putN F.nm z (zH (r9 e) i.1 i.2.1 i.2.2 y p) σ'=some cJ):Nx A P (.Assign [.Attribute (.Name z xp) y ap] e pos) cJ:=λK E k=>by
 cases lI hi;have hx:=tV hx;refine plainObj_wpAny_Assign_Attribute ?_ (by cases e<;>rfl);refine e8 (lV hp) λ_ hσ _=>?_;by_cases q:r9 e=true/\p.ii.isSome=true
 ·refine dJ (tG.mp q.2) λl hl=>?_;have hl:p=.list l:=pB (m:=λp=>p=.list l) hl rfl;subst hl;refine JH S ov he q.1 λQ D X L=>?_;obtain⟨u,V,a,rfl,_⟩:=Q.own z _ (X.σ.symm▸hx.1);refine eJ L.d λvals n e1 rl=>qS Q V hx.2 (P8 (N:=[D]) (ow':=y::i.2.2) X.R (X.σ.symm▸hx.1) V ht hz (λh' kk=>.inr ⟨by erw[agl];rw[beq_self_eq_true];rfl,D,l,rfl,rfl,⟨(de vals n (kk D _ (.head _) e1) rl),L.len⟩,rfl⟩) (λz ne=>by erw[agl];erw[kH ne];rfl) (nR ⟨eX,wS⟩) (λb m=>cY m▸(zE L.fr L.env L.U L.nw)) λR r e=>k R r (e.trans (X.σ▸y5 (by unfold zH;erw[iP q];rfl) hσ)))
 ·refine qh S' he λu Q X r=>?_;obtain⟨_,V,a,rfl,_⟩:=Q.own z _ (X.σ.symm▸hx.1);refine qS Q V hx.2 (P8 (N:=[]) (ow':=i.2.2.filter (· !=y)) X.R (X.σ.symm▸hx.1) V ht hz (λh' kk=>.inl (ei (by rw[Sb,bne_self_eq_false,FJ]) r rfl)) (λz ne=>by erw[Sb];erw[bne_iff_ne.mpr ne];rw[Kr]) wS (λb m=>mN m) λR r e=>k R r (e.trans (X.σ▸y5 (by unfold zH;erw[iN q];rfl) hσ)))
end
noncomputable abbrev wB(l:List Env):List ao:=l.filterMap (·.frame)
structure abP(h₀ h:am)(W:ao->Prop)(e:Env)(L:ao)(o:Obj):Prop where
 kind:e.scope.kind≠ .module
 at_:e.frame=some L
 old:h₀.get? L=none
 low:719<=L
 there:h.get? L=some o
 data:∀vs,o.data≠ .fields vs
 out:¬W L
def nF(h₀ h:am)(W:ao->Prop)(l:List Env):Prop:=∀e∈l,∃L o,abP h₀ h W e L o
structure jn(l:List Env)(W:ao->Prop)(s:ag)(v:ac)(s':ag)(B:am)(e:ao):Prop where
 v:v=.ref e
 tab:iD B
 keep:∀b o,s.heap.get? b=some o->¬dB b->¬W b->b∉wB l->B.get? b=some o
 JB:∃a0,am.FlyingW B l e (.ref 664) a0 s'.heap
 slots:∀b o,s.heap.get? b=some o->¬dB b->¬W b->(∀vs,o.data≠ .fields vs)->∃sl,s'.heap.get? b=some {o with slots:=sl}
 x:ci (λ_=>True) s.gens.size s s'
section
variable{h₀:am}{s s' cX:ag}{W xe:ao->Prop}{l outer:List Env}{v:ac}{B:am}{e L:ao}{A:bh}{M:f4}{E:ac->ag->Prop}{K:Unit->ag->Prop}
theorem ci.any{g:Nat}(x:ci W g s s'):ci (λ_=>True) g s s':=x.weaken λ_ _=>trivial
theorem ci.heap{h:am}{t:Nat}(s:ag):ci (λ_=>True) s.gens.size s {s with heap:=h,toks:=t}:=⟨λ_ _ _ _ n=>absurd trivial n,λ_ _ _ h=>h,bf _,λh=>h,rfl⟩
theorem jn.pre(x:ci xe cX.gens.size cX s)(k:∀b,W b->xe b\/cX.heap.get? b=none)(F:jn l W s v s' B e):jn l xe cX v s' B e:=
 have nw:∀b o,cX.heap.get? b=some o->¬xe b->¬W b:=λb o q n z=>(k b z).elim n λy=>nS (y.symm.trans q)
 ⟨F.v,F.tab,λb o q t n m=>F.keep b o (x.keep b o q t n) t (nw b o q n) m,F.JB,λb o q t n=>F.slots b o (x.keep b o q t n) t (nw b o q n),x.any.trans (F.x.lower x.dm (bf _))⟩
theorem nF.step(X:nF h₀ s.heap W l)(x:ci W s.gens.size s s')(k:∀b,xe b->W b\/s.heap.get? b=none):nF h₀ s'.heap xe l:=λenv m=>jU (X env m) λL o F=>⟨L,o,F.kind,F.at_,F.old,F.low,x.keep L o F.there (cK F.low) F.out,F.data,λq=>(k L q).elim F.out λz=>nS (z.symm.trans F.there)⟩
theorem nF.ext(X:nF h₀ s.heap (λ_=>False) l)(x:e7 s s'):nF h₀ s'.heap (λ_=>False) l:=X.step x.ny λ_ z=>z.elim
theorem jn.ext(x:e7 cX s)(F:jn l (λ_=>False) s v s' B e):jn l (λ_=>False) cX v s' B e:=F.pre x.ny λ_ z=>z.elim
theorem abz(X:nF h₀ h W l)(k:∀a∈wB l,B.get? a=none):h.FunFrames B l:=by
 induction l with
 |nil=>exact trivial
 |cons env l ih=>
  refine jU (X env (.head _)) λL o F=>?_;have e:wB (env::l)=L::wB l:=Kz F.at_;rw[e] at k;exact(ei F.kind (uL L o F.at_ (k L (.head _)) F.there F.data) (ih (λe m=>X e (.tail _ m)) λa m=>k a (.tail _ m)))
theorem HP(hf:env.frame=some L):wB (env::outer)=L::wB outer:=Kz hf
theorem aeI(F:jn (env::outer) W s v s' B e)(hA:A.frames=some (env::outer))(hf:env.frame=some L)(hL:s.heap.get? L=none\/W L)
(h:∀h',jn outer W s v {s' with heap:=h'} B e->K () {s' with heap:=h'}):ai M A (wT env v) K E s':=by
 refine dJ F.JB λa0 y=>aa (F.v) (wpAny_leaves_onW hA hf y λh' y u=>h h' ⟨F.v,F.tab,λb o q t n m=>F.keep b o q t n λz=>?_,⟨a0,y⟩,λb o q t n k=>?_,F.x.trans ((ci.heap (t:=s'.toks) s').lower F.x.dm (bf _))⟩)
 ·rw[HP hf] at z;exact(bw z).elim (λz=>hL.elim (λhL=>nS (hL.symm.trans (z▸q))) λhL=>n (z▸hL)) m
 ·exact dJ (F.slots b o q t n k) λsl q'=>dJ (u b {o with slots:=sl} q' k) λUs q2=>⟨Us,q2⟩
theorem aeh{h':am}{args:List ac}(tab:iD s.heap)(X:nF h₀ s.heap xe (env::outer))(m:am.MadeExcOf s.heap h' e (.ref 664) args)(hA:A.frames=some (env::outer))(hf:env.frame=some L)(hL:W L)
(h:∀GB B,jn outer W s (.ref e) {s with heap:=GB} B e->K () {s with heap:=GB}):ai M A (wT env (.ref e)) K E {s with heap:=h'}:=by
 refine wpAny_leaves_madeW (base:=hideAll s.heap (wB (env::outer))) (h:=s.heap) hA hf (λb o q=>of_hideAll _ q) (abz X λa z=>hideAll_none _ z) m λGB t y _ _ u=>h GB _ ⟨rfl,tab.but λb o q k=>hideAll_get _ q λz=>?_,λb o q _ n z=>hideAll_get _ q λz'=>?_,⟨_,y⟩,λb o q _ _ k=>u b o (m.keeps b o q) k,.heap (t:=s.toks) s⟩
 ·refine aB (ahc.mp z) λahq me hf=>jU (X ahq me) λL o' F=>?_;obtain rfl:=ay (F.at_.symm.trans hf);refine k.elim (λk=>cV _ (ba k F.low)) λk=>?_;obtain⟨_,vs,k⟩:=k;obtain rfl:=ay (q.symm.trans F.there);exact F.data vs k
 ·rw[HP hf] at z';exact(bw z').elim (λz'=>n (z'▸hL)) z
end
section
variable{A:Am d}{outer:List Env}{v:ac}{s':ag}{B:am}{e:ao}
def rY(A:Am d)(P:St c F)(outer:List Env)(v:ac)(s':ag):Prop:=ai (ah pw c.w) A.A (wT F.env v) (λ_ i8=> ∃B e,jn outer (WU P) P.x.s v i8 B e) No s'
structure Fc(A:Am d)(P:St c F)(outer:List Env):Prop where
 stack:A.A.frames=some (F.env::outer)
 own:F.env.frame=some F.env.locals
 ins:nF c.h₀ P.x.s.heap (WU P) outer
theorem Fc.step(x:Fc A P outer)(a:bD P Q):Fc A Q outer:=⟨x.stack,x.own,x.ins.step a.st.e a.wu⟩
theorem rY.pre(a:bD P Q)(b:rY A Q outer v s'):rY A P outer v s':=cQ b (λ_ _ h=>by refine jU h λB e f=>?_;exact(jw B e (f.pre a.st.e a.wu))) λ_ _ z=>z
theorem afD:PassesOwnAt (ah pw c.w) A.A A.A F.env (rY A P outer):=PassesOwnAt.leavingOf (SameStack.refl A.A)
theorem Fc.frames(F':Fc A P outer):nF c.h₀ P.x.s.heap (λ_=>False) (F.env::outer):=λe m=>by
 rcases bw m with rfl|m
 ·exact ϭ P.o.ns λm o es ep q q2 _=>⟨_,o,by erw[F.kind];exact nofun,F'.own,P.o.own.h₀,P.o.own.hi,q,(λvs z=>by rw[q2] at z;injection z),id⟩
 ·exact jU (F'.ins e m) λL o f=>⟨L,o,f.kind,f.at_,f.old,f.low,f.there,f.data,id⟩
theorem jn.after(f:Fc A P outer)(b:jn (F.env::outer) (λ_=>False) P.x.s v s' B e):rY A P outer v s':=
 aeI (b.pre (.refl P.x.s) λ_ z=>z.elim) f.stack f.own (.inr (.inl (.inl rfl))) λ_ y=>(jw B e y)
theorem ad6{s:ag}{h':am}{args:List ac}(f:Fc A P outer)(x:e7 P.x.s s)(tab:iD s.heap)(m:am.MadeExcOf s.heap h' e (.ref 664) args):rY A P outer (.ref e) {s with heap:=h'}:=
 aeh (W:=WU P) tab (f.frames.ext x) m f.stack f.own (.inl (.inl rfl)) λ_ B y=>(jw B e (y.pre x.ny λ_ z=>.inl z))
end
structure gY(c:Cx)(O:aK)(d:Nat):Prop where
 mh:∀{k fs ow m q eY},O.mh k fs ow m [q]=some eY->∃g,wc (KL c.w.params) k m g=true/\ak fs m=none/\∀{A:Am d} {x:Pt c} {a V v} {K:ac->ag->Prop} {E},oP c x.f x.s.heap k fs ow a V->(∀b∈V,bW x b)->Rd q x v->
  (∀u y V',cH (· ∈V) x y->oP c y.f y.s.heap k eY ow a V'->(∀b∈V',b∈V\/x.s.heap.get? b=none)->(∀b∈V',bW y b)->K u y.s)->ai (ah pw c.w) A.A (bC (.ref g) [.ref a,v] []) K E x.s
 make:∀{C vs ks r},O.make C vs ks=some r->∃g,db c.w.params C=some g/\pE c.w.params g/\∀{A:Am d} {x:Pt c} {us kv} {K:ac->ag->Prop} {E},bt vs x us->bI c x.f kv ks->
  (∀y a V,Le x y->oP c y.f y.s.heap r.1 r.2.1 r.2.2 a V->(∀b∈V,bW y b/\x.s.heap.get? b=none)->K (.ref a) y.s)->ai (ah pw c.w) A.A (bC g us kv) K E x.s
 nB:∀{z vs ks},O.nB z vs ks=true->∃g,db c.w.params z=some g/\pE c.w.params g/\∀{A:Am d} {x:Pt c} {us kv l} {K:ac->ag->Prop} {E},bt vs x us->bI c x.f kv ks->A.A.frames=some l->nF c.h₀ x.s.heap (λ_=>False) l->
  (∀v s' B e,jn l (λ_=>False) x.s v s' B e->E v s')->ai (ah pw c.w) A.A (bC g us kv) K E x.s
section
variable{x y:Pt c}{v:AV}{C:ao}{W:ao->Prop}{g:Nat}{o:Obj}{A:Am d}{e:Expr}{l l':List PV}{E:ac->ag->Prop}{vals:List ac}{K:ac->ag->Prop}{np:Pos}{args:List Expr}{kws:List fj}{outer:List Env}
theorem ae'(s:jb c f h ow fs vs as)(hk:ak fs z=some p)(ho:ow.contains z=true)(nd:as.Nodup):
  ∃D l,p=.list l/\ak vs z=some (.ref D)/\D∈as/\uc c f h D l/\∀h' f' l',Sub f f'->(∀b o,b∈as->b≠D->h.get? b=some o->h'.get? b=some o)->uc c f' h' D l'->jb c f' h' ow (b9 fs z (.list l')) vs as:=by
 induction fs generalizing vs as with
 |nil=>exact nS hk
 |cons q fs ih=>
  obtain⟨v,r,N,f7,rfl,rfl,e,s⟩:=s;obtain⟨y,p'⟩:=q;have nd:=w7.mp nd;by_cases k:y=z
  ·obtain rfl:=ay ((iP k).symm.trans hk);rcases e with⟨e,_⟩|⟨e,D,l,rfl,rfl,o,rfl⟩
   ·exact ff (e▸k▸ho:false=true)
   ·exact(Qn D l rfl (iP k) (.head _) o (λh' f' l' hf kp o'=>aa (show b9 ((y,PV.list l)::fs) z (.list l')=(z,.list l')::fs from iP k) ((wa (.ref D) r ([D]) f7 (k▸rfl) rfl (.inr ⟨ho,D,l',rfl,rfl,o',rfl⟩) (s.mono (λb o m=>kp b o (.tail _ m) λq=>nd.2.2 D (.head _) b m q.symm) hf)))))
  ·exact Ϟ (ih s ((iN k).symm.trans hk) nd.2.1) λD l e1 e2 m o kk=>(Qn D l e1 ((iN k).trans e2) (fE _ m) o (λh' f' l' hf kp o'=>aa (show b9 ((y,p')::fs) z (.list l')=(y,p')::b9 fs z (.list l') from iN k) ((wa v r N f7 rfl rfl (e.mono (λb o mb=>kp b o (tw _ mb) (nd.2.2 b mb D m)) hf) (kk h' f' l' hf (λb o m=>kp b o (fE _ m)) o')))))
theorem gh.nU(X:gh P σ' Q)(h:ak P.σ z=some v)(k:v.kY=true\/v.Fh.isSome=true):ak Q.σ z=some v/\Q.U z=P.U z/\∀b o,b∈P.U z->P.x.s.heap.get? b=some o->Q.x.s.heap.get? b=some o:=by
 have e:ak Q.σ z=some v:=X.σ▸X.a6 z v h k;refine(ei e (X.U z v e ?_) (λb o m e=>X.e.keep b o e (cK (P.fresh z v h b m).1.hi)));cases v<;>first|rfl|exact k.elim ff ff
theorem acS{i:Nat×List (Str×PV)×List Str}{y:Str}{yp:Pos}(S:aX c d I)(h0:j9 P.σ z=some v)(hi:v.lI=some i)(hl:ap.endLine=cp.line)(ht:wx.contains (i.1,y)=true)(he:bX (I.e F.nm) P.σ e=some (p,σ'))(hf:ak i.2.1 y=some r)(hr:r.ii=some l)(ho:i.2.2.contains y=true)(hz:l.length<aA)(hp:putN F.nm z (.a6 i.1 (b9 i.2.1 y (.list (l++[p]))) i.2.2) σ'=some cJ):
  Nx A P (.Expr (.Call (.Attribute (.Attribute (.Name z xp) y yp) "append" ap) [e] [] cp) pos) cJ:=λK E kk=>by
 refine bE λgG hG=>?_;cases lI hi;have h0:=tV h0;obtain⟨u,V,a,rfl,dx,es,n,vs,as,h1,h2,h3,h4,hU,h6,h7⟩:=P.own z _ h0.1;have nd:=iW h6;have zy:=iW nd.2;obtain⟨D,l',rfl,k1,k2,⟨⟨vals,n',k3,k4⟩,k5⟩,k6⟩:=ae' h4 hf ho zy.2;cases ay hr;refine e8 (AX (b7 (O5 c.w.params) _ (qI ht))) λo1 o2 o3=>?_;have look:getL y es=some (some (.ref D)):=by erw[xK h3];erw[k1];rfl
 have le:=P.x.cG (t:=P.x.s.toks+1) (h':=P.x.s.heap) λ_ _ e=>e;refine hG (yZ (Bv rfl hl (vC (sy S he)) (by show 1<=20;decide) SW SY (JL rfl (qS P V h0.2 ?_))) wj rfl);split at o3
 ·rename_i at_ eat;refine get_value (ox:=l9 i.1 dx) (od:=some (uO es n)) P.x.cU ⟨h1,rfl,rfl,h2⟩ (uQ o1).1 (findObj_own o2 eat o3 (by rw[FD,look])) rfl (j5 D _ n' rfl k3 (DA (P:=P.le le) S he λu Q X r=>⟨Q.x.cU,?_⟩));refine e8 (X.nU h0.1 (.inl rfl)) λhx eU kp=>?_;have mU:∀b∈a::dx::as,b∈P.U z:=λb m=>hU▸m;have DU:=mU D (.tail _ (.tail _ k2));have e2:=kp D _ DU k3;refine Ku (items:=vals.toArray) (hsz:=l8 (us:=[]) (m:=[]) k4 k5 (r':=.nil) rfl) ⟨n',e2⟩ λh' ve mZ=>dJ ve λk' e3=>?_;rw[show vals.toArray.push u=(vals++[u]).toArray by simp] at e3;refine e8 (lV (σ₀:=Q.σ) (X.σ.symm▸hp)) λ_ bY _=>?_;subst bY;have zz:∀b o,b∈P.U z->b≠D->P.x.s.heap.get? b=some o->h'.get? b=some o:=λb o m ne e=>(mZ.2 b ne).trans (kp b o m e);obtain⟨R,r',e,s⟩:=((bD.le le).trans X.R).but (t:=Q.x.s.toks) (v':=.a6 i.1 (b9 i.2.1 y (.list (l++[p]))) i.2.2) (V:=a::dx::as) hx (X.var V) (eU▸DU) mZ (Hd e2) ⟨a,rfl,dx,es,n,vs,as,zz a _ (mU a (.head _)) (λq=>nd.1 (.tail _ (q▸k2))) h1,zz dx _ (mU dx (.tail _ (.head _))) (λq=>zy.1 (q▸k2)) h2,h3,
   k6 h' _ _ X.R.st.sub (λb o m ne=>zz b o (mU b (.tail _ (.tail _ m))) ne) ⟨(de _ _ e3 (aR.append (.cons r .nil) (k4.mono X.R.st.sub))),by erw[da];exact hz⟩,rfl,h6,h7⟩ (λb m=>.inl (eU▸mU b m)) λ_ _ _ e=>by cases e;exact(jw _ _ rfl)
  exact s▸kk R r' e
 ·injection o3
theorem WW{g:ao}{pl:Sem Bool}{K:ac×List ac->ag->Prop}(ua:oP c x.f x.s.heap k fs ow a V)(hm:wc (KL c.w.params) k m g=true)(hn:ak fs m=none)(h:K (.ref g,[.ref a]) x.s):ai (ah pw c.w) A.A (Ce (.ref a) m pl) K E x.s:=by
 refine bE λgG hG=>e8 (AX (aW hm).1) λh1 h2 h3=>?_;obtain⟨dx,es,n,vs,as,e1,e2,e3,e4,z1,z2,z3⟩:=ua;have kn:ak vs m=none:=by
  clear z1 z2 z3 e1 e2 e3;induction fs generalizing vs as with
  |nil=>exact e4.1▸rfl
  |cons q fs ih=>
   refine Pu e4 λv r N f7 pX _ _ s=>?_;subst pX;by_cases k:q.1=m
   ·exact sN ((iP k).symm.trans hn)
   ·exact(iN k).trans (ih ((iN k).symm.trans hn) _ _ s)
 exact hG (method_fn (ox:=l9 k dx) (od:=some (uO es n)) x.cU ⟨e1,rfl,rfl,e2⟩ (uQ h1).1 (uQ h1).2 (a5 h2) (a5 h3) (by show(lookIn m (uO es n)).map _=_;rw[FD,xK e3,kn];rfl) h)
theorem af8(S:aX c d I)(Mu:gY c O d)(h0:j9 P.σ z=some (.a6 k fs ow))(hl:ap.endLine=cp.line)(he:bX (I.e F.nm) P.σ e=some (p,σ'))(hm:O.mh k fs ow m [p]=some eY)(hp:putN F.nm z (.a6 k eY ow) σ'=some cJ):Nx A P (.Expr (.Call (.Attribute (.Name z xp) m ap) [e] [] cp) pos) cJ:=λK E kk=>by
 refine bE λgG hG=>?_;have h0:=tV h0;obtain⟨u,V,a,rfl,ua⟩:=P.own z _ h0.1;refine cP (Mu.mh hm) λg k1 k2 k3=>hG (yZ (GR rfl hl (vC (sy S he)) rfl (by show 1<=20;decide) (qS P V h0.2 λpl=>WW (A:=A) ua k1 k2 (rK (kP (vC (sy S he))) rfl (.inr (.inr (O8 k1))) (DA S he λu Q X r=>uR ⟨Q.x.cU,?_⟩)))) wj rfl);refine e8 (X.nU h0.1 (.inl rfl)) λhx eU kp=>?_;obtain⟨u',V',a',rfl,ua'⟩:=Q.own z _ hx;cases V'.v5 (X.var V);refine k3 ua' (λb m=>(Q.fresh z _ hx b m).1) r λ_ y V2 l ua2 hV fr=>e8 (lV (σ₀:=Q.σ) (X.σ.symm▸hp)) λ_ bY _=>?_;subst bY;obtain⟨R,r',e,s⟩:=X.R.NB hx (X.var V) l (v':=.a6 k eY ow) (az a rfl ua2) hV fr λ_ _ _ e=>by cases e;exact(jw _ _ rfl)
 exact s▸kk R r' e
theorem acb{ks:List (Str×PV)}{us:List PV}{C:Str}{r:Nat×List (Str×PV)×List Str}(S:aX c d I)(Mu:gY c O d)(h1:iS (I.e F.nm (fJ P.σ)) args=some us)(h2:rC (I.e F.nm (fJ P.σ)) kws=some ks)(hk:ak F.nm C=some .globalImplicit)(hd:C≠("__debug__":Str))(ns:tK P.σ z=false)(hm:O.make C us ks=some r)(hp:putN F.nm z (.a6 r.1 r.2.1 r.2.2) P.σ=some cJ):Nx A P (.Assign [.Name z xp] (.Call (.Name C np) args kws cp) pos) cJ:=λK E kk=>by
 refine cP (Mu.make hm) λg hg kp k3=>?_;have ea:=rM (A:=A) (pos:=cp) S h1;have ka:=EC (A:=A) (pos:=cp) S h2;refine y0 (wQ (nH hk hg hd P.x (rK (kP ea.1) ka.1 kp (ea.2 P.vars _ _ λus y l r=>ka.2 (P.vars.le l) _ _ λws y' l' r'=>⟨y'.cU,k3 (r.mono l'.sub) r' λw a V xc ua hV=>?_⟩)))) rfl;have L:=(l.trans l').trans xc;have hn:∀b∈V,P.x.s.heap.get? b=none:=λb m=>(l.trans l').e.back (cK (hV b m).1.hi) (hV b m).2;exact zF (Q:=P.le L) (V:=V) (.le L) hp ns (az a rfl ua) (λb m=>⟨(hV b m).1,P.vE (hn b m)⟩) (λb m q v _ h=>P.xm (hn b m) h) (λb m=>.inr (hn b m)) λR r e _ _=>kk R r e
end
section
variable{y:Pt c}{y:Str}{v:AV}{A:Am d}{e:Expr}{sp dp kp:Pos}{vx:List Expr}{rs:List Str}{s:ag}
theorem Of(h:H9 e=some m):∃k p,e=.Constant (.str m) k p:=by
 induction e using eu with
 |Constant cn k p=>cases cn with
  |str y=>cases ay h;exact(jw k p rfl)
  |_=>exact nS h
 |_=>exact nS h
theorem aet(h:QG e=some es):∃p,e=.List es p:=by
 induction e using eu with
 |List d0 p=>cases ay h;exact⟨p,rfl⟩
 |_=>exact nS h
@[elab_as_elim] theorem OY{ks:List (Option Expr)}{K:Option Expr->List Expr->List Str->Prop}{k:Option Expr}(h:vI (k::ks) vx=some rs)(kk:∀{y j p q vs rs},vI ks vs=some rs->K (some (.Constant (.str y) j p)) (.List [] q::vs) (y::rs)):K k vx rs:=by
 induction vx using bO with
 |nil=>exact nS h
 |cons v vs=>
  exact aj h λe h1 g1=>aj g1 λy h2 g2=>aj g2 λes h3 g3=>aL g3 λh4 g4=>fM g4 λrs h5 g5=>by
   refine jU (Of h2) λj p bZ=>?_;subst bZ;obtain⟨q,rfl⟩:=aet h3;cases jz h4;cases g5;cases h1;exact kk h5
structure XG(h:am)(ks:List Str)(out:List (ac×ac))(as:List ao)(h':am):Prop where
 str:allStrKeys out=true
 keys:(strPairs out).map (·.1)=ks
 dl:o0 h' 0 (strPairs out) as
 keep:∀b o,h.get? b=some o->h'.get? b=some o
 size:h.objs.size<=h'.objs.size
 new:∀b∈as,h.objs.size<=b
 nd:as.Nodup
theorem ac7{M:cO}{A:bh}{E:ac->ag->Prop}{ks:List (Option Expr)}{Q:List (ac×ac)->ag->Prop}(h:vI ks vx=some rs)(k:∀out as h' t,XG s.heap rs out as h'->Q out {s with heap:=h',toks:=t}):ai (ah pw M) A (evalPairs (pairTrees ks vx env pos)) Q E s:=by
 induction ks generalizing vx rs s Q with
 |nil=>
  exact aL h λe h=>by
   cases jz e;cases ay h;exact pairTrees_nil_walk (k [] [] s.heap s.toks ⟨rfl,rfl,rfl,λ_ _ e=>e,bf _,λb m=>absurd m eX,wS⟩)
 |cons _ ks ih=>
  revert k;refine OY h λ{y j p q vs rs} h k=>pairTrees_cons_walk (SV (wpAny_List (SR ⟨cu _,ih (s:={s with toks:=s.toks+1,heap:=s.heap.push (bu [] 0)}) h λout as h' t o=>?_⟩)));have sz:(s.heap.push (bu [] 0)).objs.size=s.heap.objs.size+1:=oA ..;have lt:s.heap.objs.size<h'.objs.size:=ba (i6 (i5 _) sz.symm) o.size;have nw:∀b∈as,s.heap.objs.size<b:=λb m=>ba (i6 (i5 _) sz.symm) (o.new b m);exact k _ (s.heap.objs.size::as) h' t ⟨o.str,af (y:: ·) o.keys,(uL _ as rfl rfl (de ([]) 0 (o.keep _ _ (ft _ rfl)) (bf _)) o.dl),λb p e=>o.keep b p (c5 _ e),cy lt,λb m=>(bw m).elim (λe=>aD e.symm) λm=>cy (nw b m),nR ⟨λm=>cV _ (nw _ m),o.nd⟩⟩
theorem adZ{ks:List (Option Expr)}(h:vI ks vx=some rs):ks.all (·.isSome)=true/\ks.length=vx.length/\rs.length=ks.length:=by
 induction ks generalizing vx rs with
 |nil=>
  exact aL h λe h=>by
   cases jz e;cases ay h;exact(ei rfl rfl rfl)
 |cons _ ks ih=>
  exact OY (K:=λk vx rs=>(k::ks).all (·.isSome)=true/\(k::ks).length=vx.length/\rs.length=(k::ks).length) h λh=>e8 (ih h) λa b e=>(ei a (af jq b) (af jq e))
theorem acI{ks:List (Option Expr)}(hk:vI ks vx=some rs)(h0:ks.isEmpty=false)(hn:rs.Nodup)(hz:rs.length<=15)(hp:putN F.nm z (.dl rs 0) P.σ=some cJ):Nx A P (.Assign [.Name z xp] (.Dict ks vx dp) pos) cJ:=λK E kk=>by
 refine e8 (adZ hk) λa1 a2 a3=>y0 ?_ rfl;refine wpAny_Dict_walk (knd:=strKind pw c.w) a1 a2 (λh=>by rw[h] at h0;exact tf h0) (by lia) (ac7 hk λout as h' t o=>?_);have hd0:h'.DictOf (strKind pw c.w) P.x.s.heap.objs.size []:=am.DictOf.at (h:=P.x.s.heap.push {cls:=.type "dict",data:=.dict #[]}) (am.DictOf.new P.x.s.heap) λp e=>o.keep _ p e;refine display_done_str (P:=λh2=>ai (ah pw c.w) A.A (Cc F.env z (.ref P.x.s.heap.objs.size)) (λ_=>K .next) E _) o.str (by exact o.keys.symm▸hn) hd0 λh2 qg Ut=>?_;have nw:∀b∈as,P.x.s.heap.objs.size<b:=λb m=>ba (i6 (i5 _) (oA ..).symm) (o.new b m);have le:=P.x.cG (t:=t+out.length) (h':=h2) λb p e=>(Ut.2 b (gE (fB e))).trans (o.keep b p (c5 _ e));have low:∀b∈P.x.s.heap.objs.size::as,P.x.s.heap.objs.size<=b:=λb m=>(bw m).elim (λe=>aD e.symm) λm=>cy (nw b m);have fresh:∀b∈P.x.s.heap.objs.size::as,P.x.s.heap.get? b=none:=λb m=>by
  cases q:P.x.s.heap.get? b with
  |none=>rfl|some p=>exact absurd (fB q) (gK (low b m))
 exact zF (Q:=P.le le) (V:=P.x.s.heap.objs.size::as) (.le le) hp (Du hp rfl) ⟨_,rfl,strPairs out,as,qg,o.dl.mono (λb p m e=>(Ut.2 b λq=>cV _ (q▸nw b m)).trans e) (bf _),o.keys,rfl,nR ⟨λm=>cV _ (nw _ m),o.nd⟩⟩
  (λb m=>⟨⟨P.x.Eh (fresh b m),P.x.C5 (fresh b m),P.x.hi (low b m)⟩,P.vE (fresh b m)⟩) (λb m q v _ h=>P.xm (fresh b m) h) (λb m=>.inr (fresh b m)) λR r e _ _=>kk R r e
theorem o0.item(s:o0 h n vs as)(hk:m∈vs.map (·.1))(nd:as.Nodup):∃D vals j,valueAt vs m=some (.ref D)/\D∈as/\h.get? D=some (bu vals j)/\vals.length<=n/\
  ∀h',(∀b o,b∈as->b≠D->h.get? b=some o->h'.get? b=some o)->(∃mY m',h'.get? D=some (bu mY m')/\mY.length<=n+1)->o0 h' (n+1) vs as:=by
 induction vs generalizing as with
 |nil=>exact mN hk
 |cons q vs ih=>
  refine bE λgG hG=>?_;obtain⟨a,r,e,rfl,⟨vals,j,e1,hz⟩,s⟩:=s;have nd:=iW nd;refine hG ?_;by_cases k:q.1=m
  ·exact(GV a vals j (by show((q::vs).find? _).map _=_;erw[List.find?_cons_of_pos (by exact jZ k)];exact af some e) (.head _) e1 hz (λh' kp o=>(uL a r e rfl o (s.mono (λb o mb=>kp b o (.tail _ mb) λq=>nd.1 (q▸mb)) (iH _)))))
  ·exact DL (ih s ((bw hk).elim (λe=>absurd e.symm k) id) nd.2) λD mY m' k1 k2 k3 k4 k5=>(GV D mY m' (by show((q::vs).find? _).map _=_;erw[List.find?_cons_of_neg (by exact λe=>k (a5 e))];exact k1) (.tail _ k2) k3 k4 (λh' kp o=>(uL a r e rfl (de vals j (kp a _ (.head _) (λq=>nd.1 (q▸k2)) e1) (y6 hz)) (k5 h' (λb o mb ne e=>kp b o (.tail _ mb) ne e) o))))
theorem ζ{kk:Nat}{ks:List Str}(S:aX c d I)(h0:j9 P.σ z=some (.dl ks n))(hl:ap.endLine=cp.line)(hk:ks.contains m=true)(hz:n<aA)(he:bX (I.e F.nm) P.σ e=some (p,σ'))(hp:putN F.nm z (.dl ks (n+1)) σ'=some cJ):
  Nx A P (.Expr (.Call (.Attribute (.Subscript (.Name z xp) (.Constant (.str m) kk kp) sp) "append" ap) [e] [] cp) pos) cJ:=λK E kk=>by
 refine bE λgG hG=>?_;have h0:=tV h0;obtain⟨u,V,a,rfl,vs,as,h1,h3,h4,hU,h6⟩:=P.own z _ h0.1;have nd:=iW h6;refine DL (h3.item (h4.symm▸qI hk) nd.2) λD vals j k1 k2 k3 k4 k5=>?_;have mU:∀b∈a::as,b∈P.U z:=λb m=>hU▸m;have le:=P.x.cG (t:=P.x.s.toks+1+1) (h':=P.x.s.heap) λ_ _ e=>e;have hT:({P.x.s with toks:=P.x.s.toks+1}:ag).TypeIs (.ref a) "dict":=am.DictOf.typeIs (s:={P.x.s with toks:=P.x.s.toks+1}) h1;refine hG (yZ (Bv rfl hl (vC (sy S he)) (by show 1<=20;decide) SW SY (Subscript_ (qS P V h0.2 (SV (Ec hT slot_dict_getitem.lookup (wpAny_getItem_of (s:={P.x.s with toks:=P.x.s.toks+1}) (knd:=PySem.strKind pw c.w) (k:=m) (by simp[PySem.strKind,ac.isStrOf]) h1.mapOf k1
  (j5 D _ j rfl k3 (DA (P:=P.le le) S he λu Q X r=>⟨Q.x.cU,?_⟩)))))))) wj rfl)
 refine e8 (X.nU h0.1 (.inr rfl)) λhx eU kp=>?_;have DU:=mU D (.tail _ k2);have e2:=kp D _ DU k3;refine Ku (items:=vals.toArray) (hsz:=by exact i4.symm▸sH (aq k4 (cy hz))) ⟨j,e2⟩ λh' ve mZ=>dJ ve λk' e3=>?_;rw[show vals.toArray.push u=(vals++[u]).toArray by simp] at e3;refine e8 (lV (σ₀:=Q.σ) (X.σ.symm▸hp)) λ_ bY _=>?_;subst bY;have zz:∀b o,b∈P.U z->b≠D->P.x.s.heap.get? b=some o->h'.get? b=some o:=λb o m ne e=>(mZ.2 b ne).trans (kp b o m e);exact cP (((bD.le le).trans X.R).but (t:=Q.x.s.toks) (v':=.dl ks (n+1)) (V:=a::as) hx (X.var V) (eU▸DU) mZ (Hd e2) ⟨a,rfl,vs,as,h1.at λo e=>zz a o (mU a (.head _)) (λq=>nd.1 (q▸k2)) e,k5 h' (λb o m ne e=>zz b o (mU b (.tail _ m)) ne e) (de (vals++[u]) k' e3 (by exact da.symm▸yP k4)),h4,rfl,h6⟩ (λb m=>.inl (eU▸mU b m)) nofun) λR r' e s=>s▸kk R r' e
end
end
section
variable{c:Cx}{F:Fm}{P:St c F}{d k n:Nat}{A:Am d}{O:aK}{I:Ip}{e t:Expr}{p:PV}{σ' σ₁:ar}{pos cp np:Pos}{mu:List Str}{r:fS×ar}{outer:List Env}{K:Flow->ag->Prop}{E:ac->ag->Prop}{z:Str}{v:AV}{l:List PV}{args:List Expr}{kws:List fj}
section
variable{Q R:St c F}{it:Expr}{b:List aH}{fl:fS}{st:aH}{B W:ao->Prop}{g i:Nat}{w:Pt c}
def Kn(A:Am d)(P:St c F)(r:fS×ar)(outer:List Env)(K:Flow->ag->Prop)(E:ac->ag->Prop):Prop:=match r.1 with
 |.next=> ∀Q,bD P Q->Q.σ=r.2->K .next Q.x.s|.ret p=> ∀y v,cH (WU P) P.x y->Rd p y v->K (.ret v) y.s|.exc=>Fc A P outer/\∀v s',rY A P outer v s'->E v s'
theorem Kn.pre(a:bD P Q)(k:Kn A P r outer K E):Kn A Q r outer K E:=by
 obtain⟨fl,σ⟩:=r;cases fl with
 |next=>exact λR b e=>k R (a.trans b) e|ret p=>exact λy v l=>k y v (a.EG l a.wu)|exc=>exact⟨k.1.step a,λv s' l=>k.2 v s' (l.pre a)⟩
def Ex(A:Am d)(P:St c F)(t:Sem Flow)(r:fS×ar):Prop:=∀outer K E,Kn A P r outer K E->ai (ah pw c.w) A.A t K E P.x.s
theorem Nx.ex(h:Nx A P st σ'):Ex A P (iI st F.env) (.next,σ'):=λ_ K E k=>h K E k
def Sd(c:Cx)(d:Nat)(X:aN->List Str->ar->aH->aZ):Prop:=∀{F:Fm} {P:St c F} {A:Am d} {mu st r},X F.nm mu P.σ st=some r->Ex A P (iI st F.env) r
theorem Kn.seq{o:aZ}{q:fS×ar}{K':Flow->ag->Prop}{E':ac->ag->Prop}(h:(if q.1.hX=true then o else some q)=some r)(k:Kn A P r outer K E)(nx:o=some r->∀Q:St c F,bD P Q->Q.σ=q.2->Kn A Q r outer K E->K' .next Q.x.s)(rt:∀v s,K (.ret v) s->K' (.ret v) s)(ex:∀v s,E v s->E' v s):Kn A P q outer K' E':=by
 obtain⟨fl,σ⟩:=q;cases fl with
 |next=>exact λQ a e=>nx h Q a e (k.pre a)
 |ret p=>
  obtain rfl:=ay h;exact λy v l r=>rt v _ (k y v l r)
 |exc=>
  obtain rfl:=ay h;exact⟨k.1,λv s l=>ex v s (k.2 v s l)⟩
theorem vO{X:aN->List Str->ar->aH->aZ}(S:Sd c d X):∀{b:List aH} {P:St c F} {r},aS (X F.nm mu) b P.σ=some r->Ex A P (tz b F.env) r:=by
 intro b;induction b with
 |nil=>
  intro P r h outer K E k;obtain rfl:=ay h;exact FL (k P (.refl P) rfl)
 |cons st b ih=>exact λ{P r} h outer K E k=>aj h λq h1 h2=>FM (S h1 outer _ _ (k.seq h2 (λh Q a e k=>ih (e.symm▸h) outer K E k) (λ_ _ z=>z) λ_ _ z=>z))
def Lv(A:Am d)(P:St c F)(outer:List Env):fS->ac->ag->Prop
 |.exc=>rY A P outer|_=>No
theorem Sy:PassesOwnAt (ah pw c.w) A.A A.A F.env (Lv A P outer fl):=by
 cases fl with
 |exc=>exact afD|_=>exact λ_ _ z=>z.elim
theorem Kn.lv(k:Kn A P r outer K E)(h:Kn A P r outer K (Lv A P outer r.1)->ai (ah pw c.w) A.A (iI st F.env) K (Lv A P outer r.1) P.x.s):ai (ah pw c.w) A.A (iI st F.env) K E P.x.s:=by
 obtain⟨fl,σ⟩:=r;cases fl with
 |next=>exact cQ (h k) (λ_ _ z=>z) λ_ _ z=>z.elim|ret p=>exact cQ (h k) (λ_ _ z=>z) λ_ _ z=>z.elim|exc=>exact cQ (h ⟨k.1,λ_ _ z=>z⟩) (λ_ _ z=>z) k.2
theorem aeg{c':List aH}(S:aX c d I){X:aN->List Str->ar->aH->aZ}(ih:Sd c d X)(h:((I.t F.nm (bA P.σ) t).bind λr=>aS (X F.nm mu) (if r=true then b else c') P.σ)=some r):Ex A P (iI (.If t b c' pos) F.env) r:=λouter K E k=>aj h λv h1 h2=>wpAny_If (Oj S h1 λQ X=>by
 have h2:=X.σ.symm▸h2;induction v using jm with
 |true=>exact vO ih h2 outer K E (k.pre X.R)|false=>exact vO ih h2 outer K E (k.pre X.R))
theorem Z6(S:∀n,aX c d (ip n O))(ih:∀m,m<=n->Sd c d (aw O m))(h:aw O (n+1) F.nm mu P.σ (.While t b [] pos)=some r):Ex A P (iI (.While t b [] pos) F.env) r:=λouter K E k=>k.lv λk=>wpAny_While (codeAny_whileLoop
 (λm s'=>m<=n+1/\∃Q:St c F,bD P Q/\Q.x.s=s'/\aw O m F.nm mu Q.σ (.While t b [] pos)=some r) (λm s' z=>by
  obtain⟨hm,Q,a,rfl,h⟩:=z;induction m using m8 with
  |zero=>exact nS h
  |succ m=>
   refine aj (show((ip m O).t F.nm (bA Q.σ) t).bind (λr=>if r=true then(aS (aw O m F.nm mu) b Q.σ).bind λq=>if q.1.hX=true then aw O m F.nm mu q.2 (.While t b [] pos) else some q else some (.next,Q.σ))=some r from h) λv h1 h2=>Oj (S m) h1 λR X=>?_;have k:=k.pre (a.trans X.R);induction v using jm with
   |false=>
    obtain rfl:=ay h2;exact FL (k R (.refl R) X.σ)
   |true=>exact aj h2 λq h3 h4=>vO (ih m (KC hm)) (X.σ.symm▸h3) outer _ _ (k.seq h4 (λh Z b e _=>⟨m,i5 m,lF hm,Z,(a.trans X.R).trans b,rfl,e.symm▸h⟩) (λ_ _ z=>z) λv s z=>Sy v s z))
 (n+1) ⟨bf _,P,.refl P,rfl,h⟩)
theorem bD.step{y:Pt c}(a:bD P Q){U:kM Q y λ_=>False}(l:br W g Q.x y)(h1:P.x.s.gens.size<=g)(h2:g<=Q.x.s.gens.size)(h:∀b,W b->WU P b\/P.x.s.heap.get? b=none):bD P (Q.move y U):=
 ⟨br.shrink (W':=λb=>WU P b\/P.x.s.heap.get? b=none) (br.trans (a.st.weaken λ_=>.inl) ((l.lower h1 h2).weaken h)) λ_=>id,a.wu,λz k fs ow x e V=>(a.a6 z k fs ow x e V).imp id (U.old z _ id)⟩
structure Lp(d:Nat)(P Q:St c F)(i g:Nat)(l:List PV)(B:ao->Prop):Prop where
 R:bD P Q
 it:dG d i g l B Q.x
 back:∀b,B b->WU P b\/P.x.s.heap.get? b=none
 env:∀b,B b->¬dq F.env b
 U:∀b,B b->∀z v,ak Q.σ z=some v->b∉Q.U z
 g1:P.x.s.gens.size<=g
 g2:g<=Q.x.s.gens.size
theorem Lp.move(L:Lp d P Q i g l B)(st:br B g Q.x w):∃Z:St c F,bD P Z/\Z.x=w/\Z.σ=Q.σ/\Z.U=Q.U:=(vL (Q.move w (.yn st L.env λq v _ h b m k=>L.U b k q v h m)) (L.R.step st L.g1 L.g2 L.back) rfl rfl rfl)
theorem Lp.next{m:List PV}{B':ao->Prop}{Z R:St c F}(L:Lp d P Q i g l B)(st:br B g Q.x Z.x)(it:dG d i g m B' Z.x)(dn:∀b,B' b->B b\/Q.x.s.heap.get? b=none)(e1:Z.σ=Q.σ)(e2:Z.U=Q.U)(a:bD P Z)(b:bD Z R):Lp d P R i g m B':=by
 have env:∀b,B' b->¬dq F.env b:=λb k=>(dn b k).elim (L.env b) Q.vE;have U:∀b,B' b->¬WU Z b:=λb k q=>q.elim (λq=>env b k (nW q)) λq=>by
  refine eJ q λz v h m=>?_;rw[e1] at h;rw[e2] at m;exact(dn b k).elim (λk=>L.U b k z v h m) λn=>Q.xm n h m
 exact⟨a.trans b,it.later (b.st.later it.live U),λb k=>(dn b k).elim (L.back b) λn=>(L.R.st.e.back (cK (it.live b k).1.hi) n).symm,env,λb' k z v h m=>(b.wu b' (.inr (de z v h m))).elim (U b' k) λn=>(it.live b' k).2.elim λo e=>nS (n.symm.trans e),L.g1,aq L.g2 (aq st.e.dm b.st.e.dm)⟩
theorem XE{xs:List Str}{σ:ar}(nd:(σ.map (·.1)).Nodup)(h:ak (A0 xs σ) z=some v):ak σ z=some v:=JO nd (eI (gL h)).1
theorem RX{xs:List Str}{σ:ar}(nd:(σ.map (·.1)).Nodup):((A0 xs σ).map (·.1)).Nodup:=(List.Sublist.map _ u0).nodup nd
theorem Kn.kK{q:fS×ar}(h:kK t p q=some r)(k:Kn A P r outer K E):Kn A P q outer K E:=by
 induction p using dg with
 |inst=>exact aL h λ_ h=>ay h▸k
 |set=>
  obtain rfl:=ay h;obtain⟨fl,σ⟩:=q;cases fl with
  |next=>exact λQ a e=>k (Q.weak (A0 (vH t) Q.σ) (RX Q.nd) λz v=>XE Q.nd) (a.trans (.weak λz k fs ow h=>JO (RX Q.nd) (pG ⟨gL h,by show(!(_&&false))=true;rw[FJ];rfl⟩))) (af _ e)|_=>exact k
 |_=>exact ay h▸k
theorem aaY{X:aN->List Str->ar->aH->aZ}(S:aX c d I)(ov:Ov c d)(ih:Sd c d X)(h:((bX (I.e F.nm) P.σ it).bind λq=>over q.1 λsrc=>(dZ (aS (X F.nm mu) b) F.nm t src q.2).bind (kK t q.1))=some r):Ex A P (iI (.For t it b [] pos) F.env) r:=λouter K E k=>k.lv λk=>
 aj h λq h1 h2=>wpAny_For (qh S h1 λu Q Y rd=>by
  refine aB (ov (A:=A) h2 rd) λxs h3 gi=>aj h3 λr' h4 h5=>gi _ _ λy i B g le vf nw g1 g2=>?_;have k:=k.kK h5;refine codeAny_forLoop_any (λm s'=> ∃(Q:St c F) (l:List PV) (B:ao->Prop),l.length=m/\Q.x.s=s'/\Lp d P Q i g l B/\dZ (aS (X F.nm mu) b) F.nm t l Q.σ=some r') (λm s' z=>?_) xs.length (xD (Q.le le) xs B rfl rfl ⟨Y.R.trans (.le le),vf,λb m=>(Y.R.st.e.back (cK (vf.live b m).1.hi) (nw b m)).symm,λb m=>Q.vE (nw b m),λb m z v=>Q.xm (nw b m),aq Y.R.st.e.dm g1,g2⟩ (Y.σ.symm▸h4));refine xM z λQ l B c4 pX L h=>?_;subst c4;subst pX;induction l using bO with
  |nil=>
   obtain rfl:=ay h;refine L.it.done A λw st=>ll (L.move st) λZ a bZ e _=>?_;subst bZ;exact FL (k Z a e)
  |cons p l=>
   refine aj h λσ₁ h6 h7=>aj h7 λq h8 h9=>L.it.next A λv B' w rd vf st up dn=>ll (L.move st) λZ a bZ e e'=>?_;subst bZ;exact vf.go A (OH (.refl Z) (e.symm▸h6) rd λR b er=>vO ih (er.symm▸h8) outer _ _ ((k.pre (a.trans b)).seq h9 (λh R' b' e2 _=>⟨l.length,i5 _,R',l,B',rfl,rfl,L.next st vf dn e e' a (b.trans b'),e2.symm▸h⟩) (λ_ _ z=>z) λv s z=>Sy v s z))) (AU (sy S h1) F.env)
end
section
variable{J:Ip}{i ob fn:Expr}{cJ:ar}{xp ap:Pos}{m y:Str}{op:ia}
theorem JI{q:Expr×List Expr×List fj×Pos}(h:Bw e=some q):e=.Call q.1 q.2.1 q.2.2.1 q.2.2.2:=by
 induction e using eu with
 |Call=>cases ay h;rfl
 |_=>exact nS h
theorem Sl{q:Expr×Str×Pos}(h:J3 e=some q):e=.Attribute q.1 q.2.1 q.2.2:=by
 induction e using eu with
 |Attribute=>cases ay h;rfl
 |_=>exact nS h
theorem uK(h:iB e=some z):∃p,e=.Name z p:=by
 induction e using eu with
 |Name x p=>cases ay h;exact⟨p,rfl⟩
 |_=>exact nS h
theorem Nz(h:G5 e=true):∃k p,e=.Constant (.int 0) k p:=by
 induction e using eu with
 |Constant cn k p=>induction cn using YR with
  |int j=>
   obtain rfl:=a5 (h:(j==0)=true);exact(jw k p rfl)
  |_=>exact ff h
 |_=>exact ff h
theorem DF{q:Str×List Expr×List fj}(h:DS e=some q):∃np p,e=.Call (.Name q.1 np) q.2.1 q.2.2 p:=aj h λa h1 h2=>fM h2 λC h3 h4=>by
 obtain⟨np,e⟩:=uK h3;exact(jw np a.2.2.2 (h4▸e▸JI h1))
@[elab_as_elim] theorem zV{m:List Expr->List fj->Prop}(h:xj args kws=some e)(K:m [e] []):m args kws:=by
 induction kws using bO with
 |nil=>exact qe h K|cons=>exact nS h
@[elab_as_elim] theorem lp{o:Option ar}{m:fS×ar->Prop}(h:eB o=some r)(K:∀σ,o=some σ->m (.next,σ)):m r:=fF h K
@[elab_as_elim] theorem aaA{m:AV->Prop}(h:v.t8=some p)(K:m (.pv p)):m v:=by
 induction v using lA with
 |pv=>exact ay h▸K|_=>exact nS h
@[elab_as_elim] theorem WZ{m:AV->Prop}{q:List Str×Nat}(h:v.Fh=some q)(K:m (.dl q.1 q.2)):m v:=by
 cases v with
 |dl=>cases ay h;exact K
 |_=>exact nS h
theorem aes(h:Qq e=some y):∃yp p2 k ip p3,e=.Call (.Attribute (.Name y yp) "pop" p2) [.Constant (.int 0) k ip] [] p3/\p2.endLine=p3.line:=aj h λq h1 h=>aj h λa h2 h=>aj h λy' h3 h=>aj h λi h4 h=>aL h λhc h=>by
 refine e8 hc λhi hm hl=>?_;obtain rfl:=ay h;refine jU (Nz hi) λk ip bZ=>?_;subst bZ;obtain⟨yp,e3⟩:=uK h3;exact(RO yp a.2.2 k ip q.2.2.2 ((JI h1).trans (zV (m:=λx y=>Expr.Call q.1 x y q.2.2.2=_) h4 (by erw[Sl h2];erw[e3];erw[hm];rfl))) hl)
theorem Ie(S:aX c d I)(h:Br I F.nm P.σ (.Call fn args kws cp)=some r):Ex A P (iI (.Expr (.Call fn args kws cp) pos) F.env) r:=fF h λp h1=>(ab' S h1).ex
theorem aef{o:Option AV}(S:aX c d I)(Mu:gY c O d)(hk:j9 P.σ z=o)(h:Oh O I F.nm P.σ z m args kws (ap.endLine==cp.line) (Br I F.nm P.σ (.Call (.Attribute (.Name z xp) m ap) args kws cp)) o=some r):
  Ex A P (iI (.Expr (.Call (.Attribute (.Name z xp) m ap) args kws cp) pos) F.env) r:=by
 induction o using qa with
 |none=>exact Ie S h
 |some v=>induction v using lA with
  |own l=>
   refine aL h λhl g=>aL g λhz g1=>d9 g1 (λhm g2=>aj g2 λe h1 g3=>aj g3 λq h2 g4=>aj g4 λl' h3 g5=>lp g5 λσ hp=>?_) λ_ g2=>aL g2 λhm g3=>aj g3 λw h1 g4=>aL g4 λh0 g5=>aj g5 λq h2 g6=>aj g6 λl' h3 g7=>lp g7 λσ hp=>?_
   ·cases hm;exact zV h1 (θ S hk (a5 hl) hz h2 h3 hp).ex
   ·obtain⟨rfl,hm⟩:=hm;obtain rfl:=jz hm;exact jU (Nz h0) λk0 ip e0=>xq h1 (aa (e0) ((XB S hk (a5 hl) hz h2 h3 hp).ex))
  |a6=>exact aL h λhl h=>aj h λe h1 h=>aj h λq h2 h=>aj h λeY h3 h=>lp h λσ hp=>zV h1 (af8 S Mu hk (a5 hl) h2 h3 hp).ex|_=>exact Ie S h
theorem adK(S:aX c d I)(Mu:gY c O d)(h:QC O I F.nm P.σ m args kws (ap.endLine==cp.line) (Br I F.nm P.σ (.Call (.Attribute ob m ap) args kws cp)) ob=some r):Ex A P (iI (.Expr (.Call (.Attribute ob m ap) args kws cp) pos) F.env) r:=by
 induction ob using eu with
 |Name=>exact aef S Mu rfl h
 |Attribute b f yp=>
  refine aj h λx hx h=>aL h λhm h=>aj h λv h1 h=>aj h λi h2 h=>aL h λht h=>aj h λe h3 h=>aj h λq h4 h=>aj h λw h5 h=>aj h λl h6 h=>aL h λho h=>lp h λσ hp=>?_;obtain⟨xp,rfl⟩:=uK hx;obtain⟨rfl,hl⟩:=hm;exact zV h3 (acS S h1 h2 (a5 hl) ht h4 h5 h6 ho.1 ho.2 hp).ex
 |Subscript b i sp=>
  refine aj h λx hx h=>aj h λk hk h=>aL h λhm h=>aj h λv h1 h=>aj h λi h2 h=>aL h λht h=>aj h λe h3 h=>aj h λq h4 h=>lp h λσ hp=>?_;obtain⟨xp,rfl⟩:=uK hx;refine jU (Of hk) λ_ _ bZ=>?_;subst bZ;obtain⟨rfl,hl⟩:=hm;revert h1;exact WZ h2 λh1=>zV h3 (ζ S h1 (a5 hl) ht.1 ht.2 h4 hp).ex
 |_=>exact nS h
theorem U4(S:aX c d I)(Mu:gY c O d)(h:PE O I F.nm P.σ e=some r):Ex A P (iI (.Expr e pos) F.env) r:=aj h λq h1 h=>by
 obtain⟨fn,args,kws,cp⟩:=q;cases JI h1;refine tW h (λa h2 g=>?_) λ_ h=>Ie S h;cases Sl h2;exact adK S Mu g
theorem Q_{b:Bool}(h:b=true->p.ii=none):DK b p=.pv p:=by
 induction b using jm with
 |false=>rfl|true=>cases p<;>first|rfl|exact nS (h rfl).symm
theorem acA{b:Bool}(S:aX c d I)(ov:Ov c d)(S':aX c d ⟨pf O I J,DN O I⟩)(h:bX (pf O I J F.nm) P.σ e=some (p,σ'))(hp:putN F.nm z (DK (r9 e&&b) p) σ'=some cJ):Nx A P (.Assign [.Name z xp] e pos) cJ:=by
 by_cases q:∃elt gens sc cp,e=.ListComp elt gens sc cp
 ·refine Zh q λelt gens sc cp pX=>?_;subst pX;obtain⟨l,rfl⟩:∃l,p=.list l:=sP h (λh _=>by refine vr (yG h) λ_ _ _ _ l _ e=>?_;exact⟨l,e⟩) λh _ _=>by refine vr (yG h) λ_ _ _ _ l _ e=>?_;exact⟨l,e⟩
  exact abo S ov h hp
 ·have hc:∀elt gens sc pos,e≠ .ListComp elt gens sc pos:=λa b c d e=>q (adL a b c d e);by_cases z:r9 e=true/\∃l,p=.list l
  ·obtain⟨z,l,rfl⟩:=z;rw[z] at hp;exact aah S ov h z hp hc
  ·rw[Q_ λe=>?_] at hp
   ·exact aeT S' h hp hc
   ·induction p using dg with
    |list l=>exact absurd ⟨(aW e).1,l,rfl⟩ z|_=>rfl
theorem Rs{e:Expr}{q:PV×ar}{nm:aN}{σ:ar}(h:bX ((ip n O).e nm) σ e=some q):∃m,n=m+1:=by
 induction n using m8 with
 |zero=>exact sP h (λh _=>nS h) λh _ _=>nS h|succ n=>exact⟨n,rfl⟩
variable(S:∀n,aX c d (ip n O))(ov:Ov c d)(Mu:gY c O d)(Or:cg c O d)
include S ov Mu
theorem afp(h:ME O (ip n O) F.nm mu P.σ z e=some r):Ex A P (iI (.Assign [.Name z xp] e pos) F.env) r:=by
 have plain:Hr (ip n O) F.nm mu P.σ z e=some r->Ex A P (iI (.Assign [.Name z xp] e pos) F.env) r:=λh=>aj h λq h1 h=>lp h λσ hp=>by
  obtain⟨n,rfl⟩:=Rs h1;exact(acA (S n) ov (S (n+1)) h1 hp).ex
 refine tW h (λy h1 g=>?_) λ_ h=>tW h (λq h1 h=>aj h λrs h2 h=>aL h λhz h=>lp h λσ hp=>?_) λ_ h=>tW h (λq h1 h=>d9 h (λ_ h=>aj h λus h2 h=>aj h λks h3 h=>aL h λhk h=>aj h λo h4 h=>lp h λσ hp=>?_) λ_=>plain) λ_=>plain
 ·refine vr (aes h1) λyp p2 k ip p3 tI hl=>?_;subst tI;cases ho:gB P.σ y with
  |none=>rw[ho] at g;exact nS g
  |some l=>
   rw[ho] at g;induction l using bO with
   |nil=>exact nS g|cons p l=>exact aj g λσ₁ h1 h=>lp h λσ hp=>(Ξ ho hl h1 hp).ex
 ·induction e using eu with
  |Dict ks vs dp=>
   have h1:(if ks.isEmpty=true then none else some (ks,vs))=some q:=h1;refine fZ h1 λh0 h1=>?_;obtain rfl:=ay h1;exact(acI h2 (nq h0) hz.1 hz.2 hp).ex
  |_=>exact nS h1
 ·refine jU (DF h1) λnp cp bZ=>?_;subst bZ;exact(acb (S n) Mu h2 h3 hk.1 hk.2.1 hk.2.2 h4 hp).ex
theorem aaT(h:JA O (ip n O) F.nm mu P.σ e t=some r):Ex A P (iI (.Assign [t] e pos) F.env) r:=by
 induction t using eu with
 |Name=>exact afp S ov Mu h|Tuple=>exact aj h λq h1 h=>lp h λσ hp=>(adg (S n) h1 hp).ex
 |Subscript b i=>
  refine aj h λx hx h=>aj h λq h1 h=>aj h λl h2 h=>aj h λk h3 h=>aj h λl' h4 h=>lp h λσ hp=>?_;obtain⟨xp,rfl⟩:=uK hx;exact(adW (S n) h1 h2 h3 h4 hp).ex
 |Attribute b=>
  refine aj h λx hx h=>aj h λq h1 h=>aj h λv h2 h=>aj h λi h3 h=>aL h λht h=>lp h λσ hp=>dJ (uK hx) λxp bY=>?_;subst bY;obtain⟨n,rfl⟩:=Rs h1;exact(abM (S n) (S (n+1)) ov h1 h2 h3 ht.1 ht.2 hp).ex
 |_=>exact nS h
include Or
theorem Y2(h:PH O (ip n O) F.nm P.σ op e t=some r):Ex A P (iI (.AugAssign t op e pos) F.env) r:=by
 induction t using eu with
 |Name x xp=>
  refine aj h λv h1 h=>aj h λa h2 h=>aj h λq h3 h=>aj h λp h4 h=>lp h λσ hp=>?_;revert h1;exact aaA h2 λh1=>(y_ (S n) Or (tV h1).1 h3 h4 hp).ex
 |Subscript b i=>
  refine aj h λx hx h=>aj h λl h1 h=>aj h λk h2 h=>aj h λa h3 h=>aj h λq h4 h=>aj h λp h5 h=>aj h λl h6 h=>aj h λl' h7 h=>lp h λσ hp=>dJ (uK hx) λxp bY=>?_;subst bY;exact(Zy (S n) Or h1 h2 h3 h4 h5 h6 h7 hp).ex
 |_=>exact nS h
end
section
variable{m:Str}{y:Pt c}
theorem aa4(l:Le P.jc y):cH (WU P) P.x y:=⟨λa o e=>l.sub a o (BP a o e),λa o e=>(l.new a o e).elim (λq=>D5 q (λq _=>.inr (.inr (.inr (by refine s8 q λz v h _ m=>?_;exact(de z v h m))))) .inl) λq=>.inr (.inl q),l.e.ny⟩
theorem Ry{o:Option Bool}(h:o.getD false=true):o=some true:=by
 induction o using qa with
 |none=>exact ff h|some b=>exact af some h
theorem Qj(S:aX c d I)(Mu:gY c O d)(h:raises O I F.nm (bA P.σ) e=true)(f:Fc A P outer){K:ac->ag->Prop}(k:∀v s' B e,jn (F.env::outer) (λ_=>False) P.x.s v s' B e->E v s'):ai (ah pw c.w) A.A (eval e F.env) K E P.x.s:=by
 refine bE λgG hG=>aj (Ry h) λq h1 h=>aL h λhk h=>aj h λvs h2 h=>fM h λks h3 h4=>jU (DF h1) λnp pos bZ=>?_;subst bZ;refine cP (Mu.nB h4) λg hg kp k3=>?_;have ea:=rM (A:=A) (pos:=pos) S h2;have ka:=EC (A:=A) (pos:=pos) S h3;exact hG (wQ (nH hk.1 hg hk.2 P.jc (rK (kP ea.1) ka.1 kp (ea.2 P.rH _ _ λus y l r=>ka.2 (P.rH.le l) _ _ λws y' l' r'=>⟨y'.cU,k3 (A:=A) (r.mono l'.sub) r' f.stack (f.frames.ext (l.trans l').e) λv s' B e fl=>k v s' B e (fl.ext (l.trans l').e)⟩))))
theorem abQ(S:aX c d I)(Mu:gY c O d)(h:raises O I F.nm (bA P.σ) e=true)(f:Fc A P outer){K:ac->ag->Prop}(k:∀v s',rY A P outer v s'->E v s'):ai (ah pw c.w) A.A (eval e F.env) K E P.x.s:=Qj S Mu h f λv s' B e fl=>k v s' (jn.after f fl)
theorem ac8(S:aX c d I)(Mu:gY c O d)(h:sM O I F.nm P.σ e=some r):Ex A P (iI (.Return (some e) pos) F.env) r:=λouter K E k=>by
 refine tW h (λp h1 h=>?_) λ_ h=>aL h λh1 h=>?_
 ·obtain rfl:=ay h;exact wpAny_Return_some (S.ev (x:=P.jc) h1 P.rH _ _ λu y l r=>k y u (aa4 l) r)
 ·obtain rfl:=ay h;exact wpAny_Return_some (abQ S Mu h1 k.1 k.2)
theorem Od(P:cD):(nsOkIn (KL P) 663&&nsIn (KL P) 663 "__init__"==some none&&db P "TiesException"==some (.ref 664))=true:=⋯
theorem RG(P:cD):∃nm q bs hdct sn sub ab col dd k0 k1 k2 k3 k5,(KL P).lookup 664=some (excClassObj nm q 664 663 bs [.type "Exception",.type "BaseException",.type "object"] hdct sn sub ab col dd k0 k1 k2 k3 k5 "Exception.__new__"):=⟨_,_,_,_,_,_,_,_,_,_,_,_,_,_,rfl⟩
theorem ace{vs:List PV}(S:aX c d I)(hk:ak F.nm ("TiesException":Str)=some .globalImplicit)(h:iS (I.e F.nm (fJ P.σ)) args=some vs)(hz:vs.length<=aA):Ex A P (iI (.Raise (some (.Call (.Name "TiesException" np) args [] cp)) none pos) F.env) (.exc,σ'):=λouter K E k=>by
 refine bE λgG hG=>?_;have z:=Od c.w.params;simp only[mK,beq_iff_eq] at z;obtain⟨⟨z1,z2⟩,z3⟩:=z;obtain⟨n',q,bs,hdct,sn,sub,ab,col,dd,k0,k1,k2,k3,k5,ho⟩:=RG c.w.params;have ea:=rM (A:=A) (pos:=cp) S h;exact hG (wpAny_Raise_call_sub (C:=664) (N:=663) (nm:=n') (q:=q) (bs:=bs) (hdct:=hdct) (sn:=sn) (sub:=sub) (ab:=ab) (col:=col) (dd:=dd) (k0:=k0) (k1:=k1) (k2:=k2) (k3:=k3) (k5:=k5) PySem.F.excBase_Exception A.ok.handled (kP ea.1) (mN:=(c.h₀.nsMap 663)) (nsMap_none_of_in c.K z1 z2)
  (nH hk z3 (by decide) P.x ⟨rfl,Jh (kws:=[]) (kP ea.1) rfl (ea.2 P.vars _ _ λus y l r=>uR (Sw rfl (sH (r.length▸hz)) (y.cU 664 _ ho) ((am.Ns.of_isNs (isNs_of_in c.K z1)).keeps y.keep) (λh' e m=>k.2 _ _ (ad6 k.1 l.e y.tab m))))⟩))
theorem ε{O:aK}(S:∀n,aX c d (ip n O))(ov:Ov c d)(Mu:gY c O d)(Or:cg c O d)(ih:∀m,m<=n->Sd c d (aw O m)):Sd c d (aw O (n+1)):=λ{F P A mu st r} h=>by
 have h':Rw O (ip n O) (aw O n) F.nm mu P.σ st=some r:=h;induction st using R3 with
 |Expr=>exact U4 (S n) Mu h'
 |Assign ts e pos=>
  exact aj h' λt h1 h2=>qe (m:=λts=>Ex A P (iI (.Assign ts e pos) F.env) r) h1 (aaT S ov Mu h2)
 |AugAssign=>exact Y2 S ov Mu Or h'|If=>exact aeg (S n) (ih n (bf n)) h'
 |While t b CO=>
  refine rX h' λe _=>?_;cases e;exact Z6 S ih h
 |For t it b CO=>
  refine rX h' λe h=>?_;cases e;exact aaY (S n) ov (ih n (bf n)) h
 |Return e=>
  induction e using qa with
  |none=>exact nS h'|some e=>exact ac8 (S n) Mu h'
 |Raise e cc=>
  refine aL h' λh0 h1=>aj h1 λe' h2 h3=>aj h3 λq h4 h5=>aL h5 λhk h6=>aj h6 λvs h7 h8=>aL h8 λhz h9=>?_;obtain rfl:=ay h9;cases h2;refine jU (DF h4) λnp cp bZ=>?_;subst bZ;induction cc using qa with
  |none=>
   refine e8 hk λh1 h2 h3=>?_;rw[h1] at h3;exact aa (h1) (aa (jz h2) (ace (S n) h3 h7 hz))
  |some=>exact ff h0
 |_=>exact nS h'
theorem Xw{O:aK}(S:∀n,aX c d (ip n O))(ov:Ov c d)(Mu:gY c O d)(Or:cg c O d)(n:Nat):Sd c d (aw O n):=Nat.strongRecOn (motive:=λn=>Sd c d (aw O n)) n λn ih=>by
 induction n using m8 with
 |zero=>exact λh=>nS h|succ n=>exact ε S ov Mu Or λm hm=> @ih m (kA hm)
end
end
section
variable{α:Type}
noncomputable def yj(names:List Str):List (Str×α)->List (Str×α)->Option (List (Str×α))
 |[],l=>some l|q::r,l=>if names.contains q.1=true then(if(l.lookup q.1).isSome=true then none else yj names r (l++[q])) else none
noncomputable def sD:List (Str×α)->List (Str×α)->List (Str×α)
 |[],l=>l|q::r,l=>sD r (if(l.lookup q.1).isNone=true then l++[q] else l)
def kl(names:List Str)(ds vs:List α)(ks:List (Str×α)):Option (List (Str×α)):=
 (yj names ks (names.zip vs)).bind λslots=>if names.length<vs.length then none else
  if((names.take (names.length- (ds.drop (ds.length-names.length)).length)).filter λn=>(slots.lookup n).isNone).isEmpty=true then
   some (names.filterMap λn=>((sD ((names.drop (names.length- (ds.drop (ds.length-names.length)).length)).zip (ds.drop (ds.length-names.length))) slots).lookup n).map (n,·)) else none
end
section
variable{α σ:Type}{names:List Str}{ks l r:List (Str×α)}{s:ag}{ds vs:List α}{q:Str×α}{n:Str}{ns:List Str}{v:α}
theorem aaM(get:σ->List (Str×α))(put:σ->List (Str×α)->σ)(hp:∀st l,get (put st l)=l)(hpp:∀st l m,put (put st l) m=put st m)(hg:∀st,put st (get st)=st)(g:Str×α->σ->Sem (ForInStep σ))
(LH:∀k v st,names.contains k=true->((get st).lookup k).isSome=false->g (k,v) st=pure (.yield (put st (get st++[(k,v)]))))(st:σ)(h:yj names ks (get st)=some l):forIn ks st g=pure (put st l):=by
 induction ks generalizing st l with
 |nil=>cases ay h;erw[yU];rw[hg]
 |cons q r ih=>
  refine aL h λh1 h=>fZ h λh2 h=>?_;rw[wO,LH q.1 q.2 st h1 (nq h2),pure_bind];exact(ih (put st (get st++[(q.1,q.2)])) (by rw[hp];exact h)).trans (by rw[hpp])
theorem aa2(g:Str×α->List (Str×α)->Sem (ForInStep (List (Str×α))))(LH:∀k v st,g (k,v) st=pure (.yield (if(st.lookup k).isNone=true then st++[(k,v)] else st)))(l:List (Str×α)):forIn ks l g=pure (sD ks l):=by
 induction ks generalizing l with
 |nil=>rfl|cons q r ih=>rw[wO,LH q.1 q.2,pure_bind];exact ih _
noncomputable def AH(p:Arguments):Bool:=p.posonlyargs.isEmpty&&p.vararg.isNone&&p.kwonlyargs.isEmpty&&p.kwarg.isNone
def DY(s:ag)(v:ac)(o:Option (Array ac)):Prop:=∀(M:f4) (A:bh) (E:ac->ag->Prop) (Q:Option (Array ac)->ag->Prop),Q o s->ai M A (seqItems? v) Q E s
noncomputable def QD(l:List Arg)(kd:List (Option Expr))(df:List Expr):Arguments:=⟨[],l,none,[],kd,none,df⟩
theorem XH{p:Arguments}(h:AH p=true):∃l kd df,p=QD l kd df:=by
 obtain⟨po,l,va,ko,kd,kw,df⟩:=p;refine dU (aW h) λh p4=>dU (aW h) λh p3=>dU (aW h) λp1 p2=>?_;obtain rfl:=jz p1;obtain rfl:=Gl.mp p2;obtain rfl:=jz p3;obtain rfl:=Gl.mp p4;exact⟨l,kd,df,rfl⟩
section
variable{β:Type}{M:f4}{A:bh}{E:ac->ag->Prop}{Q:β->ag->Prop}{t u:Sem β}{b:Prop}[Decidable b]
theorem Jg{t:Sem σ}{x:σ}{k:σ->Sem β}(h:t=pure x)(K:ai M A (k x) Q E s):ai M A (t>>=k) Q E s:=ae (h▸au K)
theorem OT(h:¬b)(K:ai M A u Q E s):ai M A (if b then t else u) Q E s:=(iN h).symm▸K
end
theorem I3{fd:FuncData}{vals ds:List ac}{kv binds:List (Str×ac)}{o:Option (Array ac)}(hp:AH fd.params=true)(hd:DY s fd.defaults o)
(ho:(o.getD #[]).toList=ds)(h:kl (fd.params.args.map (·.arg)) ds vals kv=some binds):BindsTo s fd ⟨vals,kv⟩ binds:=by
 intro M A E Q hq;obtain⟨nm,qn,p,bd,sc,gl,cl,df,kd,dc,pm,an,co,ct⟩:=fd;obtain⟨l,kdf,dfs,e⟩:=XH hp;obtain rfl:p=QD l kdf dfs:=e;subst ho;refine aj h λslots h1 h2=>fZ h2 λLI h3=>aL h3 λahr h4=>?_;obtain rfl:=ay h4;refine(show ai M A (forIn kv ((l.map (·.arg)).zip vals,([]:List (Str×ac))) _>>=_) Q E s from Jg (aaM (λst:List (Str×ac)×List (Str×ac)=>st.1) (λst l=>(l,st.2)) (λ_ _=>rfl) (λ_ _ _=>rfl) (λ_=>rfl) _ (λk v st a b=>(iP (Ln.mpr (.inl a))).trans (iN (ne_true_of_eq_false b))) _ h1) (ae (hd _ _ _ _ (OT (λq=>LI (cC (aW q).1)) (OT (λq=>dy ((af not ahr).symm.trans q)) ?_)))));exact Jg (aa2 _ (λk v st=>(apply_ite (λl=>(pure (uU l):Sem (ForInStep (List (Str×ac))))) ..).symm) _) (Jg yU ((gO (l.map (·.arg))).symm▸au hq))
theorem adG(h:yj names ks (q::l)=some r):∃r',r=q::r':=by
 induction ks generalizing l with
 |nil=>exact⟨l,(ay h).symm⟩|cons _ _ ih=>exact aL h λ_ h=>fZ h λ_ h=>ih h
theorem XV:∃r',sD ks (q::l)=q::r':=by
 induction ks generalizing l with
 |nil=>exact⟨l,rfl⟩
 |cons p _ ih=>
  show∃r',sD _ (if((q::l).lookup p.1).isNone=true then(q::l)++[p] else q::l)=q::r';by_cases c:((q::l).lookup p.1).isNone=true
  ·erw[iP c];exact ih
  ·erw[iN c];exact ih
theorem Wh(h:kl (n::ns) ds (v::vs) ks=some r):∃r',r=(n,v)::r':=aj h λm h1 h2=>fZ h2 λ_ h3=>aL h3 λ_ h4=>by
 cases ay h4;obtain⟨m',rfl⟩:=adG h1;obtain⟨r',e⟩:=XV (ks:=((n::ns).drop ((n::ns).length- (ds.drop (ds.length- (n::ns).length)).length)).zip (ds.drop (ds.length- (n::ns).length))) (q:=(n,v)) (l:=m');refine aa (Ch) (aa (e) (aa (FF) ?_));rw[beq_self_eq_true];exact⟨_,rfl⟩
theorem abC(h:kl ns ds (v::vs) ks=some (q::r)):q.2=v:=by
 induction ns using bO with
 |nil=>exact aj h λ_ _ g=>fZ g λc _=>absurd (Nat.zero_lt_succ _) c|cons n ns=>exact(Wh h).elim λ_ e=>af oz (List.cons.inj e).1
theorem VR(nd:ns.Nodup):((ns.filterMap λn=>(l.lookup n).map (n,·)).map (·.1)).Nodup/\∀x∈(ns.filterMap λn=>(l.lookup n).map (n,·)).map (·.1),x∈ns:=by
 induction ns with
 |nil=>exact⟨wS,λx m=>mN m⟩
 |cons n ns ih=>
  have nd:=iW nd;have i:=ih nd.2;erw[Ch];cases l.lookup n with
  |none=>exact⟨i.1,λx m=>.tail _ (i.2 x m)⟩|some a=>exact⟨nR ⟨λm=>nd.1 (i.2 _ m),i.1⟩,λx m=>(bw m).elim (λe=>e▸ .head _) λm=>.tail _ (i.2 x m)⟩
theorem I6(h:kl names ds vs ks=some r)(nd:names.Nodup):(r.map (·.1)).Nodup/\∀x∈r.map (·.1),x∈names:=aj h λm h1 h2=>fZ h2 λ_ h3=>aL h3 λ_ h4=>by
 cases ay h4;exact VR nd
end
section
variable{c:Cx}{f:Fz}{vs ds:List ac}{l es:List PV}{lv kv:List (Str×ac)}{lf kf r:List (Str×PV)}{z:Str}{names ns:List Str}
theorem bI.look{X:Prop}(h:bI c f lv lf)(z:Str)(k1:lv.lookup z=none->lf.lookup z=none->X)(k2:∀v p,lv.lookup z=some v->lf.lookup z=some p->aV c f v p->X):X:=by
 induction lf generalizing lv with
 |nil=>
  revert k1;exact tc h λk1=>k1 rfl rfl
 |cons q lf ih=>
  revert k1 k2;obtain⟨y,p⟩:=q;refine oZ h λ{v us} a h k1 k2=>?_;rw[FF,FF] at k1 k2;cases e:z==y with
  |true=>rw[e] at k2;exact k2 _ _ rfl rfl a
  |false=>rw[e] at k1 k2;exact ih h k1 k2
theorem bI.append(b:bI c f kv kf)(h:bI c f lv lf):bI c f (lv++kv) (lf++kf):=by
 induction lf generalizing lv with
 |nil=>exact tc h b|cons q lf ih=>exact oZ h λa h=>.cons a (ih h)
theorem aR.zip(h:aR c f vs l)(ns:List Str):bI c f (ns.zip vs) (ns.zip l):=by
 induction l generalizing vs ns with
 |nil=>exact i0 h (by erw[agm];erw[agm];exact .nil)
 |cons p l ih=>
  refine eC h λa h=>?_;induction ns using bO with
  |nil=>exact .nil|cons n ns=>exact .cons a (ih h ns)
theorem acJ(h:bI c f kv kf)(g:bI c f lv lf)(e:yj names kf lf=some r):∃q,yj names kv lv=some q/\bI c f q r:=by
 induction kf generalizing kv lv lf with
 |nil=>exact tc h (by cases ay e;exact(az lv rfl g))
 |cons q kf ih=>
  refine aL e λh1 e=>fZ e λh2 e=>?_;revert h1 h2 e;obtain⟨y,p⟩:=q;exact oZ h λ{v us} a h h1 h2 e=>aB (ih h ((bI.cons (x:=y) a .nil).append g) e) λq k1 k2=>g.look y (λn _=>(az q ((iP h1).trans ((iN (by erw[n];exact dy)).trans k1)) k2)) λ_ _ _ n _=>absurd (by erw[n];rfl) h2
theorem aaX(h:bI c f kv kf)(g:bI c f lv lf):bI c f (sD kv lv) (sD kf lf):=by
 induction kf generalizing kv lv lf with
 |nil=>exact tc h g
 |cons q kf ih=>
  obtain⟨y,p⟩:=q;refine oZ h λ{v us} a h=>?_;show bI c f (sD us (if(lv.lookup y).isNone=true then lv++[(y,v)] else lv)) (sD kf (if(lf.lookup y).isNone=true then lf++[(y,p)] else lf));refine g.look y (λe1 e2=>?_) λ_ _ e1 e2 _=>?_
  ·erw[e1];erw[e2];exact ih h ((bI.cons a .nil).append g)
  ·erw[e1];erw[e2];exact ih h g
theorem Ψ(h:bI c f lv lf):bI c f (ns.filterMap λn=>(lv.lookup n).map (n,·)) (ns.filterMap λn=>(lf.lookup n).map (n,·)):=by
 induction ns with
 |nil=>exact .nil
 |cons n ns ih=>
  refine aa (Ch) (aa (Ch) (h.look n (λe1 e2=>?_) λ_ _ e1 e2 r=>?_))
  ·erw[e1];erw[e2];exact ih
  ·erw[e1];erw[e2];exact .cons r ih
theorem RQ(hd:aR c f ds es)(hv:aR c f vs l)(hk:bI c f kv kf)(h:kl names es l kf=some r):∃q,kl names ds vs kv=some q/\bI c f q r:=aj h λm h1 h2=>fZ h2 λc1 h3=>aL h3 λc2 h4=>by
 cases ay h4;refine aB (acJ hk (hv.zip names) h1) λq k1 k2=>?_;have e:(λn=>(q.lookup n).isNone)=λn=>(m.lookup n).isNone:=funext λn=>k2.look n (λe1 e2=>by erw[e1];erw[e2];rfl) λ_ _ e1 e2 _=>by erw[e1];erw[e2];rfl
 unfold kl;rw[k1,SD,hv.length,hd.length,(hd.drop _).length,iN c1,e,iP c2];exact(az _ rfl (Ψ (aaX ((hd.drop _).zip _) k2)))
end
section
variable{c:Cx}{F:Fm}{d:Nat}{sc:fk}{binds kv:List (Str×ac)}{vs:List PV}{ks fs:List (Str×PV)}{V:List ao}{ow:List Str}
def HS(sc:fk):Bool:=sc.kind==.function&& !sc.isCoroutine&& !sc.isGenerator&&sc.names.all λp=>ak sc.names p.1==some p.2&&(p.2==.local||p.2==.cell||p.2==.globalImplicit)
structure EW(sc:fk):Prop where
 kind:sc.kind=.function
 co:sc.isCoroutine=false
 free:∀x,ak sc.names x≠some .free
 one:∀x k,(x,k)∈sc.names->ak sc.names x=some k
theorem Da{sc:fk}(h:HS sc=true):EW sc/\sc.isGenerator=false:=by
 refine dU (aW h) λh3 h4=>?_;obtain⟨h2,h3⟩:=aW h3;exact dU (aW h2) λh1 h2=>⟨⟨a5 h1,tu _▸h2,λx m=>(ff ((aW (b7 h4 _ (gL m))).2)),λx k m=>a5 (aW (b7 h4 _ m)).1⟩,tu _▸h3⟩
structure Hb{c:Cx}(sc:fk)(binds:List (Str×ac))(x:Pt c)(F:Fm)(y:Pt c):Prop where
 nm:F.nm=sc.names
 W_:F.env.scope=sc
 fr:F.env.frame=some F.env.locals
 le:Le x y
 f:y.f=x.f
 gens:y.s.gens=x.s.gens
 kp:∀b o,x.s.heap.get? b=some o->y.s.heap.get? b=some o
 own:jK F y
 cR:∀z a,F.env.cells.lookup z=some a->∃v,y.s.heap.IsCell a v
 var:∀z v,(z,v)∈binds->dA F.env y.s.heap z v
 new:∀b,dq F.env b->x.s.heap.get? b=none
 only:∀z a,F.env.cells.lookup z=some a->ak sc.names z=some .cell
section
variable{x y:Pt c}{A:Am (d+1)}{z:Str}{v:ac}{b:ao}
theorem RK{ko:Str->Option gU}{m:Str->Option ac}(n:z∉binds.map (·.1)):KD ko binds m z=m z/\bindC ko binds m z=m z:=by
 induction binds generalizing m with
 |nil=>exact⟨rfl,rfl⟩
 |cons p r ih=>
  have n:=not_or.mp λq=>n (jO.mpr q);unfold KD bindC;by_cases q:ko p.1=some .local
  ·erw[iP q];erw[iP q];exact⟨(ih n.2).1.trans (iN n.1),(ih n.2).2⟩
  ·erw[iN q];erw[iN q];exact⟨(ih n.2).1,(ih n.2).2.trans (iN n.1)⟩
theorem Pb{ko:Str->Option gU}{m:Str->Option ac}(nd:(binds.map (·.1)).Nodup)(h:(z,v)∈binds):(ko z=some .local->KD ko binds m z=some v)/\(ko z=some .cell->bindC ko binds m z=some v):=by
 induction binds generalizing m with
 |nil=>exact mN h
 |cons p r ih=>
  have nd:=iW nd;unfold KD bindC;rcases bw h with h|h
  ·cases h;exact⟨λk=>by erw[iP k];exact(RK nd.1).1.trans (iP rfl),λk=>by erw[iN (by refine aa (k) ?_;exact nofun)];exact(RK nd.1).2.trans (iP rfl)⟩
  ·exact⟨(ih nd.2 h).1,(ih nd.2 h).2⟩
theorem Pt.top(x:Pt c)(h:x.s.heap.objs.size<=b):x.s.heap.get? b=none:=by
 cases q:x.s.heap.get? b with
 |none=>rfl|some o=>exact absurd (fB q) (gK h)
theorem Ih{M:f4}{A:bh}{E:ac->ag->Prop}{qual:Str}{fa:Option ao}{code:ac}{Q:Env->ag->Prop}(S:EW sc)(nd:(binds.map (·.1)).Nodup)(hk:∀q∈binds,ak sc.names q.1=some .local\/ak sc.names q.1=some .cell)(GC:pH sc.names=true->vz code=true)
(h:∀F y,Hb sc binds x F y->Q F.env y.s):ai M A (SQ sc mE [] binds qual fa code none uM) Q E x.s:=by
 have L:=laid sc.names (x.s.heap.push {cls:=.type "frame",data:=.dict #[]}) [] (λx c e=>nS e) (λx y c e=>nS e);rw[show(x.s.heap.push {cls:=.type "frame",data:=.dict #[]}).objs.size=x.s.heap.objs.size+1 from oA ..] at L;have own:∀z,ak sc.names z=some .cell->∃a,(Ck (x.s.heap.objs.size+1) sc.names []).lookup z=some a:=λz e=>(L.own z (gL e)).imp λ_=>And.left;have look:∀z,sc.names.lookup z=ak sc.names z:=λz=>H0;refine wpAny_newFunctionEnv_cells S.kind (λq m=>?_) λenv he s' i=>?_
 ·rw[look];exact(hk q m).imp id λe=>⟨e,tG.mpr (own _ e)⟩
 ·subst he;refine eJ i.done λhh tt bZ keep=>?_;subst bZ;have up:∀z a,(Ck (x.s.heap.objs.size+1) sc.names []).lookup z=some a->x.s.heap.objs.size<a:=λz a e=>i.above z a (mem_of_lookup e);have fr:∀a,x.s.heap.objs.size<=a->bW (x.grow hh tt keep) a:=λa l=>have f:=x.free l (x.top l);⟨f.f,f.h₀,f.hi⟩;refine h {
   env:=newEnv sc x.s.heap.objs.size mE (Ck (x.s.heap.objs.size+1) sc.names []) qual fa code none uM
   nm:=sc.names
   kind:=S.kind
   glob:=rfl
   blt:=rfl
   names:=λz e=>(look z).trans e
   cells:=λz e _=>e.elim (λe=>⟨.inl ((look z).trans e),tG.mpr (own z e)⟩) λe=>absurd e (S.free z)
   jf:=⟨x.ke (bf _),λz a e=>x.ke (cy (up z a e))⟩
   cl:=λz a e=>fO (up z a e)
   apart:=λz y a e1 e2=>name_of_addr i.apart (mem_of_lookup e1) (mem_of_lookup e2)
   code:=GC} (x.grow hh tt keep) ⟨rfl,rfl,rfl,x.cG keep,rfl,rfl,keep,⟨⟨_,i.toInCall.ns⟩,fr _ (bf _),λz e=>(look z).trans e,λz e=>?_⟩,λz a e=>⟨_,i.cell z a e⟩,λz v m=>?_,λb q=>?_,λz a e=>agh λn=>nS ((L.old z λm=>n (S.one z _ m)).symm.trans e)⟩
  ·obtain⟨a,e1⟩:=own z e;exact⟨(look z).trans e,a,e1,fr a (cy (up z a e1))⟩
  ·rcases hk (z,v) m with e|e
   ·exact .inl ⟨(look z).trans e,_,i.toInCall.ns,(Pb nd m).1 ((look z).trans e)⟩
   ·exact dJ (own z e) λa e1=>.inr ⟨.inl ((look z).trans e),a,e1,(Eq.mp (af (am.IsCell hh a) ((Pb nd m).2 ((look z).trans e))) (i.cell z a e1))⟩
  ·exact q.elim (λq=>q▸eQ _) λq=>q.elim λz e=>x.top (cy (up z b e))
end
structure aY where
 addr:ao
 st:aH
 qual:String
 dflt:ac
 pm:ac
 code:ac
 ds:List PV
 mu:List Str
noncomputable def aY.body(R:aY):List aH:=match R.st with
 |.FunctionDef _ _ body _ _ _ _ _ _ _=>body|_=>[]
noncomputable def aY.scope(R:aY):fk:=match R.st with
 |.FunctionDef _ _ _ _ _ _ scope _ _ _=>scope|_=>default
noncomputable def aY.names(R:aY):List Str:=match R.st with
 |.FunctionDef _ args _ _ _ _ _ _ _ _=>args.args.map (·.arg)|_=>[]
def MS(t:aH):Bool:=match t with
 |.FunctionDef _ args _ _ _ _ _ _ _ _=>AH args|_=>false
def aY.plain(R:aY):Bool:=MS R.st
def Q7(v:ac)(p:PV):Bool:=p.iV||match v with
 |.none=>p.xH.isSome|.bool b=>p.yD==some b|.int i _=>p.ed==some i|.str s _=>p.vZ==some s|_=>false
def IC:List ac->List PV->Bool
 |[],ps=>ps.isEmpty
 |v::vs,ps=>(match ps with
  |[]=>false|p::ps=>Q7 v p&&IC vs ps)
noncomputable def Nv(o:Obj):Option (Array ac):=match o.data with
 |.seq items _=>some items|_=>none
def MC(K:kq)(v:ac)(ds:List PV):Bool:=match v with
 |.none=>ds.isEmpty|.ref T=>((K.lookup T).bind Nv).any λl=>IC l.toList ds|_=>false
def Su(K:kq)(R:aY):Bool:=MC K R.dflt R.ds
def Md(K:kq)(R:aY):Bool:=HS R.scope&&(R.plain&&(codeIn K R.code (dw R.qual)&&((!pH R.scope.names||vz R.code)&&(Su K R&&(decide R.names.Nodup&&R.names.all λx=>ak R.scope.names x==some .local||ak R.scope.names x==some .cell)))))
noncomputable def lX(l:List (Str×PV)):ar:=l.map λq=>(q.1,.pv q.2)
noncomputable def ck(o:aZ):Option PV:=o.bind λr=>match r.1 with
 |.ret p=>some p|.next=>some .none|.exc=>none
noncomputable def fS.isExc:fS->Bool
 |.exc=>true|_=>false
section
variable(O:aK)(N:Nat)(R:aY)
def zW(l:ar):aZ:=a9 O N R.scope.names R.mu l R.body
def bm(vs:List PV)(ks:List (Str×PV)):Option PV:=(kl R.names R.ds vs ks).bind λl=>ck (zW O N R (lX l))
def NF(vs:List PV)(ks:List (Str×PV)):Bool:=((kl R.names R.ds vs ks).bind λl=>zW O N R (lX l)).any λr=>r.1.isExc
def xR(k:Nat)(fs:List (Str×PV))(ow:List Str)(vs:List PV)(ks:List (Str×PV)):Option (List (Str×PV)×List Str):=(kl R.names R.ds (.any::vs) ks).bind λl=>l.head?.bind λq=>
 (zW O N R ((q.1,.a6 k fs ow)::lX l.tail)).bind λr=>if r.1.hX=true then(ak r.2 q.1).bind λv=>v.lI.bind λi=>if i.1=k then some i.2 else none else none
end
structure jo(P:cD)(R:aY):Prop where
 at_:(KL P).lookup R.addr=some (ch R.st R.qual R.dflt R.pm R.code [] .none)
 sc:EW R.scope
 gen:R.scope.isGenerator=false
 plain:R.plain=true
 code:codeIn (KL P) R.code (dw R.qual)=true
 tab:pH R.scope.names=true->vz R.code=true
 df:Su (KL P) R=true
 nd:R.names.Nodup
 nk:∀x∈R.names,ak R.scope.names x=some .local\/ak R.scope.names x=some .cell
theorem Wf{P:cD}{R:aY}(h1:(KL P).lookup R.addr=some (ch R.st R.qual R.dflt R.pm R.code [] .none))(h2:Md (KL P) R=true):jo P R:=by
 refine dU (aW h2) λk1 k2=>dU (aW k2) λk2 k3=>dU (aW k3) λk3 k4=>?_;obtain⟨k4,k5⟩:=aW k4;exact dU (aW k5) λk5 k6=>dU (aW k6) λk6 k7=>⟨h1,(Da k1).1,(Da k1).2,k2,k3,λg=>by rw[g] at k4;exact k4,k5,cC k6,λx m=>(mq (b7 k7 x m)).imp a5 a5⟩
section
variable{x y:Pt c}{N k:Nat}{A:Am (d+1)}{O:aK}{z:Str}{v:ac}{b a:ao}{R:aY}{vals ds:List ac}{l:List (Str×PV)}{Q:mL->ag->Prop}{p:PV}{f:Fz}{σ:ar}{U:Str->List ao}{ow':List Str}{lv:List (Str×ac)}{lf:List (Str×PV)}
theorem g_(h:Q7 v p=true):aV c f v p:=by
 cases mq h with
 |inl h=>
  cases p with
  |any=>exact .any|_=>exact ff h
 |inr h=>induction v using Bj with
  |none=>exact(tG.mp h).elim λ_ e=>Bi e .none|bool b=>exact Ev (a5 h) .bool|int i t=>exact ej (a5 h) .int|str s t=>exact BD (a5 h) .str|_=>exact ff h
theorem Wb{vs:List ac}{ps:List PV}(h:IC vs ps=true):aR c f vs ps:=by
 induction vs generalizing ps with
 |nil=>exact jz h▸ .nil
 |cons v vs ih=>induction ps using bO with
  |nil=>exact ff h|cons p ps=>exact .cons (g_ (aW h).1) (ih (aW h).2)
theorem aaF{o:Obj}{l:Array ac}:Nv o=some l->∃n,o.data=.seq l n:=by
 obtain⟨cl,dt,d,sl⟩:=o;cases d with
 |seq items m=>exact λh=>ay h▸⟨m,rfl⟩|_=>exact nS
theorem afQ{ps:List PV}(x:Pt c):MC (KL c.w.params) v ps=true->∃o,bt ps x (o.getD #[]).toList/\DY x.s v o:=by
 induction v using Bj with
 |none=>exact λh=>⟨none,jz h▸ .nil,λ_ _ _ _ q=>au q⟩|ref T=>exact λh=>aB (q0 h) λl h1 h2=>aj h1 λo h3 h4=>(aaF h4).elim λ_ hd=>⟨some l,Wb h2,λM A E Q q=>wpAny_seqItems (x.cU _ _ h3) hd q⟩|_=>exact ff
theorem ND(ok:jo c.w.params R)(x:Pt c):∃o,bt R.ds x (o.getD #[]).toList/\DY x.s R.dflt o:=afQ x ok.df
noncomputable def OG:Flow->ac
 |.ret v=>v|_=>.none
theorem Ϯ{t:aH}:MS t=true->∃name args body dl rt tp scope ts bd pos,t=.FunctionDef name args body dl rt tp scope ts bd pos:=by
 induction t using R3 with
 |FunctionDef=>exact λ_=>⟨_,_,_,_,_,_,_,_,_,_,rfl⟩|_=>exact ff
theorem HJ(h:R.plain=true):∃name args body dl rt tp scope ts bd pos,R.st=.FunctionDef name args body dl rt tp scope ts bd pos:=Ϯ h
theorem On{o:Option (Array ac)}(ok:jo c.w.params R)(hdv:DY x.s R.dflt o)(hb:kl R.names (o.getD #[]).toList vals kv=some binds)
(h:∀F y,Hb R.scope binds x F y->ai (ah pw c.w) (A.deeper F.env).A (tz R.body F.env) (λfl s=>Q (.ok (.ret (OG fl))) s) (λv s=>ai (ah pw c.w) (A.deeper F.env).A (wT F.env v) (λ_ s=>Q (.error v) s) (λv s=>Q (.error v) s) s) y.s):
  eO (ah pw c.w) A.A (.call (.ref R.addr) ⟨vals,kv⟩) Q x.s:=by
 refine bE λgG hG=>dU (I6 hb ok.nd) λn1 n2=>?_;have ha:=x.cU _ _ ok.at_;have S:=ok.sc;have gn:=ok.gen;have cd:=codeRec_of x.cU ok.code;have pl:=ok.plain;have tb:=ok.tab;have nk:∀q∈binds,ak R.scope.names q.1=some .local\/ak R.scope.names q.1=some .cell:=λq m=>ok.nk _ (n2 _ (qZ (f:=(·.1)) m));clear ok n2;obtain⟨addr,st,qual,dflt,pm,code,LJ,mu⟩:=R;obtain⟨name,args,body,dl,rt,tp,scope,ts,bd,pos,rfl⟩:=HJ (R:=⟨addr,st,qual,dflt,pm,code,LJ,mu⟩) pl;refine hG ?_
 ·exact codeAny_call_function (o:=ch (.FunctionDef name args body dl rt tp scope ts bd pos) qual dflt pm code [] .none) (aQ (cW _ _) A.ok.depth) ha rfl S.co gn rfl cd (I3 (show AH args=true from pl) hdv rfl (show kl (args.args.map (·.arg)) _ vals kv=some binds from hb) _ _ _ _ (Ih S n1 nk tb λF y e=>⟨x.nolimit.keeps e.kp,codeAny_func (cQ (h F y e) (λfl _ z=>by cases fl<;>exact z) λ_ _ z=>z)⟩))
theorem IV(e:Hb sc binds x F y)(nd:(σ.map (·.1)).Nodup)(h:∀z av,ak σ z=some av->∃v,(z,v)∈binds/\je c x.f x.s.heap av v (U z))(fr:∀z,∀b∈U z,bW x b/\∃o,x.s.heap.get? b=some o)(dj:∀z q b,z≠q->b∈U z->b∉U q):∃P:St c F,P.x=y/\P.σ=σ/\∀b,WU P b->x.s.heap.get? b=none\/∃z,b∈U z:=
 ⟨{x:=y
   σ:=σ
   U:=U
   nd:=nd
   cR:=e.cR
   o:=e.own
   own:=λz v q=>by refine aB (h z v q) λu m a=>?_;exact(az u (e.var z u m) (a.mono (λb o _=>e.kp b o) e.le.sub))
   fresh:=λz v _ b m=>⟨(fr z b m).1.le e.le (fr z b m).2,λq=>(fr z b m).2.elim λo k=>nS ((e.new b q).symm.trans k)⟩
   dj:=λz q v u n _ _ b m=>dj z q b n m},rfl,rfl,λb q=>q.imp (λq=>e.new b (nW q)) λq=>q.elim λz q=>q.elim λ_ q=>⟨z,q.2⟩⟩
theorem MP:ak (lX l) z=(ak l z).map .pv:=G8
theorem Nf:(lX l).map (·.1)=l.map (·.1):=by unfold lX;erw[jt];rfl
theorem bI.find(r:bI c f lv lf)(h:ak lf z=some p):∃v,(z,v)∈lv/\aV c f v p:=by
 induction lf generalizing lv with
 |nil=>exact nS h
 |cons q lf ih=>
  revert h;obtain⟨w,q⟩:=q;exact oZ r λ{v us} a r h=>d9 h (λe h=>(az v (e▸ .head _) (ay h▸a))) λ_ h=>aB (ih r h) λv m a=>(az v (.tail _ m) a)
theorem MF(ok:jo c.w.params R)(h1:kl R.names R.ds vs ks=some l)(rv:bt vs x vals)(rk:bI c x.f kv ks)
(h:∀(F:Fm) (P:St c F),F.nm=R.scope.names->P.σ=lX l->F.env.frame=some F.env.locals->Le x P.x->(∀b,WU P b->x.s.heap.get? b=none)->
   ai (ah pw c.w) (A.deeper F.env).A (tz R.body F.env) (λfl s=>Q (.ok (.ret (OG fl))) s) (λv s=>ai (ah pw c.w) (A.deeper F.env).A (wT F.env v) (λ_ s=>Q (.error v) s) (λv s=>Q (.error v) s) s) P.x.s):
  eO (ah pw c.w) A.A (.call (.ref R.addr) ⟨vals,kv⟩) Q x.s:=by
 refine aB (ND ok x) λds d1 d2=>aB (RQ d1 rv rk h1) λbinds b1 b2=>On ok d2 b1 λF y e=>?_;obtain⟨P,rfl,e2,hW⟩:=IV (U:=λ_=>[]) e (σ:=lX l) (by erw[Nf];exact(I6 h1 ok.nd).1) (λz av q=>by
  rw[MP] at q;exact fF (m:=λav=> ∃v,(z,v)∈binds/\je c x.f x.s.heap av v []) q λp k=>by refine aB (b2.find k) λv m a=>?_;exact(cz v m a rfl)) (λz b m=>mN m) λ_ _ _ _ m=>mN m
 exact h F P e.nm e2 e.fr e.le λb q=>(hW b q).elim id λq=>q.elim λ_ m=>mN m
theorem abF{α:Type}{l:List α}{q:α}(h:l.head?=some q):l=q::l.tail:=by
 induction l using bO with
 |nil=>exact nS h|cons a l=>exact af (· ::l) (ay h)
theorem A'{z LK:Str}(m:b∈(if z=LK then V else[])):z=LK/\b∈V:=by
 by_cases q:z=LK
 ·rw[iP q] at m;exact⟨q,m⟩
 ·rw[iN q] at m;exact mN m
theorem aep{r:fS×ar}(h:r.1.hX=true):r=(.next,r.2):=by
 obtain⟨f,σ⟩:=r;cases f with
 |next=>rfl|_=>exact ff h
variable(S:∀n,Sd c d (aw O n))
include S
theorem G0{F:Fm}{P:St c F}{A:Am d}{r:fS×ar}(h:zW O N R σ=some r)(e1:F.nm=R.scope.names)(e2:P.σ=σ):Ex A P (tz R.body F.env) r:=vO (mu:=R.mu) (S N) (aa (e1) (aa (e2) (h)))
theorem Hl(ok:jo c.w.params R)(h:bm O N R vs ks=some p)(rv:bt vs x vals)(rk:bI c x.f kv ks)(K:∀y v,Le x y->Rd p y v->Q (.ok (.ret v)) y.s):eO (ah pw c.w) A.A (.call (.ref R.addr) ⟨vals,kv⟩) Q x.s:=
 aj h λl h1 h2=>aj h2 λr hr h3=>MF ok h1 rv rk λF P e1 e2 _ le hW=>G0 S hr e1 e2 [] _ _ (by
  obtain⟨fl,σ⟩:=r;cases fl with
  |next=>
   refine bE λgG hG=>?_;obtain rfl:=ay h3;exact hG (λQ' a _=>K Q'.x .none (br.le (cH.trans le.st a.st) hW) .none)
  |ret p=>
   obtain rfl:=ay h3;exact λy v l r=>K y v (br.le (cH.trans le.st l) hW) r
  |exc=>exact nS h3)
theorem xZ(ok:jo c.w.params R)(h:bm O N R vs ks=some p)(rv:bt vs x vals)(rk:bI c x.f kv ks):aE A (bC (.ref R.addr) vals kv) x (Rd p):=λQ E K=>q8 (Hl S ok h rv rk λy v l r=>K v y l r)
theorem aaq{E:ac->ag->Prop}{Q:ac->ag->Prop}{l:List Env}(ok:jo c.w.params R)(h:NF O N R vs ks=true)(rv:bt vs x vals)(rk:bI c x.f kv ks)(hl:A.A.frames=some l)(hi:nF c.h₀ x.s.heap (λ_=>False) l)
(K:∀v s' B e,jn l (λ_=>False) x.s v s' B e->E v s'):ai (ah pw c.w) A.A (bC (.ref R.addr) vals kv) Q E x.s:=by
 refine aB (q0 h) λr h1 h2=>?_;obtain⟨fl,σ⟩:=r;cases fl with
 |exc=>exact q8 (aj h1 λb h1 hr=>MF ok h1 rv rk λF P e1 e2 fr le hW=>G0 S hr e1 e2 l _ _ ⟨⟨bh.frames_deeper hl,fr,hi.step le.e.ny λb q=>.inr (hW b q)⟩,λv s' y=>cQ y (λ_ s3 z=>by refine jU z λB e z=>?_;exact K v s3 B e (z.pre le.e.ny λb q=>.inr (hW b q))) λ_ _ z=>z.elim⟩)|_=>exact ff h2
theorem ϫ{m:List (Str×PV)}{p₀:PV}(ok:jo c.w.params R)(h1:kl R.names R.ds (.any::vs) ks=some ((z,p₀)::m))(h5:zW O N R ((z,.a6 k fs ow)::lX m)=some (.next,σ))(h8:ak σ z=some (.a6 k lf ow'))(sl:oP c x.f x.s.heap k fs ow a V)(fr:∀b∈V,bW x b)(rv:bt vs x vals)(rk:bI c x.f kv ks)
(K:∀y V',cH (· ∈V) x y->oP c y.f y.s.heap k lf ow' a V'->(∀b∈V',b∈V\/x.s.heap.get? b=none)->(∀b∈V',bW y b)->Q (.ok (.ret .none)) y.s):eO (ah pw c.w) A.A (.call (.ref R.addr) ⟨.ref a::vals,kv⟩) Q x.s:=
 aB (ND ok x) λo d1 d2=>aB (RQ d1 (.cons (v:=.ref a) (p:=.any) .any rv) rk h1) λbinds b1 b2=>
 aB (oZ (m:=λl=>kl R.names (o.getD #[]).toList (.ref a::vals) kv=some l->∃bs,l=(z,.ref a)::bs/\bI c x.f bs m) b2 (λ{_ us} _ r e=>⟨us,af (λv=>(z,v)::us) (abC e),r⟩) b1:∃bs,binds=(z,.ref a)::bs/\bI c x.f bs m) λbs eb b3=>
 On ok d2 (b1.trans (af some eb)) λF y e=>by
  obtain⟨P,rfl,e2,hW⟩:=IV (U:=λq=>if q=z then V else[]) e (σ:=(z,.a6 k fs ow)::lX m) (by erw[oB];erw[Nf];exact(I6 h1 ok.nd).1) (λq av h=>d9 h (λe h=>by
    obtain rfl:=ay h;exact⟨.ref a,e▸ .head _,a,rfl,(iP e.symm).symm▸sl⟩) λn h=>by
    rw[MP] at h;refine aB (tE.mp h) λp k1 bZ=>?_;subst bZ;exact aB (b3.find k1) λv m1 r=>(cz v (.tail _ m1) r (iN λe=>n e.symm))) (λq b m=>⟨fr b (A' m).2,je.there (v:=.a6 k fs ow) (u:=.ref a) (az a rfl sl) b (A' m).2⟩) λq q' b n m m'=>n ((A' m).1.trans (A' m').1.symm)
  have hW:∀b,WU P b->b∈V\/x.s.heap.get? b=none:=λb q=>(hW b q).symm.imp (λq=>q.elim λz m=>(A' m).2) id;exact G0 S h5 e.nm e2 [] _ _ λQ' r e3=>by
   have hf:ak Q'.σ z=some (.a6 k lf ow'):=e3▸h8;obtain⟨u,Va,a',rfl,ua⟩:=Q'.own z _ hf;cases(r.a6 z k fs ow a (e2▸iP rfl) (e.var z _ (.head _))).2.v5 Va;have lg:cH (λb=>b∈V\/x.s.heap.get? b=none) x Q'.x:=cH.trans e.le.st (r.st.weaken hW);exact K Q'.x (Q'.U z) (lg.shrink λb q=>q) ua (λb m=>(r.wu b (.inr (de z _ hf m))).elim (hW b) λn=>.inr (e.le.e.back (cK (Q'.fresh z _ hf b m).1.hi) n)) λb m=>(Q'.fresh z _ hf b m).1
theorem Pc{i:List (Str×PV)×List Str}(ok:jo c.w.params R)(h:xR O N R k fs ow vs ks=some i)(sl:oP c x.f x.s.heap k fs ow a V)(fr:∀b∈V,bW x b)(rv:bt vs x vals)(rk:bI c x.f kv ks)
(K:∀y V',cH (· ∈V) x y->oP c y.f y.s.heap k i.1 i.2 a V'->(∀b∈V',b∈V\/x.s.heap.get? b=none)->(∀b∈V',bW y b)->Q (.ok (.ret .none)) y.s):eO (ah pw c.w) A.A (.call (.ref R.addr) ⟨.ref a::vals,kv⟩) Q x.s:=
 bE λgG hG=>aj h λl h1 h2=>aj h2 λq h3 h4=>aj h4 λr h5 h6=>aL h6 λhn h7=>aj h7 λv h8 h9=>aj h9 λi' CQ CR=>aL CR λhc CS=>
  hG (ϫ S (z:=q.1) (p₀:=q.2) (σ:=r.2) ok (h1.trans (af some (abF h3))) (h5.trans (af some (aep hn))) (h8.trans (by rw[lI CQ,hc,ay CS])) sl fr rv rk K)
end
section
set_option tactic.hygienic true
variable{w:cO}{A:bh}{s s':ag}{K:kq}{x C g:ao}{ox:Obj}{od:Option Obj}{E:ac->ag->Prop}
noncomputable def yg(K:kq)(C:ao)(nm:String)(tb:ac):Bool:=tb==.ref C||match tb with
 |.type T=>subIn K tb (.ref C)==some false&&(((fN K tb (FN nm)).any λfo=>(fN K tb (dunderR nm)).any λro=>(fo.isSome&& !isSeqSlot fo)||(ro.isSome&& !isSeqSlot ro))&&(fN K (.ref C) (dunderR nm)).any λrc=>rc.all λv=>match v with
  |.ref _=>true|_=>false)
 |_=>false
theorem OD{nm:String}{b tb:ac}{Q:ac->ag->Prop}(X:K.In s.heap)(I:InstAt s.heap x ox C od)(hb:iG (ah pw w) s.heap (tx b) tb)(hr:yg K C nm tb=true)(hc:KE K C=true)(hs:fN K (.ref C) (FN nm)=some (some (.ref g)))(hf:ou K (.ref g)=true)
(h:ai (ah pw w) A (bC (.ref g) [.ref x,b]) (FO Q) E s):ai (ah pw w) A (binaryOp1 nm (.ref x) b) (λr s'=> ∃v,r=some v/\Q v s') E s:=by
 refine eJ (ksp_first hc) λcd rest xf hm=>?_;have one:=ksp_try X I hs hf h;have L3:iG (ah pw w) s.heap (fillsNumberSlot (.ref C) nm) true:=fills_K X xf hm hs;refine ae (I.type.here (ae (hb.here (ae (L3.here ?_)))));by_cases e:(pO C==tb)=true
 ·exact aa (iP e) (ae (au (ae (au (ae (m:=tryMethod (.ref x) _ b) (cQ one (λr s' z=>by
   refine aB z λv bY hq=>?_;subst bY;exact au (az v rfl hq)) λ_ _ e=>e))))))
 ·erw[iN e];cases mq hr with
  |inl q=>exact absurd (by erw[a5 q];exact beq_self_eq_true _) e
  |inr hr=>cases tb with
   |type T=>
    refine bE λgG hG=>?_;have hr:=aW hr;have h2:=aW hr.2;refine aB (q0 h2.1) λfo h3 h4=>aB (q0 h4) λro h5 h6=>aB (q0 h2.2) λrc h7 h8=>?_;have L4:iG (ah pw w) s.heap (fillsNumberSlot (.type T) nm) true:=h6▸ksp_fillsT X h3 h5;have L5:iG (ah pw w) s.heap (isSubtype (.type T) (.ref C)) false:=looks_subIn X (a5 hr.1);have L6:iG (ah pw w) s.heap (numberSlotInPython (.ref C) nm) true:=ksp_inPy X hs h7 (by
     induction rc using qa with
     |none=>exact .inl rfl
     |some v=>induction v using Bj with
      |ref g=>exact .inr ⟨g,rfl⟩|_=>exact ff h8)
    refine hG (ae (L4.here (ae (L5.here (ae (L6.here (ae (au (ae ((y7 X h5).here (ae (m:=tryMethod (.ref x) _ b) (cQ one (λr s' z=>?_) λ_ _ e=>e))))))))))));refine aB z λv bY hq=>?_;subst bY;exact au (az v rfl hq)
   |_=>exact ff hr
theorem afv{op:ia}{b tb:ac}{Q:ac->ag->Prop}(X:K.In s.heap)(I:InstAt s.heap x ox C od)(hb:iG (ah pw w) s.heap (tx b) tb)(hr:yg K C op.info.2 tb=true)(hc:KE K C=true)(hs:fN K (.ref C) (FN op.info.2)=some (some (.ref g)))(hf:ou K (.ref g)=true)
(h:ai (ah pw w) A (bC (.ref g) [.ref x,b]) (FO Q) E s):ai (ah pw w) A (mI op (.ref x) b) Q E s:=by
 have one:=OD X I hb hr hc hs hf h;refine dO (ae (cQ one (λr s' z=>?_) λ_ _ e=>e));refine aB z λv bY hq=>?_;subst bY;exact au hq
noncomputable def R6(K:kq)(C:ao)(nm:String):Bool:=(clsIn K C).any λcd=>cd.mro==[.ref C,.type "object"]&&fN K (.ref C) (dunderI nm)==some none&&fN K (.type "object") (dunderI nm)==some none
theorem abB{op:ia}{b tb:ac}{Q:ac->ag->Prop}(X:K.In s.heap)(I:InstAt s.heap x ox C od)(hb:iG (ah pw w) s.heap (tx b) tb)(hr:yg K C op.info.2 tb=true)(hc:KE K C=true)(hs:fN K (.ref C) (FN op.info.2)=some (some (.ref g)))(hf:ou K (.ref g)=true)(hi:R6 K C op.info.2=true)
(h:ai (ah pw w) A (bC (.ref g) [.ref x,b]) (FO Q) E s):ai (ah pw w) A (Kw op (.ref x) b) Q E s:=by
 have one:=OD X I hb hr hc hs hf h;refine aB (q0 hi) λcd xf hm=>?_;simp only[mK,beq_iff_eq] at hm;obtain⟨⟨m1,m2⟩,m3⟩:=hm;have L1:iG (ah pw w) s.heap (tx (.ref x)) (.ref C):=I.type;have Lm:iG (ah pw w) s.heap (mroOf (.ref C)) cd.mro:=(looks_clsIn X xf).andThen (f:=λcd=>pure cd.mro) .now;have L2:iG (ah pw w) s.heap (typeLookup (.ref C) (dunderI op.info.2)) none:=y7 X m2;have L3:iG (ah pw w) s.heap (typeLookup (.type "object") (dunderI op.info.2)) none:=y7 X m3;refine dO (ae (L1.here ?_));have fin:ai (ah pw w) A (fillsInplaceSlot (.ref C) op.info.2 (op==.Add)) (λr s'=>r=false/\s'=s) E s:=ae (Lm.here (aa (m1) (aa (List.anyM_cons) (ae (ae (L2.here (au (aa (List.anyM_cons) (ae (ae (L3.here (au (au ⟨rfl,rfl⟩)))))))))))));refine ae (cQ fin (λr s' z=>?_) λ_ _ e=>e);obtain⟨rfl,rfl⟩:=z;refine ae (cQ one (λr s' z=>?_) λ_ _ e=>e);refine aB z λv bY hq=>?_;subst bY;exact au hq
theorem Xa{op:iF}{b tb:ac}{Q:ac->ag->Prop}(hu:A.units<tq)(X:K.In s.heap)(I:InstAt s.heap x ox C od)(hb:iG (ah pw w) s.heap (tx b) tb)(hn:notFirst K C tb=true)(hs:fN K (.ref C) (cmpInfo op).2.1=some (some (.ref g)))(hf:ou K (.ref g)=true)
(h:ai (ah pw w) A (bC (.ref g) [.ref x,b]) (FO Q) E s):ai (ah pw w) A (FP op (.ref x) b) Q E s:=by
 have one:ai (ah pw w) A (tryCompare (.ref x) (cmpInfo op).2.1 b) (λr s'=> ∃v,r=some v/\Q v s') E s:=by
  unfold tryCompare;refine ae (ifBound_K X I hs hf (cQ h (λv s' hv=>?_) λ_ _ e=>e));cases v<;>first|exact hv.elim|exact au (az _ rfl hv)
 unfold FP;simp only[oneThing_ref];refine dO (ae (SZ hu (ae (I.type.here (ae (hb.here ?_))))));have go:∀{α:Type} {k:Option ac->Sem α} {R:α->ag->Prop},(∀v s',Q v s'->ai (ah pw w) A (k (some v)) R E s')->ai (ah pw w) A (tryCompare (.ref x) (cmpInfo op).2.1 b>>=k) R E s:=λ{α k R} hk=>
  ae (cQ one (λr s' z=>by refine aB z λv bY hq=>?_;subst bY;exact hk v s' hq) λ_ _ e=>e)
 split
 ·rename_i q;have e:subIn K tb (.ref C)=some false:=by
   rcases mq hn with e|e
   ·rw[a5 e] at q;simp at q
   ·exact a5 e
  exact ae ((looks_subIn X e).here (go λv s' hq=>au hq))
 ·refine ae (au ?_);simp only[yW,if_false];exact go λv s' hq=>au hq
theorem abn{Q:ac->ag->Prop}(X:K.In s.heap)(I:InstAt s.heap x ox C od)(hs:fN K (.ref C) "__len__"=some (some (.ref g)))(hf:ou K (.ref g)=true)
(h:ai (ah pw w) A.in1 (bC (.ref g) [.ref x]) (λv s'=> ∃n t,v=.int n t/\0<=n/\n<2^63/\Q (.int n s'.toks) {s' with toks:=s'.toks+1}) E s):ai (ah pw w) A (bC (.builtin "len") [.ref x]) Q E s:=by
 refine agn kind_len plain_len entry_len (args_len1 _) (ae (m:=oneArg "len" _) (au (ae (m:=callSpecial? (.ref x) (dw "__len__")) (special_fn X I hs (a5 hf) (cQ h (λr s' hr=>?_) λ_ _ y=>y)))));refine EP hr λn u bZ h0 h1 hq=>?_;subst bZ;exact ae (dO (au (ae (wU (aa (iN (by lia)) (aa (iN (by lia)) (ae (wpAny_mkInt (au (az _ rfl hq))))))))))
theorem Ym{name:Str}{p fget:ao}{rest:List ac}{od:Obj}{Q:ac->ag->Prop}(X:K.In s.heap)(I:InstAt s.heap x ox C (some od))(hg:Cd K C name=true)(hh:FC K C=true)
(ha:fN K (.ref C) name=some (some (.ref p)))(hn:Kq K (.ref p) "__get__"=some (some (.builtin "property.__get__")))(ht:takesIn K (.ref p)=some true)(hp:recIn K p "property"=some (.ref fget::rest))
(h:eO (ah pw w) A.in1 (.call (.ref fget) ⟨[.ref x],[]⟩) (λr s'=>match r with|.ok (.ret v)=>handedIn v=true/\Q v s'|_=>False) {s with toks:=s.toks+1}):
  ai (ah pw w) A (uP (.ref x) name true) Q No s:=by
 refine get_bind X I (uQ hg).1 (findObj_data (by refine aB (q0 hh) λcd hc _=>?_;erw[hc];rfl) ha hn ht) (uQ hg).2 (q8 (prop_get (s:={s with toks:=s.toks+1}) X hp (FQ h λr s' z=>?_)));rcases r with e|(v|_|_|_)<;>first|exact z.elim|skip
 rename_i v;have z:handedIn v=true/\Q v s':=z;show ai (ah pw w) A (handedOut v) Q No s';exact(handedOut_of z.1).symm▸(au z.2)
theorem Vm{og:Obj}{fd:FuncData}{vals:List ac}{Q:mL->ag->Prop}(X:K.In s.heap)(I:InstAt s.heap x ox C od)(hox:ox.data=.plain)(hs:fN K (.ref C) "__call__"=some (some (.ref g)))(hf:ou K (.ref g)=true)(ho:K.lookup g=some og)(hd:og.data=.func fd)
(h:eO (ah pw w) A (.call (.ref g) ⟨.ref x::vals,[]⟩) Q s):eO (ah pw w) A (.call (.ref x) ⟨vals,[]⟩) Q s:=by
 exact FG (ae (FE I.at_ (hox.symm▸(ae (ae (I.type.here ((y7 X hs).here (ae ((bind_fn X _ (a5 hf)).here (ae (ae (FE (X _ _ ho) (hd.symm▸(au (au ⟨rfl,h⟩)))))))))))))))
end
structure IA(P:cD)(C:Nat)(R:aY):Prop where
 fn:jo P R
 makes:makesIn (KL P) C=true
 init:fN (KL P) (.ref C) "__init__"=some (some (.ref R.addr))
 YY:typeIn (KL P) (.ref R.addr)=some (.type "function")
section
variable{x y:Pt c}{N C:Nat}{A:Am (d+2)}{O:aK}{v:ac}{a:ao}{R:aY}{vals:List ac}{i:List (Str×PV)×List Str}
noncomputable def Am.afL(A:Am (d+2)):Am (d+1):=⟨A.A.under (.builtin "type.__call__" ⟨.ref C::vals,kv⟩),A.ok.to A.ok.handled (pC (show 1<=4 by decide)) (pC (show 1<=40 by decide))⟩
theorem Pt.ui{o:Obj}{t:Nat}(hf:o.isFreed=false):bW (x.push o t) x.s.heap.objs.size/\(x.push o t).s.heap.get? x.s.heap.objs.size=some o:=by
 have f:=x.free (bf _) (eQ _);exact⟨⟨f.f,f.h₀,f.hi⟩,ft _ hf⟩
variable(S:∀n,Sd c d (aw O n))
include S
theorem NW{K:ac->ag->Prop}{E:ac->ag->Prop}(ok:IA c.w.params C R)(h:xR O N R C [] [] vs ks=some i)(rv:bt vs x vals)(rk:bI c x.f kv ks)
(k:∀y a V,Le x y->oP c y.f y.s.heap C i.1 i.2 a V->(∀b∈V,bW y b/\x.s.heap.get? b=none)->K (.ref a) y.s):ai (ah pw c.w) A.A (bC (.ref C) vals kv) K E x.s:=by
 have p1:=x.ui (o:=y8) (t:=x.s.toks) rfl;have p2:=(x.push y8 x.s.toks).ui (o:=instObj C x.s.heap.objs.size) (t:=x.s.toks) rfl;have le:Le x ((x.push y8 x.s.toks).push (instObj C x.s.heap.objs.size) x.s.toks):=(x.cG _).trans (Pt.cG _ _);have f1:=p1.1.le (Pt.cG (t:=x.s.toks) (x.push y8 x.s.toks) λ_ _=>c5 (instObj C x.s.heap.objs.size)) ⟨_,p1.2⟩;have e1:=c5 (instObj C x.s.heap.objs.size) p1.2;have sz:(x.s.heap.push y8).objs.size=x.s.heap.objs.size+1:=oA ..;have n2:x.s.heap.get? (x.s.heap.objs.size+1)=none:=x.top (iH _);have hV:∀b∈[x.s.heap.objs.size+1,x.s.heap.objs.size],x.s.heap.get? b=none:=λb m=>(bw m).elim (λe=>e▸n2) λm=>cY m▸eQ _;refine q8 (make_core (makes_of x.cU ok.makes) (y7 x.cU ok.init) (λself=>bind_fn x.cU self ok.YY) (.inl rfl) ?_);rw[show(x.push y8 x.s.toks).s.heap.objs.size=x.s.heap.objs.size+1 from sz] at p2;refine FQ (Pc (A:=A.afL) (x:=(x.push y8 x.s.toks).push (instObj C x.s.heap.objs.size) x.s.toks) (V:=[x.s.heap.objs.size+1,x.s.heap.objs.size]) (Q:=λr s'=>r=.ok (.ret .none)/\K (.ref (x.s.heap.objs.size+1)) s') S ok.fn h ⟨_,[],0,[],[],p2.2,e1,rfl,⟨rfl,rfl⟩,rfl,by simp,wS⟩
  (λb m=>(bw m).elim (λe=>e▸p2.1) λm=>cY m▸f1) (rv.mono le.sub) (rk.mono le.sub) λy V' l sl mV fr=>⟨rfl,k y _ V' (br.le (cH.trans le.st l) hV) sl λb m=>⟨fr b m,(mV b m).elim (hV b) λn=>le.e.back (cK (fr b m).hi) n⟩⟩) λr s' z=>by
  obtain⟨rfl,z⟩:=z;exact⟨rfl,z⟩
omit S in
theorem U1(le:Le x y)(sl:oP c y.f y.s.heap C fs ow a V)(hV:∀b∈V,bW y b/\x.s.heap.get? b=none):∃w:Pt c,Le x w/\w.s=y.s/\Rd (.inst C fs) w (.ref a):=by
 classical
 have sub:Sub y.f (λb=>if b∈V then y.s.heap.get? b else y.f b):=λb o e=>(iN λm=>nS ((hV b m).1.f.symm.trans e)).trans e;exact(cz ⟨y.s,λb=>if b∈V then y.s.heap.get? b else y.f b,y.keep,y.tab,λa o e=>sub a o (y.K a o e),λa o e=>d9 e (λm _=>cK (hV a m).1.hi) λ_=>y.nt a o,λa o e=>d9 e (λ_ e=>e) λ_=>y.hs a o⟩ ⟨le.e,λa o e=>sub a o (le.sub a o e),λa o e=>d9 e (λm _=>.inr (hV a m).2) λ_=>le.new a o⟩ rfl (Jy (v:=.a6 C fs ow) (az a rfl sl) sub λ_ b o m e=>(iP m).trans e))
theorem aaL(ok:IA c.w.params C R)(h:xR O N R C [] [] vs ks=some i)(rv:bt vs x vals)(rk:bI c x.f kv ks):aE A (bC (.ref C) vals kv) x (Rd (.inst C i.1)):=λQ E K=>NW S ok h rv rk λy a V le sl hV=>cP (U1 le sl hV) λw l e r=>e▸K _ w l r
end
end
def vY:aY:=⟨30,cm 2,"CandidateSet",(.ref 23),m1,(.ref 29),[.any,.none],[]⟩
def B1:aY:=⟨37,cm 3,"sorted_committees",.none,m1,(.ref 36),[],[]⟩
def qU:aY:=⟨45,cm 4,"str_set_of_candidates",(.ref 38),m1,(.ref 44),[.none],[]⟩
def IN:aY:=⟨50,cm 5,"combinations",.none,m1,(.ref 49),[],[]⟩
def nO:aY:=⟨65,c8 6 0,"Fraction.__init__",(.ref 58),m1,(.ref 64),[.int 0,.int 1],[]⟩
def Ab:aY:=⟨107,c8 6 6,"Fraction.__add__",.none,m1,(.ref 106),[],[]⟩
def J0:aY:=⟨135,c8 6 10,"Fraction.__mul__",.none,m1,(.ref 134),[],[]⟩
def JZ:aY:=⟨163,c8 6 14,"Fraction.__eq__",.none,m1,(.ref 162),[],[]⟩
def Jz:aY:=⟨170,c8 6 15,"Fraction.__lt__",.none,m1,(.ref 169),[],[]⟩
def A5:aY:=⟨184,c8 6 17,"Fraction.__gt__",.none,m1,(.ref 183),[],[]⟩
def IT:aY:=⟨191,c8 6 18,"Fraction.__ge__",.none,m1,(.ref 190),[],[]⟩
def Ae:aY:=⟨205,cm 7,"total",.none,m1,(.ref 204),[],[]⟩
def b_:aY:=⟨242,c8 10 0,"MarginalScoreFct.__init__",(.ref 235),m3,(.ref 241),[.none],[]⟩
def ϝ:aY:=⟨249,c8 10 1,"MarginalScoreFct.__call__",.none,m3,(.ref 248),[],[]⟩
def XR:aY:=⟨264,cm 11,"get_marginal_scorefct",(.ref 257),m3,(.ref 263),[.none],[]⟩
def qM:aY:=⟨271,cm 12,"thiele_score",.none,m3,(.ref 270),[],[]⟩
def ac5:aY:=⟨285,cm 14,"pav_score_fct",.none,m3,(.ref 284),[],[]⟩
def afB:aY:=⟨292,cm 15,"adams_score_fct",.none,m3,(.ref 291),[],[]⟩
def af':aY:=⟨299,cm 16,"slav_score_fct",.none,m3,(.ref 298),[],[]⟩
def af9:aY:=⟨313,cm 18,"cc_score_fct",.none,m3,(.ref 312),[],[]⟩
def zM:aY:=⟨327,cm 20,"marginal_thiele_scores_add",.none,m3,(.ref 326),[],["marginal"]⟩
def aap:aY:=⟨344,c8 23 3,"Rule.__init__",.none,m2,(.ref 343),[],[]⟩
def X3:aY:=⟨351,c8 23 4,"Rule.fastest_available_algorithm",.none,m2,(.ref 350),[],[]⟩
def v6:aY:=⟨359,c8 23 5,"Rule.verify_compute_parameters",(.ref 352),m2,(.ref 358),[.none],[]⟩
def AO:aY:=⟨441,cm 28,"compute_thiele_method",(.ref 434),m2,(.ref 440),[.str "fastest",.bool false,.none,.bool false],[]⟩
def AN:aY:=⟨449,cm 29,"_thiele_methods_bruteforce",(.ref 442),m2,(.ref 448),[.none],["opt_committees"]⟩
def As:aY:=⟨457,cm 30,"_thiele_methods_branchandbound",(.ref 450),m2,(.ref 456),[.none],["best_committees","part_coms"]⟩
def B2:aY:=⟨465,cm 31,"compute_pav",(.ref 458),m2,(.ref 464),[.str "fastest",.bool false,.none,.bool false],[]⟩
def BG:aY:=⟨473,cm 32,"compute_slav",(.ref 466),m2,(.ref 472),[.str "fastest",.bool false,.none,.bool false],[]⟩
def Aq:aY:=⟨478,cm 33,"_adams_bruteforce",.none,m2,(.ref 477),[],["best_committees","final_committees"]⟩
def B0:aY:=⟨486,cm 34,"compute_adams",(.ref 479),m2,(.ref 485),[.str "fastest",.bool false,.none],[]⟩
def Ag:aY:=⟨491,cm 35,"_seq_thiele_resolute",.none,m2,(.ref 490),[],["committee"]⟩
def Mk:aY:=⟨504,c8 37 0,"Profile.__init__",(.ref 499),m4,(.ref 503),[.none],[]⟩
def IJ:aY:=⟨511,c8 37 1,"Profile.num_cand",.none,m4,(.ref 510),[],[]⟩
def DH:aY:=⟨526,c8 37 3,"Profile.__len__",.none,m4,(.ref 525),[],[]⟩
def zJ:aY:=⟨533,c8 37 4,"Profile._unique_voter",.none,m4,(.ref 532),[],[]⟩
def vU:aY:=⟨540,c8 37 5,"Profile.add_voter",.none,m4,(.ref 539),[],[]⟩
def sg:aY:=⟨632,c8 38 0,"Voter.__init__",(.ref 625),m4,(.ref 631),[.int 1,.none],[]⟩
def JU:aY:=⟨675,cm 41,"compute",(.ref 668),m5,(.ref 674),[.none,.bool true],[]⟩
def YB:aY:=⟨682,cm 42,"apply_threshold",.none,m5,(.ref 681),[],[]⟩
def xQ:aY:=⟨694,cm 44,"divisor",(.ref 689),m5,(.ref 693),[.bool true],["representatives"]⟩
def Aj:aY:=⟨723,cm 49,"_law_shared",.none,(st "law_jm0010_01" 1119),(.ref 722),[],["given"]⟩
def A1:List (Str×aY):=[("CandidateSet",vY),("sorted_committees",B1),("str_set_of_candidates",qU),("combinations",IN),("total",Ae),("get_marginal_scorefct",XR),
 ("thiele_score",qM),("pav_score_fct",ac5),("adams_score_fct",afB),("slav_score_fct",af'),("cc_score_fct",af9),("marginal_thiele_scores_add",zM),
 ("compute_thiele_method",AO),("_thiele_methods_bruteforce",AN),("_thiele_methods_branchandbound",As),("compute_pav",B2),("compute_slav",BG),
 ("_adams_bruteforce",Aq),("compute_adams",B0),("_seq_thiele_resolute",Ag),("compute",JU),("apply_threshold",YB),("divisor",xQ),("_law_shared",Aj)]
def MV:List (Str×Nat×aY):=[("Fraction",dk,nO),("MarginalScoreFct",ql,b_),("Rule",cL,aap),("Voter",iw,sg)]
def Dq:List (Str×Nat×aY):=("Profile",bv,Mk)::MV
def OV:List ((Nat×Str)×aY):=[((ql,"__call__"),ϝ),((cL,"fastest_available_algorithm"),X3),((cL,"verify_compute_parameters"),v6),((bv,"_unique_voter"),zJ)]
def DC:List ((Nat×Str)×aY):=((bv,"add_voter"),vU)::OV
def EV:List (ia×aY):=[(.Add,Ab),(.Mult,J0)]
def wb:List (iF×aY):=[(.Eq,JZ),(.Lt,Jz),(.Gt,A5),(.GtE,IT)]
def DG:List aY:=[DH,IJ]++(A1.map (·.2)++(Dq.map (·.2.2)++(DC.map (·.2)++(EV.map (·.2)++wb.map (·.2)))))
def Dh:PV->Bool:=PA.on {d:=false,pz:=λ_=>(true),i9:=λc _=>(c==dk)}
def PV.D4:PV->Option (Nat×List (Str×PV)):=PA.on {d:=aP,i9:=λc fs=>(some (c,fs))}
def Db(p:PV):Option PV:=if p.iV=true then none else some p
def next(N:Nat)(O:aK):aK where
 fn z vs ks:=qc (A1.lookup z) (λR=>bm O N R vs ks)<|qc (MV.lookup z) (λq=>(xR O N q.2 q.1 [] [] vs ks).map λr=>.inst q.1 r.1)<|
  if z=("len":Str)/\ks.isEmpty=true then(o6 vs).bind λv=>v.D4.bind λi=>if i.1=bv then(bm O N DH [v] []).bind λp=>p.ed.bind λj=>if 0<=j/\j<2^63 then some (.int j) else none else none else none
 bM k m vs ks:=(OV.lookup (k,m)).bind λR=>bm O N R vs ks
 attr k z v:=if k=bv/\z=("num_cand":Str) then(bm O N IJ [v] []).bind Db else none
 bin op a b:=a.D4.bind λi=>if i.1=dk/\Dh b=true then(EV.lookup op).bind λR=>(bm O N R [a,b] []).bind Db else none
 cmp op a b:=a.D4.bind λi=>if i.1=dk/\Dh b=true then(wb.lookup op).bind λR=>(bm O N R [a,b] []).bind PV.yD else none
 make C vs ks:=if C=("Profile":Str) then(xR O N Mk bv [] [] vs ks).map λr=>(bv,r.1,r.2) else none
 mh k fs ow m vs:=if k=bv/\m=("add_voter":Str)/\(ak fs m).isNone=true then(xR O N vU bv fs ow vs []).bind λr=>if r.2=ow then some r.1 else none else none
 nB z vs ks:=(A1.lookup z).any λR=>NF O N R vs ks
 gens:=true
noncomputable def Al:aK:=⟨λ_ _ _=>none,λ_ _ _ _=>none,λ_ _ _=>none,λ_ _ _=>none,λ_ _ _=>none,λ_ _ _=>none,λ_ _ _ _ _=>none,λ_ _ _=>false,true⟩
def aI(N:Nat):Nat->aK:=Nat.rec Al λ_=>next N
theorem xU{α β:Type}[BEq α][LawfulBEq α]{l:List (α×β)}{x:α}{b:β}(h:l.lookup x=some b):(x,b)∈l:=by
 induction l with
 |nil=>exact nS h
 |cons q r ih=>
  rw[show(q::r).lookup x=_ from FF] at h;cases e:x==q.1 with
  |true=>rw[e] at h;cases ay h;erw[a5 e];exact .head _
  |false=>rw[e] at h;exact .tail _ (ih h)
theorem VQ(P:cD):DG.map (λR=>(KL P).lookup R.addr)=DG.map λR=>some (ch R.st R.qual R.dflt R.pm R.code [] .none):=⋯
theorem ϐ(P:cD):DG.all (Md (KL P))=true:=⋯
theorem vn(P:cD){R:aY}(m:R∈DG):jo P R:=Wf (Gj.mp (VQ P) R m) (b7 (ϐ P) R m)
section
variable{P:cD}{q:Str×aY}{r:Str×Nat×aY}{m:(Nat×Str)×aY}{o:ia×aY}{k:iF×aY}
theorem Nd(h:q∈A1):jo P q.2:=vn P (fE _ (tw _ (qZ (f:=(·.2)) h)))
theorem XZ(h:r∈Dq):jo P r.2.2:=vn P (fE _ (fE _ (tw _ (qZ (f:=(·.2.2)) h))))
theorem My(h:m∈DC):jo P m.2:=vn P (fE _ (fE _ (fE _ (tw _ (qZ (f:=(·.2)) h)))))
theorem abu(h:o∈EV):jo P o.2:=vn P (fE _ (fE _ (fE _ (fE _ (tw _ (qZ (f:=(·.2)) h))))))
theorem OA(h:k∈wb):jo P k.2:=vn P (fE _ (fE _ (fE _ (fE _ (fE _ (qZ (f:=(·.2)) h))))))
end
theorem O9(P:cD):A1.all (λq=>db P q.1==some (.ref q.2.addr)&&keepIn (KL P) (.ref q.2.addr))=true:=⋯
theorem K_(P:cD):Dq.all (λq=>(db P q.1==some (.ref q.2.1)&&keepIn (KL P) (.ref q.2.1))&&(makesIn (KL P) q.2.1&&(fN (KL P) (.ref q.2.1) "__init__"==some (some (.ref q.2.2.addr))&&typeIn (KL P) (.ref q.2.2.addr)==some (.type "function"))))=true:=⋯
theorem QY(P:cD):DC.all (λq=>wc (KL P) q.1.1 q.1.2 q.2.addr)=true:=⋯
theorem WB(P:cD):EV.all (λq=>(yg (KL P) dk q.1.info.2 (.type "int")&&yg (KL P) dk q.1.info.2 (.ref dk))&&(KE (KL P) dk&&(fN (KL P) (.ref dk) (FN q.1.info.2)==some (some (.ref q.2.addr))&&(ou (KL P) (.ref q.2.addr)&&R6 (KL P) dk q.1.info.2))))=true:=⋯
theorem OK(P:cD):wb.all (λq=>(notFirst (KL P) dk (.type "int")&&notFirst (KL P) dk (.ref dk))&&(fN (KL P) (.ref dk) (cmpInfo q.1).2.1==some (some (.ref q.2.addr))&&ou (KL P) (.ref q.2.addr)))=true:=⋯
theorem XD(P:cD):(fN (KL P) (.ref bv) "__len__"==some (some (.ref DH.addr))&&ou (KL P) (.ref DH.addr))=true:=⋯
theorem abw(P:cD):(Cd (KL P) bv "num_cand" &&(FC (KL P) bv&&(fN (KL P) (.ref bv) "num_cand"==some (some (.ref 512))&&(Kq (KL P) (.ref 512) "__get__"==some (some (.builtin "property.__get__"))&&(takesIn (KL P) (.ref 512)==some true&&(recIn (KL P) 512 "property").any λl=>l.head?==some (.ref IJ.addr))))))=true:=⋯
theorem Mv{P:cD}{q:Str×Nat×aY}(h:q∈Dq):(db P q.1=some (.ref q.2.1)/\keepIn (KL P) (.ref q.2.1)=true)/\IA P q.2.1 q.2.2:=by
 obtain⟨a,b⟩:=aW (b7 (K_ P) _ h);obtain⟨a,a'⟩:=aW a;obtain⟨b,b'⟩:=aW b;obtain⟨b',b''⟩:=aW b';exact⟨⟨a5 a,a'⟩,XZ h,b,a5 b',a5 b''⟩
section
variable{c:Cx}{x y:Pt c}{d N k:Nat}{A:Am (d+3)}{O:aK}{v u:ac}{a:ao}{z m:Str}{vs:List PV}{ks fs:List (Str×PV)}{p q:PV}{b:Bool}{us:List ac}
@[elab_as_elim] theorem k_{m:PV->Prop}{i:Nat×List (Str×PV)}(h:p.D4=some i)(K:m (.inst i.1 i.2)):m p:=by
 induction p using dg with
 |inst=>cases ay h;exact K
 |_=>exact nS h
@[elab_as_elim] theorem Mr{m:PV->Prop}(h:Db p=some q)(K:q.iV=false->m q):m p:=fZ h λn h=>by
 cases ay h;exact K (nq n)
theorem Jl{Q:ac->ag->Prop}{s:ag}(r:Rd p x v)(h:p.iV=false)(q:Q v s):FO Q v s:=by
 revert q;induction p using dg with
 |none=>exact qT r id|bool=>exact mf r id|int=>exact bU r λ_=>id|str=>exact jj r λ_=>id|tup=>exact iT r λ_ _ _=>id|list=>exact dX r λ_ _ _=>id|set=>exact lu r λ_ _ _=>id|d8=>exact qA r λ_ _ _ _=>id|inst=>exact sV r λ_ _ _ _=>id|any=>exact tf h
theorem NO(r:Rd q x u)(h:Dh q=true):∃tb,iG (ah pw c.w) x.s.heap (tx u) tb/\(tb=.type "int"\/tb=.ref dk):=by
 induction q using dg with
 |int=>exact bU r λ_=>(az _ (.of_pure rfl) (.inl rfl))
 |inst k fs=>
  cases a5 (h:(k==dk)=true);exact n3 r λI _ _ _=>(az _ I.type (.inr rfl))
 |_=>exact ff h
variable(S:∀n,Sd c d (aw O n))
include S
theorem ae1(h:(next N O).fn z vs ks=some p):∃g,db c.w.params z=some g/\pE c.w.params g/\qD c (d+3) g vs ks p:=by
 refine tW h (λR e h=>?_) λ_ h=>tW h (λq e h=>fF h λr h=>?_) λ_ h=>aL h λe g=>?_
 ·have m:=xU e;have g:=aW (b7 (O9 c.w.params) _ m);exact(cz _ (a5 g.1) (.inr (.inr g.2)) (λ{A x us kv} rv rk=>xZ (A:=A.mono (e:=d+1) (by lia)) S (Nd m) h rv rk))
 ·obtain⟨rfl,e⟩:=e;cases jz e;refine(cz (.builtin "len") ⋯ (.inl ⟨_,rfl⟩) (λ{A x us kv} rv rk=>?_));revert rv;refine aj g λv h1 g1=>qe h1 λrv=>?_;revert rv;refine aj g1 λi h2 g2=>?_;revert g2;refine k_ h2 λg2=>aL g2 λhc g3=>aj g3 λp h3 g4=>aj g4 λj h4 g5=>aL g5 λhj g6=>?_;cases ay g6;revert h3;refine ej h4 λh3 rv=>eC rv λr rv=>i0 rv (tc rk λQ E K=>?_);have z:=aW (XD c.w.params);refine n3 r λI _ _ r'=>abn x.cU (hc▸I) (a5 z.1) z.2 (xZ (A:=(A.mono (e:=d+2) (by lia)).in1) S (vn _ (.head _)) h3 (.cons r' .nil) .nil _ _ λv y le r=>bU r λt=>(uL _ _ rfl hj.1 hj.2 (K _ (y.tok _) (le.trans (y.cG _)) .int)))
 ·have g:=Mv (P:=c.w.params) (.tail _ (xU e));exact(cz _ g.1.1 (.inr (.inr g.1.2)) (λ{A x us kv} rv rk=>aaL (A:=A.mono (e:=d+2) (by lia)) S g.2 h rv rk))
theorem RN(h:(next N O).bM k m vs ks=some p):∃R:aY,wc (KL c.w.params) k m R.addr=true/\jo c.w.params R/\bm O N R vs ks=some p:=aj h λR e h=>
 have m:=List.mem_cons_of_mem _ (xU e)
 (cz R (b7 (QY c.w.params) _ m) (My m) h)
theorem XW(h:(next N O).bM k "__call__" (.inst k fs::vs) []=some p)(r:Rd (.inst k fs) x v)(rv:bt vs x us):aE A (bC v us []) x (Rd p):=by
 refine bE λgG hG=>cP (RN S h) λR hm ok hr=>e8 (AX (aW hm).1) λh1 h2 h3=>?_;obtain⟨name,args,body,dl,rt,tp,scope,ts,bd,pos,e⟩:=HJ ok.plain;have ha:=e▸ok.at_;have r':=r;refine hG ?_;revert r';exact sV r λ{a dx n es vs} i1 i2 _ _ r' Q E K=>q8 (Vm (ox:=l9 k dx) (od:=some (uO es n)) x.cU ⟨x.hs _ _ i1,rfl,rfl,x.hs _ _ i2⟩ rfl (a5 h2) h3 ha rfl (Hl (A:=A.mono (e:=d+1) (by lia)) S ok hr (.cons r' rv) .nil λy v l r=>K v y l r))
theorem XT(h:(next N O).attr k z (.inst k fs)=some p)(r:Rd (.inst k fs) x v):aE A (uP v z true) x (Rd p):=aL h λe h=>aj h λq h1 h2=>by
 obtain⟨rfl,rfl⟩:=e;revert h1;refine Mr h2 λhq h1=>bE λgG hG=>dU (aW (abw c.w.params)) λz1 z=>dU (aW z) λz2 z=>dU (aW z) λz3 z=>dU (aW z) λz4 z=>dU (aW z) λz5 z=>aB (q0 z) λl z6 z7=>hG ?_;induction l using bO with
 |nil=>exact ff z7
 |cons a' rest=>
  cases ay (a5 z7);exact n3 r λI _ _ r' Q E K=>cQ (Ym x.cU I z1 z2 (a5 z3) (a5 z4) (a5 z5) z6 (Hl (A:=(A.mono (e:=d+2) (by lia)).in1) (x:=x.tok (x.s.toks+1)) S (vn _ (.tail _ (.head _))) h1 (.cons r' .nil) .nil λy v l r=>⟨Ss r hq,K v y ((x.cG _).trans l) r⟩)) (λ_ _ z=>z) λ_ _ z=>z.elim
theorem Wy{op:ia}(h:(next N O).bin op (.inst k fs) q=some p)(r:Rd (.inst k fs) x v)(rq:Rd q x u):aE A (mI op v u) x (Rd p)/\aE A (Kw op v u) x (Rd p):=aL h λe h=>aj h λR e1 h=>aj h λp' h1 h2=>by
 obtain⟨rfl,hn⟩:=e;revert h1;refine Mr h2 λhq h1=>?_;have m:=xU e1;obtain⟨z1,z⟩:=aW (b7 (WB c.w.params) _ m);obtain⟨z2,z⟩:=aW z;obtain⟨z3,z⟩:=aW z;obtain⟨z4,z5⟩:=aW z;refine aB (NO rq hn) λtb L1 ht=>?_;have hr:yg (KL c.w.params) dk op.info.2 tb=true:=ht.elim (λe=>e▸(aW z1).1) λe=>e▸(aW z1).2;refine n3 r λI _ _ r'=>?_;have k:=xZ (A:=A.mono (e:=d+1) (by lia)) S (abu m) h1 (.cons r' (.cons rq .nil)) .nil;exact⟨λQ E K=>afv x.cU I L1 hr z2 (a5 z3) z4 (k _ _ λv y l r=>Jl r hq (K v y l r)),λQ E K=>abB x.cU I L1 hr z2 (a5 z3) z4 z5 (k _ _ λv y l r=>Jl r hq (K v y l r))⟩
omit S in
theorem U3{op:iF}{R:aY}(m:(op,R)∈wb):∀a b:ac,jN op a b=FP op a b:=by
 simp only[wb,jO,Prod.mk.injEq,eX,or_false] at m;rcases m with⟨rfl,_⟩|⟨rfl,_⟩|⟨rfl,_⟩|⟨rfl,_⟩<;>exact λ_ _=>rfl
theorem Pr{op:iF}(h:(next N O).cmp op (.inst k fs) q=some b):∃R:aY,(op,R)∈wb/\k=dk/\Dh q=true/\bm O N R [.inst k fs,q] []=some (.bool b):=aL h λe h=>aj h λR e1 h=>aj h λp' h1 h2=>(vL R (xU e1) e.1 e.2 (Ev (m:=λp=>_=some p->_=some (PV.bool b)) h2 id h1))
theorem ad9{op:iF}(h:(next N O).cmp op (.inst k fs) q=some b)(r:Rd (.inst k fs) x v)(rq:Rd q x u):aE A (jN op v u) x (Rd (.bool b)):=λQ E K=>by
 refine ll (Pr S h) λR m bZ hn h1=>?_;subst bZ;obtain⟨z1,z⟩:=aW (b7 (OK c.w.params) _ m);have z:=aW z;refine aB (NO rq hn) λtb L1 ht=>?_;have hr:notFirst (KL c.w.params) dk tb=true:=ht.elim (λe=>e▸(aW z1).1) λe=>e▸(aW z1).2;rw[U3 m];exact n3 r λI _ _ r'=>Xa (A.room (n:=0) (by lia)) x.cU I L1 hr (a5 z.1) z.2 (xZ (A:=A.mono (e:=d+1) (by lia)) S (OA m) h1 (.cons r' (.cons rq .nil)) .nil _ _ λv y l r=>Jl r rfl (K v y l r))
theorem Zq:cg c (next N O) (d+3) where
 fn:=ae1 S
 bM h _:=cP (RN S h) λR hm ok hr=>(az _ hm (λ{A x us kv} rv rk=>xZ (A:=A.mono (e:=d+1) (by lia)) S ok hr rv rk))
 AE h _ _ _ _:=XW S h
 attr h _ _ _ _:=XT S h
 bin h _ _ _ _:=Wy S h
 cmp h _ _ _ _:=ad9 S h
 lt h:=by
  refine ll (Pr S h) λR m bZ hn h1=>?_;subst bZ;have z:=aW (aW (b7 (OK c.w.params) _ m)).2;exact(cz _ (a5 z.1) z.2 (λ{A x v u} r rq=>xZ (A:=A.mono (e:=d+1) (by lia)) S (OA m) h1 (.cons r (.cons rq .nil)) .nil))
theorem VP:gY c (next N O) (d+3) where
 mh h:=aL h λe g=>aj g λr h1 g1=>aL g1 λe1 g2=>by
  obtain⟨rfl,rfl,hk⟩:=e;cases ay g2;have m:((bv,("add_voter":Str)),vU)∈DC:=.head _;exact(cz _ (b7 (QY c.w.params) _ m) (Gl.mp hk) (λ{A x a V v K E} sl fr rq k=>q8 (Pc (A:=A.mono (e:=d+1) (by lia)) S (My m) h1 sl fr (.cons rq .nil) .nil λy V' l sl mV fr=>k _ y V' l (e1▸sl) mV fr)))
 make h:=aL h λe h=>by
  refine aB (tE.mp h) λr h1 bZ=>?_;subst bZ;have g:=Mv (P:=c.w.params) (.head _);exact(cz _ (e▸g.1.1) (.inr (.inr g.1.2)) (λ{A x us kv K E} rv rk k=>NW (A:=A.mono (e:=d+2) (by lia)) S g.2 h1 rv rk k))
 nB h:=by
  refine aB (q0 h) λR e h=>?_;have m:=xU e;have g:=aW (b7 (O9 c.w.params) _ m);exact(cz _ (a5 g.1) (.inr (.inr g.2)) (λ{A x us kv l K E} rv rk hl hi k=>aaq (A:=A.mono (e:=d+1) (by lia)) S (Nd m) h rv rk hl hi k))
omit S
theorem acj:cg c Al d:=⟨λh=>nS h,λh=>nS h,λh=>nS h,λh=>nS h,λh=>nS h,λh=>nS h,λh=>nS h⟩
theorem aaR:gY c Al d:=⟨λh=>nS h,λh=>nS h,λh=>ff h⟩
end
section
variable{n k x:Nat}{l m:List Nat}{P:cD}{o:Obj}{t to:a8}{a:ao}{s:ag}{w:cO}{A:bh}{E:ac->ag->Prop}{h:am}
section
set_option tactic.hygienic true
noncomputable def pn:Nat->Nat->List (List Nat)
 |_,0=>[[]]|k,n+1=>pn (k+1) n++(pn (k+1) n).map (k:: ·)
theorem RM(n:Nat):∀{k:Nat} {l:List Nat},l.Pairwise (· < ·)->(∀x∈l,k<=x/\x<k+n)->l∈pn k n:=by
 induction n with
 |zero=>
  intro k l _ h;induction l using bO with
  |nil=>exact .head _|cons a l=>exact absurd (h a (.head _)).2 (gK (h a (.head _)).1)
 |succ n ih=>
  intro k l p h;have up:∀{l:List Nat},l.Pairwise (· < ·)->(∀x∈l,k<x/\x<k+(n+1))->l∈pn (k+1) n:=λp h=>ih p λx m=>⟨(h x m).1,i6 (h x m).2 (pS k n 1)⟩;induction l using bO with
  |nil=>exact tw _ (up p λx m=>mN m)
  |cons a l=>
   have p':=lY p;have ha:=h a (.head _);by_cases e:a=k
   ·subst e;exact fE _ (qZ (up p'.2 λx m=>⟨p'.1 x m,(h x (.tail _ m)).2⟩))
   ·have la:=pT ha.1 (gV e);exact tw _ (up p λx m=>⟨(bw m).elim (λe=>e▸la) λm=>eN la (p'.1 x m),(h x m).2⟩)
theorem E6{a:Nat}(p:(a::l).Pairwise (· < ·))(h:x∈a::l):a<=x:=(bw h).elim (λe=>aD e.symm) λm=>cy ((lY p).1 x m)
theorem tL(p:l.Pairwise (· < ·))(q:m.Pairwise (· < ·))(h:∀x,x∈l↔x∈m):l=m:=by
 induction l generalizing m with
 |nil=>induction m using bO with
  |nil=>rfl|cons b m=>nomatch (h b).mpr (.head _)
 |cons a l ih=>induction m using bO with
  |nil=>nomatch (h a).mp (.head _)
  |cons b m=>
   obtain rfl:=mM (E6 p ((h b).mpr (.head _))) (E6 q ((h a).mp (.head _)));have p':=lY p;have q':=lY q;exact af _ (ih p'.2 q'.2 λx=>⟨λk=>(bw ((h x).mp (.tail _ k))).elim (λe=>absurd (p'.1 x k) (e▸cV _)) id,λk=>(bw ((h x).mpr (.tail _ k))).elim (λe=>absurd (q'.1 x k) (e▸cV _)) id⟩)
theorem oY:x∈fv n l↔x=n\/x∈l:=by
 induction l with
 |nil=>exact jO
 |cons m r ih=>
  show x∈(if n<m then n::m::r else if n=m then m::r else m::fv n r)↔_;by_cases a:n<m
  ·erw[iP a];exact jO
  ·erw[iN a];by_cases b:n=m
   ·erw[iP b];exact⟨.inr,λh=>h.elim (λe=>e▸b▸ .head _) id⟩
   ·rw[iN b,jO,ih,jO];exact or_left_comm
theorem rB(p:l.Pairwise (· < ·)):(fv n l).Pairwise (· < ·):=by
 induction l with
 |nil=>exact Gk.mpr ⟨λ_ h=>(nomatch h),.nil⟩
 |cons m r ih=>
  have p':=lY p;show List.Pairwise _ (if n<m then n::m::r else if n=m then m::r else m::fv n r);by_cases a:n<m
  ·erw[iP a];exact Gk.mpr ⟨λx h=>ba a (E6 p h),p⟩
  ·erw[iN a];by_cases b:n=m
   ·erw[iP b];exact p
   ·erw[iN b];exact Gk.mpr ⟨λx h=>(oY.mp h).elim (λe=>e▸pT (cZ a) (gV b)) (p'.1 x),ih p'.2⟩
theorem Wv(p:l.Pairwise (· < ·))(m:x∈l):fv x l=l:=tL (rB p) p λy=>oY.trans ⟨λh=>h.elim (λe=>e▸m) id,.inr⟩
def ZT(l:List Nat)(x:Nat):Bool:=l.contains x||(decide (pU l.toArray x<=l.length)&&(l.take (pU l.toArray x)++x::l.drop (pU l.toArray x)==fv x l)&&(l.toArray[pU l.toArray x]? !=some x))
theorem x_:(pn 0 6).all (λl=>(ax 6).all λx=>ZT l x)=true:=⋯
noncomputable def Hm(m:Nat)(l:List Nat):Bool:=(S1 m 0 0 true true (l.map (λn:Nat=>(n:Int))).toArray).any λt=>t.1.place==l.toArray&&t.2==(ax l.length).toArray
theorem Φ:[7,15,31].all (λm=>(pn 0 6).all λl=>Hm m l)=true:=⋯
theorem aas:(ax 6).all (λn=>u3 (n:Int)==(n:Int))=true:=⋯
theorem JJ{m:Nat}{l:List Nat}{fi mv:Nat}{le pl:Bool}(h:Hm m l=true):S1 m fi mv le pl (l.map (λn:Nat=>(n:Int))).toArray=some ({mask:=m,place:=l.toArray,dummies:= #[],finger:=fi,led:=le,moves:=mv,plain:=pl},(ax l.length).toArray):=by
 refine aB (q0 h) λt h1 h2=>?_;obtain⟨h2,h3⟩:=aW h2;unfold S1 at h1⊢;refine aj h1 λow e h4=>aa (e) ?_;obtain rfl:=ay h4;have h2:=a5 h2;have h3:=a5 h3;dsimp only at h2 h3;simp only[Option.bind_eq_bind,SD,Option.pure_def,h2,h3]
def cT(P:cD)(l:List Nat)(o:Obj):Prop:=∃es n t,o=dM es n t/\bS es.toList l/\eV P l t
section
variable{es d0:List (Int×ac)}
theorem eV.sub(h:eV P l t):l∈pn 0 6:=RM 6 h.up λx m=>⟨cu _,i6 (h.small x m) (f5 6).symm⟩
theorem eV.len(h:eV P l t):l.length<=6:=Fk h.up h.small
theorem eV.lay(h:eV P l t){m:Nat}(hm:m=7\/m=15\/m=31):Hm m l=true:=b7 (b7 Φ m (by rcases hm with rfl|rfl|rfl<;>decide)) l h.sub
theorem DR(h:n<6):u3 (n:Int)=(n:Int):=a5 (b7 aas n (dL h))
theorem bS.M7(h:bS es l)(hs:∀x∈l,x<6):ElemsOf (u4 pw w) es:=by
 induction l generalizing es with
 |nil=>cases(h:es=[]);exact λ_ m=>mN m
 |cons n l ih=>
  obtain⟨tk,r,rfl,h⟩:=h;exact λe m=>(bw m).elim (λq=>q▸⟨(az _ (KF _ _ _ _) ((DR (hs _ (.head _))).symm)),rfl⟩) λm=>ih h (λx hx=>hs x (.tail _ hx)) e m
theorem bS.mem(h:bS es l)(k:Int):(∃e∈es,(u4 pw w).is k e.2=true)↔∃n∈l,(n:Int)=k:=by
 induction l generalizing es with
 |nil=>cases(h:es=[]);simp
 |cons n l ih=>
  obtain⟨tk,r,rfl,h⟩:=h;have e0:(u4 pw w).is k (.int (n:Int) tk)=true↔(n:Int)=k:=by
   show ac.isInt k (.int (n:Int) tk)=true↔_;unfold ac.isInt;simp
  simp only[jO,exists_eq_or_imp,e0,ih h]
theorem bS.size{es:Array (Int×ac)}(h:bS es.toList l):es.size=l.length:=FB.symm.trans (OQ h)
theorem cT.at_(h:cT P l o):∃es n t,o=dM es n t/\bS es.toList l/\eV P l t/\es.size=l.length/\t.fits es.size=true:=jD h λes n t e h1 h2=>(GV es n t e h1 h2 h1.size (h1.size▸Fg h2))
theorem HL{k:Nat}(h:k<=6):k<scanBound:=by unfold scanBound;lia
theorem cT.setOf(x:cT w.params l o)(ho:h.get? a=some o):h.SetOf (u4 pw w) a (λk=>decide (∃n∈l,(n:Int)=k)) l.length:=by
 refine DL x.at_ λes n t c4 h1 h2 h3 h4=>?_;subst c4;exact⟨_,es,n,t,ho,(ei rfl rfl rfl),rfl,h1.M7 h2.small,λk=>by erw[decide_eq_true_eq];exact(h1.mem k).symm,h3▸HL h2.len,h4,h3⟩
theorem PB{x:Int}{tk:Tok}{Q:Option Nat->ag->Prop}(hx:cT w.params l o)(ho:s.heap.get? a=some o)(h:∀r:Option Nat,r.isSome=decide (∃n∈l,(n:Int)=x)->Q r s):ai (ah pw w) A (setFind a (.int x tk) (u3 x)) Q E s:=
 wpAny_setFind_of (knd:=u4 pw w) (KF _ _ _ _) rfl (hx.setOf ho) h
theorem bS.take(h:bS es l)(k:Nat):bS (es.take k) (l.take k):=by
 induction l generalizing es k with
 |nil=>cases(h:es=[]);erw[u5];erw[u5];exact rfl
 |cons n l ih=>
  obtain⟨tk,r,rfl,h⟩:=h;induction k using m8 with
  |zero=>exact rfl|succ k=>exact(de tk _ rfl (ih h k))
theorem bS.drop(h:bS es l)(k:Nat):bS (es.drop k) (l.drop k):=by
 induction l generalizing es k with
 |nil=>cases(h:es=[]);erw[FR];erw[FR];exact rfl
 |cons n l ih=>
  obtain⟨tk,r,rfl,h⟩:=h;induction k using m8 with
  |zero=>exact(de tk r rfl h)|succ k=>exact ih h k
theorem bS.append(h:bS es l)(h':bS d0 m):bS (es++d0) (l++m):=by
 induction l generalizing es with
 |nil=>cases(h:es=[]);exact h'
 |cons n l ih=>
  obtain⟨tk,r,rfl,h⟩:=h;exact(de tk _ rfl (ih h))
theorem bS.hashes(h:bS es l):es.map (·.1)=l.map λn:Nat=>(n:Int):=by
 induction l generalizing es with
 |nil=>cases(h:es=[]);rfl
 |cons n l ih=>
  obtain⟨tk,r,rfl,h⟩:=h;exact af (List.cons _) (ih h)
theorem bS.IF{es:Array (Int×ac)}(h:bS es.toList l):es.map (·.1)=(l.map (λn:Nat=>(n:Int))).toArray:=zr.mp (Ts.trans h.hashes)
theorem VA(h:eV P l t)(hx:x<6)(hn:x∉l):t.freeSlot (x:Int)=some (x,false)/\pU l.toArray x<=l.length/\l.take (pU l.toArray x)++x::l.drop (pU l.toArray x)=fv x l:=by
 have k:=(mq (b7 (b7 x_ l h.sub) x (dL hx))).resolve_left λk=>hn (qI k);simp only[mK,decide_eq_true_eq,beq_iff_eq,bne_iff_ne,ne_eq] at k;refine(ei (?_) k.1.1 k.1.2);have hj:(t.probeStart (x:Int)).j=x:=by
  have hb:S2 (x:Int)=x:=by
   unfold S2;erw[Int.emod_eq_of_lt (by lia) (by lia)];rfl
  show S2 (x:Int)%(t.mask+1)=x;erw[hb];rcases h.mask with e|e|e<;>refine aa (e) ?_<;>lia
 have hs:t.slot x=.empty:=by
  unfold a8.slot;refine aa (h.place) (aa (h.dummies) ((iN (by simpa using k.2)).trans (iN ?_)));unfold S4;simp
 unfold a8.freeSlot ago;erw[(show 10*S5 t.mask=(10*S5 t.mask-1)+1 by unfold S5;lia)];unfold ago.go;refine aa (hj) (aa (hs) ?_);rfl
theorem N_{es:Array (Int×ac)}{tk:Tok}(h1:bS es.toList l)(h:eV P l t)(hx:x<6)(hn:x∉l):
  ∃d0,layNew t es (x:Int) (.int (x:Int) tk)=(d0,{t with place:=(fv x l).toArray},false,false)/\bS d0.toList (fv x l):=by
 refine e8 (VA h hx hn) λk1 k2 k3=>?_;have ent:bS (S6 es (pU l.toArray x) ((x:Int),.int (x:Int) tk)).toList (fv x l):=by
  rw[agp,<-k3];exact(h1.take _).append (de tk _ rfl (h1.drop _))
 refine(az (S6 es (pU l.toArray x) ((x:Int),.int (x:Int) tk)) (?_) ent);have ahs:(fv x l).length=l.length+1:=by refine hH (k3) ?_;erw[da];erw[wK];erw[FS];erw[FT];erw[wV k2];lia
 have Gz:({t with place:=(fv x l).toArray}:a8).fits (fv x l).length=true:=by
  unfold a8.fits FA;simp only[i4,beq_self_eq_true,Bool.true_and,decide_eq_true_eq];refine aa (h.dummies) (aa (ahs) ?_);have:=h.room;have:=h.len;rcases h.mask with e|e|e<;>rw[e] at* <;>simp<;>lia
 have aht:t.put x=({t with place:=(fv x l).toArray},pU l.toArray x):=by
  unfold a8.put;rw[h.dummies,show S4 #[] x=false by unfold S4;simp,h.place,<-show S6 l.toArray (pU l.toArray x) x=(fv x l).toArray from zr.mp ((agp ..).trans k3)];rfl
 unfold layNew;erw[k1];dsimp only;erw[aht];dsimp only;unfold a8.orStandIn;refine aa (ent.size) (aa (Gz) ?_);rfl
end
end
section
variable{b:ao}{es d0:Array (Int×ac)}
theorem fH{α:Type}{M:f4}{c:Prop}[Decidable c]{t u:Sem α}{Q:α->ag->Prop}(n:¬c)(h:ai M A u Q E s):ai M A (if c then t else u) Q E s:=(iN n).symm▸h
theorem o9{α:Type}{M:f4}{c:Prop}[Decidable c]{t u:Sem α}{Q:α->ag->Prop}(n:c)(h:ai M A t Q E s):ai M A (if c then t else u) Q E s:=(iP n).symm▸h
theorem Sn:mO (wW 5)=32/\mO (wW 6)=32:=by decide+kernel
theorem X6{n:Nat}(h:n<=6)(h5:5<=n):mO (wW n)=32:=(Nat.eq_or_lt_of_le h5).elim (λe=>e▸Sn.1) λe=>mM e h▸Sn.2
theorem Ν(h1:bS es.toList l)(up:l.Pairwise (· < ·))(sm:∀x∈l,x<6)(h5:5<=l.length)(f0:t.finger=0)(pl:t.plain=true)(ld:t.led= !P.followText "set-order"):
  ∃t',FU t es (wW es.size)=(es,t',false)/\eV P l t':=by
 have hsz:=h1.size;have h6:=Fk up sm;have LL:eV P l {mask:=31,place:=l.toArray,dummies:= #[],finger:=t.finger,led:=t.led,moves:=t.movedTo 31,plain:=t.plain}:=
  ⟨rfl,rfl,.inr (.inr rfl),by show l.length*5<31*3;lia,f0,pl,ld,up,sm⟩
 have hr:t.relaid (es.map (·.1)) (wW es.size)=some ({mask:=31,place:=l.toArray,dummies:= #[],finger:=t.finger,led:=t.led,moves:=t.movedTo 31,plain:=t.plain},(ax l.length).toArray):=by
  unfold agq;exact aa (hsz) (aa (X6 h6 h5) (aa (h1.IF) (JJ (LL.lay (.inr (.inr rfl))))))
 refine(az _ (?_) LL);unfold FU;erw[hr];dsimp only;have hf:(ax l.length).toArray.filterMap (es[·]?)=es:=by
  apply zr.mp;exact aa (agr) (hH (hsz) (ags es))
 have hc:coversAll (ax l.length).toArray es.size=true:=by
  unfold coversAll;exact aa (hsz) (List.isPerm_iff.mpr (B6 _))
 refine aa (hf) (aa (hc) (aa (hsz) (aa (Fg LL) ?_)));rfl
theorem AT{Q:Unit->ag->Prop}{t':a8}(ho:s.heap.get? a=some (dM d0 n to))(hz:es.size<=qW)(h:∀h',dD a s.heap h'->h'.get? a=some (dM es (n+1) t')->Q () {s with heap:=h'}):ai (ah pw w) A (storeSet a es t') Q E s:=by
 refine wpAny_storeSet_of ho rfl (h _ (uY s.heap a _) ?_) hz;have:=agk (Obj.putSet es t') ho (by erw[(putSet_of es t' rfl:Obj.putSet es t' (dM d0 n to)=_)];rfl);rw[show Obj.putSet es t' (dM d0 n to)=_ from putSet_of es t' rfl] at this;exact this
theorem Qr(h:es.size<=6):es.size<=qW:=fits_of_scanBound (HL h)
theorem afi{g:Bool->Sem Unit}(hg:∀(bJ:ag) (Q':Unit->ag->Prop),Q' () bJ->ai (ah pw w) A (g false) Q' E bJ){R:Option Bool->ag->Prop}
(ho:s.heap.get? a=some (dM d0 n to))(h1:bS es.toList l)(up:l.Pairwise (· < ·))(sm:∀x∈l,x<6)(hp:t.place=l.toArray)(hd:t.dummies= #[])(hm:t.mask=7\/t.mask=15\/t.mask=31)(f0:t.finger=0)(pl:t.plain=true)(ld:t.led= !w.params.followText "set-order")
(h:∀h' o',dD a s.heap h'->h'.get? a=some o'->cT w.params l o'->R (some true) {s with heap:=h'}):
  ai (ah pw w) A (do
    storeSet a es t
    if(!false&&t.tooFull)=true then do
      g (FU t es (wW es.size)).2.2
      storeSet a (FU t es (wW es.size)).1 (FU t es (wW es.size)).2.1
      pure (some true)
     else pure (some true)) R E s:=by
 have h6:=Fk up sm;have hz:=Qr (h1.size▸h6);have hf:t.tooFull=decide (l.length*5>=t.mask*3):=by
  unfold a8.tooFull FA;refine aa (hp) (aa (hd) ?_);simp
 refine ae (AT ho hz λh1' b1 g1=>aa (hf) ?_);by_cases q:l.length*5>=t.mask*3
 ·exact aB (Ν (P:=w.params) (t:=t) h1 up sm (by rcases hm with e|e|e<;>rw[e] at q<;>lia) f0 pl ld) λt' e1 e2=>aa (dT q) (aa (e1) (ae (hg _ _ (ae (AT (s:={s with heap:=h1'}) g1 hz λh2 b2 g2=>au (h _ _ (b1.trans b2) g2 (j5 es _ t' rfl h1 e2)))))))
 ·exact aa (dF q) (au (h _ _ b1 g1 ⟨es,n+1,t,rfl,h1,hp,hd,hm,om q,f0,pl,ld,up,sm⟩))
theorem Js{tk:Tok}{Q:Bool->ag->Prop}(hx:cT w.params l o)(ho:s.heap.get? a=some o)(h6:x<6)
(h:∀h' o',dD a s.heap h'->h'.get? a=some o'->cT w.params (fv x l) o'->Q (!decide (x∈l)) {s with heap:=h'}):
  ai (ah pw w) A (FV a (.int (x:Int) tk) (u3 (x:Int))) Q E s:=by
 refine DL hx.at_ λes n t c4 h1 h2 h3 h4=>?_;subst c4;have hk:(u4 pw w).is (x:Int) (.int (x:Int) tk)=true:=KF _ _ _ _;have Uu:=h1.M7 (w:=w) h2.small;have hb:es.size<scanBound:=h3▸HL h2.len;unfold FV setAddHashedIn;refine dO (ae (wpAny_setState_of ho rfl h4 ?_));dsimp only;erw[byScan_of (x:=.int (x:Int) tk) rfl hb Uu];simp only[↓reduceIte];unfold setAddByScan;refine ae (ae (uV (ae (wpAny_setScan_of (knd:=u4 pw w) hk ho rfl h4 Uu ?_))));cases hr:List.findIdx? (λe=>(u4 pw w).is (x:Int) e.2) es.toList with
 |some j=>
  obtain⟨hj,hpj,_⟩:=List.findIdx?_eq_some_iff_getElem.mp hr;refine aB ((h1.mem (w:=w) (x:Int)).mp (az (es.toList[j]) (S7 hj) hpj)) λm hm e=>?_;obtain rfl:=FW e;have:=h s.heap _ (Cq a s.heap) ho (by erw[Wv h2.up hm];exact hx);rw[dT hm] at this;exact au (au this)
 |none=>
  have hn:x∉l:=λm=>aB ((h1.mem (w:=w) (x:Int)).mpr (az x m rfl)) λe he hp=>ff ((List.findIdx?_eq_none_iff.mp hr e he).symm.trans hp);refine aB (N_ (tk:=tk) h1 h2 h6 hn) λd0 hl he=>?_;have hgw:∀(b:Bool) {bJ:ag} {Q':Unit->ag->Prop},Q' () bJ->ai (ah pw w) A (match b with|true=>rule "set.scan.the-table-gave-way" |false=>pure ()) Q' E bJ:=
   λb bJ Q' hq=>by cases b<;>first|exact au hq|exact uV hq
  have Uv:layNew t es (u3 (x:Int)) (.int (x:Int) tk)=(d0,{t with place:=(fv x l).toArray},false,false):=(DR h6).symm▸hl;generalize layNew t es (u3 (x:Int)) (.int (x:Int) tk)=L at Uv⊢;subst Uv;refine ae (hgw false (aa (iP h2.plain) (ae (aa (hashByValue_scannable (x:=.int (x:Int) tk) 8 rfl) (au (afi (t:={t with place:=(fv x l).toArray}) (R:=λr s'=>ai (ah pw w) A _ Q E s') (λbJ Q' hq=>au hq) ho he (rB h2.up) (λy m=>(oY.mp m).elim (λe=>e▸h6) (h2.small y)) rfl h2.dummies h2.mask h2.finger h2.plain h2.led λh' o' k1 k2 k3=>?_))))));have:=h h' o' k1 k2 k3;rw[dF hn] at this;exact au this
theorem Sf{n mv:Nat}:cT P [] (dM #[] n (.fresh 0 mv (!P.followText "set-order"))):=⟨#[],n,_,rfl,rfl,rfl,rfl,.inl rfl,by show 0<7*3;lia,rfl,rfl,rfl,.nil,λ_ m=>mN m⟩
theorem Jd{Q:ac->ag->Prop}(h:∀o,cT w.params [] o->o.isFreed=false->Q (.ref s.heap.objs.size) {s with heap:=s.heap.push o}):ai (ah pw w) A (newSet (.type "set")) Q E s:=by
 unfold newSet Cr;refine ae (ae (oC (au ?_)));simp only[newObj];exact ae (wpAny_alloc (au (h _ Sf rfl)))
theorem afY{α:Type}(l:List α):∀(i:Nat) (h:i<l.length),(l[i]::l.eraseIdx i).Perm l:=by
 induction l with
 |nil=>exact λi h=>absurd h (y9 _)
 |cons a l ih=>
  intro i h;induction i using m8 with
  |zero=>exact .refl _|succ i=>exact(List.Perm.swap _ _ _).trans ((ih i (agt h)).cons a)
theorem ae2{α:Type}(next:Nat->Nat)(CT:Nat):∀(k:Nat) (left:List α) (out:Array α),CT=left.length->(pickOrder.go next CT k left out).toList.Perm (out.toList++left):=by
 induction CT with
 |zero=>
  intro k left out h;obtain rfl:=zn.mp h.symm;exact(gO out.toList).symm▸ .refl _
 |succ CT ih=>
  intro k left out h;show(match left[next k%left.length]? with|some x=>pickOrder.go next CT (k+1) (left.eraseIdx (next k%left.length)) (out.push x)|none=>out).toList.Perm _;have hi:next k%left.length<left.length:=Cs _ (h▸eE _);erw[jM hi];refine(ih (k+1) (left.eraseIdx (next k%left.length)) (out.push left[next k%left.length]) (by erw[List.length_eraseIdx_of_lt hi];refine hH (h) ?_;rfl)).trans ?_;erw[Array.toList_push];rw[kx];exact List.Perm.append_left _ (afY _ _ hi)
theorem P9{α:Type}(next:Nat->Nat)(xs:Array α):(pickOrder next xs).toList.Perm xs.toList:=ae2 next xs.size 0 xs.toList #[] FB.symm
theorem bS.perm{es d0:List (Int×ac)}(p:d0.Perm es):∀{l:List Nat},bS es l->∃l',bS d0 l'/\l'.Perm l:=by
 have hd:∀{x:Int×ac} {es:List (Int×ac)} {l:List Nat},bS (x::es) l->∃n tk m,l=n::m/\x=((n:Int),.int n tk)/\bS es m:=λ{x es l} h=>by
  induction l using bO with
  |nil=>exact ln (h:x::es=[])
  |cons n m=>
   refine eJ h λtk r e h=>?_;injection e with e1 e2
   exact(j5 n tk m rfl e1 (e2▸h))
 induction p with
 |nil=>exact λh=>(az _ h (.refl _))
 |cons x _ ih=>
  intro l h;refine jD (hd h) λn tk m c4 pX g=>?_;subst c4;subst pX;exact aB (ih g) λl' h1 h2=>(az (n::l') (de tk _ rfl h1) (h2.cons _))
 |swap x y es=>
  intro l h;refine jD (hd h) λn tk m c4 pX g=>?_;subst c4;subst pX;refine jD (hd g) λn' tk' m c4 pX k=>?_;subst c4;subst pX;exact(az (n'::n::m) ⟨tk',_,rfl,tk,_,rfl,k⟩ (.swap _ _ _))
 |trans _ _ ih1 ih2=>
  intro l h;exact aB (ih2 h) λl' h1 h2=>aB (ih1 h1) λxc h3 h4=>(az xc h3 (h4.trans h2))
theorem lR{Q:(Array (Int×ac)×Nat×a8)->ag->Prop}(x:bS es.toList l)(y:eV P l t)(ho:s.heap.get? a=some (dM es n t))(h:Q (es,n,t) s):ai (ah pw w) A (setState a) Q E s:=wpAny_setState_of ho rfl (x.size▸Fg y) h
theorem aer{Q:Array (Int×ac)->ag->Prop}(x:cT w.params l o)(ho:s.heap.get? a=some o)(h:∀d0 l',bS d0.toList l'->l'.Perm l->Q d0 s):ai (ah pw w) A (setWalk a) Q E s:=by
 refine jD x λes n t c4 h1 h2=>?_;subst c4;unfold setWalk Cr;refine ae (lR h1 h2 ho (ae (ae (oC (au ?_)))));cases hb:w.params.followText "set-order" with
 |true=>
  refine aa (iP (hb:(ah pw w).w.params.followText "set-order"=true)) (ae (oC (au ?_)));obtain⟨l',k1,k2⟩:=h1.perm (P9 _ es);exact h _ l' k1 k2
 |false=>
  refine aa (iN (Bool.eq_false_iff.mp hb:¬(ah pw w).w.params.followText "set-order"=true)) (fH (c:=(!t.plain&&decide (es.size>1))=true) (by erw[h2.plain];exact dy) (ae (fH (c:=(!t.led&&decide (es.size>1))=true) (by erw[h2.led];erw[hb];exact dy) (au (au (h _ l h1 (.refl _)))))))
end
section
variable{ob oa:Obj}{b:ao}{es d0:Array (Int×ac)}
theorem adv:(ax 7).all (λk=>(mO (k*2)==8&&decide (k<=3))||(mO (k*2)==16))=true:=by decide+kernel
theorem U6(h:k<=6):mO (k*2)<=qW/\(mO (k*2) -1=7\/mO (k*2) -1=15)/\k*5<(mO (k*2) -1)*3:=by
 have e:=KB;rcases mq (b7 adv k (dL (kA h))) with q|q
 ·exact dU (aW q) λq z=>aa (a5 q) ((ei (by erw[e];decide) (.inl rfl) (aQ (S8 5 (cC z)) (by decide))))
 ·exact aa (a5 q) ((ei (by erw[e];decide) (.inr rfl) (aQ (S8 5 h) (by decide))))
theorem ZR{Q:Unit->ag->Prop}(x:cT w.params [] o)(ho:s.heap.get? a=some o)(hk:k<=6)
(h:∀h' n t,dD a s.heap h'->h'.get? a=some (dM #[] n t)->eV w.params [] t->k*5<t.mask*3->Q () {s with heap:=h'}):ai (ah pw w) A (setRoomFor a k) Q E s:=by
 refine jD x λes n t c4 h1 h2=>?_;subst c4;obtain rfl:es= #[]:=zr.mp h1;unfold setRoomFor;refine ae (lR h1 h2 ho ?_);dsimp only;have hr:t.roomFor k=if k*5>=t.mask*3 then some (k*2) else none:=by
  unfold a8.roomFor FA;refine aa (h2.place) (aa (h2.dummies) ?_);simp
 erw[hr];by_cases q:k*5>=t.mask*3
 ·refine aa (iP q) (e8 (U6 hk) λz1 z2 z3=>?_);have hm:mO (k*2) -1=7\/mO (k*2) -1=15\/mO (k*2) -1=31:=z2.imp id .inl;have hr:t.relaid (Array.map (·.1) (#[]:Array (Int×ac))) (k*2)=some ({mask:=mO (k*2) -1,place:= #[],dummies:= #[],finger:=t.finger,led:=t.led,moves:=t.movedTo (mO (k*2) -1),plain:=t.plain},#[]):=by
   unfold agq;rw[bS.IF (es:= #[]) (l:=[]) rfl];exact JJ (l:=[]) (h2.lay hm)
  unfold setRelay;refine ae (lR h1 h2 ho ?_);dsimp only;exact aa (iN (gK z1)) (aa (hr) (ae (au (AT ho (cu _) λh' b g=>h h' _ _ b g ⟨rfl,rfl,hm,by show 0*5<_;exact aQ (S8 5 (cu k)) z3,h2.finger,h2.plain,h2.led,.nil,λ_ m=>mN m⟩ z3))))
 ·exact aa (iN q) (au (h s.heap n t (Cq a s.heap) ho h2 (om q)))
theorem R1{each:Sem Unit}{Q:Unit->ag->Prop}(x:cT w.params [] o)(ho:s.heap.get? a=some o)(y:cT w.params l ob)(hb:s.heap.get? b=some ob)(ne:a≠b)
(h:∀h' o',dD a s.heap h'->h'.get? a=some o'->cT w.params l o'->Q () {s with heap:=h'}):ai (ah pw w) A (setMerge a b each) Q E s:=by
 refine jD y λeo no to c4 k1 k2=>?_;subst c4;unfold setMerge;refine fH (by simpa using ne) (ae (lR k1 k2 hb ?_));dsimp only;by_cases q:eo.isEmpty=true
 ·erw[iP q];obtain rfl:eo= #[]:=Array.isEmpty_iff.mp q;obtain rfl:l=[]:=zn.mp k1.size.symm;exact au (h s.heap o (Cq a s.heap) ho x)
 ·refine aa (iN q) (ae (ZR x ho (k1.size▸k2.len) λh1 n1 t1 b1 g1 z2 ahu=>ae (lR (s:={s with heap:=h1}) (es:= #[]) (l:=[]) rfl z2 g1 ?_)));have led:(t1.led&&to.led)= !w.params.followText "set-order":=by erw[z2.led];erw[k2.led];rw[Bool.and_self]
  have pl:(t1.plain&&to.plain)=true:=by erw[z2.plain];erw[k2.plain];rfl
  have hf:t1.fill=0:=by unfold FA;erw[z2.place];erw[z2.dummies];rfl
  have sz:=Qr (k1.size▸k2.len);dsimp only;unfold a8.road;erw[hf];simp only[bne_self_eq_false,yW,if_false];by_cases hm:(t1.mask==to.mask&&to.dummies.isEmpty)=true
  ·exact aa (iP hm) (AT (s:={s with heap:=h1}) g1 sz λh' c g=>h h' _ (b1.trans c) g ⟨_,_,_,rfl,k1,k2.place,k2.dummies,k2.mask,k2.room,z2.finger,pl,led,k2.up,k2.small⟩)
  ·erw[iN hm];dsimp only;have Uw:Array.filterMap (λi=>eo[i]?) (ax l.length).toArray=eo:=by
    apply zr.mp;exact aa (agr) (hH (k1.size) (ags eo))
   refine aa (k1.IF) (aa (JJ (k2.lay z2.mask)) (ae (fH (c:=(S9 (Array.filterMap (λi=>eo[i]?) (ax l.length).toArray) !=S9 eo)=true) (by erw[Uw];simp) (au ?_))));dsimp only;exact aa (Uw) (AT (s:={s with heap:=h1}) g1 sz λh' c g=>h h' _ (b1.trans c) g ⟨_,_,_,rfl,k1,rfl,rfl,z2.mask,k1.size▸ahu,z2.finger,pl,led,k2.up,k2.small⟩)
theorem Sr{others:List ao}{fl:Option ao}{Q:Array (Int×ac)->ag->Prop}(x:cT w.params l o)(ho:s.heap.get? a=some o)(h:∀d0 l',bS d0.toList l'->l'.Perm l->Q d0 s):ai (ah pw w) A (setWalkUnseen a others fl) Q E s:=by
 refine jD x λes n t c4 h1 h2=>?_;subst c4;unfold setWalkUnseen Cr;refine ae (lR h1 h2 ho (ae (ae (oC (au (o9 (c:=((ah pw w).w.params.followText "set-order" ||t.led&&t.plain||decide (es.size<=1))=true) ?_ (aer (j5 es n t rfl h1 h2) ho h)))))));refine aa (h2.led) (aa (h2.plain) ?_);show(w.params.followText "set-order" || !w.params.followText "set-order" &&true||_)=true;cases w.params.followText "set-order" <;>rfl
theorem Bl{Q:Nat->ag->Prop}(x:cT w.params l o)(ho:s.heap.get? a=some o)(h:Q l.length s):ai (ah pw w) A (Builtin.Frozenset.sizeOf a) Q E s:=by
 refine jD x λes n t c4 h1 h2=>?_;subst c4;exact ae (ae (lR h1 h2 ho (au (au (h1.size▸h)))))
theorem cT.cls(x:cT P l o):o.cls=.type "set":=by refine uu x λ_ _ _ c4 _=>?_;subst c4;rfl
theorem I8{Q:ac->ag->Prop}(x:cT w.params l o)(ho:s.heap.get? a=some o)(h:Q (.type "set") s):ai (ah pw w) A (Builtin.Frozenset.baseOf a) Q E s:=ae (q9 ⟨_,ho,x.cls⟩ KG (au h))
theorem EO{Q:Bool->ag->Prop}(x:cT w.params l o)(ho:s.heap.get? a=some o)(h:Q true s):ai (ah pw w) A (Ta (.ref a)) Q E s:=ae (q9 ⟨_,ho,x.cls⟩ KG (au h))
def o8(m:List Nat)(acc:List Nat)(n:Nat):List Nat:=if n∈m then fv n acc else acc
theorem aam{acc:List Nat}{n:Nat}:x∈o8 m acc n↔x∈acc\/(x=n/\x∈m):=by
 unfold o8;by_cases q:n∈m
 ·erw[iP q];rw[oY];exact⟨λh=>h.elim (λe=>.inr ⟨e,e▸q⟩) .inl,λh=>h.elim .inr λh=>.inl h.1⟩
 ·erw[iN q];exact⟨.inl,λh=>h.elim id λh=>absurd (h.1▸h.2) q⟩
theorem afU{acc:List Nat}{n:Nat}(h:acc.Pairwise (· < ·)):(o8 m acc n).Pairwise (· < ·):=by
 unfold o8;by_cases q:n∈m
 ·erw[iP q];exact rB h
 ·erw[iN q];exact h
theorem Nq{ns acc:List Nat}(h:acc.Pairwise (· < ·)):(ns.foldl (o8 m) acc).Pairwise (· < ·)/\∀x,x∈ns.foldl (o8 m) acc↔x∈acc\/(x∈ns/\x∈m):=by
 induction ns generalizing acc with
 |nil=>exact⟨h,λx=>⟨.inl,λh=>h.elim id λh=>mN h.1⟩⟩
 |cons n ns ih=>
  refine dU (ih (afU (m:=m) (n:=n) h)) λa b=>⟨a,λx=>(b x).trans ?_⟩;rw[aam,or_assoc,<-or_and_right,jO]
theorem Qm{ns:List Nat}(p:ns.Perm l)(up:l.Pairwise (· < ·)):ns.foldl (o8 m) []=l.filter λx=>m.contains x:=tL (Nq .nil).1 (up.filter _) λx=>by
 rw[(Nq .nil).2,oE,kz,p.mem_iff];exact⟨λh=>h.elim (λh=>mN h) id,.inr⟩
theorem abq(up:l.Pairwise (· < ·))(um:m.Pairwise (· < ·)):(m.filter λx=>l.contains x)=l.filter λx=>m.contains x:=tL (um.filter _) (up.filter _) λx=>by
 rw[oE,oE,kz,kz];exact and_comm
theorem Zm{la:List Nat}:decide (∃m∈la,(m:Int)=(n:Int))=decide (n∈la):=fA ⟨λh=>by refine aB h λm a b=>?_;exact FW b▸a,λm=>(az n m rfl)⟩
theorem OM{id:String}{la lw acc:List Nat}{asked walked r:ao}{n:Nat}{es:Array (Int×ac)}{t:a8}{ew:List (Int×ac)}{ns:List Nat}{Q:ag->Prop}(ya:cT w.params la oa)(k1:bS es.toList lw)(k2:eV w.params lw t)(n1:asked≠r)(n2:walked≠r)(sm:∀x∈ns,x<6)
(ga:s.heap.get? asked=some oa)(gw:s.heap.get? walked=some (dM es n t))(he:bS ew ns)(gr:s.heap.get? r=some o)(xr:cT w.params acc o)(h:∀h' o',dD r s.heap h'->h'.get? r=some o'->cT w.params (ns.foldl (o8 la) acc) o'->Q {s with heap:=h'}):
  ai (ah pw w) A (forIn ew Ct λp _=>do
    yV [p.2] do
     if(<-setFind asked p.2 p.1).isSome then
      let _<-FV r p.2 p.1
    Tb id walked n
    pure (uU Ct)) (λ_ s'=>Q s') E s:=by
 induction ns generalizing s acc ew o with
 |nil=>
  obtain rfl:ew=[]:=he;exact aa (yU) (au (h _ _ (Cq _ _) gr xr))
 |cons i ns ih=>
  obtain⟨tk,ew,rfl,he⟩:=he;have h6:=sm i (.head _);have un:∀{R:ForInStep PUnit->ag->Prop} {h':am},h'.get? walked=some (dM es n t)->R (.yield Ct) {s with heap:=h'}->ai (ah pw w) A (Tb id walked n>>=λ_=>pure (uU Ct)) R E {s with heap:=h'}:=λ{R h'} g4 r=>by
   unfold Tb setEpoch;exact ae (ae (ae (lR (s:={s with heap:=h'}) k1 k2 g4 (au (fH (by simp) (au (au r)))))))
  have fin:=λ(h':am) (o':Obj) (b1:dD r s.heap h') (b2:h'.get? r=some o') (b3:cT w.params (o8 la acc i) o')=>ih (s:={s with heap:=h'}) (λx m=>sm x (.tail _ m)) ((b1.2 asked n1).trans ga) ((b1.2 walked n2).trans gw) he b2 b3 λh2 o2 c=>h h2 o2 (b1.trans c);rw[wO];refine ae (ae (dO (ae (aa (show setFind asked (.int (i:Int) tk) (i:Int)=setFind asked (.int (i:Int) tk) (u3 (i:Int)) by erw[DR h6];rfl) ?_))));erw[(show FV r (.int (i:Int) tk) (i:Int)=FV r (.int (i:Int) tk) (u3 (i:Int)) by refine aa (DR h6) ?_;rfl)];refine PB ya ga λq hq=>aa (hq.trans Zm) ?_;by_cases c:i∈la
  ·exact aa (dT c) (ae (Js xr gr h6 λh' o' b1 b2 b3=>au (un ((b1.2 walked n2).trans gw) (fin h' o' b1 b2 (by unfold o8;erw[iP c];exact b3)))))
  ·exact aa (dF c) (au (un gw (fin s.heap o (Cq _ _) gr (by unfold o8;erw[iN c];exact xr))))
end
end
section
variable{c:Cx}{x:Pt c}{l m:List Nat}{a:ao}{s:ag}{w:cO}{E:ac->ag->Prop}{d:Nat}{u:ac}{p:PV}
section
variable{y z:Pt c}{r acc:List Nat}{o ob oa:Obj}{t:a8}{n k:Nat}{b S I:ao}{h h':am}{es:Array (Int×ac)}{g:Nat}{A:Am d}{Ar:bh}{v:ac}{xs:List PV}{K:ao->Prop}
theorem DQ(sb:dD s.heap.objs.size (s.heap.push o) h'):∀b ob,s.heap.get? b=some ob->h'.get? b=some ob:=λb ob e=>(sb.2 b (gE (fB e))).trans (c5 _ e)
theorem C8{Q:Nat->ag->Prop}(h1:bS es.toList l)(h2:eV w.params l t)(ho:s.heap.get? a=some (dM es n t))(h:Q n s):ai (ah pw w) Ar (setEpoch a) Q E s:=ae (lR h1 h2 ho (au h))
theorem Yo{id:String}{Q:ac->ag->Prop}(xa:cT w.params l oa)(xb:cT w.params m ob)(ga:s.heap.get? a=some oa)(gb:s.heap.get? b=some ob)
(h:∀h' o',(∀c oc,s.heap.get? c=some oc->h'.get? c=some oc)->h'.get? s.heap.objs.size=some o'->cT w.params (l.filter λx=>m.contains x) o'->Q (.ref s.heap.objs.size) {s with heap:=h'}):
  ai (ah pw w) Ar (Tc id a (.ref b)) Q E s:=by
 have na:=gE (fB ga);have nb:=gE (fB gb);have xa':=xa;have xb':=xb;refine jD xa' λea ka ta c4 Ux zA=>?_;subst c4;refine jD xb' λeb kb tb c4 Uy vg=>?_;subst c4;unfold Tc;by_cases e:a=b
 ·subst e;rw[ga] at gb;obtain⟨rfl,rfl,rfl⟩:ea=eb/\ka=kb/\ta=tb:=by unfold dM at gb;simpa using gb
  obtain rfl:l=m:=by
   have q:=zA.place.symm.trans vg.place;injection q
  refine o9 (beq_self_eq_true _) ?_;unfold Builtin.Frozenset.copyOf;refine ae (I8 xa ga (ae (Jd λo xo hf=>ae (m:=za _) (au (ae (R1 (s:={s with heap:=s.heap.push o}) xo (ft _ hf) xa (c5 _ ga) (gV na) λh' o' sb g' x'=>au (h h' o' (DQ sb) g' ?_)))))));exact aa (Go.mpr λx m=>kz.mpr m) (x')
 ·refine fH (by simpa using gV e) (ae (I8 xa ga (ae (Jd λo xo hf=>ae (m:=za _) (au ?_)))));have vh:(s.heap.push o).get? a=some (dM ea ka ta):=c5 _ ga;have zB:(s.heap.push o).get? b=some (dM eb kb tb):=c5 _ gb;have Uz:(s.heap.push o).get? s.heap.objs.size=some o:=ft _ hf;refine ae (dO (ae (EO (s:={s with heap:=s.heap.push o}) xb zB (ae (m:=za _) (au (ae (Bl (s:={s with heap:=s.heap.push o}) xb zB (ae (Bl (s:={s with heap:=s.heap.push o}) xa vh ?_)))))))));by_cases q:m.length>l.length
  ·refine aa (iP q) (ae (C8 (s:={s with heap:=s.heap.push o}) Ux zA vh (ae (Sr (s:={s with heap:=s.heap.push o}) xa vh λd0 l' k1 k2=>ae (aa (by simp:d0=d0.toList.toArray) ?_)))));rw[Td];refine OM (s:={s with heap:=s.heap.push o}) xb Ux zA nb na (λx mx=>zA.small x (k2.mem_iff.mp mx)) zB vh k1 Uz xo λh' o' sb g' x'=>au (au (h h' o' (DQ sb) g' ?_));rw[Qm k2 zA.up] at x';exact x'
  ·refine aa (iN q) (ae (C8 (s:={s with heap:=s.heap.push o}) Uy vg zB (ae (Sr (s:={s with heap:=s.heap.push o}) xb zB λd0 l' k1 k2=>ae (aa (by simp:d0=d0.toList.toArray) ?_)))));rw[Td];refine OM (s:={s with heap:=s.heap.push o}) xa Uy vg na nb (λx mx=>vg.small x (k2.mem_iff.mp mx)) vh zB k1 Uz xo λh' o' sb g' x'=>au (au (h h' o' (DQ sb) g' ?_));rw[Qm k2 vg.up,abq zA.up vg.up] at x';exact x'
theorem ZH:zb table "set.__and__"=some Builtin.«frozenset.__and__»:=
 KH (id':="frozenset.__and__") ⋯ rfl (by decide+kernel) ⋯
theorem cT.rd(g:cT c.w.params l o)(e:y.f a=some o):Rd (.set l) y (.ref a):=by
 refine jD g λes n t c4 h1 h2=>?_;subst c4;exact .set e h1 h2
theorem NP{Q:ac->ag->Prop}{tk:Nat}(K:∀v y,Le x y->Rd (.set l) y v->Q v y.s)(k:∀b o,x.s.heap.get? b=some o->h'.get? b=some o)(g:h'.get? x.s.heap.objs.size=some o)(xo:cT c.w.params l o):Q (.ref x.s.heap.objs.size) {x.s with heap:=h',toks:=tk}:=
 K _ ((x.grow h' tk k).add x.s.heap.objs.size o g (x.ke (bf _))) (.add (x.cG k) g _ (eQ _)) (xo.rd pJ)
theorem Vn(ra:Rd (.set l) x v)(rb:Rd (.set m) x u):aE A (mI .BitAnd v u) x (Rd (.set (l.filter λx=>m.contains x))):=lu ra λ{a es n t} ea a1 a2=>lu rb λ{b d0 n' t'} eb b1 b2 Q E K=>by
 have xa:cT c.w.params l (dM es n t):=(j5 es n t rfl a1 a2);have xb:cT c.w.params m (dM d0 n' t'):=(j5 d0 n' t' rfl b1 b2);have ga:=x.hs _ _ ea;have gb:=x.hs _ _ eb;refine wpAny_binaryOp_same (T:="set") (id:="set.__and__") ⟨_,ga,rfl⟩ (az _ gb rfl) F.fills_set_and F.slot_set_and (uZ F.slot_set_and ⟨_,ga,rfl⟩ ZH ?_ (F.args_set_and_2 _ _));unfold Builtin.«frozenset.__and__»;refine ae (m:=Builtin.Frozenset.slot1 _ _) (au ?_);dsimp only;exact ae (aa (iN dy) (ae (EO xa ga (EO xb gb (aa (iN (dy:¬(!true)=true)) (ae (m:=za _) (au (ae (Yo xa xb ga gb λh' o' k g z=>au (cz _ rfl (λq=>nomatch q) (NP K k g z)))))))))))
@[elab_as_elim] theorem Rc{M:PV->Prop}(h:setOf (p::xs)=some l)(k:∀n l',n<6->setOf xs=some l'->fv n l'=l->M (.int (n:Int))):M p:=aj h λi h1 h2=>aL h2 λhi h3=>fM h3 λl' h4 h5=>ej h1 (by
 have e:=SK hi.1;exact e▸k i.toNat l' (by lia) h4 h5)
theorem MI(h:setOf xs=some l):l.Pairwise (· < ·):=by
 induction xs generalizing l with
 |nil=>exact ay h▸ .nil|cons p xs ih=>exact Rc (M:=λ_=>_) h λn l' _ h1 e=>e▸rB (ih h1)
theorem aaI(up:l.Pairwise (· < ·))(h:setOf (l.map λn:Nat=>PV.int n)=some r):r=l:=tL (MI h) up λx=>by
 have go:∀{l r:List Nat},setOf (l.map λn:Nat=>PV.int n)=some r->(x∈r↔x∈l):=λ{l}=>by
  induction l with
  |nil=>exact λh=>ay h▸Iff.rfl|cons n l ih=>exact λh=>aL (h:(if 0<=(n:Int)/\(n:Int)<6 then _ else none)=some _) λ_ h=>fM h λl' h1 e=>e▸oY.trans ((or_congr Iff.rfl (ih h1)).trans jO.symm)
 exact go h
structure v9{c:Cx}(S:ao)(l:List Nat)(K:ao->Prop)(x:Pt c):Prop where
 fr:bW x S
 o:∃o,x.s.heap.get? S=some o/\cT c.w.params l o
 nK:¬K S
theorem cT.nc(g:cT c.w.params l o)(e:x.s.heap.get? S=some o)(o':Obj)(e':x.s.heap.get? S=some o'):¬(o'.cls=.type "code"/\∃vs,o'.data=.fields vs):=λk=>by
 obtain rfl:=ay (e.symm.trans e');rw[g.cls] at k;exact absurd k.1 (by decide)
theorem v9.step{K':ao->Prop}(F:v9 S l K x)(st:br K g x y)(dn:∀b,K' b->K b\/x.s.heap.get? b=none):v9 S l K' y:=by
 refine aB F.o λo e z=>⟨⟨?_,F.fr.h₀,F.fr.hi⟩,(az o (st.e.keep S o e (cK F.fr.hi) F.nK) z),λk=>(dn S k).elim F.nK λq=>nS (q.symm.trans e)⟩;cases q:y.f S with
 |none=>rfl|some o=>exact(st.new S o q).elim (λq=>nS (F.fr.f.symm.trans q)) λq=>q.elim (λq=>nS (q.symm.trans e)) λq=>absurd q F.nK
theorem v9.add{tk:Nat}(F:v9 S l K x)(i:dG d I g xs K x)(sb:dD S x.s.heap h')(e:h'.get? S=some o)(z:cT c.w.params m o):∃y:Pt c,y.s={x.s with heap:=h',toks:=tk}/\v9 S m K y/\dG d I g xs K y/\∀g,br (λb=>b=S) g x y:=by
 refine aB F.o λo' e' z'=>?_;have w:∀g,Wr (λb=>b=S) g x (x.but (t:=tk) sb F.fr (z'.nc e')):=λ_=>.but rfl;exact(vL _ rfl ⟨(w 0).free F.fr,(az o e z),F.nK⟩ (i.later ⟨(w 0).sub,λb o k q=>(sb.2 b λe=>F.nK (e▸k)).trans q,λb k=>(i.live b k).1.f,λ_ _ _ q=>q⟩) (λg=>(w g).st))
structure Fl{c:Cx}(d:Nat)(x y:Pt c)(S I g:Nat)(xs:List PV)(acc:List Nat)(K:ao->Prop):Prop where
 st:cH (λb=>x.s.heap.get? b=none) x y
 it:dG d I g xs K y
 fl:v9 S acc K y
 nK:∀b,K b->x.s.heap.get? b=none
 nS:x.s.heap.get? S=none
 g1:x.s.gens.size<=g
 g2:g<=y.s.gens.size
theorem Fl.next{K':ao->Prop}{CU:List PV}(F:Fl d x y S I g xs acc K)(st:br K g y z)(i:dG d I g CU K' z)(dn:∀b,K' b->K b\/y.s.heap.get? b=none):Fl d x z S I g CU acc K':=
 ⟨br.trans F.st ((st.lower F.g1 F.g2).weaken F.nK),i,F.fl.step st dn,λb k=>(dn b k).elim (F.nK b) λn=>(F.st.e.back (cK (i.live b k).1.hi) n).elim id id,F.nS,F.g1,aq F.g2 st.e.dm⟩
theorem Fl.add{tk:Nat}(F:Fl d x y S I g xs acc K)(sb:dD S y.s.heap h')(e:h'.get? S=some o)(z:cT c.w.params m o):∃w:Pt c,w.s={y.s with heap:=h',toks:=tk}/\Fl d x w S I g xs m K:=ll (F.fl.add (tk:=tk) F.it sb e z) λw e f i st=>⟨w,e,br.trans F.st ((st _).weaken λb q=>q▸F.nS),i,f,F.nK,F.nS,F.g1,by erw[e];exact F.g2⟩
theorem Fl.tok(F:Fl d x y S I g xs acc K)(tk:Nat):∃w:Pt c,w.s={y.s with toks:=tk}/\Fl d x w S I g xs acc K:=aB F.fl.o λo e z=>F.add (Cq S y.s.heap) e z
theorem Fl.done(F:Fl d x y S I g xs acc K)(st:br K g y z):∃w:Pt c,w.s=z.s/\Le x w/\Rd (.set acc) w (.ref S):=by
 have f:=F.fl.step (K':=λ_=>False) st λ_ q=>q.elim;exact aB f.o λo e xo=>(cz (z.add S o e (cK f.fr.hi)) rfl (.add (br.le (br.trans F.st ((st.lower F.g1 F.g2).weaken F.nK)) λ_ q=>q) e _ F.nS) (xo.rd pJ))
theorem Qa{A:bh}{tk:Tok}{i:Int}{Q:Int->ag->Prop}(h:Q (u3 i) {s with toks:=s.toks+1}):ai (ah pw w) A (pyHash (.int i tk)) Q E s:=(u4 pw w).pyHash (k:=i) (KF _ _ _ _) h
theorem Xi{A:Am (d+1)}{R:mL->ag->Prop}(k:∀(w:Pt c),Le x w->∀r,Rd (.set r) w (.ref S)->(∀i,i∈r↔m.contains i=true)->r.Pairwise (· < ·)->R (.ok (.ret .none)) w.s):∀{xs:List PV} {l acc:List Nat} {y:Pt c} {K:ao->Prop},setOf xs=some l->acc.Pairwise (· < ·)->(∀i,i∈m↔i∈acc\/i∈l)->Fl d x y S I g xs acc K->eO (ah pw c.w) A.A (.builtin "set.update.loop" ⟨[.ref S,.ref I],[]⟩) R y.s:=by
 intro xs;induction xs with
 |nil=>
  intro l acc y K hs up hm F;obtain rfl:=ay hs;exact jP agu (aa (kD Te _) (ae (F.it.done A.in1 λz st=>cP (F.done st) λw e le r=>au (e▸k w le acc r (λi=>⟨λh=>kz.mpr ((hm i).mpr (.inl h)),λh=>((hm i).mp (qI h)).elim id λh=>mN h⟩) up))))
 |cons p xs ih=>
  intro l acc y K hs up hm F;refine jP agu (aa (kD Te _) (ae (F.it.next A.in1 λv K' z rd i st _ dn=>?_)));have F:=F.next st i dn;revert rd;refine Rc hs λn l' h6 h1 e rd=>bU rd λtk=>aB F.fl.o λo g1 xo=>ae (dO ?_);unfold setAdd;refine dO (ae (Qa (Js (s:={z.s with toks:=z.s.toks+1}) xo g1 h6 λh' o' sb g' x'=>au ⟨iJ Te _,?_⟩)));exact aB (F.add (tk:=z.s.toks+1) sb g' x') λw ew F=>ew▸ih h1 (rB up) (λi=>by rw[hm i,<-e,oY,oY,or_assoc,or_left_comm]) F
end
section
variable{A:bh}
theorem Zw(a:ac){Q₁:ac->ag->Prop}(h:Q₁ (.ref s.heap.objs.size) {s with heap:=s.heap.push {cls:=.type "set",dict:=none,data:=.set #[] 0 (.fresh 0 0 (!w.params.followText "set-order"))}}):
  eO (ah pw w) A (.call (.builtin "set.__new__") ⟨[.type "set",a],[]⟩) (wants Q₁ E) s:=by
 refine FG ?_;show ai _ A.in1 (do checkBuiltinCall "set.__new__" ⟨[.type "set",a],[]⟩;again (.builtin "set.__new__" ⟨[.type "set",a],[]⟩)) _ _ s;refine ae (Cf (PySem.F.newCall_set_1 a) (au ⟨iJ agv _,jP PySem.F.entry_set_new ?_⟩));erw[kD agv _];unfold Builtin.«set.__new__» Builtin.Frozenset.newClass;have ahv:=KG;obtain⟨hp,g,d,tk,os⟩:=s;dsimp only
 wp_walk
 refine oC (au ?_);dsimp only;simp only[newObj];exact ae (wpAny_alloc (au (au h)))
set_option maxHeartbeats 3200000 in
theorem PC{u:ac}{Q:ac->ag->Prop}(h:∀o,cT w.params [] o->o.isFreed=false->ai (ah pw w) A.in1.in1 (KI "set.__init__" s.heap.objs.size u) (λ_ s'=>Q (.ref s.heap.objs.size) s') E {s with heap:=s.heap.push o}):
  ai (ah pw w) A (bC (.type "set") [u]) Q E s:=by
 refine jU PySem.F.called_set.mro λc tl ahT=>?_;have ahU:=PySem.F.called_set.made;have ahv:=PySem.F.called_set.sub;refine q8 (FG ?_);show ai _ _ (callAny (.type "set") _) _ _ _;refine au ⟨Code.quiet_builtin _ (by decide+kernel),jP PySem.F.entry_type_call ?_⟩;rw[bh.under_plain (weight_type_call_type "set" [u] []) rfl];have h1:=PySem.F.called_set.notType;have h2:=PySem.F.called_set.canCreate;have hct:=PySem.F.typeCall_set_1 u
 repeat (any_goals (first|assumption|wp_step))
 refine FQ (Zw u (E:=E) (Q₁:=λobj bJ=>obj=.ref s.heap.objs.size/\bJ={s with heap:=s.heap.push {cls:=.type "set",dict:=none,data:=.set #[] 0 (.fresh 0 0 (!w.params.followText "set-order"))}}) ⟨rfl,rfl⟩) λr bJ hr=>?_;have hu:=h _ (Sf (n:=0) (mv:=0)) rfl;generalize (!w.params.followText "set-order")=led at hr hu;cases r with
 |error e=>exact hr
 |ok fl=>
  cases fl with
  |ret obj=>
   obtain⟨rfl,rfl⟩:=hr;have hS:(s.heap.push {cls:=.type "set",dict:=none,data:=.set #[] 0 (.fresh 0 0 led)}).get? s.heap.objs.size=some {cls:=.type "set",dict:=none,data:=.set #[] 0 (.fresh 0 0 led)}:=ft _ rfl;have hT:Tf {s with heap:=s.heap.push {cls:=.type "set",dict:=none,data:=.set #[] 0 (.fresh 0 0 led)}} (.ref s.heap.objs.size) "set":=(az _ hS rfl);have hli:=PySem.F.called_set.init.lookup;have hbi:=PySem.F.called_set.init.bind (.ref s.heap.objs.size)
   repeat (any_goals (first|assumption|wp_step))
   refine FQ (Tg (R:=wants (λr fQ=>r=.none/\Q (.ref s.heap.objs.size) fQ) E) PySem.F.called_set.init.plain PySem.F.entry_set_init (check_set_init_1 hT ?_)) λLM fQ LN=>?_
   ·unfold Builtin.«set.__init__» noKeywords;generalize hT:KI "set.__init__"=T at hu⊢
    wp_walk
    exact cQ hu (λ_ s' z=>au ⟨rfl,z⟩) λ_ _ z=>z
   ·cases LM with
    |error e=>exact LN
    |ok ahw=>
     cases ahw with
     |ret r=>
      obtain⟨rfl,hq⟩:=LN
      repeat (any_goals (first|assumption|wp_step))
     |_=>exact LN.elim
  |_=>exact hr.elim
end
section
variable{A:Am (d+3)}{xs:List PV}
theorem HV{T:String}(hs:setOf xs=some l)(hT:x.s.TypeIs (.ref a) T)(h1:isSubtype (.type T) (.type "set")=pure false)(h2:isSubtype (.type T) (.type "frozenset")=pure false)(h3:(iE T==iE "dict")=false)
(it:∀{A:Am d} {y:Pt c},Le x y->qJ A (gk (.ref a)) y xs):aE A (bC (.type "set") [.ref a]) x (Rd (.set l)):=λQ E K=>PC λo xo hf=>by
 have zC:Tf {x.s with heap:=x.s.heap.push o} (.ref a) T:=aB hT λoa e1 e2=>(az oa (c5 _ e1) e2);have n:=x.ui (t:=x.s.toks) hf;unfold KI Ta;refine ae (ae (q9 zC h1 (q9 zC h2 (fH dy (ae (FX zC (aa (h3) (fH dy (ae (it (A:=(A.in1.in1).mono (iH d)) (y:=x.push o x.s.toks) (x.cG _) _ _ λy I K' g le i nw g1 g2=>ae (Th ?_)))))))))));have nS:=eQ x.s.heap;have nK:∀b,K' b->x.s.heap.get? b=none:=λb k=>by
  cases e:x.s.heap.get? b with
  |none=>rfl|some ob=>nomatch (nw b k).symm.trans (c5 _ e:am.get? (x.s.heap.push o) b=some ob)
 have F:Fl d x y x.s.heap.objs.size I g xs [] K':=⟨cH.trans (x.cG (t:=x.s.toks) λ_ _=>c5 o).st le.st,i,⟨n.1.le le ⟨_,n.2⟩,(az o (le.e.keep _ _ n.2 (cK n.1.hi)) xo),λk=>nomatch (nw _ k).symm.trans n.2⟩,nK,nS,g1,g2⟩;exact Xi (m:=l) (A:=A.in1.in1) (R:=λr s'=>match r with
  |.ok (.ret v)=>ai (ah pw c.w) A.in1.in1.A (pure Ct) (λ_ s'=>Q (.ref x.s.heap.objs.size) s') E s'|.ok _=>False|.error e=>E e s') (λw le r rd hr up=>au (K _ w le (tL up (MI hs) (λi=>(hr i).trans kz)▸rd))) hs .nil (λi=>⟨.inr,λh=>h.elim (λh=>mN h) id⟩) F
theorem C_(h:eH p setOf=some l)(r:Rd p x u):aE A (bC (.type "set") [u]) x (Rd (.set l)):=fZ h λhn h=>by
 induction p using dg with
 |tup xs=>exact iT r λ{a n vs} e rl z=>HV (xs:=xs) h (az _ (x.hs _ _ e) rfl) PySem.F.sub_tuple_set PySem.F.sub_tuple_frozenset (by decide) λle=>O2 (.tup (le.sub _ _ e) (rl.mono le.sub) z)|list xs=>exact dX r λ{a n vs} e rl z=>HV (xs:=xs) h (az _ (x.hs _ _ e) rfl) agw agx (by decide) λle=>D6 (.list (le.sub _ _ e) (rl.mono le.sub) z)|d8 lo hi=>exact qA r λ{a t u z} e z1 z2 z3=>HV h (az _ (x.hs _ _ e) rfl) PySem.F.sub_range_set PySem.F.sub_range_frozenset (by decide) λle=>GW (.d8 (le.sub _ _ e) z1 z2 z3)
 |set m=>
  refine lu r λ{a es n t} e he ht Q E K=>?_;obtain rfl:=aaI ht.up (xF (h:qy m setOf=some l) (B6 _));have ga:=x.hs _ _ e;refine PC λo xo hf=>?_;have xa:cT c.w.params l (dM es n t):=(j5 es n t rfl he ht);have LO:(x.s.heap.push o).get? a=some (dM es n t):=c5 _ ga;unfold KI;refine ae (EO (s:={x.s with heap:=x.s.heap.push o}) xa LO (o9 rfl (ae (m:=za _) (au ?_))));unfold Builtin.Frozenset.merge;exact ae (C8 (s:={x.s with heap:=x.s.heap.push o}) he ht LO (R1 (s:={x.s with heap:=x.s.heap.push o}) xo (ft _ hf) xa LO (fO (fB ga)) λh' o' sb g' x'=>NP K (DQ sb) g' x'))
 |inst=>exact absurd rfl hn|_=>exact nS h
end
theorem Qv:Manifest.owners.lookup (String.ofList ['r','o','t','a','r','e','t','i','_','t','e','s'].reverse)=some Manifest.sig_set_iterator:=⋯
theorem OF:Slot "set_iterator" "__iter__" "set_iterator.__iter__":=
 .of (owner:="set_iterator") (n:="__iter__") (by rw[typeLookup_type,builtinLookup_eq_fast];rfl') (by decide+kernel) (by decide+kernel) (by decide+kernel)
  (by first|exact .inl (by decide+kernel)|exact .inr (by decide+kernel)) (by rw[isSubtype_type];rfl')
theorem YN:zb table "set_iterator.__iter__"=some Builtin.«dict_keyiterator.__iter__»:=
 KH (id':="dict_keyiterator.__iter__") ⋯ (by first|rfl|decide+kernel|(unfold String.splitOn;simp+decide [String.splitOnAux])) (by decide+kernel) ⋯
theorem YH(a:ac):argsOk "set_iterator.__iter__" ⟨[a],[]⟩:=by
 unfold argsOk;rw[signature?_of (id:="set_iterator.__iter__") (n:=['_','_','r','e','t','i','_','_']) (o:=['r','o','t','a','r','e','t','i','_','t','e','s']) ⋯ Qv];rfl'
theorem yr:Slot "set_iterator" "__next__" "set_iterator.__next__":=
 .of (owner:="set_iterator") (n:="__next__") (by rw[typeLookup_type,builtinLookup_eq_fast];rfl') (by decide+kernel) (by decide+kernel) (by decide+kernel)
  (by first|exact .inl (by decide+kernel)|exact .inr (by decide+kernel)) (by rw[isSubtype_type];rfl')
theorem PY:zb table "set_iterator.__next__"=some Builtin.«set_iterator.__next__»:=Ti ⋯
theorem PS(a:ac):argsOk "set_iterator.__next__" ⟨[a],[]⟩:=by
 unfold argsOk;rw[signature?_of (id:="set_iterator.__next__") (n:=['_','_','t','x','e','n','_','_']) (o:=['r','o','t','a','r','e','t','i','_','t','e','s']) ⋯ Qv];rfl'
theorem ϖ:zb table "set.__iter__"=some Builtin.«frozenset.__iter__»:=
 KH (id':="frozenset.__iter__") ⋯ rfl (by decide+kernel) ⋯
section
variable{A:bh}{o:Obj}{it:ao}{es:Array (Int×ac)}{ep k:Nat}{t:a8}
noncomputable def qO(w:cO)(a:ao)(ep:Nat)(es:Array (Int×ac)):Array (Int×ac):=if w.params.followText "set-order"=true then pickOrder (w.params.setOrder a ep) es else es
noncomputable def wm(w:cO)(l:List Nat)(k:Nat):Nat:=if w.params.followText "set-order"=true then 0 else if k=0 then 0 else l.getD (k-1) 0+1
theorem ab9:(pn 0 6).all (λl=>(ax (l.length+1)).all λk=>pU l.toArray (if k=0 then 0 else l.getD (k-1) 0+1)==k)=true:=⋯
theorem Yz{Q:Option (ac×Nat)->ag->Prop}(h1:bS es.toList l)(h2:eV w.params l t)(ho:s.heap.get? a=some (dM es ep t))(hk:k<=l.length)
(h:Q (((qO w a ep es)[k]?).map λe=>(e.2,wm w l (k+1))) s):ai (ah pw w) A (setNext a (wm w l k) k ep) Q E s:=by
 unfold qO wm at h;unfold setNext Cr wm;refine ae (lR h1 h2 ho (ae (ae (oC (au ?_)))));cases hb:w.params.followText "set-order" with
 |true=>
  rw[hb] at h;refine aa (hb:(ah pw w).w.params.followText "set-order"=true) (o9 rfl (fH (by simp) ?_));unfold setWalk Cr;refine ae (ae (lR h1 h2 ho (ae (ae (oC (au (o9 hb (ae (oC (au (au h)))))))))))
 |false=>
  rw[hb] at h;refine aa (hb:(ah pw w).w.params.followText "set-order"=false) (fH dy (fH (c:=(!t.plain&&decide (es.size>1))=true) (by erw[h2.plain];exact dy) (ae (fH (c:=(!t.led&& !es.isEmpty)=true) (by erw[h2.led];erw[hb];exact dy) (au ?_)))));simp only[yW,if_false] at h⊢;refine aa (h2.place) (aa (a5 (b7 (b7 ab9 l h2.sub) k (dL (kA hk)))) ?_);by_cases c:k<l.length
  ·have e1:es[k]?=some (es[k]'(h1.size.symm▸c)):=tn _;rw[e1] at h;refine aa (e1) (aa (re) ?_);erw[jM c];simp only[Option.map_some,rg,if_false,wX] at h;rw[tA,jM c] at h;exact au h
  ·have e1:es[k]?=none:=Ki (h1.size▸cZ c);rw[e1] at h⊢;exact au h
def wC(w:cO)(l:List Nat)(h:am)(it a:ao)(ep k:Nat):Prop:=h.get? it=some {cls:=.type "set_iterator",data:=.fields #[c6 (wm w l k),c6 k,.ref a,c6 l.length,c6 ep]}
theorem Sh(h:bS es.toList l):∃l',bS (qO w a ep es).toList l'/\l'.Perm l:=by
 unfold qO;by_cases q:w.params.followText "set-order"=true
 ·erw[iP q];exact h.perm (P9 _ es)
 ·erw[iN q];exact(az l h (.refl _))
theorem IP(h:bS es.toList l):(qO w a ep es).size=l.length:=aB (Sh (w:=w) (a:=a) (ep:=ep) h) λl' k1 k2=>k1.size.trans k2.length_eq
theorem bS.at_{es:List (Int×ac)}(h:bS es l){e:Int×ac}(q:es[k]?=some e):∃(n:Nat) (t:Tok),l[k]?=some n/\e.2=.int (n:Int) t:=by
 induction l generalizing es k with
 |nil=>obtain rfl:es=[]:=h;exact nS q
 |cons n l ih=>
  obtain⟨tk,r,rfl,h⟩:=h;induction k using m8 with
  |zero=>exact(de n tk rfl (ay q▸rfl))|succ k=>exact ih h q
theorem Ql{Q:ac->ag->Prop}(hit:wC w l s.heap it a ep k)(h1:bS es.toList l)(h2:eV w.params l t)(ho:s.heap.get? a=some (dM es ep t))(hk:k<=l.length)
(h:ai (ah pw w) A (match((qO w a ep es)[k]?).map λe=>(e.2,wm w l (k+1)) with
   |some (x,next)=>do
    setField (.ref it) 0 (c6 next)
    setField (.ref it) 1 (c6 ((k:Int)+1))
    ret x
   |none=>do setField (.ref it) 2 .none;raiseNew (<-newExc (.type "StopIteration") [])) (λfin s'=> ∃v,fin=.done (.ret v)/\Q v s') E s):
  ai (ah pw w) A (Builtin.«set_iterator.__next__» ⟨[.ref it],[]⟩) (λfin s'=> ∃v,fin=.done (.ret v)/\Q v s') E s:=by
 unfold Builtin.«set_iterator.__next__»;refine ae (m:=slotArgs _ _ _) (au ?_);dsimp only;refine ae (wpAny_fieldsOf hit rfl ?_);dsimp only[c6];unfold setEntries;refine ae (ae (lR h1 h2 ho (au (fH (by erw[h1.size];simp) ?_))));exact ae (Yz h1 h2 ho hk h)
theorem VZ{e:Int×ac}{Q:Option ac->ag->Prop}(hit:wC w l s.heap it a ep k)(h1:bS es.toList l)(h2:eV w.params l t)(ho:s.heap.get? a=some (dM es ep t))(he:(qO w a ep es)[k]?=some e)
(h:∀h',wC w l h' it a ep (k+1)->dD it s.heap h'->Q (some e.2) {s with heap:=h'}):ai (ah pw w) A (gm (.ref it)) Q E s:=by
 have hk:k<=l.length:=IP (w:=w) (a:=a) (ep:=ep) h1▸cZ λq=>nS ((Ki (cy q)).symm.trans he);have hT:s.TypeIs (.ref it) "set_iterator":=(az _ hit rfl);unfold gm;refine ae (KJ (KA (name:=dw "__next__") hT yr
  (uZ yr hT PY (Ql hit h1 h2 ho hk ?_) (PS _))))
 erw[he];dsimp only[Option.map_some];refine ae (Tj hit (by simp) λg1 e1 b1=>ae (Tj (s:={s with heap:=g1}) e1 (by simp) λg2 e2 b2=>au (az _ rfl (au (h g2 ?_ (b1.trans b2))))));unfold wC;erw[e2];rfl
theorem ab4{Q:Option ac->ag->Prop}(hh:A.handled=none)(hit:wC w l s.heap it a ep l.length)(h1:bS es.toList l)(h2:eV w.params l t)(ho:s.heap.get? a=some (dM es ep t))
(h:∀h',am.ExtBut it s.heap h'->Q none {s with heap:=h'}):ai (ah pw w) A (gm (.ref it)) Q E s:=by
 have he:(qO w a ep es)[l.length]?=none:=Ki (aD (IP h1));have hT:s.TypeIs (.ref it) "set_iterator":=(az _ hit rfl);unfold gm;refine ae (KJ (KA (name:=dw "__next__") hT yr
  (uZ yr hT PY (Ql hit h1 h2 ho (bf _) ?_) (PS _))))
 erw[he];dsimp only[Option.map_none];refine ae (Tj hit (by simp) λg1 e1 b1=>ae ?_);simp only[newExc,newTuple];refine ae (uW ?_ (by size_fits));refine ae (m:=KM _ _) (Cf (a:=oj) (by first|rfl|(simp only[KM];rfl)) (uW ?_ (by size_fits)));unfold raiseNew;refine ae (wpAny_handled (aa (hh:A.in1.handled=none) (ae (au (wpAny_throw ?_)))));refine ae (q9 (T:="StopIteration") (b:=true) (az _ (ft _ rfl) rfl) isSubtype_stop ?_);exact au (h _ (((dD.extBut b1).push _).push _))
theorem Walks.set{I:ao}(hh:A.handled=none)(jQ:a≠I)(h1:bS es.toList l)(h2:eV w.params l t):
  Walks pw w A I [I,a] [I] l.length (λi v=> ∃e,(qO w a ep es)[i]?=some e/\e.2=v) (λi h=>wC w l h I a ep i/\h.get? a=some (dM es ep t)) where
 sub:=λb hb=>by simp at hb;simp[hb]
 frame:=λ_ _ _ st hk=>⟨hk I (by simp) _ st.1,hk a (by simp) _ st.2⟩
 item:=λi s Q E hi st hQ=>by
  have eZ:i<(qO w a ep es).size:=(IP h1).symm▸hi;refine VZ st.1 h1 h2 st.2 (tn eZ) λh' ahx mZ=>?_;exact hQ _ h' s.toks (az _ (tn eZ) rfl) ⟨ahx,by erw[mZ.2 a jQ];exact st.2⟩ λb o hb e=>mZ.extBut b o (λh=>hb (by simp[h])) e
 done:=λs Q E st hQ=>ab4 hh st.1 h1 h2 st.2 λh' he'=>hQ h' s.toks λb o hb e=>he' b o (λh=>hb (by simp[h])) e
 self:=λ_ s Q E st hQ=>by
  have hT:s.TypeIs (.ref I) "set_iterator":=(az _ st.1 rfl);refine wpAny_pyIter_slot hT OF (uZ OF hT YN ?_ (YH _));show ai _ _ (ret (.ref I)) _ _ s;exact au ⟨_,rfl,"set_iterator",_,hT,yr.lookup,hQ⟩
theorem aeV{Q:ac->ag->Prop}(h1:bS es.toList l)(h2:eV w.params l t)(ho:s.heap.get? a=some (dM es ep t))
(h:Q (.ref s.heap.objs.size) {s with heap:=s.heap.push {cls:=.type "set_iterator",data:=.fields #[c6 0,c6 0,.ref a,c6 l.length,c6 ep]}}):ai (ah pw w) A (gk (.ref a)) Q E s:=by
 have hT:s.TypeIs (.ref a) "set":=(az _ ho rfl);refine wpAny_pyIter_slot hT agy (uZ agy hT ϖ ?_ (PySem.F.args_set_iter_1 _));unfold Builtin.«frozenset.__iter__»;refine ae (m:=Builtin.Frozenset.slot0 _ _) (au (ae (Bl (j5 es ep t rfl h1 h2) ho ?_)));unfold setDrawn Cr;refine ae (ae (lR h1 h2 ho (ae (ae (oC (au (au (fH (c:=(!w.params.followText "set-order" &&(!t.plain&&decide (es.size>1)))=true) (by erw[h2.plain];simp) (ae (au (ae (C8 h1 h2 ho ?_))))))))))));exact ae (uW (au ⟨_,rfl,"set_iterator",_,(az _ (ft _ rfl) rfl),yr.lookup,h⟩))
end
section
variable{A:Am d}{v:ac}{β:Type}{k:List PV->Option β}{r:β}
theorem Rb(rd:Rd (.set l) x v):∃l':List Nat,l'.Perm l/\∀{A:Am d} {x':Pt c},Sub x.f x'.f->uA A (gk v) x' (l'.map λn:Nat=>PV.int n):=lu rd λ{a es ep t} h0 he ht=>by
 refine aB (Sh (w:=c.w) (a:=a) (ep:=ep) he) λl' k1 k2=>(az l' k2 (λ{A x} sub=>?_));have h:=sub _ _ h0;have jQ:a≠x.s.heap.objs.size:=gE (fB (x.hs _ _ h));refine Eg (o:={cls:=.type "set_iterator",data:=.fields #[c6 0,c6 0,.ref a,c6 l.length,c6 ep]}) (T:="set_iterator") (λA=>Walks.set (I:=x.s.heap.objs.size) (ep:=ep) A.ok.handled jQ he ht) (by rw[bi,k2.length_eq]) (λi v p e1 e2=>?_) (λb hb=>?_) (λi h st=>(az _ st.1 rfl)) (by decide) (by decide) ⟨?_,c5 _ (x.hs _ _ h)⟩ (λQ E q=>aeV he ht (x.hs _ _ h) q)
 ·refine aB e1 λe e3 bZ=>?_;subst bZ;rw[<-agg] at e3;refine eJ (k1.at_ e3) λn tk e4 e5=>?_;rw[oy,e4] at e2;exact ay e2▸e5▸ .int
 ·exact(bw hb).imp id λq=>⟨_,(af x.f (cY q)).trans h⟩
 ·unfold wC wm;erw[iP rfl];rw[ite_self];exact ft _ rfl
theorem SB(rd:Rd (.set l) x v):∃l':List Nat,l'.Perm l/\∀{A:Am d} {x':Pt c},Sub x.f x'.f->qJ A (gk v) x' (l'.map λn:Nat=>PV.int n):=aB (Rb (d:=d) rd) λl' p g=>(az l' p (λs=>(g s).i))
theorem v_(h:over p k=some r)(hn:p.pe=false)(rd:Rd p x v):∃xs,k xs=some r/\qJ A (gk v) x xs:=by
 induction p using dg with
 |tup l=>exact⟨l,h,O2 rd⟩|list l=>exact⟨l,h,D6 rd⟩|d8=>exact(az _ h (GW rd))
 |set l=>
  exact aB (SB (d:=d) rd) λl' p g=>(az _ (xF (h:qy l k=some r) p) (g λ_ _ e=>e))
 |inst=>exact tf hn|_=>exact nS h
end
end
section
variable{c:Cx}{x y:Pt c}{d g:Nat}{v u:ac}{a S:ao}{xs:List PV}{O:aK}
section
set_option tactic.hygienic true
theorem Sa:zb table "frozenset.intersection.loop"=some Builtin.«frozenset.intersection.loop»:=Ti ⋯
theorem D0:plainId "frozenset.intersection.loop"=true:=by decide+kernel
theorem aa':zb table "set.intersection"=some Builtin.«frozenset.intersection»:=
 KH (id':="frozenset.intersection") ⋯ rfl (by decide+kernel) ⋯
section
variable{l m acc:List Nat}{I:ao}{dW:List Int}{n:Nat}{es:Array (Int×ac)}{t:a8}{K:ao->Prop}{ls:List PV}
theorem Nm(h:qd ls=some dW):ls=dW.map PV.int:=by
 induction ls generalizing dW with
 |nil=>refine hH (ay h) ?_;rfl
 |cons p ls ih=>
  unfold qd at h ih;rw[qY] at h;refine aj h λi h1 h=>aj h λr h2 h=>?_;obtain rfl:=ay h;exact ej h1 (af _ (ih h2))
theorem a_(ul:l.Pairwise (· < ·)):∀{m:List Nat},m.Pairwise (· < ·)->(∀x∈m,x∈l)->m.Sublist l:=by
 induction l with
 |nil=>
  intro m _ h;induction m using bO with
  |nil=>exact .slnil|cons a m=>exact mN (h a (.head _))
 |cons a l ih=>
  intro m um h;have ul:=lY ul;have rest:∀{m:List Nat},m.Pairwise (· < ·)->(∀x∈m,x∈a::l)->(∀x∈m,a<x)->m.Sublist l:=λum h g=>ih ul.2 um λx mx=>(bw (h x mx)).elim (λq=>absurd (g x mx) (q▸cV _)) id;induction m using bO with
  |nil=>exact Tk _
  |cons b m=>
   have UA:=lY um;by_cases e:b=a
   ·subst e;exact .cons_cons _ (rest UA.2 (λx mx=>h x (.tail _ mx)) UA.1)
   ·have lb:=ul.1 b ((bw (h b (.head _))).resolve_left e);exact .cons _ (rest um h λx mx=>ba lb (E6 um mx))
theorem XU{r:List Nat}(up:l.Pairwise (· < ·))(ur:r.Pairwise (· < ·))(h:∀x,x∈r↔x∈l/\(x:Int)∈dW):r=l.filter λx:Nat=>dW.contains (x:Int):=
 tL ur (up.filter _) λx=>by rw[h x,oE,kz]
theorem Vt{A:Am (d+1)}{R:mL->ag->Prop}{ep:Nat}(ea:x.f a=some (dM es ep t))(a1:bS es.toList l)(a2:eV c.w.params l t)(k:∀(w:Pt c),Le x w->∀r,Rd (.set r) w (.ref S)->r.Pairwise (· < ·)->(∀i,i∈r↔i∈l/\(i:Int)∈dW)->R (.ok (.ret .none)) w.s):
  ∀{js:List Int} {acc:List Nat} {y:Pt c} {K:ao->Prop},acc.Pairwise (· < ·)->(∀i:Nat,i∈l/\(i:Int)∈dW↔i∈acc\/(i∈l/\(i:Int)∈js))->Fl d x y S I g (js.map PV.int) acc K->eO (ah pw c.w) A.A (.builtin "frozenset.intersection.loop" ⟨[.ref a,.ref I,.ref S],[]⟩) R y.s:=by
 intro js;have xa:cT c.w.params l (dM es ep t):=(j5 es ep t rfl a1 a2);induction js with
 |nil=>
  intro acc y K up hm F;exact jP Sa (aa (kD D0 _) (ae (F.it.done A.in1 λz st=>cP (F.done st) λw e le r=>au (e▸k w le acc r up λi=>⟨λh=>(hm i).mpr (.inl h),λh=>((hm i).mp h).elim id λh=>mN h.2⟩))))
 |cons j js ih=>
  intro acc y K up hm F;refine jP Sa (aa (kD D0 _) (ae (F.it.next A.in1 λv K' z rd i st _ dn=>?_)));have F1:=F.next st i dn;have sub:∀{z:Pt c},cH (λb=>x.s.heap.get? b=none) x z->z.s.heap.get? a=some (dM es ep t):=λl=>_root_.Mine.Pt.hs _ _ _ (l.sub _ _ ea);refine bU rd λtk=>ae (dO (Qa (ae (dO (PB (s:={z.s with toks:=z.s.toks+1}) xa (sub F1.st) λq hq=>?_)))));by_cases c:∃n∈l,(n:Int)=j
  ·obtain⟨n,hn,rfl⟩:=c;have CV:∀i:Nat,i∈l/\(i:Int)∈dW↔i∈fv n acc\/(i∈l/\(i:Int)∈js):=λi=>(hm i).trans ⟨λh=>h.elim (λh=>.inl (oY.mpr (.inr h))) λh=>(bw h.2).elim (λe=>.inl (oY.mpr (.inl (FW e)))) λq=>.inr ⟨h.1,q⟩,λh=>h.elim (λh=>(oY.mp h).elim (λe=>.inr ⟨e▸hn,e▸ .head _⟩) .inl) λh=>.inr ⟨h.1,.tail _ h.2⟩⟩;refine aB F1.fl.o λo g1 xo=>o9 (hq.trans (dT (az n hn rfl))) (ae (dO (Js (s:={z.s with toks:=z.s.toks+1}) xo g1 (a2.small n hn) λh' o' sb g' x'=>aB (F1.add (tk:=z.s.toks+1) sb g' x') λw ew F2=>?_)));have gw:h'.get? a=some (dM es ep t):=af (λs:ag=>s.heap.get? a) ew▸sub F2.st;refine ae (Bl (s:={z.s with heap:=h',toks:=z.s.toks+1}) x' g' (ae (Bl (s:={z.s with heap:=h',toks:=z.s.toks+1}) xa gw ?_)));by_cases cl:l.length<=(fv n acc).length
   ·have e:=(a_ a2.up (rB up) λi h=>((CV i).mpr (.inl h)).1).eq_of_length_le cl;exact cP (F2.done .refl) λw' e' le r=>o9 cl (ae (uV (au (ew▸e'▸k w' le _ r (rB up) λi=>⟨λh=>(CV i).mpr (.inl h),λh=>e.symm▸h.1⟩))))
   ·exact fH cl (au ⟨iJ D0 _,ew▸ih (rB up) CV F2⟩)
  ·obtain⟨w,ew,F2⟩:=F1.tok (z.s.toks+1);exact fH (by erw[hq];erw[dF c];exact dy) (au ⟨iJ D0 _,ew▸ih up (λi=>(hm i).trans ⟨λh=>h.imp id λh=>⟨h.1,(bw h.2).elim (λe=>absurd ⟨i,h.1,e⟩ c) id⟩,λh=>h.imp id λh=>⟨h.1,.tail _ h.2⟩⟩) F2⟩)
theorem Vh{A:Am (d+3)}(hv:qd ls=some dW)(ra:Rd (.set l) x v)(rb:Rd (.list ls) x u):aE A (bC (.builtin "set.intersection") [v,u]) x (Rd (.set (l.filter λx:Nat=>dW.contains (x:Int)))):=by
 have LP:=rb;revert LP;obtain rfl:=Nm hv;refine lu ra λ{a es n t} ea a1 a2=>dX rb λ{b m vs} eb _ _ LP Q E K=>?_;have xa:cT c.w.params l (dM es n t):=(j5 es n t rfl a1 a2);have ga:=x.hs _ _ ea;refine uZ agz (az _ ga rfl) aa' ?_ (PySem.F.args_set_intersection_2 _ _);unfold Builtin.«frozenset.intersection»;refine ae (m:=Builtin.Frozenset.manyOthers _ _) (au (fH dy (ae ?_)));rw[wO];refine ae (ae (dO (ae (m:=za _) (au ?_))));unfold Tc;refine fH (λq=>by
  cases a5 q;exact absurd (af uX (ay (ea.symm.trans eb))) (by show ¬(iE "set"=iE "list");decide)) (ae (I8 xa ga (ae (Jd λo xo hf=>ae (m:=za _) (au (ae (dO (ae ?_))))))))
 have n:=x.ui (t:=x.s.toks) hf;have zC:Tf {x.s with heap:=x.s.heap.push o} (.ref b) "list":=(az _ (c5 _ (x.hs _ _ eb)) rfl);unfold Ta;refine ae (q9 zC agw (q9 zC agx (fH dy (ae (D6 (A:=(A.in1).mono (e:=d) (by lia)) (x:=x.push o x.s.toks) LP _ _ λy I K' g le i nw g1 g2=>ae (Th ?_))))));have nS:=eQ x.s.heap;have nK:∀b,K' b->x.s.heap.get? b=none:=λb k=>by
  cases e:x.s.heap.get? b with
  |none=>rfl|some ob=>nomatch (nw b k).symm.trans (c5 _ e:am.get? (x.s.heap.push o) b=some ob)
 have F:Fl d x y x.s.heap.objs.size I g (dW.map PV.int) [] K':=⟨cH.trans (x.cG (t:=x.s.toks) λ_ _=>c5 o).st le.st,i,⟨n.1.le le ⟨_,n.2⟩,(az o (le.e.keep _ _ n.2 (cK n.1.hi)) xo),λk=>nomatch (nw _ k).symm.trans n.2⟩,nK,nS,g1,g2⟩;refine Vt (A:=(A.in1).mono (e:=d+1) (by lia)) ea a1 a2 (λw le r rd up hr=>?_) .nil (λi=>⟨.inr,λh=>h.elim (λh=>mN h) id⟩) F;refine au (au (au ?_));dsimp only;exact aa (yU) (au (au (az _ rfl (K _ w le (XU a2.up up hr▸rd)))))
theorem B_{A:Am d}{pl:Sem Bool}{Q:ac×List ac->ag->Prop}{E:ac->ag->Prop}(r:Rd (.set l) x v)(h:Q (.builtin "set.intersection",[v]) x.s):ai (ah pw c.w) A.A (Ce v "intersection" pl) Q E x.s:=by
 revert h;refine lu r λ{a es n t} ea _ _ h=>getMethod_builtin (az _ (x.hs _ _ ea) rfl) PySem.F.plainAttrs_set agz PySem.F.type_set_intersection (λb e=>?_) h;injection e with e
 exact e▸(az _ (x.hs _ _ ea) rfl)
end
end
structure Bx{c:Cx}(x y:Pt c)(S:ao)(φ:Obj->Prop):Prop where
 st:cH (λb=>x.s.heap.get? b=none) x y
 o:∃o,y.s.heap.get? S=some o/\φ o
 fr:bW y S
 nS:x.s.heap.get? S=none
structure BI{c:Cx}(d:Nat)(x y:Pt c)(S I g:Nat)(xs:List PV)(K:ao->Prop)(φ:Obj->Prop):Prop where
 b:Bx x y S φ
 it:dG d I g xs K y
 nK:∀b,K b->x.s.heap.get? b=none
 dj:¬K S
 g1:x.s.gens.size<=g
 g2:g<=y.s.gens.size
def eh(us:List ac)(o:Obj):Prop:=∃n,o=bu us n
section
variable{z w:Pt c}{I:ao}{φ ψ:Obj->Prop}{K K':ao->Prop}{CU:List PV}{h':am}{o:Obj}{tk:Nat}{us:List ac}{ps:List PV}
theorem Bx.new(hf:o.isFreed=false)(p:φ o):Bx x (x.push o tk) x.s.heap.objs.size φ:=⟨(x.cG _).st,(az o (ft _ hf) p),(Pt.ui hf).1,eQ _⟩
theorem Bx.le(b:Bx x y S φ)(l:Le y z):Bx x z S φ:=aB b.o λo e p=>⟨cH.trans b.st l.st,(az o (l.e.keep S o e (cK b.fr.hi)) p),b.fr.le l ⟨o,e⟩,b.nS⟩
theorem Bx.but(b:Bx x y S φ)(nc:∀o,φ o->o.cls≠ .type "code")(sb:dD S y.s.heap h')(e:h'.get? S=some o)(p:ψ o):∃w:Pt c,w.s={y.s with heap:=h',toks:=tk}/\w.f=y.f/\Bx x w S ψ/\∀g,br (λb=>b=S) g y w:=by
 refine aB b.o λo' e' p'=>?_;have n:∀o,y.s.heap.get? S=some o->¬(o.cls=.type "code"/\∃vs,o.data=.fields vs):=λo k q=>nc o (ay (e'.symm.trans k)▸p') q.1;have w:∀g,Wr (λb=>b=S) g y (y.but (t:=tk) sb b.fr n):=λ_=>.but rfl;exact(vL (y.but (t:=tk) sb b.fr n) rfl rfl ⟨br.trans b.st ((w _).st.weaken λq k=>k▸b.nS),(az o e p),(w 0).free b.fr,b.nS⟩ (λg=>(w g).st))
theorem Bx.to(b:Bx x y S φ):Le x y:=br.le b.st λ_ q=>q
theorem BI.next(F:BI d x y S I g xs K φ)(st:br K g y z)(i:dG d I g CU K' z)(dn:∀b,K' b->K b\/y.s.heap.get? b=none):BI d x z S I g CU K' φ:=by
 refine aB F.b.o λo e p=>?_;have nf:z.f S=none:=by
  cases q:z.f S with
  |none=>rfl|some o'=>exact(st.new S o' q).elim (λq=>nS (F.b.fr.f.symm.trans q)) λq=>q.elim (λq=>nS (q.symm.trans e)) λq=>absurd q F.dj
 exact⟨⟨br.trans F.b.st ((st.lower F.g1 F.g2).weaken F.nK),(az o (st.e.keep S o e (cK F.b.fr.hi) F.dj) p),⟨nf,F.b.fr.h₀,F.b.fr.hi⟩,F.b.nS⟩,i,λb k=>(dn b k).elim (F.nK b) λn=>(F.b.st.e.back (cK (i.live b k).1.hi) n).elim id id,λk=>(dn S k).elim F.dj λq=>nS (q.symm.trans e),F.g1,aq F.g2 st.e.dm⟩
theorem BI.end_(F:BI d x y S I g xs K φ)(st:br K g y z):Bx x z S φ:=by
 refine aB F.b.o λo e p=>?_;have nf:z.f S=none:=by
  cases q:z.f S with
  |none=>rfl|some o'=>exact(st.new S o' q).elim (λq=>nS (F.b.fr.f.symm.trans q)) λq=>q.elim (λq=>nS (q.symm.trans e)) λq=>absurd q F.dj
 exact⟨br.trans F.b.st ((st.lower F.g1 F.g2).weaken F.nK),(az o (st.e.keep S o e (cK F.b.fr.hi) F.dj) p),⟨nf,F.b.fr.h₀,F.b.fr.hi⟩,F.b.nS⟩
theorem BI.le(F:BI d x y S I g xs K φ)(l:Le y z):BI d x z S I g xs K φ:=⟨F.b.le l,F.it.later (cH.later (W:=λ_=>False) l.st F.it.live λ_ _=>id),F.nK,F.dj,F.g1,aq F.g2 l.e.dm⟩
theorem BI.but(F:BI d x y S I g xs K φ)(nc:∀o,φ o->o.cls≠ .type "code")(sb:dD S y.s.heap h')(e:h'.get? S=some o)(p:ψ o):∃w:Pt c,w.s={y.s with heap:=h',toks:=tk}/\w.f=y.f/\BI d x w S I g xs K ψ:=by
 refine ll (F.b.but (tk:=tk) nc sb e p) λw e1 e2 b st=>⟨w,e1,e2,b,F.it.later (cH.later (st _) F.it.live λb k q=>F.dj (q▸k)),F.nK,F.dj,F.g1,?_⟩;exact aa (e1) (F.g2)
theorem BI.mk'(b:Bx x y S φ)(l:Le y z)(i:dG d I g xs K z)(nw:∀b,K b->y.s.heap.get? b=none)(g1:y.s.gens.size<=g)(g2:g<=z.s.gens.size):BI d x z S I g xs K φ:=aB b.o λo e p=>⟨b.le l,i,λq k=>(b.st.e.back (cK (i.live q k).1.hi) (nw q k)).elim id id,λk=>nS ((nw S k).symm.trans e),aq b.st.e.dm g1,g2⟩
theorem eh.nc(o:Obj)(h:eh us o):o.cls≠ .type "code":=by
 obtain⟨n,rfl⟩:=h;show(iE "list")≠iE "code";decide
theorem Bx.rd(b:Bx x y S (eh us))(r:bt ps y us)(hz:ps.length<=aA):∃w:Pt c,w.s=y.s/\Le x w/\Rd (.list ps) w (.ref S):=by
 refine bE λgG hG=>?_;obtain⟨o,e,n,rfl⟩:=b.o;exact hG ((cz (y.add S _ e (cK b.fr.hi)) rfl (.add b.to e _ b.nS) (.list pJ (r.mono Pt.Aa) hz)))
end
section
variable{A:Am d}{l:List PV}{i:Int}{z r:Str}
theorem abV(dW:List Int)(j:Nat)(h:j<=dW.length):preSum (λi=>dW.getD i 0) j=(dW.take j).sum:=by
 induction j with
 |zero=>rfl
 |succ j ih=>
  unfold preSum;refine aa (ih (cy h)) (aa (List.take_succ_eq_append_getElem h) (aa (List.sum_append) (aa (tA) ?_)));erw[jM h];exact af _ (uS _).symm
theorem acM(h:qq l=some i)(r:Rd (.list l) x v):aE A (bC (.builtin "sum") [v]) x (Rd (.int i)):=fM h λdW h1 h2=>by
 subst h2;obtain rfl:=Nm h1;refine dX r λ{a n vs} e rl hz Q E K=>?_;have hl:x.s.heap.IsList a vs.toArray:=lC e;have hn:vs.length=dW.length:=rl.length.trans (bi _);have la:=fB (x.hs _ _ e);refine call_sum_walkG (wpAny_pyIter_list hl ⟨_,_,_,_,_,_,λi=>dW.getD i 0,rfl,Walks.list (A:=A.A.in1) A.ok.handled x.s.heap.objs.size a (gE la) vs.toArray,⟨(cz _ (ft _ rfl) rfl rfl),hl.push _⟩,λb hb=>?_,λi v e=>?_,λh' tk t' k=>?_⟩)
 ·rw[oA];exact(bw hb).elim (λe=>e▸i5 _) λhb=>cY hb▸KN la
 ·have e':vs[i]?=some v:=re.symm.trans e;have hi:i<dW.length:=hn▸(zq.mp e').1;refine aB (rl.get (i:=i) (p:=.int dW[i]) (by erw[oy];erw[jM hi];rfl)) λu e1 e2=>?_;obtain rfl:=ay (e'.symm.trans e1);exact bU e2 λtk=>⟨tk,by show qV dW[i] tk=qV (dW.getD i 0) tk;erw[tA];erw[jM hi];rfl⟩
 ·erw[(show preSum (λi=>dW.getD i 0) vs.toArray.size=dW.sum by refine aa (i4) ?_;refine aa (hn) ?_;refine aa (abV dW _ (bf _)) ?_;refine aa (Tl) ?_;rfl)];exact K _ (x.grow h' tk λb o q=>k b o (λm=>gE (fB q) (cY m)) (c5 _ q)) (x.cG _) .int
theorem χ:∀ts:List Str,EX z ts=kr.join z ts:=by
 intro ts;induction ts with
 |nil=>rfl
 |cons y ts ih=>induction ts using bO with
  |nil=>rfl|cons t ts=>exact af (λr=>y++z++r) ih
theorem Zv{f:Fz}:∀{l:List PV} {ts:List Str} {vs:List ac},JG l=some ts->aR c f vs l->∃q:List (Str×Tok),strValues q=vs/\q.map (·.1)=ts:=by
 intro l;induction l with
 |nil=>exact λh r=>(az ([]) (i0 r rfl) (ay h))
 |cons p l ih=>
  intro ts vs h r;unfold JG at h ih;rw[qY] at h;refine aj h λy h1 h=>aj h λys h2 h=>?_;obtain rfl:=ay h;exact eC (m:=λvs=> ∃q:List (Str×Tok),strValues q=vs/\q.map (·.1)=y::ys) r λ{v us} r1 r2=>by
   refine aB (ih h2 r2) λq bY bZ=>?_;subst bY;subst bZ;exact BD (m:=λp=>aV c f v p->_) h1 (λr1=>jj r1 λt=>(az ((y,t)::q) rfl rfl)) r1
theorem Y9{l:List PV}(h:Iv z l=some r)(rz:Rd (.str z) x v)(rl:Rd (.list l) x u):aE A (bC (.builtin "str.join") [v,u]) x (Rd (.str r)):=aj h λts h1 h2=>aL h2 λhz h3=>jj rz λt=>dX rl λ{a n vs} e r hl Q E K=>by
 refine bE λgG hG=>?_;obtain rfl:=ay h3;refine aB (Zv h1 r) λq bY bZ=>?_;subst bY;subst bZ;have hs:∀(ts:List Str) (a:Nat),ts.foldl (λa p=>a+p.length+z.length) a=a+(ts.map λx=>x.length+z.length).sum:=λts=>by
  induction ts with
  |nil=>exact λa=>rfl|cons y ts ih=>exact λa=>by rw[Tm,ih,oB,List.sum_cons,fC,fC,fC]
 have xg:JoinOk z (q.map (·.1))=true:=by
  unfold JoinOk Builtin.Str.tooLong;rw[tu,decide_eq_false_iff_not];show ¬(q.map (·.1)).toArray.foldl (λa p=>a+p.length+z.length) 0>qW;rw[List.foldl_toArray' (h:=rfl),hs,f5];exact gK (aq hz (by erw[KB];decide))
 unfold JoinOk at xg;rw[tu] at xg;refine hG (Fv PySem.F.slot_str_join (typeIs_str _ _ _) PySem.F.entry_str_join (PySem.F.args_str_join_2 _ _) (meets_str_join_list z t a q xg) ⟨lC e,post_join q ⟨joinFit_length xg,λt' k=>?_⟩⟩);exact aa (show Txt.join z (q.map (·.1))=EX z (q.map (·.1)) from(StrLaws.glued_eq_join ..).trans (χ _).symm) (jG K .str)
end
theorem PU:zb table "list.__eq__.loop"=some Builtin.«list.__eq__.loop»:=Ti ⋯
theorem ye:plainId "list.__eq__.loop"=true:=by decide+kernel
def HK(gt:Bool)(l m:List PV):Option Bool:=if gt=true then fe.oM m l else fe.oM l m
noncomputable def C6(gt:Bool):Int:=if gt=true then 4 else 0
noncomputable def Ef(gt:Bool)(m n:Nat):Bool:=if gt=true then decide (m>n) else decide (m<n)
noncomputable def NL(gt:Bool)(m n:Int):Bool:=if gt=true then decide (m>n) else decide (m<n)
section
variable{A:Am d}{l m k:List PV}{i j:Int}{r b:Bool}{gt:Bool}{s:ag}{w:cO}{Ar:bh}{E:ac->ag->Prop}{n n' p:Nat}{e:ao}{vs ws:List ac}{f:Fz}{R:mL->ag->Prop}{pv qv:PV}
theorem Sc{X:Prop}(h:fe.oM l m=some r)(k1:l=[]->m=[]->r=false->X)(k2:∀j m',l=[]->m=.int j::m'->r=true->X)(k3:∀i l',l=.int i::l'->m=[]->r=false->X)(k4:∀i l' j m',l=.int i::l'->m=.int j::m'->(if i=j then fe.oM l' m' else some (decide (i<j)))=some r->X):X:=by
 induction l using bO with
 |nil=>induction m using bO with
  |nil=>exact k1 rfl rfl (ay h).symm|cons q m=>exact fM h λj h1 h2=>k2 j m rfl (ej h1 rfl) h2.symm
 |cons q l=>
  refine aj h λi h1 h=>?_;induction m using bO with
  |nil=>exact k3 i l (ej h1 rfl) rfl (ay h).symm|cons q m=>exact aj h λj h2 h=>k4 i l j m (ej h1 rfl) (ej h2 rfl) h
theorem O4{X:Prop}(h:HK gt l m=some r)(k1:(l=[]\/m=[])->r=Ef gt l.length m.length->X)(k2:∀i l' j m',l=.int i::l'->m=.int j::m'->(if i=j then HK gt l' m' else some (NL gt i j))=some r->X):X:=by
 induction gt using jm with
 |false=>exact Sc h (λe1 e2 e=>k1 (.inl e1) (by erw[e1];erw[e2];erw[e];rfl)) (λj m' e1 e2 e=>k1 (.inl e1) (by erw[e1];erw[e2];erw[e];rfl)) (λi l' e1 e2 e=>k1 (.inr e2) (by erw[e1];erw[e2];erw[e];rfl)) k2|true=>exact Sc h (λe1 e2 e=>k1 (.inr e1) (by erw[e1];erw[e2];erw[e];rfl)) (λj m' e1 e2 e=>k1 (.inr e1) (by erw[e1];erw[e2];erw[e];rfl)) (λi l' e1 e2 e=>k1 (.inl e2) (by erw[e1];erw[e2];erw[e];rfl)) λi l' j m' e1 e2 h=>k2 j m' i l' e2 e1 (d9 h (λe h=>(iP e.symm).trans h) λe h=>(iN (gV e)).trans h)
theorem Sp:Ef gt (p+n) (p+n')=Ef gt n n':=by
 induction gt using jm with
 |false=>exact fA (agA)|true=>exact fA (agA)
theorem xO(r:aR c f (vs.drop p) l)(h:p<=vs.length):vs.length=p+l.length:=by
 refine hH (r.length) (aa (FT) (aa (iK h) ?_));rfl
theorem OE{v:ac}{us:List ac}(e:vs.drop p=v::us):vs[p]?=some v/\vs.drop (p+1)=us/\p<vs.length:=by
 have h:p<vs.length:=om λq=>nl ((List.drop_eq_nil_of_le q).symm.trans e);have e2:=(Cg h).symm.trans e;injection e2 with e2 e3
 exact(ei ((jM h).trans (af some e2)) e3 h)
variable(ha:s.heap.get? a=some (bu vs n))(hb:s.heap.get? e=some (bu ws n'))
include ha hb
theorem RR(hn:vs[p]?=none\/ws[p]?=none)(q:R (.ok (.ret (.bool (Ef gt vs.length ws.length)))) s):eO (ah pw w) Ar (.builtin "list.__eq__.loop" ⟨[.ref a,.ref e,c6 p,c6 (C6 gt)],[]⟩) R s:=by
 refine jP PU (aa (kD ye _) ?_);induction gt using jm with
 |false=>
  refine ae (f6 ha rfl (ae (f6 hb rfl ?_)));simp only[KO,re];rcases hn with e1|e1
  ·erw[e1];exact ae (f6 ha rfl (ae (f6 hb rfl (au q))))
  ·erw[e1];cases vs[p]?<;>exact ae (f6 ha rfl (ae (f6 hb rfl (au q))))
 |true=>
  refine ae (f6 ha rfl (ae (f6 hb rfl ?_)));simp only[KO,re];rcases hn with e1|e1
  ·erw[e1];exact ae (f6 ha rfl (ae (f6 hb rfl (au q))))
  ·erw[e1];cases vs[p]?<;>exact ae (f6 ha rfl (ae (f6 hb rfl (au q))))
theorem ZN{t t':Tok}(v1:vs[p]?=some (.int i t))(u1:ws[p]?=some (.int j t'))(UB:i=j->eO (ah pw w) Ar (.builtin "list.__eq__.loop" ⟨[.ref a,.ref e,c6 ((p+1:Nat):Int),c6 (C6 gt)],[]⟩) R s)(q:i≠j->R (.ok (.ret (.bool (NL gt i j)))) s):
  eO (ah pw w) Ar (.builtin "list.__eq__.loop" ⟨[.ref a,.ref e,c6 p,c6 (C6 gt)],[]⟩) R s:=by
 refine jP PU (aa (kD ye _) ?_);induction gt using jm with
 |false=>
  refine ae (f6 ha rfl (ae (f6 hb rfl ?_)));simp only[KO,re,v1,u1];refine ae (wpAny_eqBool_int ?_);by_cases q':i=j
  ·exact o9 (c:=decide (i=j)=true) (dT q') (au ⟨iJ ye _,UB q'⟩)
  ·refine fH (c:=decide (i=j)=true) (by rw[dF q'];exact dy) (ae (f6 ha rfl (ae (f6 hb rfl ?_))));simp only[re,v1,u1];exact ae (lt_int (au (q q')))
 |true=>
  refine ae (f6 ha rfl (ae (f6 hb rfl ?_)));simp only[KO,re,v1,u1];refine ae (wpAny_eqBool_int ?_);by_cases q':i=j
  ·exact o9 (c:=decide (i=j)=true) (dT q') (au ⟨iJ ye _,UB q'⟩)
  ·refine fH (c:=decide (i=j)=true) (by rw[dF q'];exact dy) (ae (f6 ha rfl (ae (f6 hb rfl ?_))));simp only[re,v1,u1];exact ae (gt_int (au (q q')))
theorem PQ(q:R (.ok (.ret (.bool r))) s):∀{l k:List PV} {p:Nat},aR c f (vs.drop p) l->aR c f (ws.drop p) k->HK gt l k=some r->p<=vs.length->p<=ws.length->eO (ah pw w) Ar (.builtin "list.__eq__.loop" ⟨[.ref a,.ref e,c6 p,c6 (C6 gt)],[]⟩) R s:=by
 intro l;induction l with
 |nil=>exact λ{k p} r1 r2 h z1 z2=>O4 h (λ_ e1=>RR ha hb (.inl (zc (aD (xO r1 z1)))) (by erw[xO r1 z1];erw[xO r2 z2];erw[Sp];refine hH (e1) ?_;exact q)) λ_ _ _ _ e=>nl e
 |cons x l ih=>
  intro k p r1 r2 h z1 z2;refine O4 h (λhn e1=>RR ha hb (.inr (by
   obtain rfl:k=[]:=hn.resolve_left ln;exact zc (aD (xO r2 z2)))) (by erw[xO r1 z1];erw[xO r2 z2];erw[Sp];refine hH (e1) ?_;exact q)) λi l' j m' e1 e2 hc=>?_
  injection e1 with e1 e3
  subst e1 e3 e2;generalize h1:vs.drop p=d1 at r1;generalize h2:ws.drop p=d2 at r2;revert h1 h2;refine eC r1 λa1 r1=>eC r2 λa2 r2 h1 h2=>?_;have h1:=OE h1;have h2:=OE h2;revert h1 h2;refine bU a1 λt=>bU a2 λt' h1 h2=>ZN ha hb h1.1 h2.1 (λe=>ih (h1.2.1.symm▸r1) (h2.2.1.symm▸r2) ((iP e).symm.trans hc) h1.2.2 h2.2.2) λe=>ay ((iN e).symm.trans hc)▸q
end
section
variable{A:Am d}{l m:List PV}{r b:Bool}{pv qv:PV}{E:ac->ag->Prop}
theorem J8(ru:Rd (.list l) x u):x.s.TypeIs u "list":=dX ru λ{a n vs} e _ _=>(az _ (x.hs _ _ e) rfl)
theorem ad7{A:bh}{Q:ac->ag->Prop}(h:fe.oM l m=some b)(ru:Rd (.list l) x u)(rv:Rd (.list m) x v)(q:Q (.bool b) x.s):ai (ah pw c.w) A (bC (.builtin "list.__lt__") [u,v]) Q E x.s:=dX ru λ{a n vs} e1 r1 _=>dX rv λ{a' n' ws} e2 r2 _=>by
 refine q8 (Tg To.plain PySem.F.entry_list_lt (To.check _ _ _ _ _ _ _ _ ⟨_,x.hs _ _ e1,rfl⟩ (PySem.F.args_list_lt_2 _ _) ?_));show ai _ _ (do
   if !(<-isInstance (.ref a') (.type "list")) then return<-ret .notImplemented
   again (.builtin "list.__eq__.loop" ⟨[.ref a,.ref a',c6 0,c6 0],[]⟩)) _ _ x.s
 exact ae (q9 (T:="list") ⟨_,x.hs _ _ e2,rfl⟩ agB (au ⟨iJ ye _,PQ (gt:=false) (p:=0) (x.hs _ _ e1) (x.hs _ _ e2) (R:=wants Q E) q r1 r2 h (cu _) (cu _)⟩))
theorem ϒ{A:bh}{Q:ac->ag->Prop}(h:fe.oM m l=some b)(ru:Rd (.list l) x u)(rv:Rd (.list m) x v)(q:Q (.bool b) x.s):ai (ah pw c.w) A (bC (.builtin "list.__gt__") [u,v]) Q E x.s:=dX ru λ{a n vs} e1 r1 _=>dX rv λ{a' n' ws} e2 r2 _=>by
 refine q8 (Tg Tn.plain PySem.F.entry_list_gt (Tn.check _ _ _ _ _ _ _ _ ⟨_,x.hs _ _ e1,rfl⟩ (PySem.F.args_list_gt_2 _ _) ?_));show ai _ _ (do
   if !(<-isInstance (.ref a') (.type "list")) then return<-ret .notImplemented
   again (.builtin "list.__eq__.loop" ⟨[.ref a,.ref a',c6 0,c6 4],[]⟩)) _ _ x.s
 exact ae (q9 (T:="list") ⟨_,x.hs _ _ e2,rfl⟩ agB (au ⟨iJ ye _,PQ (gt:=true) (p:=0) (x.hs _ _ e1) (x.hs _ _ e2) (R:=wants Q E) q r1 r2 h (cu _) (cu _)⟩))
theorem aeM(h:xl O pv qv=some b)(Or:cg c O d)(ru:Rd pv x u)(rv:Rd qv x v):aE A (FP .Gt u v) x (Rd (.bool b)):=by
 induction pv using dg with
 |int i=>
  revert rv;exact fM h λj h1 h2=>ej h1 λrv=>bU ru λt=>bU rv λt' Q E K=>gt_int (h2▸k_here K .bool)
 |list l=>
  revert rv;exact aj h λm h1 h2=>pB h1 λrv Q E K=>wpAny_richCompare_same_room (J8 ru) (J8 rv) Tn (ϒ h2 ru rv ⟨nofun,k_here K .bool⟩) (A.room (n:=0) (by lia))
 |inst k fs=>exact Or.cmp h ru rv|_=>exact nS h
theorem e_{Q:Bool->ag->Prop}(h:fe O pv qv=some b)(Or:cg c O d)(ru:Rd pv x u)(rv:Rd qv x v)(K:∀y,Le x y->Q b y.s):ai (ah pw c.w) A.A (keyLt' wY u v) Q E x.s:=by
 have hu:=A.room (n:=0) (by lia);rw[keyLt'_oneType];induction pv using dg with
 |int i=>
  revert rv;exact fM h λj h1 h2=>ej h1 λrv=>bU ru λt=>bU rv λt'=>oneLt_int (h2▸K x (.refl x))
 |str i=>
  revert rv;exact fM h λj h1 h2=>BD h1 λrv=>jj ru λt=>jj rv λt'=>oneLt_str (h2▸K x (.refl x):Q (r0 i j) x.s)
 |list l=>
  revert rv;refine aj h λm h1 h2=>pB h1 λrv=>?_;rw[oneLt'_eq];exact ae (SZ hu (ae (wpAny_callSpecialIfBound?_slot (J8 ru) To (ad7 h2 ru rv (wL (K x (.refl x)))))))
 |inst k fs=>
  refine cP (Or.lt h) λg' h1 h2 h3=>?_;rw[oneLt'_eq];exact n3 ru λI _ _ ru=>ae (SZ hu (ae (ifBound_K x.cU I h1 h2 (h3 (A:=A) ru rv _ _ λw y l r=>(r:w=Kc b)▸wL (K y l)))))
 |_=>exact nS h
end
theorem EN:(toString "max" ++toString ".loop":String)="max.loop":=by decide
section
variable{z:Pt c}{n:Nat}{vb:ac}{l:List PV}{r p:PV}{I:ao}{us:List ac}{K:ao->Prop}
theorem BI.seq{M:f4}{A:bh}{E:ac->ag->Prop}{Q:Unit->ag->Prop}{f:Array ac->Array ac}{us':List ac}(F:BI d x y S I g xs K (eh us))(e:f us.toArray=us'.toArray)(k:∀w:Pt c,w.f=y.f->BI d x w S I g xs K (eh us')->Q () w.s)(h1:us.toArray.size<=qW)(h2:(f us.toArray).size<=qW+1):ai M A (updateSeq S f) Q E y.s:=by
 obtain⟨o,go,n,rfl⟩:=F.b.o;have e':=KP go f;rw[e] at e';exact cP (F.but (tk:=y.s.toks) eh.nc (uY y.s.heap S (FI f)) e' (ψ:=eh us') ⟨_,rfl⟩) λw e1 e2 F'=>wpAny_updateSeq go rfl (e1▸k w e2 F') h1 h2
theorem BI.items{M:f4}{A:bh}{E:ac->ag->Prop}{Q:Option (Array ac)->ag->Prop}(F:BI d x y S I g xs K (eh us))(q:Q (some us.toArray) y.s):ai M A (seqItems? (.ref S)) Q E y.s:=by
 obtain⟨o,go,n,rfl⟩:=F.b.o;exact wpAny_seqItems go rfl q
theorem I4(e:y.f=x.f)(r:Rd p x v):Rd p y v:=mF (af (λf=>aV c f v p) e) r
theorem tQ{k:Nat}(h:us.length<=2):us.toArray.size<=qW+k:=aa (i4) (aa (KB) (aq h (aq (by decide) (cW _ k))))
theorem aac{A:Am (d+1)}{R:mL->ag->Prop}(Or:cg c O d)(k:∀v (w:Pt c),Le x w->Rd r w v->R (.ok (.ret v)) w.s):∀{xs:List PV} {K:ao->Prop} {y:Pt c} {vb:ac} {p:PV},BI d x y S I g xs K (eh [vb,vb])->Rd p y vb->wz (xl O) p xs=some r->eO (ah pw c.w) A.A (.builtin "max.loop" ⟨[.ref I,.none,.ref S],[]⟩) R y.s:=by
 intro xs;induction xs with
 |nil=>
  intro K y vb p F rp h;refine bE λgG hG=>?_;obtain rfl:=ay h;refine hG (jP Tp (aa (kD zd _) (ae (F.items ?_))));show ai _ A.in1.A (tryCatch (gm (.ref I)) _>>=_) _ _ _;refine ae (FY (F.it.done A.in1 λz st=>bE λgG hG=>?_));have b:=F.end_ st;obtain⟨o,go,n,rfl⟩:=b.o;refine ll (b.but (tk:=z.s.toks) eh.nc (uY z.s.heap S (FI λ_=> #[])) (KP go λ_=> #[]) (ψ:=λ_=>True) trivial) λw e1 e2 b' _=>?_;exact hG (ae (wpAny_updateSeq go rfl (ae (wU (au (e1▸k vb w b'.to (I4 e2 (st.rd rp))))))))
 |cons q xs ih=>
  intro K y vb p F rp h;refine aj h λb h1 h2=>jP Tp (aa (kD zd _) (ae (F.items ?_)));show ai _ A.in1.A (tryCatch (gm (.ref I)) _>>=_) _ _ _;refine ae (FY (F.it.next A.in1 λv K' z rv i st _ dn=>?_));have F1:=F.next st i dn;show ai _ A.in1.A (tryCatch (yV [v,v] (FP .Gt v vb>>=_)) _>>=_) _ _ _;refine ae (FY (dO (ae (aeM (A:=A.in1) h1 Or rv (st.rd rp) _ _ λrr w le e=>?_))));obtain rfl:rr=.bool b:=e;have F2:=F1.le le;refine ae (dO (wL (ae (wU (au ?_)))));induction b using jm with
  |true=>
   refine ae (F2.seq (us':=[v,v]) rfl (λw' e F3=>ae (wU ?_)) (tQ (k:=0) (bf _)) (tQ (us:=[v,v]) (bf _)));exact aa (EN) (au ⟨iJ zd _,ih F3 (I4 e (rv.mono le.sub)) h2⟩)
  |false=>
   exact ae (wU (aa (EN) (au ⟨iJ zd _,ih F2 ((st.rd rp).mono le.sub) h2⟩)))
theorem Zd{A:Am (d+2)}(hm:uy O l=some r)(Or:cg c O d)(ra:Rd (.list l) x v):aE A (bC (.builtin "max") [v]) x (Rd r):=λQ E K=>by
 induction l using bO with
 |nil=>exact nS hm
 |cons q xs=>
  refine Tq PySem.F.kind_max PySem.F.plain_max PySem.F.entry_max (PySem.F.args_max1 _) ?_;show ai _ A.in1.A (agC "max" ["key","default"] 0 ⟨[],[]⟩>>=_) _ _ x.s;refine ae (Cf (show agC "max" ["key","default"] 0 ⟨[],[]⟩=pure [none,none] from rfl) (ae (au (ae (D6 (A:=A.in1.mono (e:=d) (iH d)) ra _ _ λy I K' g le i nw g1 g2=>ae (uW (aa (EN) (au ⟨iJ zd _,jP Tp ?_⟩))))))));erw[kD zd _];have b:Bx x (y.push (bu [] 0) y.s.toks) y.s.heap.objs.size (eh []):=⟨cH.trans le.st (y.cG (t:=y.s.toks) λ_ _=>c5 _).st,⟨_,ft _ rfl,0,rfl⟩,(Pt.ui rfl).1,le.e.back (y.ke (bf _)) (eQ _)⟩;have F:BI d x (y.push (bu [] 0) y.s.toks) y.s.heap.objs.size I g (q::xs) K' (eh []):=⟨b,i.later (cH.later (W:=λ_=>False) (y.cG (t:=y.s.toks) λ_ _=>c5 _).st i.live λ_ _=>id),nw,λk=>(i.live _ k).2.elim λo e=>nS ((eQ _).symm.trans e),g1,g2⟩;refine ae (F.items ?_);show ai _ A.in1.A (tryCatch (gm (.ref I)) _>>=_) _ _ _;refine ae (FY (F.it.next (A.in1.mono (e:=d) (iH d)) λv K2 z rv i st _ dn=>?_));show ai _ A.in1.A (updateSeq _ (λ_=> #[v,v])>>=_) _ _ _;refine ae ((F.next st i dn).seq (us':=[v,v]) rfl (λw e F3=>?_) (tQ (k:=0) (by decide)) (tQ (us:=[v,v]) (bf _)));exact aa (EN) (au ⟨iJ zd _,aac (A:=A.mono (e:=d+1) (iH _)) Or (λv w l r=>K v w l r) F3 (I4 e rv) hm⟩)
end
end
section
variable{c:Cx}{x y:Pt c}{d n:Nat}{u v:ac}{ps xs:List PV}{O:aK}{us vs keys items:List ac}{E:ac->ag->Prop}{S:ao}
def wD(n:Nat):ac:=if n=4 then .ref dk else .type (if n=1 then"int" else if n=2 then"str" else"list")
section
variable{e:Nat}{A:Am d}{p q:PV}{α:Type}{l r:List α}{k w:α->PV}{kind:SortKind}
theorem Pq{α β:Type}{M:f4}{A:bh}{s:ag}{c:Prop}[Decidable c]{X Y:Sem α}{k:α->Sem β}{Q:β->ag->Prop}(h:ai M A ((if c then X else Y)>>=k) Q E s):ai M A (if c then X>>=k else Y>>=k) Q E s:=by
 by_cases q:c
 ·rw[iP q] at h⊢;exact h
 ·rw[iN q] at h⊢;exact h
theorem aeC(h:j0 q≠0)(r:Rd q x v):iG (ah pw c.w) x.s.heap (tx v) (wD (j0 q)):=by
 induction q using dg with
 |int=>exact bU r λ_=>.of_pure rfl|str=>exact jj r λ_=>.of_pure rfl|list=>exact λ_ _ _ _ k q=>dX r (λ{a n vs} e _ _ q=>FX (T:="list") (az _ (k _ _ (x.hs _ _ e)) rfl) q) q
 |inst k fs=>
  by_cases e:k=dk
  ·obtain rfl:=e;exact n3 r λI _ _ _=>I.type
  ·exact absurd (iN e) h
 |_=>exact absurd rfl h
theorem Rf:(wD n !=iE "tuple")=true/\(wD n==wD n)=true:=by
 refine⟨?_,beq_self_eq_true _⟩;unfold wD;by_cases h:n=4
 ·erw[iP h];decide
 ·erw[iN h];by_cases h:n=1
  ·erw[iP h];decide
  ·erw[iN h];by_cases h:n=2
   ·erw[iP h];decide
   ·erw[iN h];decide
theorem XF(h:o5 ps=true)(jQ:ps≠[])(r:bt ps x vs):∃p,∀v∈vs,iG (ah pw c.w) x.s.heap (tx v) (wD (j0 p)):=by
 induction ps using bO with
 |nil=>exact absurd rfl jQ
 |cons p ps=>
  obtain⟨h1,h2⟩:=aW h;have hp:j0 p≠0:=λe=>by rw[e] at h1;exact ff h1
  have go:∀{ps:List PV} {vs:List ac},(∀q∈ps,j0 q=j0 p)->bt ps x vs->∀v∈vs,iG (ah pw c.w) x.s.heap (tx v) (wD (j0 p)):=λ{ps}=>by
   induction ps with
   |nil=>exact λ_ r=>i0 r λ_ m=>mN m|cons q ps ih=>exact λh r=>eC r λa r v m=>(bw m).elim (λe=>e▸h q (.head _)▸aeC (h q (.head _)▸hp) a) λm=>ih (λq m=>h q (.tail _ m)) r v m
  exact⟨p,go (λq m=>(bw m).elim (λe=>e▸rfl) λm=>a5 (b7 h2 q m)) r⟩
theorem QF{Q:SortKind->ag->Prop}(hn:n=keys.length)(ty:o5 ps=true)(rk:bt ps x keys)(h:∀k,(¬n<2->k=wY)->Q k x.s):ai (ah pw c.w) A.A (if n<2 then pure general' else keyKind' keys.toArray) Q E x.s:=by
 by_cases c:n<2
 ·exact o9 c (au (h _ λq=>absurd c q))
 ·refine dJ (XF ty (λe=>c (by erw[hn];erw[rk.length];erw[e];decide)) rk) λp t=>?_;exact fH c (kas_kind (hn▸cZ c) t Rf.1 Rf.2 (h _ λ_=>rfl))
theorem NV(hl:keys.length=items.length){i:Nat}(hi:i<keys.length):kas_item (keys.toArray.zip items.toArray) i=(keys.getD i oj,items.getD i oj):=by
 have h2:i<items.length:=hl▸hi;have hz:i<(keys.toArray.zip items.toArray).size:=by simp;exact Nat.lt_min.mpr ⟨hi,h2⟩
 unfold kas_item Array.getD;erw[dif_pos hz];simp[hi,h2]
theorem OX{i:Nat}(e:us[i]?=some u):us.getD i oj=u:=by erw[tA];erw[e];rfl
theorem afe(r:bt (l.map w) x items):∀{ps:List Nat} {out:List α},(ps.mapM λi=>l[i]?)=some out->bt (out.map w) x (ps.map λi=>items.getD i oj)/\∀i∈ps,i<l.length:=by
 intro ps;induction ps with
 |nil=>exact λh=>ay h▸⟨.nil,λ_ m=>mN m⟩
 |cons i ps ih=>
  intro out h;rw[qY] at h;refine aj h λa h1 h2=>aj h2 λo h3 h4=>?_;obtain rfl:=ay h4;obtain⟨k1,k2⟩:=ih h3;refine aB (r.get (i:=i) (p:=w a) (by erw[oy];erw[h1];rfl)) λu e1 e2=>?_;refine⟨?_,λj m=>(bw m).elim (λe=>e▸(zq.mp h1).1) (k2 j)⟩;exact aa (oB) (aa (oB) (aa (OX e1) (.cons e2 k1)))
theorem Vo{β:Type}{it:Array Keyed}(Or:cg c O d)(hk:∀i a,l[i]?=some a->Rd (k a) x (kas_item it i).1)(t:KasT β):∀{r:β} {y:Pt c} {Q:β->ag->Prop},qo (λi j=>(l[i]?).bind λa=>(l[j]?).bind λb=>fe O (k a) (k b)) t=some r->Le x y->(∀z:Pt c,Le x z->Q r z.s)->t.kasWp (kas_cmp pw c.w A.A wY it) Q y.s:=by
 induction t with
 |ret b=>exact λh le K=>ay h▸K _ le|ask i j kk ih=>exact λh le K=>aj h λb h1 h2=>aj h1 λa h3 h4=>aj h4 λa' h5 h6=>e_ (A:=A) h6 Or ((hk i a h3).mono le.sub) ((hk j a' h5).mono le.sub) λz l=>ih b h2 (le.trans l) K
theorem Nr{Q:Unit×SortSt->ag->Prop}(hs:kW (λa b=>fe O (k a) (k b)) l=some r)(Or:cg c O d)(rk:bt (l.map k) x keys)(ri:bt (l.map w) x items)(hk:¬items.length<2->kind=wY)
(K:∀(y:Pt c) z us,Le x y->(arrOf z.2).map (·.2)=us.toArray->bt (r.map w) y us->failedOf z.2=none->r.length=l.length->Q z y.s):ai (ah pw c.w) A.A ((if items.length<2 then pure () else sortRuns').run (Tr kind (keys.toArray.zip items.toArray) #[] 7 none)) Q E x.s:=by
 have l1:keys.length=l.length:=rk.length.trans (bi _);have l2:items.length=l.length:=ri.length.trans (bi _);refine d9 hs (λcc hs=>?_) λcc hs=>aL hs λvi hs=>aj hs λp h1 h2=>?_
 ·refine bE λgG hG=>?_;obtain rfl:=ay hs;refine hG (aa (iP (l2.symm▸cc)) ?_);rw[StateT.run_pure];exact au (K x _ items (.refl x) (zr.mp (by
   show((keys.toArray.zip items.toArray).map (·.2)).toList=items;refine aa (Ts) (aa (Array.toList_zip) ?_);exact List.map_snd_zip (aD (l2.trans l1.symm)))) ri rfl rfl)
 ·refine aa (iN (l2.symm▸cc)) (aa (hk (l2.symm▸cc)) ?_);have hn:(keys.toArray.zip items.toArray).size=l.length:=by simp[l1,l2]
  have run:=kas_runs (prog:=pw) (w:=c.w) (A:=A.A) (E:=No) (n:=l.length) (it:=keys.toArray.zip items.toArray) (κ:=wY) (Q:=λa st' s'=>Q (a,st') s') (G:=λp' s'=>p'=p/\∃y:Pt c,Le x y/\s'=y.s) (s:=x.s)
   (cZ cc) vi (λp' st' s' a1 a2 a3 a4=>by
    obtain⟨rfl,y,le,rfl⟩:=a4;refine dU (afe (ri.mono le.sub) h2) λk1 k2=>K y ((),st') _ le ?_ k1 a3 (by have:=k1.length;rw[bi,bi,FB,a1] at this;exact this.symm);show(arrOf st').map (·.2)=_;erw[a2];apply zr.mp;refine aa (Array.map_map) (aa (Ts) ?_);refine pV λi m=>?_;show(kas_item (keys.toArray.zip items.toArray) i).2=_;erw[NV (l1.trans l2.symm) (l1.symm▸k2 i m)];rfl)
   (Vo (A:=A) Or (λi a e=>by
    refine aB (rk.get (i:=i) (p:=k a) (by erw[oy];erw[e];rfl)) λu e1 e2=>?_;erw[NV (l1.trans l2.symm) (zq.mp e1).1];exact(OX e1).symm▸e2) (kas_sort l.length) h1 (.refl x) λz le=>⟨rfl,z,le,rfl⟩)
  have est:kas_st wY (keys.toArray.zip items.toArray) (List.toArray (ax l.length))=Tr wY (keys.toArray.zip items.toArray) #[] 7 none:=by
   have e:=kas_range (keys.toArray.zip items.toArray);rw[hn] at e;exact af (λz=>Tr wY z #[] 7 none) e
  rw[est] at run;exact cQ run (λ_ _ z=>z) λ_ _ z=>z.elim
end
section
variable{z:Pt c}{A:Am d}{out:List PV}{p:PV}{k:Str}{r:List (PV×PV)}{o:Obj}
theorem xJ(h:us.length<=aA):us.toArray.size<=qW:=by erw[i4];exact sH h
theorem Ak{M:f4}{A:bh}{f:Array ac->Array ac}{Q:Unit->ag->Prop}{φ:Obj->Prop}(b:Bx x y S φ)(CW:∀o,φ o->∃n,o=bu us n)(e:f us.toArray=vs.toArray)(h1:us.length<=aA)(h2:vs.length<=aA)
(k:∀(w:Pt c) n,w.f=y.f->Bx x w S (· =bu vs n)->Q () w.s):ai M A (Tt (.ref S) f) Q E y.s:=by
 have nc:∀o,φ o->o.cls≠ .type "code":=λo p=>eh.nc o (CW o p);have b':=b;refine aB b'.o λo go p=>?_;obtain⟨n,rfl⟩:=CW o p;have e':=KP go f;rw[e] at e';exact ll (b.but (tk:=y.s.toks) nc (uY y.s.heap S (FI f)) e' (ψ:=(· =seqObj "list" vs.toArray _)) rfl) λw e1 e2 F _=>listUpdate_at go rfl (e1▸k w _ e2 F) (xJ h1) (by erw[e];exact y6 (xJ h2))
theorem Bx.at_(b:Bx x y S (· =o)):y.s.heap.get? S=some o:=by
 refine aB b.o λ_ e bZ=>?_;subst bZ;exact e
theorem ZV{Q:PySem.Fin->ag->Prop}(hs:kW (fe O) ps=some out)(ty:o5 ps=true)(Or:cg c O d)(b:Bx x y S (eh us))(rd:bt ps y us)(hz:ps.length<=aA)
(K:∀(w:Pt c) us',Bx x w S (eh us')->bt out w us'->out.length=ps.length->Q (.done (.ret .none)) w.s):ai (ah pw c.w) A.A (Builtin.«list.sort» ⟨[.ref S],[]⟩) Q E y.s:=by
 refine bE λgG hG=>?_;obtain⟨o,go,n,rfl⟩:=b.o;have hl:us.length<=aA:=rd.length▸hz;refine hG ?_;rw[list_sort_plain];refine ae (f6 go rfl (ae (Ak (vs:=[]) b (λ_=>id) rfl hl (cu _) λw n1 e1 b1=>ae (KQ b1.at_ rfl (ae (wpAny_newTuple (ae (KR ?_ (cu _))) (by erw[agD];exact sH hl)))))));have le:=(w.cG (t:=w.s.toks) λ_ _=>c5 (fW us 0)).trans (Pt.cG (t:=w.s.toks) (w.push (fW us 0) w.s.toks) λ_ _=>c5 (bu [] 0));have r1:bt ps ((w.push (fW us 0) w.s.toks).push (bu [] 0) w.s.toks) us:=(mF (af (λf=>aR c f us ps) e1) rd:bt ps w us).mono le.sub;refine dO (Pq (ae (QF (A:=A) (x:=(w.push (fW us 0) w.s.toks).push (bu [] 0) w.s.toks) (keys:=us) (ps:=ps) (n:=us.toArray.size) i4 ty r1 λkd hk=>ae (Nr (A:=A) (α:=PV) (l:=ps) (r:=out) (k:=λx=>x) (w:=λx=>x) (keys:=us) (items:=us) hs Or (by rw[KS];exact r1) (by rw[KS];exact r1) hk λy3 z us' GD e3 r3 f3 l3=>?_))));rw[KS] at r3;have b3:=(b1.le le).le GD;have LQ:us'.length<=aA:=r3.length▸l3▸hz;obtain⟨u,st⟩:=z;dsimp only at e3 f3⊢;refine ae (KQ b3.at_ rfl (ae (Ak (us:=[]) (vs:=us') b3 (λo e=>⟨_,e⟩) e3 (cu _) LQ λw4 n4 e4 b4=>aa (f3) (fH (by simp) (au (K w4 us' ⟨b4.st,⟨_,b4.at_,n4,rfl⟩,b4.fr,b4.nS⟩ (mF (af (λf=>aR c f us' out) e4) r3) l3))))))
end
section
variable{z:Pt c}{A:Am d}{g:ac}{kd:List PV}{p q:PV}{T:ao}{k:Str}{ks r:List (PV×PV)}{o:Obj}
theorem HD{X:Prop}{ks:List (PV×PV)}(h:nZ O k (p::ps)=some ks)(K:∀u r,O.fn k [p] []=some u->nZ O k ps=some r->ks=(u,p)::r->X):X:=by
 unfold nZ at h K;rw[qY] at h;exact aj h λq h1 h2=>aj h2 λr h3 h4=>fM h1 λu h5 h6=>K u r h5 h3 (h6▸(ay h4).symm)
theorem Qz(h:nZ O k ps=some ks):ks.map (·.2)=ps:=by
 induction ps generalizing ks with
 |nil=>exact ay h▸rfl|cons p ps ih=>exact HD h λu r _ h2 e=>e▸af (List.cons p) (ih h2)
theorem Bx.U'{φ:Obj->Prop}{w:Pt c}(b:Bx x y S φ)(ne:S≠T)(st:br (λb=>b=T) 0 y w)(f:w.f=y.f)(l:cH (λb=>x.s.heap.get? b=none) x w):Bx x w S φ:=aB b.o λo e p=>⟨l,(az o (st.e.keep S o e (cK b.fr.hi) ne) p),⟨(congrFun f S).trans b.fr.f,b.fr.h₀,b.fr.hi⟩,b.nS⟩
theorem Qx{M:f4}{A:bh}{f:Array ac->Array ac}{Q:Unit->ag->Prop}{φ ψ:Obj->Prop}(b:Bx x y T φ)(b':Bx x y S ψ)(ne:S≠T)(CW:∀o,φ o->∃n,o=bu us n)(e:f us.toArray=vs.toArray)(h1:us.length<=aA)(h2:vs.length<=aA)
(k:∀(w:Pt c) n,w.f=y.f->Bx x w T (· =bu vs n)->Bx x w S ψ->Q () w.s):ai M A (Tt (.ref T) f) Q E y.s:=by
 have nc:∀o,φ o->o.cls≠ .type "code":=λo p=>eh.nc o (CW o p);have bb:=b;refine aB bb.o λo go p=>dJ (CW o p) λn bY=>?_;subst bY;have e':=KP go f;rw[e] at e';exact ll (b.but (tk:=y.s.toks) nc (uY y.s.heap T (FI f)) e' (ψ:=(· =seqObj "list" vs.toArray _)) rfl) λw e1 e2 F st=>listUpdate_at go rfl (e1▸k w _ e2 F (b'.U' ne (st 0) e2 F.st)) (xJ h1) (by erw[e];exact y6 (xJ h2))
theorem vy{w:Pt c}(e:w.f=y.f)(r:bt ps y us):bt ps w us:=mF (af (λf=>aR c f us ps) e) r
theorem VC{ψ:Obj->Prop}{Q:PUnit->ag->Prop}{body:ac->PUnit->Sem (ForInStep PUnit)}(hb:∀(v:ac) (s:ag) (Q:ForInStep PUnit->ag->Prop),(∀E',ai (ah pw c.w) A.A (bC g [v]) (λk s=>ai (ah pw c.w) A.A (Tt (.ref T) (·.push k)) (λ_ s=>Q (.yield ⟨⟩) s) E s) E' s)->ai (ah pw c.w) A.A (body v ⟨⟩) Q E s)
(CX:∀{p q:PV} {v:ac} {y:Pt c},O.fn k [p] []=some q->Rd p y v->aE A (bC g [v]) y (Rd q))(ne:S≠T)(hz:kd.length+ks.length<=aA)
(hk:nZ O k ps=some ks)(r1:bt ps y us)(r2:bt kd y vs)(b:Bx x y T (eh vs))(b':Bx x y S ψ)(K:∀(w:Pt c) xd,Sub y.f w.f->Bx x w T (eh xd)->Bx x w S ψ->bt (kd++ks.map (·.1)) w xd->Q ⟨⟩ w.s):
  ai (ah pw c.w) A.A (forIn us Ct body) Q E y.s:=by
 induction ps generalizing y us vs kd ks with
 |nil=>
  obtain rfl:[]=ks:=ay hk;exact i0 r1 (aa (yU) (au (K y vs (λ_ _ e=>e) b b' (by erw[List.map_nil];rw[gO];exact r2))))
 |cons p ps ih=>
  refine eC r1 λ{v us} a r1=>HD hk λu r h1 h2 e=>?_;subst e;rw[wO];refine ae (hb _ _ _ λE'=>CX h1 a _ _ λkv z le rk=>?_);have hv:vs.length+1<=aA:=by erw[r2.length];exact aq (i3 (eE _) _) hz
  refine Qx (vs:=vs++[kv]) (b.le le) (b'.le le) ne (λ_=>id) (by simp) (lF hv) (by erw[da];exact hv) λw n e1 b1 b2=>?_;refine ih (kd:=kd++[u]) (by rw[da,fC,gj [u].length];exact hz) h2 (vy e1 (r1.mono le.sub)) (vy e1 (aR.append (.cons rk .nil) (r2.mono le.sub))) ⟨b1.st,⟨_,b1.at_,n,rfl⟩,b1.fr,b1.nS⟩ b2 λw' xd sub c1 c2 rd=>K w' xd (λa o q=>sub a o ((congrFun e1 a).trans (le.sub a o q))) c1 c2 ?_;rw[kx] at rd;exact rd
theorem Wq{Q:PySem.Fin->ag->Prop}(ht:∀a,Builtin.«list.sort» ⟨[.ref a],[(dw "key",g)]⟩=ksk_tree a g false)(hk:nZ O k ps=some ks)(ty:o5 (ks.map (·.1))=true)(hs:kW (λa b=>fe O a.1 b.1) ks=some r)(Or:cg c O d)
(CX:∀{p q:PV} {v:ac} {y:Pt c},O.fn k [p] []=some q->Rd p y v->aE A (bC g [v]) y (Rd q))(b:Bx x y S (eh us))(rd:bt ps y us)(hz:ps.length<=aA)
(K:∀(w:Pt c) us',Bx x w S (eh us')->bt (r.map (·.2)) w us'->(r.map (·.2)).length=ps.length->Q (.done (.ret .none)) w.s):ai (ah pw c.w) A.A (Builtin.«list.sort» ⟨[.ref S],[(dw "key",g)]⟩) Q E y.s:=by
 refine bE λgG hG=>?_;obtain⟨o,go,n,rfl⟩:=b.o;have hl:us.length<=aA:=rd.length▸hz;have lk:ks.length=ps.length:=by refine hH (Qz hk) ?_;rw[bi]
 refine hG ?_;rw[ht];refine ae (f6 go rfl (ae (Ak (vs:=[]) b (λ_=>id) rfl hl (cu _) λw n1 e1 b1=>ae (KQ b1.at_ rfl (ae (wpAny_newTuple (ae (KR ?_ (cu _))) (by erw[agD];exact sH hl)))))));have l1:=w.cG (t:=w.s.toks) λ_ _=>c5 (fW us 0);have l2:=Pt.cG (t:=w.s.toks) (w.push (fW us 0) w.s.toks) λ_ _=>c5 (bu [] 0);have bT:Bx x ((w.push (fW us 0) w.s.toks).push (bu [] 0) w.s.toks) (w.push (fW us 0) w.s.toks).s.heap.objs.size (eh []):=by
  have n:=(w.push (fW us 0) w.s.toks).ui (o:=bu [] 0) (t:=w.s.toks) rfl;exact⟨((b1.le l1).le l2).st,⟨_,n.2,0,rfl⟩,n.1,((b1.le l1).st.e.back (cK n.1.hi) (eQ _)).elim id id⟩
 have ne:S≠(w.push (fW us 0) w.s.toks).s.heap.objs.size:=gE (fB (b1.le l1).at_);have r1:bt ps ((w.push (fW us 0) w.s.toks).push (bu [] 0) w.s.toks) us:=(vy e1 rd).mono (l1.trans l2).sub;refine dO (ae (uV ?_));rw[Td];refine ae (VC (A:=A) (O:=O) (k:=k) (g:=g) (kd:=[]) (vs:=[]) (y:=(w.push (fW us 0) w.s.toks).push (bu [] 0) w.s.toks) (λv s Q h=>ae (KJ (cQ (h _) (λ_ _ z=>ae (cQ z (λ_ _ z=>au z) λ_ _ z=>z)) λ_ _ z=>z))) CX ne (by erw[lk];erw[Cn];rw[f5];exact hz) hk r1 .nil bT ((b1.le l1).le l2) λw2 ku sub UC b2 rk=>?_);refine bE λgG hG=>?_;have rk:bt (ks.map (·.1)) w2 ku:=rk;have UD:ku.length=us.length:=rk.length.trans ((bi _).trans (lk.trans rd.length.symm));have hku:ku.length<=aA:=UD▸hl;obtain⟨_,gT,nT,rfl⟩:=UC.o;have ri:bt (ks.map (·.2)) w2 us:=Qz hk▸r1.mono sub;refine hG (ae (f6 gT rfl (Pq (ae (QF (A:=A) (x:=w2) (keys:=ku) (ps:=ks.map (·.1)) (n:=us.toArray.size) (i4.trans UD.symm) ty rk λkd hkd=>ae (Nr (A:=A) (α:=PV×PV) (l:=ks) (r:=r) (k:=(·.1)) (w:=(·.2)) (keys:=ku) (items:=us) hs Or rk ri hkd λy3 z us' GD e3 r3 f3 l3=>?_))))));have LQ:us'.length<=aA:=r3.length▸(bi (f:=(·.2)) (as:=r))▸l3▸lk▸hz;obtain⟨u,st⟩:=z;dsimp only at e3 f3⊢;exact ae (Qx (us:=ku) (vs:=[]) (UC.le GD) (b2.le GD) ne (λ_=>id) rfl hku (cu _) λw4 n4 e4 b4 b5=>ae (wU (ae (KQ b5.at_ rfl (ae (Ak (us:=[]) (vs:=us') b5 (λo e=>⟨_,e⟩) e3 (cu _) LQ λw5 n5 e5 b6=>aa (f3) (fH (by simp) (au (K w5 us' ⟨b6.st,⟨_,b6.at_,n5,rfl⟩,b6.fr,b6.nS⟩ (vy e5 (vy e4 r3)) ((bi _).trans (l3.trans lk)))))))))))
end
def Jk(Q:List ac->ag->Prop)(v:ac)(s:ag):Prop:=∃a us n,v=.ref a/\s.heap.get? a=some (bu us n)/\Q us s
def HN(Q:List ac->ag->Prop)(r:mL)(s:ag):Prop:=∃v,r=.ok (.ret v)/\Jk Q v s
def G'{c:Cx}{d:Nat}(A:Am d)(u:ac)(x:Pt c)(ps:List PV):Prop:=∀(Q:List ac->ag->Prop) E,(∀y us,Le x y->bt ps y us->Q us y.s)->ai (ah pw c.w) A.A (collect u) Q E x.s
section
variable{z:Pt c}{g:Nat}{res:ac}{all:List PV}{I a:ao}{K:ao->Prop}{s:ag}{w:cO}{A:bh}{Q:List ac->ag->Prop}
theorem QB(h:ai (ah pw w) A.in1 (KU (.ref s.heap.objs.size) u (.ref s.heap.objs.size)) (λfin s'=>match fin with
    |.done fl=>HN Q (.ok fl) s'|.again c'=>c'.quiet=true/\eO (ah pw w) A c' (HN Q) s') No {s with heap:=s.heap.push (bu [] 0)}):ai (ah pw w) A (collect u) Q E s:=by
 have fin:∀v s',Jk Q v s'->ai (ah pw w) A (match v with
   |.ref a=>do match(<-load a).data with
    |.seq xs _=>pure xs.toList|_=>unsupported "internal:collect"
   |_=>unsupported "internal:collect") Q E s':=λv s' z=>by
  refine jD z λa us n c4 ga q=>?_;subst c4;exact ae (FE ga (au q))
 unfold collect;refine ae (Th (jP PySem.F.entry_proto_collect (aa (kD PySem.F.plain_proto_collect _) (ae (m:=newList []) (uW (au ⟨iJ agE _,jP PySem.F.entry_list_iadd ?_⟩))))));erw[kD agE _];show ai _ A.in1 (KU (.ref s.heap.objs.size) u (.ref s.heap.objs.size)) _ _ _;refine cQ h (λahy s' z=>?_) λ_ _ z=>z.elim;cases ahy with
 |done fl=>
  refine aB z λv e z=>?_;injection e with e
  exact e▸fin v s' z
 |again c'=>
  refine⟨z.1,FQ z.2 λr i8 q=>?_⟩;obtain⟨v,rfl,q⟩:=q;exact fin v i8 q
theorem Bx.RS(b:Bx x y S (eh us))(r:bt ps y us)(K:∀y us,Le x y->bt ps y us->Q us y.s):Jk Q (.ref S) y.s:=by
 obtain⟨o,e,n,rfl⟩:=b.o;exact(j5 S us n rfl e (K y us b.to r))
theorem aaj{A:Am (d+1)}{R:mL->ag->Prop}(hz:all.length<=aA)(k:∀(w:Pt c) us',Bx x w S (eh us')->bt all w us'->R (.ok (.ret res)) w.s):∀{xs ps:List PV} {K:ao->Prop} {y:Pt c} {us:List ac},BI d x y S I g xs K (eh us)->bt ps y us->ps++xs=all->eO (ah pw c.w) A.A (.builtin "list.extend.loop" ⟨[.ref S,.ref I,res],[]⟩) R y.s:=by
 intro xs;induction xs with
 |nil=>
  intro ps K y us F r e;exact jP agF (aa (kD FZ _) (ae (F.it.done A.in1 λz st=>au (k z us (F.end_ st) ((gO ps).symm.trans e▸r.mono st.sub)))))
 |cons p xs ih=>
  intro ps K y us F r e;refine jP agF (aa (kD FZ _) (ae (F.it.next A.in1 λv K' z rv i st _ dn=>?_)));show ai _ A.in1.A (updateSeq S (·.push v)>>=_) _ _ _;have hl:us.length+1<=aA:=by
   refine aa (r.length) (aq ?_ hz);exact hH (e) (aa (da) (aa (wK) (i3 (eE _) _)))
  exact ae ((F.next st i dn).seq (us':=us++[v]) (by simp) (λw e1 F2=>au ⟨iJ FZ _,ih (ps:=ps++[p]) F2 (vy e1 (aR.append (.cons rv .nil) (r.mono st.sub))) (by rw[kx];exact e)⟩) (xJ (lF hl)) (by rw[Array.size_push];exact yP (xJ (lF hl))))
theorem OL{A:Am d}{T:String}(hT:T="list"\/T="tuple")(ha:x.f a=some {cls:=.type T,data:=.seq vs.toArray n})(r:bt ps x vs)(hz:ps.length<=aA):G' A (.ref a) x ps:=λQ E K=>by
 have vh:=c5 (bu [] 0) (x.hs _ _ ha);have hl:vs.length<=aA:=r.length▸hz;refine QB ?_;unfold KU;refine ae (FX (T:=T) (az _ vh rfl) (o9 (by rcases hT with rfl|rfl<;>simp) (ae (f6 vh rfl (ae (f6 (xs:= #[]) (n:=0) (ft _ rfl) rfl (fH (by simp) ?_)))))));exact ae (Ak (x:=x) (y:=x.push (bu [] 0) x.s.toks) (us:=[]) (vs:=vs) (Bx.new (φ:=eh []) rfl ⟨0,rfl⟩) (λ_=>id) (by simp) (cu _) hl λw n e b=>au (az _ rfl (Bx.RS ⟨b.st,⟨_,b.at_,n,rfl⟩,b.fr,b.nS⟩ (vy e (r.mono (x.cG (t:=x.s.toks) λ_ _=>c5 (bu [] 0)).sub)) K)))
def BA(w:cO)(a:ao)(s:ag):Prop:=∀{A:bh} {Q:Bool->ag->Prop},(∀b t,Q b {s with toks:=t})->ai (ah pw w) A (Tu (.ref a)) Q No s
end
section
variable{z:Pt c}{g:Nat}{I a:ao}{K:ao->Prop}{s:ag}{w:cO}{es:Array (Int×ac)}{t:a8}{lo hi:Int}{p:PV}{β:Type}{k:List PV->Option β}{r:β}{Q:List ac->ag->Prop}
theorem YX(ga:s.heap.get? a=some (dM es n t)):BA w a s:=λ{A Q} h=>by
 have hT:s.TypeIs (.ref a) "set":=(az _ ga rfl);unfold Tu;refine ae (Fy hT PySem.F.slot_set_len.lookup ?_);generalize UE:("set.__len__":String)=id0;dsimp only;erw[(by subst UE;decide+kernel:splitId id0=some ("set","__len__"))];subst UE;refine ae (q9 (T:="set") (b:=true) hT KG (Tv (λLR=>absurd LR (by decide)) (λ_=>Tv (λ_=>?_) (λLR=>absurd (by decide+kernel) LR))));exact ae (FX hT (au (h false s.toks)))
theorem aeY{t1 t2 t3:Tok}(e:s.heap.get? a=some (BC lo hi t1 t2 t3))(hn:hi-lo<=(aA:Nat)):BA w a s:=λ{A Q} h=>wpAny_hint_range (n:=(hi-lo).toNat) e IY (by unfold aA at hn;lia) (h _ _)
theorem RD{x0:Pt c}{A:Am (d+1)}{T:String}(UF:Le x0 x)(hT:x.s.TypeIs (.ref a) T)(h1:(iE T==iE "list")=false)(h2:(iE T==iE "tuple")=false)(hz:xs.length<=aA)
(it:∀{y:Pt c} {S:ao} {Q:ac->ag->Prop} {E},Le x y->Bx x0 y S (eh [])->x.s.heap.get? S=none->(∀z I K g,BI d x0 z S I g xs K (eh [])->BA c.w a z.s->Q (.ref I) z.s)->ai (ah pw c.w) A.in1.A (gk (.ref a)) Q E y.s)
(K:∀y us,Le x0 y->bt xs y us->Q us y.s):ai (ah pw c.w) A.A (collect (.ref a)) Q E x.s:=by
 refine aB hT λo e1 e2=>?_;have le:=x.cG (t:=x.s.toks) λ_ _=>c5 (bu [] 0);have b:Bx x0 (x.push (bu [] 0) x.s.toks) x.s.heap.objs.size (eh []):=⟨cH.trans UF.st le.st,⟨_,ft _ rfl,0,rfl⟩,(Pt.ui rfl).1,UF.e.back (x.ke (bf _)) (eQ _)⟩;refine QB ?_;unfold KU;refine ae (FX (T:=T) (az o (c5 _ e1) e2) ?_);have h3:agG (.ref x.s.heap.objs.size) (.ref a)=false:=by simp[agG,fO (fB e1)]
 simp only[h1,h2,h3,CA,yW,if_false];refine ae (it le b (eQ _) λz I K' g F hint=>ae (dO (hint λroom tk=>?_)));have F:=F.le (z.cG (h':=z.s.heap) (t:=tk) λ_ _ e=>e);have fin:∀{y:Pt c},BI d x0 y x.s.heap.objs.size I g xs K' (eh [])->eO (ah pw c.w) A.A (.builtin "list.extend.loop" ⟨[.ref x.s.heap.objs.size,.ref I,.ref x.s.heap.objs.size],[]⟩) (HN Q) y.s:=λF=>aaj hz (λw us' b r=>⟨_,rfl,b.RS r K⟩) F .nil rfl;refine Tv (λ_=>ae (uV ?_)) (λ_=>au ⟨iJ FZ _,fin F⟩);unfold Builtin.List.listTouch;refine ae (ae (F.seq (us':=[.none]) rfl (λw1 _ F1=>F1.seq (us':=[]) rfl (λw2 _ F2=>au ⟨iJ FZ _,fin F2⟩) (tQ (k:=0) (by decide)) (tQ (us:=[]) (by decide))) (tQ (k:=0) (by decide)) (tQ (us:=[.none]) (by decide))))
theorem Ph{A:Am (d+1)}{T:String}(hT:x.s.TypeIs (.ref a) T)(h1:(iE T==iE "list")=false)(h2:(iE T==iE "tuple")=false)(hint:∀{y:Pt c},Le x y->BA c.w a y.s)(hz:xs.length<=aA)(it:∀{A:Am d} {y:Pt c},Le x y->qJ A (gk (.ref a)) y xs):G' A (.ref a) x xs:=λQ E K=>
 RD (.refl x) hT h1 h2 hz (λle b _ k=>it le _ _ λz I K g l i nw g1 g2=>k z I K g (BI.mk' b l i nw g1 g2) (hint (le.trans l))) K
theorem ZO{A:Am (d+1)}(h:eH p k=some r)(rd:Rd p x u):∃ps,k ps=some r/\ps.length<=aA/\G' A u x ps:=fZ h λhn h=>by
 induction p using dg with
 |tup l=>exact iT rd λ{a n vs} e rl z=>⟨l,h,z,OL (T:="tuple") (.inr rfl) e rl z⟩|list l=>exact dX rd λ{a n vs} e rl z=>⟨l,h,z,OL (T:="list") (.inl rfl) e rl z⟩
 |d8 lo hi=>
  exact qA rd λ{a t1 t2 t3} e z1 z2 hz=>by
   have UG:((ax (hi-lo).toNat).map λk:Nat=>PV.int (lo+k)).length<=aA:=by
    rw[bi,cF];exact Lo.mpr hz
   exact(cz _ h UG (Ph (T:="range") (az _ (x.hs _ _ e) rfl) (by decide) (by decide) (λle=>aeY (Pt.hs _ _ _ (le.sub _ _ e)) hz) UG λle=>GW (.d8 (le.sub _ _ e) z1 z2 hz)))
 |set l=>
  have LS:=rd;revert LS;exact lu rd λ{a es n t} e he ht LS=>by
   refine aB (SB (d:=d) LS) λl' p g=>?_;have hz:(l'.map λn:Nat=>PV.int n).length<=aA:=by
    rw[bi,p.length_eq];exact aq ht.len (by decide)
   exact(cz _ (xF (h:qy l k=some r) p) hz (Ph (T:="set") (az _ (x.hs _ _ e) rfl) (by decide) (by decide) (λle=>YX (Pt.hs _ _ _ (le.sub _ _ e))) hz λle=>g le.sub))
 |inst=>exact absurd rfl hn|_=>exact nS h
end
end
section
variable{c:Cx}{x y:Pt c}{d:Nat}{A:Am (d+2)}{u g:ac}{ps:List PV}{O:aK}{k:Str}
section
variable{out:List PV}{s:ag}{ks r:List (PV×PV)}{Q:ac->ag->Prop}{E:ac->ag->Prop}
def A8(x:Pt c)(A:bh)(u:ac)(ps:List PV)(s:ag):Prop:=∀(Q:List ac->ag->Prop) E,(∀y us,Le x y->bt ps y us->Q us y.s)->ai (ah pw c.w) A (collect u) Q E s
theorem t_(hs:kW (fe O) ps=some out)(ty:o5 ps=true)(Or:cg c O d)(hz:ps.length<=aA)(hc:A8 x A.A.in1 u ps s)(K:∀v y,Le x y->Rd (.list out) y v->Q v y.s):ai (ah pw c.w) A.A (bC (.builtin "sorted") [u]) Q E s:=by
 refine agn kind_sorted plain_sorted entry_sorted (args_sorted1 _) ?_;unfold Builtin.«sorted»;refine ae (m:=checkCount "sorted" 1 1 _) (au (ae (hc _ _ λy us le rd=>ae (KR ?_ (sH (rd.length▸hz))))));refine ae (dO (uZ slot_list_sort (az _ (ft _ rfl) rfl) entry_list_sort ?_ (args_list_sort _)));exact ZV (A:=A.in1.in1) hs ty Or (Bx.new (x:=y) (o:=bu us 0) (tk:=y.s.toks) (φ:=eh us) rfl ⟨0,rfl⟩) (rd.mono (y.cG (t:=y.s.toks) λ_ _=>c5 (bu us 0)).sub) hz λw us' b r hl=>cP (b.rd r (hl▸hz)) λw' e l rr=>(az _ rfl (au (az _ rfl (e▸K _ w' (le.trans l) rr))))
theorem YF(ht:∀a,Builtin.«list.sort» ⟨[.ref a],[(dw "key",g)]⟩=ksk_tree a g false)(hk:nZ O k ps=some ks)(ty:o5 (ks.map (·.1))=true)(hs:kW (λa b=>fe O a.1 b.1) ks=some r)(Or:cg c O d)
(CX:∀{A:Am d} {p q:PV} {v:ac} {y:Pt c},O.fn k [p] []=some q->Rd p y v->aE A (bC g [v]) y (Rd q))(hz:ps.length<=aA)(hc:A8 x A.A.in1 u ps s)(K:∀v y,Le x y->Rd (.list (r.map (·.2))) y v->Q v y.s):ai (ah pw c.w) A.A (bC (.builtin "sorted") [u] [(dw "key",g)]) Q E s:=by
 refine call_function_entry_kw kind_sorted plain_sorted entry_sorted (ksk_s1 _ _) ?_;unfold Builtin.«sorted»;refine ae (m:=checkCount "sorted" 1 1 _) (au (ae (hc _ _ λy us le rd=>ae (KR ?_ (sH (rd.length▸hz))))));refine ae (dO (wpAny_call_entry_kw slot_list_sort (az _ (ft _ rfl) rfl) entry_list_sort ?_ (ksk_l1 _ _)));exact Wq (A:=A.in1.in1) ht hk ty hs Or CX (Bx.new (x:=y) (o:=bu us 0) (tk:=y.s.toks) (φ:=eh us) rfl ⟨0,rfl⟩) (rd.mono (y.cG (t:=y.s.toks) λ_ _=>c5 (bu us 0)).sub) hz λw us' b r hl=>cP (b.rd r (hl▸hz)) λw' e l rr=>(az _ rfl (au (az _ rfl (e▸K _ w' (le.trans l) rr))))
end
section
variable{p v:PV}{F:Fm}{np pos:Pos}{e:Expr}{kws:List fj}{I:Ip}{σ:bj}
theorem Mn(P:cD):db P "sorted"=some (.builtin "sorted"):=⋯
theorem adq{P:cD}(h:pE P g)(a:ao):Builtin.«list.sort» ⟨[.ref a],[(dw "key",g)]⟩=ksk_tree a g false:=by
 rcases h with⟨id,rfl⟩|⟨T,rfl⟩|h
 ·rfl
 ·rfl
 ·induction g using Bj with
  |ref q=>rfl|builtin=>rfl|type=>rfl|_=>exact ff h
theorem Pd(Or:cg c O d)(hk:ak F.nm ("sorted":Str)=some .globalImplicit)(hs:iq e=false)(hex:∃ps,eD O F.nm ps kws=some p)
(h:∀(Q:ac->ag->Prop) E,(∀(y:Pt c) u ps,Le x y->eD O F.nm ps kws=some p->ps.length<=aA->A8 x A.A.in1 u ps y.s->Q u y.s)->ai (ah pw c.w) A.A (eval e F.env) Q E x.s):aE A (eval (.Call (.Name "sorted" np) [e] kws pos) F.env) x (Rd p):=λQ E K=>by
 have hs:∀e'∈[e],iq e'=false:=λe' m=>cY m▸hs;have sp:∀{Q:List ac->ag->Prop},(∀(y:Pt c) u ps,Le x y->eD O F.nm ps kws=some p->ps.length<=aA->A8 x A.A.in1 u ps y.s->Q [u] y.s)->ai (ah pw c.w) A.A (oq (ot pos (lE [e] F.env))) Q E x.s:=λ{Q} hh=>aa (wd hs) (wR (h _ _ λy u ps le a b c=>Cp (hh y u ps le a b c)));induction kws using bO with
 |nil=>
  exact wQ (nH hk (Mn _) (by decide) x (rK (kP hs) rfl (.inl ⟨_,rfl⟩) (sp λy u ps le hp hz hc=>uR ⟨y.cU,aL hp λty hp=>fM hp λout q1 q2=>t_ q1 ty Or hz hc (q2▸K)⟩)))
 |cons kw r=>
  obtain⟨UH,hex⟩:=hex;refine aL hex λh1 hex=>aj hex λkn h2 hex=>aL hex λh3 hex=>aj hex λks0 h4 _=>?_;obtain⟨ky,ex,kp⟩:=kw;obtain⟨h0,h1⟩:=h1;obtain rfl:=jz h0;obtain rfl:ky=some ("key":Str):=h1;obtain⟨ahV,rfl⟩:=uK h2;obtain⟨gv,g1,g2,g3⟩:∃g,db c.w.params kn=some g/\pE c.w.params g/\∀{p q:PV},O.fn kn [p] []=some q->qD c d g [p] [] q:=by
   induction UH using bO with
   |nil=>exact absurd rfl h3.2.2
   |cons p0 UH=>
    exact HD h4 λu r hf _ _=>by
     refine cP (Or.fn hf) λg g1 g2 _=>(cz g g1 g2 (λhf'=>?_));obtain⟨g',e1,_,e3⟩:=Or.fn hf';cases ay (g1.symm.trans e1);exact e3
  refine wQ (nH hk (Mn _) (by decide) x (rK (kP hs) rfl (.inl ⟨_,rfl⟩) (sp λy u ps le hp hz hc=>bE λgG hG=>?_)));have hp:(if kn≠("__debug__":Str)/\ak F.nm kn=some .globalImplicit/\ps≠[] then(nZ O kn ps).bind λks=>if o5 (ks.map (·.1))=true then(kW (λa b=>fe O a.1 b.1) ks).map λl=>PV.list (l.map (·.2)) else none else none)=some p:=hp;refine aL hp λ_ hp=>aj hp λks k1 hp=>aL hp λty hp=>fM hp λout q1 q2=>hG (wpAny_evalAll_cons (ae (nH h3.2.1 g1 h3.1 y (ae (jr (au (uR ⟨y.cU,?_⟩)))))));exact YF (adq g2) k1 ty q1 Or (λhf r=>g3 hf (.cons r .nil) .nil) hz hc (q2▸K)
theorem N9{β:Type}{k:List PV->Option β}{r:β}(h:eH v k=some r):∃ps,k ps=some r:=fZ h λ_ h=>by
 unfold over at h;cases e:v.BR with
 |none=>rw[e] at h;exact aj h λps _ h=>⟨ps,h⟩
 |some l=>rw[e] at h;exact⟨_,xF h (B6 _)⟩
theorem YM(S:aX c (d+2) I)(Or:cg c O d)(hk:ak F.nm ("sorted":Str)=some .globalImplicit)(h1:I.e F.nm σ e=some v)(h2:(eH v λl=>eD O F.nm l kws)=some p)(X:bB F x σ):aE A (eval (.Call (.Name "sorted" np) [e] kws pos) F.env) x (Rd p):=
 Pd Or hk (z8 (S.ni h1)) (N9 h2) λQ E K=>S.ev h1 X _ _ λu y l r=>cP (ZO (A:=A.in1) h2 r) λps q1 q2 q3=>K y u ps l q1 q2 λQ E k=>q3 Q E λz us le=>k z us (l.trans le)
end
end
section
variable{c:Cx}{d e:Nat}{O:aK}
theorem Nb(Or:cg c O d)(h:d+3<=e):oX c O e where
 QW ra rb:=Vn ra rb
 sum h r:=acM h r
 max {A x v l p} hm r:=Zd (A:=A.mono (e:=d+2) (aq (iH _) h)) hm Or r
 set {A x v p l} hs r:=C_ (A:=A.mono (e:=0+3) (aq (mG (cu d) 3) h)) hs r
 inter {A x v u l m dW} hv ra rb:=Vh (A:=A.mono (e:=0+3) (aq (mG (cu d) 3) h)) hv ra rb
 Rh r q:=B_ r q
 join h rz rl:=Y9 h rz rl
theorem cg.mono(x:cg c O d)(h:d<=e):cg c O e where
 fn k:=by refine cP (x.fn k) λg a b r=>?_;exact(cz g a b (λ{A}=>r (A:=A.mono h)))
 bM k n:=by refine aB (x.bM k n) λg a r=>?_;exact(az g a (λ{A}=>r (A:=A.mono h)))
 AE k A _ _ _:=x.AE k (A:=A.mono h)
 attr k n A _ _:=x.attr k n (A:=A.mono h)
 bin k A _ _ _:=x.bin k (A:=A.mono h)
 cmp k A _ _ _:=x.cmp k (A:=A.mono h)
 lt k:=by refine cP (x.lt k) λg a b r=>?_;exact(cz g a b (λ{A}=>r (A:=A.mono h)))
end
section
variable{w:cO}{A:bh}{s s':ag}{E:ac->ag->Prop}{a:ao}{g n:Nat}{gs y:jp}{K:ao->Prop}
theorem acX{R:GenEnd}{Y:Protocol}{Q:Option ac->ag->Prop}(hh:A.handled=none)(hl:s.heap.NoLimit)(ahz:A.depth<SI)(hg:s.heap.IsGen a g)(UI:s.gens[g]?=some gs)(hR:∀{n cX r bJ},R n cX r bJ->r=.ok .next\/r=.ok (.ret .none))
(UJ:gs.Goes (ah pw w) A.in1 R Y n (.send .none) (s.setGen g .running))
(hY:∀v bJ ie,ie.bare=true->Y (n-1) (s.setGen g .running) v bJ (λr' i8=>match n with
    |0=>False|m+1=>ie.Goes (ah pw w) A.in1 R Y m r' i8)->Q (some v) (bJ.setGen g ie))
(hP:∀r bJ,R n (s.setGen g .running) r bJ->∀h',(∀b o,bJ.heap.get? b=some o->h'.get? b=some o)->Q none {bJ.setGen g .finished with heap:=h'}):
  ai (ah pw w) A (gm (.ref a)) Q E s:=by
 have stop:∀{bJ:ag} {k:Unit->Sem Fin},(∀h',(∀b o,bJ.heap.get? b=some o->h'.get? b=some o)->Q none {bJ with heap:=h'})->ai (ah pw w) A.in1 (newExc (.type "StopIteration") []>>=λe=>raiseNew e>>=k) (λfin s'=> ∃v,fin=.done (.ret v)/\Q (some v) s') (λe s'=>s'.TypeIs e "StopIteration"/\Q none s') bJ:=λq=>by
  unfold newExc newTuple raiseNew;refine ae (ae (uW (ae (m:=KM _ _) (Cf (a:=oj) (by unfold KM;rfl) (uW (ae (ae (wpAny_handled ?_))) (by size_fits)))) (by size_fits)));exact aa (hh:A.in1.handled=none) (wpAny_throw ⟨(az _ (ft _ rfl) rfl),q _ λb o q=>c5 _ (c5 _ q)⟩)
 have go:(gs=.running\/gs=.finished->False)->ai (ah pw w) A.in1 (agH (.ref a) (.send .none)) (λfin s'=> ∃v,fin=.done (.ret v)/\Q (some v) s') (λe s'=>s'.TypeIs e "StopIteration"/\Q none s') s:=λnr=>by
  unfold agH;refine ae (dO (wpAny_genNumber hg (ae (wpAny_genState UI ?_))));cases gs with
  |running=>exact(nr (.inl rfl)).elim|finished=>exact(nr (.inr rfl)).elim
  |_=>
   refine ae (wpAny_roomToWake hl ahz ?_);show ai _ A.in1 (.resume g (.send .none) [] _) _ _ s;exact wpAny_resumeQ UI UJ (λx bJ hx=>(hR hx).elim (λe=>by subst e;exact stop (hP _ bJ hx)) λe=>by subst e;exact stop (hP _ bJ hx)) λv bJ ie hb hv=>au (az v rfl (hY v bJ ie hb hv))
 unfold gm;refine ae (KJ (KA (name:=dw "__next__") hg.typeIs slot_gen_next (uZ slot_gen_next hg.typeIs entry_gen_next ?_ (args_gen_next _))));refine cQ (go (λq=>by rcases q with rfl|rfl<;>exact UJ)) (λfin s' z=>?_) (λe s' z=>?_)
 ·refine aB z λv bY q=>?_;subst bY;exact(az v rfl (au q))
 ·exact ae (q9 z.1 isSubtype_stop (au z.2))
theorem ER{i:Nat}(h:i≠g):(s.setGen g y).gens[i]?=s.gens[i]?:=by
 unfold ag.setGen;exact Array.getElem?_setIfInBounds_ne (gV h)
theorem RA:(s.setGen g y).gens.size=s.gens.size:=Array.size_setIfInBounds
theorem M1(hg:s.gens[g]?=some gs)(hy:y.bare=true)(X:ci K (g+1) (s.setGen g .running) s'):s'.gens[g]?=some .running/\ci K g s (s'.setGen g y):=by
 have r:=X.gens g _ (i5 g) (setGen_self hg);refine⟨r,X.keep,λi z q e=>(ER (gE q)).trans (X.gens i z (KN q) ((ER (gE q)).trans e)),aq (aD (RA (s:=s) (g:=g) (y:=.running)).symm) (aq X.dm (aD RA.symm)),λhb i z q e=>?_,X.os⟩;by_cases c:i=g
 ·subst c;rw[setGen_self r] at e;exact ay e▸hy
 ·rw[ER c] at e;exact X.bare (λj u q' e'=>hb j u (lF q') ((ER (fO q')).symm.trans e')) i z (pT q (gV c)) e
end
noncomputable def iX(d:Nat):bh:=⟨none,SI-4*d-1,none,none,tq- (40*d+40) -1⟩
section
variable{c:Cx}{x y z p:Pt c}{d g m n:Nat}{A:Am d}{a b:ao}{gs:jp}{s:ag}{E:ac->ag->Prop}{Q:Option ac->ag->Prop}{o:Obj}{l:List PV}
theorem Sm{L b:Nat}(h:b<L):L-b-1+b<L:=aD (F0 h)
theorem PF{L b n:Nat}(h:n+b<L):n<=L-b-1:=mP (agI h)
theorem Am.top(A:Am d):jE d (iX d):=⟨rfl,Sm (aQ (i7 _ _) A.ok.depth),aQ (aD (fC ..)) (Sm (aQ (mG (i7 ..) _) A.ok.units))⟩
theorem Am.up{α:Type}{M:f4}{t:Sem α}{Q:α->ag->Prop}(A:Am d)(h:ai M (iX d) t Q E s):ai M A.A t Q E s:=λΓ p i=>h Γ p
 (Sw (i.1.trans A.ok.handled) (aq i.2.1 (PF A.ok.depth)) (λ_ h=>(nS h)) (λ_ h=>(nS h)) (aq i.2.2.2.2 (PF (aQ (aD (fC ..).symm) A.ok.units))))
noncomputable def Pt.base(y p:Pt c)(h:Sub p.f y.f):Pt c:={y with f:=p.f,K:=p.K,nt:=λa o e=>y.nt a o (h a o e),hs:=λa o e=>y.hs a o (h a o e)}
noncomputable def Pt.gen(y:Pt c)(g:Nat)(gs:jp):Pt c:={y with s:=y.s.setGen g gs}
noncomputable def Pt.join(y z:Pt c)(h:∀b o,y.f b=some o->z.s.heap.get? b=some o):Pt c where
 s:=z.s
 f b:=(y.f b).or (z.f b)
 keep:=z.keep
 tab:=z.tab
 K b o e:=by erw[y.K b o e];rfl
 nt b o e:=(CJ.mp e).elim (y.nt b o) λq=>z.nt b o q.2
 hs b o e:=(CJ.mp e).elim (h b o) λq=>z.hs b o q.2
theorem Vs{h:∀b o,y.f b=some o->z.s.heap.get? b=some o}:Sub z.f (y.join z h).f:=λb o e=>by
 show(y.f b).or (z.f b)=some o;cases q:y.f b with
 |none=>exact e|some o'=>exact(h b o' q).symm.trans (z.hs b o e)
structure Gn(c:Cx) where
 p:Pt c
 a:ao
 g:Nat
 K:ao->Prop
 o:List PV
 T:Nat->Pt c->Prop
variable{G:Gn c}
def Gn.At(G:Gn c)(m:Nat)(s:ag):Prop:=∃y:Pt c,y.s=s/\y.f=G.p.f/\G.T m y
def Gn.R(G:Gn c):GenEnd:=λn cX r s=>(r=.ok .next\/r=.ok (.ret .none))/\n=0/\(∃z:Pt c,z.s=s)/\ci G.K (G.g+1) cX s
def Gn.Y(G:Gn c):Protocol:=λm cX v s CY=>(∃z:Pt c,z.s=s/\((∀b o,z.f b=some o->G.p.f b=some o\/cX.heap.get? b=none)/\∀b,G.K b->z.f b=none)/\∃p,G.o[G.o.length-1-m]?=some p/\Rd p z v)/\ci G.K (G.g+1) cX s/\G.At m s/\∀i8,G.At m i8->CY (.send .none) i8
def Gn.O(G:Gn c)(b:ao):Prop:=G.K b\/b=G.a
structure Gn.Ok(G:Gn c):Prop where
 st:∀{m u v},G.T m u->u.f=G.p.f->v.f=G.p.f->(∀b o,G.K b->u.s.heap.get? b=some o->v.s.heap.get? b=some o)->G.T m v
 lv:∀{m u},G.T m u->∀b,G.K b->∃o,u.s.heap.get? b=some o
 na:¬G.K G.a
structure Gn.Is(G:Gn c)(d m:Nat)(gs:jp)(x:Pt c):Prop where
 sub:Sub G.p.f x.f
 lv:mD G.O x
 ob:x.s.heap.IsGen G.a G.g
 gen:x.s.gens[G.g]?=some gs
 go:∀s,G.At m s->gs.Goes (ah pw c.w) (iX d).in1 G.R G.Y m (.send .none) s
 t:∃u:Pt c,u.f=G.p.f/\G.T m u/\∀b o,G.K b->u.s.heap.get? b=some o->x.s.heap.get? b=some o
theorem Gn.Is.later(i:G.Is d m gs x)(ok:G.Ok)(l:ij G.O (· <=G.g) x y):G.Is d m gs y where
 sub a o e:=l.sub a o (i.sub a o e)
 lv:=i.lv.later l
 ob:=by refine uu i.ob λo nm qn e r=>?_;exact(Ay o nm qn (l.k _ _ (.inr rfl) e) r)
 gen:=l.g _ _ (bf _) i.gen
 go:=i.go
 t:=by refine cP i.t λu e t k=>?_;exact(cz u e t (λb o q e=>l.k b o (.inl q) (k b o q e)))
theorem Gn.step(ok:G.Ok)(A:Am d)(sub:Sub G.p.f y.f)(lv:∀b,G.O b->bW y b)(ob:y.s.heap.IsGen G.a G.g)(gen:y.s.gens[G.g]?=some gs)(go:gs.Goes (ah pw c.w) (iX d).in1 G.R G.Y n (.send .none) (y.s.setGen G.g .running))(kd:n=0->∀z,br G.K G.g y z->Q none z.s)(ki:∀m v p ie z,n=m+1->G.o[G.o.length-n]?=some p->Rd p z v->br G.K G.g y z->G.Is d m ie z->Q (some v) z.s):ai (ah pw c.w) A.A (gm (.ref G.a)) Q E y.s:=by
 have old:∀{s':ag},ci G.K (G.g+1) (y.s.setGen G.g .running) s'->∀b o,y.f b=some o->s'.heap.get? b=some o:=λX b o e=>X.keep b o (y.hs b o e) (y.nt b o e) λq=>nS ((lv b (.inl q)).f.symm.trans e);refine A.up (acX (A:=iX d) rfl y.nolimit (aQ (cW _ _) A.top.depth) ob gen (λq=>q.1) go (λv bJ ie hb hv=>?_) λr bJ hp h' k=>?_)
 ·obtain⟨⟨z,rfl,⟨new,kf⟩,p,e,r⟩,X,⟨u,e1,e2,t⟩,hk⟩:=hv;induction n using m8 with
  |zero=>exact(hk z.s (cz u e1 e2 t)).elim
  |succ m=>
   refine dU (M1 gen hb X) λrun X'=>?_;have UK:∀b o,(y.join z (old X)).f b=some o->y.f b=some o\/z.f b=some o/\y.s.heap.get? b=none:=λb o e=>(CJ.mp e).elim .inl λq=>(new b o q.2).imp (sub b o) λn=>⟨q.2,n⟩;have hu:u.s.heap=z.s.heap:=af _ e1;refine uu ob λo nm qn ea ra=>?_;have UL:=X.keep _ _ ea (cK (lv _ (.inr rfl)).hi) ok.na;refine ki m v p ie ((y.join z (old X)).gen G.g ie) rfl (by erw[gj m 1];rw[<-F4];exact e) (aV.mono (Vs (h:=old X)) r) ⟨λb o e=>CJ.mpr (.inl e),λb o e=>(UK b o e).imp id λq=>.inl q.2,X'⟩
    ⟨λb o e=>CJ.mpr (.inl (sub b o e)),λb q=>⟨⟨?_,(lv b q).h₀,(lv b q).hi⟩,?_⟩,(Ay o nm qn UL ra),setGen_self run,hk,u,e2,t,λb o q e=>(af (λh=>h.get? b) hu).symm.trans e⟩
   ·cases q':(y.join z (old X)).f b with
    |none=>exact q'|some o=>exact(UK b o q').elim (λe=>nS ((lv b q).f.symm.trans e)) λe=>q.elim (λq=>nS ((kf b q).symm.trans e.1)) λq=>nS (e.2.symm.trans (q▸ea))
   ·exact q.elim (λq=>(ok.lv t b q).elim λo e=>⟨o,(af (λh=>h.get? b) hu).symm.trans e⟩) λq=>⟨o,q▸UL⟩
 ·obtain⟨_,hn,⟨z,rfl⟩,X⟩:=hp;obtain⟨run,X'⟩:=M1 (y:=.finished) gen rfl X;exact kd hn ((((y.join z (old X)).base y λb o e=>CJ.mpr (.inl e)).gen G.g .finished).grow h' z.s.toks k) ⟨λ_ _ e=>e,λ_ _=>.inl,⟨λb o e t q=>k b o (X'.keep b o e t q),X'.gens,X'.dm,X'.bare,X'.os⟩⟩
theorem Gn.Is.next(i:G.Is d n gs y)(ok:G.Ok)(A:Am d)(kd:n=0->∀z,br G.K G.g y z->Q none z.s)(ki:∀m v p ie z,n=m+1->G.o[G.o.length-n]?=some p->Rd p z v->br G.K G.g y z->G.Is d m ie z->Q (some v) z.s):ai (ah pw c.w) A.A (gm (.ref G.a)) Q E y.s:=cP i.t λu e t k=>Gn.step ok A i.sub (λb q=>(i.lv b q).1) i.ob i.gen (i.go _ (cz ((y.base G.p i.sub).gen G.g .running) rfl rfl (ok.st t e rfl k))) kd ki
theorem Gn.iter(ok:G.Ok):∀{l:List PV} {x:Pt c} {gs:jp},G.o.drop (G.o.length-l.length)=l->l.length<=G.o.length->G.Is d l.length gs x->dG d G.a G.g l G.O x:=by
 have two:∀{n:Nat} {y:Pt c} {gs:jp} {A:Am d},G.Is d n gs y->(∀Q E,Q (.ref G.a) y.s->ai (ah pw c.w) A.A (gk (.ref G.a)) Q E y.s)/\(∀v t Q E,Q () y.s->ai (ah pw c.w) A.A (yR t (.ref G.a) v) Q E y.s):=λj=>aB j.ob.typeIs λo h1 h2=>⟨λQ E q=>wpAny_pyIter_gen j.ob q,λv t Q E q=>Ez h1 h2 (by decide) q⟩;intro l;induction l with
 |nil=>
  intro x gs hd hl i;refine⟨i.lv,λy A m=>?_⟩;have j:=i.later ok m;exact(ei ((two j).1) ((two j).2) (λQ E q=>j.next ok A (λ_ z st=>q z (st.weaken λ_=>.inl)) λm v p ie z e=>nomatch e))
 |cons p l ih=>
  intro x gs hd hl i;refine⟨i.lv,λy A m=>?_⟩;have j:=i.later ok m;have lt:G.o.length- (l.length+1)<G.o.length:=ze (ba (eE _) hl) (eE _);have LG:=(Cg lt).symm.trans hd;injection LG with d1 d2
  refine(ei ((two j).1) ((two j).2) (λQ E q=>j.next ok A (λe=>nomatch e) λm' v p' ie z e1 e2 r st j'=>?_));cases wJ e1;cases(jM lt).symm.trans e2;exact q v G.O z (d1▸r) (ih ((af (List.drop · G.o) ((Nat.sub_add_comm hl).symm.trans (Tw ..))).symm.trans d2) (lF hl) j') (st.weaken λ_=>.inl) (λ_ q=>q) λ_=>.inl
end
section
variable{c:Cx}{F G:Fm}{sc:fk}{a:ao}{d e g:Nat}{σ:bj}{v:ac}{pos:Pos}{iter:Expr}
section
variable{x y z:Pt c}{A:bh}{E:ac->ag->Prop}{C I:ao}{code:ac}{m:Nat}{q:Str}
theorem acn{h:am}{c P:ao}{ps:Array ac}(t:h.TableAt c P ps)(r:h.CodeRec (.ref c) q):wh h (.ref c) q:=by
 refine bE λgG hG=>?_;obtain⟨⟨o,vs,e1,e2,e3,_⟩,_⟩:=t;refine Pu r λc' o' xd tk a1 a2 a3 a4=>?_;cases a1;cases ay (e1.symm.trans a2);exact hG ((BU c o xd tk rfl e1 e2 a3 a4))
theorem Mi{h h':am}{x:ac}{P:ao}(y:wh h x q)(k:am.ExtBut P h h')(n:∀o,h.get? P=some o->o.cls≠ .type "code"):wh h' x q:=Ow y λc o vs t a b e r z=>(BU c o vs t a (k c o (λq=>n o (q▸b) e) b) e r z)
theorem ac6{c:ao}(h:vz (.ref c)=true):∃P:ao,dB P/\((c=29/\P=25)\/(c=36/\P=32)\/(c=44/\P=40)):=by
 rcases mq h with h|h
 ·rcases mq h with h|h
  ·exact(az 25 (.inl rfl) (.inl ⟨a5 h,rfl⟩))
  ·exact(az 32 (.inr (.inl rfl)) (.inr (.inl ⟨a5 h,rfl⟩)))
 ·exact(az 40 (.inr (.inr rfl)) (.inr (.inr ⟨a5 h,rfl⟩)))
theorem afu{pos:Pos}{a b:Int}{c x:ac}{l:List ac}:TriplesOk l->B7 pos (l++[c6 a,c6 b,c])=some x->B7 pos l=some x\/x=c:=
 TriplesOk.induct_unfolding (λl T=>T->B7 pos (l++[c6 a,c6 b,c])=some x->B7 pos l=some x\/x=c)
  (λ_ h=>.inr (aL (c:=(a==(pos.line:Int)&&b==(pos.col:Int))=true) h λ_ h=>(ay h).symm))
  (λi _ j _ _ _ ih k h=>d9 (c:=(i==(pos.line:Int)&&j==(pos.col:Int))=true) h (λq h=>.inl ((iP q).trans h)) λq h=>(ih k h).imp_left (iN q).trans) (λ_ _ _ k=>k.elim) l
theorem afr{pos:Pos}{Q:ac->ag->Prop}(hc:vz F.env.code=true)(hQ:∀v y,Le x y->y.f=x.f->Q v y.s):ai (ah pw c.w) A (genexprCode F.env pos q sc) Q E x.s:=by
 cases ec:F.env.code with
 |ref cc=>
  rw[ec] at hc;refine aB (ac6 hc) λP tP hm=>cP (x.tab cc P hm) λps i t r=>?_;have nP:∀o,x.s.heap.get? P=some o->o.cls≠ .type "code":=λo e h=>by
   cases ay (t.2.symm.trans e);nomatch h
  cases hf:B7 pos ps.toList with
  |some c'=>exact wpAny_genexprCode_hit ec i hf (hQ _ x (.refl x) rfl)
  |none=>
   refine wpAny_genexprCodeX ec i t hf λc' h' tk k1 k2 k3 k4 k5 k6 k7=>cP k7 λP' k8 _ k9=>?_;have new:=acn k9 k5;have T:iD h':=λLU UM LV=>by
    by_cases hP:UM=P
    ·have hcc:LU=cc:=by
      subst hP;rcases hm with⟨rfl,rfl⟩|⟨rfl,rfl⟩|⟨rfl,rfl⟩<;>rcases LV with⟨rfl,h⟩|⟨rfl,h⟩|⟨rfl,h⟩<;>first|rfl|nomatch h
     subst hP hcc;refine(cz _ k4 k6 (λpos' x e=>?_));have htr:TriplesOk ps.toList:=by obtain⟨_,_,_,_,_,_,_,_,_,_,_,_,_,_,_,_,_,_,_,z,_⟩:=i;exact z
     rw[show(ps++ #[c6 pos.line,c6 pos.col,pO c']).toList=ps.toList++[c6 pos.line,c6 pos.col,.ref c'] from Array.toList_append] at e;rcases afu htr e with e|rfl
     ·exact dJ (r pos' x e) λq' z=>⟨q',Mi z k1 nP⟩
     ·exact⟨_,new⟩
    ·refine cP (x.tab LU UM LV) λahA ahB ahC LM=>?_;have UN:LU≠P:=λe=>by
      refine bE λgG hG=>?_;subst e;refine hG ?_;rcases hm with⟨rfl,h⟩|⟨rfl,h⟩|⟨rfl,h⟩<;>rcases LV with⟨h',rfl⟩|⟨h',rfl⟩|⟨h',rfl⟩<;>rw[h'] at h<;>nomatch h
     exact(cz ahA (ahB.extBut k1 UN hP) (ahC.extBut k1 UN hP) (λpos' x e=>dJ (LM pos' x e) λq' z=>⟨q',Mi z k1 nP⟩))
   exact hQ _ (x.to _ (.Mg λb o e n=>k1 b o (λq=>n (q▸tP)) e) T) (Le.to _ _) rfl
 |_=>rw[ec] at hc;exact ff hc
def OC(F:Fm)(sc:fk)(C:ao)(code:ac):Env:=genEnv sc (iY F.env sc.names []) C code uM F.env
theorem qw(S:t7 F.nm sc)(h:(iY F.env sc.names []).lookup q=some a):F.env.cells.lookup q=some a:=(Ng (Di S) h).elim id λh=>nS h
theorem EQ:(OC F sc C code).kindOf q=ak sc.names q:=H0
def RY(F:Fm)(sc:fk)(C:ao)(code:ac)(S:t7 F.nm sc)(hn:∀y∈sc.names,y.2≠tv)(nC:¬dB C)(old:∀z a,F.env.cells.lookup z=some a->a≠C):Fm where
 env:=OC F sc C code
 nm:=sc.names
 kind:=S.kind
 glob:=F.glob
 blt:=rfl
 names x e:=EQ.trans e
 cells x e n:=e.elim (λe=>absurd rfl (hn _ (gL e))) λe=>⟨.inr (EQ.trans e),EU (.inr (gL e))⟩
 jf:=⟨nC,λx a e=>F.jf.2 x a (qw S e)⟩
 cl x a e:=old x a (qw S e)
 apart x y a e1 e2:=F.apart x y a (qw S e1) (qw S e2)
 code g:=by rw[S.ng] at g;exact ff g
structure sG(G:Fm)(x:Pt c)(σ:bj):Prop where
 v:bB G x σ
 o:jK G x
def Et(G:Fm)(f:Fz):Prop:=∀z b,G.env.cells.lookup z=some b->∃o,f b=some o
theorem ZX(hc:Et G x.f)(hf:Sub x.f y.f)(k:∀o,x.s.heap.get? G.env.locals=some o->y.s.heap.get? G.env.locals=some o)(b:ao)(o:Obj)(w:dq G.env b)(e:x.s.heap.get? b=some o):y.s.heap.get? b=some o:=w.elim (λq=>by subst q;exact k o e) λq=>q.elim λz q=>(hc z b q).elim λo' e'=>y.hs b o (hf b o (ay ((x.hs b o' e').symm.trans e)▸e'))
theorem sG.keep(r:sG G x σ)(hc:Et G x.f)(hf:y.f=x.f)(k:∀o,x.s.heap.get? G.env.locals=some o->y.s.heap.get? G.env.locals=some o):sG G y σ:=
 have k:=ZX hc (λb o e=>(congrFun hf b).trans e) k
 ⟨r.v.keep k λb o e=>(congrFun hf b).trans e,r.o.keep r.v.cR k λb _ n _=>⟨(congrFun hf b).trans n.f,n.h₀,n.hi⟩⟩
structure GP(c:Cx) where
 p:Pt c
 a:ao
 g:Nat
 e:Nat
 F:Fm
 I:ao
 J:Ip
 t:Expr
 elt:Expr
 σ:bj
 o:List PV
variable{B:GP c}{cX:ag}{Q:ac->ag->Prop}
def GP.K(B:GP c)(b:ao):Prop:=b=B.F.env.locals\/b=B.I
def GP.T(B:GP c)(m:Nat)(u:Pt c):Prop:=sG B.F u B.σ/\∃src,(src.length=m/\m<=B.o.length)/\nh B.e B.I src u/\kT (B.J.e B.F.nm) B.F.nm B.t B.elt B.σ src=some (B.o.drop (B.o.length-m))
noncomputable def GP.gn(B:GP c):Gn c:=⟨B.p,B.a,B.g,B.K,B.o,B.T⟩
structure GP.Ok(B:GP c):Prop where
 co:B.F.env.scope.isCoroutine=false
 uj:Et B.F B.p.f
 na:¬B.K B.a
 nI:¬dq B.F.env B.I
 ow:∀b,tM B.F b->b=B.F.env.locals
 S:aX c B.e B.J
theorem GP.Ok.gn(k:B.Ok):B.gn.Ok where
 st {m u v} h hu hv kp:=by
  obtain⟨r,src,h1,h2,h3⟩:=h;have hf:v.f=u.f:=hv.trans hu.symm;exact⟨r.keep (λz b q=>hu▸k.uj z b q) hf λo=>kp _ o (.inl rfl),src,h1,h2.later ⟨λb o e=>(congrFun hf b).trans e,λb o q=>kp b o (.inr q),λb q=>(congrFun hf b).trans (h2.live b q).1.f,λ_ _ q=>q.elim⟩,h3⟩
 lv {m u} h b q:=by
  refine bE λgG hG=>?_;obtain⟨r,src,h1,h2,h3⟩:=h;exact hG (q.elim (λq=>by subst q;refine tU r.o.ns λm o es ep e _=>?_;exact⟨o,e⟩) λq=>(h2.live b q).2)
 na:=k.na
structure GP.ET(B:GP c)(m:Nat)(cX:ag)(v:ac)(z:Pt c):Prop where
 f:z.f=B.p.f
 x:ci B.K (B.g+1) cX z.s
 r:sG B.F z B.σ
 ex:∃v0 σ' px src,((src.length=m/\m+1<=B.o.length)/\nh B.e B.I src z/\kT (B.J.e B.F.nm) B.F.nm B.t B.elt B.σ src=some (B.o.drop (B.o.length-m)))/\B.o[B.o.length-1-m]?=some px/\lD B.t B.σ=true/\fY (hF B.F.nm) B.t v0 B.σ=some σ'/\B.J.e B.F.nm σ' B.elt=some px/\Rd v0 z v
structure GP.Rk(B:GP c)(m:Nat)(cX:ag)(px:PV)(σ':bj)(y:Pt c):Prop where
 f:y.f=B.p.f
 x:ci B.K (B.g+1) cX y.s
 v:bB B.F y σ'
 o:B.o[B.o.length-1-m]?=some px
 e:B.J.e B.F.nm σ' B.elt=some px
 t:B.T m y
theorem GP.Ok.done(k:B.Ok)(A:Am B.e){u:Pt c}(x:ci B.K (B.g+1) cX u.s)(h:B.T 0 u){Q:Option ac->ag->Prop}(q:∀z:Pt c,ci B.K (B.g+1) cX z.s->Q none z.s):ai (ah pw c.w) A.A (gm (.ref B.I)) Q E u.s:=by
 refine bE λgG hG=>?_;obtain⟨r,src,h1,h2,h3⟩:=h;cases List.eq_nil_of_length_eq_zero h1.1;exact hG ((h2.2 u A (.refl h2.1)).2.2 _ _ λz w=>q z (x.trans ((w _).e.weaken λ_=>.inr)))
theorem GP.Ok.next(k:B.Ok)(A:Am B.e){u:Pt c}(hu:u.f=B.p.f)(x:ci B.K (B.g+1) cX u.s)(h:B.T (m+1) u){Q:Option ac->ag->Prop}(q:∀v z,B.ET m cX v z->Q (some v) z.s):ai (ah pw c.w) A.A (gm (.ref B.I)) Q E u.s:=by
 refine bE λgG hG=>?_;obtain⟨r,src,h1,h2,h3⟩:=h;refine hG ?_;induction src using bO with
 |nil=>nomatch h1.1
 |cons v0 src=>
  refine bE λgG hG=>aL h3 λhf h3=>aj h3 λσ' hb h3=>aj h3 λpx hv h3=>fM h3 λmore h4 h5=>?_;have lt:B.o.length- (m+1)<B.o.length:=ze (ba (eE _) h1.2) (eE _);have hd:=h5.trans (Cg lt);injection hd with d1 d2
  refine hG ((h2.2 u A (.refl h2.1)).2.2 _ _ λv z rv i w=>q v z ⟨(w 0).f.trans hu,x.trans ((w _).e.weaken λ_=>.inr),r.keep (λz b q=>hu▸k.uj z b q) (w 0).f λo e'=>(w 0).e.keep _ o e' B.F.jf.1 λq=>k.nI (.inl q.symm),v0,σ',px,src,(ei ⟨wJ h1.1,h1.2⟩ i (h4.trans (af some (d2.trans (af (B.o.drop ·) ?_))))),?_,hf,hb,hv,rv⟩)
  ·rw[Nat.sub_succ];exact agJ (rh h1.2)
  ·rw[F4,gj 1];exact(jM lt).trans (af some d1.symm)
theorem GP.ET.go{z:Pt c}(M:B.ET m cX v z)(A:Am B.e){Q:Unit->ag->Prop}(q:Q () z.s):ai (ah pw c.w) A.A (yR B.t (.ref B.I) v) Q E z.s:=by
 refine bE λgG hG=>?_;obtain⟨v0,σ',px,src,⟨_,i,_⟩,_⟩:=M.ex;exact hG ((i.iter (g:=0)).go A q)
theorem GP.Ok.put(k:B.Ok){z:Pt c}(M:B.ET m cX v z)(A:Am B.e){Q:Unit->ag->Prop}(q:∀px σ' y,B.Rk m cX px σ' y->Q () y.s):ai (ah pw c.w) A.A (uT B.t B.F.env v) Q E z.s:=by
 refine bE λgG hG=>?_;obtain⟨v0,σ',px,src,⟨h1,i,h4⟩,ho,hf,hb,hv,rv⟩:=M.ex;exact hG (Rz hb M.r.v M.r.o rv λy b=>q px σ' y ⟨(b.w 0).f.trans M.f,M.x.trans ((b.w _).e.weaken λb q=>.inl (k.ow b q)),b.v,ho,hv,⟨b.v.weaken λz q e=>Mp hb hf e,b.o⟩,src,⟨h1.1,lF h1.2⟩,i.later (cH.later (b.w _).st i.live λb q h=>k.nI (q▸nW h)),h4⟩)
theorem GP.Ok.give(k:B.Ok){y y':Pt c}{px:PV}{σ':bj}{CY:Resume->ag->Prop}(T:B.Rk m cX px σ' y)(le:Le y y')(r:Rd px y' v)(h:∀u:Pt c,u.f=B.p.f->B.T m u->CY (.send .none) u.s):B.gn.Y m cX v y'.s CY:=by
 have sub:Sub B.p.f y'.f:=T.f▸le.sub;have hi:∀b,B.K b->¬dB b:=λb q=>q.elim (λq=>q▸cK T.t.1.o.own.hi) λq=>T.t.2.elim λsrc h=>q▸cK (h.2.1.live B.I rfl).1.hi;exact(zE ⟨y',rfl,⟨λb o q=>(le.new b o q).imp (λq=>(congrFun T.f b).symm.trans q) λq'=>(T.x.back (y'.nt b o q) q').elim id λz=>(k.gn.lv T.t b z).elim λo e=>nS (q'.symm.trans e),λb q=>(bW.le (q.elim (λq=>q▸T.t.1.o.own) λq=>T.t.2.elim λsrc h=>q▸(h.2.1.live B.I rfl).1) le (k.gn.lv T.t b q)).f⟩,px,T.o,r⟩ (T.x.trans le.e.ny) (cz (y'.base B.p sub) rfl rfl (k.gn.st T.t T.f rfl λb o q e=>le.e.keep b o e (hi b q))) (λi8 q=>by refine cP q λu bY e t=>?_;subst bY;exact h u e t))
theorem jE.over{A:bh}{d:Nat}{G:Fm}{elt:Expr}{gens:List jL}{it acc:ac}(x:jE (d+1) A):jE d (A.over (.compLoop (.GeneratorExp elt gens sc pos) 0 it acc G.env) []):=x.to x.handled (pC (show 1<=4 by decide)) (pC (show 3<=40 by decide))
noncomputable def GP.Jp(B:GP c)(iter:Expr)(sc:fk)(pos:Pos):Code:=.compLoop (.GeneratorExp B.elt [⟨B.t,iter,[],0⟩] sc pos) 0 (.ref B.I) .none B.F.env
theorem abl(k:B.Ok)(hA:jE B.e (((iX (B.e+2)).in1).over (B.Jp iter sc pos) [])):∀(m:Nat) (u:Pt c),u.f=B.p.f->B.T m u->Seg (ah pw c.w) (iX (B.e+2)).in1 B.gn.R B.gn.Y m u.s (B.Jp iter sc pos) ((ah pw c.w).den (B.Jp iter sc pos)) [] u.s:=by
 intro m;induction m with
 |zero=>
  intro u hu h;show Seg _ _ _ _ _ u.s _ ((Cm (.GeneratorExp B.elt [⟨B.t,iter,[],0⟩] sc pos) 0 (.ref B.I) .none B.F.env).onRaise (wT B.F.env)) [] u.s;rw[agK,F5];exact ib (jr (ib (k.done ⟨_,hA⟩ (.refl _) h λz x=>seg_end (.ok .next) (zE (.inl rfl) rfl ⟨z,rfl⟩ x))))
 |succ m ih=>
  intro u hu h;show Seg _ _ _ _ _ u.s _ ((Cm (.GeneratorExp B.elt [⟨B.t,iter,[],0⟩] sc pos) 0 (.ref B.I) .none B.F.env).onRaise (wT B.F.env)) [] u.s;rw[agK,F5];refine ib (jr (ib (k.next ⟨_,hA⟩ hu (.refl _) h λv z M=>ib (M.go ⟨_,hA⟩ (ib (k.put M ⟨_,hA⟩ λpx σ' y T=>?_))))));simp only[yU,pure_bind,if_true];have hyo:∀v,yieldOut B.F.env v=yieldValue v:=λv=>by simp only[yieldOut,k.co,yW,if_false]
  simp only[hyo];rw[Tx,Tx,Tz,Tz];exact seg_wrap (k.S.ev (A:=(⟨_,hA⟩:Am B.e)) T.e T.v _ _ λv' y' le LW=>seg_at (seg_yield rfl rfl rfl (k.give T le LW λu e t=>F6 rfl (ih u e t))))
end
section
variable{x y z w:Pt c}{b:ao}{elt:Expr}{outs ps:List PV}{p:PV}{u:ac}{β:Type}{k:List PV->Option β}{r:β}{n:Nat}
theorem acw{B:GP c}(k:B.Ok)(hA:jE (B.e+1) ((iX (B.e+2)).in1)){u:Pt c}(hu:u.f=B.p.f)(h:B.T n u):Seg (ah pw c.w) (iX (B.e+2)).in1 B.gn.R B.gn.Y n u.s (.compStart (.GeneratorExp B.elt [⟨B.t,iter,[],0⟩] sc pos) 0 (.ref B.I) .none B.F.env) ((ah pw c.w).den (.compStart (.GeneratorExp B.elt [⟨B.t,iter,[],0⟩] sc pos) 0 (.ref B.I) .none B.F.env)) [] u.s:=by
 refine bE λgG hG=>?_;have o:=jE.over (sc:=sc) (G:=B.F) (gens:=[⟨B.t,iter,[],0⟩]) (elt:=B.elt) (pos:=pos) (it:=.ref B.I) (acc:=.none) hA;have loop:=abl k o n u hu h;obtain⟨r,src,h1,h2,h3⟩:=h;refine hG ?_;show Seg _ _ _ _ _ u.s _ ((Kv (.GeneratorExp B.elt [⟨B.t,iter,[],0⟩] sc pos) 0 (.ref B.I) .none B.F.env).onRaise (wT B.F.env)) [] u.s;unfold Kv;rw[F5];show Seg _ _ _ _ _ u.s _ ((ask>>=_).wrap _ _ _ _) [] u.s;refine ib (oC ?_);split
 ·exact F6 rfl loop
 ·have hA':jE B.e ((iX (B.e+2)).in1.over (.compStart (.GeneratorExp B.elt [⟨B.t,iter,[],0⟩] sc pos) 0 (.ref B.I) .none B.F.env) []):=⟨o.handled,o.depth,o.units⟩;exact ib (uV (ib (jr (ib ((h2.iter (g:=0)).self (A:=(⟨_,hA'⟩:Am B.e)) (F6 rfl loop))))))
theorem aaB{env:Env}{l:aN}{acc:List (Str×ao)}(h:l.all (λp=>p.2 !=.free)=true):iY env l acc=acc:=by
 induction l with
 |nil=>rfl
 |cons p l ih=>
  obtain⟨h1,h2⟩:=aW h;show(if(p.2==.free)=true then _ else _)=_;exact aa (iN λq=>bne_iff_ne.mp h1 (a5 q)) (ih h2)
open Classical in
def Pt.kJ(x:Pt c)(F:Fm):Pt c where
 s:=x.s
 f b:=if∃z,F.env.cells.lookup z=some b then x.s.heap.get? b else x.f b
 keep:=x.keep
 tab:=x.tab
 K a o e:=by
  by_cases q:∃z,F.env.cells.lookup z=some a
  ·exact(iP q).trans (x.cU a o e)
  ·exact(iN q).trans (x.K a o e)
 nt a o e:=by
  by_cases q:∃z,F.env.cells.lookup z=some a
  ·exact q.elim λz q=>F.jf.2 z a q
  ·exact x.nt a o ((iN q).symm.trans e)
 hs a o e:=by
  by_cases q:∃z,F.env.cells.lookup z=some a
  ·exact(iP q).symm.trans e
  ·exact x.hs a o ((iN q).symm.trans e)
structure zU(F:Fm)(sc:fk)(x y:Pt c):Prop where
 s:y.s=x.s
 sub:Sub x.f y.f
 uj:∀z b,(iY F.env sc.names []).lookup z=some b->∃o,y.f b=some o
theorem zU.kJ(X:bB F x σ)(S:t7 F.nm sc):zU F sc x (x.kJ F) where
 s:=rfl
 sub b o e:=by
  by_cases q:∃z,F.env.cells.lookup z=some b
  ·exact(iP q).trans (x.hs b o e)
  ·exact(iN q).trans e
 uj z b e:=eJ (X.cR z b (qw S e)) λv o e1 _=>⟨o,(iP ⟨z,qw S e⟩).trans e1⟩
theorem zU.id(h:sc.names.all (λp=>p.2 !=.free)=true):zU F sc x x:=⟨rfl,λ_ _ e=>e,λz b e=>by rw[aaB h] at e;exact nS e⟩
theorem aaG(h:eH p k=some r)(rd:Rd p x u):∃ps,k ps=some r/\ps.length<=aA/\∀{A:Am d} {y:Pt c},Sub x.f y.f->uA A (gk u) y ps:=fZ h λhn h=>by
 induction p using dg with
 |tup l=>exact⟨l,h,(iT rd λ_ _ z=>⟨l,rfl,z⟩:∃z,_/\_).elim λ_ q=>q.2,λs=>Q9 (rd.mono s)⟩|list l=>exact⟨l,h,(dX rd λ_ _ z=>⟨l,rfl,z⟩:∃z,_/\_).elim λ_ q=>q.2,λs=>Hs (rd.mono s)⟩
 |d8 lo hi=>exact(cz _ h (by
   rw[bi,cF];exact qA (m:=λ_=>(hi-lo).toNat<=aA) rd λ_ _ _ hz=>Lo.mpr hz) (λs=>RU (rd.mono s)))
 |set l=>
  exact aB (Rb (d:=d) rd) λl' p g=>(cz _ (xF (h:qy l k=some r) p) (by
   rw[bi,p.length_eq];exact lu (m:=λ_=>l.length<=aA) rd λ_ _ ht=>aq ht.len (by decide)) g)
 |inst=>exact absurd rfl hn|_=>exact nS h
theorem aeJ(P:cD):nsIn (KL P) mE "__builtins__"=some (some (.ref 4)):=⋯
theorem Vk(P:cD):(KL P).lookup 4=some {cls:=.type "module",dict:=some 0,data:=.plain}:=⋯
theorem afx{A:bh}{E:ac->ag->Prop}{Q:ao->ag->Prop}(x:Pt c)(h:Q uM x.s):ai (ah pw c.w) A (builtinsFor mE uM) Q E x.s:=dJ c.g λmg g=>wpAny_builtinsFor (g.keeps x.keep) (mg_of c.K g (aeJ _)) (by decide) (x.cU 4 _ (Vk _)) rfl rfl rfl h
structure Au(d:Nat)(x w:Pt c)(u:ac)(outs:List PV):Prop where
 le:Le x w
 it:∃a K g,u=.ref a/\K a/\dG d a g outs K w/\(∀b,K b->x.s.heap.get? b=none)/\x.s.gens.size<=g/\g<=w.s.gens.size
 ty:w.s.TypeIs u "generator"
end
end
section
variable{c:Cx}{x:Pt c}{F:Fm}{d e:Nat}{σ:bj}{I J:Ip}{O:aK}{ex:Expr}{pos:Pos}{p v:PV}
section
variable{y z w:Pt c}{sc:fk}{A:Am d}{t elt it:Expr}{outs ps:List PV}{kk:List PV->Option PV}{fr:Bool}{Q:ac->ag->Prop}{E:ac->ag->Prop}{ev:bj->Expr->Option PV}{nm:aN}
theorem adT:∀{ps outs:List PV},kT ev nm t elt σ ps=some outs->outs.length=ps.length:=by
 intro ps;induction ps with
 |nil=>exact λh=>ay h▸rfl|cons v ps ih=>exact λh=>aL h λ_ h=>aj h λ_ _ h=>aj h λ_ _ h=>fM h λmore h e=>e▸af jq (ih h)
theorem Qo{m:Expr->Prop}(h:wq O I J nm σ fr kk ex=some p)(K:∀elt t it sc pos v,(fr=true\/(sc.names.all λp=>p.2 !=.free)=true)->O.gens=true->pH nm=true->Iu sc=true->AW it=true->Bk nm sc=true->I.e nm σ it=some v->(eH v λsrc=>(kT (J.e sc.names) sc.names t elt (mw sc σ) src).bind kk)=some p->m (.GeneratorExp elt [⟨t,it,[],0⟩] sc pos)):m ex:=by
 induction ex using eu with
 |GeneratorExp elt gs sc pos=>
  refine aj h λg h1 h=>aL h λq h=>aj h λv h2 h3=>dU (aW q) λr1 q1=>dU (aW r1) λr2 q2=>dU (aW r2) λr3 q3=>?_;obtain⟨r4,q4⟩:=aW r3;obtain⟨r5,q5⟩:=aW r4;obtain⟨r6,q6⟩:=aW r5;refine dU (aW r6) λr7 q7=>?_;obtain⟨t,it,ifs,as⟩:=g;cases jz q2;cases a5 q1;induction gs using bO with
  |nil=>exact nS h1
  |cons g gs=>induction gs using bO with
   |nil=>cases ay h1;exact K elt t it sc pos v (mq r7) q7 q6 q5 q4 q3 h2 h3
   |cons=>exact nS h1
 |_=>exact nS h
theorem Yp{env:Env}(h:AW it=true)(k:qP it=true):genFold it env=pure:=funext λv=>by
 induction it using eu with
 |Name=>exact AU k env v|Call=>exact AU k env v|_=>exact ff h
theorem Θ{C:ao}{code:ac}{c3:∀y∈sc.names,y.2≠tv}{nC:¬dB C}{old:∀z a,F.env.cells.lookup z=some a->a≠C}(so:t7 F.nm sc)(X:bB F y σ)(k:∀b o,y.s.heap.get? b=some o->¬dB b->w.s.heap.get? b=some o)(sub:Sub y.f w.f):bB (RY F sc C code so c3 nC old) w (mw sc σ) where
 cR z a e:=eJ (X.cR z a (qw so e)) λv o e1 e2=>(de v o (k a o e1 (F.jf.2 z a (qw so e))) e2)
 var z p e:=by
  refine dU (Nw e) λe1 e2=>aB (X.var z p e1) λv V r=>dU (so.free z (gL e2)) λa b=>?_;have kk:=F.cells z a b;refine(az v (.inr ⟨.inr ⟨EQ.trans e2,kH b⟩,?_⟩) (r.mono sub));rcases V with⟨q,_⟩|⟨q,c0,e3,o,i1,i2⟩
  ·rw[q] at kk;exact kk.1.elim (λq=>nomatch q) λq=>nomatch q
  ·obtain⟨c',e4⟩:=tG.mp (EU (env:=F.env) (acc:=[]) (.inr (gL e2)));cases ay ((qw so e4).symm.trans e3);exact⟨_,e4,o,k _ o i1 (F.jf.2 z _ e3),i2⟩
theorem Pm{C:Pt c->Pt c->Prop}(S:aX c d I)(S':aX c e J)(he:e+2<=d)(hg:pH F.nm=true)(CZ:Iu sc=true)(hp:AW it=true)(hs:Bk F.nm sc=true)(h1:I.e F.nm σ it=some v)(h2:(eH v λsrc=>(kT (J.e sc.names) sc.names t elt (mw sc σ) src).bind kk)=some p)(X:bB F x σ)
(AS:∀{y:Pt c},bB F y σ->∃y',C y y'/\zU F sc y y')(k:∀y y' w u outs,Le x y->C y y'->kk outs=some p->outs.length<=aA->Au (e+2) y' w u outs->Q u w.s):ai (ah pw c.w) A.A (eval (.GeneratorExp elt [⟨t,it,[],0⟩] sc pos) F.env) Q E x.s:=by
 have so:=H' hs;obtain⟨c1,c3⟩:=aW CZ;refine dU (aW c1) λc1 c2=>?_;have c3:∀y∈sc.names,y.2≠tv:=λy m=>bne_iff_ne.mp (b7 c3 y m);refine wpAny_GeneratorExp_make (tu _▸c1) (Qk λq m e=>Di so q.1 (e▸m)) c3 (a5 c2) so.kind (aQ (cW _ _) A.ok.depth) (S.ev h1 X _ _ λxv y le r=>?_) λv=>?_
 rotate_left
 ·exact congrFun (Yp hp (S.ni h1)) v
 refine bE λgG hG=>cP (aaG (d:=e) h2 r) λps q1 q2 q3=>aj q1 λouts q4 q5=>aB (AS (X.le le)) λy' hC ct=>hG (hH (ct.s) (q3 (A:=A.mono (aq (cW _ 2) he)) ct.sub _ _ λy1 Eb _ i=>⟨y1.nolimit,afr (F.code hg) λcode z UO hz=>?_⟩));have nI:=eQ y'.s.heap;generalize y'.s.heap.objs.size=Ia at i nI⊢;refine aa (F.glob) (aa (F.blt) (afx z λh' hn mZ=>?_));have tJ:=Eb.trans UO;have keep:∀{ob:Obj} b o,z.s.heap.get? b=some o->(h'.push ob).get? b=some o:=λb o e=>c5 _ (mZ.extBut b o (gE (fB e)) (c5 _ e));have hsz:h'.objs.size=z.s.heap.objs.size+1:=by erw[mZ.1];rw[oA]
 have Iz:=(i.later ((cH.later (W:=λ_=>False) UO.st i.live λ_ _=>id)));have ahD:∀z' a,F.env.cells.lookup z'=some a->a<z.s.heap.objs.size:=λz' a q=>eJ ((X.le le).cR z' a q) λv o e _=>fB (tJ.e.keep a o (ct.s▸e) (F.jf.2 z' a q));have nC:∀b,z.s.heap.objs.size<=b->y'.s.heap.get? b=none/\bW z b:=λb l=>⟨tJ.e.back (z.ke l) (Dk l),z.free l (Dk l)⟩;have old:=λz' a q=>gE (ahD z' a q);have ltI:Ia<z.s.heap.objs.size:=(Iz.live Ia rfl).2.elim λo e=>fB e;have hl:=adT q4;generalize hG:RY F sc z.s.heap.objs.size code so c3 (z.ke (bf _)) old=G;have hE:G.env=genEnv sc (iY F.env sc.names []) z.s.heap.objs.size code uM F.env:=hG▸rfl;have hN:G.nm=sc.names:=hG▸rfl;have hL:G.env.locals=z.s.heap.objs.size:=hE▸rfl;refine hH (hE) ?_;generalize pY:({cls:=.type "generator",data:=.fields #[.int z.s.gens.size 0,.str "<genexpr>" (z.s.toks+1),.str (F.env.qual++ "<genexpr>") (z.s.toks+1+1)]}:Obj)=ob;have LZ:ob.isFreed=false:=pY▸rfl;have x3:e7 z.s {z.s with gens:=z.s.gens.push (.fresh (.compStart (.GeneratorExp elt [⟨t,it,[],0⟩] sc pos) 0 (.ref Ia) .none G.env)),toks:=z.s.toks+1+1+1,heap:=h'.push ob}:=⟨λb o e _=>keep b o e,λi x e=>by
   erw[KV];erw[iN (gE (ahd.mp e).1)];exact e,λi x l e=>by
   rw[KV] at e;by_cases q:i=z.s.gens.size
   ·rw[iP q] at e;cases ay e;rfl
   ·rw[iN q] at e;exact t4 l e,rfl⟩
 have lw:Le z (z.to _ x3 (z.tab.keeps keep)):=Le.to _ _;generalize hw:z.to _ x3 (z.tab.keeps keep)=w at lw;have ws:w.s={z.s with gens:=z.s.gens.push (.fresh (.compStart (.GeneratorExp elt [⟨t,it,[],0⟩] sc pos) 0 (.ref Ia) .none G.env)),toks:=z.s.toks+1+1+1,heap:=h'.push ob}:=hw▸rfl;have wf:w.f=z.f:=hw▸rfl;have Iw:=Iz.later (cH.later (W:=λ_=>False) lw.st Iz.live λ_ _=>id);have fr:∀b,z.s.heap.objs.size<=b->bW w b:=λb l=>⟨(congrFun wf b).trans (nC b l).2.f,(nC b l).2.h₀,(nC b l).2.hi⟩;have sub:Sub y'.f w.f:=λb o e=>lw.sub b o (tJ.sub b o e);have V:sG G w (mw sc σ):=by
  subst hG;exact⟨Θ so (X.le le) (λb o e n=>(tJ.trans lw).e.keep b o (ct.s▸e) n) λb o e=>sub b o (ct.sub b o e),⟨_,by erw[ws];exact hn.push _⟩,fr _ (bf _),λq e=>EQ.trans e,λq e=>absurd rfl (c3 _ (gL e))⟩
 have uj:Et G w.f:=λz' b q=>by
  subst hG;exact(ct.uj z' b q).elim λo e=>⟨o,sub b o e⟩
 have sa:z.s.heap.objs.size<=h'.objs.size:=hsz▸iH _;have na:¬(h'.objs.size=G.env.locals\/h'.objs.size=Ia):=λq=>q.elim (λq=>Nat.succ_ne_self _ (hsz.symm.trans (q.trans hL))) λq=>cV _ (aQ sa (q▸ltI));have nI':¬dq G.env Ia:=λq=>q.elim (λq=>cV _ (hL▸q▸ltI)) λq=>q.elim λz' q=>by
  subst hG;exact eJ ((X.le le).cR z' Ia (qw so q)) λv o e _=>nS (nI.symm.trans (ct.s▸e))
 have gs:w.s.gens[z.s.gens.size]?=some (.fresh (.compStart (.GeneratorExp elt [⟨t,it,[],0⟩] sc pos) 0 (.ref Ia) .none G.env)):=by erw[ws];exact agL
 have ga:w.s.heap.get? h'.objs.size=some ob:=by erw[ws];exact ft _ LZ
 have H:GP.Ok ⟨w,h'.objs.size,z.s.gens.size,e,G,Ia,J,t,elt,mw sc σ,outs⟩:=⟨by show G.env.scope.isCoroutine=false;erw[hE];exact tu _▸c1,uj,na,nI',λb q=>q.elim id λq=>q.elim λx q=>absurd rfl (c3 _ (gL (hN▸q.1))),S'⟩;have Is:(GP.gn ⟨w,h'.objs.size,z.s.gens.size,e,G,Ia,J,t,elt,mw sc σ,outs⟩).Is (e+2) outs.length (.fresh (.compStart (.GeneratorExp elt [⟨t,it,[],0⟩] sc pos) 0 (.ref Ia) .none G.env)) w:={
  sub:=λ_ _ e=>e
  lv:=λb q=>q.elim (λq=>q.elim (λq=>q▸⟨V.o.own,V.o.ns.elim λm n=>by refine uu n λo es ep e _=>?_;exact⟨o,e⟩⟩) λq=>Iw.live b q) λq=>by subst q;exact⟨fr _ sa,ob,ga⟩
  ob:=(xD ob (.str "<genexpr>" (z.s.toks+1)) (.str (F.env.qual++ "<genexpr>") (z.s.toks+1+1)) ga (pY▸rfl) (pY▸rfl) (pY▸rfl))
  gen:=gs
  go:=λs h=>by obtain⟨u,rfl,hu,h⟩:=h;exact⟨rfl,acw H (Am.in1 (d:=e+1) ⟨iX (e+2),(A.mono he).top⟩).ok hu h⟩
  t:=(cz w rfl ⟨V,ps,⟨hl.symm,bf _⟩,Iw,by show kT (J.e G.nm) G.nm t elt (mw sc σ) ps=some (outs.drop (outs.length-outs.length));erw[hN];rw[zf];exact q4⟩ (λb o _ e=>e))}
 exact hH (ws) (k y y' w _ outs le hC q5 (hl▸q2) ⟨tJ.trans lw,(acN _ _ z.s.gens.size rfl (.inr rfl) (Gn.iter H.gn (show outs.drop (outs.length-outs.length)=outs by rw[zf];rfl) (bf _) Is) (λb q=>q.elim (λq=>q.elim (λq=>(nC b (aD (hL.symm.trans q.symm))).1) λq=>q▸nI) λq=>(nC b (q▸sa)).1) tJ.e.dm lw.e.dm),ob,ga,pY▸rfl⟩)
end
noncomputable def adD(I:ao):Option ac->Sem Fin
 |none=>do rule "all.exhausted";ret (.bool true)
 |some v=>do
  let yes<-yV [v] (yM v)
  letGo [v]
  if yes then again (.builtin "all.loop" ⟨[.ref I],[]⟩) else(do rule "all.false-item";ret (.bool false))
noncomputable def aft(I:ao):Option ac->Sem Fin
 |none=>do rule "any.exhausted";ret (.bool false)
 |some v=>do
  let yes<-yV [v] (yM v)
  letGo [v]
  if yes then(do rule "any.true-item";ret (.bool true)) else again (.builtin "any.loop" ⟨[.ref I],[]⟩)
section
variable{y z w:Pt c}{g:Nat}{outs l:List PV}{u:ac}{a:ao}{K:ao->Prop}{b:Bool}
theorem XO{w:cO}{s:ag}(hT:s.TypeIs (.ref a) "generator"):BA w a s:=λ{A Q} h=>by
 unfold Tu;refine ae (Fy hT PySem.F.gen_no_len ?_);show ai _ A (specialOf (pO a) (dw "__length_hint__")>>=_) _ _ _;exact ae (Fy hT PySem.F.gen_no_hint (au (h true s.toks)))
theorem act{A:Am (d+1)}(i:Au d x w u outs)(hz:outs.length<=aA):A8 x A.A u outs w.s:=λQ E k=>by
 refine bE λgG hG=>?_;obtain⟨le,⟨a,K,g,rfl,ka,i,nw,g1,g2⟩,ty⟩:=i;refine hG (RD (A:=A) le ty (by decide) (by decide) hz (λ{y S Q E} l b nS q=>?_) k);have i':=i.later (cH.later (W:=λ_=>False) l.st i.live λ_ _=>id);exact aB ty λo t1 t2=>i'.self A.in1 (q y a K g ⟨b,i',nw,λk=>(i.live S k).2.elim λo e=>Mine.nS (nS.symm.trans e),g1,aq g2 l.e.dm⟩ (XO (az o (l.e.keep _ _ t1 (cK (i.live a ka).1.hi)) t2)))
theorem Le.on(l:Le x y)(st:br K g y z)(nK:∀b,K b->x.s.heap.get? b=none)(g1:x.s.gens.size<=g)(g2:g<=y.s.gens.size):Le x z:=br.le (br.trans l.st ((st.lower g1 g2).weaken nK)) λ_ q=>q
theorem Q3{A:Am (d+1)}{R:mL->ag->Prop}{L:String}{kk:Option ac->Sem Fin}(ahE:(Code.builtin L ⟨[.ref a],[]⟩).quiet=true)
(GC:∀{s:ag},ai (ah pw c.w) A.in1.A (gm (.ref a)>>=kk) (λfin s'=>match fin with|.done f=>R (.ok f) s'|.again c'=>c'.quiet=true/\eO (ah pw c.w) A.A c' R s') No s->eO (ah pw c.w) A.A (.builtin L ⟨[.ref a],[]⟩) R s)
(hd:∀{Q:Fin->ag->Prop} {s:ag},Q (.done (.ret (.bool b))) s->ai (ah pw c.w) A.in1.A (kk none) Q No s)(hi:∀{Q:Fin->ag->Prop} {s:ag},Q (.again (.builtin L ⟨[.ref a],[]⟩)) s->ai (ah pw c.w) A.in1.A (kk (some (.bool b))) Q No s)
(k:∀z,Le x z->R (.ok (.ret (.bool b))) z.s)(g1:x.s.gens.size<=g):∀{l:List PV} {K:ao->Prop} {y:Pt c},l.all (PV.AZ b)=true->Le x y->dG d a g l K y->(∀b,K b->x.s.heap.get? b=none)->g<=y.s.gens.size->eO (ah pw c.w) A.A (.builtin L ⟨[.ref a],[]⟩) R y.s:=by
 intro l;induction l with
 |nil=>exact λhb le i nK g2=>GC (ae (i.done A.in1 λz st=>hd (k z (le.on st nK g1 g2))))
 |cons p l ih=>
  intro K y hb le i nK g2;refine dU (aW hb) λhp vg=>GC (ae (i.next A.in1 λv K' z rv i' st _ dn=>?_));revert rv;cases p with
  |bool b'=>
   cases a5 hp;exact λrv=>mf rv (hi ⟨ahE,ih vg (le.on st nK g1 g2) i' (λq h=>(dn q h).elim (nK q) λn=>le.e.back (cK (i'.live q h).1.hi) n) (aq g2 st.e.dm)⟩)
  |_=>exact ff hp
theorem ω{A:Am (d+2)}{Q E}(i:Au d x w u outs)(hb:outs.all (PV.AZ true)=true)(k:∀z,Le x z->Q (.bool true) z.s):ai (ah pw c.w) A.A (bC (.builtin "all") [u]) Q E w.s:=by
 refine bE λgG hG=>?_;obtain⟨le,⟨a,K,g,rfl,ka,i,nw,g1,g2⟩,ty⟩:=i;refine hG (Tq PySem.F.kind_all PySem.F.plain_all PySem.F.entry_all (PySem.F.args_all1 _) ?_);unfold Builtin.«all»;refine ae (m:=oneArg "all" _) (au (ae (i.self (A.in1.mono (e:=d) (iH d)) (au ⟨iJ TA _,Q3 (A:=A.mono (e:=d+1) (iH _)) (kk:=adD a) (iJ TA _) (λh=>jP PySem.F.entry_all_loop (by
  erw[kD TA _];exact cQ h (λ_ _ z=>z) λ_ _ z=>z.elim)) (λq=>ae (uV (au q))) (λq=>ae (dO (wL (ae (wU (au q)))))) k g1 hb le i nw g2⟩))))
theorem XA{A:Am (d+2)}{Q E}(i:Au d x w u outs)(hb:outs.all (PV.AZ false)=true)(k:∀z,Le x z->Q (.bool false) z.s):ai (ah pw c.w) A.A (bC (.builtin "any") [u]) Q E w.s:=by
 refine bE λgG hG=>?_;obtain⟨le,⟨a,K,g,rfl,ka,i,nw,g1,g2⟩,ty⟩:=i;refine hG (Tq PySem.F.kind_any PySem.F.plain_any PySem.F.entry_any (PySem.F.args_any1 _) ?_);unfold Builtin.«any»;refine ae (m:=oneArg "any" _) (au (ae (i.self (A.in1.mono (e:=d) (iH d)) (au ⟨iJ TB _,Q3 (A:=A.mono (e:=d+1) (iH _)) (kk:=aft a) (iJ TB _) (λh=>jP PySem.F.entry_any_loop (by
  erw[kD TB _];exact cQ h (λ_ _ z=>z) λ_ _ z=>z.elim)) (λq=>ae (uV (au q))) (λq=>ae (dO (wL (ae (wU (au q)))))) k g1 hb le i nw g2⟩))))
theorem Vl(P:cD):db P "all"=some (.builtin "all"):=⋯
theorem aee(P:cD):db P "any"=some (.builtin "any"):=⋯
end
section
variable{A:Am (d+2)}{np:Pos}{kws:List fj}{nm:Str}
theorem H_(S:aX c (d+2) I)(S':O.gens=true->aX c e J)(he:e+4<=d+2)(hk:ak F.nm nm=some .globalImplicit)(hx:nm=("all":Str)\/nm=("any":Str))(h:wq O I J F.nm σ true (xu (nm==("all":Str))) ex=some p)(X:bB F x σ):aE A (eval (.Call (.Name nm np) [ex] [] pos) F.env) x (Rd p):=
 Qo (m:=λex=>aE A (eval (.Call (.Name nm np) [ex] [] pos) F.env) x (Rd p)) h λelt t it sc gp v _ hO hg CZ hp hs h1 h2 Q E K=>by
  have go:∀(g:ac) (b:Bool),(nm==("all":Str))=b->db c.w.params nm=some g->pE c.w.params g->nm≠("__debug__":Str)->(∀{y w:Pt c} {u:ac} {outs:List PV} {Q E},Au (e+2) y w u outs->outs.all (PV.AZ b)=true->(∀z,Le y z->Q (.bool b) z.s)->ai (ah pw c.w) A.A (bC g [u]) Q E w.s)->
    ai (ah pw c.w) A.A (eval (.Call (.Name nm np) [.GeneratorExp elt [⟨t,it,[],0⟩] sc gp] [] pos) F.env) Q E x.s:=λg b hb gv kg nd fin=>by
   have UP:∀e'∈[Expr.GeneratorExp elt [⟨t,it,[],0⟩] sc gp],iq e'=false:=λe' m=>cY m▸rfl;refine wQ (nH hk gv nd x (rK (kP UP) rfl kg (aa (wd UP) (wR (Pm (C:=λy y'=>y'.s=y.s) S (S' hO) (aq (i3 (by decide) e) he) hg CZ hp hs h1 h2 X (λ{y} X=>(az (y.kJ F) rfl (.kJ X (H' hs)))) λy y' w u outs le ce q1 q2 gi=>Cp (uR ⟨w.cU,?_⟩))))));rw[hb] at q1;exact aL q1 λq e=>fin gi q λz lz=>K _ (y.to z.s (ce▸lz.e) z.tab) (le.trans (Le.to _ _)) (ay e▸ .bool)
  rcases hx with rfl|rfl
  ·exact go _ true rfl (Vl _) (.inl ⟨_,rfl⟩) (by decide) λgi q k=>ω (A:=A.mono he) gi q k
  ·exact go _ false rfl (aee _) (.inl ⟨_,rfl⟩) (by decide) λgi q k=>XA (A:=A.mono he) gi q k
theorem X9(Or:cg c O d)(S:aX c (d+2) I)(S':O.gens=true->aX c e J)(he:e+4<=d+2)(hk:ak F.nm ("sorted":Str)=some .globalImplicit)(h:wq O I J F.nm σ false (λvs=>eD O F.nm vs kws) ex=some p)(X:bB F x σ):aE A (eval (.Call (.Name "sorted" np) [ex] kws pos) F.env) x (Rd p):=
 Qo (m:=λex=>aE A (eval (.Call (.Name "sorted" np) [ex] kws pos) F.env) x (Rd p)) h λelt t it sc gp v nf hO hg CZ hp hs h1 h2=>by
  refine dJ (N9 h2) λps q=>Pd Or hk rfl (aj q λouts _ q=>⟨outs,q⟩) λQ E K=>Pm (C:=λy y'=>y'=y) S (S' hO) (aq (i3 (by decide) e) he) hg CZ hp hs h1 h2 X (λX=>(az _ rfl (.id (nf.resolve_left dy)))) λy y' w u outs le ce q1 q2 gi=>?_;subst ce;exact K w u outs (le.trans gi.le) q1 q2 λQ E k=>act (A:=A.in1.mono (KC he)) gi q2 Q E λz us l=>k z us (le.trans l)
theorem Oa(Or:cg c O d)(S:aX c (d+2) I)(S':O.gens=true->aX c e J)(he:e+4<=d+2):zK c O (d+2) I J where
 MU hk hx h X:=H_ S S' he hk hx h X
 Oc hk h X:=X9 Or S S' he hk h X
 Qy hk h1 h2 X:=YM S Or hk h1 h2 X
end
end
section
variable{c:Cx}{x y z w:Pt c}{d:Nat}{v:ac}{yp ey py ps pa:Pos}{l:List PV}
def lq:Ip:=⟨λnm σ e=>(iB e).bind λx=>I2 nm σ x,λ_ _ _=>none⟩
section
variable{B:GP c}{m:Nat}{cX:ag}{UQ:Pos}{kk:mL->Sem Fin}{hd:Option ac}{lv kp:List ac}{cc:Code}
theorem aeq:aX c d lq where
 ni h:=aj h λz e _=>AI (m:=λe=>qP e=true) e λ_=>rfl
 tup h:=nS h
 lst h:=nS h
 ev {A x F σ e p} h X:=aj h λz e h=>AI (m:=λe=>aE A (eval e F.env) x (Rd p)) e λ_=>Ox h X
 te h:=nS h
theorem Ve{env:Env}(h:env.scope.kind=.function):Ky env=false:=by unfold Ky;erw[h];rfl
noncomputable def GP.Hj(B:GP c)(yp ey:Pos):Code:=.forLoop B.t (.ref B.I) [.Expr (.Yield (some B.elt) yp) ey] [] B.F.env
theorem aca(k:B.Ok)(hA:jE B.e ((iX (B.e+2)).in1.over (B.Hj yp ey) [.ret kk hd false lv cc UQ kp]))
(hk:∀cX (z:Pt c),ci B.K (B.g+1) cX z.s->Seg (ah pw c.w) (iX (B.e+2)).in1 B.gn.R B.gn.Y 0 cX cc (kk (.ok .next)) [] z.s):
  ∀(m:Nat) (cX:ag) (u:Pt c),u.f=B.p.f->B.T m u->ci B.K (B.g+1) cX u.s->Seg (ah pw c.w) (iX (B.e+2)).in1 B.gn.R B.gn.Y m cX (B.Hj yp ey) ((ah pw c.w).den (B.Hj yp ey)) [.ret kk hd false lv cc UQ kp] u.s:=by
 intro m;induction m with
 |zero=>
  intro cX u hu h X;show Seg _ _ _ _ _ cX _ ((forTurn B.t (.ref B.I) [.Expr (.Yield (some B.elt) yp) ey] [] B.F.env).onRaise _) _ u.s;rw[F5];unfold forTurn;exact ib (jr (ib (wpAny_onRaise (k.done ⟨_,hA⟩ X h λz x=>F6 rfl (seg_leaf (.ok .next) (hk cX z x))))))
 |succ m ih=>
  intro cX u hu h X;show Seg _ _ _ _ _ cX _ ((forTurn B.t (.ref B.I) [.Expr (.Yield (some B.elt) yp) ey] [] B.F.env).onRaise _) _ u.s;rw[F5];unfold forTurn;refine ib (jr (ib (wpAny_onRaise (k.next ⟨_,hA⟩ hu X h λv z M=>ib (M.go ⟨_,hA⟩ (ib (k.put M ⟨_,hA⟩ λpx σ' y T=>?_)))))));rw[Tx,Tz];exact seg_execs_cons (seg_Expr_Yield rfl rfl rfl (k.S.ev (A:=(⟨_,hA⟩:Am B.e)) T.e T.v _ _ λv' y' le LW CY ahF=>k.give T le LW λu e t=>ahF .none u.s (F6 rfl (ih u.s u e t (.refl _)))) k.co (Ve B.F.kind))
end
section
variable{F:Fm}{e g m:Nat}{A:Am d}{a:ao}{z1:Str}{px pos:Pos}
theorem M_{w:cO}{A:bh}{s:ag}{E:ac->ag->Prop}{K:kq}{x C c:ao}{ox:Obj}{od:Option Obj}{Q:ac->ag->Prop}(X:K.In s.heap)(J:InstAt s.heap x ox C od)(hs:fN K (.ref C) "__iter__"=some (some (.ref c)))(hf:ou K (.ref c)=true)
(h:ai (ah pw w) A (bC (.ref c) [.ref x]) (λit s'=>s'.TypeIs it "generator"/\Q it s') E s):ai (ah pw w) A (gk (.ref x)) Q E s:=by
 have key:∀t:Sem ac,ai (ah pw w) A (agM (.ref x) "__iter__" t) (λr s'=> ∃v,r=some v/\s'.TypeIs v "generator"/\Q v s') E s:=λt=>by
  unfold agM bindSpecialIfBound?;refine dO (ae (ae (ae (J.type.here ((y7 X hs).here (ae (oC (wpAny_ite ?_))))))));have last:ai (ah pw w) A (bC (.ref c) [.ref x]>>=λv=>pure (some v)) (λr s'=> ∃v,r=some v/\s'.TypeIs v "generator"/\Q v s') E s:=
   ae (cQ h (λv s' z=>au (az v rfl z)) λ_ _ z=>z)
  split
  ·exact ae ((bind_fn X _ (a5 hf)).here (au (by exact last)))
  ·exact FY (ae ((bind_fn X _ (a5 hf)).here (au (by exact last))))
 unfold gk;refine ae (ae (J.type.here ((y7 X hs).here (ae (cQ (key _) (λr s' z=>?_) λ_ _ z=>z)))));refine cP z λv bY T q=>?_;subst bY;exact ae (Fy T slot_gen_next.lookup (au q))
theorem adz{nm:aN}{σ:bj}(hx:ak nm z1=some .local)(hd:z1≠("__debug__":Str))(hσ:ak σ z1=none):kT (lq.e nm) nm (.Name z1 px) (.Name z1 py) σ l=some l:=by
 induction l with
 |nil=>rfl
 |cons v l ih=>
  have h1:lD (.Name z1 px) σ=true:=by show(vH (.Name z1 px)).all _=true;unfold vH;erw[Ko];erw[hσ];rfl
  have h2:fY (hF nm) (.Name z1 px) v σ=some (b9 σ z1 v):=iP (.inl hx);have h3:lq.e nm (b9 σ z1 v) (.Name z1 py)=some v:=by
   show(if z1=("__debug__":Str) then none else if ak nm z1=some .globalImplicit then IR z1 else ak (b9 σ z1 v) z1)=some v;refine aa (iN hd) (aa (hx) (aa (iN (by decide)) (aa (wi) (aa (iP rfl) ?_))));rfl
  show(if lD (.Name z1 px) σ=true then(fY (hF nm) (.Name z1 px) v σ).bind λσ'=>(lq.e nm σ' (.Name z1 py)).bind λx=>(kT (lq.e nm) nm (.Name z1 px) (.Name z1 py) σ l).map λmore=>x::more else none)=_;refine aa (iP h1) (aa (h2) (aa (ih) ?_));show((lq.e nm (b9 σ z1 v) (.Name z1 py)).bind _)=_;erw[h3];rfl
noncomputable def sZ(z1:Str)(px py ps pa yp ey pos:Pos):List aH:=[.For (.Name z1 px) (.Attribute (.Name "self" ps) "_voters" pa) [.Expr (.Yield (some (.Name z1 py)) yp) ey] [] pos]
structure PR(F:Fm)(w:Pt c)(a:ao)(e:Nat)(z1:Str)(σ:bj)(v vl:ac)(l:List PV):Prop where
 co:F.env.scope.isCoroutine=false
 cl:∀b,dq F.env b->b=F.env.locals
 na:a≠F.env.locals
 fa:bW w a
 hx:ak F.nm z1=some .local
 hd:z1≠("__debug__":Str)
 hσ:ak σ z1=none
 r:sG F w σ
 V:dA F.env w.s.heap "self" v
 rd:Rd (.list l) w vl
 get:∀{y:Pt c} {A:bh} {Q:ac->ag->Prop} {E:ac->ag->Prop},Sub w.f y.f->(∀t,Q vl {y.s with toks:=t})->ai (ah pw c.w) A (uP v "_voters" true) Q E y.s
theorem PR.ok{σ:bj}{vl:ac}(H:PR F w a e z1 σ v vl l){I:ao}(h1:I≠F.env.locals)(h2:a≠I):GP.Ok ⟨w,a,g,e,F,I,lq,.Name z1 px,.Name z1 py,σ,l⟩ where
 co:=H.co
 uj z b q:=absurd (H.cl b (.inr ⟨z,q⟩)) (F.cl z b q)
 na q:=q.elim H.na h2
 nI q:=h1 (H.cl _ q)
 ow b q:=H.cl b (nW q)
 S:=aeq
theorem Yb{σ:bj}{vl:ac}(H:PR F w a e z1 σ v vl l)(hA:jE (e+1) (iX (e+2)).in1)(hy:y.f=w.f)(r:sG F y σ)(V:dA F.env y.s.heap "self" v)(na:a≠y.s.heap.objs.size):
  Seg (ah pw c.w) (iX (e+2)).in1 (GP.gn ⟨w,a,g,e,F,y.s.heap.objs.size,lq,.Name z1 px,.Name z1 py,σ,l⟩).R (GP.gn ⟨w,a,g,e,F,y.s.heap.objs.size,lq,.Name z1 px,.Name z1 py,σ,l⟩).Y l.length y.s (.func (sZ z1 px py ps pa yp ey pos) F.env) ((ah pw c.w).den (.func (sZ z1 px py ps pa yp ey pos) F.env)) [] y.s:=by
 have nl:y.s.heap.objs.size≠F.env.locals:=λq=>tU r.o.ns λm o es ep e _=>cV _ (fB (q▸e));have ok:=H.ok (g:=g) (px:=px) (py:=py) nl na;have hA1:jE e ((iX (e+2)).in1.over (.func (sZ z1 px py ps pa yp ey pos) F.env) []):=hA.to rfl (pC (show 1<=4 by decide)) (pC (show 3<=40 by decide));refine seg_func (seg_execs_cons ?_);rw[exec_For];refine ib (jr (ib (JL rfl (Co (Ac F V (H.get (λb o e=>(congrFun hy b).trans e) λt=>?_)) rfl))));refine ib (Cf rfl (ib (jr (ib (dO (Hs (A:=(⟨_,hA1⟩:Am e)) (x:=y.tok t) (l:=l) (H.rd.mono λb o e=>(congrFun hy b).trans e) _ _ λy2 le hf i=>seg_call λp=>aca (B:=⟨w,a,g,e,F,y.s.heap.objs.size,lq,.Name z1 px,.Name z1 py,σ,l⟩) ok ?_ (λcX z X=>seg_end (.ok (.ret .none)) (zE (.inr rfl) rfl ⟨z,rfl⟩ X)) l.length y.s y2 (hf.trans hy) ⟨⟨r.v.le ((y.cG _).trans le),r.o.le r.v ((y.cG _).trans le)⟩,l,⟨rfl,bf _⟩,i,?_⟩ ((y.cG _).trans le).e.ny))))))
 ·exact hA.to rfl (pC (show 1<=4 by decide)) (pC (show 3<=40 by decide))
 ·show _=some (l.drop (l.length-l.length));rw[zf];exact adz H.hx H.hd H.hσ
end
section
variable{F:Fm}{e g m:Nat}{A:Am d}{a:ao}{vl:ac}{z1:Str}{px pos:Pos}{σ:bj}
def pK(F:Fm)(a b:ao):Prop:=b=F.env.locals\/b=a
theorem PR.next{B:Am (e+2)}(H:PR F w a e z1 σ v vl l)(hg:w.s.gens[g]?=some (.fresh (.func (sZ z1 px py ps pa yp ey pos) F.env)))(ob:w.s.heap.IsGen a g)(lv:mD (pK F a) w)(m:ij (pK F a) (· <=g) w y){Q:Option ac->ag->Prop}{E:ac->ag->Prop}
(kd:l.length=0->∀z,br (pK F a) g y z->Q none z.s)(ki:∀m v p ie z,l.length=m+1->l[l.length-l.length]?=some p->Rd p z v->br (pK F a) g y z->(GP.gn ⟨w,a,g,e,F,y.s.heap.objs.size,lq,.Name z1 px,.Name z1 py,σ,l⟩).Is (e+2) m ie z->GP.Ok ⟨w,a,g,e,F,y.s.heap.objs.size,lq,.Name z1 px,.Name z1 py,σ,l⟩->Q (some v) z.s):
  y.s.heap.IsGen a g/\ai (ah pw c.w) B.A (gm (.ref a)) Q E y.s:=by
 have L0:=lv.later m;have UR:y.s.heap.IsGen a g:=by refine uu ob λo nm qn e r=>?_;exact(Ay o nm qn (m.k a o (.inr rfl) e) r)
 have nI:y.s.heap.get? y.s.heap.objs.size=none:=eQ _;have kp:∀b o,dq F.env b->w.s.heap.get? b=some o->y.s.heap.get? b=some o:=λb o q e=>m.k b o (.inl (H.cl b q)) e;have nl:∀b,pK F a b->b≠y.s.heap.objs.size:=λb q e=>(L0 b q).2.elim λo e'=>nS (nI.symm.trans (e▸e'));have ok:=H.ok (g:=g) (px:=px) (py:=py) (gV (nl _ (.inl rfl))) (nl _ (.inr rfl));have r1:sG F ((y.base w m.sub).gen g .running) σ:=⟨H.r.v.keep kp λ_ _ e=>e,H.r.o.keep H.r.v.cR kp λb _ n _=>⟨n.f,n.h₀,n.hi⟩⟩;have seg:=Yb (g:=g) (px:=px) (py:=py) (ps:=ps) (pa:=pa) (yp:=yp) (ey:=ey) (pos:=pos) H (Am.in1 (d:=e+1) ⟨iX (e+2),B.top⟩).ok (y:=(y.base w m.sub).gen g .running) rfl r1 (H.V.keep kp) (nl _ (.inr rfl));have sh:∀{z:Pt c},br (GP.gn ⟨w,a,g,e,F,y.s.heap.objs.size,lq,.Name z1 px,.Name z1 py,σ,l⟩).K g y z->br (pK F a) g y z:=λst=>st.shrink λb q=>q.elim (λq=>.inl (.inl q)) λq=>.inr (q▸nI);exact⟨UR,Gn.step (G:=GP.gn ⟨w,a,g,e,F,y.s.heap.objs.size,lq,.Name z1 px,.Name z1 py,σ,l⟩) ok.gn B m.sub (λb q=>q.elim (λq=>q.elim (λq=>(L0 b (.inl q)).1) λq=>y.free (aD q.symm) (q▸nI)) λq=>(L0 b (.inr q)).1) UR (m.g g _ (bf _) hg) ⟨rfl,seg⟩ (λe z st=>kd e z (sh st)) λm' v p ie z e1 e2 r st i=>ki m' v p ie z e1 e2 r (sh st) i ok⟩
theorem ad5(H:PR F w a e z1 σ v vl l)(hg:w.s.gens[g]?=some (.fresh (.func (sZ z1 px py ps pa yp ey pos) F.env)))(ob:w.s.heap.IsGen a g):dG (e+2) a g l (pK F a) w:=by
 have lv:mD (pK F a) w:=λb q=>q.elim (λq=>q▸⟨H.r.o.own,by refine tU H.r.o.ns λm o es ep e _=>?_;exact⟨o,e⟩⟩) λq=>q▸⟨H.fa,by refine uu ob λo _ _ e _=>?_;exact⟨o,e⟩⟩;have two:∀{y:Pt c} {A:Am (e+2)},y.s.heap.IsGen a g->(∀Q E,Q (.ref a) y.s->ai (ah pw c.w) A.A (gk (.ref a)) Q E y.s)/\(∀v t Q E,Q () y.s->ai (ah pw c.w) A.A (yR t (.ref a) v) Q E y.s):=λj=>aB j.typeIs λo h1 h2=>⟨λQ E q=>wpAny_pyIter_gen j q,λv t Q E q=>Ez h1 h2 (by decide) q⟩;have obs:∀{y:Pt c},ij (pK F a) (· <=g) w y->y.s.heap.IsGen a g:=λm=>by refine uu ob λo nm qn e r=>?_;exact(Ay o nm qn (m.k a o (.inr rfl) e) r)
 induction l using bO with
 |nil=>exact⟨lv,λy A m=>(ei ((two (obs m)).1) ((two (obs m)).2) (λQ E k=>(H.next (B:=A) hg ob lv m (λ_=>k) λm v p ie z e=>nomatch e).2))⟩
 |cons p l=>
  refine⟨lv,λy A m=>(ei ((two (obs m)).1) ((two (obs m)).2) (λQ E k=>(H.next (B:=A) hg ob lv m (λe=>nomatch e) λm' v p' ie z e1 e2 r st i ok=>?_).2))⟩;rw[zf] at e2;cases ay e2;cases wJ e1;refine k v _ z r (Gn.iter ok.gn ?_ (iH _) i) st (λb q=>q.imp .inl id) λb q=>q.elim (λq=>q.elim (λq=>.inl (.inl q)) λq=>.inr (q▸eQ _)) λq=>.inl (.inr q);show(p::l).drop (l.length+1-l.length)=l;rw[F7];rfl
def jg:aY:=⟨582,c8 37 11,"Profile.__iter__",.none,.str (dw "abcvoting.preferences") 849,.ref 581,[],[]⟩
noncomputable def v3(l c e f:Nat):Pos:={line:=l,col:=c,endLine:=e,endCol:=f}
theorem acf:jg.body=sZ "voter" (v3 634 12 634 17) (v3 635 18 635 23) (v3 634 21 634 25) (v3 634 21 634 33) (v3 635 12 635 23) (v3 635 12 635 23) (v3 634 8 635 23)/\jg.scope.names=([("self",.local),("voter",.local)]:aN)/\jg.names=(["self"]:List Str)/\jg.plain=true/\jg.scope.kind=.function/\jg.scope.isCoroutine=false/\jg.scope.isGenerator=true:=by
 refine(afb (?_) (?_) (?_) (?_) (?_) (?_) (?_))<;>rfl'
theorem aaE(P:cD):(KL P).lookup jg.addr=some (ch jg.st jg.qual jg.dflt jg.pm jg.code [] .none):=⋯
theorem aag(P:cD):(fN (KL P) (.ref bv) "__iter__"==some (some (.ref jg.addr))&&(ou (KL P) (.ref jg.addr)&&codeIn (KL P) jg.code (dw jg.qual)))=true:=⋯
end
section
variable{F:Fm}{A:Am (d+2)}{fs:List (Str×PV)}{px fp:Pos}{R:aY}{Q:mL->ag->Prop}
theorem YC(z:Pt c){h':am}{code:Code}{t:Nat}(keep:∀b o,z.s.heap.get? b=some o->h'.get? b=some o):∃w:Pt c,w.s={z.s with gens:=z.s.gens.push (.fresh code),toks:=t,heap:=h'}/\w.f=z.f/\Le z w/\w.s.gens[z.s.gens.size]?=some (.fresh code):=
 have x3:e7 z.s {z.s with gens:=z.s.gens.push (.fresh code),toks:=t,heap:=h'}:=⟨λb o e _=>keep b o e,λi x e=>by
   erw[KV];erw[iN (gE (ahd.mp e).1)];exact e,λi x l e=>by
   rw[KV] at e;by_cases q:i=z.s.gens.size
   ·rw[iP q] at e;cases ay e;rfl
   ·rw[iN q] at e;exact t4 l e,rfl⟩
 (vL (z.to _ x3 (z.tab.keeps keep)) rfl rfl (Le.to _ _) (agL))
theorem adH(hp:R.plain=true)(hb:R.body=sZ "voter" px py ps pa yp ey fp)(hn:R.scope.names=([("self",.local),("voter",.local)]:aN))(ha:R.names=(["self"]:List Str))(hk:R.scope.kind=.function)(L7:R.scope.isCoroutine=false)(ahG:R.scope.isGenerator=true)
(at_:(KL c.w.params).lookup R.addr=some (ch R.st R.qual R.dflt R.pm R.code [] .none))(hd:R.dflt=.none)(hc:codeIn (KL c.w.params) R.code (dw R.qual)=true)(h:ak fs ("_voters":Str)=some (.list l))(r:Rd (.inst bv fs) x v)
(k:∀w I K g,Le x w->w.s.TypeIs (.ref I) "generator"->dG 2 I g l K w->(∀b,K b->x.s.heap.get? b=none)->x.s.gens.size<=g->g<=w.s.gens.size->Q (.ok (.ret (.ref I))) w.s):eO (ah pw c.w) A.A (.call (.ref R.addr) ⟨[v],[]⟩) Q x.s:=by
 refine bE λgG hG=>aB (PM h ⋯ rfl r) λvl rv get=>?_;have ho:=x.cU _ _ at_;have al:∀z k,(z,k)∈R.scope.names->ak R.scope.names z=some k/\k=.local:=λz k m=>by
  rw[hn] at m⊢;rcases bw m with q|q
  ·cases q;exact⟨rfl,rfl⟩
  ·cases cY q;exact⟨rfl,rfl⟩
 have S:EW R.scope:=⟨hk,L7,λz e=>absurd (al z _ (gL e)).2 (by decide),λz kd m=>(al z kd m).1⟩;have cd:=codeRec_of x.cU hc;have Gu:∀z,ak R.scope.names z≠some .cell:=λz e=>absurd (al z _ (gL e)).2 (by decide);have ng:pH R.scope.names=true->vz R.code=true:=λq=>by rw[hn] at q;exact ff q
 have e1:ak R.scope.names ("self":Str)=some .local:=by erw[hn];rfl
 have e2:ak R.scope.names ("voter":Str)=some .local:=by erw[hn];rfl
 clear at_ hc hn al;obtain⟨addr,st,qual,dflt,pm,code,LJ,mu⟩:=R;obtain⟨name,args,body,dl,rt,tp,sc,ts,bd,pos,rfl⟩:=HJ (R:=⟨addr,st,qual,dflt,pm,code,LJ,mu⟩) hp;cases(show body=_ from hb);cases(show dflt=.none from hd);refine hG (codeAny_call_generator (o:=ch (.FunctionDef name args (sZ "voter" px py ps pa yp ey fp) dl rt tp sc ts bd pos) qual .none pm code [] .none) (aQ (cW _ _) A.ok.depth) ho rfl L7 ahG rfl cd (I3 (ds:=[]) (o:=none) (binds:=[(("self":Str),v)]) (show AH args=true from hp) (λ_ _ _ _ q=>au q) rfl (by erw[(show args.args.map (·.arg)=_ from ha)];rfl) _ _ _ _ (Ih S (nR ⟨eX,.nil⟩) (λq m=>by erw[cY m];exact .inl e1) ng λF y e=>⟨x.nolimit.keeps e.kp,?_⟩)));dsimp only;generalize pY:({cls:=.type "generator",data:=.fields #[.int y.s.gens.size 0,.str _ y.s.toks,.str _ (y.s.toks+1)]}:Obj)=ob;have LZ:ob.isFreed=false:=pY▸rfl;refine ll (YC y (h':=y.s.heap.push ob) (code:=.func (sZ "voter" px py ps pa yp ey fp) F.env) (t:=y.s.toks+1+1) λ_ _=>c5 _) λw ws wf lw wg=>?_;have ga:w.s.heap.get? y.s.heap.objs.size=some ob:=by erw[ws];exact ft _ LZ
 have ho:w.s.heap.IsGen y.s.heap.objs.size y.s.gens.size:=(xD ob (.str name y.s.toks) (.str (dw qual) (y.s.toks+1)) ga (pY▸rfl) (pY▸rfl) (pY▸rfl));have V:dA F.env y.s.heap "self" v:=e.var _ _ (.head _);have X:bB F y [(("self":Str),.inst bv fs)]:=⟨e.cR,λz p q=>d9 (c:=("self":Str)=z) q (λk q=>by subst k;exact(az v V (ay q▸r.mono e.le.sub))) λ_ q=>nS q⟩;have kw:∀b o,y.s.heap.get? b=some o->w.s.heap.get? b=some o:=λb o q=>by erw[ws];exact c5 _ q
 have H:PR F w y.s.heap.objs.size 0 "voter" [(("self":Str),.inst bv fs)] v vl l:={
  co:=e.W_▸L7
  cl:=λb q=>q.elim id λq=>q.elim λz q=>absurd (e.only z b q) (Gu z)
  na:=λq=>by refine tU e.own.ns λm o es ep q' _=>?_;exact cV _ (fB (q▸q'))
  fa:=⟨(congrFun wf _).trans (y.Eh (eQ _)),y.C5 (eQ _),y.hi (bf _)⟩
  hx:=e.nm▸e2
  hd:=by decide
  hσ:=rfl
  r:=⟨X.le lw,e.own.le X lw⟩
  V:=V.keep λb o _=>kw b o
  rd:=rv.mono (λb o q=>lw.sub b o (e.le.sub b o q))
  get:=λs q=>get (λb o q=>s b o (lw.sub b o (e.le.sub b o q))) q}
 exact hH (ws) (k w _ _ _ (e.le.trans lw) (az ob ga (pY▸rfl)) (ad5 H wg ho) (λb q=>q.elim (λq=>q▸e.new _ (.inl rfl)) λq=>q▸e.le.e.back (y.ke (bf _)) (eQ _)) (aD (af S9 e.gens.symm)) (lw.e.dm))
theorem afk(h:ak fs ("_voters":Str)=some (.list l))(r:Rd (.inst bv fs) x v):qJ A (gk v) x l:=λQ E k=>by
 refine dU (aW (aag c.w.params)) λz1 z=>?_;obtain⟨z2,z3⟩:=aW z;exact ϗ acf λs1 s2 s3 s4 s5 s6 s7=>n3 r λI _ _ r'=>M_ x.cU I (a5 z1) z2 (q8 (adH s4 s1 s2 s3 s5 s6 s7 (aaE _) rfl z3 h r' λw I K g le ty i n g1 g2=>⟨ty,k w I K g le (i.mono (i7 2 d)) n g1 g2⟩))
theorem HF:Ov c (d+2):=λ{β k r v p A x} h rd=>by
 induction p using dg with
 |inst cc fs=>
  refine bE λgG hG=>aj h λxs h1 h2=>aL h1 λhc h1=>aj h1 λq e h3=>?_;subst hc;exact hG ((az xs h2 (afk (pB (m:=λq=>ak fs ("_voters":Str)=some q->_) h3 id e) rd)))
 |_=>exact v_ h rfl rd
end
section
variable{e k N:Nat}{O:aK}
theorem cg.gens{b:Bool}(Or:cg c O d):cg c {O with gens:=b} d:=⟨Or.fn,Or.bM,Or.AE,Or.attr,Or.bin,Or.cmp,Or.lt⟩
theorem Ir(Or:cg c O e)(h:O.gens=false)(hd:e<=d):IL c O (d+4):=
 ⟨HF,Or.mono (aq hd (cW _ _)),Nb Or (aq (mG hd 3) (iH _)),λn S _=>Oa (d:=d+2) (e:=0) (Or.mono (aq hd (cW _ _))) S (λq=>ff (h.symm.trans q)) (i7 4 d)⟩
theorem ZQ(Or:cg c O e)(hd:e<=d)(n:Nat):aX c (d+4) (ip n {O with gens:=false}):=MB n (Ir Or.gens rfl hd) (Ir (O:={O with gens:=false}) Or.gens rfl hd)
theorem MN(Or:cg c O d)(n:Nat):aX c (d+8) (ip n O):=
 MB n ⟨HF,Or.mono (cW _ _),Nb Or (i3 (by decide) d),λn S _=>Oa (d:=d+6) (e:=d+4) (Or.mono (cW _ _)) S (λ_=>ZQ Or (bf _) n) (bf _)⟩ (Ir (d:=d+4) Or.gens rfl (cW _ _))
theorem gY.mono(M:gY c O e)(h:e<=d):gY c O d where
 mh k:=by refine cP (M.mh k) λg a b r=>?_;exact(cz g a b (λ{A}=>r (A:=A.mono h)))
 make k:=by refine cP (M.make k) λg a b r=>?_;exact(cz g a b (λ{A}=>r (A:=A.mono h)))
 nB k:=by refine cP (M.nB k) λg a b r=>?_;exact(cz g a b (λ{A}=>r (A:=A.mono h)))
theorem GI(Or:cg c O d)(M:gY c O d)(n:Nat):Sd c (d+8) (aw O n):=Xw (MN Or) HF (M.mono (cW _ _)) (Or.mono (cW _ _)) n
theorem Es:∀k,cg c (aI N k) (11*k)/\gY c (aI N k) (11*k):=by
 intro k;induction k with
 |zero=>exact⟨acj,aaR⟩|succ k ih=>exact⟨Zq (GI ih.1 ih.2),VP (GI ih.1 ih.2)⟩
end
end
section
variable{st:aH}{σ:ar}{nm:aN}{mu:List Str}{p com:PV}
section
noncomputable abbrev NN:Nat:=1000000
noncomputable abbrev nx(σ:ar):aZ:=some (.next,σ)
section
variable{α β:Type}{x:Option α}{a:α}{K:α->Option β}{r:Option β}{X:ar->aH->aZ}{l:List aH}{σ₁:ar}{o:aZ}{f:fS}
theorem aG(h:x=some a)(k:K a=r):x.bind K=r:=h▸k
theorem aF(h:X σ st=some (.next,σ₁))(k:aS X l σ₁=o):aS X (st::l) σ=o:=(af (λr:aZ=>r.bind λq=>if q.1.hX=true then aS X l q.2 else some q) h).trans k
theorem xN{m:List aH}(h:aS X l σ=some (.next,σ₁))(k:aS X m σ₁=o):aS X (l++m) σ=o:=by
 induction l generalizing σ with
 |nil=>cases ay h;exact k
 |cons st l ih=>
  refine aj h λq e h=>?_;obtain⟨fl,σ'⟩:=q;cases fl with
  |next=>exact aF e (ih h)|ret p=>nomatch ay h|exc=>nomatch ay h
theorem Pa(k:Nat)(h:aS X (l.take k) σ=some (.next,σ₁))(q:aS X (l.drop k) σ₁=o):aS X l σ=o:=(af (λl=>aS X l σ) (TC k l).symm).trans (xN h q)
end
noncomputable def lH:Expr:=.Constant .none 0 default
def sE:aH->Expr
 |.If t _ _ _=>t|.While t _ _ _=>t|.For _ it _ _ _=>it|.Return e _=>e.getD lH|.Assign _ e _=>e|.AugAssign _ _ e _=>e|.Expr e _=>e|_=>lH
def sT:aH->Expr
 |.Assign ts _ _=>ts.getD 0 lH|.AugAssign t _ _ _=>t|.For t _ _ _ _=>t|_=>lH
noncomputable def sB(i:Nat):aH->List aH
 |.If _ b c _=>if i=0 then b else c
 |.While _ b _ _=>b|.For _ _ b _ _=>b|.Try b _ _ _ _=>b|_=>[]
def Ka(nm:aN)(x f:Str)(b:Bool)(q:PV×ar):aZ:=(j9 q.2 x).bind λv=>v.lI.bind λi=>if By.contains (i.1,f)=true/\i.2.1.length<=100 then eB (putN nm x (zH b i.1 i.2.1 i.2.2 f q.1) q.2) else none
def bH(nm:aN)(x:Str)(b:Bool)(q:PV×ar):aZ:=eB (putN nm x (DK b q.1) q.2)
def GO(O:aK)(nm:aN)(x:Str)(op:ia)(a:PV)(q:PV×ar):aZ:=(uB O op a q.1).bind λp=>eB (putN nm x (.pv p) q.2)
section
variable{O:aK}{n:Nat}{K:PV×ar->aZ}{r:aZ}{ev:bj->Expr->Option PV}{e:Expr}
theorem vD(h:ev (fJ σ) e=some p):bX ev σ e=some (p,σ):=by unfold bX;rw[h];rfl
theorem E8(he:cI O n nm (bA σ) e=some p):sM O (ip n O) nm σ e=some (.ret p,σ):=af (λx:Option PV=>qc x (λp=>some (fS.ret p,σ)) (if raises O (ip n O) nm (bA σ) e=true then some (fS.exc,σ) else none)) he
theorem bg(hs:aw O (n+1) nm mu σ st=(bX (cI O n nm) σ (sE st)).bind K)(he:cI O n nm (fJ σ) (sE st)=some p)(hk:K (p,σ)=r):aw O (n+1) nm mu σ st=r:=hs.trans (aG (vD he) hk)
end
def fr(n d:Int):PV:=.inst dk [("numerator",.int n),("denominator",.int d)]
def ef(q:Rat):PV:=fr q.num q.den
def rI:aN:=nO.scope.names
def wy(fs:List (Str×PV))(n d dv r:Int):ar:=[("self",.a6 dk fs []),("numerator",.pv (.int n)),("denominator",.pv (.int d)),("upper",.pv (.int n)),("lower",.pv (.int d)),("divisor",.pv (.int dv)),("rest",.pv (.int r))]
variable{O:aK}{n k:Nat}
theorem E_(n:Int)(d:Nat):a9 O NN rI [] [("self",.a6 dk [] []),("numerator",.pv (.int n)),("denominator",.pv (.int ((d+1:Nat):Int)))] (nO.body.take 11)=some (.next,wy [] n ((d+1:Nat):Int) ((d+1:Nat):Int) (n.fmod ((d+1:Nat):Int))):=⋯
theorem aa0{N D:Int}{dv r f:Nat}:aw O (f+31) rI [] (wy [] N D dv (r+1:Nat)) (aJ nO.body 11)=aw O (f+30) rI [] (wy [] N D (r+1:Nat) ((dv:Int).fmod (r+1:Nat))) (aJ nO.body 11):=⋯
theorem YI{N D:Int}(r:Nat):∀{dv f:Nat},r<f->aw O (f+30) rI [] (wy [] N D dv r) (aJ nO.body 11)=some (.next,wy [] N D (F8 dv r:Nat) 0):=by
 induction r using Nat.strongRecOn with
 |ind r ih=>
  intro dv f hf;cases r with
  |zero=>
   rw[Nat.gcd_zero_right];cases f with
   |zero=>exact absurd hf (cV _)|succ f=>rfl'
  |succ r=>
   cases f with
   |zero=>exact absurd hf (y9 _)
   |succ f=>
    have e:(dv:Int).fmod (r+1:Nat)=((dv%(r+1):Nat):Int):=Km _ (fP _);have eZ:dv%(r+1)<r+1:=Cs dv (eE r);refine aa0.trans ?_;rw[e,ih _ eZ (ba eZ (ju hf)),Nat.gcd_comm (r+1),<-Nat.gcd_rec,Nat.gcd_comm]
theorem JS{i j:Int}(h:j≠0/\j.natAbs<d4):fw .FloorDiv i j=some (.int (i.fdiv j)):=iP h
theorem pI{i j:Int}(h:j.natAbs<d4\/i.natAbs<d4):fw .Mult i j=some (.int (i*j)):=iP h
theorem aa3(N:Int){D r g:Nat}(hr:N.fmod ((D+1:Nat):Int)=r)(hrl:r<999000)(hg:F8 (D+1) r=g)(xg:((g:Int))≠0/\((g:Int)).natAbs<d4):a9 O NN rI [] [("self",.a6 dk [] []),("numerator",.pv (.int N)),("denominator",.pv (.int ((D+1:Nat):Int)))] nO.body=
   some (.next,wy [("numerator",.int (N.fdiv g)),("denominator",.int (((D+1:Nat):Int).fdiv g))] N ((D+1:Nat):Int) g 0):=by
 refine Pa 11 (E_ N D) ((af (λl=>a9 O NN rI [] _ l) (⋯:nO.body.drop 11=[aJ nO.body 11,aJ nO.body 12,aJ nO.body 13])).trans ?_);have l1:=YI (O:=O) (N:=N) (D:=((D+1:Nat):Int)) r (dv:=D+1) (f:=999970) (eN hrl (by decide));rw[hg,<-hr] at l1;refine aF l1 (aF (bg (n:=999999) (K:=Ka rI "self" "numerator" false) ⋯ ((⋯:_=fw .FloorDiv N g).trans (JS xg)) (⋯:_=nx (wy [("numerator",.int (N.fdiv g))] N ((D+1:Nat):Int) g 0))) (aF (bg (n:=999999) (K:=Ka rI "self" "denominator" false) ⋯ ((⋯:_=fw .FloorDiv ((D+1:Nat):Int) g).trans (JS xg)) ⋯) rfl))
theorem aau(N:Int)(D:Nat):F8 (D+1) (N%((D+1:Nat):Int)).natAbs=F8 (D+1) N.natAbs:=by
 show Int.gcd ((D+1:Nat):Int) (N%((D+1:Nat):Int))=Int.gcd ((D+1:Nat):Int) N;conv=>rhs;rw[<-Int.emod_add_mul_ediv N ((D+1:Nat):Int)]
 rw[Int.gcd_add_mul_left_right]
theorem SA(N:Int){D:Nat}(h0:0<D)(hD:D<999000):(next NN O).fn "Fraction" [.int N,.int D] []=some (ef (mkRat N D)):=by
 obtain⟨D,rfl⟩:=u6 (fO h0);have p0:(0:Int)<((D+1:Nat):Int):=zt.mpr h0;have m0:=Int.emod_nonneg N (TD p0);have hr:N.fmod ((D+1:Nat):Int)=((N%((D+1:Nat):Int)).natAbs:Nat):=by rw[Km _ (fP _),Kl m0]
 have hl:(N%((D+1:Nat):Int)).natAbs<D+1:=u9.mp (by rw[Kl m0];exact Int.emod_lt_of_pos N p0);have g0:0<F8 (D+1) N.natAbs:=agN _ h0;have body:=aa3 (O:=O) N hr (eN hl hD) (aau N D) ⟨TD (zt.mpr g0),aQ (Nat.gcd_le_left _ h0) (eN hD (by decide))⟩;refine(show _=((a9 O NN rI [] [("self",.a6 dk [] []),("numerator",.pv (.int N)),("denominator",.pv (.int ((D+1:Nat):Int)))] nO.body).bind λr=>if r.1.hX=true then(ak r.2 "self").bind λv=>v.lI.bind λi=>if i.1=dk then some i.2 else none else none).map (λr:List (Str×PV)×List Str=>PV.inst dk r.1) by rfl').trans ?_;rw[body];show some (fr _ _)=some (fr _ _);rw[TE,Rat.den_mkRat,iN (rg D),iN (rg D),Fw _ (fP _),Fw _ (fP _)];rfl
noncomputable def Ed(a b:PV):ar:=[("self",.pv a),("other",.pv b)]
def D8(R:aY)(i:Nat):Expr:=sE (aJ (sB 0 (aJ R.body i)) 0)
def IX(O:aK)(R:aY)(i:Nat)(o:aZ):aZ:=(o.bind λq=>if q.1.hX=true then aS (aw O 999999 R.scope.names R.mu) [] q.2 else some q).bind λq=>if q.1.hX=true then aS (aw O NN R.scope.names R.mu) (R.body.drop (i+1)) q.2 else some q
theorem yq{R:aY}{a b p:PV}(i:Nat)(hs:bm O NN R [a,b] []=ck (IX O R i (sM O (ip 999998 O) R.scope.names (Ed a b) (D8 R i))))(he:cI O 999998 R.scope.names (bA (Ed a b)) (D8 R i)=some p):bm O NN R [a,b] []=some p:=hs.trans (af (λo=>ck (IX O R i o)) (E8 he))
def zD(O:aK):Prop:=∀(N:Int) {D:Nat},0<D->D<999000->O.fn "Fraction" [.int N,.int D] []=some (ef (mkRat N D))
variable{a b:Rat}{m:Int}
theorem yt(h:a.den<999000):((a.den:Int)).natAbs<d4:=eN h (by decide)
theorem OJ(m:Int):mkRat m 1=(m:Rat):=F9 (m:Rat)
theorem XS(F:zD O)(h:a.den<999000)(hs:a.num.natAbs<d4):bm O NN J0 [ef a,.int m] []=some (ef (a*m)):=by
 refine yq 0 ⋯ ((show _=((fw .Mult a.num m).bind λv=>some [v,.int a.den]).bind λvs=>O.fn "Fraction" vs [] by rfl').trans (aG (aG (pI (.inr hs)) rfl) ((F _ a.den_pos h).trans ?_)));have:=agO a.num m a.den 1;rw[F9,OJ,TF] at this;rw[this]
theorem acE(F:zD O)(ha:a.den<999000)(hb:b.den<999000)(h:a.den*b.den<999000):bm O NN Ab [ef a,ef b] []=some (ef (a+b)):=by
 refine yq 1 ⋯ ((show _=(((fw .Mult a.num b.den).bind λx=>(fw .Mult b.num a.den).bind λy=>fT O .Add x y).bind λv=>((fw .Mult a.den b.den).bind λw=>some [w]).map λvs=>v::vs).bind λvs=>O.fn "Fraction" vs [] by rfl').trans (aG (aG (aG (pI (.inl (yt hb))) (aG (pI (.inl (yt ha))) rfl)) (af (eP _) (aG (pI (.inl (yt hb))) rfl))) ((F (D:=a.den*b.den) _ (TG a.den_pos b.den_pos) h).trans ?_)));have:=agP a.num b.num (d₁:=a.den) (d₂:=b.den) a.den_nz b.den_nz;rw[F9,F9] at this;rw[this]
theorem afs(F:zD O)(h:a.den<999000):bm O NN Ab [ef a,.int 0] []=some (ef a):=by
 refine yq 0 ⋯ ((show _=(((fw .Mult 0 a.den).bind λy=>fT O .Add (.int a.num) y).bind λv=>some [v,.int a.den]).bind λvs=>O.fn "Fraction" vs [] by rfl').trans (aG (aG (aG (pI (.inr (by decide))) rfl) rfl) ((F _ a.den_pos h).trans ?_)));rw[yS,uS,F9]
theorem J4{R:aY}{op:iF}{r:Int->Int->Bool}(hop:∀i j,fb O op (.int i) (.int j)=some (r i j))(hs:bm O NN R [ef a,ef b] []=ck (IX O R 1 (sM O (ip 999998 O) R.scope.names (Ed (ef a) (ef b)) (D8 R 1))))(he:cI O 999998 R.scope.names (bA (Ed (ef a) (ef b))) (D8 R 1)=(((fw .Mult a.num b.den).bind λx=>(fw .Mult b.num a.den).bind λy=>fb O op x y).map PV.bool))(ha:a.den<999000)(hb:b.den<999000):bm O NN R [ef a,ef b] []=some (.bool (r (a.num*b.den) (b.num*a.den))):=
 yq 1 hs (he.trans (af (eP PV.bool) (aG (pI (.inl (yt hb))) (aG (pI (.inl (yt ha))) (hop _ _)):_=some (r (a.num*b.den) (b.num*a.den)))))
theorem W2(ha:a.den<999000)(hb:b.den<999000):bm O NN Jz [ef a,ef b] []=some (.bool (decide (a<b))):=(J4 (op:=.Lt) (r:=λi j=>decide (i<j)) (λ_ _=>rfl) ⋯ ⋯ ha hb).trans (by rw[fA (Rat.lt_iff a b).symm])
theorem WL(ha:a.den<999000)(hb:b.den<999000):bm O NN A5 [ef a,ef b] []=some (.bool (decide (b<a))):=(J4 (op:=.Gt) (r:=λi j=>decide (j<i)) (λ_ _=>rfl) ⋯ ⋯ ha hb).trans (by rw[fA (Rat.lt_iff b a).symm])
theorem n_(ha:a.den<999000)(hb:b.den<999000):bm O NN IT [ef a,ef b] []=some (.bool (decide (b<=a))):=(J4 (op:=.GtE) (r:=λi j=>decide (j<=i)) (λ_ _=>rfl) ⋯ ⋯ ha hb).trans (by rw[fA (Rat.le_iff b a).symm])
theorem G6(ha:a.den<999000)(h0:0<=a):bm O NN A5 [ef a,.int (-1)] []=some (.bool true):=by
 refine yq 0 ⋯ ((show _=((fw .Mult (-1) a.den).bind λy=>yz (λi j=>decide (j<i)) (.int a.num) y).map PV.bool by rfl').trans ((af (eP _) (aG (pI (.inl (yt ha))) rfl)).trans ?_));show some (PV.bool (decide (-1*(a.den:Int)<a.num)))=_;rw[dT (lG (agQ (by decide) (zt.mpr a.den_pos)) (Rat.num_nonneg.mpr h0))]
theorem eqF:bm O NN JZ [ef a,ef b] []=some (.bool (decide (a=b))):=by
 refine yq 1 ⋯ ((⋯:_=if(a.num==b.num)=false then some (PV.bool false) else some (PV.bool ((a.den:Int)==(b.den:Int)))).trans ?_);by_cases h:a.num=b.num
 ·rw[jZ h,iN Bool.noConfusion];refine af (λb=>some (PV.bool b)) (FK.mpr (beq_iff_eq.trans (KW ⟨λk=>Rat.ext h (FW k),λk=>k▸rfl⟩ decide_eq_true_iff.symm)))
 ·rw[kH h,iP rfl,dF λk=>h (af _ k)]
end
def fq(D:Nat)(z:Int):PV:=ef (mkRat z D)
section
variable{D:Nat}{a b m:Int}(h:0<D)
include h
theorem MK:0<=mkRat a D↔0<=a:=by
 have g:(0:Int)<(D.gcd a.natAbs:Nat):=zt.mpr (agN _ h);rw[<-Rat.num_nonneg,TE,iN (fO h)];exact⟨λk=>jB λq=>ir k (Int.ediv_neg_of_neg_of_pos q g),λk=>Int.ediv_nonneg k (mJ g)⟩
theorem Mz:mkRat a D+mkRat b D=mkRat (a+b) D:=by
 rw[agP _ _ (fO h) (fO h),<-Ga,agR (fO h)]
theorem aa8:mkRat a D*(m:Rat)=mkRat (a*m) D:=by rw[<-OJ m,agO,TF]
theorem IK:(mkRat a D).den<=D:=by rw[Rat.den_mkRat,iN (fO h)];exact Kk _ _
theorem Eo:mkRat a D<=mkRat b D↔a<=b:=by
 have e:mkRat b D-mkRat a D=mkRat (b-a) D:=by rw[Rat.sub_eq_add_neg,Rat.neg_mkRat,Mz h,Int.sub_eq_add_neg]
 rw[Rat.le_iff_sub_nonneg,e,MK h,Int.sub_nonneg]
theorem Ot:mkRat a D<mkRat b D↔a<b:=by rw[<-Rat.not_le,Eo h,zg]
theorem Zp:mkRat a D=mkRat b D↔a=b:=⟨λk=>zh ((Eo h).mp (k▸Rat.le_refl)) ((Eo h).mp (k▸Rat.le_refl)),λk=>k▸rfl⟩
theorem Xv:(mkRat a D).num.natAbs<=a.natAbs:=by
 rw[TE,iN (fO h)];exact Int.natAbs_ediv_le_natAbs _ _
end
structure fV(O:aK)(D:Nat):Prop where
 gt:∀{a b},O.cmp .Gt (fq D a) (fq D b)=some (decide (b<a))
 ge:∀{a b},O.cmp .GtE (fq D a) (fq D b)=some (decide (b<=a))
 lt:∀{a b},O.cmp .Lt (fq D a) (fq D b)=some (decide (a<b))
 eq:∀{a b},O.cmp .Eq (fq D a) (fq D b)=some (decide (a=b))
 G6:∀{a},0<=a->O.cmp .Gt (fq D a) (.int (-1))=some true
 mul:∀{a m},a.natAbs<d4->O.bin .Mult (fq D a) (.int m)=some (fq D (a*m))
 add:∀{a b},O.bin .Add (fq D a) (fq D b)=some (fq D (a+b))
 Vr:∀{a},O.bin .Add (fq D a) (.int 0)=some (fq D a)
 one:∀{z:Int},O.fn "Fraction" [.int z] []=some (fq D (z*D))
theorem ac3{O:aK}{D:Nat}(F:zD O)(h:0<D)(h2:D<=500):fV (next NN O) D:=by
 have d:∀{a},(mkRat a D).den<999000:=λ{a}=>aQ (IK h) (aQ h2 (by decide));have dd:∀{a b},(mkRat a D).den*(mkRat b D).den<999000:=λ{a b}=>aQ (Cb (aq (IK h) h2) (aq (IK h) h2)) (by decide);have c:∀{op:iF} {R:aY} {x y:PV} {b b':Bool},(next NN O).cmp op x y=(bm O NN R [x,y] []).bind PV.yD->bm O NN R [x,y] []=some (.bool b)->b=b'->(next NN O).cmp op x y=some b':=λe1 e2 e3=>e1.trans (aG e2 (af some e3));have bn:∀{op:ia} {R:aY} {x y:PV} {q q':Rat},(next NN O).bin op x y=(bm O NN R [x,y] []).bind Db->bm O NN R [x,y] []=some (ef q)->q=q'->(next NN O).bin op x y=some (ef q'):=λe1 e2 e3=>e1.trans (aG e2 (af (λq=>some (ef q)) e3));exact⟨c (R:=A5) ⋯ (WL d d) (fA (Ot h)),c (R:=IT) ⋯ (n_ d d) (fA (Eo h)),c (R:=Jz) ⋯ (W2 d d) (fA (Ot h)),c (R:=JZ) ⋯ eqF (fA (Zp h)),
  λk=>c (R:=A5) ⋯ (G6 d ((MK h).mpr k)) rfl,λk=>bn (R:=J0) ⋯ (XS F d (aQ (Xv h) k)) (aa8 h),bn (R:=Ab) ⋯ (acE F d d dd) (Mz h),bn (R:=Ab) ⋯ (afs F d) rfl,λ{z}=>(⋯:_=(next NN O).fn "Fraction" [.int z,.int (1:Nat)] []).trans ((SA z (by decide) (by decide)).trans (af (λq=>some (ef q)) ((agR (fO h)).symm.trans (af (mkRat (z*D)) (zi D)))))⟩
section
section
variable{O:aK}{n:Nat}{σ₁ σ':ar}{r:aZ}{l:List PV}{B:ar->aZ}{t:Expr}{v:PV}
def fU(X:ar->aH->aZ)(nm:aN)(t:Expr)(b:List aH)(q:PV×ar):aZ:=over q.1 λsrc=>(dZ (aS X b) nm t src q.2).bind (kK t q.1)
theorem iz(h:fY (sf nm) t v σ=some σ₁)(hb:B σ₁=nx σ')(k:dZ B nm t l σ'=r):dZ B nm t (v::l) σ=r:=aG h (aG hb k)
theorem s9{X:ar->aH->aZ}{b:List aH}(h:dZ (aS X b) nm t l σ=nx σ'):fU X nm t b (.list l,σ)=nx σ':=aG (K:=kK t (.list l)) h rfl
theorem Mt{X:ar->aH->aZ}{b:List aH}{c:Nat}{fs:List (Str×PV)}(hx:yf (.inst c fs)=some l)(h:dZ (aS X b) nm t l σ=nx σ'):fU X nm t b (.inst c fs,σ)=nx σ':=aG hx (aG (K:=kK t (.inst c fs)) h rfl)
theorem Io{X:ar->aH->aZ}{b:List aH}{s:List Nat}(h:∀l':List Nat,l'.Perm s->∃cJ,dZ (aS X b) nm t (l'.map λn:Nat=>PV.int n) σ=nx cJ/\A0 (vH t) cJ=σ'):fU X nm t b (.set s,σ)=nx σ':=show qy s (λsrc=>(dZ (aS X b) nm t src σ).bind (kK t (.set s)))=nx σ' from RL λl' hp=>by
 obtain⟨cJ,h1,h2⟩:=h l' hp;exact aG (K:=kK t (.set s)) h1 (af (λσ=>some (fS.next,σ)) h2)
end
def fX(id:Str):PV:=.inst ql [("name",.str id),("param",.none)]
def bq(q:List Nat×Nat):PV:=.inst iw [("approved",.set q.1),("weight",.int q.2)]
def a7(n:Nat)(ns:PV)(vs:List (List Nat×Nat)):PV:=.inst bv [("candidates",.list ((ax n).map λi:Nat=>.int i)),("cand_names",ns),("_voters",.list (vs.map bq))]
structure iM(O:aK)(id:Str)(S:Nat->Int)(D:Nat):Prop extends fV O D where
 val:∀j,j<4->O.bM ql "__call__" [fX id,.int (j+1:Nat)] []=some (fq D (S (j+1) -S j))
 num:∀j,j<4->(S (j+1) -S j).natAbs<d4
 zero:S 0=0
def kh(D:Nat)(id:Str)(p com:PV)(s:Int)(r:ar):ar:=("scorefct_id",.pv (.str id))::("profile",.pv p)::("committee",.pv com)::("marginal_scorefct",.pv (fX id))::("score",.pv (fq D s))::r
noncomputable def lT(v:PV)(j:Nat)(x:Option PV):ar:=("vote",.pv v)::("cand_in_com",.pv (.int j))::x.elim [] λx=>[("_",.pv x)]
def ja:aN:=qM.scope.names
def xw:aH:=aJ qM.body 2
def uG:aH:=aJ (sB 0 xw) 1
variable{O:aK}{id:Str}{S:Nat->Int}{D:Nat}{x:PV}{c s:Int}{q:List Nat×Nat}{j:Nat}
theorem ZC(H:iM O id S D)(hj:j<4):a9 O 999998 ja [] (kh D id p com (c+S j*q.2) (lT (bq q) j (some x))) (sB 0 uG)=nx (kh D id p com (c+S (j+1)*q.2) (lT (bq q) (j+1) (some x))):=by
 refine(⋯:_=a9 O 999998 ja [] (kh D id p com (c+S j*q.2) (lT (bq q) (j+1) (some x))) [aJ (sB 0 uG) 1]).trans (aF (bg (n:=999997) (K:=GO O ja "score" .Add (fq D (c+S j*q.2))) ⋯
  ((show _=(O.bM ql "__call__" [fX id,.int (j+1:Nat)] []).bind λa=>fT O .Mult a (.int q.2) by rfl').trans (aG (H.val j hj) (H.mul (H.num j hj)))) (aG H.add (?_:_=nx _))) rfl)
 rw[mQ,<-Ga,u7 (S j),KX];rfl'
theorem Ϭ(H:iM O id S D):∀{l:List PV} {j:Nat} {x:Option PV},j+l.length<=4->∃x',dZ (aS (aw O 999998 ja []) (sB 0 uG)) ja (sT uG) l (kh D id p com (c+S j*q.2) (lT (bq q) j x))=nx (kh D id p com (c+S (j+l.length)*q.2) (lT (bq q) (j+l.length) x')):=by
 intro l;induction l with
 |nil=>exact λ{j x} _=>⟨x,rfl⟩
 |cons v l ih=>
  intro j x h;obtain⟨x',e⟩:=ih (j:=j+1) (x:=some v) (aq (aD (pS ..)) h);refine⟨x',iz (σ₁:=kh D id p com (c+S j*q.2) (lT (bq q) j (some v))) ?_ (ZC H (ba (qX (eE _)) h)) (e.trans (by rw[pS];rfl))⟩;cases x<;>rfl'
noncomputable def fg(C A:List Nat):List Nat:=C.filter λx=>A.contains x
theorem W8{C:List Nat}(H:iM O id S D)(hC:eH com setOf=some C)(h:(fg C q.1).length<=4):aw O 999999 ja [] (kh D id p com c (lT (bq q) 0 none)) uG=nx (kh D id p com (c+S (fg C q.1).length*q.2) (lT (bq q) (fg C q.1).length none)):=by
 refine bg (n:=999998) (K:=fU (aw O 999998 ja []) ja (sT uG) (sB 0 uG)) ⋯ ((show _=((eH com setOf).map PV.set).bind λa=>fT O .BitAnd a (.set q.1) by rfl').trans (aG (af (eP PV.set) hC) rfl)) (Io λl' hp=>?_);have e:(l'.map λn:Nat=>PV.int n).length=(fg C q.1).length:=(bi _).trans hp.length_eq;obtain⟨x,k⟩:=Ϭ H (p:=p) (com:=com) (c:=c) (q:=q) (l:=l'.map λn:Nat=>PV.int n) (j:=0) (x:=none) (by rw[f5,e];exact h);rw[H.zero,yS,uS,f5,e] at k;exact⟨_,k,by cases x<;>rfl⟩
def d6(S:Nat->Int)(C:List Nat):List (List Nat×Nat)->Int
 |[]=>0|q::vs=>S (fg C q.1).length*q.2+d6 S C vs
theorem ack{C:List Nat}(H:iM O id S D)(hC:eH com setOf=some C):∀{vs:List (List Nat×Nat)} {s:Int} {r:Option (PV×Nat)},(∀q∈vs,(fg C q.1).length<=4)->∃r':Option (PV×Nat),dZ (aS (aw O 999999 ja []) (sB 0 xw)) ja (sT xw) (vs.map bq) (kh D id p com s (r.elim [] λr=>lT r.1 r.2 none))=nx (kh D id p com (s+d6 S C vs) (r'.elim [] λr=>lT r.1 r.2 none)):=by
 intro vs;induction vs with
 |nil=>exact λ{s r} _=>⟨r,by rw[d6,uS];rfl⟩
 |cons q vs ih=>
  intro s r h;obtain⟨r',e⟩:=ih (s:=s+S (fg C q.1).length*q.2) (r:=some (bq q,(fg C q.1).length)) λq m=>h q (.tail _ m);rw[mQ] at e;refine⟨r',iz (σ₁:=kh D id p com s (r.elim [("vote",.pv (bq q))] λr=>lT (bq q) r.2 none)) (by cases r<;>rfl') ((?_:_=a9 O 999999 ja [] (kh D id p com s (lT (bq q) 0 none)) [uG]).trans (aF (W8 H hC (h q (.head _))) rfl)) e⟩;cases r<;>rfl'
theorem WI{C:List Nat}{n:Nat}{ns:PV}{vs:List (List Nat×Nat)}(H:iM O id S D)(hC:eH com setOf=some C)(hv:∀q∈vs,(fg C q.1).length<=4)
(h0:a9 O NN ja [] [("scorefct_id",.pv (.str id)),("profile",.pv (a7 n ns vs)),("committee",.pv com)] (qM.body.take 2)=nx (kh D id (a7 n ns vs) com 0 [])):
  bm O NN qM [.str id,a7 n ns vs,com] []=some (fq D (d6 S C vs)):=by
 obtain⟨r,e⟩:=ack H hC (p:=a7 n ns vs) (s:=0) (r:=none) hv;rw[Gb] at e;refine(⋯:_=ck (a9 O NN ja [] [("scorefct_id",.pv (.str id)),("profile",.pv (a7 n ns vs)),("committee",.pv com)] qM.body)).trans (af ck (Pa 2 h0 ((af (λl=>a9 O NN ja [] _ l) (⋯:qM.body.drop 2=[xw,aJ qM.body 3])).trans (aF (bg (n:=999999) (K:=fU (aw O 999999 ja []) ja (sT xw) (sB 0 xw)) ⋯ (⋯:_=some (a7 n ns vs)) (Mt ⋯ e)) (show _=some (fS.ret (fq D (d6 S C vs)),kh D id (a7 n ns vs) com (d6 S C vs) (r.elim [] λr=>lT r.1 r.2 none)) by cases r<;>rfl')))))
end
section
noncomputable def sv(l:List Int)(j:Nat):Int:=(l.take j).sum
theorem vT{P:Nat->Prop}{n:Nat}(h:∀j,j<n->P j)(k:P n)(j:Nat)(q:j<n+1):P j:=(TH (ju q)).elim (h j) λe=>e.symm▸k
theorem vR{P:Nat->Prop}(h0:P 0)(h1:P 1)(h2:P 2)(h3:P 3):∀j,j<4->P j:=vT (vT (vT (vT nofun h0) h1) h2) h3
def O3:Nat->Int:=sv [12,6,4,3]
def Mm:Nat->Int:=sv [105,35,21,15]
def n8:Nat->Int:=sv [6,6,3,2]
def t5:Nat->Int:=sv [1,0,0,0]
variable{k:Nat}
theorem frO:zD (aI NN (k+1)):=λN _ h1 h2=>SA (O:=aI NN k) N h1 h2
theorem qQ{D:Nat}(h:0<D)(h2:D<=500):fV (aI NN (k+3)) D:=ac3 (O:=aI NN (k+2)) frO h h2
theorem VH:iM (aI NN (k+3)) "pav" O3 12:=⟨qQ (by decide) (by decide),vR ⋯ ⋯ ⋯ ⋯,by decide,rfl⟩
theorem ac':iM (aI NN (k+3)) "slav" Mm 105:=⟨qQ (by decide) (by decide),vR ⋯ ⋯ ⋯ ⋯,by decide,rfl⟩
theorem ae9:iM (aI NN (k+3)) "adams" n8 6:=⟨qQ (by decide) (by decide),vR ⋯ ⋯ ⋯ ⋯,by decide,rfl⟩
theorem S_:iM (aI NN (k+3)) "cc" t5 1:=⟨qQ (by decide) (by decide),vR ⋯ ⋯ ⋯ ⋯,by decide,rfl⟩
inductive Cv:PV->List Nat->Prop
 |tup (l:List Nat):Cv (.tup (l.map λn:Nat=>PV.int n)) l|list (l:List Nat):Cv (.list (l.map λn:Nat=>PV.int n)) l
 |set (l:List Nat):Cv (.set l) l
def pM(k D:Nat)(id:Str)(p com:PV):Prop:=a9 (aI NN (k+3)) NN ja [] [("scorefct_id",.pv (.str id)),("profile",.pv p),("committee",.pv com)] (qM.body.take 2)=nx (kh D id p com 0 [])
variable{l:List Nat}
theorem WH(c:Cv com l):pM k 12 "pav" p com:=by
 unfold pM;cases c<;>rfl'
theorem Xk(c:Cv com l):pM k 105 "slav" p com:=by
 unfold pM;cases c<;>rfl'
theorem X2(c:Cv com l):pM k 6 "adams" p com:=by
 unfold pM;cases c<;>rfl'
theorem U9(c:Cv com l):pM k 1 "cc" p com:=by
 unfold pM;cases c<;>rfl'
end
section
section
variable{O:aK}{n:Nat}{b:Bool}{r:aZ}{g:PV->PV}{ρ:bj}{src:List PV}{cv:PV}{l:List Nat}
theorem cM(hs:aw O (n+1) nm mu σ st=(fG O n nm (bA σ) (sE st)).bind λr=>aS (aw O n nm mu) (if r=true then sB 0 st else sB 1 st) σ)(ht:fG O n nm (bA σ) (sE st)=some b)(k:aS (aw O n nm mu) (if b=true then sB 0 st else sB 1 st) σ=r):aw O (n+1) nm mu σ st=r:=hs.trans (aG ht k)
theorem jS(hs:aw O (n+1) nm mu σ st=(fG O n nm (bA σ) (sE st)).bind λr=>aS (aw O n nm mu) (if r=true then sB 0 st else sB 1 st) σ)(h1:sB 1 st=[])(ht:fG O n nm (bA σ) (sE st)=some false):aw O (n+1) nm mu σ st=nx σ:=cM hs ht (h1▸rfl:aS _ (sB 1 st) σ=nx σ)
theorem xP{β:Type}{kk:List PV->Option β}{r:β}(c:Cv cv l)(h:∀l':List Nat,l'.Perm l->kk (l'.map λn:Nat=>PV.int n)=some r):eH cv kk=some r:=by
 cases c with
 |tup=>exact h l (.refl _)|list=>exact h l (.refl _)|set=>exact RL h
theorem NU{g:Nat->Bool}(h:∀v∈l,g v=b):xu b (l.map λv=>PV.bool (g v))=some (.bool b):=iP (by
 rw[SL,KY];intro v m;exact jZ (h v m))
end
def bR(i:Nat):Expr->Expr:=EA.on {d:=lH,uF:=λ_ as _ _=>as.getD i lH,BH:=λ_ x _=>x,B3:=λ_ es _=>es.getD i lH,ym:=λl _ r _=>if i=0 then l else r,AA:=λl _ _ _=>l,vX:=λl r _=>if i=0 then l else r,Bp:=λe _ _ _=>e,xY:=λe _ _ _=>e}
def gP:Expr->List jL×fk:=EA.on {d:=([],default),Bp:=λ_ gs s _=>((gs,s)),xY:=λ_ gs s _=>((gs,s))}
def gC(e:Expr):jL:=(gP e).1.getD 0 ⟨lH,lH,[],0⟩
def gT(e:Expr):Expr:=(gC e).target
def gS(e:Expr):fk:=(gP e).2
def Bt(O:aK)(n:Nat)(e:Expr)(ρ:bj)(K:List PV->Option PV)(src:List PV):Option PV:=(kT ((ip n {O with gens:=false}).e (gS e).names) (gS e).names (gT e) (bR 0 e) ρ src).bind K
theorem GX{O:aK}{n:Nat}{e:Expr}{ρ:bj}{K:List PV->Option PV}{l:List Nat}{g:Nat->PV}{r:PV}(hf:lD (gT e) ρ=true)(h:∀x∈l,((fY (hF (gS e).names) (gT e) (.int (x:Nat)) ρ).bind λfR=>(ip n {O with gens:=false}).e (gS e).names fR (bR 0 e))=some (g x))(hK:K (l.map g)=some r):Bt O n e ρ K (l.map λn:Nat=>PV.int n)=some r:=by
 refine aG (?_:kT ((ip n {O with gens:=false}).e (gS e).names) (gS e).names (gT e) (bR 0 e) ρ (l.map λn:Nat=>PV.int n)=some (l.map g)) hK;clear hK;induction l with
 |nil=>rfl|cons v l ih=>exact aj (h v (.head _)) λfR h1 h2=>(iP hf).trans (aG h1 (aG h2 (af (eP _) (ih λx m=>h x (.tail _ m)))))
noncomputable def sj(cv nc:PV)(S:List Nat)(x:Option PV):ar:=("candidates",.pv cv)::("num_cand",.pv nc)::("approved",.pv (.set S))::x.elim [] λx=>[("cand",.pv x)]
def t9:aN:=vY.scope.names
def kZ(i:Nat):aH:=aJ vY.body i
variable{O:aK}{cv nc:PV}{S l:List Nat}{x:Option PV}
theorem Ht{l:List Nat}:∀{x:Option PV},∃x',dZ (aS (aw O 999999 t9 []) (sB 0 (kZ 2))) t9 (sT (kZ 2)) (l.map λn:Nat=>PV.int n) (sj cv nc S x)=nx (sj cv nc S x'):=by
 induction l with
 |nil=>exact λ{x}=>⟨x,rfl⟩
 |cons y l ih=>
  intro x;obtain⟨x',e⟩:=ih (x:=some (.int (y:Nat)));exact⟨x',iz (σ₁:=sj cv nc S (some (.int (y:Nat)))) (by cases x<;>rfl') ⋯ e⟩
theorem acq(c:Cv cv l):∃x,aw O NN t9 [] (sj cv nc S none) (kZ 2)=nx (sj cv nc S x):=by
 have run:∀{r},fU (aw O 999999 t9 []) t9 (sT (kZ 2)) (sB 0 (kZ 2)) (cv,sj cv nc S none)=r->aw O NN t9 [] (sj cv nc S none) (kZ 2)=r:=bg (n:=999999) ⋯ ⋯;cases c with
 |tup l=>
  obtain⟨x',e⟩:=Ht (O:=O) (cv:=.tup (l.map λn:Nat=>PV.int n)) (nc:=nc) (S:=S) (l:=l) (x:=none);exact⟨x',run (aG (K:=kK _ _) e rfl)⟩
 |list l=>
  obtain⟨x',e⟩:=Ht (O:=O) (cv:=.list (l.map λn:Nat=>PV.int n)) (nc:=nc) (S:=S) (l:=l) (x:=none);exact⟨x',run (s9 e)⟩
 |set l=>
  refine⟨none,run (Io λl' _=>?_)⟩;obtain⟨x',e⟩:=Ht (O:=O) (cv:=.set l) (nc:=nc) (S:=S) (l:=l') (x:=none);exact⟨_,e,by cases x'<;>rfl'⟩
theorem Xh(c:Cv cv l)(hS:∀l':List Nat,l'.Perm l->setOf (l'.map λn:Nat=>PV.int n)=some S)(hl:S.length=l.length)(hn:nc=.none\/∃m,nc=.int m/\∀x∈l,(x:Int)<m):
  bm (next NN O) NN vY [cv,nc] []=some (.set S):=by
 obtain⟨x,h2⟩:=acq (O:=next NN O) (nc:=nc) (S:=S) c;refine(⋯:_=ck (a9 (next NN O) NN t9 [] [("candidates",.pv cv),("num_cand",.pv nc)] [kZ 0,kZ 1,kZ 2,kZ 3,kZ 4,kZ 5])).trans (af ck (?_:_=some (fS.ret (.set S),sj cv nc S x)));refine aF (bg (n:=999999) (K:=bH t9 "approved" false) ⋯ ((⋯:_=(eH cv setOf).map PV.set).trans (af (eP PV.set) (xP c hS))) (⋯:_=nx (sj cv nc S none))) (aF (jS (n:=999999) ⋯ ⋯ ?_) (aF h2 ?_))
 ·have e:(!((l.length:Int)==(S.length:Int)))=false:=by rw[hl,beq_self_eq_true];rfl
  cases c with
  |tup l=>exact(show _=some (!(((l.map λn:Nat=>PV.int n).length:Int)==(S.length:Int))) by rfl').trans (by rw[bi,e])|list l=>exact(show _=some (!(((l.map λn:Nat=>PV.int n).length:Int)==(S.length:Int))) by rfl').trans (by rw[bi,e])|set l=>exact(⋯:_=some (!((l.length:Int)==(S.length:Int)))).trans (af some e)
 refine aF (jS (n:=999999) ⋯ ⋯ ((show _=((eH cv (Bt (next NN O) 999996 (bR 0 (bR 0 (sE (kZ 3)))) [] (xu true))).bind PV.truth).map not by cases x<;>rfl').trans (af (λo:Option PV=>(o.bind PV.truth).map not) (xP c λl' _=>GX (g:=λx=>.bool (decide ((0:Int)<=x))) ⋯ (λx _=>⋯) (NU λv _=>dT (fP v)))))) (aF (jS (n:=999999) ⋯ ⋯ ?_) (by cases x<;>rfl'));rcases hn with rfl|⟨m,rfl,hm⟩
 ·cases x<;>rfl'
 ·refine(show _=(((eH cv (Bt (next NN O) 999996 (bR 0 (bR 1 (sE (kZ 4)))) [("num_cand",.int m)] (xu false))).bind PV.truth).bind λb=>if b=false then some false else some true) by cases x<;>rfl').trans (aG (aG (xP c λl' p=>GX (g:=λx=>.bool (decide (m<=(x:Int)))) ⋯ (λx _=>⋯) (NU λv k=>dF (zg.mpr (hm v (p.mem_iff.mp k))))) rfl) rfl)
end
end
structure uh(lt:Nat->Nat->Bool):Prop where
 uf:∀a b,lt a b=true->lt b a=false
 tr:∀a b c,lt b a=false->lt c b=false->lt c a=false
structure gc(n:Nat)(p:Array Nat):Prop where
 perm:p.toList.Perm (ax n)
section
variable{α β:Type}{cmp:Nat->Nat->Option Bool}{lt:Nat->Nat->Bool}{n i j k m s q f l r:Nat}{p:Array Nat}{Q:α->Prop}{R:Nat->Nat->Prop}{g:Nat->Nat}
theorem gc.size(o:gc n p):p.size=n:=o.perm.length_eq.trans cF
noncomputable def at_(p:Array Nat)(i:Nat):Nat:=p.getD i 0
theorem pN:at_ p i=(p[i]?).getD 0:=Array.getD_eq_getD_getElem? ..
theorem gc.uz(o:gc n p)(h:i<n):at_ p i<n:=by
 have hs:i<p.size:=i6 h o.size.symm;rw[pN,tn hs];exact eG (o.perm.mem_iff.mp (Array.getElem_mem_toList hs))
theorem gc.of{q:Array Nat}(o:gc n p)(h:q.Perm p):gc n q:=⟨(Array.perm_iff_toList_perm.mp h).trans o.perm⟩
structure qr(cmp:Nat->Nat->Option Bool)(lt:Nat->Nat->Bool)(n:Nat):Prop where
 L:uh lt
 c:∀i j,i<n->j<n->cmp i j=some (lt i j)
def Gv(cmp:Nat->Nat->Option Bool)(t:KasT α)(Q:α->Prop):Prop:=∃v,qo cmp t=some v/\Q v
theorem oK{v:α}(h:Q v):Gv cmp (.ret v) Q:=⟨v,rfl,h⟩
theorem BN{t:Bool->KasT α}(C:qr cmp lt n)(hi:i<n)(hj:j<n)(k1:lt i j=true->Gv cmp (t true) Q)(k2:lt i j=false->Gv cmp (t false) Q):Gv cmp (.ask i j t) Q:=by
 have e:∀b,lt i j=b->Gv cmp (t b) Q->Gv cmp (.ask i j t) Q:=λb h k=>k.imp λv h'=>⟨(af (λo:Option Bool=>o.bind λb=>qo cmp (t b)) ((C.c i j hi hj).trans (af some h))).trans h'.1,h'.2⟩;cases h:lt i j with
 |true=>exact e _ h (k1 h)|false=>exact e _ h (k2 h)
theorem Ij{P:Prop}[Decidable P]{a b:KasT α}(h1:P->Gv cmp a Q)(h2:¬P->Gv cmp b Q):Gv cmp (if P then a else b) Q:=by
 by_cases z:P
 ·rw[iP z];exact h1 z
 ·rw[iN z];exact h2 z
theorem adj{h:α->KasT β}(t:KasT α):qo cmp (t.bind h)=(qo cmp t).bind λa=>qo cmp (h a):=by
 induction t with
 |ret a=>rfl
 |ask i j k ih=>
  show(cmp i j).bind _=((cmp i j).bind _).bind _;cases cmp i j with
  |none=>rfl|some b=>exact ih b
theorem AJ{t:KasT α}{h:α->KasT β}{P:β->Prop}(k:Gv cmp t Q)(K:∀a,Q a->Gv cmp (h a) P):Gv cmp (t.bind h) P:=by
 obtain⟨a,e,q⟩:=k;exact(K a q).imp λv k=>⟨(adj t).trans ((af (λo:Option α=>o.bind λa=>qo cmp (h a)) e).trans k.1),k.2⟩
def Up(lt:Nat->Nat->Bool)(a b:Nat):Prop:=lt b a=false
def Dn(lt:Nat->Nat->Bool)(a b:Nat):Prop:=lt a b=false
structure BE(R:Nat->Nat->Prop):Prop where
 refl:∀a,R a a
 tr:∀{a b c},R a b->R b c->R a c
theorem uh.refl(L:uh lt)(a:Nat):lt a a=false:=by
 cases h:lt a a with
 |false=>rfl|true=>exact h.symm.trans (L.uf a a h)
theorem uh.up(L:uh lt):BE (Up lt):=⟨L.refl,λh k=>L.tr _ _ _ h k⟩
theorem uh.dn(L:uh lt):BE (Dn lt):=⟨L.refl,λh k=>L.tr _ _ _ k h⟩
def iy(R:Nat->Nat->Prop)(g:Nat->Nat)(m:Nat):Prop:=∀i j,i<=j->j<m->R (g i) (g j)
def yH(R:Nat->Nat->Prop)(g:Nat->Nat)(s m:Nat):Prop:=∀a b,s<=a->a<m->s<=b->b<m->R (g a) (g b)
theorem RI(h:i<m+1):i<m\/i=m:=TH (ju h)
theorem oO(h:j<m):m-1<m:=Nat.sub_one_lt (fO (aQ (cu _) h))
theorem yy(P:BE R)(M:iy R g m)(h:0<m->R (g (m-1)) (g m)):iy R g (m+1):=λi j hi hj=>by
 rcases RI hj with k|rfl
 ·exact M i j hi k
 ·rcases TH hi with k|rfl
  ·exact P.tr (M i (j-1) (mP k) (oO k)) (h (aQ (cu _) k))
  ·exact P.refl _
theorem Hx(P:BE R):yH R g m (m+1):=λa b h1 h2 h3 h4=>by
 rw[mM (ju h2) h1,mM (ju h4) h3];exact P.refl _
theorem Xc(P:BE R)(hs:s<m)(S:yH R g s m)(h1:R (g (m-1)) (g m))(h2:R (g m) (g (m-1))):yH R g s (m+1):=by
 have z:∀a,s<=a->a<m+1->R (g a) (g (m-1))/\R (g (m-1)) (g a):=λa h k=>by
  rcases RI k with k|rfl
  ·exact⟨S _ _ h k (mP hs) (oO hs),S _ _ (mP hs) (oO hs) h k⟩
  ·exact⟨h2,h1⟩
 exact λa b k1 k2 k3 k4=>P.tr (z a k1 k2).1 (z b k3 k4).2
theorem yC(h:s<=k)(h2:k<m):s<=s+m-1-k/\s+m-1-k<m:=by
 obtain⟨d,rfl⟩:=Nat.exists_eq_add_of_lt h2;rw[show s+(k+d+1) -1-k=s+d from(af (· -k) (TI s k d)).trans (F7 ..)];exact⟨cW ..,kA (mG h d)⟩
theorem xG(hm:m<=p.size)(h:s<=k)(h2:k<m):at_ (wZ p s m) k=at_ p (s+m-1-k):=pN.trans ((af (·.getD 0) ((getElem?_mirror_all hm k).trans (iP ⟨h,h2⟩))).trans pN.symm)
theorem z9(hm:m<=p.size)(h:¬(s<=k/\k<m)):at_ (wZ p s m) k=at_ p k:=pN.trans ((af (·.getD 0) ((getElem?_mirror_all hm k).trans (iN h))).trans pN.symm)
theorem Ix(hm:m<=p.size)(M:iy R (at_ p) m)(S:yH R (at_ p) s m):iy R (at_ (wZ p s m)) m:=λi j hi hj=>by
 by_cases hs:s<=j
 ·rw[xG hm hs hj];have b:=yC hs hj;by_cases h:s<=i
  ·have hi:=aQ hi hj;rw[xG hm h hi];exact S _ _ (yC h hi).1 (yC h hi).2 b.1 b.2
  ·rw[z9 hm λq=>h q.1];exact M _ _ (aq (Nat.le_of_not_le h) b.1) b.2
 ·rw[z9 hm λq=>hs q.1,z9 hm λq=>hs (aq q.1 hi)];exact M i j hi hj
theorem aaz(hm:m<=p.size)(M:iy R (at_ p) m):iy (λa b=>R b a) (at_ (wZ p 0 m)) m:=λi j hi hj=>by
 rw[xG hm (cu i) (aQ hi hj),xG hm (cu j) hj];exact M _ _ (Nat.sub_le_sub_left hi _) (yC (cu i) (aQ hi hj)).2
theorem gc.rev(o:gc n p):gc n (wZ p s m):=o.of (mirror_perm _ _ _ _)
theorem gc.le(o:gc n p)(h:m<=n):m<=p.size:=aq h (aD o.size.symm)
structure Q1(lt:Nat->Nat->Bool)(n:Nat)(p:Array Nat)(m:Nat):Prop where
 lo:1<=m
 hi:m<=n
 up:iy (Up lt) (at_ p) m
 stop:m=n\/lt (at_ p m) (at_ p (m-1))=true
theorem Oq(C:qr cmp lt n)(o:gc n p):∀{f m:Nat},1<=m->m+f=n->iy (Up lt) (at_ p) m->Gv cmp (kas_asc p f m) (Q1 lt n p):=by
 intro f;induction f with
 |zero=>exact λ{m} h e M=>oK ⟨h,aD e,M,.inl e⟩
 |succ f ih=>
  intro m h e M;have hm:m<n:=i6 (qX (eE f)) e;exact BN C (o.uz hm) (o.uz (aQ (kE ..) hm)) (λq=>oK ⟨h,cy hm,M,.inr q⟩) λq=>ih (y6 h) ((wM m f).trans e) (yy C.L.up M λ_=>q)
structure YK(lt:Nat->Nat->Bool)(n:Nat)(r:Array Nat×Nat×Nat)(s:Nat):Prop where
 e:r.2.1=s+(r.2.2+1)
 hi:r.2.1<=n
 o:gc n r.1
 dn:iy (Dn lt) (at_ r.1) r.2.1
 tail:yH (Dn lt) (at_ r.1) s r.2.1
theorem Α(C:qr cmp lt n):∀{f s q:Nat} {p:Array Nat},gc n p->s+(q+1)+f=n->iy (Dn lt) (at_ p) (s+(q+1))->yH (Dn lt) (at_ p) s (s+(q+1))->Gv cmp (kas_desc f p (s+(q+1)) q) λr=> ∃s,YK lt n r s:=by
 intro f;induction f with
 |zero=>exact λ{s q p} o e M S=>oK ⟨s,rfl,aD e,o,M,S⟩
 |succ f ih=>
  intro s q p o e M S;have hm:s+(q+1)<n:=i6 (qX (eE f)) e;have e':s+(q+1)+(0+1)+f=n:=(wM (s+(q+1)) f).trans e;have hs:s<s+(q+1):=qX (eE q);have l1:=o.uz hm;have l2:=o.uz (aQ (kE (s+(q+1)) 1) hm);refine BN C l1 l2 (λc=>?_) λc=>BN C l2 l1 (λ_=>oK ⟨s,rfl,cy hm,o,M,S⟩) λd=>ih (q:=q+1) o e' (yy C.L.dn M λ_=>d) (Xc C.L.dn hs S d c);have d:Dn lt (at_ p (s+(q+1) -1)) (at_ p (s+(q+1))):=C.L.uf _ _ c;refine(Ij (λz=>?_) λz=>ih (s:=s+(q+1)) (q:=0) o e' (yy C.L.dn M λ_=>d) (Hx C.L.dn):Gv cmp (if q>0 then kas_desc f (wZ p (s+(q+1) - (q+1)) (s+(q+1))) (s+(q+1)+1) 0 else kas_desc f p (s+(q+1)+1) 0) _);rw[wX];have hp:=o.le (cy hm);refine ih (s:=s+(q+1)) (q:=0) o.rev e' (yy C.L.dn (Ix hp M S) λ_=>?_) (Hx C.L.dn);rw[xG hp (mP hs) (oO hs),z9 hp λz=>cV _ z.2];exact C.L.dn.tr (M _ _ (mP (yC (mP hs) (oO hs)).2) (oO hs)) d
def E2(lt:Nat->Nat->Bool)(n:Nat)(r:Nat×Array Nat):Prop:=gc n r.2/\Q1 lt n r.2 r.1
theorem Pp(C:qr cmp lt n)(o:gc n p)(h:1<=m)(hm:m<=n)(M:iy (Dn lt) (at_ p) m):Gv cmp (kas_tail3 m n p) (E2 lt n):=AJ (Oq C o.rev h (iK hm) (aaz (o.le hm) M)) λm' R=>oK ⟨o.rev,R⟩
theorem OI(C:qr cmp lt n)(o:gc n p)(hm:m+1<=n)(M:iy (Dn lt) (at_ p) (m+1)):Gv cmp (kas_descPart m n p) (E2 lt n):=by
 refine AJ (Α C (s:=m) (q:=0) o (iK hm) M (Hx C.L.dn)) λr D=>?_;obtain⟨s,D⟩:=D;have h1:1<=r.2.1:=D.e.symm▸eE _;refine(Ij (λz=>Pp C D.o.rev h1 D.hi (Ix (D.o.le D.hi) D.dn ?_)) λz=>Pp C D.o h1 D.hi D.dn:Gv cmp (if r.2.2>0 then kas_tail3 r.2.1 n (wZ r.1 (r.2.1- (r.2.2+1)) r.2.1) else kas_tail3 r.2.1 n r.1) _);rw[show r.2.1- (r.2.2+1)=s from(af (· - (r.2.2+1)) D.e).trans (wX ..)];exact D.tail
theorem Zj(C:qr cmp lt n)(o:gc n p)(hn:1<=n):Gv cmp (kas_count n p) (E2 lt n):=by
 have one:iy (Up lt) (at_ p) 1:=λi j h k=>by
  rw[Lr.mp k] at h;rw[Lr.mp k,Ub.mp h];exact C.L.refl _
 refine AJ (Oq C o (bf 1) (iK hn) one) λm R=>?_;show Gv cmp (if(m==n)=true then .ret (m,p) else if m>1 then .ask (p.getD 0 0) (p.getD (m-1) 0) λc=>if c=true then .ret (m,p) else kas_descPart m n (wZ p 0 m) else kas_descPart m n p) (E2 lt n);by_cases z:(m==n)=true
 ·rw[iP z];exact oK ⟨o,R⟩
 rw[iN z];have nz:m≠n:=λe=>z (jZ e);have lm:m<n:=pT R.hi nz;have st:Dn lt (at_ p (m-1)) (at_ p m):=C.L.uf _ _ (R.stop.resolve_left nz);by_cases z1:m>1
 ·rw[iP z1];refine BN C (o.uz hn) (o.uz (aQ (kE ..) lm)) (λ_=>oK ⟨o,R⟩) λd=>OI C o.rev lm ?_;have hp:=o.le R.hi;have al:∀i j,i<m->j<m->Dn lt (at_ p i) (at_ p j):=λi j hi hj=>C.L.dn.tr (C.L.dn.tr (b:=at_ p 0) (R.up 0 i (cu i) hi) d) (R.up j (m-1) (mP hj) (oO hj));refine yy C.L.dn (Ix hp (λi j hi hj=>al i j (aQ hi hj) hj) λa b _ k _ k2=>al a b k k2) λp0=>?_;rw[xG hp (cu _) (oO p0),z9 hp λz=>cV _ z.2];exact C.L.dn.tr (al _ _ (yC (cu _) (oO p0)).2 (oO p0)) st
 ·rw[iN z1];obtain rfl:m=1:=mM (cZ z1) R.lo;exact OI C o lm (yy C.L.dn (λi j h k=>by
   rw[Lr.mp k] at h;rw[Lr.mp k,Ub.mp h];exact C.L.refl _) λ_=>st)
structure GJ(lt:Nat->Nat->Bool)(g:Nat->Nat)(k l r:Nat):Prop where
 hr:r<=k
 lo:∀i,i<l->lt (g k) (g i)=false
 hi:∀i,r<=i->i<k->lt (g k) (g i)=true
theorem adO(C:qr cmp lt n)(o:gc n p)(hk:k<n)(M:iy (Up lt) (at_ p) k):∀{f l r:Nat},l<=r->r<=l+f->GJ lt (at_ p) k l r->Gv cmp (kas_place p k f l r) λl=>GJ lt (at_ p) k l l:=by
 intro f;induction f with
 |zero=>exact λ{l r} h1 h2 P=>oK (mM h1 h2▸P)
 |succ f ih=>
  intro l r h1 h2 P;refine(show Gv cmp (if l>=r then .ret l else .ask (p.getD k 0) (p.getD ((l+r) /2) 0) λc=>if c=true then kas_place p k f l ((l+r) /2) else kas_place p k f ((l+r) /2+1) r) _ from Ij (λz=>oK (mM h1 z▸P)) λz=>?_);have lr:l<r:=om z;have m1:l<=(l+r) /2:=(Nat.le_div_iff_mul_le (by decide)).mpr (aq (aD (Nat.mul_two l)) (i3 h1 l));have m2:(l+r) /2<r:=Nat.div_lt_of_lt_mul (i6 (Nat.add_lt_add_right lr r) (Nat.two_mul r).symm);have mk:=ba m2 P.hr;refine BN C (o.uz hk) (o.uz (eN mk hk)) (λc=>ih m1 (ju (ba m2 h2)) ⟨cy mk,P.lo,λi a b=>?_⟩) λc=>ih m2 (aq h2 (aq (mG m1 _) (aD (wM ..).symm))) ⟨P.hr,λi a=>C.L.tr _ _ _ (M i _ (ju a) mk) c,P.hi⟩;cases z:lt (at_ p k) (at_ p i) with
  |true=>rfl|false=>exact(C.L.tr _ _ _ (M _ i a b) z).symm.trans c
theorem RZ(hk:k<p.size)(hl:l<=k)(t:Nat):at_ (bubble p k (k-l)) t=if t=l then at_ p k else if l<t/\t<=k then at_ p (t-1) else at_ p t:=by
 rw[pN,getElem?_bubble hk _ (kE ..),TJ hl,apply_ite (λo:Option Nat=>o.getD 0),apply_ite (λo:Option Nat=>o.getD 0),<-pN,<-pN,<-pN]
theorem Zz(C:qr cmp lt n)(hk:k<p.size)(M:iy (Up lt) (at_ p) k)(P:GJ lt (at_ p) k l l):iy (Up lt) (at_ (bubble p k (k-l))) (k+1):=λi j hi hj=>by
 have hj:=ju hj;rw[RZ hk P.hr,RZ hk P.hr];by_cases e:j=l
 ·rw[iP e];by_cases e2:i=l
  ·rw[iP e2];exact C.L.refl _
  ·have il:=pT (e▸hi) e2;rw[iN e2,iN λq:l<i/\i<=k=>oD il q.1];exact P.lo i il
 rw[iN e];by_cases g:l<j
 ·rw[iP (FH g hj)];have jk:j-1<k:=ba (oO g) hj;have lj:=mP g;by_cases e2:i=l
  ·rw[iP e2];exact C.L.uf _ _ (P.hi _ lj jk)
  ·rw[iN e2];by_cases g2:l<i
   ·rw[iP (FH g2 (aq hi hj))];exact M _ _ (KZ hi 1) jk
   ·rw[iN λq:l<i/\i<=k=>g2 q.1];exact M _ _ (aq (cZ g2) lj) jk
 ·have jl:=pT (cZ g) e;have il:=aQ hi jl;rw[iN λq:l<j/\j<=k=>g q.1,iN (gE il),iN λq:l<i/\i<=k=>oD il q.1];exact M i j hi (ba jl P.hr)
theorem acz(C:qr cmp lt n):∀{f:Nat} {p:Array Nat} {k:Nat},gc n p->k+f=n->iy (Up lt) (at_ p) k->Gv cmp (kas_bin f p k) λp=>gc n p/\iy (Up lt) (at_ p) n:=by
 intro f;induction f with
 |zero=>exact λ{p k} o e M=>oK ⟨o,e▸M⟩
 |succ f ih=>
  intro p k o e M;have hk:k<n:=i6 (qX (eE f)) e;exact AJ (adO C o hk M (cu k) (i7 ..) ⟨bf k,λi a=>absurd a (y9 i),λi a b=>absurd a (oh b)⟩) λl P=>ih (o.of (bubble_perm _ _ _)) ((wM k f).trans e) (Zz C (i6 hk o.size.symm) M P)
theorem aej(L:uh lt)(hc:∀i j,i<n->j<n->cmp i j=some (lt i j))(hn:1<=n):Gv cmp (kas_sort n) λp=>gc n p/\iy (Up lt) (at_ p) n:=by
 have C:qr cmp lt n:=⟨L,hc⟩;refine AJ (Zj C ⟨.refl _⟩ hn) λr D=>?_;rw[Nat.max_eq_left D.2.lo];by_cases z:r.1<n
 ·rw[iP z];exact acz C D.1 (iK D.2.hi) D.2.up
 ·rw[iN z];exact oK ⟨D.1,mM D.2.hi (cZ z)▸D.2.up⟩
end
section
variable{α β:Type}{O:aK}{nm:aN}{v:β->PV}{D:Nat}{id:Str}{cs:List (List Nat)}{ns:PV}
section
variable{l:List α}{d:α}{i:Nat}
theorem BK(h:i<l.length):l[i]?=some (l.getD i d):=by
 rw[tA,jM h];rfl
theorem aaQ{is:List Nat}(h:∀i∈is,i<l.length):(is.mapM λi=>l[i]?)=some (is.map λi=>l.getD i d):=by
 induction is with
 |nil=>rfl
 |cons i r ih=>
  rw[qY,ih λj m=>h j (.tail _ m),BK (d:=d) (h i (.head _))];rfl
theorem HC:(ax l.length).map (λi=>l.getD i d)=l:=List.ext_getElem? λi=>by
 rw[oy];by_cases h:i<l.length
 ·rw[agS h,BK (d:=d) h];rfl
 ·rw[zc (cZ h),zc (aq (aD cF) (cZ h))];rfl
theorem Ps{lt:α->α->Option Bool}{le:α->α->Bool}(h:∀a∈l,∀b∈l,lt a b=some (le a b))(uf:∀a∈l,∀b∈l,le a b=true->le b a=false)(tr:∀a∈l,∀b∈l,∀c∈l,le b a=false->le c b=false->le c a=false)(hz:l.length<64):
  ∃out,kW lt l=some out/\out.Perm l/\out.Pairwise λa b=>le b a=false:=by
 unfold kW;by_cases q:l.length<2
 ·rw[iP q];refine⟨l,rfl,.refl _,?_⟩;cases l with
  |nil=>exact .nil
  |cons a l=>cases l with
   |nil=>exact TK _ _|cons=>exact absurd q (gK (i7 ..))
 rw[iN q,iP hz];refine bE λgG hG=>?_;have hn:0<l.length:=ba Nat.two_pos (cZ q);obtain⟨d,hd⟩:∃d,d∈l:=⟨l[0],S7 hn⟩;have mem (i:Nat):l.getD i d∈l:=by
  by_cases q:i<l.length
  ·exact TL (BK q)
  ·rw[tA,zc (cZ q)];exact hd
 obtain⟨p,e,o,s⟩:=aej (lt:=λi j=>le (l.getD i d) (l.getD j d)) (n:=l.length) (cmp:=λi j=>(l[i]?).bind λa=>(l[j]?).bind (lt a)) ⟨λa b=>uf _ (mem a) _ (mem b),λa b c=>tr _ (mem a) _ (mem b) _ (mem c)⟩ (λi j hi hj=>by
  rw[BK (d:=d) hi,BK (d:=d) hj];exact h _ (mem i) _ (mem j)) hn
 refine hG (⟨p.toList.map λi=>l.getD i d,(af (λo:Option (Array Nat)=>o.bind λp=>p.toList.mapM λi=>l[i]?) e).trans (aaQ λi m=>eG (o.perm.mem_iff.mp m)),(o.perm.map _).trans (.of_eq HC),?_⟩);rw[TM,TN];intro i j hi hj hij;have k:=s i j (cy hij) (i6 hj o.size);rw[pN,pN,tn hi,tn hj] at k;exact k
end
section
section
variable{lt:α->α->Option Bool}{lt':β->β->Option Bool}{g:β->α}{l:List β}{le:β->β->Bool}{f:Str}{p q:Pos}
theorem adt{is:List Nat}:(is.mapM λi=>(l.map g)[i]?)=(is.mapM λi=>l[i]?).map (List.map g):=by
 induction is with
 |nil=>rfl
 |cons i is ih=>
  rw[qY,qY,ih,oy];cases l[i]? with
  |none=>rfl|some b=>cases is.mapM λi=>l[i]?<;>rfl
theorem QN(h:∀a b,lt' a b=lt (g a) (g b)):kW lt (l.map g)=(kW lt' l).map (List.map g):=by
 have e:(λi j:Nat=>((l.map g)[i]?).bind λa=>((l.map g)[j]?).bind (lt a))=λi j:Nat=>(l[i]?).bind λa=>(l[j]?).bind (lt' a):=by
  funext i j;rw[oy,oy,Option.bind_map];exact af _ (funext λa=>(Option.bind_map ..).trans (af _ (funext λb=>(h a b).symm)))
 unfold kW;rw[bi,e];by_cases q:l.length<2
 ·rw[iP q,iP q];rfl
 rw[iN q,iN q];by_cases q:l.length<64
 ·rw[iP q,iP q];cases qo _ (kas_sort l.length) with
  |none=>rfl|some p=>exact adt
 ·rw[iN q,iN q];rfl
theorem Pj{k:Nat}(hk:(k !=0)=true)(h:∀a,j0 (v a)=k):o5 (l.map v)=true:=by
 cases l with
 |nil=>rfl
 |cons a l=>
  show(j0 (v a) !=0&&(l.map v).all λq=>j0 q==j0 (v a))=true;rw[h,hk,SL];exact KY.mpr λb _=>by rw[agT,h];exact beq_self_eq_true k
theorem zY{k:Nat}(hk:(k !=0)=true)(ht:∀a,j0 (v a)=k)(h:∀a∈l,∀b∈l,fe O (v a) (v b)=some (le a b))(uf:∀a∈l,∀b∈l,le a b=true->le b a=false)(tr:∀a∈l,∀b∈l,∀c∈l,le b a=false->le c b=false->le c a=false)(hz:l.length<64):
  ∃out:List β,eD O nm (l.map v) []=some (.list (out.map v))/\out.Perm l/\out.Pairwise λa b=>le b a=false:=by
 obtain⟨out,e,r⟩:=Ps (lt:=λa b=>fe O (v a) (v b)) h uf tr hz;refine⟨out,(iP (Pj hk ht)).trans ?_,r⟩;rw[QN (lt':=λa b=>fe O (v a) (v b)) λ_ _=>rfl,e];rfl
theorem ϓ{a b:Str}(h:r0 a b=true):r0 b a=false:=dF (List.lt_asymm (cC h))
theorem Z4{a b c:Str}(h:r0 b a=false)(h2:r0 c b=false):r0 c a=false:=
 dF (Uc.mpr (List.le_trans (Uc.mp (iO h)) (Uc.mp (iO h2))))
def uo(o:Option PV):Str:=(o.bind PV.vZ).getD ""
theorem V0{vs:List PV}:eD O nm vs [⟨some "key",.Name f p,q⟩]=if f≠("__debug__":Str)/\ak nm f=some .globalImplicit/\vs≠[] then(nZ O f vs).bind λks=>if o5 (ks.map (·.1))=true then(kW (λa b=>fe O a.1 b.1) ks).map λl=>.list (l.map (·.2)) else none else none:=⋯
theorem ade(h1:f≠("__debug__":Str))(h2:ak nm f=some .globalImplicit)(h3:l≠[])(hk:∀a∈l,∃s,O.fn f [v a] []=some (.str s))(hz:l.length<64):∃out:List β,eD O nm (l.map v) [⟨some "key",.Name f p,q⟩]=some (.list (out.map v))/\out.Perm l:=by
 have hk:nZ O f (l.map v)=some (l.map λa=>(PV.str (uo (O.fn f [v a] [])),v a)):=by
  unfold nZ;clear h3 hz;induction l with
  |nil=>rfl
  |cons a l ih=>
   obtain⟨s,e⟩:=hk a (.head _);rw[oB,qY,ih λb m=>hk b (.tail _ m),oB,e];rfl
 obtain⟨out,e,p,_⟩:=Ps (lt:=λa b=>fe O (.str (uo (O.fn f [v a] []))) (.str (uo (O.fn f [v b] [])))) (le:=λa b=>r0 (uo (O.fn f [v a] [])) (uo (O.fn f [v b] []))) (l:=l) (λ_ _ _ _=>rfl) (λ_ _ _ _=>ϓ) (λ_ _ _ _ _ _=>Z4) hz;refine⟨out,V0.trans ((iP ⟨h1,h2,λq=>h3 (Ua.mp q)⟩).trans (aG hk ((iP ?_).trans ?_))),p⟩
 ·rw[jt];exact Pj (k:=2) rfl λ_=>rfl
 ·rw[QN (lt:=λa b:PV×PV=>fe O a.1 b.1) (g:=λa=>(PV.str (uo (O.fn f [v a] [])),v a)) (lt':=λa b=>fe O (.str (uo (O.fn f [v a] []))) (.str (uo (O.fn f [v b] [])))) λ_ _=>rfl,e];show some (PV.list ((out.map _).map _))=_;rw[jt];rfl
end
structure SS(S:List Nat):Prop where
 up:S.Pairwise (· < ·)
 six:∀x∈S,x<6
theorem SS.sub{S:List Nat}(h:SS S):S∈pn 0 6:=RM 6 h.up λx m=>⟨cu _,i6 (h.six x m) (f5 6).symm⟩
theorem SS.all{S:List Nat}{t:List Nat->Bool}(h:SS S)(a:(pn 0 6).all t=true):t S=true:=b7 a S h.sub
theorem SS.len{S:List Nat}(h:SS S):S.length<7:=cC (h.all (t:=λS=>decide (S.length<7)) ⋯)
theorem SS.eq{l S:List Nat}(h:SS S)(p:l.Perm S)(s:l.Pairwise λa b=>decide (b<a)=false):l=S:=
 agU (le:=λa b=>a<=b) (λ_ _ _ _ h1 h2=>mM h1 h2) (s.imp λq=>cZ (iO q)) (h.up.imp cy) p
noncomputable def J5(n:Nat):Str:=dw (toString (n:Int))
def ds(n:Nat):PV:=.str (J5 n)
variable{S l:List Nat}
theorem Z_{a b:Nat}(ha:a<6)(hb:b<6):fe O (ds a) (ds b)=some (decide (a<b)):=by
 have h:(ax 6).all (λa=>(ax 6).all λb=>r0 (J5 a) (J5 b)==decide (a<b))=true:=⋯;exact af some (a5 (b7 (b7 h a (dL ha)) b (dL hb)))
theorem WO{nm:aN}(h:SS S)(p:l.Perm S):eD O nm (l.map ds) []=some (.list (S.map ds)):=by
 have m {x} (m:x∈l):x<6:=h.six x (p.mem_iff.mp m);obtain⟨out,e,q,s⟩:=zY (O:=O) (nm:=nm) (v:=ds) (le:=λa b=>decide (a<b)) (l:=l) (k:=2) rfl (λ_=>rfl) (λa ma b mb=>Z_ (m ma) (m mb)) (λa _ b _ x=>dF (oD (cC x))) (λa _ b _ c _ x y=>dF (gK (aq (cZ (iO x)) (cZ (iO y))))) (p.length_eq▸eN h.len (by decide));rw[e,h.eq (q.trans p) s]
def qN:aN:=qU.scope.names
def qu:aH:=aJ (sB 0 (aJ qU.body 0)) 0
noncomputable def rR(S:List Nat)(x:Option PV):ar:=("candset",.pv (.set S))::("cand_names",.pv .none)::x.elim [] λx=>[("named",.pv x)]
noncomputable def isS:Option PV->Bool
 |some (.str _)=>true|_=>false
theorem acm:(pn 0 6).all (λS=>isS (ck (a9 (next NN O) NN qN [] (rR S (some (.list (S.map ds)))) [aJ qU.body 1])))=true:=⋯
theorem ON{P:Nat->Prop}(h0:P 0)(h1:P 1)(h2:P 2)(h3:P 3)(h4:P 4)(h5:P 5):∀j,j<6->P j:=vT (vR h0 h1 h2 h3|>(vT · h4)) h5
theorem ZM:∀x:Nat,x<6->((fY (hF (gS (bR 0 (sE qu))).names) (gT (bR 0 (sE qu))) (.int (x:Nat)) []).bind λfR=>(ip 999997 {O with gens:=false}).e (gS (bR 0 (sE qu))).names fR (bR 0 (bR 0 (sE qu))))=some (ds x):=ON ⋯ ⋯ ⋯ ⋯ ⋯ ⋯
def Oi(O:aK):List PV->Option PV:=Bt O 999997 (bR 0 (sE qu)) [] λvs=>eD O qN vs []
theorem aeQ(h:SS S):eH (.set S) (Oi O)=some (.list (S.map ds)):=xP (kk:=Oi O) (.set S) λl' p=>GX (g:=ds) ⋯ (λx m=>ZM x (h.six x (p.mem_iff.mp m))) (WO h p)
theorem adl:cI (next NN O) 999998 qN (fJ (rR S none)) (sE qu)=eH (.set S) (Bt (next NN O) 999997 (bR 0 (sE qu)) [] λvs=>eD (next NN O) qN vs []):=⋯
theorem aen(h:SS S):cI (next NN O) 999998 qN (fJ (rR S none)) (sE qu)=some (.list (S.map ds)):=adl.trans (aeQ (O:=next NN O) h)
theorem WF(h:SS S):aw (next NN O) (999998+1) qN [] (rR S none) qu=nx (rR S (some (.list (S.map ds)))):=bg (n:=999998) (K:=bH qN "named" false) ⋯ (aen h) ⋯
theorem Wm(h:SS S):∃s,bm (next NN O) NN qU [.set S] []=some (.str s):=by
 have q:=h.all (acm (O:=O));suffices e:bm (next NN O) NN qU [.set S] []=ck (a9 (next NN O) NN qN [] (rR S (some (.list (S.map ds)))) [aJ qU.body 1]) by
  rw[e];revert q;cases ck _ with
  |none=>exact ff
  |some p=>cases p with
   |str s=>exact λ_=>⟨s,rfl⟩|_=>exact ff
 refine(⋯:_=ck (aS (aw (next NN O) NN qN []) [aJ qU.body 0,aJ qU.body 1] (rR S none))).trans (af ck (aF (σ₁:=rR S (some (.list (S.map ds)))) (cM (n:=999999) (b:=true) ⋯ ⋯ ?_) rfl));exact(⋯:_=aS (aw (next NN O) 999999 qN []) [qu] (rR S none)).trans (aF (WF h) rfl)
def Ds:aN:=B1.scope.names
def lx:aH:=aJ B1.body 0
theorem ϡ{β:Type}{g v:β->PV}{l:List β}{ev:bj->Expr->Option PV}{nm:aN}{t elt:Expr}{ρ:bj}(hf:lD t ρ=true)(h:∀x∈l,((fY (hF nm) t (v x) ρ).bind λfR=>ev fR elt)=some (g x)):kT ev nm t elt ρ (l.map v)=some (l.map g):=by
 induction l with
 |nil=>rfl|cons v l ih=>exact aj (h v (.head _)) λfR h1 h2=>(iP hf).trans (aG h1 (aG h2 (af (eP _) (ih λx m=>h x (.tail _ m)))))
theorem wl{n:Nat}{nm:aN}{mu:List Str}{σ:ar}{st:aH}{p:PV}(hs:aw O (n+1) nm mu σ st=sM O (ip n O) nm σ (sE st))(he:cI O n nm (bA σ) (sE st)=some p):aw O (n+1) nm mu σ st=some (.ret p,σ):=hs.trans (E8 he)
theorem rG{X:ar->aH->aZ}{st:aH}{l:List aH}{σ σ₁:ar}{p:PV}(h:X σ st=some (.ret p,σ₁)):aS X (st::l) σ=some (.ret p,σ₁):=af (λr:aZ=>r.bind λq=>if q.1.hX=true then aS X l q.2 else some q) h
def Ff(e:Expr):Pos×Pos:=((Bw e).bind λq=>o6 q.2.2.1).elim default λk=>(k.value.pos,k.pos)
def M0(O:aK)(vs:List PV):Option PV:=eD O Ds vs [⟨some "key",.Name "str_set_of_candidates" (Ff (sE lx)).1,(Ff (sE lx)).2⟩]
def scG(O:aK)(l:List PV):Option PV:=(kT ((ip 999998 {O with gens:=false}).e (gS (bR 0 (sE lx))).names) (gS (bR 0 (sE lx))).names (gT (bR 0 (sE lx))) (bR 0 (bR 0 (sE lx))) [] l).bind (M0 O)
theorem aev{l:List PV}:cI (next NN O) 999999 Ds (bA [("committees",.pv (.list l))]) (sE lx)=scG (next NN O) l:=⋯
theorem π{x:PV}:((fY (hF (gS (bR 0 (sE lx))).names) (gT (bR 0 (sE lx))) x []).bind λfR=>(ip 999998 {O with gens:=false}).e (gS (bR 0 (sE lx))).names fR (bR 0 (bR 0 (sE lx))))=O.fn "CandidateSet" [x] []:=⋯
theorem afP{β:Type}{v:β->PV}{so:β->List Nat}{l:List β}(h0:l≠[])(hz:l.length<64)(hc:∀a∈l,(next NN O).fn "CandidateSet" [v a] []=some (.set (so a)))(hk:∀a∈l,∃s,(next NN O).fn "str_set_of_candidates" [.set (so a)] []=some (.str s)):
  ∃out:List (List Nat),bm (next NN O) NN B1 [.list (l.map v)] []=some (.list (out.map PV.set))/\out.Perm (l.map so):=by
 obtain⟨out,e,hp⟩:=ade (O:=next NN O) (nm:=Ds) (f:="str_set_of_candidates") (p:=(Ff (sE lx)).1) (q:=(Ff (sE lx)).2) (v:=λa=>PV.set (so a)) (l:=l) (by decide) ⋯ h0 hk hz;refine⟨out.map so,?_,hp.map so⟩;refine(⋯:_=ck (aS (aw (next NN O) NN Ds []) [lx] [("committees",.pv (.list (l.map v)))])).trans (af ck (rG (wl (n:=999999) ⋯ (?_:_=some (PV.list ((out.map so).map PV.set))))));refine aev.trans (aG (K:=M0 (next NN O)) (ϡ (g:=λa=>PV.set (so a)) ⋯ λx m=>π.trans (hc x m)) (e.trans ?_));rw[jt];rfl
end
section
variable{sc:β->Int}{l:List β}{c x:β}{m:Int}
noncomputable def tj(sc:β->Int)(m:Int)(l:List β):Int:=l.foldl (λm c=>max m (sc c)) m
def mx(sc:β->Int)(l:List β):Int:=tj sc (-1) l
def dP(sc:β->Int)(l:List β):List β:=l.filter λc=>decide (sc c=mx sc l)
theorem sU:m<=tj sc m l/\∀x∈l,sc x<=tj sc m l:=by
 induction l generalizing m with
 |nil=>exact⟨tB _,λx h=>absurd h eX⟩|cons c l ih=>exact⟨ic (Int.le_max_left ..) (ih (m:=max m (sc c))).1,λx h=>(bw h).elim (λe=>ic (oF (af sc e)) (ic (Int.le_max_right m (sc c)) ih.1)) λh=>ih.2 x h⟩
theorem GK:tj sc m l=m\/∃x∈l,sc x=tj sc m l:=by
 induction l generalizing m with
 |nil=>exact .inl rfl
 |cons c l ih=>
  refine(ih (m:=max m (sc c))).elim (λe=>?_) λ⟨x,h,e⟩=>.inr ⟨x,.tail _ h,e⟩;by_cases q:m<=sc c
  ·exact .inr ⟨c,.head _,(TO q).symm.trans e.symm⟩
  ·exact .inl (e.trans (TP (Int.le_of_not_le q)))
theorem N4:mx sc (l++[c])=max (mx sc l) (sc c):=List.foldl_append ..
theorem IQ(h:∀x∈l,0<=sc x)(n:l≠[]):∃x∈l,sc x=mx sc l:=(GK (sc:=sc) (m:= -1) (l:=l)).elim (λe=>by
 obtain⟨c,l,rfl⟩:=CB n;exact absurd (ic (h c (.head _)) (e▸sU.2 c (.head _))) (by decide)) id
theorem Hi(h:∀x∈l,0<=sc x):x∈dP sc l↔x∈l/\∀y∈l,sc y<=sc x:=by
 refine oE.trans (and_congr_right λm=>decide_eq_true_iff.trans ⟨λe=>e▸sU.2,λk=>?_⟩);obtain⟨y,my,e⟩:=IQ h (CC m);exact zh (sU.2 x m) (e▸k y my)
theorem ue(h:∀x∈l,0<=sc x)(n:l≠[]):dP sc l≠[]:=by
 obtain⟨y,my,e⟩:=IQ h n;exact CC (pG ⟨my,dT e⟩)
theorem JY{P:β->Bool}:[c].filter P=if P c=true then[c] else[]:=by
 cases h:P c with
 |true=>exact tD h|false=>exact u8 (ne_true_of_eq_false h)
theorem Ra(h:mx sc l<sc c):mx sc (l++[c])=sc c/\dP sc (l++[c])=[c]:=by
 have e:mx sc (l++[c])=sc c:=N4.trans (TO (mJ h));refine⟨e,?_⟩;unfold dP;rw[e,pW,Gp.mpr λx m k=>ir (sU.2 x m) (cC k▸h),JY,dT rfl];rfl
theorem Op(h:¬mx sc l<sc c):mx sc (l++[c])=mx sc l/\dP sc (l++[c])=if sc c=mx sc l then dP sc l++[c] else dP sc l:=by
 have e:mx sc (l++[c])=mx sc l:=N4.trans (TP (jB h));refine⟨e,?_⟩;unfold dP;rw[e,pW];by_cases q:sc c=mx sc l
 ·rw[iP q,JY,dT q];rfl
 ·rw[iN q,JY,dF q];exact gO _
end
def m7{β:Type}(D:Nat)(sc:β->Int):List β->PV
 |[]=>.int (-1)|c::l=>fq D (mx sc (c::l))
structure BL(O:aK)(D:Nat)(id:Str)(p:PV)(B:ar->aZ)(nm:aN)(t:Expr)(E:List PV->PV->Option PV->Option PV->ar):Prop where
 bind:∀{b s c} {r:Option (PV×PV)},fY (sf nm) t c (E b s (r.map wP) (r.map oz))=some (E b s (some c) (r.map oz))
 turn:∀{b s c y z b1 b2},O.fn "thiele_score" [.str id,p,c] []=some (fq D z)->O.cmp .Gt (fq D z) s=some b1->(b1=false->O.cmp .Eq (fq D z) s=some b2)->b.length<aA->B (E b s (some c) y)=nx (if b1=true then E [c] (fq D z) (some c) (some (fq D z)) else E (if b2=true then b++[c] else b) s (some c) (some (fq D z)))
section
variable{p:PV}{B:ar->aZ}{t:Expr}{E:List PV->PV->Option PV->Option PV->ar}{sc:β->Int}{c:β}{y:Option PV}
theorem Rr:mx sc []<0:=show(-1:Int)<0 by decide
theorem Y3{l:List β}(H:fV O D)(h:0<=sc c):O.cmp .Gt (fq D (sc c)) (m7 D sc l)=some (decide (mx sc l<sc c)):=by
 cases l with
 |nil=>exact(H.G6 h).trans (af some (dT (lG Rr h)).symm)|cons=>exact H.gt
theorem PL{l:List β}(H:fV O D)(h:0<=sc c)(n:¬mx sc l<sc c):m7 D sc (l++[c])=m7 D sc l/\O.cmp .Eq (fq D (sc c)) (m7 D sc l)=some (decide (sc c=mx sc l)):=by
 cases l with
 |nil=>exact absurd (lG Rr h) n|cons=>exact⟨af (fq D) (Op n).1,H.eq⟩
theorem XX{l:List β}(H:fV O D)(L:BL O D id p B nm t E)(h:O.fn "thiele_score" [.str id,p,v c] []=some (fq D (sc c))/\0<=sc c)(hz:l.length<aA):B (E ((dP sc l).map v) (m7 D sc l) (some (v c)) y)=nx (E ((dP sc (l++[c])).map v) (m7 D sc (l++[c])) (some (v c)) (some (fq D (sc c)))):=by
 refine(L.turn h.1 (Y3 H h.2) (b2:=decide (sc c=mx sc l)) (λq=>(PL H h.2 (iO q)).2) (aQ (aq (aD (bi _)) (rm ..)) hz)).trans (af nx ?_);by_cases q:mx sc l<sc c
 ·rw[dT q,iP rfl,(Ra q).2,show m7 D sc (l++[c])=fq D (sc c) by rw[<-(Ra q).1];cases l<;>rfl];rfl
 ·rw[dF q,iN dy,(Op q).2,(PL H h.2 q).1];by_cases k:sc c=mx sc l
  ·rw[dT k,iP rfl,iP k,mR];rfl
  ·rw[dF k,iN dy,iN k];rfl
theorem Hg(H:fV O D)(L:BL O D id p B nm t E):∀{l' l:List β} {r:Option (PV×PV)},(∀c∈l',O.fn "thiele_score" [.str id,p,v c] []=some (fq D (sc c))/\0<=sc c)->l.length+l'.length<aA->∃r':Option (PV×PV),(r'=none->r=none/\l'=[])/\dZ B nm t (l'.map v) (E ((dP sc l).map v) (m7 D sc l) (r.map wP) (r.map oz))=nx (E ((dP sc (l++l')).map v) (m7 D sc (l++l')) (r'.map wP) (r'.map oz)):=by
 intro l';induction l' with
 |nil=>exact λ{l r} _ _=>⟨r,λe=>⟨e,rfl⟩,by rw[gO];rfl⟩
 |cons c l' ih=>
  intro l r h hz;obtain⟨r',n,e⟩:=ih (l:=l++[c]) (r:=some (v c,fq D (sc c))) (λc m=>h c (.tail _ m)) (aQ (aD (by rw[da,fC];exact af _ (gj ..))) hz);rw[kx] at e;exact⟨r',(λq=>sN ((n q).1)),iz L.bind (XX H L (h c (.head _)) (aQ (cW ..) hz)) e⟩
end
section
section
variable{n:Nat}{mu:List Str}{σ σ₁:ar}{st:aH}{K:PV×ar->aZ}{p:PV}{r:aZ}
theorem tO(hs:aw O (n+1) nm mu σ st=(bX (cI O n nm) σ (sE st)).bind K)(h0:cI O n nm (fJ σ) (sE st)=none)(h:cI O n nm (bA σ) (sE st)=some p)(hc:(σ.any λq=>q.2.kY&&q.2.seen p)=false)(hk:K (p,dY p σ)=r):aw O (n+1) nm mu σ st=r:=hs.trans (aG (show bX (cI O n nm) σ (sE st)=some (p,dY p σ) by unfold bX;rw[h0,h];exact iN (ne_true_of_eq_false hc)) hk)
theorem dC{X:ar->aH->aZ}{l:List aH}{σ₁:ar}{q:Option PV}(h:X σ st=nx σ₁)(k:ck (aS X l σ₁)=q):ck (aS X (st::l) σ)=q:=(af ck (aF h rfl)).trans k
noncomputable def AV.qj(b:Bool)(l:List PV):AV:=if b=true then .pv (.list l) else .own l
end
noncomputable def eK(c:List Nat):PV:=.tup (c.map λn:Nat=>PV.int n)
def sW:aN:=AN.scope.names
def pg(i:Nat):aH:=aJ AN.body i
def Vp:aH:=aJ (sB 0 (pg 2)) 1
def PP:aH:=aJ (sB 1 Vp) 0
noncomputable def BW:List Str:=["opt_committees"]
noncomputable def Oy(a b:Str)(r:ar)(x y:Option PV):ar:=x.elim r λx=>(a,.pv x)::y.elim r λy=>(b,.pv y)::r
def uH(id:Str)(p:PV)(k:Nat)(r:ar)(b:AV)(s:PV)(x y:Option PV):ar:=("scorefct_id",.pv (.str id))::("profile",.pv p)::("committeesize",.pv (.int k))::("resolute",.pv (.bool false))::("max_num_of_committees",.pv .none)::("opt_committees",b)::("opt_thiele_score",.pv s)::Oy "committee" "score" r x y
variable{k n:Nat}{p:PV}{sc:List Nat->Int}{out:List PV}{vs:List (List Nat×Nat)}
theorem Yl{p:PV}:BL O D id p (aS (aw O 999999 sW BW) (sB 0 (pg 2))) sW (sT (pg 2)) λb=>uH id p k [] (.own b) where
 bind:=λ{b s c r}=>by cases r<;>rfl'
 turn:=λ{b s c y z b1 b2} h hg he hz=>by
  refine aF (bg (n:=999998) (K:=bH sW "score" false) ⋯ ((show _=O.fn "thiele_score" [.str id,p,c] [] by cases y<;>rfl').trans h) (show _=nx (uH id p k [] (.own b) s (some c) (some (fq D z))) by cases y<;>rfl')) (aF (cM (n:=999998) (b:=b1) ⋯ ((⋯:_=O.cmp .Gt (fq D z) s).trans hg) ?_) rfl);cases b1 with
  |true=>rfl'
  |false=>
   refine(⋯:_=aS (aw O 999998 sW BW) [PP] (uH id p k [] (.own b) s (some c) (some (fq D z)))).trans (aF (cM (n:=999997) (b:=b2) ⋯ ((⋯:_=O.cmp .Eq (fq D z) s).trans (he rfl)) ?_) rfl);cases b2 with
   |true=>exact(⋯:_=aS (aw O 999997 sW BW) [aJ (sB 0 PP) 0] (uH id p k [] (.own b) s (some c) (some (fq D z)))).trans (aF (cM (n:=999996) (b:=true) ⋯ ⋯ (aF (σ₁:=uH id p k [] (.own (b++[c])) s (some c) (some (fq D z))) ((⋯:_=if b.length<aA then nx (uH id p k [] (.own (b++[c])) s (some c) (some (fq D z))) else none).trans (iP hz)) rfl)) rfl)|false=>rfl'
def GZ(O:aK)(D:Nat)(id:Str)(p:PV)(sc:List Nat->Int)(cs:List (List Nat)):Prop:=∀c∈cs,O.fn "thiele_score" [.str id,p,eK c] []=some (fq D (sc c))/\0<=sc c
theorem aab(H:fV O D)(hc:O.fn "combinations" [.list ((ax n).map λi:Nat=>.int i),.int k] []=some (.list (cs.map eK)))(hz:cs.length<aA)(h:GZ O D id (a7 n ns vs) sc cs)(hs:O.fn "sorted_committees" [.list ((dP sc cs).map eK)] []=some (.list out)):
  bm O NN AN [] [("scorefct_id",.str id),("profile",a7 n ns vs),("committeesize",.int k),("resolute",.bool false),("max_num_of_committees",.none)]=some (.tup [.list out,.any]):=by
 obtain⟨r,_,e⟩:=Hg (l:=[]) (r:=none) H (Yl (k:=k)) h (by rw[Cn,f5];exact hz);refine(⋯:_=ck (a9 O NN sW BW (uH id (a7 n ns vs) k [] (.own []) (.int (-1)) none none) [pg 2,pg 3,pg 4,pg 5,pg 6,pg 7])).trans (dC (bg (n:=999999) (K:=fU (aw O 999999 sW BW) sW (sT (pg 2)) (sB 0 (pg 2))) ⋯ ((show _=O.fn "combinations" [.list ((ax n).map λi:Nat=>.int i),.int k] [] by rfl').trans hc) (s9 e)) (dC (tO (n:=999999) (K:=bH sW "committees" false) (p:=.list out) ⋯ (by cases r<;>rfl') ((show _=O.fn "sorted_committees" [.list ((dP sc cs).map eK)] [] by cases r<;>rfl').trans hs) (by cases r<;>rfl') (show _=nx (uH id (a7 n ns vs) k [("committees",.pv (.list out))] (.qj (cf [(dP sc cs).map eK] [] (.list out)) ((dP sc cs).map eK)) (m7 D sc cs) (r.map wP) (r.map oz)) by cases r<;>rfl')) ?_));cases cf [(dP sc cs).map eK] [] (.list out)<;>cases r<;>rfl'
end
section
def gI(e:Expr):List Expr:=(gC e).ifs
def gR(e:Expr):List jL:=(gP e).1.drop 1
def c7(O:aK)(n:Nat)(e:Expr)(ρ:bj)(src:List PV):Option PV:=(qR (sr (ip n O) (gS e).names (bR 0 e) (gR e)) ((ip n O).t (gS e).names) (gS e).names (gT e) (gI e) ρ src).bind (oJ .list)
section
variable{n:Nat}{e:Expr}{ρ:bj}{w:β->PV}{l:List β}{ok:β->Bool}{t:Expr}{ifs:List Expr}{body:bj->Option (List PV)}{te:bj->Expr->Option Bool}{f:β->List PV}
theorem IU(hf:lD t ρ=true)(h:∀a∈l,((fY (hF nm) t (v a) ρ).bind λfR=>(pZ (te fR) false ifs).bind λok=>if ok=true then body fR else some [])=some (f a)):qR body te nm t ifs ρ (l.map v)=some (l.flatMap f):=by
 induction l with
 |nil=>rfl|cons a l ih=>exact aj (h a (.head _)) λfR h1 h2=>aj h2 λk h2 h3=>(iP hf).trans (aG h1 (aG h2 (aG h3 (af (eP _) (ih λx m=>h x (.tail _ m))))))
theorem R_:(l.flatMap λa=>if ok a=true then[w a] else[])=(l.filter ok).map w:=by
 induction l with
 |nil=>rfl
 |cons a l ih=>
  rw[K0,ih];cases h:ok a with
  |true=>rw[tD h];rfl|false=>rw[u8 (ne_true_of_eq_false h)];rfl
theorem vQ(hf:lD (gT e) ρ=true)(h:∀a∈l,((fY (hF (gS e).names) (gT e) (v a) ρ).bind λfR=>(pZ ((ip n O).t (gS e).names fR) false (gI e)).bind λok=>if ok=true then sr (ip n O) (gS e).names (bR 0 e) (gR e) fR else some [])=some (if ok a=true then[w a] else[]))(hz:l.length<=aA):c7 O n e ρ (l.map v)=some (.list ((l.filter ok).map w)):=
 aG ((IU hf h).trans (af some R_)) (iP (aq (aD (bi _)) (aq (rm ..) hz)))
theorem nJ(hf:lD (gT e) ρ=true)(h:∀a∈l,((fY (hF (gS e).names) (gT e) (v a) ρ).bind λfR=>(pZ ((ip n O).t (gS e).names fR) false (gI e)).bind λok=>if ok=true then sr (ip n O) (gS e).names (bR 0 e) (gR e) fR else some [])=some [w a])(hz:l.length<=aA):c7 O n e ρ (l.map v)=some (.list (l.map w)):=
 (vQ (ok:=λ_=>true) hf h hz).trans (by rw[Go.mpr λ_ _=>rfl])
end
def ig:aN:=Aq.scope.names
noncomputable def oN:List Str:=["best_committees","final_committees"]
def dN(i:Nat):aH:=aJ Aq.body i
def VN(i:Nat):aH:=aJ (sB 0 (dN i)) 1
def Eu(i:Nat):aH:=aJ (sB 1 (VN i)) 0
def jJ(p:PV)(k:Nat)(bc:AV)(d5:PV)(r:ar)(x y:Option PV):ar:=("profile",.pv p)::("committeesize",.pv (.int k))::("resolute",.pv (.bool false))::("max_num_of_committees",.pv .none)::("best_committees",bc)::("best_coverage",.pv d5)::Oy "committee" "coverage" r x y
noncomputable def rO(fc:AV)(s:PV)(y:Option PV)(r:ar):ar:=("final_committees",fc)::("best_score",.pv s)::y.elim r λy=>("score",.pv y)::r
variable{k n:Nat}{p d5 c0 a0:PV}{vj xh:List Nat->Int}{L:List PV}{vs:List (List Nat×Nat)}
theorem abe:BL O D "cc" p (aS (aw O 999999 ig oN) (sB 0 (dN 2))) ig (sT (dN 2)) λb s=>jJ p k (.own b) s [] where
 bind:=λ{b s c r}=>by cases r<;>rfl'
 turn:=λ{b s c y z b1 b2} h hg he hz=>by
  refine aF (bg (n:=999998) (K:=bH ig "coverage" false) ⋯ ((show _=O.fn "thiele_score" [.str "cc",p,c] [] by cases y<;>rfl').trans h) (show _=nx (jJ p k (.own b) s [] (some c) (some (fq D z))) by cases y<;>rfl')) (aF (cM (n:=999998) (b:=b1) ⋯ ((⋯:_=O.cmp .Gt (fq D z) s).trans hg) ?_) rfl);cases b1 with
  |true=>rfl'
  |false=>
   refine(⋯:_=aS (aw O 999998 ig oN) [Eu 2] (jJ p k (.own b) s [] (some c) (some (fq D z)))).trans (aF (cM (n:=999997) (b:=b2) ⋯ ((⋯:_=O.cmp .Eq (fq D z) s).trans (he rfl)) ?_) rfl);cases b2 with
   |true=>exact aF (st:=aJ (sB 0 (Eu 2)) 0) (σ₁:=jJ p k (.own (b++[c])) s [] (some c) (some (fq D z))) ((⋯:_=if b.length<aA then nx (jJ p k (.own (b++[c])) s [] (some c) (some (fq D z))) else none).trans (iP hz)) rfl|false=>rfl'
theorem adU:BL O D "adams" p (aS (aw O 999999 ig oN) (sB 0 (dN 5))) ig (sT (dN 5)) λb s x y=>jJ p k (.pv (.list L)) d5 (rO (.own b) s y []) (some (x.getD c0)) (some a0) where
 bind:=λ{b s c r}=>by cases r<;>rfl'
 turn:=λ{b s c y z b1 b2} h hg he hz=>by
  refine aF (bg (n:=999998) (K:=bH ig "score" false) ⋯ ((show _=O.fn "thiele_score" [.str "adams",p,c] [] by cases y<;>rfl').trans h) (show _=nx (jJ p k (.pv (.list L)) d5 (rO (.own b) s (some (fq D z)) []) (some c) (some a0)) by cases y<;>rfl')) (aF (cM (n:=999998) (b:=b1) ⋯ ((⋯:_=O.cmp .Gt (fq D z) s).trans hg) ?_) rfl);cases b1 with
  |true=>rfl'
  |false=>
   refine(⋯:_=aS (aw O 999998 ig oN) [Eu 5] (jJ p k (.pv (.list L)) d5 (rO (.own b) s (some (fq D z)) []) (some c) (some a0))).trans (aF (cM (n:=999997) (b:=b2) ⋯ ((⋯:_=O.cmp .Eq (fq D z) s).trans (he rfl)) ?_) rfl);cases b2 with
   |true=>exact aF (st:=aJ (sB 0 (Eu 5)) 0) (σ₁:=jJ p k (.pv (.list L)) d5 (rO (.own (b++[c])) s (some (fq D z)) []) (some c) (some a0)) ((⋯:_=if b.length<aA then nx (jJ p k (.pv (.list L)) d5 (rO (.own (b++[c])) s (some (fq D z)) []) (some c) (some a0)) else none).trans (iP hz)) rfl|false=>rfl'
theorem abg{ls:List (List PV)}:∀l:List (List Nat),io ls [] (l.map eK)=false:=by
 have i (c:List Nat):io ls [] (c.map λn:Nat=>PV.int n)=false:=by
  induction c with
  |nil=>rfl|cons=>assumption
 intro l;induction l with
 |nil=>rfl|cons c l ih=>exact(af (λb=>b||io ls [] (l.map eK)) (i c)).trans ih
theorem V6(H:fV O 1)(H6:fV O 6)(hc:O.fn "combinations" [.list ((ax n).map λi:Nat=>.int i),.int k] []=some (.list (cs.map eK)))(h0:cs≠[])(hz:cs.length<aA)(h:GZ O 1 "cc" (a7 n ns vs) vj cs)(h':GZ O 6 "adams" (a7 n ns vs) xh cs)
(ha:O.attr bv "num_cand" (a7 n ns vs)=some (.int n))(hs:∀c∈cs,O.fn "CandidateSet" [eK c] [("num_cand",.int n)]=some (.set c)):
  bm O NN Aq [a7 n ns vs,.int k,.bool false,.none] []=some (.list ((dP xh (dP vj cs)).map PV.set)):=by
 have sub:∀c∈dP vj cs,c∈cs:=λc m=>(eI m).1;have z1:(dP vj cs).length<aA:=aQ (rm ..) hz;have z2:(dP xh (dP vj cs)).length<=aA:=aq (rm ..) (cy z1);have n1:=ue (λx m=>(h x m).2) h0;obtain⟨r,nr,e1⟩:=Hg (l:=[]) (r:=none) H (abe (k:=k)) h (by rw[Cn,f5];exact hz);refine(⋯:_=ck (a9 O NN ig oN (jJ (a7 n ns vs) k (.own []) (.int (-1)) [] none none) [dN 2,dN 3,dN 4,dN 5,dN 6,dN 7,dN 8,dN 9])).trans (dC (bg (n:=999999) (K:=fU (aw O 999999 ig oN) ig (sT (dN 2)) (sB 0 (dN 2))) ⋯ ((show _=O.fn "combinations" [.list ((ax n).map λi:Nat=>.int i),.int k] [] by rfl').trans hc) (s9 e1)) ?_);clear e1;cases r with
 |none=>exact absurd (nr rfl).2 h0
 |some r=>
 obtain⟨c0,a0⟩:=r;generalize m7 1 vj ([]++cs)=d5;show ck (aS (aw O NN ig oN) [dN 3,dN 4,dN 5,dN 6,dN 7,dN 8,dN 9] (jJ (a7 n ns vs) k (.own ((dP vj cs).map eK)) d5 [] (some c0) (some a0)))=_;generalize dP vj cs=T at*;obtain⟨r,_,e2⟩:=Hg (l:=[]) (r:=none) H6 (adU (k:=k) (L:=T.map eK) (d5:=d5) (c0:=c0) (a0:=a0)) (λc m=>h' c (sub c m)) (by rw[Cn,f5];exact z1);refine(⋯:_=ck (a9 O NN ig oN (jJ (a7 n ns vs) k (.own (T.map eK)) d5 (rO (.own []) (.int (-1)) none []) (some c0) (some a0)) [dN 5,dN 6,dN 7,dN 8,dN 9])).trans (dC (tO (n:=999999) (K:=fU (aw O 999999 ig oN) ig (sT (dN 5)) (sB 0 (dN 5))) (p:=.list (T.map eK)) ⋯ ⋯ ⋯ ⋯ (s9 ((af (λσ=>dZ (aS (aw O 999999 ig oN) (sB 0 (dN 5))) ig (sT (dN 5)) (T.map eK) σ) ?_).trans e2))) ?_)
 ·cases T with
  |nil=>exact absurd rfl n1|cons d T=>exact(⋯:_=jJ (a7 n ns vs) k (.pv (.list ((d::T).map eK))) d5 (rO (if io [[]] [] ((d::T).map eK)=true then .pv (.list []) else .own []) (.int (-1)) none []) (some c0) (some a0)).trans (by rw[abg];rfl)
 generalize m7 6 xh ([]++T)=s;show ck (aS (aw O NN ig oN) [dN 6,dN 7,dN 8,dN 9] (jJ (a7 n ns vs) k (.pv (.list (T.map eK))) d5 (rO (.own ((dP xh T).map eK)) s (r.map oz) []) (some ((r.map wP).getD c0)) (some a0)))=_;have ahH:∀c∈dP xh T,c∈cs:=λc m=>sub c (eI m).1;generalize dP xh T=F at*;refine dC (tO (n:=999999) (K:=bH ig "committees" false) (p:=.list (F.map PV.set)) ⋯ (by cases r<;>rfl') ((show _=c7 O 999998 (sE (dN 6)) [("profile",a7 n ns vs)] (F.map eK) by cases r<;>rfl').trans (nJ ⋯ (λc m=>(show _=(((O.attr bv "num_cand" (a7 n ns vs)).bind λv=>some [(("num_cand":Str),v)]).bind λks=>O.fn "CandidateSet" [eK c] ks).map λx=>[x] by rfl').trans ?_) z2)) (by cases r<;>rfl') (show _=nx (jJ (a7 n ns vs) k (.pv (.list (T.map eK))) d5 (rO (.qj (cf [F.map eK] [] (.list (F.map PV.set))) (F.map eK)) s (r.map oz) [("committees",.pv (.list (F.map PV.set)))]) (some ((r.map wP).getD c0)) (some a0)) by cases r<;>rfl')) ?_
 ·rw[ha];exact af (eP _) (hs c (ahH c m))
 cases cf [F.map eK] [] (.list (F.map PV.set))<;>cases r<;>rfl'
end
end
section
variable{α:Type}{n D:Nat}{f:Nat->α}{O:aK}{id:Str}
section
noncomputable def dQ{α:Type}(n:Nat)(f:Nat->α):List α:=(ax n).map f
noncomputable def gx{α:Type}(f:Nat->α)(i:Nat)(v:α)(c:Nat):α:=if c=i then v else f c
section
variable{i:Nat}{h:Nat->PV}{v:PV}{nm:aN}{mu:List Str}{σ:ar}{st:aH}{x:Str}{op:ia}{l l':List PV}{k a w p:PV}{r:aZ}
theorem tZ:(dQ n f).length=n:=(bi _).trans cF
theorem DM(q:i<n):(dQ n f)[i]?=some (f i):=oy.trans (af (eP f) (agS q))
theorem HU{m:Nat}(q:i<m):wI (i:Int) m=some i:=(⋯:_=if decide ((i:Int)<m)=true then some i else none).trans (iP (dT (ji q)))
theorem DJ(q:i<n):bP (.list (dQ n h)) (.int i)=some (h i):=aG (K:=λj=>(dQ n h)[j]?) ((af _ tZ).trans (HU q)) (DM q)
theorem YJ(q:i<n){w:α}:(dQ n f).set i w=dQ n (gx f i w):=by
 refine List.ext_getElem? λj=>?_;rw[List.getElem?_set,tZ];by_cases e:i=j
 ·subst e;rw[iP rfl,iP q,DM q];exact af some (iP rfl).symm
 ·rw[iN e];by_cases hj:j<n
  ·rw[DM hj,DM hj];exact af some (iN λk=>e k.symm).symm
  ·rw[zc (aq (aD tZ) (cZ hj)),zc (aq (aD tZ) (cZ hj))]
theorem GY(q:i<n):jX (dQ n h) (.int i) v=some (dQ n (gx h i v)):=(iP ⟨fP i,ji (tZ.symm▸q)⟩).trans (af some (YJ q))
theorem abk{v:α}:∀n,(kt n [v]).flatten=dQ n λ_=>v:=λn=>by
 refine .trans ?_ ((List.map_const ..).trans (af (λn=>kt n v) cF)).symm;induction n with
 |zero=>rfl|succ n ih=>exact af (v:: ·) ih
theorem Jr(hn:n<=100):fT O .Mult (.list [v]) (.int n)=some (.list (dQ n λ_=>v)):=(⋯:_=if(0:Int)<=n/\(n:Int)<=100/\[v].length<=100 then some (PV.list (kt n [v]).flatten) else none).trans ((iP ⟨fP n,oW hn,(by decide:1<=100)⟩).trans (af (λl=>some (PV.list l)) (abk n)))
theorem Hk(hs:aw O (n+1) nm mu σ st=(bP (.list l) k).bind λa=>(bX (cI O n nm) σ (sE st)).bind λq=>(uB O op a q.1).bind λp=>(gB q.2 x).bind λl=>(jX l k p).bind λl'=>eB (putN nm x (.own l') q.2))(ha:bP (.list l) k=some a)(he:cI O n nm (fJ σ) (sE st)=some w)(hr:uB O op a w=some p)(hw:gB σ x=some l)(hp:jX l k p=some l')(hk:eB (putN nm x (.own l') σ)=r):aw O (n+1) nm mu σ st=r:=hs.trans (aG ha (aG (vD he) (aG hr (aG hw (aG hp hk)))))
end
noncomputable def aC(l:List Nat):List PV:=l.map λn:Nat=>PV.int n
def f8:aN:=zM.scope.names
def ik(i:Nat):aH:=aJ zM.body i
def A7:aH:=aJ (sB 0 (ik 1)) 1
def gq(D:Nat)(id:Str)(p:PV)(C:List Nat)(n:Nat)(g:Nat->Int)(r:ar):ar:=("marginal_scorefct",.pv (fX id))::("profile",.pv p)::("committee",.pv (.list (aC C)))::("marginal",.own (dQ n λc=>fq D (g c)))::r
noncomputable def jR(y:Option PV)(q:PV×Nat):ar:=("voter",.pv q.1)::("intersectionsize",.pv (.int q.2))::y.elim [] λy=>[("cand",.pv y)]
noncomputable def qt:List Str:=["marginal"]
noncomputable def xk(l:List Nat)(x:Int)(g:Nat->Int)(c:Nat):Int:=if c∈l then g c+x else g c
theorem ae7{i:Nat}{l:List Nat}{x:Int}{g:Nat->Int}(h:i∉l):xk l x (gx g i (g i+x))=xk (i::l) x g:=by
 funext c;unfold xk gx;by_cases e:c=i
 ·subst e;rw[iN h,iP rfl,iP (.head _)]
 ·rw[iN e,ite_congr (propext (jO.trans (or_iff_right e))) (λ_=>rfl) λ_=>rfl]
theorem Ob{D n i:Nat}{g:Nat->Int}{z:Int}:dQ n (gx (λc=>fq D (g c)) i (fq D z))=dQ n λc=>fq D (gx g i z c):=af (dQ n) (funext λc=>(apply_ite (fq D) ..).symm)
variable{S:Nat->Int}{j:Nat}{p:PV}{C l:List Nat}{g:Nat->Int}{q:List Nat×Nat}{y:Option PV}
theorem abE{i:Nat}(H:iM O id S D)(hj:j<4)(hi:i<n):aw O 999998 f8 qt (gq D id p C n g (jR (some (.int i)) (bq q,j))) (aJ (sB 0 A7) 0)=nx (gq D id p C n (gx g i (g i+(S (j+1) -S j)*q.2)) (jR (some (.int i)) (bq q,j))):=
 Hk (n:=999997) (x:="marginal") (op:=.Add) (k:=.int i) ⋯ (DJ (h:=λc=>fq D (g c)) hi) ((show _=(O.bM ql "__call__" [fX id,.int (j+1:Nat)] []).bind λa=>fT O .Mult a (.int q.2) by rfl').trans (aG (H.val j hj) (H.mul (H.num j hj)))) H.add ⋯ ((GY hi).trans (af some Ob)) ⋯
theorem Xu(H:iM O id S D)(hj:j<4):∀{l:List Nat} {g:Nat->Int} {y:Option PV},l.Nodup->(∀i∈l,i<n)->∃y',dZ (aS (aw O 999998 f8 qt) (sB 0 A7)) f8 (sT A7) (aC l) (gq D id p C n g (jR y (bq q,j)))=nx (gq D id p C n (xk l ((S (j+1) -S j)*q.2) g) (jR y' (bq q,j))):=by
 intro l;induction l with
 |nil=>exact λ{g y} _ _=>⟨y,rfl⟩
 |cons i l ih=>
  intro g y hd hi;have hd:=iW hd;obtain⟨y',e⟩:=ih (g:=gx g i (g i+(S (j+1) -S j)*q.2)) (y:=some (.int i)) hd.2 λx m=>hi x (.tail _ m);rw[ae7 hd.1] at e;exact⟨y',iz (σ₁:=gq D id p C n g (jR (some (.int i)) (bq q,j))) (by cases y<;>rfl') (aF (abE H hj (hi i (.head _))) rfl) e⟩
noncomputable def l5(C A:List Nat):Nat:=(A.filter λx=>C.contains x).length
structure BY(C:List Nat)(n:Nat)(q:List Nat×Nat):Prop where
 l5:l5 C q.1<4
 nd:q.1.Nodup
 lt:∀i∈q.1,i<n
theorem X4{C:List Nat}:qd (aC C)=some (C.map λn:Nat=>(n:Int)):=by
 induction C with
 |nil=>rfl|cons c C ih=>exact qY.trans (af (λr:Option (List Int)=>r.bind λl=>some ((c:Int)::l)) ih)
theorem Y5{x:Nat}:(C.map λn:Nat=>(n:Int)).contains (x:Int)=C.contains x:=by
 rw[FK,kz,kz,rn];exact⟨λ⟨y,m,e⟩=>FW e▸m,λm=>⟨x,m,rfl⟩⟩
def ux(S:Nat->Int)(C:List Nat)(q:List Nat×Nat)(c:Nat):Int:=if c∈q.1 then(S (l5 C q.1+1) -S (l5 C q.1))*q.2 else 0
theorem WM{x:Option (PV×Nat)}(H:iM O id S D)(h:BY C n q):a9 O 999999 f8 qt (gq D id p C n g (x.elim [("voter",.pv (bq q))] λx=>jR none (bq q,x.2))) (sB 0 (ik 1))=nx (gq D id p C n (λc=>g c+ux S C q c) (jR none (bq q,l5 C q.1))):=by
 refine aF (bg (n:=999998) (K:=bH f8 "intersectionsize" false) ⋯ ((show _=(((qd (aC C)).map λdW=>PV.set (q.1.filter λx=>dW.contains (x:Int))).bind λv=>some [v]).bind λvs=>nj O "len" vs [] by cases x<;>rfl').trans (aG (aG (af (eP _) X4) rfl) rfl)) ((af (λh=>bH f8 "intersectionsize" false (PV.int ((q.1.filter h).length:Nat),gq D id p C n g (x.elim [("voter",.pv (bq q))] λx=>jR none (bq q,x.2)))) (funext λ_=>Y5)).trans (show _=nx (gq D id p C n g (jR none (bq q,l5 C q.1))) by cases x<;>rfl'))) (aF (bg (n:=999998) (K:=fU (aw O 999998 f8 qt) f8 (sT A7) (sB 0 A7)) (p:=.set q.1) ⋯ ⋯ (Io λl' hp=>?_)) rfl)
 ·obtain⟨y,e⟩:=Xu (p:=p) (C:=C) (q:=q) (g:=g) (y:=none) H h.l5 (hp.nodup_iff.mpr h.nd) λi m=>h.lt i (hp.mem_iff.mp m);refine⟨_,e,?_⟩;rw[show xk l' ((S (l5 C q.1+1) -S (l5 C q.1))*q.2) g=λc=>g c+ux S C q c from funext λc=>by
   unfold xk ux;by_cases k:c∈q.1
   ·rw[iP k,iP (hp.mem_iff.mpr k)]
   ·rw[iN k,iN λm=>k (hp.mem_iff.mp m),uS]]
  cases y<;>rfl'
def jA(S:Nat->Int)(C:List Nat)(c:Nat):List (List Nat×Nat)->Int
 |[]=>0|q::vs=>ux S C q c+jA S C c vs
theorem ada(H:iM O id S D):∀{vs:List (List Nat×Nat)} {g:Nat->Int} {x:Option (PV×Nat)},(∀q∈vs,BY C n q)->∃x':Option (PV×Nat),dZ (aS (aw O 999999 f8 qt) (sB 0 (ik 1))) f8 (sT (ik 1)) (vs.map bq) (gq D id p C n g (x.elim [] (jR none)))=nx (gq D id p C n (λc=>g c+jA S C c vs) (x'.elim [] (jR none))):=by
 intro vs;induction vs with
 |nil=>exact λ{g x} _=>⟨x,af (λg=>nx (gq D id p C n g (x.elim [] (jR none)))) (funext λc=>(uS (g c)).symm)⟩
 |cons q vs ih=>
  intro g x h;obtain⟨x',e⟩:=ih (g:=λc=>g c+ux S C q c) (x:=some (bq q,l5 C q.1)) λq m=>h q (.tail _ m);exact⟨x',iz (σ₁:=gq D id p C n g (x.elim [("voter",.pv (bq q))] λx=>jR none (bq q,x.2))) (by cases x<;>rfl') (WM H (h q (.head _))) (e.trans (af (λg=>nx (gq D id p C n g (x'.elim [] (jR none)))) (funext λc=>mQ ..)))⟩
noncomputable def im(D:Nat)(C:List Nat)(g:Nat->Int)(c:Nat):Int:=if c∈C then-1*D else g c
theorem Ζ{i:Nat}:im D l (gx g i (-1*D))=im D (i::l) g:=by
 funext c;unfold im gx;by_cases m:c∈l
 ·rw[iP m,iP (.tail _ m)]
 ·rw[iN m,ite_congr (propext (jO.trans (or_iff_left m))).symm (λ_=>rfl) λ_=>rfl]
def v8(x:Option (PV×Nat))(y:Option PV):ar:=x.elim (y.elim [] λy=>[("cand",.pv y)]) (jR y)
theorem U8(H:fV O D){x:Option (PV×Nat)}:∀{l:List Nat} {g:Nat->Int} {y:Option PV},(∀i∈l,i<n)->∃y',dZ (aS (aw O 999999 f8 qt) (sB 0 (ik 2))) f8 (sT (ik 2)) (aC l) (gq D id p C n g (v8 x y))=nx (gq D id p C n (im D l g) (v8 x y')):=by
 intro l;induction l with
 |nil=>exact λ{g y} _=>⟨y,af (λg=>nx (gq D id p C n g (v8 x y))) (funext λc=>(iN eX).symm)⟩
 |cons i l ih=>
  intro g y hi;obtain⟨y',e⟩:=ih (g:=gx g i (-1*D)) (y:=some (.int i)) λx m=>hi x (.tail _ m);rw[Ζ] at e;refine⟨y',iz (σ₁:=gq D id p C n g (v8 x (some (.int i)))) (by cases x<;>cases y<;>rfl') (aF (st:=aJ (sB 0 (ik 2)) 0) ((show _=(bX (cI O 999998 f8) (gq D id p C n g (v8 x (some (.int i)))) (sE (aJ (sB 0 (ik 2)) 0))).bind λq=>(gB q.2 "marginal").bind λl=>(cI O 999998 f8 (bA q.2) (bR 1 (sT (aJ (sB 0 (ik 2)) 0)))).bind λk=>(jX l k q.1).bind λl'=>eB (putN f8 "marginal" (.own l') q.2) by rfl').trans (aG (vD ((show _=O.fn "Fraction" [.int (-1)] [] by cases x<;>rfl').trans H.one)) (aG (a:=dQ n λc=>fq D (g c)) ⋯ (aG (a:=.int i) (by cases x<;>rfl') (aG ((GY (hi i (.head _))).trans (af some Ob)) (show _=nx (gq D id p C n (gx g i (-1*D)) (v8 x (some (.int i)))) by cases x<;>rfl')))))) rfl) e⟩
theorem ads(H:iM O id S D){ns:PV}{vs:List (List Nat×Nat)}(ha:O.attr bv "num_cand" (a7 n ns vs)=some (.int n))(hn:n<=100)(hv:∀q∈vs,BY C n q)(hi:∀i∈C,i<n):
  bm O NN zM [fX id,a7 n ns vs,.list (aC C)] []=some (.list (dQ n λc=>fq D (im D C (jA S C · vs) c))):=by
 obtain⟨x,e1⟩:=ada (p:=a7 n ns vs) (g:=λ_=>0) (x:=none) H hv;obtain⟨y,e2⟩:=U8 (id:=id) (p:=a7 n ns vs) (C:=C) (g:=λc=>0+jA S C c vs) (x:=x) (y:=none) H.tofV hi;refine(⋯:_=ck (a9 O NN f8 qt [("marginal_scorefct",.pv (fX id)),("profile",.pv (a7 n ns vs)),("committee",.pv (.list (aC C)))] [ik 0,ik 1,ik 2,ik 3])).trans (dC (bg (n:=999999) (K:=bH f8 "marginal" true) (p:=.list (dQ n λ_=>fq D 0)) ⋯ ?_ (show _=nx (gq D id (a7 n ns vs) C n (λ_=>0) []) by rfl')) (dC (bg (n:=999999) (K:=fU (aw O 999999 f8 qt) f8 (sT (ik 1)) (sB 0 (ik 1))) (p:=a7 n ns vs) ⋯ ⋯ (Mt ⋯ e1)) (dC (bg (n:=999999) (K:=fU (aw O 999999 f8 qt) f8 (sT (ik 2)) (sB 0 (ik 2))) (p:=.list (aC C)) ⋯ (by cases x<;>rfl') (s9 ((af (dZ (aS (aw O 999999 f8 qt) (sB 0 (ik 2))) f8 (sT (ik 2)) (aC C)) (show _=gq D id (a7 n ns vs) C n (λc=>0+jA S C c vs) (v8 x none) by cases x<;>rfl')).trans e2))) ?_)))
 ·refine(show _=(((O.fn "Fraction" [.int 0] []).bind λv=>some [v]).bind (oJ .list)).bind λa=>(O.attr bv "num_cand" (a7 n ns vs)).bind λb=>fT O .Mult a b by rfl').trans (aG (a:=.list [fq D (0*D)]) (aG (aG H.one rfl) rfl) (aG ha ((Jr hn).trans ?_)));rw[yS]
 ·rw[show(λc=>fq D (im D C (jA S C · vs) c))=λc=>fq D (im D C (λc=>0+jA S C c vs) c) from af (λg c=>fq D (im D C g c)) (funext λc=>(Gb _).symm)];cases x<;>cases y<;>rfl'
end
def vt:aN:=Ae.scope.names
def wt(i:Nat):aH:=aJ Ae.body i
noncomputable def sS(l:List PV)(s:PV)(v:Option PV):ar:=("values",.pv (.list l))::("result",.pv s)::v.elim [] λv=>[("value",.pv v)]
section
variable{L:List PV}{s:Int}
def iC(D:Nat)(l:List Int):List PV:=l.map (fq D)
theorem R8{v:Option PV}{a:Int}{p q:PV}(h:O.bin .Add (fq D a) p=some q):a9 O 999999 vt [] (sS L p (some (fq D a))) (sB 0 (wt 1))=nx (sS L q (some (fq D a))):=aF (bg (n:=999998) (K:=bH vt "result" false) ⋯ ((⋯:_=O.bin .Add (fq D a) p).trans h) (⋯:_=nx (sS L q (some (fq D a))))) rfl
theorem Vv(H:fV O D):∀{l:List Int} {s:Int} {v:Option PV},∃v',dZ (aS (aw O 999999 vt []) (sB 0 (wt 1))) vt (sT (wt 1)) (iC D l) (sS L (fq D s) v)=nx (sS L (fq D (s+l.sum)) v'):=by
 intro l;induction l with
 |nil=>exact λ{s v}=>⟨v,af (λs=>nx (sS L (fq D s) v)) (uS s).symm⟩
 |cons a l ih=>
  intro s v;obtain⟨v',e⟩:=ih (s:=a+s) (v:=some (fq D a));rw[u7 a,mQ] at e;exact⟨v',iz (σ₁:=sS L (fq D s) (some (fq D a))) (by cases v<;>rfl') (R8 (v:=v) (u7 s a▸H.add)) e⟩
theorem Z3{a:Int}{l:List Int}(H:fV O D):bm O NN Ae [.list (iC D (a::l))] []=some (fq D (a::l).sum):=by
 obtain⟨v,e⟩:=Vv (L:=iC D (a::l)) (l:=l) (s:=a) (v:=some (fq D a)) H;exact(⋯:_=ck (a9 O NN vt [] (sS (iC D (a::l)) (.int 0) none) [wt 1,wt 2])).trans (dC (bg (n:=999999) (K:=fU (aw O 999999 vt []) vt (sT (wt 1)) (sB 0 (wt 1))) ⋯ (⋯:_=some (PV.list (iC D (a::l)))) (s9 (iz (σ₁:=sS (iC D (a::l)) (.int 0) (some (fq D a))) ⋯ (R8 (v:=none) H.Vr) e))) (by cases v<;>rfl'))
theorem tg{β:Type}(K:List PV->Option β):over (.d8 0 n) K=K (aC (ax n)):=by
 show K ((ax ((n:Int) -0).toNat).map λk:Nat=>PV.int (0+k))=_;rw[Kt];exact af K (pV λk _=>af PV.int (Gb _))
theorem An{X:ar->aH->aZ}{b:List aH}{nm:aN}{t:Expr}{σ σ':ar}(h:dZ (aS X b) nm t (aC (ax n)) σ=nx σ'):fU X nm t b (.d8 0 n,σ)=nx σ':=(tg _).trans (aG (K:=kK t (.d8 0 n)) h rfl)
theorem nE(h:n<=aA):f9 0 n=some (.d8 0 n):=iP ⟨by decide,aQ h (by decide),(Kt _).symm▸oW h⟩
theorem afG{β:Type}{g:β->Int}(H:fV O D):∀{l:List β} {a:Int},wz (xl O) (fq D a) (l.map λc=>fq D (g c))=some (fq D (tj g a l)):=by
 intro l;induction l with
 |nil=>exact rfl
 |cons c l ih=>
  intro a;refine aG H.gt ?_;show(if decide (a<g c)=true then _ else _)=some (fq D (tj g (max a (g c)) l));by_cases q:a<g c
  ·rw[iP (dT q),TO (mJ q)];exact ih
  ·rw[iN (ne_true_of_eq_false (dF q)),TP (jB q)];exact ih
def top(n:Nat)(g:Nat->Int):Int:=tj g (g 0) (ax n)
theorem N5{g:Nat->Int}(H:fV O D)(h:0<n):uy O (dQ n λc=>fq D (g c))=some (fq D (top n g)):=by
 obtain⟨m,rfl⟩:=u6 (fO h);unfold top dQ;rw[yL];exact(afG H).trans (af (λa=>some (fq D (tj g a ((ax m).map jq)))) (Int.max_self _).symm)
theorem QV{g:Nat->Int}(h:0<n):(∃c,c<n/\g c=top n g)/\∀c,c<n->g c<=top n g:=
 ⟨GK.elim (λe=>⟨0,h,e.symm⟩) λ⟨c,m,e⟩=>⟨c,eG m,e⟩,λc m=>sU.2 c (dL m)⟩
end
section
def lh:aN:=Ag.scope.names
def nL(i:Nat):aH:=aJ Ag.body i
def qE(i:Nat):aH:=aJ (sB 0 (nL 3)) i
noncomputable def AB:List Str:=["next_cand","tied_cands","delta_score"]
def jd(id:Str)(p:PV)(k:Nat)(A:AV)(c:Nat)(r:ar):ar:=("scorefct_id",.pv (.str id))::("profile",.pv p)::("committeesize",.pv (.int k))::("committee",A)::("marginal_scorefct",.pv (fX id))::("detailed_info",.dl AB c)::r
noncomputable def jV(i:PV)(a b c:Option PV):ar:=("_",.pv i)::a.elim [] λa=>("additional_score_cand",.pv a)::b.elim [] λb=>("tied_cands",.pv b)::c.elim [] λc=>[("next_cand",.pv c)]
abbrev IE:Type:=Option (PV×PV×PV×PV)
noncomputable def A3:List Str:=["committee"]
def Ba(n:Nat)(g:Nat->Int):List Nat:=(ax n).filter λc=>decide (g c=top n g)
abbrev vq(D n:Nat)(g:Nat->Int):List PV:=dQ n λc=>fq D (g c)
variable{k c:Nat}{p i:PV}{C:List Nat}{g:Nat->Int}{r:IE}
theorem Ek{t:Nat}:aC C++[.int t]=aC (C++[t]):=(mR (l₁:=C) (l₂:=[t])).symm
theorem HO{q:PV}{l:List PV}:bP (.list (q::l)) (.int 0)=some q:=aG (K:=λj=>(q::l)[j]?) (HU (i:=0) (eE _)) rfl
theorem acZ(hn:0<n):cf [aC C] [] (.list (vq D n g))=false:=by
 have s:∀l:List Nat,io [aC C] [] (l.map λc=>fq D (g c))=false:=λl=>by
  induction l with
  |nil=>rfl|cons=>assumption
 obtain⟨m,rfl⟩:=u6 (fO hn);show(([aC C].any λm'=>nM m' (vq D (m+1) g))||io [aC C] [] (vq D (m+1) g))=false;unfold vq dQ;rw[s,yL];cases C<;>rfl
theorem Λ{x:Nat}(H:fV O D)(hx:x<n):((((bP (.list (vq D n g)) (.int x)).bind λa=>(uy O (vq D n g)).bind λm=>fb O .Eq a m).bind λb=>if b=false then some false else some true).bind λok=>if ok=true then some [PV.int x] else some [])=some (if decide (g x=top n g)=true then[PV.int x] else[]):=by
 rw[show((bP (.list (vq D n g)) (.int x)).bind λa=>(uy O (vq D n g)).bind λm=>fb O .Eq a m)=some (decide (g x=top n g)) from aG (DJ (h:=λc=>fq D (g c)) hx) (aG (N5 H (aQ (cu _) hx)) H.eq)];cases decide (g x=top n g)<;>rfl
theorem w_(hn:0<n):dY (.list (vq D n g)) (jd id p k (.own (aC C)) c (jV i (r.map (·.2.1)) (r.map (·.2.2.1)) (r.map (·.2.2.2))))=jd id p k (.own (aC C)) c (jV i (r.map (·.2.1)) (r.map (·.2.2.1)) (r.map (·.2.2.2))):=by
 refine y5 (b:=jd id p k (if cf [aC C] [] (.list (vq D n g))=true then .pv (.list (aC C)) else .own (aC C)) c (jV i (r.map (·.2.1)) (r.map (·.2.2.1)) (r.map (·.2.2.2)))) (by cases r<;>rfl') ?_;rw[acZ hn];rfl
theorem abL(H:fV O D)(hz:n<=aA)(hn:0<n)(hc:c+3<aA)(hC:C.length<aA)(h:O.fn "marginal_thiele_scores_add" [fX id,p,.list (aC C)] []=some (.list (vq D n g))):∃t,t<n/\g t=top n g/\aS (aw O 999999 lh A3) (sB 0 (nL 3)) (jd id p k (.own (aC C)) c (jV i (r.map (·.2.1)) (r.map (·.2.2.1)) (r.map (·.2.2.2))))=nx (jd id p k (.own (aC (C++[t]))) (c+3) (jV i (some (.list (vq D n g))) (some (.list (aC (Ba n g)))) (some (.int t)))):=by
 obtain⟨⟨t0,ht0,e0⟩,_⟩:=QV (g:=g) hn;have mt {t:Nat} (m:t∈Ba n g):t<n/\g t=top n g:=(eI m).imp eG cC;have s1:c7 O 999997 (sE (qE 1)) [("additional_score_cand",.list (vq D n g))] (aC (ax n))=some (.list (aC (Ba n g))):=vQ (ok:=λc=>decide (g c=top n g)) (v:=λc:Nat=>.int c) (w:=λc:Nat=>.int c) ⋯ (λx m=>(show _=(((bP (.list (vq D n g)) (.int x)).bind λa=>(uy O (vq D n g)).bind λm=>fb O .Eq a m).bind λb=>if b=false then some false else some true).bind λok=>if ok=true then some [PV.int x] else some [] by rfl').trans (Λ H (eG m))) (aq (aD cF) hz);have mz:t0∈Ba n g:=pG ⟨dL ht0,dT e0⟩;generalize Ba n g=T at*;cases T with
 |nil=>exact absurd mz eX
 |cons t T=>
 refine⟨t,(mt (.head _)).1,(mt (.head _)).2,?_⟩;refine aF (st:=qE 0) (σ₁:=jd id p k (.own (aC C)) c (jV i (some (.list (vq D n g))) (r.map (·.2.2.1)) (r.map (·.2.2.2)))) (tO (n:=999998) (K:=bH lh "additional_score_cand" false) ⋯ (by cases r<;>rfl') ((show _=O.fn "marginal_thiele_scores_add" [fX id,p,.list (aC C)] [] by cases r<;>rfl').trans h) (by cases r<;>rfl') ?_) ?_
 ·refine(af (λσ=>bH lh "additional_score_cand" false (.list (vq D n g),σ)) (w_ hn)).trans ?_;cases r<;>rfl'
 refine aF (st:=qE 1) (σ₁:=jd id p k (.own (aC C)) c (jV i (some (.list (vq D n g))) (some (.list (aC (t::T)))) (r.map (·.2.2.2)))) (bg (n:=999998) (K:=bH lh "tied_cands" false) ⋯ ((show _=(f9 0 ((vq D n g).length:Nat)).bind λv=>over v (c7 O 999997 (sE (qE 1)) [("additional_score_cand",.list (vq D n g))]) by cases r<;>rfl').trans (aG ((af (λm:Nat=>f9 0 m) tZ).trans (nE hz)) ((tg _).trans s1))) (by cases r<;>rfl')) (aF (st:=qE 2) (σ₁:=jd id p k (.own (aC C)) c (jV i (some (.list (vq D n g))) (some (.list (aC (t::T)))) (some (.int t)))) (bg (n:=999998) (K:=bH lh "next_cand" false) (p:=.int t) ⋯ ((show _=bP (.list (aC (t::T))) (.int 0) by cases r<;>rfl').trans HO) (by cases r<;>rfl')) ?_);clear s1;generalize aC (t::T)=w;refine aF (st:=qE 3) (σ₁:=jd id p k (.own (aC (C++[t]))) c (jV i (some (.list (vq D n g))) (some (.list w)) (some (.int t)))) ((⋯:_=if(aC C).length<aA then nx (jd id p k (.own (aC C++[.int t])) c (jV i (some (.list (vq D n g))) (some (.list w)) (some (.int t)))) else none).trans ((iP (aQ (aD (bi _)) hC)).trans (af (λl=>nx (jd id p k (.own l) c (jV i (some (.list (vq D n g))) (some (.list w)) (some (.int t))))) Ek))) ?_;generalize aC (C++[t])=W;exact aF (st:=qE 4) ((⋯:_=if AB.contains "next_cand"=true/\c<aA then nx (jd id p k (.own W) (c+1) (jV i (some (.list (vq D n g))) (some (.list w)) (some (.int t)))) else none).trans (iP ⟨by decide,aQ (cW c 3) hc⟩)) (aF (st:=qE 5) ((⋯:_=if AB.contains "tied_cands"=true/\c+1<aA then nx (jd id p k (.own W) (c+2) (jV i (some (.list (vq D n g))) (some (.list w)) (some (.int t)))) else none).trans (iP ⟨by decide,aQ (i3 (by decide) c) hc⟩)) (aF (st:=qE 6) ((show _=if AB.contains "delta_score"=true/\c+2<aA then(bX (cI O 999998 lh) (jd id p k (.own W) (c+2) (jV i (some (.list (vq D n g))) (some (.list w)) (some (.int t)))) (bR 0 (sE (qE 6)))).bind λq=>eB (putN lh "detailed_info" (.dl AB (c+3)) q.2) else none by rfl').trans ((iP ⟨by decide,aQ (i3 (by decide) c) hc⟩).trans (aG (vD ((⋯:_=uy O (vq D n g)).trans (N5 H hn))) ⋯))) rfl))
structure ph(n:Nat)(C:List Nat):Prop where
 nd:C.Nodup
 lt:∀i∈C,i<n
theorem ph.snoc{t:Nat}(h:ph n C)(ht:t<n)(hC:t∉C):ph n (C++[t]):=
 ⟨w7.mpr ⟨h.nd,TK _ _,λa ma b mb e=>hC (by rw[cY mb] at e;exact e▸ma)⟩,λi m=>(lU m).elim (h.lt i) λm=>cY m▸ht⟩
theorem ph.len(h:ph n C):C.length<=n:=aq (h.nd.length_le_of_subset λx m=>dL (h.lt x m)) (aD cF)
structure IM(O:aK)(D n:Nat)(id:Str)(p:PV)(m:List Nat->Nat->Int):Prop where
 fn:∀{C:List Nat},ph n C->O.fn "marginal_thiele_scores_add" [fX id,p,.list (aC C)] []=some (.list (vq D n (im D C (m C))))
 pos:∀{C:List Nat} {c:Nat},ph n C->0<=m C c
variable{m:List Nat->Nat->Int}
theorem Vi(hD:0<D)(hg:∀c,0<=g c)(hC:ph n C)(hl:C.length<n){t:Nat}(e:im D C g t=top n (im D C g)):t∉C:=λm=>by
 obtain⟨c,hc,nc⟩:∃c,c<n/\c∉C:=zj λh=>gK (aq (aD cF.symm) (vc.length_le_of_subset λc m=>zj λq=>h ⟨c,eG m,q⟩)) hl;have h:=(QV (g:=im D C g) (aQ (cu _) hl)).2 c hc;rw[<-e,show im D C g t= -1*D from iP m,show im D C g c=g c from iN nc] at h;exact ir (ic (hg c) h) (agQ (by decide) (zt.mpr hD))
def He(r:IE):ar:=r.elim [] λr=>jV r.1 (some r.2.1) (some r.2.2.1) (some r.2.2.2)
theorem Υ(H:fV O D)(hD:0<D)(hz:n<1000)(M:IM O D n id p m):∀{l C:List Nat} {c:Nat} {r:IE},ph n C->C.length+l.length<=n->c+3*l.length<aA->∃C' c' r',ph n C'/\C'.length=C.length+l.length/\dZ (aS (aw O 999999 lh A3) (sB 0 (nL 3))) lh (sT (nL 3)) (aC l) (jd id p k (.own (aC C)) c (He r))=nx (jd id p k (.own (aC C')) c' (He r')):=by
 intro l;induction l with
 |nil=>exact λ{C c r} hC _ _=>⟨C,c,r,hC,rfl,rfl⟩
 |cons i l ih=>
  intro C c r hC hl hc;have L8:C.length<n:=ba (qX (eE _)) hl;have jv:c+3+3*l.length<aA:=aQ (aD (by rw[fC,gj 3];rfl)) hc;obtain⟨t,ht,e,q⟩:=abL (k:=k) (c:=c) (r:=r) (i:=.int i) H (aq (cy hz) (by decide)) (aQ (cu _) L8) (aQ (cW _ _) jv) (eN L8 (eN hz (by decide))) (M.fn hC);have z:(C++[t]).length+l.length=C.length+(l.length+1):=by rw[da,fC,gj [t].length];rfl
  obtain⟨C',c',r',h1,h2,h3⟩:=ih (C:=C++[t]) (c:=c+3) (r:=some (.int i,_,_,.int t)) (hC.snoc ht (Vi hD (λ_=>M.pos hC) hC L8 e)) (aq (aD z) hl) jv;exact⟨C',c',r',h1,h2.trans z,iz (by cases r<;>rfl') q h3⟩
theorem af1(H:fV O D)(hD:0<D)(hz:n<1000)(M:IM O D n id p m)(hk:k<=n)(hg:O.fn "get_marginal_scorefct" [.str id,.int k] []=some (fX id)):
  ∃C,ph n C/\C.length=k/\∀v,O.fn "sorted_committees" [.list [.list (aC C)]] []=some v->bm O NN Ag [.str id,p,.int k] []=some (.tup [v,.any]):=by
 refine bE λgG hG=>?_;obtain⟨C,c,r,h1,h2,h3⟩:=Υ (k:=k) (l:=ax k) (C:=[]) (c:=0) (r:=none) H hD hz M ⟨.nil,λ_ m=>absurd m eX⟩ (aq (aD (by rw[cF];exact f5 k)) hk) (by rw[cF];exact aQ (aq (aD (f5 _)) (Kj 3 (aq hk (cy hz)))) (by decide));refine hG (⟨C,h1,h2.trans ((f5 _).trans cF),λv hs=>?_⟩);exact(⋯:_=ck (a9 O NN lh A3 [("scorefct_id",.pv (.str id)),("profile",.pv p),("committeesize",.pv (.int k)),("committee",.own [])] [nL 1,nL 2,nL 3,nL 4])).trans (dC (bg (n:=999999) (K:=bH lh "marginal_scorefct" false) ⋯ ((⋯:_=O.fn "get_marginal_scorefct" [.str id,.int k] []).trans hg) rfl) ((⋯:_=ck (a9 O NN lh A3 (jd id p k (.own (aC [])) 0 (He none)) [nL 3,nL 4])).trans (dC (bg (n:=999999) (K:=fU (aw O 999999 lh A3) lh (sT (nL 3)) (sB 0 (nL 3))) ⋯ ((⋯:_=f9 0 k).trans (nE (aq hk (aq (cy hz) (by decide))))) (An h3)) (af ck (rG (wl (n:=999999) ⋯ ((show _=((O.fn "sorted_committees" [.list [.list (aC C)]] []).bind λv=>some [v,.any]).bind (oJ .tup) by cases r<;>rfl').trans (aG (aG hs rfl) rfl))))))))
end
section
variable{l:List α}{i j:Nat}{nm:aN}
theorem PT{x:Int}{m:Nat}(e:wH l.length x=m):jH l (some x) none=l.drop m:=e▸zk (aD (FT ..))
theorem Ze(h:i<=l.length):jH l (some (i:Int)) none=l.drop i:=PT (clipAt_in (fP i) (oW h))
theorem Zl(h1:1<=j)(h:j<=l.length):jH l (some (-(j:Int))) none=l.drop (l.length-j):=PT (clipAt_neg _ _ h1)
theorem D_(h:i<=n):(dQ n f).drop i=(gW i (n-i)).map f:=by
 unfold dQ;rw[<-List.map_drop,yQ,List.drop_range',f5,TF]
theorem ac4{l:List Int}(H:fV O D)(hz:l.length<64):∃out:List Int,eD O nm (iC D l) []=some (.list (iC D out))/\out.Perm l/\out.Pairwise (· <=·):=by
 obtain⟨out,e,p,s⟩:=zY (O:=O) (nm:=nm) (v:=fq D) (le:=λa b=>decide (a<b)) (l:=l) (k:=4) rfl (λ_=>rfl) (λa _ b _=>H.lt) (λa _ b _ x=>dF (TQ (cC x))) (λa _ b _ c _ x y=>dF (ir (ic (jB (iO x)) (jB (iO y))))) hz;exact⟨out,e,p,s.imp λq=>jB (iO q)⟩
theorem Ο{l:List PV}{p:PV}:bP (.list (l++[p])) (.int (-1))=some p:=aG (a:=l.length) (by
 rw[da];refine(⋯:_=if(decide ((0:Int)<= -1+((l.length+1:Nat):Int))&&decide (-1+((l.length+1:Nat):Int)<((l.length+1:Nat):Int)))=true then some (-1+((l.length+1:Nat):Int)).toNat else none).trans ?_;rw[show-1+((l.length+1:Nat):Int)=(l.length:Nat) by lia,iP (by rw[dT (fP _),dT (ji (i5 _))];rfl)];rfl) agV
end
def lst(C:List Nat):PV:=.list (aC C)
def Em(O:aK)(nm:aN)(V:List PV)(i j:Int)(s:Option PV):Option PV:=((((eD O nm (jH V (some i) none) []).bind λa=>a.ii.map λl=>.list (jH l (some (-j)) none)).bind λv=>some [v]).bind λvs=>O.fn "total" vs []).bind λa=>s.bind λb=>fT O .Add a b
theorem Vw{O:aK}{D n i j:Nat}{nm:aN}{g:Nat->Int}{s:Option PV}{x:Int}(H:fV O D)(hi:i+j<=n)(hj:1<=j)(hn:n<64)(ht:∀{a:Int} {l:List Int},O.fn "total" [.list (iC D (a::l))] []=some (fq D (a::l).sum))(hs:s=some (fq D x)):
  ∃out:List Int,out.Perm ((gW i (n-i)).map g)/\out.Pairwise (· <=·)/\Em O nm (vq D n g) i j s=some (fq D ((out.drop (out.length-j)).sum+x)):=by
 have GA:i<=n:=aq (cW i j) hi;have hl:((gW i (n-i)).map g).length=n-i:=(bi _).trans K4;obtain⟨out,e,hp,so⟩:=ac4 (nm:=nm) H (l:=(gW i (n-i)).map g) (aQ (aq (aD hl) (kE ..)) hn);refine⟨out,hp,so,aG (a:=fq D (out.drop (out.length-j)).sum) (aG (a:=[.list (iC D (out.drop (out.length-j)))]) (aG (a:=.list (iC D (out.drop (out.length-j)))) (aG (a:=.list (iC D out)) ?_ ?_) rfl) ?_) (aG hs H.add)⟩
 ·rw[Ze (tZ.symm▸GA),D_ GA,<-e];unfold iC;rw[jt];rfl
 ·show some (PV.list (jH (iC D out) (some (-(j:Int))) none))=_;have lo:(iC D out).length=out.length:=bi _;rw[Zl hj (by rw[lo,hp.length_eq,hl];exact agW hi),lo];unfold iC;rw[List.map_drop]
 ·have LI:(out.drop (out.length-j)).length=j:=by rw[FT,TJ (by rw[hp.length_eq,hl];exact agW hi)]
  generalize out.drop (out.length-j)=w at*;cases w with
  |nil=>exact absurd LI (gE hj)|cons a l=>exact ht
end
section
variable{O:aK}{f:Nat}{T:List PV}{st best:List (List Nat)}{pc:List Nat}{bs M:Int}{sc:List Nat->Int}
section
def dh:aN:=As.scope.names
def fK(i:Nat):aH:=aJ As.body i
noncomputable def g9:List Str:=["best_committees","part_coms"]
def tN(i:Nat):aH:=aJ (sB 0 (fK 6)) i
def EE(i:Nat):aH:=aJ (sB 0 (tN 1)) i
def kj(i:Nat):aH:=aJ (sB 1 (tN 1)) i
structure BX where
 id:Str
 n:Nat
 ns:PV
 vs:List (List Nat×Nat)
 k:Nat
 S:PV
 D:Nat
def BX.p(X:BX):PV:=a7 X.n X.ns X.vs
def R7(X:BX)(B:AV)(s:Int)(T:AV)(r:ar):ar:=("scorefct_id",.pv (.str X.id))::("profile",.pv X.p)::("committeesize",.pv (.int X.k))::("resolute",.pv (.bool false))::("max_num_of_committees",.pv .none)::("marginal_scorefct",.pv (fX X.id))::("best_committees",B)::("init_com",.pv X.S)::("_",.pv .any)::("best_score",.pv (fq X.D s))::("part_coms",T)::r
def dz(X:BX)(B:List PV)(s:Int)(T:List PV)(r:ar):ar:=R7 X (.own B) s (.own T) r
abbrev ES:Type:=Option (PV×Option PV)
noncomputable def gN(pc:PV)(a b c d:Option PV)(y:ES):ar:=("part_com",.pv pc)::a.elim [] λa=>("largest_cand",.pv a)::b.elim [] λb=>("missing",.pv b)::c.elim [] λc=>("marg_util_cand",.pv c)::d.elim [] λd=>("upper_bound",.pv d)::y.elim [] λy=>("cand",.pv y.1)::y.2.elim [] λs=>[("score",.pv s)]
structure R5 where
 a:PV
 b:PV
 c:PV
 d:PV
 y:PV×Option PV
variable{X:BX}{i j m x:Nat}{a b c d:PV}{B:List PV}{u:Int}{r:Option R5}{y:ES}{w:Option PV}
noncomputable def low(pc:List Nat):Nat:=match pc.getLast? with
 |some x=>x+1|none=>0
theorem Bf:low (pc++[x])=x+1:=by unfold low;rw[List.getLast?_concat]
theorem VS:aw O (f+40) dh g9 (dz X B bs T (gN (lst pc) (r.map R5.a) (r.map R5.b) (r.map R5.c) (r.map R5.d) (r.map R5.y))) (kj 0)=nx (dz X B bs T (gN (lst pc) (some (.int ((low pc:Nat) -1))) (r.map R5.b) (r.map R5.c) (r.map R5.d) (r.map R5.y))):=by
 rcases agX pc with rfl|⟨q,x,e⟩
 ·cases r<;>rfl'
 ·rw[agY] at e;have ht:some (decide ((0:Int)<((aC pc).length:Nat)))=some true:=af some (dT (ji (by rw[e,<-Ek,da];exact eE _)));have hi:bP (lst pc) (.int (-1))=some (.int ((low pc:Nat) -1)):=by
   unfold lst;rw[e,<-Ek,Ο,Bf];exact af (λi=>some (PV.int i)) (Int.add_sub_cancel (x:Int) 1).symm
  clear e;refine cM (n:=f+39) (b:=true) ⋯ ((⋯:_=some (decide ((0:Int)<((aC pc).length:Nat)))).trans ht) (aF (st:=aJ (sB 0 (kj 0)) 0) (bg (n:=f+38) (K:=bH dh "largest_cand" false) ⋯ ((⋯:_=bP (lst pc) (.int (-1))).trans hi) ?_) rfl);cases r<;>rfl'
theorem Ϣ{t:Nat}(hz:T.length<aA)(hp:pc.length<aA):aw O (f+30) dh g9 (dz X B bs T (gN (lst pc) (some a) (some b) (some c) (some d) (some (.int t,w)))) (aJ (sB 0 (aJ (sB 0 (kj 4)) 0)) 0)=nx (dz X B bs (lst (pc++[t])::T) (gN (lst pc) (some a) (some b) (some c) (some d) (some (.int t,w)))):=
 (show _=if T.length<aA then(bX (cI O (f+29) dh) (dz X B bs T (gN (lst pc) (some a) (some b) (some c) (some d) (some (.int t,w)))) (bR 1 (sE (aJ (sB 0 (aJ (sB 0 (kj 4)) 0)) 0)))).bind λq=>(gB q.2 "part_coms").bind λl=>eB (putN dh "part_coms" (.own (q.1::l)) q.2) else none by rfl').trans ((iP hz).trans (aG (vD ((⋯:_=if(aC pc).length+1<=aA then some (PV.list (aC pc++[.int t])) else none).trans ((iP (aq (aD (af jq (bi _))) hp)).trans (af (λl=>some (PV.list l)) Ek)))) ⋯))
def Bc:aH:=aJ (sB 0 (kj 4)) 0
noncomputable def qx(pc:List Nat)(l:List Nat)(st:List (List Nat)):List (List Nat):=l.foldl (λst t=>(pc++[t])::st) st
theorem acO(hp:pc.length<aA):∀{l:List Nat} {st:List (List Nat)} {y:ES},st.length+l.length<aA->∃y':ES,(y'=none->y=none/\l=[])/\dZ (aS (aw O (f+30) dh g9) (sB 0 Bc)) dh (sT Bc) (aC l) (dz X B bs (st.map lst) (gN (lst pc) (some a) (some b) (some c) (some d) y))=nx (dz X B bs ((qx pc l st).map lst) (gN (lst pc) (some a) (some b) (some c) (some d) y')):=by
 intro l;induction l with
 |nil=>exact λ{st y} _=>⟨y,λe=>⟨e,rfl⟩,rfl⟩
 |cons t l ih=>
  intro st y hz;obtain⟨y',h1,h2⟩:=ih (st:=(pc++[t])::st) (y:=some (.int t,y.bind oz)) (aQ (aD (wM ..)) hz);exact⟨y',(λe=>sN ((h1 e).1)),iz (σ₁:=dz X B bs (st.map lst) (gN (lst pc) (some a) (some b) (some c) (some d) (some (.int t,y.bind oz)))) (by cases y<;>rfl') (aF (Ϣ (aQ (aq (aD (bi _)) (cW ..)) hz) hp) rfl) h2⟩
theorem acK{β:Type}(K:List PV->Option β):over (.d8 i (i+m:Nat)) K=K (aC (gW i m)):=by
 show K ((ax (((i+m:Nat):Int) -i).toNat).map λk:Nat=>PV.int (i+k))=_;rw[show(((i+m:Nat):Int) -i).toNat=m from af Int.toNat (a₂:=(m:Int)) ((af (λa:Nat=>(a:Int) -i) (gj i m)).trans (Int.add_sub_cancel (m:Int) i)),List.range'_eq_map_range];exact af K (jt (g:=λn:Nat=>PV.int n) (f:=λx=>i+x)).symm
theorem ZE(H:fV O X.D)(hn:O.attr bv "num_cand" X.p=some (.int X.n))(hp:pc.length<aA)(hi:i+m+j=X.n+1)(hz:st.length+(X.n+1)<aA):∃y':ES,(y'=none->y=none/\(¬bs<=u\/m=0))/\
  aw O (f+50) dh g9 (dz X B bs (st.map lst) (gN (lst pc) (some (.int ((i:Nat) -1))) (some (.int j)) (some c) (some (fq X.D u)) y)) (kj 4)=nx (dz X B bs ((if bs<=u then qx pc (gW i m) st else st).map lst) (gN (lst pc) (some (.int ((i:Nat) -1))) (some (.int j)) (some c) (some (fq X.D u)) y')):=by
 have run {r:aZ}:=cM (r:=r) (O:=O) (n:=f+49) (nm:=dh) (mu:=g9) (st:=kj 4) (σ:=dz X B bs (st.map lst) (gN (lst pc) (some (.int ((i:Nat) -1))) (some (.int j)) (some c) (some (fq X.D u)) y)) (b:=decide (bs<=u)) ⋯ ((⋯:_=O.cmp .GtE (fq X.D u) (fq X.D bs)).trans H.ge);by_cases q:bs<=u
 ·rw[dT q] at run;rw[iP q];obtain⟨y',h1,h2⟩:=acO (O:=O) (X:=X) (f:=f+18) (B:=B) (bs:=bs) (a:=.int ((i:Nat) -1)) (b:=.int j) (c:=c) (d:=fq X.D u) hp (l:=gW i m) (st:=st) (y:=y) (by rw[K4];exact aQ (i3 (aq (i7 ..) (TR hi)) _) hz);refine⟨y',λe=>⟨(h1 e).1,.inr (K4.symm.trans (af yO (h1 e).2))⟩,run (aF (st:=Bc) (bg (n:=f+48) (K:=fU (aw O (f+48) dh g9) dh (sT Bc) (sB 0 Bc)) (p:=.d8 i (i+m:Nat)) ⋯ ((show _=(((((O.attr bv "num_cand" X.p).bind λx=>fT O .Sub x (.int j)).bind λx=>fT O .Add x (.int 1)).bind λv=>some [v]).map λvs=>PV.int ((i:Nat) -1+1)::vs).bind λvs=>nj O "range" vs [] by rfl').trans ?_) ((acK _).trans (aG (K:=kK _ _) h2 rfl))) rfl)⟩;rw[hn];show f9 ((i:Int) -1+1) ((X.n:Int) -j+1)=_;rw[KX,show(X.n:Int) -j+1=(i+m:Nat) by lia];have z:X.n+1<aA:=aQ (i7 ..) hz;exact iP ⟨eN (aQ (aq (cW ..) (TR hi)) z) (by decide),eN (aQ (TR hi) z) (by decide),by lia⟩
 ·rw[dF q] at run;rw[iN q];exact⟨y,λe=>⟨e,.inl q⟩,run ⋯⟩
end
section
variable{n k:Nat}{stack:List (List Nat)}
noncomputable def yd(sc:List Nat->Int)(q:List (List Nat)×Int)(c:List Nat):List (List Nat)×Int:=if sc c=q.2 then(q.1++[c],q.2) else if q.2<sc c then([c],sc c) else q
noncomputable def cj(n:Nat):Nat->Nat->List (List Nat)
 |_,0=>[[]]|lo,j+1=>(gW lo (n-j-lo)).flatMap λc=>(cj n (c+1) j).map (c:: ·)
def dS(n k:Nat)(pc:List Nat):List (List Nat):=(cj n (low pc) (k-pc.length)).map (pc++ ·)
theorem NK(h:pc.length=k):dS n k pc=[pc]:=by
 unfold dS;rw[h,zf];show[pc++[]]=[pc];rw[gO]
def p7(n k:Nat)(pc:List Nat):List Nat:=gW (low pc) (n+1- (k-pc.length) -low pc)
theorem adY(h:pc.length<k):dS n k pc=(p7 n k pc).flatMap λc=>dS n k (pc++[c]):=by
 obtain⟨j,hj⟩:=u6 (fO (rh h));unfold dS p7;rw[hj,Tw];show((gW (low pc) (n-j-low pc)).flatMap λc=>(cj n (c+1) j).map (c:: ·)).map (pc++ ·)=_;rw[List.map_flatMap];refine af (λh=>List.flatMap h _) (funext λc=>?_);rw[Bf,da,show k- (pc.length+[c].length)=j from agZ hj,jt];exact pV λs _=>(kx pc [c] s).symm
theorem Rm{l:List Nat}:∀{stack:List (List Nat)},qx pc l stack=(l.map (pc++[·])).reverse++stack:=by
 induction l with
 |nil=>exact rfl
 |cons t l ih=>
  intro stack;show qx pc l ((pc++[t])::stack)=_;rw[ih,oB,List.reverse_cons,kx];rfl
theorem o_(h:pc.length<k):((qx pc (p7 n k pc) stack).flatMap (dS n k)).Perm ((pc::stack).flatMap (dS n k)):=by
 rw[Rm,List.flatMap_append,K0,adY h];refine List.Perm.append ?_ (.refl _);have:=List.Perm.flatMap_right (dS n k) (Gc ((p7 n k pc).map (pc++[·])));rwa[List.flatMap_map] at this
structure zG(n:Nat)(pc:List Nat):Prop where
 up:pc.Pairwise (· < ·)
 lt:∀i∈pc,i<n
structure rT(n k:Nat)(pc:List Nat):Prop where
 pj:zG n pc
 len:pc.length<=k
 room:low pc+(k-pc.length)<=n
theorem HZ{pc:List Nat}(h:pc.Pairwise (· < ·)):∀i∈pc,i<low pc:=λi m=>by
 rcases agX pc with rfl|⟨pc',x,e⟩
 ·exact absurd m eX
 ·rw[agY] at e;subst e;rw[Bf];rcases lU m with m|m
  ·exact KN ((Gq.mp h).2.2 i m x (.head _))
  ·rw[cY m];exact i5 x
theorem H2{α:Type}{a b c:List α}:(b++(a++c)).Perm (a++(b++c)):=((kx b a c).symm▸ .refl _:(b++(a++c)).Perm (b++a++c)).trans ((List.perm_append_comm.append_right c).trans (kx a b c▸ .refl _))
theorem rT.bR(R:rT n k pc)(h:pc.length<k){c:Nat}(m:c∈p7 n k pc):rT n k (pc++[c]):=by
 have hc:=Ud.mp m;have hr:=R.room;obtain⟨j,hj⟩:=u6 (fO (rh h));rw[hj] at hc hr;have hn:c<n-j:=ba hc.2 (aD (by rw[Tw,iK (K5 (lF hr))]));refine⟨⟨Gq.mpr ⟨R.pj.up,TK _ _,λa ma b mb=>?_⟩,λi mi=>?_⟩,by rw[da];exact h,?_⟩
 ·rw[cY mb];exact ba (HZ R.pj.up a ma) hc.1
 ·exact(lU mi).elim (R.pj.lt i) λmi=>cY mi▸ba hn (kE ..)
 ·rw[Bf,da,show k- (pc.length+[c].length)=j from agZ hj];exact TS (aq (i7 ..) (lF hr)) hn
structure BB(n k:Nat)(sc:List Nat->Int)(M:Int)(stack best:List (List Nat))(bs:Int):Prop where
 room:∀pc∈stack,rT n k pc
 BM:bs<=M
 val:∀c∈best,sc c=bs
 rest:∃rest,(best++(stack.flatMap (dS n k)++rest)).Perm (dS n k [])/\∀c∈rest,sc c<M
theorem BB.expand(B:BB n k sc M (pc::stack) best bs)(h:pc.length<k):BB n k sc M (qx pc (p7 n k pc) stack) best bs:=by
 obtain⟨rest,p,hr⟩:=B.rest;refine⟨λx m=>?_,B.BM,B.val,rest,(((o_ h).append_right rest).append_left best).trans p,hr⟩;rw[Rm] at m;refine(lU m).elim (λm=>?_) λm=>B.room x (.tail _ m);obtain⟨c,mc,rfl⟩:=rn.mp (T2.mp m);exact(B.room pc (.head _)).bR h mc
theorem BB.drop(B:BB n k sc M (pc::stack) best bs)(h:∀c∈dS n k pc,sc c<M):BB n k sc M stack best bs:=by
 obtain⟨rest,p,hr⟩:=B.rest;rw[K0,kx] at p;exact⟨λx m=>B.room x (.tail _ m),B.BM,B.val,dS n k pc++rest,(H2.append_left best).trans p,λc m=>(lU m).elim (h c) (hr c)⟩
theorem BB.full(B:BB n k sc M (pc::stack) best bs)(h:pc.length=k)(hM:∀c∈dS n k [],sc c<=M):BB n k sc M stack (yd sc (best,bs) pc).1 (yd sc (best,bs) pc).2:=by
 have room:∀x∈stack,rT n k x:=λx m=>B.room x (.tail _ m);obtain⟨rest,p,hr⟩:=B.rest;rw[K0,NK h,kx] at p;unfold yd;by_cases e:sc pc=bs
 ·rw[iP e];exact⟨room,B.BM,λc m=>(lU m).elim (B.val c) λm=>cY m▸e,rest,(kx ..).symm▸p,hr⟩
 rw[iN e];by_cases l:bs<sc pc
 ·rw[iP l];have m:=hM pc (p.mem_iff.mp (fE _ (.head _)));exact⟨room,m,λc m=>cY m▸rfl,best++rest,(H2.append_left [pc]).trans (H2.trans p),λc mc=>(lU mc).elim (λmc=>B.val c mc▸lG l m) (hr c)⟩
 ·rw[iN l];exact B.drop λc m=>by
   rw[NK h] at m;rw[cY m];exact lG (Ue.mpr ⟨jB l,e⟩) B.BM
theorem abG(hk:k<=n)(hb:bs<=M):BB n k sc M [[]] [] bs:=
 ⟨λpc m=>cY m▸⟨⟨.nil,λ_ m=>absurd m eX⟩,cu _,aq (aD (f5 _)) hk⟩,hb,λ_ m=>absurd m eX,[],by rw[K6,gO,List.flatMap_singleton],λ_ m=>absurd m eX⟩
theorem WG(B:BB n k sc (mx sc (dS n k [])) [] best bs)(h0:∀c∈dS n k [],0<=sc c)(hx:dS n k []≠[]):best.Perm (dP sc (dS n k [])):=by
 obtain⟨rest,p,hr⟩:=B.rest;obtain⟨c,m,e⟩:=IQ h0 hx;have hb:bs=mx sc (dS n k []):=(lU (p.mem_iff.mpr m)).elim (λm=>(B.val c m).symm.trans e) λm=>absurd (hr c m) (e▸CD _);have p:(best++rest).Perm (dS n k []):=p;have q:=p.filter λc=>decide (sc c=mx sc (dS n k []));rw[pW,Go.mpr λc m=>dT ((B.val c m).trans hb),Gp.mpr λc m e=>Int.ne_of_lt (hr c m) (cC e),gO] at q;exact q
def turns(n:Nat):List (List Nat)->Nat
 |[]=>0|pc::r=>2^(n-low pc)+turns n r
theorem abI:∀{m lo:Nat} {stack:List (List Nat)},lo+m<=n->turns n (qx pc (gW lo m) stack)+2^(n-lo-m)<=2^(n-lo)+turns n stack:=by
 intro m;induction m with
 |zero=>exact λ{lo stack} _=>aD (gj ..)
 |succ m ih=>
  intro lo stack h;have h:lo+1+m<=n:=aq (aD (pS ..)) h;have:=ih (lo:=lo+1) (stack:=(pc++[lo])::stack) h;rw[show turns n ((pc++[lo])::stack)=2^(n- (lo+1))+turns n stack from af (λl=>2^(n-l)+turns n stack) Bf,<-fC,<-Nat.mul_two,<-Nat.pow_succ,F4,pS,show(n- (lo+1)).succ=n-lo from agJ (rh (ba (ba (i5 lo) (cW ..)) h))] at this;rw[F4];exact this
theorem VO{stack:List (List Nat)}:stack.length<=turns n stack:=by
 induction stack with
 |nil=>exact bf _|cons pc r ih=>exact aq (aD (gj ..)) (B8 (Gd (by decide)) ih)
end
section
structure EI(O:aK)(X:BX)(sc:List Nat->Int)(g:List Nat->Nat->Int):Prop extends fV O X.D where
 th:∀{C:List Nat},zG X.n C->C.length<=X.k->O.fn "thiele_score" [.str X.id,X.p,lst C] []=some (fq X.D (sc C))
 mt:∀{C:List Nat},zG X.n C->C.length<X.k->O.fn "marginal_thiele_scores_add" [fX X.id,X.p,lst C] []=some (.list (vq X.D X.n (g C)))
 ub:∀{C:List Nat} {out:List Int},rT X.n X.k C->C.length<X.k->out.Perm ((gW (low C) (X.n-low C)).map (g C))->out.Pairwise (· <=·)->∀c∈dS X.n X.k C,sc c<=(out.drop (out.length- (X.k-C.length))).sum+sc C
 Ru:∀{a:Int} {l:List Int},O.fn "total" [.list (iC X.D (a::l))] []=some (fq X.D (a::l).sum)
 nc:O.attr bv "num_cand" X.p=some (.int X.n)
 Dt:X.n<64
 kn:X.k<=X.n
variable{X:BX}{B:List PV}{r:Option R5}{y:ES}{g:List Nat->Nat->Int}
theorem Sk{R:ar}{b:Bool}(h:decide (pc.length=X.k)=b):fG O (f+30) dh (bA (dz X B bs (st.map lst) (("part_com",.pv (lst pc))::R))) (sE (tN 1))=some b:=(⋯:_=some (((aC pc).length:Int)==(X.k:Int))).trans (af some (by
 rw[<-h,show(aC pc).length=pc.length from bi _,FK,beq_iff_eq,decide_eq_true_iff];exact w0))
theorem W0{a b:PV}(h:PV.int ((X.k:Int) - ((aC pc).length:Nat))=b):aw O (f+30) dh g9 (dz X B bs (st.map lst) (gN (lst pc) (some a) (r.map R5.b) (r.map R5.c) (r.map R5.d) (r.map R5.y))) (kj 1)=nx (dz X B bs (st.map lst) (gN (lst pc) (some a) (some b) (r.map R5.c) (r.map R5.d) (r.map R5.y))):=by
 subst h;cases r<;>rfl'
theorem abr{a b c:PV}(h:O.fn "marginal_thiele_scores_add" [fX X.id,X.p,lst pc] []=some c):aw O (f+30) dh g9 (dz X B bs (st.map lst) (gN (lst pc) (some a) (some b) (r.map R5.c) (r.map R5.d) (r.map R5.y))) (kj 2)=nx (dz X B bs (st.map lst) (gN (lst pc) (some a) (some b) (some c) (r.map R5.d) (r.map R5.y))):=
 bg (n:=f+29) (K:=bH dh "marg_util_cand" false) ⋯ ((show _=O.fn "marginal_thiele_scores_add" [fX X.id,X.p,lst pc] [] by cases r<;>rfl').trans h) (by cases r<;>rfl')
theorem Z8{i j:Int}{V:List PV}{d:PV}(h:Em O dh V (i+1) j (O.fn "thiele_score" [.str X.id,X.p,lst pc] [])=some d):aw O (f+30) dh g9 (dz X B bs (st.map lst) (gN (lst pc) (some (.int i)) (some (.int j)) (some (.list V)) (r.map R5.d) (r.map R5.y))) (kj 3)=nx (dz X B bs (st.map lst) (gN (lst pc) (some (.int i)) (some (.int j)) (some (.list V)) (some d) (r.map R5.y))):=
 bg (n:=f+29) (K:=bH dh "upper_bound" false) ⋯ ((show _=Em O dh V (i+1) j (O.fn "thiele_score" [.str X.id,X.p,lst pc] []) by cases r<;>rfl').trans h) (by cases r<;>rfl')
theorem QZ{P:Prop}(H:EI O X sc g)(R:rT X.n X.k pc)(hl:pc.length<X.k)(hz:st.length+(X.n+1)<aA)(K:∀(u:Int) (q:PV×PV×PV×PV) (y:ES),(∀x∈dS X.n X.k pc,sc x<=u)->(y=none->r=none/\¬bs<=u)->
  aw O (f+60) dh g9 (dz X B bs (st.map lst) (gN (lst pc) (r.map R5.a) (r.map R5.b) (r.map R5.c) (r.map R5.d) (r.map R5.y))) (tN 1)=nx (dz X B bs ((if bs<=u then qx pc (p7 X.n X.k pc) st else st).map lst) (gN (lst pc) (some q.1) (some q.2.1) (some q.2.2.1) (some q.2.2.2) y))->P):P:=by
 have hr:=R.room;obtain⟨j,hj⟩:∃j,X.k-pc.length=j:=⟨_,rfl⟩;rw[hj] at hr;obtain⟨m,hm⟩:=TT hr;obtain⟨out,p1,p2,e3⟩:=Vw (nm:=dh) (g:=g pc) H.tofV hr (hj▸rh hl) H.Dt H.Ru (H.th R.pj R.len);have hu:=H.ub R hl p1 p2;rw[hj] at hu;clear p1 p2;generalize (out.drop (out.length-j)).sum+sc pc=u at*;have em:low pc+(m+1)+j=X.n+1:=by rw[hm,pS,<-fC]
 obtain⟨y,hy,e4⟩:=ZE (X:=X) (f:=f+9) (B:=B) (bs:=bs) (u:=u) (c:=.list (vq X.D X.n (g pc))) (y:=r.map R5.y) (i:=low pc) (j:=j) (m:=m+1) H.tofV H.nc (eN (ba hl H.kn) (eN H.Dt (by decide))) em hz;have es:p7 X.n X.k pc=gW (low pc) (m+1):=af (gW (low pc)) (by rw[hj,<-em,wX,F7]);refine K u (.int ((low pc:Nat) -1),.int j,.list (vq X.D X.n (g pc)),fq X.D u) y hu (λe=>⟨Option.map_eq_none_iff.mp (hy e).1,(hy e).2.resolve_right (rg m)⟩) ?_;rw[es];have e1:(k:Nat)->k=pc.length->PV.int ((X.k:Int) - (k:Nat))=.int j:=λk e=>by rw[e,<-Ge R.len,hj]
 have h2:=H.mt R.pj hl;clear hu es em hm hr K hy;refine cM (n:=f+59) (b:=false) ⋯ (Sk (f:=f+29) (dF (gE hl))) ?_;show aS _ [kj 0,kj 1,kj 2,kj 3,kj 4] _=_;exact(aF (VS (f:=f+19)) (aF (W0 (f:=f+29) (e1 _ (bi _))) (aF (abr (f:=f+29) h2) (aF (Z8 (f:=f+29) ((af (λi=>Em O dh (vq X.D X.n (g pc)) i j (O.fn "thiele_score" [.str X.id,X.p,lst pc] [])) (KX (low pc:Int) 1)).trans e3)) (aF e4 rfl)))))
end
section
variable{X:BX}{n k:Nat}{u:Int}{g:List Nat->Nat->Int}
theorem BB.part(B:BB n k sc M (pc::st) best bs)(hl:pc.length<k)(hu:∀x∈dS n k pc,sc x<=u):BB n k sc M (if bs<=u then qx pc (p7 n k pc) st else st) best bs/\turns n (if bs<=u then qx pc (p7 n k pc) st else st)<turns n (pc::st):=by
 have p {i:Nat}:0<2^i:=Gd (by decide);by_cases q:bs<=u
 ·rw[iP q];have h:low pc+(n+1- (k-pc.length) -low pc)<=n:=by
   have r:=(B.room pc (.head _)).room;rw[iK (K5 (y6 r))];exact ag0 (i3 (rh hl) n)
  exact⟨B.expand hl,ba (qX p) (abI h)⟩
 ·rw[iN q];exact⟨B.drop λc m=>mH (hu c m) (lG (zg.mp q) B.BM),TU p⟩
theorem Pg{nm:aN}{mu:List Str}{σ σ₁:ar}{s:aH}{r:aZ}(hs:aw O (n+1) nm mu σ s=(fG O n nm (bA σ) (sE s)).bind λr=>if r=true then(aS (aw O n nm mu) (sB 0 s) σ).bind λq=>if q.1.hX=true then aw O n nm mu q.2 s else some q else some (.next,σ))(ht:fG O n nm (bA σ) (sE s)=some true)(hb:aS (aw O n nm mu) (sB 0 s) σ=nx σ₁)(k:aw O n nm mu σ₁ s=r):aw O (n+1) nm mu σ s=r:=hs.trans (aG ht (aG hb k))
abbrev W4:Type:=PV×PV×PV×PV
def jC(pc:PV)(w:W4)(y:ES):ar:=gN pc (some w.1) (some w.2.1) (some w.2.2.1) (some w.2.2.2) y
variable{w:W4}{y:PV×Option PV}{q:PV}
theorem Χ(H:fV O X.D)(hl:pc.length=X.k)(h:O.fn "thiele_score" [.str X.id,X.p,lst pc] []=some (fq X.D (sc pc)))(hz:best.length<aA):
  aw O (f+60) dh g9 (dz X (best.map lst) bs (st.map lst) (jC (lst pc) w (some y))) (tN 1)=nx (dz X ((yd sc (best,bs) pc).1.map lst) (yd sc (best,bs) pc).2 (st.map lst) (jC (lst pc) w (some (y.1,some (fq X.D (sc pc)))))):=by
 refine cM (n:=f+59) (b:=true) ⋯ (Sk (f:=f+29) (dT hl)) ?_;show aS _ [EE 0,EE 1] _=_;refine aF (σ₁:=dz X (best.map lst) bs (st.map lst) (jC (lst pc) w (some (y.1,some (fq X.D (sc pc)))))) (bg (n:=f+58) (K:=bH dh "score" false) ⋯ ((⋯:_=O.fn "thiele_score" [.str X.id,X.p,lst pc] []).trans h) (by obtain⟨_,_|_⟩:=y<;>rfl')) (aF (cM (n:=f+58) (b:=decide (sc pc=bs)) ⋯ ((⋯:_=O.cmp .Eq (fq X.D (sc pc)) (fq X.D bs)).trans H.eq) ?_) rfl);unfold yd;generalize sc pc=x;by_cases e:x=bs
 ·rw[dT e,iP e];refine aF (st:=aJ (sB 0 (EE 1)) 0) (l:=[]) ((⋯:_=if(best.map lst).length<aA then nx (dz X (best.map lst++[lst pc]) bs (st.map lst) (jC (lst pc) w (some (y.1,some (fq X.D x))))) else none).trans ((iP (aQ (aD (bi _)) hz)).trans (af (λl=>nx (dz X l bs (st.map lst) (jC (lst pc) w (some (y.1,some (fq X.D x)))))) (mR (l₁:=best) (l₂:=[pc])).symm))) rfl
 ·rw[dF e,iN e];refine aF (st:=aJ (sB 1 (EE 1)) 0) (l:=[]) (cM (n:=f+57) (b:=decide (bs<x)) ⋯ ((⋯:_=O.cmp .Gt (fq X.D x) (fq X.D bs)).trans H.gt) ?_) rfl;by_cases l:bs<x
  ·rw[dT l,iP l];rfl'
  ·rw[dF l,iN l];rfl'
theorem Q2:aw O (f+100) dh g9 (dz X T bs (([]:List (List Nat)).map lst) (jC q w (some y))) (fK 6)=nx (dz X T bs [] (jC q w (some y))):=⋯
theorem Nn{T' S':List PV}{xi:Int}{w':W4}{y':PV×Option PV}{r:aZ}(h:aw O (f+40+60) dh g9 (dz X T bs (st.map lst) (jC (lst pc) w (some y))) (tN 1)=nx (dz X T' xi S' (jC (lst pc) w' (some y'))))(k:aw O (f+100) dh g9 (dz X T' xi S' (jC (lst pc) w' (some y'))) (fK 6)=r):aw O (f+1+100) dh g9 (dz X T bs ((pc::st).map lst) (jC q w (some y))) (fK 6)=r:=
 Pg (n:=f+100) ⋯ ⋯ ((⋯:_=aS (aw O (f+100) dh g9) [tN 1] (dz X T bs (st.map lst) (jC (lst pc) w (some y)))).trans (aF h rfl)) k
inductive aaC (O:aK) (X:BX) (sc:List Nat->Int) (M:Int) (f:Nat) (σ:ar):Prop
 |mk (best:List (List Nat)) (bs:Int) (q:PV) (w:W4) (y:PV×Option PV) (B:BB X.n X.k sc M [] best bs) (e:aw O f dh g9 σ (fK 6)=nx (dz X (best.map lst) bs [] (jC q w (some y))))
theorem BB.len(B:BB n k sc M st best bs):best.length<=(dS n k []).length:=by
 obtain⟨rest,p,_⟩:=B.rest;exact p.length_eq▸da▸cW ..
theorem WV(H:EI O X sc g)(hz:(dS X.n X.k []).length<aA)(hM:∀c∈dS X.n X.k [],sc c<=M):∀{t:Nat} {st best:List (List Nat)} {bs:Int} {q:PV} {w:W4} {y:PV×Option PV},turns X.n st<=t->t<=64->BB X.n X.k sc M st best bs->aaC O X sc M (f+t+100) (dz X (best.map lst) bs (st.map lst) (jC q w (some y))):=by
 intro t;induction t with
 |zero=>
  intro st best bs q w y ht _ B;cases st with
  |nil=>exact⟨best,bs,q,w,y,B,Q2 (f:=f+0)⟩|cons pc st=>exact absurd ht (oh (Nat.add_pos_left (Gd (by decide)) _))
 |succ t ih=>
  intro st best bs q w y ht vi B;cases st with
  |nil=>exact⟨best,bs,q,w,y,B,Q2 (f:=f+(t+1))⟩
  |cons pc st=>
  have R:=B.room pc (.head _);have bz:=aQ B.len hz;by_cases hl:pc.length=X.k
  ·obtain⟨L9,xi,q',w',y',B',e⟩:=ih (q:=lst pc) (w:=w) (y:=(y.1,some (fq X.D (sc pc)))) (ju (ba (TU (Gd (by decide))) ht)) (lF vi) (B.full hl hM);exact⟨L9,xi,q',w',y',B',Nn (f:=f+t) (Χ (f:=f+t+40) H.tofV hl (H.th R.pj R.len) bz) e⟩
  ·have hl:=pT R.len hl;have sz:st.length+(X.n+1)<aA:=aQ (B8 (aq (iH _) (aq (VO (n:=X.n) (stack:=pc::st)) (aq ht vi))) H.Dt) (by decide);refine QZ (f:=f+t+40) (B:=best.map lst) (bs:=bs) (r:=some ⟨w.1,w.2.1,w.2.2.1,w.2.2.2,y⟩) H R hl sz λu w' y' hu hy e1=>?_;have z:=B.part hl hu;cases y' with
   |none=>exact sN ((hy rfl).1)
   |some y'=>
    obtain⟨L9,xi,q',w',y',B',e⟩:=ih (q:=lst pc) (w:=w') (y:=y') (ju (ba z.2 ht)) (lF vi) z.1;exact⟨L9,xi,q',w',y',B',Nn (f:=f+t) e1 e⟩
def Jb(O:aK)(nm:aN)(st:aH)(q:PV×ar):aZ:=JA O ⟨λ_ _ _=>some q.1,λ_ _ _=>none⟩ nm [] q.2 (sE st) (sT st)
theorem Wo{out:List PV}(hs:O.fn "sorted_committees" [.list (best.map lst)] []=some (.list out)):ck (aS (aw O NN dh g9) [fK 7,fK 8,fK 9,fK 10,fK 11] (dz X (best.map lst) bs [] (jC q w (some y))))=some (.tup [.list out,.any]):=by
 obtain⟨y,s⟩:=y;refine dC (tO (n:=999999) (K:=bH dh "committees" false) (p:=.list out) ⋯ (by cases s<;>rfl') ((show _=O.fn "sorted_committees" [.list (best.map lst)] [] by cases s<;>rfl').trans hs) (by cases s<;>rfl') (show _=nx (R7 X (.qj (cf [best.map lst] [] (.list out)) (best.map lst)) bs (.qj (cf [[]] [] (.list out)) []) ((jC q w (some (y,s))).append [("committees",.pv (.list out))])) by cases s<;>rfl')) ?_;cases cf [best.map lst] [] (.list out)<;>cases cf [[]] [] (.list out)<;>cases s<;>rfl'
theorem Z5{C:List Nat}(H:EI O X sc g)(h6:X.n<=6)(hz:(dS X.n X.k []).length<aA)(hk:0<X.k)(hC:C∈dS X.n X.k [])(h0:∀c∈dS X.n X.k [],0<=sc c)(hg:O.fn "get_marginal_scorefct" [.str X.id,.int X.k] []=some (fX X.id))(hq:O.fn "_seq_thiele_resolute" [.str X.id,X.p,.int X.k] []=some (.tup [.list [X.S],.any]))(ht:O.fn "thiele_score" [.str X.id,X.p,X.S] []=some (fq X.D (sc C))):
  ∃best:List (List Nat),best.Perm (dP sc (dS X.n X.k []))/\∀out,O.fn "sorted_committees" [.list (best.map lst)] []=some (.list out)->bm O NN As [] [("scorefct_id",.str X.id),("profile",X.p),("committeesize",.int X.k),("resolute",.bool false),("max_num_of_committees",.none)]=some (.tup [.list out,.any]):=by
 have B:=abG (sc:=sc) (bs:=sc C) (M:=mx sc (dS X.n X.k [])) H.kn (sU.2 C hC);refine QZ (f:=999939) (B:=[]) (bs:=sc C) (st:=[]) (r:=none) H (B.room [] (.head _)) hk (aQ (aq (aD (f5 _)) (yP h6)) (by decide)) λu w y hu hy e1=>?_;cases y with
 |none=>exact absurd (hu C hC) (hy rfl).2
 |some y=>
 have z:=B.part hk hu;obtain⟨best,xi,q,w',y',B',e2⟩:=WV (f:=999835) (t:=64) (q:=lst []) (w:=w) (y:=y) H hz (λc m=>sU.2 c m) (aq (cy z.2) (SJ (n:=2) (by decide) h6)) (bf _) z.1;refine⟨best,WG B' h0 (CC hC),λout hs=>?_⟩;refine(⋯:_=ck (a9 O NN dh g9 [("scorefct_id",.pv (.str X.id)),("profile",.pv X.p),("committeesize",.pv (.int X.k)),("resolute",.pv (.bool false)),("max_num_of_committees",.pv .none)] [fK 0,fK 1,fK 2,fK 3,fK 4,fK 5,fK 6,fK 7,fK 8,fK 9,fK 10,fK 11])).trans (dC (bg (n:=999999) (K:=bH dh "marginal_scorefct" false) ⋯ ((⋯:_=O.fn "get_marginal_scorefct" [.str X.id,.int X.k] []).trans hg) rfl) (dC (st:=fK 1) (σ₁:=[("scorefct_id",.pv (.str X.id)),("profile",.pv X.p),("committeesize",.pv (.int X.k)),("resolute",.pv (.bool false)),("max_num_of_committees",.pv .none),("marginal_scorefct",.pv (fX X.id)),("best_committees",.own [])]) ⋯ (dC (bg (n:=999999) (K:=Jb O dh (fK 2)) ⋯ ((⋯:_=O.fn "_seq_thiele_resolute" [.str X.id,X.p,.int X.k] []).trans hq) (⋯:_=nx [("scorefct_id",.pv (.str X.id)),("profile",.pv X.p),("committeesize",.pv (.int X.k)),("resolute",.pv (.bool false)),("max_num_of_committees",.pv .none),("marginal_scorefct",.pv (fX X.id)),("best_committees",.own []),("init_com",.pv (.list [X.S])),("_",.pv .any)])) (dC (bg (n:=999999) (K:=bH dh "init_com" false) (p:=X.S) ⋯ ⋯ rfl) (dC (bg (n:=999999) (K:=bH dh "best_score" false) ⋯ ((⋯:_=O.fn "thiele_score" [.str X.id,X.p,X.S] []).trans ht) rfl) (dC (st:=fK 5) (σ₁:=dz X [] (sc C) [lst []] []) ⋯ (dC (Pg (n:=999999) ⋯ ⋯ ((⋯:_=aS (aw O 999999 dh g9) [tN 1] (dz X [] (sc C) [] (gN (lst []) none none none none none))).trans (aF e1 rfl)) e2) (Wo hs))))))))
end
end
section
variable{n k:Nat}{id:Str}{ns cv:PV}{vs:List (List Nat×Nat)}{A C:List Nat}{S:Nat->Int}
section
variable{O:aK}{m:Nat}{fu:Str}{p self v:PV}{b:Bool}{fs:List (Str×PV)}
noncomputable def MW(l:List Str):List PV:=l.map PV.str
def Jw(id cq long:Str)(Hz ahI:List Str):List (Str×PV):=[("rule_id",.str id),("shortname",.str cq),("longname",.str long),("algorithms",.tup (MW Hz)),("resolute_values",.tup [.bool false,.bool true]),("available_algorithms",.list (MW ahI))]
noncomputable def Q4:List Str:=["gurobi","pulp-highs","pulp-cbc","branch-and-bound","brute-force"]
def HX:List (Str×PV):=Jw "pav" "PAV" "Proportional Approval Voting (PAV)" Q4 ["branch-and-bound","brute-force"]
def Jo:List (Str×PV):=Jw "slav" "SLAV" "Sainte-Laguë Approval Voting (SLAV)" Q4 ["branch-and-bound","brute-force"]
def p6:List (Str×PV):=Jw "adams" "Adams-AV" "Adams Approval Voting" ["gurobi","pulp-highs","pulp-cbc","brute-force"] ["brute-force"]
theorem Xl:(aI NN (k+1)).fn "Rule" [.str "pav"] []=some (.inst cL HX):=⋯
theorem aeB:(aI NN (k+1)).fn "Rule" [.str "slav"] []=some (.inst cL Jo):=⋯
theorem ae3:(aI NN (k+1)).fn "Rule" [.str "adams"] []=some (.inst cL p6):=⋯
theorem adX:(aI NN (k+1)).bM cL "fastest_available_algorithm" [.inst cL p6] []=some (.str "brute-force"):=⋯
noncomputable def g8(b:Bool):Str:=cond b "branch-and-bound" "brute-force"
noncomputable def AC(b:Bool):Str:=cond b "_thiele_methods_branchandbound" "_thiele_methods_bruteforce"
def MH:aN:=v6.scope.names
def oU(i:Nat):aH:=aJ v6.body i
noncomputable def sQ(p:PV)(k:Nat)(fu:Str):List (Str×PV):=[("profile",p),("committeesize",.int k),("algorithm",.str fu),("resolute",.bool false),("max_num_of_committees",.none)]
def Jt(fs:List (Str×PV))(p:PV)(k:Nat)(fu:Str):ar:=lX (("self",.inst cL fs)::sQ p k fu)
def yo(O:aK)(fs:List (Str×PV))(fu:Str):Prop:=∀(p:PV) (k:Nat),a9 O NN MH [] (Jt fs p k fu) [oU 3,oU 4,oU 5,oU 6]=nx (Jt fs p k fu)
theorem aed:yo O HX (g8 b):=λp k=>by cases b<;>rfl'
theorem p_:yo O Jo (g8 b):=λp k=>by cases b<;>rfl'
theorem W3:yo O p6 (g8 false):=λp k=>⋯
theorem acD(V:yo O fs fu)(hk:1<=k)(hn:k<=n)(ha:O.attr bv "num_cand" (a7 n ns vs)=some (.int n))(hl:O.fn "len" [a7 n ns vs] []=some (.int (m+1:Nat))):bm O NN v6 [.inst cL fs] (sQ (a7 n ns vs) k fu)=some .none:=
 (⋯:_=ck (a9 O NN MH [] (Jt fs (a7 n ns vs) k fu) [oU 0,oU 1,oU 2,oU 3,oU 4,oU 5,oU 6])).trans
  (dC (jS (n:=999999) ⋯ ⋯ ((⋯:_=some (decide ((k:Int)<1))).trans (af some (dF (ir (oW hk))))))
  (dC (jS (n:=999999) ⋯ ⋯ ((show _=(O.attr bv "num_cand" (a7 n ns vs)).bind λb=>fb O .Gt (.int k) b by rfl').trans (aG ha (af some (dF (ir (oW hn)))))))
  (dC (jS (n:=999999) ⋯ ⋯ ((show _=(O.fn "len" [a7 n ns vs] []).bind λa=>fb O .Eq a (.int 0) by rfl').trans (aG hl rfl))) (af ck (V _ _)))))
def zT:aN:=AO.scope.names
def nn(i:Nat):aH:=aJ AO.body i
noncomputable def BS(id:Str)(p:PV)(k:Nat)(fu:Str)(r:ar):ar:=("scorefct_id",.pv (.str id))::("profile",.pv p)::("committeesize",.pv (.int k))::("algorithm",.pv (.str fu))::("resolute",.pv (.bool false))::("max_num_of_committees",.pv .none)::("lexicographic_tiebreaking",.pv (.bool false))::r
theorem NC{σ:ar}{nm:aN}{mu:List Str}{st:aH}{w:PV}(h:aw O (n+1) nm mu σ st=(cI O n nm (bA σ) (sE st)).map λ_=>(.next,σ))(he:cI O n nm (bA σ) (sE st)=some w):aw O (n+1) nm mu σ st=nx σ:=h.trans (af (eP _) he)
theorem abZ(h:O.fn (AC b) [] [("scorefct_id",.str id),("profile",p),("committeesize",.int k),("resolute",.bool false),("max_num_of_committees",.none)]=some (.tup [v,.any])):aw O NN zT [] (BS id p k (g8 b) [("rule",.pv self)]) (nn 3)=nx (BS id p k (g8 b) [("rule",.pv self),("committees",.pv v),("detailed_info",.pv .any)]):=by
 cases b with
 |true=>exact cM (n:=999999) (b:=true) ⋯ ⋯ (aF (st:=aJ (sB 0 (nn 3)) 0) (bg (n:=999998) (K:=Jb O zT (aJ (sB 0 (nn 3)) 0)) ⋯ ((⋯:_=O.fn (AC true) [] [("scorefct_id",.str id),("profile",p),("committeesize",.int k),("resolute",.bool false),("max_num_of_committees",.none)]).trans h) ⋯) rfl)|false=>exact cM (n:=999999) (b:=false) ⋯ ⋯ (aF (st:=aJ (sB 1 (nn 3)) 0) (cM (n:=999998) (b:=true) ⋯ ⋯ (aF (st:=aJ (sB 0 (aJ (sB 1 (nn 3)) 0)) 0) (bg (n:=999997) (K:=Jb O zT (aJ (sB 0 (aJ (sB 1 (nn 3)) 0)) 0)) ⋯ ((⋯:_=O.fn (AC false) [] [("scorefct_id",.str id),("profile",p),("committeesize",.int k),("resolute",.bool false),("max_num_of_committees",.none)]).trans h) ⋯) rfl)) rfl)
theorem ZJ(hR:O.fn "Rule" [.str id] []=some (.inst cL fs))(h0:(ak fs "verify_compute_parameters").isNone=true)(hv:O.bM cL "verify_compute_parameters" [.inst cL fs] (sQ p k (g8 b))=some .none)(h:O.fn (AC b) [] [("scorefct_id",.str id),("profile",p),("committeesize",.int k),("resolute",.bool false),("max_num_of_committees",.none)]=some (.tup [v,.any])):
  bm O NN AO [] [("scorefct_id",.str id),("profile",p),("committeesize",.int k),("algorithm",.str (g8 b)),("resolute",.bool false),("max_num_of_committees",.none),("lexicographic_tiebreaking",.bool false)]=some v:=
 (⋯:_=ck (a9 O NN zT [] (BS id p k (g8 b) []) [nn 0,nn 1,nn 2,nn 3,nn 4])).trans
  (dC (bg (n:=999999) (K:=bH zT "rule" false) ⋯ ((⋯:_=O.fn "Rule" [.str id] []).trans hR) (⋯:_=nx (BS id p k (g8 b) [("rule",.pv (.inst cL fs))])))
  (dC (st:=nn 1) (σ₁:=BS id p k (g8 b) [("rule",.pv (.inst cL fs))]) (by cases b<;>rfl')
  (dC (NC (n:=999999) (w:=.none) ⋯ ((⋯:_=if(ak fs "verify_compute_parameters").isNone=true then O.bM cL "verify_compute_parameters" [.inst cL fs] (sQ p k (g8 b)) else none).trans ((iP h0).trans hv))) (dC (abZ h) ⋯))))
noncomputable def yb(id:Str)(p:PV)(k:Nat)(fu:Str):List (Str×PV):=[("scorefct_id",.str id),("profile",p),("committeesize",.int k),("algorithm",.str fu),("resolute",.bool false),("max_num_of_committees",.none),("lexicographic_tiebreaking",.bool false)]
theorem af2(h:O.fn "compute_thiele_method" [] (yb "pav" p k fu)=some v):bm O NN B2 [p,.int k] [("algorithm",.str fu)]=some v:=
 (⋯:_=ck (a9 O NN B2.scope.names [] (lX [("profile",p),("committeesize",.int k),("algorithm",.str fu),("resolute",.bool false),("max_num_of_committees",.none),("lexicographic_tiebreaking",.bool false)]) [aJ B2.body 0])).trans (af ck (rG (wl (n:=999999) ⋯ ((⋯:_=O.fn "compute_thiele_method" [] (yb "pav" p k fu)).trans h))))
theorem V8(h:O.fn "compute_thiele_method" [] (yb "slav" p k fu)=some v):bm O NN BG [p,.int k] [("algorithm",.str fu)]=some v:=
 (⋯:_=ck (a9 O NN BG.scope.names [] (lX [("profile",p),("committeesize",.int k),("algorithm",.str fu),("resolute",.bool false),("max_num_of_committees",.none),("lexicographic_tiebreaking",.bool false)]) [aJ BG.body 0])).trans (af ck (rG (wl (n:=999999) ⋯ ((⋯:_=O.fn "compute_thiele_method" [] (yb "slav" p k fu)).trans h))))
def Fi:aN:=B0.scope.names
def wp(i:Nat):aH:=aJ B0.body i
noncomputable def EZ(p:PV)(k:Nat)(fu:Str)(r:ar):ar:=("profile",.pv p)::("committeesize",.pv (.int k))::("algorithm",.pv (.str fu))::("resolute",.pv (.bool false))::("max_num_of_committees",.pv .none)::("rule_id",.pv (.str "adams"))::r
def J1:Str×AV:=("rule",.pv (.inst cL p6))
theorem afN{w:List PV}(hR:O.fn "Rule" [.str "adams"] []=some (.inst cL p6))(hf:O.bM cL "fastest_available_algorithm" [.inst cL p6] []=some (.str "brute-force"))(hv:O.bM cL "verify_compute_parameters" [.inst cL p6] (sQ p k "brute-force")=some .none)(h:O.fn "_adams_bruteforce" [p,.int k,.bool false,.none] []=some (.list w))(hs:O.fn "sorted_committees" [.list w] []=some v):
  bm O NN B0 [p,.int k] []=some v:=
 (⋯:_=ck (a9 O NN Fi [] (EZ p k "fastest" []) [wp 1,wp 2,wp 3,wp 4,wp 5])).trans
  (dC (bg (n:=999999) (K:=bH Fi "rule" false) ⋯ ((⋯:_=O.fn "Rule" [.str "adams"] []).trans hR) (⋯:_=nx (EZ p k "fastest" [J1])))
  (dC (cM (n:=999999) (b:=true) ⋯ ⋯ (aF (st:=aJ (sB 0 (wp 2)) 0) (σ₁:=EZ p k "brute-force" [J1]) (bg (n:=999998) (K:=bH Fi "algorithm" false) ⋯ ((⋯:_=O.bM cL "fastest_available_algorithm" [.inst cL p6] []).trans hf) ⋯) rfl))
  (dC (NC (n:=999999) ⋯ ((⋯:_=O.bM cL "verify_compute_parameters" [.inst cL p6] (sQ p k "brute-force")).trans hv))
  (dC (cM (n:=999999) (b:=true) ⋯ ⋯ (aF (st:=aJ (sB 0 (wp 4)) 0) (σ₁:=EZ p k "brute-force" [J1,("committees",.pv (.list w))]) (bg (n:=999998) (K:=bH Fi "committees" false) ⋯ ((⋯:_=O.fn "_adams_bruteforce" [p,.int k,.bool false,.none] []).trans h) ⋯) rfl))
  (af ck (rG (wl (n:=999999) ⋯ ((⋯:_=O.fn "sorted_committees" [.list w] []).trans hs))))))))
end
section
variable{O:aK}{v:Nat}{nc:PV}
def Bz:aN:=sg.scope.names
def wv(fs:List (Str×PV))(cv:PV)(v:Nat)(nc:PV):ar:=[("self",.a6 iw fs []),("approved",.pv cv),("weight",.pv (.int v)),("num_cand",.pv nc)]
theorem OR(h:O.fn "CandidateSet" [cv] [("num_cand",nc)]=some (.set A))(hv:1<=v):a9 O NN Bz [] (wv [] cv v nc) sg.body=nx (wv [("approved",.set A),("weight",.int v)] cv v nc):=
 (⋯:_=a9 O NN Bz [] (wv [] cv v nc) [aJ sg.body 0,aJ sg.body 1,aJ sg.body 2]).trans (aF (bg (n:=999999) (K:=Ka Bz "self" "approved" false) ⋯ ((⋯:_=O.fn "CandidateSet" [cv] [("num_cand",nc)]).trans h) (⋯:_=nx (wv [("approved",.set A)] cv v nc)))
  (aF (st:=aJ sg.body 1) (σ₁:=wv [("approved",.set A),("weight",.int v)] cv v nc) ⋯ (aF (jS (n:=999999) ⋯ ⋯ ((⋯:_=some (decide ((v:Int)<=0))).trans (af some (dF (zg.mpr (ji hv)))))) rfl)))
def xL(x:Str)(c:Nat)(r:aZ):Option (List (Str×PV)×List Str):=r.bind λr=>if r.1.hX=true then(ak r.2 x).bind λv=>v.lI.bind λi=>if i.1=c then some i.2 else none else none
theorem Ϧ(h:O.fn "CandidateSet" [cv] [("num_cand",.none)]=some (.set A))(hv:1<=v):(next NN O).fn "Voter" [cv] [("weight",.int v)]=some (bq (A,v)):=
 (show _=(xL "self" iw (a9 O NN Bz [] (wv [] cv v .none) sg.body)).map λr=>PV.inst iw r.1 by rfl').trans ((af (λo=>(xL "self" iw o).map λr=>PV.inst iw r.1) (OR h hv)).trans ⋯)
theorem Yd(h:O.fn "CandidateSet" [cv] [("num_cand",nc)]=some (.set A))(hv:1<=v):(next NN O).fn "Voter" [cv] [("weight",.int v),("num_cand",nc)]=some (bq (A,v)):=
 (show _=(xL "self" iw (a9 O NN Bz [] (wv [] cv v nc) sg.body)).map λr=>PV.inst iw r.1 by rfl').trans ((af (λo=>(xL "self" iw o).map λr=>PV.inst iw r.1) (OR h hv)).trans ⋯)
def Ol:aN:=zJ.scope.names
def GH(i:Nat):aH:=aJ zJ.body i
theorem WY(ha:O.attr bv "num_cand" (a7 n ns vs)=some (.int n))(h:O.fn "Voter" [.set A] [("weight",.int v),("num_cand",.int n)]=some (bq (A,v))):bm O NN zJ [a7 n ns vs,bq (A,v)] []=some (bq (A,v)):=
 (⋯:_=ck (a9 O NN Ol [] [("self",.pv (a7 n ns vs)),("voter",.pv (bq (A,v)))] [GH 0,GH 1])).trans (dC (cM (n:=999999) (b:=true) ⋯ ⋯ (aF (st:=aJ (sB 0 (GH 0)) 0) (σ₁:=[("self",.pv (a7 n ns vs)),("voter",.pv (bq (A,v))),("_voter",.pv (bq (A,v)))]) (bg (n:=999998) (K:=bH Ol "_voter" false) ⋯ ((show _=(((O.attr bv "num_cand" (a7 n ns vs)).bind λv=>some [(("num_cand":Str),v)]).map λks=>(("weight":Str),PV.int v)::ks).bind λks=>O.fn "Voter" [.set A] ks by rfl').trans (by rw[ha];exact h)) ⋯) rfl)) ⋯)
def ut:aN:=vU.scope.names
def AD:aH:=aJ vU.body 0
def zO(n:Nat):PV:=.list ((ax n).map ds)
def eS(n:Nat)(vs:List (List Nat×Nat)):List (Str×PV):=[("candidates",.list ((ax n).map λi:Nat=>.int i)),("cand_names",zO n),("_voters",.list (vs.map bq))]
noncomputable def fL:List Str:=["_voters","cand_names"]
def rZ(n:Nat)(vs:List (List Nat×Nat))(w:PV):ar:=[("self",.a6 bv (eS n vs) fL),("voter",.pv w)]
theorem WC(h:O.bM bv "_unique_voter" [a7 n (zO n) vs,bq (A,v)] []=some (bq (A,v)))(hz:vs.length<aA):a9 O NN ut [] (rZ n vs (bq (A,v))) vU.body=nx (rZ n (vs++[(A,v)]) (bq (A,v))):=by
 refine(⋯:_=a9 O NN ut [] (rZ n vs (bq (A,v))) [AD]).trans (aF ?_ rfl);have e1:bX (cI O 999999 ut) (rZ n vs (bq (A,v))) (bR 0 (sE AD))=some (bq (A,v),rZ n vs (bq (A,v))):=by
  unfold bX;rw[show cI O 999999 ut (fJ (rZ n vs (bq (A,v)))) (bR 0 (sE AD))=none by rfl',show cI O 999999 ut (bA (rZ n vs (bq (A,v)))) (bR 0 (sE AD))=some (bq (A,v)) from(⋯:_=O.bM bv "_unique_voter" [a7 n (zO n) vs,bq (A,v)] []).trans h];rfl'
 refine(show _=(bX (cI O 999999 ut) (rZ n vs (bq (A,v))) (bR 0 (sE AD))).bind λq=>if fL.contains "_voters"=true/\(vs.map bq).length<aA then eB (putN ut "self" (.a6 bv (b9 (eS n vs) "_voters" (.list (vs.map bq++[q.1]))) fL) q.2) else none by rfl').trans (aG e1 ((iP ⟨by decide,aQ (aD (bi _)) hz⟩).trans ?_));rw[show vs.map bq++[bq (A,v)]=(vs++[(A,v)]).map bq from(mR (l₁:=vs) (l₂:=[(A,v)])).symm];rfl'
end
section
variable{m v D:Nat}{nc:PV}
theorem acP(h:(aI NN k).bM bv "_unique_voter" [a7 n (zO n) vs,bq (A,v)] []=some (bq (A,v)))(hz:vs.length<aA):(aI NN (k+1)).mh bv (eS n vs) fL "add_voter" [bq (A,v)]=some (eS n (vs++[(A,v)])):=
 (show _=(xL "self" bv (a9 (aI NN k) NN ut [] (rZ n vs (bq (A,v))) vU.body)).bind λr=>if r.2=fL then some r.1 else none by rfl').trans ((af (λo=>(xL "self" bv o).bind λr=>if r.2=fL then some r.1 else none) (WC h hz)).trans ⋯)
theorem adP(h:n<6):(aI NN (k+1)).make "Profile" [.int (n+1:Nat)] []=some (bv,eS (n+1) [],fL):=ON (P:=λn=>(aI NN (k+1)).make "Profile" [.int (n+1:Nat)] []=some (bv,eS (n+1) [],fL)) ⋯ ⋯ ⋯ ⋯ ⋯ ⋯ n h
theorem Ao:(aI NN (k+1)).attr bv "num_cand" (a7 n ns vs)=some (.int n):=
 (show _=some (PV.int (((ax n).map λi:Nat=>PV.int i).length:Nat)) by rfl').trans (by rw[bi,cF])
theorem ady{a b:List Nat×Nat}:(aI NN (k+1)).fn "len" [a7 n ns [a,b]] []=some (.int (2:Nat)):=⋯
theorem W6{a b c:List Nat×Nat}:(aI NN (k+1)).fn "len" [a7 n ns [a,b,c]] []=some (.int (3:Nat)):=⋯
theorem af6(h:(aI NN (k+1)).fn "Voter" [.set A] [("weight",.int v),("num_cand",.int n)]=some (bq (A,v))):(aI NN (k+2)).bM bv "_unique_voter" [a7 n ns vs,bq (A,v)] []=some (bq (A,v)):=
 (⋯:_=bm (aI NN (k+1)) NN zJ [a7 n ns vs,bq (A,v)] []).trans (WY Ao h)
def d7(C:List Nat):List Nat:=C.foldr fv []
theorem tm{x:Nat}:x∈d7 C↔x∈C:=by
 induction C with
 |nil=>exact .rfl|cons c C ih=>exact oY.trans ((or_congr_right ih).trans jO.symm)
theorem oH:(d7 C).Pairwise (· < ·):=by
 induction C with
 |nil=>exact .nil|cons c C ih=>exact rB ih
theorem P7:∀{C:List Nat},(∀x∈C,x<6)->setOf (aC C)=some (d7 C):=by
 intro C;induction C with
 |nil=>exact λ_=>rfl|cons c C ih=>exact λh=>(iP ⟨fP c,ji (h c (.head _))⟩).trans (af (eP (fv c)) (ih λx m=>h x (.tail _ m)))
theorem kQ(h:C.Pairwise (· < ·)):C.Nodup:=h.imp gE
theorem Do(h:C.Nodup):(d7 C).Perm C:=(Gf (kQ oH) h).mpr λ_=>tm
theorem RF{C':List Nat}(h:C'.Perm C):d7 C'=d7 C:=tL oH oH λx=>tm.trans (h.mem_iff.trans tm.symm)
theorem Dm(h:C.Pairwise (· < ·)):d7 C=C:=tL oH h λ_=>tm
theorem W1(h:∀x∈C,x<6):SS (d7 C):=⟨oH,λx m=>h x (tm.mp m)⟩
theorem acl(c:Cv cv A)(h:∀x∈A,x<6):eH cv setOf=some (d7 A):=xP c λ_ hp=>(P7 λx m=>h x (hp.mem_iff.mp m)).trans (af some (RF hp))
theorem MD(c:Cv cv A)(hd:A.Nodup)(h:∀x∈A,x<6)(hn:nc=.none\/∃m,nc=.int m/\∀x∈A,(x:Int)<m):bm (aI NN (k+1)) NN vY [cv,nc] []=some (.set (d7 A)):=
 Xh (O:=aI NN k) c (λl' hp=>(P7 λx m=>h x (hp.mem_iff.mp m)).trans (af some (RF hp))) (Do hd).length_eq hn
theorem aaO(c:Cv cv A)(hd:A.Nodup)(h:∀x∈A,x<6):(aI NN (k+2)).fn "CandidateSet" [cv] []=some (.set (d7 A)):=
 (⋯:_=bm (aI NN (k+1)) NN vY [cv,.none] []).trans (MD c hd h (.inl rfl))
theorem Jq(c:Cv cv A)(hd:A.Nodup)(h:∀x∈A,x<6)(hn:nc=.none\/∃m,nc=.int m/\∀x∈A,(x:Int)<m):(aI NN (k+2)).fn "CandidateSet" [cv] [("num_cand",nc)]=some (.set (d7 A)):=
 (⋯:_=bm (aI NN (k+1)) NN vY [cv,nc] []).trans (MD c hd h hn)
theorem af0(h:SS A):∃s,(aI NN (k+2)).fn "str_set_of_candidates" [.set A] []=some (.str s):=(Wm (O:=aI NN k) h).imp λs e=>(⋯:_=bm (aI NN (k+1)) NN qU [.set A] []).trans e
theorem QI{α:Type}{l:List α}{v:α->PV}{so:α->List Nat}(h0:l≠[])(hz:l.length<64)(hc:∀a∈l,Cv (v a) (so a)/\(so a).Nodup/\∀x∈so a,x<6):∃out:List (List Nat),(aI NN (k+3)).fn "sorted_committees" [.list (l.map v)] []=some (.list (out.map PV.set))/\out.Perm (l.map λa=>d7 (so a)):=
 (afP (O:=aI NN (k+1)) (v:=v) (so:=λa=>d7 (so a)) h0 hz (λa m=>aaO (k:=k) (hc a m).1 (hc a m).2.1 (hc a m).2.2) (λa m=>af0 (k:=k) (W1 (hc a m).2.2))).imp λout e=>⟨(⋯:_=bm (aI NN (k+2)) NN B1 [.list (l.map v)] []).trans e.1,e.2⟩
theorem aex:(aI NN (k+2)).fn "get_marginal_scorefct" [.str "pav",.int m] []=some (fX "pav"):=⋯
theorem V7:(aI NN (k+2)).fn "get_marginal_scorefct" [.str "slav",.int m] []=some (fX "slav"):=⋯
theorem aea(H:iM (aI NN (k+3)) id S D)(c:Cv cv A)(h6:∀x∈A,x<6)(hv:∀q∈vs,(fg (d7 A) q.1).length<=4)(h0:pM k D id (a7 n ns vs) cv):(aI NN (k+4)).fn "thiele_score" [.str id,a7 n ns vs,cv] []=some (fq D (d6 S (d7 A) vs)):=
 (⋯:_=bm (aI NN (k+3)) NN qM [.str id,a7 n ns vs,cv] []).trans (WI H (acl c h6) hv h0)
theorem acF(H:iM (aI NN (k+3)) id S D)(hn:n<=100)(hv:∀q∈vs,BY C n q)(hi:∀i∈C,i<n):(aI NN (k+4)).fn "marginal_thiele_scores_add" [fX id,a7 n ns vs,.list (aC C)] []=some (.list (vq D n (im D C (jA S C · vs)))):=
 (⋯:_=bm (aI NN (k+3)) NN zM [fX id,a7 n ns vs,.list (aC C)] []).trans (ads H Ao hn hv hi)
theorem YW{a:Int}{l:List Int}(h:0<D)(h2:D<=500):(aI NN (k+4)).fn "total" [.list (iC D (a::l))] []=some (fq D (a::l).sum):=
 (⋯:_=bm (aI NN (k+3)) NN Ae [.list (iC D (a::l))] []).trans (Z3 (qQ h h2))
end
section
variable{m lo:Nat}{s c:List Nat}
theorem sJ:∀{j lo:Nat} {c:List Nat},c∈cj n lo j->c.length=j/\c.Pairwise (· < ·)/\∀x∈c,lo<=x/\x<n:=by
 intro j;induction j with
 |zero=>exact λm=>cY m▸⟨rfl,.nil,λ_ m=>absurd m eX⟩
 |succ j ih=>
  intro lo c m;obtain⟨a,ma,mc⟩:=Gm.mp m;obtain⟨d,md,rfl⟩:=rn.mp mc;have h:=ih md;have ha:=Ud.mp ma;refine⟨af (· +1) h.1,Gk.mpr ⟨λx m=>(h.2.2 x m).1,h.2.1⟩,λx m=>(bw m).elim (λe=>e▸⟨ha.1,?_⟩) λm=>⟨aq ha.1 (cy (h.2.2 x m).1),(h.2.2 x m).2⟩⟩;exact ba ((K7 lo (n-j)).elim (λh=>ba ha.2 (aD (iK h))) λh=>absurd (ba ha.2 (aD (af (lo+ ·) (Nat.sub_eq_zero_of_le h)))) (gK ha.1)) (kE ..)
theorem Py:∀{m lo:Nat} {s:List Nat},s.Pairwise (· < ·)->(∀x∈s,lo<=x/\x<lo+m)->s.Sublist (gW lo m):=by
 intro m;induction m with
 |zero=>
  intro lo s _ h;cases s with
  |nil=>exact .refl _|cons x s=>exact absurd (aQ (h x (.head _)).1 (h x (.head _)).2) (cV _)
 |succ m ih=>
  intro lo s p h;cases s with
  |nil=>exact Tk _
  |cons x s=>
  have q:=lY p;have u:∀y∈x::s,y<lo+1+m:=λy my=>ba (h y my).2 (aD ((fC lo m 1).symm.trans (pS lo m 1)));by_cases e:x=lo
  ·exact e▸(ih q.2 λy my=>⟨e▸q.1 y my,u y (.tail _ my)⟩).cons_cons x
  ·have l:=pT (h x (.head _)).1 (gV e);exact(ih p λy my=>⟨(bw my).elim (λe=>e▸l) λmy=>aq l (cy (q.1 y my)),u y my⟩).cons lo
theorem BO:∀{j lo:Nat} {c:List Nat},c.length=j->c.Pairwise (· < ·)->(∀x∈c,lo<=x/\x<n)->c∈cj n lo j:=by
 intro j;induction j with
 |zero=>exact λh _ _=>Gi.mpr (zn.mp h)
 |succ j ih=>
  intro lo c h p q;cases c with
  |nil=>nomatch h
  |cons a d=>
  have p':=lY p;have ha:=q a (.head _);have hd:=wJ h;have hl:=(Py (m:=n- (a+1)) (lo:=a+1) p'.2 λx m=>⟨p'.1 x m,ba (q x (.tail _ m)).2 (aD (iK ha.2).symm)⟩).length_le;rw[K4,hd] at hl;have hz:a<n-j:=agI (aq (aD (af jq (gj a j))) (TS ha.2 hl));exact Gm.mpr ⟨a,Ud.mpr ⟨ha.1,ba hz (aD (iK (cy (aQ ha.1 hz))).symm)⟩,qZ (ih hd p'.2 λx m=>⟨p'.1 x m,(q x (.tail _ m)).2⟩)⟩
theorem Me{a b c d:Int}:a+b+(c+d)=a+c+(b+d):=by rw[mQ,Int.add_left_comm b,<-mQ]
theorem NM{f g:Nat->Int}:(s.map λx=>f x+g x).sum=(s.map f).sum+(s.map g).sum:=by
 induction s with
 |nil=>rfl|cons x s ih=>exact(af (f x+g x+ ·) ih).trans Me
theorem X7{v:Int}:(s.map λx=>if x∈A then v else 0).sum=(fg s A).length*v:=by
 induction s with
 |nil=>exact(yS v).symm
 |cons x s ih=>
  refine(af ((if x∈A then v else 0)+ ·) ih).trans ?_;by_cases h:x∈A
  ·rw[iP h,show fg (x::s) A=x::fg s A from tD (kz.mpr h),wK,w3,Ga,u7];exact af _ (Int.one_mul v).symm
  ·rw[iN h,show fg (x::s) A=fg s A from u8 λq=>h (qI q),Gb]
theorem ZI{l l':List Int}(p:l.Perm l'):l.sum=l'.sum:=by
 induction p with
 |nil=>rfl|cons a _ ih=>exact af (a+ ·) ih|swap a b l=>exact Int.add_left_comm ..|trans _ _ h1 h2=>exact h1.trans h2
theorem abD:∀{L s r:List Int},L.Pairwise (· <=·)->(s++r).Perm L->s.sum<=(L.drop r.length).sum:=by
 intro L;induction L with
 |nil=>exact λ{s r} _ p=>by rw[(List.append_eq_nil_iff.mp p.eq_nil).1,FR];exact tB _
 |cons a L ih=>
  intro s r hs p;have q:=lY hs;by_cases mr:a∈r
  ·have p1:=ag1 mr;rw[p1.length_eq];exact ih q.2 (List.perm_middle.symm.trans ((p1.symm.append_left s).trans p)).cons_inv
  ·have ms:=(lU (p.mem_iff.mpr (.head _))).resolve_right mr;have p1:=ag1 ms;have p2:=((p1.symm.append_right r).trans p).cons_inv;have h:=ih q.2 p2;rw[ZI p1];cases r with
   |nil=>exact Int.add_le_add_left h a
   |cons b r=>
    have hl:r.length<L.length:=ba (i5 _) (aq (i7 ..) (aD (da.symm.trans p2.length_eq)));show _<=(L.drop r.length).sum;rw[Cg hl];exact Gg (q.1 _ (S7 hl)) h
theorem PW:fg (C++s) A=fg C A++fg s A:=pW ..
theorem Rp(hC:C.Nodup)(hA:A.Nodup):l5 C A=(fg C A).length:=
 ((Gf (hA.filter _) (hC.filter _)).mpr λx=>by
  rw[oE,oE,kz,kz];exact And.comm).length_eq
structure rQ(S:Nat->Int):Prop where
 XY:∀a,a<5->∀b,b<5->a+b<=4->S (a+b)<=S a+b*(S (a+1) -S a)
 inc:∀a,a<4->0<=S (a+1) -S a
 pos:∀a,a<5->0<=S a
theorem aaP(H:rQ S)(hC:C.Nodup):∀{vs:List (List Nat×Nat)},(∀q∈vs,q.1.Nodup/\(fg (C++s) q.1).length<=4)->d6 S (C++s) vs<=(s.map λx=>jA S C x vs).sum+d6 S C vs:=by
 intro vs;induction vs with
 |nil=>
  intro _;show 0<=(s.map λ_=>(0:Int)).sum+0;rw[uS];induction s with
  |nil=>exact tB _|cons x s ih=>exact ic (ih nofun) (oF (Gb _).symm)
 |cons q vs ih=>
  intro h;have hq:=h q (.head _);have h1:=ih λq m=>h q (.tail _ m);have hb:=hq.2;rw[PW,da] at hb;show S (fg (C++s) q.1).length*q.2+d6 S (C++s) vs<=(s.map λx=>ux S C q x+jA S C x vs).sum+(S (fg C q.1).length*q.2+d6 S C vs);rw[NM,show(s.map (ux S C q)).sum=_ from X7,Rp hC hq.1,PW,da];have hf:=H.XY _ (kA (aq (cW ..) hb)) _ (kA (aq (i7 ..) hb)) hb;have:=Gg (Int.mul_le_mul_of_nonneg_right hf (fP q.2)) h1;rw[Ga,Int.mul_assoc] at this;exact ic this (oF ((af (· +_) (u7 ..)).trans Me))
theorem ϛ(H:rQ S){x:Nat}:∀{vs:List (List Nat×Nat)},(∀q∈vs,l5 C q.1<4)->0<=jA S C x vs:=by
 intro vs;induction vs with
 |nil=>exact λ_=>tB _
 |cons q vs ih=>
  intro h;refine K8 ?_ (ih λq m=>h q (.tail _ m));unfold ux;by_cases k:x∈q.1
  ·rw[iP k];exact Int.mul_nonneg (H.inc _ (h q (.head _))) (fP _)
  ·rw[iN k];exact tB _
theorem afh(H:rQ S):∀{vs:List (List Nat×Nat)},(∀q∈vs,(fg C q.1).length<=4)->0<=d6 S C vs:=by
 intro vs;induction vs with
 |nil=>exact λ_=>tB _|cons q vs ih=>exact λh=>K8 (Int.mul_nonneg (H.pos _ (kA (h q (.head _)))) (fP _)) (ih λq m=>h q (.tail _ m))
theorem d_{D:Nat}(H:rQ S)(R:rT n k C)(hv:∀q∈vs,q.1.Nodup/\(fg c q.1).length<=4){out:List Int}(hp:out.Perm ((gW (low C) (n-low C)).map (im D C (jA S C · vs))))(hs:out.Pairwise (· <=·))(hc:c∈dS n k C):d6 S c vs<=(out.drop (out.length- (k-C.length))).sum+d6 S C vs:=by
 obtain⟨s,ms,rfl⟩:=rn.mp hc;have h:=sJ ms;have ln:low C<=n:=aq (cW ..) R.room;obtain⟨r,pr⟩:=((Py (m:=n-low C) (lo:=low C) h.2.1 λx m=>⟨(h.2.2 x m).1,ba (h.2.2 x m).2 (aD (iK ln).symm)⟩).map (im D C (jA S C · vs))).exists_perm_append;have t:=abD (s:=s.map (im D C (jA S C · vs))) (r:=r) hs (pr.symm.trans hp.symm);have hl:=(pr.symm.trans hp.symm).length_eq;rw[da,bi,h.1] at hl;rw[<-hl,F7];refine ic (aaP H (kQ R.pj.up) hv) (Int.add_le_add_right (ic (oF (af yJ ?_)) t) _);exact pV λx m=>(iN λq=>cV _ (ba (HZ R.pj.up x q) (h.2.2 x m).1)).symm
end
section
variable{O:aK}{m j D:Nat}{v:PV}{c:List Nat}{r b:Bool}
noncomputable def H7(n:Nat):PV:=.list ((ax n).map λi:Nat=>.int i)
theorem aeK:(ax 6).map (λn=>(ax 6).map λk=>bm O NN IN [H7 (n+1),.int (k+1:Nat)] [])=(ax 6).map λn=>(ax 6).map λk=>some (PV.list ((cj (n+1) 0 (k+1)).map eK)):=⋯
theorem afm:(ax 7).all (λn=>(ax 7).all λk=>decide ((cj n 0 k).length<60))=true:=⋯
theorem ϩ(hn:n<7)(hk:k<7):(cj n 0 k).length<60:=cC (b7 (b7 afm n (dL hn)) k (dL hk))
theorem Bn(hk:k<=n):cj n 0 k≠[]:=CC (a:=ax k) (BO cF TV λ_ m=>⟨cu _,ba (eG m) hk⟩)
theorem Ee:dS n k []=cj n 0 k:=KS _
structure gf(n k:Nat)(vs:List (List Nat×Nat)):Prop where
 n6:n<7
 k1:1<=k
 kn:k<=n
 up:∀q∈vs,q.1.Pairwise (· < ·)
 lt:∀q∈vs,∀x∈q.1,x<n
 len:∀q∈vs,q.1.length<=3
 many:vs.length=2\/vs.length=3
theorem gf.comb(V:gf n k vs):(aI NN (j+1)).fn "combinations" [H7 n,.int k] []=some (.list ((cj n 0 k).map eK)):=by
 obtain⟨k,rfl⟩:=u6 (fO V.k1);obtain⟨n,rfl⟩:=u6 (fO (aq V.k1 V.kn));have hn:=agt V.n6;exact(⋯:_=bm (aI NN j) NN IN [H7 (n+1),.int (k+1:Nat)] []).trans (Gj.mp (Gj.mp aeK n (dL hn)) k (dL (aQ (KC V.kn) hn)))
theorem gf.J9(V:gf n k vs)(hC:C.Nodup):∀q∈vs,(fg C q.1).length<=4:=λq m=>aq (List.Nodup.length_le_of_subset (hC.filter _) λx m=>qI (eI m).2) (y6 (V.len q m))
theorem gf.MY(V:gf n k vs):∀q∈vs,BY C n q:=λq m=>⟨kA (aq (rm ..) (V.len q m)),kQ (V.up q m),V.lt q m⟩
theorem gf.iZ(V:gf n k vs):(cj n 0 k).length<60:=ϩ V.n6 (aQ V.kn V.n6)
theorem qz(h:c∈cj n 0 k):zG n c:=⟨(sJ h).2.1,λx m=>((sJ h).2.2 x m).2⟩
theorem gf.six(V:gf n k vs)(h:∀x∈c,x<n):∀x∈c,x<6:=λx m=>ba (h x m) (ju V.n6)
theorem Xe(R:rT n k C)(h:c∈dS n k C):c∈cj n 0 k:=by
 obtain⟨s,ms,rfl⟩:=rn.mp h;have h:=sJ ms;exact BO (by rw[da,h.1,iK R.len]) (Gq.mpr ⟨R.pj.up,h.2.1,λa ma b mb=>ba (HZ R.pj.up a ma) (h.2.2 b mb).1⟩) λx m=>⟨cu _,(lU m).elim (R.pj.lt x) λm=>(h.2.2 x m).2⟩
noncomputable def gJ(r:Bool):Str:=cond r "slav" "pav"
def rS(r:Bool):Nat->Int:=cond r Mm O3
noncomputable def rD(r:Bool):Nat:=cond r 105 12
def rF(r:Bool):List (Str×PV):=cond r Jo HX
theorem DO:iM (aI NN (k+3)) (gJ r) (rS r) (rD r):=r.rec VH ac'
theorem HH(h:Cv cv A):pM k (rD r) (gJ r) v cv:=r.rec (WH h) (Xk h)
theorem NH:(aI NN (k+2)).fn "get_marginal_scorefct" [.str (gJ r),.int m] []=some (fX (gJ r)):=r.rec aex V7
theorem Y6:(aI NN (k+1)).fn "Rule" [.str (gJ r)] []=some (.inst cL (rF r)):=r.rec Xl aeB
theorem aal:(ak (rF r) "verify_compute_parameters").isNone=true:=r.rec ⋯ ⋯
theorem Vz:yo O (rF r) (g8 b):=r.rec aed p_
noncomputable def afy(S:Nat->Int):Bool:=((ax 5).all λa=>(ax 5).all λb=> !decide (a+b<=4)||decide (S (a+b)<=S a+b*(S (a+1) -S a)))&&((ax 4).all λa=>decide (0<=S (a+1) -S a))&&(ax 5).all λa=>decide (0<=S a)
theorem Kb(h:afy S=true):rQ S:=by
 have h:=aW h;have g:=aW h.1;refine⟨λa ha b hb l=>?_,λa ha=>cC (b7 g.2 a (dL ha)),λa ha=>cC (b7 h.2 a (dL ha))⟩;have:=b7 (b7 g.1 a (dL ha)) b (dL hb);rw[dT l] at this;exact cC this
theorem t6:rQ (rS r):=Kb (r.rec ⋯ ⋯)
theorem ti:0<rD r/\rD r<=500:=r.rec (by decide) (by decide)
theorem Bs(V:gf n k vs)(H:iM (aI NN (j+3)) id S D)(h:Cv cv A)(a:zG n A)(pre:pM j D id (a7 n ns vs) cv):(aI NN (j+4)).fn "thiele_score" [.str id,a7 n ns vs,cv] []=some (fq D (d6 S A vs)):=by
 have e:=Dm a.up;have t:=aea H h (V.six a.lt) (by rw[e];exact V.J9 (kQ a.up)) pre;rw[e] at t;exact t
end
section
variable{j:Nat}{v:PV}{c:List Nat}{r b:Bool}
def yh(S:Nat->Int)(n k:Nat)(vs:List (List Nat×Nat)):List (List Nat):=dP (λc=>d6 S c vs) (cj n 0 k)
def Hw(n k:Nat)(vs:List (List Nat×Nat)):List (List Nat):=dP (λc=>d6 n8 c vs) (dP (λc=>d6 t5 c vs) (cj n 0 k))
def oQ(o:Option PV)(f:PV->PV)(W:List (List Nat)):Prop:=∃out:List (List Nat),o=some (f (.list (out.map PV.set)))/\out.Perm W
theorem oQ.of{o o':Option PV}{f g:PV->PV}{W:List (List Nat)}(h:oQ o f W)(k:∀l:List PV,o=some (f (.list l))->o'=some (g (.list l))):oQ o' g W:=h.imp λout e=>⟨k _ e.1,e.2⟩
theorem li(H:rQ S)(V:gf n k vs):∀c∈cj n 0 k,0<=d6 S c vs:=λc m=>afh H (V.J9 (kQ (qz m).up))
theorem HA{W:List (List Nat)}{w:List Nat->PV}(V:gf n k vs)(h:∀c∈W,c∈cj n 0 k)(n0:W≠[])(hz:W.length<=(cj n 0 k).length)(hw:∀c,Cv (w c) c):oQ ((aI NN (j+3)).fn "sorted_committees" [.list (W.map w)] []) (λv=>v) W:=by
 refine(QI (k:=j) (so:=λc=>c) n0 (aQ hz (eN V.iZ (by decide))) λc m=>⟨hw c,kQ (qz (h c m)).up,V.six (qz (h c m)).lt⟩).imp λout e=>⟨e.1,e.2.trans (.of_eq ?_)⟩;exact(pV λc m=>Dm (qz (h c m)).up).trans (List.map_id _)
theorem afc(V:gf n k vs):oQ ((aI NN (j+6)).fn "_thiele_methods_bruteforce" [] [("scorefct_id",.str (gJ r)),("profile",a7 n ns vs),("committeesize",.int k),("resolute",.bool false),("max_num_of_committees",.none)]) (λv=>.tup [v,.any]) (yh (rS r) n k vs):=
 (HA (j:=j+2) (w:=eK) V (λc m=>(eI m).1) (ue (li t6 V) (Bn V.kn)) (rm ..) .tup).of λl e=>
  (⋯:_=bm (aI NN (j+5)) NN AN [] [("scorefct_id",.str (gJ r)),("profile",a7 n ns vs),("committeesize",.int k),("resolute",.bool false),("max_num_of_committees",.none)]).trans
   (aab (qQ (k:=j+2) ti.1 ti.2) (V.comb (j:=j+4)) (eN V.iZ (by decide)) (λc m=>⟨Bs (j:=j+1) V DO (.tup c) (qz m) (HH (.tup c)),li t6 V c m⟩) e)
theorem QQ(V:gf n k vs):IM (aI NN (j+4)) (rD r) n (gJ r) (a7 n ns vs) (λC c=>jA (rS r) C c vs):=
 ⟨λh=>acF DO (aq (cy V.n6) (by decide)) V.MY h.lt,λ_=>ϛ t6 λq m=>(V.MY q m).l5⟩
def bxT(r:Bool)(n:Nat)(ns:PV)(vs:List (List Nat×Nat))(k:Nat)(C:List Nat):BX:=⟨gJ r,n,ns,vs,k,.set C,rD r⟩
theorem aez(V:gf n k vs):EI (aI NN (j+5)) (bxT r n ns vs k C) (λc=>d6 (rS r) c vs) λC=>im (rD r) C (jA (rS r) C · vs) where
 tofV:=qQ (k:=j+2) ti.1 ti.2
 th h _:=Bs (j:=j+1) V DO (.list _) h (HH (.list _))
 mt h _:=(QQ (j:=j+1) V).fn ⟨kQ h.up,h.lt⟩
 ub R _ hp hs c hc:=d_ t6 R (λq m=>⟨kQ (V.up q m),V.J9 (kQ (qz (Xe R hc)).up) q m⟩) hp hs hc
 Ru:=YW (k:=j+1) ti.1 ti.2
 nc:=Ao
 Dt:=eN V.n6 (by decide)
 kn:=V.kn
theorem Xp(V:gf n k vs):oQ ((aI NN (j+6)).fn "_thiele_methods_branchandbound" [] [("scorefct_id",.str (gJ r)),("profile",a7 n ns vs),("committeesize",.int k),("resolute",.bool false),("max_num_of_committees",.none)]) (λv=>.tup [v,.any]) (yh (rS r) n k vs):=by
 refine bE λgG hG=>?_;obtain⟨C,hC,hl,hs⟩:=af1 (k:=k) (qQ (k:=j+1) ti.1 ti.2) ti.1 (eN V.n6 (by decide)) (QQ (r:=r) (ns:=ns) (j:=j) V) V.kn (NH (k:=j+2));obtain⟨out,e,hp⟩:=QI (k:=j+1) (l:=[C]) (v:=lst) (so:=λc=>c) (SF _ _) (show(1:Nat)<64 by decide) λc m=>cY m▸⟨.list C,hC.nd,V.six hC.lt⟩;have eo:out=[d7 C]:=List.perm_singleton.mp hp;subst eo;have mC:d7 C∈cj n 0 k:=BO ((Do hC.nd).length_eq.trans hl) oH λx m=>⟨cu _,hC.lt x (tm.mp m)⟩;have hq:(aI NN (j+5)).fn "_seq_thiele_resolute" [.str (gJ r),a7 n ns vs,.int k] []=some (.tup [.list [.set (d7 C)],.any]):=(⋯:_=bm (aI NN (j+4)) NN Ag [.str (gJ r),a7 n ns vs,.int k] []).trans (hs _ e);obtain⟨best,hb,hr⟩:=Z5 (C:=d7 C) (aez (r:=r) (ns:=ns) (j:=j) (C:=d7 C) V) (ju V.n6) (Ee▸eN V.iZ (by decide)) V.k1 (Ee▸mC) (Ee▸li t6 V) (NH (k:=j+3)) hq (Bs (j:=j+1) V DO (.set _) (qz mC) (HH (.set _)));rw[Ee] at hb;have W:=HA (j:=j+2) (W:=best) (w:=lst) V (λc m=>(eI (hb.mem_iff.mp m)).1) (λq=>ue (li t6 V) (Bn V.kn) (List.Perm.eq_nil (q▸hb.symm))) (aq (aD hb.length_eq) (rm ..)) .list;exact hG (W.elim λout e=>⟨out,(⋯:_=bm (aI NN (j+5)) NN As [] [("scorefct_id",.str (gJ r)),("profile",a7 n ns vs),("committeesize",.int k),("resolute",.bool false),("max_num_of_committees",.none)]).trans (hr _ e.1),e.2.trans hb⟩)
theorem UW:∀{vs:List (List Nat×Nat)},vs.length=2\/vs.length=3->∃m,(aI NN (j+1)).fn "len" [a7 n ns vs] []=some (.int (m+1:Nat))
 |[a,b],_=>⟨1,ady⟩|[a,b,c],_=>⟨2,W6⟩|[],h=>absurd h (by decide)|[a],h=>absurd h (by show ¬(1=2\/1=3);decide)|a::b::c::d::l,h=>h.elim nofun nofun
theorem PO{fs:List (Str×PV)}{fu:Str}(V:gf n k vs)(F:yo (aI NN (j+1)) fs fu):bm (aI NN (j+1)) NN v6 [.inst cL fs] (sQ (a7 n ns vs) k fu)=some .none:=(UW V.many).elim λ_ h=>acD F V.k1 V.kn Ao h
theorem UY(V:gf n k vs):oQ ((aI NN (j+6)).fn (AC b) [] [("scorefct_id",.str (gJ r)),("profile",a7 n ns vs),("committeesize",.int k),("resolute",.bool false),("max_num_of_committees",.none)]) (λv=>.tup [v,.any]) (yh (rS r) n k vs):=b.rec (afc V) (Xp V)
theorem M6(V:gf n k vs):oQ ((aI NN (j+7)).fn "compute_thiele_method" [] (yb (gJ r) (a7 n ns vs) k (g8 b))) (λv=>v) (yh (rS r) n k vs):=(UY (b:=b) V).of λl e=>
 (⋯:_=bm (aI NN (j+6)) NN AO [] (yb (gJ r) (a7 n ns vs) k (g8 b))).trans (ZJ (b:=b) (Y6 (k:=j+5)) aal ((show _=bm (aI NN (j+5)) NN v6 [.inst cL (rF r)] (sQ (a7 n ns vs) k (g8 b)) by cases r<;>cases b<;>rfl').trans (PO (j:=j+4) V Vz)) e)
theorem c_(V:gf n k vs):oQ ((aI NN (j+8)).fn (cond r "compute_slav" "compute_pav") [a7 n ns vs,.int k] [("algorithm",.str (g8 b))]) (λv=>v) (yh (rS r) n k vs):=by
 cases r with
 |false=>exact(M6 (r:=false) (b:=b) V).of λl e=>(⋯:_=bm (aI NN (j+7)) NN B2 [a7 n ns vs,.int k] [("algorithm",.str (g8 b))]).trans (af2 e)|true=>exact(M6 (r:=true) (b:=b) V).of λl e=>(⋯:_=bm (aI NN (j+7)) NN BG [a7 n ns vs,.int k] [("algorithm",.str (g8 b))]).trans (V8 e)
theorem uC:rQ n8/\rQ t5:=⟨Kb ⋯,Kb ⋯⟩
theorem XM(V:gf n k vs):oQ ((aI NN (j+8)).fn "compute_adams" [a7 n ns vs,.int k] []) (λv=>v) (Hw n k vs):=by
 have e1:(aI NN (j+7)).fn "_adams_bruteforce" [a7 n ns vs,.int k,.bool false,.none] []=some (.list ((Hw n k vs).map PV.set)):=
  (⋯:_=bm (aI NN (j+6)) NN Aq [a7 n ns vs,.int k,.bool false,.none] []).trans (V6 (qQ (k:=j+3) (by decide) (by decide)) (qQ (k:=j+3) (by decide) (by decide)) (V.comb (j:=j+5)) (Bn V.kn) (eN V.iZ (by decide)) (λc m=>⟨Bs (j:=j+2) V S_ (.tup c) (qz m) (U9 (.tup c)),li uC.2 V c m⟩) (λc m=>⟨Bs (j:=j+2) V ae9 (.tup c) (qz m) (X2 (.tup c)),li uC.1 V c m⟩) Ao λc m=>by
   have a:=qz m;have:=Jq (k:=j+4) (nc:=.int n) (.tup c) (kQ a.up) (V.six a.lt) (.inr ⟨n,rfl,λx m=>ji (a.lt x m)⟩);rw[Dm a.up] at this;exact this)
 have sub:∀c∈dP (λc=>d6 t5 c vs) (cj n 0 k),c∈cj n 0 k:=λc m=>(eI m).1;exact(HA (j:=j+4) (w:=PV.set) V (λc m=>sub c (eI m).1) (ue (λc m=>li uC.1 V c (sub c m)) (ue (li uC.2 V) (Bn V.kn))) (aq (rm ..) (rm ..)) .set).of λl e=>
  (⋯:_=bm (aI NN (j+7)) NN B0 [a7 n ns vs,.int k] []).trans (afN (ae3 (k:=j+6)) (adX (k:=j+6)) ((⋯:_=bm (aI NN (j+6)) NN v6 [.inst cL p6] (sQ (a7 n ns vs) k (g8 false))).trans (PO (j:=j+5) V W3)) e1 e)
end
end
section
variable{q W:Nat->Nat->Int}{rk:Nat->Nat}{ps l:List Nat}{b K S:Nat}{T:Nat->Bool}
section
def fh(q:Nat->Nat->Int):Prop:=∀a j,q a (j+1)<q a j
variable{M M' t t':Nat->Nat}{a c i j:Nat}
theorem fh.En(h:fh q)(k:i<j):q a j<q a i:=by
 induction k with
 |refl=>exact h a i|step _ ih=>exact yK (h a _) ih
theorem fh.qk(h:fh q)(k:i<=j):q a j<=q a i:=(Nat.eq_or_lt_of_le k).elim (λe=>e▸tB _) λk=>mJ (h.En k)
def p9(q:Nat->Nat->Int)(rk M:Nat->Nat)(ps:List Nat)(t:Nat->Nat):Prop:=
 ∀a∈ps,∀b∈ps,a≠b->0<t a->t b<M b->q b (t b)<=q a (t a-1)/\(rk b<rk a->q b (t b)<q a (t a-1))
def A6(q:Nat->Nat->Int)(rk:Nat->Nat)(ps:List Nat)(t:Nat->Nat):Prop:=∀M,p9 q rk M ps t
def Fb(rk:Nat->Nat)(ps:List Nat):Prop:=∀a∈ps,∀b∈ps,rk a=rk b->a=b
theorem OS{GE:List Nat}(h:fh q)(inj:Fb rk ps)(hs:∀a∈GE,a∈ps)(F:p9 q rk M ps t)(F':p9 q rk M' GE t')(ha:a∈GE)(hb:b∈GE)(h1:t' b<t b)(h2:t a<t' a)(ma:t a<M a)(mb:t' b<M' b):False:=by
 have ne:a≠b:=λe=>oD h2 (e▸h1);have x:=F b (hs b hb) a (hs a ha) ne.symm (aQ (cu _) h1) ma;have y:=F' a ha b hb ne (aQ (cu _) h2) mb;have z1:q b (t b-1)<=q b (t' b):=h.qk (mP h1);have z2:q a (t' a-1)<=q a (t a):=h.qk (mP h2);rcases TW (rk a) (rk b) with r|r|r
 ·exact ir (ic z1 (ic y.1 z2)) (x.2 r)
 ·exact ne (inj a (hs a ha) b (hs b hb) r)
 ·exact ir x.1 (mH z1 (lG (y.2 r) z2))
noncomputable def su(t:Nat->Nat)(ps:List Nat):Nat:=(ps.map t).sum
theorem lS(h:∀a∈ps,t a<=t' a):su t ps<=su t' ps:=by
 induction ps with
 |nil=>exact bf _|cons c ps ih=>exact B8 (h c (.head _)) (ih λa m=>h a (.tail c m))
theorem Ϫ(h:su t ps<su t' ps):∃a∈ps,t a<t' a:=zj λn=>gK (lS λa m=>cZ λk=>n ⟨a,m,k⟩) h
theorem Ii(h:∀a∈ps,t a<=t' a)(hb:b∈ps)(k:t b<t' b):su t ps<su t' ps:=by
 induction ps with
 |nil=>exact mN hb
 |cons c ps ih=>
  have g:=lS λa m=>h a (.tail c m);rcases bw hb with rfl|m
  ·exact Nat.add_lt_add_of_lt_of_le k g
  ·exact Nat.add_lt_add_of_le_of_lt (h c (.head _)) (ih (λa m=>h a (.tail c m)) m)
theorem MT(h:su t ps<=su t' ps)(hb:b∈ps)(k:t' b<t b):∃a∈ps,t a<t' a:=zj λn=>gK h (Ii (λa m=>cZ λk=>n ⟨a,m,k⟩) hb k)
theorem A2(h:∀a∈ps,t a<=t' a)(e:su t ps=su t' ps)(ha:a∈ps):t a=t' a:=mM (h a ha) (cZ λk=>gE (Ii h ha k) e)
theorem qH:su (λi=>t i+t' i) ps=su t ps+su t' ps:=by
 induction ps with
 |nil=>rfl|cons c ps ih=>exact(af (t c+t' c+ ·) ih).trans (by rw[fC,TI (t' c),<-fC];rfl)
theorem yc(h:∀a∈ps,t a=t' a):su t ps=su t' ps:=af yJ (pV h)
theorem gu{n:Nat}:su (λ_=>n) ps=n*ps.length:=by
 induction ps with
 |nil=>rfl|cons c ps ih=>exact(af (n+ ·) ih).trans ((gj ..).trans (Nat.mul_succ ..).symm)
theorem Jn{P:Nat->Bool}:su t (ps.filter P)=su (λi=>if P i=true then t i else 0) ps:=by
 induction ps with
 |nil=>rfl
 |cons c ps ih=>
  cases h:P c with
  |true=>rw[tD h];exact(af (t c+ ·) ih).trans (af (· +_) (iP h).symm)|false=>rw[u8 (ne_true_of_eq_false h)];exact ih.trans ((f5 _).symm.trans (af (· +_) (iN (ne_true_of_eq_false h)).symm))
theorem Ej(m:a∈ps):t a<=su t ps:=by
 induction ps with
 |nil=>exact mN m|cons c ps ih=>exact(bw m).elim (λe=>e▸cW ..) λm=>aq (ih m) (i7 ..)
theorem Xs(h:fh q)(inj:Fb rk ps)(F:p9 q rk M ps t)(F':p9 q rk M ps t')(hm:∀a∈ps,t a<=M a)(CV:∀a∈ps,t' a<=M a)(hs:su t ps=su t' ps):∀a∈ps,t a=t' a:=λa ha=>A2 (λb hb=>cZ λk=>by
 obtain⟨a,ha,k'⟩:=MT (aD hs) hb k;exact OS h inj (λ_ m=>m) F F' ha hb k k' (ba k' (CV a ha)) (ba k (hm b hb))) hs ha
end
section
noncomputable def jI(t M:Nat->Nat)(l:List Nat):List Nat:=l.filter λi=>decide (t i<=M i)
noncomputable def cq(t M:Nat->Nat)(l:List Nat):List Nat:=l.filter λi=>decide (M i<t i)
def rL(bp:List Nat->Nat->Nat->Nat)(M:Nat->Nat):Nat->List Nat->Nat->Nat->Nat
 |0,_,_=>M|n+1,l,K=>if cq (bp l K) M l=[] then λi=>if i∈l then bp l K i else M i else rL bp M n (jI (bp l K) M l) (K-su M (cq (bp l K) M l))
structure mj(b B:Nat)(l:List Nat)(K:Nat):Prop where
 lo:b*l.length<=K
 one:1<=K
 hi:K<=B
structure Ji(q:Nat->Nat->Int)(rk:Nat->Nat)(b K:Nat)(l:List Nat)(t:Nat->Nat):Prop where
 sum:su t l=K
 lK:A6 q rk l t
 ge:∀i∈l,b<=t i
def AL(q:Nat->Nat->Int)(rk:Nat->Nat)(ps:List Nat)(bp:List Nat->Nat->Nat->Nat)(b B:Nat):Prop:=∀l K,l.Sublist ps->l≠[]->mj b B l K->Ji q rk b K l (bp l K)
variable{M t t':Nat->Nat}{a B c i K₀ n:Nat}{bp:List Nat->Nat->Nat->Nat}
theorem DW{f:Nat->Nat}:su f l=su f (cq t M l)+su f (jI t M l):=by
 refine y5 (yc λa _=>?_) (qH.trans (congr (af HAdd.hAdd Jn.symm) Jn.symm));by_cases k:M a<t a
 ·rw[iP (dT k),iN λh=>oh k (cC h)];rfl
 ·rw[iN λh=>k (cC h),iP (dT (cZ k)),f5]
theorem H1(s:l.Sublist ps)(nd:ps.Nodup):su (λi=>if i∈l then t i else M i) ps+su M l=su t l+su M ps:=by
 induction s with
 |slnil=>rfl
 | @cons l ps a s ih=>
  have nd:=iW nd;refine((fC ..).trans (congr (af HAdd.hAdd (iN λm=>nd.1 (s.mem m))) (ih nd.2))).trans (TI ..)
 | @cons_cons l ps a s ih=>
  have nd:=iW nd;have e:su (λi=>if i∈a::l then t i else M i) ps=su (λi=>if i∈l then t i else M i) ps:=yc λx m=>ite_congr (propext ⟨λh=>(bw h).resolve_left λe=>nd.1 (e▸m),.tail _⟩) (λ_=>rfl) λ_=>rfl;show(if a∈a::l then t a else M a)+su (λi=>if i∈a::l then t i else M i) ps+(M a+su M l)=t a+su t l+(M a+su M ps);rw[iP (.head _),e,ag2,ih nd.2,ag2]
theorem Ji.next(A:Ji q rk b K l t)(G:mj b B l K)(hc:c∈cq t M l):su M (cq t M l)<K/\mj b B (jI t M l) (K-su M (cq t M l)):=by
 have le:∀a∈cq t M l,M a<=t a:=λa m=>cy (cC (eI m).2);have h1:=Ii le hc (cC (eI hc).2);have e:=(A.sum.symm.trans (DW (t:=t) (M:=M)));have h2:su M (cq t M l)<K:=ba h1 (aq (cW ..) (aD e.symm));refine⟨h2,K5 ?_,rh h2,aq (kE ..) G.hi⟩;rw[e,gj];exact B8 (cy h1) (aq (aD gu.symm) (lS λa m=>A.ge a (eI m).1))
structure yw(q:Nat->Nat->Int)(rk M:Nat->Nat)(ps:List Nat)(K:Nat)(t:Nat->Nat):Prop where
 lK:p9 q rk M ps t
 sum:su t ps=K
 le:∀a∈ps,t a<=M a
def υ(q:Nat->Nat->Int)(rk M:Nat->Nat)(ps:List Nat)(K:Nat)(l:List Nat):Prop:=∀c∈ps,c∉l->0<M c->∀b∈l,∀t,su t l=K->A6 q rk l t->q b (t b)<q c (M c-1)
theorem aff(h:fh q)(nd:ps.Nodup)(inj:Fb rk ps)(A:AL q rk ps bp b B):∀{n:Nat} {l:List Nat} {K:Nat},l.length<n->l.Sublist ps->(l≠[]->mj b B l K)->su M l+K₀=su M ps+K->K<=su M l->υ q rk M ps K l->yw q rk M ps K₀ (rL bp M n l K):=by
 intro n;induction n with
 |zero=>exact λhn=>absurd hn (y9 _)
 |succ n ih=>
  intro l K hn s hG hK hM inv;show yw q rk M ps K₀ (if cq (bp l K) M l=[] then λi=>if i∈l then bp l K i else M i else rL bp M n (jI (bp l K) M l) (K-su M (cq (bp l K) M l)));by_cases hs:cq (bp l K) M l=[]
  ·rw[iP hs];have le:∀i∈l,bp l K i<=M i:=λi m=>cZ λk=>CC (pG ⟨m,dT k⟩:i∈cq (bp l K) M l) hs;by_cases hl:l=[]
   ·subst hl;have hK0:K=0:=Ub.mp hM;have ex:(λi=>if i∈[] then bp [] K i else M i)=M:=funext λi=>iN eX;rw[ex];exact⟨λa _ b _ _ _ eZ=>absurd eZ (cV _),by rw[hK0] at hK;exact((f5 _).symm.trans hK).symm,λa _=>bf _⟩
   ·have C:=A l K s hl (hG hl);refine⟨λa ha b hb ne h0 eZ=>?_,?_,λa m=>?_⟩
    ·by_cases pb:b∈l
     ·rw[iP pb] at eZ⊢;by_cases pa:a∈l
      ·rw[iP pa] at h0⊢;exact C.lK M a pa b pb ne h0 eZ
      ·rw[iN pa] at h0⊢;have:=inv a ha pa h0 b pb _ C.sum C.lK;exact⟨mJ this,λ_=>this⟩
     ·rw[iN pb] at eZ;exact absurd eZ (cV _)
    ·have e:=H1 (t:=bp l K) (M:=M) s nd;rw[C.sum,gj K,<-hK,gj] at e;exact K9 e
    ·by_cases pa:a∈l
     ·exact aq (aD (iP pa)) (le a pa)
     ·exact aD (iN pa)
  ·rw[iN hs];obtain⟨c,l',e⟩:=CB hs;have hc:c∈cq (bp l K) M l:=e▸ .head _;clear e l';have hl:l≠[]:=CC (eI hc).1;have C:=A l K s hl (hG hl);generalize bp l K=t at*;have N:=C.next (hG hl) hc;have eM:=DW (f:=M) (t:=t) (M:=M) (l:=l);have et:=C.sum.symm.trans (DW (f:=t) (t:=t) (M:=M) (l:=l));have sub:∀a∈jI t M l,a∈l:=λa m=>(eI m).1;have more:su M (cq t M l)<=su t (cq t M l):=lS λa m=>cy (cC (eI m).2);refine ih ?_ (u0.trans s) (λ_=>N.2) ?_ ?_ λd hd pd h0 b hb t' s' f'=>?_
   ·refine ba (ahe.mpr ⟨c,(eI hc).1,λk=>?_⟩) (ju hn);exact oh (cC (eI hc).2) (cC k)
   ·rw[<-Nat.add_sub_assoc (cy N.1),<-hK,eM,fC,F7]
   ·exact Uf.mpr (eM▸hM)
   ·have up:t b<=t' b:=cZ λk=>by
     obtain⟨a,ha,k'⟩:=MT (t:=t) (t':=t') (aq (K5 (aq (aD (gj ..)) (aq (mG more _) (aD et.symm)))) (aD s'.symm)) hb k;exact OS h (λa ha b hb=>inj a (s.mem ha) b (s.mem hb)) sub (C.lK λi=>t i+1) (f' λi=>t' i+1) ha hb k k' (i5 _) (i5 _)
    have hq:=h.qk (a:=b) up;by_cases dl:d∈l
    ·have lt:M d<t d:=om λk=>pd (pG ⟨dl,dT k⟩);have ne:d≠b:=λe=>pd (e▸hb);exact mH (ic hq ((C.lK λi=>t i+1) d dl b (sub b hb) ne (aQ (cu _) lt) (i5 _)).1) (h.En (ag3 h0 lt))
    ·exact mH hq (inv d hd dl h0 b (sub b hb) t C.sum C.lK)
end
section
noncomputable def iL(q:Nat->Nat->Int)(i:Nat):Nat->Int
 |0=>0|c+1=>iL q i c+q i c
noncomputable def sI(f:Nat->Int)(ps:List Nat):Int:=(ps.map f).sum
def ly(q:Nat->Nat->Int)(ps:List Nat)(x:Nat->Nat):Int:=sI (λi=>iL q i (x i)) ps
def lO(q:Nat->Nat->Int)(M:Nat->Nat)(ps:List Nat)(x:Nat->Nat):Prop:=∀a∈ps,∀b∈ps,a≠b->0<x a->x b<M b->q b (x b)<=q a (x a-1)
variable{M x y:Nat->Nat}{a i n d:Nat}{f g:Nat->Int}{r:Int}
theorem p9.opt(F:p9 q rk M ps x):lO q M ps x:=λa ha b hb n h k=>(F a ha b hb n h k).1
theorem Xb(h:∀a∈ps,f a<=g a):sI f ps<=sI g ps:=by
 induction ps with
 |nil=>exact tB _|cons c ps ih=>exact Gg (h c (.head _)) (ih λa m=>h a (.tail c m))
theorem yi(h:∀a∈ps,f a=g a):sI f ps=sI g ps:=af yJ (pV h)
theorem EL{f:Nat->Nat}:sI (λi=>r*(f i:Int)) ps=r*(su f ps:Int):=by
 induction ps with
 |nil=>exact(TX r).symm|cons c ps ih=>exact(af (r*(f c:Int)+ ·) ih).trans ((La ..).symm.trans (af (r* ·) (w3 ..).symm))
theorem l_(h:fh q)(h1:0<x i->r<=q i (x i-1))(h2:x i<y i->q i (x i)<=r):iL q i (y i)+r*(x i:Int)<=iL q i (x i)+r*(y i:Int):=by
 have mul (n:Nat):r*((n+1:Nat):Int)=r*(n:Int)+r:=by rw[w3];exact(La ..).trans (af _ (Kp r))
 generalize y i=n at*;generalize x i=m at*;rcases K7 m n with k|k
 ·obtain⟨d,rfl⟩:=TT k;clear k;induction d with
  |zero=>exact tB _
  |succ d ih=>
   have:=Gg (ih λl=>h2 (KN l)) (ic (h.qk (cW m d)) (h2 (qX (eE d))));rw[show m+(d+1)=(m+d)+1 from rfl,mul];show iL q i (m+d)+q i (m+d)+r*m<=_;rw[Gh,<-mQ];exact this
 ·obtain⟨d,rfl⟩:=TT k;clear k;induction d with
  |zero=>exact tB _
  |succ d ih=>
   have hr:r<=q i (n+d):=h1 (eE _);have:=Gg (ih (λl=>ic hr (h.qk (kE ..))) λl=>absurd l (gK (cW ..))) hr;rw[show n+(d+1)=(n+d)+1 from rfl,mul];show _<=iL q i (n+d)+q i (n+d)+r*n;rw[Gh,<-mQ];exact this
theorem Jj{f g:Nat->Int}:sI (λi=>f i+g i) ps=sI f ps+sI g ps:=NM
theorem Zk(h:fh q)(O:lO q M ps x)(hx:∀a∈ps,x a<=M a)(hy:∀a∈ps,y a<=M a)(hs:su y ps=su x ps):ly q ps y<=ly q ps x:=by
 by_cases e:∃b∈ps,x b<M b
 ·obtain⟨b0,hb0,lb0⟩:=e;have mb:∀{b},b∈ps.filter (λi=>decide (x i<M i))↔b∈ps/\x b<M b:=oE.trans (and_congr_right λ_=>decide_eq_true_iff);obtain⟨b,hb,ebl⟩:∃b∈ps.filter (λi=>decide (x i<M i)),∀c∈ps.filter (λi=>decide (x i<M i)),q c (x c)<=q b (x b):=(GK (sc:=λi=>q i (x i)) (m:=q b0 (x b0)) (l:=ps.filter λi=>decide (x i<M i))).elim (λe=>⟨b0,mb.mpr ⟨hb0,lb0⟩,λc m=>e▸sU.2 c m⟩) λ⟨b,m,e⟩=>⟨b,m,λc mc=>ic (sU.2 c mc) (oF e.symm)⟩;have hb:=mb.mp hb;have t:sI (λi=>iL q i (y i)+q b (x b)*(x i:Int)) ps<=sI (λi=>iL q i (x i)+q b (x b)*(y i:Int)) ps:=Xb λa ha=>by
   refine l_ h (λh0=>?_) λl=>ebl a (mb.mpr ⟨ha,ba l (hy a ha)⟩);by_cases k:a=b
   ·exact k▸h.qk (kE ..)
   ·exact O a ha b hb.1 k h0 hb.2
  rw[Jj,Jj,EL,EL,hs] at t;exact Int.le_of_add_le_add_right t
 ·have le:∀a∈ps,y a<=x a:=λa m=>aq (hy a m) (cZ λk=>e ⟨a,m,k⟩);exact oF (yi λa m=>af (iL q a) (A2 le hs m))
theorem PN(nd:ps.Nodup)(ha:a∈ps)(h:∀i,i≠a->f i=g i):sI f ps+g a=sI g ps+f a:=by
 induction ps with
 |nil=>exact mN ha
 |cons c ps ih=>
  have nd:=iW nd;show f c+sI f ps+g a=g c+sI g ps+f a;by_cases e:c=a
  ·subst e;rw[yi (f:=f) (g:=g) λi m=>h i λe=>nd.1 (e▸m),Gh,u7 (f c),mQ,u7 (f c),<-mQ]
  ·rw[h c e,mQ,mQ,ih nd.2 ((bw ha).resolve_left (gV e))]
noncomputable def pk(x:Nat->Nat)(a b i:Nat):Nat:=if i=a then x a-1 else if i=b then x b+1 else x i
theorem Si{F:Nat->Nat->Int}(nd:ps.Nodup)(ha:a∈ps)(hb:b∈ps)(ne:a≠b):sI (λi=>F i (pk x a b i)) ps+(F a (x a)+F b (x b))=sI (λi=>F i (x i)) ps+(F a (x a-1)+F b (x b+1)):=by
 have e1:=PN (f:=λi=>F i (pk x a b i)) (g:=λi=>if i=a then F a (x a) else F i (pk x a b i)) nd ha λi h=>(iN h).symm;have e2:=PN (f:=λi=>if i=a then F a (x a) else F i (pk x a b i)) (g:=λi=>F i (x i)) nd hb λi h=>by
  by_cases k:i=a
  ·rw[iP k,k]
  ·rw[iN k];unfold pk;rw[iN k,iN h]
 rw[iP rfl,show pk x a b a=x a-1 from iP rfl] at e1;rw[iN ne.symm,show pk x a b b=x b+1 from(iN ne.symm).trans (iP rfl)] at e2;rw[<-mQ,e1,Gh,e2,Gh,mQ]
theorem acu(nd:ps.Nodup)(hx:∀a∈ps,x a<=M a)(h:∀y:Nat->Nat,(∀a∈ps,y a<=M a)->su y ps=su x ps->ly q ps y<=ly q ps x):lO q M ps x:=λa ha b hb ne h0 ry=>by
 obtain⟨m,hm⟩:=u6 (fO h0);have e:=Si (F:=λi n=>iL q i n) (x:=x) nd ha hb ne;have es:=Si (F:=λ_ n=>(1:Int)*(n:Int)) (x:=x) nd ha hb ne;rw[EL,EL,hm] at es;have l:=h (pk x a b) (λi mi=>?_) (w0.mp ?_)
 ·rw[hm] at e⊢;have e:ly q ps (pk x a b)+(iL q a m+q a m+iL q b (x b))=ly q ps x+(iL q a m+(iL q b (x b)+q b (x b))):=e;show q b (x b)<=q a m;lia
 ·unfold pk;by_cases k:i=a
  ·rw[iP k];exact aq (kE ..) (k▸hx i mi)
  ·rw[iN k];by_cases k2:i=b
   ·rw[iP k2];exact k2▸ry
   ·rw[iN k2];exact hx i mi
 ·show((su (pk x a b) ps:Nat):Int)=(su x ps:Nat);lia
end
section
variable{M x g:Nat->Nat}{A B:List Nat}{a:Nat}
theorem ι(ha:a∈A)(hb:b∉A):(A++B).idxOf a<(A++B).idxOf b:=by
 rw[List.idxOf_append,List.idxOf_append,iP ha,iN hb];exact ba (List.idxOf_lt_length_of_mem ha) (i7 ..)
noncomputable def xV(p:Nat->Bool)(ps:List Nat):List Nat:=ps.filter p++ps.filter λi=> !p i
structure JX(q:Nat->Nat->Int)(M x:Nat->Nat)(a b:Nat):Prop where
 ne:a≠b
 pos:0<x a
 room:x b<M b
 eq:q b (x b)=q a (x a-1)
open Classical in
theorem YV(h:fh q)(O:lO q M ps x):∃p:Nat->Bool,p9 q (λi=>(xV p ps).idxOf i) M ps x:=by
 have key {a b c:Nat} (ha:a∈ps) (hc:c∈ps) (t:JX q M x a b) (u:JX q M x b c):False:=by
  have s1:q c (x c)<q a (x a-1)->False:=λz=>by
   have:=h.qk (a:=b) (kE (x b) 1);exact absurd (lG z (oF t.eq.symm)) (ir (u.eq▸this))
  have s2:q b (x b)<q c (x c):=u.eq▸h.En (ze u.pos Lb);by_cases e:a=c
  ·exact s1 (e▸h.En (ze t.pos Lb))
  ·exact ir (O a ha c hc e t.pos u.room) (t.eq▸s2)
 refine⟨λa=>decide (∃b∈ps,JX q M x a b),λa ha b hb ne h0 hm=>⟨O a ha b hb ne h0 hm,λr=>?_⟩⟩;refine Ue.mpr ⟨O a ha b hb ne h0 hm,λe=>oD r (ι (pG ⟨ha,dT ⟨b,hb,ne,h0,hm,e⟩⟩) λm=>?_)⟩;obtain⟨c,hc,u⟩:=cC (eI m).2;exact key ha hc ⟨ne,h0,hm,e⟩ u
noncomputable def Ad:List Nat->List Nat->Bool
 |a::l,b::m=>decide (a<b)||(decide (a=b)&&Ad l m)|_,_=>true
theorem aci(h:fh q)(F:p9 q rk M ps g)(O:lO q M ps x)(hg:∀a∈ps,g a<=M a)(hx:∀a∈ps,x a<=M a):∀{l:List Nat},l.Pairwise (λa b=>rk a<rk b)->(∀a∈l,a∈ps)->su x l=su g l->Ad (l.map x) (l.map g)=true:=by
 intro l;induction l with
 |nil=>exact λ_ _ _=>rfl
 |cons a l ih=>
  intro hp hl hs;have hp:=lY hp;have hs:x a+su x l=g a+su g l:=hs;show(decide (x a<g a)||(decide (x a=g a)&&Ad (l.map x) (l.map g)))=true;rcases TW (x a) (g a) with k|k|k
  ·rw[dT k];rfl
  ·rw[k] at hs;rw[dF (gK (aD k.symm)),dT k,ih hp.2 (λb m=>hl b (.tail _ m)) (K9 hs)];rfl
  ·exfalso;obtain⟨b,hb,k'⟩:=Ϫ (ps:=l) (t:=x) (t':=g) (by lia);have ha:=hl a (.head _);have ry:=hl b (.tail _ hb);have ne:a≠b:=λe=>oD k (e▸k');have z1:=(F b ry a ha ne.symm (aQ (cu _) k') (ba k (hx a ha))).2 (hp.1 b hb);have z2:=O a ha b ry ne (aQ (cu _) k) (ba k' (hg b ry));exact ir z2 (mH (h.qk (mP k)) (lG z1 (h.qk (mP k'))))
end
section
noncomputable def bF(W:Nat->Nat->Int)(S:Nat)(m:Int)(i:Nat):Nat:=((ax S).filter λj=>decide (m<W i j)).length
noncomputable def bG(W:Nat->Nat->Int)(S:Nat)(m:Int)(i:Nat):Bool:=(ax S).any λj=>decide (W i j=m)
noncomputable def lJ(T:Nat->Bool)(l:List Nat)(r:Nat):List Nat:=(l.filter T).take r
def fy(W:Nat->Nat->Int)(S:Nat)(m:Int)(l:List Nat)(K i:Nat):Nat:=bF W S m i+if i∈lJ (bG W S m) l (K-su (bF W S m) l) then 1 else 0
structure iQ(W:Nat->Nat->Int)(S:Nat)(m:Int)(l:List Nat)(K:Nat):Prop where
 lo:su (bF W S m) l<K
 hi:K<=su (bF W S m) l+(l.filter (bG W S m)).length
 le:K<=S
variable{i j a r:Nat}{m:Int}{p:Nat->Bool}
theorem Nc(h:∀j,p (j+1)=true->p j=true):(ax S).filter p=ax ((ax S).filter p).length/\((ax S).filter p).length<=S:=by
 induction S with
 |zero=>exact⟨rfl,bf _⟩
 |succ S ih=>
  rw[CE,pW];cases e:p S with
  |false=>rw[u8 (ne_true_of_eq_false e),CF,gO];exact⟨ih.1,y6 ih.2⟩
  |true=>
   have down:∀d,∀j,j+d=S->p j=true:=λd=>by
    induction d with
    |zero=>exact λj k=>(af p k).trans e|succ d ih=>exact λj k=>h j (ih (j+1) ((wM ..).trans k))
   rw[Go.mpr λj m=>down (S-j) j (iK (cy (eG m))),tD e,CF,da,cF];exact⟨CE.symm,bf _⟩
theorem uD(h:fh W)(hj:j<S):m<W i j↔j<bF W S m i:=by
 have z:=(Nc (S:=S) (p:=λj=>decide (m<W i j)) λj k=>dT (yK (cC k) (h i j))).1;refine KW ⟨λk=>?_,λk=>?_⟩ Lc
 ·exact z▸pG ⟨dL hj,dT k⟩
 ·exact cC (eI (z▸k:j∈(ax S).filter λj=>decide (m<W i j))).2
theorem Rl(h:fh W):bF W S m i<=S:=(Nc (S:=S) (p:=λj=>decide (m<W i j)) λj k=>dT (yK (cC k) (h i j))).2
theorem R4(h:i∈lJ T l r):i∈l/\T i=true:=eI (Ld h)
theorem adS(hp:l.Pairwise λa b=>rk a<rk b)(ha:a∈lJ T l r)(hb:b∈l)(tb:T b=true)(eZ:rk b<rk a):b∈lJ T l r:=by
 have hp:=hp.filter T;have mb:b∈l.filter T:=pG ⟨hb,tb⟩;rw[<-TC r (l.filter T)] at hp mb;exact(lU mb).elim (λh=>h) λh=>absurd eZ (oD ((Gq.mp hp).2.2 a ha b h))
theorem aeU(nd:l.Nodup):su (λi=>if i∈lJ T l r then 1 else 0) l=(lJ T l r).length:=by
 have:=H1 (t:=λ_=>1) (M:=λ_=>0) ((SM r _).trans (u0 (p:=T) (l:=l))) nd;rw[gu,gu,gu,Ca,Ca,zi] at this;exact this
theorem RP(L:iQ W S m l K)(nd:l.Nodup):su (fy W S m l K) l=K:=by
 refine qH.trans ?_;rw[aeU nd,show(lJ (bG W S m) l (K-su (bF W S m) l)).length=K-su (bF W S m) l from FS.trans (wV (ag0 (aq L.hi (aD (gj ..)))))];exact iK (cy L.lo)
theorem De(L:iQ W S m l K)(hi:i∈l):bF W S m i<S:=aQ (Ej hi) (ba L.lo L.le)
theorem D2(h:fh W)(hs:bF W S m i<S):W i (bF W S m i)<=m/\(bG W S m i=true↔W i (bF W S m i)=m):=by
 have le:=jB λk=>cV _ ((uD h hs).mp k);refine⟨le,λt=>?_,λe=>Lq.mpr ⟨_,dL hs,dT e⟩⟩;obtain⟨j,hj,e⟩:=Lq.mp t;have e:W i j=m:=cC e;have hj:¬j<bF W S m i:=λk=>CD m (lG ((uD h (eG hj)).mpr k) (oF e));exact zh le (ic (oF e.symm) (h.qk (cZ hj)))
theorem Wk{t:Nat->Nat}(ne:a≠b)(ha:a∈l)(hb:b∈l):t a+t b<=su t l:=by
 induction l with
 |nil=>exact mN ha
 |cons c l ih=>
  rcases bw ha with rfl|ma
  ·exact i3 (Ej ((bw hb).resolve_left ne.symm)) _
  ·rcases bw hb with rfl|mb
   ·exact aq (aD (gj ..)) (i3 (Ej ma) (t b))
   ·exact aq (ih ma mb) (i7 ..)
theorem f_(hW:∀a b i j,i<S->j<S->(W a i<=W b j↔q a i<=q b j))(h:fh W)(L:iQ W S m l K)(nd:l.Nodup)(hp:l.Pairwise λa b=>rk a<rk b):A6 q rk l (fy W S m l K):=λ_ a ha b hb ne h0 _=>by
 have ca:=De L ha;have cb:=De L hb;have na:=D2 h ca;have nb:=D2 h cb;have sa:fy W S m l K a-1<S:=by
  refine aQ ?_ ca;unfold fy;by_cases k:a∈lJ (bG W S m) l (K-su (bF W S m) l)
  ·rw[iP k];exact bf _
  ·rw[iN k];exact kE ..
 have la:m<=W a (fy W S m l K a-1)/\(W a (fy W S m l K a-1)=m->a∈lJ (bG W S m) l (K-su (bF W S m) l)):=by
  unfold fy at h0⊢;by_cases k:a∈lJ (bG W S m) l (K-su (bF W S m) l)
  ·rw[iP k,wX];exact⟨oF (na.2.mp (R4 k).2).symm,λ_=>k⟩
  ·rw[iN k] at h0⊢;have:=(uD h (m:=m) (i:=a) (aQ (kE ..) ca)).mpr (ze h0 Lb);exact⟨mJ this,λe=>absurd (e▸this) (CD _)⟩
 have lb:W b (fy W S m l K b)<=m/\(W b (fy W S m l K b)=m->bG W S m b=true/\b∉lJ (bG W S m) l (K-su (bF W S m) l)):=by
  unfold fy;by_cases k:b∈lJ (bG W S m) l (K-su (bF W S m) l)
  ·rw[iP k];have:=h b (bF W S m b);rw[nb.2.mp (R4 k).2] at this;exact⟨mJ this,λe=>absurd (e▸this) (CD _)⟩
  ·rw[iN k];exact⟨nb.1,λe=>⟨nb.2.mpr e,k⟩⟩
 have lt:rk b<rk a->W b (fy W S m l K b)<W a (fy W S m l K a-1):=λr=>Ue.mpr ⟨ic lb.1 la.1,λe=>by
  have t:=lb.2 (zh lb.1 (e▸la.1));exact t.2 (adS hp (la.2 (zh (e▸lb.1) la.1)) hb t.1 r)⟩
 have sb:fy W S m l K b<S:=ba (TU h0) (aq (Wk ne ha hb) (aq (aD (RP L nd)) L.le));exact⟨(hW b a _ _ sb sa).mp (ic lb.1 la.1),λr=>zg.mp λz=>ir ((hW a b _ _ sa sb).mpr z) (lt r)⟩
end
section
variable{i r:Nat}{m:Int}{fs:List Int}
noncomputable def qm(W:Nat->Nat->Int)(S:Nat)(l:List Nat):List Int:=l.flatMap λi=>(ax S).map (W i)
theorem Pv:((qm W S l).filter λw=>decide (m<w)).length=su (bF W S m) l:=by
 induction l with
 |nil=>rfl
 |cons c l ih=>
  show(((ax S).map (W c)++qm W S l).filter λw=>decide (m<w)).length=bF W S m c+su (bF W S m) l;rw[pW,da,ih,Lf,bi];rfl
theorem D9:(qm W S l).length=S*l.length:=by
 induction l with
 |nil=>rfl
 |cons c l ih=>
  show((ax S).map (W c)++qm W S l).length=_;rw[da,ih,bi,cF,gj];rfl
theorem Ϡ(h:fh W):bF W S (m-1) i<=bF W S m i+if bG W S m i=true then 1 else 0:=cZ λk=>by
 have z:∀j,j<bF W S (m-1) i->m<=W i j:=λj hj=>Int.le_of_sub_one_lt ((uD h (ba hj (Rl h))).mpr hj);have c:=aQ (cW ..) k;have cS:=ba c (Rl h);have a:=D2 h cS;cases t:bG W S m i with
 |true=>
  rw[t,iP rfl] at k;exact cV _ ((uD h cS).mp (mH (z _ k) (h i _)))
 |false=>exact dy (t.symm.trans (a.2.mpr (zh a.1 (z _ c))))
theorem Po:su (λi=>if T i=true then 1 else 0) l=(l.filter T).length:=by rw[<-Jn,gu,zi]
theorem aao(h:fh W)(hp:fs.Perm (qm W S l))(hs:fs.Pairwise (· <=·))(h0:0<K)(hl:l≠[])(hK:K<=S)(hm:fs[fs.length-K]?=some m):iQ W S m l K:=by
 obtain⟨eZ,hm⟩:=zq.mp hm;have e:fs.take (fs.length-K)++m::fs.drop (fs.length-K+1)=fs:=by rw[<-hm,<-Cg eZ,TC]
 have ld:(fs.drop (fs.length-K+1)).length+1=K:=by
  rw[FT,<-F4,TJ (aq hK (aq (TY S (ahf.mpr hl)) (aD (hp.length_eq.trans D9).symm))),F0 h0]
 generalize fs.take (fs.length-K)=A at e;generalize fs.drop (fs.length-K+1)=D at e ld;subst e;have hs:=Gq.mp hs;have hd:=lY hs.2.1;have c1:A.filter (λw=>decide (m<w))=[]:=Gp.mpr λw k e=>ir (hs.2.2 w k m (.head _)) (cC e);have g1:=(hp.filter λw=>decide (m<w)).length_eq.trans Pv;have g2:=(hp.filter λw=>decide (m-1<w)).length_eq.trans Pv;rw[pW,c1,K6,show(m::D).filter (λw=>decide (m<w))=D.filter (λw=>decide (m<w)) from u8 (ne_true_of_eq_false (dF (CD m)))] at g1;rw[pW,da,Go.mpr λw k=>dT (lG (Int.sub_lt_self m Int.one_pos) ((bw k).elim (λe=>oF e.symm) (hd.1 w)))] at g2;refine⟨?_,?_,hK⟩
 ·rw[<-g1,<-ld];exact kA (rm ..)
 ·rw[<-Po,<-qH,<-ld];exact aq (aq (i7 ..) (aD g2)) (lS λa _=>Ϡ h)
def vW(W:Nat->Nat->Int)(S:Nat)(m:Int)(l:List Nat)(K:Nat):Bool:=decide (K<su (bF W S m) l+(l.filter (bG W S m)).length)
theorem J'{f:Nat->Nat}:su f l.reverse=su f l:=((Gc l).map f).sum_nat
theorem acs(L:iQ W S m l K)(nd:l.Nodup):vW W S m l K=true↔∃i∈l,fy W S m l K i≠fy W S m l.reverse K i:=by
 have hr:0<K-su (bF W S m) l:=rh L.lo;have hz:K-su (bF W S m) l<=(l.filter (bG W S m)).length:=Uf.mpr L.hi;have e:vW W S m l K=decide (K-su (bF W S m) l<(l.filter (bG W S m)).length):=fA (TZ (cy L.lo)).symm;rw[e,decide_eq_true_iff];unfold fy lJ;rw[J',List.filter_reverse];have mem:∀{i},i∈l.filter (bG W S m)->i∈l:=λh=>(eI h).1;have nd:=nd.filter (bG W S m);generalize K-su (bF W S m) l=r at*;generalize l.filter (bG W S m)=F at*;constructor
 ·intro h;cases F with
  |nil=>exact absurd h (y9 _)
  |cons x F=>
   have x1:x∈(x::F).take r:=by
    cases r with
    |zero=>exact absurd hr (cV _)|succ r=>exact .head _
   have x2:x∉(x::F).reverse.take r:=λk=>by
    rw[List.reverse_cons,ag4 (aq (ju h) (aD T1.symm))] at k;exact(iW nd).1 (T2.mp (Ld k))
   exact⟨x,mem (.head _),λk=>by rw[iP x1,iN x2] at k;exact rg 0 (K9 k)⟩
 ·rintro⟨i,_,ne⟩;refine pT hz λe=>ne ?_;rw[zk (aD e.symm),zk (aq (aD T1) (aD e.symm)),ite_congr (propext T2) (λ_=>rfl) λ_=>rfl]
end
end
section
variable{j:Nat}{v t:Nat->Nat}{O:aK}{l:List Nat}{R:List PV}
section
noncomputable def c9(c:Bool)(j:Nat):Nat:=cond c (2*j+1) (j+1)
def dH(c:Bool)(K:Nat):Nat:=((ax K).map (c9 c)).foldl (· * ·) 1
def Wd(c:Bool)(K:Nat)(v:Nat->Nat)(i j:Nat):Int:=if j<K then((v i*(dH c K/c9 c j):Nat):Int) else-((j:Int)+1)
theorem VE:[false,true].all (λc=>(ax 8).all λK=>decide (dH c K<d4)&&(ax K).all λj=>decide (dH c K/c9 c j*c9 c j=dH c K)&&decide (0<dH c K/c9 c j)&&(decide (K<=j+1)||decide (dH c K/c9 c (j+1)<dH c K/c9 c j)))=true:=⋯
variable{c:Bool}{K i a b:Nat}
theorem BZ(hK:K<8):dH c K<d4/\∀j,j<K->dH c K/c9 c j*c9 c j=dH c K/\0<dH c K/c9 c j/\(j+1<K->dH c K/c9 c (j+1)<dH c K/c9 c j):=by
 have h:=aW (b7 (b7 VE c (by cases c<;>decide)) K (dL hK));refine⟨cC h.1,λj hj=>?_⟩;have h:=aW (b7 h.2 j (dL hj));have g:=aW h.1;exact⟨cC g.1,cC g.2,λq=>(mq h.2).elim (λh=>absurd (cC h) (oh q)) cC⟩
theorem Ft:0<c9 c j:=by cases c<;>exact eE _
theorem vF(h:j<K):Wd c K v i j=((v i*(dH c K/c9 c j):Nat):Int):=iP h
theorem DB(hK:K<8)(hv:∀i,1<=v i):fh (Wd c K v):=λa j=>by
 by_cases h:j+1<K
 ·rw[vF h,vF (Nat.lt_of_succ_lt h)];exact ji (Nat.mul_lt_mul_of_pos_left (((BZ hK).2 j (Nat.lt_of_succ_lt h)).2.2 h) (hv a))
 ·have n:((j+1:Nat):Int)=(j:Int)+1:=w3 j 1;rw[show Wd c K v a (j+1)= -(((j+1:Nat):Int)+1) from iN h,n];by_cases h2:j<K
  ·rw[vF h2];exact lG (T3 (ag5 (K8 (fP j) (by decide)) (by decide))) (fP _)
  ·rw[show Wd c K v a j= -((j:Int)+1) from iN h2];exact Int.neg_lt_neg (Int.lt_add_of_pos_right _ (by decide))
theorem Np(hK:K<8)(hi:i<K)(hj:j<K):Wd c K v a i<=Wd c K v b j↔v a*c9 c j<=v b*c9 c i:=by
 rw[vF hi,vF hj,T4];have x:=(BZ (c:=c) hK).2 i hi;have y:=(BZ (c:=c) hK).2 j hj;have e1:v a*(dH c K/c9 c i)*(c9 c i*c9 c j)=dH c K*(v a*c9 c j):=by rw[Lg,<-Lg (dH c K/c9 c i),x.1,Nat.mul_left_comm]
 have e2:v b*(dH c K/c9 c j)*(c9 c i*c9 c j)=dH c K*(v b*c9 c i):=by rw[Nat.mul_comm (c9 c i),Lg,<-Lg (dH c K/c9 c j),y.1,Nat.mul_left_comm]
 have p:0<dH c K:=x.1▸TG x.2.1 Ft;rw[<-Nat.mul_le_mul_right_iff (TG (Ft (c:=c) (j:=i)) (Ft (c:=c) (j:=j))),e1,e2,Nat.mul_le_mul_left_iff p]
def iA(c:Bool)(K:Nat)(v:Nat->Nat)(i:Nat):List Int:=(ax K).map (Wd c K v i)
end
section
structure DX where
 l:List Nat
 v:Nat->Nat
 K:Nat
 bM:Str
 ta:Bool
 c:Bool
 b:Nat
def DX.W(X:DX):Nat->Nat->Int:=Wd X.c X.K X.v
noncomputable def DX.vs(X:DX):List PV:=X.l.map λi=>.int (X.v i)
noncomputable def cN(l:List Int):List PV:=l.map PV.int
def bx:aN:=xQ.scope.names
def d3(i:Nat):aH:=aJ xQ.body i
noncomputable def dI:List Str:=["representatives"]
noncomputable def bN(X:DX)(R:AV)(r:ar):ar:=("votes",.pv (.list X.vs))::("seats",.pv (.int X.K))::("method",.pv (.str X.bM))::("tiesallowed",.pv (.bool X.ta))::("representatives",R)::r
noncomputable def aO(l:List Nat)(t:Nat->Nat):List PV:=l.map λi=>.int (t i)
def vG(c:Bool)(j:Nat):PV:=.tup [.int (c9 c j:Nat),.int 1]
def rU(c:Bool)(K:Nat):List PV:=(ax K).map (vG c)
variable{X:DX}{n:Nat}
theorem η(h:X.l.length<=100):aw O NN bx dI [("votes",.pv (.list X.vs)),("seats",.pv (.int X.K)),("method",.pv (.str X.bM)),("tiesallowed",.pv (.bool X.ta))] (d3 0)=nx (bN X (.own (aO X.l λ_=>0)) []):=by
 refine bg (n:=999999) (K:=bH bx "representatives" true) (p:=.list (aO X.l λ_=>0)) ⋯ ((⋯:_=fT O .Mult (.list [.int 0]) (.int (X.vs.length:Nat))).trans ((Jr (aq (aD (bi _)) h)).trans (af (λl=>some (PV.list l)) ?_))) ⋯;unfold dQ aO;rw[bi,List.map_const',List.map_const',cF];rfl
def tY(O:aK)(X:DX):Prop:=aw O NN bx dI (bN X (.own (aO X.l λ_=>0)) []) (d3 1)=nx (bN X (.own (aO X.l λ_=>X.b)) [("divisors",.pv (.list (rU X.c X.K)))])
def Rn:aH:=aJ (sB 0 (d3 1)) 0
def Bu:aH:=aJ (sB 1 (d3 1)) 0
theorem Ib{e:Expr}(hf:lD (gT e) []=true)(he:∀j:Nat,((fY (hF (gS e).names) (gT e) (.int j) []).bind λfR=>(pZ ((ip n O).t (gS e).names fR) false (gI e)).bind λok=>if ok=true then sr (ip n O) (gS e).names (bR 0 e) (gR e) fR else some [])=some [vG X.c j])(hK:X.K<8):((f9 0 X.K).bind λv=>over v (c7 O n e []))=some (.list (rU X.c X.K)):=
 have z:X.K<=aA:=aq (cy hK) (by decide)
 aG (nE z) ((tg _).trans (nJ (v:=λn:Nat=>.int n) (w:=vG X.c) hf (λj _=>he j) (aq (aD cF) z)))
theorem QS(hK:X.K<8)(hb:X.b=0)(hc:X.c=false)(hm:X.bM="dhondt"\/X.bM="jefferson"):tY O X:=by
 unfold tY;refine cM (n:=999999) (b:=true) ⋯ (by obtain⟨l,v,K,bM,ta,c,b⟩:=X;rcases hm with rfl|rfl<;>rfl') (aF (st:=Rn) (bg (n:=999998) (K:=bH bx "divisors" false) ⋯ ((show _=(f9 0 X.K).bind λv=>over v (c7 O 999997 (sE Rn) []) by rfl').trans (Ib ⋯ (λj=>by rw[hc];rfl') hK)) (by rw[hb];rfl')) rfl)
theorem OB(hK:X.K<8)(hb:X.b=0)(hc:X.c=true)(hm:X.bM="saintelague"\/X.bM="webster"):tY O X:=by
 unfold tY;refine cM (n:=999999) (b:=false) ⋯ (by obtain⟨l,v,K,bM,ta,c,b⟩:=X;rcases hm with rfl|rfl<;>rfl') (aF (st:=Bu) (cM (n:=999998) (b:=true) ⋯ (by obtain⟨l,v,K,bM,ta,c,b⟩:=X;rcases hm with rfl|rfl<;>rfl') (aF (st:=aJ (sB 0 Bu) 0) (bg (n:=999997) (K:=bH bx "divisors" false) ⋯ ((show _=(f9 0 X.K).bind λv=>over v (c7 O 999996 (sE (aJ (sB 0 Bu) 0)) []) by rfl').trans (Ib ⋯ (λj=>(show _=((((fw .Mult 2 j).bind λx=>fT O .Add x (.int 1)).bind λv=>some [v,.int 1]).bind (oJ .tup)).map λx=>[x] by rfl').trans (by rw[hc,pI (.inr (by decide))];rfl')) hK)) (by rw[hb];rfl')) rfl)) rfl)
def Na:aH:=aJ (sB 1 Bu) 0
def RH:aH:=aJ (sB 1 Na) 0
def Pe:aH:=aJ (sB 1 RH) 0
def zZ:aH:=aJ (sB 0 Pe) 0
theorem YZ(hK:X.K<8)(hb:X.b=1)(hc:X.c=false)(hm:X.bM="adams")(hl:X.l.length<=X.K)(hv:∀i,1<=X.v i):tY O X:=by
 obtain⟨l,v,K,bM,ta,c,b⟩:=X;obtain rfl:bM="adams":=hm;obtain rfl:b=1:=hb;obtain rfl:c=false:=hc;unfold tY;refine cM (n:=999999) (b:=false) ⋯ ⋯ (aF (st:=Bu) (cM (n:=999998) (b:=false) ⋯ ⋯ (aF (st:=Na) (cM (n:=999997) (b:=false) ⋯ ⋯ (aF (st:=RH) (cM (n:=999996) (b:=false) ⋯ ⋯ (aF (st:=Pe) (cM (n:=999995) (b:=true) ⋯ ⋯ (aF (st:=zZ) (cM (n:=999994) (b:=false) ⋯ ?_ ?_) rfl)) rfl)) rfl)) rfl)) rfl)
 ·exact(⋯:_=some (decide ((K:Int)<((DX.vs ⟨l,v,K,"adams",ta,false,1⟩).length:Nat)))).trans (af some (dF (ir (oW (aq (aD (bi _)) hl)))))
 ·refine(show _=aS (aw O 999994 bx dI) [aJ (sB 1 zZ) 0,aJ (sB 1 zZ) 1] (bN ⟨l,v,K,"adams",ta,false,1⟩ (.own (aO l λ_=>0)) []) by rfl').trans (aF (bg (n:=999993) (K:=bH bx "representatives" true) (p:=.list (aO l λ_=>1)) ⋯ ((show _=c7 O 999992 (sE (aJ (sB 1 zZ) 0)) [] (l.map λi=>.int (v i)) by rfl').trans (nJ ⋯ (λi _=>(show _=(if decide ((0:Int)<(v i:Nat))=true then some (PV.int (1:Nat)) else some (PV.int 0)).map λx=>[x] by rfl').trans (af (eP _) (iP (dT (ji (hv i):(0:Int)<(v i:Nat)))))) (aq (aq hl (cy hK)) (by decide)))) (show _=nx (bN ⟨l,v,K,"adams",ta,false,1⟩ (.own (aO l λ_=>1)) []) by rfl')) (aF (bg (n:=999993) (K:=bH bx "divisors" false) ⋯ ((show _=(f9 0 K).bind λv=>over v (c7 O 999992 (sE (aJ (sB 1 zZ) 1)) []) by rfl').trans (Ib (X:=⟨l,v,K,"adams",ta,false,1⟩) ⋯ (λj=>⋯) hK)) ⋯) rfl))
end
section
variable{X:DX}{n i m:Nat}{fs:List Int}{w:Int}
def hJ(i:Nat):aH:=aJ (sB 0 (d3 2)) i
def oT(X:DX)(x:Nat)(d:Option PV)(r:ar):ar:=("divisors",.pv (.list (rU X.c X.K)))::("common",.pv (.int x))::d.elim r λd=>("d",.pv d)::r
theorem MJ(h:j<8):((c9 X.c j:Nat):Int).natAbs<d4:=by
 refine aQ (?_:c9 X.c j<=2*8+1) (by decide);cases X.c
 ·exact aq h (by decide)
 ·exact yP (Kj 2 (cy h))
theorem Vy:∀{js:List Nat} {x:Nat} {d:Option PV},(∀j∈js,j<8)->∃d',dZ (aS (aw O 999998 bx dI) (sB 0 (hJ 1))) bx (sT (hJ 1)) (js.map (vG X.c)) (bN X (.own R) (oT X x d []))=nx (bN X (.own R) (oT X ((js.map (c9 X.c)).foldl (· * ·) x) d' [])):=by
 intro js;induction js with
 |nil=>exact λ{x d} _=>⟨d,rfl⟩
 |cons j js ih=>
  intro x d h;obtain⟨d',e⟩:=ih (x:=x*c9 X.c j) (d:=some (vG X.c j)) λj m=>h j (.tail _ m);exact⟨d',iz (σ₁:=bN X (.own R) (oT X x (some (vG X.c j)) [])) (by cases d<;>rfl') (aF (bg (n:=999997) (K:=bH bx "common" false) ⋯ ((⋯:_=fw .Mult x (c9 X.c j:Nat)).trans (pI (.inl (MJ (h j (.head _)))))) ⋯) rfl) e⟩
def Af:aH:=aJ (sB 1 (hJ 2)) 0
def j8(X:DX):List PV:=X.l.map λi=>.list (cN (iA X.c X.K X.v i))
theorem ab6(hK:X.K<8)(hj:j<X.K):fw .FloorDiv ((X.v i:Int)*1*(dH X.c X.K:Nat)) (c9 X.c j:Nat)=some (.int (X.W i j)):=by
 have f:=(BZ (c:=X.c) hK).2 j hj;have p:=Ft (c:=X.c) (j:=j);have p':((c9 X.c j:Nat):Int)≠0:=TD (zt.mpr p);rw[JS ⟨p',MJ (eN hj hK)⟩,show X.W i j=_ from vF hj,Kp,<-f.1,Nat.mul_div_cancel _ p,Fw _ (fP _)];exact af (λi=>some (PV.int i)) (by rw[T5,T5,<-Int.mul_assoc,Int.mul_ediv_cancel _ p'])
theorem VU(hK:X.K<8):c7 O 999995 (bR 0 (sE Af)) [("common",.int (dH X.c X.K:Nat)),("p",.int (X.v i))] (rU X.c X.K)=some (.list (cN (iA X.c X.K X.v i))):=by
 have:=nJ (O:=O) (n:=999995) (e:=bR 0 (sE Af)) (ρ:=[("common",.int (dH X.c X.K:Nat)),("p",.int (X.v i))]) (v:=vG X.c) (w:=λj=>.int (X.W i j)) (l:=ax X.K) ⋯ (λj m=>(show _=((fw .Mult ((X.v i:Int)*1) (dH X.c X.K:Nat)).bind λx=>fT O .FloorDiv x (.int (c9 X.c j:Nat))).map λx=>[x] by rfl').trans (af (eP λx=>[x]) (aG (pI (.inl (show((dH X.c X.K:Nat):Int).natAbs<d4 from(BZ (c:=X.c) hK).1))) (ab6 hK (eG m)):_=some (PV.int (X.W _ j))))) (aq (aD cF) (aq (cy hK) (by decide)));refine this.trans (af (λl=>some (PV.list l)) ?_);unfold cN iA;rw[jt];rfl
def M4(X:DX)(d:Option PV)(r:ar):ar:=oT X (dH X.c X.K) d (("weights",.pv (.list (j8 X)))::r)
theorem Τ{d:Option PV}(hK:X.K<8)(hl:X.l.length<=100)(hn:fG O 999998 bx (bA (bN X (.own R) (oT X (dH X.c X.K) d []))) (sE (hJ 2))=some false):aw O 999999 bx dI (bN X (.own R) (oT X (dH X.c X.K) d [])) (hJ 2)=nx (bN X (.own R) (M4 X d [])):=
 cM (n:=999998) (b:=false) ⋯ hn (aF (st:=Af) (bg (n:=999997) (K:=bH bx "weights" false) (p:=.list (j8 X)) ⋯ ((show _=c7 O 999996 (sE Af) [("divisors",.list (rU X.c X.K)),("common",.int (dH X.c X.K:Nat))] X.vs by cases d<;>rfl').trans (nJ ⋯ (λi _=>(show _=(c7 O 999995 (bR 0 (sE Af)) [("common",.int (dH X.c X.K:Nat)),("p",.int (X.v i))] (rU X.c X.K)).map λx=>[x] by rfl').trans (af (eP λx=>[x]) (VU hK))) (aq hl (by decide)))) (by cases d<;>rfl')) rfl)
def nQ:Expr:=bR 0 (sE (hJ 3))
theorem ad0(hK:X.K<8)(hl:X.l.length<=3):c7 O 999996 nQ [] (j8 X)=some (.list (cN (qm X.W X.K X.l))):=by
 have in_ (i:Nat):qR (sr (ip 999996 O) (gS nQ).names (bR 0 nQ) []) ((ip 999996 O).t (gS nQ).names) (gS nQ).names ((gR nQ).getD 0 ⟨lH,lH,[],0⟩).target [] [("l",.list (cN (iA X.c X.K X.v i)))] (cN (iA X.c X.K X.v i))=some (cN (iA X.c X.K X.v i)):=
  (IU (v:=PV.int) (f:=λw=>[PV.int w]) ⋯ λw _=>⋯).trans (af some List.map_eq_flatMap.symm)
 refine aG ((IU (v:=λi=>PV.list (cN (iA X.c X.K X.v i))) (f:=λi=>cN (iA X.c X.K X.v i)) ⋯ λi _=>(⋯:_=qR (sr (ip 999996 O) (gS nQ).names (bR 0 nQ) []) ((ip 999996 O).t (gS nQ).names) (gS nQ).names ((gR nQ).getD 0 ⟨lH,lH,[],0⟩).target [] [("l",.list (cN (iA X.c X.K X.v i)))] (cN (iA X.c X.K X.v i))).trans (in_ i)).trans (af some List.map_flatMap.symm)) (iP ?_);show(cN (qm X.W X.K X.l)).length<=aA;rw[show(cN (qm X.W X.K X.l)).length=X.K*X.l.length from(bi _).trans D9];exact aq (Cb (cy hK) hl) (by decide)
theorem Zo{nm:aN}{l:List Int}(hz:l.length<64):∃out:List Int,eD O nm (cN l) []=some (.list (cN out))/\out.Perm l/\out.Pairwise (· <=·):=by
 obtain⟨out,e,p,s⟩:=zY (O:=O) (nm:=nm) (v:=PV.int) (le:=λa b=>decide (a<b)) (l:=l) (k:=1) rfl (λ_=>rfl) (λa _ b _=>rfl) (λa _ b _ x=>dF (TQ (cC x))) (λa _ b _ c _ x y=>dF (ir (ic (jB (iO x)) (jB (iO y))))) hz;exact⟨out,e,p,s.imp λq=>jB (iO q)⟩
def C9(X:DX)(d:Option PV)(fs:List Int)(r:ar):ar:=oT X (dH X.c X.K) d (("weights",.pv (.list (j8 X)))::("flatweights",.pv (.list (cN fs)))::r)
theorem abv{d:Option PV}(hK:X.K<8)(hl:X.l.length<=3):∃fs:List Int,fs.Perm (qm X.W X.K X.l)/\fs.Pairwise (· <=·)/\aw O 999999 bx dI (bN X (.own R) (M4 X d [])) (hJ 3)=nx (bN X (.own R) (C9 X d fs [])):=by
 obtain⟨fs,e,p,s⟩:=Zo (O:=O) (nm:=bx) (l:=qm X.W X.K X.l) (by rw[D9];exact aQ (Cb (cy hK) hl) (by decide));exact⟨fs,p,s,bg (n:=999998) (K:=bH bx "flatweights" false) ⋯ ((show _=(c7 O 999996 nQ [] (j8 X)).bind λv=>eH v λl=>eD O bx l [] by cases d<;>rfl').trans (aG (ad0 hK hl) e)) (by cases d<;>rfl')⟩
theorem I7:qq (aO l t)=some (su t l:Nat):=by
 induction l with
 |nil=>rfl
 |cons a l ih=>
  have h:((qd (aO l t)).map yJ)=some (su t l:Nat):=ih;refine(af (eP yJ) qY).trans ?_;show(((aO l t).mapM PV.ed).bind λr=>some ((t a:Int)::r)).map yJ=some (((t a+su t l:Nat)):Int);rw[w3];unfold qd at h;revert h;cases(aO l t).mapM PV.ed with
  |none=>exact nS|some r=>exact λh=>af (λx:Int=>some ((t a:Int)+x)) (ay h)
theorem adA{l:List PV}(h1:1<=j)(h:j<=l.length):bP (.list l) (.int (-(j:Int)))=l[l.length-j]?:=by
 refine aG (K:=λi=>l[i]?) (a:=l.length-j) ?_ rfl;show(if(decide (0<=if(-(j:Int))<0 then-(j:Int)+l.length else-(j:Int))&&decide ((if(-(j:Int))<0 then-(j:Int)+l.length else-(j:Int))<l.length))=true then some (if(-(j:Int))<0 then-(j:Int)+l.length else-(j:Int)).toNat else none)=_;have e: -(j:Int)+l.length=((l.length-j:Nat):Int):=by rw[Ge h,u7];rfl
 rw[iP (T3 (zt.mpr h1)),e,dT (fP _),dT (ji (ze (ba h1 h) h1))];rfl
theorem YS{d:Option PV}{K':Nat}(hs:su t X.l+K'=X.K)(h1:1<=K')(hl:K'<=fs.length)(hm:fs[fs.length-K']?=some w):aw O 999999 bx dI (bN X (.own (aO X.l t)) (C9 X d fs [])) (hJ 4)=nx (bN X (.own (aO X.l t)) (C9 X d fs [("minweight",.pv (.int w))])):=by
 refine tO (n:=999998) (K:=bH bx "minweight" false) (p:=.int w) ⋯ (by cases d<;>rfl') ((show _=(((qq (aO X.l t)).map PV.int).bind λb=>fT O .Add (.int (-(X.K:Int))) b).bind λb=>bP (.list (cN fs)) b by cases d<;>rfl').trans ?_) (by cases d<;>rfl') (by cases d<;>rfl');rw[I7];show bP (.list (cN fs)) (.int (-(X.K:Int)+(su t X.l:Nat)))=_;rw[show-(X.K:Int)+(su t X.l:Nat)= -(K':Int) by lia,adA (l:=cN fs) h1 (aq hl (aD (bi _).symm))];unfold cN;rw[bi,oy,hm];rfl
end
end
section
variable{O:aK}{X:DX}{t:Nat->Nat}{fs:List Int}{m:Int}{d o:Option PV}{tie:Bool}
section
variable{n i j p:Nat}{l:List Nat}
theorem sx{α:Type}{f:α->PV}{l:List α}{a:α}(h:l[i]?=some a):bP (.list (l.map f)) (.int i)=some (f a):=aG (K:=λj=>(l.map f)[j]?) (HU (ba (zq.mp h).1 (aD (bi _).symm))) (oy.trans (af (eP f) h))
theorem X_{nm:aN}{t:Expr}{ifs:List Expr}{ρ:bj}{body:bj->Option (List PV)}{te:bj->Expr->Option Bool}{a:PV}{src:List PV}(h:((fY (hF nm) t a ρ).bind λfR=>(pZ (te fR) false ifs).bind λok=>if ok=true then body fR else some [])=none):qR body te nm t ifs ρ (a::src)=none:=by
 show(if lD t ρ=true then _ else _)=_;by_cases q:lD t ρ=true
 ·rw[iP q];refine y5 ?_ (af (λx:Option (List PV)=>x.bind λhere=>(qR body te nm t ifs ρ src).map λmore=>here++more) h);rw[ag6];exact af _ (funext λσ=>(ag6 ..).symm)
 ·rw[iN q]
def EB:Expr:=sE (hJ 5)
def EM:Expr:=bR 0 (bR 1 (bR 0 EB))
theorem ZA(hK:(iA X.c X.K X.v p).length<=aA):c7 O 999994 EM [("minweight",.int m)] (cN (iA X.c X.K X.v p))=some (.list (cN ((iA X.c X.K X.v p).filter λw=>decide (m<w)))):=vQ (v:=PV.int) (w:=PV.int) (ok:=λw=>decide (m<w)) ⋯ (λw _=>(show _=((if decide (m<w)=false then some false else some true).bind λok=>if ok=true then some [PV.int w] else some []) by rfl').trans (by cases decide (m<w)<;>rfl)) hK
theorem acW(h:X.l[i]?=some p)(hK:X.K<8):((((bP (.list (aO X.l t)) (.int i)).bind λa=>((((bP (.list (j8 X)) (.int i)).bind λv=>over v (c7 O 999994 EM [("minweight",.int m)])).bind λv=>some [v]).bind λvs=>nj O "len" vs []).bind λb=>fT O .Add a b)).map λx=>[x])=some [PV.int ((t p+bF X.W X.K m p:Nat))]:=by
 rw[show bP (.list (aO X.l t)) (.int i)=some (.int (t p)) from sx h,show bP (.list (j8 X)) (.int i)=some (.list (cN (iA X.c X.K X.v p))) from sx h];show((((c7 O 999994 EM [("minweight",.int m)] (cN (iA X.c X.K X.v p))).bind λv=>some [v]).bind λvs=>nj O "len" vs []).bind λb=>fT O .Add (.int (t p)) b).map (λx=>[x])=_;rw[ZA (aq (aD ((bi _).trans cF)) (aq (cy hK) (by decide)))];refine af (λn:Int=>some [PV.int n]) (y5 (af (λn:Nat=>(t p:Int)+n) ((bi _).trans ?_)) (w3 ..).symm);unfold iA;rw[Lf,bi];rfl
def yk(X:DX)(d:Option PV)(fs:List Int)(m:Int)(r:ar):ar:=C9 X d fs (("minweight",.pv (.int m))::r)
theorem Ϙ(hK:X.K<8)(hl:X.l.length<=3):((f9 0 (X.vs.length:Nat)).bind λv=>over v (c7 O 999997 EB [("representatives",.list (aO X.l t)),("weights",.list (j8 X)),("minweight",.int m)]))=some (.list (aO X.l λi=>t i+bF X.W X.K m i)):=by
 have z:X.l.length<=aA:=aq hl (by decide);rw[show X.vs.length=X.l.length from bi _];refine aG (nE z) ((tg _).trans ((nJ (v:=λi:Nat=>.int i) (w:=λi=>.int ((t (X.l.getD i 0)+bF X.W X.K m (X.l.getD i 0):Nat))) ⋯ (λi hi=>?_) (aq (aD cF) z)).trans (af (λl=>some (PV.list l)) ?_)))
 ·have h:X.l[i]?=some (X.l.getD i 0):=by rw[tA,jM (eG hi)];rfl
  exact(show _=((((bP (.list (aO X.l t)) (.int i)).bind λa=>((((bP (.list (j8 X)) (.int i)).bind λv=>over v (c7 O 999994 EM [("minweight",.int m)])).bind λv=>some [v]).bind λvs=>nj O "len" vs []).bind λb=>fT O .Add a b)).map λx=>[x]) by rfl').trans (acW h hK)
 ·have:=af (List.map λp=>PV.int ((t p+bF X.W X.K m p:Nat))) (HC (l:=X.l) (d:=0));rw[jt] at this;exact this
theorem ac0(hK:X.K<8)(hl:X.l.length<=3)(h0:X.l≠[]):aw O 999999 bx dI (bN X (.own (aO X.l t)) (yk X d fs m [])) (hJ 5)=nx (bN X (.own (aO X.l λi=>t i+bF X.W X.K m i)) (yk X d fs m [])):=by
 refine tO (n:=999998) (K:=bH bx "representatives" true) (p:=.list (aO X.l λi=>t i+bF X.W X.K m i)) ⋯ ?_ ((show _=(f9 0 (X.vs.length:Nat)).bind λv=>over v (c7 O 999997 EB [("representatives",.list (aO X.l t)),("weights",.list (j8 X)),("minweight",.int m)]) by cases d<;>rfl').trans (Ϙ hK hl)) (by cases d<;>rfl') ?_
 ·refine(show _=(f9 0 (X.vs.length:Nat)).bind λv=>over v (c7 O 999997 EB [("weights",.list (j8 X)),("minweight",.int m)]) by cases d<;>rfl').trans ?_;rw[show X.vs.length=X.l.length from bi _];obtain⟨a,l,e⟩:=CB h0;refine aG (nE (aq hl (by decide))) ((tg _).trans ?_);rw[e,wK,yL];exact af (λx:Option (List PV)=>x.bind (oJ .list)) (X_ ⋯)
 ·refine(show _=bH bx "representatives" true (.list (aO X.l λi=>t i+bF X.W X.K m i),bN X (.qj (cf [aO X.l t] [] (.list (aO X.l λi=>t i+bF X.W X.K m i))) (aO X.l t)) (yk X d fs m [])) by cases d<;>rfl').trans ?_;cases cf [aO X.l t] [] (.list (aO X.l λi=>t i+bF X.W X.K m i))<;>cases d<;>rfl'
end
section
variable{i p:Nat}{l l1 l2:List Nat}{b:Bool}{op:iF}
def eW(X:DX)(d:Option PV)(fs:List Int)(m:Int)(tie:Bool)(o:Option PV):ar:=yk X d fs m (("ties",.pv (.bool tie))::o.elim [] λi=>[("i",.pv i)])
def jx:aH:=aJ (sB 0 (d3 4)) 0
def qp(i:Nat):aH:=aJ (sB 0 jx) i
theorem abK{l:List Int}:lB 4 (.int m) (cN l)=some (l.any λw=>decide (w=m)):=by
 induction l with
 |nil=>rfl|cons a l ih=>exact af (eP (or (a==m))) ih
theorem adw:fb O .In (.int m) (.list (cN (iA X.c X.K X.v p)))=some (bG X.W X.K m p):=abK.trans (af some (List.any_map ..))
theorem OP(h:X.l[i]?=some p)(hb:fb O op (.int (su t X.l:Nat)) (.int X.K)=some b):(((((qq (aO X.l t)).map PV.int).bind λa=>fb O op a (.int X.K)).bind λb=>if b=false then some false else((bP (.list (j8 X)) (.int i)).bind λv=>fb O .In (.int m) v).bind λb=>if b=false then some false else some true))=some (b&&bG X.W X.K m p):=by
 rw[I7,show bP (.list (j8 X)) (.int i)=some (.list (cN (iA X.c X.K X.v p))) from sx h];show((fb O op (.int (su t X.l:Nat)) (.int X.K)).bind λb=>if b=false then some false else(fb O .In (.int m) (.list (cN (iA X.c X.K X.v p)))).bind λb=>if b=false then some false else some true)=_;rw[hb,adw];cases b<;>cases bG X.W X.K m p<;>rfl
theorem DP(h:X.l[i]?=some p):fG O 999997 bx (bA (bN X (.own (aO X.l t)) (eW X d fs m tie (some (.int i))))) (sE (qp 0))=some ((((su t X.l:Nat):Int)==(X.K:Int))&&bG X.W X.K m p):=
 (show _=((((qq (aO X.l t)).map PV.int).bind λa=>fb O .Eq a (.int X.K)).bind λb=>if b=false then some false else((bP (.list (j8 X)) (.int i)).bind λv=>fb O .In (.int m) v).bind λb=>if b=false then some false else some true) by cases d<;>rfl').trans (OP h rfl)
theorem Hn(h:X.l[i]?=some p):fG O 999997 bx (bA (bN X (.own (aO X.l t)) (eW X d fs m tie (some (.int i))))) (sE (qp 1))=some (decide (((su t X.l:Nat):Int)<(X.K:Int))&&bG X.W X.K m p):=
 (show _=((((qq (aO X.l t)).map PV.int).bind λa=>fb O .Lt a (.int X.K)).bind λb=>if b=false then some false else((bP (.list (j8 X)) (.int i)).bind λv=>fb O .In (.int m) v).bind λb=>if b=false then some false else some true) by cases d<;>rfl').trans (OP h rfl)
theorem Wa(h:X.l[i]?=some p)(hT:bG X.W X.K m p=false):a9 O 999998 bx dI (bN X (.own (aO X.l t)) (eW X d fs m tie (some (.int i)))) (sB 0 jx)=nx (bN X (.own (aO X.l t)) (eW X d fs m tie (some (.int i)))):=
 (⋯:_=a9 O 999998 bx dI (bN X (.own (aO X.l t)) (eW X d fs m tie (some (.int i)))) [qp 0,qp 1]).trans (aF (jS (n:=999997) ⋯ ⋯ ((DP h).trans (by rw[hT,FJ]))) (aF (jS (n:=999997) ⋯ ⋯ ((Hn h).trans (by rw[hT,FJ]))) rfl))
theorem Y1(h:X.l[i]?=some p)(hT:bG X.W X.K m p=true)(hs:su t X.l=X.K)(ta:X.ta=true):a9 O 999998 bx dI (bN X (.own (aO X.l t)) (eW X d fs m tie (some (.int i)))) (sB 0 jx)=nx (bN X (.own (aO X.l t)) (eW X d fs m true (some (.int i)))):=by
 refine(⋯:_=a9 O 999998 bx dI (bN X (.own (aO X.l t)) (eW X d fs m tie (some (.int i)))) [qp 0,qp 1]).trans (aF (σ₁:=bN X (.own (aO X.l t)) (eW X d fs m true (some (.int i)))) (cM (n:=999997) (b:=true) ⋯ ((DP h).trans (by rw[hT,hs,beq_self_eq_true];rfl)) ?_) (aF (jS (n:=999997) ⋯ ⋯ ((Hn h).trans (by rw[hs,dF (CD _)];rfl))) rfl));obtain⟨l,v,K,bM,Ma,c,b⟩:=X;obtain rfl:Ma=true:=ta;cases tie<;>cases d<;>rfl'
theorem afS{f f':Nat->Nat}(nd:l.Nodup)(e:l=l1++p::l2)(h:∀x,x≠p->f x=f' x):(aO l f).set l1.length (.int (f' p))=aO l f':=by
 subst e;have nd:=w7.mp nd;unfold aO;rw[mR,mR,List.set_append_right _ _ (aD (bi _)),bi,zf];exact congr (af ag7 (pV λx m=>by rw[h x λe=>nd.2.2 x m p (.head _) e])) (af (PV.int (f' p):: ·) (pV λx m=>by rw[h x λe=>(iW nd.2.1).1 (e▸m)]))
theorem DT(e:l=l1++p::l2):l[l1.length]?=some p:=by rw[e,List.getElem?_append_right (bf _),zf];rfl
theorem afO{t':Nat->Nat}(nd:X.l.Nodup)(e:X.l=l1++p::l2)(hT:bG X.W X.K m p=true)(hs:su t X.l<X.K)(h:∀x,x≠p->t x=t' x)(hp:t' p=t p+1):a9 O 999998 bx dI (bN X (.own (aO X.l t)) (eW X d fs m tie (some (.int l1.length)))) (sB 0 jx)=nx (bN X (.own (aO X.l t')) (eW X d fs m tie (some (.int l1.length)))):=by
 have ha:=DT e;have it:bP (.list (aO X.l t)) (.int l1.length)=some (.int (t p)):=sx ha;have sa:jX (aO X.l t) (.int l1.length) (.int (t' p:Nat))=some (aO X.l t'):=(iP ⟨fP _,ji (ba (zq.mp ha).1 (aD (bi _).symm))⟩).trans (af some (afS nd e h));rw[hp] at sa;generalize l1.length=i at*;exact(⋯:_=a9 O 999998 bx dI (bN X (.own (aO X.l t)) (eW X d fs m tie (some (.int i)))) [qp 0,qp 1]).trans (aF (jS (n:=999997) ⋯ ⋯ ((DP ha).trans (by rw[kH λe=>gE hs (w0.mp e)];rfl))) (aF (cM (n:=999997) (b:=true) ⋯ ((Hn ha).trans (by rw[hT,dT (ji hs)];rfl)) (aF (st:=aJ (sB 0 (qp 1)) 0) (Hk (n:=999996) (x:="representatives") (op:=.Add) (k:=.int i) (w:=.int 1) (by cases d<;>rfl') it (by cases d<;>rfl') rfl ⋯ sa (by cases d<;>rfl')) rfl)) rfl))
end
section
variable{i p r:Nat}{l l1 l2 F:List Nat}{C:Nat->Nat}
noncomputable def tF(C:Nat->Nat)(F:List Nat)(r i:Nat):Nat:=C i+if i∈F.take r then 1 else 0
noncomputable def mA(F:List Nat)(r:Nat):Bool:=decide (r<F.length)
theorem Oz(nd:l.Nodup)(s:F.Sublist l):su (tF C F r) l=su C l+min r F.length:=by
 have:=H1 (t:=λ_=>1) (M:=λ_=>0) ((SM r F).trans s) nd;rw[gu,gu,gu,Ca,Ca,zi,FS] at this;exact qH.trans (af (su C l+ ·) this)
theorem Nl(nd:X.l.Nodup)(hs:su C X.l+r=X.K)(vm:r<=(l1.filter (bG X.W X.K m)).length->bG X.W X.K m p=true->X.ta=true)(e:X.l=l1++p::l2):a9 O 999998 bx dI (bN X (.own (aO X.l (tF C (l1.filter (bG X.W X.K m)) r))) (eW X d fs m (mA (l1.filter (bG X.W X.K m)) r) (some (.int l1.length)))) (sB 0 jx)=nx (bN X (.own (aO X.l (tF C ((l1++[p]).filter (bG X.W X.K m)) r))) (eW X d fs m (mA ((l1++[p]).filter (bG X.W X.K m)) r) (some (.int l1.length)))):=by
 have ha:=DT e;have sl:(l1++[p]).Sublist X.l:=e▸(List.Sublist.refl l1).append ((Tk l2).cons_cons p);have sF:(l1.filter (bG X.W X.K m)).Sublist X.l:=u0.trans ((ag8 ..).trans sl);have pF:p∉l1.filter (bG X.W X.K m):=λh=>(w7.mp (e▸nd)).2.2 p (eI h).1 p (.head _) rfl;have GF:=Oz (C:=C) (r:=r) nd sF;rw[pW];generalize l1.filter (bG X.W X.K m)=F at*;cases hT:bG X.W X.K m p with
 |false=>
  rw[u8 (ne_true_of_eq_false hT),CF,gO];exact Wa ha hT
 |true=>
  rw[tD hT,CF];by_cases k:r<=F.length
  ·rw[wV k] at GF;rw[show tF C (F++[p]) r=tF C F r from funext λi=>af (λl=>C i+if i∈l then 1 else 0) (ag4 k),show mA (F++[p]) r=true from dT (ba (kA k) (aD (da (as:=F) (bs:=[p])).symm))];exact Y1 ha hT (GF.trans hs) (vm k hT)
  ·have k:=om k;have e1:(F++[p]).take r=F++[p]:=zk (aq (aD da) k);have e2:F.take r=F:=zk (cy k);rw[T6 (cy k)] at GF;rw[show mA (F++[p]) r=mA F r from(dF (gK (aq (aD da) k))).trans (dF (oD k)).symm];refine afO nd e hT (by rw[GF,<-hs];exact T7 k _) (λx ne=>?_) ?_
   ·unfold tF;rw[e1,e2,ite_congr (propext (Lh.trans (or_iff_left λh=>ne (cY h)))) (λ_=>rfl) λ_=>rfl]
   ·unfold tF;rw[e1,e2,iP (fE _ (.head _)),iN pF]
theorem afo{T:Nat->Bool}(e:l=l1++p::l2)(hT:T p=true):(l1.filter T).length+1<=(l.filter T).length:=by
 rw[e,pW,tD hT,da,wK];exact i3 (eE _) _
theorem afX(nd:X.l.Nodup)(hs:su C X.l+r=X.K)(vm:X.ta=true\/(X.l.filter (bG X.W X.K m)).length<=r):∀{l2 l1:List Nat} {o:Option PV},X.l=l1++l2->∃o',dZ (aS (aw O 999998 bx dI) (sB 0 jx)) bx (sT jx) (aC (gW l1.length l2.length)) (bN X (.own (aO X.l (tF C (l1.filter (bG X.W X.K m)) r))) (eW X d fs m (mA (l1.filter (bG X.W X.K m)) r) o))=nx (bN X (.own (aO X.l (tF C (X.l.filter (bG X.W X.K m)) r))) (eW X d fs m (mA (X.l.filter (bG X.W X.K m)) r) o')):=by
 intro l2;induction l2 with
 |nil=>exact λ{l1 o} e=>⟨o,by rw[e,gO];rfl⟩
 |cons p l2 ih=>
  intro l1 o e;obtain⟨o',h⟩:=ih (l1:=l1++[p]) (o:=some (.int l1.length)) (e.trans (kx l1 [p] l2).symm);rw[da] at h;exact⟨o',iz (σ₁:=bN X (.own (aO X.l (tF C (l1.filter (bG X.W X.K m)) r))) (eW X d fs m (mA (l1.filter (bG X.W X.K m)) r) (some (.int l1.length)))) (by cases d<;>cases o<;>rfl') (Nl nd hs (λk hT=>vm.resolve_right λh=>oh (kA k) (aq (afo e hT) h)) e) h⟩
end
section
variable{K':Nat}{R:List PV}
theorem km{Y:ar->aH->aZ}{st:aH}{σ:ar}:aS Y [st] σ=Y σ st:=by
 show(Y σ st).bind (λq=>if q.1.hX=true then some (.next,q.2) else some q)=_;cases Y σ st with
 |none=>rfl
 |some q=>
  obtain⟨f,σ⟩:=q;cases f<;>rfl
structure rW(O:aK)(X:DX):Prop where
 pre:tY O X
 no:∀R x d,fG O 999998 bx (bA (bN X (.own R) (oT X x d []))) (sE (hJ 2))=some false
def I0(X:DX):ar:=[("divisors",.pv (.list (rU X.c X.K)))]
theorem IS{i:Nat}{r:ar}(hs:fG O 999999 bx (bA (bN X (.own (aO X.l t)) r)) (sE (d3 i))=((qq (aO X.l t)).map PV.int).bind λb=>fb O .Gt (.int X.K) b):fG O 999999 bx (bA (bN X (.own (aO X.l t)) r)) (sE (d3 i))=some (decide (su t X.l<X.K)):=hs.trans (by
 rw[I7];exact af some (fA u9))
inductive Z' (O:aK) (X:DX) (K':Nat):Prop
 |mk (fs:List Int) (m:Int) (d:Option PV) (L:iQ X.W X.K m X.l K') (e:aw O NN bx dI (bN X (.own (aO X.l λ_=>X.b)) (I0 X)) (d3 2)=nx (bN X (.own (aO X.l λi=>X.b+bF X.W X.K m i)) (yk X d fs m [])))
theorem NR(M:rW O X)(hK:X.K<8)(hv:∀i,1<=X.v i)(hl:X.l.length<=3)(h0:X.l≠[])(kG:X.b*X.l.length+K'=X.K)(h1:1<=K'):Z' O X K':=by
 obtain⟨d,e1⟩:=Vy (O:=O) (X:=X) (R:=aO X.l λ_=>X.b) (js:=ax X.K) (x:=1) (d:=none) λj m=>eN (eG m) hK;obtain⟨fs,p,s,e3⟩:=abv (O:=O) (X:=X) (R:=aO X.l λ_=>X.b) (d:=d) hK hl;have kk:K'<=X.K:=kG▸i7 ..;have hf:K'<=fs.length:=aq kk (aq (TY X.K (ahf.mpr h0)) (aD (p.length_eq.trans D9).symm));have hm:=jM (ze (ba h1 hf) h1);generalize fs[fs.length-K']'_=m at hm;have h7:X.b*X.l.length<X.K:=kG▸qX h1;refine⟨fs,m,d,aao (DB hK hv) p s h1 h0 kk hm,cM (n:=999999) (b:=true) ⋯ ((IS ⋯).trans (af some (dT (gu.symm▸h7)))) ?_⟩;refine(show _=aS (aw O 999999 bx dI) [hJ 1,hJ 2,hJ 3,hJ 4,hJ 5] (bN X (.own (aO X.l λ_=>X.b)) (oT X 1 none [])) by rfl').trans (aF (bg (n:=999998) (K:=fU (aw O 999998 bx dI) bx (sT (hJ 1)) (sB 0 (hJ 1))) (p:=.list (rU X.c X.K)) ⋯ ⋯ (s9 e1)) (aF (Τ hK (aq hl (by decide)) (M.no ..)) (aF e3 (aF (YS (by rw[gu];exact kG) h1 hf hm) (aF (ac0 hK hl h0) rfl)))))
theorem WN(h:X.ta=true\/tie=false):ck (aS (aw O NN bx dI) [d3 5,d3 6] (bN X (.own R) (eW X d fs m tie o)))=some (.list R):=by
 obtain⟨l,v,K,bM,ta,c,b⟩:=X;cases tie with
 |false=>cases d<;>cases o<;>cases ta<;>rfl'
 |true=>
  obtain rfl:ta=true:=h.resolve_right tf;cases d<;>cases o<;>rfl'
def Ea(O:aK)(X:DX)(g:Nat->Nat):Prop:=bm O NN xQ [.list X.vs,.int X.K,.str X.bM,.bool X.ta] []=some (.list (aO X.l g))
def yA(X:DX):ar:=[("votes",.pv (.list X.vs)),("seats",.pv (.int X.K)),("method",.pv (.str X.bM)),("tiesallowed",.pv (.bool X.ta))]
def yv:List aH:=[d3 0,d3 1,d3 2,d3 3,d3 4,d3 5,d3 6]
theorem I':bm O NN xQ [.list X.vs,.int X.K,.str X.bM,.bool X.ta] []=ck (a9 O NN bx dI (yA X) yv):=⋯
theorem QH(M:rW O X)(hl:X.l.length<=3):a9 O NN bx dI (yA X) yv=a9 O NN bx dI (bN X (.own (aO X.l λ_=>X.b)) (I0 X)) [d3 2,d3 3,d3 4,d3 5,d3 6]:=aF (η (aq hl (by decide))) (aF M.pre rfl)
theorem ML(M:rW O X)(hl:X.l.length<=3)(e:aw O NN bx dI (bN X (.own (aO X.l λ_=>X.b)) (I0 X)) (d3 2)=nx (bN X (.own (aO X.l t)) (yk X d fs m []))):a9 O NN bx dI (yA X) yv=a9 O NN bx dI (bN X (.own (aO X.l t)) (eW X d fs m false none)) [d3 4,d3 5,d3 6]:=(QH M hl).trans (aF e (aF (st:=d3 3) (σ₁:=bN X (.own (aO X.l t)) (eW X d fs m false none)) (by cases d<;>rfl') rfl))
theorem N7{r:aZ}(hl:X.l.length<=3)(eZ:su t X.l<X.K)(h:fU (aw O 999998 bx dI) bx (sT jx) (sB 0 jx) (.d8 0 X.l.length,bN X (.own (aO X.l t)) (eW X d fs m false none))=r):aw O NN bx dI (bN X (.own (aO X.l t)) (eW X d fs m false none)) (d3 4)=r:=
 cM (n:=999999) (b:=true) ⋯ ((IS (by cases d<;>rfl')).trans (af some (dT eZ))) ((⋯:_=aS (aw O 999999 bx dI) [jx] (bN X (.own (aO X.l t)) (eW X d fs m false none))).trans (km.trans (bg (n:=999998) (K:=fU (aw O 999998 bx dI) bx (sT jx) (sB 0 jx)) ⋯ ((show _=f9 0 (X.vs.length:Nat) by cases d<;>rfl').trans ((af (λn:Nat=>f9 0 n) (bi _)).trans (nE (aq hl (by decide))))) h)))
theorem aad(M:rW O X)(hl:X.l.length<=3)(hK:X.b*X.l.length=X.K):Ea O X λ_=>X.b:=by
 have no:∀{i:Nat} {r:ar},fG O 999999 bx (bA (bN X (.own (aO X.l λ_=>X.b)) r)) (sE (d3 i))=(((qq (aO X.l λ_=>X.b)).map PV.int).bind λb=>fb O .Gt (.int X.K) b)->fG O 999999 bx (bA (bN X (.own (aO X.l λ_=>X.b)) r)) (sE (d3 i))=some false:=λh=>(IS h).trans (af some (dF (by rw[gu,hK];exact cV _)));refine(I'.trans (af ck (QH M hl))).trans (dC (jS (n:=999999) ⋯ ⋯ (no ⋯)) (dC (st:=d3 3) (σ₁:=bN X (.own (aO X.l λ_=>X.b)) [("divisors",.pv (.list (rU X.c X.K))),("ties",.pv (.bool false))]) ⋯ (dC (jS (n:=999999) ⋯ ⋯ (no ⋯)) ?_)));rfl'
theorem aeL(M:rW O X)(hK:X.K<8)(hv:∀i,1<=X.v i)(nd:X.l.Nodup)(hl:X.l.length<=3)(h0:X.l≠[])(kG:X.b*X.l.length+K'=X.K)(h1:1<=K'):∃m,iQ X.W X.K m X.l K'/\(X.ta=true\/vW X.W X.K m X.l K'=false->Ea O X λi=>X.b+fy X.W X.K m X.l K' i):=by
 obtain⟨fs,m,d,L,e2⟩:=NR M hK hv hl h0 kG h1;refine⟨m,L,λvm=>?_⟩;have hr:su (bF X.W X.K m) X.l+(K'-su (bF X.W X.K m) X.l)=K':=iK (cy L.lo);have sC:su (λi=>X.b+bF X.W X.K m i) X.l=X.b*X.l.length+su (bF X.W X.K m) X.l:=qH.trans (af (· +_) gu);have et:mA (X.l.filter (bG X.W X.K m)) (K'-su (bF X.W X.K m) X.l)=vW X.W X.K m X.l K':=fA (TZ (cy L.lo));have eZ:su (λi=>X.b+bF X.W X.K m i) X.l<X.K:=sC▸ba (T7 L.lo _) (aD kG);obtain⟨o,e4⟩:=afX (O:=O) (X:=X) (fs:=fs) (m:=m) (d:=d) (C:=λi=>X.b+bF X.W X.K m i) (r:=K'-su (bF X.W X.K m) X.l) nd (by rw[sC,fC,hr,kG]) (vm.imp id λh=>cZ λk=>dy (h.symm.trans (et.symm.trans (dT k)))) (l2:=X.l) (l1:=[]) (o:=none) rfl;rw[et,show tF (λi=>X.b+bF X.W X.K m i) (List.filter (bG X.W X.K m) []) (K'-su (bF X.W X.K m) X.l)=λi=>X.b+bF X.W X.K m i from funext λi=>by unfold tF;rw[CF,u5,iN eX];rfl,show tF (λi=>X.b+bF X.W X.K m i) (X.l.filter (bG X.W X.K m)) (K'-su (bF X.W X.K m) X.l)=λi=>X.b+fy X.W X.K m X.l K' i from funext λi=>fC ..] at e4;exact(I'.trans (af ck (ML M hl e2))).trans (dC (N7 hl eZ (An (by rw[yQ];exact e4))) (WN (o:=o) vm))
end
end
section
variable{O:aK}{X:DX}{K S k b i:Nat}{m m':Int}{l:List Nat}{W:Nat->Nat->Int}{c:Bool}{v:Nat->Nat}{w:PV}
theorem Pk(h:fh W)(L:iQ W S m l K)(L':iQ W S m' l K):¬m<m':=λk=>by
 refine oh L.lo (aq L'.hi ?_);rw[<-Po,<-qH];refine lS λi hi=>?_;have a:=D2 h (De L' hi);have s:=De L' hi;have le:bF W S m' i<=bF W S m i:=cZ λq=>TQ k (lG ((uD h (eN q s)).mpr q) (jB λz=>cV _ ((uD h (eN q s)).mp z)));cases t:bG W S m' i with
 |false=>exact le|true=>exact(uD h s).mp (lG k (oF (a.2.mp t).symm))
theorem VW(h:fh W)(L:iQ W S m l K)(L':iQ W S m' l K):m=m':=zh (jB (Pk h L' L)) (jB (Pk h L L'))
open Classical in
def lM(W:Nat->Nat->Int)(S:Nat)(l:List Nat)(K:Nat):Int:=if h:∃m,iQ W S m l K then h.choose else 0
theorem J2(h:fh W)(L:iQ W S m l K):lM W S l K=m:=by
 have e:∃m,iQ W S m l K:=⟨m,L⟩;unfold lM;rw[dif_pos e];exact VW h e.choose_spec L
def rJ(c:Bool)(b:Nat)(v:Nat->Nat)(l:List Nat)(K i:Nat):Nat:=if b*l.length=K then b else b+fy (Wd c K v) K (lM (Wd c K v) K l (K-b*l.length)) l (K-b*l.length) i
def sX(c:Bool)(b:Nat)(v:Nat->Nat)(l:List Nat)(K:Nat):Bool:=if b*l.length=K then false else vW (Wd c K v) K (lM (Wd c K v) K l (K-b*l.length)) l (K-b*l.length)
structure oV(X:DX):Prop where
 G:mj X.b 6 X.l X.K
 v1:∀i,1<=X.v i
 nd:X.l.Nodup
 l3:X.l.length<=3
 l0:X.l≠[]
theorem oV.dec(P:oV X):fh X.W:=DB (aQ P.G.hi (by decide)) P.v1
theorem II(M:rW O X)(P:oV X)(e:X.b*X.l.length≠X.K):iQ X.W X.K (lM X.W X.K X.l (X.K-X.b*X.l.length)) X.l (X.K-X.b*X.l.length)/\(X.ta=true\/sX X.c X.b X.v X.l X.K=false->Ea O X (rJ X.c X.b X.v X.l X.K)):=by
 obtain⟨m,L,h⟩:=aeL M (aQ P.G.hi (by decide)) P.v1 P.nd P.l3 P.l0 (iK P.G.lo) (rh (pT P.G.lo e));have em:=J2 P.dec L;refine⟨em.symm▸L,λvm=>?_⟩;rw[show rJ X.c X.b X.v X.l X.K=λi=>X.b+fy X.W X.K m X.l (X.K-X.b*X.l.length) i from funext λi=>(iN e).trans (af (λm=>X.b+fy X.W X.K m X.l (X.K-X.b*X.l.length) i) em)];exact h (vm.imp_right λt=>((iN e).trans (af (λm=>vW X.W X.K m X.l (X.K-X.b*X.l.length)) em)).symm.trans t)
theorem Ny(M:rW O X)(P:oV X)(h:X.ta=true\/sX X.c X.b X.v X.l X.K=false):Ea O X (rJ X.c X.b X.v X.l X.K):=by
 by_cases e:X.b*X.l.length=X.K
 ·rw[show rJ X.c X.b X.v X.l X.K=λ_=>X.b from funext λi=>iP e];exact aad M P.l3 e
 ·exact(II M P e).2 h
def jF:aN:=JU.scope.names
def p8(i:Nat):aH:=aJ JU.body i
def Bq(X:DX)(r:ar):ar:=("method",.pv (.str X.bM))::("votes",.pv (.list X.vs))::("seats",.pv (.int X.K))::("threshold",.pv .none)::("tiesallowed",.pv (.bool X.ta))::r
def lN(X:DX):ar:=Bq X [("filtered_votes",.pv (.list X.vs))]
def J6:aH:=aJ (sB 1 (p8 1)) 0
def Im:aH:=aJ (sB 1 J6) 0
def xt:aH:=aJ (sB 0 Im) 0
structure I1(O:aK)(X:DX):Prop where
 t0:fG O 999999 jF (bA (lN X)) (sE (p8 1))=some false
 t1:fG O 999998 jF (bA (lN X)) (sE J6)=some false
 t2:fG O 999997 jF (bA (lN X)) (sE Im)=some true
theorem Pi(M:I1 O X)(h:O.fn "apply_threshold" [.list X.vs,.none] []=some (.list X.vs)):a9 O NN jF [] (Bq X []) [p8 0,p8 1]=sM O (ip 999996 O) jF (lN X) (sE xt):=
 aF (bg (n:=999999) (K:=bH jF "filtered_votes" false) ⋯ ((⋯:_=O.fn "apply_threshold" [.list X.vs,.none] []).trans h) (⋯:_=nx (lN X))) (km.trans (cM (n:=999999) (b:=false) ⋯ M.t0 ((⋯:_=aS (aw O 999999 jF []) [J6] (lN X)).trans (km.trans (cM (n:=999998) (b:=false) ⋯ M.t1 ((⋯:_=aS (aw O 999998 jF []) [Im] (lN X)).trans (km.trans (cM (n:=999997) (b:=true) ⋯ M.t2 ((⋯:_=aS (aw O 999997 jF []) [xt] (lN X)).trans (km.trans ⋯))))))))))
theorem NY:(aI NN (k+1)).fn "apply_threshold" [w,.none] []=some w:=⋯
noncomputable def nD:List Str:=["dhondt","jefferson","saintelague","webster","adams"]
noncomputable def dK(κ:Nat):Bool:=κ==2||κ==3
noncomputable def bK(κ:Nat):Nat:=if κ=4 then 1 else 0
def mX(κ:Nat)(l:List Nat)(v:Nat->Nat)(K:Nat)(ta:Bool):DX:=⟨l,v,K,nD.getD κ "",ta,dK κ,bK κ⟩
theorem zQ{P:Nat->Prop}(h0:P 0)(h1:P 1)(h2:P 2)(h3:P 3)(h4:P 4):∀j,j<5->P j:=vT (vR h0 h1 h2 h3) h4
theorem PK{κ:Nat}{ta:Bool}(h:κ<5):I1 O (mX κ l v K ta):=zQ (P:=λκ=>I1 O (mX κ l v K ta)) ⟨⋯,⋯,⋯⟩ ⟨⋯,⋯,⋯⟩ ⟨⋯,⋯,⋯⟩ ⟨⋯,⋯,⋯⟩ ⟨⋯,⋯,⋯⟩ κ h
theorem ae8{κ:Nat}{ta:Bool}{R:List PV}{x:Nat}{d:Option PV}(h:κ<5):fG O 999998 bx (bA (bN (mX κ l v K ta) (.own R) (oT (mX κ l v K ta) x d []))) (sE (hJ 2))=some false:=zQ (P:=λκ=>fG O 999998 bx (bA (bN (mX κ l v K ta) (.own R) (oT (mX κ l v K ta) x d []))) (sE (hJ 2))=some false) (by cases d<;>rfl') (by cases d<;>rfl') (by cases d<;>rfl') (by cases d<;>rfl') (by cases d<;>rfl') κ h
theorem A9{κ:Nat}{ta:Bool}(h:κ<5)(P:oV (mX κ l v K ta)):rW O (mX κ l v K ta):=by
 refine⟨?_,λR x d=>ae8 h⟩;have hK:K<8:=aQ P.G.hi (by decide);have hl:=P.G.lo;have hv:=P.v1;clear P;revert hl hv;exact zQ (P:=λκ=>bK κ*l.length<=K->(∀i,1<=v i)->tY O (mX κ l v K ta)) (λ_ _=>QS hK rfl rfl (.inl rfl)) (λ_ _=>QS hK rfl rfl (.inr rfl)) (λ_ _=>OB hK rfl rfl (.inl rfl)) (λ_ _=>OB hK rfl rfl (.inr rfl)) (λhl hv=>YZ hK rfl rfl rfl (aq (aD (zi _).symm) hl) hv) κ h
theorem abj{κ:Nat}(h:κ<5)(P:oV (mX κ l v K true)):(aI NN (k+3)).fn "compute" [.str (nD.getD κ ""),.list (l.map λi=>.int (v i)),.int K] []=some (.list (aO l (rJ (dK κ) (bK κ) v l K))):=
 (⋯:_=ck (a9 (aI NN (k+2)) NN jF [] (Bq (mX κ l v K true) []) [p8 0,p8 1])).trans (af ck ((Pi (PK h) (NY (k:=k+1))).trans (E8 ((⋯:_=bm (aI NN (k+1)) NN xQ [.list (mX κ l v K true).vs,.int K,.str (mX κ l v K true).bM,.bool true] []).trans (Ny (A9 h P) P (.inl rfl))))))
end
section
variable{O:aK}{i p f:Nat}{l s:List Nat}{t g:Nat->Nat}{st:aH}
section
variable{X:DX}{r k K κ:Nat}{l1 l2:List Nat}{C v:Nat->Nat}{fs:List Int}{m:Int}{d o:Option PV}{σ σ₁:ar}{Y:ar->aH->aZ}{ss:List aH}
def AF(o:aZ):Prop:=∃σ,o=some (.exc,σ)
theorem Rt(h:AF (Y σ st)):AF (aS Y (st::ss) σ):=h.imp λσ₁ h=>show(Y σ st).bind (λq=>if q.1.hX=true then aS Y ss q.2 else some q)=_ from aG h rfl
theorem Δ(h:X.l[i]?=some p)(hT:bG X.W X.K m p=true)(hs:su t X.l=X.K)(ta:X.ta=false):AF (a9 O 999998 bx dI (bN X (.own (aO X.l t)) (eW X d fs m false (some (.int i)))) (sB 0 jx)):=by
 have e:=cM (O:=O) (n:=999997) (nm:=bx) (mu:=dI) (st:=qp 0) (b:=true) (r:=some (.exc,bN X (.own (aO X.l t)) (eW X d fs m false (some (.int i))))) ⋯ ((DP (d:=d) (fs:=fs) (tie:=false) h).trans (by rw[hT,hs,beq_self_eq_true];rfl)) (by
  obtain⟨l,v,K,bM,Ma,c,b⟩:=X;obtain rfl:Ma=false:=ta;cases d<;>rfl')
 exact Rt ⟨_,e⟩
theorem Zi(nd:X.l.Nodup)(hs:su C X.l+r=X.K)(ta:X.ta=false)(hr:r<(X.l.filter (bG X.W X.K m)).length):∀{l2 l1:List Nat} {o:Option PV},X.l=l1++l2->(l1.filter (bG X.W X.K m)).length<=r->AF (dZ (aS (aw O 999998 bx dI) (sB 0 jx)) bx (sT jx) (aC (gW l1.length l2.length)) (bN X (.own (aO X.l (tF C (l1.filter (bG X.W X.K m)) r))) (eW X d fs m (mA (l1.filter (bG X.W X.K m)) r) o))):=by
 intro l2;induction l2 with
 |nil=>exact λ{l1 o} e k=>absurd (ba hr (aq (aD (by rw[e,gO])) k)) (cV _)
 |cons p l2 ih=>
  intro l1 o e k;have hb:fY (sf bx) (sT jx) (.int l1.length) (bN X (.own (aO X.l (tF C (l1.filter (bG X.W X.K m)) r))) (eW X d fs m (mA (l1.filter (bG X.W X.K m)) r) o))=some (bN X (.own (aO X.l (tF C (l1.filter (bG X.W X.K m)) r))) (eW X d fs m (mA (l1.filter (bG X.W X.K m)) r) (some (.int l1.length)))):=by cases d<;>cases o<;>rfl'
  by_cases q:bG X.W X.K m p=true/\r<=(l1.filter (bG X.W X.K m)).length
  ·have sF:(l1.filter (bG X.W X.K m)).Sublist X.l:=u0.trans (e▸ag8 ..);have z:=Δ (O:=O) (d:=d) (fs:=fs) (DT e) q.1 ((Oz (C:=C) (r:=r) nd sF).trans (by rw[wV q.2];exact hs)) ta;have tf:mA (l1.filter (bG X.W X.K m)) r=false:=dF (gK k);rw[tf] at hb⊢;obtain⟨σ,z⟩:=z;exact⟨σ,aG hb (aG z rfl)⟩
  ·have h:=ih (l1:=l1++[p]) (o:=some (.int l1.length)) (e.trans (kx l1 [p] l2).symm) (by
    rw[pW,da];cases hT:bG X.W X.K m p with
    |false=>rw[u8 (ne_true_of_eq_false hT)];exact k|true=>rw[tD hT];exact om λz=>q ⟨hT,z⟩)
   rw[da] at h;exact h.imp λσ h=>iz hb (Nl nd hs (λz hT=>absurd ⟨hT,z⟩ q) e) h
theorem abp(M:rW O X)(P:oV X)(ta:X.ta=false)(h:sX X.c X.b X.v X.l X.K=true):AF (a9 O NN bx dI (yA X) yv):=by
 by_cases e:X.b*X.l.length=X.K
 ·exact absurd ((iP e).symm.trans h) dy
 have hK:X.K<8:=aQ P.G.hi (by decide);have kG:=iK P.G.lo;obtain⟨fs,m,d,L,e2⟩:=NR M hK P.v1 P.l3 P.l0 kG (rh (pT P.G.lo e));have t:=(iN e).symm.trans h;rw[show lM (Wd X.c X.K X.v) X.K X.l (X.K-X.b*X.l.length)=m from J2 P.dec L] at t;have sC:su (λi=>X.b+bF X.W X.K m i) X.l=X.b*X.l.length+su (bF X.W X.K m) X.l:=qH.trans (af (· +_) gu);have z:=Zi (O:=O) (fs:=fs) (m:=m) (d:=d) (C:=λi=>X.b+bF X.W X.K m i) (r:=X.K-X.b*X.l.length-su (bF X.W X.K m) X.l) P.nd (by rw[sC,fC,iK (cy L.lo),kG]) ta ((TZ (cy L.lo)).mpr (cC t)) (l2:=X.l) (l1:=[]) (o:=none) rfl (cu _);rw[show tF (λi=>X.b+bF X.W X.K m i) (List.filter (bG X.W X.K m) []) (X.K-X.b*X.l.length-su (bF X.W X.K m) X.l)=λi=>X.b+bF X.W X.K m i from funext λi=>by unfold tF;rw[CF,u5,iN eX];rfl] at z;rw[ML M P.l3 e2];refine Rt (z.imp λσ z=>N7 P.l3 (sC▸ba (T7 L.lo _) (aD kG)) ((tg _).trans (aG (K:=kK _ _) (?_:_=some (fS.exc,σ)) rfl)));rw[yQ];exact z
structure W5(O:aK)(X:DX)(b:Bool):Prop where
 yes:b=true->O.fn "compute" [.str X.bM,.list X.vs,.int X.K] [("tiesallowed",.bool false)]=none/\O.nB "compute" [.str X.bM,.list X.vs,.int X.K] [("tiesallowed",.bool false)]=true
 no:b=false->∃p,O.fn "compute" [.str X.bM,.list X.vs,.int X.K] [("tiesallowed",.bool false)]=some p
theorem Yy(h:κ<5)(P:oV (mX κ l v K false)):W5 (aI NN (k+3)) (mX κ l v K false) (sX (dK κ) (bK κ) v l K):=by
 have f1:(aI NN (k+3)).fn "compute" [.str (mX κ l v K false).bM,.list (mX κ l v K false).vs,.int K] [("tiesallowed",.bool false)]=ck (a9 (aI NN (k+2)) NN jF [] (Bq (mX κ l v K false) []) [p8 0,p8 1]):=⋯;have f2:(aI NN (k+3)).nB "compute" [.str (mX κ l v K false).bM,.list (mX κ l v K false).vs,.int K] [("tiesallowed",.bool false)]=(a9 (aI NN (k+2)) NN jF [] (Bq (mX κ l v K false) []) [p8 0,p8 1]).any λr=>r.1.isExc:=⋯;have c:=Pi (PK (O:=aI NN (k+2)) (l:=l) (v:=v) (K:=K) (ta:=false) h) (NY (k:=k+1));have d1:cI (aI NN (k+2)) 999996 jF (bA (lN (mX κ l v K false))) (sE xt)=ck (a9 (aI NN (k+1)) NN bx dI (yA (mX κ l v K false)) yv):=⋯;refine⟨λt=>?_,λt=>⟨_,f1.trans (af ck (c.trans (E8 (d1.trans (I'.symm.trans (Ny (A9 h P) P (.inr t)))))))⟩⟩;obtain⟨σ,e⟩:=abp (A9 (O:=aI NN (k+1)) h P) P rfl t;have d2:raises (aI NN (k+2)) (ip 999996 (aI NN (k+2))) jF (bA (lN (mX κ l v K false))) (sE xt)=(a9 (aI NN (k+1)) NN bx dI (yA (mX κ l v K false)) yv).any λr=>r.1.isExc:=⋯;rw[e] at d1 d2;have x:sM (aI NN (k+2)) (ip 999996 (aI NN (k+2))) jF (lN (mX κ l v K false)) (sE xt)=some (.exc,lN (mX κ l v K false)):=by
  unfold sM;rw[show(ip 999996 (aI NN (k+2))).e jF (bA (lN (mX κ l v K false))) (sE xt)=none from d1,d2];rfl
 rw[c.trans x] at f1 f2;exact⟨f1,f2⟩
end
section
structure SX where
 n:Nat
 bM:Str
 v:Nat->Nat
 M:Nat->Nat
 ps:List Nat
def bV(n:Nat)(g:Nat->Nat):List PV:=dQ n λi=>.int (g i)
def dR:aN:=Aj.scope.names
def jT(i:Nat):aH:=aJ Aj.body i
def eA(i:Nat):aH:=aJ (sB 0 (jT 2)) i
noncomputable def gd:List Str:=["given"]
def eL(X:SX)(K:Int)(g:Nat->Nat)(l:List Nat)(r:ar):ar:=("method",.pv (.str X.bM))::("votes",.pv (.list (bV X.n X.v)))::("lengths",.pv (.list (bV X.n X.M)))::("seats",.pv (.int K))::("order",.pv (.list (aC X.ps)))::("given",.own (bV X.n g))::("left",.pv (.list (aC l)))::r
noncomputable def nY(a b c:Option PV):ar:=a.elim [] λa=>("told",.pv a)::b.elim [] λb=>("short",.pv b)::c.elim [] λc=>[("party",.pv c)]
abbrev S3:Type:=Option (PV×PV×Option PV)
variable{X:SX}{K:Int}{r:S3}{w a:PV}{b c:Option PV}
theorem Ig(h:i<X.n):bP (.list (bV X.n g)) (.int i)=some (.int (g i)):=DJ (h:=λi=>.int (g i)) h
theorem Hc{x:Nat}(h:i<X.n):jX (bV X.n g) (.int i) (.int x)=some (bV X.n (gx g i x)):=(GY h).trans (af (λh=>some (dQ X.n h)) (funext λc=>(apply_ite (λn:Nat=>PV.int n) ..).symm))
theorem aaJ(hl:∀i∈l,i<X.n)(hz:l.length<=aA)(hc:O.fn "compute" [.str X.bM,.list (l.map λi=>.int (X.v i)),.int K] []=some w):aw O (f+40) dR gd (eL X K g l (nY (r.map (·.1)) (r.map (·.2.1)) (r.bind (·.2.2)))) (eA 0)=nx (eL X K g l (nY (some w) (r.map (·.2.1)) (r.bind (·.2.2)))):=by
 have e:c7 O (f+37) (bR 1 (sE (eA 0))) [("votes",.list (bV X.n X.v))] (aC l)=some (.list (l.map λi=>.int (X.v i))):=nJ (v:=λn:Nat=>.int n) ⋯ (λi m=>(show _=(bP (.list (bV X.n X.v)) (.int i)).map λx=>[x] by rfl').trans (af (eP λx=>[x]) (Ig (hl i m)))) hz;refine bg (n:=f+39) (K:=bH dR "told" false) (p:=w) ⋯ ((show _=(((c7 O (f+37) (bR 1 (sE (eA 0))) [("votes",.list (bV X.n X.v))] (aC l)).bind λv=>some [v,.int K]).map λvs=>PV.str X.bM::vs).bind λvs=>O.fn "compute" vs [] by rcases r with _|⟨_,_,_|_⟩<;>rfl').trans ?_) (by rcases r with _|⟨_,_,_|_⟩<;>rfl');rw[e];exact hc
theorem WD{β:Type}{l:List Nat}{f:Nat->β}{ok:Nat->Bool}:(((ax l.length).filter λi=>ok (l.getD i 0)).map λi=>f (l.getD i 0))=(l.filter ok).map f:=by
 have h:=af (λl=>(l.filter ok).map f) (HC (l:=l) (d:=0));rw[Lf,jt] at h;exact h
theorem Xz{l:List Nat}(h:i<l.length):l[i]?=some (l.getD i 0):=by rw[tA,jM h];rfl
def Qb:Expr:=sE (eA 1)
theorem Vq(hl:∀i∈l,i<X.n)(hz:l.length<=aA):aw O (f+40) dR gd (eL X K g l (nY (some (.list (aO l t))) (r.map (·.2.1)) (r.bind (·.2.2)))) (eA 1)=nx (eL X K g l (nY (some (.list (aO l t))) (some (.list (aC (cq t X.M l)))) (r.bind (·.2.2)))):=by
 have e:c7 O (f+38) Qb [("lengths",.list (bV X.n X.M)),("left",.list (aC l)),("told",.list (aO l t))] (aC (ax l.length))=some (.list (aC (cq t X.M l))):=by
  refine(vQ (v:=λn:Nat=>.int n) (w:=λi=>.int (l.getD i 0:Nat)) (ok:=λi=>decide (X.M (l.getD i 0)<t (l.getD i 0))) ⋯ (λi m=>(show _=((((bP (.list (aO l t)) (.int i)).bind λa=>((bP (.list (aC l)) (.int i)).bind λp=>bP (.list (bV X.n X.M)) p).bind λb=>fb O .Gt a b).bind λb=>if b=false then some false else some true).bind λok=>if ok=true then(bP (.list (aC l)) (.int i)).map λx=>[x] else some []) by rfl').trans ?_) (aq (aD cF) hz)).trans (af (λl=>some (PV.list l)) (WD (f:=λp:Nat=>PV.int p) (ok:=λp=>decide (X.M p<t p))));have h:=Xz (eG m);have hm:l.getD i 0∈l:=TL h;rw[show bP (.list (aC l)) (.int i)=some (.int (l.getD i 0:Nat)) from sx h,show bP (.list (aO l t)) (.int i)=some (.int (t (l.getD i 0):Nat)) from sx h];show((((bP (.list (bV X.n X.M)) (.int (l.getD i 0:Nat))).bind λb=>fb O .Gt (.int (t (l.getD i 0):Nat)) b).bind λb=>if b=false then some false else some true).bind λok=>if ok=true then some [PV.int (l.getD i 0:Nat)] else some [])=_;rw[Ig (hl _ hm)];show(((some (decide (((X.M (l.getD i 0):Nat):Int)<(t (l.getD i 0):Nat)))).bind λb=>if b=false then some false else some true).bind λok=>if ok=true then some [PV.int (l.getD i 0:Nat)] else some [])=_;rw[show decide (((X.M (l.getD i 0):Nat):Int)<(t (l.getD i 0):Nat))=decide (X.M (l.getD i 0)<t (l.getD i 0)) from fA u9];cases decide (X.M (l.getD i 0)<t (l.getD i 0))<;>rfl
 refine bg (n:=f+39) (K:=bH dR "short" false) (p:=.list (aC (cq t X.M l))) ⋯ ((show _=(f9 0 ((aC l).length:Nat)).bind λv=>over v (c7 O (f+38) Qb [("lengths",.list (bV X.n X.M)),("left",.list (aC l)),("told",.list (aO l t))]) by rcases r with _|⟨_,_,_|_⟩<;>rfl').trans ?_) (by rcases r with _|⟨_,_,_|_⟩<;>rfl');rw[show(aC l).length=l.length from bi _];exact aG (nE hz) ((tg _).trans e)
end
section
variable{X:SX}{K:Int}{n:Nat}{l1 l2:List Nat}{a b:PV}{c o:Option PV}{nm:aN}{mu:List Str}{σ:ar}{x:Str}{v k:PV}{L L':List PV}{ix:Expr}{rr:aZ}
theorem RT(hs:aw O (n+1) nm mu σ st=(bX (cI O n nm) σ (sE st)).bind λq=>(gB q.2 x).bind λl=>(cI O n nm (bA q.2) ix).bind λk=>(jX l k q.1).bind λl'=>eB (putN nm x (.own l') q.2))(he:cI O n nm (fJ σ) (sE st)=some v)(hw:gB σ x=some L)(hi:cI O n nm (bA σ) ix=some k)(hp:jX L k v=some L')(hk:eB (putN nm x (.own L') σ)=rr):aw O (n+1) nm mu σ st=rr:=hs.trans (aG (vD he) (aG hw (aG hi (aG hp hk))))
def JC(i:Nat):aH:=aJ (sB 0 (eA 3)) i
noncomputable def hZ(g M:Nat->Nat)(s:List Nat)(i:Nat):Nat:=if i∈s then M i else g i
theorem af7:hZ (gx g p (t p)) t s=hZ g t (p::s):=funext λc=>by
 unfold hZ gx;by_cases m:c∈s
 ·rw[iP m,iP (.tail _ m)]
 ·rw[iN m];by_cases e:c=p
  ·rw[iP e,iP (e▸ .head _),e]
  ·rw[iN e,iN λh=>(bw h).elim e m]
theorem YG:∀{s:List Nat} {K:Int} {g:Nat->Nat} {c:Option PV},(∀i∈s,i<X.n)->∃c',dZ (aS (aw O (f+39) dR gd) (sB 0 (eA 3))) dR (sT (eA 3)) (aC s) (eL X K g l (nY (some a) (some b) c))=nx (eL X (K-su X.M s) (hZ g X.M s) l (nY (some a) (some b) c')):=by
 intro s;induction s with
 |nil=>exact λ{K g c} _=>⟨c,by rw[show hZ g X.M []=g from funext λi=>iN eX,show su X.M []=0 from rfl,Int.natCast_zero,Kt];rfl⟩
 |cons p s ih=>
  intro K g c h;obtain⟨c',e⟩:=ih (K:=K-X.M p) (g:=gx g p (X.M p)) (c:=some (.int p)) λi m=>h i (.tail _ m);rw[af7,Int.sub_sub,<-w3] at e;have hp:=h p (.head _);have iv:bP (.list (bV X.n X.M)) (.int p)=some (.int (X.M p)):=Ig hp;exact⟨c',iz (σ₁:=eL X K g l (nY (some a) (some b) (some (.int p)))) (by cases c<;>rfl') (aF (st:=JC 0) (RT (n:=f+38) (x:="given") (k:=.int p) (ix:=bR 1 (sT (JC 0))) ⋯ ((⋯:_=bP (.list (bV X.n X.M)) (.int p)).trans iv) ⋯ ⋯ (Hc (g:=g) hp) (⋯:_=nx (eL X K (gx g p (X.M p)) l (nY (some a) (some b) (some (.int p)))))) (aF (st:=JC 1) (bg (n:=f+38) (K:=GO O dR "seats" .Sub (.int K)) ⋯ ((⋯:_=bP (.list (bV X.n X.M)) (.int p)).trans iv) ⋯) rfl)) e⟩
theorem Qc:lB 4 (.int p) (aC s)=some (decide (p∈s)):=by
 induction s with
 |nil=>rfl
 |cons a s ih=>
  refine(af (eP (or ((a:Int)==(p:Int)))) ih).trans (af some ?_);by_cases e:a=p
  ·subst e;rw[beq_self_eq_true,dT (show a∈a::s from .head _)];rfl
  ·rw[kH λh=>e (w0.mp h),Bool.false_or];exact fA (jO.trans (or_iff_right (gV e))).symm
def QO:Expr:=sE (eA 4)
theorem af3(hz:l.length<=aA):aw O (f+40) dR gd (eL X K g l (nY (some a) (some (.list (aC (cq t X.M l)))) c)) (eA 4)=nx (eL X K g (jI t X.M l) (nY (some a) (some (.list (aC (cq t X.M l)))) c)):=by
 have e:c7 O (f+38) QO [("short",.list (aC (cq t X.M l)))] (aC l)=some (.list (aC (jI t X.M l))):=by
  refine(vQ (v:=λn:Nat=>.int n) (w:=λn:Nat=>.int n) (ok:=λp=> !decide (p∈cq t X.M l)) ⋯ (λp m=>(show _=((((lB 4 (.int p) (aC (cq t X.M l))).map not).bind λb=>if b=false then some false else some true).bind λok=>if ok=true then some [PV.int p] else some []) by rfl').trans (by rw[Qc];cases decide (p∈cq t X.M l)<;>rfl)) hz).trans (af (λl=>some (PV.list (aC l))) (CG λp m=>?_));by_cases k:X.M p<t p
  ·rw[dT (show p∈cq t X.M l from pG ⟨m,dT k⟩),dF (oh k)];rfl
  ·rw[dF (λh=>k (cC (eI h).2):p∉cq t X.M l),dT (cZ k)];rfl
 exact bg (n:=f+39) (K:=bH dR "left" false) (p:=.list (aC (jI t X.M l))) ⋯ ((show _=c7 O (f+38) QO [("short",.list (aC (cq t X.M l)))] (aC l) by cases c<;>rfl').trans e) (by cases c<;>rfl')
def ww:aH:=aJ (sB 0 (eA 2)) 0
noncomputable def DD(a b:PV)(c o:Option PV):ar:=("told",.pv a)::("short",.pv b)::c.elim (o.elim [] λo=>[("i",.pv o)]) λc=>("party",.pv c)::o.elim [] λo=>[("i",.pv o)]
theorem YT(hl:∀i∈l,i<X.n):∀{l2 l1:List Nat} {o:Option PV},l=l1++l2->∃o',dZ (aS (aw O (f+38) dR gd) (sB 0 ww)) dR (sT ww) (aC (gW l1.length l2.length)) (eL X K (hZ g t l1) l (DD (.list (aO l t)) b c o))=nx (eL X K (hZ g t l) l (DD (.list (aO l t)) b c o')):=by
 intro l2;induction l2 with
 |nil=>exact λ{l1 o} e=>⟨o,by rw[e,gO];rfl⟩
 |cons p l2 ih=>
  intro l1 o e;obtain⟨o',h⟩:=ih (l1:=l1++[p]) (o:=some (.int l1.length)) (e.trans (kx l1 [p] l2).symm);have ha:=DT e;have hp:p<X.n:=hl p (TL ha);have i1:bP (.list (aO l t)) (.int l1.length)=some (.int (t p)):=sx ha;have i2:bP (.list (aC l)) (.int l1.length)=some (.int p):=sx ha;rw[da,show hZ g t (l1++[p])=gx (hZ g t l1) p (t p) from funext λx=>by
   unfold hZ gx;by_cases q:x=p
   ·rw[iP q,iP (fE _ (Gi.mpr q)),q]
   ·rw[iN q,ite_congr (propext (Lh.trans (or_iff_left λh=>q (cY h)))) (λ_=>rfl) λ_=>rfl]] at h
  generalize l1.length=i at*;exact⟨o',iz (σ₁:=eL X K (hZ g t l1) l (DD (.list (aO l t)) b c (some (.int i)))) (by cases c<;>cases o<;>rfl') (aF (st:=aJ (sB 0 ww) 0) (RT (n:=f+37) (x:="given") (k:=.int p) (ix:=bR 1 (sT (aJ (sB 0 ww) 0))) ⋯ ((show _=bP (.list (aO l t)) (.int i) by cases c<;>rfl').trans i1) ⋯ ((show _=bP (.list (aC l)) (.int i) by cases c<;>rfl').trans i2) (Hc (g:=hZ g t l1) hp) ⋯) rfl) h⟩
end
section
variable{X:SX}{n K b:Nat}{q:Nat->Nat->Int}{rk:Nat->Nat}{bp:List Nat->Nat->Nat->Nat}{r:S3}
def Qp(o:aZ)(v:PV):Prop:=∃σ,o=some (.ret v,σ)
structure Bh(O:aK)(X:SX)(bp:List Nat->Nat->Nat->Nat)(b:Nat):Prop where
 fn:∀{l:List Nat} {K:Nat},l.Sublist X.ps->l≠[]->mj b 6 l K->O.fn "compute" [.str X.bM,.list (l.map λi=>.int (X.v i)),.int K] []=some (.list (aO l (bp l K)))
 lt:∀i∈X.ps,i<X.n
 iZ:X.ps.length<=aA
def pq(r:S3):ar:=nY (r.map (·.1)) (r.map (·.2.1)) (r.bind (·.2.2))
def C3(a b:PV)(r:S3):ar:=nY (some a) (some b) (r.bind (·.2.2))
theorem Px(H:Bh O X bp b)(s:l.Sublist X.ps)(h0:l≠[])(G:mj b 6 l K){R:aZ}{L:List aH}(h:aS (aw O (f+40) dR gd) L (eL X K g l (C3 (.list (aO l (bp l K))) (.list (aC (cq (bp l K) X.M l))) r))=R):aS (aw O (f+40) dR gd) (eA 0::eA 1::L) (eL X K g l (pq r))=R:=
 have hl:∀i∈l,i<X.n:=λi m=>H.lt i (s.mem m);have hz:=aq s.length_le H.iZ
 aF (aaJ hl hz (H.fn s h0 G)) (aF (Vq hl hz) h)
theorem O0{R:aZ}(hl:l≠[])(h:(a9 O (f+40) dR gd (eL X K g l (pq r)) [eA 0,eA 1,eA 2,eA 3,eA 4]).bind (λq=>if q.1.hX=true then aw O (f+40) dR gd q.2 (jT 2) else some q)=R):aw O (f+41) dR gd (eL X K g l (pq r)) (jT 2)=R:=by
 obtain⟨p,l,rfl⟩:=CB hl;refine(show _=(fG O (f+40) dR (bA (eL X K g (p::l) (pq r))) (sE (jT 2))).bind λz=>if z=true then(a9 O (f+40) dR gd (eL X K g (p::l) (pq r)) [eA 0,eA 1,eA 2,eA 3,eA 4]).bind λq=>if q.1.hX=true then aw O (f+40) dR gd q.2 (jT 2) else some q else some (.next,eL X K g (p::l) (pq r)) by rfl').trans (aG (a:=true) ⋯ h)
theorem NX{B:Bool}(h:decide (s=[])=B){R:aZ}{a:PV}(k:aS (aw O (f+39) dR gd) (if B=true then sB 0 (eA 2) else sB 1 (eA 2)) (eL X K g l (C3 a (.list (aC s)) r))=R):aw O (f+40) dR gd (eL X K g l (C3 a (.list (aC s)) r)) (eA 2)=R:=by
 subst h;exact cM (n:=f+39) ⋯ (by cases s<;>rfl') k
theorem aan(hl:∀i∈l,i<X.n)(hz:l.length<=aA){b:PV}:Qp (aS (aw O (f+39) dR gd) (sB 0 (eA 2)) (eL X K g l (C3 (.list (aO l t)) b r))) (.list (bV X.n (hZ g t l))):=by
 obtain⟨o,e⟩:=YT (O:=O) (f:=f) (K:=K) (g:=g) (t:=t) (b:=b) (c:=r.bind (·.2.2)) hl (l1:=[]) (l2:=l) (o:=none) rfl;rw[show hZ g t []=g from funext λi=>iN eX] at e;refine⟨_,(show _=aS (aw O (f+39) dR gd) [ww,aJ (sB 0 (eA 2)) 1] (eL X K g l (DD (.list (aO l t)) b (r.bind (·.2.2)) none)) by rcases r with _|⟨_,_,_|_⟩<;>rfl').trans (aF (bg (n:=f+38) (K:=fU (aw O (f+38) dR gd) dR (sT ww) (sB 0 ww)) ⋯ ((show _=f9 0 ((aC l).length:Nat) by rcases r with _|⟨_,_,_|_⟩<;>rfl').trans ((af (λn:Nat=>f9 0 n) (bi _)).trans (nE hz))) (An (by rw[yQ];exact e))) (rG (wl (n:=f+38) ⋯ (by rcases r with _|⟨_,_,_|_⟩<;>cases o<;>rfl'))))⟩
theorem aco(H:Bh O X bp b)(s:l.Sublist X.ps)(h0:l≠[])(G:mj b 6 l K)(hs:cq (bp l K) X.M l≠[])(hK:su X.M (cq (bp l K) X.M l)<=K):∃r':S3,∀{R:aZ},aw O (f+40) dR gd (eL X (K-su X.M (cq (bp l K) X.M l):Nat) (hZ g X.M (cq (bp l K) X.M l)) (jI (bp l K) X.M l) (pq r')) (jT 2)=R->aw O (f+41) dR gd (eL X K g l (pq r)) (jT 2)=R:=by
 have hl:∀i∈l,i<X.n:=λi m=>H.lt i (s.mem m);have hz:=aq s.length_le H.iZ;obtain⟨c',e⟩:=YG (O:=O) (X:=X) (f:=f) (l:=l) (a:=.list (aO l (bp l K))) (b:=.list (aC (cq (bp l K) X.M l))) (s:=cq (bp l K) X.M l) (K:=K) (g:=g) (c:=r.bind (·.2.2)) λi m=>hl i (eI m).1;rw[<-Ge hK] at e;refine⟨some (.list (aO l (bp l K)),.list (aC (cq (bp l K) X.M l)),c'),λ{R} k=>O0 h0 (aG (a:=(fS.next,eL X (K-su X.M (cq (bp l K) X.M l):Nat) (hZ g X.M (cq (bp l K) X.M l)) (jI (bp l K) X.M l) (pq (some (.list (aO l (bp l K)),.list (aC (cq (bp l K) X.M l)),c'))))) (Px H s h0 G ?_) k)⟩;generalize bp l K=t at*;refine aF (NX (dF hs) rfl) (aF (bg (n:=f+39) (K:=fU (aw O (f+39) dR gd) dR (sT (eA 3)) (sB 0 (eA 3))) (p:=.list (aC (cq t X.M l))) ⋯ (by rcases r with _|⟨_,_,_|_⟩<;>rfl') (s9 e)) (aF (af3 hz) rfl))
theorem WP(H:Bh O X bp b)(A:AL q rk X.ps bp b 6):∀{n:Nat} {l:List Nat} {K:Nat} {g:Nat->Nat} {r:S3},l.length<n->l.Sublist X.ps->l≠[]->mj b 6 l K->K<=su X.M l->(∀i,g i=if i∈X.ps then(if i∈l then g i else X.M i) else 0)->Qp (aw O (f+n+40) dR gd (eL X K g l (pq r)) (jT 2)) (.list (bV X.n λi=>if i∈X.ps then rL bp X.M n l K i else 0)):=by
 intro n;induction n with
 |zero=>exact λh=>absurd h (y9 _)
 |succ n ih=>
  intro l K g r hn s h0 G hK hg;have hl:∀i∈l,i<X.n:=λi m=>H.lt i (s.mem m);have hz:=aq s.length_le H.iZ;have C:=A l K s h0 G;by_cases hs:cq (bp l K) X.M l=[]
  ·have es:rL bp X.M (n+1) l K=λi=>if i∈l then bp l K i else X.M i:=iP hs;obtain⟨σ,e⟩:=aan (O:=O) (f:=f+n) (K:=K) (g:=g) (t:=bp l K) (r:=r) hl hz (b:=.list (aC (cq (bp l K) X.M l)));rw[es,show(λi=>if i∈X.ps then(if i∈l then bp l K i else X.M i) else 0)=hZ g (bp l K) l from funext λi=>by
    unfold hZ;by_cases m:i∈l
    ·rw[iP (s.mem m),iP m,iP m]
    ·rw[iN m,iN m,hg i,iN m]]
   exact⟨σ,O0 h0 ((af (λo:aZ=>o.bind λq=>if q.1.hX=true then aw O (f+n+40) dR gd q.2 (jT 2) else some q) (Px H s h0 G (rG (NX (dT hs) e)))).trans rfl)⟩
  ·have es:rL bp X.M (n+1) l K=rL bp X.M n (jI (bp l K) X.M l) (K-su X.M (cq (bp l K) X.M l)):=iN hs;obtain⟨c,l',ec⟩:=CB hs;have N:=C.next G (ec▸ .head _:c∈cq (bp l K) X.M l);have mc:=eI (ec▸ .head _:c∈cq (bp l K) X.M l);obtain⟨r',e⟩:=aco (O:=O) (f:=f+n) (g:=g) (r:=r) H s h0 G hs (cy N.1);rw[es];clear es ec l';generalize bp l K=t at*;have K':K-su X.M (cq t X.M l)<=su X.M (jI t X.M l):=Uf.mpr (aq hK (aD DW));have n0:jI t X.M l≠[]:=λe=>oh N.2.one (aq K' (aD (af (su X.M) e)));refine(ih (l:=jI t X.M l) (g:=hZ g X.M (cq t X.M l)) (r:=r') (ba (ahe.mpr ⟨c,mc.1,λk=>oh (cC mc.2) (cC k)⟩) (ju hn)) (u0.trans s) n0 N.2 K' λi=>?_).imp λσ k=>e k;unfold hZ;by_cases m:i∈cq t X.M l
   ·have m':=eI m;rw[iP m,iP (s.mem m'.1)];exact(ite_self _).symm
   ·rw[iN m];refine(hg i).trans ?_;by_cases ml:i∈l
    ·rw[iP ml,iP (show i∈jI t X.M l from pG ⟨ml,dT (cZ λk=>m (pG ⟨ml,dT k⟩))⟩)]
    ·rw[iN ml,iN (λh=>ml (eI h).1:i∉jI t X.M l)]
theorem abX(H:Bh O X bp b)(A:AL q rk X.ps bp b 6)(h0:X.ps≠[])(G:mj b 6 X.ps K)(hK:K<=su X.M X.ps)(hn:X.n<=aA)(hp:X.ps.length<=900):
  bm O NN Aj [.str X.bM,.list (bV X.n X.v),.list (bV X.n X.M),.int K,.list (aC X.ps)] []=some (.list (bV X.n λi=>if i∈X.ps then rL bp X.M (X.ps.length+1) X.ps K i else 0)):=by
 obtain⟨σ,e⟩:=WP (f:=999960- (X.ps.length+1)) H A (n:=X.ps.length+1) (g:=λ_=>0) (r:=none) (i5 _) (.refl _) h0 G hK λi=>by
  by_cases m:i∈X.ps
  ·rw[iP m,iP m]
  ·rw[iN m]
 rw[show 999960- (X.ps.length+1)+(X.ps.length+1)+40=NN from af (· +40) (F0 (aq (yP hp) (by decide)))] at e;have e0:c7 O 999998 (sE (jT 0)) [] (bV X.n X.v)=some (.list (bV X.n λ_=>0)):=nJ (v:=λi=>.int (X.v i)) (w:=λ_=>.int (0:Nat)) ⋯ (λi _=>⋯) (aq (aD cF) hn);refine(⋯:_=ck (a9 O NN dR gd [("method",.pv (.str X.bM)),("votes",.pv (.list (bV X.n X.v))),("lengths",.pv (.list (bV X.n X.M))),("seats",.pv (.int K)),("order",.pv (.list (aC X.ps)))] [jT 0,jT 1,jT 2,jT 3])).trans (dC (bg (n:=999999) (K:=bH dR "given" true) (p:=.list (bV X.n λ_=>0)) ⋯ ((⋯:_=c7 O 999998 (sE (jT 0)) [] (bV X.n X.v)).trans e0) rfl) (dC (σ₁:=eL X K (λ_=>0) X.ps (pq none)) (bg (n:=999999) (K:=bH dR "left" false) (p:=.list (aC X.ps)) ⋯ ((⋯:_=if(aC X.ps).length<=aA then some (PV.list (aC X.ps)) else none).trans (iP (aq (aD (bi _)) H.iZ))) ⋯) (af ck (rG e))))
end
end
section
variable{O:aK}{ps want:List (List Nat)}{σ:ar}{st:aH}
section
def o7:List aH:=match OW with
 |.FunctionDef _ _ body _ _ _ _ _ _ _=>body|_=>[]
def aU:aN:=match OW with
 |.FunctionDef _ _ _ _ _ _ scope _ _ _=>scope.names|_=>[]
def bl(i:Nat):aH:=aJ o7 i
noncomputable def cr:List Str:=["lengths","parties","due","wanted","made"]
structure LX where
 sc:List Int
 H:Nat
 κ:Nat
 t:Bool
 nu:Nat->Nat
 L:Nat->Nat
 V:Nat->Nat
 s:Nat
 le:Nat
 K:Nat
noncomputable def LX.mm(X:LX):Nat:=cond X.t 3 2
noncomputable def LX.lg(X:LX):Nat:=cond X.t 2 3
def PG(X:LX)(r:ar):ar:=("script",.pv (.list (cN X.sc)))::("head",.pv (.int X.H))::("kind",.pv (.int X.κ))::r
def Bb(X:LX)(r:ar):ar:=PG X (("many",.pv (.int X.mm))::("method",.pv (.str (nD.getD X.κ "")))::r)
def tR(X:LX)(r:ar):ar:=Bb X (("numbers",.pv (.list (bV (1+X.mm) X.nu)))::("longest",.pv (.int X.lg))::r)
noncomputable def num(sc:List Int)(i:Nat):Nat:=(sc.getD (i+1) 0).natAbs
structure D1(X:LX):Prop where
 H:X.H=(X.sc.headD 0).natAbs
 κ:X.κ=X.H%5
 t:X.mm=2+X.H/5%2
 nu:X.nu=num X.sc
 iZ:X.sc.length<=100
variable{X:LX}{x y m k:Nat}{sc l:List Int}
theorem fm:zm (x:Int) (y:Int)=((x%y:Nat):Int):=Km _ (fP y)
theorem fd:CH (x:Int) (y:Int)=((x/y:Nat):Int):=Fw _ (fP y)
theorem k5(h:D1 X):X.κ<5:=h.κ▸Cs _ (by decide)
theorem acU(h:D1 X):a9 O NN aU cr [("script",.pv (.list (cN X.sc)))] [bl 0,bl 1,bl 2,bl 3]=nx (Bb X []):=by
 have z0:aw O NN aU cr [("script",.pv (.list (cN X.sc)))] (bl 0)=nx [("script",.pv (.list (cN X.sc))),("head",.pv (.int X.H))]:=by
  rw[h.H];cases X.sc with
  |nil=>rfl'|cons a r=>exact bg (n:=999999) (K:=bH aU "head" false) ⋯ ((show _=((bP (.list (.int a::cN r)) (.int 0)).bind λv=>some [v]).bind λvs=>nj O "abs" vs [] by rfl').trans (by rw[HO];rfl)) ⋯
 have it:bP (.list (nD.map PV.str)) (.int X.κ)=some (.str (nD.getD X.κ "")):=zQ (P:=λκ=>bP (.list (nD.map PV.str)) (.int κ)=some (.str (nD.getD κ ""))) rfl rfl rfl rfl rfl _ (k5 h);have e2:(2:Int)+zm (CH (X.H:Int) ((5:Nat):Int)) ((2:Nat):Int)=X.mm:=by rw[fd,fm,h.t];rfl
 exact aF z0 (aF (bg (n:=999999) (K:=bH aU "kind" false) (p:=.int X.κ) ⋯ ((⋯:_=some (PV.int (zm (X.H:Int) ((5:Nat):Int)))).trans (by rw[fm,<-h.κ])) (⋯:_=nx (PG X []))) (aF (bg (n:=999999) (K:=bH aU "many" false) (p:=.int X.mm) ⋯ ((⋯:_=some (PV.int ((2:Int)+zm (CH (X.H:Int) ((5:Nat):Int)) ((2:Nat):Int)))).trans (by rw[e2])) rfl) (aF (bg (n:=999999) (K:=bH aU "method" false) ⋯ ((⋯:_=bP (.list (nD.map PV.str)) (.int X.κ)).trans it) ⋯) rfl)))
theorem adi{α:Type}{l:List α}{j:Nat}:jH l none (some (j:Int))=l.take j:=by
 show(l.drop 0).take (wH l.length j-0)=_;rw[clipAt_nat,List.drop_zero,Nat.sub_zero];rcases K7 j l.length with h|h
 ·rw[wV h]
 ·rw[T6 h,Tl,zk h]
theorem af4{α:Type}{l:List α}{j:Nat}:jH l (some ((1:Nat):Int)) (some (((1+j:Nat)):Int))=(l.drop 1).take j:=by
 show(l.drop (wH l.length (1:Nat))).take (wH l.length (1+j:Nat) -wH l.length (1:Nat))=_;cases l with
 |nil=>rw[FR,FR,u5,u5]
 |cons a l=>
  rw[clipAt_nat,clipAt_nat,show min 1 (a::l).length=1 from wV (eE _),gj 1 j,show(a::l).length=l.length+1 from rfl,Nat.add_min_add_right,wX];show l.take (min j l.length)=l.take j;rcases K7 j l.length with h|h
  ·rw[wV h]
  ·rw[T6 h,Tl,zk h]
theorem WR{α:Type}{d:α}:∀{m k:Nat} {l:List α},m<=k->(l.take m++kt k d).take m=(ax m).map λi=>l.getD i d:=by
 intro m;induction m with
 |zero=>exact λ_=>List.take_zero
 |succ m ih=>
  intro k l h;rw[yL,oB,jt];cases l with
  |nil=>
   obtain⟨k,rfl⟩:=u6 (fO (ba (eE m) h));have:=ih (l:=[]) (KC h);rw[u5,K6] at this;rw[u5,K6];exact af (d:: ·) this
  |cons a l=>exact af (a:: ·) (ih (l:=l) (lF h))
theorem abA{i:Nat}:((cN sc).drop 1).getD i (.int 0)=.int (sc.getD (i+1) 0):=by
 cases sc with
 |nil=>rfl
 |cons a l=>
  show(cN l).getD i (.int 0)=.int (l.getD i 0);rw[tA,tA,show(cN l)[i]?=l[i]?.map PV.int from oy];cases l[i]?<;>rfl
theorem ϔ:((((cN sc).drop 1).take m)++dQ m λ_=>PV.int 0).take m=dQ m λi=>.int (sc.getD (i+1) 0):=by
 rw[show(dQ m λ_=>PV.int 0)=kt m (.int 0) from(List.map_const ..).trans (af (λn=>kt n _) cF),WR (bf m)];exact af (dQ m) (funext λi=>abA)
theorem wA:X.mm<=3:=by
 unfold LX.mm;cases X.t<;>decide
theorem acQ(h:D1 X):aw O NN aU cr (Bb X []) (bl 4)=nx (Bb X [("numbers",.pv (.list (bV (1+X.mm) X.nu)))]):=by
 have hm:1+X.mm<=100:=aq (i3 wA 1) (by decide);refine bg (n:=999999) (K:=bH aU "numbers" false) (p:=.list (bV (1+X.mm) X.nu)) ⋯ ((show _=((((fT O .Mult (.list [.int 0]) (.int (1+X.mm:Nat))).bind λb=>fT O .Add (.list (jH (cN X.sc) (some ((1:Nat):Int)) (some ((2+X.mm:Nat):Int)))) b).bind λa=>a.ii.map λl=>PV.list (jH l none (some ((1+X.mm:Nat):Int)))).bind λv=>over v (c7 O 999998 (sE (bl 4)) [])) by rfl').trans ?_) ⋯;rw[Jr hm,show 2+X.mm=1+(1+X.mm) from fC 1 1 _,af4];refine aG (aG (aG rfl (iP ?_)) (show _=some (PV.list (dQ (1+X.mm) λi=>.int (X.sc.getD (i+1) 0))) from af (λl=>some (PV.list l)) (adi.trans ϔ))) (nJ (v:=λi=>.int (X.sc.getD (i+1) 0)) (w:=λi=>.int (X.nu i)) ⋯ (λi _=>by rw[h.nu];rfl') ?_)
 ·rw[FS,tZ];exact aq (B8 (aq (Nat.min_le_left ..) hm) hm) (by decide)
 ·exact aq (aD cF) (aq hm (by decide))
end
section
noncomputable def LX.at(X:LX)(b:Bool):LX:={X with t:=b}
@[elab_as_elim] theorem tC{P:LX->Prop}(X:LX)(h2:P (X.at false))(h3:P (X.at true)):P X:=Bool.rec (motive:=λb=>P (X.at b)) h2 h3 X.t
def n7(X:LX)(i:Nat):Nat:=1+X.nu i%X.lg
def Ja(X:LX)(i:Nat):Nat:=1+X.nu i/X.lg
theorem DE{n i:Nat}{g:Nat->Nat}(h:i<n):bP (.list (bV n g)) (.int i)=some (.int (g i)):=DJ (h:=λi=>.int (g i)) h
theorem adr{n i x:Nat}{g:Nat->Nat}(h:i<n):jX (bV n g) (.int i) (.int x)=some (bV n (gx g i x)):=Hc (X:=⟨n,"",g,g,[]⟩) h
theorem NI{x y:Nat}(h:y≠0):fw .Mod x y=some (.int (x%y:Nat)):=(rfl:_=if(y:Int)≠0 then some (PV.int (zm x y)) else none).trans ((iP (Int.natCast_ne_zero.mpr h)).trans (af (λi=>some (PV.int i)) fm))
variable{X:LX}{L:Nat->Nat}{r:ar}{fz:Bool}
theorem ae0:aw O NN aU cr (Bb X [("numbers",.pv (.list (bV (1+X.mm) X.nu)))]) (bl 5)=nx (tR X []):=tC X ⋯ ⋯
def gy(X:LX)(L:Nat->Nat)(fz:Bool)(r:ar):ar:=tR X (("lengths",.qj fz (bV X.mm L))::("votes",.pv (.list (bV X.mm X.V)))::r)
theorem abi:aw O NN aU cr (tR X []) (bl 6)=nx (tR X [("lengths",.own (bV X.mm (n7 X)))]):=
 bg (n:=999999) (K:=bH aU "lengths" true) (p:=.list (bV X.mm (n7 X))) ⋯ ((show cI O 999999 aU (fJ (tR X [])) (sE (bl 6))=some (.list (dQ X.mm λi=>.int (1+zm (X.nu i) X.lg))) from tC X ⋯ ⋯).trans (af (λf=>some (PV.list (dQ X.mm f))) (funext λi=>by rw[fm];rfl))) ⋯
theorem ν(h:X.V=Ja X):aw O NN aU cr (tR X [("lengths",.own (bV X.mm L))]) (bl 7)=nx (gy X L false []):=
 bg (n:=999999) (K:=bH aU "votes" false) (p:=.list (bV X.mm X.V)) ⋯ ((show cI O 999999 aU (fJ (tR X [("lengths",.own (bV X.mm L))])) (sE (bl 7))=some (.list (dQ X.mm λi=>.int (1+CH (X.nu i) X.lg))) from tC X ⋯ ⋯).trans (af (λf=>some (PV.list (dQ X.mm f))) (funext λi=>by rw[fd,h];rfl))) ⋯
def oL(m:Nat)(L:Nat->Nat):Nat:=su L (ax m)
noncomputable def kO(κ:Nat):Bool:=(1:Int)==(κ:Int)||((3:Int)==(κ:Int)||false)
def yu(X:LX)(L:Nat->Nat):Nat->Nat:=if(kO X.κ&&decide (5<oL X.mm L))=true then gx L 0 (L 0-1) else L
theorem U_(h1:1<=L 0):aw O NN aU cr (gy X L false []) (bl 8)=nx (gy X (yu X L) false []):=by
 have e:fG O 999999 aU (bA (gy X L false [])) (sE (bl 8))=(some (kO X.κ)).bind λb=>if b=false then some false else(some (decide ((5:Int)<(oL X.mm L:Nat)))).bind λb=>if b=false then some false else some true:=tC X ⋯ ⋯;refine cM (n:=999999) (b:=kO X.κ&&decide (5<oL X.mm L)) ⋯ (e.trans ?_) ?_
 ·rw[show decide ((5:Int)<(oL X.mm L:Nat))=decide (5<oL X.mm L) from fA u9];cases kO X.κ<;>cases decide (5<oL X.mm L)<;>rfl
 unfold yu;cases kO X.κ&&decide (5<oL X.mm L) with
 |false=>rfl'
 |true=>
  have p:0<X.mm:=tC (P:=λX=>0<X.mm) X (eE _) (eE _);exact(⋯:_=a9 O 999999 aU cr (gy X L false []) [aJ (sB 0 (bl 8)) 0]).trans (km.trans (Hk (n:=999998) (x:="lengths") (op:=.Sub) (l:=bV X.mm L) (k:=.int (0:Nat)) (a:=.int (L 0)) (w:=.int 1) (p:=.int (L 0-1:Nat)) ⋯ (DE p) ⋯ (af (λi=>some (PV.int i)) (Ge h1).symm) ⋯ (adr p) ⋯))
theorem Ys(h:X.s=oL X.mm L):aw O NN aU cr (gy X L false []) (bl 9)=nx (gy X L false [("size",.pv (.int X.s))]):=
 tO (n:=999999) (K:=bH aU "size" false) (p:=.int X.s) ⋯ ⋯ (by rw[h];exact tC X ⋯ ⋯) ⋯ ⋯
noncomputable def k4(κ:Nat):Bool:=(κ:Int)==4
theorem Xr(h:X.le=cond (k4 X.κ) X.mm 1):aw O NN aU cr (gy X L false [("size",.pv (.int X.s))]) (bl 10)=nx (gy X L false [("size",.pv (.int X.s)),("least",.pv (.int X.le))]):=
 bg (n:=999999) (K:=bH aU "least" false) (p:=.int X.le) ⋯ ((show _=(some (k4 X.κ)).bind λr=>if r=true then some (PV.int X.mm) else some (.int (1:Nat)) by rfl').trans (by
  rw[h];cases k4 X.κ<;>rfl)) ⋯
noncomputable def m6(X:LX)(r:ar):ar:=("size",.pv (.int X.s))::("least",.pv (.int X.le))::("k",.pv (.int X.K))::r
theorem abY(hl:X.le<=X.s)(h:X.K=X.le+X.H/10%(X.s-X.le+1)):aw O NN aU cr (gy X L false [("size",.pv (.int X.s)),("least",.pv (.int X.le))]) (bl 11)=nx (gy X L false (m6 X [])):=by
 refine bg (n:=999999) (K:=bH aU "k" false) (p:=.int X.K) ⋯ ((show _=(fw .Mod (CH X.H (10:Nat)) ((X.s:Int) -X.le+(1:Nat))).bind λb=>fT O .Add (.int X.le) b by rfl').trans ?_) ⋯;rw[fd,<-Ge hl,h];exact aG (NI (rg _)) rfl
end
section
def lists(l:List (List Nat)):List PV:=l.map lst
noncomputable def iU(s pl len:Nat):List Nat:=(ax len).map λj=>(pl+j)%s
def kX(X:LX)(vs:List (List Nat×Nat))(ps:List (List Nat))(pl:Nat)(fz:Bool)(r:ar):ar:=gy X X.L fz (m6 X (("made",.a6 bv (eS X.s vs) fL)::("parties",.own (lists ps))::("place",.pv (.int pl))::r))
noncomputable def kR(o:Option PV):ar:=o.elim [] λi=>[("i",.pv i)]
def vN:aH:=bl 15
def C2(i:Nat):aH:=aJ (sB 0 vN) i
def BJ(st:aH):Expr:=bR 0 (sE st)
variable{X:LX}{i pl n:Nat}{vs:List (List Nat×Nat)}{A P l:List Nat}{fz:Bool}{nm:aN}{mu:List Str}{σ₁:ar}{e:Expr}{p:PV}{r:aZ}{x:Str}{l0 L:List PV}{c:Nat}{fs eY:List (Str×PV)}{ow:List Str}
theorem G3(h0:cI O n nm (fJ σ) e=none)(h:cI O n nm (bA σ) e=some p)(hc:(σ.any λq=>q.2.kY&&q.2.seen p)=false)(hf:dY p σ=σ₁):bX (cI O n nm) σ e=some (p,σ₁):=by
 subst hf;unfold bX;rw[h0,h];exact iN (ne_true_of_eq_false hc)
theorem JT(hs:aw O (n+1) nm mu σ st=if l0.length<aA then(bX (cI O n nm) σ (BJ st)).bind λq=>(gB q.2 x).bind λl=>eB (putN nm x (.own (l++[q.1])) q.2) else none)(hl:l0.length<aA)(he:bX (cI O n nm) σ (BJ st)=some (p,σ₁))(ho:gB σ₁ x=some L)(hp:eB (putN nm x (.own (L++[p])) σ₁)=r):aw O (n+1) nm mu σ st=r:=hs.trans ((iP hl).trans (aG he (aG ho hp)))
theorem Wp(hs:aw O (n+1) nm mu σ st=(bX (cI O n nm) σ (BJ st)).bind λq=>(O.mh c fs ow "add_voter" [q.1]).bind λeY=>eB (putN nm x (.a6 c eY ow) q.2))(he:bX (cI O n nm) σ (BJ st)=some (p,σ₁))(hm:O.mh c fs ow "add_voter" [p]=some eY)(hp:eB (putN nm x (.a6 c eY ow) σ₁)=r):aw O (n+1) nm mu σ st=r:=hs.trans (aG he (aG hm hp))
theorem aaa(h:O.make "Profile" [.int X.s] []=some (bv,eS X.s [],fL)):aw O NN aU cr (gy X X.L false (m6 X [])) (bl 12)=nx (gy X X.L false (m6 X [("made",.a6 bv (eS X.s []) fL)])):=
 (show _=(O.make "Profile" [.int X.s] []).bind λr=>eB (putN aU "made" (.a6 r.1 r.2.1 r.2.2) (gy X X.L false (m6 X []))) by rfl').trans (aG h ⋯)
theorem Ι:a9 O NN aU cr (gy X X.L false (m6 X [("made",.a6 bv (eS X.s []) fL)])) [bl 13,bl 14]=nx (kX X [] [] (X.nu X.mm) false []):=tC X ⋯ ⋯
theorem Zu{ls:List (List PV)}{cs:List (Nat×List Str)}:io ls cs (aC l)=false:=by
 induction l with
 |nil=>rfl|cons=>assumption
theorem Jc{ls:List (List PV)}{cs:List (Nat×List Str)}:cf ls cs (.list (aC l))=ls.any λm=>nM m (aC l):=(af ((ls.any λm=>nM m (aC l))|| ·) Zu).trans (CA _)
theorem A_{y:Nat}(h:l=y::A):cf [bV X.mm X.L] [] (.list (aC l))=true:=Jc.trans (h▸tC (P:=λX=>([bV X.mm X.L].any λm=>nM m (aC (y::A)))=true) X rfl rfl)
theorem ZZ{y:Nat}(h:l=y::A):cf [lists ps] [] (.list (aC l))=false:=Jc.trans (h▸by cases ps<;>rfl)
theorem Vd{y s:Nat}(h:l=y::A):cf (vP (eS s vs) fL) [(bv,(eS s vs).map (·.1))] (.list (aC l))=false:=Jc.trans (h▸(by
 show(nM ((ax s).map ds) (aC (y::A))||(nM (vs.map bq) (aC (y::A))||false))=false;cases s with
 |zero=>cases vs<;>rfl
 |succ s=>
  rw[yL];cases vs<;>rfl))
def Hu(O:aK)(X:LX)(i pl:Nat):Option PV:=(((bP (.list (bV X.mm X.L)) (.int i)).bind λv=>some [v]).bind λvs=>nj O "range" vs []).bind λv=>over v (c7 O 999997 (BJ (C2 0)) [("size",.int X.s),("place",.int pl)])
theorem aa7(hs:X.s≠0)(hz:X.L i<=aA)(hi:i<X.mm):Hu O X i pl=some (lst (iU X.s pl (X.L i))):=
 aG (aG (aG (DE hi) rfl) (nE hz)) ((tg _).trans ((nJ (v:=λn:Nat=>.int n) (w:=λj:Nat=>.int ((pl+j)%X.s:Nat)) ⋯ (λj _=>(show _=(fw .Mod (pl+j:Nat) X.s).map λx=>[x] by rfl').trans (af (eP λx=>[x]) (NI hs))) (aq (aD cF) hz)).trans (af (λl=>some (PV.list l)) (jt (g:=λn:Nat=>PV.int n) (f:=λj=>(pl+j)%X.s)).symm)))
theorem ab0(h:1<=X.L i):iU X.s pl (X.L i)=(pl+0)%X.s::((gW 1 (X.L i-1)).map λj=>(pl+j)%X.s):=by
 obtain⟨m,e⟩:=ag9 h;rw[e];unfold iU;rw[yQ];rfl
theorem Yg(hs:X.s≠0)(hz:X.L i<=aA)(h1:1<=X.L i)(hi:i<X.mm)(hp:ps.length<aA):aw O 999999 aU cr (kX X vs ps pl fz (kR (some (.int i)))) (C2 0)=nx (kX X vs (ps++[iU X.s pl (X.L i)]) pl true (kR (some (.int i)))):=by
 have c:=ab0 (pl:=pl) h1;have v:=aa7 (O:=O) (pl:=pl) hs hz hi;generalize iU X.s pl (X.L i)=P at*;refine JT (n:=999998) (x:="parties") (l0:=lists ps) (L:=lists ps) (p:=lst P) (σ₁:=kX X vs ps pl true (kR (some (.int i)))) (by cases fz<;>rfl') (aQ (aD (bi _)) hp) ?_ ⋯ ((⋯:_=nx (gy X X.L true (m6 X (("made",.a6 bv (eS X.s vs) fL)::("parties",.own (lists ps++[lst P]))::("place",.pv (.int pl))::kR (some (.int i)))))).trans (af (λl=>nx (gy X X.L true (m6 X (("made",.a6 bv (eS X.s vs) fL)::("parties",.own l)::("place",.pv (.int pl))::kR (some (.int i)))))) (mR (l₁:=ps) (l₂:=[P])).symm));cases fz with
 |true=>exact vD ((⋯:_=Hu O X i pl).trans v)|false=>exact G3 ⋯ ((⋯:_=Hu O X i pl).trans v) ((⋯:_=(cf (vP (eS X.s vs) fL) [(bv,(eS X.s vs).map (·.1))] (lst P)||false)).trans ((CA _).trans (Vd c))) ((⋯:_=gy X X.L (cf [bV X.mm X.L] [] (lst P)) (m6 X (("made",.a6 bv (eS X.s vs) fL)::("parties",.qj (cf [lists ps] [] (lst P)) (lists ps))::("place",.pv (.int pl))::kR (some (.int i))))).trans (by rw[show lst P=.list (aC P) from rfl,A_ c,ZZ c];rfl))
theorem μ(hi:i<X.mm):aw O 999999 aU cr (kX X vs ps pl true (kR (some (.int i)))) (C2 1)=nx (kX X vs ps (pl+X.L i) true (kR (some (.int i)))):=
 bg (n:=999998) (K:=GO O aU "place" .Add (.int pl)) ⋯ ((⋯:_=bP (.list (bV X.mm X.L)) (.int i)).trans (DE hi)) ⋯
structure HB(O:aK)(X:LX)(P A:List Nat)(vs:List (List Nat×Nat))(i:Nat):Prop where
 fn:O.fn "Voter" [lst P] [("weight",.int (X.V i))]=some (bq (A,X.V i))
 add:O.mh bv (eS X.s vs) fL "add_voter" [bq (A,X.V i)]=some (eS X.s (vs++[(A,X.V i)]))
theorem Yq(hi:i<X.mm)(hl:ps.length=i)(h:HB O X P A vs i):aw O 999999 aU cr (kX X vs (ps++[P]) pl true (kR (some (.int i)))) (C2 2)=nx (kX X (vs++[(A,X.V i)]) (ps++[P]) pl true (kR (some (.int i)))):=by
 have e:bP (.list (lists (ps++[P]))) (.int i)=some (lst P):=sx (by subst hl;exact agV);refine Wp (n:=999998) (x:="made") (c:=bv) (fs:=eS X.s vs) (ow:=fL) (p:=bq (A,X.V i)) (σ₁:=kX X vs (ps++[P]) pl true (kR (some (.int i)))) ⋯ (G3 ⋯ ((show _=((bP (.list (lists (ps++[P]))) (.int i)).bind λv=>some [v]).bind λvs=>((bP (.list (bV X.mm X.V)) (.int i)).bind λv=>some [(("weight":Str),v)]).bind λks=>O.fn "Voter" vs ks by rfl').trans (aG (aG e rfl) (aG (aG (DE hi) rfl) h.fn))) ⋯ ⋯) h.add ⋯
end
section
def sq(X:LX):Nat->Nat
 |0=>X.nu X.mm|i+1=>sq X i+X.L i
def gz(X:LX)(i:Nat):List Nat:=iU X.s (sq X i) (X.L i)
def l7(X:LX)(i:Nat):List (List Nat):=(ax i).map (gz X)
def l4(X:LX)(i:Nat):List (List Nat×Nat):=(ax i).map λi=>(d7 (gz X i),X.V i)
structure Ep(O:aK)(X:LX):Prop where
 s0:X.s≠0
 L1:∀i,1<=X.L i
 L3:∀i,X.L i<=3
 vo:∀i,i<X.mm->HB O X (gz X i) (d7 (gz X i)) (l4 X i) i
variable{X:LX}{i:Nat}{fz:Bool}{o:Option PV}
theorem WQ(H:Ep O X)(hi:i<X.mm):a9 O 999999 aU cr (kX X (l4 X i) (l7 X i) (sq X i) fz (kR (some (.int i)))) (sB 0 vN)=nx (kX X (l4 X (i+1)) (l7 X (i+1)) (sq X (i+1)) true (kR (some (.int i)))):=by
 have e1:l7 X (i+1)=l7 X i++[gz X i]:=by unfold l7;rw[CE,mR];rfl
 have e2:l4 X (i+1)=l4 X i++[(d7 (gz X i),X.V i)]:=by unfold l4;rw[CE,mR];rfl
 have hl:(l7 X i).length=i:=(bi _).trans cF;rw[e1,e2];exact aF (Yg H.s0 (aq (H.L3 i) (by decide)) (H.L1 i) hi (by rw[hl];exact eN hi (aQ wA (by decide)))) (aF (μ hi) (aF (Yq hi hl (H.vo i hi)) rfl))
def xW(X:LX)(r:ar):ar:=kX X (l4 X X.mm) (l7 X X.mm) (sq X X.mm) true (("i",.pv (.int (X.mm-1:Nat)))::r)
theorem Yk(H:Ep O X):∀{m i:Nat} {fz:Bool} {o:Option PV},i+m=X.mm->(m=0->fz=true/\o=some (.int (X.mm-1:Nat)))->dZ (aS (aw O 999999 aU cr) (sB 0 vN)) aU (sT vN) (aC (gW i m)) (kX X (l4 X i) (l7 X i) (sq X i) fz (kR o))=nx (xW X []):=by
 intro m;induction m with
 |zero=>
  intro i fz o e h;obtain⟨rfl,rfl⟩:=h rfl;obtain rfl:i=X.mm:=e;rfl
 |succ m ih=>
  intro i fz o e _;exact iz (by cases fz<;>cases o<;>rfl') (WQ (fz:=fz) H (by rw[<-e];exact qX (eE m))) (ih ((wM i m).trans e) λq=>⟨rfl,af (λn:Nat=>some (PV.int n)) (show i=X.mm-1 by rw[<-e,q];rfl)⟩)
theorem afz(H:Ep O X):aw O NN aU cr (kX X [] [] (X.nu X.mm) false []) (bl 15)=nx (xW X []):=
 bg (n:=999999) (K:=fU (aw O 999999 aU cr) aU (sT vN) (sB 0 vN)) ⋯ ((⋯:_=f9 0 (X.mm:Nat)).trans (nE (aq wA (by decide)))) (An ((af (λl=>dZ _ aU (sT vN) (aC l) _) yQ).trans (Yk (i:=0) (m:=X.mm) (o:=none) H (f5 _) λq=>absurd q (tC (P:=λX=>X.mm≠0) X (rg _) (rg _)))))
section
variable{α:Type}[DecidableEq α]{v:α->PV}{n:Nat}{x:α}{l m:List α}
theorem abW(h:∀a b,du n (v a) (v b)=some (decide (a=b))):∀{m:List α},l.length=m.length->du.p5 (du n) (l.map v) (m.map v)=some (decide (l=m)):=by
 induction l with
 |nil=>exact λ{m} e=>by cases m with
  |nil=>rfl|cons=>exact absurd e.symm (rg _)
 |cons x l ih=>exact λ{m} e=>by cases m with
  |nil=>exact absurd e (rg _)
  |cons y m=>
   exact aG (h x y) ((af (eP _) (ih (wJ e))).trans (af some ((Bool.decide_and ..).symm.trans (fA List.cons_eq_cons.symm))))
theorem Oo(h:∀a b,du n (v a) (v b)=some (decide (a=b))):du (n+1) (.list (l.map v)) (.list (m.map v))=some (decide (l=m)):=by
 refine(rfl:_=if(l.map v).length=(m.map v).length then du.p5 (du n) (l.map v) (m.map v) else some false).trans ?_;rw[bi,bi];by_cases e:l.length=m.length
 ·rw[iP e,abW h e]
 ·rw[iN e,dF λq=>e (af _ q)]
theorem aaS(h:∀a b,du 4 (v a) (v b)=some (decide (a=b))):lB 4 (v x) (l.map v)=some (decide (x∈l)):=by
 induction l with
 |nil=>rfl
 |cons y l ih=>
  exact aG (h y x) ((af (eP _) ih).trans (af some ((Bool.decide_or ..).symm.trans (fA ((or_congr_left eq_comm).trans jO.symm)))))
end
theorem Dc{n:Nat}{l m:List Nat}:du (n+2) (lst l) (lst m)=some (decide (l=m)):=Oo (n:=n+1) λa b=>af some (fA w0)
theorem Ml{d:List Nat}{l:List (List Nat)}:lB 4 (lst d) (lists l)=some (decide (d∈l)):=(aaS λ_ _=>Dc).trans (af some (fA .rfl))
end
section
noncomputable def nV(t:Bool):List (List Nat):=cond t [[0,1,2],[0,2,1],[1,0,2],[1,2,0],[2,0,1],[2,1,0]] [[0,1],[1,0]]
noncomputable def lW(o g:Option PV):ar:=o.elim [] λo=>("order",.pv o)::g.elim [] λg=>[("given",.pv g)]
def oi(X:LX)(aM:List (List Nat))(r:ar):ar:=xW X (("due",.own (lists aM))::r)
def v7:aH:=bl 17
def Wz(i:Nat):aH:=aJ (sB 0 v7) i
noncomputable def j7(aM:List (List Nat))(g:List Nat):List (List Nat):=if g∈aM then aM else aM++[g]
def oR(O:aK)(X:LX)(M:Nat->Nat)(o:List Nat):Option PV:=O.fn "_law_shared" [.str (nD.getD X.κ ""),.list (bV X.mm X.V),.list (bV X.mm M),.int X.K,lst o] []
variable{X:LX}{aM:List (List Nat)}{o g:List Nat}{a c:PV}{r:Option (PV×PV)}{l:List (List Nat)}{G:List Nat->List Nat}
theorem Κ(h:oR O X X.L o=some (lst g))(hz:aM.length<aA):a9 O 999999 aU cr (oi X aM (lW (some (lst o)) (r.map (·.2)))) (sB 0 v7)=nx (oi X (j7 aM g) (lW (some (lst o)) (some (lst g)))):=by
 refine aF (bg (n:=999998) (K:=bH aU "given" false) (p:=lst g) ⋯ ((show _=oR O X X.L o by cases r<;>rfl').trans h) (show _=nx (oi X aM (lW (some (lst o)) (some (lst g)))) by cases r<;>rfl')) (km.trans (cM (n:=999998) (b:= !decide (g∈aM)) ⋯ ((⋯:_=(lB 4 (lst g) (lists aM)).map not).trans (af (eP not) Ml)) ?_));unfold j7;by_cases h:g∈aM
 ·rw[iP h,dT h];rfl'
 ·rw[iN h,dF h];exact(⋯:_=a9 O 999998 aU cr (oi X aM (lW (some (lst o)) (some (lst g)))) [aJ (sB 0 (Wz 1)) 0]).trans (km.trans (JT (n:=999997) (x:="due") (l0:=lists aM) (L:=lists aM) (p:=lst g) (σ₁:=oi X aM (lW (some (lst o)) (some (lst g)))) ⋯ (aQ (aD (bi _)) hz) ⋯ ⋯ ((⋯:_=nx (xW X (("due",.own (lists aM++[lst g]))::lW (some (lst o)) (some (lst g))))).trans (af (λl=>nx (xW X (("due",.own l)::lW (some (lst o)) (some (lst g))))) (mR (l₁:=aM) (l₂:=[g])).symm))))
theorem X8:(j7 aM g).length<=aM.length+1:=by
 unfold j7;by_cases h:g∈aM
 ·rw[iP h];exact iH _
 ·rw[iN h,da];exact bf _
theorem aat(h:∀x∈l,oR O X X.L x=some (lst (G x))):∀{aM:List (List Nat)} {r:Option (PV×PV)},aM.length+l.length<aA->(l=[]->r≠none)->∃a c,dZ (aS (aw O 999999 aU cr) (sB 0 v7)) aU (sT v7) (lists l) (oi X aM (lW (r.map (·.1)) (r.map (·.2))))=nx (oi X (l.foldl (λd x=>j7 d (G x)) aM) (lW (some a) (some c))):=by
 induction l with
 |nil=>exact λ{aM r} _ q=>match r,q with
  |some (a,c),_=>⟨a,c,rfl⟩|none,q=>absurd rfl (q rfl)
 |cons x l ih=>
  intro aM r hz _;have h1:aM.length<aA:=aQ (cW aM.length _) hz;have h2:(j7 aM (G x)).length+l.length<aA:=aQ (aq (mG X8 l.length) (aD (pS ..))) hz;obtain⟨a,c,e⟩:=ih (λy m=>h y (.tail _ m)) (aM:=j7 aM (G x)) (r:=some (lst x,lst (G x))) h2 λ_=>sN;have k:=Κ (O:=O) (X:=X) (aM:=aM) (o:=x) (g:=G x) (r:=r) (h x (.head _)) h1;refine⟨a,c,?_⟩;rw[Tm];exact iz (v:=lst x) (l:=lists l) (σ₁:=oi X aM (lW (some (lst x)) (r.map (·.2)))) (σ':=oi X (j7 aM (G x)) (lW (some (lst x)) (some (lst (G x))))) (by cases r<;>rfl') (by exact k) (by exact e)
def D7(G:List Nat->List Nat)(t:Bool):List (List Nat):=(nV t).foldl (λd x=>j7 d (G x)) []
def rP(X:LX)(aM:List (List Nat))(q:PV×PV)(r:ar):ar:=oi X aM (("order",.pv q.1)::("given",.pv q.2)::r)
theorem adV(h:∀x∈nV X.t,oR O X X.L x=some (lst (G x))):∃q,a9 O NN aU cr (xW X []) [bl 16,bl 17]=nx (rP X (D7 G X.t) q []):=by
 obtain⟨a,c,e⟩:=aat (O:=O) (X:=X) (aM:=[]) (r:=none) h (by cases X.t<;>decide) (λe=>absurd e (by cases X.t<;>exact ln));exact⟨(a,c),aF (σ₁:=oi X [] (lW none none)) ⋯ (km.trans (bg (n:=999999) (K:=fU (aw O 999999 aU cr) aU (sT v7) (sB 0 v7)) (p:=.list (lists (nV X.t))) ⋯ (tC (P:=λX=>cI O 999999 aU (fJ (oi X [] (lW none none))) (sE v7)=some (.list (lists (nV X.t)))) X ⋯ ⋯) (s9 e)))⟩
noncomputable def fI:List Nat->List Nat->Bool
 |[],m=> !m.isEmpty|x::l,m=>m.casesOn false λy m=>if x=y then fI l m else decide (x<y)
theorem Nj:∀{l m:List Nat},fe.oM (aC l) (aC m)=some (fI l m):=by
 intro l;induction l with
 |nil=>exact λ{m}=>by cases m<;>rfl
 |cons x l ih=>exact λ{m}=>by cases m with
  |nil=>rfl
  |cons y m=>
   refine(rfl:_=if(x:Int)=(y:Int) then fe.oM (aC l) (aC m) else some (decide ((x:Int)<(y:Int)))).trans (y5 ?_ (apply_ite some (x=y) (fI l m) (decide (x<y))).symm);exact ite_congr (propext w0) (λ_=>ih) λ_=>af some (fA u9)
theorem Vc{d:List Nat}(h:∀x∈l,fI d x=false):wz (xl O) (lst d) (lists l)=some (lst d):=by
 induction l with
 |nil=>rfl|cons x l ih=>exact aG (a:=false) (Nj.trans (af some (h x (.head _)))) (ih λy m=>h y (.tail _ m))
theorem aeR{d:List Nat}{q:PV×PV}(h:∀x∈l,fI d x=false):aw O NN aU cr (rP X (d::l) q []) (bl 18)=nx (rP X (d::l) q []):=
 jS (n:=999999) ⋯ ⋯ ((show _=(bP (.list (lists (d::l))) (.int 0)).bind λa=>(wz (xl O) (lst d) (lists l)).bind λb=>fb O .NotEq a b by rfl').trans (aG HO (aG (Vc h) ((af (eP not) Dc).trans (by rw[dT rfl];rfl)))))
noncomputable def AQ(t:Bool):List Nat:=cond t [0,1,2] [0,1]
noncomputable def AG(t:Bool):List Nat:=cond t [2,1,0] [1,0]
def qf(X:LX)(aM:List (List Nat))(q:PV×PV)(g:List Nat×List Nat)(r:ar):ar:=rP X aM q (("first",.pv (lst g.1))::("last",.pv (lst g.2))::r)
theorem m_{q:PV×PV}{g:List Nat×List Nat}(h1:oR O X (λ_=>X.K) (AQ X.t)=some (lst g.1))(h2:oR O X (λ_=>X.K) (AG X.t)=some (lst g.2)):a9 O NN aU cr (rP X aM q []) [bl 19,bl 20]=nx (qf X aM q g []):=by
 have e1:cI O 999999 aU (fJ (rP X aM q [])) (sE (bl 19))=oR O X (λ_=>X.K) (AQ X.t):=tC X ⋯ ⋯;have e2:cI O 999999 aU (fJ (rP X aM q [("first",.pv (lst g.1))])) (sE (bl 20))=oR O X (λ_=>X.K) (AG X.t):=tC X ⋯ ⋯;exact aF (bg (n:=999999) (K:=bH aU "first" false) (p:=lst g.1) ⋯ (e1.trans h1) ⋯) (km.trans (bg (n:=999999) (K:=bH aU "last" false) (p:=lst g.2) ⋯ (e2.trans h2) ⋯))
def pD(X:LX)(aM:List (List Nat))(q:PV×PV)(g:List Nat×List Nat)(t:Bool)(r:ar):ar:=qf X aM q g (("tied",.pv (.bool t))::r)
theorem Yn{q:PV×PV}{g:List Nat×List Nat}{t:Bool}(h:t= !decide (g.1=g.2)):aw O NN aU cr (pD X aM q g t []) (bl 22)=nx (pD X aM q g t []):=
 jS (n:=999999) ⋯ ⋯ ((show _=(((du 4 (lst g.1) (lst g.2)).map not).map PV.bool).bind λb=>fb O .NotEq (.bool t) b by rfl').trans (by
  rw[Dc,h];cases decide (g.1=g.2)<;>rfl))
end
section
variable{nm:aN}{l m q S:List Nat}{L M:List (List Nat)}
theorem Yu:∀{l m:List Nat},fI l m=true->fI m l=false:=by
 intro l;induction l with
 |nil=>exact λ{m} h=>by cases m with
  |nil=>exact ff h|cons=>rfl
 |cons x l ih=>exact λ{m} h=>by cases m with
  |nil=>exact ff h
  |cons y m=>
   refine(rfl:_=if y=x then fI m l else decide (y<x)).trans ?_;have h:(if x=y then fI l m else decide (x<y))=true:=h;by_cases e:x=y
   ·rw[iP e] at h;rw[iP e.symm,ih h]
   ·rw[iN e] at h;rw[iN (gV e)];exact dF (oD (cC h))
theorem XC:∀{l m q:List Nat},fI m l=false->fI q m=false->fI q l=false:=by
 intro l;induction l with
 |nil=>exact λ{m q} h h'=>by cases q with
  |nil=>rfl|cons=>rfl
 |cons x l ih=>exact λ{m q} h h'=>by cases m with
  |nil=>exact tf h
  |cons y m=>cases q with
   |nil=>exact tf h'
   |cons z q=>
    refine(rfl:_=if z=x then fI q l else decide (z<x)).trans ?_;have h:(if y=x then fI m l else decide (y<x))=false:=h;have h':(if z=y then fI q m else decide (z<y))=false:=h';by_cases e:y=x
    ·rw[iP e] at h;rw[<-e];by_cases e':z=y
     ·rw[iP e'] at h'⊢;exact ih h h'
     ·rwa[iN e'] at h'⊢
    ·rw[iN e] at h;have h:=iO h;have k:¬z<y:=by
      by_cases e':z=y
      ·exact e'▸cV _
      ·rw[iN e'] at h';exact iO h'
     have n:x<z:=ba (pT (cZ h) (gV e)) (cZ k);rw[iN (fO n)];exact dF (oD n)
theorem W9:∀{l m:List Nat},fI l m=false->fI m l=false->l=m:=by
 intro l;induction l with
 |nil=>exact λ{m} h _=>by cases m with
  |nil=>rfl|cons=>exact tf h
 |cons x l ih=>exact λ{m} h h'=>by cases m with
  |nil=>exact tf h'
  |cons y m=>
   have h:(if x=y then fI l m else decide (x<y))=false:=h;have h':(if y=x then fI m l else decide (y<x))=false:=h';by_cases e:x=y
   ·rw[iP e] at h;rw[iP e.symm] at h';rw[e,ih h h']
   ·rw[iN e] at h;rw[iN (gV e)] at h';exact absurd (mM (cZ (iO h')) (cZ (iO h))) e
theorem QA(hz:L.length<64):∃out,eD O nm (lists L) []=some (.list (lists out))/\out.Perm L/\out.Pairwise λa b=>fI b a=false:=
 zY (v:=lst) (le:=fI) (k:=3) rfl (λ_=>rfl) (λa _ b _=>Nj) (λa _ b _=>Yu) (λa _ b _ c _=>XC) hz
theorem ξ(p:L.Perm M)(hz:L.length<64):∃out,eD O nm (lists L) []=some (.list (lists out))/\eD O nm (lists M) []=some (.list (lists out)):=by
 obtain⟨o1,e1,p1,s1⟩:=QA (O:=O) (nm:=nm) hz;obtain⟨o2,e2,p2,s2⟩:=QA (O:=O) (nm:=nm) (L:=M) (p.length_eq▸hz);have e:o1=o2:=agU (le:=λa b=>fI b a=false) (λ_ _ _ _ h1 h2=>W9 h2 h1) s1 s2 (p1.trans (p.trans p2.symm));exact⟨o1,e1,e▸e2⟩
theorem aeF(h:SS S)(p:l.Perm S):eD O nm (aC l) []=some (.list (aC S)):=by
 obtain⟨out,e,q,s⟩:=zY (O:=O) (nm:=nm) (v:=λn:Nat=>PV.int n) (le:=λa b=>decide (a<b)) (l:=l) (k:=1) rfl (λ_=>rfl) (λa _ b _=>af some (fA u9)) (λa _ b _ x=>dF (oD (cC x))) (λa _ b _ c _ x y=>dF (gK (aq (cZ (iO x)) (cZ (iO y))))) (p.length_eq▸eN h.len (by decide));exact e.trans (af (λl=>some (PV.list (aC l))) (h.eq (q.trans p) s))
theorem aeD(h:SS S):(eH (.set S) λl=>eD O nm l [])=some (lst S):=xP (.set S) λl' p=>aeF h p
end
section
noncomputable def iR(s m:Nat):List Nat:=(ax s).filter λc=>decide (m/2^c%2=1)
noncomputable def m9(ps:List (List Nat))(c:List Nat):List Nat:=ps.map λP=>(P.filter λx=>decide (x∈c)).length
def v4(s k:Nat)(ps aM:List (List Nat))(m:Nat):Bool:=decide ((iR s m).length=k)&&decide (m9 ps (iR s m)∈aM)
def uq(s k:Nat)(ps aM:List (List Nat))(l:List Nat):List (List Nat):=(l.filter (v4 s k ps aM)).map (iR s)
structure LY where
 X:LX
 aM:List (List Nat)
 q:PV×PV
 g:List Nat×List Nat
 td:Bool
def kU(Y:LY)(want:List (List Nat))(r:ar):ar:=pD Y.X Y.aM Y.q Y.g Y.td (("wanted",.own (lists want))::r)
noncomputable def j6(o m:Option PV):ar:=o.elim [] λo=>("mask",.pv o)::m.elim [] λm=>[("members",.pv m)]
def Az:aH:=bl 24
def AY(i:Nat):aH:=aJ (sB 0 Az) i
def Jf:Expr:=bR 0 (bR 1 (sE (AY 1)))
def Qt:Expr:=bR 0 (bR 0 Jf)
variable{Y:LY}{m:Nat}{C P:List Nat}{r:Option (PV×PV)}
theorem abH{x c:Nat}(h:c<8):fw .RShift x c=some (.int (x/2^c:Nat)):=(rfl:_=if 0<=(x:Int)/\0<=(c:Int)/\(c:Int)<8 then some (PV.int (CH x (2^c))) else none).trans ((iP ⟨fP _,fP _,ji h⟩).trans (af (λi=>some (PV.int i)) (by
 rw[show(2:Int)^c=(2^c:Nat) from(Int.natCast_pow 2 c).symm,fd])))
theorem aei{x:Nat}:(((fw .BitAnd x 1).bind PV.truth).bind λb=>if b=false then some false else some true)=some (decide (x%2=1)):=by
 refine aG (aG ((rfl:_=if 0<=(x:Int)/\(1:Int)=1 then some (PV.int (zm x (2:Nat))) else none).trans (iP ⟨fP _,rfl⟩)) rfl) ?_;rw[fm];rcases ag' x with e|e<;>rw[e]<;>rfl
theorem VI(hs:Y.X.s<=6):aw O 999999 aU cr (kU Y want (j6 (some (.int m)) (r.map (·.2)))) (AY 0)=nx (kU Y want (j6 (some (.int m)) (some (lst (iR Y.X.s m))))):=by
 refine bg (n:=999998) (K:=bH aU "members" false) (p:=lst (iR Y.X.s m)) ⋯ ((show _=(f9 0 Y.X.s).bind λv=>over v (c7 O 999997 (sE (AY 0)) [("mask",.int m)]) by cases r<;>rfl').trans (aG (nE (aq hs (by decide))) ((tg _).trans (vQ (v:=λn:Nat=>.int n) (w:=λn:Nat=>.int n) (ok:=λc=>decide (m/2^c%2=1)) ⋯ (λj h=>(show _=((((fw .RShift m j).bind λa=>fT O .BitAnd a (.int 1)).bind PV.truth).bind λb=>if b=false then some false else some true).bind λok=>if ok=true then some [PV.int j] else some [] by rfl').trans ?_) (aq (aD cF) (aq hs (by decide))))))) (by cases r<;>rfl');rw[abH (ba (eG h) (aq hs (by decide)))];exact aG aei (apply_ite some ..).symm
theorem Yt(hz:P.length<=aA):c7 O 999993 Qt [("members",lst C)] (aC P)=some (lst (P.filter λx=>decide (x∈C))):=
 vQ (v:=λn:Nat=>.int n) (w:=λn:Nat=>.int n) (ok:=λx=>decide (x∈C)) ⋯ (λj h=>(show _=((lB 4 (.int j) (aC C)).bind λb=>if b=false then some false else some true).bind λok=>if ok=true then some [PV.int j] else some [] by rfl').trans (by
  rw[Qc];cases decide (j∈C)<;>rfl)) hz
theorem aeO(hp:ps.length<=aA)(hz:∀P∈ps,P.length<=aA):c7 O 999995 Jf [("members",lst C)] (lists ps)=some (lst (m9 ps C)):=
 (nJ (v:=lst) (w:=λP=>.int ((P.filter λx=>decide (x∈C)).length:Nat)) ⋯ (λP h=>(show _=(((c7 O 999993 Qt [("members",lst C)] (aC P)).bind λv=>some [v]).bind λvs=>nj O "len" vs []).map λx=>[x] by rfl').trans (by
  rw[Yt (hz P h)];exact af (λn:Nat=>some [PV.int n]) (bi _))) hp).trans (af (λl=>some (PV.list l)) (jt (g:=λn:Nat=>PV.int n) (f:=λP:List Nat=>(P.filter λx=>decide (x∈C)).length)).symm)
theorem Z2:(aC C).length=C.length:=bi _
def gM(Y:LY):List (List Nat):=l7 Y.X Y.X.mm
theorem X1(hp:(gM Y).length<=aA)(hz:∀P∈gM Y,P.length<=aA)(hw:want.length<aA):aw O 999999 aU cr (kU Y want (j6 (some (.int m)) (some (lst (iR Y.X.s m))))) (AY 1)=nx (kU Y (want++if v4 Y.X.s Y.X.K (gM Y) Y.aM m=true then[iR Y.X.s m] else[]) (j6 (some (.int m)) (some (lst (iR Y.X.s m))))):=by
 unfold v4;generalize iR Y.X.s m=C;refine cM (n:=999998) (b:=decide (C.length=Y.X.K)&&decide (m9 (gM Y) C∈Y.aM)) ⋯ ((show _=(some (((aC C).length:Int)==(Y.X.K:Int))).bind λb=>if b=false then some false else((c7 O 999995 Jf [("members",lst C)] (lists (gM Y))).bind λa=>fb O .In a (.list (lists Y.aM))).bind λb=>if b=false then some false else some true by rfl').trans ?_) ?_
 ·rw[aeO hp hz,show((lst (m9 (gM Y) C)):PV)=lst (m9 (gM Y) C) from rfl,show((some (lst (m9 (gM Y) C))).bind λa=>fb O .In a (.list (lists Y.aM)))=some (decide (m9 (gM Y) C∈Y.aM)) from Ml,Z2,show((C.length:Int)==(Y.X.K:Int))=decide (C.length=Y.X.K) from fA w0];cases decide (C.length=Y.X.K)<;>cases decide (m9 (gM Y) C∈Y.aM)<;>rfl
 cases decide (C.length=Y.X.K)&&decide (m9 (gM Y) C∈Y.aM) with
 |false=>exact(⋯:_=nx (kU Y want (j6 (some (.int m)) (some (lst C))))).trans (af (λw=>nx (kU Y w (j6 (some (.int m)) (some (lst C))))) (gO want).symm)|true=>exact(⋯:_=a9 O 999998 aU cr (kU Y want (j6 (some (.int m)) (some (lst C)))) [aJ (sB 0 (AY 1)) 0]).trans (km.trans (JT (n:=999997) (x:="wanted") (l0:=lists want) (L:=lists want) (p:=lst C) (σ₁:=kU Y want (j6 (some (.int m)) (some (lst C)))) ⋯ (aQ (aD (bi _)) hw) ⋯ ⋯ ((⋯:_=nx (pD Y.X Y.aM Y.q Y.g Y.td (("wanted",.own (lists want++[lst C]))::j6 (some (.int m)) (some (lst C))))).trans (af (λl=>nx (pD Y.X Y.aM Y.q Y.g Y.td (("wanted",.own l)::j6 (some (.int m)) (some (lst C))))) (mR (l₁:=want) (l₂:=[C])).symm))))
theorem aeG{s k:Nat}{aM:List (List Nat)}{l:List Nat}:uq s k ps aM (m::l)=(if v4 s k ps aM m=true then[iR s m] else[])++uq s k ps aM l:=by
 unfold uq;cases h:v4 s k ps aM m with
 |true=>rw[tD h];rfl|false=>rw[u8 (ne_true_of_eq_false h)];rfl
theorem Ye(hs:Y.X.s<=6)(hp:(gM Y).length<=aA)(hz:∀P∈gM Y,P.length<=aA):∀{l:List Nat} {want:List (List Nat)} {r:Option (PV×PV)},want.length+l.length<aA->(l=[]->r≠none)->∃a c,dZ (aS (aw O 999999 aU cr) (sB 0 Az)) aU (sT Az) (aC l) (kU Y want (j6 (r.map (·.1)) (r.map (·.2))))=nx (kU Y (want++uq Y.X.s Y.X.K (gM Y) Y.aM l) (j6 (some a) (some c))):=by
 intro l;induction l with
 |nil=>exact λ{want r} _ q=>match r,q with
  |some (a,c),_=>⟨a,c,af (λw=>nx (kU Y w (j6 (some a) (some c)))) (gO want).symm⟩|none,q=>absurd rfl (q rfl)
 |cons m l ih=>
  intro want r hw _;have h1:want.length<aA:=aQ (cW want.length _) hw;have h2:(want++if v4 Y.X.s Y.X.K (gM Y) Y.aM m=true then[iR Y.X.s m] else[]).length+l.length<aA:=by
   refine aQ (aq (mG (m:=want.length+1) ?_ l.length) (aD (pS ..))) hw;rw[da];cases v4 Y.X.s Y.X.K (gM Y) Y.aM m
   ·exact iH _
   ·exact bf _
  obtain⟨a,c,e⟩:=ih (r:=some (.int m,lst (iR Y.X.s m))) h2 λ_=>sN;rw[kx,<-aeG] at e;have k0:=VI (O:=O) (Y:=Y) (want:=want) (m:=m) (r:=r) hs;have k1:=X1 (O:=O) (Y:=Y) (want:=want) (m:=m) hp hz h1;exact⟨a,c,iz (v:=.int m) (l:=aC l) (σ₁:=kU Y want (j6 (some (.int m)) (r.map (·.2)))) (by cases r<;>rfl') (by exact aF k0 (km.trans k1)) (by exact e)⟩
def nG(Y:LY)(want:List (List Nat))(u:PV×PV)(r:ar):ar:=kU Y want (("mask",.pv u.1)::("members",.pv u.2)::r)
theorem G_(hs:Y.X.s<=6)(hp:(gM Y).length<=aA)(hz:∀P∈gM Y,P.length<=aA):∃u,a9 O NN aU cr (pD Y.X Y.aM Y.q Y.g Y.td []) [bl 23,bl 24]=nx (nG Y (uq Y.X.s Y.X.K (gM Y) Y.aM (ax (2^Y.X.s))) u []):=by
 have vi:2^Y.X.s<=64:=SJ (n:=2) (by decide) hs;obtain⟨a,c,e⟩:=Ye (O:=O) (Y:=Y) (l:=ax (2^Y.X.s)) (want:=[]) (r:=none) hs hp hz (by rw[cF,Cn,f5];exact aQ vi (by decide)) (λe=>absurd (cF.symm.trans (af yO e)) (fO (Gd (by decide))));refine⟨(a,c),aF (σ₁:=kU Y [] (j6 none none)) ⋯ (km.trans (bg (n:=999999) (K:=fU (aw O 999999 aU cr) aU (sT Az) (sB 0 Az)) ⋯ ((show _=((fw .Pow 2 Y.X.s).bind λv=>some [v]).bind λvs=>nj O "range" vs [] by rfl').trans ?_) (An e)))⟩;rw[show fw .Pow 2 Y.X.s=some (.int (2^Y.X.s:Nat)) from(rfl:_=if(2:Int)=2/\0<=(Y.X.s:Int)/\(Y.X.s:Int)<8 then some (PV.int (2^Y.X.s)) else none).trans ((iP ⟨rfl,fP _,ji (aQ hs (by decide))⟩).trans (af (λi=>some (PV.int i)) (Int.natCast_pow 2 _).symm))];exact nE (aq vi (by decide))
end
section
noncomputable def LX.kd(X:LX)(κ:Nat):LX:={X with κ:=κ}
theorem kC{P:LX->Prop}(X:LX)(h:X.κ<5)(h0:P (X.kd 0))(h1:P (X.kd 1))(h2:P (X.kd 2))(h3:P (X.kd 3))(h4:P (X.kd 4)):P X:=zQ (P:=λκ=>P (X.kd κ)) h0 h1 h2 h3 h4 X.κ h
noncomputable def kB(κ:Nat):Bool:=κ==1||κ==3
def NJ(X:LX):PV:=a7 X.s (zO X.s) (l4 X X.mm)
def xA(O:aK)(X:LX):Option PV:=if X.κ=4 then O.fn "compute_adams" [NJ X,.int X.K] [] else O.fn (cond (dK X.κ) "compute_slav" "compute_pav") [NJ X,.int X.K] [("algorithm",.str (g8 (kB X.κ)))]
variable{X:LX}{Y:LY}{aM l:List (List Nat)}{q u:PV×PV}{g:List Nat×List Nat}{td:Bool}{d:List Nat}{out:List (List Nat)}{r:aZ}
structure Sj(O:aK)(σ:ar)(st:aH)(o:Option PV)(n:Nat)(e:Expr):Prop where
 hs:aw O NN aU cr σ st=(bX (cI O n aU) σ e).bind (bH aU "told" false)
 h0:cI O n aU (fJ σ) e=none
 h1:cI O n aU (bA σ) e=o
def si(i:Nat):aH:=aJ (sB i (bl 25)) 0
theorem HM{n:Nat}{nm:aN}{mu:List Str}{b:Bool}{st':aH}(hs:aw O (n+1) nm mu σ st=(fG O n nm (bA σ) (sE st)).bind λr=>aS (aw O n nm mu) (if r=true then sB 0 st else sB 1 st) σ)(ht:fG O n nm (bA σ) (sE st)=some b)(hb:(if b=true then sB 0 st else sB 1 st)=[st'])(k:aw O n nm mu σ st'=r):aw O (n+1) nm mu σ st=r:=cM hs ht ((af (λl=>aS (aw O n nm mu) l σ) hb).trans (km.trans k))
theorem Df{b:Bool}(h4:k4 X.κ=false)(h2:fG O 999998 aU (bA (nG ⟨X,aM,q,g,td⟩ want u [])) (sE (si 1))=some b)(k:aw O 999998 aU cr (nG ⟨X,aM,q,g,td⟩ want u []) (aJ (if b=true then sB 0 (si 1) else sB 1 (si 1)) 0)=r):aw O NN aU cr (nG ⟨X,aM,q,g,td⟩ want u []) (bl 25)=r:=
 HM (n:=999999) (b:=false) ⋯ ((⋯:_=some (k4 X.κ)).trans (af some h4)) ⋯ (HM (n:=999998) (b:=b) ⋯ h2 (by cases b<;>rfl') k)
theorem Μ(h:X.κ<5):∃n e,Sj O (nG ⟨X,aM,q,g,td⟩ want u []) (bl 25) (xA O X) n e:=
 kC (P:=λX=> ∃n e,Sj O (nG ⟨X,aM,q,g,td⟩ want u []) (bl 25) (xA O X) n e) X h ⟨999997,sE (aJ (sB 0 (si 1)) 0),Df (b:=true) rfl ⋯ ⋯,⋯,⋯⟩ ⟨999997,sE (aJ (sB 0 (si 1)) 0),Df (b:=true) rfl ⋯ ⋯,⋯,⋯⟩ ⟨999997,sE (aJ (sB 1 (si 1)) 0),Df (b:=false) rfl ⋯ ⋯,⋯,⋯⟩ ⟨999997,sE (aJ (sB 1 (si 1)) 0),Df (b:=false) rfl ⋯ ⋯,⋯,⋯⟩ ⟨999998,sE (si 0),HM (n:=999999) (b:=true) (st':=si 0) ⋯ ⋯ ⋯ ⋯,⋯,⋯⟩
noncomputable def lP(l:List (List Nat)):PV:=.list (l.map PV.set)
theorem ad3{ls:List (List PV)}{cs:List (Nat×List Str)}:io ls cs (l.map PV.set)=false:=by
 induction l with
 |nil=>rfl|cons=>assumption
theorem Ni{ls:List (List PV)}{cs:List (Nat×List Str)}:cf ls cs (lP l)=ls.any λm=>nM m (l.map PV.set):=(af ((ls.any λm=>nM m (l.map PV.set))|| ·) ad3).trans (CA _)
theorem Hq:cf [lists l] [] (lP (d::out))=false:=Ni.trans (by cases l<;>rfl)
theorem af5{s:Nat}{vs:List (List Nat×Nat)}:cf (vP (eS s vs) fL) [(bv,(eS s vs).map (·.1))] (lP (d::out))=false:=Ni.trans (by
 show(nM ((ax s).map ds) ((d::out).map PV.set)||(nM (vs.map bq) ((d::out).map PV.set)||false))=false;cases s with
 |zero=>cases vs<;>rfl
 |succ s=>
  rw[yL];cases vs<;>rfl)
theorem YL:dY (lP (d::out)) (nG Y want u [])=nG Y want u []:=
 (⋯:_=tR Y.X (("lengths",.pv (.list (bV Y.X.mm Y.X.L)))::("votes",.pv (.list (bV Y.X.mm Y.X.V)))::m6 Y.X (("made",.a6 bv (eS Y.X.s (l4 Y.X Y.X.mm)) fL)::("parties",.qj (cf [lists (gM Y)] [] (lP (d::out))) (lists (gM Y)))::("place",.pv (.int (sq Y.X Y.X.mm)))::("i",.pv (.int (Y.X.mm-1:Nat)))::("due",.qj (cf [lists Y.aM] [] (lP (d::out))) (lists Y.aM))::("order",.pv Y.q.1)::("given",.pv Y.q.2)::("first",.pv (lst Y.g.1))::("last",.pv (lst Y.g.2))::("tied",.pv (.bool Y.td))::("wanted",.qj (cf [lists want] [] (lP (d::out))) (lists want))::("mask",.pv u.1)::("members",.pv u.2)::[]))).trans (by
  rw[Hq,Hq,Hq];rfl')
theorem Vb(h:Y.X.κ<5)(ht:xA O Y.X=some (lP (d::out))):aw O NN aU cr (nG Y want u []) (bl 25)=nx (nG Y want u [("told",.pv (lP (d::out)))]):=by
 obtain⟨n,e,R⟩:=Μ (O:=O) (aM:=Y.aM) (q:=Y.q) (g:=Y.g) (td:=Y.td) (want:=want) (u:=u) h;exact R.hs.trans (aG (G3 R.h0 (R.h1.trans ht) ((⋯:_=(cf (vP (eS Y.X.s (l4 Y.X Y.X.mm)) fL) [(bv,(eS Y.X.s (l4 Y.X Y.X.mm)).map (·.1))] (lP (d::out))||false)).trans ((CA _).trans af5)) YL) ⋯)
def Iq:Expr:=bR 0 (bR 0 (sE (bl 26)))
theorem XI(h6:∀c∈d::out,SS c)(hz:(d::out).length<64)(hp:(d::out).Perm want):aw O NN aU cr (nG Y want u [("told",.pv (lP (d::out)))]) (bl 26)=some (.ret (.bool true),nG Y want u [("told",.pv (lP (d::out)))]):=by
 obtain⟨o,e1,e2⟩:=ξ (O:=O) (nm:=aU) hp hz;refine wl (n:=999999) ⋯ ((show _=((((c7 O 999996 Iq [] ((d::out).map PV.set)).bind λv=>eH v λl=>eD O aU l []).bind λa=>(eD O aU (lists want) []).bind λb=>AR O .Eq a b (du 4 a b)).map PV.bool) by rfl').trans ?_);have a0:((c7 O 999996 Iq [] ((d::out).map PV.set)).bind λv=>eH v λl=>eD O aU l [])=some (PV.list (lists o)):=
  aG (a:=PV.list (lists (d::out))) (K:=λv=>eH v λl=>eD O aU l []) (nJ (v:=PV.set) (w:=lst) ⋯ (λc m=>(show _=((eH (.set c) λl=>eD O (gS Iq).names l []).map λx=>[x]) by rfl').trans (af (eP λx=>[x]) (aeD (h6 c m)))) (aq (cy hz) (by decide))) e1
 rw[a0,e2];exact af (eP PV.bool) ((Oo (n:=3) (v:=lst) λ_ _=>Dc).trans (af some (dT rfl)))
end
end
section
noncomputable def qB(b:Nat)(B:Int)(q:Nat->Nat->Int):Nat->Nat->Int:=b.casesOn q λ_ i j=>j.casesOn B (q i)
variable{c:Bool}{κ K i j a a' b:Nat}{v t rk:Nat->Nat}{l ps:List Nat}{q:Nat->Nat->Int}{B:Int}
theorem acd(hK:K<8)(hi:i<K)(hj:j<K):Wd c K v a i<=Wd c K v a' j↔Wd c 7 v a i<=Wd c 7 v a' j:=(Np hK hi hj).trans (Np (by decide) (ba hi (ju hK)) (ba hj (ju hK))).symm
theorem Xn(hb:b<=1)(hB:∀i j,q i j<B)(h:fh q):fh (qB b B q):=λa j=>by
 cases b with
 |zero=>exact h a j
 |succ=>cases j with
  |zero=>exact hB a 0|succ j=>exact h a j
theorem SC(hb:b<=1)(hB:∀i j,q i j<B)(F:A6 q rk l t):A6 (qB b B q) rk l λi=>b+t i:=by
 rcases Ug.mp hb with e|e<;>rw[e]
 ·rw[show(λi=>0+t i)=t from funext λi=>f5 _];exact F
 ·rw[show(λi=>1+t i)=λi=>t i+1 from funext λi=>gj ..];intro M x hx y hy ne _ _;show q y (t y)<=qB 1 B q x (t x)/\(rk y<rk x->q y (t y)<qB 1 B q x (t x));have f:=F (λi=>t i+1) x hx y hy ne;cases e:t x with
  |zero=>exact⟨mJ (hB _ _),λ_=>hB _ _⟩
  |succ n=>
   rw[e] at f;exact f (eE n) (i5 _)
theorem QJ(nd:ps.Nodup):ps.Pairwise λa b=>ps.idxOf a<ps.idxOf b:=by
 rw[TN];intro i j hi hj h;rw[nd.idxOf_getElem,nd.idxOf_getElem];exact h
theorem Rj:Fb (λi=>ps.idxOf i) ps:=λa ha b hb e=>by
 have h1:=aha (ahg.mpr ha);have h2:=aha (ahg.mpr hb);rw[<-h1,<-h2];congr 1
theorem yE:bK κ<=1:=by
 unfold bK;by_cases h:κ=4
 ·rw[iP h];exact bf 1
 ·rw[iN h];exact cu 1
structure Fo(κ:Nat)(v:Nat->Nat)(B:Int):Prop where
 k5:κ<5
 v1:∀i,1<=v i
 big:∀i j,Wd (dK κ) 7 v i j<B
def qK(κ:Nat)(v:Nat->Nat)(B:Int):Nat->Nat->Int:=qB (bK κ) B (Wd (dK κ) 7 v)
theorem Fo.dec(H:Fo κ v B):fh (qK κ v B):=Xn yE H.big (DB (by decide) H.v1)
theorem W7(H:Fo κ v B)(nd:ps.Nodup)(h3:ps.length<=3):AL (qK κ v B) (λi=>ps.idxOf i) ps (rJ (dK κ) (bK κ) v) (bK κ) 6:=λl K s h0 G=>by
 have P:oV (mX κ l v K true):=⟨G,H.v1,nd.sublist s,aq s.length_le h3,h0⟩;by_cases e:bK κ*l.length=K
 ·rw[show rJ (dK κ) (bK κ) v l K=λi=>bK κ+0 from funext λi=>iP e];exact⟨gu.trans e,SC yE H.big λM a _ b _ _ h=>absurd h (cV _),λ_ _=>bf _⟩
 ·have L:=(II (O:=Al) (A9 H.k5 P) P e).1;rw[show rJ (dK κ) (bK κ) v l K=λi=>bK κ+fy (Wd (dK κ) K v) K (lM (Wd (dK κ) K v) K l (K-bK κ*l.length)) l (K-bK κ*l.length) i from funext λi=>iN e];exact⟨qH.trans ((congr (af HAdd.hAdd gu) (RP L P.nd)).trans (iK G.lo)),SC yE H.big (f_ (λa b i j hi hj=>acd (aQ G.hi (by decide)) hi hj) P.dec L P.nd ((QJ nd).sublist s)),λ_ _=>cW ..⟩
end
section
variable{K i m s b:Nat}{L:Nat->Nat}{l c:List Nat}{ps:Nat->List Nat}
section
variable{j pl a k x:Nat}{y:Nat->Nat}{X:LX}
theorem WT:su L (ax (m+1))=su L (ax m)+L m:=by
 unfold su;rw[CE,mR,List.sum_append_nat];rfl
theorem VT:iU s pl a++iU s (pl+a) b=iU s pl (a+b):=by
 unfold iU;rw[List.range_add,mR,jt];exact af _ (pV λj _=>by rw[agT,fC])
theorem VK:∀m,(l7 X m).flatten=iU X.s (X.nu X.mm) (su X.L (ax m))/\sq X m=X.nu X.mm+su X.L (ax m):=by
 intro m;induction m with
 |zero=>exact⟨rfl,rfl⟩
 |succ m ih=>
  rw[WT];refine⟨?_,(af (· +X.L m) ih.2).trans (fC ..)⟩;unfold l7;rw[CE,mR,List.flatten_append];show(l7 X m).flatten++(iU X.s (sq X m) (X.L m)++[])=_;rw[ih.1,gO,ih.2,VT]
theorem abc(hs:s≠0)(h:k<=s):(iU s pl k).Nodup:=by
 unfold iU;rw[List.nodup_iff_pairwise_ne,TM];refine TV.imp_of_mem λ{a b} ha hb eZ e=>?_;have z:=Nat.sub_mod_eq_zero_of_mod_eq e.symm;rw[Nat.add_sub_add_left,Nat.mod_eq_of_lt (aQ (kE ..) (ba (eG hb) h))] at z;exact oh eZ (Nat.sub_eq_zero_iff_le.mp z)
theorem O7(hs:s≠0):∀x∈iU s pl k,x<s:=λx m=>by
 obtain⟨j,_,rfl⟩:=rn.mp m;exact Cs _ (T8 hs)
theorem abS(hs:s≠0):(iU s pl s).Perm (ax s):=by
 have nd:=abc (pl:=pl) hs (bf s);refine(Gf nd vc).mpr λx=>⟨λm=>dL (O7 hs x m),λm=>zj λn=>?_⟩;have:=(nR ⟨n,nd⟩).length_le_of_subset (l₂:=ax s) λy my=>(bw my).elim (λe=>e▸m) λmy=>dL (O7 hs y my);rw[wK,show(iU s pl s).length=s from(bi _).trans cF,cF] at this;exact cV _ this
structure gZ(ps:Nat->List Nat)(L:Nat->Nat)(m s:Nat):Prop where
 perm:((ax m).map ps).flatten.Perm (ax s)
 len:∀i,(ps i).length=L i
theorem Yr(hs:X.s≠0)(e:X.s=su X.L (ax X.mm)):gZ (gz X) X.L X.mm X.s where
 perm:=.trans (.of_eq ((VK X.mm).1.trans (af (iU X.s (X.nu X.mm)) e.symm))) (abS hs)
 len i:=(bi _).trans cF
theorem gZ.nd(D:gZ ps L m s):((ax m).map ps).flatten.Nodup:=D.perm.nodup_iff.mpr vc
theorem gZ.Fd(D:gZ ps L m s)(hi:i<m):(ps i).Nodup:=(ahh.mp D.nd).1 _ (qZ (dL hi))
theorem gZ.lt(D:gZ ps L m s)(hi:i<m):∀x∈ps i,x<s:=λx m=>eG (D.perm.mem_iff.mp (List.mem_flatten.mpr ⟨_,qZ (dL hi),m⟩))
theorem gZ.up(D:gZ ps L m s)(h:i<j)(hj:j<m)(a:x∈ps i)(b:x∈ps j):False:=by
 have h2:=(ahh.mp D.nd).2;rw[TM] at h2;have k:=(TN.mp h2) i j (i6 (eN h hj) cF.symm) (i6 hj cF.symm) h;rw[SN,SN] at k;exact k x a x b rfl
theorem gZ.one(D:gZ ps L m s)(hi:i<m)(hj:j<m)(a:x∈ps i)(b:x∈ps j):i=j:=(TW i j).elim (λh=>(D.up h hj a b).elim) λh=>h.elim (λe=>e) λh=>(D.up h hi b a).elim
noncomputable def eF(ps:Nat->List Nat)(c:List Nat)(i:Nat):Nat:=((ps i).filter λx=>decide (x∈c)).length
theorem G1(D:gZ ps L m s):eF ps c i<=L i:=D.len i▸rm _ _
theorem J_{P:Nat->Bool}:su (λi=>((ps i).filter P).length) l=((l.map ps).flatten.filter P).length:=by
 induction l with
 |nil=>rfl|cons a l ih=>exact(af (((ps a).filter P).length+ ·) ih).trans (da.symm.trans (af yO (pW ..).symm))
theorem H3(D:gZ ps L m s)(h1:c.Nodup)(h2:∀x∈c,x<s):su (eF ps c) (ax m)=c.length:=
 J_.trans (((D.perm.filter _).length_eq).trans ((Gf (vc.filter _) h1).mpr λx=>by
  rw[oE,decide_eq_true_iff,Lc];exact⟨λh=>h.2,λh=>⟨h2 x h,h⟩⟩).length_eq)
theorem YU:∀{k:Nat},l.Nodup->l.filter (λx=>decide (x∈l.take k))=l.take k:=by
 induction l with
 |nil=>exact λ_=>u5.symm
 |cons a l ih=>
  intro k nd;have nd:=iW nd;cases k with
  |zero=>exact Gp.mpr λx _ h=>eX (cC h)
  |succ k=>
   rw[List.take_succ_cons,tD (p:=λx=>decide (x∈a::l.take k)) (dT (List.mem_cons_self ..))];exact af (a:: ·) ((CG λx m=>show decide (x∈a::l.take k)=decide (x∈l.take k) from fA (jO.trans (or_iff_right λe:x=a=>nd.1 (e▸m)))).trans (ih nd.2))
def vw(ps:Nat->List Nat)(y:Nat->Nat)(m:Nat):List Nat:=d7 ((ax m).flatMap λi=>(ps i).take (y i))
theorem Og:x∈vw ps y m↔∃i,i<m/\x∈(ps i).take (y i):=tm.trans (Gm.trans ⟨λ⟨i,h,k⟩=>⟨i,eG h,k⟩,λ⟨i,h,k⟩=>⟨i,dL h,k⟩⟩)
theorem JM(D:gZ ps L m s)(hi:i<m)(hy:y i<=L i):eF ps (vw ps y m) i=y i:=by
 unfold eF;rw[CG λx mx=>show decide (x∈vw ps y m)=decide (x∈(ps i).take (y i)) from fA (Og.trans ⟨λ⟨j,hj,h⟩=>D.one hi hj mx (Ld h)▸h,λh=>⟨i,hi,h⟩⟩),YU (D.Fd hi),FS,D.len i];exact wV hy
theorem Om(D:gZ ps L m s)(hy:∀i,i<m->y i<=L i)(hK:su y (ax m)=K):vw ps y m∈cj s 0 K:=by
 have h1:(vw ps y m).Pairwise (· < ·):=oH;have h2:∀x∈vw ps y m,x<s:=λx mx=>(Og.mp mx).elim λi h=>D.lt h.1 x (Ld h.2);exact BO ((H3 D (kQ h1) h2).symm.trans ((yc λi m=>JM D (eG m) (hy i (eG m))).trans hK)) h1 λx m=>⟨cu _,h2 x m⟩
theorem aai(D:gZ ps L m s)(hc:c.Nodup)(hi:i<m):(fg c (d7 (ps i))).length=eF ps c i:=by
 rw[<-Rp hc (kQ oH)];refine((Do (D.Fd hi)).filter _).length_eq.trans ?_;unfold eF;rw[CG λx _=>List.contains_eq_mem ..]
end
section
variable{n:Nat}{x y:Nat->Nat}{ws:List Nat}{q:Nat->Nat->Int}{B:Int}
def d5(b:Nat)(ps:Nat->List Nat)(m:Nat)(c:List Nat):Prop:=∀i,i<m->b<=eF ps c i
structure Aw(q:Nat->Nat->Int)(b:Nat)(ps:Nat->List Nat)(m s K:Nat)(c:List Nat):Prop where
 d5:d5 b ps m c
 top:∀c'∈cj s 0 K,Mine.d5 b ps m c'->ly q (ax m) (λi=>eF ps c' i-b)<=ly q (ax m) λi=>eF ps c i-b
theorem BF(h:0<n):qB 1 B q i n=q i (n-1):=by
 cases n with
 |zero=>exact absurd h (cV 0)|succ=>rfl
theorem M9(hb:b<=1)(hB:∀i j,q i j<B)(h:∀a∈ws,b<=x a):lO (qB b B q) L ws x↔lO q (λi=>L i-b) ws λi=>x i-b:=by
 rcases Ug.mp hb with rfl|rfl
 ·exact .rfl
 ·refine⟨λO a ha a' rA ne h1 h2=>?_,λO a ha a' rA ne h1 h2=>?_⟩
  ·have p:=O a ha a' rA ne (h a ha) (om λk=>gK (KZ k 1) h2);rwa[BF (h a' rA),BF h1] at p
  ·rw[BF (h a' rA)];rcases Nat.eq_zero_or_pos (x a-1) with e|e
   ·rw[e];exact mJ (hB _ _)
   ·rw[BF e];exact O a ha a' rA ne e (ag3 (h a' rA) h2)
theorem Q0(hb:b<=1)(hB:∀i j,q i j<B)(O:lO (qB b B q) L ws x)(h1:∀a∈ws,b<=L a)(hs:b*ws.length<=su x ws):∀a∈ws,b<=x a:=by
 rcases Ug.mp hb with rfl|rfl
 ·exact λ_ _=>cu _
 ·refine λa ha=>T8 λhx=>?_;by_cases e:∃a'∈ws,1<x a'
  ·obtain⟨a',rA,h2⟩:=e;have h3:=O a' rA a ha (λe=>by rw[e,hx] at h2;exact y9 1 h2) (eN Lb h2) (hx▸h1 a ha);rw[hx,BF (rh h2)] at h3;exact ir h3 (hB _ _)
  ·have all:∀a∈ws,x a<=1:=λa ha=>cZ λh=>e ⟨a,ha,h⟩;have k:=A2 (t':=λ_=>1) all (mM (lS all) (gu.symm▸hs)) ha;rw[hx] at k;exact Nat.zero_ne_one k
theorem ZD(h:∀a∈ws,b<=x a):su (λi=>x i-b) ws+b*ws.length=su x ws:=by
 rw[<-gu,<-qH];exact yc λa m=>F0 (h a m)
theorem vV(hc:c∈cj s 0 K):c.Nodup/\(∀x∈c,x<s)/\c.length=K:=⟨kQ (sJ hc).2.1,λx m=>((sJ hc).2.2 x m).2,(sJ hc).1⟩
theorem ae4(D:gZ ps L m s)(hb:b<=1)(hB:∀i j,q i j<B)(hq:fh q)(h1:∀i,i<m->b<=L i)(hK:b*m<=K)(hc:c∈cj s 0 K):Aw q b ps m s K c↔lO (qB b B q) L (ax m) (eF ps c):=by
 have hs {c} (hc:c∈cj s 0 K):su (eF ps c) (ax m)=K:=(H3 D (vV hc).1 (vV hc).2.1).trans (vV hc).2.2;have cv {c} (h:d5 b ps m c):∀a∈ax m,b<=eF ps c a:=λa m=>h a (eG m);have sh {c} (hc:c∈cj s 0 K) (h:d5 b ps m c):su (λi=>eF ps c i-b) (ax m)+b*m=K:=by
  have z:=ZD (cv h);rwa[cF,hs hc] at z
 have lL {c}:∀a∈ax m,eF ps c a-b<=L a-b:=λa m=>KZ (G1 D) b;constructor
 ·intro W;refine(M9 hb hB (cv W.1)).mpr (acu vc lL λy hy e=>?_);have US:∀i,i<m->y i+b<=L i:=λi hi=>TS (h1 i hi) (hy i (dL hi));have ce:∀i,i<m->eF ps (vw ps (λi=>y i+b) m) i=y i+b:=λi hi=>JM D hi (US i hi);have t:=W.2 _ (Om D US (qH.trans (by rw[e,gu,cF];exact sh hc W.1))) λi hi=>by rw[ce i hi];exact i7 _ _
  refine ic (oF (yi λi m=>af (iL q i) ?_)) t;rw[ce i (eG m),wX]
 ·intro O;have C:d5 b ps m c:=λi hi=>Q0 hb hB O (λa m=>h1 a (eG m)) (by rw[cF,hs hc];exact hK) i (dL hi);exact⟨C,λc' jv C'=>Zk hq ((M9 hb hB (cv C)).mp O) lL lL (Nat.add_right_cancel ((sh jv C').trans (sh hc C).symm))⟩
end
section
variable{r d:Bool}{n:Nat}{V:Nat->Nat}{S:Nat->Int}{E:Int}{f g:Nat->Int}
def jh(ps:Nat->List Nat)(V:Nat->Nat)(l:List Nat):List (List Nat×Nat):=l.map λi=>(d7 (ps i),V i)
theorem j_(D:gZ ps L m s)(hc:c.Nodup)(h:∀i∈l,i<m):d6 S c (jh ps V l)=sI (λi=>S (eF ps c i)*V i) l:=by
 induction l with
 |nil=>rfl
 |cons i l ih=>
  show S (fg c (d7 (ps i))).length*V i+d6 S c (jh ps V l)=_;rw[ih λi m=>h i (.tail _ m),aai D hc (h i (.head _))];rfl
theorem PJ:sI (λi=>E*f i) l=E*sI f l:=by
 induction l with
 |nil=>exact(TX E).symm|cons i l ih=>exact(af (E*f i+ ·) ih).trans (La ..).symm
def GQ(d:Bool)(E:Int)(S:Nat->Int):Prop:=S 0=0/\∀j,j<3->E*(S (j+1) -S j)=(dH d 7/c9 d j:Nat)
theorem PI{z:Int}(j:Nat):E*(S n*z)+E*((S j-S n)*z)=E*(S j*z):=by rw[<-La,<-Ga,u7,KX]
theorem PZ(H:GQ d E S)(h:n<=3):iL (Wd d 7 V) i n=E*(S n*V i):=by
 induction n with
 |zero=>exact(by rw[H.1,yS,TX];rfl)
 |succ n ih=>
  show iL (Wd d 7 V) i n+Wd d 7 V i n=_;rw[ih (lF h),vF (ba h (by decide)),T5,<-H.2 n h,Int.mul_left_comm (V i:Int),Int.mul_comm (V i:Int) (S (n+1) -S n),PI]
noncomputable def eR(r:Bool):Int:=cond r 1287 420
theorem Ρ:[false,true].all (λr=>decide (rS r 0=0)&&decide (0<eR r)&&(ax 3).all λj=>decide (eR r*(rS r (j+1) -rS r j)=(dH r 7/c9 r j:Nat)))=true:=⋯
theorem Qd:GQ r (eR r) (rS r)/\0<eR r:=by
 have h:=aW (b7 Ρ r (by cases r<;>decide));have g:=aW h.1;exact⟨⟨cC g.1,λj hj=>cC (b7 h.2 j (dL hj))⟩,cC g.2⟩
def sA(n:Nat):Int:=n8 (n+1) -n8 1
theorem XK:GQ false 840 sA:=⟨⋯,λj hj=>cC (b7 (show(ax 3).all (λj=>decide (840*(sA (j+1) -sA j)=((dH false 7/c9 false j:Nat):Int)))=true by rfl') j (dL hj))⟩
structure qC(ps:Nat->List Nat)(L V:Nat->Nat)(m s K:Nat):Prop where
 D:gZ ps L m s
 V:gf s K (jh ps V (ax m))
 L3:∀i,L i<=3
theorem qC.sc(P:qC ps L V m s K)(hc:c∈cj s 0 K):d6 S c (jh ps V (ax m))=sI (λi=>S (eF ps c i)*V i) (ax m):=j_ P.D (vV hc).1 λi m=>eG m
theorem qC.c3(P:qC ps L V m s K):eF ps c i<=3:=aq (G1 P.D) (P.L3 i)
theorem adR(P:qC ps L V m s K)(hc:c∈cj s 0 K):c∈yh (rS r) s K (jh ps V (ax m))↔Aw (Wd r 7 V) 0 ps m s K c:=by
 have e {c} (hc:c∈cj s 0 K):ly (Wd r 7 V) (ax m) (λi=>eF ps c i-0)=eR r*d6 (rS r) c (jh ps V (ax m)):=by
  rw[P.sc hc,<-PJ];exact yi λi m=>PZ Qd.1 P.c3
 have le {c c'} (hc:c∈cj s 0 K) (jv:c'∈cj s 0 K):ly (Wd r 7 V) (ax m) (λi=>eF ps c' i-0)<=ly (Wd r 7 V) (ax m) (λi=>eF ps c i-0)↔d6 (rS r) c' (jh ps V (ax m))<=d6 (rS r) c (jh ps V (ax m)):=by
  rw[e hc,e jv];exact ahb Qd.2
 exact(Hi (li t6 P.V)).trans ⟨λh=>⟨λ_ _=>cu _,λc' jv _=>(le hc jv).mpr (h.2 c' jv)⟩,λh=>⟨hc,λc' jv=>(le hc jv).mp (h.2 c' jv λ_ _=>cu _)⟩⟩
def yx(ps:Nat->List Nat)(V:Nat->Nat)(c:List Nat)(i:Nat):Nat:=if eF ps c i=0 then 0 else V i
theorem aek(h:n<=3){v:Nat}:t5 n*(v:Int)=((if n=0 then 0 else v:Nat):Int):=by
 have f:∀n,n<4->t5 n=if n=0 then 0 else 1:=vR ⋯ ⋯ ⋯ ⋯;rw[f n (kA h)];by_cases e:n=0
 ·rw[iP e,iP e,yS];rfl
 ·rw[iN e,iN e,Int.one_mul]
theorem afq{f:Nat->Nat}:sI (λi=>(f i:Int)) l=(su f l:Nat):=by
 induction l with
 |nil=>rfl|cons i l ih=>exact(af ((f i:Int)+ ·) ih).trans (w3 ..).symm
theorem qC.cc(P:qC ps L V m s K)(hc:c∈cj s 0 K):d6 t5 c (jh ps V (ax m))=(su (yx ps V c) (ax m):Nat):=(P.sc hc).trans ((yi λi _=>aek P.c3).trans afq)
theorem Ho:yx ps V c i<=V i:=by
 unfold yx;by_cases e:eF ps c i=0
 ·rw[iP e];exact cu _
 ·rw[iN e];exact bf _
theorem NQ(h:d5 1 ps m c):su (yx ps V c) (ax m)=su V (ax m):=yc λi m=>iN (fO (h i (eG m)))
theorem afg(P:qC ps L V m s K)(hV:∀i,1<=V i)(hx:∃c0∈cj s 0 K,d5 1 ps m c0):c∈dP (λc=>d6 t5 c (jh ps V (ax m))) (cj s 0 K)↔c∈cj s 0 K/\d5 1 ps m c:=by
 refine(Hi (li uC.2 P.V)).trans (and_congr_right λhc=>⟨λh i hi=>T8 λe=>?_,λh y hy=>?_⟩)
 ·obtain⟨c0,h0,C0⟩:=hx;have h2:=h c0 h0;rw[P.cc h0,P.cc hc,NQ C0] at h2;have k:=A2 (t:=yx ps V c) (t':=V) (λ_ _=>Ho) (mM (lS λ_ _=>Ho) (T4.mp h2)) (dL hi);rw[show yx ps V c i=0 from iP e] at k;exact gE (hV i) k
 ·rw[P.cc hy,P.cc hc,NQ h];exact oW (lS λ_ _=>Ho)
theorem ϥ(P:qC ps L V m s K)(hV:∀i,1<=V i)(hx:∃c0∈cj s 0 K,d5 1 ps m c0)(hc:c∈cj s 0 K):c∈Hw s K (jh ps V (ax m))↔Aw (Wd false 7 V) 1 ps m s K c:=by
 have e {c} (hc:c∈cj s 0 K) (C:d5 1 ps m c):840*d6 n8 c (jh ps V (ax m))=sI (λi=>840*(n8 1*V i)) (ax m)+ly (Wd false 7 V) (ax m) λi=>eF ps c i-1:=by
  rw[P.sc hc,<-PJ];refine(yi λi mi=>?_).trans Jj;obtain⟨n,e⟩:=ag9 (C i (eG mi));have h3:=P.c3 (c:=c) (i:=i);rw[e] at h3;show 840*(n8 (eF ps c i)*V i)=840*(n8 1*V i)+iL (Wd false 7 V) i (eF ps c i-1);rw[e];rw[wX,PZ XK (lF h3)];exact(PI (S:=n8) (n:=1) (n+1)).symm
 have le {c c'} (hc:c∈cj s 0 K) (jv:c'∈cj s 0 K) (C:d5 1 ps m c) (C':d5 1 ps m c'):ly (Wd false 7 V) (ax m) (λi=>eF ps c' i-1)<=ly (Wd false 7 V) (ax m) (λi=>eF ps c i-1)↔d6 n8 c' (jh ps V (ax m))<=d6 n8 c (jh ps V (ax m)):=by
  refine KW ?_ (ahb (show(0:Int)<840 by decide));rw[e hc C,e jv C'];exact(Int.add_le_add_iff_left _).symm
 have T {c}:=afg (c:=c) P hV hx;refine(Hi λx mx=>li uC.1 P.V x (T.mp mx).1).trans ⟨λh=>⟨(T.mp h.1).2,λc' jv C'=>(le hc jv (T.mp h.1).2 C').mpr (h.2 c' (T.mpr ⟨jv,C'⟩))⟩,λh=>⟨T.mpr ⟨hc,h.d5⟩,λc' m=>(le hc (T.mp m).1 h.d5 (T.mp m).2).mp (h.2 c' (T.mp m).1 (T.mp m).2)⟩⟩
end
end
section
variable{b K:Nat}{o c ps:List Nat}{aM:List (List Nat)}{X:LX}{B:Int}{M:Nat->Nat}
section
variable{m:Nat}{x:List Nat}{G:List Nat->List Nat}{os l:List (List Nat)}{T:Bool}
theorem ZY:[false,true].all (λT=>(nV T).all λo=>o.isPerm (ax (cond T 3 2)))=true:=⋯
theorem E0(h:o∈nV T):o.Perm (ax (cond T 3 2)):=List.isPerm_iff.mp (b7 (b7 ZY T (by cases T<;>decide)) o h)
noncomputable def zP:List Bool:=[false,true]
theorem Ey{b:Bool}:b∈zP:=by cases b<;>decide
theorem Xm:zP.all (λT=>zP.all λa=>zP.all λb=>zP.all λc=>(nV T).contains (xV (λi=>[a,b,c].getD i false) (ax (cond T 3 2))))=true:=⋯
theorem ac2{p p':Nat->Bool}(h:∀i∈ps,p i=p' i):xV p ps=xV p' ps:=show ps.filter p++ps.filter (λi=> !p i)=ps.filter p'++ps.filter λi=> !p' i from congr (af ag7 (CG h)) (CG λi m=>af not (h i m))
theorem aae{p:Nat->Bool}:xV p (ax (cond T 3 2))∈nV T:=by
 rw[ac2 (p':=λi=>[p 0,p 1,p 2].getD i false) λi m=>?_]
 ·exact qI (b7 (b7 (b7 (b7 Xm T Ey) (p 0) Ey) (p 1) Ey) (p 2) Ey)
 ·have h3:i<3:=ba (eG m) (by cases T<;>decide);cases i with
  |zero=>rfl
  |succ i=>cases i with
   |zero=>rfl
   |succ i=>cases i with
    |zero=>rfl|succ i=>exact absurd h3 (gK (i7 ..))
theorem z_{g:List Nat}:x∈j7 aM g↔x∈aM\/x=g:=by
 unfold j7;by_cases h:g∈aM
 ·rw[iP h];exact⟨.inl,λk=>k.elim id λe=>e▸h⟩
 ·rw[iN h,Lh,Gi]
theorem U7:∀{aM:List (List Nat)},x∈os.foldl (λd o=>j7 d (G o)) aM↔x∈aM\/∃o∈os,x=G o:=by
 induction os with
 |nil=>exact⟨.inl,λh=>h.elim id λ⟨_,m,_⟩=>absurd m eX⟩|cons o os ih=>exact ih.trans ((or_congr_left z_).trans (or_assoc.trans (or_congr_right ⟨λh=>h.elim (λe=>⟨o,.head _,e⟩) λ⟨a,m,e⟩=>⟨a,.tail _ m,e⟩,λ⟨a,m,e⟩=>(bw m).elim (λk=>.inl (k▸e)) λm=>.inr ⟨a,m,e⟩⟩)))
theorem MQ:x∈D7 G T↔∃o∈nV T,x=G o:=U7.trans (or_iff_right eX)
theorem Vf:∀{l:List (List Nat)},∃l',os.foldl (λd o=>j7 d (G o)) (x::l)=x::l':=by
 induction os with
 |nil=>exact⟨_,rfl⟩
 |cons o os ih=>
  intro l;rw[Tm];unfold j7;by_cases h:G o∈x::l
  ·rw[iP h];exact ih
  ·rw[iN h];exact ih (l:=l++[G o])
theorem Zt:∀{l m:List Nat},Ad l m=true->l.length=m.length->fI m l=false:=by
 intro l;induction l with
 |nil=>exact λ{m} _ e=>by rw[zn.mp e.symm];rfl
 |cons a l ih=>
  intro m h e;cases m with
  |nil=>exact absurd e (rg _)
  |cons b m=>
   have h:(decide (a<b)||(decide (a=b)&&Ad l m))=true:=h;refine(rfl:_=if b=a then fI m l else decide (b<a)).trans ?_;by_cases k:a=b
   ·rw[dF (gK (aD k.symm)),dT k] at h;rw[iP k.symm];exact ih h (wJ e)
   ·rw[dF k,Bool.false_and,CA] at h;rw[iN (gV k)];exact dF (oD (cC h))
end
section
structure e9(X:LX)(B:Int):Prop where
 H:Fo X.κ X.V B
 D:gZ (gz X) X.L X.mm X.s
 L1:∀i,1<=X.L i
 L3:∀i,X.L i<=3
 es:X.s=su X.L (ax X.mm)
 s6:X.s<=6
 lo:bK X.κ*X.mm<=X.K
 K1:1<=X.K
 Ks:X.K<=X.s
variable{t t' rk:Nat->Nat}{l:List Nat}{k:Nat}{q:Nat->Nat->Int}{W:Nat->Nat->Int}{S:Nat}{z:Int}
def oS(X:LX):List Nat->Nat->Nat->Nat:=rJ (dK X.κ) (bK X.κ) X.V
def gF(X:LX)(M:Nat->Nat)(o:List Nat)(i:Nat):Nat:=if i∈o then rL (oS X) M (o.length+1) o X.K i else 0
def gv(X:LX)(M:Nat->Nat)(o:List Nat):List Nat:=(ax X.mm).map (gF X M o)
theorem Y7(p:o.Perm l)(G:mj b 6 l K):mj b 6 o K:=⟨by rw[p.length_eq];exact G.lo,G.one,G.hi⟩
theorem Iy(p:o.Perm l):su t o=su t l:=(p.map t).sum_nat
theorem yw.congr(p:o.Perm l)(h:∀a∈o,t' a=t a)(R:yw q rk M o K t):yw q rk M l K t' where
 lK a ha b hb ne h0 eZ:=by
  have ha:=p.mem_iff.mpr ha;have hb:=p.mem_iff.mpr hb;rw[h a ha] at h0⊢;rw[h b hb] at eZ⊢;exact R.lK a ha b hb ne h0 eZ
 sum:=(Iy p).symm.trans ((yc h).trans R.sum)
 le a ha:=(h a (p.mem_iff.mpr ha)).symm▸R.le a (p.mem_iff.mpr ha)
theorem e9.G(P:e9 X B)(p:o.Perm (ax X.mm)):mj (bK X.κ) 6 o X.K:=Y7 p ⟨by rw[cF];exact P.lo,P.K1,aq P.Ks P.s6⟩
theorem zN:0<X.mm:=tC (P:=λX=>0<X.mm) X (eE _) (eE _)
theorem C7(p:o.Perm (ax X.mm)):o≠[]:=λe=>cV 0 (i6 (zN (X:=X)) (cF.symm.trans (p.length_eq.symm.trans (af yO e))))
theorem G2(p:o.Perm (ax X.mm)):o.Nodup:=p.nodup_iff.mpr vc
theorem xE(p:o.Perm (ax X.mm)):o.length<=3:=aq (aD (p.length_eq.trans cF)) wA
theorem e9.bp(P:e9 X B)(p:o.Perm (ax X.mm)):AL (qK X.κ X.V B) (λi=>o.idxOf i) o (oS X) (bK X.κ) 6:=W7 P.H (G2 p) (xE p)
theorem A4(P:e9 X B)(hM:X.K<=su M (ax X.mm))(p:o.Perm (ax X.mm)):yw (qK X.κ X.V B) (λi=>o.idxOf i) M (ax X.mm) X.K (gF X M o):=
 (aff (K₀:=X.K) P.H.dec (G2 p) Rj (P.bp p) (i5 _) (.refl o) (λ_=>P.G p) rfl ((Iy p).symm▸hM) λc h n=>absurd h n).congr p λa m=>iP m
theorem lO.congr(h:∀a∈ps,t a=t' a)(O:lO q M ps t):lO q M ps t':=λa ha b hb ne h0 eZ=>by
 rw[<-h a ha] at h0⊢;rw[<-h b hb] at eZ⊢;exact O a ha b hb ne h0 eZ
theorem e9.hM(P:e9 X B):X.K<=su X.L (ax X.mm):=P.es▸P.Ks
theorem e9.bL(P:e9 X B):∀i,bK X.κ<=X.L i:=λi=>aq yE (P.L1 i)
def jy(X:LX):List (List Nat):=D7 (gv X X.L) X.t
theorem ad8(P:e9 X B)(hc:c∈cj X.s 0 X.K):(ax X.mm).map (eF (gz X) c)∈jy X↔Aw (Wd (dK X.κ) 7 X.V) (bK X.κ) (gz X) X.mm X.s X.K c:=by
 refine KW ?_ (ae4 P.D yE P.H.big (DB (by decide) P.H.v1) (λi _=>P.bL i) P.lo hc).symm;refine MQ.trans ⟨λ⟨o,m,e⟩=>?_,λO=>?_⟩
 ·exact lO.congr (λa ha=>(Gj.mp e a ha).symm) (A4 P P.hM (E0 m)).lK.opt
 ·obtain⟨p,Fp⟩:=YV P.H.dec O;have m:xV p (ax X.mm)∈nV X.t:=aae;have pm:=E0 m;have R:=A4 P P.hM pm;exact⟨_,m,pV (Xs P.H.dec (λa ha b hb=>Rj a (pm.mem_iff.mpr ha) b (pm.mem_iff.mpr hb)) Fp R.lK (λa _=>G1 P.D) R.le ((H3 P.D (vV hc).1 (vV hc).2.1).trans ((vV hc).2.2.trans R.sum.symm)))⟩
theorem afR(P:e9 X B):∃e l,jy X=e::l/\∀x∈l,fI e x=false:=by
 obtain⟨os,eo⟩:∃os,nV X.t=ax X.mm::os:=tC (P:=λX=> ∃os,nV X.t=ax X.mm::os) X ⟨_,rfl⟩ ⟨_,rfl⟩;have e0:jy X=os.foldl (λd o=>j7 d (gv X X.L o)) [gv X X.L (ax X.mm)]:=by unfold jy D7;rw[eo];rfl
 obtain⟨l',e1⟩:=Vf (G:=gv X X.L) (x:=gv X X.L (ax X.mm)) (os:=os) (l:=[]);refine⟨_,l',e0.trans e1,λx m=>?_⟩;obtain⟨o,mo,rfl⟩:=MQ.mp (show x∈jy X by rw[e0,e1];exact .tail _ m);have R:=A4 P P.hM (E0 mo);have R0:=A4 P P.hM (.refl (ax X.mm));exact Zt (aci P.H.dec R0.lK R.lK.opt R0.le R.le (QJ vc) (λa h=>h) (R.sum.trans R0.sum.symm)) ((bi _).trans (bi _).symm)
theorem R9(P:e9 X B)(p:o.Perm (ax X.mm)):gv X (λ_=>X.K) o=(ax X.mm).map (oS X o X.K):=by
 have e:cq (oS X o X.K) (λ_=>X.K) o=[]:=Gp.mpr λa m h=>oh (cC h) (aq (Ej m) (aD (P.bp p o X.K (.refl o) (C7 p) (P.G p)).sum));refine pV λi m=>(iP (p.mem_iff.mpr m)).trans ?_;show(if cq (oS X o X.K) (λ_=>X.K) o=[] then λi=>if i∈o then oS X o X.K i else X.K else _) i=_;rw[iP e];exact iP (p.mem_iff.mpr m)
theorem adC(R:iQ W S z l K):iQ W S z l.reverse K:=⟨J'.symm▸R.lo,by rw[J',((Gc l).filter _).length_eq];exact R.hi,R.le⟩
theorem XJ(h:fh W)(R:iQ W S (lM W S l k) l k)(nd:l.Nodup):vW W S (lM W S l k) l k= !decide (l.map (λi=>b+fy W S (lM W S l k) l k i)=l.map λi=>b+fy W S (lM W S l.reverse k) l.reverse k i):=by
 rw[J2 h (adC R),FK,tu,decide_eq_false_iff_not,Gj,acs R nd];exact⟨λ⟨i,m,h⟩ h'=>h (K9 (h' i m)),λh=>zj λno=>h λi m=>af (b+ ·) (zj λh'=>no ⟨i,m,h'⟩)⟩
theorem Yw(P:e9 X B):sX (dK X.κ) (bK X.κ) X.V (ax X.mm) X.K= !decide (gv X (λ_=>X.K) (ax X.mm)=gv X (λ_=>X.K) (ax X.mm).reverse):=by
 rw[R9 P (.refl _),R9 P (Gc _)];have V:oV (mX X.κ (ax X.mm) X.V X.K true):=⟨P.G (.refl _),P.H.v1,vc,xE (.refl _),C7 (.refl _)⟩;generalize ax X.mm=l at*;have hl:l.reverse.length=l.length:=T1;by_cases e:bK X.κ*l.length=X.K
 ·rw[show oS X l X.K=oS X l.reverse X.K from funext λi=>(iP e).trans (iP (hl.symm▸e)).symm,dT rfl];exact iP e
 ·rw[show oS X l X.K=λi=>bK X.κ+fy (Wd (dK X.κ) X.K X.V) X.K (lM (Wd (dK X.κ) X.K X.V) X.K l (X.K-bK X.κ*l.length)) l (X.K-bK X.κ*l.length) i from funext λi=>iN e,show oS X l.reverse X.K=λi=>bK X.κ+fy (Wd (dK X.κ) X.K X.V) X.K (lM (Wd (dK X.κ) X.K X.V) X.K l.reverse (X.K-bK X.κ*l.reverse.length)) l.reverse (X.K-bK X.κ*l.reverse.length) i from funext λi=>iN λk=>e (hl▸k),hl];exact(iN e).trans (XJ V.dec (II (O:=Al) (A9 P.H.k5 V) V e).1 V.nd)
end
section
variable{i k s:Nat}{W pl:List (List Nat)}
theorem G9(P:e9 X B)(hM:X.K<=su M (ax X.mm))(p:o.Perm (ax X.mm)):oR (aI NN (k+4)) X M o=some (lst (gv X M o)):=by
 have H:Bh (aI NN (k+3)) ⟨X.mm,nD.getD X.κ "",X.V,M,o⟩ (oS X) (bK X.κ):=⟨λ{l K} s h0 G=>abj P.H.k5 ⟨G,P.H.v1,(G2 p).sublist s,aq s.length_le (xE p),h0⟩,λi m=>eG (p.mem_iff.mp m),aq (xE p) (by decide)⟩;exact(⋯:_=bm (aI NN (k+3)) NN Aj [.str (nD.getD X.κ ""),.list (bV X.mm X.V),.list (bV X.mm M),.int X.K,.list (aC o)] []).trans ((abX H (P.bp p) (C7 p) (P.G p) ((Iy p).symm▸hM) (aq wA (by decide)) (aq (xE p) (by decide))).trans (af (λl=>some (PV.list l)) (jt (g:=λn:Nat=>PV.int n) (f:=gF X M o)).symm))
theorem acR(P:e9 X B)(hi:i<X.mm):HB (aI NN (k+8)) X (gz X i) (d7 (gz X i)) (l4 X i) i:=by
 have h6 {x} (h:x<X.s):x<6\/x<6:=.inl (ba h P.s6);have lt:∀x∈d7 (gz X i),x<X.s:=λx m=>P.D.lt hi x (tm.mp m);have h1:=Jq (k:=k+3) (nc:=.int X.s) (.set (d7 (gz X i))) (kQ oH) (λx m=>(h6 (lt x m)).elim id id) (.inr ⟨_,rfl,λx m=>ji (lt x m)⟩);rw[Dm oH] at h1;exact⟨Ϧ (Jq (k:=k+5) (.list _) (P.D.Fd hi) (λx m=>(h6 (P.D.lt hi x m)).elim id id) (.inl rfl)) (P.H.v1 i),acP (k:=k+7) (af6 (k:=k+5) (Yd h1 (P.H.v1 i))) (aQ (aD ((bi _).trans cF)) (eN hi (aQ wA (by decide))))⟩
theorem VM(P:e9 X B):Ep (aI NN (k+8)) X:=⟨fO (ba P.K1 P.Ks),P.L1,P.L3,λ_ hi=>acR P hi⟩
theorem Yv:(ax 7).all (λs=>decide (((ax (2^s)).map (iR s)).Nodup)&&(ax 7).all λk=>decide ((cj s 0 k).Nodup)&&(cj s 0 k).all λc=>((ax (2^s)).map (iR s)).contains c)=true:=by decide+kernel
theorem ϙ(h6:s<=6)(hK:K<=6):((ax (2^s)).map (iR s)).Nodup/\(cj s 0 K).Nodup/\∀c∈cj s 0 K,c∈(ax (2^s)).map (iR s):=by
 have h:=aW (b7 Yv s (dL (kA h6)));have g:=aW (b7 h.2 K (dL (kA hK)));exact⟨cC h.1,cC g.1,λc m=>qI (b7 g.2 c m)⟩
theorem WX(h6:s<=6)(hK:K<=6)(sub:W.Sublist (cj s 0 K))(hw:∀c∈cj s 0 K,c∈W↔m9 pl c∈aM):W.Perm (uq s K pl aM (ax (2^s))):=by
 obtain⟨b1,b2,b3⟩:=ϙ h6 hK;rw[show uq s K pl aM (ax (2^s))=((ax (2^s)).map (iR s)).filter λc=>decide (c.length=K)&&decide (m9 pl c∈aM) from(Lf (p:=λc=>decide (c.length=K)&&decide (m9 pl c∈aM)) (f:=iR s)).symm];refine(Gf (b2.sublist sub) (b1.filter _)).mpr λc=>?_;rw[oE,mK,decide_eq_true_iff,decide_eq_true_iff];refine⟨λm=>have mc:=sub.mem m;⟨b3 c mc,(sJ mc).1,(hw c mc).mp m⟩,λ⟨m,h1,h2⟩=>?_⟩;obtain⟨m,_,rfl⟩:=rn.mp m;exact(hw _ (BO h1 (TV.filter _) λx m=>⟨cu _,eG (eI m).1⟩)).mpr h2
structure Qe(X:LX)(o:Option PV)(d:List Nat)(out:List (List Nat)):Prop where
 eq:o=some (lP (d::out))
 iZ:(d::out).length<64
 ss:∀c∈d::out,SS c
 perm:(d::out).Perm (uq X.s X.K (l7 X X.mm) (jy X) (ax (2^X.s)))
theorem e9.vs(P:e9 X B):qC (gz X) X.L X.V X.mm X.s X.K:=by
 have key:∀q∈jh (gz X) X.V (ax X.mm),∃i,i<X.mm/\q.1=d7 (gz X i):=λq m=>by
  obtain⟨i,hi,rfl⟩:=rn.mp m;exact⟨i,eG hi,rfl⟩
 refine⟨P.D,⟨kA P.s6,P.K1,P.Ks,λq m=>(key q m).elim λi h=>h.2▸oH,λq m x mx=>(key q m).elim λi h=>P.D.lt h.1 x (tm.mp (h.2▸mx)),λq m=>(key q m).elim λi h=>?_,?_⟩,P.L3⟩
 ·rw[h.2,(Do (P.D.Fd h.1)).length_eq,P.D.len i];exact P.L3 i
 ·refine tC (P:=λX=>(jh (gz X) X.V (ax X.mm)).length=2\/(jh (gz X) X.V (ax X.mm)).length=3) X (.inl rfl) (.inr rfl)
theorem QE(P:e9 X B){r:Option PV}(sub:W.Sublist (cj X.s 0 X.K))(ne:W≠[])(hW:∀c∈cj X.s 0 X.K,c∈W↔Aw (Wd (dK X.κ) 7 X.V) (bK X.κ) (gz X) X.mm X.s X.K c)(T:oQ r (λv=>v) W):∃d out,Qe X r d out:=by
 obtain⟨out,e,p⟩:=T;obtain⟨d,o,rfl⟩:∃d o,out=d::o:=CB λq=>ne (q▸p).symm.eq_nil;exact⟨d,o,e,aQ (aq (aD p.length_eq) sub.length_le) (eN P.vs.V.iZ (by decide)),λc m=>have h:=sJ (sub.mem (p.mem_iff.mp m));⟨h.2.1,λx mx=>ba (h.2.2 x mx).2 P.s6⟩,p.trans (WX P.s6 (aq P.Ks P.s6) sub λc m=>(hW c m).trans ((ad8 P m).symm.trans (iff_of_eq (af (· ∈jy X) (jt (g:=λP:List Nat=>(P.filter λx=>decide (x∈c)).length) (f:=gz X)).symm))))⟩
theorem I_(P:e9 X B):∃d out,Qe X (xA (aI NN (k+8)) X) d out:=by
 have ne:=Bn P.Ks;by_cases h:X.κ=4
 ·have e1:dK X.κ=false:=by rw[h];rfl
  have e2:bK X.κ=1:=iP h;rw[show xA (aI NN (k+8)) X=_ from iP h];have R:=A4 P P.hM (.refl (ax X.mm));have hy:∀i,i<X.mm->gF X X.L (ax X.mm) i<=X.L i:=λi hi=>R.le i (dL hi);have cv:∃c0∈cj X.s 0 X.K,d5 1 (gz X) X.mm c0:=⟨_,Om P.D hy R.sum,λi hi=>by
   rw[JM P.D hi (hy i hi),<-e2];exact Q0 yE P.H.big R.lK.opt (λa _=>P.bL a) (by rw[R.sum,cF];exact P.lo) i (dL hi)⟩
  exact QE P (u0.trans u0) (ue (λx m=>li uC.1 P.vs.V x (eI m).1) (ue (li uC.2 P.vs.V) ne)) (λc hc=>by rw[e1,e2];exact ϥ P.vs P.H.v1 cv hc) (XM P.vs.V)
 ·have e2:bK X.κ=0:=iN h;rw[show xA (aI NN (k+8)) X=_ from iN h];exact QE P u0 (ue (li t6 P.vs.V) ne) (λc hc=>by rw[e2];exact adR P.vs hc) (c_ P.vs.V)
end
end
section
variable{X:LX}{B:Int}{sc:List Int}
structure pi(X:LX):Prop where
 H:D1 X
 V:X.V=Ja X
 L:X.L=yu X (n7 X)
 s:X.s=oL X.mm X.L
 le:X.le=cond (k4 X.κ) X.mm 1
 K:X.K=X.le+X.H/10%(X.s-X.le+1)
theorem AP:X.lg*X.mm=6/\2<=X.lg/\X.lg<=3:=tC (P:=λX=>X.lg*X.mm=6/\2<=X.lg/\X.lg<=3) X (show 3*2=6/\2<=3/\3<=3 by decide) (show 2*3=6/\2<=2/\2<=3 by decide)
theorem DV{i:Nat}:n7 X i<=X.lg:=aq (aD (gj ..)) (Cs _ (ba Nat.two_pos AP.2.1))
theorem aeH:su (n7 X) (ax X.mm)<=6:=aq (lS λ_ _=>DV) (aD (gu.trans ((af (X.lg* ·) cF).trans AP.1)))
structure Sq(X:LX)(L:Nat->Nat):Prop where
 lo:∀i,1<=L i
 hi:∀i,L i<=n7 X i
theorem Zg:Sq X (yu X (n7 X)):=by
 unfold yu;cases h:kO X.κ&&decide (5<oL X.mm (n7 X)) with
 |false=>exact⟨λi=>cW 1 _,λ_=>bf _⟩
 |true=>
  have e:n7 X 0=X.lg:=A2 (t':=λ_=>X.lg) (λ_ _=>DV) (mM (lS λ_ _=>DV) (aq (aD (gu.trans ((af (X.lg* ·) cF).trans AP.1))) (cC (aW h).2))) (dL zN);refine⟨λi=>?_,λi=>?_⟩<;>rw[iP rfl]<;>unfold gx<;>by_cases k:i=0
  ·rw[iP k,e];exact mP AP.2.1
  ·rw[iN k];exact cW 1 _
  ·rw[iP k,k];exact kE ..
  ·rw[iN k];exact bf _
theorem pi.len(S:pi X):Sq X X.L:=by rw[S.L];exact Zg
theorem pi.mm(S:pi X):X.mm<=X.s:=S.s.symm▸aq (aD ((gu (n:=1) (ps:=ax X.mm)).trans ((zi _).trans cF)).symm) (lS λi _=>S.len.lo i)
theorem pi.Eb(S:pi X):1<=X.le/\X.le<=X.s/\bK X.κ*X.mm<=X.le:=by
 have e:k4 X.κ=decide (X.κ=4):=fA w0;rw[S.le,e];unfold bK;by_cases h:X.κ=4
 ·rw[iP h,dT h];exact⟨zN,S.mm,aD (zi _)⟩
 ·rw[iN h,dF h];exact⟨bf 1,aq zN S.mm,aq (aD (Ca _)) (cu 1)⟩
theorem Xy:∃N,∀i,(sc.getD i 0).natAbs<=N:=by
 induction sc with
 |nil=>exact⟨0,λ_=>bf 0⟩
 |cons a l ih=>
  obtain⟨N,h⟩:=ih;refine⟨a.natAbs+N,λi=>?_⟩;cases i with
  |zero=>exact cW ..|succ i=>exact aq (h i) (i7 ..)
theorem afA{c:Bool}{v:Nat->Nat}{N:Nat}(h:∀i,v i<=N)(i j:Nat):Wd c 7 v i j<(N*dH c 7:Nat)+1:=by
 unfold Wd;by_cases k:j<7
 ·rw[iP k];exact Int.lt_add_one_of_le (oW (Cb (h i) (Kk ..)))
 ·rw[iN k];exact lG (T3 (ag5 (fP j) Int.one_pos)) (K8 (fP _) (by decide))
theorem ab7(S:pi X):∃B,e9 X B:=by
 obtain⟨N,h⟩:=Xy (sc:=X.sc);have hv:∀i,X.V i<=1+N:=λi=>by
  rw[S.V];exact i3 (aq (Kk ..) (by rw[S.H.nu];exact h (i+1))) 1
 have l:=S.Eb;have K1:X.le<=X.K:=S.K.symm▸cW ..;exact⟨_,⟨k5 S.H,λi=>by rw[S.V];exact cW 1 _,afA hv⟩,Yr (fO (aq l.1 l.2.1)) S.s,S.len.lo,λi=>aq (S.len.hi i) (aq DV AP.2.2),S.s,S.s.symm▸aq (lS λi _=>S.len.hi i) aeH,aq l.2.2 K1,aq l.1 K1,by
  rw[S.K];exact aq (i3 (ju (Cs _ (eE _))) _) (aD (iK l.2.1))⟩
def E7(sc:List Int):LX:=⟨sc,(sc.headD 0).natAbs,(sc.headD 0).natAbs%5,(sc.headD 0).natAbs/5%2==1,num sc,λ_=>0,λ_=>0,0,0,0⟩
def Bg(sc:List Int):LX:={E7 sc with L:=yu (E7 sc) (n7 (E7 sc)),V:=Ja (E7 sc)}
def B4(sc:List Int):LX:={Bg sc with s:=oL (Bg sc).mm (Bg sc).L,le:=cond (k4 (Bg sc).κ) (Bg sc).mm 1}
def Hv(sc:List Int):LX:={B4 sc with K:=(B4 sc).le+(B4 sc).H/10%((B4 sc).s- (B4 sc).le+1)}
theorem RV(h:sc.length<=100):pi (Hv sc):=⟨⟨rfl,rfl,by
 show cond ((sc.headD 0).natAbs/5%2==1) 3 2=_;rcases ag' ((sc.headD 0).natAbs/5) with e|e
 ·rw[show(Hv sc).H/5%2=0 from e,e];rfl
 ·rw[show(Hv sc).H/5%2=1 from e,e];rfl,rfl,h⟩,rfl,rfl,rfl,rfl,rfl⟩
end
section
variable{X:LX}{B:Int}{q:PV×PV}{O:aK}
def gX(X:LX):List Nat×List Nat:=(gv X (λ_=>X.K) (ax X.mm),gv X (λ_=>X.K) (ax X.mm).reverse)
theorem aem(S:pi X)(h:O.make "Profile" [.int X.s] []=some (bv,eS X.s [],fL)):a9 O NN aU cr [("script",.pv (.list (cN X.sc)))] ([bl 0,bl 1,bl 2,bl 3]++[bl 4,bl 5,bl 6,bl 7,bl 8,bl 9,bl 10,bl 11,bl 12])=nx (gy X X.L false (m6 X [("made",.a6 bv (eS X.s []) fL)])):=xN (acU S.H) (aF (acQ S.H) (aF ae0 (aF abi (aF (ν (L:=n7 X) S.V) (aF ((U_ (L:=n7 X) (cW 1 _)).trans (af (λL=>nx (gy X L false [])) S.L.symm)) (aF (Ys (L:=X.L) S.s) (aF (Xr (L:=X.L) S.le) (aF (abY (L:=X.L) S.Eb.2.1 S.K) (km.trans (aaa h))))))))))
theorem e9.iZ(P:e9 X B):X.K<=su (λ_=>X.K) (ax X.mm):=gu.symm▸TY _ (i6 zN cF.symm)
theorem Yx(P:e9 X B):∃q,a9 (aI NN 8) NN aU cr (gy X X.L false (m6 X [("made",.a6 bv (eS X.s []) fL)])) ([bl 13,bl 14]++bl 15::([bl 16,bl 17]++[bl 18,bl 19,bl 20]))=nx (qf X (jy X) q (gX X) []):=by
 obtain⟨q,e⟩:=adV (O:=aI NN 8) (X:=X) (G:=gv X X.L) λx m=>G9 (k:=4) P P.hM (E0 m);obtain⟨d,l,e2,h2⟩:=afR P;have e18:aw (aI NN 8) NN aU cr (rP X (jy X) q []) (bl 18)=nx (rP X (jy X) q []):=by rw[e2];exact aeR h2
 have f1:oR (aI NN 8) X (λ_=>X.K) (AQ X.t)=some (lst (gX X).1):=by
  rw[show AQ X.t=ax X.mm from tC (P:=λX=>AQ X.t=ax X.mm) X rfl rfl];exact G9 (k:=4) P P.iZ (.refl _)
 have f2:oR (aI NN 8) X (λ_=>X.K) (AG X.t)=some (lst (gX X).2):=by
  rw[show AG X.t=(ax X.mm).reverse from tC (P:=λX=>AG X.t=(ax X.mm).reverse) X rfl rfl];exact G9 (k:=4) P P.iZ (Gc _)
 exact⟨q,xN Ι (aF (afz (VM P)) (xN e (aF e18 (m_ f1 f2))))⟩
theorem abx(S:pi X)(P:e9 X B)(h6:X.s-1<6):∃q,a9 (aI NN 8) NN aU cr [("script",.pv (.list (cN X.sc)))] (o7.take 21)=nx (qf X (jy X) q (gX X) []):=by
 obtain⟨q,e⟩:=Yx P;have m:=adP (k:=7) h6;rw[F0 (aq P.K1 P.Ks)] at m;exact⟨q,(af (λl=>a9 (aI NN 8) NN aU cr _ l) (⋯:o7.take 21=_++_)).trans (xN (aem S m) e)⟩
theorem adb(P:e9 X B):∃σ,a9 (aI NN 8) NN aU cr (pD X (jy X) q (gX X) (sX (dK X.κ) (bK X.κ) X.V (ax X.mm) X.K) []) (o7.drop 22)=some (.ret (.bool true),σ):=by
 obtain⟨u,e⟩:=G_ (O:=aI NN 8) (Y:=⟨X,jy X,q,gX X,sX (dK X.κ) (bK X.κ) X.V (ax X.mm) X.K⟩) P.s6 (aq (aD ((bi _).trans cF)) (aq wA (by decide))) λp m=>(rn.mp m).elim λi h=>h.2▸aq (aD (P.D.len i)) (aq (P.L3 i) (by decide));obtain⟨d,out,T⟩:=I_ (k:=0) P;exact⟨_,(af (λl=>a9 (aI NN 8) NN aU cr _ l) (⋯:o7.drop 22=bl 22::([bl 23,bl 24]++[bl 25,bl 26]))).trans (aF (Yn (Yw P)) (xN e (aF (Vb P.H.k5 T.eq) (rG (XI T.ss T.iZ T.perm)))))⟩
end
section
variable{c:Cx}{F:Fm}{P:St c F}{d:Nat}{A:Am d}{K:Flow->ag->Prop}{E:ac->ag->Prop}{O:aK}
section
variable{R:St c F}{s':ag}{v:ac}{B:am}{e:ao}{h':am}{X:aN->List Str->ar->aH->aZ}{mu:List Str}{σ₁:ar}{rest:List aH}{x:Str}{k:Nat}
structure sO(P:St c F)(s':ag):Prop where
 keep:∀b o,P.x.s.heap.get? b=some o->¬dB b->b≠F.env.locals->s'.heap.get? b=some o
 frame:∀o,P.x.s.heap.get? F.env.locals=some o->(∀vs,o.data≠ .fields vs)->∃sl,s'.heap.get? F.env.locals=some {o with slots:=sl}
 tab:iD s'.heap
 x:ci (λ_=>True) P.x.s.gens.size P.x.s s'
theorem sO.ns(K:sO P s'){m:Str->Option ac}(h:P.x.s.heap.Ns F.env.locals m):s'.heap.Ns F.env.locals m:=by
 obtain⟨o,es,ep,e,hd,r⟩:=h;obtain⟨sl,e'⟩:=K.frame o e λvs q=>by rw[hd] at q;injection q
 exact⟨_,es,ep,e',hd,r⟩
theorem sO.env(K:sO P s'){b:ao}{o:Obj}(n:¬dq F.env b)(t:¬dB b)(e:P.x.s.heap.get? b=some o):s'.heap.get? b=some o:=K.keep b o e t λq=>n (.inl q)
noncomputable def sO.pt(K:sO P s'):Pt c where
 s:=s'
 f:=P.x.f
 keep b o h:=K.keep b o (P.x.keep b o h) (λq=>Pt.h0 c q h) λq=>nS (P.o.own.h₀.symm.trans (q▸h))
 tab:=K.tab
 K:=P.x.K
 nt:=P.x.nt
 hs a o h:=K.keep a o (P.x.hs a o h) (P.x.nt a o h) λq=>nS (P.o.own.f.symm.trans (q▸h))
theorem sO.upd(K:sO P s'):kM P K.pt λ_=>False:=by
 have cell:∀{z a o},F.env.cells.lookup z=some a->P.x.s.heap.get? a=some o->s'.heap.get? a=some o:=λ{z a o} n e=>K.keep a o e (F.jf.2 z a n) (F.cl z a n);refine⟨λ_ _ e=>e,λq v _ V=>V.imp (λV=>⟨V.1,V.2.imp λm n=>⟨K.ns n.1,n.2⟩⟩) λV=>⟨V.1,V.2.imp λb n=>⟨n.1,n.2.imp λo e=>⟨cell n.1 e.1,e.2⟩⟩⟩,λz a e=>(P.cR z a e).imp λv h=>h.imp λo h=>⟨cell e h.1,h.2⟩,⟨P.o.ns.imp λ_ n=>K.ns n,⟨P.o.own.f,P.o.own.h₀,P.o.own.hi⟩,P.o.loc,λz e=>⟨(P.o.kJ z e).1,(P.o.kJ z e).2.imp λa h=>⟨h.1,h.2.f,h.2.h₀,h.2.hi⟩⟩⟩,λq v _ h b m=>⟨⟨(P.fresh q v h b m).1.f,(P.fresh q v h b m).1.h₀,(P.fresh q v h b m).1.hi⟩,λo e=>K.env (P.fresh q v h b m).2 (cK (P.fresh q v h b m).1.hi) e⟩⟩
theorem OZ(f:jn [F.env] (λ_=>False) P.x.s v s' B e)(own:F.env.frame=some F.env.locals)(hb:B.StaysIn h')(u:s'.heap.UpToSlots h'):sO P {s' with heap:=h'} where
 keep b o q t n:=hb b o (f.keep b o q t id λz=>by
  rw[HP own] at z;exact n (cY z))
 frame o q k:=(f.slots _ o q F.jf.1 id k).elim λsl q'=>(u _ {o with slots:=sl} q' k).imp λUs q2=>q2
 tab:=f.tab.keeps hb
 x:=f.x.trans ((ci.heap s').lower f.x.dm (bf _))
theorem ZS(S:Sd c d X):∀{pre:List aH} {P:St c F},aS (X F.nm mu) pre P.σ=some (.next,σ₁)->(∀R:St c F,bD P R->R.σ=σ₁->ai (ah pw c.w) A.A (tz rest F.env) K E R.x.s)->ai (ah pw c.w) A.A (tz (pre++rest) F.env) K E P.x.s:=by
 intro pre;induction pre with
 |nil=>exact λ{P} h k=>k P (.refl P) (af oz (ay h))
 |cons st pre ih=>
  intro P h k;refine aj h λq h1 h2=>?_;obtain⟨fl,σ⟩:=q;cases fl with
  |next=>exact FM (S h1 [] _ _ λR a e=>ih (e.symm▸h2) λR' a' e'=>k R' (a.trans a') e')|ret p=>nomatch ay h2|exc=>nomatch ay h2
end
section
variable{I:Ip}{σ₁:ar}{x:Str}{kc:Nat}{ee:Expr}{st1:aH}{ep tp hp0 yp kp ap pos:Pos}
theorem aaN(S:aX c d I)(Mu:gY c O d)(h:raises O I F.nm (bA P.σ) ee=true)(hk:ak F.nm ("TiesException":Str)=some .globalImplicit)(hp:putN F.nm x (.pv (.bool true)) P.σ=some σ₁)(stack:A.A.frames=some [F.env])(own:F.env.frame=some F.env.locals)
(k:∀Q:St c F,Q.σ=σ₁->ci (λ_=>True) P.x.s.gens.size P.x.s Q.x.s->K .next Q.x.s):
  ai (ah pw c.w) A.A (iI (.Try [.Expr ee ep,st1] [.ExceptHandler (some (.Name "TiesException" tp)) none [.Assign [.Name x yp] (.Constant (.bool true) kc kp) ap] hp0] [] [] pos) F.env) K E P.x.s:=by
 refine bE λgG hG=>?_;have z:=Od c.w.params;simp only[mK,beq_iff_eq] at z;obtain⟨n',q,bs,hdct,sn,sub,ab,col,dd,k0,k1,k2,k3,k5,ho⟩:=RG c.w.params;obtain⟨np,Gx,he⟩:∃np Gx,∃g:Str×List Expr×List fj,ee=.Call (.Name g.1 np) g.2.1 g.2.2 Gx:=aj (Ry h) λg h1 _=>(DF h1).elim λnp h=>h.elim λcp e=>⟨np,cp,g,e⟩;obtain⟨g,rfl⟩:=he;refine hG (wpAny_Try_except (FM (yZ (Qj S Mu h ⟨stack,own,λe m=>absurd m eX⟩ λv s' B e f=>?_) wj rfl)));obtain⟨a0,y⟩:=f.JB;obtain⟨hh,gg,dr,tk,os⟩:=s';rw[f.v];refine wpAny_looks_onW stack own y λh1 y1 u1=>wpAny_landsW y1 λh2 y2 u2=>?_;have K2:=OZ f own y2.1 (u1.trans u2);refine wpAny_handleBy_cons (codeAny_handlers_test (Co (Mh F K2.pt (F.names _ hk) z.2 ?_) (by decide))) (by intro q;injection q);obtain⟨oe,hoe,ahJ⟩:=y2.there;refine wpAny_excMatches_sub_self (K2.pt.cU 664 _ ho) hoe ahJ (by decide) (codeAny_handlers_suite (wpAny_setFlight_noneW y2.1 y2.2.2.1 y2.2.2.2.at λh3 j1 j2 j3 j4=>?_));have K3:=OZ f own j1 ((u1.trans u2).trans λb o e hn=>⟨o.slots,j4 b o e hn⟩);exact FM (y0 (au (vS (.refl (P.move K3.pt K3.upd)) hp .bool λR a e _=>FL (k R e (K3.x.trans (a.st.e.any.lower K3.x.dm (bf _)))))))
end
section
variable{X:LX}{aM:List (List Nat)}{q:PV×PV}{g:List Nat×List Nat}
def tS(i:Nat):aH:=aJ (sB 0 (bl 21)) i
theorem ϕ:bl 21=.Try [.Expr (sE (tS 0)) ⟨838,8,838,58⟩,tS 1] [.ExceptHandler (some (.Name "TiesException" ⟨840,11,840,24⟩)) none [.Assign [.Name "tied" ⟨841,8,841,12⟩] (.Constant (.bool true) 0 ⟨841,15,841,19⟩) ⟨841,8,841,19⟩] ⟨840,4,841,19⟩] [] [] ⟨837,4,841,19⟩:=⋯
def E1(X:LX):List PV:=[.str (nD.getD X.κ ""),.list (bV X.mm X.V),.int X.K]
theorem abO(h:O.nB "compute" (E1 X) [("tiesallowed",.bool false)]=true):raises O (ip 999999 O) aU (bA (qf X aM q g [])) (sE (tS 0))=true:=
 (tC X ⋯ ⋯:raises O (ip 999999 O) aU (bA (qf X aM q g [])) (sE (tS 0))=O.nB "compute" (E1 X) [("tiesallowed",.bool false)]).trans h
theorem ach{p:PV}(h:O.fn "compute" (E1 X) [("tiesallowed",.bool false)]=some p):a9 O NN aU cr (qf X aM q g []) [.Expr (sE (tS 0)) ⟨838,8,838,58⟩,tS 1]=nx (pD X aM q g false []):=
 aF (σ₁:=qf X aM q g []) ((show aw O NN aU cr (qf X aM q g []) (.Expr (sE (tS 0)) ⟨838,8,838,58⟩)=(O.fn "compute" (E1 X) [("tiesallowed",.bool false)]).map λ_=>(.next,qf X aM q g []) from tC X ⋯ ⋯).trans (af (eP _) h)) ⋯
structure Fe(c:Cx)(s s':ag):Prop where
 at_:∃y:Pt c,y.s=s'
 x:ci (λ_=>True) s.gens.size s s'
theorem afV{B:Int}{A:Am 96}(S:pi X)(Pl:e9 X B)(e1:F.nm=aU)(e2:P.σ=([("script",.pv (.list (cN X.sc)))]:ar))(stack:A.A.frames=some [F.env])(own:F.env.frame=some F.env.locals):ai (ah pw c.w) A.A (tz o7 F.env) (λfl s'=>fl=.ret (.bool true)/\Fe c P.x.s s') No P.x.s:=by
 obtain⟨q,pre⟩:=abx S Pl (kA (KZ Pl.s6 1));have sd:Sd c 96 (aw (aI NN 8) NN):=GI (Es 8).1 (Es 8).2 NN;rw[show o7=o7.take 21++(bl 21::o7.drop 22) by rfl'];refine ZS (mu:=cr) sd (by rw[e1,e2];exact pre) λR a er=>FM ?_;have post:∀Q:St c F,Q.σ=pD X (jy X) q (gX X) (sX (dK X.κ) (bK X.κ) X.V (ax X.mm) X.K) []->ci (λ_=>True) P.x.s.gens.size P.x.s Q.x.s->ai (ah pw c.w) A.A (tz (o7.drop 22) F.env) (λfl s'=>fl=.ret (.bool true)/\Fe c P.x.s s') No Q.x.s:=λQ eq x=>by
  obtain⟨σ,e⟩:=adb (q:=q) Pl;have z:Ex A Q (tz (o7.drop 22) F.env) (.ret (.bool true),σ):=vO (mu:=cr) sd (by rw[e1,eq];exact e);exact z [] _ _ λy v l r=>⟨mf (m:=λv=>Flow.ret v=.ret (.bool true)) r rfl,⟨y,rfl⟩,x.trans (l.e.any.lower x.dm (bf _))⟩
 have V:oV (mX X.κ (ax X.mm) X.V X.K false):=⟨Pl.G (.refl _),Pl.H.v1,vc,xE (.refl _),C7 (.refl _)⟩;have Mu:gY c (aI NN 8) 96:=(Es 8).2.mono (show 11*8<=96 by decide);have T:=Yy (k:=5) Pl.H.k5 V;rw[ϕ];cases ht:sX (dK X.κ) (bK X.κ) X.V (ax X.mm) X.K with
 |true=>exact aaN (MN (Es 8).1 999999) Mu (by rw[e1,er];exact abO (T.yes ht).2) (by rw[e1];rfl') (show putN F.nm "tied" (.pv (.bool true)) R.σ=some (pD X (jy X) q (gX X) true []) by rw[e1,er];rfl') stack own λQ e x=>post Q (by rw[e,ht]) (a.st.e.any.trans (x.lower a.st.e.dm (bf _)))
 |false=>
  obtain⟨p,hp⟩:=T.no ht;have z:Ex A R (tz [.Expr (sE (tS 0)) ⟨838,8,838,58⟩,tS 1] F.env) (.next,pD X (jy X) q (gX X) false []):=vO (mu:=cr) sd (by rw[e1,er];exact ach hp);exact wpAny_Try_except (z [] _ _ λQ a2 e=>FL (post Q (by rw[e,ht]) (a.st.e.any.trans (a2.st.e.any.lower a.st.e.dm (bf _)))))
end
end
section
variable{w:cO}{h:am}{sc:List Int}{s s':ag}{a b:ao}{o:Obj}
noncomputable def BQ:List ao:=[25,32,40]
theorem G7:dB b↔b∈BQ:=⟨λh=>h.elim (λe=>e▸ .head _) λh=>h.elim (λe=>e▸ .tail _ (.head _)) λe=>e▸ .tail _ (.tail _ (.head _)),λh=>(bw h).imp id λh=>(bw h).imp id cY⟩
def ab3(c P:ao):Prop:=(c=29/\P=25)\/(c=36/\P=32)\/(c=44/\P=40)
theorem RB(Y:ud w h):iD h:=by
 rintro c P (⟨rfl,rfl⟩|⟨rfl,rfl⟩|⟨rfl,rfl⟩)
 ·exact⟨#[],⟨_,_,_,_,_,_,_,_,_,bQ,Y.1 29 _ rfl,rfl,rfl,rfl,rfl,rfl,rfl,Y.2 25 bQ rfl,rfl,trivial,by decide⟩,⟨⟨_,_,Y.1 29 _ rfl,rfl,rfl,rfl⟩,Y.2 25 bQ rfl⟩,λpos x e=>nS e⟩
 ·exact⟨#[],⟨_,_,_,_,_,_,_,_,_,bQ,Y.1 36 _ rfl,rfl,rfl,rfl,rfl,rfl,rfl,Y.2 32 bQ rfl,rfl,trivial,by decide⟩,⟨⟨_,_,Y.1 36 _ rfl,rfl,rfl,rfl⟩,Y.2 32 bQ rfl⟩,λpos x e=>nS e⟩
 ·exact⟨#[],⟨_,_,_,_,_,_,_,_,_,bQ,Y.1 44 _ rfl,rfl,rfl,rfl,rfl,rfl,rfl,Y.2 40 bQ rfl,rfl,trivial,by decide⟩,⟨⟨_,_,Y.1 44 _ rfl,rfl,rfl,rfl⟩,Y.2 40 bQ rfl⟩,λpos x e=>nS e⟩
theorem PD(Y:ud w h)(t:dB b):h.get? b=some bQ:=t.elim (λe=>e▸Y.2 25 bQ rfl) λt=>t.elim (λe=>e▸Y.2 32 bQ rfl) λe=>e▸Y.2 40 bQ rfl
theorem O'(e:(KL w.params).lookup b=some o):¬dB b:=λt=>by
 have z:(KL w.params).lookup b=none:=t.elim (λe=>e▸(⋯:(KL w.params).lookup 25=none)) λt=>t.elim (λe=>e▸(⋯:(KL w.params).lookup 32=none)) λe=>e▸(⋯:(KL w.params).lookup 40=none);exact nS (z.symm.trans e)
theorem H8(e:h.get? a=some o)(n:¬dB a):(hideAll h BQ).get? a=some o:=hideAll_get _ e λm=>n (G7.mpr m)
theorem I5{m:Str->Option ac}(n:h.Ns a m)(k:¬dB a):(hideAll h BQ).Ns a m:=by
 obtain⟨o,es,ep,e,r⟩:=n;exact⟨o,es,ep,H8 e k,r⟩
theorem HR(h:BQ.contains a=false):¬dB a:=λt=>dy (h.symm.trans (kz.mpr (G7.mp t)))
structure xB(w:cO)(s:ag):Prop where
 Y:ud w s.heap
 g:∃mg,s.heap.Ns mE mg
 b:∃mb,s.heap.Ns uM mb/\∀x:Str,x≠ "__name__"->mb x=bootBuiltins x
 nl:s.heap.NoLimit
def xB.cx(B:xB w s):Cx where
 w:=w
 h₀:=hideAll s.heap BQ
 K a o e:=H8 (B.Y.1 a o e) (O' e)
 g:=B.g.imp λ_ n=>I5 n (HR ⋯)
 b:=B.b.imp λ_ n=>⟨I5 n.1 (HR ⋯),n.2⟩
 nolimit:=by
  obtain⟨mc,n,q⟩:=B.nl;exact⟨mc,I5 n (HR ⋯),q⟩
 jf a t:=hideAll_none _ (G7.mp t)
def xB.pt(B:xB w s):Pt B.cx where
 s:=s
 f a:=(KL w.params).lookup a
 keep _ _ e:=of_hideAll _ e
 tab:=RB B.Y
 K _ _ e:=e
 nt _ _ e:=O' e
 hs a o e:=B.Y.1 a o e
theorem ad1{vs:List ac}{n:Nat}(Y:ud w h)(e:h.get? b=some (bu vs n)):¬dB b:=λt=>nomatch (af uX (ay ((PD Y t).symm.trans e)):oj=iE "list")
theorem VD(B:xB w s)(T:Fe B.cx s s'):OldK s.heap s'.heap:=by
 obtain⟨y,rfl⟩:=T.at_;have tab:∀{c P:ao},ab3 c P->dB P->∀o,s.heap.get? P=some o->asItWas s.heap y.s.heap P o/\∃o',y.s.heap.get? P=some o':=λ{c P} q t o e=>by
  obtain⟨ps,i1,i2,_⟩:=RB B.Y c P q;obtain⟨qs,j1,j2,_⟩:=y.tab c P q;obtain rfl:=ay ((PD B.Y t).symm.trans e);exact⟨.inr (.inl ⟨i2.isCodeTable,rfl,#[],qs,rfl,by rw[j2.2,Array.empty_append];rfl⟩),_,j2.2⟩
 have all:∀b o,s.heap.get? b=some o->asItWas s.heap y.s.heap b o/\∃o',y.s.heap.get? b=some o':=λb o e=>by
  by_cases t:dB b
  ·have t':=t;rcases t with rfl|rfl|rfl
   ·exact tab (c:=29) (.inl ⟨rfl,rfl⟩) t' o e
   ·exact tab (c:=36) (.inr (.inl ⟨rfl,rfl⟩)) t' o e
   ·exact tab (c:=44) (.inr (.inr ⟨rfl,rfl⟩)) t' o e
  ·have k:=y.keep b o (H8 e t);exact⟨.inl k,o,k⟩
 exact⟨λb o e=>(all b o e).1,λb o e=>(all b o e).2⟩
theorem afK{fa:ao}{pm cd doc:ac}{vs:List ac}(B:xB w s)(hz:sc.length<=63)(hb:s.heap.get? b=some (bu vs 0))(hv:∀f:Fz,aR B.cx f vs (cN sc))(ho:s.heap.get? fa=some o)(hd:o.data=.func (Calls.docDef n9.name n9.params n9.body n9.scope pm cd doc))(xf:s.heap.CodeRec cd n9.name):
  ai (ah pw w) callerA (SE (.ref fa) [.ref b]) (λv s'=>v=.bool true/\Fe B.cx s s') No s:=by
 have hA:jE 97 callerA:=⟨rfl,by decide+kernel,by decide+kernel⟩;obtain⟨Bd,Pl⟩:=ab7 (RV (sc:=sc) (aq hz (by decide)));have S:=RV (sc:=sc) (aq hz (by decide));have UT:HS n9.scope=true:=⋯;refine q8 (codeAny_call_function (aQ (cW _ _) hA.depth) ho hd ⋯ (Da UT).2 rfl xf (I3 (ds:=[]) (o:=none) (binds:=[("script",.ref b)]) ⋯ (λ_ _ _ _ q=>au q) rfl ⋯ _ _ _ _ ?_));have nd:∀{α:Type} {x:α},[x].Nodup:=nR ⟨eX,wS⟩;refine Ih (x:=B.pt.add b _ hb (ad1 B.Y hb)) (Da UT).1 nd (λx m=>cY m▸ .inl ⋯) (λg=>absurd ((⋯:pH n9.scope.names=false).symm.trans g) dy) λF y e=>⟨B.nl.keeps e.kp,codeAny_func ?_⟩;obtain⟨P,rfl,e2,_⟩:=IV (U:=λ_=>[]) e (σ:=[("script",.pv (.list (cN sc)))]) nd (λz av q=>d9 q (λe q=>by
  obtain rfl:=ay q;exact⟨.ref b,e▸ .head _,.list pJ (hv _) (aq (aD (bi _)) (aq hz (by decide))),rfl⟩) λ_ q=>nS q) (λz b m=>mN m) λ_ _ _ _ m=>mN m
 exact cQ (afV (A:=(⟨callerA,hA⟩:Am 97).deeper F.env) S Pl (e.nm.trans ⋯) e2 rfl e.fr) (λfl s2 z=>by
  obtain⟨rfl,T⟩:=z;exact⟨rfl,T.at_,e.le.e.ny.trans (T.x.lower e.le.e.dm (bf _))⟩) λ_ _ z=>z.elim
end
section
variable{w:cO}{h:am}{sc:List Int}{c:Cx}{f:Fz}{vs:List ac}
noncomputable def afl(r:Option WData):Bool:=match(match(match r with
  |some (.bool b)=>some (.bool (!b))|_=>none:Option WData) with
 |some (.bool false)=>some (.bool false)|some (.bool true)=>some (.bool true)|_=>none:Option WData) with
 |some (.bool true)=>true|_=>false
theorem Yc{xs:List WData}(q:eg.pre.holds eg.records {args:=[.list xs]}=true):xs.length<=63:=by
 rw[show eg.pre.holds eg.records {args:=[.list xs]}=afl (some (.bool (decide ((63:Int)<(xs.length:Int))))) by rfl'] at q;refine cZ λz=>?_;rw[dT (show(63:Int)<(xs.length:Int) from ji z)] at q;exact ff q
theorem Zr:∀{sc:List Int} {vs:List ac},WellAll w.params h vs (sc.map WData.int)->aR c f vs (cN sc):=by
 intro sc;induction sc with
 |nil=>exact λ{vs} W=>by cases W;exact .nil
 |cons i sc ih=>
   intro vs W;cases W with
   |cons a r=>
    cases a;exact .cons .int (ih r)
theorem walk:WalkO qv uE (λ_ _=>True) ud eg.toRowW n9 [] λf vs=>SE f vs:=by
 intro w cX bJ mg mb G Y a o pm cd doc dV kV ho hd xf UU hmg UV args vals as ahK ahW hr ahL ahX;obtain⟨h1,h2⟩:=pre_splitW ahK;obtain⟨dd,rest,rfl,k1,k2⟩:=hasAllW_cons h1;obtain rfl:=hasAllW_nil k2;obtain⟨xs,rfl,k3⟩:=hasW_list k1;obtain⟨sc,rfl⟩:=items_int k3;have hz:=Yc h2;rw[bi] at hz;cases ahL with|cons q1 q2=>
 cases q2;cases q1 with| @list b vs _ hb hv=>
 have e1:dV=.none:=by
  rcases UU.pos with⟨_,q⟩|⟨q,_⟩
  ·exact q
  ·exact absurd (⋯:n9.params.defaults=[]) q
 have e2:kV=.none:=by
  rcases UU.kw with⟨_,q⟩|⟨q,_⟩
  ·exact q
  ·exact absurd rfl q
 subst e1 e2;refine cQ (afK ⟨Y,⟨_,G.T.g⟩,⟨_,G.T.b,G.T.builtins⟩,G.T.nolimit⟩ hz hb (λf=>Zr hv) ho hd xf) (λv s' z=>?_) λ_ _ z=>z.elim;obtain⟨rfl,T⟩:=z;refine⟨.inl ⟨_,.bool true,[],rfl,λ_=>rfl,.bool true,⋯,λ_=>⟨wS,λa m=>absurd m eX⟩⟩,VD _ T,T.x.os,λy m=>?_⟩;obtain⟨i,hi⟩:=Array.getElem?_of_mem m;exact T.x.bare (λi x _ e=>by rw[UV] at e;injection e) i y (by rw[UV];exact cu _) hi
end
theorem Vj(l:OpenLaw)(h0:(l.row.wellSaid)=true)(h1:(decide (l.foot<=(wF l.prog).length))=true)(h2:(l.footing.all footLine)=true)(h3:(noClassBlock l.prog l.footing)=true)(h4:(l.most.all (λn=>decide (63<=n)))=true)(h5:(l.bound.all (λn=>decide (2^63<=n)))=true)(h6:(Li {strict:=true,foot:=some l.bound',writes:=l.writes,may:=l.may} l.footing)=true)(h7:(defStands l.about l.above)=true)(h8:(l.namesIt)=true)(h9:((["type","isinstance","issubclass","getattr","hasattr"]:List Str).all (λn=>l.about !=[n]))=true)(CQ:(l.bound'.all (λn=> !CI n||l.about==[n]|| !l.reads n))=true)(CR:((!l.writes||(l.prog.main.body.flatMap Lj).all λn=> !l.reads n))=true)(CS:((l.prog.main.body.flatMap Lj).all (λn=> !l.reads n||(drawsOf n l.prog.main.body).all λmn=>mn.2 !=("attrgetter":Str)&&mn.2 !=("methodcaller":Str)))=true)(Mb:(w6 l.prog l.footing (λsc n=>(!(["type","isinstance","issubclass","getattr","hasattr"]:List Str).contains n||sc.names.lookup n==some .globalImplicit)&&
  (l.may !=some n||sc.kind==.module||sc.names.lookup n==some .globalImplicit)))=true)(h14:(l.own.contains l.name)=true)(h15:(l.own.eraseDups.length==l.own.length)=true)(h16:(l.own.all (λn=> !CI n))=true)(h17:(w6 l.prog l.above (λ_ n=> !l.own.contains n))=true)(h18:(w6 l.prog l.footing λsc n=>sc.kind==.module||sc.names.lookup n !=some .globalExplicit)=true):l.wellSaid=true:=(dE (dE (dE (dE (dE (dE (dE (dE (dE (dE (dE (dE (dE (dE (dE (dE (dE (dE h0 h1) h2) h3) h4) h5) h6) h7) h8) h9) CQ) CR) CS) Mb) h14) h15) h16) h17) h18)
theorem VJ(r:OpenRow)(h0:(r.partSaid)=true)(h1:(r.prog.boundNames.contains r.name)=true)(h2:(!startupNames.contains r.name)=true):r.wellSaid=true:=(dE (dE h0 h1) h2)
theorem aa9(r:OpenRow)(h0:(looksOpen r.prog)=true)(h1:(r.loose.isEmpty)=true)(h2:(r.makers.isEmpty)=true)(h3:((r.records.isEmpty||r.raises.all λct=>ct.1 !=.builtin "AttributeError" &&ct.1 !=.builtin "TypeError"))=true)(h4:((r.raises.all λct=>match ct.1 with|.builtin n=> !r.prog.boundNames.contains (dw n)&& !ofTheWorld.contains n|.own _=>true))=true)(h5:(decide (r.records.map (·.1)).Nodup)=true)(h6:((r.records.all λx=> !x.1.opensWith "__" && !CI x.1&&r.prog.boundNames.contains x.1&&x.2.all λf=> !f.1.opensWith "__"))=true)(h7:(r.toRowW.solid)=true)(h8:(r.pre.litsOk)=true)(h9:(r.post.litsOk)=true)(CQ:(r.raises.all (·.2.litsOk))=true)(CR:(r.mutates.all (λi=>match r.args[i]? with
  |some sh=> !sh.arms.any WShape.isObj|none=>false))=true)(CS:(r.within.all (λi=>decide (i<r.args.length)))=true)(Mb:(r.same.all (λi=>decide (i<r.args.length)))=true):r.partSaid=true:=(dE (dE (dE (dE (dE (dE (dE (dE (dE (dE (dE (dE (dE h0 h1) h2) h3) h4) h5) h6) h7) h8) h9) CQ) CR) CS) Mb)
theorem ϟ(p:Program)(h0:(sreFenced p.main)=true)(h1:(((Lk p.main.body).isEmpty||lookedIntoSs (Lk p.main.body) p.main.body))=true)(h2:(namesResolve p)=true)(h3:(p.boundNames.all (λn=> !worldNames.contains n))=true)(h4:(Li {strict:= !(yI p.main.body).all cThrough.contains,foot:=none,bare:=(["vars","dir","locals"]:List Str).filter (readsOut p p.main.body)} p.main.body)=true)(h5:(w6 p p.main.body λ_ n=>attrL n)=true):looksOpen p=true:=(dE (dE (dE (dE (dE h0 h1) h2) h3) h4) h5)
section
set_option maxHeartbeats 0
theorem ZW:(sreFenced pw.main)=true:=⋯
end
section
set_option maxHeartbeats 0
theorem sl1:(((Lk pw.main.body).isEmpty||lookedIntoSs (Lk pw.main.body) pw.main.body))=true:=⋯
end
section
set_option maxHeartbeats 0
theorem Xo:(namesResolve pw)=true:=⋯
end
section
set_option maxHeartbeats 0
theorem ZL:(pw.boundNames.all (λn=> !worldNames.contains n))=true:=⋯
end
section
set_option maxHeartbeats 0
theorem sl4:(Li {strict:= !(yI pw.main.body).all cThrough.contains,foot:=none,bare:=(["vars","dir","locals"]:List Str).filter (readsOut pw pw.main.body)} pw.main.body)=true:=⋯
end
section
set_option maxHeartbeats 0
theorem sl5:(w6 pw pw.main.body λ_ n=>attrL n)=true:=⋯
end
section
set_option maxHeartbeats 0
noncomputable abbrev ahM:OpenLaw:=Ll
theorem Β:(eg.raises.all λct=>match ct.1 with|.builtin n=> !eg.prog.boundNames.contains (dw n)&& !ofTheWorld.contains n|.own _=>true)=true:=⋯
theorem i_:(eg.records.isEmpty||eg.raises.all λct=>ct.1 !=.builtin "AttributeError" &&ct.1 !=.builtin "TypeError")=true:=⋯
theorem sr3:decide (eg.records.map (·.1)).Nodup=true:=⋯
theorem sr4:(eg.records.all λx=> !x.1.opensWith "__" && !CI x.1&&eg.prog.boundNames.contains x.1&&x.2.all λf=> !f.1.opensWith "__")=true:=⋯
theorem sr5:eg.toRowW.solid=true:=⋯
theorem sr6:eg.pre.litsOk=true:=⋯
theorem sr7:eg.post.litsOk=true:=⋯
theorem sr8:(eg.mutates.all (λi=>match eg.args[i]? with
  |some sh=> !sh.arms.any WShape.isObj|none=>false))=true:=⋯
theorem X0:looksOpen eg.prog=true:=ϟ pw ZW sl1 Xo ZL sl4 sl5
theorem aa5:eg.partSaid=true:=aa9 eg X0 ⋯ ⋯ i_ Β sr3 sr4 sr5 sr6 sr7 ⋯ sr8 ⋯ ⋯
theorem ab1:eg.wellSaid=true:=VJ eg aa5 ⋯ ⋯
theorem ahP:eg.toRowW.promised:=⟨[.list []],by decide+kernel,by decide+kernel⟩
end
section
set_option maxHeartbeats 0
noncomputable abbrev di:OpenLaw:=Ll
theorem sw1:decide (di.foot<=(wF di.prog).length)=true:=⋯
theorem sw2:di.footing.all footLine=true:=⋯
theorem Y_:noClassBlock di.prog di.footing=true:=⋯
theorem sw4:di.most.all (λn=>decide (63<=n))=true:=⋯
theorem sw5:di.bound.all (λn=>decide (2^63<=n))=true:=⋯
theorem Z7:Li {strict:=true,foot:=some di.bound',writes:=di.writes,may:=di.may} di.footing=true:=⋯
theorem ZB:defStands di.about di.above=true:=⋯
theorem sw8:di.namesIt=true:=⋯
theorem Ω:(["type","isinstance","issubclass","getattr","hasattr"]:List Str).all (λn=>di.about !=[n])=true:=⋯
theorem Y0:di.bound'.all (λn=> !CI n||di.about==[n]|| !di.reads n)=true:=⋯
theorem aeE:(!di.writes||(di.prog.main.body.flatMap Lj).all λn=> !di.reads n)=true:=⋯
theorem WS:(di.prog.main.body.flatMap Lj).all (λn=> !di.reads n||(drawsOf n di.prog.main.body).all λmn=>mn.2 !=("attrgetter":Str)&&mn.2 !=("methodcaller":Str))=true:=⋯
theorem aaf:w6 di.prog di.footing (λsc n=>(!(["type","isinstance","issubclass","getattr","hasattr"]:List Str).contains n||sc.names.lookup n==some .globalImplicit)&&
  (di.may !=some n||sc.kind==.module||sc.names.lookup n==some .globalImplicit))=true:=⋯
theorem VF:di.own.contains di.name=true:=⋯
theorem aeb:(di.own.eraseDups.length==di.own.length)=true:=⋯
theorem abd:di.own.all (λn=> !CI n)=true:=⋯
theorem ZP:w6 di.prog di.above (λ_ n=> !di.own.contains n)=true:=⋯
theorem aav:(w6 di.prog di.footing λsc n=>sc.kind==.module||sc.names.lookup n !=some .globalExplicit)=true:=⋯
end
theorem ahO:Ll.wellSaid=true:=Vj di ab1 sw1 sw2 Y_ sw4 sw5 Z7 ZB sw8 Ω Y0 aeE WS aaf VF aeb abd ZP aav
end Mine
theorem PySem.Challenge.cw_jm0010_01_holds : PySem.Challenge.rw_jm0010_01.Holds :=
 holds_law Mine.ahO fun h => Mine.ahN h Mine.ahP Mine.walk
