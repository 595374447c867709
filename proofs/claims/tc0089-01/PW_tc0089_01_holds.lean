import PyProof.Rows.All
import Wide.All
import Wide.Once
import PyProof.TableCode
import PyProof.WalksEnum
import PyProof.TupleOfSeq
import PyProof.Rows.ListMul
import Flt.Mod
import ObjForm.MakeTop
import Open.Boot
import Open.TreeImp
import Open.FastRun
import Open.Pieces
import OpenK.KCls
import OpenK.XOpen
import OpenK.ZHead
import OpenK.AllK
import Lean
import PySem.Challenge.RW_tc0089_01
set_option Elab.async false
set_option maxRecDepth 1000000
set_option autoImplicit false
set_option linter.all false
set_option genInjectivity false
set_option genSizeOf false
set_option bootstrap.genMatcherCode false
open PySem renaming Value->ac,Str->ai,Shared->ak,Addr->al,Expr->ar,wpAny_bind->aA,Pos->aC,wpAny->aR,Obj->aT,Env->bd,wpAny_pure->bj,Sem->bo,Around->bC,World->bD,Stmt->bS,Heap->cD,wpAny_mono->c8,Scope->dQ,DictEntry->dU,Params->dX,starEach->fg,backTo->fJ,wpAny_holding->fY,standAt->gv,sizeLine->gI,sysModules->il,backToKw->iB,keywordEach->iC,Program->iS,swapsWith->iT,swappedStores->jD,mainGlobals->kh,strKind->ki,pushCells->kL,typeLookup->kM,wpAny_standAt->kN,Comprehension->lh,NameKind->lj,callWith->ll,treeTable->lp,builtinsNs->lP,Code->nB,FuncData->nC,assignEach->nE,OsState->pM,getItem->pO,valueAt->pP,Arguments->rh,Keyword->ri,Model->rj,codeAny->rk,getMethod->rl,CmpOp->sW,bindArgs->sX,cellsFrom->s8,codeAny_mono->s9,getitemInPython->te,intKind->th,isTrue->ti,letOwnedTupleGo->tj,letTemporaryGo->tl,binaryOp->uZ,call_meets->u8,foldedSetIterable->u9,methodCall->va,pyIter->vb,wpAny_dictEntries->vd,Flow->xu,behindInMarks->xv,compareOp->xx,handedOut->xy,rawInt->xB,strValues->xC,swapsWithSole->xD,wpAny_specialOf->xF,wpAny_toks->xG,attributeBase->Ad,cLine->Ae,codeAmong->Af,compTurn->Ag,findBy->Ai,getMethod_builtin->Aj,importedModules->Ak,pushCells_keeps->Al,pyNext->Am,typeIs_str->An,wpAny_mkText->Ao,Operator->ES,Thread->ET,argBest->EU,dictDisplay->EW,dictPut->EX,dictSet->EY,evalArgs->E0,evalPairs->E2,isSubtype_type->E4,mergeMapping->E5,methodCallForm->E6,mkText->E7,newFunctionEnv->E8,setItem->E9,subDict->Fa,GenState->K4,IsPart->K5,TriplesOk->K8,arm_execs_cons->K9,cellOf->Lc,clipAt->Ld,dictEntries->Lf,dictEpoch->Lg,getAttr->Lh,importBound->Li,isSubtype->Lj,markedBehindIn_of_false->Ll,methodCallPos->Lm,wpAny_Assign_stores->Lq,wpAny_alloc->Lr,wpAny_dictEpoch->Ls,wpAny_execs_nil->Lu,wpAny_letTemporaryGo->Lv,wpAny_newObj_type->Lw,wpAny_onRaise->Lx,wpAny_truthy_bool->Ly,assignInOrder->Ur,assignStores->Us,bindName->Ut,bindSpecial->Uu,builtinLookup_eq_fast->Uv,cStatics->Uw,closureFor->Ux,eval_Subscript->Uy,getitemInPython_of_ne->Uz,recursionLimit->UA,storeName->UB,typeLookup_type->UC,wpAny_Name->UD,wpAny_forIn_list->UE,wpAny_load->UF,wpAny_loadPart_at->UG,wpAny_newTuple->UH,wpAny_operating->UI,wpAny_pyIter_list->UJ,wpAny_rule->UK,any_of_findIdx_some->aqa,arm_assign_Tuple->aqb,bindSpecialIfBound?->aqc,callSpecialIfBoundUnlessNone?->aqd,codeAny_call_builtin->aqe,pastItsLine_dict->aqf,slot_list_setitem->aqg,wpAny_askSetting->aqh,wpAny_call_entry->aqi,wpAny_getItem_list_slice->aqj,wpAny_isInstance->aqk,wpAny_list_append_plain->aql,wpAny_loadName_local->aqm,wpAny_lookBehind->aqn,wpAny_setSeqItemAt->aqo
open List renaming range->aD,mem_cons_of_mem->bL,mem_cons_self->bT,length_cons->cH,length_map->cK,mem_singleton->cO,length_append->cS,mem_cons->cW,mem_append->dc,mem_map->dF,all_eq_true->eh,mem_range->eR,mem_of_getElem?->fK,append_nil->fS,append_assoc->gJ,getElem?_eq_some_iff->gW,casesOn->iE,map_cons->jE,mem_append_left->jF,flatMap_cons->j0,map_map->kO,foldl_cons->lq,length_take->lr,isEmpty_iff->lR,length_nil->lS,nodup_cons->lT,range'->lU,cons->mC,forIn_cons->mD,map_append->mE,mem_append_right->mF,filter_cons->oW,replicate->oX,getElem?_append_left->pQ,getElem?_map->pR,getElem?_of_mem->pS,mem_filter->pT,length_drop->tv,length_range->tw,map_nil->tx,nil_append->tA,nodup_append->tB,nodup_nil->tC,mem_range'_1->vk,reverse_cons->vl,length_filter_le->xJ,length_reverse->xK,map_reverse->xL,mem_of_mem_take->xM,pairwise_cons->xN,find?_cons->Ar,flatten_cons->As,map_take->Au,range'_succ->Av,any_cons->Fh,cons_append->Fi,drop_eq_nil_iff->Fj,getElem?_eq_getElem->Fk,length->Fm,map_congr_left->Fn,map_drop->Fo,all_cons->LF,drop_eq_getElem_cons->LG,length_range'->LH,length_set->LI,lookup_cons->LJ,mem_of_mem_drop->LK,mem_reverse->LL,not_lt->LM,set_set->LN,singleton_append->LP,take_of_length_le->LQ,any_eq_true->UZ,append_eq_nil_iff->U0,drop_drop->U1,eq_nil_of_length_eq_zero->U2,filter_congr->U3,filter_cons_of_neg->U4,filter_cons_of_pos->U5,findIdx?_cons->U6,forIn_nil->U7,getD_eq_getElem?_getD->U8,getElem?_append_right->U9,getElem?_set->U',replicate_succ->Va,take_append_of_le_length->Vb,dropLast_concat->aqN,drop_length->aqO,drop_take->aqP,exists_mem_of_length_pos->aqQ,ext_getElem?->aqR,flatten_nil->aqS,getElem?_eq_none_iff->aqT,getElem?_set_self->aqU,getLast?_cons_cons->aqV,isPerm_iff->aqW,isPrefixOf_iff_prefix->aqX,le_antisymm->aqY,le_trans->aqZ,length_eq_zero_iff->ara,length_pos_iff->arb,length_pos_of_mem->arc,lookup_append->ard,lt_trans->are,mem_flatMap->arf,pairwise_singleton->arh,perm_ext_iff_of_nodup->ari,range_eq_range'->arj,range_succ_eq_map->ark,take_eq_take_iff->arl,take_length->arm
open Nat renaming beq->aG,blt->aH,le_of_ble_eq_true->bF,ble_eq_true_of_le->cZ,eq_of_beq_eq_true->dj,le_refl->dr,le_trans->dG,le_of_lt->fh,ble->fT,beq_refl->gw,add_comm->jh,lt_of_lt_of_le->km,add_assoc->lu,le_of_eq->lV,lt_of_le_of_lt->lW,mod_lt->lX,le_add_right->mG,casesOn->nI,lt_irrefl->nJ,add_right_comm->oY,le_of_not_lt->oZ,lt_succ_self->o7,le_succ->pU,ne_of_lt->rq,zero_add->rt,min_eq_left->tD,zero_le->tE,succ->vm,lt_of_succ_lt_succ->xO,not_lt->xP,not_lt_zero->xQ,zero_lt_succ->xR,mul_le_mul->Ax,succ_lt_succ->Ay,succ_ne_zero->Az,add_le_add_left->Fp,lt_trans->Ft,one_add->Fu,succ_le_succ->Fv,add_zero->LR,le_add_left->LS,le_antisymm->LU,lt_of_lt_of_eq->LV,mul_le_mul_left->LW,mul_zero->LX,le_of_lt_succ->Vd,le_succ_of_le->Ve,le_total->Vf,log2_lt->Vg,min_assoc->Vh,min_eq_right->Vi,mul_add->Vj,sub_add_cancel->Vk,add_le_add->arn,div_le_self->aro,eq_zero_or_pos->arp,le_sub_one_of_lt->arq,lt_or_ge->arr,lt_succ_of_le->ars,min_self->art,mod_add_mod->aru,not_lt_of_le->arv,pos_iff_ne_zero->arw,pow_le_pow_right->arx,sub_pos_of_lt->ary,sub_sub_self->arz,sub_zero->arA,succ_pos->arB
open Int renaming ofNat->aZ,le_of_lt->nG,ofNat_lt->nH,ofNat_le->to,fmod->vj,le_trans->Ap,natCast_nonneg->Aq,negSucc->Ff,negSucc_lt_zero->Fg,le_refl->LC,lt_of_le_of_lt->LD,eq_ofNat_of_zero_le->UY,add_assoc->aqH,add_zero->aqI,lt_of_lt_of_le->aqJ,ne_of_lt->aqK,ofNat_eq_natCast->aqL
open Bool renaming and_eq_true->cz,eq_iff_iff->ro,false_eq_true->rp,not_eq_true'->Fb,false_ne_true->LA,noConfusion->UO,or_eq_true->UP,and_eq_true_iff->aqs,false_and->aqt,false_or->aqu,or_eq_false_iff->aqv,true_and->aqw
open PUnit renaming unit->gX
open ForInStep renaming yield->g9
open Array renaming mk->im,length_toList->rn,toList_inj->vh,toList_append->Lz,getElem?_eq_getElem->UL,isEmpty->UM,toList_push->UN,toArray_toList->aqq,toList->aqr
open PySem.Heap renaming get?_push_of_some->iD,get?_push_size->jg,lt_size->kj,size_push->xI,get?_update_self->Fe,get?_update_ne->aqG
open PySem.W renaming topFrame->lQ,boot_o_2->oV,boot_heap->pN,openGood->rm,boot_o_0->sY,boot_o_1->sZ,boot_o_4->s7,boot_o_10->u0,boot_o_5->u3,boot_o_6->u4,boot_o_7->u5,boot_o_8->u6,boot_o_9->u7,behindTheImports->xw,piece_app->xz,doneF->Ah,KeqHits->ER,deadEnd->EV,endAt->EZ,SharedT->K6,boot_drawn->K',boot_toks->La,byRow2->Lb,looseW->Lk,piecesOf->Ln,segRun->Lo,stepOk->Lp
open Option renaming some->mH,isSome_iff_exists->pV,map_some->arF
open Prod renaming ext->mI,fst->AA,mk->Fw,snd->Fx
open Eq renaming symm->nF,trans->xH
open PySem.Str renaming ofString->nK,length->xS,mk->Fy
open PySem.Value renaming ref->pc,type->pW,builtin->ru,isInt->rv,bool->vt,str->Vq,isStrOf->arK,isStrOf_shape->arL
open PySem.Heap.SameBut renaming update->tn,refl->asb
open And renaming intro->vg
open Ne renaming symm->vq
open PyProof.Rows renaming IntsAre->Ac,StrsAre->K7,assign_Name->LY,iadd_int->arG,add_int->asf,add_str->ash,len_tuple->asi,ltCps_eq->asj,mul_int->asl,neg_int->asm,pow_int->asn,sorted_strs->aso,sub_int->asp,truthy_tuple->asq
open PySem.NameKind renaming cell->Aw,free->Vc
open PySem.Txt renaming replace->AB
open PySem.Builtin.Int renaming intBits->Fc
open PySem.F renaming store_object->LB,args_str_split_2->UT,entry_str_split->UU,slot_str_getitem->UV,slot_str_split->UW,slot_tuple_getitem->UX
open PySem.Builtin.Str renaming occurrences->UQ,strKind->aqA
open PySem.Calls renaming callWith_builtin->UR,loadGlobal_global->US,evalArgs_plain->aqB
open PySem.Obj renaming mapDictKeys->Vm,data_mapDict->arC,data_mapDictKeys->arD,isFreed_of_dict->arE
open PySem.Builtin.List renaming listFitsIndex->aqy,listItems->arY,listSubscript?->arZ,listTooLong->asa
open PySem.Thread renaming atCollectorCode->arH,calm->arI,yieldsInsideHandler->arJ
noncomputable section
set_option maxHeartbeats 8000000
namespace Internal
theorem Vs{a c d:Nat}(h:a<c)(k:c<=d+1):a<=d:=Vd (km h k)
theorem mJ{a c d:Nat}(h:a<c)(k:c<=d):a<d:=km h k
theorem Fz{a b c:Nat}(e:a=b)(h:b<=c):a<=c:=e▸h
theorem tF{a b c:Nat}(e:a=b)(h:b<c):a<c:=e▸h
theorem LZ{a b c:Nat}(e:b=a)(h:b<=c):a<=c:=e▸h
theorem AC{a b c:Nat}(e:b=a)(h:b<c):a<c:=e▸h
theorem xT{a b c:Nat}(e:c=b)(h:a<b):a<c:=e▸h
theorem Vt{a b c:Nat}(h:a+b<=c):a<=c:=dG (mG ..) h
theorem j1{a b c:Nat}(h:a+b<c):a<c:=lW (mG ..) h
theorem L0{a b c:Nat}(h:a+b<c):b<c:=lW (LS ..) h
theorem pX{a b c:Nat}(h:a+(b+1)<c):a+1+b<c:=oY a 1 b▸h
theorem AD{a b:Nat}(h:a<b):a≠b:=rq h
theorem FB{a b:Nat}(h:a<b)(k:b<=a):False:=nJ _ (km h k)
theorem Vv{a b:Nat}(h:a<b):b-(a+1)<b-a:=Nat.sub_lt_sub_left h (o7 _)
theorem L4{a b:Nat}(h:a<b):b-a=b-(a+1)+1:=(Vk (n:=b-a) (m:=1) (ary h)).symm
theorem Vw{a b:Nat}(h:a<=b)(k:¬a<b):a=b:=LU h (oZ k)
theorem FC{a b:Nat}(h:¬a<b)(k:a<b+1):a=b:=LU (Vd k) (oZ h)
theorem FD{a b c d e:Nat}(h:b<=c*a)(k:a<d)(l:c*d<=e):b<=e:=dG h (dG (LW c (fh k)) l)
theorem rx{a b:Nat}{c:Int}(h:a<b)(k:(b:Int)<=c):(a:Int)<c:=aqJ (nH.mpr h) k
theorem pd{a:Nat}{c:Int}(k:c<=0):c<=(a:Int):=Ap k (Aq a)
theorem AE{a b:Int}(h:0<=a)(k:a<b):0<=b:=Ap h (nG k)
theorem AF{a b c:Int}(h:a<b)(k:b<=c):a<c:=aqJ h k
theorem xU{a b c:Int}(h:b<=a)(k:c<=b):c<=a:=Ap k h
theorem L5{a b:Int}(h:a<b):a≠b:=aqK h
theorem L6{a b:Int}(h:b<a):a≠b:=λe=>Int.lt_irrefl _ (e▸h)
theorem FF{a b c d:Nat}(h:a+b<c)(k:c<=d):a<d:=km (j1 h) k
theorem AG{a b c k:Nat}:a+k*b+k*c=a+k*(b+c):=by rw[Vj,lu]
theorem L7{a b c:Nat}(h:a<b):a<b+c:=km h (mG ..)
theorem L8{a b:Nat}(h:a<b):(a:Int)<b:=nH.mpr h
theorem L9{a b c:Nat}(e:a+b=c)(h:a<c):b=b-1+1:=(Vk (Nat.pos_of_ne_zero λq=>nJ a (LV h (by subst q;exact e.symm)))).symm
theorem L'{a b c:Nat}(e:a+b=c)(h:a<c):a+1+(b-1)=c:=by cases b with|zero=>exact absurd h (e▸nJ _)|succ b=>exact(Nat.succ_add a b).trans e
theorem Ma{a c:Int}(h:a<c):¬a≥c:=Int.not_le.mpr h
theorem Mb{a c:Int}(h:c<=a):¬a<c:=Int.not_lt.mpr h
theorem Vx{a b:Nat}(h:(a:Int)<b):a<b:=nH.mp h
theorem Vy{a b:Nat}(h:(a:Int)=b):a=b:=Int.ofNat_inj.mp h
theorem Mc{a b c k:Nat}{d:Nat}(h:a<=b)(l:c+k*b<d):c+k*a<d:=lW (Fp (LW _ h) _) l
theorem Vz{a b c:Nat}(e:a=b)(h:c<b):b-1-c<a:=LV (lW (Nat.sub_le _ _) (Nat.sub_lt (Nat.zero_lt_of_lt h) Nat.one_pos)) e.symm
theorem VA{a b:Nat}(h:a<b):b+1-1-a=b-1-a+1:=(Vk (n:=b-a) (m:=1) (ary h)).symm.trans (congrArg (·+1) (Nat.sub_right_comm b a 1))
theorem VB{a b c:Nat}(h:a<b)(k:c<b)(n:c≠a):b-1-c≠b-1-a:=λe=>n ((arz (arq k)).symm.trans ((congrArg (b-1-·) e).trans (arz (arq h))))
theorem VC{a b:Nat}(h:a<=b)(k:a≠b):a<b:=Nat.lt_of_le_of_ne h k
theorem Md{a b c d:Nat}{x y:Nat}(e:c=a)(f:d=b)(h:a+b<x)(k:x<=y+1):c+d<=y:=by subst e f;exact Vs h k
theorem VD{a b:Nat}:a+1+1+2*b=a+2*(b+1):=(lu a 2 (2*b)).trans (congrArg (a+·) (jh 2 (2*b)))
theorem FG{a b c d:Nat}:a+b+(c+d)=a+(b+c+d):=by simp only[lu]
theorem VF{a b:Nat}{c:Int}(h:a<=b)(k:(b:Int)<=c):(a:Int)<=c:=Ap (to.mpr h) k
theorem VG{a n:Nat}(h:a+20*(n+1)<9000):a+3+20*n<9000:=lW (dG (lV (oY a 3 _)) (dG (Fp (by decide:3<=20) _) (lV (lu a _ 20)))) h
theorem VH{a n w:Nat}(h:a+2*(n+4)<900)(e:w=1):a+w+2*(n+3)<900:=by subst e;exact lW (dG (lV (oY a 1 _)) (dG (pU _) (lV (lu a _ 2)))) h
theorem VJ{a n w:Nat}(h:a+20*(n+4)<9000)(e:w=1):a+w+20*(n+3)<9000:=by subst e;exact lW (dG (lV (oY a 1 _)) (dG (Fp (by decide:1<=20) _) (lV (lu a _ 20)))) h
theorem VK{x a:Nat}(h:x<=a):x+(a-x)=a:=Nat.add_sub_of_le h
theorem VL{a b x y:Nat}(h:a<=1000*x)(h2:b<=1000*y)(k:x+y<4000):a+b<=16777216:=dG (arn h h2) (dG (lV (Vj ..).symm) (dG (LW 1000 (fh k)) (by decide)))
theorem VM{m n:Nat}:m+n+1=m+1+n:=oY m n 1
theorem Me{m n:Nat}:n+1+m=n+m+1:=oY n 1 m
theorem FH{m n:Nat}:m+1+n=m+(n+1):=oY m 1 n
theorem VN{m n:Nat}:m+3+3*n=m+3*(n+1):=(oY m 3 (3*n)).trans (lu m (3*n) 3)
theorem VQ{n:Nat}:1+(1+(13*n+0)+0)=13*n+2:=(congrArg (1+·) (jh 1 (13*n))).trans (jh 1 _)
theorem VS{n:Nat}:1+(2+(3*n+0))=3*(n+1):=(lu 1 2 (3*n)).symm.trans (jh 3 _)
theorem VU{n:Nat}:1+((3*n+(10*n+0))+0)=13*n+1:=(congrArg (1+·) (Nat.add_mul 3 10 n).symm).trans (jh 1 _)
theorem VV{n:Nat}:1+(1+(1+(1+(1+(6*n+0)))))=6*n+5:=by rw[Fu,Fu,Fu,Fu,Fu]
theorem VW{m n:Nat}:m+2*n+n=m+3*n:=(lu m (2*n) n).trans (congrArg (m+·) (Nat.succ_mul 2 n).symm)
theorem VX{t s a:Nat}:t+s+s*a=t+(s*a+s):=(lu t s _).trans (congrArg (t+·) (jh s _))
theorem VY{n:Nat}:(13*n+1+(6*n+5))+0=19*n+6:=(Nat.add_add_add_comm (13*n) 1 (6*n) 5).trans (congrArg (·+6) (Nat.add_mul 13 6 n).symm)
theorem VZ{g gs la:Nat}(h:g=17):((13*g+2)+(6*g+5))+(330*gs+(19*la+6))=330*(gs+1)+(19*la+6):=by subst h;rw[<-lu];exact congrArg (·+_) (jh 330 _)
theorem V5{k g x y:Nat}:k+3*g+3*(x+y)=k+3*(g+x+y):=by rw[lu k,<-Vj,lu g]
theorem FJ{n k:Nat}(h:k<n):-(n:Int)<=Ff k:=Int.neg_le_neg (to.mpr h)
theorem Mf{k:Nat}(h:k<4000):-(2^63:Int)<=Ff k:=Ap (by decide:-(2^63:Int)<=-((4000:Nat):Int)) (FJ h)
theorem FK{n k:Nat}:(Ff k+(n:Int)).toNat=n-1-k:=(Int.toNat_sub n (k+1)).trans (Nat.sub_sub n 1 k▸jh 1 k▸rfl)
theorem FL{x y:Int}(h:x<=y):(max 0 (min x y)).toNat=x.toNat:=by rw[Int.min_eq_left h];cases x<;>rfl
end Internal
namespace Internal
theorem xA{p1:Prop}{p2:Prop}{G:Prop}(h:p1/\p2)(k:p1->p2->G):G:=k h.1 h.2
theorem bP{p1:Prop}{p2:Prop}{p3:Prop}{G:Prop}(h:p1/\p2/\p3)(k:p1->p2->p3->G):G:=k h.1 h.2.1 h.2.2
theorem iU{p1:Prop}{p2:Prop}{p3:Prop}{p4:Prop}{G:Prop}(h:p1/\p2/\p3/\p4)(k:p1->p2->p3->p4->G):G:=k h.1 h.2.1 h.2.2.1 h.2.2.2
theorem xV{p1:Prop}{p2:Prop}{p3:Prop}{p4:Prop}{p5:Prop}{G:Prop}(h:p1/\p2/\p3/\p4/\p5)(k:p1->p2->p3->p4->p5->G):G:=k h.1 h.2.1 h.2.2.1 h.2.2.2.1 h.2.2.2.2
theorem iV{p1:Prop}{p2:Prop}{p3:Prop}{p4:Prop}{p5:Prop}{p6:Prop}{G:Prop}(h:p1/\p2/\p3/\p4/\p5/\p6)(k:p1->p2->p3->p4->p5->p6->G):G:=k h.1 h.2.1 h.2.2.1 h.2.2.2.1 h.2.2.2.2.1 h.2.2.2.2.2
theorem AH{aB:Sort _}{p1:Prop}{p2:Prop}{p3:Prop}{p4:aB->Prop}{p5:aB->Prop}{G:Prop}(h:p1/\p2/\p3/\∃x1,p4 x1/\p5 x1)(k:p1->p2->p3->∀x1,p4 x1->p5 x1->G):G:=by obtain⟨a0,a1,a2,a3,a4,a5⟩:=h;exact k a0 a1 a2 a3 a4 a5
theorem tG{aB:Sort _}{p1:Prop}{p2:aB->Prop}{p3:aB->Prop}{G:Prop}(h:p1/\∃x1,p2 x1/\p3 x1)(k:p1->∀x1,p2 x1->p3 x1->G):G:=by obtain⟨a0,a1,a2,a3⟩:=h;exact k a0 a1 a2 a3
theorem xE{aB:Sort _}{p1:aB->Prop}{G:Prop}(h:∃x1,p1 x1)(k:∀x1,p1 x1->G):G:=h.elim λa0 h=>k a0 h
theorem yE{aB:Sort _}{p1:aB->Prop}{G:Prop}(k:∀x1,p1 x1->G)(h:∃x1,p1 x1):G:=xE h k
theorem ah{aB:Sort _}{p1:aB->Prop}{p2:aB->Prop}{G:Prop}(h:∃x1,p1 x1/\p2 x1)(k:∀x1,p1 x1->p2 x1->G):G:=h.elim λa0 h=>k a0 h.1 h.2
theorem V7{aB:Sort _}{p1:aB->Prop}{p2:aB->Prop}{G:Prop}(k:∀x1,p1 x1->p2 x1->G)(h:∃x1,p1 x1/\p2 x1):G:=ah h k
theorem fj{aB:Sort _}{p1:aB->Prop}{p2:aB->Prop}{p3:aB->Prop}{G:Prop}(h:∃x1,p1 x1/\p2 x1/\p3 x1)(k:∀x1,p1 x1->p2 x1->p3 x1->G):G:=h.elim λa0 h=>k a0 h.1 h.2.1 h.2.2
theorem vu{aB:Sort _}{p1:aB->Prop}{p2:aB->Prop}{p3:aB->Prop}{p4:aB->Prop}{G:Prop}(h:∃x1,p1 x1/\p2 x1/\p3 x1/\p4 x1)(k:∀x1,p1 x1->p2 x1->p3 x1->p4 x1->G):G:=h.elim λa0 h=>k a0 h.1 h.2.1 h.2.2.1 h.2.2.2
theorem FM{aB:Sort _}{p1:aB->Prop}{p2:aB->Prop}{p3:aB->Prop}{p4:aB->Prop}{p5:aB->Prop}{G:Prop}(h:∃x1,p1 x1/\p2 x1/\p3 x1/\p4 x1/\p5 x1)(k:∀x1,p1 x1->p2 x1->p3 x1->p4 x1->p5 x1->G):G:=h.elim λa0 h=>k a0 h.1 h.2.1 h.2.2.1 h.2.2.2.1 h.2.2.2.2
theorem fL{aB:Sort _}{aQ:Sort _}{p1:aB->aQ->Prop}{G:Prop}(h:∃x1,∃x2,p1 x1 x2)(k:∀x1,∀x2,p1 x1 x2->G):G:=h.elim λa0 h=>h.elim λa1 h=>k a0 a1 h
theorem be{aB:Sort _}{aQ:Sort _}{p1:aB->aQ->Prop}{p2:aB->aQ->Prop}{G:Prop}(h:∃x1,∃x2,p1 x1 x2/\p2 x1 x2)(k:∀x1,∀x2,p1 x1 x2->p2 x1 x2->G):G:=h.elim λa0 h=>h.elim λa1 h=>k a0 a1 h.1 h.2
theorem lY{aB:Sort _}{aQ:Sort _}{p1:aB->aQ->Prop}{p2:aB->aQ->Prop}{p3:aB->aQ->Prop}{G:Prop}(h:∃x1,∃x2,p1 x1 x2/\p2 x1 x2/\p3 x1 x2)(k:∀x1,∀x2,p1 x1 x2->p2 x1 x2->p3 x1 x2->G):G:=h.elim λa0 h=>h.elim λa1 h=>k a0 a1 h.1 h.2.1 h.2.2
theorem lZ{aB:Sort _}{aQ:Sort _}{p1:aB->aQ->Prop}{p2:aB->aQ->Prop}{p3:aB->aQ->Prop}{p4:aB->aQ->Prop}{G:Prop}(h:∃x1,∃x2,p1 x1 x2/\p2 x1 x2/\p3 x1 x2/\p4 x1 x2)(k:∀x1,∀x2,p1 x1 x2->p2 x1 x2->p3 x1 x2->p4 x1 x2->G):G:=h.elim λa0 h=>h.elim λa1 h=>k a0 a1 h.1 h.2.1 h.2.2.1 h.2.2.2
theorem fZ{aB:Sort _}{aQ:Sort _}{bB:Sort _}{p1:aB->aQ->bB->Prop}{G:Prop}(h:∃x1,∃x2,∃x3,p1 x1 x2 x3)(k:∀x1,∀x2,∀x3,p1 x1 x2 x3->G):G:=h.elim λa0 h=>h.elim λa1 h=>h.elim λa2 h=>k a0 a1 a2 h
theorem dN{aB:Sort _}{aQ:Sort _}{bB:Sort _}{p1:aB->aQ->bB->Prop}{p2:aB->aQ->bB->Prop}{G:Prop}(h:∃x1,∃x2,∃x3,p1 x1 x2 x3/\p2 x1 x2 x3)(k:∀x1,∀x2,∀x3,p1 x1 x2 x3->p2 x1 x2 x3->G):G:=h.elim λa0 h=>h.elim λa1 h=>h.elim λa2 h=>k a0 a1 a2 h.1 h.2
theorem gY{aB:Sort _}{aQ:Sort _}{bB:Sort _}{p1:aB->aQ->bB->Prop}{p2:aB->aQ->bB->Prop}{p3:aB->aQ->bB->Prop}{G:Prop}(h:∃x1,∃x2,∃x3,p1 x1 x2 x3/\p2 x1 x2 x3/\p3 x1 x2 x3)(k:∀x1,∀x2,∀x3,p1 x1 x2 x3->p2 x1 x2 x3->p3 x1 x2 x3->G):G:=h.elim λa0 h=>h.elim λa1 h=>h.elim λa2 h=>k a0 a1 a2 h.1 h.2.1 h.2.2
theorem vw{aB:Sort _}{aQ:Sort _}{bB:Sort _}{p1:aB->aQ->bB->Prop}{p2:aB->aQ->bB->Prop}{p3:aB->aQ->bB->Prop}{p4:aB->aQ->bB->Prop}{G:Prop}(h:∃x1,∃x2,∃x3,p1 x1 x2 x3/\p2 x1 x2 x3/\p3 x1 x2 x3/\p4 x1 x2 x3)(k:∀x1,∀x2,∀x3,p1 x1 x2 x3->p2 x1 x2 x3->p3 x1 x2 x3->p4 x1 x2 x3->G):G:=h.elim λa0 h=>h.elim λa1 h=>h.elim λa2 h=>k a0 a1 a2 h.1 h.2.1 h.2.2.1 h.2.2.2
theorem pY{aB:Sort _}{aQ:Sort _}{bB:Sort _}{p1:aB->aQ->bB->Prop}{p2:aB->aQ->bB->Prop}{p3:aB->aQ->bB->Prop}{p4:aB->aQ->bB->Prop}{p5:aB->aQ->bB->Prop}{G:Prop}(h:∃x1,∃x2,∃x3,p1 x1 x2 x3/\p2 x1 x2 x3/\p3 x1 x2 x3/\p4 x1 x2 x3/\p5 x1 x2 x3)(k:∀x1,∀x2,∀x3,p1 x1 x2 x3->p2 x1 x2 x3->p3 x1 x2 x3->p4 x1 x2 x3->p5 x1 x2 x3->G):G:=h.elim λa0 h=>h.elim λa1 h=>h.elim λa2 h=>k a0 a1 a2 h.1 h.2.1 h.2.2.1 h.2.2.2.1 h.2.2.2.2
theorem nM{aB:Sort _}{aQ:Sort _}{bB:Sort _}{p1:aB->aQ->bB->Prop}{p2:aB->aQ->bB->Prop}{p3:aB->aQ->bB->Prop}{p4:aB->aQ->bB->Prop}{p5:aB->aQ->bB->Prop}{p6:aB->aQ->bB->Prop}{G:Prop}(h:∃x1,∃x2,∃x3,p1 x1 x2 x3/\p2 x1 x2 x3/\p3 x1 x2 x3/\p4 x1 x2 x3/\p5 x1 x2 x3/\p6 x1 x2 x3)(k:∀x1,∀x2,∀x3,p1 x1 x2 x3->p2 x1 x2 x3->p3 x1 x2 x3->p4 x1 x2 x3->p5 x1 x2 x3->p6 x1 x2 x3->G):G:=h.elim λa0 h=>h.elim λa1 h=>h.elim λa2 h=>k a0 a1 a2 h.1 h.2.1 h.2.2.1 h.2.2.2.1 h.2.2.2.2.1 h.2.2.2.2.2
theorem lw{aB:Sort _}{aQ:Sort _}{bB:Sort _}{hH:Sort _}{p1:aB->aQ->bB->hH->Prop}{G:Prop}(h:∃x1,∃x2,∃x3,∃x4,p1 x1 x2 x3 x4)(k:∀x1,∀x2,∀x3,∀x4,p1 x1 x2 x3 x4->G):G:=h.elim λa0 h=>h.elim λa1 h=>h.elim λa2 h=>h.elim λa3 h=>k a0 a1 a2 a3 h
theorem FN{aB:Sort _}{aQ:Sort _}{bB:Sort _}{hH:Sort _}{ly:Sort _}{p1:aB->aQ->bB->hH->ly->Prop}{G:Prop}(h:∃x1,∃x2,∃x3,∃x4,∃x5,p1 x1 x2 x3 x4 x5)(k:∀x1,∀x2,∀x3,∀x4,∀x5,p1 x1 x2 x3 x4 x5->G):G:=h.elim λa0 h=>h.elim λa1 h=>h.elim λa2 h=>h.elim λa3 h=>h.elim λa4 h=>k a0 a1 a2 a3 a4 h
theorem tH{aB:Sort _}{aQ:Sort _}{bB:Sort _}{hH:Sort _}{ly:Sort _}{p1:aB->aQ->bB->hH->ly->Prop}{p2:aB->aQ->bB->hH->ly->Prop}{p3:aB->aQ->bB->hH->ly->Prop}{p4:aB->aQ->bB->hH->ly->Prop}{G:Prop}(h:∃x1,∃x2,∃x3,∃x4,∃x5,p1 x1 x2 x3 x4 x5/\p2 x1 x2 x3 x4 x5/\p3 x1 x2 x3 x4 x5/\p4 x1 x2 x3 x4 x5)(k:∀x1,∀x2,∀x3,∀x4,∀x5,p1 x1 x2 x3 x4 x5->p2 x1 x2 x3 x4 x5->p3 x1 x2 x3 x4 x5->p4 x1 x2 x3 x4 x5->G):G:=h.elim λa0 h=>h.elim λa1 h=>h.elim λa2 h=>h.elim λa3 h=>h.elim λa4 h=>k a0 a1 a2 a3 a4 h.1 h.2.1 h.2.2.1 h.2.2.2
theorem ry{aB:Sort _}{aQ:Sort _}{bB:Sort _}{hH:Sort _}{ly:Sort _}{V8:Sort _}{V9:Sort _}{Wa:Sort _}{Wb:Sort _}{Wc:Sort _}{We:Sort _}{Wf:Sort _}{p1:aB->aQ->bB->hH->ly->V8->V9->Wa->Wb->Wc->We->Wf->Prop}{G:Prop}(h:∃x1,∃x2,∃x3,∃x4,∃x5,∃x6,∃x7,∃x8,∃x9,∃FO,∃FP,∃FQ,p1 x1 x2 x3 x4 x5 x6 x7 x8 x9 FO FP FQ)(k:∀x1,∀x2,∀x3,∀x4,∀x5,∀x6,∀x7,∀x8,∀x9,∀FO,∀FP,∀FQ,p1 x1 x2 x3 x4 x5 x6 x7 x8 x9 FO FP FQ->G):G:=h.elim λa0 h=>h.elim λa1 h=>h.elim λa2 h=>h.elim λa3 h=>h.elim λa4 h=>h.elim λa5 h=>h.elim λa6 h=>h.elim λa7 h=>h.elim λa8 h=>h.elim λa9 h=>h.elim λWg h=>h.elim λWh h=>k a0 a1 a2 a3 a4 a5 a6 a7 a8 a9 Wg Wh h
theorem au{α:Type _}{a:α}{P:Prop}(h:none=some a):P:=nomatch h
theorem kn{α:Type _}{a:α}{P:Prop}(h:some a=none):P:=nomatch h
theorem aI{α:Type _}{a c:α}(h:some a=some c):a=c:=mH.inj h
@[elab_as_elim] theorem bf{α:Type _}{a c:α}{P:α->Prop}(h:some a=some c)(k:P a):P c:=aI h▸k
theorem FR{α β:Type _}{a c:α}{b d:β}{G:Prop}(k:a=c->b=d->G)(h:some (a,b)=some (c,d)):G:=by cases h;exact k rfl rfl
@[elab_as_elim] theorem dY{α β:Type _}{a c:α}{b d:β}{P:α->β->Prop}(h:some (a,b)=some (c,d))(k:P a b):P c d:=by cases h;exact k
theorem Mg{α β γ:Type _}{a c:α}{b d:β}{e f:γ}{G:Prop}(k:a=c->b=d->e=f->G)(h:some (a,b,e)=some (c,d,f)):G:=by cases h;exact k rfl rfl rfl
@[elab_as_elim] theorem jj{α β γ:Type _}{a c:α}{b d:β}{e f:γ}{P:α->β->γ->Prop}(h:some (a,b,e)=some (c,d,f))(k:P a b e):P c d f:=by cases h;exact k
@[elab_as_elim] theorem Mh{α β:Type _}{a c:α}{b d:β}{P:α->β->Prop}(h:(a,b)=(c,d))(k:P a b):P c d:=dY (congrArg some h) k
@[elab_as_elim] theorem Mi{α β γ:Type _}{a c:α}{b d:β}{e f:γ}{P:α->β->γ->Prop}(h:(a,b,e)=(c,d,f))(k:P a b e):P c d f:=jj (congrArg some h) k
theorem bV{P:Prop}(h:false=true):P:=UO h
theorem nN{P:Prop}(h:true=false):P:=UO h
theorem aW{aB:Sort _}{p1:aB->Prop}{p2:aB->Prop}(x1:aB)(h2:p1 x1)(h3:p2 x1):∃x1,p1 x1/\p2 x1:=⟨x1,h2,h3⟩
theorem cp{aB:Sort _}{p1:aB->Prop}{p2:aB->Prop}{p3:aB->Prop}(x1:aB)(h2:p1 x1)(h3:p2 x1)(h4:p3 x1):∃x1,p1 x1/\p2 x1/\p3 x1:=⟨x1,h2,h3,h4⟩
theorem iW{aB:Sort _}{p1:aB->Prop}{p2:aB->Prop}{p3:aB->Prop}{p4:aB->Prop}(x1:aB)(h2:p1 x1)(h3:p2 x1)(h4:p3 x1)(h5:p4 x1):∃x1,p1 x1/\p2 x1/\p3 x1/\p4 x1:=⟨x1,h2,h3,h4,h5⟩
theorem AI{aB:Sort _}{p1:aB->Prop}{p2:aB->Prop}{p3:aB->Prop}{p4:aB->Prop}{p5:aB->Prop}(x1:aB)(h2:p1 x1)(h3:p2 x1)(h4:p3 x1)(h5:p4 x1)(h6:p5 x1):∃x1,p1 x1/\p2 x1/\p3 x1/\p4 x1/\p5 x1:=⟨x1,h2,h3,h4,h5,h6⟩
theorem Wi{aB:Sort _}{aQ:Sort _}{p1:aB->Prop}{p2:aB->aQ->Prop}{p3:aB->aQ->Prop}(x1:aB)(h2:p1 x1)(x2:aQ)(h4:p2 x1 x2)(h5:p3 x1 x2):∃x1,p1 x1/\∃x2,p2 x1 x2/\p3 x1 x2:=⟨x1,h2,x2,h4,h5⟩
theorem Mj{aB:Sort _}{aQ:Sort _}{p1:aB->Prop}{p2:aB->aQ->Prop}{p3:aB->aQ->Prop}{p4:aB->aQ->Prop}(x1:aB)(h2:p1 x1)(x2:aQ)(h4:p2 x1 x2)(h5:p3 x1 x2)(h6:p4 x1 x2):∃x1,p1 x1/\∃x2,p2 x1 x2/\p3 x1 x2/\p4 x1 x2:=⟨x1,h2,x2,h4,h5,h6⟩
theorem gK{aB:Sort _}{aQ:Sort _}{p1:aB->aQ->Prop}(x1:aB)(x2:aQ)(h3:p1 x1 x2):∃x1,∃x2,p1 x1 x2:=⟨x1,x2,h3⟩
theorem vx{aB:Sort _}{aQ:Sort _}{p1:aB->aQ->Prop}{p2:aB->aQ->Prop}(x1:aB)(x2:aQ)(h3:p1 x1 x2)(h4:p2 x1 x2):∃x1,∃x2,p1 x1 x2/\p2 x1 x2:=⟨x1,x2,h3,h4⟩
theorem rz{aB:Sort _}{aQ:Sort _}{p1:aB->aQ->Prop}{p2:aB->aQ->Prop}{p3:aB->aQ->Prop}(x1:aB)(x2:aQ)(h3:p1 x1 x2)(h4:p2 x1 x2)(h5:p3 x1 x2):∃x1,∃x2,p1 x1 x2/\p2 x1 x2/\p3 x1 x2:=⟨x1,x2,h3,h4,h5⟩
theorem pf{aB:Sort _}{aQ:Sort _}{p1:aB->aQ->Prop}{p2:aB->aQ->Prop}{p3:aB->aQ->Prop}{p4:aB->aQ->Prop}(x1:aB)(x2:aQ)(h3:p1 x1 x2)(h4:p2 x1 x2)(h5:p3 x1 x2)(h6:p4 x1 x2):∃x1,∃x2,p1 x1 x2/\p2 x1 x2/\p3 x1 x2/\p4 x1 x2:=⟨x1,x2,h3,h4,h5,h6⟩
theorem Wj{aB:Sort _}{aQ:Sort _}{p1:aB->aQ->Prop}{p2:aB->aQ->Prop}{p3:aB->aQ->Prop}{p4:aB->aQ->Prop}{p5:aB->aQ->Prop}(x1:aB)(x2:aQ)(h3:p1 x1 x2)(h4:p2 x1 x2)(h5:p3 x1 x2)(h6:p4 x1 x2)(h7:p5 x1 x2):∃x1,∃x2,p1 x1 x2/\p2 x1 x2/\p3 x1 x2/\p4 x1 x2/\p5 x1 x2:=⟨x1,x2,h3,h4,h5,h6,h7⟩
theorem FS{aB:Sort _}{aQ:Sort _}{bB:Sort _}{p1:aB->aQ->bB->Prop}(x1:aB)(x2:aQ)(x3:bB)(h4:p1 x1 x2 x3):∃x1,∃x2,∃x3,p1 x1 x2 x3:=⟨x1,x2,x3,h4⟩
theorem vy{aB:Sort _}{aQ:Sort _}{bB:Sort _}{p1:aB->aQ->bB->Prop}{p2:aB->aQ->bB->Prop}{p3:aB->aQ->bB->Prop}(x1:aB)(x2:aQ)(x3:bB)(h4:p1 x1 x2 x3)(h5:p2 x1 x2 x3)(h6:p3 x1 x2 x3):∃x1,∃x2,∃x3,p1 x1 x2 x3/\p2 x1 x2 x3/\p3 x1 x2 x3:=⟨x1,x2,x3,h4,h5,h6⟩
theorem FT{aB:Sort _}{aQ:Sort _}{bB:Sort _}{p1:aB->aQ->bB->Prop}{p2:aB->aQ->bB->Prop}{p3:aB->aQ->bB->Prop}{p4:aB->aQ->bB->Prop}(x1:aB)(x2:aQ)(x3:bB)(h4:p1 x1 x2 x3)(h5:p2 x1 x2 x3)(h6:p3 x1 x2 x3)(h7:p4 x1 x2 x3):∃x1,∃x2,∃x3,p1 x1 x2 x3/\p2 x1 x2 x3/\p3 x1 x2 x3/\p4 x1 x2 x3:=⟨x1,x2,x3,h4,h5,h6,h7⟩
theorem Ml{aB:Sort _}{aQ:Sort _}{bB:Sort _}{p1:aB->aQ->bB->Prop}{p2:aB->aQ->bB->Prop}{p3:aB->aQ->bB->Prop}{p4:aB->aQ->bB->Prop}{p5:aB->aQ->bB->Prop}(x1:aB)(x2:aQ)(x3:bB)(h4:p1 x1 x2 x3)(h5:p2 x1 x2 x3)(h6:p3 x1 x2 x3)(h7:p4 x1 x2 x3)(h8:p5 x1 x2 x3):∃x1,∃x2,∃x3,p1 x1 x2 x3/\p2 x1 x2 x3/\p3 x1 x2 x3/\p4 x1 x2 x3/\p5 x1 x2 x3:=⟨x1,x2,x3,h4,h5,h6,h7,h8⟩
theorem gM{aB:Sort _}{aQ:Sort _}{bB:Sort _}{p1:aB->aQ->bB->Prop}{p2:aB->aQ->bB->Prop}{p3:aB->aQ->bB->Prop}{p4:aB->aQ->bB->Prop}{p5:aB->aQ->bB->Prop}{p6:aB->aQ->bB->Prop}{p7:aB->aQ->bB->Prop}{p8:aB->aQ->bB->Prop}{p9:aB->aQ->bB->Prop}{nO:aB->aQ->bB->Prop}{Mm:aB->aQ->bB->Prop}(x1:aB)(x2:aQ)(x3:bB)(h4:p1 x1 x2 x3)(h5:p2 x1 x2 x3)(h6:p3 x1 x2 x3)(h7:p4 x1 x2 x3)(h8:p5 x1 x2 x3)(h9:p6 x1 x2 x3)(FU:p7 x1 x2 x3)(xW:p8 x1 x2 x3)(FV:p9 x1 x2 x3)(xX:nO x1 x2 x3)(xY:Mm x1 x2 x3):∃x1,∃x2,∃x3,p1 x1 x2 x3/\p2 x1 x2 x3/\p3 x1 x2 x3/\p4 x1 x2 x3/\p5 x1 x2 x3/\p6 x1 x2 x3/\p7 x1 x2 x3/\p8 x1 x2 x3/\p9 x1 x2 x3/\nO x1 x2 x3/\Mm x1 x2 x3:=⟨x1,x2,x3,h4,h5,h6,h7,h8,h9,FU,xW,FV,xX,xY⟩
theorem Wk{aB:Sort _}{aQ:Sort _}{bB:Sort _}{hH:Sort _}{p1:aB->aQ->bB->hH->Prop}(x1:aB)(x2:aQ)(x3:bB)(x4:hH)(h5:p1 x1 x2 x3 x4):∃x1,∃x2,∃x3,∃x4,p1 x1 x2 x3 x4:=⟨x1,x2,x3,x4,h5⟩
theorem Wl{aB:Sort _}{aQ:Sort _}{bB:Sort _}{hH:Sort _}{p1:aB->aQ->bB->hH->Prop}{p2:aB->aQ->bB->hH->Prop}(x1:aB)(x2:aQ)(x3:bB)(x4:hH)(h5:p1 x1 x2 x3 x4)(h6:p2 x1 x2 x3 x4):∃x1,∃x2,∃x3,∃x4,p1 x1 x2 x3 x4/\p2 x1 x2 x3 x4:=⟨x1,x2,x3,x4,h5,h6⟩
theorem Mn{aB:Sort _}{aQ:Sort _}{bB:Sort _}{hH:Sort _}{ly:Sort _}{p1:aB->aQ->bB->hH->ly->Prop}{p2:aB->aQ->bB->hH->ly->Prop}{p3:aB->aQ->bB->hH->ly->Prop}{p4:aB->aQ->bB->hH->ly->Prop}(x1:aB)(x2:aQ)(x3:bB)(x4:hH)(x5:ly)(h6:p1 x1 x2 x3 x4 x5)(h7:p2 x1 x2 x3 x4 x5)(h8:p3 x1 x2 x3 x4 x5)(h9:p4 x1 x2 x3 x4 x5):∃x1,∃x2,∃x3,∃x4,∃x5,p1 x1 x2 x3 x4 x5/\p2 x1 x2 x3 x4 x5/\p3 x1 x2 x3 x4 x5/\p4 x1 x2 x3 x4 x5:=⟨x1,x2,x3,x4,x5,h6,h7,h8,h9⟩
@[elab_as_elim] theorem ab{α:Sort _}{a b:α}{P:α->Prop}(h:a=b)(m:P b):P a:=h▸m
@[elab_as_elim] theorem bX{α:Sort _}{a b:α}{P:α->Prop}(h:b=a)(m:P b):P a:=h▸m
end Internal
namespace Internal
open PySem PySem.W PyProof.Rows
@[elab_as_elim] theorem tI{α:Type}{P:List α->Prop}(h:P [])(l:List α)(e:l.length=0):P l:=by cases l with|nil=>exact h|cons=>exact nomatch e
@[elab_as_elim] theorem j2{α:Type}{P:List α->Prop}(h:∀a0,P [a0])(l:List α)(e:l.length=1):P l:=by
 induction l with
 | nil=>exact nomatch e
 | cons x l=>exact tI (P:=λl=>P (x::l)) (h x) l (vm.inj e)
@[elab_as_elim] theorem kR{α:Type}{P:List α->Prop}(h:∀a0 a1,P [a0,a1])(l:List α)(e:l.length=2):P l:=by
 induction l with
 | nil=>exact nomatch e
 | cons x l=>exact j2 (P:=λl=>P (x::l)) (h x) l (vm.inj e)
@[elab_as_elim] theorem Mo{α:Type}{P:List α->Prop}(h:∀a0 a1 a2,P [a0,a1,a2])(l:List α)(e:l.length=3):P l:=by
 induction l with
 | nil=>exact nomatch e
 | cons x l=>exact kR (P:=λl=>P (x::l)) (h x) l (vm.inj e)
@[elab_as_elim] theorem Wm{α:Type}{P:List α->Prop}(h:∀a0 a1 a2 a3,P [a0,a1,a2,a3])(l:List α)(e:l.length=4):P l:=by
 induction l with
 | nil=>exact nomatch e
 | cons x l=>exact Mo (P:=λl=>P (x::l)) (h x) l (vm.inj e)
theorem Mp{prog:iS}{w:bD}{A:bC}{s:ak}{R:Result->ak->Prop}{target:ar}{it:ac}{body Mq:List bS}{env:bd}(I:Nat->ak->Prop)
  (turn:∀n s,I n s->∀(P:Option ac->ak->Prop) (E:ac->ak->Prop) (F:xu->ak->Prop),
   (∀d7,aR (model prog w) A (execs Mq env) (λf=>R (.ok f)) E d7->P none d7) ->
   (∀v d7,aR (model prog w) A (tj target it v) (λ_ s=>aR (model prog w) A (assign target env v) (λ_=>aR (model prog w) A (execs body env) F E) E s) E d7->P (some v) d7) ->
   (∀m pZ,m<n->I m pZ->F .next pZ/\F .cont pZ)->(∀pZ,R (.ok .next) pZ->F .brk pZ)->(∀v pZ,R (.ok (.ret v)) pZ->F (.ret v) pZ) ->
   aR (model prog w) A (Am it) P E s)
  (n:Nat) (h:I n s):rk (model prog w) A (.forLoop target it body Mq env) R s:=
 codeAny_forLoop_any I (λn s hI=>turn n s hI _ _ _ (λ_ h=>h) (λ_ _ h=>h) (λm _ a b=>⟨⟨m,a,b⟩,m,a,b⟩) (λ_ h=>h) λ_ _ h=>h) n h
theorem lz{M:rj}{A:bC}{α:Type}{t:bo α}{Q:α->ak->Prop}{E:ac->ak->Prop}{s:ak}(k:∀P:α->ak->Prop,(∀a s',Q a s'->P a s')->aR M A t P E s):aR M A t Q E s:=k Q λ_ _ h=>h
theorem Wn{M:rj}{A:bC}{α:Type}{t:bo α}{Q:α->ak->Prop}{E:ac->ak->Prop}{s:ak}(k:∀(P:α->ak->Prop) (E':ac->ak->Prop),(∀a s',Q a s'->P a s')->aR M A t P E' s):aR M A t Q E s:=k Q E λ_ _ h=>h
theorem FW{G:Prop}(k:∀G':Prop,(G->G')->G'):G:=k G id
end Internal
namespace Internal.Hd
open PySem PySem.W PyProof.Rows
structure Ctx where
 p:iS
 w:bD
 n₀:Nat
 ann:Option ac
noncomputable def nx{α:Type}:Option (α×ak×aC×Nat)->Option (α×ak×aC×Nat)
 | some (a,s,p,n)=>some (a,s,p,n+1)
 | none=>none
noncomputable def mM{α:Type}(m:Nat):Option (α×ak×aC×Nat)->Option (α×ak×aC×Nat)
 | some (a,s,p,n)=>some (a,s,p,m+n)
 | none=>none
abbrev nP:=nB->ak->aC->Option (xu×ak×Nat)
noncomputable def jk(X:Ctx)(a:al):Bool:=fT X.n₀ a||a==mainNs||a==Uw||X.ann==some (.ref a)
noncomputable def ev(X:Ctx)(cB:nP){α:Type}:bo α->ak->aC->Option (α×ak×aC×Nat)
 | .pure a,s,p=>some (a,s,p,0)
 | .rule _ k,s,p=>nx (ev X cB (k ()) s p)
 | .at q k,s,_=>nx (ev X cB (k ()) s q)
 | .point _ k,s,p=>nx (ev X cB (k ()) s p)
 | .load a _ k,s,p=>match s.heap.get? a with
  | some o=>nx (ev X cB (k o) s p)
  | none=>none
 | .loadIfAlive a k,s,p=>nx (ev X cB (k (s.heap.get? a)) s p)
 | .update a _ f k,s,p=>match jk X a,(s.heap.get? a).isSome with
  | true,true=>nx (ev X cB (k ()) {s with heap:=s.heap.update a f} p)
  | _,_=>none
 | .alloc o k,s,p=>nx (ev X cB (k s.heap.objs.size) {s with heap:=s.heap.push o} p)
 | .fresh k,s,p=>nx (ev X cB (k s.toks) {s with toks:=s.toks+1} p)
 | .ask k,s,p=>nx (ev X cB (k ⟨X.p,X.w.params⟩) s p)
 | .call c _ _ _ k,s,p=>match cB c s p with
  | some (f,s',m)=>mM (m+1) (ev X cB (k (.ok f)) s' p)
  | none=>none
 | .raise _,_,_=>none
 | .unsupported _,_,_=>none
 | .finish _,_,_=>none
 | .register _ _,_,_=>none
 | .choose _ _ _,_,_=>none
 | .os _ _ _,_,_=>none
 | .handled _ _,_,_=>none
 | .newGen _ _,_,_=>none
 | .genState _ _,_,_=>none
 | .resume _ _ _ _,_,_=>none
 | .yield _ _ _ _,_,_=>none
 | .stack _,_,_=>none
 | .fork _ _,_,_=>none
 | .thread _,_,_=>none
 | .await _ _ _ _ _,_,_=>none
noncomputable def Mr:nB->Bool
 | .builtin id _=>!id.startsWith "lifetime."
 | _=>true
noncomputable def c7(X:Ctx):Nat->nP
 | 0,_,_,_=>none
 | d+1,c,s,p=>match ev X (c7 X d) (denote lp c) s p with
  | some (.done f,s',_,n)=>some (f,s',n+1)
  | some (.again c',s',p',n)=>match Mr c' with
   | true=>(match c7 X d c' s' p' with
    | some (f,tJ,m)=>some (f,tJ,n+1+m)
    | none=>none)
   | false=>none
  | none=>none
noncomputable abbrev sg(X:Ctx):=segGo lp X.p X.w X.n₀ X.ann 1
theorem AJ(X:Ctx)(cB:nP){α:Type}(a:al)(q:Option ac)(k:aT->bo α)(s:ak)(p:aC):ev X cB (.load a q k) s p=match s.heap.get? a with|some o=>nx (ev X cB (k o) s p)|none=>none:=by kernel_rfl
theorem AK(X:Ctx)(cB:nP){α:Type}(a:al)(q:Option ac)(f:aT->aT)(k:Unit->bo α)(s:ak)(p:aC):ev X cB (.update a q f k) s p=match jk X a,(s.heap.get? a).isSome with|true,true=>nx (ev X cB (k ()) {s with heap:=s.heap.update a f} p)|_,_=>none:=rfl
theorem FX(X:Ctx)(cB:nP){α:Type}(c:nB)(hh g l k)(s:ak)(p:aC):ev X cB (.call c hh g l k:bo α) s p=match cB c s p with|some (f,s',m)=>mM (m+1) (ev X cB (k (.ok f)) s' p)|none=>none:=by kernel_rfl
@[elab_as_elim] theorem FY{α:Type}{o:Option (α×ak×aC×Nat)}{a:α}{s:ak}{p:aC}{j n:Nat}{P:Nat->Prop}(h:mM j o=some (a,s,p,n))(k:∀m,o=some (a,s,p,m)->P (j+m)):P n:=by
 induction o with
 | none=>exact au h
 | some r=>
  have e:=aI h;exact(congrArg (λx=>x.2.2.2) e:j+r.2.2.2=n)▸k r.2.2.2 (congrArg (λx:α×ak×aC×Nat=>some (x.1,x.2.1,x.2.2.1,r.2.2.2)) e)
theorem Wo{α:Type}(o:Option (α×ak×aC×Nat)):nx o=mM 1 o:=match o with
 | none=>rfl
 | some (a,s,p,n)=>congrArg (λk=>some (a,s,p,k)) (jh n 1)
@[elab_as_elim] theorem mO{α:Type}{o:Option (α×ak×aC×Nat)}{a:α}{s:ak}{p:aC}{n:Nat}{P:Nat->Prop}(h:nx o=some (a,s,p,n))(k:∀m,o=some (a,s,p,m)->P (m+1)):P n:=FY ((Wo o).symm.trans h) λm e=>jh m 1▸k m e
theorem mP{X:Ctx}{n:Nat}{s s':ak}{t t':ET}{r:Option (ak×ET)}(he:EZ 1 t=none)(hk:Lp X.n₀ X.ann t=true)(hs:step (denote lp) X.p X.w s t=.go s' t')(h:sg X n s' t'=r):sg X (n+1) s t=r:=by
 unfold segGo;rw[he,hk,hs];exact h
theorem FZ{X:Ctx}{m n:Nat}{s':ak}{t':ET}{r:Option (ak×ET)}(k:sg X m s' t'=r):∀{s:ak} {t:ET},sg X n s t=some (s',t')->sg X (n+m) s t=r:=by
 induction n with
 | zero=>exactλh=>dY h.symm (ab (rt m) k)
 | succ n ih=>
  intro s t h;refine ab (show n+1+m=(n+m)+1 from Me) ?_;have h:=h;unfold segGo at h;unfold segGo;induction he:EZ 1 t with
  | some f=>rw[he]at h;exact au h
  | none=>
   rw[he]at h;induction hk:Lp X.n₀ X.ann t with
   | false=>rw[hk]at h;exact au h
   | true=>
    rw[hk]at h;induction hs:step (denote lp) X.p X.w s t with
    | halt o j3=>rw[hs]at h;exact au h
    | go j3 arN=>rw[hs]at h;exact ih h
noncomputable def Wp:bo Fin->Bool
 | .pure (.done _)=>true
 | _=>false
theorem nQ{x:bo Fin}{c:nB}{p:aC}{st:List Frame}(h:Wp x=false):EZ 1 ⟨x,c,p,st⟩=none:=by
 unfold EZ;induction st.length==1 with
 | false=>rfl
 | true=>
  induction x with
  | pure f=>induction f with
   | done f=>cases h
   | again c=>rfl
  | _=>rfl
def Ms(X:Ctx)(cB:nP):Prop:=∀c s p f s' m,cB c s p=some (f,s',m)->∀k h g l cd p0 xZ fr B,sg X m s ⟨denote lp c,c,p,.ret k h g l cd p0 xZ::fr::B⟩=some (s',⟨k (.ok f),cd,p0,fr::B⟩)
theorem Mt{X:Ctx}{cB:nP}(hl:Ms X cB){α:Type}{a:α}{s':ak}{p':aC}{K:α->bo Fin}{H:ac->bo Fin}{gd:Bool->Bool}{lv:List ac->List ac}{c:nB}{fr:Frame}{B:List Frame}(x:bo α) :
  ∀(s:ak) (p:aC) (n:Nat),ev X cB x s p=some (a,s',p',n)->sg X n s ⟨x.wrap K H gd lv,c,p,fr::B⟩=some (s',⟨K a,c,p',fr::B⟩):=by
 induction x with
 | pure a=>exactλs p n h=>by cases h;rfl
 | rule t k ih=>exactλs p n h=>mO h λm h=>mP (nQ rfl) rfl rfl (ih _ _ _ _ h)
 | «at» q k ih=>exactλs p n h=>mO h λm h=>mP (nQ rfl) rfl rfl (ih _ _ _ _ h)
 | point l k ih=>exactλs p n h=>mO h λm h=>mP (nQ rfl) rfl rfl (ih _ _ _ _ h)
 | load b q k ih=>
  intro s p n h;obtain⟨heap,gens,drawn,toks,os⟩:=s;rw[AJ]at h;induction e:heap.get? b with
  | none=>rw[e]at h;exact au h
  | some o=>
   rw[e]at h;exact mO h λm h=>mP (nQ rfl) rfl (by simp only[Sem.wrap,step,e]) (ih _ _ _ _ h)
 | loadIfAlive b k ih=>exactλs p n h=>mO h λm h=>mP (nQ rfl) rfl rfl (ih _ _ _ _ h)
 | update b q f k ih=>
  intro s p n h;obtain⟨heap,gens,drawn,toks,os⟩:=s;rw[AK]at h;induction e1:jk X b with
  | false=>rw[e1]at h;exact au h
  | true=>
   induction e:(heap.get? b).isSome with
   | false=>rw[e1,e]at h;exact au h
   | true=>
    rw[e1,e]at h;exact mO h λm h=>mP (nQ rfl) (by simp only[Lp,arI,arH,arJ,Sem.wrap];exact e1) (by simp only[Sem.wrap,step,e,if_true]) (ih _ _ _ _ h)
 | alloc o k ih=>exactλs p n h=>mO h λm h=>mP (nQ rfl) rfl rfl (ih _ _ _ _ h)
 | fresh k ih=>exactλs p n h=>mO h λm h=>mP (nQ rfl) rfl rfl (ih _ _ _ _ h)
 | ask k ih=>exactλs p n h=>mO h λm h=>mP (nQ rfl) rfl rfl (ih _ _ _ _ h)
 | call c0 hh g l k ih=>
  intro s p n h;rw[FX]at h;induction e:cB c0 s p with
  | none=>rw[e]at h;exact au h
  | some r=>
   obtain⟨f,s1,m⟩:=r;rw[e]at h;refine FY h λm2 h=>?_
   refine ab (show m+1+m2=(m+m2)+1 from Me) ?_;exact mP (nQ rfl) rfl rfl (FZ (ih _ _ _ _ h) (hl _ _ _ _ _ _ e _ _ _ _ _ _ _ _ _))
 | raise|unsupported|finish=>exactλs p n h=>au h
 | register|choose|os|handled|newGen|genState|resume|«yield»|stack|fork|thread|await=>exactλs p n h=>au h
theorem Wq{α:Type}(x:bo α):x.wrap .pure .raise id id=x:=by
 rw[<-Sem.bind_eq_wrap];exact Sem.bind_pure x
theorem Wr{X:Ctx}:∀d,Ms X (c7 X d):=by
 intro d;induction d with
 | zero=>exactλc s p f s' m h=>by exact au h
 | succ d Mu=>
  intro c s p f s' m h k hh g l cd p0 xZ fr B;unfold c7 at h;induction e:ev X (c7 X d) (denote lp c) s p with
  | none=>rw[e]at h;exact au h
  | some r=>
   obtain⟨fi,s1,p1,n⟩:=r;rw[e]at h;have st:=Mt Mu (K:=.pure) (H:=.raise) (gd:=id) (lv:=id) (c:=c) (fr:=.ret k hh g l cd p0 xZ) (B:=fr::B) _ _ _ _ e;rw[Wq]at st;induction fi with
   | done f'=>
    replace h:=aI h;refine Mi h (FZ ?_ st)
    obtain⟨heap,gens,drawn,toks,os⟩:=s';exact mP (n:=0) (by unfold EZ;rw[show((Frame.ret k hh g l cd p0 xZ::fr::B).length==1)=false from beq_eq_false_iff_ne.mpr (by simp)]) rfl rfl rfl
   | again c'=>
    dsimp only at h;induction e1:Mr c' with
    | false=>rw[e1]at h;exact au h
    | true=>
     rw[e1]at h;induction e2:c7 X d c' s1 p1 with
     | none=>rw[e2]at h;exact au h
     | some r2=>
      obtain⟨f2,s2,m2⟩:=r2;rw[e2]at h;refine jj h ?_;have Ws:=Mu _ _ _ _ _ _ e2 k hh g l cd p0 (keptBy c c' l xZ) fr B;rw[show n+1+m2=n+(m2+1)by exact oY _ _ _];refine FZ ?_ st;obtain⟨heap,gens,drawn,toks,os⟩:=s1;refine mP (nQ rfl) ?_ step_again Ws;unfold Lp arI arJ arH;induction c'<;>first|exact(rfl:true=true)|(replace e1:(!_)=true:=e1;dsimp only;rw[Fb]at e1;rw[e1];rfl)
theorem F7{β:Type}(m:Nat)(o:Option (β×ak×aC×Nat)):nx (mM m o)=mM (m+1) o:=match o with
 | none=>rfl
 | some (a,s,p,n)=>congrArg (λk=>some (a,s,p,k)) VM
theorem Wt{β:Type}(k m:Nat)(o:Option (β×ak×aC×Nat)):mM k (mM m o)=mM (k+m) o:=match o with
 | none=>rfl
 | some (a,s,p,n)=>congrArg (λk=>some (a,s,p,k)) (lu k m n).symm
theorem Wu{β:Type}(o:Option (β×ak×aC×Nat)):o=mM 0 o:=match o with
 | none=>rfl
 | some (a,s,p,n)=>congrArg (λk=>some (a,s,p,k)) (rt n).symm
theorem F8{X:Ctx}{cB:nP}{α β:Type}{a:α}{s':ak}{p':aC}{K:α->bo β}{H:ac->bo β}{gd:Bool->Bool}{lv:List ac->List ac}(x:bo α) :
  ∀{s:ak} {p:aC} {n:Nat},ev X cB x s p=some (a,s',p',n)->ev X cB (x.wrap K H gd lv) s p=mM n (ev X cB (K a) s' p'):=by
 induction x with
 | pure b=>intro s p n h;cases h;exact Wu _
 | rule t k ih|«at» q k ih|point l k ih|alloc o k ih|fresh k ih|ask k ih|loadIfAlive b k ih=>exactλh=>mO h λm h=>(congrArg nx (ih _ h)).trans (F7 ..)
 | load b q k ih=>
  intro s p n h;rw[AJ]at h;refine(AJ ..).trans ?_;induction e:s.heap.get? b with
  | none=>rw[e]at h;exact au h
  | some o=>
   rw[e]at h;exact mO h λm h=>(congrArg nx (ih _ h)).trans (F7 ..)
 | update b q f k ih=>
  intro s p n h;rw[AK]at h;refine(AK ..).trans ?_;induction e1:jk X b with
  | false=>rw[e1]at h;exact au h
  | true=>
   induction e:(s.heap.get? b).isSome with
   | false=>rw[e1,e]at h;exact au h
   | true=>
    rw[e1,e]at h;exact mO h λm h=>(congrArg nx (ih _ h)).trans (F7 ..)
 | call c0 hh g l k ih=>
  intro s p n h;rw[FX]at h;refine(FX ..).trans ?_;induction e:cB c0 s p with
  | none=>rw[e]at h;exact au h
  | some r=>
   obtain⟨f,s1,m⟩:=r;rw[e]at h;exact FY h λm2 h=>(congrArg (mM (m+1)) (ih _ h)).trans (Wt ..)
 | raise|unsupported|finish=>exactλh=>au h
 | register|choose|os|handled|newGen|genState|resume|«yield»|stack|fork|thread|await=>exactλh=>au h
section
variable {X:Ctx}{cB:nP}{α β:Type}{s s1 s2:ak}{p p1 p2:aC}{n m:Nat}
theorem cI{x:bo α}{f:α->bo β}{a:α}{b:β}(h:ev X cB x s p=some (a,s1,p1,n))(h2:ev X cB (f a) s1 p1=some (b,s2,p2,m)):ev X cB (x>>=f) s p=some (b,s2,p2,n+m):=by
 rw[Sem.bind_eq_wrap',F8 x h,h2];rfl
theorem ko{a:α}:ev X cB (pure a:bo α) s p=some (a,s,p,0):=rfl
theorem fk{x:bo α}{a b:α}(h:ev X cB x s p=some (a,s1,p1,n))(e:a=b)(en:n=m):ev X cB x s p=some (b,s1,p1,m):=by rw[h,e,en]
theorem lA{x:bo α}{a:α}{vs:List ac}(h:ev X cB x s p=some (a,s1,p1,n)):ev X cB (holding vs x) s p=some (a,s1,p1,n):=by
 unfold holding;split
 ·exact h
 ·rw[Sem.keep_eq_wrap,F8 x h];rfl
theorem Wv{x:bo α}{a:α}{k:ac->bo Unit}(h:ev X cB x s p=some (a,s1,p1,n)):ev X cB (x.onRaise k) s p=some (a,s1,p1,n):=by
 rw[Sem.onRaise_eq_wrap,F8 x h];rfl
end
structure rA where
 lf:Life
 gens:Array K4
 drawn:Drawn
 os:pM
noncomputable def bQ(r:rA)(L:List aT)(k:Nat):ak:=⟨⟨⟨L⟩,r.lf⟩,r.gens,r.drawn,k,r.os⟩
noncomputable def live(o:aT):Bool:=match o.data with|.freed=>false|_=>true
theorem Mv{r:rA}{L:List aT}{k a:Nat}{o:aT}(h:L[a]?=some o)(hl:live o=true):(bQ r L k).heap.get? a=some o:=by
 show(match(im L)[a]? with|some ⟨_,_,.freed,_⟩=>none|o=>o)=some o
 rw[show(im L)[a]?=L[a]? by simp,h];obtain⟨c,d,dt,sl⟩:=o;induction dt<;>first|rfl|exact bV hl
theorem Ww{r:rA}{L:List aT}{k a:Nat}{o:aT}(f:aT->aT)(h:L[a]?=some o):({bQ r L k with heap:=(bQ r L k).heap.update a f}:ak)=bQ r (L.set a (f o)) k:=by
 show(⟨⟨(im L).modify a f,r.lf⟩,r.gens,r.drawn,k,r.os⟩:ak)=⟨⟨⟨L.set a (f o)⟩,r.lf⟩,r.gens,r.drawn,k,r.os⟩
 have:(im L).modify a f=⟨L.set a (f o)⟩:=by
  apply vh.mp;refine xE (gW.mp h) λfB e=>?_
  rw[Array.toList_modify];apply aqR;intro i;rw[List.getElem?_modify,U']
  by_cases q:a=i
  ·subst q;simp[fB,e]
  ·simp[q]
 rw[this]
noncomputable def bZ(es:List dU)(ep:Nat):aT:=⟨.type "dict",none,.dict ⟨es⟩ ep,⟨[]⟩⟩
section
variable {X:Ctx}{cB:nP}{r:rA}{L:List aT}{k a d o:Nat}{es fs:List dU}{ep eo:Nat}{p:aC}
theorem ya{q:Option ac}{ob:aT}(h:L[a]?=some ob)(hl:live ob=true):ev X cB (loadPart a q) (bQ r L k) p=some (ob,bQ r L k,p,1):=by
 rw[show loadPart a q=.load a q .pure from rfl,AJ,Mv h hl];rfl
theorem AL{q:Option ac}(h:L[d]?=some (bZ es ep)):ev X cB (Lf d q) (bQ r L k) p=some (⟨es⟩,bQ r L k,p,1):=
 fk (cI (ya h rfl) ko) rfl rfl
theorem Mw{q:Option ac}(h:L[d]?=some (bZ es ep)):ev X cB (Lg d q) (bQ r L k) p=some (ep,bQ r L k,p,1):=
 fk (cI (ya h rfl) ko) rfl rfl
theorem Mx{q:Option ac}{e:dU}(hX:jk X d=true)(h:L[d]?=some (bZ es ep))(hs:es.length<gI) :
  ev X cB (updateDictKeys d (·.push e) q) (bQ r L k) p=some ((),bQ r (L.set d (bZ (es++[e]) (ep+1))) k,p,3):=by
 have e1:Vm (·.push e) (bZ es ep)=bZ (es++[e]) (ep+1):=by
  show(⟨_,_,.dict ((im es).push e) (ep+1),_⟩:aT)=⟨_,_,.dict ⟨es++[e]⟩ (ep+1),_⟩
  rw[show(im es).push e=⟨es++[e]⟩ from vh.mp (by simp)]
 have fB:=(gW.mp h).1;refine fk (m:=1+(1+(1+0))) (cI (ya h rfl) ?_) rfl rfl;refine cI (n:=1) (a:=()) (s1:=bQ r (L.set d (bZ (es++[e]) (ep+1))) k) (p1:=p) ?_ ?_
 ·rw[show updatePart d q (Vm (·.push e))=.update d q (Vm (·.push e)) .pure from rfl,AK,hX,Mv h rfl,Ww _ h,e1]
  rfl
 ·refine cI (ya (ob:=bZ (es++[e]) (ep+1)) (by rw[aqU fB]) rfl) ?_
  have:(bZ (es++[e]) (ep+1)).data.pastItsLine=none:=by
   show(if(im (es++[e])).size > gI+1 then some "dict:memory" else none)=none
   rw[if_neg];simp;exact fh hs
  refine ab (this) ?_;exact ko
theorem Wx{h:Int}(hn:∀e∈es,e.hash≠h):placesWithHash (im es).size (λi=>(im es)[i]?.map (·.hash)) h=[]:=by
 unfold placesWithHash;rw[List.filter_eq_nil_iff];intro i hi;have hi:i<es.length:=eR.mp hi;have e:(im es)[i]?=some es[i]:=by
  rw[show(im es)[i]?=es[i]? by simp,Fk hi]
 simp only[e,arF,beq_iff_eq,mH.injEq];exact hn _ (List.getElem_mem hi)
theorem My{i:Int}{t:Nat}{h:Int}(hd:L[d]?=some (bZ es ep))(hn:∀e∈es,e.hash≠h):ev X cB (dictFind d (.int i t) h) (bQ r L k) p=some (none,bQ r L k,p,1):=by
 refine lA (fk (m:=1+0) (cI (AL hd) ?_) rfl rfl);refine ab (Wx hn) ?_
 rfl
theorem Wy{i:Int}{t:Nat}{h:Int}{v:ac}(hX:jk X d=true)(hd:L[d]?=some (bZ es ep))(hn:∀e∈es,e.hash≠h)(hs:es.length<gI) :
  ev X cB (EX d h (.int i t) v) (bQ r L k) p=some ((),bQ r (L.set d (bZ (es++[⟨h,.int i t,v⟩]) (ep+1))) k,p,4):=
 fk (cI (My hd hn) (Mx hX hd hs)) rfl rfl
end
theorem Mz(i:Int)(t:Nat):specialOf (.int i t) "__hash__"= pure (some (.builtin "int.__hash__")):=by kernel_rfl
theorem Wz(i:Int)(t:Nat):Uu (.builtin "int.__hash__") (.int i t)=pure (.builtin "int.__hash__",[.int i t]):=by kernel_rfl
theorem WA:kM (.type "dict") "__iter__"= pure (some (.builtin "dict.__iter__")):=by kernel_rfl
theorem WB:Lj (.type "dict") (.type "dict")=pure true:=by kernel_rfl
noncomputable def AM(i:Int):Int:=if((if i<0 then -((i.natAbs:Int)%(2^61-1:Nat))else(i.natAbs:Int)%(2^61-1:Nat))==-1)=true then -2 else if i<0 then -((i.natAbs:Int)%(2^61-1:Nat))else(i.natAbs:Int)%(2^61-1:Nat)
theorem MA{i:Int}(h0:0<=i)(h1:i<2^61-1):AM i=i:=by
 refine xE (UY h0) λn ag=>?_;subst ag
 unfold AM;have e:(if(n:Int)<0 then -(((n:Int).natAbs:Int)%(2^61-1:Nat))else((n:Int).natAbs:Int)%(2^61-1:Nat))=n:=by
  rw[if_neg (by lia)]
  show(n:Int)%((2^61-1:Nat):Int)=n
  exact Int.emod_eq_of_lt (by lia) (by lia)
 rw[e,if_neg];rw[beq_iff_eq];lia
section
variable {X:Ctx}{s:ak}{p:aC}
theorem WC(i:Int)(t:Nat):ev X (c7 X 3) (call (.builtin "int.__hash__") [.int i t]) s p=some (.int (AM i) s.toks,{s with toks:=s.toks+1},p,4):=by kernel_rfl
theorem WD(i:Int)(t:Nat):ev X (c7 X 3) (aqc (.int i t) "__hash__") s p=some (some (.builtin "int.__hash__",[.int i t]),s,p,1):=by
 unfold aqc;rw[Mz]
 show nx (ev X (c7 X 3) (if X.w.params.followText "special-get-raises"= true then(do return some (<-Uu (.builtin "int.__hash__") (.int i t)))else(do return some (<-Uu (.builtin "int.__hash__") (.int i t))).tryCatch _) s p)=_
 rw[Wz];split<;>rfl
theorem WE{i:Int}{t:Nat}(h0:0<=i)(h1:i<2^61-1):ev X (c7 X 3) (pyHash (.int i t)) s p=some (i,{s with toks:=s.toks+1},p,5):=by
 show ev X (c7 X 3) (pyHashByItsType (.int i t)) s p=_
 unfold pyHashByItsType;rw[Mz]
 show ev X (c7 X 3) (aqd (.int i t) "__hash__" _>>=_) s p=_
 refine fk (n:=5+0) (a:=i) (cI (a:=some (.int i s.toks)) (s1:={s with toks:=s.toks+1}) (p1:=p) (n:=5) ?_ ?_) rfl rfl
 ·unfold aqd;refine lA (fk (n:=1+4) (a:=some (.int (AM i) s.toks)) (cI (WD i t) ?_) (by rw[MA h0 h1]) rfl)
  show ev X (c7 X 3) (call (.builtin "int.__hash__") [.int i t]>>=_) s p=_
  exact fk (cI (WC i t) ko) rfl rfl
 ·show ev X (c7 X 3) (pyHashByItsType.reduced i) _ p=_
  unfold pyHashByItsType.reduced;have e:(decide (-(2^63:Int)<=i)&&decide (i<2^63))=true:=by
   rw[cz,decide_eq_true_eq,decide_eq_true_eq];constructor<;>lia
  rw[e];have e2:(i==-1)=false:=by rw[beq_eq_false_iff_ne];exact L6 h0
  simp only[if_true,e2]
  rfl
end
structure de where
 i:Int
 x:ai
noncomputable def iF(q:aC)(it:de):bo ac×bo ac:=(mkInt it.i,do let y <-E7 it.x;gv q;pure y)
noncomputable def rB(it:de)(t:Nat):dU:=⟨it.i,.int it.i t,.str it.x (t+1)⟩
noncomputable def cE(st:Nat):List de->Nat->List dU
 | [],_=>[]
 | it::l,t=>rB it t::cE st l (t+st)
noncomputable def jl(lo:Int):List de->Bool
 | []=>true
 | it::l=>decide (lo<it.i)&&decide (it.i<2^61-1)&&jl it.i l
noncomputable def vz(lo:Int):List de->Int
 | []=>lo
 | it::l=>vz it.i l
theorem vA{lo:Int}{it:de}{l:List de}(h:jl lo (it::l)=true):lo<it.i/\it.i<2^61-1/\jl it.i l=true:=by
 unfold jl at h;rw[cz,cz,decide_eq_true_eq,decide_eq_true_eq]at h;exact⟨h.1.1,h.1.2,h.2⟩
theorem yb(st:Nat)(l:List de):∀t:Nat,(cE st l t).length=l.length:=by
 induction l with
 | nil=>exactλ_=>rfl
 | cons it l ih=>exactλ_=>congrArg (·+1) (ih _)
theorem AN{l:List de}:∀{lo:Int},jl lo l=true->lo<=vz lo l:=by
 induction l with
 | nil=>exactλ_=>LC _
 | cons it l ih=>exactλh=>bP (vA h) λa _ c=>nG (AF a (ih c))
theorem AO(st:Nat){l:List de}:∀{lo:Int} {t:Nat},jl lo l=true->∀e∈cE st l t,lo<e.hash/\e.hash<=vz lo l:=by
 induction l with
 | nil=>exactλ_ _ he=>nomatch he
 | cons it l ih=>exactλh e he=>bP (vA h) λa _ c=>(cW.mp he).elim (λq=>q▸⟨a,AN c⟩) λq=>xA (ih c e q) λx y=>⟨Int.lt_trans a x,y⟩
section
variable {X:Ctx}{r:rA}{L:List aT}{k a d o:Nat}{es fs:List dU}{ep eo:Nat}{p q:aC}
theorem F9{b:aT}(h:L[d]?=some b):L.set d b=L:=by
 apply aqR;intro i;rw[U']
 by_cases e:d=i
 ·subst e;rw[if_pos rfl,if_pos (gW.mp h).1,h]
 ·rw[if_neg e]
theorem get_set{b c:aT}(h:L[d]?=some b):(L.set d c)[d]?=some c:=aqU (gW.mp h).1
theorem WF{b c:aT}(h:L[o]?=some b)(hn:d≠o):(L.set d c)[o]?=some b:=by rw[U',if_neg hn,h]
theorem MB{i:Int}{t:Nat}{v:ac}(hX:jk X d=true)(hd:L[d]?=some (bZ es ep))(h0:0<=i)(h1:i<2^61-1)(hn:∀e∈es,e.hash≠i)(hs:es.length<gI) :
  ev X (c7 X 3) (EY d (.int i t) v) (bQ r L k) p=some ((),bQ r (L.set d (bZ (es++[⟨i,.int i t,v⟩]) (ep+1))) (k+1),p,10):=by
 refine lA (fk (m:=5+5) (cI (WE h0 h1) ?_) rfl rfl);refine lA (fk (m:=1+4) (cI (My hd hn) ?_) rfl rfl);refine fk (m:=1+3) (cI (a:=()) (s1:=bQ r L (k+1)) (p1:=p) (n:=1) rfl (Mx hX hd hs)) rfl rfl
theorem MC(it:de):ev X (c7 X 3) (iF q it).1 (bQ r L k) p=some (.int it.i k,bQ r L (k+1),p,1):=rfl
theorem MD(it:de):ev X (c7 X 3) (iF q it).2 (bQ r L k) p=some (.str it.x k,bQ r L (k+1),q,2):=rfl
theorem WG(hX:jk X d=true):∀(l:List de) {L:List aT} {es:List dU} {ep k:Nat} {lo:Int} {p:aC},jl lo l=true->0<=lo->(∀e∈es,e.hash<=lo)->L[d]?=some (bZ es ep)->es.length+l.length<gI->(l=[]->p=q) ->
  ev X (c7 X 3) (forIn (l.map (iF q)) gX fun(x:bo ac×bo ac) (_:PUnit)=>(do
    let kv <-x.1
    let vv <-holding [kv] x.2
    holding [kv,vv] (EY d kv vv)
    pure (g9 gX):bo (ForInStep PUnit))) (bQ r L k) p
   = some (gX,bQ r (L.set d (bZ (es++cE 3 l k) (ep+l.length))) (k+3*l.length),q,13*l.length):=by
 intro l;induction l with
 | nil=>
  intro L es ep k lo p _ _ _ hd _ hp;rw[hp rfl]
  show some _=_
  simp only[cE,fS,lS,LR,LX];rw[F9 hd]
 | cons it l ih=>
  intro L es ep k lo p jo h0 jG hd hs _;refine bP (vA jo) λa b c=>?_
  have hn:∀e∈es,e.hash≠it.i:=λe he=>by have:=jG e he;exact L5 (LD this a)
  rw[jE,mD];have io:es.length<gI:=by simp only[cH]at hs;exact j1 hs
  have body:ev X (c7 X 3) (do
    let kv <- (iF q it).1
    let vv <-holding [kv] (iF q it).2
    holding [kv,vv] (EY d kv vv)
    pure (g9 gX):bo (ForInStep PUnit)) (bQ r L k) p=some (g9 gX,bQ r (L.set d (bZ (es++[rB it k]) (ep+1))) (k+3),q,13):=by
   refine fk (m:=1+(2+(10+0))) (cI (MC it) (cI (lA (MD it)) (cI (lA (MB hX hd (by exact AE h0 a) b hn io)) ko))) rfl rfl
  refine fk (n:=13+13*l.length) (cI body ?_) rfl (by exact ab (cH) (jh _ _));have ih:=ih (L:=L.set d (bZ (es++[rB it k]) (ep+1))) (es:=es++[rB it k]) (ep:=ep+1) (k:=k+3) (p:=q) c (by exact AE h0 a) (λe he=>by
   rcases dc.mp he with y|y
   ·have:=jG e y;exact xU (nG a) this
   ·exact ab (cO.mp y) (LC _)) (get_set hd) (by simp only[cS,cH,lS]at hs ⊢;exact pX hs) (λ_z=>rfl)
  rw[ih];rw[LN];simp only[cE,gJ,LP,cH];rw[show ep+1+l.length=ep+(l.length+1) from FH,show k+3+3*l.length=k+3*(l.length+1) from VN]
theorem ME{ob:aT}:ev X (c7 X 3) (alloc ob) (bQ r L k) p=some (L.length,bQ r (L++[ob]) k,p,1):=by
 have e:(im L).push ob=⟨L++[ob]⟩:=vh.mp (by simp)
 show some ((im L).size,(⟨⟨(im L).push ob,r.lf⟩,r.gens,r.drawn,k,r.os⟩:ak),p,1)=some (L.length,(⟨⟨⟨L++[ob]⟩,r.lf⟩,r.gens,r.drawn,k,r.os⟩:ak),p,1)
 refine ab (e) ?_
 rfl
theorem Ga{b c:aT}:(L++[b]).set L.length c=L++[c]:=by
 rw[List.set_append_right _ _ (dr _),Nat.sub_self]
 rfl
theorem AP{b:aT}:(L++[b])[L.length]?=some b:=by simp
theorem MF(hX:fT X.n₀ L.length=true){l:List de}(hl:15<l.length)(hs:l.length<gI){lo:Int}(h0:0<=lo)(jo:jl lo l=true) :
  ev X (c7 X 3) (Fa (l.map (iF q))) (bQ r L k) p=some (L.length,bQ r (L++[bZ (cE 3 l k) l.length]) (k+3*l.length),q,13*l.length+2):=by
 have yc:jk X L.length=true:=by unfold jk;rw[hX];rfl
 refine fk (n:=1+(1+(13*l.length+0)+0)) (cI ME (cI (a:=()) (lA ?_) ko)) rfl VQ;rw[if_neg (by rw[cK];exact Nat.not_le_of_lt hl)];refine cI (a:=()) (s1:=bQ r (L++[bZ [] 0]) k) (p1:=p) (n:=1) rfl ?_
 have:=WG (q:=q) (r:=r) yc l (L:=L++[bZ [] 0]) (es:=[]) (ep:=0) (k:=k) (lo:=lo) (p:=p) jo h0 (λe he=>nomatch he) AP (by simpa using hs) (λe=>by rw[e]at hl;simp at hl)
 rw[Ga]at this;rw[rt l.length,tA]at this;exact cI this ko
end
noncomputable def AQ:List de->Nat->List (ac×ac)
 | [],_=>[]
 | it::l,t=>(.int it.i t,.str it.x (t+1))::AQ l (t+2)
section
variable {X:Ctx}{r:rA}{L:List aT}{k a d o:Nat}{es fs:List dU}{ep eo:Nat}{p q:aC}
theorem WH(l:List de):∀{k:Nat} {p:aC},(l=[]->p=q)->ev X (c7 X 3) (E2 (l.map (iF q))) (bQ r L k) p=some (AQ l k,bQ r L (k+2*l.length),q,3*l.length):=by
 induction l with
 | nil=>exactλhp=>hp rfl▸rfl
 | cons it l ih=>
  intro k p _
  show ev X (c7 X 3) (E2 (((iF q it).1,(iF q it).2)::l.map (iF q))) (bQ r L k) p=_
  refine fk (n:=1+(2+(3*l.length+0))) (cI (MC it) (cI (lA (MD it)) (cI (lA (ih (λ_z=>rfl))) ?_))) rfl (by exact ab (cH) VS);rw[show k+1+1+2*l.length=k+2*(it::l).length by exact ab (cH) VD]
  rfl
theorem WI(hX:jk X d=true):∀(l:List de) {L:List aT} {es:List dU} {ep k t:Nat} {lo:Int} {p:aC},jl lo l=true->0<=lo->(∀e∈es,e.hash<=lo)->L[d]?=some (bZ es ep)->es.length+l.length<gI ->
  ev X (c7 X 3) (forIn (AQ l t) gX fun(x:ac×ac) (_:PUnit)=>(do
    EY d x.1 x.2
    pure (g9 gX):bo (ForInStep PUnit))) (bQ r L k) p
   = some (gX,bQ r (L.set d (bZ (es++cE 2 l t) (ep+l.length))) (k+l.length),p,10*l.length):=by
 intro l;induction l with
 | nil=>
  intro L es ep k t lo p _ _ _ hd _
  show some _=_
  simp only[cE,fS,lS,LR,LX];rw[F9 hd]
 | cons it l ih=>
  intro L es ep k t lo p jo h0 jG hd hs;refine bP (vA jo) λa b c=>?_
  have hn:∀e∈es,e.hash≠it.i:=λe he=>by have:=jG e he;exact L5 (LD this a)
  show ev X (c7 X 3) (forIn ((Value.int it.i t,Vq it.x (t+1))::AQ l (t+2)) gX _) (bQ r L k) p=_
  rw[mD];have io:es.length<gI:=by simp only[cH]at hs;exact j1 hs
  have body:ev X (c7 X 3) (do
    EY d (.int it.i t) (.str it.x (t+1))
    pure (g9 gX):bo (ForInStep PUnit)) (bQ r L k) p=some (g9 gX,bQ r (L.set d (bZ (es++[rB it t]) (ep+1))) (k+1),p,10):=
   fk (cI (MB hX hd (by exact AE h0 a) b hn io) ko) rfl rfl
  refine fk (n:=10+10*l.length) (cI body ?_) rfl (by exact ab (cH) (jh _ _));have ih:=ih (L:=L.set d (bZ (es++[rB it t]) (ep+1))) (es:=es++[rB it t]) (ep:=ep+1) (k:=k+1) (t:=t+2) (p:=p) c (by exact AE h0 a) (λe he=>by
   rcases dc.mp he with y|y
   ·have:=jG e y;exact xU (nG a) this
   ·exact ab (cO.mp y) (LC _)) (get_set hd) (by simp only[cS,cH,lS]at hs ⊢;exact pX hs)
  rw[ih];rw[LN];simp only[cE,gJ,LP,cH];rw[show ep+1+l.length=ep+(l.length+1) from FH,show k+1+l.length=k+(l.length+1) from FH]
theorem WJ(hX:fT X.n₀ L.length=true){l:List de}(hl:l.length<=15)(eA:l≠[]){lo:Int}(h0:0<=lo)(jo:jl lo l=true) :
  ev X (c7 X 3) (Fa (l.map (iF q))) (bQ r L k) p=some (L.length,bQ r (L++[bZ (cE 2 l k) l.length]) (k+3*l.length),q,13*l.length+1):=by
 have yc:jk X L.length=true:=by unfold jk;rw[hX];rfl
 have hs:l.length<gI:=lW hl (by decide);refine fk (n:=1+((3*l.length+(10*l.length+0))+0)) (cI ME (cI (a:=()) (lA ?_) ko)) rfl VU;refine ab (if_pos (by rw[cK];exact hl)) ?_;refine cI (WH l (λe=>absurd e eA)) (lA ?_)
 have:=WI (r:=r) yc l (L:=L++[bZ [] 0]) (es:=[]) (ep:=0) (k:=k+2*l.length) (t:=k) (lo:=lo) (p:=q) jo h0 (λe he=>nomatch he) AP (by simpa using hs)
 rw[Ga]at this;rw[rt l.length,tA,show k+2*l.length+l.length=k+3*l.length from VW]at this;exact cI this ko
theorem WK(hX:jk X d=true)(tK:d≠o):∀(post:List dU) {pre m:List dU} {L:List aT} {em k:Nat} {p:aC},(∀e∈post,∃i t v,e=⟨i,.int i t,v⟩)->post.Pairwise (λa b=>a.hash<b.hash)->(∀e∈m,∀e'∈post,e.hash<e'.hash) ->
  L[d]?=some (bZ m em)->L[o]?=some (bZ (pre++post) eo)->m.length+post.length<gI ->
  ev X (c7 X 3) (forIn (lU pre.length post.length) gX λi (_:PUnit)=>(do
     let l' <-Lf o
     match l'[i]? with
      | some e=>do
       holding [e.key,e.val] (EX d e.hash e.key e.val)
       let AR <-Lg o
       if(AR !=eo)=true then do
         (unsupported "dict.changed-during-merge": bo PUnit)
         pure (g9 gX)
        else pure (g9 gX)
      | _=>do
       (unsupported "dict.changed-during-merge": bo PUnit)
       pure (g9 gX):bo (ForInStep PUnit))) (bQ r L k) p
   = some (gX,bQ r (L.set d (bZ (m++post) (em+post.length))) k,p,6*post.length):=by
 intro post;induction post with
 | nil=>
  intro pre m L em k p _ _ _ hd _ _
  show some _=_
  simp only[fS,lS,LR,LX];rw[F9 hd]
 | cons e post ih=>
  intro pre m L em k p hi hp hm hd ho hs;refine fZ (hi e bT) λi t v ag=>?_;subst ag
  rw[cH,Av,mD];have io:m.length<gI:=by simp only[cH]at hs;exact j1 hs
  have hg:(im (pre++⟨i,.int i t,v⟩::post))[pre.length]?=some ⟨i,.int i t,v⟩:=by simp
  have hn:∀e'∈m,e'.hash≠i:=λe' he=>aqK (hm e' he _ bT)
  have MG:(L.set d (bZ (m++[⟨i,.int i t,v⟩]) (em+1)))[o]?=some (bZ (pre++⟨i,.int i t,v⟩::post) eo):=WF ho tK;refine fk (n:=6+6*post.length) (cI (a:=g9 gX) (s1:=bQ r (L.set d (bZ (m++[⟨i,.int i t,v⟩]) (em+1))) k) (p1:=p) (n:=6) ?_ ?_) rfl (jh _ _)
  ·refine fk (n:=1+(4+(1+0))) (cI (AL ho) ?_) rfl rfl;refine ab (hg) ?_;refine cI (lA (Wy hX hd hn io)) (cI (Mw MG) ?_);refine ab (if_neg (by simp)) ?_;exact ko
  ·dsimp only;have ih:=ih (pre:=pre++[⟨i,.int i t,v⟩]) (m:=m++[⟨i,.int i t,v⟩]) (L:=L.set d (bZ (m++[⟨i,.int i t,v⟩]) (em+1))) (em:=em+1) (k:=k) (p:=p) (λe he=>hi e (bL _ he)) (xN.mp hp).2
    (λe he e' rC=>by
     rcases dc.mp he with y|y
     ·exact hm e y e' (bL _ rC)
     ·exact ab (cO.mp y) ((xN.mp hp).1 e' rC)) (get_set hd) (by rw[gJ];exact MG) (by simp only[cS,cH,lS]at hs ⊢;exact pX hs)
   rw[cS,List.length_singleton]at ih;rw[ih,LN];simp only[gJ,LP];rw[show em+1+post.length=em+(post.length+1)by exact oY _ _ _]
theorem MH{b:aT}(h:L[a]?=some b)(hl:live b=true):ev X (c7 X 3) (typeOf (.ref a)) (bQ r L k) p=some (b.cls,bQ r L k,p,1):=by
 exact fk (cI (ya h hl) ko) rfl rfl
theorem WL(h:L[o]?=some (bZ es eo)):ev X (c7 X 3) (isInstance (.ref o) (.type "dict")) (bQ r L k) p=some (true,bQ r L k,p,1):=by
 refine fk (n:=1+0) (cI (MH h rfl) ?_) rfl rfl
 show ev X (c7 X 3) (Lj (.type "dict") (.type "dict")) (bQ r L k) p=_
 rw[WB];rfl
theorem WM(hX:jk X d=true)(tK:d≠o)(ph:(o==il)=false){m es:List dU}{em:Nat}(hi:∀e∈es,∃i t v,e=⟨i,.int i t,v⟩)(hp:es.Pairwise (λa b=>a.hash<b.hash))(hm:∀e∈m,∀e'∈es,e.hash<e'.hash)(eA:m≠[])
  (hd:L[d]?=some (bZ m em)) (ho:L[o]?=some (bZ es eo)) (hs:m.length+es.length<gI) :
  ev X (c7 X 3) (E5 d (.ref o) false) (bQ r L k) p=some ((),bQ r (L.set d (bZ (m++es) (em+es.length))) k,p,6*es.length+5):=by
 refine fk (n:=1+(1+(1+(1+(1+(6*es.length+0)))))) (cI (WL ho) ?_) rfl VV;refine ab (if_pos rfl) ?_;refine cI (a:=some (.builtin "dict.__iter__")) (s1:=bQ r L k) (p1:=p) (n:=1) ?_ ?_
 ·refine fk (n:=1+0) (cI (MH ho rfl) ?_) rfl rfl
  show ev X (c7 X 3) (kM (.type "dict") "__iter__") (bQ r L k) p=_
  rw[WA];rfl
 ·rw[show(some (ru "dict.__iter__")==some (ru "dict.__iter__"))=true from beq_self_eq_true _,pure_bind];dsimp only;rw[if_neg (by exact ab (ph) LA)];refine cI (AL hd) ?_;rw[if_neg (by cases m with|nil=>exact absurd rfl eA|cons a b=>simp[UM])];refine cI (AL ho) (cI (Mw ho) ?_)
  have:=WK (X:=X) (r:=r) (o:=o) (eo:=eo) hX tK es (pre:=[]) (m:=m) (L:=L) (em:=em) (k:=k) (p:=p) hi hp hm hd ho hs
  refine ab (arj) ?_;exact cI this ko
end
abbrev tL:=List (bo ac×bo ac)
noncomputable def vB(run:tL)(main:Option al):bo (Option al):=
 if run.isEmpty=true then pure main
 else match main with
  | none=>do
   let s <-Fa run
   pure (some s)
  | some d=>do
   let sub <-holding [pc d] (Fa run)
   (holding [pc d,pc sub] (E5 d (pc sub) false)).onRaise λx=>do
     let _ <-holding [pc d,x] (runValue (Code.builtin "proto.let_go" {}))
     pure ()
   pure (some d)
abbrev Bd:=Option (bo ac)×bo ac->Option al×tL->bo (ForInStep (Option al×tL))
def AS(f:Bd):Prop:=∀k v main run,f (some k,v) (main,run)=if((run++[(k,v)]).length==17)=true then(do let m <-vB (run++[(k,v)]) main;pure (g9 (m,[])))else pure (g9 (main,run++[(k,v)]))
noncomputable def qa(x:bo ac×bo ac):Option (bo ac)×bo ac:=(some x.1,x.2)
def MI(st:Option al×tL):bo ac:=vB st.2 st.1>>=λr=>match r with
 | some d=>pure (.ref d)
 | none=>newDict
theorem MJ{f:Bd}(hf:AS f){main:Option al}{rest:List (Option (bo ac)×bo ac)}:∀(l run:tL),run.length+l.length<17->forIn (l.map qa++rest) (main,run) f=forIn rest (main,run++l) f:=by
 intro l;induction l with
 | nil=>intro run _;rw[fS];rfl
 | cons x l ih=>
  intro run h;rw[jE,Fi,mD]
  show f (some x.1,x.2) (main,run)>>=_=_
  have e:((run++[x]).length==17)=false:=by
   rw[beq_eq_false_iff_ne,cS];simp only[cH,lS]at h ⊢;exact AD (j1 (pX h))
  have hf:=hf x.1 x.2 main run;rw[hf,e,if_neg LA,pure_bind];exact(ih (run++[x]) (by simp only[cS,cH,lS]at h ⊢;exact pX h)).trans (by rw[gJ];rfl)
theorem MK{f:Bd}(hf:AS f){main:Option al}{rest:List (Option (bo ac)×bo ac)}{l:tL}(h:l.length=17):forIn (l.map qa++rest) (main,[]) f=vB l main>>=λm=>forIn rest (m,[]) f:=by
 obtain⟨l0,x,rfl⟩:∃l0 x,l=l0++[x]:=(gK l.dropLast (l.getLast (by intro e;rw[e]at h;cases h)) ((List.dropLast_concat_getLast _).symm));have h0:l0.length=16:=by simpa using h
 rw[mE,gJ,MJ hf l0 [] (by simp[h0]),tA];obtain⟨k,v⟩:=x
 show forIn ((some k,v)::rest) (main,l0) f=_
 rw[mD,hf,if_pos (by rw[h];rfl),bind_assoc]
 rfl
noncomputable def tM:List (List de)->Nat->List aT
 | [],_=>[]
 | g::gs,k=>bZ (cE 3 g k) g.length::tM gs (k+3*g.length)
theorem ML(st:Nat)(a b:List de):∀t:Nat,cE st (a++b) t=cE st a t++cE st b (t+st*a.length):=by
 induction a with
 | nil=>exactλ_=>rfl
 | cons x a ih=>exactλt=>congrArg (rB x t::·) ((ih _).trans (congrArg (λn=>cE st a (t+st)++cE st b n) VX))
theorem MM{a b:List de}:∀{lo:Int},jl lo (a++b)=true->jl lo a=true/\jl (vz lo a) b=true:=by
 induction a with
 | nil=>exactλh=>⟨rfl,h⟩
 | cons x a ih=>exact fun{lo} h=>bP (vA (show jl lo (x::(a++b))=true from h)) λh1 h2 h3=>xA (ih h3) λh4 h5=>⟨(cz _ _).mpr ⟨(cz _ _).mpr ⟨decide_eq_true h1,decide_eq_true h2⟩,h4⟩,h5⟩
theorem WN(st:Nat){l:List de}:∀{lo:Int} {t:Nat},jl lo l=true->(cE st l t).Pairwise (λa b=>a.hash<b.hash):=by
 induction l with
 | nil=>exactλ_=>.nil
 | cons it l ih=>exactλh=>bP (vA h) λ_ _ c=>.cons (λe he=>(AO st c e he).1) (ih c)
theorem WO(st:Nat){l:List de}:∀{t:Nat},∀e∈cE st l t,∃i t v,e=⟨i,.int i t,v⟩:=by
 induction l with
 | nil=>intro t e he;cases he
 | cons it l ih=>
  intro t e he;rcases cW.mp he with q|q
  ·exact(FS _ _ _ q)
  ·exact ih e q
section
variable {X:Ctx}{r:rA}{L:List aT}{k a d o:Nat}{es fs:List dU}{ep eo:Nat}{p q:aC}
theorem MN{b:aT}{M:List aT}(h:d<L.length):(L++M).set d b=L.set d b++M:=List.set_append_left _ _ h
theorem MO(hX:jk X d=true){l:List de}{st n:Nat}{m:List dU}{em:Nat}{lo:Int}(eA:l≠[])(hm:m≠[])(hd:L[d]?=some (bZ m em))(ph:il<L.length)(jo:jl lo l=true)(jG:∀e∈m,e.hash<=lo)(hs:m.length+l.length<gI)
  (yd:ev X (c7 X 3) (Fa (l.map (iF q))) (bQ r L k) q=some (L.length,bQ r (L++[bZ (cE st l k) l.length]) (k+3*l.length),q,n)) :
  ev X (c7 X 3) (vB (l.map (iF q)) (some d)) (bQ r L k) q=some (some d,bQ r (L.set d (bZ (m++cE st l k) (em+l.length))++[bZ (cE st l k) l.length]) (k+3*l.length),q,n+(6*l.length+5)):=by
 have fB:=(gW.mp hd).1;unfold vB;rw[if_neg (by cases l with|nil=>exact absurd rfl eA|cons a b=>simp)];refine fk (n:=n+(6*l.length+5+0)) (cI (lA yd) (cI (a:=()) (Wv (lA ?_)) ko)) rfl rfl
 have:=WM (X:=X) (r:=r) (L:=L++[bZ (cE st l k) l.length]) (k:=k+3*l.length) (o:=L.length) (eo:=l.length) (p:=q) (m:=m) (es:=cE st l k) (em:=em) hX (rq fB) (beq_eq_false_iff_ne.mpr (Nat.ne_of_gt ph)) (WO st) (WN st jo)
  (λe he e' rC=>by have:=jG e he;have:=(AO st jo e' rC).1;lia) hm (by exact ab (pQ fB) hd) AP (by rw[yb];exact hs)
 rw[yb,MN fB]at this;exact this
theorem Gb(l:List de):l.map (λit=>qa (iF q it))=(l.map (iF q)).map qa:=by rw[kO];rfl
theorem WP{f:Bd}(hf:AS f)(hX:jk X d=true){last:List de}(Gc:last.length<=15)(AT:last≠[]):∀(gs:List (List de)) {L:List aT} {m:List dU} {em k:Nat} {lo:Int},(∀g∈gs,g.length=17)->jl lo (gs.flatten++last)=true->0<=lo->(∀e∈m,e.hash<=lo)->m≠[] ->
  L[d]?=some (bZ m em)->fT X.n₀ L.length=true->il<L.length->m.length+(gs.flatten.length+last.length)<gI ->
  ev X (c7 X 3) (forIn ((gs.flatten++last).map λit=>qa (iF q it)) (some d,[]) f>>=MI) (bQ r L k) q
   = some (.ref d,bQ r (L.set d (bZ (m++(cE 3 gs.flatten k++cE 2 last (k+3*gs.flatten.length))) (em+(gs.flatten.length+last.length)))++(tM gs k++[bZ (cE 2 last (k+3*gs.flatten.length)) last.length])) (k+3*(gs.flatten.length+last.length)),q,330*gs.length+(19*last.length+6)):=by
 intro gs;induction gs with
 | nil=>
  intro L m em k lo _ jo h0 jG hm hd hn ph hs;simp only[aqS,tA,cE,lS,LX,LR,rt,tM]at hs jo ⊢;rw[Gb];have e:=MJ (main:=some d) (rest:=[]) hf (last.map (iF q)) [] (by rw[cK];simp;lia);rw[fS,tA]at e;rw[e,U7,pure_bind];refine fk (n:=(13*last.length+1+(6*last.length+5))+0) (cI (MO hX AT hm hd ph jo jG hs (WJ hn Gc AT h0 jo)) ?_) rfl VY;exact ko
 | cons g gs ih=>
  intro L m em k lo hg jo h0 jG hm hd hn ph hs;have fB:=(gW.mp hd).1;have mQ:=hg g bT;have Gd:g≠[]:=λe=>by rw[e]at mQ;cases mQ
  rw[As,gJ]at jo;refine xA (MM jo) λs1 s2=>?_
  rw[As,cS]at hs;rw[As,gJ,mE,Gb g,MK hf (by rw[cK];exact mQ),bind_assoc];refine fk (n:=((13*g.length+2)+(6*g.length+5))+(330*gs.length+(19*last.length+6))) (cI (MO hX Gd hm hd ph s1 jG (j1 (tF FG hs)) (MF hn (xT mQ (by decide)) (j1 (j1 (L0 hs))) h0 s1)) ?_) rfl (by exact ab (cH) (VZ mQ));have ih:=ih (L:=L.set d (bZ (m++cE 3 g k) (em+g.length))++[bZ (cE 3 g k) g.length]) (m:=m++cE 3 g k) (em:=em+g.length) (k:=k+3*g.length) (lo:=vz lo g) (λx hx=>hg x (bL _ hx)) s2 (by have:=AN s1;exact xU this h0)
   (λe he=>by
    rcases dc.mp he with y|y
    ·have:=jG e y;have:=AN s1;lia
    ·exact(AO 3 s1 e y).2) (λe=>hm (U0.mp e).1) (by exact ab (pQ (by exact ab (LI) fB)) (get_set hd)) (by rw[cS,LI];exact cZ (dG (bF hn) (mG _ _))) (by rw[cS,LI];exact km ph (mG _ _)) (by rw[cS,yb];exact tF FG hs)
  refine ab (ih) ?_;have e1:(L.set d (bZ (m++cE 3 g k) (em+g.length))++[bZ (cE 3 g k) g.length]).set d (bZ (m++cE 3 g k++(cE 3 gs.flatten (k+3*g.length)++cE 2 last (k+3*g.length+3*gs.flatten.length))) (em+g.length+(gs.flatten.length+last.length)))
    = L.set d (bZ (m++(cE 3 (g++gs.flatten) k++cE 2 last (k+3*(g++gs.flatten).length))) (em+((g++gs.flatten).length+last.length)))++[bZ (cE 3 g k) g.length]:=by
   rw[MN (by exact ab (LI) fB),LN,ML,cS];rw[show k+3*g.length+3*gs.flatten.length=k+3*(g.length+gs.flatten.length)by exact AG,show em+g.length+(gs.flatten.length+last.length)=em+(g.length+gs.flatten.length+last.length)by exact FG];simp only[gJ]
  rw[e1,gJ];simp only[tM,cS,LP,Fi,tA];rw[show k+3*g.length+3*(gs.flatten.length+last.length)=k+3*(g.length+gs.flatten.length+last.length) from V5,show k+3*g.length+3*gs.flatten.length=k+3*(g.length+gs.flatten.length)by exact AG]
theorem WQ(hn:fT X.n₀ L.length=true)(ph:il<L.length){g:List de}{gs:List (List de)}{last:List de}(Gc:last.length<=15)(AT:last≠[])(mQ:g.length=17)(hg:∀x∈gs,x.length=17)(jo:jl 0 (g++(gs.flatten++last))=true)(hs:g.length+(gs.flatten.length+last.length)<gI) :
  ev X (c7 X 3) (EW ((g++(gs.flatten++last)).map λit=>qa (iF q it))) (bQ r L k) q
   = some (.ref L.length,bQ r (L++bZ (cE 3 (g++gs.flatten) k++cE 2 last (k+3*(g.length+gs.flatten.length))) (g.length+(gs.flatten.length+last.length))::(tM gs (k+3*g.length)++[bZ (cE 2 last (k+3*(g.length+gs.flatten.length))) last.length])) (k+3*(g.length+(gs.flatten.length+last.length))),q,223+(330*gs.length+(19*last.length+6))):=by
 have yc:jk X L.length=true:=by unfold jk;rw[hn];rfl
 have Gd:g≠[]:=λe=>by rw[e]at mQ;cases mQ
 refine xA (MM jo) λs1 s2=>?_
 unfold EW;dsimp only;rw[mE,Gb g]
 generalize hF:(fun(x:Option (bo ac)×bo ac) (__s:Option al×tL)=>_)=F
 have hf:AS F:=by
  rw[<-hF];intro k v main run
  rfl
 show ev X (c7 X 3) (forIn ((g.map (iF q)).map qa++(gs.flatten++last).map λit=>qa (iF q it)) (none,[]) F>>=MI) (bQ r L k) q=_
 rw[MK hf (by rw[cK];exact mQ),bind_assoc];refine fk (n:=(13*g.length+2+0)+(330*gs.length+(19*last.length+6))) (cI (a:=some L.length) (s1:=bQ r (L++[bZ (cE 3 g k) g.length]) (k+3*g.length)) (p1:=q) ?_ ?_) rfl (by rw[mQ])
 ·unfold vB;rw[if_neg (by cases g with|nil=>exact absurd rfl Gd|cons a b=>simp)];exact cI (MF hn (xT mQ (by decide)) (j1 hs) (LC 0) s1) ko
 ·have ih:=WP (q:=q) (r:=r) hf yc Gc AT gs (L:=L++[bZ (cE 3 g k) g.length]) (m:=cE 3 g k) (em:=g.length) (k:=k+3*g.length) (lo:=vz 0 g) hg s2 (AN s1) (λe he=>(AO 3 s1 e he).2) (λe=>by have:=yb 3 g k;rw[e,mQ]at this;cases this) AP
   (by exact ab (cS) (cZ (dG (bF hn) (mG _ _)))) (by exact ab (cS) (km ph (mG _ _))) (by rw[yb];omega)
  rw[ih,Ga,ML,gJ,gJ];rw[show k+3*g.length+3*gs.flatten.length=k+3*(g.length+gs.flatten.length)by exact AG,show k+3*g.length+3*(gs.flatten.length+last.length)=k+3*(g.length+(gs.flatten.length+last.length))by exact AG]
  rfl
end
end Internal.Hd
namespace Internal.Hd
noncomputable section
open PySem PySem.W PyProof.Rows
abbrev AU:=PySem.W.Fast.tw10110043849684766642
abbrev AV:=PySem.W.Fast.tw14364793385576792824
abbrev Ge:=PySem.W.Fast.tw12563942051412417395
noncomputable def Gf:List aT->List aT
 | []=>[]
 | [a]=>[a]
 | a::_::l=>a::Gf l
noncomputable def Gg:Nat->List aT->BT
 | 0,_=>.nil
 | n+1,l=>match l with
  | []=>.nil
  | o::r=>.node o (Gg n (Gf r)) (Gg n (Gf r.tail))
theorem ye{p:iS}{w:bD}{n₀:Nat}{ann:Option ac}{d:Nat}{l:List bS}{env:bd}{cd:nB}{q:aC}{s s':ak}{p0 p':aC}{n:Nat}(h:ev ⟨p,w,n₀,ann⟩ (c7 ⟨p,w,n₀,ann⟩ d) (execs l env) s p0=some (.next,s',p',n)) :
  Lo lp p w n₀ ann 1 (n+1) s (Ln l env cd p0 [lQ q])=some (.next,s',cd,p'):=by
 have:=Mt (Wr (X:=⟨p,w,n₀,ann⟩) d) (K:=Ah) (H:=EV) (gd:=id) (lv:=id) (c:=cd) (fr:=lQ q) (B:=[]) (execs l env) s p0 n h
 exact seg_go (N:=1) this (by unfold Lo;rfl)
theorem MP{p:iS}{w:bD}{n₀:Nat}{ann:Option ac}{n:Nat}{l:List bS}{env:bd}{cd:nB}{q:aC}{S:K6}{p0:aC}{r:Option (xu×K6×nB×aC)}(h:AU AV p w n₀ ann 1 n S ⟨(Ge l env).wrap Ah EV id id,cd,p0,[lQ q]⟩=r) :
  segRunT lp p w n₀ ann 1 n S (Ln l env cd p0 [lQ q])=r:=by
 rw[PySem.W.Fast.te10110043849684766642,PySem.W.Fast.te14364793385576792824]
 show AU AV p w n₀ ann 1 n S ⟨(execs l env).wrap Ah EV id id,cd,p0,[lQ q]⟩=r
 rw[PySem.W.Fast.te12563942051412417395];exact h
theorem MQ{p:iS}{w:bD}{n₀:Nat}{ann:Option ac}{n:Nat}{l:List bS}{env:bd}{cd:nB}{q:aC}{S S':K6}{p0 p':aC}(h:segRunT lp p w n₀ ann 1 n S (Ln l env cd p0 [lQ q])=some (.next,S',cd,p')) :
  Lo lp p w n₀ ann 1 n S.abs (Ln l env cd p0 [lQ q])=some (.next,S'.abs,cd,p'):=segRun_of h
end
end Internal.Hd
namespace Internal.L2
open PySem PySem.W PyProof.Rows
noncomputable def aN:List bS:=PySem.Challenge.pw_tc0089_01.main.body
noncomputable def ay:List bS->Nat->bS
 | [],_=>.Pass ⟨0,0,0,0⟩
 | x::l,k=>match k with|0=>x|k+1=>ay l k
noncomputable def AW(s:bS):List bS×dQ×rh:=match s with
 | .FunctionDef _ a b _ _ _ s _ _ _=>(b,s,a)
 | .ClassDef _ _ _ b _ _ _ _ _ _ _=>(b,⟨.function,[],false,false,[]⟩,⟨[],[],none,[],[],none,[]⟩)
 | _=>([],⟨.function,[],false,false,[]⟩,⟨[],[],none,[],[],none,[]⟩)
def cq(s:bS):List bS:=(AW s).1
def fM(s:bS):dQ:=(AW s).2.1
def AX(s:bS):rh:=(AW s).2.2
def eS(s:bS):List bS:=(AW s).1
noncomputable def yf{α:Type}(n:Nat):List (Nat×α)->Option α
 | []=>none
 | (k,v)::l=>match aG n k with|true=>some v|false=>yf n l
end Internal.L2
namespace Internal.Hd
noncomputable section
open PySem PySem.W PyProof.Rows Internal.L2
noncomputable def fm:iS:=PySem.Challenge.pw_tc0089_01
noncomputable def gZ:aC:=⟨0,0,0,0⟩
def b3:bS:=ay (xw fm) 6
noncomputable def MR(e:ar):Const:=match e with|.Constant c _ _=>c|_=>.none
def Gh(e:ar):List (Option ar)×List ar×aC:=match e with|.Dict ks vs p=>(ks,vs,p)|_=>([],[],gZ)
def Gi(e:bS):ar:=match e with|.Assign _ v _=>v|_=>.Dict [] [] gZ
def dk(s:bS):List (Option ar):=(Gh (Gi s)).1
def dv(s:bS):List ar:=(Gh (Gi s)).2.1
def dp(s:bS):aC:=(Gh (Gi s)).2.2
noncomputable def Gj:List (Option ar)->List ar->List de
 | some k::ks,v::vs=>(match MR k,MR v with
  | .int i,.str x=>⟨i,x⟩::Gj ks vs
  | _,_=>Gj ks vs)
 | _,_=>[]
def vC:List de:=Gj (dk b3) (dv b3)
noncomputable def WR:List (Nat×List Nat):=vC.map λit=>(it.i.toNat,it.x.cps.toList)
end
end Internal.Hd
namespace Internal
open PySem
inductive At where
 | c (n:Nat)
 | v (i j k:Nat)
 | s (i j k:Nat)
abbrev Tx:=List At
structure Th where
 v:Nat->Nat->Nat->Nat
 s:Nat->Nat->Nat->List Nat
noncomputable def At.den(θ:Th):At->List Nat
 | .c n=>[n]
 | .v i j k=>[θ.v i j k]
 | .s i j k=>θ.s i j k
noncomputable def den(θ:Th):Tx->List Nat
 | []=>[]
 | a::x=>a.den θ++den θ x
def aL(θ:Th)(x:Tx):ai:=⟨(den θ x).toArray⟩
noncomputable def At.eq(a:At)(b:At):Bool:=match a with
 | .c a=>(match b with|.c b=>aG a b|_=>false)
 | .v i j k=>(match b with|.v i' j' k'=>aG i i'&&(aG j j'&&aG k k')|_=>false)
 | .s i j k=>(match b with|.s i' j' k'=>aG i i'&&(aG j j'&&aG k k')|_=>false)
noncomputable def cX:Bool->Bool
 | true=>false
 | false=>true
noncomputable def tN:Bool->Bool->Bool
 | true,b=>b
 | false,true=>false
 | false,false=>true
noncomputable def At.one:At->Bool
 | .s _ _ _=>false
 | _=>true
noncomputable def ao:List Nat->Tx
 | []=>[]
 | n::r=>.c n::ao r
noncomputable def bw:List Nat->List Nat->Bool
 | [],y=>y.isEmpty
 | a::x,y=>match y with|[]=>false|b::y=>aG a b&&bw x y
inductive V where
 | none|bool (b:Bool)|int (i:Int)|str (x:Tx)
 | tup (l:List V)
 | fl (l:List V)
 | fd (l:List (Tx×V))
 | loc (n:Nat)|bh (g:Nat)
 | ins (l:List (Tx×V))
 | raw (x:ai) (t:Tok)
inductive Kd where
 | fn (id:Nat) (caps:List V)
 | ins
inductive O where
 | list (l:List V)
 | dict (l:List (Tx×V))
 | ob (k:Kd) (d:Option Nat)
 | at_ (l:List (Tx×V))
structure St where
 l:List O
 n:Nat
noncomputable def yg:List O->Nat->Option O
 | [],_=>none
 | o::l,k=>match k with|0=>some o|k+1=>yg l k
noncomputable def AY:List O->Nat->O->List O
 | [],_,_=>[]
 | o::l,k,x=>match k with|0=>x::l|k+1=>o::AY l k x
def St.get(st:St)(i:Nat):Option O:=match aH i st.n with|true=>yg st.l (st.n-1-i)|false=>none
def St.set(st:St)(i:Nat)(o:O):St:=⟨AY st.l (st.n-1-i) o,st.n⟩
noncomputable def St.push(st:St)(o:O):St:=⟨o::st.l,st.n+1⟩
noncomputable def dm:St:=⟨[],0⟩
inductive jH where|add|sub|mul|fdiv|mod|pow
inductive lB where|eq|lt|le|gt|ge|is|pi|isin
inductive Bi where|len|tO|min2|yh|max2|chr|ord|sorted
inductive Tg where
 | loc (i:Nat)
 | bi (i:Nat)
 | fin (i:Nat)
 | tup (l:List Tg)
inductive Fl where
 | next|brk|ret (v:V)
structure Fr where
 L:List (Option V)
 C:List (Option V)
abbrev bb:=V->List V->St->Option (V×St)
abbrev Cd:=bb->Fr->St->Option (V×St)
abbrev Ct:=bb->Fr->St->Option (Bool×St)
abbrev Cs:=bb->Fr->St->Option (Fl×Fr×St)
inductive Src where
 | lst (n:Nat)
 | vals (l:List V)
abbrev Ci:=bb->Fr->St->Option (Src×St)
structure FI where
 params:List Tg
 nl:Nat
 nc:Nat
 body:Cs
 alone:Bool
 tail:Cs
structure Tb where
 l9:List Nat->Option Nat
 vD:List Nat->Option Tx
 mR:List Nat->Bool
 cls:Nat
 init:Nat
 b1:Int->Bool
 b3:Int->Option (List Nat)
 ne:At->At->Bool
 AZ:Nat->At->Bool
 lt:Tx->Tx->Bool
structure Fs where
 fn:Nat->Option FI
 lm:Nat->Option FI
 kw:Nat->Option (List Nat×FI)
noncomputable def bv{γ:Type}(b:Bool)(o:Option γ):Option γ:=match b with|true=>o|false=>none
noncomputable def af{α γ:Type}(o:Option α)(f:α->Option γ):Option γ:=match o with|some a=>f a|none=>none
noncomputable def rD(b:Bool):Option Bool:=match b with|true=>some false|false=>none
noncomputable def jI(T:Tb):Tx->Tx->Option Bool
 | [],y=>(match y with|[]=>some true|b::_=>rD b.one)
 | a::x,y=>match y with
  | []=>rD a.one
  | b::y=>match a.eq b with
   | true=>jI T x y
   | false=>rD (T.ne a b)
noncomputable def Gk:Tx->Option Nat
 | []=>some 0
 | a::x=>bv a.one (af (Gk x) λn=>some (n+1))
noncomputable def WS(a:At):Option Nat:=match a with|.c n=>some n|_=>none
noncomputable def dw:Tx->Option (List Nat)
 | []=>some []
 | a::r=>af (WS a) λn=>af (dw r) λl=>some (n::l)
noncomputable def tP:Tx->Option (List V)
 | []=>some []
 | a::x=>bv a.one (af (tP x) λl=>some (.str [a]::l))
noncomputable def lC(x:Tx):Bool:=aH x.length 4000
def mS(x:Tx):Option V:=match lC x with|true=>some (.str x)|false=>none
noncomputable def kS(i:Int):Bool:=match i with|.ofNat n=>aH n 1606938044258990275541962092341162602522202993782792835301376|.negSucc n=>aH n 1606938044258990275541962092341162602522202993782792835301376
def j4(i:Int):Option V:=match kS i with|true=>some (.int i)|false=>none
noncomputable def dZ(l:List V):Bool:=aH l.length 4000
def jJ(l:List V):Option V:=match dZ l with|true=>some (.fl l)|false=>none
noncomputable def eB(r:Option V)(st:St):Option (V×St):=match r with|some v=>some (v,st)|none=>none
def rF(m:Bool)(l:List V)(st:St):Option (V×St):=match dZ l with
 | true=>(match m with|true=>some (.loc st.n,st.push (.list l))|false=>some (.fl l,st))
 | false=>none
noncomputable def rep{α:Type}:Nat->List α->List α
 | 0,_=>[]
 | n+1,l=>l++rep n l
noncomputable def jK(i:Int):Nat:=match i with|.ofNat n=>n|.negSucc _=>0
noncomputable def A0(o:O):Option (List V):=match o with|.list l=>some l|_=>none
def St.lst(st:St)(n:Nat):Option (List V):=af (st.get n) A0
noncomputable def WT(o:O):Option (List (Tx×V)):=match o with|.dict l=>some l|_=>none
def St.dct(st:St)(n:Nat):Option (List (Tx×V)):=af (st.get n) WT
noncomputable def WU(o:O):Option (Kd×Option Nat):=match o with|.ob k d=>some (k,d)|_=>none
def St.ob(st:St)(n:Nat):Option (Kd×Option Nat):=af (st.get n) WU
noncomputable def WV(o:O):Option (List (Tx×V)):=match o with|.at_ l=>some l|_=>none
def St.tQ(st:St)(d:Option Nat):Option (List (Tx×V)):=af d λj=>af (st.get j) WV
noncomputable def gN(a:V)(st:St):Option (List V):=match a with
 | .fl l=>some l
 | .loc n=>st.lst n
 | _=>none
noncomputable def vE(a:V)(st:St):Option (List (Tx×V)):=match a with
 | .fd l=>some l
 | .loc n=>st.dct n
 | _=>none
def qb(a:V)(st:St):Option (List V):=match a with
 | .tup l=>some l
 | a=>gN a st
def A1(l:List V):Option Bool:=match dZ l with
 | true=>some (match l with|[]=>false|_=>true)
 | false=>none
def MS(x:Tx):Option Bool:=match lC x with
 | true=>(match x with|[]=>some false|a::_=>match a.one with|true=>some true|false=>none)
 | false=>none
def Gl(st:St)(v:V):Option Bool:=match v with
 | .none=>some false
 | .bool b=>some b
 | .int i=>some (match i with|.ofNat 0=>false|_=>true)
 | .str x=>MS x
 | .tup l=>A1 l
 | v=>(match gN v st with|some l=>A1 l|none=>none)
def Gm(a b:V)(st:St):Option V:=match gN a st,gN b st with
 | some l,some m=>jJ (l++m)
 | _,_=>none
def MT(x y:Int):Option V:=match x with
 | .ofNat m=>(match y with
  | .ofNat n=>bv (fT 2 m&&aH m 1000&&aH n 20) (some (.int (aZ (m^n))))
  | _=>none)
 | _=>none
def nz(y:Int):Bool:=match y with|.ofNat n=>cX (aG n 0)|.negSucc _=>true
def intOp(op:jH)(x y:Int):Option V:=match op with
 | .add=>j4 (x+y)
 | .sub=>j4 (x-y)
 | .mul=>bv (kS x&&kS y) (j4 (x*y))
 | .fdiv=>bv (nz y&&kS y) (j4 (Int.fdiv x y))
 | .mod=>bv (nz y&&kS y) (some (.int (vj x y)))
 | .pow=>MT x y
def MU(x:Tx)(y:Int):Option V:=match y with
 | .ofNat n=>bv (aH n 100&&lC x) (mS (rep n x))
 | _=>none
noncomputable def MW(op:jH)(a:Option V):Option V:=match op with|.add=>a|_=>none
def WW(op:jH)(x:Tx)(b:V):Option V:=match b with
 | .str y=>MW op (mS (x++y))
 | .int y=>(match op with|.mul=>MU x y|_=>none)
 | _=>none
def MX(op:jH)(l:List V)(b:V):Option V:=match op with
 | .mul=>(match b with|.int y=>(match y with|.ofNat n=>bv (aH n 4000&&aH (l.length*n) 4000) (some (.fl (rep n l)))|_=>none)|_=>none)
 | _=>none
def MY(op:jH)(a b:V):Option V:=match a with|.fl l=>MX op l b|_=>none
def MZ(op:jH)(a b:V)(st:St):Option V:=match op with|.add=>Gm a b st|op=>MY op a b
def mT(op:jH)(a b:V)(st:St):Option V:=match a with
 | .int x=>(match b with|.int y=>intOp op x y|_=>none)
 | .str x=>WW op x b
 | a=>MZ op a b st
noncomputable def ma(f:V->V->Option Bool):List V->List V->Option Bool
 | [],_=>some true
 | x::l,m=>match m with
  | []=>some true
  | y::m=>af (f x y) λa=>af (ma f l m) λb=>some (a&&b)
noncomputable def pj(T:Tb)(x:Tx):List (Tx×V)->Option (Option V)
 | []=>some none
 | e::r=>af (jI T e.1 x) λb=>match b with|true=>some (some e.2)|false=>pj T x r
noncomputable def pk(T:Tb)(x:Tx)(v:V):List (Tx×V)->Option (List (Tx×V))
 | []=>some [(x,v)]
 | e::r=>af (jI T e.1 x) λb=>match b with|true=>some ((e.1,v)::r)|false=>af (pk T x v r) λr'=>some (e::r')
def Gn(f:V->V->Option Bool)(l m:List V):Option Bool:=match aG l.length m.length with|true=>ma f l m|false=>some false
def Go(f:V->V->Option Bool)(l m:List V):Option Bool:=af (ma f l m) λa=>some (a&&aG l.length m.length)
def rG(st:St)(f:V->V->Option Bool)(a b:V):Option Bool:=af (gN a st) λl=>af (gN b st) λm=>Gn f l m
noncomputable def rH(T:Tb)(f:V->V->Option Bool):List (Tx×V)->List (Tx×V)->Option Bool
 | [],_=>some true
 | e::r,m=>af (pj T e.1 m) λo=>match o with
  | none=>some false
  | some v=>af (f e.2 v) λb=>af (rH T f r m) λc=>some (b&&c)
def yi(T:Tb)(f:V->V->Option Bool)(l m:List (Tx×V)):Option Bool:=match aG l.length m.length with|true=>rH T f l m|false=>some false
def WX(T:Tb)(f:V->V->Option Bool)(l:List (Tx×V))(b:V):Option Bool:=match b with|.fd m=>yi T f l m|_=>none
noncomputable def eU(T:Tb)(st:St):Nat->V->V->Option Bool
 | 0,_,_=>none
 | d+1,a,b=>match a with
  | .none=>(match b with|.none=>some true|.str _=>some false|b=>rG st (eU T st d) .none b)
  | .bool x=>(match b with|.bool y=>some (tN x y)|b=>rG st (eU T st d) (.bool x) b)
  | .int x=>(match b with|.int y=>some (decide (x=y))|b=>rG st (eU T st d) (.int x) b)
  | .str x=>(match b with|.str y=>jI T x y|.none=>some false|b=>rG st (eU T st d) (.str x) b)
  | .tup l=>(match b with|.tup m=>Go (eU T st d) l m|b=>rG st (eU T st d) (.tup l) b)
  | .fd l=>WX T (eU T st d) l b
  | a=>rG st (eU T st d) a b
def M0:Option Bool->Option Bool
 | some b=>some (cX b)
 | none=>none
noncomputable def isNone:V->Option Bool
 | .none=>some true
 | .bool _=>some false
 | .str _=>some false
 | .loc _=>some false
 | _=>none
def isSame(a b:V):Option Bool:=match b with
 | .bool y=>(match a with|.bool x=>some (tN x y)|_=>none)
 | .none=>isNone a
 | _=>none
noncomputable def gO(c:Nat):List Nat->Bool
 | []=>false
 | b::y=>match aG c b with|true=>true|false=>gO c y
def WY(x y:Tx):Option Bool:=match dw x with
 | some l=>(match l with|[n]=>(match dw y with|some v=>some (gO n v)|none=>none)|_=>none)
 | none=>none
noncomputable def yj(T:Tb)(x:Tx):List V->Option Bool
 | []=>some false
 | v::r=>match v with|.str y=>af (jI T y x) λb=>af (yj T x r) λc=>some (b||c)|_=>none
def isIn(T:Tb)(a b:V):Option Bool:=match a with
 | .str x=>(match b with|.str y=>WY x y|.fl l=>yj T x l|_=>none)
 | _=>none
noncomputable def WZ(op:lB)(x y:Int):Option Bool:=match op with
 | .lt=>some (decide (x<y))
 | .le=>some (decide (x<=y))
 | .gt=>some (decide (y<x))
 | .ge=>some (decide (y<=x))
 | _=>none
def M1(op:lB)(a b:V):Option Bool:=match a with
 | .int x=>(match b with|.int y=>WZ op x y|_=>none)
 | _=>none
def rI(T:Tb)(op:lB)(a b:V)(st:St):Option Bool:=match op with
 | .eq=>eU T st 12 a b
 | .is=>isSame a b
 | .pi=>M0 (isSame a b)
 | .isin=>isIn T a b
 | op=>M1 op a b
def Gp(n:Nat)(i:Int):Option Nat:=match i with
 | .ofNat k=>bv (aH k 4000) (some k)
 | .negSucc k=>bv (aH k n&&aH k 4000) (some (n-1-k))
def Gq(l:List V)(i:Int):Option V:=match i with
 | .ofNat n=>bv (aH n 4000) l[n]?
 | .negSucc _=>none
def A2(l:List V)(i:Int):Option V:=af (Gp l.length i) λk=>l[k]?
def M2(T:Tb)(x:Tx)(l:List (Tx×V)):Option V:=af (pj T x l) λo=>o
def nR(T:Tb)(a i:V)(st:St):Option V:=match i with
 | .int k=>(match a with
  | .str x=>af (tP x) λl=>Gq l k
  | .tup l=>Gq l k
  | a=>af (gN a st) λl=>A2 l k)
 | .str x=>af (vE a st) λl=>M2 T x l
 | _=>none
noncomputable def M3(v:V):Option Nat:=match v with
 | .int i=>(match i with|.ofNat k=>some k|.negSucc _=>none)
 | _=>none
def yk(n:Nat)(v:V):Option Nat:=match v with
 | .int i=>bv (kS i) (match i with|.ofNat k=>some (min k n)|.negSucc k=>some (n-1-k))
 | _=>none
def Gr(n:Nat)(d:Nat)(o:Option V):Option Nat:=match o with
 | none=>some d
 | some v=>yk n v
def A3{α:Type}(l:List α)(lo hi:Option V):Option (List α):=af (Gr l.length 0 lo) λa=>af (Gr l.length l.length hi) λb=>some ((l.take b).drop a)
def iX(a:V)(lo hi:Option V)(st:St):Option V:=af (gN a st) λl=>bv (dZ l) (af (A3 l lo hi) jJ)
noncomputable def kU(v:V):Option Int:=match v with|.int i=>some i|_=>none
noncomputable def hJ{γ:Type}(f:V->Option γ):List V->Option (List γ)
 | []=>some []
 | v::r=>af (f v) λi=>af (hJ f r) λl=>some (i::l)
def tR:List V->Option (List Int):=hJ kU
noncomputable def rJ(a i:Int):Int:=match decide (i<a)with|true=>i|false=>a
noncomputable def A4(a i:Int):Int:=match decide (a<i)with|true=>i|false=>a
noncomputable def A5(f:Int->Int->Int)(l:List Int):Option Int:=match l with|[]=>none|i::r=>some (r.foldl f i)
noncomputable def qc(T:Tb)(x:Tx):List Tx->List Tx
 | []=>[x]
 | y::r=>match T.lt y x with|true=>y::qc T x r|false=>x::y::r
noncomputable def qd(T:Tb):List Tx->List Tx
 | []=>[]
 | x::r=>qc T x (qd T r)
noncomputable def d8:List Int->List V
 | []=>[]
 | i::r=>.int i::d8 r
def sign(a:V):Option Nat:=match a with
 | .str x=>af (dw x) λl=>(match l with|[]=>none|n::l=>bv l.isEmpty (some n))
 | _=>none
def W0(a:V)(st:St):Option V:=match a with
 | .str x=>af (Gk x) λn=>bv (lC x) (some (.int n))
 | a=>af (qb a st) λl=>bv (dZ l) (some (.int l.length))
def W1(i:Int):Option V:=match i with
 | .ofNat n=>bv (aH n 0xD800||fT 0xE000 n&&aH n 0x110000) (some (.str [.c n]))
 | .negSucc _=>none
noncomputable def pn(v:V):Option Tx:=match v with|.str x=>some x|_=>none
noncomputable def po:List Tx->List V
 | []=>[]
 | x::r=>.str x::po r
def yl(T:Tb)(b:Bi)(a:V)(st:St):Option V:=match b with
 | .len=>W0 a st
 | .tO=>af (gN a st) λl=>af (tR l) λns=>af (A5 rJ ns) j4
 | .yh=>af (gN a st) λl=>af (tR l) λns=>af (A5 A4 ns) j4
 | .chr=>af (kU a) W1
 | .ord=>af (sign a) λn=>some (.int n)
 | .sorted=>af (gN a st) λl=>af (hJ pn l) λm=>bv (aH l.length 64) (some (.fl (po (qd T m))))
 | _=>none
def ym(b:Bi)(a c:V):Option V:=match a,c with
 | .int x,.int y=>(match b with|.min2=>some (.int (rJ x y))|.max2=>some (.int (A4 x y))|_=>none)
 | _,_=>none
noncomputable def Gs:List Nat:=[97,112,112,101,110,100]
noncomputable def Gu:List Nat:=[105,110,115,101,114,116]
noncomputable def Gv:List Nat:=[112,111,112]
noncomputable def Gw:List Nat:=[99,111,117,110,116]
noncomputable def yn:List Nat:=[106,111,105,110]
noncomputable def Gx:List Nat:=[115,112,108,105,116]
noncomputable def Gy:List Nat:=[108,111,119,101,114]
noncomputable def jL:List Nat:=[103,101,116]
noncomputable def rK(s:Tx):List V->Option Tx
 | []=>some []
 | v::r=>af (pn v) λx=>af (rK s r) λy=>some (match r with|[]=>x|_::_=>x++(s++y))
def tT(s:Tx)(l:List V):Option V:=bv (fT s.length 1&&dZ l) (af (rK s l) mS)
def M4(T:Tb)(c:Nat)(a:At):Option Bool:=match a with
 | .c n=>some (aG n c)
 | a=>bv (T.AZ c a) (some false)
noncomputable def rL(T:Tb)(c:Nat):Tx->Option (List Tx)
 | []=>some [[]]
 | a::x=>af (rL T c x) λl=>af (M4 T c a) λb=>match l with
  | []=>none
  | y::m=>match b with|true=>some ([]::y::m)|false=>some ((a::y)::m)
noncomputable def mU(k:Int):List Int->Nat
 | []=>0
 | i::l=>match decide (i=k)with|true=>mU k l+1|false=>mU k l
noncomputable def Gz(n:Nat):Nat:=match fT 65 n&&fT n 90 with|true=>n+32|false=>n
def M5(x:Tx):Option Tx:=af (dw x) λl=>match l with
 | []=>some []
 | n::r=>bv (r.isEmpty&&aH n 128) (some [.c (Gz n)])
noncomputable def f8(n:Nat)(q:List Nat):List Nat->List Nat
 | []=>[]
 | c::l=>match aG c n with|true=>q++f8 n q l|false=>c::f8 n q l
def M6(x p q:Tx):Option V:=af (dw x) λl=>af (sign (.str p)) λm=>af (dw q) λr=>bv (aH 1 r.length&&aH r.length 100&&lC x) (mS (ao (f8 m r l)))
def GA(T:Tb)(x:Tx)(n:List Nat)(args:List V)(st:St):Option V:=match args with
 | []=>bv (bw n Gy) (af (M5 x) mS)
 | a::l=>bv l.isEmpty (match bw n yn with
  | true=>af (gN a st) (tT x)
  | false=>bv (bw n Gx) (af (sign a) λc=>af (rL T c x) λl=>jJ (po l)))
def GB(l:List V)(n:List Nat)(args:List V):Option V:=match args with
 | []=>none
 | v::m=>bv (m.isEmpty&&bw n Gw) (af (kU v) λk=>af (tR l) λns=>j4 (mU k ns))
def GC(a:Nat)(r:V)(l:List V)(st:St):Option (V×St):=bv (dZ l) (some (r,st.set a (.list l)))
noncomputable def M7(k:Nat)(v:V)(l:List V):List V:=l.take k++v::l.drop k
noncomputable def yo:List V->Option V
 | []=>none
 | v::r=>match r with|[]=>some v|_::_=>yo r
def GD(a:Nat)(l:List V)(n:List Nat)(args:List V)(st:St):Option (V×St):=match args with
 | []=>bv (bw n Gv&&dZ l) (af (yo l) λv=>GC a v l.dropLast st)
 | v::m=>match m with
  | []=>bv (bw n Gs) (GC a .none (l++[v]) st)
  | u::m=>bv (m.isEmpty&&bw n Gu) (af (M3 v) λk=>bv (fT k l.length) (GC a .none (M7 k u l) st))
def A6(T:Tb)(l:List (Tx×V))(n:List Nat)(args:List V):Option V:=match args with
 | []=>none
 | k::r=>match r with
  | []=>none
  | d::m=>bv (m.isEmpty&&bw n jL) (af (pn k) λx=>af (pj T x l) λr=>match r with|some v=>some v|none=>some d)
noncomputable def tU(n:List Nat):List (Tx×V)->Option V
 | []=>none
 | e::r=>af (dw e.1) λm=>match bw m n with|true=>some e.2|false=>tU n r
def M8(T:Tb)(v:V)(n:List Nat)(st:St):Option V:=match v with
 | .ins l=>bv (T.mR n) (tU n l)
 | .loc a=>bv (T.mR n) (af (st.ob a) λo=>af (st.tQ o.2) (tU n))
 | .bh g=>bv (aG g T.cls) (af (T.vD n) λx=>some (.str x))
 | _=>none
def A7(T:Tb)(v:V)(n:List Nat)(x:V)(st:St):Option St:=match v with
 | .loc a=>af (st.ob a) λo=>bv (T.mR n) (match o.2 with
  | none=>some ((st.set a (.ob o.1 (some st.n))).push (.at_ [(ao n,x)]))
  | some j=>af (st.tQ (some j)) λl=>bv (aH l.length 50) (some (st.set j (.at_ ((ao n,x)::l)))))
 | _=>none
noncomputable def ku:List (Option V)->Nat->V->Option (List (Option V))
 | [],_,_=>none
 | x::l,k,v=>match k with
  | 0=>some (some v::l)
  | k+1=>af (ku l k v) λr=>some (x::r)
def iY(v:V)(t:Tg)(fr:Fr):Option Fr:=match t with
 | .loc i=>af (ku fr.L i v) λL=>some ⟨L,fr.C⟩
 | .bi i=>af (ku fr.C i v) λC=>some ⟨fr.L,C⟩
 | .fin i=>af fr.C[i]? λo=>match o with|none=>af (ku fr.C i v) λC=>some ⟨fr.L,C⟩|some _=>none
 | .tup _=>none
noncomputable def iH:List V->List Tg->Fr->Option Fr
 | [],ts,fr=>bv ts.isEmpty (some fr)
 | v::vs,ts,fr=>match ts with|[]=>none|t::ts=>af (iY v t fr) λaw=>iH vs ts aw
def pp(v:V)(t:Tg)(fr:Fr)(st:St):Option Fr:=match t with
 | .tup ts=>(match qb v st with|some vs=>iH vs ts fr|none=>none)
 | t=>iY v t fr
noncomputable def fN:Nat->List (Option V)
 | 0=>[]
 | n+1=>none::fN n
noncomputable def nS(C:List (Option V)):List Nat->Option (List (Option V))
 | []=>some []
 | i::r=>af C[i]? λv=>af (nS C r) λvs=>some (v::vs)
noncomputable def bk{α γ:Type}(o:Option (α×St))(f:α->St->Option γ):Option γ:=match o with|some (a,st)=>f a st|none=>none
noncomputable def eV{α β γ:Type}(o:Option (α×β×St))(f:α->β->St->Option γ):Option γ:=match o with|some (a,b,st)=>f a b st|none=>none
noncomputable def tV{γ:Type}(b:Bool)(x y:Option γ):Option γ:=match b with|true=>x|false=>y
noncomputable def yp:Cd:=λ_z _z st=>some (.none,st)
noncomputable def pq:Cd:=λ_z _z st=>some (.bool true,st)
noncomputable def qe:Cd:=λ_z _z st=>some (.bool false,st)
noncomputable def aj(i:Int):Cd:=λ_z _z st=>some (.int i,st)
noncomputable def aX(x:Tx):Cd:=λ_z _z st=>some (.str x,st)
def yq(l:List (Option V))(i:Nat)(st:St):Option (V×St):=af l[i]? λo=>eB o st
def ae(i:Nat):Cd:=λ_z fr st=>yq fr.L i st
def aq(i:Nat):Cd:=λ_z fr st=>yq fr.C i st
noncomputable def cF(g:Nat):Cd:=λ_z _z st=>some (.bh g,st)
def aK(op:jH)(a b:Cd):Cd:=λK fr st=>bk (a K fr st) λv st1=>bk (b K fr st1) λu aF=>eB (mT op v u aF) aF
noncomputable def A8(r:Option Bool)(st:St):Option (Bool×St):=match r with|some b=>some (b,st)|none=>none
def nU(t:Ct):Cd:=λK fr st=>bk (t K fr st) λb st1=>some (.bool b,st1)
def tW(c:Cd):Ct:=λK fr st=>bk (c K fr st) λv st1=>A8 (Gl st1 v) st1
def bq(T:Tb)(op:lB)(a b:Cd):Ct:=λK fr st=>bk (a K fr st) λv st1=>bk (b K fr st1) λu aF=>A8 (rI T op v u aF) aF
def M9(T:Tb)(a:Cd)(o1:lB)(b:Cd)(o2:lB)(c:Cd):Ct:=λK fr st=>bk (a K fr st) λv st1=>bk (b K fr st1) λu aF=>
 af (rI T o1 v u aF) λr=>tV r (bk (c K fr aF) λw hR=>A8 (rI T o2 u w hR) hR) (some (false,aF))
def M'(t:Ct):Ct:=λK fr st=>bk (t K fr st) λb st1=>some (cX b,st1)
def yr(a b:Ct):Ct:=λK fr st=>bk (a K fr st) λr st1=>tV r (b K fr st1) (some (false,st1))
def jp(t:Ct)(a b:Cd):Cd:=λK fr st=>bk (t K fr st) λr st1=>tV r (a K fr st1) (b K fr st1)
def aJ(T:Tb)(a i:Cd):Cd:=λK fr st=>bk (a K fr st) λv st1=>bk (i K fr st1) λu aF=>eB (nR T v u aF) aF
def GE(x:Option Cd)(K:bb)(fr:Fr)(st:St):Option (Option V×St):=match x with
 | none=>some (none,st)
 | some c=>bk (c K fr st) λv am=>some (some v,am)
def fC(a:Cd)(lo hi:Option Cd):Cd:=λK fr st=>bk (a K fr st) λv st1=>bk (GE lo K fr st1) λl aF=>bk (GE hi K fr aF) λh hR=>eB (iX v l h hR) hR
noncomputable def vF{α:Type}:List α->List α->List α
 | [],a=>a
 | x::l,a=>vF l (x::a)
def fD(T:Tb)(a:Cd)(n:List Nat):Cd:=λK fr st=>bk (a K fr st) λv st1=>eB (M8 T v n st1) st1
def yt(a:Cd):Cd:=λK fr st=>bk (a K fr st) λv st1=>af (gN v st1) λl=>eB (jJ (vF l [])) st1
def GF(a b:Cd):Cd:=λK fr st=>bk (a K fr st) λv st1=>bk (b K fr st1) λu aF=>af (gN v aF) λl=>af (gN u aF) λm=>rF true (l++m) aF
def GG(a:Cd):Cd:=λK fr st=>bk (a K fr st) λv st1=>af (gN v st1) λl=>eB (match dZ l with|true=>some (.tup l)|false=>none) st1
noncomputable def gl(K:bb)(fr:Fr):List Cd->St->Option (List V×St)
 | [],st=>some ([],st)
 | c::r,st=>bk (c K fr st) λv am=>bk (gl K fr r am) λvs A9=>some (v::vs,A9)
def vG(vs:List V):Option V:=match dZ vs with|true=>some (.tup vs)|false=>none
def bI(l:List Cd):Cd:=λK fr st=>bk (gl K fr l st) λvs st1=>eB (vG vs) st1
def dn(m:Bool)(l:List Cd):Cd:=λK fr st=>bk (gl K fr l st) λvs st1=>rF m vs st1
noncomputable def GH(T:Tb)(l:List (Tx×V)):List Tx->List V->Option (List (Tx×V))
 | [],[]=>some l
 | x::xs,v::vs=>af (pk T x v l) λl'=>GH T l' xs vs
 | _,_=>none
noncomputable def newD(m:Bool)(d:List (Tx×V))(st:St):V×St:=match m with|true=>(.loc st.n,st.push (.dict d))|false=>(.fd d,st)
def vH(T:Tb)(ks:List Tx)(l:List Cd):Cd:=λK fr st=>bk (gl K fr l st) λvs st1=>af (GH T [] ks vs) λd=>some (.fd d,st1)
def nV(m:Bool):Cd:=λ_z _z st=>some (newD m [] st)
noncomputable def putAll(T:Tb):List (Tx×V)->List (Tx×V)->Option (List (Tx×V))
 | l,[]=>some l
 | l,e::r=>af (pk T e.1 e.2 l) λl'=>putAll T l' r
noncomputable def rM:List (Tx×V)->List V
 | []=>[]
 | e::r=>.str e.1::rM r
def GI(st:St)(v:V):Option Src:=match v with
 | .loc n=>af (st.lst n) λ_z=>some (.lst n)
 | .fd l=>some (.vals (rM l))
 | .tup l=>some (.vals l)
 | .fl l=>some (.vals l)
 | .str x=>af (tP x) λl=>some (.vals l)
 | _=>none
noncomputable def qf:Nat->Int->List V
 | 0,_=>[]
 | n+1,a=>.int a::qf n (a+1)
noncomputable def yu(i:Int):Bool:=match i with|.ofNat n=>aH n 1000000|.negSucc n=>aH n 1000000
def Na(a b:Int):Option Src:=bv (yu a&&yu b&&aH (jK (b-a)) 4000) (some (.vals (qf (jK (b-a)) a)))
noncomputable def Ba(r:Option Src)(st:St):Option (Src×St):=match r with|some s=>some (s,st)|none=>none
def ce(c:Cd):Ci:=λK fr st=>bk (c K fr st) λv st1=>Ba (GI st1 v) st1
def vI(a b:V):Option Src:=af (kU a) λx=>af (kU b) λy=>Na x y
def dT(c:Cd):Ci:=λK fr st=>bk (c K fr st) λv st1=>Ba (vI (.int 0) v) st1
def nW(a b:Cd):Ci:=λK fr st=>bk (a K fr st) λv st1=>bk (b K fr st1) λu aF=>Ba (vI v u) aF
noncomputable def rN(k:Int):List V->List V
 | []=>[]
 | v::r=>.tup [.int k,v]::rN (k+1) r
def tX(c:Cd):Ci:=λK fr st=>bk (c K fr st) λv st1=>match v with|.fl l=>some (.vals (rN 0 l),st1)|_=>none
abbrev Cg:=bb->List V->Fr->St->Option (List V×Fr×St)
noncomputable def qg(K:bb)(t:Tg)(rO:Cg):List V->List V->Fr->St->Option (List V×Fr×St)
 | [],aO,fr,st=>some (aO,fr,st)
 | v::r,aO,fr,st=>af (pp v t fr st) λbc=>eV (rO K aO bc st) λGJ br st1=>qg K t rO r GJ br st1
def itemAt(st:St)(n i:Nat):Option (Option V):=af (st.lst n) λl=>some l[i]?
noncomputable def GK(o:Option V):Option Unit:=match o with|none=>some ()|some _=>none
noncomputable def GL(K:bb)(t:Tg)(rO:Cg)(n:Nat):Nat->Nat->List V->Fr->St->Option (List V×Fr×St)
 | 0,i,aO,fr,st=>af (itemAt st n i) λo=>af (GK o) λ_z=>some (aO,fr,st)
 | f+1,i,aO,fr,st=>af (itemAt st n i) λo=>af o λv=>af (pp v t fr st) λbc=>eV (rO K aO bc st) λGJ br st1=>GL K t rO n f (i+1) GJ br st1
noncomputable def Bb(st:St)(n:Nat):Nat:=match st.lst n with|some l=>l.length|none=>0
def Bc(K:bb)(t:Tg)(rO:Cg)(s:Src)(aO:List V)(fr:Fr)(st:St):Option (List V×Fr×St):=match s with
 | .vals l=>qg K t rO l aO fr st
 | .lst n=>GL K t rO n (Bb st n) 0 aO fr st
def bE(c:Cd):Cg:=λK aO fr st=>bk (c K fr st) λv st1=>match dZ aO with|true=>some (v::aO,fr,st1)|false=>none
def jq(t:Ct)(g:Cg):Cg:=λK aO fr st=>bk (t K fr st) λb st1=>tV b (g K aO fr st1) (some (aO,fr,st1))
def tY(t:Tg)(i:Ci)(g:Cg):Cg:=λK aO fr st=>bk (i K fr st) λs st1=>Bc K t g s aO fr st1
def bR(m:Bool)(t:Tg)(i:Ci)(g:Cg)(nl nc:Nat)(free:List Nat):Cd:=λK fr st=>bk (i K fr st) λs st1=>
 af (nS fr.C free) λcl=>eV (Bc K t g s [] ⟨fN nl,fN nc++cl⟩ st1) λl _z aF=>rF m (vF l []) aF
noncomputable def vJ(K:bb)(f:V)(vs:List V)(st:St):Option (V×St):=match f with|.none=>none|f=>K f vs st
def du(f:Cd)(args:List Cd):Cd:=λK fr st=>bk (f K fr st) λfv st1=>bk (gl K fr args st1) λvs aF=>vJ K fv vs aF
def W3(T:Tb)(K:bb)(ov:V)(n:List Nat)(vs:List V)(st:St):Option (V×St):=af (T.l9 n) λg=>K (.bh g) (ov::vs) st
def W4(T:Tb)(a:Nat)(n:List Nat)(vs:List V)(st:St)(o:O):Option (V×St):=match o with
 | .list l=>GD a l n vs st
 | .dict l=>eB (A6 T l n vs) st
 | _=>none
def W5(T:Tb)(K:bb)(ov:V)(n:List Nat)(vs:List V)(st:St):Option (V×St):=match ov with
 | .str x=>bv (lC x) (eB (GA T x n vs st) st)
 | .fl l=>eB (GB l n vs) st
 | .fd l=>eB (A6 T l n vs) st
 | .loc a=>af (st.get a) (W4 T a n vs st)
 | .ins l=>W3 T K (.ins l) n vs st
 | _=>none
def W6(T:Tb)(st:St)(n:List Nat)(o:O):Option (Option V):=match o with
 | .ob k d=>(match k with|.fn _ _=>bv (T.mR n) (af (st.tQ d) λl=>af (tU n l) λf=>some (some f))|.ins=>none)
 | .list _=>bv (cX (bw n jL)) (some none)
 | .dict _=>bv (bw n jL) (some none)
 | .at_ _=>none
def yv(T:Tb)(n:List Nat)(v:V)(st:St):Option (Option V):=match v with
 | .loc a=>af (st.get a) (W6 T st n)
 | _=>some none
def GN(T:Tb)(K:bb)(r:Option V)(ov:V)(n:List Nat)(vs:List V)(st:St):Option (V×St):=match r with
 | some f=>vJ K f vs st
 | none=>W5 T K ov n vs st
def bG(T:Tb)(o:Cd)(n:List Nat)(args:List Cd):Cd:=λK fr st=>bk (o K fr st) λov st1=>af (yv T n ov st1) λr=>bk (gl K fr args st1) λvs aF=>GN T K r ov n vs aF
def GO(g:Nat)(args:List Cd)(k:Tx)(c:Cd):Cd:=λK fr st=>bk (gl K fr args st) λvs st1=>bk (c K fr st1) λv aF=>K .none (.bh g::.fd [(k,v)]::vs) aF
noncomputable def GP:List (Option V)->Option (List V)
 | []=>some []
 | o::r=>af o λv=>af (GP r) λl=>some (v::l)
def vK(id:Nat)(free:List Nat):Cd:=λ_z fr st=>af (nS fr.C free) λcl=>af (GP cl) λcaps=>some (.loc st.n,st.push (.ob (.fn id caps) none))
def W7(v:V)(p q:Tx):Option V:=match v with|.str x=>M6 x p q|_=>none
def gx(o:Cd)(p q:Tx):Cd:=λK fr st=>bk (o K fr st) λv st1=>eB (W7 v p q) st1
def eJ(T:Tb)(b:Bi)(a:Cd):Cd:=λK fr st=>bk (a K fr st) λv st1=>eB (yl T b v st1) st1
def nX(b:Bi)(a c:Cd):Cd:=λK fr st=>bk (a K fr st) λv st1=>bk (c K fr st1) λu aF=>eB (ym b v u) aF
noncomputable def Nb(T:Tb)(v:V):Option V:=match v with|.int i=>some (.bool (T.b1 i))|_=>none
def GQ(T:Tb)(a:Cd):Cd:=λK fr st=>bk (a K fr st) λv st1=>eB (Nb T v) st1
def Nd(T:Tb)(v:V):Option V:=match v with
 | .int i=>(match T.b3 i with|some x=>some (.str (ao x))|none=>some .none)
 | _=>none
def GR(T:Tb)(a:Cd):Cd:=λK fr st=>bk (a K fr st) λv st1=>eB (Nd T v) st1
noncomputable def qh:List V->Nat->V->Option (List V)
 | [],_,_=>none
 | x::l,k,v=>match k with
  | 0=>some (v::l)
  | k+1=>af (qh l k v) λr=>some (x::r)
def W8(T:Tb)(a:Nat)(i v:V)(st:St)(o:O):Option St:=match o with
 | .list l=>af (kU i) λk=>af (Gp l.length k) λk=>af (qh l k v) λl'=>some (st.set a (.list l'))
 | .dict l=>af (pn i) λx=>af (pk T x v l) λl'=>bv (aH l'.length 1000) (some (st.set a (.dict l')))
 | _=>none
def rP(T:Tb)(o i v:V)(st:St):Option St:=match o with
 | .loc a=>af (st.get a) (W8 T a i v st)
 | _=>none
def rQ(fr:Fr)(r:Option St):Option (Fl×Fr×St):=af r λst=>some (.next,fr,st)
noncomputable def nY(r:Option Fr)(st:St):Option (Fl×Fr×St):=match r with|some fr=>some (.next,fr,st)|none=>none
def jM(c:Cd):Cs:=λK fr st=>bk (c K fr st) λ_z st1=>some (.next,fr,st1)
def aP(t:Tg)(c:Cd):Cs:=λK fr st=>bk (c K fr st) λv st1=>nY (pp v t fr st1) st1
def Be(op:jH)(a b:V):Option V:=MW op (af (kU a) λx=>af (kU b) λy=>j4 (x+y))
def Nf(i:Nat)(op:jH)(c:Cd):Cs:=λK fr st=>bk (yq fr.L i st) λold st1=>bk (c K fr st1) λv aF=>af (Be op old v) λr=>nY (iY r (.loc i) fr) aF
def Bf(T:Tb)(o i:Cd)(op:jH)(c:Cd):Cs:=λK fr st=>bk (o K fr st) λov st1=>bk (i K fr st1) λiv aF=>af (nR T ov iv aF) λold=>
 bk (c K fr aF) λv hR=>af (Be op old v) λr=>rQ fr (rP T ov iv r hR)
def dq(c:Cd):Cs:=λK fr st=>bk (c K fr st) λv st1=>some (.ret v,fr,st1)
noncomputable def GS:Cs:=λ_z fr st=>some (.brk,fr,st)
noncomputable def bJ:Cs:=λ_z fr st=>some (.next,fr,st)
def aE(a b:Cs):Cs:=λK fr st=>eV (a K fr st) λf bc st1=>match f with|.next=>b K bc st1|f=>some (f,bc,st1)
def dy(t:Ct)(a b:Cs):Cs:=λK fr st=>bk (t K fr st) λr st1=>tV r (a K fr st1) (b K fr st1)
noncomputable def iI(K:bb)(t:Tg)(body:Cs):List V->Fr->St->Option (Fl×Fr×St)
 | [],fr,st=>some (.next,fr,st)
 | v::r,fr,st=>af (pp v t fr st) λbc=>eV (body K bc st) λf br aF=>match f with
  | .next=>iI K t body r br aF
  | .brk=>some (.next,br,aF)
  | .ret v=>some (.ret v,br,aF)
noncomputable def GT(K:bb)(t:Tg)(body:Cs)(n:Nat):Nat->Nat->Fr->St->Option (Fl×Fr×St)
 | 0,i,fr,st=>af (itemAt st n i) λo=>af (GK o) λ_z=>some (.next,fr,st)
 | k+1,i,fr,st=>af (itemAt st n i) λo=>af o λv=>af (pp v t fr st) λbc=>eV (body K bc st) λf br aF=>match f with
  | .next=>GT K t body n k (i+1) br aF
  | .brk=>some (.next,br,aF)
  | .ret v=>some (.ret v,br,aF)
def Ng(K:bb)(t:Tg)(body:Cs)(s:Src)(fr:Fr)(st:St):Option (Fl×Fr×St):=match s with
 | .vals l=>iI K t body l fr st
 | .lst n=>GT K t body n (Bb st n) 0 fr st
def eW(t:Tg)(i:Ci)(body:Cs):Cs:=λK fr st=>bk (i K fr st) λs st1=>Ng K t body s fr st1
def vL(T:Tb)(o i c:Cd):Cs:=λK fr st=>bk (c K fr st) λv st1=>bk (o K fr st1) λov aF=>bk (i K fr aF) λiv hR=>rQ fr (rP T ov iv v hR)
def lD(T:Tb)(o:Cd)(n:List Nat)(c:Cd):Cs:=λK fr st=>bk (c K fr st) λv st1=>bk (o K fr st1) λov aF=>rQ fr (A7 T ov n v aF)
noncomputable def Bg(T:Tb)(K:bb)(fr:Fr):List (Cd×List Nat)->List V->St->Option St
 | [],vs,st=>bv vs.isEmpty (some st)
 | o::os,vs,st=>match vs with|[]=>none|v::vs=>bk (o.1 K fr st) λov st1=>af (A7 T ov o.2 v st1) λaF=>Bg T K fr os vs aF
def GU(T:Tb)(os:List (Cd×List Nat))(cs:List Cd):Cs:=λK fr st=>bk (gl K fr cs st) λvs st1=>rQ fr (Bg T K fr os vs st1)
noncomputable def GV(v:V):List Tg->Fr->Option Fr
 | [],fr=>some fr
 | t::ts,fr=>af (iY v t fr) λaw=>GV v ts aw
def yw(ts:List Tg)(c:Cd):Cs:=λK fr st=>bk (c K fr st) λv st1=>nY (GV v ts fr) st1
noncomputable def vM(K:bb)(t:Ct)(body:Cs):Nat->Fr->St->Option (Fl×Fr×St)
 | 0,_,_=>none
 | n+1,fr,st=>bk (t K fr st) λb st1=>tV b (eV (body K fr st1) λf br aF=>match f with
  | .next=>vM K t body n br aF
  | .brk=>some (.next,br,aF)
  | .ret v=>some (.ret v,br,aF)) (some (.next,fr,st1))
def Bh(t:Ct)(body:Cs):Cs:=λK fr st=>vM K t body 50 fr st
noncomputable def rR(l:List Nat)(p:List Nat×List Nat):List Nat:=(AB ⟨l.toArray⟩ ⟨p.1.toArray⟩ ⟨p.2.toArray⟩).cps.toList
noncomputable def tZ(ps:List (List Nat×List Nat))(l:List Nat):Option (List Nat):=match ps with
 | []=>some l
 | p::ps=>bv (aH l.length 4000) (tZ ps (rR l p))
noncomputable def GW:List (List Nat×List Nat)->Option (List Nat×List Nat)
 | []=>none
 | p::r=>match r with|[]=>some p|_::_=>GW r
def vN(i m s:Nat)(ps:List (List Nat×List Nat)):Cs:=λ_z fr st=>bk (yq fr.L i st) λv st1=>af (pn v) λx=>af (dw x) λl=>af (tZ ps l) λl'=>af (GW ps) λp=>
 af (iY (.str (ao p.1)) (.loc m) fr) λbc=>af (iY (.str (ao p.2)) (.loc s) bc) λbr=>nY (iY (.str (ao l')) (.loc i) br) st1
noncomputable def yx(f:Fl)(_:Fr)(st:St):Option (V×St):=match f with|.ret v=>some (v,st)|.next=>some (.none,st)|_=>none
noncomputable def pr(f:V->Option V):List (Tx×V)->Option (List (Tx×V))
 | []=>some []
 | e::r=>af (f e.2) λv=>af (pr f r) λl=>some ((e.1,v)::l)
noncomputable def Bj(T:Tb):List (Tx×V)->Bool
 | []=>true
 | e::r=>(match dw e.1 with|some n=>T.mR n|none=>false)&&Bj T r
def W9(T:Tb)(st:St)(f:V->Option V)(o:O):Option V:=match o with
 | .list l=>af (hJ f l) λl=>some (.fl l)
 | .dict l=>af (pr f l) λl=>some (.fd l)
 | .ob k d=>(match k with|.ins=>af (st.tQ d) λl=>bv (Bj T l) (af (pr f l) λl=>some (.ins l))|.fn _ _=>none)
 | .at_ _=>none
noncomputable def dH(T:Tb)(st:St):Nat->V->Option V
 | 0,_=>none
 | d+1,v=>match v with
  | .loc n=>af (st.get n) (W9 T st (dH T st d))
  | .tup l=>af (hJ (dH T st d) l) λl=>some (.tup l)
  | .fl l=>af (hJ (dH T st d) l) λl=>some (.fl l)
  | .fd l=>af (pr (dH T st d) l) λl=>some (.fd l)
  | .ins l=>af (pr (dH T st d) l) λl=>some (.ins l)
  | v=>some v
noncomputable def bY:Nat->V->Bool
 | 0,_=>false
 | d+1,v=>match v with
  | .loc _=>false
  | .tup l=>l.all (bY d)
  | .fl l=>l.all (bY d)
  | .fd l=>l.all λe=>bY d e.2
  | .ins l=>l.all λe=>bY d e.2
  | .raw _ _=>false
  | _=>true
def nZ(K:bb)(F:FI)(vs caps:List V)(st:St):Option (V×St):=af (iH vs F.params ⟨fN F.nl,fN F.nc++caps.map some⟩) λfr=>eV (F.body K fr st) yx
noncomputable def n7(f:V->Option V):List (Option V)->Option (List (Option V))
 | []=>some []
 | o::r=>af (match o with|none=>some none|some v=>af (f v) λv=>some (some v)) λo=>af (n7 f r) λl=>some (o::l)
def GX(f:V->Option V)(fr:Fr):Option Fr:=af (n7 f fr.L) λL=>af (n7 f fr.C) λC=>some ⟨L,C⟩
def rS(T:Tb)(K:bb)(F:FI)(vs:List V)(st:St):Option (V×St):=bv (vs.all (bY 12)) (af (iH vs F.params ⟨fN F.nl,fN F.nc⟩) λfr=>eV (F.body K fr dm) λf bc st1=>match f with
 | .ret v=>eB (dH T st1 12 v) st
 | .next=>af (GX (dH T st1 12) bc) λbr=>eV (F.tail K br dm) λf _z aF=>match f with|.ret v=>eB (dH T aF 12 v) st|_=>none
 | .brk=>none)
def GY(T:Tb)(K:bb)(F:FI)(vs:List V)(st:St):Option (V×St):=match F.alone with
 | true=>rS T K F vs st
 | false=>nZ K F vs [] st
def W'(T:Tb)(fn:Nat->Option FI)(K:bb)(vs:List V)(st:St):Option (V×St):=af (fn T.init) λF=>bv (vs.all (bY 12)) (bk (nZ K F (.loc 0::vs) [] ((dm.push (.ob .ins (some 1))).push (.at_ []))) λv am=>match v with
 | .none=>eB (dH T am 12 (.loc 0)) st
 | _=>none)
def GZ(T:Tb)(fn:Nat->Option FI)(K:bb)(g:Nat)(vs:List V)(st:St):Option (V×St):=match aG g T.cls with
 | true=>W' T fn K vs st
 | false=>af (fn g) λF=>GY T K F vs st
def Xa(lm:Nat->Option FI)(K:bb)(vs:List V)(st:St)(o:Kd×Option Nat):Option (V×St):=match o.1 with
 | .fn id caps=>af (lm id) λF=>nZ K F vs caps st
 | .ins=>none
def Nh(n:List Nat)(d:V):Bool:=match d with
 | .fd l=>(match l with|[]=>false|e::r=>match dw e.1 with|some m=>bw m n&&r.isEmpty|none=>false)
 | _=>false
def Xd(kw:Nat->Option (List Nat×FI))(K:bb)(vs:List V)(st:St):Option (V×St):=match vs with
 | []=>none
 | f::vs=>match f with
  | .bh g=>(match vs with|[]=>none|d::vs=>af (kw g) λF=>bv (Nh F.1 d) (nZ K F.2 (vs++[d]) [] st))
  | _=>none
def G0(T:Tb)(D:Fs)(K:bb)(f:V)(vs:List V)(st:St):Option (V×St):=match f with
 | .none=>Xd D.kw K vs st
 | .bh g=>GZ T D.fn K g vs st
 | .loc a=>af (st.ob a) (Xa D.lm K vs st)
 | _=>none
abbrev vO:=V->List V->Option V
noncomputable def call(T:Tb)(D:Fs)(jN:vO):Nat->bb
 | 0=>λ_z _z _z=>none
 | n+1=>λf vs st=>match jN f vs with
  | some v=>some (v,st)
  | none=>G0 T D (call T D jN n) f vs st
end Internal
namespace Internal
open PySem PySem.W PyProof.Rows PySem.Flt
namespace FE
theorem Ni:kM (.type "function") "__getattr__"= pure none:=by refine ab (UC ..) ?_;refine ab (Uv ..) ?_;kernel_rfl
theorem yy:Slot "function" "__getattribute__" "object.__getattribute__":=
 .of (owner := "object") (n := "__getattribute__") (by refine ab (UC ..) ?_;refine ab (Uv ..) ?_;kernel_rfl) (by decide +kernel) (by decide +kernel) (by decide +kernel)
  (by first|exact .inl (by decide +kernel)|exact .inr (by decide +kernel)) (by refine ab (E4 ..) ?_;kernel_rfl)
theorem Xe(a b:ac):argsOk "object.__getattribute__" ⟨[a,b],[]⟩:=by unfold argsOk;kernel_rfl
theorem Xf:Lj (.type "function") (.type "staticmethod")=pure false:=by refine ab (E4 ..) ?_;kernel_rfl
theorem Xg:Lj (.type "function") (.type "classmethod")=pure false:=by refine ab (E4 ..) ?_;kernel_rfl
end FE
structure FnAt(h:cD)(f D:al)(m:ai->Option ac):Prop where
 obj:∃o fd,h.get? f=some o/\o.cls=.type "function"/\ o.dict=some D/\o.data=.func fd
 ns:h.Ns D m
section
variable {prog:iS}{w:bD}{A:bC}{E:ac->ak->Prop}{h:cD}{g:Array K4}{d:Drawn}{t:Nat}{os:pM}{f D:al}{m:ai->Option ac}
theorem Xh {name:ai} {tk:Tok} {v:ac} {Q:Fin->ak->Prop} (hm:FnAt h f D m) (gm:kM (.type "function") name=pure none) (hv:m name=some v)
  (hq:Q (.done (.ret v)) ⟨h,g,d,t,os⟩):aR (model prog w) A (Builtin.«object.__getattribute__» ⟨[.ref f,.str name tk],[]⟩) Q E ⟨h,g,d,t,os⟩:=by
 obtain⟨⟨o,fd,hM,hc,hd,hf⟩,hD⟩:=hm;obtain⟨oc,od,of,os'⟩:=o;subst hc;subst hd;subst hf;have hT:(⟨h,g,d,t,os⟩:ak).TypeIs (.ref f) "function":= ⟨_,hM,rfl⟩;have f1:=FE.Xf;have f2:=FE.Xg
 repeat (any_goals (first|assumption|with_reducible apply wpAny_nsGet_known|with_reducible apply wpAny_loadPart_known|wp_step))
theorem Nj {name:ai} {v:ac} {ex:Bool} {Q:ac->ak->Prop} (hm:FnAt h f D m) (gm:kM (.type "function") name=pure none) (hv:m name=some v)
  (hh:xy v=pure v) (hq:Q v ⟨h,g,d,t+1,os⟩):aR (model prog w) A (Lh (.ref f) name ex) Q E ⟨h,g,d,t,os⟩:=by
 refine lZ hm.obj λo fd hM hc hd hf=>?_
 have hT:(⟨h,g,d,t,os⟩:ak).TypeIs (.ref f) "function":= ⟨_,hM,hc⟩;have G2:(⟨h,g,d,t+1,os⟩:ak).TypeIs (.ref f) "function":= ⟨_,hM,hc⟩;have f1:=FE.yy.lookup;have f2:=FE.Ni;have f4:=FE.yy.bind (.ref f);induction ex
 all_goals (
  repeat (any_goals (first|assumption|(rw[if_neg (show ¬(true&&onTheHeap (ru "object.__getattribute__"))=true by decide)])|wp_step))
  refine aqe FE.yy.plain F.entry_object_getattribute (FE.yy.check _ _ _ _ _ _ _ _ G2 (FE.Xe _ _) (Xh hm gm hv ?_))
  repeat (any_goals (first|assumption|wp_step)))
theorem Xi {name:ai} {v:ac} {pl:bo Bool} {Q:ac×List ac->ak->Prop} (hm:FnAt h f D m) (gm:kM (.type "function") name=pure none) (hv:m name=some v)
  (hh:xy v=pure v) (hq:Q (v,[]) ⟨h,g,d,t+1,os⟩):aR (model prog w) A (rl (.ref f) name pl) Q E ⟨h,g,d,t,os⟩:=by
 refine lZ hm.obj λo fd hM hc hd hf=>?_
 have hT:(⟨h,g,d,t,os⟩:ak).TypeIs (.ref f) "function":= ⟨_,hM,hc⟩;refine aA (xF hT FE.yy.lookup ?_)
 show aR _ A (if(Manifest.canonical "object.__getattribute__" != "object.__getattribute__")=true then _ else _) Q E _
 refine ab (F.canon_object_ga ..) ?_;refine ab (if_neg (by decide)) (aA (xF hT FE.Ni ?_));refine aA (xF hT gm ?_);exact aA (Nj hm gm hv hh (bj hq))
end
end Internal
namespace Internal
open PySem PySem.W PyProof.Rows PySem.Flt
open Builtin Builtin.ObjectAttr
theorem rT:StoreFacts "function" [.type "function",.type "object"] "object.__setattr__" "object" where
 mro:=by kernel_rfl
 slot:=.of (owner := "object") (n := "__setattr__") (by refine ab (UC ..) ?_;refine ab (Uv ..) ?_;kernel_rfl) (by decide +kernel) (by decide +kernel) (by decide +kernel)
  (by first|exact .inl (by decide +kernel)|exact .inr (by decide +kernel)) (by refine ab (E4 ..) ?_;kernel_rfl)
 entry:=LB.entry
 kind:=LB.kind
 split:=LB.split
 hasOwner:=by decide +kernel
 args:=LB.args
 passes:=λself=>by kernel_rfl
section
variable {prog:iS}{w:bD}{A:bC}{E:ac->ak->Prop}{h:cD}{g:Array K4}{d:Drawn}{t:Nat}{os:pM}{f D:al}{m:ai->Option ac}
structure Bk(h h':cD)(f:al)(o:aT)(m:ai->Option ac)(name:ai)(v:ac)(D:al):Prop where
 obj:h'.get? f=some {cls:=o.cls,dict:=some D,data:=o.data,slots:=o.slots}
 ne:D≠f
 ns:h'.Ns1 D (λy=>if y=name then some v else m y)
 keep:∀b ob,b≠f->b≠D->h.get? b=some ob->h'.get? b=some ob
 dom:∀b,h'.get? b=none->h.get? b=none
theorem Xj {o:aT} {name:ai} {tk:Tok} {v:ac} {Q:Fin->ak->Prop} {ns:List ai} (hx:h.get? f=some o) (hc:o.cls=.type "function") (hf:∃fd,o.data=.func fd)
  (hd:(o.dict=none/\∀y,m y=none)\/∃D,o.dict=some D/\D≠f/\h.Ns1 D m) (gm:kM (.type "function") name=pure none) (hw:Within m ns) (hsz:ns.length<100)
  (hq:∀h' qi D,Bk h h' f o m name v D->((o.dict=none/\h.get? D=none)\/o.dict=some D)->Q (.done (.ret .none)) ⟨h',g,d,qi,os⟩) :
  aR (model prog w) A (Builtin.«object.__setattr__» ⟨[.ref f,.str name tk,v],[]⟩) Q E ⟨h,g,d,t,os⟩:=by
 have Xk:=rT.passes (.ref f);have hT:(⟨h,g,d,t,os⟩:ak).TypeIs (.ref f) "function":= ⟨_,hx,hc⟩;have Xl:=rT.mro;refine xE hf λfd G3=>?_
 have qj:∀c,o.data≠.cls c:=λc q=>by rw[G3]at q;cases q
 repeat (first|rw[refuse_eq]|(rw[Xl])|(rw[Xk])|(rw[gm])|(with_reducible refine UG hx ?_;refine ab (hc) ?_)|wp_step)
 rcases hd with d5|d5
 ·refine xA d5 λNk Xm=>ab (Nk ..) ?_;refine ab (if_neg (by simp only[typeHasDict,Bool.not_true,aqu,Fb,Bool.not_eq_false];decide +kernel)) ?_
  refine ab (G3 ..) ?_;have Nl:(h.push {cls:=.type "dict",data:=.dict #[]}).get? f=some o:=iD _ hx;have yz:f≠h.objs.size:=rq (kj hx);have Xn:∀a,dictMade (.type "function") f a=pure (some a):=λa=>by
   unfold dictMade
   have:finalisedInACycleAlone "function"= false:=by decide +kernel
   rfl
  refine aA (wpAny_alloc' ?_);refine aA (wpAny_update' Nl ?_);refine ab (Xn ..) (bj ?_);have vP:({cls:=o.cls,dict:=some h.objs.size,data:=o.data,slots:=o.slots}:aT).isFreed=false:=by
   have:=(Heap.get?_some_iff.mp hx).2
   obtain⟨oc,od,Xo,Xp⟩:=o;subst G3
   rfl
  have Nm:((h.push {cls:=.type "dict",data:=.dict #[]}).update f λo=>{cls:=o.cls,dict:=some h.objs.size,data:=o.data,slots:=o.slots}).get? f=some {cls:=o.cls,dict:=some h.objs.size,data:=o.data,slots:=o.slots}:=
   Fe _ Nl vP
  have Xq:((h.push {cls:=.type "dict",data:=.dict #[]}).update f λo=>{cls:=o.cls,dict:=some h.objs.size,data:=o.data,slots:=o.slots}).get? h.objs.size=some {cls:=.type "dict",data:=.dict #[]}:=
   (aqG _ _ _ _ yz.symm).trans (Heap.get?_push_at rfl rfl)
  have rU:((h.push {cls:=.type "dict",data:=.dict #[]}).update f λo=>{cls:=o.cls,dict:=some h.objs.size,data:=o.data,slots:=o.slots}).Ns h.objs.size (λ_z=>none):=
   ⟨_,#[],_,Xq,rfl,λe he=>absurd he (by simp),λ_z=>rfl⟩
  refine aA (bj (aA (wpAny_nsSet1 (Heap.Ns1.of_empty rU) λh' lE hs=>?_)));refine gY (lE.count (Within.cons name v Within.nil)) λoD Xr Xs Bl G4 G5=>aA (aqn Bl (by refine ab (G4 ..) ?_;exact aqf (dG G5 (by refine ab (cH ..) ?_;refine ab (lS ..) ?_;refine ab (sizeLine_eq ..) ?_;exact(by decide)))) ?_)
  wp_walk
  have hold:∀b ob,b≠f->h.get? b=some ob->h'.get? b=some ob:=λb ob hb e=>
   (hs.2 b (rq (kj e))).trans ((aqG _ _ _ _ hb).trans (iD _ e))
  refine hq h' _ h.objs.size ⟨(hs.2 f yz).trans Nm,yz.symm,?_,λb ob hb _z e=>hold b ob hb e,λb e=>?_⟩ (.inl ⟨Nk,?_⟩)
  ·exact pY lE λo' es ep e1 e2 e3 eu e4=>⟨o',es,ep,e1,e2,e3,eu,λy=>by refine ab (e4 y ..) ?_;by_cases hy:y=name<;>simp[hy,Xm]⟩
  ·induction q:h.get? b with
   | none=>rfl
   | some ob=>
    by_cases hb:b=f
    ·subst b;rw[hs.2 f yz,Nm]at e;exact kn e
    ·rw[hold b ob hb q]at e;exact kn e
  ·induction q:h.get? h.objs.size with
   | none=>rfl
   | some ob=>exact absurd (kj q) (nJ _)
 ·refine fj d5 λdx G6 eA pt=>ab (G6 ..) ?_
  refine bj ?_;refine aA (bj (aA (wpAny_nsSet1 pt λh' lE hs=>?_)));refine gY (lE.count (Within.cons name v hw)) λoD Xr Xs Bl G4 G5=>aA (aqn Bl (by refine ab (G4 ..) ?_;exact aqf (dG G5 (by refine ab (cH ..) ?_;refine ab (sizeLine_eq ..) ?_;exact dG hsz (by decide)))) ?_)
  wp_walk
  have Xu:h'.get? f=some {cls:=o.cls,dict:=some dx,data:=o.data,slots:=o.slots}:=by
   refine((hs.2 f eA.symm).trans hx).trans ?_;obtain⟨oc,od,Xo,Xp⟩:=o;subst G6
   rfl
  exact hq h' _ dx ⟨Xu,eA,lE,λb ob _z Xv e=>(hs.2 b Xv).trans e,λb e=>by
   by_cases q:b=dx
   ·subst b;rw[Bl]at e;exact kn e
   ·exact(hs.2 b q).symm.trans e⟩ (.inr G6)
theorem Nn {o:aT} {name:ai} {v:ac} {Q:Unit->ak->Prop} {ns:List ai} (hx:h.get? f=some o) (hc:o.cls=.type "function") (hf:∃fd,o.data=.func fd)
  (hd:(o.dict=none/\∀y,m y=none)\/∃D,o.dict=some D/\D≠f/\h.Ns1 D m) (gm:kM (.type "function") name=pure none) (hw:Within m ns) (hsz:ns.length<100)
  (hq:∀h' qi D,Bk h h' f o m name v D->((o.dict=none/\h.get? D=none)\/o.dict=some D)->Q () ⟨h',g,d,qi,os⟩) :
  aR (model prog w) A (setAttr (.ref f) name v) Q E ⟨h,g,d,t,os⟩:=by
 have hT:(⟨h,g,d,t,os⟩:ak).TypeIs (.ref f) "function":= ⟨_,hx,hc⟩;have G2:(⟨h,g,d,t+1,os⟩:ak).TypeIs (.ref f) "function":= ⟨_,hx,hc⟩;have f1:=rT.slot.lookup;have f3:=rT.slot.bind (.ref f)
 repeat (any_goals (first|assumption|(with_reducible refine UG hx ?_;rw[hc])|(rw[f1])|wp_step))
 refine aqe rT.slot.plain rT.entry (rT.slot.check _ _ _ _ _ _ _ _ G2 (rT.args _ _ _) (Xj hx hc hf hd gm hw hsz λh' qi D x y=>?_))
 repeat (any_goals (first|assumption|wp_step))
 exact hq h' qi D x y
end
end Internal
namespace Internal
open PySem PySem.W PyProof.Rows
section
variable {prog:iS}{w:bD}{K:Type}[DecidableEq K]{knd:KeyKind prog w K}{A:bC}{E:ac->ak->Prop}{s:ak}
theorem Xw{d:al}{ax:List (K×ac)}{k:K}{key v:ac}{Q:Unit->ak->Prop}(vQ:knd.is k key=true)(hm:s.heap.DictOf knd d ax)
  (hQ:∀h',h'.DictOf knd d (stored ax k v)->Heap.SameBut d s.heap h'->Q () {s with heap:=h'}) (hsz:ax.length<=gI):aR (model prog w) A (EX d (knd.hash k) key v) Q E s:=by
 refine nM hm λo es ep ho hc hd hk hp hn=>?_;clear hm
 have bH:es.size<=gI:=by
  have e1:=hp.length;have e2:es.toList.length=es.size:=rfl;exact LZ e2 (Fz e1 hsz)
 refine aA (wpAny_dictFind_of vQ ho hd hk ?_);have vR:(es.findIdx? λe=>knd.is k e.key)=ax.findIdx? λkv=>decide (kv.1=k):=by
  refine bX (hp.findIdx k ..) ?_;obtain⟨l⟩:=es;simp
 induction hi:es.findIdx? λe=>knd.is k e.key with
 | some i=>
  refine wpAny_updateDict ho hd (hQ _ ⟨_,_,ep,Fe _ ho (arE (arC hd _)),hc.mapDict _,arC hd _,hk.modify _ _,?_,?_⟩ (tn ..))
  ·rw[stored,if_pos (aqa (vR▸hi))];have hl:(es.toList.findIdx? λe=>knd.is k e.key)=some i:=by refine bX (hi ..) ?_;obtain⟨l⟩:=es;simp
   have:=hp.modify hn hl v
   obtain⟨l⟩:=es;simpa using this
  ·rw[stored,if_pos (aqa (vR▸hi)),keys_map_store];exact hn
 | none=>
  have No:=not_mem_of_findIdx_none (vR▸hi);have Np:¬(ax.any λkv=>decide (kv.1=k))=true:=by
   rw[UZ];rintro ⟨kv,Bm,he⟩;exact No (dF.mpr ⟨kv,Bm,of_decide_eq_true he⟩)
  refine wpAny_updateDictKeys (hz:=bH) ho hd (hQ _ ⟨_,_,ep+1,Fe _ ho (arE (arD hd _)),hc.mapDictKeys _,arD hd _,hk.push vQ _,?_,?_⟩ (tn ..))
  ·rw[stored,if_neg Np]
   have:=hp.append vQ (knd.hash k) v
   obtain⟨l⟩:=es;simpa using this
  ·rw[stored,if_neg Np,mE,tB];refine⟨hn,by simp,?_⟩;intro a ha b hb;simp only[jE,tx,cO]at hb;subst b;exactλe=>No (e▸ha)
theorem Nq{d o:al}{ax more:List (K×ac)}{Q:Unit->ak->Prop}(Xx:∀k key,knd.is k key=true->∀b,key≠.ref b)(tK:d≠o)(Xy:(o==il)=false)(hd:s.heap.DictOf knd d ax)(ho:s.heap.DictOf knd o more)
  (hQ:∀h',h'.DictOf knd d (merged ax more)->Heap.SameBut d s.heap h'->Q () {s with heap:=h'}) (hsz:ax.length+more.length<=gI):aR (model prog w) A (E5 d (.ref o) false) Q E s:=by
 refine nM (id hd) λod esd epd Xz jr vS hkd hpd rU=>nM (id ho) λoo kW epo Bn Nr yA Nt Nu hno=>?_
 have hT:=ho.typeIs;have eX:more.length=kW.size:=by refine bX (Nu.length ..) ?_;rfl
 have rV:aR (model prog w) A (do
   let l <-Lf o
   let XA <-Lg o
   forIn (aD l.size) gX λi (_:PUnit)=>(do
     let l' <-Lf o
     match l'[i]? with
      | some e=>do
       holding [e.key,e.val] (EX d e.hash e.key e.val)
       let AR <-Lg o
       if(AR !=XA)=true then do
         (unsupported "dict.changed-during-merge": bo PUnit)
         pure (g9 gX)
        else pure (g9 gX)
      | _=>do
       (unsupported "dict.changed-during-merge": bo PUnit)
       pure (g9 gX):bo (ForInStep PUnit))
   pure ()) Q E s:=by
  refine aA (vd Bn yA ?_);refine aA (Ls Bn yA ?_);refine aA (ab (arj ..) ?_);refine UE _
   (λrest _ s'=>∃h' i,s'={s with heap:=h'}/\rest=lU i (kW.size-i)/\i<=kW.size/\h'.DictOf knd d (merged ax (more.take i))/\h'.get? o=some oo/\Heap.SameBut d s.heap h')
   _ ?_ ?_ _ _ ⟨s.heap,0,rfl,by simp,tE _,by simpa[merged]using hd,Bn,asb _ _⟩
  ·intro x rest b s' d5;refine lZ d5 λh' i ag hr hi cU=>?_;clear d5;refine bP cU λip G7 io=>?_;clear cU;subst ag
   have fB:i<kW.size:=by
    rcases arr i kW.size with h|h
    ·exact h
    ·rw[Nat.sub_eq_zero_of_le h]at hr;simp at hr
   obtain⟨rfl,XB⟩:x=i/\rest=lU (i+1) (kW.size-(i+1)):=by
    have e:=L4 fB;rw[e,Av]at hr
    injection hr with h1 h2
    exact⟨h1,h2⟩
   refine aA (vd G7 yA ?_);refine ab (UL fB) ?_;obtain⟨kv,Bm⟩:∃kv,more[x]?=some kv:=⟨more[x]'(by refine ab (eX ..) ?_;exact fB),Fk _⟩;obtain⟨k,v⟩:=kv;refine xA (Nu.get? (e:=kW[x]) (by simp[fB]) Bm) λvQ XD=>ah (Nt kW[x] (Array.getElem_mem fB)) λk' XE XF=>?_
   obtain rfl:k'=k:=knd.inj _ _ _ XE vQ
   show aR _ _ (holding [kW[x].key,kW[x].val] (EX d kW[x].hash kW[x].key kW[x].val)>>=_) _ _ _
   refine ab (XF ..) ?_;refine ab (XD ..) ?_;have XG:(merged ax (more.take x)).length<=gI:=by
    have e1:=merged_length_le ax (more.take x);have e2:(more.take x).length<=more.length:=by refine ab (lr ..) ?_;exact Nat.min_le_right _ _
    exact dG e1 (dG (Fp e2 _) hsz)
   refine aA (fY (Xw vQ ip (λn8 XH Nv=>?_) XG));have Nw:=(Nv.2 o (vq tK)).trans G7;refine aA (Ls Nw yA ?_);exact ab (if_neg (by simp)) (bj ⟨n8,x+1,rfl,XB,fB,by refine ab (merged_take_succ ax more x (k',v) Bm ..) ?_;exact XH,Nw,io.trans Nv⟩)
  ·intro b s' d5;refine lZ d5 λh' i ag hr hi cU=>?_;clear d5;refine bP cU λip G7 io=>?_;clear cU;subst ag
   have mV:i=kW.size:=by
    rcases arr i kW.size with h|h
    ·have e:=L4 h;rw[e,Av]at hr;exact nomatch hr
    ·exact LU hi h
   rw[mV,<-eX,arm]at ip;exact bj (hQ h' ip io)
 refine aA (aqk hT (b:=true) (by refine ab (E4 ..) ?_;kernel_rfl) ?_);refine aA (xF hT F.slot_dict_iter.lookup ?_)
 show aR _ A (if(o==il)=true then _ else _) _ _ _
 refine ab (Xy ..) ?_;refine ab (if_neg LA ..) ?_;refine aA (vd Xz vS ?_);dsimp only;split
 ·refine aA (vd Bn yA ?_);refine aA ?_;refine bX (Array.forIn_toList ..) ?_;refine UE _ (λrest _ s'=>s'=s/\∀e∈rest,∃k,knd.is k e.key=true) _ ?turn ?fin _ _ ⟨rfl,?ini⟩
  case turn=>
   intro e rest b s' d5;refine xA d5 λq he=>?_;clear d5
   subst s';refine xE (he e bT) λk hk=>?_
   have eA:=Xx k e.key hk;split
   ·rename_i b' q
    exact absurd q (eA b')
   ·exact bj ⟨rfl,λe' h'=>he e' (bL _ h')⟩
  case fin=>
   intro b s' d5;refine xA d5 λq _=>?_;clear d5
   subst s';exact rV
  case ini=>
   intro e he;exact ah (Nt e (Array.mem_def.mpr he)) λk h1 _=>⟨k,h1⟩
 ·exact rV
end
structure Sg where
 ρ:List al
 φ:List (al×aT)
structure t0 where
 body:ar
 scope:dQ
 params:rh
 free:List ai
structure Cx where
 lam:Nat->Option t0
 prog:iS
 w:bD
 h₀:cD
 G:Nat->ac
 tabs:List al
 rW:List (al×al)
 T:Tb
 θ:Th
 cls:al
def hU(C:Cx)(ax:List (ai×ac))(o:aT):Prop:=
 ∃es ep,o.ExactDict/\o.data=.dict es ep/\KeysOf (ki C.prog C.w) es/\Pairs (ki C.prog C.w) es.toList ax/\(ax.map (·.1)).Nodup
theorem hU.dictOf{C:Cx}{ax:List (ai×ac)}{o:aT}(x:hU C ax o){h:cD}{a:al}(e:h.get? a=some o):h.DictOf (ki C.prog C.w) a ax:=
 fL x λes ep r=>⟨o,es,ep,e,r⟩
theorem hU.of{C:Cx}{h:cD}{a:al}{ax:List (ai×ac)}(x:h.DictOf (ki C.prog C.w) a ax):∃o,h.get? a=some o/\hU C ax o:=
 dN x λo es ep e r=>⟨o,e,es,ep,r⟩
def vU(m:ai->Option ac)(o:aT):Prop:=∃es ep,o.data=.dict es ep/\StrKeys es/\UniqKeys es/\∀name,nsFind es name=m name
theorem vU.ns{m:ai->Option ac}{o:aT}(x:vU m o){h:cD}{a:al}(e:h.get? a=some o):h.Ns1 a m:=
 fL x λes ep r=>⟨o,es,ep,e,r⟩
theorem vU.of{h:cD}{a:al}{m:ai->Option ac}(x:h.Ns1 a m):∃o,h.get? a=some o/\vU m o:=
 dN x λo es ep e r=>⟨o,e,es,ep,r⟩
noncomputable def j5(items:Array ac)(n:Nat):aT:=⟨.type "tuple",none,.seq items n,#[]⟩
noncomputable def jO(items:Array ac)(n:Nat):aT:=⟨.type "list",none,.seq items n,#[]⟩
mutual
inductive VR(C:Cx)(σ:Sg):V->ac->Prop
 | none:VR C σ .none .none
 | bool (b:Bool):VR C σ (.bool b) (.bool b)
 | int (i:Int) (t:Tok):VR C σ (.int i) (.int i t)
 | str (x:Tx) (t:Tok):VR C σ (.str x) (.str (aL C.θ x) t)
 | tup {l:List V} {a:al} {items:Array ac} {n:Nat}:(a,j5 items n)∈σ.φ->az C σ l items.toList->VR C σ (.tup l) (.ref a)
 | fl {l:List V} {a:al} {items:Array ac} {n:Nat}:(a,jO items n)∈σ.φ->az C σ l items.toList->VR C σ (.fl l) (.ref a)
 | fd {l:List (Tx×V)} {a:al} {o:aT} {ax:List (ai×ac)}:(a,o)∈σ.φ->hU C ax o->cM C σ l ax->VR C σ (.fd l) (.ref a)
 | loc {n:Nat} {a:al}:σ.ρ[n]?=some a->VR C σ (.loc n) (.ref a)
 | bh (g:Nat):VR C σ (.bh g) (C.G g)
 | ins {l:List (Tx×V)} {a d:al} {o od:aT} {ax:List (ai×ac)}:(a,o)∈σ.φ->o.cls=.ref C.cls->o.dict=some d->(∀q,o.data≠.cls q)->(d,od)∈σ.φ->d≠a->vU (ax.lookup ·) od ->
   (∀n g,C.T.l9 n=some g->ax.lookup ⟨n.toArray⟩=none)->cM C σ l ax->VR C σ (.ins l) (.ref a)
 | raw (x:ai) (t:Tok):VR C σ (.raw x t) (.str x t)
inductive az(C:Cx)(σ:Sg):List V->List ac->Prop
 | nil:az C σ [] []
 | cons {v:V} {l:List V} {c:ac} {cs:List ac}:VR C σ v c->az C σ l cs->az C σ (v::l) (c::cs)
inductive cM(C:Cx)(σ:Sg):List (Tx×V)->List (ai×ac)->Prop
 | nil:cM C σ [] []
 | cons {x:Tx} {v:V} {c:ac} {l:List (Tx×V)} {cs:List (ai×ac)}:VR C σ v c->cM C σ l cs->cM C σ ((x,v)::l) ((aL C.θ x,c)::cs)
end
section
variable {C:Cx}{σ:Sg}{c:ac}
def XI(C:Cx)(σ:Sg)(v:V)(c:ac):Prop:=match v with
 | .none=>c=.none
 | .bool b=>c=.bool b
 | .int i=>∃t,c=.int i t
 | .str x=>∃t,c=.str (aL C.θ x) t
 | .tup l=>∃(a:al) (items:Array ac) (n:Nat),(a,j5 items n)∈σ.φ/\az C σ l items.toList/\c=.ref a
 | .fl l=>∃(a:al) (items:Array ac) (n:Nat),(a,jO items n)∈σ.φ/\az C σ l items.toList/\c=.ref a
 | .fd l=>∃(a:al) (o:aT) (ax:List (ai×ac)),(a,o)∈σ.φ/\hU C ax o/\cM C σ l ax/\c=.ref a
 | .loc n=>∃a,σ.ρ[n]?=some a/\c=.ref a
 | .bh g=>c=C.G g
 | .ins _=>True
 | .raw x t=>c=.str x t
theorem VR.inv{v:V}(h:VR C σ v c):XI C σ v c:=by
 cases h with
 | none=>rfl
 | bool=>rfl
 | int i t=>exact⟨t,rfl⟩
 | str x t=>exact⟨t,rfl⟩
 | tup a b=>exact vy _ _ _ a b rfl
 | fl a b=>exact vy _ _ _ a b rfl
 | fd a b d=>exact FT _ _ _ a b d rfl
 | loc a=>exact aW _ a rfl
 | bh=>rfl
 | ins=>trivial
 | raw x t=>rfl
end
structure Sg.Le(σ aa:Sg):Prop where
 ρ:∀(n:Nat) (a:al),σ.ρ[n]?=some a->aa.ρ[n]?=some a
 φ:∀x,x∈σ.φ->x∈aa.φ
theorem Sg.Le.refl(σ:Sg):Sg.Le σ σ:=⟨λ_z _z e=>e,λ_z e=>e⟩
theorem VR.mono{C:Cx}{σ aa:Sg}(h:Sg.Le σ aa){v:V}{c:ac}(x:VR C σ v c):VR C aa v c:=
 VR.rec (motive_1:=λv c _=>VR C aa v c) (motive_2:=λl cs _=>az C aa l cs) (motive_3:=λl cs _=>cM C aa l cs) .none .bool .int .str (λa _ b=>.tup (h.φ _ a) b) (λa _ b=>.fl (h.φ _ a) b) (λa b _ c=>.fd (h.φ _ a) b c) (λe=>.loc (h.ρ _ _ e)) .bh
  (λa1 a2 a3 a4 a5 a6 a7 a8 _ a9=>.ins (h.φ _ a1) a2 a3 a4 (h.φ _ a5) a6 a7 a8 a9) (λx t=>.raw x t) .nil (λ_ _ a b=>.cons a b) .nil (λ_ _ a b=>.cons a b) x
theorem az.ind{C:Cx}{σ:Sg}{P:List V->List ac->Prop}(h0:P [] [])(h1:∀v l c cs,VR C σ v c->az C σ l cs->P l cs->P (v::l) (c::cs)):∀{l:List V} {cs:List ac},az C σ l cs->P l cs:=by
 intro l;induction l with
 | nil=>intro cs x;cases x;exact h0
 | cons v l ih=>intro cs x;cases x with|cons a b=>exact h1 _ _ _ _ a b (ih b)
theorem az.mono{C:Cx}{σ aa:Sg}(h:Sg.Le σ aa){l:List V}{cs:List ac}(x:az C σ l cs):az C aa l cs:=
 x.ind (P:=λl cs=>az C aa l cs) .nil λ_ _ _ _ a _ b=>.cons (a.mono h) b
theorem az.length{C:Cx}{σ:Sg}{l:List V}{cs:List ac}(x:az C σ l cs):l.length=cs.length:=
 x.ind (P:=λl cs=>l.length=cs.length) rfl λ_ _ _ _ _ _ e=>congrArg (·+1) e
theorem az.get{C:Cx}{σ:Sg}{l:List V}{cs:List ac}(x:az C σ l cs):∀{i:Nat} {v:V},l[i]?=some v->∃c,cs[i]?=some c/\VR C σ v c:=
 x.ind (P:=λl cs=>∀{i:Nat} {v:V},l[i]?=some v->∃c,cs[i]?=some c/\VR C σ v c) (λe=>au e) λw _ c _ a _ ih i v e=>by
  induction i with
  | zero=>exact(aW c rfl (aI (show some w=some v from e)▸a))
  | succ i=>exact ih e
theorem az.append{C:Cx}{σ:Sg}{l l':List V}{cs t3:List ac}(x:az C σ l cs)(y:az C σ l' t3):az C σ (l++l') (cs++t3):=
 x.ind (P:=λl cs=>az C σ (l++l') (cs++t3)) y λ_ _ _ _ a _ b=>.cons a b
theorem az.take{C:Cx}{σ:Sg}{l:List V}{cs:List ac}(x:az C σ l cs):∀n,az C σ (l.take n) (cs.take n):=
 x.ind (P:=λl cs=>∀n,az C σ (l.take n) (cs.take n)) (λn=>by induction n<;>exact .nil) λ_ _ _ _ a _ b n=>by
  induction n with
  | zero=>exact .nil
  | succ n=>exact .cons a (b n)
theorem az.drop{C:Cx}{σ:Sg}{l:List V}{cs:List ac}(x:az C σ l cs):∀n,az C σ (l.drop n) (cs.drop n):=
 x.ind (P:=λl cs=>∀n,az C σ (l.drop n) (cs.drop n)) (λn=>by induction n<;>exact .nil) λ_ _ _ _ a y b n=>by
  induction n with
  | zero=>exact .cons a y
  | succ n=>exact b n
theorem cM.ind{C:Cx}{σ:Sg}{P:List (Tx×V)->List (ai×ac)->Prop}(h0:P [] [])(h1:∀x v l c cs,VR C σ v c->cM C σ l cs->P l cs->P ((x,v)::l) ((aL C.θ x,c)::cs)):∀{l:List (Tx×V)} {cs:List (ai×ac)},cM C σ l cs->P l cs:=by
 intro l;induction l with
 | nil=>intro cs x;cases x;exact h0
 | cons v l ih=>intro cs x;cases x with|cons a b=>exact h1 _ _ _ _ _ a b (ih b)
theorem cM.mono{C:Cx}{σ aa:Sg}(h:Sg.Le σ aa){l:List (Tx×V)}{cs:List (ai×ac)}(x:cM C σ l cs):cM C aa l cs:=
 x.ind (P:=λl cs=>cM C aa l cs) .nil λ_ _ _ _ _ a _ b=>.cons (a.mono h) b
theorem Bo(θ:Th)(x y:Tx):den θ (x++y)=den θ x++den θ y:=by
 induction x with
 | nil=>rfl
 | cons a x ih=>exact(congrArg (a.den θ++·) ih).trans (gJ ..).symm
theorem XJ(θ:Th)(x y:Tx):aL θ (x++y)=aL θ x++aL θ y:=by
 show Fy _=Str.append _ _
 unfold aL Str.append;rw[Bo];simp
def pu(C:Cx)(σ:Sg)(lF:ac):Prop:=∃a o vs q t,lF=.ref a/\o.data=.fields vs/\vs[1]?=some (.str q t)/\((a,o)∈σ.φ\/(C.h₀.get? a=some o/\a∉C.tabs))
theorem pu.mono{C:Cx}{σ aa:Sg}{lF:ac}(x:pu C σ lF)(h:Sg.Le σ aa):pu C aa lF:=
 tH x λa o vs q t e1 e2 e3 e4=>⟨a,o,vs,q,t,e1,e2,e3,e4.imp (h.φ _) id⟩
structure Bp(C:Cx)(σ:Sg)(l:t0)(fd:nC):Prop where
 body:fd.body=.expr l.body
 scope:fd.scope=l.scope
 params:fd.params=l.params
 globals:fd.globals=kh
 builtins:fd.builtins=lP
 defaults:fd.defaults=.none
 kwd:fd.kwdefaults=.none
 code:pu C σ fd.code
theorem Bp.mono{C:Cx}{σ aa:Sg}{l:t0}{fd:nC}(x:Bp C σ l fd)(h:Sg.Le σ aa):Bp C aa l fd:=⟨x.body,x.scope,x.params,x.globals,x.builtins,x.defaults,x.kwd,x.code.mono h⟩
def yB(C:Cx)(σ:Sg)(cl:List (ai×al))(free:List ai)(caps:List V):Prop:=
 caps.length=free.length/\(free.map (cl.lookup ·)).Nodup/\∀(j:Nat) (n:ai),free[j]?=some n->∃(a:al) (oc:aT) (cv:ac) (v:V),cl.lookup n=some a/\(a,oc)∈σ.φ/\oc.data=.cell (some cv)/\caps[j]?=some v/\VR C σ v cv
def KR(C:Cx)(σ:Sg)(k:Kd)(o:aT):Prop:=match k with
 | .fn id caps=>o.cls=.type "function"/\ ∃fd lt,o.data=.func fd/\C.lam id=some lt/\Bp C σ lt fd/\yB C σ fd.closure lt.free caps
 | .ins=>o.cls=.ref C.cls/\∀q,o.data≠.cls q
section
variable (C:Cx)(σ:Sg)(h:cD)
def OR(o:O)(a:al):Prop:=match o with
 | .list l=>∃items,h.PlainList a items/\az C σ l items.toList
 | .dict l=>∃ax,h.DictOf (ki C.prog C.w) a ax/\cM C σ l ax
 | .ob k d=>∃o,h.get? a=some o/\KR C σ k o/\match d with
  | none=>o.dict=none/\k≠.ins
  | some j=>∃D,o.dict=some D/\σ.ρ[j]?=some D/\D≠a
 | .at_ l=>∃ax,h.Ns1 a (ax.lookup ·)/\cM C σ l ax/\ax.length<60
end
theorem KR.mono{C:Cx}{σ aa:Sg}(h:Sg.Le σ aa){k:Kd}{o:aT}(x:KR C σ k o):KR C aa k o:=by
 induction k with
 | ins=>exact x
 | fn id caps=>exact xA x λe y=>fL y λfd lt y=>iV y λe1 e2 e3 e4 e6 e5=>⟨e,fd,lt,e1,e2,e3.mono h,e4,e6,λj n q=>lw (e5 j n q) λa oc cv v z=>xV z λz1 z2 z3 z4 z5=>⟨a,oc,cv,v,z1,h.φ _ z2,z3,z4,z5.mono h⟩⟩
theorem OR.mono{C:Cx}{σ aa:Sg}{h h':cD}{o:O}{a:al}(x:OR C σ h o a)(hl:Sg.Le σ aa)(h0:∀ob,h.get? a=some ob->h'.get? a=some ob):OR C aa h' o a:=by
 induction o with
 | list l=>refine ah x λitems ag r=>xE ag λn g=>⟨items,⟨n,h0 _ g⟩,r.mono hl⟩
 | dict l=>refine ah x λax ag z=>dN ag λo es ep g r=>⟨ax,⟨o,es,ep,h0 _ g,r⟩,z.mono hl⟩
 | ob k d=>
  refine fj x λo g e r=>⟨o,h0 _ g,e.mono hl,?_⟩
  induction d with
  | none=>exact r
  | some j=>exact fj r λD q1 q2 q3=>⟨D,q1,hl.ρ _ _ q2,q3⟩
 | at_ l=>refine fj x λax ag z n=>dN ag λo es ep g r=>⟨ax,⟨o,es,ep,h0 _ g,r⟩,z.mono hl,n⟩
theorem OR.has{C:Cx}{σ:Sg}{h:cD}{o:O}{a:al}(x:OR C σ h o a):(h.get? a).isSome=true:=by
 have(o:aT) (g:h.get? a=some o):(h.get? a).isSome=true:=by rw[g];rfl
 induction o with
 | list l=>exact ah x λitems ag _z=>xE ag λn g=>this _ g
 | dict l=>exact ah x λax ag z=>dN ag λo es ep g r=>this _ g
 | ob k d=>exact fj x λo g _z _z=>this _ g
 | at_ l=>exact fj x λax ag _z _z=>dN ag λo es ep g r=>this _ g
noncomputable def t4(vs:Array ac):aT:={cls:=.none,data:=.fields vs}
def Bq(C:Cx)(σ:Sg)(h:cD):Prop:=
 (∀t∈C.tabs,∃ps more,C.h₀.get? t=some (t4 ps)/\h.get? t=some (t4 (ps++more))) /\
 ∀ct∈C.rW,ct.2∈C.tabs/\ct.1∉C.tabs/\(C.h₀.get? ct.1).isSome=true/\∃ps,h.IsCode ct.1 ct.2 ps/\∀pos c,Af pos ps.toList=some c ->
  ∃a o vs q t,c=.ref a/\o.data=.fields vs/\vs[1]?=some (.str q t)/\((a,o)∈σ.φ\/(C.h₀.get? a=some o/\a∉C.tabs))
theorem G8{h:cD}{c P:al}{ps:Array ac}(x:h.IsCode c P ps):∃op,h.get? P=some op/\op.data=.fields ps/\K8 ps.toList/\c≠P:=
 FN x λo vs Br tf Bs y=>tH y λtg Bt Bu tt op a r1 r2 y=>iV y λr3 r4 r5 r6 b r=>⟨op,b,r⟩
theorem Nx{h h':cD}{c P:al}{ps qs:Array ac}{op:aT}(x:h.IsCode c P ps)(kc:∀o,h.get? c=some o->h'.get? c=some o)(g:h'.get? P=some op)(hd:op.data=.fields qs)(ht:K8 qs.toList):h'.IsCode c P qs:=
 FN x λo vs Br tf Bs y=>tH y λtg Bt Bu tt XK a r1 r2 y=>iV y λr3 r4 r5 r6 b r=>⟨o,vs,Br,tf,Bs,tg,Bt,Bu,tt,op,kc o a,r1,r2,r3,r4,r5,r6,g,hd,ht,r.2.2⟩
theorem Ny{h h':cD}{c P:al}{ps:Array ac}(x:h.IsCode c P ps)(kc:∀o,h.get? c=some o->h'.get? c=some o)(kP:∀o,h.get? P=some o->h'.get? P=some o):h'.IsCode c P ps:=
 vu (G8 x) λop b d t _=>Nx x kc (kP op b) d t
theorem Bq.mono{C:Cx}{σ aa:Sg}{h h':cD}(x:Bq C σ h)(le:Sg.Le σ aa)(kt:∀t∈C.tabs,∀o,h.get? t=some o->h'.get? t=some o)
  (k0:∀b o,C.h₀.get? b=some o->b∉C.tabs->h.get? b=some o->h'.get? b=some o) (hb:∀b o,C.h₀.get? b=some o->b∉C.tabs->h.get? b=some o):Bq C aa h':=by
 refine⟨λt m=>?_,λct m=>?_⟩
 ·exact be (x.1 t m) λps more e1 e2=>(vx ps more e1 (kt t m _ e2))
 ·exact AH (x.2 ct m) λm1 m2 m3 ps hc z=>xE (pV.mp m3) λo0 e0=>⟨m1,m2,m3,ps,Ny hc (λo e=>aI ((hb _ _ e0 m2).symm.trans e)▸k0 _ _ e0 m2 (hb _ _ e0 m2)) (kt _ m1),λpos c e=>
   tH (z pos c e) λa' o' vV q t h1 h2 h3 h4=>(Mn a' o' vV q t h1 h2 h3 (h4.imp (le.φ _) id))⟩
structure Rep(C:Cx)(σ:Sg)(st:St)(s:ak):Prop where
 n:st.n=σ.ρ.length
 l:st.l.length=st.n
 obj:∀(i:Nat) (a:al),σ.ρ[i]?=some a->∃o,st.get i=some o/\OR C σ s.heap o a
 nd:σ.ρ.Nodup
 new:∀a∈σ.ρ,C.h₀.get? a=none
 df:∀x∈σ.φ,s.heap.get? x.1=some x.2/\x.1∉σ.ρ/\x.1∉C.tabs/\C.h₀.get? x.1=none
 base:∀b o,C.h₀.get? b=some o->b∉C.tabs->s.heap.get? b=some o
 code:Bq C σ s.heap
structure Step(ow:List al)(σ aa:Sg)(s s':ak):Prop where
 ρ:∃m,aa.ρ=σ.ρ++m/\∀a∈m,s.heap.get? a=none
 φ:∃m,aa.φ=σ.φ++m/\∀x∈m,s.heap.get? x.1=none\/x.1∈ow
 keep:∀b o,s.heap.get? b=some o->b∉σ.ρ->b∉ow->s'.heap.get? b=some o
 dom:∀b,s'.heap.get? b=none->s.heap.get? b=none
 same:∃h' tk,s'={s with heap:=h',toks:=tk}
theorem Step.refl(ow:List al)(σ:Sg)(s:ak):Step ow σ σ s s:=
 ⟨(aW ([]) (by simp) (λ_z q=>(nomatch q))),(aW ([]) (by simp) (λ_z q=>(nomatch q))),λ_z _z e _z _z=>e,λ_z e=>e,(gK _ _ rfl)⟩
theorem Step.le{ow:List al}{σ aa:Sg}{s s':ak}(x:Step ow σ aa s s'):Sg.Le σ aa:=by
 refine ah x.ρ λm e _z=>ah x.φ λm' e' _z=>⟨λn w h=>?_,λz h=>?_⟩
 ·rw[e,pQ]
  ·exact h
  ·exact(gW.mp h).1
 ·exact ab (e') (jF _ h)
theorem Step.trans{ow:List al}{σ Nz NA:Sg}{s d7 j3:ak}(x:Step ow σ Nz s d7)(y:Step ow Nz NA d7 j3):Step ow σ NA s j3:=by
 refine ah x.ρ λm e hm=>ah y.ρ λm' e' t5=>ah x.φ λn f hn=>ah y.φ λn' f' lE=>⟨(aW (m++m') (by rw[e',e,gJ]) (λa q=>?_)),(aW (n++n') (by rw[f',f,gJ]) (λa q=>?_)),λb o g h1 h2=>?_,λb g=>x.dom b (y.dom b g),?_⟩
 ·rcases dc.mp q with q|q
  ·exact hm a q
  ·exact x.dom a (t5 a q)
 ·rcases dc.mp q with q|q
  ·exact hn a q
  ·exact(lE a q).imp (x.dom _) id
 ·refine y.keep b o (x.keep b o g h1 h2) (λz=>?_) h2;rw[e]at z;rcases dc.mp z with z|z
  ·exact h1 z
  ·rw[hm b z]at g;exact au g
 ·refine fL x.same λh' tk ag=>?_;subst ag
  refine fL y.same λn8 qi ag=>?_;subst ag
  exact(gK n8 qi rfl)
theorem Step.fU{ow NB:List al}{σ aa:Sg}{s s':ak}(x:Step ow σ aa s s')(h:∀a∈ow,a∈NB):Step NB σ aa s s':=
 ⟨x.ρ,ah x.φ λm e hm=>⟨m,e,λz hz=>(hm z hz).imp id (h _)⟩,λb o g h1 h2=>x.keep b o g h1 λz=>h2 (h b z),x.dom,x.same⟩
theorem Step.drop{ow:List al}{σ aa:Sg}{s s':ak}{L:List al}(x:Step (L++ow) σ aa s s')(hL:∀a∈L,s.heap.get? a=none\/a∈ow):Step ow σ aa s s':=
 ⟨x.ρ,ah x.φ λm e hm=>⟨m,e,λz hz=>(hm z hz).elim .inl λq=>(dc.mp q).elim (hL _) .inr⟩,λb o g h1 h2=>x.keep b o g h1 λz=>by
  rcases dc.mp z with z|z
  ·rcases hL b z with q|q
   ·rw[q]at g;exact au g
   ·exact h2 q
  ·exact h2 z,x.dom,x.same⟩
section
variable {C:Cx}{σ:Sg}{st:St}{s:ak}
theorem Rep.has(R:Rep C σ st s){a:al}(m:a∈σ.ρ):(s.heap.get? a).isSome=true:=by
 obtain⟨i,hi,rfl⟩:=List.getElem_of_mem m;exact ah (R.obj i _ (Fk hi)) λo _z x=>x.has
theorem Rep.rX(R:Rep C σ st s){a:al}(h:s.heap.get? a=none):a∉σ.ρ:=λq=>by have:=R.has q;rw[h]at this;exact bV this
theorem Rep.XM(R:Rep C σ st s){t:al}(m:t∈C.tabs):∃o,s.heap.get? t=some o:=by refine be (R.code.1 t m) λps more _z e=>?_;exact⟨_,e⟩
theorem Rep.qk(R:Rep C σ st s){a:al}(h:s.heap.get? a=none):a∉C.tabs:=λq=>by refine xE (R.XM q) λo e=>?_;rw[h]at e;exact au e
theorem Rep.yC(R:Rep C σ st s){t:al}(m:t∈C.tabs):t∉σ.ρ:=λq=>by
 refine be (R.code.1 t m) λps more e _z=>?_
 rw[R.new t q]at e;exact au e
theorem Rep.t6(R:Rep C σ st s){a:al}(h:s.heap.get? a=none):∀x∈σ.φ,x.1≠a:=λx hx q=>by
 subst q;rw[(R.df x hx).1]at h;exact kn h
theorem Rep.ql(R:Rep C σ st s){a:al}(ha:s.heap.get? a=none):C.h₀.get? a=none:=by
 induction e:C.h₀.get? a with
 | none=>rfl
 | some o=>
  by_cases m:a∈C.tabs
  ·exact absurd m (R.qk ha)
  ·rw[R.base a o e m]at ha;exact kn ha
theorem Rep.get(R:Rep C σ st s){n:Nat}{w:al}(h:σ.ρ[n]?=some w){o:O}(e:st.get n=some o):OR C σ s.heap o w:=by
 refine ah (R.obj n w h) λo' e' x=>?_
 rw[e]at e';replace e':=aI e';subst e';exact x
theorem Rep.other(R:Rep C σ st s){S:List al}{s':ak}(k:∀b o,s.heap.get? b=some o->b∉S->s'.heap.get? b=some o)
  (h1:∀a∈S,a∉σ.ρ) (h2:∀a∈S,a∉C.tabs) (h3:∀a∈S,C.h₀.get? a=none) (h4:∀a∈S,∀x∈σ.φ,x.1≠a):Rep C σ st s':=by
 have kb:∀b o,C.h₀.get? b=some o->s.heap.get? b=some o->s'.heap.get? b=some o:=λb o e g=>k b o g λq=>by rw[h3 b q]at e;exact au e
 refine⟨R.n,R.l,λi w e=>?_,R.nd,R.new,λx hx=>?_,λb o e n=>kb b o e (R.base b o e n),R.code.mono (.refl σ) (λt m o e=>k t o e λq=>h2 t q m) (λb o e _z g=>kb b o e g) R.base⟩
 ·exact ah (R.obj i w e) λo e1 x=>(aW o e1 (x.mono (.refl σ) λob z=>k _ ob z λq=>h1 _ q (fK e)))
 ·exact bP (R.df x hx) λa b c=>⟨k _ _ a λq=>h4 _ q x hx rfl,b,c⟩
theorem Rep.grow(R:Rep C σ st s){s':ak}(k:∀b o,s.heap.get? b=some o->s'.heap.get? b=some o):Rep C σ st s':=
 R.other (S:=[]) (λb o e _z=>k b o e) (λ_z q=>(nomatch q)) (λ_z q=>(nomatch q)) (λ_z q=>(nomatch q)) λ_z q=>(nomatch q)
theorem Rep.freeze(R:Rep C σ st s){l:List (al×aT)}(h:∀x∈l,s.heap.get? x.1=some x.2/\x.1∉σ.ρ/\x.1∉C.tabs/\C.h₀.get? x.1=none):Rep C ⟨σ.ρ,σ.φ++l⟩ st s:=by
 have le:Sg.Le σ ⟨σ.ρ,σ.φ++l⟩:=⟨λ_z _z e=>e,λ_z e=>jF _ e⟩;refine⟨R.n,R.l,λi w e=>?_,R.nd,R.new,λx hx=>?_,R.base,R.code.mono le (λ_z _z _z e=>e) (λ_z _z _z _z e=>e) R.base⟩
 ·exact ah (R.obj i w e) λo e1 x=>(aW o e1 (x.mono le λ_z z=>z))
 ·rcases dc.mp hx with hx|hx
  ·exact R.df x hx
  ·exact h x hx
theorem G9(a b:Nat):aH a b=decide (a<b):=by
 by_cases h:a<b
 ·rw[decide_eq_true h];exact cZ h
 ·rw[decide_eq_false h];induction e:aH a b with
  | false=>rfl
  | true=>exact absurd (bF e) h
theorem St.yD{st:St}{o:O}{j:Nat}(hj:j<=st.n):(st.push o).get j=if j=st.n then some o else st.get j:=by
 unfold St.get St.push;simp only[G9]
 by_cases e:j=st.n
 ·subst e;simp[yg]
 ·have h1:j<st.n:=by exact VC hj e
  have h2:j<st.n+1:=L7 h1;simp only[h1,h2,decide_true,if_neg e];rw[show st.n+1-1-j=(st.n-1-j)+1 by exact VA h1]
  rfl
theorem XN(l:List O):∀(k j:Nat) (o:O),k<l.length->yg (AY l k o) j=if j=k then some o else yg l j:=by
 induction l with
 | nil=>exactλ_ _ _ h=>absurd h (xQ _)
 | cons x l ih=>
  intro k j o h;induction k using nI with
  | zero=>induction j using nI with
   | zero=>rfl
   | succ j=>rfl
  | succ k=>induction j using nI with
   | zero=>rfl
   | succ j=>exact(ih k j o (xO h)).trans (by simp only[vm.injEq];rfl)
theorem NC(l:List O):∀(k:Nat) (o:O),(AY l k o).length=l.length:=by
 induction l with
 | nil=>exactλ_ _=>rfl
 | cons x l ih=>exactλk o=>nI k rfl λk=>congrArg (·+1) (ih k o)
theorem St.get_set{st:St}(hl:st.l.length=st.n){i:Nat}{o:O}(hi:i<st.n){j:Nat}(hj:j<st.n):(st.set i o).get j=if j=i then some o else st.get j:=by
 unfold St.get St.set;simp only[G9,hj,decide_true];rw[XN _ _ _ _ (Vz hl hi)]
 by_cases e:j=i
 ·subst e;simp
 ·rw[if_neg e,if_neg (VB hi hj e)]
theorem t7{h h':cD}(k:∀b ob,h.get? b=some ob->h'.get? b=some ob):∀b,h'.get? b=none->h.get? b=none:=λb e=>by
 induction q:h.get? b with
 | none=>rfl
 | some o=>rw[k b o q]at e;exact kn e
theorem Rep.push(R:Rep C σ st s){s':ak}{w:al}{o:O}(k:∀b ob,s.heap.get? b=some ob->s'.heap.get? b=some ob)(ha:s.heap.get? w=none)
  (x:OR C ⟨σ.ρ++[w],σ.φ⟩ s'.heap o w):Rep C ⟨σ.ρ++[w],σ.φ⟩ (st.push o) s':=by
 have R':=R.grow k;have le:Sg.Le σ ⟨σ.ρ++[w],σ.φ⟩:=⟨λn b e=>by
  rw[pQ (gW.mp e).1];exact e,λ_z e=>e⟩
 refine⟨by simp[St.push,R.n],by simp[St.push,R.l],λi b e=>?_,?_,λb m=>?_,λz hz=>?_,R'.base,R'.code.mono le (λ_z _z _z e=>e) (λ_z _z _z _z e=>e) R'.base⟩
 ·by_cases hi:i<σ.ρ.length
  ·have e':σ.ρ[i]?=some b:=by
    have:=e
    simp only at this;rw[pQ hi]at this;exact this
   refine ah (R'.obj i b e') λo' e1 x'=>(aW o' ?_ (x'.mono le λ_z z=>z))
   rw[St.yD (by exact ab (R.n) (fh hi)),if_neg (by exact ab (R.n) (AD hi))];exact e1
  ·have:i=σ.ρ.length:=by
    have:=(gW.mp e).1
    simp only[cS,cH,lS]at this;exact FC hi this
   subst this;simp at e;subst e;exact(aW o (by rw[St.yD (by exact ab (R.n) (dr _)),if_pos R.n.symm]) x)
 ·show(σ.ρ++[w]).Nodup
  rw[tB];exact⟨R.nd,by simp,λb m c m' q=>R.rX ha (cO.mp m'▸q▸m)⟩
 ·rcases dc.mp m with m|m
  ·exact R.new b m
  ·exact ab (cO.mp m) (R.ql ha)
 ·refine bP (R'.df z hz) λa b c=>⟨a,?_,c⟩
  intro m;rcases dc.mp m with m|m
  ·exact b m
  ·exact R.t6 ha z hz (cO.mp m)
theorem Step.push{ow:List al}{w:al}{s':ak}(k:∀b ob,s.heap.get? b=some ob->s'.heap.get? b=some ob)(ha:s.heap.get? w=none)(sm:∃h' tk,s'={s with heap:=h',toks:=tk}) :
  Step ow σ ⟨σ.ρ++[w],σ.φ⟩ s s':=
 ⟨(aW ([w]) rfl (λb m=>cO.mp m▸ha)),(aW ([]) (by simp) (λ_z q=>(nomatch q))),λb o e _z _z=>k b o e,t7 k,sm⟩
theorem Step.grow{ow:List al}{s':ak}(k:∀b ob,s.heap.get? b=some ob->s'.heap.get? b=some ob)(sm:∃h' tk,s'={s with heap:=h',toks:=tk}){l:List (al×aT)}(hl:∀x∈l,s.heap.get? x.1=none) :
  Step ow σ ⟨σ.ρ,σ.φ++l⟩ s s':=
 ⟨(aW ([]) (by simp) (λ_z q=>(nomatch q))),(aW l rfl λx hx=>.inl (hl x hx)),λb o e _z _z=>k b o e,t7 k,sm⟩
theorem Rep.set(R:Rep C σ st s){s':ak}{i:Nat}{w:al}{o:O}(hi:σ.ρ[i]?=some w)(k:∀b ob,b≠w->s.heap.get? b=some ob->s'.heap.get? b=some ob)
  (x:OR C σ s'.heap o w):Rep C σ (st.set i o) s':=by
 have hl:=(gW.mp hi).1;have hw:=fK hi;have kb:∀b o,C.h₀.get? b=some o->s.heap.get? b=some o->s'.heap.get? b=some o:=λb o e g=>k b o (λq=>by rw[q,R.new _ hw]at e;exact au e) g
 refine⟨R.n,by simp[St.set,NC,R.l],λj b e=>?_,R.nd,R.new,λz hz=>?_,λb ob e n=>kb b ob e (R.base b ob e n),R.code.mono (.refl σ) (λt m o e=>k t o (λq=>R.yC m (q▸hw)) e) (λb o e _z g=>kb b o e g) R.base⟩
 ·have hj:=(gW.mp e).1
  by_cases qm:j=i
  ·subst qm;rw[hi]at e;replace e:=aI e;subst e;exact(aW o (by rw[St.get_set R.l (by rw[R.n];omega) (by rw[R.n];omega),if_pos rfl]) x)
  ·refine ah (R.obj j b e) λo' e1 x'=>(aW o' (by rw[St.get_set R.l (by rw[R.n];omega) (by rw[R.n];omega),if_neg qm];exact e1) (x'.mono (.refl σ) λob z=>k _ ob (λq=>qm ((List.getElem?_inj hj R.nd).mp (e.trans (hi.trans (congrArg some q.symm)).symm).symm.symm)) z))
 ·exact bP (R.df z hz) λa b c=>⟨k _ _ (λq=>b (q▸hw)) a,b,c⟩
theorem Step.set{ow:List al}{s':ak}{w:al}(hw:w∈σ.ρ)(k:∀b ob,b≠w->s.heap.get? b=some ob->s'.heap.get? b=some ob)(dom:∀b,s'.heap.get? b=none->s.heap.get? b=none)
  (sm:∃h' tk,s'={s with heap:=h',toks:=tk}):Step ow σ σ s s':=
 ⟨(aW ([]) (by simp) (λ_z q=>(nomatch q))),(aW ([]) (by simp) (λ_z q=>(nomatch q))),λb o e n _z=>k b o (λq=>n (q▸hw)) e,dom,sm⟩
end
end Internal
namespace Internal
open PySem PySem.W PyProof.Rows
section
variable {C:Cx}{σ:Sg}{c:ac}{P:ac->Prop}
theorem VR.Bv{G:Prop}(h:VR C σ .none c)(k:c=.none->G):G:=k h.inv
@[elab_as_elim] theorem VR.vW(h:VR C σ .none c)(k:P .none):P c:=VR.Bv h λe=>e▸k
theorem VR.Bw{G:Prop}{b:Bool}(h:VR C σ (.bool b) c)(k:c=(.bool b)->G):G:=k h.inv
@[elab_as_elim] theorem VR.vX{b:Bool}(h:VR C σ (.bool b) c)(k:P (.bool b)):P c:=VR.Bw h λe=>e▸k
theorem VR.yF{G:Prop}{i:Int}(h:VR C σ (.int i) c)(k:∀(t:Tok),c=(.int i t)->G):G:=xE h.inv k
@[elab_as_elim] theorem VR.gn{i:Int}(h:VR C σ (.int i) c)(k:∀(t:Tok),P (.int i t)):P c:=VR.yF h λx0 e=>e▸k x0
theorem VR.Ha{G:Prop}{x:Tx}(h:VR C σ (.str x) c)(k:∀(t:Tok),c=(.str (aL C.θ x) t)->G):G:=xE h.inv k
@[elab_as_elim] theorem VR.fV{x:Tx}(h:VR C σ (.str x) c)(k:∀(t:Tok),P (.str (aL C.θ x) t)):P c:=VR.Ha h λx0 e=>e▸k x0
theorem VR.ND{G:Prop}{l:List V}(h:VR C σ (.tup l) c)(k:∀(a:al) (items:Array ac) (n:Nat),(a,j5 items n)∈σ.φ->az C σ l items.toList->c=(.ref a)->G):G:=gY h.inv k
@[elab_as_elim] theorem VR.t8{l:List V}(h:VR C σ (.tup l) c)(k:∀(a:al) (items:Array ac) (n:Nat),(a,j5 items n)∈σ.φ->az C σ l items.toList->P (.ref a)):P c:=VR.ND h λx0 x1 x2 x3 x4 e=>e▸k x0 x1 x2 x3 x4
theorem VR.XO{G:Prop}{l:List V}(h:VR C σ (.fl l) c)(k:∀(a:al) (items:Array ac) (n:Nat),(a,jO items n)∈σ.φ->az C σ l items.toList->c=(.ref a)->G):G:=gY h.inv k
@[elab_as_elim] theorem VR.Bx{l:List V}(h:VR C σ (.fl l) c)(k:∀(a:al) (items:Array ac) (n:Nat),(a,jO items n)∈σ.φ->az C σ l items.toList->P (.ref a)):P c:=VR.XO h λx0 x1 x2 x3 x4 e=>e▸k x0 x1 x2 x3 x4
theorem VR.Hb{G:Prop}{l:List (Tx×V)}(h:VR C σ (.fd l) c)(k:∀(a:al) (o:aT) (ax:List (ai×ac)),(a,o)∈σ.φ->hU C ax o->cM C σ l ax->c=(.ref a)->G):G:=vw h.inv k
@[elab_as_elim] theorem VR.yG{l:List (Tx×V)}(h:VR C σ (.fd l) c)(k:∀(a:al) (o:aT) (ax:List (ai×ac)),(a,o)∈σ.φ->hU C ax o->cM C σ l ax->P (.ref a)):P c:=VR.Hb h λx0 x1 x2 x3 x4 x5 e=>e▸k x0 x1 x2 x3 x4 x5
theorem VR.XQ{G:Prop}{n:Nat}(h:VR C σ (.loc n) c)(k:∀(a:al),σ.ρ[n]?=some a->c=(.ref a)->G):G:=ah h.inv k
@[elab_as_elim] theorem VR.mf{n:Nat}(h:VR C σ (.loc n) c)(k:∀(a:al),σ.ρ[n]?=some a->P (.ref a)):P c:=VR.XQ h λx0 x1 e=>e▸k x0 x1
theorem VR.XR{G:Prop}{g:Nat}(h:VR C σ (.bh g) c)(k:c=(C.G g)->G):G:=k h.inv
@[elab_as_elim] theorem VR.By{g:Nat}(h:VR C σ (.bh g) c)(k:P (C.G g)):P c:=VR.XR h λe=>e▸k
@[elab_as_elim] theorem VR.Hc{x:ai}{t:Tok}(h:VR C σ (.raw x t) c)(k:P (.str x t)):P c:=(show c=.str x t from h.inv)▸k
theorem az.jP{cs:List ac}(h:az C σ [] cs):cs=[]:=by cases h;rfl
theorem az.XS{G:Prop}{v:V}{l:List V}{cs:List ac}(h:az C σ (v::l) cs)(k:∀c ds,VR C σ v c->az C σ l ds->cs=c::ds->G):G:=by cases h with|cons a b=>exact k _ _ a b rfl
theorem az.XT{v:V}{l:List V}{cs:List ac}(h:az C σ (v::l) (c::cs)):VR C σ v c/\az C σ l cs:=by cases h with|cons a b=>exact⟨a,b⟩
@[elab_as_elim] theorem az.XU{cs:List ac}{P:List ac->Prop}(h:az C σ [] cs)(k:P []):P cs:=az.jP h▸k
@[elab_as_elim] theorem az.iq{v:V}{l:List V}{cs:List ac}{P:List ac->Prop}(h:az C σ (v::l) cs)(k:∀c cs,VR C σ v c->az C σ l cs->P (c::cs)):P cs:=az.XS h λc ds a b e=>e▸k c ds a b
@[elab_as_elim] theorem az.yH{v:V}{cs:List ac}{P:List ac->Prop}(h:az C σ [v] cs)(k:∀c,VR C σ v c->P [c]):P cs:=az.iq h λc _ a b=>az.XU b (k c a)
@[elab_as_elim] theorem az.NE{v u:V}{cs:List ac}{P:List ac->Prop}(h:az C σ [v,u] cs)(k:∀c d,VR C σ v c->VR C σ u d->P [c,d]):P cs:=az.iq h λc _ a b=>az.yH b λd e=>k c d a e
end
theorem bu{α γ:Type}{o:Option (α×St)}{f:α->St->Option γ}{r:γ}(h:bk o f=some r):∃a st,o=some (a,st)/\f a st=some r:=by
 induction o with
 | none=>exact au h
 | some p=>exact(vx p.1 p.2 rfl h)
theorem ky{α β γ:Type}{o:Option (α×β×St)}{f:α->β->St->Option γ}{r:γ}(h:eV o f=some r):∃a b st,o=some (a,b,st)/\f a b st=some r:=by
 induction o with
 | none=>exact au h
 | some p=>exact⟨p.1,p.2.1,p.2.2,rfl,h⟩
theorem av{α γ:Type}{o:Option α}{f:α->Option γ}{r:γ}(h:af o f=some r):∃a,o=some a/\f a=some r:=by
 induction o with
 | none=>exact au h
 | some p=>exact(aW p rfl h)
theorem vY{α γ:Type}{o:Option α}{f:α->Option γ}{a:α}{r:Option γ}(h:o=some a)(k:f a=r):af o f=r:=by subst h;exact k
def cC(n:Nat)(A:bC):Prop:=A.handled=none/\A.depth+2*n<900/\A.units+20*n<9000
theorem cC.deeper{n:Nat}{A:bC}(h:cC (n+1) A)(env:bd):cC n (A.deeper env):=by
 exact bP h λa b c=>⟨a,by simp only[Around.deeper];exact pX (Ft (o7 _) b),VG c⟩
theorem cC.le{n m:Nat}{A:bC}(h:cC n A)(hm:m<=n):cC m A:=by
 exact bP h λa b c=>⟨a,Mc hm b,(Mc hm c)⟩
theorem cC.lo{n:Nat}{A:bC}(h:cC (n+2) A):cC n A:=h.le (mG _ _)
def aM(C:Cx)(A:bC){α:Type}(t:bo α)(σ:Sg)(s:ak)(Q:α->Sg->ak->Prop):Prop:=
 ∀E,aR (model C.prog C.w) A t (λa s'=>∃aa,Step C.tabs σ aa s s'/\Q a aa s') E s
def n9(C:Cx)(A:bC)(c:nB)(σ:Sg)(s:ak)(Q:ac->Sg->ak->Prop):Prop:=
 rk (model C.prog C.w) A c (λr s'=>∃v aa,r=.ok (.ret v)/\Step C.tabs σ aa s s'/\Q v aa s') s
structure js(ow:List al)(σ aa:Sg)(s s':ak):Prop extends Step ow σ aa s s' where
 tok:s.toks<=s'.toks
section
variable {C:Cx}{A:bC}{α β:Type}{σ:Sg}{s:ak}
theorem aM.raw{m:bo α}{Q:α->Sg->ak->Prop}(h:aM C A m σ s Q)(E:ac->ak->Prop):aR (model C.prog C.w) A m (λa s'=>∃aa,js C.tabs σ aa s s'/\Q a aa s') E s:=
 c8 (xG (h E)) (λa s' ag=>tG ag λt aa x q=>(aW aa ⟨x,t⟩ q)) λ_z _z e=>e.2
theorem aM.go{m:bo α}{Q:α->Sg->ak->Prop}{P:α->ak->Prop}{E:ac->ak->Prop}(h:aM C A m σ s Q)(k:∀a aa s',js C.tabs σ aa s s'->Q a aa s'->P a s'):aR (model C.prog C.w) A m P E s:=
 c8 (h.raw E) (λa s' ag=>ah ag λaa x q=>k a aa s' x q) λ_z _z e=>e
theorem aM.bind{m:bo α}{f:α->bo β}{Q:α->Sg->ak->Prop}{Q':β->Sg->ak->Prop}(h:aM C A m σ s Q)
  (k:∀a aa s',js C.tabs σ aa s s'->Q a aa s'->aM C A (f a) aa s' Q'):aM C A (m>>=f) σ s Q':=λE=>
 aA (h.go (λa aa s' x q=>c8 (k a aa s' x q E) (λb tJ ag=>ah ag λmW y r=>(aW mW (x.toStep.trans y) r)) λ_z _z e=>e))
theorem aM.pure{a:α}{Q:α->Sg->ak->Prop}(h:Q a σ s):aM C A (Pure.pure a) σ s Q:=λ_z=>bj (aW σ (.refl _ _ _) h)
theorem aM.mono{t:bo α}{Q Q':α->Sg->ak->Prop}(h:aM C A t σ s Q)(k:∀a aa s',js C.tabs σ aa s s'->Q a aa s'->Q' a aa s'):aM C A t σ s Q':=λE=>
 h.go λa aa s' x q=>(aW aa x.toStep (k a aa s' x q))
theorem aM.stand{pos:aC}{t:bo α}{Q:α->Sg->ak->Prop}(h:aM C A t σ s Q):aM C A (gv pos>>=λ_z=>t) σ s Q:=λE=>aA (kN (h E))
theorem aM.hold{vs:List ac}{t:bo α}{Q:α->Sg->ak->Prop}(h:aM C A t σ s Q):aM C A (holding vs t) σ s Q:=λE=>fY (h E)
theorem wpAny_operate'{M:rj}{E:ac->ak->Prop}{vs:List ac}{m:bo ac}{Q:ac->ak->Prop}(h:aR M A m Q E s):aR M A (operate vs m) Q E s:=
 λΓ p NF=>by refine ab (Sem.wp_operate ..) ?_;exact h Γ p NF
theorem aM.operate{vs:List ac}{t:bo ac}{Q:ac->Sg->ak->Prop}(h:aM C A t σ s Q):aM C A (PySem.operate vs t) σ s Q:=λE=>wpAny_operate' (h E)
theorem Step.toks{ow:List al}{k:Tok}:Step ow σ σ s {s with toks:=k}:=⟨(aW ([]) (by simp) (λ_z q=>(nomatch q))),(aW ([]) (by simp) (λ_z q=>(nomatch q))),λ_z _z e _z _z=>e,λ_z e=>e,(gK _ _ rfl)⟩
theorem Rep.toks{st:St}(R:Rep C σ st s){k:Tok}:Rep C σ st {s with toks:=k}:=⟨R.n,R.l,R.obj,R.nd,R.new,R.df,R.base,R.code⟩
end
inductive kz(C:Cx)(σ:Sg):Option V->Option ac->Prop
 | none:kz C σ none none
 | some {v:V} {c:ac}:VR C σ v c->kz C σ (some v) (some c)
theorem kz.mono{C:Cx}{σ aa:Sg}(h:Sg.Le σ aa){v:Option V}{c:Option ac}:kz C σ v c->kz C aa v c
 | .none=>.none
 | .some x=>.some (x.mono h)
structure Sc where
 scope:dQ
 ln:List ai
 cn:List ai
 nw:Nat
 cd:ac
 fin:Bool
noncomputable def vZ(l:List ai):Bool:=match l with
 | []=>true
 | a::r=>!r.contains a&&vZ r
theorem He{l:List ai}(h:vZ l=true):l.Nodup:=by
 induction l with
 | nil=>exact tC
 | cons a r ih=>
  simp only[vZ,cz,Fb,List.contains_eq_mem,decide_eq_false_iff_not]at h;exact lT.mpr ⟨h.1,ih h.2⟩
noncomputable def isLocal(sc:dQ)(n:ai):Bool:=match sc.names.lookup n with|some .local=>true|_=>false
noncomputable def Hf(sc:dQ)(n:ai):Bool:=match sc.names.lookup n with|some .cell=>true|_=>false
noncomputable def isFree(sc:dQ)(n:ai):Bool:=match sc.names.lookup n with|some .free=>true|_=>false
noncomputable def iZ(sc:dQ)(n:ai):Bool:=match sc.names.lookup n with|some .globalImplicit=>true|_=>false
noncomputable def Bz(sc:dQ):Bool:=match sc.kind with|.function=>true|_=>false
noncomputable def mh(n:ai):Bool:=!(n==("__debug__": ai))&&!(n==("__classdict__": ai))
def Sc.BA(sc:Sc):Bool:=Bz sc.scope&&(sc.ln.all λn=>isLocal sc.scope n&&mh n)&&(sc.cn.all λn=>(Hf sc.scope n||isFree sc.scope n)&&mh n)&&vZ sc.ln&&vZ sc.cn
structure Sc.Ok(sc:Sc):Prop where
 kind:sc.scope.kind=.function
 ln:∀n∈sc.ln,sc.scope.names.lookup n=some .local/\mh n=true
 cn:∀n∈sc.cn,(sc.scope.names.lookup n=some .cell\/sc.scope.names.lookup n=some .free)/\mh n=true
 XV:sc.ln.Nodup
 Hg:sc.cn.Nodup
theorem NG{sc:dQ}{n:ai}(h:isLocal sc n=true):sc.names.lookup n=some .local:=by unfold isLocal at h;split at h<;>first|assumption|exact bV h
theorem XW{sc:dQ}{n:ai}(h:Hf sc n=true):sc.names.lookup n=some .cell:=by unfold Hf at h;split at h<;>first|assumption|exact bV h
theorem XX{sc:dQ}{n:ai}(h:isFree sc n=true):sc.names.lookup n=some .free:=by unfold isFree at h;split at h<;>first|assumption|exact bV h
theorem BB{sc:dQ}{n:ai}(h:iZ sc n=true):sc.names.lookup n=some .globalImplicit:=by unfold iZ at h;split at h<;>first|assumption|exact bV h
theorem NH{sc:dQ}(h:Bz sc=true):sc.kind=.function:=by unfold Bz at h;split at h<;>first|assumption|exact bV h
theorem Sc.fO{sc:Sc}(h:sc.BA=true):sc.Ok:=by
 unfold Sc.BA at h;simp only[cz,eh,UP]at h;refine xA h λag e=>?_;refine xA ag λcU d=>?_;refine xA cU λmX c=>?_;exact xA mX λa b=>⟨NH a,λn hn=>⟨NG (b n hn).1,(b n hn).2⟩,λn hn=>⟨(c n hn).1.imp XW XX,(c n hn).2⟩,He d,He e⟩
def j6(b:Bool)(σ:Sg)(v:Option V)(a:al):Prop:=match b,v with
 | true,some _=>∃oc,(a,oc)∈σ.φ
 | _,_=>∀x∈σ.φ,x.1≠a
structure bp(C:Cx)(sc:Sc)(fr:Fr)(env:bd)(cs:List al)(σ:Sg)(s:ak):Prop where
 scope:env.scope=sc.scope
 globals:env.globals=kh
 builtins:env.builtins=lP
 ns:∃m,s.heap.Ns env.locals m/\∀(i:Nat) (n:ai),sc.ln[i]?=some n->∃v:Option V,fr.L[i]?=some v/\kz C σ v (m n)
 bi:∀(i:Nat) (n:ai),sc.cn[i]?=some n->∃(a:al) (v:Option V) (c:Option ac),cs[i]?=some a/\env.cells.lookup n=some a/\fr.C[i]?=some v/\s.heap.IsCell a c/\kz C σ v c/\j6 sc.fin σ v a
 out:∀a∈env.locals::cs,a∉σ.ρ/\a∉C.tabs/\C.h₀.get? a=none
 outF:∀x∈σ.φ,x.1≠env.locals
 has:∀a∈env.locals::cs,(s.heap.get? a).isSome=true
 nd:(env.locals::cs).Nodup
 jQ:fr.L.length=sc.ln.length
 qo:fr.C.length=sc.cn.length
 qp:cs.length=sc.cn.length
 tok:0<s.toks
 cd:sc.cd=.none\/env.code=sc.cd
theorem j6.step{b:Bool}{v:Option V}{a:al}{σ aa:Sg}{s s':ak}{ow:List al}(x:Step ow σ aa s s')(h:j6 b σ v a)(hs:(s.heap.get? a).isSome=true)(ho:a∉ow):j6 b aa v a:=by
 have ne (k:∀x∈σ.φ,x.1≠a):∀x∈aa.φ,x.1≠a:=λz hz=>by
  refine ah x.φ λm e hm=>?_
  rw[e]at hz;rcases dc.mp hz with hz|hz
  ·exact k z hz
  ·intro q;subst q;rcases hm z hz with e|e
   ·rw[e]at hs;exact bV hs
   ·exact ho e
 induction b with
 | false=>exact ne h
 | true=>
  induction v with
  | none=>exact ne h
  | some v=>exact xE h λoc h=>⟨oc,x.le.φ _ h⟩
theorem bp.step{C:Cx}{sc:Sc}{fr:Fr}{env:bd}{cs:List al}{σ aa:Sg}{s s':ak}{ow:List al}(F:bp C sc fr env cs σ s)(x:js ow σ aa s s')
  (mY:∀a∈env.locals::cs,a∉ow):bp C sc fr env cs aa s':=by
 have kp:∀a∈env.locals::cs,∀o,s.heap.get? a=some o->s'.heap.get? a=some o:=λa ha o e=>x.keep a o e (F.out a ha).1 (mY a ha)
 have hs:∀a∈env.locals::cs,∃o,s.heap.get? a=some o/\s'.heap.get? a=some o:=λa ha=>by
  exact xE (pV.mp (F.has a ha)) λo e=>(aW o e (kp a ha o e))
 refine⟨F.scope,F.globals,F.builtins,?_,λi n h=>?_,λa ha=>?_,λz hz=>?_,λa ha=>?_,F.nd,F.jQ,F.qo,F.qp,km F.tok x.tok,F.cd⟩
 ·refine ah F.ns λm ag hm=>?_;exact dN ag λo es ep e r=>(aW m ⟨o,es,ep,kp _ bT _ e,r⟩ (λi n h=>let⟨v,a,b⟩:=hm i n h;⟨v,a,b.mono x.le⟩))
 ·refine fZ (F.bi i n h) λa v c y=>iV y λh1 h2 h3 ag h6 h7=>?_
  have ha:=bL env.locals (fK h1);exact ah ag λo h4 h5=>⟨a,v,c,h1,h2,h3,⟨o,kp a ha _ h4,h5⟩,h6.mono x.le,h7.step x.toStep (F.has a ha) (mY a ha)⟩
 ·refine bP (F.out a ha) λh1 h2 h3=>ah (hs a ha) λo e _z=>ah x.ρ λm e1 hm=>⟨λq=>?_,h2,h3⟩
  rw[e1]at q;rcases dc.mp q with q|q
  ·exact h1 q
  ·rw[hm a q]at e;exact au e
 ·refine ah (hs _ bT) λo e _z=>ah x.φ λm' e2 t5=>?_
  rw[e2]at hz;rcases dc.mp hz with hz|hz
  ·exact F.outF z hz
  ·intro q;rcases t5 z hz with e'|e'
   ·rw[<-q,e']at e;exact au e
   ·exact mY _ bT (q▸e')
 ·refine ah (hs a ha) λo _z e=>ab (e ..) ?_;rfl
theorem bp.stepT{C:Cx}{sc:Sc}{fr:Fr}{env:bd}{cs:List al}{σ aa:Sg}{s s':ak}(F:bp C sc fr env cs σ s)(x:js C.tabs σ aa s s'):bp C sc fr env cs aa s':=
 F.step x λa ha=>(F.out a ha).2.1
structure Hh(C:Cx)(st:St)(f:V):Prop where
 ref:∀σ c,VR C σ f c->∃a,c=.ref a
 fn:∀σ s a,Rep C σ st s->VR C σ f (.ref a)->(∃o fd,s.heap.get? a=some o/\o.data=.func fd)\/a=C.cls
structure fq(C:Cx)(n:Nat)(K:bb):Prop where
 pos:∀f vs st v am,vJ K f vs st=some (v,am)->Hh C st f/\∀A σ s cf aU,cC n A->0<s.toks->Rep C σ st s->VR C σ f cf->az C σ vs aU ->
  n9 C A (.call cf ⟨aU,[]⟩) σ s (λcv aa s'=>Rep C aa am s'/\VR C aa v cv)
 kw:∀g k u vs st v am,K .none (.bh g::.fd [(k,u)]::vs) st=some (v,am)->(∃a o fd,C.G g=.ref a/\C.h₀.get? a=some o/\a∉C.tabs/\o.data=.func fd)/\∀A σ s cu aU,cC n A->0<s.toks->Rep C σ st s->VR C σ u cu->az C σ vs aU ->
  n9 C A (.call (C.G g) ⟨aU,[(aL C.θ k,cu)]⟩) σ s (λcv aa s'=>Rep C aa am s'/\VR C aa v cv)
def bn(C:Cx)(sc:Sc)(e:ar)(c:Cd):Prop:=∀n K,fq C n K->∀fr st v am,c K fr st=some (v,am)->∀A env cs σ s,cC n A->bp C sc fr env cs σ s->Rep C σ st s ->
 aM C A (eval e env) σ s (λcv aa s'=>Rep C aa am s'/\VR C aa v cv)
def mj(C:Cx)(sc:Sc)(e:ar)(c:Ct):Prop:=∀n K,fq C n K->∀fr st v am,c K fr st=some (v,am)->∀A env cs σ s,cC n A->bp C sc fr env cs σ s->Rep C σ st s ->
 aM C A (ti e env (eval e env)) σ s (λb aa s'=>Rep C aa am s'/\b=v)
structure cP where
 g:Nat->Option ai
structure dz(C:Cx)(N:cP)(mg mb:ai->Option ac):Prop where
 main:C.h₀.Ns kh mg
 blt:C.h₀.Ns lP mb
 Hi:kh∉C.tabs
 NI:lP∉C.tabs
 NJ:Uw∉C.tabs
 noLimit:C.h₀.NoLimit
 bh:∀g id,N.g g=some id->mg id=some (C.G g)
 j2:∀i j k,(C.θ.s i j k).length<=1000
 hand:∀g,xy (C.G g)=pure (C.G g)
 lt:∀x y,C.T.lt x y=Spec.ltCps (den C.θ x) (den C.θ y)
 NK:(C.h₀.get? il).isSome=true
section
variable {C:Cx}{N:cP}{mg mb:ai->Option ac}{sc:Sc}
theorem Rep.ns(H:dz C N mg mb){σ:Sg}{st:St}{s:ak}(R:Rep C σ st s):s.heap.Ns kh mg:=dN H.main λo es ep e r=>⟨o,es,ep,R.base _ _ e H.Hi,r⟩
theorem Rep.XY(H:dz C N mg mb){σ:Sg}{st:St}{s:ak}(R:Rep C σ st s):s.heap.Ns lP mb:=dN H.blt λo es ep e r=>⟨o,es,ep,R.base _ _ e H.NI,r⟩
theorem Rep.noLimit(H:dz C N mg mb){σ:Sg}{st:St}{s:ak}(R:Rep C σ st s):s.heap.NoLimit:=xE H.noLimit λmc y=>xA y λy q=>dN y λo es ep e r=>⟨mc,⟨o,es,ep,R.base _ _ e H.NJ,r⟩,q⟩
theorem v0{n:ai}(h:mh n=true):(n==("__debug__": ai))=false/\(n==("__classdict__": ai))=false:=by
 unfold mh at h;simp only[cz,Fb]at h;exact h
theorem yI{α:Type}{l:List α}{i:Nat}{a:α}(h:l[i]?=some a):a∈l:=fK h
theorem Hj{l:List (Option V)}{i:Nat}{st am:St}{v:V}(h:yq l i st=some (v,am)):l[i]?=some (some v)/\am=st:=by
 refine ah (av h) λo e h=>?_
 induction o with
 | none=>exact au h
 | some w=>refine dY h ?_;exact⟨e,rfl⟩
theorem BC(hS:sc.Ok){i:Nat}{n:ai}{pos:aC}(hn:sc.ln[i]?=some n):bn C sc (.Name n pos) (ae i):=by
 intro k K hK fr st v am h A env cs σ s hA F R E;refine xA (Hj h) λe ag=>?_;subst ag
 refine ah F.ns λm hm q=>ah (q i n hn) λv' h1 h2=>?_
 rw[e]at h1;replace h1:=aI h1;subst h1
 have:=hS.ln n (yI hn)
 generalize hc:m n=oc at h2
 cases h2 with
 | some h2=>exact UD (aqm (F.scope▸hS.kind) (by show env.scope.names.lookup n=_;refine ab (F.scope ..) ?_;exact this.1) hm hc (cp σ (.refl _ _ _) R h2)) (v0 this.2).1
theorem XZ(hS:sc.Ok){i:Nat}{n:ai}{pos:aC}(hn:sc.cn[i]?=some n):bn C sc (.Name n pos) (aq i):=by
 intro k K hK fr st v am h A env cs σ s hA F R E;refine xA (Hj h) λe ag=>?_;subst ag
 refine fZ (F.bi i n hn) λa v' c y=>iV y λh1 h2 h3 h4 h5 _z=>?_
 rw[e]at h3;replace h3:=aI h3;subst h3;refine xA (hS.cn n (yI hn)) λhk hd=>?_
 cases h5 with
 | some h5=>
  rcases hk with hk|hk
  ·exact UD (wpAny_loadName_cell (F.scope▸hS.kind) (by show env.scope.names.lookup n=_;refine ab (F.scope ..) ?_;exact hk) h2 h4 (cp σ (.refl _ _ _) R h5)) (v0 hd).1
  ·exact UD (wpAny_loadName_free (F.scope▸hS.kind) (by show env.scope.names.lookup n=_;refine ab (F.scope ..) ?_;exact hk) h2 h4 (cp σ (.refl _ _ _) R h5) (v0 hd).2) (v0 hd).1
theorem NL(H:dz C N mg mb)(hS:sc.Ok){g:Nat}{n:ai}{pos:aC}(hg:N.g g=some n)(hn:iZ sc.scope n=true)(hd:mh n=true):bn C sc (.Name n pos) (cF g):=by
 intro k K hK fr st v am h A env cs σ s hA F R E;refine dY h ?_;exact Calls.Name_function_global (F.scope▸hS.kind) (by show env.scope.names.lookup n=_;refine ab (F.scope ..) ?_;exact BB hn)
  (US (F.globals▸R.ns H) (H.bh g n hg) (cp σ (.refl _ _ _) R (.bh g))) (v0 hd).1
theorem X0{k pos}:bn C sc (.Constant .none k pos) yp:=by
 intro n K hK fr st v am h A env cs σ s hA F R E;refine dY h ?_;exact bj (cp σ (.refl _ _ _) R .none)
theorem X7{k pos}:bn C sc (.Constant (.bool true) k pos) pq:=by
 intro n K hK fr st v am h A env cs σ s hA F R E;refine dY h ?_;exact bj (cp σ (.refl _ _ _) R (.bool true))
theorem X8{k pos}:bn C sc (.Constant (.bool false) k pos) qe:=by
 intro n K hK fr st v am h A env cs σ s hA F R E;refine dY h ?_;exact bj (cp σ (.refl _ _ _) R (.bool false))
theorem Hk{i:Int}{k pos}:bn C sc (.Constant (.int i) k pos) (aj i):=by
 intro n K hK fr st v am h A env cs σ s hA F R E;refine dY h ?_;exact wpAny_mkInt (cp σ .toks R.toks (.int i _))
def strOf(x:Tx):Option ai:=(dw x).map λl=>⟨l.toArray⟩
theorem pw{θ:Th}(l:List Nat):den θ (ao l)=l:=by
 induction l with
 | nil=>rfl
 | cons n l ih=>exact congrArg (n::·) ih
theorem Hl{x:Tx}:∀{l:List Nat},dw x=some l->x=ao l:=by
 induction x with
 | nil=>intro l h;exact aI h▸rfl
 | cons a x ih=>
  intro l h;refine ah (av h) λn e1 h=>ah (av h) λl' e2 h=>bX (aI h ..) ?_;refine ab (ih e2 ..) ?_
  induction a with
  | c k=>refine ab (aI e1 ..) ?_;rfl
  | _=>exact au e1
theorem jt{θ:Th}{x:Tx}{l:List Nat}(h:dw x=some l):den θ x=l:=by refine ab (Hl h ..) ?_;exact ab (pw ..) rfl
theorem Hm{y:ai}{x:Tx}{k pos}(hx:strOf x=some y):bn C sc (.Constant (.str y) k pos) (aX x):=by
 intro n K hK fr st v am h A env cs σ s hA F R E;refine dY h ?_;refine Ao (cp σ .toks R.toks ?_)
 have:aL C.θ x=y:=by
  unfold strOf at hx;induction e:dw x with
  | none=>rw[e]at hx;exact au hx
  | some l=>rw[e]at hx;refine bf hx ?_;unfold aL;exact ab (jt e ..) rfl
 exact bX (this ..) (.str x _)
theorem v7{l r:ar}{a b:Cd}(hl:bn C sc l a)(hr:bn C sc r b){n:Nat}{K:bb}(hK:fq C n K){fr:Fr}{st st1 aF:St}{v u:V}(h1:a K fr st=some (v,st1))(h2:b K fr st1=some (u,aF))
  {A:bC} {env:bd} {cs:List al} {σ:Sg} {s:ak} (hA:cC n A) (F:bp C sc fr env cs σ s) (R:Rep C σ st s) {β:Type} {f:ac->ac->bo β} {Q:β->Sg->ak->Prop}
  (k:∀cv cu aa s',bp C sc fr env cs aa s'->Rep C aa aF s'->VR C aa v cv->VR C aa u cu->aM C A (f cv cu) aa s' Q) :
  aM C A (eval l env>>=λx=>holding [x] (eval r env)>>=λy=>f x y) σ s Q:=
 (hl n K hK fr st v st1 h1 A env cs σ s hA F R).bind λcv aY s1 x1 ag=>xA ag λR1 V1=>
  (aM.hold (hr n K hK fr st1 u aF h2 A env cs aY s1 hA (F.stepT x1) R1)).bind λcu σ2 s2 x2 ag=>xA ag λR2 V2=>
   k cv cu σ2 s2 ((F.stepT x1).stepT x2) R2 (V1.mono x2.le) V2
end
section
variable {C:Cx}{σ:Sg}{c:Option ac}{P:Option ac->Prop}
end
section
variable {C:Cx}{N:cP}{mg mb:ai->Option ac}{sc:Sc}{A:bC}{σ:Sg}{st:St}{s:ak}
theorem Hn(s:ak)(o:aT)(ho:o.isFreed=false):({s with heap:=s.heap.push o}:ak).heap.get? s.heap.objs.size=some o:=jg _ ho
theorem rY(h:cD):h.get? h.objs.size=none:=by
 induction e:h.get? h.objs.size with
 | none=>rfl
 | some o=>exact absurd (kj e) (nJ _)
theorem Ho(R:Rep C σ st s)(o:aT)(ho:o.isFreed=false){k:Tok} :
  let aa:Sg:=⟨σ.ρ,σ.φ++[(s.heap.objs.size,o)]⟩
  let s':ak:={s with heap:=s.heap.push o,toks:=k}
  Step C.tabs σ aa s s'/\Rep C aa st s'/\(s.heap.objs.size,o)∈aa.φ/\Sg.Le σ aa:=by
 intro aa s';have k':∀b ob,s.heap.get? b=some ob->s'.heap.get? b=some ob:=λb ob e=>iD o e
 have nf:=rY s.heap;have x:Step C.tabs σ aa s s':=Step.grow k' (gK _ _ rfl) (λx hx=>by simp at hx;subst hx;exact nf);refine⟨x,(R.grow k').freeze (λx hx=>?_),by simp[aa],x.le⟩;simp at hx;subst hx;exact⟨jg _ ho,R.rX nf,R.qk nf,R.ql nf⟩
theorem v8(R:Rep C σ st s){l:List V}{items:Array ac}(h:az C σ l items.toList){k:Tok} :
  ∃aa,Step C.tabs σ aa s {s with heap:=s.heap.push (jO items 0),toks:=k}/\Rep C aa st {s with heap:=s.heap.push (jO items 0),toks:=k}/\VR C aa (.fl l) (.ref s.heap.objs.size):=by
 exact iU (Ho R (jO items 0) rfl (k:=k)) λx R' m le=>(cp _ x R' (.fl m (h.mono le)))
theorem BD(R:Rep C σ st s){l:List V}{items:Array ac}(h:az C σ l items.toList){k:Tok} :
  ∃aa,Step C.tabs σ aa s {s with heap:=s.heap.push (j5 items 0),toks:=k}/\Rep C aa st {s with heap:=s.heap.push (j5 items 0),toks:=k}/\VR C aa (.tup l) (.ref s.heap.objs.size):=by
 exact iU (Ho R (j5 items 0) rfl (k:=k)) λx R' m le=>(cp _ x R' (.tup m (h.mono le)))
theorem ir:gI=16777216:=rfl
theorem mZ{l:List V}(h:dZ l=true):l.length<4000:=bF h
theorem v9{x:Tx}(h:lC x=true):x.length<4000:=bF h
theorem BE{l:List V}{v:V}(h:jJ l=some v):v=.fl l/\l.length<4000:=by
 unfold jJ at h;induction e:dZ l with
 | true=>rw[e]at h;refine bf h ?_;exact⟨rfl,mZ e⟩
 | false=>rw[e]at h;exact au h
theorem yJ{x:Tx}{v:V}(h:mS x=some v):v=.str x/\x.length<4000:=by
 unfold mS at h;induction e:lC x with
 | true=>rw[e]at h;refine bf h ?_;exact⟨rfl,v9 e⟩
 | false=>rw[e]at h;exact au h
theorem rZ{i:Int}{v:V}(h:j4 i=some v):v=.int i/\kS i=true:=by
 unfold j4 at h;induction e:kS i with
 | true=>rw[e]at h;refine bf h ?_;exact⟨rfl,rfl⟩
 | false=>rw[e]at h;exact au h
theorem X9(H:dz C N mg mb)(x:Tx):(den C.θ x).length<=1000*x.length:=by
 induction x with
 | nil=>exact dr _
 | cons a x ih=>
  have ha:(a.den C.θ).length<=1000:=by
   induction a with
   | c n=>simp[At.den]
   | v i=>simp[At.den]
   | s i j k=>exact H.j2 i j k
  simp only[den,cS,cH];exact Fz (jh _ _) (arn ih ha)
theorem t9(H:dz C N mg mb)(x:Tx):(aL C.θ x).length<=1000*x.length:=by
 have:=X9 H x
 show(aL C.θ x).cps.size<=_
 unfold aL;simpa using this
theorem qq(θ:Th)(x:Tx):(aL θ x).length=(den θ x).length:=by
 rfl
theorem NM{i:Int}(h:kS i=true):i.natAbs<=2^200:=by
 induction i with
 | ofNat n=>have:=bF h;simp only[Int.natAbs];exact fh this
 | negSucc n=>have:=bF h;simp only[Int.natAbs];omega
theorem VR.isList(R:Rep C σ st s){l:List V}{c:ac}(h:VR C σ (.fl l) c):∃a items n,c=.ref a/\IsL s.heap a items n/\az C σ l items.toList:=by
 exact VR.Bx h λ_z _z _z m x=>(vy _ _ _ rfl ((R.df _ m).1) x)
theorem BF{n:Nat}{l:List V}(h:st.lst n=some l):st.get n=some (.list l):=
 ah (av h) λo e h=>by
  induction o with
  | list m=>exact aI h▸e
  | _=>exact au h
theorem Yb{n:Nat}{l:List (Tx×V)}(h:st.dct n=some l):st.get n=some (.dict l):=
 ah (av h) λo e h=>by
  induction o with
  | dict m=>exact aI h▸e
  | _=>exact au h
theorem yK(R:Rep C σ st s){v:V}{l:List V}{c:ac}(e:gN v st=some l)(h:VR C σ v c):∃a items n,c=.ref a/\IsL s.heap a items n/\az C σ l items.toList:=by
 induction v using V.casesOn with
 | fl m=>refine bf e ?_;exact h.isList R
 | loc n=>
  exact VR.mf h λ_z hw=>ah (R.get hw (BF e)) λitems ag r=>xE ag λk q=>(vy _ items k rfl q r)
 | _=>exact au e
@[elab_as_elim] theorem kX{P:ac->Prop}(R:Rep C σ st s){v:V}{l:List V}{c:ac}(e:gN v st=some l)(h:VR C σ v c)(k:∀a items n,IsL s.heap a items n->az C σ l items.toList->P (.ref a)):P c:=gY (yK R e h) λa i n q g x=>q▸k a i n g x
theorem NN(R:Rep C σ st s){v:V}{l:List (Tx×V)}{c:ac}(e:vE v st=some l)(h:VR C σ v c):∃a o ax,c=.ref a/\s.heap.get? a=some o/\hU C ax o/\cM C σ l ax:=by
 induction v using V.casesOn with
 | fd m=>refine bf e ?_;exact VR.yG h λa o ax m d k=>⟨a,o,ax,rfl,(R.df _ m).1,d,k⟩
 | loc n=>exact VR.mf h λa hw=>ah (R.get hw (Yb e)) λax d k=>ah (hU.of d) λo g d=>⟨a,o,ax,rfl,g,d,k⟩
 | _=>exact au e
theorem az.items{l:List V}{items:Array ac}(h:az C σ l items.toList):items.size=l.length:=by refine ab (h.length ..) ?_;exact ab (rn ..) rfl
abbrev Op(C:Cx)(A:bC)(t:bo ac)(σ:Sg)(st:St)(s:ak)(v:V):Prop:=aM C A t σ s (λcv aa s'=>Rep C aa st s'/\VR C aa v cv)
noncomputable def ua:jH->ES
 | .add=>.Add
 | .sub=>.Sub
 | .mul=>.Mult
 | .fdiv=>.FloorDiv
 | .mod=>.Mod
 | .pow=>.Pow
theorem intBits_le{n:Nat}{k:Nat}(h:n<2^k):Fc (aZ n)<=k:=by
 unfold Fc;split
 ·exact LS _ _
 ·rename_i hn
  have Hp:n≠0:=by rintro rfl;exact hn rfl
  have:n.log2<k:=(Vg Hp).mpr h
  exact this
theorem Hq{b r:Bool}(h:rD b=some r):b=true/\r=false:=by
 induction b with
 | true=>exact⟨rfl,(aI h).symm⟩
 | false=>exact au h
theorem bK{γ:Type}{b:Bool}{o:Option γ}{v:γ}(h:bv b o=some v):b=true/\o=some v:=by
 induction b with
 | true=>exact⟨rfl,h⟩
 | false=>exact au h
theorem dI{γ:Type}{b:Bool}{o r:Option γ}(h:b=true)(k:o=r):bv b o=r:=by subst h;exact k
theorem NO{y:Int}(h:nz y=true):y≠0:=by
 induction y with
 | ofNat n=>
  induction n with
  | zero=>exact bV h
  | succ n=>exact nofun
 | negSucc n=>exact nofun
theorem Yc{x y:Int}{t u:Tok}{op:jH}{v:V}(h:intOp op x y=some v)(R:Rep C σ st s):Op C A (uZ (ua op) (.int x t) (.int y u)) σ st s v:=by
 intro E;have fin:∀i:Int,v=.int i->∃aa,Step C.tabs σ aa s {s with toks:=s.toks+1}/\Rep C aa st {s with toks:=s.toks+1}/\VR C aa v (.int i s.toks):=λi e=>(cp σ .toks R.toks (e▸.int i _))
 induction op with
 | add=>exact asf (fin _ (rZ h).1)
 | sub=>exact asp (fin _ (rZ h).1)
 | mul=>
  refine xA (bK h) λk h=>xA ((cz _ _).mp k) λh1 h2=>?_
  have b1:∀{z:Int},kS z=true->Fc z<=2^20:=fun{z} hz=>by
   have:=NM hz
   unfold Fc;split
   ·exact(by decide)
   ·rename_i hn
    have Yd:z.natAbs≠0:=by
     intro q;exact hn (by simpa using Int.natAbs_eq_zero.mp q)
    have:=(Vg Yd (k:=201)).mpr (by have:(2:Nat)^200<2^201:=(by decide);lia)
    exact dG this (by decide)
  exact asl (fin _ (rZ h).1) (IntMulOk.of_bits (b1 h1) (b1 h2))
 | fdiv=>
  refine xA (bK h) λk h=>xA ((cz _ _).mp k) λk0 k1=>AutoIntOps.floordiv_1 (by simpa using NO k0) ?_ (fin _ (rZ h).1)
  rw[PyProof.noPylong_of_log2]
  ·exact LA
  ·have:=NM k1
   by_cases hz:y.natAbs=0
   ·refine ab (hz ..) ?_;decide
   ·have:=(Vg hz (k:=201)).mpr (by have:(2:Nat)^200<2^201:=(by decide);lia)
    exact mJ this (by decide)
 | mod=>exact xA (bK h) λk h=>AutoIntOps.mod_1 (by simpa using NO ((cz _ _).mp k).1) (fin _ (aI h).symm)
 | pow=>
  induction x with
  | negSucc=>exact au h
  | ofNat m=>
   induction y with
   | negSucc=>exact au h
   | ofNat n=>
    refine xA (bK h) λk h=>bf h (xA ((cz _ _).mp k) λk hn=>xA ((cz _ _).mp k) λh2 hm=>?_)
    have t5:m<1000:=bF hm;have lE:n<20:=bF hn;have Hr:2<=m:=bF h2;refine asn (Aq n) ?_ ?_
    ·have:=intBits_le (n:=m) (k:=10) (mJ t5 (by decide))
     have h1:=Ax this (fh lE);have h2:((Fc (aZ m)*n:Nat):Int)<=200:=VF h1 (by decide);rw[Int.natCast_mul]at h2;exact Ap h2 (by decide)
    ·refine(cp σ .toks R.toks ?_)
     have:(aZ m)^(aZ n).toNat=aZ (m^n):=rfl
     exact ab (this ..) (.int _ _)
theorem Hs(θ:Th)(n:Nat)(x:Tx):den θ (rep n x)=(oX n (den θ x)).flatten:=by
 induction n with
 | zero=>rfl
 | succ n ih=>exact(Bo ..).trans (congrArg (den θ x++·) ih)
theorem foldl_rep(n:Nat)(x:Array Nat):∀aO:Array Nat,((oX n x).foldl (·++·) aO).toList=aO.toList++(oX n x.toList).flatten:=by
 induction n with
 | zero=>intro aO;simp
 | succ n ih=>intro aO;refine ab (Va ..) ?_;refine ab (lq ..) ?_;refine ab (ih ..) ?_;refine ab (Va ..) ?_;refine ab (As ..) ?_;simp
theorem Ye(H:dz C N mg mb){x:Tx}{y:Int}{t u:Tok}{v:V}(h:MU x y=some v)(R:Rep C σ st s):Op C A (uZ .Mult (.str (aL C.θ x) t) (.int y u)) σ st s v:=by
 intro E;induction y with
 | negSucc n=>exact au h
 | ofNat n=>
  refine xA (bK h) λk h=>xA ((cz _ _).mp k) λe hx=>xA (yJ h) λag hl=>?_;subst ag
  have hn:n<100:=bF e;have hx:=v9 hx;have hd:=t9 H x;have eX:(aL C.θ x).length<=4000000:=FD hd hx (by decide)
  generalize hL:(aL C.θ x).length=L at eX
  have Yg:aL C.θ (rep n x)=⟨(oX n (aL C.θ x).cps).foldl (·++·) #[]⟩:=by
   unfold aL;refine ab (Hs ..) ?_
   congr 1
   apply vh.mp;refine ab (foldl_rep ..) ?_
   rfl
  have NP:(aL C.θ (rep n x)).length<=4000000:=by have:=t9 H (rep n x);exact FD this hl (by decide)
  refine P.mul_str ?_ ?_ ?_ ?_
  ·simp only[aqv,decide_eq_false_iff_not];have e0:aZ n=(n:Int):=rfl;exact ab (e0 ..) (⟨Mb (pd (by decide)),(Ma (rx hn (by decide)))⟩)
  ·intro h1 h2 h3;have e0:aZ n=(n:Int):=rfl;rw[e0]at h1 h3;rw[hL]at h3;have h4:(n:Int)<=100:=nG (rx hn (by decide));have h5:(0:Int)<(n:Int):=by lia
   have h6:=Int.lt_ediv_add_one_mul_self (2^63-1) h5;have h7:((2^63-1)/(n:Int)+1)*(n:Int)<=(4000000+1)*100:=by
    apply Int.mul_le_mul
    ·lia
    ·exact h4
    ·exact pd (by decide)
    ·exact(by decide)
   exact(FB (Vx (AF h6 h7)) (by decide)).elim
  ·intro h1 h2
   show decide (_ > gI)=false
   rw[decide_eq_false_iff_not,hL]
   have:L*(aZ n).toNat<=4000000*100:=Ax eX (by simp;exact fh hn)
   have:(aL C.θ (rep n x)).length=n*L:=by
    refine ab (qq ..) ?_;refine ab (Hs ..) ?_;refine ab (List.length_flatten ..) ?_;refine ab (List.map_replicate ..) ?_;refine ab (List.sum_replicate_nat ..) ?_;refine bX (qq ..) ?_;exact ab (hL ..) rfl
   refine ab (ir ..) ?_;simp only[aqL,Int.toNat_natCast];exact ab (Nat.mul_comm ..) (arv (dG (LZ this NP) (by decide)))
  ·have fin:∀z:ai,z=aL C.θ (rep n x)->(Made.str z).post (λcv s'=>∃aa,Step C.tabs σ aa s s'/\Rep C aa st s'/\VR C aa (.str (rep n x)) cv) s:=λz e=>
    ⟨by refine ab (e ..) ?_;refine ab (ir ..) ?_;exact dG NP (by decide),σ,.toks,R.toks,e▸.str _ _⟩
   split
   ·rename_i h1
    refine fin _ ?_
    have:n=0:=by have:(n:Int)<1:=h1;lia
    subst this
    rfl
   ·split
    ·rename_i h2
     have:rep n x=x\/aL C.θ (rep n x)=aL C.θ x:=by
      simp only[UP,beq_iff_eq]at h2;rcases h2 with h2|h2
      ·left
       have:n=1:=by have:(n:Int)=1:=h2;exact Vy this
       subst this;simp[rep]
      ·right;rw[hL]at h2
       have e0:den C.θ x=[]:=by
        have:=qq C.θ x
        rw[hL,h2]at this;exact ara.mp this.symm
       unfold aL;refine ab (Hs ..) ?_;refine ab (e0 ..) ?_;simp
     refine cp σ (.refl _ _ _) R ?_;rcases this with e|e
     ·refine ab (e ..) ?_;exact .str x t
     ·refine bX (e ..) ?_;exact .str _ t
    ·exact fin _ Yg.symm
theorem Yh(n:Nat)(x:Array ac):∀aO:Array ac,((oX n x).foldl (λx y=>x++y) aO).toList=aO.toList++rep n x.toList:=by
 induction n with
 | zero=>intro aO;simp[rep]
 | succ n ih=>intro aO;refine ab (Va ..) ?_;refine ab (lq ..) ?_;refine ab (ih ..) ?_;simp[rep]
theorem az.rep{l:List V}{cs:List ac}(h:az C σ l cs)(n:Nat):az C σ (rep n l) (rep n cs):=by
 induction n with
 | zero=>exact .nil
 | succ n ih=>exact h.append ih
theorem Yi{prog:iS}{w:bD}{E:ac->ak->Prop}{l:al}{items:Array ac}{k:Nat}{x:Int}{u:Tok}{Q:ac->ak->Prop}
  (hl:s.heap.get? l=some (jO items k)) (Ht:-(2^63:Int)<=x) (Yj:x<2^63) (hsz:items.size*x.toNat<=2^24)
  (h:Q (.ref s.heap.objs.size) {s with heap:=s.heap.push (jO (List.foldl (λx1 x2=>x1++x2) #[] (oX (if items.isEmpty=true then 0 else x.toNat) items)) 0)}) :
  aR (model prog w) A (uZ .Mult (.ref l) (.int x u)) Q E s:=
 PySem.wpAny_binaryOp_repeat_ref (T := "list") (U := "int") (by decide) ⟨_,hl,rfl⟩ (λs'=>typeIs_int s' x u) noFill_list_mul PySem.F.fills_int_mul PySem.F.slot_int_rmul repeat_list PySem.F.slot_int_index.lookup
  (u8 PySem.F.slot_int_rmul (typeIs_int s x u) PySem.F.entry_int_rmul (PySem.F.args_int_rmul_2 _ _) (int___rmul___int_list x u l items k)
   ⟨hl,rfl,⟨_,hl,rfl⟩,u8 PySem.F.slot_list_mul ⟨_,hl,rfl⟩ PySem.F.entry_list_mul (PySem.F.args_list_mul_2 _ _)
    (AutoListH.list___mul___list_int_3 l items k x u (by simp[aqy];exact vg Ht Yj) (arv (dG hsz (by decide))) (by simp[asa,gI];omega))
    ⟨hl,h⟩⟩)
theorem Yl{l:List V}{b:V}{ca cb:ac}{op:jH}{v:V}(h:MX op l b=some v)(R:Rep C σ st s)(ha:VR C σ (.fl l) ca)(hb:VR C σ b cb):Op C A (uZ (ua op) ca cb) σ st s v:=by
 induction op with
 | mul=>
  induction b using V.casesOn with
  | int y=>
   induction y with
   | ofNat n=>
    refine xA (bK h) λk h=>xA ((cz _ _).mp k) λk1 k2=>bf h ?_
    rw[G9]at k1 k2;have k1:=of_decide_eq_true k1;have k2:=of_decide_eq_true k2;refine VR.Bx ha λa items m hm hv=>VR.gn hb λu=>λE=>?_
    have hz:=hv.items;refine Yi (x:=(n:Int)) (R.df _ hm).1 (pd (by decide)) (rx k1 (by decide)) (by exact ab (hz) (fh (mJ k2 (by decide)))) (v8 R ?_);refine ab (show(List.foldl (λx1 x2=>x1++x2) #[] (oX (if items.isEmpty=true then 0 else((n:Nat):Int).toNat) items)).toList=_ from Yh _ _ _) ?_
    by_cases e:items.isEmpty=true
    ·have:l=[]:=U2 (by exact bX (hz) (Array.isEmpty_iff_size_eq_zero.mp e))
     subst this;rw[if_pos e];have r0:∀n,rep n ([]:List V)=[]:=λn=>by induction n with|zero=>rfl|succ n ih=>exact ih
     rw[r0];exact .nil
    ·exact ab (if_neg e) (hv.rep n)
   | negSucc=>exact au h
  | _=>exact au h
 | _=>exact au h
theorem Ym(H:dz C N mg mb){op:jH}{a b:V}{ca cb:ac}{v:V}(h:mT op a b st=some v)(R:Rep C σ st s)(ha:VR C σ a ca)(hb:VR C σ b cb):Op C A (uZ (ua op) ca cb) σ st s v:=by
 have lists:∀{a b:V} {ca cb:ac},Gm a b st=some v->VR C σ a ca->VR C σ b cb->Op C A (uZ .Add ca cb) σ st s v:=by
  intro a b ca cb h ha hb E;unfold Gm at h;split at h
  ·rename_i l m e1 e2
   refine xA (BE h) λag hl=>?_;subst ag
   refine kX R e1 ha λx items n g hx=>kX R e2 hb λy r9 n2 g2 hy=>?_
   have s1:=hx.items;have s2:=hy.items;rw[cS]at hl;refine P.add_list g g2 ?_ (by refine ab (ir ..) ?_;exact Md s1 s2 hl (by decide));exact v8 R (by refine ab (Lz ..) ?_;exact hx.append hy)
  ·exact au h
 have Yn:∀{a b:V} {ca cb:ac},MZ op a b st=some v->VR C σ a ca->VR C σ b cb->Op C A (uZ (ua op) ca cb) σ st s v:=by
  intro a b ca cb h ha hb;have mul:MY op a b=some v->Op C A (uZ (ua op) ca cb) σ st s v:=λh=>by
   induction a using V.casesOn with
   | fl l=>exact Yl h R ha hb
   | _=>exact au h
  induction op with
  | add=>exact lists h ha hb
  | _=>exact mul h
 induction a using V.casesOn with
 | int x=>
  induction b using V.casesOn with
  | int y=>refine VR.gn ha λ_=>?_;refine VR.gn hb λ_=>?_;exact Yc h R
  | _=>exact au h
 | str x=>
  induction b using V.casesOn with
  | str y=>
   refine VR.fV ha λ_=>?_;refine VR.fV hb λ_=>?_
   induction op with
   | add=>
    refine xA (yJ h) λag hl=>?_;subst ag
    intro E;have h1:=t9 H x;have h2:=t9 H y;rw[cS]at hl;exact ash (λt' tk=>(cp σ .toks R.toks (by refine bX (XJ ..) ?_;exact .str _ _))) (by refine ab (ir ..) ?_;exact VL h1 h2 hl)
   | _=>exact au h
  | int y=>
   refine VR.fV ha λ_=>?_;refine VR.gn hb λ_=>?_
   induction op with
   | mul=>exact Ye H h R
   | _=>exact au h
  | _=>exact au h
 | _=>exact Yn h ha hb
theorem Yo(H:dz C N mg mb){l r:ar}{op:jH}{pos:aC}{a b:Cd}(hl:bn C sc l a)(hr:bn C sc r b):bn C sc (.BinOp l (ua op) r pos) (aK op a b):=by
 intro n K hK fr st v am h A env cs σ s hA F R;refine be (bu h) λx st1 e1 h=>be (bu h) λy aF e2 h=>?_
 induction e3:mT op x y aF with
 | none=>rw[e3]at h;exact au h
 | some z=>
  rw[e3]at h;exact dY h (v7 hl hr hK e1 e2 hA F R (λcv cu aa s' F' R' h1 h2=>aM.stand (aM.operate (Ym H e3 R' h1 h2))))
end
end Internal
namespace Internal
open PySem PySem.W PyProof.Rows PySem.Spec PyProof.V
section
variable {C:Cx}{A:bC}{s:ak}
abbrev SP(C:Cx):=Pairs (ki C.prog C.w)
theorem Hu{e:dU}{kv:ai×ac}(h:(ki C.prog C.w).is kv.1 e.key=true):∃t,e.key=.str kv.1 t:=arL h
theorem Yp{es:List dU}{ax:List (ai×ac)}(h:SP C es ax):(es.all λe=>isExactStrKey e.key)=true:=by
 induction h with
 | nil=>rfl
 | @cons e kv es ax h1 h2 _ ih=>
  obtain⟨t,e1⟩:=Hu h1;rw[LF,e1,ih];rfl
theorem Yq{es:List dU}{ax:List (ai×ac)}(h:SP C es ax)(k:ai):match es.findIdx? (λe=>e.key.isStr k)with
  | none=>pP ax k=none
  | some j=>∃e,es[j]?=some e/\pP ax k=some e.val:=by
 induction h with
 | nil=>rfl
 | @cons e kv es ax h1 h2 _ ih=>
  obtain⟨t,e1⟩:=Hu h1;have e2:e.key.isStr k=decide (kv.1=k):=by rw[e1];rfl
  rw[U6,e2];unfold pP at ih ⊢;refine ab (Ar) ?_;induction q:decide (kv.1=k)with
  | true=>exact aW e rfl (congrArg some h2.symm)
  | false=>
   induction z:es.findIdx? (λe=>e.key.isStr k)with
   | none=>rw[z]at ih;exact ih
   | some j=>rw[z]at ih;exact ih
theorem Yr{es:List dU}{ax:List (ai×ac)}(h:SP C es ax):∀{i:Nat} {e:dU},es[i]?=some e->∃kv t,ax[i]?=some kv/\e.key=.str kv.1 t/\e.val=kv.2:=by
 induction h with
 | nil=>intro i e q;exact au q
 | @cons e0 kv es ax h1 h2 _ ih=>
  intro i e q;induction i with
  | zero=>
   refine bf q ?_;obtain⟨t,e1⟩:=Hu h1;exact rz kv t rfl e1 h2
  | succ i=>exact ih q
inductive NQ(A:bC)(s:ak)(m:Nat)(ka kb:List (ai×ac))(r:Bool):List Nat->Option Bool×Unit->ak->Prop
 | mk (n i:Nat) {l:List Nat} (e:i+n=m) (hl:l=lU i n) (h:ER A s kb (ka.drop i) r):NQ A s m ka kb r l (none,()) s
variable {prog:iS}{w:bD}{E:ac->ak->Prop}
theorem keq_pairs{nm:String}{a b:al}{oa ob:aT}{es fs:Array dU}{ep fp:Nat}{ka kb:List (ai×ac)}{r:Bool}{Q:Bool->ak->Prop}(ha:(a==il)=false)(hb:(b==il)=false)
  (ga:s.heap.get? a=some oa) (da:oa.data=.dict es ep) (pa:SP C es.toList ka) (gb:s.heap.get? b=some ob) (db:ob.data=.dict fs fp) (pb:SP C fs.toList kb) (wa:ka.length=kb.length->ER A s kb ka r) (h:Q (ka.length==kb.length&&r) s) :
  aR (model prog w) A (Builtin.Dict.samePairs nm a b) Q E s:=by
 have la:=pa.length.symm.trans rn;have lb:=pb.length.symm.trans rn;unfold Builtin.Dict.samePairs Builtin.Dict.showsAll;rw[ha,hb];refine aA (bj (aA (bj (aA (vd ga da (aA (vd gb db ?_)))))));rw[la,lb]at h wa;induction hz:es.size==fs.size with
 | false=>
  rw[hz]at h;rw[if_pos (by show(!(es.size==fs.size))=true;rw[hz];rfl)];exact aA (UK (bj h))
 | true=>
  rw[hz,aqw]at h;rw[if_neg (by show ¬(!(es.size==fs.size))=true;rw[hz];decide)];refine aA (Ls ga da (aA ?_));rw[Std.Legacy.Range.forIn_eq_forIn_range'];simp only[Std.Legacy.Range.size,arA,Nat.add_sub_cancel,Nat.div_one];have wa:=wa (eq_of_beq hz);refine UE _ (NQ A s es.size ka kb r) _ (λi rest q s' x=>?_) (λq s' x=>?_) _ _ (.mk es.size 0 (rt _) rfl wa)
  ·cases x with
   | mk n i0 e1 e2 hh=>
    induction n using nI with
    | zero=>exact nomatch e2
    | succ n=>
     rw[Av]at e2;obtain⟨e3,e4⟩:=mC.inj e2;subst e3;have hi:i<es.size:=by lia
     have gi:es.toList[i]?=some es[i]:=by simp[hi]
     refine lY (Yr pa gi) λkv t gk ek ev=>?_
     obtain⟨fB,hk⟩:=gW.mp gk;rw[LG fB,hk]at hh;obtain⟨k,v⟩:=kv;refine aA (vd ga da ?_);rw[UL hi];have yL:=Yq pb k;refine aA (fY ?_);rw[ek];refine aA (KTD.kt_dictFind_strs gb db (by have:=Yp pb;simpa using this) ?_);rw[<-List.findIdx?_toArray,aqq]at yL;induction hf:fs.findIdx? (λe=>e.key.isStr k)with
     | none=>
      rw[hf]at yL;rcases hh.inv with⟨_,q⟩|⟨y,_,_,q,_⟩
      ·subst q;exact bj (bj (bj h))
      ·rw[yL]at q;exact au q
     | some j=>
      rw[hf]at yL;refine ah yL λf gf vf=>?_
      refine aA (vd gb db ?_);refine ab (show fs[j]?=some f by rw[<-gf];simp) ?_;rcases hh.inv with⟨q,_⟩|⟨y,e,b',q,he,hr,er⟩
      ·rw[vf]at q;exact kn q
      ·have:f.val=y:=mH.inj (vf.symm.trans q)
       subst this;rw[show v=es[i].val from ev.symm]at he;refine fY (he prog w _ _ ?_);subst er;induction e with
       | false=>exact bj (bj h)
       | true=>
        refine aA (Ls ga da ?_);rw[if_neg (by simp)];exact bj (.mk n (i+1) (by lia) e4 hr)
  ·cases x with
   | mk n i e1 e2 hh=>
    induction n with
    | succ n=>exact nomatch e2
    | zero=>
     rw[show i=ka.length by lia,aqO]at hh;cases hh;exact bj h
theorem NR {a b:al} {oa ob:aT} {es fs:Array dU} {ep fp:Nat} {ka kb:List (ai×ac)} {r:Bool} {Q:ac->ak->Prop} (ha:(a==il)=false) (hb:(b==il)=false) (ta:s.TypeIs (.ref a) "dict") (tb:s.TypeIs (.ref b) "dict")
  (ga:s.heap.get? a=some oa) (da:oa.data=.dict es ep) (pa:SP C es.toList ka) (gb:s.heap.get? b=some ob) (db:ob.data=.dict fs fp) (pb:SP C fs.toList kb) (hu:A.units<Ae) (wa:ka.length=kb.length->ER A.in1 s kb ka r) (h:Q (.bool (ka.length==kb.length&&r)) s) :
  aR (model prog w) A (richCompare .Eq (.ref a) (.ref b)) Q E s:=by
 refine wpAny_richCompare_same_room (op:=.Eq) ta tb PySem.F.slot_dict_eq (aqi PySem.F.slot_dict_eq ta PySem.F.entry_dict_eq ?_ (PySem.F.args_dict_eq_2 _ _)) hu;refine aA (aA (wpAny_notOrdered_dict ta ?_));refine bj (aA (aqk (T := "dict") tb PySem.F.sub_dict_dict ?_));refine aA (bj (aA (bj (aA (keq_pairs ha hb ga da pa gb db pb wa (bj ⟨_,rfl,nofun,?_⟩))))));exact ab (show((ka.length==kb.length&&r)==true)=(ka.length==kb.length&&r)by induction (ka.length==kb.length&&r)<;>rfl) h
end
end Internal
namespace Internal
open PySem PySem.W PyProof.Rows
open PySem.SeqAt
section
variable {C:Cx}{N:cP}{mg mb:ai->Option ac}{sc:Sc}{A:bC}{σ:Sg}{st:St}{s:ak}
def eY(C:Cx):Prop:=(∀a b,C.T.ne a b=true->∀x y:List Nat,a.den C.θ++x≠b.den C.θ++y)/\(C.h₀.get? il).isSome=true
theorem At.eq_iff{a b:At}(h:a.eq b=true):a=b:=by
 have Ys:∀{i j k i' j' k':Nat},(aG i i'&&(aG j j'&&aG k k'))=true->i=i'/\j=j'/\k=k':=λh=>xA ((cz _ _).mp h) λa h=>xA ((cz _ _).mp h) λb c=>⟨dj a,dj b,dj c⟩
 cases a<;>cases b<;>first|exact bV h|exact congrArg _ (dj h)|exact bP (Ys h) λp q r=>by subst p q r;rfl
theorem At.Hv{a:At}(h:a.one=true)(θ:Th):a.den θ≠[]:=by
 induction a with
 | c n=>simp[At.den]
 | v i=>simp[At.den]
 | s i j k=>exact bV h
theorem Yt(hN:eY C)(x:Tx):∀(y:Tx) (r:Bool),jI C.T x y=some r->r=decide (den C.θ x=den C.θ y):=by
 induction x with
 | nil=>
  intro y r h;induction y with
  | nil=>exact(aI h).symm
  | cons b y=>
   refine xA (Hq h) λe q=>q.trans (decide_eq_false λk=>?_).symm
   exact At.Hv e C.θ (U0.mp k.symm).1
 | cons a x ih=>
  intro y r h;induction y with
  | nil=>
   refine xA (Hq h) λe q=>q.trans (decide_eq_false λk=>?_).symm
   exact At.Hv e C.θ (U0.mp k).1
  | cons b y=>
   replace h:(match a.eq b with|true=>jI C.T x y|false=>rD (C.T.ne a b))=some r:=h
   induction e:a.eq b with
   | true=>
    rw[e]at h;refine At.eq_iff e▸(ih y r h).trans ?_;simp[den]
   | false=>
    rw[e]at h;refine xA (Hq h) λe q=>q.trans (decide_eq_false ?_).symm
    exact hN.1 a b e _ _
theorem NS{θ:Th}{x y:Tx}:aL θ x=aL θ y↔den θ x=den θ y:=by
 constructor
 ·intro h
  injection h with h
  exact vh.mpr h |> (λq=>by simpa using q)
 ·intro h;unfold aL;rw[h]
theorem yM(hN:eY C){x y:Tx}{r:Bool}(h:jI C.T x y=some r):r=(aL C.θ x==aL C.θ y):=by
 rw[Yt hN x y r h]
 by_cases e:den C.θ x=den C.θ y
 ·rw[decide_eq_true e,NS.mpr e];simp
 ·rw[decide_eq_false e]
  symm
  rw[beq_eq_false_iff_ne];exactλq=>e (NS.mp q)
theorem NT(hN:eY C){x y:Tx}(h:jI C.T x y=some true):aL C.θ x=aL C.θ y:=eq_of_beq (yM hN h).symm
theorem NU(hN:eY C){x y:Tx}(h:jI C.T x y=some false):aL C.θ x≠aL C.θ y:=ne_of_beq_false (yM hN h).symm
theorem BG(hN:eY C){x:Tx}{l:List (Tx×V)}{ax:List (ai×ac)}{r:Option V}(h:pj C.T x l=some r)(hk:cM C σ l ax):kz C σ r (pP ax (aL C.θ x)):=by
 revert h
 refine hk.ind (P:=λl ax=>pj C.T x l=some r->kz C σ r (pP ax (aL C.θ x))) (λh=>by refine bf h ?_;exact .none) ?_;intro y u l c0 kr a b ih h;refine ah (av h) λt e h=>?_
 unfold pP;refine ab (Ar) ?_;induction t with
 | true=>
  refine bf h ?_;refine ab (show decide ((aL C.θ y,c0).1=aL C.θ x)=true from decide_eq_true (NT hN e)) ?_;exact .some a
 | false=>
  exact ab (show decide ((aL C.θ y,c0).1=aL C.θ x)=false from decide_eq_false (NU hN e)) (ih h)
theorem cM.len{l:List (Tx×V)}{ax:List (ai×ac)}(h:cM C σ l ax):l.length=ax.length:=
 h.ind (P:=λl ax=>l.length=ax.length) rfl λ_ _ _ _ _ _ _ e=>congrArg (·+1) e
theorem Yu(hN:eY C){A:bC}{f:V->V->Option Bool}(hf:∀a b ca cb r,f a b=some r->VR C σ a ca->VR C σ b cb->EqAt A s ca cb r){m:List (Tx×V)}{kb:List (ai×ac)}(hm:cM C σ m kb){l:List (Tx×V)}{ka:List (ai×ac)}(hl:cM C σ l ka) :
  ∀{r:Bool},rH C.T f l m=some r->ER A s kb ka r:=by
 refine hl.ind (P:=λl ka=>∀{r:Bool},rH C.T f l m=some r->ER A s kb ka r) (λh=>aI h▸.nil) ?_;intro x v l c ka hv _ ih r h;refine ah (av h) λo e h=>?_
 have:=BG hN e hm
 generalize hq:pP kb (aL C.θ x)=q at this
 induction this with
 | none=>exact aI h▸.miss hq
 | some w=>exact ah (av h) λb e1 h=>ah (av h) λc e2 h=>aI h▸.hit hq (hf _ _ _ _ _ e1 hv w) (ih e2)
theorem Pairs.same{es:List dU}{ka:List (ai×ac)}(h:Pairs (ki C.prog C.w) es ka):∀{kb:List (ai×ac)},Pairs (ki C.prog C.w) es kb->ka=kb:=by
 induction h with
 | nil=>intro kb h;cases h;rfl
 | cons h1 h2 _ ih=>
  intro kb h;cases h with
  | cons g1 g2 g3=>exact ab (ih g3) (congrArg (·::_) (mI ((ki C.prog C.w).inj _ _ _ h1 g1) (h2.symm.trans g2)))
theorem hU.same{ka kb:List (ai×ac)}{o:aT}(x:hU C ka o)(y:hU C kb o):ka=kb:=by
 obtain⟨es,ep,_,e,_,p,_⟩:=x;obtain⟨es',AR,_,e',_,p',_⟩:=y;have q:=e.symm.trans e'
 injection q with q _
 subst q;exact Pairs.same p p'
theorem Yv{ax:List (ai×ac)}{k:ai}{c:ac}(hn:(ax.map (·.1)).Nodup)(h:(k,c)∈ax):pP ax k=some c:=by
 induction ax with
 | nil=>cases h
 | cons p l ih=>
  rw[jE,lT]at hn;unfold pP;rw[Ar];rcases cW.mp h with q|q
  ·rw[<-q];simp
  ·rw[show decide (p.1=k)=false from decide_eq_false λe=>hn.1 (dF.mpr ⟨_,q,e.symm⟩)];exact ih hn.2 q
theorem Yw(hN:eY C){f:V->V->Option Bool}(hf:∀a b c r,f a b=some r->VR C σ a c->VR C σ b c->r=true){m:List (Tx×V)}{kb:List (ai×ac)}(hm:cM C σ m kb)(hn:(kb.map (·.1)).Nodup){l:List (Tx×V)}{ka:List (ai×ac)}(hl:cM C σ l ka) :
  (∀p∈ka,p∈kb)->∀{r:Bool},rH C.T f l m=some r->r=true:=by
 refine hl.ind (P:=λl ka=>(∀p∈ka,p∈kb)->∀{r:Bool},rH C.T f l m=some r->r=true) (λ_ _ h=>(aI h).symm) ?_;intro x v l c ka hv _ ih hs r h;refine ah (av h) λo e h=>?_
 have hq:=Yv hn (hs _ bT)
 have:=BG hN e hm
 rw[hq]at this;cases this with
 | some w=>exact ah (av h) λb e1 h=>ah (av h) λd e2 h=>by rw[<-aI h,hf _ _ _ _ e1 hv w,ih (λp hp=>hs p (bL _ hp)) e2];rfl
theorem VR.BH(R:Rep C σ st s){l:List V}{c:ac}(h:VR C σ (.tup l) c):∃a items n,c=.ref a/\s.heap.get? a=some (j5 items n)/\az C σ l items.toList:=by
 refine FW λNV ub=>VR.ND h λ_z _z _z m x ag=>?_;subst ag
 exact ub ((vy _ _ _ rfl ((R.df _ m).1) x))
@[elab_as_elim] theorem t8{P:ac->Prop}(R:Rep C σ st s){l:List V}{c:ac}(h:VR C σ (.tup l) c)(k:∀a items n,s.heap.get? a=some (j5 items n)->az C σ l items.toList->P (.ref a)):P c:=VR.t8 h λa i n m x=>k a i n (R.df _ m).1 x
theorem NW{f:V->V->Option Bool}(hf:∀a b c r,f a b=some r->VR C σ a c->VR C σ b c->r=true)(l:List V):∀(m:List V) (cs:List ac) (r:Bool),ma f l m=some r->az C σ l cs->az C σ m cs->r=true:=by
 induction l with
 | nil=>exactλm cs r h _ _=>(aI h).symm
 | cons x l ih=>
  intro m cs r h h1 h2;induction m with
  | nil=>exact(aI h).symm
  | cons y m=>
   refine ah (av h) λp e h=>ah (av h) λq e2 h=>?_
   revert h2
   refine az.iq h1 λc cs a1 a2 h2=>xA (az.XT h2) λb1 b2=>?_
   rw[<-aI h,hf _ _ _ _ e a1 b1,ih m _ _ e2 a2 b2];rfl
inductive VE(T:Tb)(st:St)(d:Nat):V->V->Bool->Prop
 | none:VE T st d .none .none true
 | bool (x y:Bool):VE T st d (.bool x) (.bool y) (tN x y)
 | int (x y:Int):VE T st d (.int x) (.int y) (decide (x=y))
 | str (x y:Tx) (r:Bool):jI T x y=some r->VE T st d (.str x) (.str y) r
 | tup (l m:List V) (r:Bool):Go (eU T st d) l m=some r->VE T st d (.tup l) (.tup m) r
 | ns (x:Tx):VE T st d .none (.str x) false
 | sn (x:Tx):VE T st d (.str x) .none false
 | fd (l m:List (Tx×V)) (r:Bool):yi T (eU T st d) l m=some r->VE T st d (.fd l) (.fd m) r
 | obj (a b:V) (r:Bool):rG st (eU T st d) a b=some r->VE T st d a b r
theorem NX{T:Tb}{d:Nat}{a b:V}{r:Bool}(h:eU T st (d+1) a b=some r):VE T st d a b r:=by
 induction a using V.casesOn with
 | none=>induction b using V.casesOn with
  | none=>refine bf h ?_;exact .none
  | str x=>refine bf h ?_;exact .ns x
  | _=>exact .obj _ _ _ h
 | bool x=>induction b using V.casesOn with
  | bool y=>refine bf h ?_;exact .bool x y
  | _=>exact .obj _ _ _ h
 | int x=>induction b using V.casesOn with
  | int y=>refine bf h ?_;exact .int x y
  | _=>exact .obj _ _ _ h
 | str x=>induction b using V.casesOn with
  | str y=>exact .str x y _ h
  | none=>refine bf h ?_;exact .sn x
  | _=>exact .obj _ _ _ h
 | tup l=>induction b using V.casesOn with
  | tup m=>exact .tup l m _ h
  | _=>exact .obj _ _ _ h
 | fd l=>induction b using V.casesOn with
  | fd m=>exact .fd l m _ h
  | _=>exact au h
 | _=>exact .obj _ _ _ h
theorem az.NY{l m:List V}{cs:List ac}(h1:az C σ l cs)(h2:az C σ m cs):aG l.length m.length=true:=(congrArg (aG · m.length) (h1.length.trans h2.length.symm)).trans (gw _)
theorem Yx{h:cD}{a:al}{x y:Array ac}{n k:Nat}(e1:IsL h a x n)(e2:IsL h a y k):x=y:=by have:=e1.symm.trans e2;simp only[mH.injEq,Obj.mk.injEq,Data.seq.injEq]at this;exact this.2.2.1.1
theorem Yy(hN:eY C)(R:Rep C σ st s)(d:Nat):∀(a b:V) (c:ac) (r:Bool),eU C.T st d a b=some r->VR C σ a c->VR C σ b c->r=true:=by
 induction d with
 | zero=>exactλ_ _ _ _ h _ _=>au h
 | succ d ih=>
  intro a b c r h h1 h2
  replace h:=NX h
  induction h with
  | none=>rfl
  | bool x y=>
   have e:=(VR.Bw h1 id).symm.trans (VR.Bw h2 id)
   injection e with e
   subst e;induction x<;>rfl
  | int x y=>
   refine VR.yF h1 λt q=>VR.yF h2 λt' q'=>?_
   have:=q.symm.trans q'
   injection this with e _
   exact decide_eq_true e
  | str x y r h=>
   refine VR.Ha h1 λt q=>VR.Ha h2 λt' q'=>?_
   have:=q.symm.trans q'
   injection this with e1 e2
   rw[yM hN h,e1];exact beq_self_eq_true _
  | tup l m r h=>
   refine gY (h1.BH R) λx items n e1 g hx=>gY (h2.BH R) λy r9 n2 e2 g2 hy=>?_
   have q:=e1.symm.trans e2
   injection q with q
   rw[<-q]at g2
   have:=g.symm.trans g2
   simp only[j5,mH.injEq,Obj.mk.injEq,Data.seq.injEq]at this;rw[<-this.2.2.1.1]at hy;refine ah (av h) λp e h=>?_
   rw[<-aI h,NW ih _ _ _ _ e hx hy,hx.NY hy];rfl
  | fd l m r h=>
   refine VR.Hb h1 λx o ka m1 d1 k1 q1=>VR.Hb h2 λy o' kb m2 d2 k2 q2=>?_
   have q:=q1.symm.trans q2
   injection q with q
   subst q;have q:=(R.df _ m1).1.symm.trans (R.df _ m2).1
   injection q with q
   have q:o=o':=q;subst q;have q:=d1.same d2;subst q;unfold yi at h;rw[show aG l.length m.length=true by rw[k1.len,k2.len];exact gw _]at h;exact fL d2 λes ep z=>Yw hN ih k2 z.2.2.2.2 k1 (λ_ h=>h) h
  | ns x=>rw[VR.Bv h1 id]at h2;cases h2
  | sn x=>rw[VR.Bv h2 id]at h1;cases h1
  | obj _ _ _ h=>
   refine ah (av h) λl e1 h=>ah (av h) λm e2 h=>gY (yK R e1 h1) λx items n y1 g hx=>gY (yK R e2 h2) λy r9 n2 y2 g2 hy=>?_
   have q:=y1.symm.trans y2
   injection q with q
   rw[<-q]at g2;rw[<-Yx g g2]at hy;unfold Gn at h;rw[hx.NY hy]at h;exact NW ih _ _ _ _ h hx hy
theorem NZ{f:V->V->Option Bool}(hf:∀a b ca cb r,f a b=some r->VR C σ a ca->VR C σ b cb->EqAt A.in1 s ca cb r)(l:List V):∀(m:List V) (cs ds:List ac) (r:Bool),ma f l m=some r->az C σ l cs->az C σ m ds ->
  ∃e:Nat->Bool,(∀(j:Nat) (h1:j<cs.length) (h2:j<ds.length),EqAt A.in1 s cs[j] ds[j] (e j))/\r=(aD (min cs.length ds.length)).all e:=by
 induction l with
 | nil=>
  intro m cs ds r h h1 h2
  replace h1:=az.jP h1;subst h1
  exact(aW (λ_=>true) (λ_ h1=>absurd h1 (xQ _)) (by rw[lS,Nat.zero_min];exact(aI h).symm))
 | cons x l ih=>
  intro m cs ds r h h1 h2;induction m using iE with
  | nil=>
   replace h2:=az.jP h2;subst h2
   exact(aW (λ_=>true) (λ_ _ h1=>absurd h1 (xQ _)) (by rw[lS,Nat.min_zero];exact(aI h).symm))
  | cons y m=>
   refine ah (av h) λp e h=>ah (av h) λq e2 h=>az.iq h1 λc cs a1 a2=>az.iq h2 λd ds b1 b2=>ah (ih m _ _ _ e2 a2 b2) λg hg hq=>aW (λj=>match j with|0=>p|j+1=>g j) (λj h1 h2=>?_) ?_
   ·induction j with
    | zero=>exact hf _ _ _ _ _ e a1 b1
    | succ j=>exact hg j (xO h1) (xO h2)
   ·simp only[cH,Nat.add_min_add_right,ark,LF,List.all_map];rw[<-aI h,hq];rfl
theorem Hw{x y:al}{r:Bool}(hx:pc x=.ref y->r=true)(q:RcAt A s (.ref x) (.ref y) r):RcAt A s (.ref x) (.ref y) r/\EqAt A s (.ref x) (.ref y) r:=by
 refine⟨q,?_⟩
 by_cases e:x=y
 ·subst e;exact ab (hx rfl) (EqAt.same _)
 ·exact EqAt.of_refs e q
theorem Yz{f:V->V->Option Bool}(ih:∀a b ca cb r,f a b=some r->VR C σ a ca->VR C σ b cb->EqAt A.in1 s ca cb r)(R:Rep C σ st s)(hu:A.units<Ae){a b:V}{ca cb:ac}{r:Bool}(h:rG st f a b=some r)(h1:VR C σ a ca)(h2:VR C σ b cb)(hs:ca=cb->r=true):RcAt A s ca cb r/\EqAt A s ca cb r:=by
 refine ah (av h) λl e1 h=>ah (av h) λm e2 h=>?_
 revert hs
 refine gY (yK R e1 h1) λx items n e3 g hx=>e3▸?_
 refine gY (yK R e2 h2) λy r9 n2 e4 g2 hy=>e4▸?_
 refine λhs=>Hw hs ?_
 have s1:=hx.items;have s2:=hy.items;unfold Gn at h;induction hl:aG l.length m.length with
 | true=>
  rw[hl]at h;refine ah (NZ ih _ _ _ _ _ h hx hy) λe he hr=>?_
  have hsz:=xH s1 (xH (dj hl) (nF s2));rw[hr,show min items.toList.length r9.toList.length=items.size by rw[rn,rn,hsz,art]];exact RcAt.lists g.isList g2.isList hsz hu λj q1 q2=>by have:=he j (by simpa using q1) (by simpa using q2);simpa using this
 | false=>
  rw[hl]at h;refine bf h (RcAt.lists_lengths g.isList g2.isList ?_ hu);rw[bne_iff_ne,s1,s2];intro q;rw[q,gw]at hl;exact nN hl
theorem YA{f:V->V->Option Bool}(ih:∀a b ca cb r,f a b=some r->VR C σ a ca->VR C σ b cb->EqAt A.in1 s ca cb r)(R:Rep C σ st s)(hu:A.units<Ae){l m:List V}{ca cb:ac}{r:Bool}(h:Go f l m=some r)(h1:VR C σ (.tup l) ca)(h2:VR C σ (.tup m) cb)(hs:ca=cb->r=true):RcAt A s ca cb r/\EqAt A s ca cb r:=by
 refine ah (av h) λp e h=>?_
 revert hs
 refine gY (h1.BH R) λx items n e3 g hx=>e3▸?_
 refine gY (h2.BH R) λy r9 n2 e4 g2 hy=>e4▸?_
 refine λhs=>Hw hs (ah (NZ ih _ _ _ _ _ e hx hy) λf he hr=>?_)
 have s1:=hx.items;have s2:=hy.items;have key:=RcAt.tuples (A:=A) (s:=s) (e:=f) ⟨_,g,rfl,n,rfl⟩ ⟨_,g2,rfl,n2,rfl⟩ hu λj q1 q2=>by have:=he j (by simpa using q1) (by simpa using q2);simpa using this
 have k2:((aD (min items.size r9.size)).all f&&items.size==r9.size)=r:=by
  rw[<-aI h,hr,rn,rn,s1,s2]
  congr 1
  induction q:aG l.length m.length with
  | true=>rw[dj q];simp
  | false=>
   rw[beq_eq_false_iff_ne];intro z;rw[z,gw]at q;exact nN q
 exact k2▸key
theorem YB(hN:eY C){f:V->V->Option Bool}(ih:∀a b ca cb r,f a b=some r->VR C σ a ca->VR C σ b cb->EqAt A.in1 s ca cb r)(R:Rep C σ st s)(hu:A.units<Ae){l m:List (Tx×V)}{ca cb:ac}{r:Bool}(h:yi C.T f l m=some r)(h1:VR C σ (.fd l) ca)(h2:VR C σ (.fd m) cb)(hs:ca=cb->r=true):RcAt A s ca cb r/\EqAt A s ca cb r:=by
 revert hs
 refine VR.yG h1 λx o ka m1 d1 k1=>VR.yG h2 λy o' kb m2 d2 k2=>λhs=>Hw hs λprog w E Q hq=>?_
 have BI:∀{a:al},C.h₀.get? a=none->(a==il)=false:=fun{a} e=>beq_eq_false_iff_ne.mpr λq=>by
  have:=hN.2
  rw[<-q,e]at this;exact bV this
 refine iU (R.df _ m1) λg1 _ _ n1=>iU (R.df _ m2) λg2 _ _ n2=>?_
 have t1:=(d1.dictOf g1).typeIs;have t2:=(d2.dictOf g2).typeIs;obtain⟨es,ep,_,e1,_,p1,_⟩:=d1;obtain⟨fs,fp,_,e2,_,p2,_⟩:=d2;unfold yi at h;induction hl:aG l.length m.length with
 | true=>
  rw[hl]at h;refine NR (C:=C) (r:=r) (BI n1) (BI n2) t1 t2 g1 e1 p1 g2 e2 p2 hu (λ_=>Yu hN ih k2 k1 h) ?_;rw[show(ka.length==kb.length)=true by rw[<-k1.len,<-k2.len];exact beq_iff_eq.mpr (dj hl),aqw];exact hq
 | false=>
  rw[hl]at h
  replace h:=aI h;subst h
  have uc:(ka.length==kb.length)=false:=by rw[<-k1.len,<-k2.len];exact beq_eq_false_iff_ne.mpr λq=>by rw[q,gw]at hl;exact nN hl
  refine NR (C:=C) (r:=false) (BI n1) (BI n2) t1 t2 g1 e1 p1 g2 e2 p2 hu (λq=>by rw[q,beq_self_eq_true]at uc;exact nN uc) ?_;rw[uc,aqt];exact hq
theorem N0(hN:eY C)(R:Rep C σ st s)(d:Nat):∀(A:bC) (a b:V) (ca cb:ac) (r:Bool),eU C.T st d a b=some r->A.units+d<Ae->VR C σ a ca->VR C σ b cb->RcAt A s ca cb r/\EqAt A s ca cb r:=by
 induction d with
 | zero=>exactλ_ _ _ _ _ _ h _ _ _=>au h
 | succ d YC=>
  intro A a b ca cb r h hu h1 h2;have ih:∀a b ca cb r,eU C.T st d a b=some r->VR C σ a ca->VR C σ b cb->EqAt A.in1 s ca cb r:=λa b ca cb r h h1 h2=>(YC A.in1 a b ca cb r h (by simp only[Around.in1];exact pX hu) h1 h2).2
  have hs:ca=cb->r=true:=λe=>Yy hN R (d+1) a b _ _ h (e▸h1) h2
  replace h:=NX h
  induction h with
  | none=>exact VR.vW h1 (VR.vW h2 ⟨RcAt.none_none,EqAt.same _⟩)
  | bool x y=>
   refine VR.vX h1 (VR.vX h2 ?_)
   have:tN x y=(x==y):=by induction x<;>induction y<;>rfl
   rw[this];exact⟨RcAt.bool_bool x y,EqAt.bool_bool x y⟩
  | int x y=>
   refine VR.gn h1 λt=>VR.gn h2 λt'=>?_
   have:decide (x=y)=(x==y):=by by_cases e:x=y<;>rfl
   rw[this];exact⟨RcAt.int_int x t y t',EqAt.int_int x t y t'⟩
  | str x y r h=>
   refine VR.fV h1 λt=>VR.fV h2 λt'=>?_
   rw[yM hN h];exact⟨RcAt.str_str _ t _ t',EqAt.str_str _ t _ t'⟩
  | tup l m r h=>exact YA ih R (j1 hu) h h1 h2 hs
  | fd l m r h=>exact YB hN ih R (j1 hu) h h1 h2 hs
  | ns x=>exact VR.vW h1 (VR.fV h2 λ_=>⟨RcAt.none_str _ _,EqAt.none_str _ _⟩)
  | sn x=>exact VR.fV h1 λ_=>VR.vW h2 ⟨RcAt.str_none _ _,EqAt.str_none _ _⟩
  | obj _ _ _ h=>exact Yz ih R (j1 hu) h h1 h2 hs
end
end Internal
namespace Internal
open PySem PySem.W PyProof.Rows
open PySem.SeqAt
section
variable {C:Cx}{N:cP}{mg mb:ai->Option ac}{sc:Sc}{A:bC}{σ:Sg}{st:St}{s:ak}
noncomputable def ml:lB->sW
 | .eq=>.Eq
 | .lt=>.Lt
 | .le=>.LtE
 | .gt=>.Gt
 | .ge=>.GtE
 | .is=>.Is
 | .pi=>.IsNot
 | .isin=>.In
theorem BJ(c:Nat)(l:List Nat):gO c l=true↔c∈l:=by
 induction l with
 | nil=>exact⟨λh=>bV h,λh=>nomatch h⟩
 | cons b y ih=>
  show(match aG c b with|true=>true|false=>gO c y)=true↔_
  induction e:aG c b using Bool.casesOn with
  | false=>exact ih.trans ⟨bL _,λm=>(cW.mp m).resolve_left λq=>by rw[q,gw]at e;exact nN e⟩
  | true=>exact⟨λ_=>dj e▸bT,λ_=>rfl⟩
theorem YD(c:Nat)(l:List Nat):gO c l=decide (c∈l):=ro.mpr ((BJ c l).trans decide_eq_true_iff.symm)
theorem YE{v:V}{c:ac}{r:Bool}(h:isNone v=some r)(hv:VR C σ v c):r=(c==.none):=by
 induction v using V.casesOn with
 | none=>refine ab (VR.Bv hv id ..) ?_;exact(aI h).symm
 | bool b=>refine ab (VR.Bw hv id ..) ?_;exact(aI h).symm
 | str x=>refine VR.fV hv λt=>?_;exact(aI h).symm
 | loc n=>refine VR.mf hv λw _=>?_;exact(aI h).symm
 | _=>exact au h
theorem N1(a b:Bool):plainIs (.bool a) (.bool b)=true:=rfl
theorem cC.units{n:Nat}(h:cC n A):A.units+20<Ae:=by
 refine bP h λ_z _z c=>?_
 exact Nat.add_lt_add_right (FF c (by decide)) _
theorem YF{a b:ac}{k:Bool}(h:RcAt A s a b k){E:ac->ak->Prop}{Q:ac->ak->Prop}(hq:Q (.bool k) s):aR (model C.prog C.w) A (xx .Eq a b) Q E s:=h C.prog C.w E Q hq
theorem N3{a b:V}{ca cb:ac}{r:Bool}(h:isSame a b=some r)(ha:VR C σ a ca)(hb:VR C σ b cb) :
  (∀{E:ac->ak->Prop} {Q:ac->ak->Prop},Q (.bool r) s->aR (model C.prog C.w) A (xx .Is ca cb) Q E s) /\
   ∀{E:ac->ak->Prop} {Q:ac->ak->Prop},Q (.bool (cX r)) s->aR (model C.prog C.w) A (xx .IsNot ca cb) Q E s:=by
 induction b using V.casesOn with
 | bool y=>
  induction a using V.casesOn with
  | bool x=>
   refine VR.vX ha ?_;refine VR.vX hb ?_;refine bf h ?_;have e:tN x y=(vt x==vt y):=by induction x<;>induction y<;>rfl
   have e':cX (tN x y)=!(vt x==vt y):=by induction x<;>induction y<;>rfl
   exact⟨λq=>wpAny_is_plain (N1 x y) (e▸q),λq=>wpAny_isNot_plain (N1 x y) (e'▸q)⟩
  | _=>exact au h
 | none=>
  refine VR.vW hb ?_;have e:=YE h ha;have e':cX r=!(ca==.none):=by refine bX (e ..) ?_;induction r<;>rfl
  exact⟨λq=>is_none (e▸q),λq=>isNot_none (e'▸q)⟩
 | _=>exact au h
theorem BK{op:lB}{a b:V}{ca cb:ac}{r:Bool}(h:M1 op a b=some r)(ha:VR C σ a ca)(hb:VR C σ b cb){E:ac->ak->Prop}{Q:ac->ak->Prop}(q:Q (.bool r) s) :
  aR (model C.prog C.w) A (xx (ml op) ca cb) Q E s:=by
 induction a using V.casesOn with
 | int x=>
  induction b using V.casesOn with
  | int y=>
   refine VR.gn ha λt=>VR.gn hb λu=>?_
   induction op with
   | lt=>exact P.lt_int (aI h▸q)
   | le=>exact P.le_int (aI h▸q)
   | gt=>exact P.gt_int (aI h▸q)
   | ge=>exact P.ge_int (aI h▸q)
   | _=>exact au h
  | _=>exact au h
 | _=>exact au h
theorem YG(hN:eY C){x:Tx}{l:List V}{vs:List ac}(hv:az C σ l vs):∀{r:Bool},yj C.T x l=some r->∃ys,K7 vs ys/\r=ys.any (·==aL C.θ x):=by
 refine hv.ind (P:=λl vs=>∀{r:Bool},yj C.T x l=some r->∃ys,K7 vs ys/\r=ys.any (·==aL C.θ x)) (λh=>⟨[],.nil,(aI h).symm⟩) ?_;intro v l c cs a _ ih r h;induction v using V.casesOn with
 | str y=>exact ah (av h) λb e h=>ah (av h) λd e2 h=>VR.fV a λt=>ah (ih e2) λys z1 z2=>⟨aL C.θ y::ys,.cons _ t z1,by rw[<-aI h,Fh,<-z2,yM hN e]⟩
 | _=>exact au h
theorem BM(hN:eY C){op:lB}{a b:V}{ca cb:ac}{r:Bool}{n:Nat}(h:rI C.T op a b st=some r)(R:Rep C σ st s)(hA:cC n A)(ha:VR C σ a ca)(hb:VR C σ b cb)
  {E:ac->ak->Prop} {Q:ac->ak->Prop} (hq:Q (.bool r) s):aR (model C.prog C.w) A (xx (ml op) ca cb) Q E s:=by
 induction op with
 | eq=>exact YF (N0 hN R 12 A a b ca cb r h (by have:=hA.units;exact j1 (tF (oY _ _ _) this)) ha hb).1 hq
 | is=>exact(N3 h ha hb).1 hq
 | pi=>
  replace h:M0 (isSame a b)=some r:=h
  induction e:isSame a b with
  | none=>rw[e]at h;exact au h
  | some r'=>
   rw[e]at h;exact(N3 e ha hb).2 (aI h▸hq)
 | isin=>
  induction a using V.casesOn with
  | str x=>
   induction b using V.casesOn with
   | str y=>
    refine VR.fV ha λt=>VR.fV hb λu=>?_
    replace h:(match dw x with|some l=>(match l with|[n]=>(match dw y with|some v=>some (gO n v)|none=>none)|_=>none)|none=>none)=some r:=h
    induction ex:dw x with
    | none=>rw[ex]at h;exact au h
    | some l=>
     rw[ex]at h
     match l,ex,h with
     | [],_,h=>exact au h
     | _::_::_,_,h=>exact au h
     | [n],ex,h=>
      replace h:(match dw y with|some v=>some (gO n v)|none=>none)=some r:=h
      induction ey:dw y with
      | none=>rw[ey]at h;exact au h
      | some v=>
       rw[ey]at h;refine P.in_str ?_;have e1:aL C.θ x=⟨#[n]⟩:=by unfold aL;exact ab (jt ex ..) rfl
       have e2:(aL C.θ y).cps.toList=v:=by unfold aL;simp[jt ey]
       refine ab (e1 ..) ?_;refine ab (StrLaws.found_one ..) ?_;refine ab (e2 ..) ?_;refine bX (YD ..) ?_;exact ab (aI h ..) (hq)
   | fl l=>
    refine VR.fV ha λt=>gY (VR.isList R hb) λa items n q g hv=>q▸?_
    exact ah (YG hN hv h) λys hs e=>in_list_strs (vs:=items.toList) ⟨_,g,rfl,n,rfl⟩ hs (e▸hq)
   | _=>exact au h
  | _=>exact au h
 | lt=>exact BK (op:=.lt) h ha hb hq
 | le=>exact BK (op:=.le) h ha hb hq
 | gt=>exact BK (op:=.gt) h ha hb hq
 | ge=>exact BK (op:=.ge) h ha hb hq
theorem YH(H:dz C N mg mb){v:V}{c:ac}{r:Bool}(h:Gl st v=some r)(R:Rep C σ st s)(hv:VR C σ v c):aM C A (truthy c) σ s (λb aa s'=>Rep C aa st s'/\b=r):=by
 intro E;refine lz λmm eC=>?_
 have fin:∀b,b=r->∃aa,Step C.tabs σ aa s s/\Rep C aa st s/\b=r:=λb e=>(cp σ (.refl _ _ _) R e)
 have qr:∀b,b=r->∀k,∃aa,Step C.tabs σ aa s {s with toks:=k}/\Rep C aa st {s with toks:=k}/\b=r:=λb e k=>(cp σ .toks R.toks e)
 have N4:∀{items:Array ac} {l:List V},items.size=l.length->(!items.isEmpty)=(match l with|[]=>false|_=>true):=by
  intro items l e;induction l with
  | nil=>simp[UM,e]
  | cons=>simp[UM,e]
 have list:∀{l:List V},A1 l=some r->l.length<4000/\r=(match l with|[]=>false|_=>true):=by
  intro l h;unfold A1 at h;split at h
  ·rename_i e
   exact bf h (⟨mZ e,rfl⟩)
  ·exact au h
 unfold Gl at h;split at h
 ·refine VR.vW hv ?_;replace h:=aI h;subst h;exact truthy_none (eC _ _ (fin _ rfl))
 ·refine VR.vX hv ?_;replace h:=aI h;subst h;exact Ly (eC _ _ (fin _ rfl))
 ·rename_i i
  refine VR.gn hv λ_=>P.truthy_int (eC _ _ (fin _ ?_))
  simp only[mH.injEq]at h;refine bX (h ..) ?_;induction i with
  | ofNat n=>induction n<;>rfl
  | negSucc n=>rfl
 ·rename_i x
  refine VR.fV hv λ_=>?_
  unfold MS at h;split at h
  ·rename_i e
   have hl:=v9 e;have hd:=t9 H x;refine P.truthy_str (by omega) ?_
   have:(((aL C.θ x).length:Int) !=0)=r:=by
    induction x with
    | nil=>refine bf h ?_;rfl
    | cons a x=>
     simp only at h;split at h
     ·rename_i e1
      refine bf h ?_
      have:=At.Hv e1 C.θ
      refine ab (qq ..) ?_;simp only[den,cS,bne_iff_ne,ne_eq]
      have:(a.den C.θ).length≠0:=λq=>this (ara.mp q)
      omega
     ·exact au h
   exact eC _ _ (qr _ this _)
  ·exact au h
 ·rename_i l
  refine t8 R hv λa items n g hx=>xA (list h) λh1 h2=>?_
  have:=hx.items
  exact asq ⟨_,g,rfl,n,rfl⟩ (by omega) (eC _ _ (qr _ ((N4 this).trans h2.symm) _))
 ·split at h
  ·rename_i l e
   refine kX R e hv λa items n g hx=>xA (list h) λh1 h2=>?_
   have:=hx.items
   exact wpAny_truthy_list g.isList (by omega) (eC _ _ (qr _ ((N4 this).trans h2.symm) _))
  ·exact au h
end
end Internal
namespace Internal
open PySem PySem.W PyProof.Rows
section
variable {C:Cx}{N:cP}{mg mb:ai->Option ac}{sc:Sc}
theorem i9{r:Option V}{st am:St}{v:V}(h:eB r st=some (v,am)):r=some v/\am=st:=by
 induction r with
 | none=>exact au h
 | some w=>refine dY h ?_;exact⟨rfl,rfl⟩
theorem BN{r:Option Bool}{st am:St}{v:Bool}(h:A8 r st=some (v,am)):r=some v/\am=st:=by
 induction r with
 | none=>exact au h
 | some w=>refine dY h ?_;exact⟨rfl,rfl⟩
theorem YI(hN:eY C){l r:ar}{op:lB}{pos:aC}{a b:Cd}(hl:bn C sc l a)(hr:bn C sc r b)(hm:xv (ml op) r=false) :
  mj C sc (.Compare l [ml op] [r] pos) (bq C.T op a b):=by
 intro n K hK fr st v am h A env cs σ s hA F R;refine be (bu h) λx st1 e1 h=>be (bu h) λy aF e2 h=>xA (BN h) λe3 ag=>?_;subst ag
 refine ab (isTrue_Compare1 ..) ?_;refine ab (Ll hm ..) ?_;exact v7 hl hr hK e1 e2 hA F R λcv cu aa s' F' R' h1 h2=>aM.stand λE=>aA (wpAny_operate' (BM hN e3 R' hA h1 h2 (fY (Ly (cp aa (.refl _ _ _) R' rfl)))))
theorem YJ(hN:eY C){l r:ar}{op:lB}{pos:aC}{a b:Cd}(hl:bn C sc l a)(hr:bn C sc r b)(hm:xv (ml op) r=false) :
  bn C sc (.Compare l [ml op] [r] pos) (nU (bq C.T op a b)):=by
 intro n K hK fr st v am h A env cs σ s hA F R;refine be (bu h) λx st1 e1 h=>dY h ?_
 refine be (bu e1) λx' st1 e1 h=>be (bu h) λy aF e2 h=>xA (BN h) λe3 ag=>?_;subst ag
 refine ab (eval_Compare1 ..) ?_;refine ab (Ll hm ..) ?_;exact v7 hl hr hK e1 e2 hA F R λcv cu aa s' F' R' h1 h2=>aM.stand λE=>wpAny_operate' (BM hN e3 R' hA h1 h2 (cp aa (.refl _ _ _) R' (.bool x)))
theorem YK(env:bd)(l:ar)(o1 o2:sW)(m r:ar)(pos:aC)(YL:bo ac)(h1:xv o2 r=false) :
  ti (.Compare l [o1,o2] [m,r] pos) env YL=(eval l env>>=λa=>holding [a] (eval m env)>>=λb=>gv pos>>=λ_z=>holding [a,b] (xx o1 a b)>>=λc=>release [a,b] [c]>>=λ_z=>
   holding [c,b] (truthy c)>>=λt=>if t then(holding [b] (eval r env)>>=λd=>gv pos>>=λ_z=>operate [b,d] (xx o2 b d)>>=λe=>holding [e] (truthy e))else pure false):=by
 show(eval l env>>=λa=>testChain pos a [o1,o2] (markedEach [o1,o2] [m,r] [eval m env,eval r env]))=_
 have:markedEach [o1,o2] [m,r] [eval m env,eval r env]=[eval m env,eval r env]:=by
  show [eval m env,markedBehindIn o2 r (eval r env)]=_
  exact ab (Ll h1 ..) rfl
 refine ab (this ..) ?_
 rfl
theorem YM(hN:eY C){l m r:ar}{o1 o2:lB}{pos:aC}{a b c:Cd}(hl:bn C sc l a)(YN:bn C sc m b)(hr:bn C sc r c)(hm:xv (ml o2) r=false) :
  mj C sc (.Compare l [ml o1,ml o2] [m,r] pos) (M9 C.T a o1 b o2 c):=by
 intro n K hK fr st v am h A env cs σ s hA F R;refine be (bu h) λx st1 e1 h=>be (bu h) λy aF e2 h=>ab (YK _ _ _ _ _ _ _ _ hm ..) ?_
 refine v7 hl YN hK e1 e2 hA F R λcv cu aa s' F' R' h1 h2=>aM.stand ?_
 refine ah (av h) λt e3 h=>?_
 intro E;refine aA (fY (BM hN e3 R' hA h1 h2 (aA ?_)));have YO:∀{vs keep:List ac} {E:ac->ak->Prop} {Q:Unit->ak->Prop} {s:ak},Q () s->aR (model C.prog C.w) A (release vs keep) Q E s:=λq Γ p NF=>by refine ab (Sem.wp_release ..) ?_;exact q
 refine YO (aA (fY (Ly ?_)));induction t with
 | false=>refine dY h ?_;exact bj (cp aa (.refl _ _ _) R' rfl)
 | true=>
  refine be (bu h) λz hR e4 h=>xA (BN h) λe5 ag=>?_;subst ag
  refine(aM.hold (hr n K hK fr aF z am e4 A env cs aa s' hA F' R')).bind (λcw σ2 s2 x2 ag=>xA ag λR2 V2=>aM.stand λE=>?_) E;exact aA (wpAny_operate' (BM hN e5 R2 hA (h2.mono x2.le) V2 (fY (Ly (cp σ2 (.refl _ _ _) R2 rfl)))))
theorem YP{x:ar}{pos:aC}{t:Ct}(hx:mj C sc x t):mj C sc (.UnaryOp .Not x pos) (M' t):=by
 intro n K hK fr st v am h A env cs σ s hA F R;refine be (bu h) λb st1 e1 h=>?_
 replace h:=aI h;cases h
 refine(hx n K hK fr st b am e1 A env cs σ s hA F R).bind λb' aa s' x' ag=>xA ag λR' e=>aM.pure ⟨R',?_⟩
 subst b';induction b<;>rfl
def yN(C:Cx)(sc:Sc)(es:List ar)(c:Ct):Prop:=∀n K,fq C n K->∀fr st v am,c K fr st=some (v,am)->∀A env cs σ s,cC n A->bp C sc fr env cs σ s->Rep C σ st s ->
 aM C A (allTrue .And es env) σ s (λb aa s'=>Rep C aa am s'/\b=v)
theorem YQ{x:ar}{t:Ct}(hx:mj C sc x t):yN C sc [x] t:=by
 intro n K hK fr st v am h A env cs σ s hA F R
 show aM C A (ti x env (eval x env)>>=λb=>match BoolOp.And,b with
  | .And,false=>pure false
  | .Or,true=>pure true
  | _,_=>pure true) σ s _
 refine(hx n K hK fr st v am h A env cs σ s hA F R).bind λb' aa s' x' ag=>xA ag λR' e=>?_
 subst b';induction v<;>exact aM.pure ⟨R',rfl⟩
theorem YR{x:ar}{es:List ar}{t u:Ct}(hx:mj C sc x t)(hr:yN C sc es u):yN C sc (x::es) (yr t u):=by
 intro n K hK fr st v am h A env cs σ s hA F R;refine be (bu h) λb st1 e1 h=>?_
 show aM C A (ti x env (eval x env)>>=λb=>match BoolOp.And,b with
  | .And,false=>pure false
  | .Or,true=>pure true
  | _,_=>allTrue .And es env) σ s _
 refine(hx n K hK fr st b st1 e1 A env cs σ s hA F R).bind λb' aa s' x' ag=>xA ag λR' e=>?_
 subst b';induction b with
 | false=>refine dY h ?_;exact aM.pure ⟨R',rfl⟩
 | true=>exact hr n K hK fr st1 v am h A env cs aa s' hA (F.stepT x') R'
theorem YS{es:List ar}{pos:aC}{t:Ct}(h:yN C sc es t):mj C sc (.BoolOp .And es pos) t:=h
theorem YT(H:dz C N mg mb){e:ar}{c:Cd}(he:bn C sc e c)(hp:∀env w,ti e env w=(w>>=λv=>gv e.pos>>=λ_z=>holding [v] (truthy v))):mj C sc e (tW c):=by
 intro n K hK fr st v am h A env cs σ s hA F R;refine be (bu h) λx st1 e1 h=>xA (BN h) λe2 ag=>?_;subst ag
 exact ab (hp ..) ((he n K hK fr st x am e1 A env cs σ s hA F R).bind λcv aa s' x' ag=>xA ag λR' V'=>aM.stand (aM.hold (YH H e2 R' V')))
theorem YU{t a b:ar}{pos:aC}{ct:Ct}{ca cb:Cd}(ht:mj C sc t ct)(ha:bn C sc a ca)(hb:bn C sc b cb):bn C sc (.IfExp t a b pos) (jp ct ca cb):=by
 intro n K hK fr st v am h A env cs σ s hA F R;refine be (bu h) λr st1 e1 h=>(ht n K hK fr st r st1 e1 A env cs σ s hA F R).bind λb' aa s' x' ag=>xA ag λR' e=>?_
 subst b';induction r with
 | true=>exact ha n K hK fr st1 v am h A env cs aa s' hA (F.stepT x') R'
 | false=>exact hb n K hK fr st1 v am h A env cs aa s' hA (F.stepT x') R'
end
section
variable {C:Cx}{N:cP}{mg mb:ai->Option ac}{sc:Sc}{A:bC}{σ:Sg}{st:St}{s:ak}
theorem N5{l:List V}{i:Int}{v:V}(h:Gq l i=some v):∃n:Nat,i=(n:Int)/\n<4000/\l[n]?=some v:=by
 induction i with
 | ofNat n=>exact xA (bK h) λe h=>cp n rfl (bF e) h
 | negSucc=>exact au h
inductive px(s:ak):ac->Prop
 | list {a:al} {items:Array ac} {n:Nat}:IsL s.heap a items n->px s (.ref a)
 | tup {a:al} {items:Array ac} {n:Nat}:s.heap.get? a=some (j5 items n)->px s (.ref a)
 | str (x:ai) (t:Tok):px s (.str x t)
 | dict {a:al} {o:aT}:s.heap.get? a=some o->o.cls=.type "dict" -> px s (.ref a)
theorem YV{iX:ar}{o i:ac}{E:ac->ak->Prop}{Q:ac->ak->Prop}{M:iS}{w:bD}(hs:px s o)(lG:∀a b c d,iX≠.Slice a b c d)
  (h:aR (model M w) A (pO o i) Q E s) {cQ:ar}:aR (model M w) A (te o>>=λb=>subscripted iX b o i>>=λr=>tl cQ o r>>=λ_z=>pure r) Q E s:=by
 have sub:subscripted iX false o i=operate [o,i] (pO o i):=by
  cases iX<;>first|rfl|(exact absurd rfl (lG _ _ _ _))
 have fin:aR (model M w) A (subscripted iX false o i>>=λr=>tl cQ o r>>=λ_z=>pure r) Q E s:=by
  exact ab (sub ..) (aA (UI (c8 h (λr s' q=>aA (Lv (bj q))) λ_z _z e=>e)))
 have key:∀{T id:String},s.TypeIs o T->kM (.type T) "__getitem__"= pure (some (.builtin id))->aR (model M w) A (te o) (λb s'=>b=false/\s'=s) E s:=λht hl=>by
  exact ab (Uz ht.not_modules ..) (aA (xF ht hl (bj ⟨rfl,rfl⟩)))
 have k2:aR (model M w) A (te o) (λb s'=>b=false/\s'=s) E s:=by
  induction hs with
  | list g=>exact key ⟨_,g,rfl⟩ slot_list_getitem.lookup
  | tup g=>exact key ⟨_,g,rfl⟩ UX.lookup
  | str x t=>exact key (An s x t) UV.lookup
  | dict g h'=>exact key ⟨_,g,h'⟩ slot_dict_getitem.lookup
 exact aA (c8 k2 (λb s' ag=>xA ag λe1 e2=>by subst e1 s';exact fin) λ_z _z e=>e)
theorem N6:∀{x:Tx} {l:List V},tP x=some l->l.length=x.length/\(den C.θ x).length=x.length/\∀(i:Nat) (v:V),l[i]?=some v->∃c a,(den C.θ x)[i]?=some c/\v=.str [a]/\den C.θ [a]=[c]:=by
 intro x;induction x with
 | nil=>intro l h;replace h:=aI h;subst h;exact⟨rfl,rfl,λi v e=>au e⟩
 | cons a x Hx=>
  intro l h;refine xA (bK h) λho h=>ah (av h) λl' e h=>?_
  replace h:=aI h;subst h
  refine bP (Hx e) λh1 h2 h3=>?_
  have ha:∃c,a.den C.θ=[c]:=by
   induction a with
   | c n=>exact⟨_,rfl⟩
   | v i j k=>exact⟨_,rfl⟩
   | s i j k=>exact bV ho
  refine xE ha λc hc=>?_
  have hd:den C.θ (a::x)=c::den C.θ x:=congrArg (·++den C.θ x) hc;refine ab (hd ..) ?_;refine⟨congrArg (·+1) h1,congrArg (·+1) h2,λi v e=>?_⟩;induction i with
  | zero=>exact rz c a rfl (aI e).symm (congrArg (·++[]) hc)
  | succ i=>exact h3 i v e
theorem YW{a:al}{items:Array ac}{l:List V}{n:Nat}{k:Int}{t:Tok}{v:V}(h:A2 l k=some v)(g:IsL s.heap a items n)(hx:az C σ l items.toList)(R:Rep C σ st s) :
  aM C A (pO (.ref a) (.int k t)) σ s (λcv aa s'=>Rep C aa st s'/\VR C aa v cv):=λE=>by
 refine ah (av h) λm e hv=>ah (hx.get hv) λc hc V=>?_
 have hc:items[m]?=some c:=by simpa using hc
 induction k with
 | ofNat k=>exact xA (bK e) λhk e=>by cases e;exact wpAny_getItem_list g.isList (pd (by decide)) (rx (bF hk) (by decide)) hc (cp σ (.refl _ _ _) R V)
 | negSucc k=>
  refine xA (bK e) λhk e=>xA ((cz _ _).mp hk) λh1 h2=>?_
  cases e;have h1:=bF h1;have h2:=bF h2;have hz:=hx.items;rw[<-hz]at h1 hc;refine wpAny_getItem_list_neg g.isList (Fg k) (FJ h1) (Mf h2) ?_ (cp σ (.refl _ _ _) R V);exact ab FK hc
theorem N7(hN:eY C){a i v:V}{ca ci:ac}(h:nR C.T a i st=some v)(R:Rep C σ st s)(ha:VR C σ a ca)(hi:VR C σ i ci) :
  px s ca/\aM C A (pO ca ci) σ s (λcv aa s'=>Rep C aa st s'/\VR C aa v cv):=by
 induction i using V.casesOn with
 | int k=>
  refine VR.gn hi λt=>?_
  have sq:∀{a:V} {ca:ac},VR C σ a ca->(af (gN a st) λl=>A2 l k)=some v->px s ca/\aM C A (pO ca (.int k t)) σ s (λcv aa s'=>Rep C aa st s'/\VR C aa v cv):=λha h=>
   ah (av h) λl e h=>kX R e ha λx items k g hx=>⟨.list g,YW h g hx R⟩
  induction a using V.casesOn with
  | str x=>
   refine VR.fV ha λu=>ah (av h) λl e h=>fj (N5 h) λn ag hn hv=>?_;subst ag
   refine bP (N6 (C:=C) e) λh1 h2 h3=>lY (h3 n v hv) λc a q1 ag q3=>?_;subst ag
   refine⟨.str _ _,λE=>P.getItem_str (c:=c) ?_ ?_ ?_⟩
   ·simp only[aqv,decide_eq_false_iff_not];exact⟨Mb (pd (by decide)),(Ma (rx hn (by decide)))⟩
   ·have hl:n<(aL C.θ x).length:=by refine ab (qq ..) ?_;exact(gW.mp q1).1
    refine ab (seqIndex_of (pd (by decide)) (L8 hl) ..) ?_;unfold aL;simpa using q1
   ·refine(cp σ .toks R.toks ?_)
    have:(⟨#[c]⟩:ai)=aL C.θ [a]:=by unfold aL;exact ab (q3 ..) rfl
    refine ab (this ..) ?_;exact .str _ _
  | tup l=>
   refine fj (N5 h) λn ag hn hv=>?_;subst ag
   refine t8 R ha λx items k g hx=>ah (hx.get hv) λc hc V=>⟨.tup g,λE=>P.getItem_tuple (n:=k) g (pd (by decide)) (rx hn (by decide)) (seqIndex_of (pd (by decide)) ?_) (y:=c) ?_ (cp σ (.refl _ _ _) R V)⟩
   ·have:=(gW.mp hc).1
    rw[rn]at this;exact L8 this
   ·simpa using hc
  | _=>exact sq ha h
 | str x=>
  refine ah (av h) λl e h=>ah (av h) λo e2 h=>fZ (NN R e ha) λd ob ax y=>iU y λq g D k=>?_
  replace q:=nF q;subst q
  have hx:=BG hN e2 k;rw[show o=some v from h]at hx;refine VR.fV hi λt=>?_
  generalize hq:pP ax (aL C.θ x)=q at hx
  cases hx with
  | some w=>
   refine⟨.dict g ?_,λE=>?_⟩
   ·exact be D λ_ _ z _=>z.1
   ·exact wpAny_getItem_of (k:=aL C.θ x) (show(PySem.strKind C.prog C.w).is (aL C.θ x) (.str (aL C.θ x) t)=true by simp[PySem.strKind,arK]) (D.dictOf g).mapOf hq (cp σ .toks R.toks w)
 | _=>exact au h
theorem YX(hN:eY C){cQ iX:ar}{pos:aC}{a i:Cd}(hv:bn C sc cQ a)(hi:bn C sc iX i)(lG:∀a b c d,iX≠.Slice a b c d) :
  bn C sc (.Subscript cQ iX pos) (aJ C.T a i):=by
 intro n K hK fr st v am h A env cs σ s hA F R;refine be (bu h) λx st1 e1 h=>be (bu h) λy aF e2 h=>xA (i9 h) λe3 ag=>?_;subst ag
 exact ab (Uy ..) (v7 hv hi hK e1 e2 hA F R λcv cu aa s' F' R' h1 h2=>aM.stand λE=>xA (N7 (A:=A) hN e3 R' h1 h2) λq1 q2=>YV q1 lG (q2 E))
end
section
variable {C:Cx}{N:cP}{mg mb:ai->Option ac}{sc:Sc}{A:bC}{σ:Sg}{st:St}{s:ak}
theorem Step.BO{ow:List al}{s s':ak}(k:∀b ob,s.heap.get? b=some ob->s'.heap.get? b=some ob)(sm:∃h' tk,s'={s with heap:=h',toks:=tk}):Step ow σ σ s s':=
 ⟨(aW ([]) (by simp) (λ_z q=>(nomatch q))),(aW ([]) (by simp) (λ_z q=>(nomatch q))),λb o e _z _z=>k b o e,t7 k,sm⟩
def BP(C:Cx)(sc:Sc)(e:Option ar)(c:Option Cd):Prop:=match e,c with
 | none,none=>True
 | some e,some c=>bn C sc e c
 | _,_=>False
inductive mn(C:Cx)(σ:Sg):Option V->ac->Prop
 | none:mn C σ none .none
 | some {v:V} {c:ac}:VR C σ v c->mn C σ (some v) c
theorem mn.mono{σ aa:Sg}(h:Sg.Le σ aa){v:Option V}{c:ac}:mn C σ v c->mn C aa v c
 | .none=>.none
 | .some x=>.some (x.mono h)
theorem N8{e:Option ar}{c:Option Cd}(h:BP C sc e c){n:Nat}{K:bb}(hK:fq C n K){fr:Fr}{st am:St}{v:Option V}(e1:GE c K fr st=some (v,am))
  {env:bd} {cs:List al} (hA:cC n A) (F:bp C sc fr env cs σ s) (R:Rep C σ st s):aM C A (valueOrNone (evalOpt e env)) σ s (λcv aa s'=>Rep C aa am s'/\mn C aa v cv):=by
 induction e with
 | none=>
  induction c with
  | none=>refine dY e1 ?_;exact aM.pure ⟨R,.none⟩
  | some c=>exact h.elim
 | some e=>
  induction c with
  | none=>exact h.elim
  | some c=>
   refine be (bu e1) λw st1 e2 e3=>?_
   replace e3:=aI e3;cases e3
   exact(h n K hK fr st w am e2 A env cs σ s hA F R).mono λcv aa s' x ag=>xA ag λR' V'=>⟨R',.some V'⟩
theorem YY{n:Nat}{v:V}{k:Nat}{P:ac->Prop}{c:ac}(h:yk n v=some k)(hv:VR C σ v c)(q:∀i t,Ld n i=k->P (.int i t)):P c:=by
 induction v using V.casesOn with
 | int i=>
  refine xA (bK h) λ_z h=>VR.yF hv λt e=>e▸q i t ?_
  unfold Ld;induction i with
  | ofNat m=>exact(congrArg (λx:Int=>(max 0 (min x n)).toNat) (if_neg (Int.not_lt.mpr (Aq m)))).trans ((Vf m n).elim (λq=>(FL (to.mpr q)).trans ((tD q).symm.trans (aI h))) λq=>(Int.min_comm ..▸FL (to.mpr q)).trans ((Vi q).symm.trans (aI h)))
  | negSucc m=>exact(congrArg (λx:Int=>(max 0 (min x n)).toNat) (if_pos (Fg m))).trans ((FL (Int.add_le_of_le_sub_right (Int.sub_self (n:Int)▸nG (Fg m)))).trans (FK.trans (aI h)))
 | _=>exact au h
theorem N9{n d k:Nat}{o:Option V}{c:ac}(h:Gr n d o=some k)(hv:mn C σ o c):∃p:Option Int,K5 c p/\p.elim d (Ld n)=k:=by
 induction hv with
 | none=>exact aW none .none (aI h)
 | @some v c hv=>exact YY (P:=λc=>∃p:Option Int,K5 c p/\p.elim d (Ld n)=k) h hv λi t e=>aW (some i) (.int _ t) e
theorem YZ{l:List V}{items:Array ac}{lo hi:Option V}{m:List V}{cl ch:ac}(h:A3 l lo hi=some m)(hx:az C σ l items.toList)(hl:mn C σ lo cl)(hh:mn C σ hi ch) :
  ∃p q,K5 cl p/\K5 ch q/\az C σ m (slicePick items p q none).toList:=by
 refine ah (av h) λa e1 h=>ah (av h) λb e2 h=>bf h (ah (N9 e1 hl) λp hp kp=>ah (N9 e2 hh) λq hq kq=>(rz p q hp hq ?_))
 have hs:=hx.items;rw[slicePick_plain,hs,kp,kq];rw[show(List.take (b-a) (List.drop a items.toList)).toArray.toList=(items.toList.take b).drop a by rw[aqP]];exact(hx.take b).drop a
theorem Y0{o:ac}{cl ch:ac}{sl:al}{Q:ac->ak->Prop}{E:ac->ak->Prop}{M:iS}{w:bD}(hs:px s o)
  (h:aR (model M w) A (pO o (.ref sl)) Q E s) {cQ:ar} {lo hi:Option ar} {p:aC} :
  aR (model M w) A (te o>>=λb=>subscripted (.Slice lo hi none p) b o (.ref sl)>>=λr=>tl cQ o r>>=λ_z=>pure r) Q E s:=by
 have fin:∀b,aR (model M w) A (subscripted (.Slice lo hi none p) b o (.ref sl)>>=λr=>tl cQ o r>>=λ_z=>pure r) Q E s:=λb=>by
  show aR (model M w) A (operate [.ref sl,o] (pO o (.ref sl))>>=λr=>tl cQ o r>>=λ_z=>pure r) Q E s
  exact aA (UI (c8 h (λr s' q=>aA (Lv (bj q))) λ_z _z e=>e))
 have key:∀{T id:String},s.TypeIs o T->kM (.type T) "__getitem__"= pure (some (.builtin id))->aR (model M w) A (te o) (λb s'=>s'=s) E s:=λht hl=>by
  rw[Uz ht.not_modules];exact aA (xF ht hl (bj rfl))
 have k2:aR (model M w) A (te o) (λb s'=>s'=s) E s:=by
  induction hs with
  | list g=>exact key ⟨_,g,rfl⟩ slot_list_getitem.lookup
  | tup g=>exact key ⟨_,g,rfl⟩ UX.lookup
  | str x t=>exact key (An s x t) UV.lookup
  | dict g h'=>exact key ⟨_,g,h'⟩ slot_dict_getitem.lookup
 exact aA (c8 k2 (λb s' e2=>by subst s';exact fin b) λ_z _z e=>e)
theorem BQ{a v:V}{lo hi:Option V}{ca cl ch:ac}(h:iX a lo hi st=some v)(R:Rep C σ st s)(ha:VR C σ a ca)(hl:mn C σ lo cl)(hh:mn C σ hi ch)
  {sl:al} (lG:s.heap.get? sl=some {cls:=.type "slice",data:=.fields #[cl,ch,.none]}) :
  px s ca/\aM C A (pO ca (.ref sl)) σ s (λcv aa s'=>Rep C aa st s'/\VR C aa v cv):=by
 refine ah (av h) λl e h=>xA (bK h) λe0 h=>ah (av h) λm e1 h=>xA (BE h) λag hm=>?_;subst ag
 refine kX R e ha λx items n g hx=>lY (YZ e1 hx hl hh) λp q hp hq V=>?_
 have hs:=hx.items
 have:=mZ e0
 exact⟨.list g,λE=>aqj g.isList ⟨_,lG,rfl,rfl⟩ hp hq .none (by decide) (v8 R V) (by exact ab (ir) (fh (mJ (tF hs this) (by decide))))⟩
theorem Y1{cQ:ar}{lo hi:Option ar}{p pos:aC}{a:Cd}{cl ch:Option Cd}(hv:bn C sc cQ a)(hl:BP C sc lo cl)(hh:BP C sc hi ch) :
  bn C sc (.Subscript cQ (.Slice lo hi none p) pos) (fC a cl ch):=by
 intro n K hK fr st v am h A env cs σ s hA F R;refine be (bu h) λx st1 e1 h=>be (bu h) λl aF e2 h=>be (bu h) λu hR e3 h=>xA (i9 h) λe4 ag=>?_;subst ag
 rw[Uy];refine(hv n K hK fr st x st1 e1 A env cs σ s hA F R).bind λcv aY s1 x1 ag=>xA ag λR1 V1=>?_
 rw[arm_eval_Slice];refine aM.bind (Q:=λi aa s'=>∃sl cl ch,i=.ref sl/\Rep C aa am s'/\mn C aa l cl/\mn C aa u ch/\s'.heap.get? sl=some {cls:=.type "slice",data:=.fields #[cl,ch,.none]}) (aM.hold ?_) ?_
 ·refine(N8 hl hK e2 hA (F.stepT x1) R1).bind λc2 σ2 s2 x2 ag=>xA ag λR2 V2=>(aM.hold (N8 hh hK e3 hA ((F.stepT x1).stepT x2) R2)).bind λc3 dJ s3 x3 ag=>xA ag λR3 V3=>?_
  show aM C A (holding _ (pure .none)>>=λz=>newFields "slice" [c2,c3,z]) dJ s3 _
  refine aM.bind (Q:=λz aa s'=>z=.none/\aa=dJ/\s'=s3) (aM.hold (aM.pure ⟨rfl,rfl,rfl⟩)) λz aa s' _z ag=>bP ag λe5 e6 e7=>?_
  subst e5 aa s';intro E;refine Lw ?_;have k':∀b ob,s3.heap.get? b=some ob->(s3.heap.push {cls:=.type "slice",data:=.fields [c2,c3,.none].toArray}).get? b=some ob:=λb ob e=>iD _ e
  exact⟨dJ,Step.BO k' ⟨_,_,rfl⟩,_,_,_,rfl,R3.grow k',V2.mono x3.le,V3,jg _ rfl⟩
 ·intro i σ2 s2 x2 BR;refine pY BR λsl cl ch ag R2 Vl Vu lG=>?_;clear BR;subst ag
  exact aM.stand λE=>xA (BQ (A:=A) e4 R2 (V1.mono x2.le) Vl Vu lG) λq1 q2=>Y0 (cl:=cl) (ch:=ch) q1 (q2 E)
end
section
variable {C:Cx}{N:cP}{mg mb:ai->Option ac}{sc:Sc}{A:bC}{σ:Sg}{st:St}{s:ak}
noncomputable def gy:ar->Bool
 | .Starred ..=>false
 | _=>true
inductive eM(C:Cx)(sc:Sc):List ar->List Cd->Prop
 | nil:eM C sc [] []
 | cons {e:ar} {c:Cd} {es:List ar} {cs:List Cd}:bn C sc e c->gy e=true->eM C sc es cs->eM C sc (e::es) (c::cs)
theorem wb{e:ar}(h:gy e=true)(rest:List ar)(env:bd):fg (e::rest) env=(false,eval e env)::fg rest env:=by
 cases e<;>first|rfl|exact bV h
theorem BS{n:Nat}{K:bb}(hK:fq C n K){fr:Fr}{env:bd}{cA:List al}{pos:aC}(hA:cC n A):∀{es:List ar} {cs:List Cd},eM C sc es cs->∀{st am:St} {vs:List V},gl K fr cs st=some (vs,am) ->
  ∀{σ:Sg} {s:ak},bp C sc fr env cA σ s->Rep C σ st s->aM C A (spliced (fJ pos (fg es env))) σ s (λaU aa s'=>Rep C aa am s'/\az C aa vs aU):=by
 intro es cs Y2;induction Y2 with
 | nil=>
  intro st am vs h σ s F R
  replace h:=aI h;exact Mh h (aM.pure ⟨R,.nil⟩)
 | @cons e c es cs he hu bH ih=>
  intro st am vs h σ s F R;refine be (bu h) λv st1 e1 h=>be (bu h) λws aF e2 h=>dY h (ab (wb hu ..) ?_)
  show aM C A (spliced ((false,eval e env)::fJ pos (fg es env))) σ s _
  rw[spliced];refine(he n K hK fr st v st1 e1 A env cA σ s hA F R).bind λcv aY s1 x1 ag=>xA ag λR1 V1=>?_
  simp only[rp,if_false];refine aM.bind (Q:=λyO aa s'=>yO=[cv]/\aa=aY/\s'=s1) (aM.pure ⟨rfl,rfl,rfl⟩) λyO aa s' _z ag=>bP ag λq1 q2 q3=>?_
  subst q1 aa s';exact(aM.hold (ih e2 (F.stepT x1) R1)).bind λaU σ2 s2 x2 ag=>xA ag λR2 V2=>aM.pure ⟨R2,.cons (V1.mono x2.le) V2⟩
theorem Hy(R:Rep C σ st s){ob:aT}{o:O}{k:Tok}(h:∀aa,Sg.Le σ aa->OR C aa (s.heap.push ob) o s.heap.objs.size)(hf:ob.isFreed=false) :
  ∃aa,Step C.tabs σ aa s {s with heap:=s.heap.push ob,toks:=k}/\Rep C aa (st.push o) {s with heap:=s.heap.push ob,toks:=k}/\VR C aa (.loc st.n) (.ref s.heap.objs.size):=by
 have k':∀b x,s.heap.get? b=some x->(s.heap.push ob).get? b=some x:=λb x e=>iD _ e
 have nf:=rY s.heap;have x:=Step.push (ow:=C.tabs) (σ:=σ) (s:=s) (w:=s.heap.objs.size) (s':={s with heap:=s.heap.push ob,toks:=k}) k' nf (gK _ _ rfl);exact(cp _ x (R.push (w:=s.heap.objs.size) (o:=o) (s':={s with heap:=s.heap.push ob,toks:=k}) k' nf (h _ x.le)) (.loc (by rw[R.n];simp)))
theorem Y3{m:Bool}{vs:List V}{aU:List ac}{am:St}{v:V}(h:rF m vs st=some (v,am))(R:Rep C σ st s)(hv:az C σ vs aU):aM C A (newList aU) σ s (λcv aa s'=>Rep C aa am s'/\VR C aa v cv):=by
 unfold rF at h;split at h
 ·rename_i e
  have hl:=mZ e;have eX:=hv.length;intro E;refine wpAny_newList ?_ (by refine ab (ir ..) ?_;exact fh (mJ (AC eX hl) (by decide)));split at h
  ·exact dY h (Hy R (o:=.list vs) (k:=s.toks) (λaa le=>⟨aU.toArray,⟨0,jg _ rfl⟩,by simpa using hv.mono le⟩) rfl)
  ·exact dY h (v8 R (items:=aU.toArray) (by simpa using hv))
 ·exact au h
theorem Y4{m:Bool}{es:List ar}{cs:List Cd}{pos:aC}(bH:eM C sc es cs):bn C sc (.List es pos) (dn m cs):=by
 intro n K hK fr st v am h A env cA σ s hA F R;exact be (bu h) λvs st1 e1 h=>aM.stand ((BS hK hA bH e1 F R).bind λaU aY s1 x1 ag=>xA ag λR1 V1=>Y3 h R1 V1)
theorem Oa{vs:List V}{v:V}(h:vG vs=some v):v=.tup vs/\vs.length<4000:=by
 unfold vG at h;split at h
 ·rename_i e
  exact bf h (⟨rfl,mZ e⟩)
 ·exact au h
theorem Hz{es:List ar}{cs:List Cd}{pos:aC}{k:Nat}(bH:eM C sc es cs):bn C sc (.Tuple es k pos) (bI cs):=by
 intro n K hK fr st v am h A env cA σ s hA F R;refine be (bu h) λvs st1 e1 h=>xA (i9 h) λe2 ag=>?_;subst ag
 refine xA (Oa e2) λag hl=>?_;subst ag
 refine aM.stand ((BS hK hA bH e1 F R).bind λaU aY s1 x1 ag=>xA ag λR1 V1=>λE=>?_);have eX:=V1.length;exact UH (BD R1 (items:=aU.toArray) (by simpa using V1)) (by refine ab (ir ..) ?_;exact fh (mJ (AC eX hl) (by decide)))
end
section
variable {C:Cx}{N:cP}{mg mb:ai->Option ac}{sc:Sc}{A:bC}{σ:Sg}{st:St}{s:ak}
theorem Sg.le_app(σ:Sg)(l:List (al×aT)):Sg.Le σ ⟨σ.ρ,σ.φ++l⟩:=⟨λ_z _z e=>e,λ_z e=>jF _ e⟩
theorem Y5{K:Type}[DecidableEq K]{k:K}{c0 c:ac}{r:List (K×ac)}(hn:k∉r.map (·.1)):stored ((k,c0)::r) k c=(k,c)::r:=by
 unfold stored;simp only[Fh,decide_true,Bool.true_or,if_true,jE];exact ab (map_store_of_not_mem r k c hn ..) rfl
theorem Y6{K:Type}[DecidableEq K]{k k0:K}{c0 c:ac}{r:List (K×ac)}(h:k0≠k):stored ((k0,c0)::r) k c=(k0,c0)::stored r k c:=by
 unfold stored;simp only[Fh,decide_eq_false h,aqu,jE,if_neg h,Fi];split<;>rfl
theorem HA(hN:eY C){x:Tx}{v:V}{c:ac}(hv:VR C σ v c){l l':List (Tx×V)}{ax:List (ai×ac)}(h:pk C.T x v l=some l')(hk:cM C σ l ax)(hn:(ax.map (·.1)).Nodup):cM C σ l' (stored ax (aL C.θ x) c):=by
 revert h hn l'
 refine hk.ind (P:=λl ax=>∀{l':List (Tx×V)},pk C.T x v l=some l'->(ax.map (·.1)).Nodup->cM C σ l' (stored ax (aL C.θ x) c)) (λh _=>by refine bf h ?_;exact .cons hv .nil) ?_;intro y u r c0 kr a b ih l' h hn;refine ah (av h) λt e h=>xA (lT.mp hn) λn1 n2=>?_
 induction t with
 | true=>
  refine bf h ?_
  have:=NT hN e
  have n1:=n1;refine bX (this ..) ?_;refine ab (Y5 n1 ..) ?_;exact .cons hv b
 | false=>
  refine ah (av h) λr' e' h=>bf h ?_
  refine ab (Y6 (NU hN e) ..) ?_;exact .cons a (ih e' n2)
theorem Ob{K:Type}[DecidableEq K]{ax:List (K×ac)}(hn:(ax.map (·.1)).Nodup)(k:K)(c:ac):((stored ax k c).map (·.1)).Nodup:=by
 unfold stored;split
 ·rw[keys_map_store];exact hn
 ·rename_i h
  rw[mE,tB];refine⟨hn,by simp,λa ha b hb q=>?_⟩;simp at hb;subst hb q;exact ah (dF.mp ha) λp hp e=>h (UZ.mpr (aW p hp (by simpa using e)))
inductive sb:List (Option ar)->List Tx->Prop
 | nil:sb [] []
 | cons {y:ai} {x:Tx} {k:Nat} {pos:aC} {ks:List (Option ar)} {xs:List Tx}:strOf x=some y->sb ks xs->sb (some (.Constant (.str y) k pos)::ks) (x::xs)
theorem HB{θ:Th}{x:Tx}{y:ai}(hx:strOf x=some y):aL θ x=y:=by
 refine ah (Option.map_eq_some_iff.mp hx) λl e q=>?_
 unfold aL;refine ab (jt e ..) ?_;exact q
theorem sb.all{ks:List (Option ar)}{xs:List Tx}(h:sb ks xs):ks.all (·.isSome)=true:=by
 induction h with
 | nil=>rfl
 | cons _ _ ih=>simpa using ih
inductive wc(C:Cx)(σ:Sg):List Tx->List V->List (ac×ac)->Prop
 | nil:wc C σ [] [] []
 | cons {x:Tx} {v:V} {t:Tok} {c:ac} {xs:List Tx} {vs:List V} {ps:List (ac×ac)}:VR C σ v c->wc C σ xs vs ps->wc C σ (x::xs) (v::vs) ((.str (aL C.θ x) t,c)::ps)
theorem Y7{n:Nat}{K:bb}(hK:fq C n K){fr:Fr}{env:bd}{cA:List al}{pos:aC}(hA:cC n A):∀{ks:List (Option ar)} {xs:List Tx},sb ks xs->∀{es:List ar} {cs:List Cd},eM C sc es cs->ks.length=es.length ->
  ∀{st am:St} {vs:List V},gl K fr cs st=some (vs,am)->∀{σ:Sg} {s:ak},bp C sc fr env cA σ s->Rep C σ st s ->
  aM C A (E2 (pairTrees ks es env pos)) σ s (λps aa s'=>Rep C aa am s'/\wc C aa xs vs ps):=by
 intro ks xs Y8;induction Y8 with
 | nil=>
  intro es cs bH hl st am vs h σ s F R;induction bH with
  | nil=>replace h:=aI h;refine Mh h ?_;exact aM.pure ⟨R,.nil⟩
  | cons=>exact absurd hl.symm (Az _)
 | @cons y x k p ks xs hy yP ih=>
  intro es cs bH hl st am vs h σ s F R;induction bH with
  | nil=>exact absurd hl (Az _)
  | @cons e c es cs he hu bH=>
  refine be (bu h) λv st1 e1 h=>be (bu h) λws aF e2 h=>dY h ?_
  show aM C A (E2 ((eval (.Constant (.str y) k p) env,do let x <-eval e env;gv pos;pure x)::pairTrees ks es env pos)) σ s _
  rw[E2];refine aM.bind (Q:=λkv aa s'=>∃t,kv=.str (aL C.θ x) t/\Rep C aa st s') (λE=>Calls.Constant_str (Wi σ .toks s.toks (by rw[HB hy]) R.toks)) λkv aY s1 x1 ag=>ah ag λt q R1=>?_
  subst q;exact(aM.hold ((he n K hK fr st v st1 e1 A env cA aY s1 hA (F.stepT x1) R1).bind λcv σ2 s2 x2 q=>aM.stand (aM.pure (Q:=λcv aa s'=>Rep C aa st1 s'/\VR C aa v cv) q))).bind λcv σ2 s2 x2 ag=>xA ag λR2 V2=>(aM.hold (ih bH (vm.inj hl) e2 ((F.stepT x1).stepT x2) R2)).bind λps dJ s3 x3 ag=>xA ag λR3 V3=>aM.pure ⟨R3,.cons (V2.mono x3.le) V3⟩
theorem wc.Y9{xs:List Tx}{vs:List V}{ps:List (ac×ac)}(x0:wc C σ xs vs ps):∃ax,Carries (PySem.strKind C.prog C.w) ps ax/\∀{l l':List (Tx×V)} {aO:List (ai×ac)},eY C->GH C.T l xs vs=some l'->cM C σ l aO->(aO.map (·.1)).Nodup ->
  cM C σ l' (merged aO ax)/\((merged aO ax).map (·.1)).Nodup:=by
 induction x0 with
 | nil=>exact(aW ([]) trivial (fun{l l' aO} _ h hk hn=>by refine bf h ?_;exact⟨hk,hn⟩))
 | @cons x v t c xs vs ps hv h ih=>
  refine ah ih λax hc hp=>(aW ((aL C.θ x,c)::ax) ⟨by simp[PySem.strKind,arK],rfl,hc⟩ (fun{l l' aO} hN h hk hn=>?_))
  refine ah (av h) λl1 e1 h=>?_
  have:=hp hN h (HA hN hv e1 hk hn) (Ob hn _ _)
  exact this
theorem Y'{m:Bool}{pos:aC}:bn C sc (.Dict [] [] pos) (nV m):=by
 intro n K hK fr st v am h A env cA σ s hA F R;have d0:∀{o:aT},o={cls:=.type "dict",data:=.dict #[]}->hU C [] o:=λe=>e▸⟨#[],0,⟨rfl,rfl,rfl⟩,rfl,λ_z he=>by simp at he,.nil,by decide⟩
 show aM C A (gv pos>>=λ_z=>newDict) σ s _
 induction m with
 | false=>refine dY h ?_;exact aM.stand λE=>Lw (iU (Ho R {cls:=.type "dict",data:=.dict #[]} rfl (k:=s.toks)) λx R' m le=>(cp _ x R' (.fd m (d0 rfl) .nil)))
 | true=>refine dY h ?_;exact aM.stand λE=>Lw (Hy R (o:=.dict []) (k:=s.toks) (λaa le=>⟨[],(d0 rfl).dictOf (jg _ rfl),.nil⟩) rfl)
theorem Za(hN:eY C){keys:List (Option ar)}{ks:List Tx}{values:List ar}{cs:List Cd}{pos:aC}(yP:sb keys ks)(bH:eM C sc values cs)(hl:keys.length=values.length)(h0:keys≠[])
  (Zb:keys.length<=15):bn C sc (.Dict keys values pos) (vH C.T ks cs):=by
 intro n K hK fr st v am h A env cA σ s hA F R E;refine lz λmm eC=>be (bu h) λvs st1 e1 h=>ah (av h) λd e2 h=>?_
 revert h;refine FR λag cU=>?_;subst ag;cases cU
 refine wpAny_Dict_walk (knd:=PySem.strKind C.prog C.w) yP.all hl h0 Zb ?_;have k':∀b ob,s.heap.get? b=some ob->(s.heap.push {cls:=.type "dict",data:=.dict #[]}).get? b=some ob:=λb ob e=>iD _ e
 have nf:=rY s.heap;have x0:Step C.tabs σ σ s {s with heap:=s.heap.push {cls:=.type "dict",data:=.dict #[]}}:=Step.BO k' (gK _ _ rfl);have R0:Rep C σ st {s with heap:=s.heap.push {cls:=.type "dict",data:=.dict #[]}}:=R.grow k';refine c8 ((Y7 hK hA yP bH hl e1 (F.stepT ⟨x0,dr _⟩) R0).raw E) (λps s1 ⟨aY,x1,R1,V1⟩=>?_) λ_z _z e=>e
 refine ah V1.Y9 λax hc hp=>?_
 have gD:=x1.keep s.heap.objs.size _ (Hn s _ rfl) (R.rX nf) (R.qk nf);refine(cp ax hc ⟨_,#[],0,gD,⟨rfl,rfl,rfl⟩,rfl,λ_z he=>by simp at he,.nil,by simp⟩ (λh' hd hs=>?_));refine ah (hU.of hd) λo go hO=>?_
 obtain⟨hk,hn⟩:=hp hN e2 .nil (by simp);have kp:∀b ob,s1.heap.get? b=some ob->b∉[s.heap.objs.size]->h'.get? b=some ob:=λb ob e hb=>(hs.2 b (by simpa using hb)).trans e
 have ud:s.heap.objs.size∉aY.ρ:=by
  refine ah x1.ρ λm e hm=>?_
  refine ab (e ..) ?_;intro q;rcases dc.mp q with q|q
  ·exact R.rX nf q
  ·have:=hm _ q
   rw[Hn s _ rfl]at this;exact kn this
 have kA:∀x∈aY.φ,x.1≠s.heap.objs.size:=by
  refine ah x1.φ λm e hm=>?_
  refine ab (e ..) ?_;intro x hx q;rcases dc.mp hx with hx|hx
  ·exact R.t6 nf x hx q
  ·rcases hm x hx with this|this
   ·rw[q,Hn s _ rfl]at this;exact kn this
   ·exact R.qk nf (q▸this)
 have R2:Rep C aY am {s1 with heap:=h',toks:=s1.toks+ps.length}:=R1.other (S:=[s.heap.objs.size]) kp (by simpa using ud) (by simpa using R.qk nf) (by simpa using R.ql nf)
  (λa ha x hx=>by simp at ha;subst ha;exact kA x hx)
 refine eC _ _ ((cp ⟨aY.ρ,aY.φ++[(s.heap.objs.size,o)]⟩ ?_ (R2.freeze (λx hx=>by simp at hx;subst hx;exact⟨go,ud,R.qk nf,R.ql nf⟩)) (.fd (by simp) hO (hk.mono (Sg.le_app _ _)))));refine fL x1.same λh1 t1 es=>⟨x1.ρ |> fun⟨m,e,hm⟩=>⟨m,e,λa ha=>x0.dom a (hm a ha)⟩,?_,λb ob e h1 h2=>?_,λb e=>?_,?_⟩
 ·refine ah x1.φ λm e hm=>(aW (m++[(s.heap.objs.size,o)]) (by refine ab (e ..) ?_;exact ab (gJ ..) rfl) (λx hx=>?_))
  rcases dc.mp hx with hx|hx
  ·exact(hm x hx).imp (x0.dom _) id
  ·simp at hx;subst hx;exact .inl nf
 ·exact kp b ob (x1.keep b ob (k' b ob e) h1 h2) (by simp;rintro rfl;rw[nf]at e;exact au e)
 ·refine x0.dom b (x1.dom b ?_);induction q:s1.heap.get? b with
  | none=>rfl
  | some ob=>
   by_cases hb:b=s.heap.objs.size
   ·subst hb;rw[go]at e;exact kn e
   ·rw[kp b ob q (by simpa using hb)]at e;exact kn e
 ·subst es;exact(gK h' _ rfl)
end
section
variable {C:Cx}{N:cP}{mg mb:ai->Option ac}{sc:Sc}{A:bC}{σ:Sg}{st:St}{s:ak}
theorem Zc{h:cD}{a:al}(ha:h.objs.size<=a):h.get? a=none:=by
 induction e:h.get? a with
 | none=>rfl
 | some o=>exact absurd (kj e) (xP.mpr ha)
theorem Zd(R:Rep C σ st s){s':ak}(k:∀b ob,s.heap.get? b=some ob->s'.heap.get? b=some ob)(sm:∃h' tk,s'={s with heap:=h',toks:=tk}){l:List (al×aT)}
  (hl:∀x∈l,s.heap.get? x.1=none/\s'.heap.get? x.1=some x.2):Step C.tabs σ ⟨σ.ρ,σ.φ++l⟩ s s'/\Rep C ⟨σ.ρ,σ.φ++l⟩ st s':=
 ⟨Step.grow k sm λx hx=>(hl x hx).1,(R.grow k).freeze λx hx=>⟨(hl x hx).2,R.rX (hl x hx).1,R.qk (hl x hx).1,R.ql (hl x hx).1⟩⟩
@[elab_as_elim] theorem qt{v:V}{i:Int}{P:V->Prop}(h:kU v=some i)(q:P (.int i)):P v:=by
 induction v using V.casesOn with
 | int j=>exact aI h▸q
 | _=>exact au h
theorem HC{l:List V}:∀{ns:List Int} {cs:List ac},tR l=some ns->az C σ l cs->Ac cs ns:=by
 induction l with
 | nil=>intro ns cs h x;replace x:=az.jP x;subst x;refine bf h ?_;exact .nil
 | cons v l ih=>
  intro ns cs h x;refine az.iq x λc cs a b=>?_;clear x
  refine ah (av h) λi e h=>ah (av h) λns e2 h=>bf h ?_
  revert a
  exact qt e λa=>VR.gn a λ_=>.cons _ _ (ih e2 b)
theorem Od{cs:List ac}{ns:List Int}(h:Ac cs ns):cs.length=ns.length:=by
 induction h with
 | nil=>rfl
 | cons n t _ ih=>exact congrArg (·+1) ih
theorem BU{cs:List ac}{ns:List Int}(h:Ac cs ns):∀{i:Nat} {c:ac},cs[i]?=some c->∃t,c=.int (ns.getD i 0) t:=by
 induction h with
 | nil=>exactλe=>au e
 | cons n t _ ih=>
  intro i c e;induction i with
  | zero=>exact⟨t,(aI e).symm⟩
  | succ i=>exact ih e
theorem Ze{f:Int->Int->Int}{bt:Nat->Nat->Bool}{val:Nat->Int}(hb:∀i a,f (val a) (val i)=val (if bt i a=true then i else a))(r:List Int):∀(k:Nat),(∀j v,r[j]?=some v->val (k+1+j)=v) ->
  r.foldl f (val (EU bt k))=val (EU bt (k+r.length)):=by
 induction r with
 | nil=>intro k _;rfl
 | cons v r ih=>
  intro k hv;have e:f (val (EU bt k)) v=val (EU bt (k+1)):=by
   refine bX (hv 0 v rfl ..) ?_;exact hb (k+1) _
  refine ab (lq ..) ?_;refine ab (e ..) ?_;refine ab (ih (k+1) λj v q=>(congrArg val (by lia)).trans (hv (j+1) v q)) ?_;refine ab (cH ..) ?_;refine ab (oY ..) ?_;rfl
theorem Oe{f:Int->Int->Int}{lt:Int->Int->Bool}(hf:∀a i,f a i=if lt i a=true then i else a){l:List Int}{m:Int}(h:A5 f l=some m):0<l.length/\m=l.getD (EU (λi j=>lt (l.getD i 0) (l.getD j 0)) (l.length-1)) 0:=by
 induction l with
 | nil=>exact au h
 | cons i r=>
  refine⟨xR _,(aI h).symm.trans ?_⟩
  have:=Ze (f:=f) (bt:=λa b=>lt ((i::r).getD a 0) ((i::r).getD b 0)) (val:=((i::r).getD · 0)) (λj a=>(hf _ _).trans (by induction lt ((i::r).getD j 0) ((i::r).getD a 0)<;>rfl)) r 0 λj v e=>?_
  ·rw[rt]at this;exact this
  ·refine ab (jh ..) ?_;exact congrArg (Option.getD · 0) e
@[elab_as_elim] theorem Og{a:V}{c:ac}{n:Nat}{P:ac->Prop}(h:sign a=some n)(hv:VR C σ a c)(q:∀t,P (.str ⟨#[n]⟩ t)):P c:=by
 induction a using V.casesOn with
 | str x=>
  refine ah (av h) λl e h=>?_
  induction l with
  | nil=>exact au h
  | cons k l=>
   refine xA (bK h) λz h=>?_
   rw[lR.mp z]at e;have hd:aL C.θ x=⟨#[n]⟩:=by unfold aL;refine ab (jt e ..) ?_;exact ab (aI h ..) rfl
   exact VR.fV hv λt=>hd▸q t
 | _=>exact au h
theorem Oh(T:Tb)(x:Tx)(l:List Tx):(qc T x l).Perm (x::l):=by
 induction l with
 | nil=>exact .refl _
 | cons y r ih=>
  show(match T.lt y x with|true=>y::qc T x r|false=>x::y::r).Perm (x::y::r)
  induction T.lt y x with
  | true=>exact(ih.cons y).trans (.swap x y r)
  | false=>exact .refl _
theorem Zf(T:Tb)(l:List Tx):(qd T l).Perm l:=by
 induction l with
 | nil=>exact .refl _
 | cons x r ih=>exact(Oh T x (qd T r)).trans (ih.cons x)
def qu(a b:ai):Prop:=a.cps.toList<=b.cps.toList
theorem Zg(H:dz C N mg mb){x y:Tx}:C.T.lt x y=decide (den C.θ x<den C.θ y):=(H.lt x y).trans (ltCps_eq _ _)
theorem BV(θ:Th)(x:Tx):(aL θ x).cps.toList=den θ x:=by unfold aL;simp
theorem Zh(H:dz C N mg mb)(x:Tx){l:List Tx}:(l.map (aL C.θ)).Pairwise qu->((qc C.T x l).map (aL C.θ)).Pairwise qu:=by
 induction l with
 | nil=>intro _;exact arh _ _
 | cons y r ih=>
  intro h
  show((match C.T.lt y x with|true=>y::qc C.T x r|false=>x::y::r).map (aL C.θ)).Pairwise qu
  refine xA (xN.mp h) λh1 h2=>?_
  have e:=Zg H (x:=y) (y:=x);induction q:C.T.lt y x with
  | true=>
   rw[q]at e;refine xN.mpr ⟨λb hb=>?_,ih h2⟩;rcases cW.mp (((Oh C.T x r).map (aL C.θ)).mem_iff.mp hb)with rfl|hb
   ·unfold qu;rw[BV,BV];exact List.le_of_lt (of_decide_eq_true e.symm)
   ·exact h1 b hb
  | false=>
   rw[q]at e;have e:qu (aL C.θ x) (aL C.θ y):=by unfold qu;rw[BV,BV];exact LM.mp (of_decide_eq_false e.symm)
   refine xN.mpr ⟨λb hb=>?_,h⟩;rcases cW.mp hb with rfl|hb
   ·exact e
   ·exact aqZ e (h1 b hb)
theorem Zi(H:dz C N mg mb)(l:List Tx):((qd C.T l).map (aL C.θ)).Pairwise qu:=by
 induction l with
 | nil=>exact .nil
 | cons x r ih=>exact Zh H x ih
theorem Zj:∀{l:List ai},sortedS l=true->l.Pairwise qu
 | [],_=>.nil
 | x::l,h=>by
  have:∀(l:List ai) (x:ai),risingS x l=true->(x::l).Pairwise qu:=by
   intro l;induction l with
   | nil=>intro x _;exact arh _ _
   | cons y r ih=>
    intro x h
    replace h:(!Spec.ltCps y.cps.toList x.cps.toList&&risingS y r)=true:=h
    refine xA ((cz _ _).mp h) λh1 h2=>?_
    have e:=LM.mp (of_decide_eq_false (by rw[<-ltCps_eq];simpa using h1));refine xN.mpr ⟨λb hb=>?_,ih y h2⟩;rcases cW.mp hb with rfl|hb
    ·exact e
    ·exact aqZ e ((xN.mp (ih y h2)).1 b hb)
  exact this l x h
theorem Zk{l:List V}:∀{m:List Tx} {cs:List ac},hJ pn l=some m->az C σ l cs->K7 cs (m.map (aL C.θ)):=by
 induction l with
 | nil=>intro m cs h x;replace x:=az.jP x;subst x;exact bf h .nil
 | cons v l ih=>
  intro m cs h x;refine az.iq x λc cs a b=>ah (av h) λy e h=>ah (av h) λm e2 h=>bf h ?_
  induction v using V.casesOn with
  | str z=>refine bf e ?_;exact VR.fV a λt=>.cons _ t (ih e2 b)
  | _=>exact au e
theorem Zl{m:List Tx}:∀{cs:List ac},K7 cs (m.map (aL C.θ))->az C σ (po m) cs:=by
 induction m with
 | nil=>intro cs h;cases h;exact .nil
 | cons x m ih=>intro cs h;cases h with|cons y t h=>exact .cons (.str x t) (ih h)
theorem Zm{θ:Th}{x:Tx}:∀{n:Nat},Gk x=some n->(den θ x).length=n/\x.length=n:=by
 induction x with
 | nil=>intro n h;exact⟨aI h,aI h⟩
 | cons a x ih=>
  intro n h;refine xA (bK h) λe h=>ah (av h) λm e1 h=>bf h (xA (ih e1) λp q=>⟨?_,congrArg (·+1) q⟩)
  refine ab (cS ..) ?_;refine ab (p ..) ?_;refine ab (jh ..) ?_;induction a with
  | s i j k=>exact bV e
  | _=>rfl
noncomputable def sd:Bi->String
 | .len => "len"
 | .tO => "min"
 | .min2 => "min"
 | .yh => "max"
 | .max2 => "max"
 | .chr => "chr"
 | .ord => "ord"
 | .sorted => "sorted"
theorem Oi{l:al}{items:Array ac}{E:ac->ak->Prop}{Q:ac->ak->Prop}{A:bC}(hl:s.heap.IsList l items)
  (h:∀j3:ak,j3={s with heap:=s.heap.push {cls:=.type "list_iterator",data:=.fields #[.ref l,.int 0 0]}} ->
   (j3.heap.IsListIter s.heap.objs.size l 0/\j3.heap.IsList l items)->(∀b∈[s.heap.objs.size,l],b<j3.heap.objs.size)->l≠s.heap.objs.size->Q (.ref s.heap.objs.size) j3) :
  aR (model C.prog C.w) A (vb (.ref l)) Q E s:=by
 have fB:l<s.heap.objs.size:=by refine ah hl λ_z e _z=>?_;exact kj e
 refine UJ hl (h _ rfl ⟨⟨_,jg _ rfl,rfl,rfl⟩,hl.push _⟩ (λb hb=>?_) (rq fB));refine ab (xI ..) ?_;rcases cW.mp hb with rfl|hb
 ·exact o7 _
 ·rcases cW.mp hb with rfl|hb
  ·exact Nat.lt_succ_of_lt fB
  ·cases hb
theorem BW(R:Rep C σ st s){h':cD}{tk:Tok}(k:∀b o,s.heap.get? b=some o->h'.get? b=some o){Q:Sg->Prop}(q:Q σ) :
  ∃aa,Step C.tabs σ aa s {s with heap:=h',toks:=tk}/\Rep C aa st {s with heap:=h',toks:=tk}/\Q aa:=
 (cp σ (Step.BO k (gK _ _ rfl)) (R.grow k) q)
theorem Zn(H:dz C N mg mb){b:Bi}{v r:V}{c:ac}{n:Nat}(hA:cC n A)(h:yl C.T b v st=some r)(R:Rep C σ st s)(hv:VR C σ v c) :
  aM C A (PySem.call (.builtin (sd b)) [c]) σ s (λcv aa s'=>Rep C aa st s'/\VR C aa r cv):=by
 intro E;have qr:∀k (i:Int) (t:Tok),∃aa,Step C.tabs σ aa s {s with toks:=k}/\Rep C aa st {s with toks:=k}/\VR C aa (.int i) (.int i t):=λk i t=>(cp σ .toks R.toks (.int i t))
 have jQ:(af (qb v st) λl=>bv (dZ l) (some (V.int l.length)))=some r->aR (model C.prog C.w) A (PySem.call (.builtin "len") [c]) (λa s'=>∃aa,Step C.tabs σ aa s s'/\Rep C aa st s'/\VR C aa r a) E s:=λh=>by
  refine ah (av h) λl e h=>xA (bK h) λe2 h=>bf h ?_
  have hl:=mZ e2;have ls:gN v st=some l->aR (model C.prog C.w) A (PySem.call (.builtin "len") [c]) (λa s'=>∃aa,Step C.tabs σ aa s s'/\Rep C aa st s'/\VR C aa (.int l.length) a) E s:=λe=>by
   refine kX R e hv λa items m g hx=>?_
   have:=hx.items
   exact bX (this ..) (Calls.call_len_list g.isList (by lia) (qr _ _ _))
  induction v using V.casesOn with
  | tup l'=>
   replace e:=aI e;subst e
   refine t8 R hv λa items m g hx=>?_
   have:=hx.items
   exact bX (this ..) (asi ⟨_,g,rfl,m,rfl⟩ (by lia) (qr _ _ _))
  | _=>exact ls e
 induction b with
 | len=>
  induction v using V.casesOn with
  | str x=>
   refine VR.fV hv λ_=>ah (av h) λk e1 h=>xA (bK h) λe2 h=>bf h (xA (Zm (θ:=C.θ) e1) λh1 h2=>?_)
   have h3:(aL C.θ x).length=k:=by refine ab (qq ..) ?_;exact ab (h1 ..) rfl
   have hl:=v9 e2;refine P.len_str (by refine ab (h3 ..) ?_;lia) ?_;exact ab (h3 ..) (qr _ _ _)
  | _=>exact jQ h
 | tO=>
  refine ah (av h) λl e h=>kX R e hv λa items m g hx=>ah (av h) λns ei h=>ah (av h) λi eb h=>xA (rZ h) λag _=>?_;subst ag
  refine xA (Oe (lt:=λi a=>decide (i<a)) (λa i=>by unfold rJ;cases decide (i<a)<;>rfl) eb) λh0 hs=>?_;subst hs
  have hI:=HC ei hx;have hi:items.size=ns.length:=Od hI;refine call_min_walk (Oi g.isList λj3 HD HE og eA=>?_);subst HD;refine⟨_,_,_,_,_,_,_,rfl,Walks.list (A:=A.in1) hA.1 _ a eA items,HE,og,xT hi h0,CmpOf.ints_lt (ns.getD · 0) (λi v e=>BU hI (by simpa using e)),λv h' tk hP hk=>?_⟩;refine xE (BU hI (by simpa using hP)) λt ag=>?_;subst ag
  exact ab (hi ..) (BW R (old_kept hk) (.int _ t))
 | yh=>
  refine ah (av h) λl e h=>kX R e hv λa items m g hx=>ah (av h) λns ei h=>ah (av h) λi eb h=>xA (rZ h) λag _=>?_;subst ag
  refine xA (Oe (lt:=λi a=>decide (i > a)) (λa i=>by unfold A4;cases decide (a<i)<;>rfl) eb) λh0 hs=>?_;subst hs
  have hI:=HC ei hx;have hi:items.size=ns.length:=Od hI;refine call_max_walk (Oi g.isList λj3 HD HE og eA=>?_);subst HD;refine⟨_,_,_,_,_,_,_,rfl,Walks.list (A:=A.in1) hA.1 _ a eA items,HE,og,xT hi h0,CmpOf.ints_gt (ns.getD · 0) (λi v e=>BU hI (by simpa using e)),λv h' tk hP hk=>?_⟩;refine xE (BU hI (by simpa using hP)) λt ag=>?_;subst ag
  exact ab (hi ..) (BW R (old_kept hk) (.int _ t))
 | chr=>
  refine ah (av h) λi e h=>?_
  revert hv
  refine qt e λhv=>VR.gn hv λ_=>?_
  induction i with
  | negSucc=>exact au h
  | ofNat k=>
   refine xA (bK h) λe h=>bf h ?_
   have hk:k<1114112:=by
    rcases(UP _ _).mp e with q|q
    ·exact mJ (bF q) (by decide)
    ·exact bF ((cz _ _).mp q).2
   exact chr_of_range (by simp) (by simpa using to.mpr (Vd hk)) ((cp σ .toks R.toks (.str [.c k] _)))
 | ord=>
  exact ah (av h) λk e h=>bf h (Og e hv λ_=>P.ord_of_char (cp σ .toks R.toks (.int _ _)))
 | sorted=>
  refine ah (av h) λl e h=>kX R e hv λa items m g hx=>ah (av h) λns e1 h=>xA (bK h) λe2 h=>bf h ?_
  have Zo:l.length<64:=bF e2;have hI:=Zk e1 hx;refine aso (prog:=C.prog) (w:=C.w) (s:=s) (E:=E) (vs:=items.toList) (by simpa using g.isList) hI (by refine bX (hx.length ..) ?_;exact Zo) λout Zp hO hp hs=>?_
  have:Zp=(qd C.T ns).map (aL C.θ):=List.Perm.eq_of_pairwise (λa b _ _ h1 h2=>by
   have:=aqY h1 h2
   induction a;induction b;exact congrArg Fy (vh.mp this)) (Zj hs) (Zi H ns) (hp.trans ((Zf C.T ns).map _).symm)
  subst this;refine xE (sortedAll_at s.heap items.toList out) λen he=>?_
  have fr:∀x∈[(s.heap.objs.size+1,jO out en)],s.heap.get? x.1=none/\(sortedAll s.heap items.toList out).get? x.1=some x.2:=λx hx=>by
   refine ab (cO.mp hx ..) ?_;exact⟨Zc (pU _),he⟩
  exact xA (Zd R (s':={s with heap:=sortedAll s.heap items.toList out}) (λb ob e=>sortedAll_old e) (gK _ _ rfl) fr) λx R'=>(cp ⟨σ.ρ,σ.φ++[(s.heap.objs.size+1,jO out en)]⟩ x R' (VR.fl (items:=out) (n:=en) (mF _ bT) ((Zl hO).mono x.le)))
 | _=>exact au h
end
section
variable {C:Cx}{N:cP}{mg mb:ai->Option ac}{sc:Sc}{A:bC}{σ:Sg}{st:St}{s:ak}
theorem qw{pos:aC}{env:bd}{es:List ar}{cs:List Cd}(h:eM C sc es cs):(fJ pos (fg es env)).any (·.1)=false:=by
 induction h with
 | nil=>rfl
 | cons he hu _ ih=>
  refine ab (wb hu ..) ?_;refine ab (ih ..) ?_;rfl
theorem Zq{f:ac}{n:Nat}{K:bb}(hK:fq C n K){fr:Fr}{env:bd}{cA:List al}{pos:aC}(hA:cC n A){es:List ar}{cs:List Cd}(bH:eM C sc es cs){st am:St}{vs:List V}(h:gl K fr cs st=some (vs,am))
  (F:bp C sc fr env cA σ s) (R:Rep C σ st s):aM C A (E0 f true (fJ pos (fg es env)) []) σ s (λa aa s'=>a.kw=[]/\Rep C aa am s'/\az C aa vs a.pos):=by
 have d:=BS (pos:=pos) hK hA bH h F R;intro E;refine lz λmm eC=>?_
 induction bH with
 | nil=>cases h;exact PySem.evalArgs_none (eC _ _ (iW σ (.refl _ _ _) rfl R .nil))
 | cons he hu hr=>
  refine ab (wb hu ..) ?_;rw[wb hu]at d;exact aqB (c8 (d E) (λaU s' ag=>ah ag λaa x q=>(eC _ _ (cp aa x rfl q))) λ_z _z e=>e)
theorem se{f:ac}{n:Nat}{K:bb}(hK:fq C n K){fr:Fr}{env:bd}{cA:List al}{pos:aC}(hA:cC n A){es:List ar}{cs:List Cd}(bH:eM C sc es cs){st am:St}{vs:List V}(h:gl K fr cs st=some (vs,am))
  (F:bp C sc fr env cA σ s) (R:Rep C σ st s) {Q:Args->ak->Prop} {E:ac->ak->Prop} (k:∀aU aa s',js C.tabs σ aa s s'->Rep C aa am s'->az C aa vs aU->Q ⟨aU,[]⟩ s'):aR (model C.prog C.w) A (E0 f true (fJ pos (fg es env)) []) Q E s:=
 (Zq hK hA bH h F R).go λa aa s' x y=>bP y λq R V=>by induction a;subst q;exact k _ _ _ x R V
theorem we{K:bb}{fr:Fr}{c:Cd}{st st1:St}{u:V}(h:c K fr st=some (u,st1)):gl K fr [c] st=some ([u],st1):=by show bk (c K fr st) _=_;refine ab (h ..) ?_;rfl
theorem Oj{K:bb}{fr:Fr}{c d:Cd}{st st1 aF:St}{u w:V}(h:c K fr st=some (u,st1))(h2:d K fr st1=some (w,aF)):gl K fr [c,d] st=some ([u,w],aF):=by show bk (c K fr st) _=_;refine ab (h ..) ?_;show bk (gl K fr [d] st1) _=_;refine ab (we h2 ..) ?_;rfl
theorem BX{id:String}{first:List ac}{n:Nat}{K:bb}(hK:fq C n K){fr:Fr}{env:bd}{cA:List al}{pos m8:aC}(hA:cC n A){es:List ar}{cs:List Cd}(bH:eM C sc es cs){st am:St}{vs:List V}(h:gl K fr cs st=some (vs,am))
  (F:bp C sc fr env cA σ s) (R:Rep C σ st s) {Q:ac->Sg->ak->Prop}
  (k:∀aU aa s',js C.tabs σ aa s s'->bp C sc fr env cA aa s'->Rep C aa am s'->az C aa vs aU->aM C A (PySem.call (.builtin id) (first++aU)) aa s' Q) :
  aM C A (ll m8 (.builtin id) first (fJ pos (fg es env)) (iB pos (iC [] env))) σ s Q:=by
 intro E;exact lz λmm eC=>UR (qw bH) (se hK hA bH h F R λaU aa s' x R' V'=>c8 (k aU aa s' x (F.stepT x) R' V' E) (λb tJ ag=>ah ag λmW y r=>(eC _ _ (aW mW (x.toStep.trans y) r))) λ_z _z e=>e)
theorem wf(H:dz C N mg mb)(hS:sc.Ok){id:ai}{v:ac}{fr:Fr}{env:bd}{cA:List al}{pos:aC}(hn:iZ sc.scope id=true)(hd:mh id=true)(hm:mg id=none)(hb:mb id=some v)
  (F:bp C sc fr env cA σ s) (R:Rep C σ st s) {Q:ac->ak->Prop} {E:ac->ak->Prop} (k:Q v s):aR (model C.prog C.w) A (eval (.Name id pos) env) Q E s:=
 Calls.Name_function_global (F.scope▸hS.kind) (by show env.scope.names.lookup id=_;refine ab (F.scope ..) ?_;exact BB hn) (Calls.loadGlobal_builtin (F.globals▸R.ns H) hm (F.builtins▸R.XY H) hb k) (v0 hd).1
theorem Zr(H:dz C N mg mb)(hS:sc.Ok){b:Bi}{id:ai}{p pos:aC}{e:ar}{c:Cd}(he:bn C sc e c)(hu:gy e=true)(hn:iZ sc.scope id=true)(hd:mh id=true)(hm:mg id=none)(hb:mb id=some (.builtin (sd b))) :
  bn C sc (.Call (.Name id p) [e] [] pos) (eJ C.T b c):=by
 intro n K hK fr st v am h A env cA σ s hA F R;refine be (bu h) λu st1 e1 h=>xA (i9 h) λe2 ag=>?_;subst ag
 refine λE=>aA (wf H hS hn hd hm hb F R ((?_:aM C A _ σ s _) E))
 have bH:eM C sc [e] [c]:=.cons he hu .nil;have h1:=we e1;exact BX (first:=[]) hK hA bH h1 F R λaU aY s1 x1 F1 R1 V1=>az.yH V1 λ_ a=>Zn H hA e2 R1 a
theorem Zs{b:Bi}{v u r:V}{c d:ac}{n:Nat}(hA:cC n A)(h:ym b v u=some r)(R:Rep C σ st s)(hv:VR C σ v c)(hu:VR C σ u d) :
  aM C A (PySem.call (.builtin (sd b)) [c,d]) σ s (λcv aa s'=>Rep C aa st s'/\VR C aa r cv):=by
 intro E;refine lz λmm eC=>?_
 induction v using V.casesOn with
 | int x=>
  induction u using V.casesOn with
  | int y=>
   refine VR.gn hv λt=>VR.gn hu λt'=>?_
   induction b with
   | min2=>
    replace h:=aI h;subst h
    refine min_two_ints hA.1 λh' tk k=>eC _ _ (BW R k ?_)
    unfold rJ
    by_cases q:y<x
    ·refine ab (if_pos q ..) ?_;refine ab (decide_eq_true q ..) ?_;exact .int _ _
    ·refine ab (if_neg q ..) ?_;refine ab (decide_eq_false q ..) ?_;exact .int _ _
   | max2=>
    replace h:=aI h;subst h
    refine max_two_ints hA.1 λh' tk k=>eC _ _ (BW R k ?_)
    unfold A4
    by_cases q:x<y
    ·refine ab (if_pos q ..) ?_;refine ab (decide_eq_true q ..) ?_;exact .int _ _
    ·refine ab (if_neg q ..) ?_;refine ab (decide_eq_false q ..) ?_;exact .int _ _
   | _=>exact au h
  | _=>exact au h
 | _=>exact au h
theorem Zt(H:dz C N mg mb)(hS:sc.Ok){b:Bi}{id:ai}{p pos:aC}{e e':ar}{c c':Cd}(he:bn C sc e c)(hu:gy e=true)(rC:bn C sc e' c')(HF:gy e'=true)(hn:iZ sc.scope id=true)(hd:mh id=true)(hm:mg id=none)(hb:mb id=some (.builtin (sd b))) :
  bn C sc (.Call (.Name id p) [e,e'] [] pos) (nX b c c'):=by
 intro n K hK fr st v am h A env cA σ s hA F R;refine be (bu h) λu st1 e1 h=>be (bu h) λw aF e2 h=>xA (i9 h) λe3 ag=>?_;subst ag
 refine λE=>aA (wf H hS hn hd hm hb F R ((?_:aM C A _ σ s _) E))
 have bH:eM C sc [e,e'] [c,c']:=.cons he hu (.cons rC HF .nil);have h1:=Oj e1 e2;exact BX (first:=[]) hK hA bH h1 F R λaU aY s1 x1 F1 R1 V1=>az.NE V1 λ_ _ a a'=>Zs hA e3 R1 a a'
end
noncomputable def gP(c:Nat):List Nat->List (List Nat)
 | []=>[[]]
 | a::r=>match gP c r with
  | y::m=>if a=c then []::y::m else(a::y)::m
  | []=>[]
noncomputable def eZ(q:List Nat):List (List Nat)->List Nat
 | []=>[]
 | [x]=>x
 | x::r=>x++(q++eZ q r)
theorem HG(c:Nat)(u w:List Nat):c∉u->∀y m,gP c w=y::m->gP c (u++w)=(u++y)::m:=by
 induction u with
 | nil=>exactλ_ _ _ e=>e
 | cons a u ih=>
  intro h y m e
  have:=ih (λq=>h (bL _ q)) y m e
  show(match gP c (u++w)with|y::m=>if a=c then []::y::m else(a::y)::m|[]=>[])=_
  exact ab (this ..) (if_neg λq:a=c=>h (q▸bT))
theorem Ol(c:Nat)(ls:List (List Nat)):ls≠[]->(∀p∈ls,c∉p)->gP c (eZ [c] ls)=ls:=by
 induction ls with
 | nil=>exactλh _=>absurd rfl h
 | cons x r ih=>
  intro _ h;have hx:=h x bT;induction r with
  | nil=>exact(congrArg (gP c) (fS x).symm).trans ((HG c x [] hx [] [] rfl).trans (by exact ab (fS ..) rfl))
  | cons y r=>
   have e:gP c (c::eZ [c] (y::r))=[]::y::r:=by
    show(match gP c (eZ [c] (y::r))with|z::m=>if c=c then []::z::m else(c::z)::m|[]=>[])=_
    exact ab (ih (λq=>nomatch q) λp hp=>h p (bL _ hp)) (if_pos rfl)
   exact(HG c x _ hx _ _ e).trans (by exact ab (fS ..) rfl)
theorem Om(x:ai):(⟨x.cps.toList.toArray⟩:ai)=x:=by induction x;rfl
theorem BY(z:ai)(ps:List ai):(Str.join z ps).cps.toList=eZ z.cps.toList (ps.map (·.cps.toList)):=by
 induction ps with
 | nil=>rfl
 | cons x r ih=>
  induction r with
  | nil=>rfl
  | cons y r=>
   show(x++z++Str.join z (y::r)).cps.toList=x.cps.toList++(z.cps.toList++eZ z.cps.toList ((y::r).map _))
   refine bX (ih ..) ?_;simp[Str.cps_append]
theorem On(x:ai)(c:Nat):(Txt.split x ⟨#[c]⟩).map (·.cps.toList)=gP c x.cps.toList:=by
 have h:=congrArg (λy:ai=>y.cps.toList) (StrLaws.join_split x ⟨#[c]⟩);simp only[BY]at h;refine bX (h ..) ?_;refine(Ol c _ ?_ ?_).symm
 ·intro e
  have:=split_pos x ⟨#[c]⟩
  rw[<-cK (f:=λy:ai=>y.cps.toList),e]at this;simp at this
 ·intro p hp;refine ah (dF.mp hp) λq hq ag=>?_;subst ag
  exact StrLaws.split_free x c q hq
theorem Zu(c:Nat)(l:List Nat):gP c l≠[]:=by
 induction l with
 | nil=>exactλh=>nomatch h
 | cons a r ih=>
  intro h;induction e:gP c r using iE with
  | nil=>exact ih e
  | cons y m=>
   have h:(match gP c r with|y::m=>if a=c then []::y::m else(a::y)::m|[]=>[])=[]:=h;rw[e]at h
   by_cases q:a=c
   ·simp[q]at h
   ·simp[q]at h
theorem Zv(c:Nat)(q:List Nat)(l:List Nat):eZ q (gP c l)=f8 c q l:=by
 induction l with
 | nil=>rfl
 | cons a r ih=>
  show eZ q (match gP c r with|y::m=>if a=c then []::y::m else(a::y)::m|[]=>[])=(match aG a c with|true=>q++f8 c q r|false=>a::f8 c q r)
  refine bX (ih) ?_;induction e:gP c r using iE with
  | nil=>exact absurd e (Zu c r)
  | cons y m=>
   by_cases h:a=c
   ·subst h;rw[gw]
    show eZ q (if a=a then []::y::m else(a::y)::m)=q++eZ q (y::m)
    rw[if_pos rfl];rfl
   ·rw[show aG a c=false by cases z:aG a c with|false=>rfl|true=>exact absurd (dj z) h]
    show eZ q (if a=c then []::y::m else(a::y)::m)=a::eZ q (y::m)
    rw[if_neg h];induction m<;>rfl
section
variable {C:Cx}{N:cP}{mg mb:ai->Option ac}{sc:Sc}{A:bC}{σ:Sg}{st:St}{s:ak}
def ue(C:Cx):Prop:=∀c a,C.T.AZ c a=true->c∉a.den C.θ
theorem oh(θ:Th)(x:Tx):(aL θ x).cps.toList=den θ x:=rfl
theorem Zw(hC:ue C){c:Nat}{a:At}{b:Bool}(h:M4 C.T c a=some b):(b=true/\a.den C.θ=[c])\/b=false/\c∉a.den C.θ:=by
 have k:bv (C.T.AZ c a) (some false)=some b->(b=true/\a.den C.θ=[c])\/b=false/\c∉a.den C.θ:=λh=>
  xA (bK h) λe h=>.inr ⟨(aI h).symm,hC _ _ e⟩
 induction a with
 | c n=>
  replace h:=aI h
  induction b with
  | true=>exact .inl ⟨rfl,congrArg (λx=>[x]) (dj h)⟩
  | false=>exact .inr ⟨rfl,λq=>Nat.ne_of_beq_eq_false h (cO.mp q).symm⟩
 | _=>exact k h
theorem Zx(hC:ue C){c:Nat}{x:Tx}:∀{l:List Tx},rL C.T c x=some l->l.map (den C.θ)=gP c (den C.θ x)/\l.length<=x.length+1:=by
 induction x with
 | nil=>intro l h;refine bf h ?_;exact⟨rfl,dr _⟩
 | cons a x Hx=>
  intro l h;refine ah (av h) λl' e h=>ah (av h) λb eb h=>xA (Hx e) λih hl=>?_
  induction l' using iE with
  | nil=>exact au h
  | cons y m=>
   have Oo:=ih.symm
   show _=gP c (a.den C.θ++den C.θ x)/\_
   rcases Zw hC eb with q|q
   ·refine xA q λq1 q2=>?_;subst q1
    refine bf h (⟨?_,Fv hl⟩);refine ab (q2 ..) ?_
    show []::den C.θ y::m.map (den C.θ)=(match gP c (den C.θ x)with|y::m=>if c=c then []::y::m else(c::y)::m|[]=>[])
    exact ab (Oo ..) ((if_pos rfl).symm)
   ·refine xA q λq1 q2=>?_;subst q1
    refine bf h ?_;exact⟨(HG c _ _ q2 _ _ Oo).symm,Ve hl⟩
theorem BZ{x y:ai}(h:x.cps.toList=y.cps.toList):x=y:=by
 refine bX (Om x ..) ?_;refine bX (Om y ..) ?_;exact ab (h ..) rfl
theorem Zy(x z:ai)(n:Nat):(AB x ⟨#[n]⟩ z).cps.toList=f8 n z.cps.toList x.cps.toList:=by
 rw[StrLaws.replace_one,BY,On,Zv]
theorem Zz(n:Nat):Gz n=lo1 n:=by
 unfold Gz lo1;induction e:fT 65 n&&fT n 90 with
 | true=>exact xA ((cz _ _).mp e) λa b=>(if_pos ⟨bF a,bF b⟩).symm
 | false=>exact(if_neg λz=>bV (e.symm.trans ((cz _ _).mpr ⟨cZ z.1,cZ z.2⟩))).symm
theorem ZA{θ:Th}{x:Tx}{l:List Nat}(h:dw x=some l):aL θ x=⟨l.toArray⟩:=by unfold aL;exact ab (jt h ..) rfl
theorem ZB{θ:Th}{x y:Tx}(h:M5 x=some y):Txt.lower (aL θ x)=aL θ y/\(aL θ x).length<=1:=by
 refine ah (av h) λl e h=>ab (ZA e ..) ?_
 induction l with
 | nil=>
  refine bf h ?_;exact⟨(lower_ascii (x:=⟨#[]⟩) (λc hc=>by simp at hc)).trans (by simp[aL,den]),tE _⟩
 | cons n r=>
  refine xA (bK h) λk h=>xA ((cz _ _).mp k) λk1 k2=>bf h ?_
  refine ab (lR.mp k1 ..) ?_;refine ab (Zz ..) ?_;exact⟨(lower_ascii (x:=⟨#[n]⟩) (λc hc=>by simp at hc;exact tF hc (bF k2))).trans (by simp[aL,den,At.den]),dr 1⟩
@[elab_as_elim] theorem HI{v:V}{i:Tx}{P:V->Prop}(h:pn v=some i)(q:P (.str i)):P v:=by
 induction v using V.casesOn with
 | str j=>exact aI h▸q
 | _=>exact au h
theorem ZC{q:Tx}{l:List V}:∀{y:Tx} {cs:List ac},rK q l=some y->az C σ l cs->∃ps:List (ai×Tok),cs=xC ps/\eZ (den C.θ q) (ps.map (·.1.cps.toList))=den C.θ y:=by
 induction l with
 | nil=>intro y cs h x;replace x:=az.jP x;subst x;refine bf h ?_;exact(aW ([]) rfl rfl)
 | cons v l ih=>
  intro y cs h x;refine az.iq x λc cs a b=>?_;clear x
  refine ah (av h) λx e1 h=>ah (av h) λy' e h=>bf h ?_
  revert a
  refine HI e1 λa=>VR.fV a λt=>ah (ih e b) λps ag hp=>?_;subst ag
  refine(aW ((aL C.θ x,t)::ps) rfl ?_);induction l using iE with
  | nil=>
   have:=b.length
   induction ps with
   | nil=>exact oh ..
   | cons=>exact absurd this (by simp[xC])
  | cons v' l=>
   have:=b.length
   induction ps with
   | nil=>exact absurd this (by simp[xC])
   | cons p ps=>
    show(aL C.θ x).cps.toList++(den C.θ q++eZ (den C.θ q) ((p::ps).map _))=den C.θ (x++(q++y'))
    refine ab (hp ..) ?_;refine ab (oh ..) ?_;refine ab (Bo ..) ?_;exact ab (Bo ..) rfl
theorem HJ(q:List Nat)(l:List (List Nat)):(l.map (·.length)).sum<=(eZ q l).length:=by
 induction l with
 | nil=>exact dr _
 | cons x l ih=>
  induction l with
  | nil=>simp[eZ]
  | cons y l=>
   rw[jE,List.sum_cons,show eZ q (x::y::l)=x++(q++eZ q (y::l)) from rfl,cS,cS];exact Fp (dG ih (LS _ _)) _
end
section
variable {C:Cx}{N:cP}{mg mb:ai->Option ac}{sc:Sc}{A:bC}{σ:Sg}{st:St}{s:ak}
theorem ja{a:List Nat}:∀{b:List Nat},bw a b=true->a=b:=by
 induction a with
 | nil=>intro b h;exact(lR.mp h).symm
 | cons x a ih=>
  intro b h;induction b with
  | nil=>exact bV h
  | cons y b=>exact xA ((cz _ _).mp h) λp q=>dj p▸ih q▸rfl
def B0(C:Cx)(A:bC)(id:String)(cs:List ac)(σ:Sg)(s:ak)(am:St)(r:V):Prop:=aM C A (PySem.call (.builtin id) cs) σ s (λcv aa s'=>Rep C aa am s'/\VR C aa r cv)
theorem ZD{prog:iS}{w:bD}{E:ac->ak->Prop}{x y:ai}{t u:Tok}{Q:ac->ak->Prop}(hy:(y.length==0)=false)
  (hq:∀l tk,l.map (·.1)=Txt.split x y->Q (.ref s.heap.objs.size) {s with heap:=s.heap.push (jO (xC l).toArray 0),toks:=tk})
  (hsz:x.length<=gI) (ZE:(Builtin.Str.partsBetween x (UQ x y 0 x.length (x.length+1)) y.length).length<=gI) :
  aR (model prog w) A (PySem.call (.builtin "str.split") [.str x t,.str y u]) Q E s:=by
 cases h1:(decide (x.length<y.length)||decide (aqA x<aqA y))
 ·induction hf:(UQ x y 0 x.length (x.length+1)).isEmpty
  ·refine u8 UW (An _ _ _) UU (UT _ _) (meets_str_split_sep x y t u h1 hy hf hsz ZE) ?_;refine ab (strsFrom_eq ..) ?_;exact hq (numbered s.toks _) _ ((numbered_texts _ _).trans ((if_neg (ne_true_of_eq_false h1)).trans (if_neg (ne_true_of_eq_false hf))).symm)
  ·exact u8 UW (An _ _ _) UU (UT _ _) (meets_str_split_not_found x y t u h1 hy hf)
    (hq [(x,t)] _ ((if_neg (ne_true_of_eq_false h1)).trans (if_pos hf)).symm)
 ·exact u8 UW (An _ _ _) UU (UT _ _) (meets_str_split_cannot_occur x y t u h1)
   (hq [(x,t)] _ (if_pos h1).symm)
theorem ZF{l:List Tx}:∀{ps:List (ai×Tok)},l.map (den C.θ)=ps.map (·.1.cps.toList)->az C σ (po l) (xC ps):=by
 induction l with
 | nil=>
  intro ps h;induction ps with
  | nil=>exact .nil
  | cons=>exact nomatch h
 | cons x l ih=>
  intro ps h;induction ps with
  | nil=>exact nomatch h
  | cons p ps=>
   refine xA (mC.inj h) λh1 h2=>?_
   have:aL C.θ x=p.1:=BZ ((oh ..).trans h1)
   exact .cons (by show VR C σ _ (.str p.1 p.2);refine bX (this ..) ?_;exact .str x p.2) (ih h2)
def B1(n:List Nat):Option String:=match bw n Gy with
 | true=>some "str.lower"
 | false=>match bw n yn with
  | true=>some "str.join"
  | false=>match bw n Gx with
   | true=>some "str.split"
   | false=>none
theorem ZG(H:dz C N mg mb)(hC:ue C){x:Tx}{t:Tok}{n:List Nat}{args:List V}{cs:List ac}{r:V}(h:GA C.T x n args st=some r)(R:Rep C σ st s)(hv:az C σ args cs)(hx:lC x=true) :
  ∃id,B1 n=some id/\B0 C A id (.str (aL C.θ x) t::cs) σ s st r:=by
 have HK:=v9 hx;have hd:=t9 H x;induction args using iE with
 | nil=>
  replace hv:=az.jP hv;subst hv
  refine xA (bK h) λe h=>ah (av h) λy e2 h=>xA (yJ h) λag hy=>?_;subst ag
  refine(aW ("str.lower") (by unfold B1;exact ab (e ..) rfl) (λE=>?_));refine xA (ZB (θ:=C.θ) e2) λh1 h2=>SC.lower (fit_lower (dG h2 (by decide))) ?_
  refine ab (h1 ..) ?_;exact(cp σ .toks R.toks (.str y _))
 | cons a l=>
  refine az.iq hv λca cs ha hr=>xA (bK h) λel g=>?_
  replace el:=lR.mp el;subst el
  replace h:=g;clear g
  replace hr:=az.jP hr;subst hr
  induction e:bw n yn with
  | true=>
   rw[e]at h
   replace e:=ja e;subst e
   refine(aW ("str.join") rfl (λE=>?_));refine ah (av h) λl el h=>xA (bK h) λex h=>xA ((cz _ _).mp ex) λZH ZI=>?_
   refine ah (av h) λy ey h=>xA (yJ h) λag hy=>?_;subst ag
   refine kX R el ha λD items m g hi=>ah (ZC ey hi) λps e1 e2=>?_
   have wg:=HJ (den C.θ x) (ps.map (·.1.cps.toList));rw[e2]at wg;have eX:=t9 H y;rw[qq]at eX;have qx:ps.length<4000:=by
    have:=hi.length
    rw[e1]at this;have h2:=mZ ZI;simp only[xC,cK]at this
    lia
   refine SC.join (l:=ps) (by have:=g.isList;rw[<-aqq (xs:=items),e1]at this;exact this) rfl ?_ λt' k=>?_
   ·unfold JoinOk;refine ab (Fb ..) ?_;refine ab (StrLaws.joinTotal ..) ?_;have h1:((ps.map (·.1)).map (·.length)).sum<=(den C.θ y).length:=by
     refine dG (lV ?_) wg
     congr 1
     simp[xS]
    have h2:=dG hd (dG (LW 1000 (bF ZH)) (dr _));refine decide_eq_false ?_;refine ab (ir ..) ?_;rw[cK];have h3:=Ax (fh qx) h2
    lia
   ·have:Txt.join (aL C.θ x) (ps.map (·.1))=aL C.θ y:=by
     show Builtin.Str.glued _ _=_
     refine ab (StrLaws.glued_eq_join ..) (BZ ?_);refine ab (oh ..) ?_;refine xH (BY ..) ?_;refine ab (oh ..) ?_;refine bX (e2 ..) ?_;refine ab (kO ..) ?_;rfl
    exact ab (this ..) ((cp σ .toks R.toks (.str y _)))
  | false=>
   rw[e]at h;refine xA (bK h) λe2 h=>?_
   replace e2:=ja e2;subst e2
   refine(aW ("str.split") rfl (λE=>?_));refine ah (av h) λc ec h=>Og ec ha λ_=>ah (av h) λl el h=>xA (BE h) λag hl=>?_;subst ag
   refine xA (Zx hC el) λh1 h2=>?_
   have arO:(UQ (aL C.θ x) ⟨#[c]⟩ 0 (aL C.θ x).length ((aL C.θ x).length+1)).length<=(aL C.θ x).length+1:=StrLaws.occ_length_le _ _ _ _ _;refine ZD rfl (λl' tk uc=>?_) (by refine ab (ir ..) ?_;exact FD hd HK (by decide)) (by refine ab (length_partsBetween ..) ?_;refine ab (ir ..) ?_;lia);have h3:=On (aL C.θ x) c;rw[oh,<-h1,<-uc,kO]at h3;exact v8 R (items:=(xC l').toArray) (by simpa using ZF h3.symm)
end
open PySem.SeqAt
theorem ZJ:(⟨Gs.toArray⟩:ai) = "append":= by decide
theorem ZK:(⟨Gu.toArray⟩:ai) = "insert":= by decide
theorem ZL:(⟨Gv.toArray⟩:ai) = "pop":= by decide
theorem ZM:(⟨Gw.toArray⟩:ai) = "count":= by decide
theorem ZN:(⟨yn.toArray⟩:ai) = "join":= by decide
theorem ZO:(⟨Gx.toArray⟩:ai) = "split":= by decide
theorem ZP:(⟨Gy.toArray⟩:ai) = "lower":= by decide
theorem ZQ:(⟨jL.toArray⟩:ai) = "get":= by decide
section
variable {C:Cx}{N:cP}{mg mb:ai->Option ac}{sc:Sc}{A:bC}{σ:Sg}{st:St}{s:ak}
noncomputable def Oq(k:Int):ac->Bool
 | .int i _=>decide (i=k)
 | _=>false
theorem ZR{k:Int}{cs:List ac}{ns:List Int}(h:Ac cs ns):cs.countP (Oq k)=mU k ns:=by
 induction h with
 | nil=>rfl
 | @cons i t cs ns _ ih=>
  refine ab (List.countP_cons ..) ?_;refine ab (ih ..) ?_
  show mU k ns+(if decide (i=k)=true then 1 else 0)=match decide (i=k)with|true=>mU k ns+1|false=>mU k ns
  induction decide (i=k)<;>rfl
theorem ZS{cs:List ac}{ns:List Int}(h:Ac cs ns):∀c∈cs,∃i t,c=.int i t:=by
 induction h with
 | nil=>exactλ_ hc=>nomatch hc
 | cons n t _ ih=>
  intro c hc;rcases cW.mp hc with rfl|hc
  ·exact(gK _ _ rfl)
  ·exact ih c hc
theorem ZT(hN:eY C)(R:Rep C σ st s){n:Nat}(hA:cC n A){i k:Int}{t u:Tok}:EqAt A.in1 s (.int i t) (.int k u) (decide (i=k)):=
 (N0 hN R 1 A.in1 (.int i) (.int k) _ _ _ rfl (by have:=hA.units;simp only[Around.in1];exact j1 (pX (pX this))) (.int i t) (.int k u)).2
def oj(n:List Nat):Option String:=match bw n Gs with
 | true=>some "list.append"
 | false=>match bw n Gu with
  | true=>some "list.insert"
  | false=>match bw n Gw with
   | true=>some "list.count"
   | false=>match bw n Gv with
    | true=>some "list.pop"
    | false=>none
theorem ZU(hN:eY C){k:Nat}(hA:cC k A){l:List V}{n:List Nat}{args:List V}{cs:List ac}{r:V}{a:al}{items:Array ac}{m:Nat}(h:GB l n args=some r)(R:Rep C σ st s)(hv:az C σ args cs)
  (g:IsL s.heap a items m) (hi:az C σ l items.toList) :
  ∃id,oj n=some id/\B0 C A id (.ref a::cs) σ s st r:=by
 induction args using iE with
 | nil=>exact au h
 | cons v l'=>
  refine az.iq hv λcv cs ha hr=>xA (bK h) λel h=>xA ((cz _ _).mp el) λel e=>?_
  replace el:=lR.mp el;subst el
  replace hr:=az.jP hr;subst hr
  replace e:=ja e;subst e
  refine(aW ("list.count") rfl (λE=>?_));refine ah (av h) λkk ek h=>ah (av h) λns e1 h=>xA (rZ h) λag _z=>?_;subst ag
  revert ha
  refine qt ek λha=>VR.gn ha λt=>?_
  have x:=HC e1 hi;refine u8 F.slot_list_count ⟨_,g,rfl⟩ F.entry_list_count (F.args_list_count_2 _ _) (list_countAt a items m none #[] (.int kk t) (Oq kk)) ⟨g,λy hy=>?_,?_⟩
  ·refine fL (ZS x y (by simpa using hy)) λi u ag=>?_;subst ag
   exact ZT hN R hA
  ·refine ab (ZR x ..) ?_;exact(cp σ .toks R.toks (.int _ _))
@[elab_as_elim] theorem ZV{v:V}{k:Nat}{P:V->Prop}(h:M3 v=some k)(q:P (.int (k:Int))):P v:=by
 induction v using V.casesOn with
 | int j=>induction j with
  | ofNat n=>exact aI h▸q
  | negSucc=>exact au h
 | _=>exact au h
theorem ZW{l:List V}{v:V}(h:yo l=some v):l[l.length-1]?=some v:=by
 induction l with
 | nil=>exact au h
 | cons a r ih=>
  induction r with
  | nil=>exact h
  | cons b r=>exact ih h
theorem ZX{a:Nat}{w:al}{l:List V}{n:List Nat}{args:List V}{cs:List ac}{r:V}{am:St}(h:GD a l n args st=some (r,am))(R:Rep C σ st s)(hv:az C σ args cs)
  (hw:σ.ρ[a]?=some w) (hg:st.get a=some (.list l)) :
  ∃id,oj n=some id/\B0 C A id (.ref w::cs) σ s am r:=by
 refine ah (R.get hw hg) λitems ag hi=>xE ag λm g=>?_
 have hsz:=hi.items;have fin:∀(h':cD) (it:Array ac) (l':List V) (k:Nat) (r:V) (c:ac),h'.PlainList w it->Heap.SameBut w s.heap h'->az C σ l' it.toList->VR C σ r c->∃aa,Step C.tabs σ aa s {s with heap:=h',toks:=k}/\Rep C aa (st.set a (.list l')) {s with heap:=h',toks:=k}/\VR C aa r c:=by
  intro h' it l' k r c hp hs sf hr;have kk:∀b ob,b≠w->s.heap.get? b=some ob->h'.get? b=some ob:=λb ob hb e=>ab (hs.2 b hb) e
  refine(cp σ (Step.set (fK hw) kk (λb e=>?_) (gK _ _ rfl)) (R.set hw kk ⟨it,hp,sf⟩) hr)
  by_cases q:b=w
  ·replace q:=nF q;subst q
   exact xE hp λ_ g'=>au (e.symm.trans g')
  ·refine bX (hs.2 b q ..) ?_;exact e
 induction args using iE with
 | nil=>
  replace hv:=az.jP hv;subst hv
  refine xA (bK h) λe h=>xA ((cz _ _).mp e) λe ex=>ah (av h) λv ev h=>xA (bK h) λe2 h=>dY h ?_
  replace e:=ja e;subst e
  refine(aW ("list.pop") rfl (λE=>?_));have hl:=mZ ex;refine ah (hi.get (ZW ev)) λc hc V=>?_
  rw[<-hsz]at hc;refine u8 F.slot_list_pop ⟨_,g,rfl⟩ F.entry_list_pop (F.args_list_pop_1 _) (MeetsSeq.list_pop_last w items m c (by simpa using hc) (by rw[hsz,ir];exact fh (mJ hl (by decide)))) ⟨g,?_⟩;refine fin _ _ _ _ _ _ ⟨_,IsL.update g _⟩ (tn ..) ?_ V
  have:(items.eraseIdxIfInBounds (items.size-1)).toList=items.toList.take (items.size-1):=by
   simp[List.eraseIdx_eq_take_drop_succ]
   lia
  rw[this,List.dropLast_eq_take,<-hsz];exact hi.take _
 | cons v args=>
  refine az.iq hv λcv cs ha hv=>?_
  induction args using iE with
  | nil=>
   replace hv:=az.jP hv;subst hv
   refine xA (bK h) λe h=>xA (bK h) λe2 h=>dY h ?_
   replace e:=ja e;subst e
   refine(aW ("list.append") rfl (λE=>?_));have hl:=mZ e2;rw[cS]at hl;refine aql ⟨m,g⟩ (λh' hp hs=>fin h' _ _ _ _ _ hp hs ?_ .none) (by refine ab (ir ..) ?_;exact fh (mJ (tF hsz (j1 hl)) (by decide)));exact ab (UN ..) (hi.append (.cons ha .nil))
  | cons u args=>
   refine az.iq hv λcu cs hu hv=>xA (bK h) λe h=>xA ((cz _ _).mp e) λe1 e=>ah (av h) λk ek h=>xA (bK h) λhk h=>xA (bK h) λe2 h=>dY h ?_
   replace e1:=lR.mp e1;subst e1
   replace hv:=az.jP hv;subst hv
   replace e:=ja e;subst e
   refine(aW ("list.insert") rfl (λE=>?_));have hl:=mZ e2;have hk:=bF hk;have m9:l.length<4000:=by simp only[M7,cS,cH,lr,tv]at hl;lia
   revert ha
   refine ZV ek λha=>VR.gn ha λt=>?_
   have hf:=fitsIndex_of (pd (by decide)) (rx (lW hk m9) (by decide));have hz:items.size<=gI:=by rw[hsz,ir];exact fh (mJ m9 (by decide))
   generalize hx:(k:Int)=x at hf
   refine u8 F.slot_list_insert ⟨_,g,rfl⟩ F.entry_list_insert (F.args_list_insert_3 _ _ _) (AutoSeq1.list_insert_list_int_val_1 w items m x t cu (λq=>bV (by rw[hf]at q;exact q)) hz) ⟨g,?_⟩;refine fin _ _ _ _ _ _ ⟨_,IsL.update g _⟩ (tn ..) ?_ .none
   have:min x.toNat items.size=k:=by rw[hsz,<-hx];exact tD hk
   rw[if_neg (by lia),this];have e3:((items.extract 0 k).push cu++items.extract k).toList=items.toList.take k++cu::items.toList.drop k:=by simp;exact LQ (by simp)
   rw[e3];exact(hi.take k).append (.cons hu (hi.drop k))
end
end Internal
namespace Internal
open PySem PySem.W PyProof.Rows
section
variable {C:Cx}{N:cP}{mg mb:ai->Option ac}{sc:Sc}{A:bC}{σ:Sg}{st:St}{s:ak}
theorem Os{c:nB}{Q:ac->Sg->ak->Prop}(h:n9 C A c σ s Q):aM C A (runValue c) σ s Q:=λE=>
 wpAny_runValue (s9 h λr s' ag=>lY ag λv aa e x q=>by subst e;exact(aW aa x q))
theorem Ot{n:Nat}{K:bb}(hK:fq C n K){f:V}{vs:List V}{st am:St}{v:V}(h:vJ K f vs st=some (v,am))(hA:cC n A)(ht:0<s.toks)(R:Rep C σ st s){cf:ac}{aU:List ac}(hf:VR C σ f cf)(hv:az C σ vs aU) :
  aM C A (PySem.call cf aU) σ s (λcv aa s'=>Rep C aa am s'/\VR C aa v cv):=
 Os ((hK.pos f vs st v am h).2 A σ s cf aU hA ht R hf hv)
def wh(o:V)(n:List Nat):Option String:=match o with
 | .str _=>B1 n
 | .fl _=>oj n
 | .loc _=>(match bw n jL with|true=>some "dict.get" | false=>oj n)
 | .fd _=>(match bw n jL with|true=>some "dict.get" | false=>none)
 | _=>none
theorem Ou(H:dz C N mg mb)(hN:eY C){l:List (Tx×V)}{n:List Nat}{args:List V}{cs:List ac}{r:V}{a:al}{o:aT}{ax:List (ai×ac)}(h:A6 C.T l n args=some r)(R:Rep C σ st s)(hv:az C σ args cs)
  (hm:s.heap.get? a=some o) (h0:C.h₀.get? a=none) (hO:hU C ax o) (hk:cM C σ l ax):bw n jL=true/\B0 C A "dict.get" (.ref a::cs) σ s st r:=by
 induction args using iE with
 | nil=>exact au h
 | cons kk r1=>
  induction r1 using iE with
  | nil=>exact au h
  | cons d m=>
   refine az.iq hv λck cs1 ha hr=>az.iq hr λcd dK hb hr=>xA (bK h) λe k=>xA ((cz _ _).mp e) λel e2=>?_
   replace el:=lR.mp el;subst el
   replace h:=k;clear k
   replace hr:=az.jP hr;subst hr
   refine⟨e2,λE=>?_⟩;refine ah (av h) λx ex h=>ah (av h) λr' er h=>?_
   revert ha
   refine HI ex λha=>VR.fV ha λ_=>?_
   have hs:(a==il)=false:=by
    refine beq_eq_false_iff_ne.mpr λq=>?_
    have:=H.NK
    subst q;rw[h0]at this;exact bV this
   have hD:=hO.dictOf hm;have hl:=BG hN er hk;refine call_meetsIn PySem.F.slot_dict_get hD.typeIs PySem.F.entry_dict_get (PySem.F.args_dict_get_3 _ _ _) (meets_dict_get_default (PySem.strKind C.prog C.w) a (strKind_is C.prog C.w _ _) hs _) (Mj _ hD.mapOf σ .toks R.toks ?_)
   generalize pP ax (aL C.θ x)=oc at hl
   induction hl with
   | none=>exact aI h▸hb
   | some q=>exact aI h▸q
structure jR(C:Cx)(N:al)(mN:ai->Option ac):Prop where
 at_:ClsAt C.h₀ C.cls N mN
 t1:C.cls∉C.tabs
 t2:N∉C.tabs
 ga:mN "__getattribute__"= none
 gh:mN "__getattr__"= none
 yQ:∀n,C.T.mR n=true->kM (.type "function") ⟨n.toArray⟩=pure none
 HL:∀n,C.T.mR n=true->kM (.type "object") ⟨n.toArray⟩=pure none
 atC:∀n,C.T.mR n=true->mN ⟨n.toArray⟩=none
 ZY:∀n,C.T.mR n=true->C.T.l9 n=none
 sa:mN "__setattr__"= none
 B2:C.G C.T.cls=.ref C.cls
 vD:∀n x,C.T.vD n=some x->∃(K:Frag) (tS:Tok) (mc:_),K.In C.h₀/\(∀a o,K.lookup a=some o->a∉C.tabs)/\readsIn K C.cls mc=true/\findCls K (.ref C.cls) mc ⟨n.toArray⟩=some (.val (.str (aL C.θ x) tS))
 l9:∀n g,C.T.l9 n=some g->∃f o fd y,mN ⟨n.toArray⟩=some (.ref f)/\C.G g=.ref f/\C.h₀.get? f=some o/\f∉C.tabs/\o.cls=.type "function"/\ o.data=.func fd/\kM (.type "object") ⟨n.toArray⟩=pure y
theorem jR.now{Nc:al}{mN:ai->Option ac}(X:jR C Nc mN)(R:Rep C σ st s):ClsAt s.heap C.cls Nc mN:=
 ⟨ry X.at_.obj λnm q bs sn sub col dd k0 k1 k2 k3 k5 e=>⟨nm,q,bs,sn,sub,col,dd,k0,k1,k2,k3,k5,R.base _ _ e X.t1⟩,dN X.at_.ns λo es ep e2 r=>⟨o,es,ep,R.base _ _ e2 X.t2,r⟩⟩
@[elab_as_elim] theorem uf{P:String->Prop}{n m:List Nat}{a:String}{o:Option String}{id:String}(h:(match bw n m with|true=>some a|false=>o)=some id)(p:n=m->P a)(q:o=some id->P id):P id:=by
 induction e:bw n m with
 | true=>rw[e]at h;exact aI h▸p (ja e)
 | false=>rw[e]at h;exact q h
theorem ZZ{a:Bool}(h:cX a=true):a=false:=by induction a<;>first|rfl|exact bV h
theorem Z0{ov:V}{n:List Nat}{id:String}{name:ai}{c:ac}{pl:bo Bool}{E:ac->ak->Prop}{Q:ac×List ac->ak->Prop}(h:wh ov n=some id)(hr:yv C.T n ov st=some none)(R:Rep C σ st s)
  (hv:VR C σ ov c) (hn:name=⟨n.toArray⟩) (q:Q (.builtin id,[c]) s):aR (model C.prog C.w) A (rl c name pl) Q E s:=by
 subst hn;have lst:∀{a:al} {items:Array ac} {m:Nat},oj n=some id->IsL s.heap a items m->Q (.builtin id,[.ref a]) s->aR (model C.prog C.w) A (rl (.ref a) ⟨n.toArray⟩ pl) Q E s:=by
  intro a items m hh g q;have nd:∀b,pc a=.ref b->∃o,s.heap.get? b=some o/\o.dict=none:=λb e=>by cases e;exact(aW _ g rfl)
  revert q
  refine uf hh (λe q=>?_) λhh=>uf hh (λe q=>?_) λhh=>uf hh (λe q=>?_) λhh=>uf hh (λe q=>?_) λhh=>au hh
  ·refine ab (e ..) ?_;refine ab (ZJ ..) ?_;exact Aj ⟨_,g,rfl⟩ PySem.F.plainAttrs_list PySem.F.slot_list_append PySem.F.type_list_append nd q
  ·refine ab (e ..) ?_;refine ab (ZK ..) ?_;exact Aj ⟨_,g,rfl⟩ PySem.F.plainAttrs_list PySem.F.slot_list_insert PySem.F.type_list_insert nd q
  ·refine ab (e ..) ?_;refine ab (ZM ..) ?_;exact Aj ⟨_,g,rfl⟩ PySem.F.plainAttrs_list PySem.F.slot_list_count PySem.F.type_list_count nd q
  ·refine ab (e ..) ?_;refine ab (ZL ..) ?_;exact Aj ⟨_,g,rfl⟩ PySem.F.plainAttrs_list PySem.F.slot_list_pop PySem.F.type_list_pop nd q
 have dct:∀{a:al} {o:aT} {ax:List (ai×ac)},bw n jL=true->s.heap.get? a=some o->hU C ax o->id = "dict.get" -> Q (.builtin id,[.ref a]) s->aR (model C.prog C.w) A (rl (.ref a) ⟨n.toArray⟩ pl) Q E s:=by
  intro a o ax e g hO hi q;subst hi;refine ab (ja e ..) ?_;refine ab (ZQ ..) ?_;have hD:=hO.dictOf g;exact Aj hD.typeIs PySem.F.plainAttrs_dict PySem.F.slot_dict_get PySem.F.type_dict_get hD.mapOf.noDict q
 induction ov using V.casesOn with
 | str x=>
  revert q
  refine VR.fV hv λ_=>uf h (λe q=>?_) λh=>uf h (λe q=>?_) λh=>uf h (λe q=>?_) λh=>au h
  ·refine ab (e ..) ?_;refine ab (ZP ..) ?_;exact GM.lower q
  ·refine ab (e ..) ?_;refine ab (ZN ..) ?_;exact GM.join q
  ·refine ab (e ..) ?_;refine ab (ZO ..) ?_;exact GM.split q
 | fl l=>
  refine gY (hv.isList R) λa items m ag g hi=>?_;subst ag
  exact lst h g q
 | loc k=>
  revert q
  refine VR.mf hv λw hw q=>ah (av hr) λo hg hr=>?_
  induction o with
  | list l=>
   refine xA (bK hr) λe _z=>ah (R.get hw hg) λitems ag hi=>xE ag λm g=>lst ?_ g q
   have h:(match bw n jL with|true=>some "dict.get" | false=>oj n)=some id:=h;rw[ZZ e]at h;exact h
  | dict l=>
   refine xA (bK hr) λe _z=>ah (R.get hw hg) λax ag hk=>ah (hU.of ag) λo g hO=>dct e g hO ?_ q
   have h:(match bw n jL with|true=>some "dict.get" | false=>oj n)=some id:=h;rw[e]at h;exact(aI h).symm
  | ob k d=>
   induction k with
   | fn=>exact xA (bK hr) λ_z hr=>ah (av hr) λl _z hr=>ah (av hr) λf _z hr=>nomatch hr
   | ins=>exact au hr
  | at_ l=>exact au hr
 | fd l=>
  have h:(match bw n jL with|true=>some "dict.get" | false=>none)=some id:=h;induction e:bw n jL with
  | true=>
   rw[e]at h;cases hv with
   | fd hm hO hk=>exact dct e (R.df _ hm).1 hO (aI h).symm q
  | false=>rw[e]at h;exact au h
 | _=>exact au h
end
section
variable {C:Cx}{N:cP}{mg mb:ai->Option ac}{sc:Sc}{A:bC}{σ:Sg}{st:St}{s:ak}
theorem ClsAt.Z1{h:cD}{c Nc:al}{mN:ai->Option ac}(x:ClsAt h c Nc mN){o:aT}{fd:nC}(e:h.get? c=some o)(q:o.data=.func fd):False:=by
 refine ry x.obj λnm qn bs sn sub col dd k0 k1 k2 k3 k5 g=>?_
 rw[g]at e;replace e:=aI e;subst e;cases q
theorem callWith_cls{M:rj}{E:ac->ak->Prop}{pos:aC}{c Nc:al}{mN:ai->Option ac}{args:List (Bool×bo ac)}{Q:ac->ak->Prop}
  (dR:(args.any (λx=>x.fst)||([]:List (Option ai×bo ac)).any λx=>x.fst.isNone)=false)
  (h:aR M A (E0 (.ref c) true args []) (λas d7=>as.kw=[]/\ClsAt d7.heap c Nc mN/\aR M A (PySem.call (.ref c) as.pos) Q E d7) E s) :
  aR M A (ll pos (.ref c) [] args []) Q E s:=by
 refine aA (fY (c8 h (λas d7 h₁=>?_) λ_z _z x=>x));refine bP h₁ λe X hc=>?_;clear h₁
 obtain⟨aU,kw⟩:=as;subst e;obtain⟨hh,g,d,t,os⟩:=d7;refine ry X.obj λnm q bs sn sub col dd k0 k1 k2 k3 k5 hC=>?_
 have hT:(⟨hh,g,d,t,os⟩:ak).TypeIs (.ref c) "type":= ⟨_,hC,rfl⟩;refine aA (kN ?_);refine aA (m:=keeperOf (.ref c)) ?_;refine aA (UF hC ?_);have f1:=tc_lookup
 repeat (any_goals (first|assumption|with_reducible refine UG hC ?_|with_reducible refine wpAny_load' hC ?_|wp_step))
 refine ab (if_pos (by rfl)) ?_;refine ab (dR ..) ?_
 show aR _ _ (PySem.call (.ref c) aU []>>=λr=>do holding [r] point;pure r) _ _ _
 exact aA (c8 hc (λr s' hr=>aA (fY (wpAny_point (bj hr)))) λ_z _z x=>x)
theorem Z2{M:rj}{E:ac->ak->Prop}{pos:aC}{a:al}{first:List ac}{args:List (Bool×bo ac)}{kws:List (Option ai×bo ac)}{Q:ac->ak->Prop}
  (dR:(args.any (λx=>x.fst)||kws.any λx=>x.fst.isNone)=false)
  (h:aR M A (E0 (.ref a) true args kws) (λas d7=>(∃o fd,d7.heap.get? a=some o/\o.data=.func fd)/\aR M A (PySem.call (.ref a) (first++as.pos) as.kw) Q E d7) E s) :
  aR M A (ll pos (.ref a) first args kws) Q E s:=by
 refine aA (fY (c8 h (λas d7 y=>xA y λag hc=>be ag λo fd e d=>aA (kN ?_)) λ_z _z x=>x));have tail:∀{t:bo ac},aR M A t Q E d7->aR M A (t>>=λr=>holding [r] point>>=λ_z=>pure r) Q E d7:=λht=>aA (c8 ht (λr j3 hr=>aA (fY (wpAny_point (bj hr)))) λ_z _z x=>x)
 refine aA (m:=keeperOf (.ref a)) ?_;refine aA (UF e ?_);refine ab (d) ?_;refine bj ?_;refine ab (dR) ?_
 show aR M A (if args.length+2*kws.length > 30 then PySem.call (.ref a) (first++as.pos) as.kw>>=λr=>holding [r] point>>=λ_z=>pure r else callMarked plainCall (.ref a) (first++as.pos) as.kw>>=λr=>holding [r] point>>=λ_z=>pure r) Q E d7
 split
 ·exact tail hc
 ·exact tail (by unfold callMarked;exact Calls.wpAny_keep hc)
theorem B3{Nc:al}{mN:ai->Option ac}(X:jR C Nc mN){n:Nat}{K:bb}(hK:fq C n K){fr:Fr}{env:bd}{cA:List al}{pos m8:aC}(hA:cC n A){es:List ar}{cs:List Cd}(bH:eM C sc es cs){st st1 aF:St}{vs:List V}
  (h:gl K fr cs st=some (vs,st1)) (F:bp C sc fr env cA σ s) (R:Rep C σ st s) {f r:V} {cf:ac} {pre:List V} {first:List ac} (hf:VR C σ f cf) (hp:az C σ pre first) (hk:vJ K f (pre++vs) st1=some (r,aF)) (hc:cf=.ref C.cls->first=[]) :
  aM C A (ll m8 cf first (fJ pos (fg es env)) (iB pos (iC [] env))) σ s (λcv aa s'=>Rep C aa aF s'/\VR C aa r cv):=by
 intro E;have Ov:=(hK.pos f _ _ _ _ hk).1;refine xE (Ov.ref σ cf hf) λa q=>?_
 subst q;have dR:((fJ pos (fg es env)).any (λx=>x.fst)||(iB pos (iC [] env)).any λx=>x.fst.isNone)=false:=by refine ab (qw bH ..) ?_;rfl
 by_cases e:a=C.cls
 ·have q:=hc (congrArg pc e);subst e q;cases hp;refine callWith_cls (Nc:=Nc) (mN:=mN) dR (se hK hA bH h F R λaU aY s1 x1 R1 V1=>?_);refine⟨rfl,X.now R1,?_⟩;exact c8 (Ot hK hk hA (km F.tok x1.tok) R1 (hf.mono x1.le) V1 E) (λb tJ ag=>ah ag λmW y r=>(aW mW (x1.toStep.trans y) r)) λ_z _z e=>e
 ·refine Z2 dR (se hK hA bH h F R λaU aY s1 x1 R1 V1=>?_);exact⟨(Ov.fn aY s1 a R1 (hf.mono x1.le)).resolve_right e,c8 (Ot hK hk hA (km F.tok x1.tok) R1 (hf.mono x1.le) ((hp.mono x1.le).append V1) E) (λb tJ ag=>ah ag λmW y r=>(aW mW (x1.toStep.trans y) r)) λ_z _z e=>e⟩
theorem Ow{Nc:al}{mN:ai->Option ac}(X:jR C Nc mN){id:ai}{p pos:aC}{c:Cd}{es:List ar}{cs:List Cd}(he:bn C sc (.Name id p) c)(bH:eM C sc es cs) :
  bn C sc (.Call (.Name id p) es [] pos) (du c cs):=by
 intro n K hK fr st v am h A env cA σ s hA F R;refine be (bu h) λf st1 e1 h=>be (bu h) λvs aF e2 h=>?_
 show aM C A (eval (.Name id p) env>>=λf=>ll pos f [] (fJ pos (fg es env)) (iB pos (iC [] env))) σ s _
 exact(he n K hK fr st f st1 e1 A env cA σ s hA F R).bind λcf aY s1 x1 ag=>xA ag λR1 V1=>B3 X hK hA bH e2 (F.stepT x1) R1 V1 .nil h λ_z=>rfl
theorem Z3{Nc:al}{mN:ai->Option ac}(X:jR C Nc mN){v i:ar}{p pos:aC}{c:Cd}{es:List ar}{cs:List Cd}(he:bn C sc (.Subscript v i p) c)(bH:eM C sc es cs) :
  bn C sc (.Call (.Subscript v i p) es [] pos) (du c cs):=by
 intro n K hK fr st v' am h A env cA σ s hA F R;refine be (bu h) λf st1 e1 h=>be (bu h) λvs aF e2 h=>?_
 show aM C A (eval (.Subscript v i p) env>>=λf=>ll pos f [] (fJ pos (fg es env)) (iB pos (iC [] env))) σ s _
 exact(he n K hK fr st f st1 e1 A env cA σ s hA F R).bind λcf aY s1 x1 ag=>xA ag λR1 V1=>B3 X hK hA bH e2 (F.stepT x1) R1 V1 .nil h λ_z=>rfl
theorem ug{n m:List Nat}{a:String}{o:Option String}(e:bw n m=true):∃id,(match bw n m with|true=>some a|false=>o)=some id:=⟨a,by exact ab (e ..) rfl⟩
theorem qy{n m:List Nat}{a:String}{o:Option String}(k:∃id,o=some id):∃id,(match bw n m with|true=>some a|false=>o)=some id:=by
 induction bw n m with
 | true=>exact⟨a,rfl⟩
 | false=>exact k
theorem Z4{T:Tb}{x:Tx}{n:List Nat}{args:List V}{r:V}(h:GA T x n args st=some r):∃id,B1 n=some id:=by
 induction args with
 | nil=>exact ug (bK h).1
 | cons a l=>
  refine xA (bK h) λ_z g=>?_
  induction e:bw n yn with
  | true=>exact qy (ug e)
  | false=>rw[e]at g;exact qy (qy (ug (bK g).1))
theorem Z5{l:List V}{n:List Nat}{args:List V}{r:V}(h:GB l n args=some r):∃id,oj n=some id:=by
 induction args with
 | nil=>exact au h
 | cons v m=>exact qy (qy (ug ((cz _ _).mp (bK h).1).2))
theorem Ox{a:Nat}{l:List V}{n:List Nat}{args:List V}{r:V×St}(h:GD a l n args st=some r):∃id,oj n=some id:=by
 induction args using iE with
 | nil=>exact qy (qy (qy (ug ((cz _ _).mp (bK h).1).1)))
 | cons v m=>
  induction m with
  | nil=>exact ug (bK h).1
  | cons u m=>exact qy (ug ((cz _ _).mp (bK h).1).2)
theorem Oy{T:Tb}{l:List (Tx×V)}{n:List Nat}{args:List V}{r:V}(h:A6 T l n args=some r):bw n jL=true:=by
 induction args using iE with
 | nil=>exact au h
 | cons k a=>
  induction a with
  | nil=>exact au h
  | cons d m=>exact((cz _ _).mp (bK h).1).2
noncomputable def qz:ar->Bool
 | .Call ..=>false
 | _=>true
theorem yR{o:ar}(h:qz o=true)(name:ai)(env:bd)(m:bo ac):Ad o name env m=m:=by
 cases o<;>first|rfl|exact bV h
theorem B4{pos:aC}{env:bd}{es:List ar}{cs:List Cd}(h:eM C sc es cs)(hl:es.length<30):E6 (es.length+([]:List ri).length) (fJ pos (fg es env)) (iB pos (iC [] env))=true:=by
 have:=qw (pos:=pos) (env:=env) h
 unfold E6;have e:∀l:List (Bool×bo ac),l.any (·.1)=false->l.all (!·.1)=true:=λl q=>by
  rw[List.any_eq_false]at q;rw[eh];intro x hx
  have:=q x hx
  simpa using this
 refine ab (e _ this ..) ?_
 show(true&&true&&decide (es.length+0+0<30))=true
 simp[hl]
theorem yS{n:Nat}{K:bb}(hK:fq C n K){fr:Fr}{env:bd}{cA:List al}{pos:aC}{pl:bo Bool}(hA:cC n A){name:ai}{nl:List Nat}{es:List ar}{cs:List Cd}(bH:eM C sc es cs)(gm:name=⟨nl.toArray⟩){ov v:V}{vs:List V}{st aF am:St}(e2:yv C.T nl ov st=some none)(e3:gl K fr cs st=some (vs,aF))
  (F:bp C sc fr env cA σ s) (R:Rep C σ st s) {co:ac} (V1:VR C σ ov co) {id:String} (hid:wh ov nl=some id) (k:∀σ2 s2 aU,Rep C σ2 aF s2->VR C σ2 ov co->az C σ2 vs aU->∃yT,wh ov nl=some yT/\aM C A (PySem.call (.builtin yT) (co::aU)) σ2 s2 (λcv aa s'=>Rep C aa am s'/\VR C aa v cv)) :
  aM C A (holding [co] (rl co name pl)>>=λp=>ll pos p.1 p.2 (fJ pos (fg es env)) (iB pos (iC [] env))) σ s (λcv aa s'=>Rep C aa am s'/\VR C aa v cv):=by
 refine(aM.hold (Q:=λp aa s'=>p=(.builtin id,[co])/\aa=σ/\s'=s) λE=>Z0 hid e2 R V1 gm (iW σ (.refl _ _ _) rfl rfl rfl)).bind λp aa s' _ ag=>bP ag λq1 q2 q3=>?_
 subst q1 aa s';exact BX (first:=[co]) hK hA bH e3 F R λaU σ2 s2 x2 F2 R2 V2=>ah (k σ2 s2 aU R2 (V1.mono x2.le) V2) λyT h d=>aI (h.symm.trans hid)▸d
theorem Z6{o:ar}{name:ai}{apos pos:aC}{env:bd}{es:List ar}{cs:List Cd}(bH:eM C sc es cs)(hb:qz o=true)(ol:(apos.endLine==pos.line)=true)(hl:es.length<30) :
  ∃pl,eval (.Call (.Attribute o name apos) es [] pos) env=(eval o env>>=λov=>gv apos.atName>>=λ_=>holding [ov] (rl ov name pl)>>=λp=>ll pos p.1 p.2 (fJ pos (fg es env)) (iB pos (iC [] env))):=by
 refine⟨do return (<-Li o env).getD true,?_⟩
 show(Ad o name env (eval o env)>>=λov=>gv apos.atName>>=λ_=>va o name apos pos env ov (es.length+([]:List ri).length) (fJ pos (fg es env)) (iB pos (iC [] env)))=_
 refine ab (yR hb ..) ?_;unfold va;refine ab (B4 bH hl ..) ?_;unfold Lm;refine ab (ol ..) ?_
 rfl
theorem yU(l:List Nat):bw l l=true:=by
 induction l with
 | nil=>rfl
 | cons a l ih=>exact(cz _ _).mpr ⟨gw a,ih⟩
theorem HM{n:List Nat}{l:List (Tx×V)}{ax:List (ai×ac)}{v:V}(h:tU n l=some v)(hk:cM C σ l ax):∃c,ax.lookup ⟨n.toArray⟩=some c/\VR C σ v c:=by
 revert h
 refine hk.ind (P:=λl ax=>tU n l=some v->∃c,ax.lookup ⟨n.toArray⟩=some c/\VR C σ v c) (λh=>au h) ?_;intro x u l c kr a b ih h;refine ah (av h) λm e h=>?_
 have hx:aL C.θ x=⟨m.toArray⟩:=by unfold aL;exact ab (jt e ..) rfl
 refine ab (hx) ?_;refine ab (LJ) ?_;induction q:bw m n with
 | true=>
  have h:=h;rw[q]at h;rw[ja q,show((⟨n.toArray⟩:ai)==⟨n.toArray⟩)=true from beq_self_eq_true _];exact aW c rfl (aI h▸a)
 | false=>
  have h:=h;rw[q]at h;rw[show((⟨n.toArray⟩:ai)==⟨m.toArray⟩)=false from beq_eq_false_iff_ne.mpr λe=>by
   injection e with e
   have e:n=m:=by simpa using e
   rw[e,yU]at q;exact nN q]
  exact ih h
theorem HN{a:Nat}{p:Kd×Option Nat}(h:st.ob a=some p):st.get a=some (.ob p.1 p.2):=
 ah (av h) λo e h=>by
  induction o with
  | ob k d=>exact aI h▸e
  | _=>exact au h
theorem B5{d:Option Nat}{l:List (Tx×V)}(h:st.tQ d=some l):∃j,d=some j/\st.get j=some (.at_ l):=
 ah (av h) λj e h=>ah (av h) λo e2 h=>by
  induction o with
  | at_ m=>exact aW j e (aI h▸e2)
  | _=>exact au h
theorem Oz(R:Rep C σ st s){a:al}{id:Nat}{caps:List V}{d:Option Nat}{l:List (Tx×V)}{n:Nat}(hw:σ.ρ[n]?=some a)(hg:st.get n=some (.ob (.fn id caps) d))(hl:st.tQ d=some l) :
  ∃D ax,FnAt s.heap a D (ax.lookup ·)/\cM C σ l ax:=by
 refine ah (B5 hl) λj ej gj=>fj (R.get hw hg) λo g k r=>?_
 subst ej;exact fj r λD e1 e2 _z=>xA k λc y=>be y λfd lt e3 _z=>ah (R.get e2 gj) λax hn y=>⟨D,ax,⟨⟨o,fd,g,c,e1,e3⟩,hn.ns⟩,y.1⟩
theorem Z7{Nc:al}{mN:ai->Option ac}(H:dz C N mg mb)(hN:eY C)(hcl:ue C)(X:jR C Nc mN){n:Nat}{K:bb}(hK:fq C n K){fr:Fr}{env:bd}{cA:List al}{pos:aC}{pl:bo Bool}(hA:cC n A){name:ai}{nl:List Nat}{es:List ar}{cs:List Cd}(bH:eM C sc es cs)(gm:name=⟨nl.toArray⟩){ov v:V}{vs:List V}{st1 aF am:St}{u:Option V}(e2:yv C.T nl ov st1=some u)(e3:gl K fr cs st1=some (vs,aF))
  (h:GN C.T K u ov nl vs aF=some (v,am)) {aY:Sg} {s1:ak} (F1:bp C sc fr env cA aY s1) (R1:Rep C aY st1 s1) {co:ac} (V1:VR C aY ov co) :
  aM C A (holding [co] (rl co name pl)>>=λp=>ll pos p.1 p.2 (fJ pos (fg es env)) (iB pos (iC [] env))) aY s1 (λcv aa s'=>Rep C aa am s'/\VR C aa v cv):=by
 induction u with
 | some f=>
  induction ov using V.casesOn with
  | loc a=>
   refine ah (av e2) λo hg e2=>?_
   induction o with
   | ob k d=>
    induction k with
    | fn id caps=>
     refine xA (bK e2) λon e2=>ah (av e2) λl hl e2=>ah (av e2) λf' hf e2=>?_
     have e2:f'=f:=by injection e2 with e2;injection e2
     subst e2 gm;refine VR.mf V1 λw hw=>be (Oz R1 hw hg hl) λD ax FA hk=>ah (HM hf hk) λcf hm V=>?_
     refine xE ((hK.pos f' _ _ _ _ h).1.ref aY cf V) λb q=>?_
     subst q;refine(aM.hold (Q:=λp aa s'=>p=(.ref b,[])/\aa=aY/\s'.heap=s1.heap/\Rep C aY st1 s'/\bp C sc fr env cA aY s') λE=>Xi FA (X.yQ _ on) hm rfl (aW aY .toks ⟨rfl,rfl,rfl,R1.toks,F1.stepT ⟨.toks,pU _⟩⟩)).bind λp aa s' _ ag=>xV ag λq1 q2 _z R2 F2=>?_
     subst q1 aa;exact B3 X hK hA bH e3 F2 R2 V .nil h λ_z=>rfl
    | ins=>exact au e2
   | list l=>exact xA (bK e2) λ_z e=>nomatch e
   | dict l=>exact xA (bK e2) λ_z e=>nomatch e
   | at_ l=>exact au e2
  | _=>injection e2 with e2;exact au e2
 | none=>
 have h:=h;induction ov using V.casesOn with
 | str x=>
  refine xA (bK h) λhx h=>xA (i9 h) λg0 ag=>?_;subst ag
  exact xE (Z4 g0) λid hid=>yS hK hA bH gm e2 e3 F1 R1 V1 hid λσ2 s2 aU R2 V2 W2=>VR.fV V2 λt=>ZG H hcl g0 R2 W2 hx (t:=t)
 | fl l=>
  refine xA (i9 h) λg0 ag=>?_;subst ag
  exact xE (Z5 g0) λid hid=>yS hK hA bH gm e2 e3 F1 R1 V1 hid λσ2 s2 aU R2 V2 W2=>gY (V2.isList R2) λa items m q g hi=>q▸ZU hN hA g0 R2 W2 g hi
 | fd l=>
  refine xA (i9 h) λg0 ag=>?_;subst ag
  have hid:wh (.fd l) nl=some "dict.get":= by show(match bw nl jL with|true=>some "dict.get" | false=>none)=_;exact ab (Oy g0 ..) rfl
  exact yS hK hA bH gm e2 e3 F1 R1 V1 hid λσ2 s2 aU R2 V2 W2=>⟨_,hid,VR.yG V2 λ_ _ _ hm hO hk=>(Ou H hN g0 R2 W2 (R2.df _ hm).1 (R2.df _ hm).2.2.2 hO hk).2⟩
 | loc a=>
  refine ah (av h) λo hg h=>?_
  induction o with
  | list l=>
   have e0:bw nl jL=false:=by
    refine xE (Ox h) λid hid=>?_
    induction q:bw nl jL with
    | false=>rfl
    | true=>rw[ja q]at hid;exact au hid
   exact xE (Ox h) λid hid=>by
    have OA:wh (.loc a) nl=some id:=by show(match bw nl jL with|true=>some "dict.get" | false=>oj nl)=_;exact ab (e0 ..) hid
    exact yS hK hA bH gm e2 e3 F1 R1 V1 OA λσ2 s2 aU R2 V2 W2=>VR.mf V2 λw2 B6=>ah (ZX h R2 W2 B6 hg) λyT q d=>⟨yT,OA.trans (hid.symm.trans q),d⟩
  | dict l=>
   refine xA (i9 h) λg0 ag=>?_;subst ag
   have hid:wh (.loc a) nl=some "dict.get":= by show(match bw nl jL with|true=>some "dict.get" | false=>oj nl)=_;exact ab (Oy g0 ..) rfl
   exact yS hK hA bH gm e2 e3 F1 R1 V1 hid λσ2 s2 aU R2 V2 W2=>⟨_,hid,VR.mf V2 λw2 B6=>ah (R2.get B6 hg) λax y hk=>ah (hU.of y) λo g hO=>(Ou H hN g0 R2 W2 g (R2.new _ (fK B6)) hO hk).2⟩
  | _=>exact au h
 | ins l=>
  refine ah (av h) λg eg h=>lw (X.l9 nl g eg) λf o fd y ag=>?_;refine iV ag λm1 m2 m3 m4 m5 cU=>?_;clear ag;refine xA cU λm6 m7=>?_;clear cU
  have Z8:=V1;cases V1 with
  | @ins _ ad dd ob od ax w1 w2 w3 w4 w5 w6 w7 w8 w9=>
   refine ry ((X.now R1).obj) λnm qn bs sn sub col dx k0 k1 k2 k3 k5 hC=>(aM.hold (Q:=λp aa s'=>p=(.ref f,[.ref ad])/\aa=aY/\s'=s1) λE=>?_).bind λp aa s' _ ag=>bP ag λq1 q2 q3=>?_
   ·subst gm;have I:s1.heap.Inst ad C.cls (ax.lookup ·):=⟨ob,(R1.df _ w1).1,w2,w4,.inr (cp dd w3 w6 (w7.ns (R1.df _ w5).1))⟩;exact method_of hC (X.now R1).ns X.ga X.gh m1 (R1.base _ _ m3 m4) m5 m7 I (w8 nl g eg) (iW aY (.refl _ _ _) rfl rfl rfl)
   ·subst q1 aa s';refine B3 X hK hA bH e3 F1 R1 (f:=.bh g) (pre:=[.ins _]) (first:=[.ref ad]) ?_ (.cons Z8 .nil) h ?_
    ·refine bX (m2 ..) ?_;exact .bh g
    ·intro q
     injection q with q
     subst q;exact(ClsAt.Z1 X.at_ m3 m6).elim
 | _=>exact au h
theorem Z9{Nc:al}{mN:ai->Option ac}(H:dz C N mg mb)(hN:eY C)(hcl:ue C)(X:jR C Nc mN){name:ai}{nl:List Nat}{o:ar}{apos pos:aC}{c:Cd}{es:List ar}{cs:List Cd}(he:bn C sc o c)(bH:eM C sc es cs)
  (gm:name=⟨nl.toArray⟩) (hb:qz o=true) (ol:(apos.endLine==pos.line)=true) (hl:es.length<30):bn C sc (.Call (.Attribute o name apos) es [] pos) (bG C.T c nl cs):=by
 intro n K hK fr st v am h A env cA σ s hA F R;exact be (bu h) λov st1 e1 h=>ah (av h) λu e2 h=>be (bu h) λvs aF e3 h=>xE (Z6 (name:=name) (apos:=apos) (pos:=pos) (env:=env) bH hb ol hl) λpl mq=>ab (mq ..) ((he n K hK fr st ov st1 e1 A env cA σ s hA F R).bind λco aY s1 x1 ag=>xA ag λR1 V1=>aM.stand (Z7 H hN hcl X hK hA bH gm e2 e3 h (F.stepT x1) R1 V1))
end
section
variable {C:Cx}{N:cP}{mg mb:ai->Option ac}{sc:Sc}{A:bC}{σ:Sg}{st:St}{s:ak}
theorem Z'{f:ac}{p q:ai}{k1 k2:Nat}{p1 p2 pos:aC}{env:bd}(R:Rep C σ st s) :
  aM C A (E0 f true (fJ pos (fg [.Constant (.str p) k1 p1,.Constant (.str q) k2 p2] env)) []) σ s (λa aa s'=>∃u v,a=⟨[.str p u,.str q v],[]⟩/\u=s.toks/\v=s.toks+1/\Rep C aa st s'/\aa=σ):=by
 intro E;refine aqB ?_
 show aR _ A (spliced ((false,E7 p)::(false,E7 q)::[])) _ E s
 rw[spliced];refine aA (Ao ?_);simp only[rp,if_false];refine aA (bj ?_);refine aA (fY ?_);rw[spliced];refine aA (Ao ?_);simp only[rp,if_false];refine aA (bj ?_);refine aA (fY ?_);rw[spliced];refine bj (bj (bj ?_));exact⟨σ,.toks,s.toks,s.toks+1,rfl,rfl,rfl,R.toks,rfl⟩
theorem aaa{x:Tx}{n:Nat}(h:sign (.str x)=some n):x=[.c n]:=by
 refine ah (av h) λl e h=>?_
 induction l with
 | nil=>exact au h
 | cons k l=>
  refine xA (bK h) λq h=>ab (Hl e ..) ?_;refine ab (lR.mp q ..) ?_;refine ab (aI h ..) ?_;rfl
theorem aab{x p q:Tx}{v:V}(h:M6 x p q=some v):∃l m r,dw x=some l/\p=[.c m]/\dw q=some r/\1<r.length/\r.length<100/\x.length<4000/\mS (ao (f8 m r l))=some v:=by
 refine ah (av h) λl e1 h=>ah (av h) λm e2 h=>ah (av h) λr e3 h=>xA (bK h) λk h=>xA ((cz _ _).mp k) λk k3=>xA ((cz _ _).mp k) λk1 k2=>?_
 exact⟨l,m,r,e1,aaa e2,e3,bF k1,bF k2,v9 k3,h⟩
theorem aac(l:List Nat):(ao l).length=l.length:=by
 induction l with
 | nil=>rfl
 | cons n l ih=>exact congrArg (·+1) ih
theorem aad{x:Tx}{l:List Nat}(h:dw x=some l):l.length=x.length:=by refine ab (Hl h ..) ?_;exact ab (aac ..) rfl
theorem aae{o:ar}{c:Cd}{p q:ai}{xp xq:Tx}{k1 k2:Nat}{p1 p2 apos pos:aC}(he:bn C sc o c)(hp:strOf xp=some p)(hq:strOf xq=some q)
  (hb:qz o=true) (ol:(apos.endLine==pos.line)=true) :
  bn C sc (.Call (.Attribute o "replace" apos) [.Constant (.str p) k1 p1,.Constant (.str q) k2 p2] [] pos) (gx c xp xq):=by
 intro n K hK fr st v am h A env cA σ s hA F R;refine be (bu h) λov st1 e1 h=>xA (i9 h) λe2 ag=>?_;subst ag
 induction ov using V.casesOn with
 | str x=>
  obtain⟨lx,m,l,hx,cU,hw,hl,m9,HK,hv⟩:=aab e2;subst cU;refine xA (yJ hv) λag _z=>?_;subst ag
  have bH:eM C sc [.Constant (.str p) k1 p1,.Constant (.str q) k2 p2] [aX [.c m],aX xq]:=.cons (Hm hp) rfl (.cons (Hm hq) rfl .nil);have mq:∃pl,eval (.Call (.Attribute o "replace" apos) [.Constant (.str p) k1 p1,.Constant (.str q) k2 p2] [] pos) env=(eval o env>>=λov=>gv apos.atName>>=λ_=>holding [ov] (rl ov "replace" pl)>>=λz=>ll pos z.1 z.2 (fJ pos (fg [.Constant (.str p) k1 p1,.Constant (.str q) k2 p2] env)) (iB pos (iC [] env))):=by
   refine⟨do return (<-Li o env).getD true,?_⟩
   show(Ad o "replace" env (eval o env)>>=λov=>gv apos.atName>>=λ_=>va o "replace" apos pos env ov (2+([]:List ri).length) (fJ pos (fg [.Constant (.str p) k1 p1,.Constant (.str q) k2 p2] env)) (iB pos (iC [] env)))=_
   refine ab (yR hb ..) ?_;unfold va;refine ab (show E6 (2+([]:List ri).length) (fJ pos (fg [.Constant (.str p) k1 p1,.Constant (.str q) k2 p2] env)) (iB pos (iC [] env))=true from B4 bH (by decide:2<30)) ?_;unfold Lm;refine ab (ol ..) ?_
   rfl
  revert mq;refine yE λpl mq=>ab (mq ..) ((he n K hK fr st _ _ e1 A env cA σ s hA F R).bind λco aY s1 x1 ag=>xA ag λR1 V1=>aM.stand ?_)
  have F1:=F.stepT x1;exact VR.fV V1 λt=>by
   refine(aM.hold (Q:=λz aa s'=>z=(.builtin "str.replace",[.str (aL C.θ x) t])/\aa=aY/\s'=s1) λE=>GM.replace (iW aY (.refl _ _ _) rfl rfl rfl)).bind λz aa s' _ ag=>bP ag λq1 q2 q3=>?_
   subst q1 aa s';intro E;refine UR (qw bH) ((Z' (pos:=pos) (env:=env) R1).go λa σ2 s2 x2 cU=>lZ cU λu w q e5 e6 mX=>xA mX λR2 e7=>?_);subst q σ2;have ht:=F1.tok;have hm:(aL C.θ x).cps.toList=lx:=by refine ab (oh ..) ?_;exact ab (jt hx ..) rfl
   have OB:p=⟨#[m]⟩:=by refine bX (HB (θ:=C.θ) hp ..) ?_;rfl
   have hqq:=HB (θ:=C.θ) hq;have OC:q.cps.toList=l:=by
    refine bX (hqq ..) ?_;refine ab (oh ..) ?_;exact ab (jt hw ..) rfl
   have OE:q.length=l.length:=by
    show q.cps.size=_
    refine bX (rn ..) ?_;exact ab (OC ..) rfl
   refine SC.replace (u:=u) (v:=w) (by refine ab (e5 ..) ?_;exact arw.mp ht) (by refine ab (e6 ..) ?_;exact Az _) (by refine ab (e5 ..) ?_;refine ab (e6 ..) ?_;exact rq (o7 _)) ?_ ?_ λt' k=>(cp _ (x2.toStep.trans .toks) R2.toks ?_)
   ·refine ab (OB ..) (beq_eq_false_iff_ne.mpr λh=>?_)
    have:=congrArg xS h
    rw[OE]at this;simp[xS]at this
    lia
   ·have hd:=qq C.θ x;have eX:(aL C.θ x).length=lx.length:=by refine ab (hd ..) ?_;exact ab (jt hx ..) rfl
    have h2:=aad hx;rw[eX,OE,h2]
    have:(x.length+1)*l.length<=4000*100:=Ax HK (fh m9)
    lia
   ·have e9:AB (aL C.θ x) p q=aL C.θ (ao (f8 m l lx)):=BZ (by
     rw[OB,Zy,OC,hm,oh,pw])
    rw[e9];exact .str _ t'
 | _=>exact au e2
end
section
variable {C:Cx}{N:cP}{mg mb:ai->Option ac}{sc:Sc}{A:bC}{σ:Sg}{st:St}{s:ak}
theorem aaf{cQ:ar}{HO:ai}{pos:aC}(hb:qz cQ=true)(env:bd) :
  eval (.Attribute cQ HO pos) env=(eval cQ env>>=λo=>gv pos.atName>>=λ_z=>holding [o] (Lh o HO true)>>=λr=>tl cQ o r>>=λ_z=>pure r):=by
 show(Ad cQ HO env (eval cQ env)>>=_)=_
 exact ab (yR hb ..) rfl
theorem VR.handed(H:dz C N mg mb){v:V}{c:ac}(hv:VR C σ v c):xy c=pure c:=
 VR.rec (motive_1:=λ_ c _=>xy c=pure c) (motive_2:=λ_ _ _=>True) (motive_3:=λ_ _ _=>True) rfl (λ_=>rfl) (λ_ _=>rfl) (λ_ _=>rfl) (λ_ _ _=>rfl) (λ_ _ _=>rfl) (λ_ _ _ _=>rfl) (λ_=>rfl) H.hand (λ_ _ _ _ _ _ _ _ _ _=>rfl) (λ_ _=>rfl) trivial (λ_ _ _ _=>trivial) trivial (λ_ _ _ _=>trivial) hv
theorem aag{K:Frag}(h:K.In C.h₀)(ht:∀a o,K.lookup a=some o->a∉C.tabs)(R:Rep C σ st s):K.In s.heap:=λa o m=>R.base a o (h a o m) (ht a o m)
theorem aah(R:Rep C σ st s){a:al}{d:Option Nat}{l:List (Tx×V)}{n:Nat}(hw:σ.ρ[n]?=some a)(hg:st.get n=some (.ob .ins d))(hl:st.tQ d=some l) :
  ∃ax,s.heap.Inst a C.cls (ax.lookup ·)/\cM C σ l ax:=by
 refine ah (B5 hl) λj ej gj=>fj (R.get hw hg) λo g k r=>?_
 subst ej;exact fj r λD e1 e2 ne=>ah (R.get e2 gj) λax hn y=>⟨ax,⟨o,g,k.1,k.2,.inr ⟨D,e1,ne,hn⟩⟩,y.1⟩
theorem aai(H:dz C N mg mb){Nc:al}{mN:ai->Option ac}(X:jR C Nc mN){n:List Nat}{name:ai}{v r:V}{c:ac}(hn:name=⟨n.toArray⟩)(h:M8 C.T v n st=some r)(R:Rep C σ st s)(hv:VR C σ v c) :
  aM C A (Lh c name true) σ s (λcv aa s'=>Rep C aa st s'/\VR C aa r cv):=by
 subst hn;intro E;refine lz λmm eC=>?_
 have inst:∀{ad:al} {ax:List (ai×ac)} {l:List (Tx×V)},C.T.mR n=true->s.heap.Inst ad C.cls (ax.lookup ·)->cM C σ l ax->tU n l=some r->aR (model C.prog C.w) A (Lh (.ref ad) ⟨n.toArray⟩ true) mm E s:=λe I hk hl=>by
  refine ry ((X.now R).obj) λnm qn bs sn sub col dx k0 k1 k2 k3 k5 hC=>ah (HM hl hk) λcv hm V=>?_
  exact load_attr hC (X.now R).ns X.ga (X.atC _ e) (X.HL _ e) I hm (V.handed H) (eC _ _ (cp σ .toks R.toks V))
 induction v using V.casesOn with
 | ins l=>
  refine xA (bK h) λe h=>?_
  cases hv with
  | @ins _ ad dd ob od ax w1 w2 w3 w4 w5 w6 w7 w8 w9=>exact inst e ⟨ob,(R.df _ w1).1,w2,w4,.inr (cp dd w3 w6 (w7.ns (R.df _ w5).1))⟩ w9 h
 | loc l=>
  refine xA (bK h) λe h=>ah (av h) λp hg h=>ah (av h) λat_ hl yV=>?_
  have hg:=HN hg;obtain⟨k,d⟩:=p;refine VR.mf hv λw hw=>?_
  induction k with
  | ins=>exact ah (aah R hw hg hl) λax I hk=>inst e I hk yV
  | fn id caps=>exact be (Oz R hw hg hl) λD ax FA hk=>ah (HM yV hk) λcv hm V=>Nj FA (X.yQ _ e) hm (V.handed H) (eC _ _ (cp σ .toks R.toks V))
 | bh g=>
  refine xA (bK h) λe h=>ah (av h) λx hx h=>VR.By hv ?_
  replace h:=aI h;replace h:=nF h;subst h
  rw[dj e,X.B2];refine fZ (X.vD _ _ hx) λKf tS mc y=>iU y λh1 h2 h3 h4=>?_
  exact cls_value (aag h1 h2 R) h3 h4 rfl (eC _ _ (cp σ .toks R.toks (.str x tS)))
 | _=>exact au h
theorem aaj(H:dz C N mg mb){Nc:al}{mN:ai->Option ac}(X:jR C Nc mN){n:List Nat}{name:ai}{e:ar}{c:Cd}{pos:aC}(he:bn C sc e c)(hn:name=⟨n.toArray⟩)(hb:qz e=true) :
  bn C sc (.Attribute e name pos) (fD C.T c n):=by
 intro k K hK fr st v am h A env cA σ s hA F R;refine be (bu h) λov st1 e1 h=>xA (i9 h) λe2 ag=>?_;subst ag
 refine ab (aaf hb ..) ?_;refine(he k K hK fr st _ _ e1 A env cA σ s hA F R).bind λco aY s1 x1 ag=>xA ag λR1 V1=>aM.stand ?_
 exact(aM.hold (aai H X hn e2 R1 V1)).bind λcv σ2 s2 x2 ag=>xA ag λR2 V2=>λE=>aA (Lv (bj (cp σ2 (.refl _ _ _) R2 V2)))
end
def cT(C:Cx)(A:bC)(ow:List al){α:Type}(t:bo α)(σ:Sg)(s:ak)(Q:α->Sg->ak->Prop):Prop:=
 ∀E,aR (model C.prog C.w) A t (λa s'=>∃aa,Step ow σ aa s s'/\Q a aa s') E s
noncomputable def cJ(C:Cx)(sc:Sc)(env:bd)(cs:List al):List al:=env.locals::cs.take sc.nw++C.tabs
theorem qA{C:Cx}{sc:Sc}{env:bd}{cs:List al}{I:al}(h:I∉env.locals::cs)(t:I∉C.tabs):I∉cJ C sc env cs:=λq=>by
 rcases dc.mp q with q|q
 ·rcases cW.mp q with q|q
  ·exact h (q▸bT)
  ·exact h (bL _ (xM q))
 ·exact t q
section
variable {C:Cx}{A:bC}{α β:Type}{σ:Sg}{s:ak}{ow:List al}
theorem cT.raw{m:bo α}{Q:α->Sg->ak->Prop}(h:cT C A ow m σ s Q)(E:ac->ak->Prop):aR (model C.prog C.w) A m (λa s'=>∃aa,js ow σ aa s s'/\Q a aa s') E s:=
 c8 (xG (h E)) (λa s' ag=>tG ag λt aa x q=>(aW aa ⟨x,t⟩ q)) λ_z _z e=>e.2
theorem cT.go{m:bo α}{Q:α->Sg->ak->Prop}{P:α->ak->Prop}{E:ac->ak->Prop}(h:cT C A ow m σ s Q)(k:∀a aa s',js ow σ aa s s'->Q a aa s'->P a s'):aR (model C.prog C.w) A m P E s:=
 c8 (h.raw E) (λa s' ag=>ah ag λaa x q=>k a aa s' x q) λ_z _z e=>e
theorem cT.bind{m:bo α}{f:α->bo β}{Q:α->Sg->ak->Prop}{Q':β->Sg->ak->Prop}(h:cT C A ow m σ s Q)
  (k:∀a aa s',js ow σ aa s s'->Q a aa s'->cT C A ow (f a) aa s' Q'):cT C A ow (m>>=f) σ s Q':=λE=>
 aA (h.go (λa aa s' x q=>c8 (k a aa s' x q E) (λb tJ ag=>ah ag λmW y r=>(aW mW (x.toStep.trans y) r)) λ_z _z e=>e))
theorem aM.then{m:bo α}{f:α->bo β}{Q:α->Sg->ak->Prop}{Q':β->Sg->ak->Prop}(h:aM C A m σ s Q)(hw:∀a∈C.tabs,a∈ow)
  (k:∀a aa s',js C.tabs σ aa s s'->Q a aa s'->cT C A ow (f a) aa s' Q'):cT C A ow (m>>=f) σ s Q':=λE=>
 aA (h.go (λa aa s' x q=>c8 (k a aa s' x q E) (λb tJ ag=>ah ag λmW y r=>(aW mW ((x.toStep.fU hw).trans y) r)) λ_z _z e=>e))
theorem cT.pure{a:α}{Q:α->Sg->ak->Prop}(h:Q a σ s):cT C A ow (Pure.pure a) σ s Q:=λ_z=>bj (aW σ (.refl _ _ _) h)
theorem cT.stand{pos:aC}{t:bo α}{Q:α->Sg->ak->Prop}(h:cT C A ow t σ s Q):cT C A ow (gv pos>>=λ_z=>t) σ s Q:=λE=>aA (kN (h E))
theorem cT.hold{vs:List ac}{t:bo α}{Q:α->Sg->ak->Prop}(h:cT C A ow t σ s Q):cT C A ow (holding vs t) σ s Q:=λE=>fY (h E)
theorem iu(C:Cx)(sc:Sc)(env:bd)(cs:List al):∀a∈C.tabs,a∈cJ C sc env cs:=λ_z h=>mF _ h
theorem HP{v:V}{l:List (Option V)}:∀{i:Nat},i<l.length->∃m,ku l i v=some m:=by
 induction l with
 | nil=>exactλh=>absurd h (xQ _)
 | cons x l ih=>
  intro i h;induction i with
  | zero=>exact⟨_,rfl⟩
  | succ i=>exact xE (ih (xO h)) λm e=>⟨x::m,vY e rfl⟩
theorem si{l:List (Option V)}:∀{l':List (Option V)} {i:Nat} {v:V},ku l i v=some l'->i<l.length/\l'.length=l.length/\∀j,l'[j]?=if j=i then some (some v)else l[j]?:=by
 induction l with
 | nil=>exactλh=>au h
 | cons x l ih=>
  intro l' i v h;induction i with
  | zero=>refine bf h ⟨xR _,rfl,λj=>?_⟩;induction j<;>rfl
  | succ i=>
   refine ah (av h) λr e h=>bf h (bP (ih e) λh1 h2 h3=>⟨Ay h1,congrArg (·+1) h2,λj=>?_⟩)
   induction j with
   | zero=>rfl
   | succ j=>simp[h3]
theorem Step.one{a:al}{h':cD}{k:Tok}(hs:Heap.SameBut a s.heap h')(ha:a∈ow)(hi:(h'.get? a).isSome=true):Step ow σ σ s {s with heap:=h',toks:=k}:=
 ⟨(aW ([]) (by simp) (λ_z q=>(nomatch q))),(aW ([]) (by simp) (λ_z q=>(nomatch q))),λb o e _z hb=>hs.extBut b o (λq=>hb (q▸ha)) e,λb e=>by
  by_cases q:b=a
  ·subst q
   have:h'.get? b=none:=e
   rw[this]at hi;exact bV hi
  ·exact(hs.2 b q).symm.trans e,(gK _ _ rfl)⟩
theorem Rep.one{st:St}(R:Rep C σ st s){a:al}{h':cD}{k:Tok}(hs:Heap.SameBut a s.heap h')(h1:a∉σ.ρ)(h2:∀x∈σ.φ,x.1≠a)(h3:a∉C.tabs)(h4:C.h₀.get? a=none):Rep C σ st {s with heap:=h',toks:=k}:=
 R.other (S:=[a]) (λb o e hb=>hs.extBut b o (λq=>hb (by simp[q])) e) (by simpa using h1) (by simpa using h3) (by simpa using h4) (by simpa using h2)
theorem wi{α:Type}{l:List α}(hn:l.Nodup){i j:Nat}{a b:α}(hi:l[i]?=some a)(hj:l[j]?=some b)(h:i≠j):a≠b:=by
 rintro rfl
 refine xE (gW.mp hi) λh1 e1=>?_
 refine xE (gW.mp hj) λh2 e2=>?_
 exact h ((List.getElem_inj hn).mp (e1.trans e2.symm))
variable {sc:Sc}{fr:Fr}{env:bd}{cs:List al}{st:St}
noncomputable def sj(C:Cx)(sc:Sc)(n:ai):Tg->Prop
 | .loc i=>sc.ln[i]?=some n
 | .bi i=>(sc.cn[i]?=some n/\i<sc.nw)/\sc.fin=false
 | .fin i=>(sc.cn[i]?=some n/\i<sc.nw)/\sc.fin=true
 | .tup _=>False
theorem OF(hS:sc.Ok){n:ai}{i:Nat}(ht:sc.cn[i]?=some n)(hw:i<sc.nw){v:V}{c:ac}{L:List (Option V)}(e:ku fr.C i v=some L)(F:bp C sc fr env cs σ s)(R:Rep C σ st s)(hv:VR C σ v c)
  (vP:∀a u,cs[i]?=some a->fr.C[i]?=some u->∀x∈σ.φ,x.1≠a) :
  cT C A (cJ C sc env cs) (UB env n c) σ s (λ_ aa s'=>Rep C aa st s'/\bp C sc ⟨fr.L,L⟩ env cs aa s'):=by
 intro E;refine bP (si e) λh1 h2 h3=>xA (hS.cn n (yI ht)) λhl hd=>fZ (F.bi i n ht) λa u c0 y=>iV y λe1 e2 e3 e4 e5 e6=>?_
 have kA:=vP a u e1 e3;have ha:=fK e1;have on:a∈cJ C sc env cs:=by
  have:a∈cs.take sc.nw:=fK (i:=i) (by refine ab (List.getElem?_take_of_lt hw) ?_;exact e1)
  simp[cJ,this]
 have fin:∀(h':cD),h'.IsCell a (some c)->Heap.SameBut a s.heap h'->∃aa,Step (cJ C sc env cs) σ aa s {s with heap:=h'}/\Rep C aa st {s with heap:=h'}/\bp C sc ⟨fr.L,L⟩ env cs aa {s with heap:=h'}:=by
  intro h' hc hs;refine bP (F.out a (bL _ ha)) λo1 o3 o4=>ah (id hc) λob eb eb'=>?_
  have yV:env.locals≠a:=λq=>(lT.mp F.nd).1 (q▸ha)
  have x0:Step (cJ C sc env cs) σ σ s {s with heap:=h'}:=.one (k:=s.toks) hs on (by refine ab (eb ..) ?_;rfl);have R0:=R.one (k:=s.toks) hs o1 kA o3 o4;have key:∀aa,aa.ρ=σ.ρ->Step (cJ C sc env cs) σ aa s {s with heap:=h'}->Rep C aa st {s with heap:=h'}->j6 sc.fin aa (some v) a->(∀x∈aa.φ,x∈σ.φ\/x.1=a)->∃aa,Step (cJ C sc env cs) σ aa s {s with heap:=h'}/\Rep C aa st {s with heap:=h'}/\bp C sc ⟨fr.L,L⟩ env cs aa {s with heap:=h'}:=by
   intro aa eρ x R' uh hx;refine(cp aa x R' ⟨F.scope,F.globals,F.builtins,?_,λj z hj=>?_,λb hb=>by refine ab (eρ) ?_;exact F.out b hb,λz hz=>?_,λb hb=>?_,F.nd,F.jQ,by simpa[h2]using F.qo,F.qp,F.tok,F.cd⟩)
   ·refine ah F.ns λm ag q=>?_;exact dN ag λom es ep em rr=>(aW m ⟨om,es,ep,(hs.2 _ yV).trans em,rr⟩ λk z hz=>let⟨v,a,b⟩:=q k z hz;⟨v,a,b.mono x.le⟩)
   ·by_cases qm:j=i
    ·subst j;rw[ht]at hj;exact bf hj ⟨a,some v,some c,e1,e2,by refine ab (h3 ..) ?_;exact ab (if_pos rfl ..) rfl,hc,.some (hv.mono x.le),uh⟩
    ·refine fZ (F.bi j z hj) λb u' c' y=>iV y λf1 f2 f3 ag f5 f6=>ah ag λoo f4 f4'=>?_
     have B7:=wi (lT.mp F.nd).2 f1 e1 qm;refine⟨b,u',c',f1,f2,by refine ab (h3 ..) ?_;refine ab (if_neg qm ..) ?_;exact f3,⟨oo,(hs.2 _ B7).trans f4,f4'⟩,f5.mono x.le,?_⟩;have ne (k:∀x∈σ.φ,x.1≠b):∀x∈aa.φ,x.1≠b:=λz hz=>(hx z hz).elim (k z) λq q'=>B7 (q'.symm.trans q)
     induction q:sc.fin with
     | false=>rw[q]at f6;exact ne f6
     | true=>
      rw[q]at f6;induction u' with
      | none=>exact ne f6
      | some w=>exact xE f6 λoc h=>⟨oc,x.le.φ _ h⟩
   ·exact(hx z hz).elim (F.outF z) λq q'=>yV (q'.symm.trans q)
   ·by_cases B7:b=a
    ·subst b;refine ab (eb ..) ?_;rfl
    ·show(h'.get? _).isSome=true
     refine ab (hs.2 _ B7 ..) ?_;exact F.has b hb
  induction q:sc.fin with
  | false=>exact key σ rfl x0 R0 (by unfold j6;exact ab (q) kA) λ_z h=>.inl h
  | true=>
   refine key ⟨σ.ρ,σ.φ++[(a,ob)]⟩ rfl ?_ (R0.freeze λz hz=>?_) ?_ λz hz=>?_
   ·exact⟨x0.ρ,⟨[(a,ob)],rfl,λz hz=>.inr (by exact ab (cO.mp hz) on)⟩,x0.keep,x0.dom,x0.same⟩
   ·refine ab (cO.mp hz) ?_;exact⟨eb,o1,o3,o4⟩
   ·unfold j6;refine ab (q) ?_;exact⟨ob,mF _ (cO.mpr rfl)⟩
   ·exact(dc.mp hz).imp id λh=>by rw[cO.mp h]
 rcases hl with hl|hl
 ·exact wpAny_storeName_cell (F.scope▸hS.kind) (by show env.scope.names.lookup n=_;refine ab (F.scope ..) ?_;exact hl) e2 e4 fin
 ·exact PySem.W.storeName_free (F.scope▸hS.kind) (by show env.scope.names.lookup n=_;refine ab (F.scope ..) ?_;exact hl) e2 e4 fin
theorem ui(hS:sc.Ok){n:ai}{t:Tg}(ht:sj C sc n t){v:V}{c:ac}{aw:Fr}(h:iY v t fr=some aw)(F:bp C sc fr env cs σ s)(R:Rep C σ st s)(hv:VR C σ v c) :
  cT C A (cJ C sc env cs) (UB env n c) σ s (λ_ aa s'=>Rep C aa st s'/\bp C sc aw env cs aa s'):=by
 cases t with
 | tup _=>exact ht.elim
 | loc i=>
  intro E;refine ah (av h) λL e h=>bf h (bP (si e) λh1 h2 h3=>?_)
  have hl:=hS.ln n (yI ht);refine ah F.ns λm hm q=>wpAny_storeName_local (by show env.scope.names.lookup n=_;refine ab (F.scope ..) ?_;exact hl.1) hm (λh' lE hs=>?_) (by refine ab (F.scope ..) ?_;refine ab (hS.kind ..) ?_;rfl)
  refine bP (F.out env.locals bT) λo1 o3 o4=>dN (id lE) λob es ep eb _=>?_
  have keep:∀a∈cs,h'.get? a=s.heap.get? a:=λa ha=>hs.2 a (λq=>(lT.mp F.nd).1 (q▸ha))
  refine(cp σ (.one hs (by simp[cJ]) (by refine ab (eb ..) ?_;rfl)) (R.one hs o1 F.outF o3 o4) ⟨F.scope,F.globals,F.builtins,(aW _ lE (λj x hj=>?_)),λj x hj=>?_,F.out,F.outF,λa ha=>?_,F.nd,by simpa[h2]using F.jQ,F.qo,F.qp,km F.tok (pU _),F.cd⟩)
  ·refine ah (q j x hj) λu e1 e2=>?_
   by_cases qm:j=i
   ·subst j;rw[ht]at hj;refine bf hj ((aW (some v) (by refine ab (h3 ..) ?_;exact ab (if_pos rfl ..) rfl) ?_));simp only[if_true];exact .some hv
   ·refine(aW u (by refine ab (h3 ..) ?_;refine ab (if_neg qm ..) ?_;exact e1) ?_)
    have:x≠n:=wi hS.XV hj ht qm
    simp only[if_neg this];exact e2
  ·exact fZ (F.bi j x hj) λa u cc y=>iV y λe1 e2 e3 ag e5 e6=>ah ag λoo e4 e4'=>⟨a,u,cc,e1,e2,e3,⟨oo,(keep a (fK e1)).trans e4,e4'⟩,e5,e6⟩
  ·rcases cW.mp ha with rfl|ha
   ·show(h'.get? _).isSome=true
    refine ab (eb ..) ?_;rfl
   ·show(h'.get? _).isSome=true
    refine ab (keep a ha ..) ?_;exact F.has a (bL _ ha)
 | bi i=>
  refine ah (av h) λL e h=>bf h (OF hS ht.1.1 ht.1.2 e F R hv λa u e1 e3=>?_)
  refine fZ (F.bi i n ht.1.1) λa' u' c0 y=>iV y λf1 f2 f3 f4 f5 f6=>?_
  have q:=aI (f1.symm.trans e1);subst q;unfold j6 at f6;rw[ht.2]at f6;exact f6
 | fin i=>
  refine ah (av h) λo eo h=>?_
  induction o with
  | some=>exact au h
  | none=>
   refine ah (av h) λL e h=>bf h (OF hS ht.1.1 ht.1.2 e F R hv λa u e1 e3=>?_)
   refine fZ (F.bi i n ht.1.1) λa' u' c0 y=>iV y λf1 f2 f3 f4 f5 f6=>?_
   have q:=aI (f1.symm.trans e1);have q2:=aI (f3.symm.trans eo);subst q q2;unfold j6 at f6;rw[ht.2]at f6;exact f6
end
section
variable {C:Cx}{A:bC}{σ:Sg}{s:ak}{ow:List al}{sc:Sc}{fr:Fr}{env:bd}{cs:List al}{st:St}
theorem Step.ext{h':cD}{k:Tok}(hk:∀b o,s.heap.get? b=some o->h'.get? b=some o):Step ow σ σ s {s with heap:=h',toks:=k}:=
 ⟨(aW ([]) (by simp) (λ_z q=>(nomatch q))),(aW ([]) (by simp) (λ_z q=>(nomatch q))),λb o e _z _z=>hk b o e,t7 hk,(gK _ _ rfl)⟩
theorem bp.ext(F:bp C sc fr env cs σ s){h':cD}(hk:∀b o,s.heap.get? b=some o->h'.get? b=some o):bp C sc fr env cs σ {s with heap:=h'}:=
 F.stepT (s':={s with heap:=h'}) ⟨Step.ext (k:=s.toks) hk,dr _⟩
theorem wj{h h':cD}(he:Heap.ExtBut h.objs.size h h'):∀b o,h.get? b=some o->h'.get? b=some o:=λb o e=>he b o (rq (kj e)) e
theorem HQ(hh:A.handled=none){v:V}{c:ac}{vs:List V}(h:qb v st=some vs)(R:Rep C σ st s)(F:bp C sc fr env cs σ s)(hv:VR C σ v c) :
  cT C A ow (unpackItems c vs.length none) σ s (λitems aa s'=>aa=σ/\Rep C σ st s'/\bp C sc fr env cs σ s'/\az C σ vs items):=by
 intro E;have ls:∀{v:V} {c:ac},VR C σ v c->gN v st=some vs->aR (model C.prog C.w) A (unpackItems c vs.length none) (λitems s'=>∃aa,Step ow σ aa s s'/\aa=σ/\Rep C σ st s'/\bp C sc fr env cs σ s'/\az C σ vs items) E s:=λhv h=>by
  exact kX R h hv λa items m g hx=>bX (hx.items ..) (kun_itemsOf hh g.isList λh' he=>(AI σ (Step.ext (k:=s.toks) (wj he)) rfl (R.grow (wj he)) (F.ext (wj he)) hx))
 induction v using V.casesOn with
 | tup l=>
  replace h:=aI h;subst l
  exact t8 R hv λa items m g hx=>bX (hx.items ..) (PySem.wpAny_unpackItems_tuple hh ⟨_,g,rfl,m,rfl⟩ λh' he=>(AI σ (Step.ext (k:=s.toks) (wj he)) rfl (R.grow (wj he)) (F.ext (wj he)) hx))
 | _=>exact ls hv h
inductive kY(C:Cx)(sc:Sc):List ar->List Tg->Prop
 | nil:kY C sc [] []
 | cons {n:ai} {pos:aC} {t:Tg} {es:List ar} {ts:List Tg}:sj C sc n t->kY C sc es ts->kY C sc (.Name n pos::es) (t::ts)
inductive mr(C:Cx)(sc:Sc):ar->Tg->Prop
 | one {n:ai} {pos:aC} {t:Tg}:sj C sc n t->mr C sc (.Name n pos) t
 | tup {es:List ar} {ts:List Tg} {k:Nat} {pos:aC}:kY C sc es ts->mr C sc (.Tuple es k pos) (.tup ts)
theorem kY.len{es:List ar}{ts:List Tg}(h:kY C sc es ts)(env:bd):(nE es env).length=ts.length/\(nE es env).findIdx? (·.1)=none:=by
 induction h with
 | nil=>exact⟨rfl,rfl⟩
 | @cons n pos t es ts _ _ ih=>
  refine⟨by show(nE es env).length+1=_;refine ab (ih.1 ..) ?_;rfl,?_⟩;refine ab (U6) ?_;simp[ih.2]
theorem yW{vs:List V}:∀{ts:List Tg} {fr aw:Fr},iH vs ts fr=some aw->vs.length=ts.length:=by
 induction vs with
 | nil=>intro ts fr aw h;exact xA (bK h) λe _=>(congrArg Fm (lR.mp e)).symm
 | cons v vs ih=>
  intro ts fr aw h;induction ts with
  | nil=>exact au h
  | cons t ts=>exact ah (av h) λbc _ h=>congrArg (·+1) (ih h)
theorem aak(hS:sc.Ok){es:List ar}{ts:List Tg}(hn:kY C sc es ts):∀{vs:List V} {items:List ac} {fr aw:Fr} {σ:Sg} {s:ak},iH vs ts fr=some aw->bp C sc fr env cs σ s->Rep C σ st s->az C σ vs items ->
  cT C A (cJ C sc env cs) (Ur ((nE es env).map (·.2)) items) σ s (λ_ aa s'=>Rep C aa st s'/\bp C sc aw env cs aa s'):=by
 induction hn with
 | nil=>
  intro vs items fr aw σ s h F R hv;induction vs using iE with
  | cons v vs=>exact au h
  | nil=>
   refine bf h ?_
   replace hv:=az.jP hv;subst hv
   exact cT.pure ⟨R,F⟩
 | @cons n pos t es ts hn _ ih=>
  intro vs items fr aw σ s h F R hv;induction vs using iE with
  | nil=>exact au h
  | cons v vs=>
   exact ah (av h) λbc e h=>az.iq hv λc items h1 h2=>(cT.hold (Q:=λ_ aa s'=>Rep C aa st s'/\bp C sc bc env cs aa s') λE=>LY (ui hS hn e F R h1 E)).bind λ_ aa s' x ag=>xA ag λR' F'=>ih h F' R' (h2.mono x.le)
theorem B8(hS:sc.Ok)(hh:A.handled=none){e:ar}{t:Tg}(ht:mr C sc e t){v:V}{c:ac}{aw:Fr}(h:pp v t fr st=some aw)(F:bp C sc fr env cs σ s)(R:Rep C σ st s)(hv:VR C σ v c) :
  cT C A (cJ C sc env cs) (assign e env c) σ s (λ_ aa s'=>Rep C aa st s'/\bp C sc aw env cs aa s'):=by
 cases ht with
 | one hn=>
  have h':iY v t fr=some aw:=by
   cases t with
   | tup _=>exact hn.elim
   | loc _=>exact h
   | bi _=>exact h
   | fin _=>exact h
  exactλE=>LY (ui hS hn h' F R hv E)
 | @tup es ts k pos hn=>
  replace h:(match qb v st with|some vs=>iH vs ts fr|none=>none)=some aw:=h
  induction e:qb v st with
  | none=>rw[e]at h;exact au h
  | some vs=>
   rw[e]at h;refine xA (hn.len env) λh1 h2=>?_
   have h3:=yW h;refine ab (aqb ..) (cT.stand ?_);unfold unpack;refine ab (h1 ..) ?_;refine ab (h2 ..) ?_;refine bX (h3 ..) ((cT.hold (HQ hh e R F hv)).bind λitems aa s' _ ag=>iU ag λq R' F' V'=>?_);subst aa;exact aak hS hn h F' R' V'
end
structure Out(C:Cx)(σ:Sg)(I:al):Prop where
 o:I∉σ.ρ
 f:∀x∈σ.φ,x.1≠I
 t:I∉C.tabs
 z:C.h₀.get? I=none
def na(st:St)(src:Src)(i:Nat):Option (Option V):=match src with
 | .vals l=>some l[i]?
 | .lst n=>itemAt st n i
def eN(C:Cx)(A:bC)(σ:Sg)(h:cD)(src:Src)(I:al)(i:Nat):Prop:=match src with
 | .vals l=>∃fp P St,Walks C.prog C.w A I fp [I] l.length P St/\St i h/\(∀b∈fp,b=I\/∃o,(b,o)∈σ.φ)/\(∀j c v,P j c->l[j]?=some v->VR C σ v c) /\
   (∀j h,St j h->(h.get? I).isSome=true) /\
   (∀target j v (s:ak) (Q:Unit->ak->Prop) (E:ac->ak->Prop),P j v->St (j+1) s.heap->Q () s->aR (model C.prog C.w) A (tj target (.ref I) v) Q E s)
 | .lst n=>∃w,σ.ρ[n]?=some w/\h.IsListIter I w i
section
variable {C:Cx}{N:cP}{mg mb:ai->Option ac}{A:bC}{σ aa:Sg}{s s':ak}{ow:List al}{sc:Sc}{fr:Fr}{env:bd}{cs:List al}{st:St}
theorem Out.step{I:al}(x:Out C σ I)(y:Step ow σ aa s s')(hI:(s.heap.get? I).isSome=true)(ho:I∉ow):Out C aa I:=by
 refine xE (pV.mp hI) λo e=>ah y.ρ λm e1 hm=>ah y.φ λm' e2 t5=>⟨λq=>?_,λz hz q=>?_,x.t,x.z⟩
 ·rw[e1]at q;rcases dc.mp q with q|q
  ·exact x.o q
  ·rw[hm I q]at e;exact au e
 ·rw[e2]at hz;rcases dc.mp hz with hz|hz
  ·exact x.f z hz q
  ·subst q;rcases t5 z hz with e'|e'
   ·rw[e']at e;exact au e
   ·exact ho e'
theorem Out.fresh(R:Rep C σ st s){I:al}(h:s.heap.get? I=none):Out C σ I:=⟨R.rX h,R.t6 h,R.qk h,R.ql h⟩
theorem eN.live{src:Src}{I:al}{i:Nat}(x:eN C A σ s.heap src I i):(s.heap.get? I).isSome=true:=by
 induction src with
 | vals l=>refine nM x λfp P St _z h _z _z lv _z=>?_;exact lv _ _ h
 | lst n=>obtain⟨w,_,⟨o,e,_⟩⟩:=x;refine ab (e ..) ?_;rfl
theorem eN.step{src:Src}{I:al}{i:Nat}(x:eN C A σ s.heap src I i)(R:Rep C σ st s){am:St}(R':Rep C aa am s')(y:Step ow σ aa s s')(hI:I∉ow)(hO:Out C σ I):eN C A aa s'.heap src I i:=by
 have kI:∀o,s.heap.get? I=some o->s'.heap.get? I=some o:=λo e=>y.keep I o e hO.o hI
 induction src with
 | vals l=>
  refine nM x λfp P St W h og hv lv go=>?_;clear x
  refine⟨fp,P,St,W,W.frame _ _ _ h λb hb o e=>?_,λb hb=>(og b hb).imp id fun⟨o,m⟩=>⟨o,y.le.φ _ m⟩,λj c v p e=>(hv j c v p e).mono y.le,lv,go⟩;rcases og b hb with rfl|d5
  ·exact kI o e
  ·refine xE d5 λo' m=>?_;clear d5
   exact ab (aI (e.symm.trans (R.df _ m).1)) ((R'.df _ (y.le.φ _ m)).1)
 | lst n=>
  refine ah x λw hw hi=>?_;clear x
  exact aW w (y.le.ρ _ _ hw) (hi.at kI)
theorem Rep.hid(R:Rep C σ st s){I:al}(hO:Out C σ I){h':cD}{tk:Tok}(k:∀b o,b≠I->s.heap.get? b=some o->h'.get? b=some o):Rep C σ st {s with heap:=h',toks:=tk}:=
 R.other (S:=[I]) (λb o e hb=>k b o (λq=>hb (by simp[q])) e) (by simpa using hO.o) (by simpa using hO.t) (by simpa using hO.z) (by simpa using hO.f)
theorem Step.hide{σ₀:Sg}{s₀:ak}(x:Step ow σ₀ σ s₀ s){S:List al}(hS:∀a∈S,s₀.heap.get? a=none){h':cD}{tk:Tok}(k:∀b o,b∉S->s.heap.get? b=some o->h'.get? b=some o) :
  Step ow σ₀ σ s₀ {s with heap:=h',toks:=tk}:=by
 refine⟨x.ρ,x.φ,λb o e h1 h2=>k b o (λq=>by rw[hS b q]at e;exact au e) (x.keep b o e h1 h2),λb e=>?_,?_⟩
 ·by_cases q:b∈S
  ·exact hS b q
  ·refine x.dom b ?_;induction g:s.heap.get? b with
   | none=>rfl
   | some o=>have:=k b o q g;rw[show h'.get? b=none from e]at this;exact au this
 ·refine fL x.same λh t ag=>?_;subst ag
  exact(gK _ _ rfl)
theorem bp.hid(F:bp C sc fr env cs σ s){I:al}(hI:I∉env.locals::cs){h':cD}{tk:Tok}(ht:s.toks<=tk)(k:∀b o,b≠I->s.heap.get? b=some o->h'.get? b=some o):bp C sc fr env cs σ {s with heap:=h',toks:=tk}:=by
 have kp:∀a∈env.locals::cs,∀o,s.heap.get? a=some o->h'.get? a=some o:=λa ha o e=>k a o (λq=>hI (q▸ha)) e
 refine⟨F.scope,F.globals,F.builtins,?_,λi n h=>?_,F.out,F.outF,λa ha=>?_,F.nd,F.jQ,F.qo,F.qp,km F.tok ht,F.cd⟩
 ·refine ah F.ns λm ag hm=>?_;refine dN ag λo es ep e r=>?_;clear ag
  exact(aW m ⟨o,es,ep,kp _ bT _ e,r⟩ hm)
 ·exact fZ (F.bi i n h) λa v c y=>iV y λh1 h2 h3 ag h6 h7=>ah ag λo h4 h5=>⟨a,v,c,h1,h2,h3,⟨o,kp a (bL _ (fK h1)) _ h4,h5⟩,h6,h7⟩
 ·refine xE (pV.mp (F.has a ha)) λo e=>?_
  refine ab (kp a ha o e ..) ?_;rfl
theorem eN.next{src:Src}{I:al}{i:Nat}{v:V}(x:eN C A σ s.heap src I i)(R:Rep C σ st s)(hO:Out C σ I)(h:na st src i=some (some v)){Q:Option ac->ak->Prop}{E:ac->ak->Prop}
  (hQ:∀c h' tk,VR C σ v c->eN C A σ h' src I (i+1)->s.toks<=tk->(∀b o,b≠I->s.heap.get? b=some o->h'.get? b=some o) ->
   (∀target (Q:Unit->ak->Prop) (E:ac->ak->Prop),Q () {s with heap:=h',toks:=tk}->aR (model C.prog C.w) A (tj target (.ref I) c) Q E {s with heap:=h',toks:=tk})->Q (some c) {s with heap:=h',toks:=tk}) :
  aR (model C.prog C.w) A (Am (.ref I)) Q E s:=by
 induction src with
 | vals l=>
  refine nM x λfp P St W dR og hv lv go=>?_;clear x
  have hl:l[i]?=some v:=by simpa[na]using h
  have hi:=(gW.mp hl).1;refine c8 (xG (W.item i s (λo s'=>∃c h' tk,o=some c/\s'={s with heap:=h',toks:=tk}/\P i c/\St (i+1) h'/\(∀b o,b∉[I]->s.heap.get? b=some o->h'.get? b=some o)) E hi dR
   λc h' tk p am k=>(Ml c h' tk rfl rfl p am k))) (λo s' ag=>xA ag λht cU=>pY cU λc h' tk e1 e2 p am k=>?_) λ_z _z e=>e.2
  subst e1 e2;exact hQ c h' tk (hv i c v p hl) ⟨fp,P,St,W,am,og,hv,lv,go⟩ ht (λb o hb e=>k b o (by simpa using hb) e) λtarget Q E q=>go target i c _ Q E p am q
 | lst n=>
  refine ah x λw hw hi=>?_;clear x
  refine ah (av h) λl e1 e2=>?_
  have e2:=mH.inj e2;exact ah (R.get hw (BF e1)) λitems pl hx=>ah (hx.get e2) λc hc hv=>wpAny_pyNext_list_item hi pl.isList (x:=c) (by simpa using hc) λh' hit hs=>hQ c h' s.toks hv ⟨w,hw,hit⟩ (dr _) (λb o hb e=>hs.extBut b o hb e) λtarget Q E q=>letGo_listiter hit q
theorem eN.done(hh:A.handled=none){src:Src}{I:al}{i:Nat}(x:eN C A σ s.heap src I i)(R:Rep C σ st s)(h:na st src i=some none)(hi:∀l,src=.vals l->i<=l.length){Q:Option ac->ak->Prop}{E:ac->ak->Prop}
  (hQ:∀h' tk,s.toks<=tk->(∀b o,b≠I->s.heap.get? b=some o->h'.get? b=some o)->Q none {s with heap:=h',toks:=tk}):aR (model C.prog C.w) A (Am (.ref I)) Q E s:=by
 induction src with
 | vals l=>
  refine nM x λfp P St W dR og hv lv go=>?_;clear x
  have hl:l[i]?=none:=by simpa[na]using h
  have:i=l.length:=LU (hi l rfl) (aqT.mp hl)
  subst this;refine c8 (xG (W.done s (λo s'=>∃h' tk,o=none/\s'={s with heap:=h',toks:=tk}/\(∀b o,b∉[I]->s.heap.get? b=some o->h'.get? b=some o)) E dR
   λh' tk k=>(rz h' tk rfl rfl k))) (λo s' ag=>xA ag λht cU=>lY cU λh' tk e1 e2 k=>?_) λ_z _z e=>e.2
  subst e1 e2;exact hQ h' tk ht λb o hb e=>k b o (by simpa using hb) e
 | lst n=>
  refine ah x λw hw hit=>?_;clear x
  refine ah (av h) λl e1 e2=>ah (R.get hw (BF e1)) λitems pl hx=>?_
  have e2:l[i]?=none:=by simpa using e2
  have eX:=hx.items;refine wpAny_pyNext_list_end hh hit pl.isList (by
   have:=aqT.mp e2
   simp;exact Fz eX this) λh' he=>hQ h' s.toks (dr _) λb o hb e=>he b o hb e
end
def qB(C:Cx)(sc:Sc)(e:ar)(i:Ci):Prop:=∀n K,fq C n K->∀fr st src am,i K fr st=some (src,am)->∀A env cs σ s,cC n A->bp C sc fr env cs σ s->Rep C σ st s->∀(Q E:ac->ak->Prop),
 (∀I aa s',js C.tabs σ aa s s'->Rep C aa am s'->eN C A aa s'.heap src I 0->s.heap.get? I=none->Out C aa I->Q (.ref I) s')->aR (model C.prog C.w) A (eval e env) (λx s1=>aR (model C.prog C.w) A (vb x) Q E s1) E s
section
variable {C:Cx}{N:cP}{mg mb:ai->Option ac}{A:bC}{σ aa:Sg}{s s':ak}{ow:List al}{sc:Sc}{fr:Fr}{env:bd}{cs:List al}{st:St}
theorem B9{target:ar}{it v:ac}{Q:Unit->ak->Prop}{E:ac->ak->Prop}{M:rj}(hv:∀a,v≠.ref a)(q:Q () s):aR M A (tj target it v) Q E s:=by
 have OG:∀k:al->al->bo Unit,aR M A (match(it,v)with|(.ref r,.ref a)=>k r a|_=>pure ()) Q E s:=λk=>by
  induction v with
  | ref a=>exact absurd rfl (hv a)
  | _=>induction it<;>exact bj q
 cases target with
 | Tuple=>exact OG _
 | List=>exact OG _
 | _=>exact bj q
theorem eN.vals{l:List V}{I:al}{i:Nat}{h:cD}{fp:List al}{P:Nat->ac->Prop}{St:Nat->cD->Prop}(W:Walks C.prog C.w A I fp [I] l.length P St)(dR:St i h)(og:∀b∈fp,b=I\/∃o,(b,o)∈σ.φ)
  (hv:∀j c v,P j c->l[j]?=some v->VR C σ v c) (lv:∀j h,St j h->(h.get? I).isSome=true)
  (go:∀target j v (s:ak) (Q:Unit->ak->Prop) (E:ac->ak->Prop),P j v->St (j+1) s.heap->Q () s->aR (model C.prog C.w) A (tj target (.ref I) v) Q E s):eN C A σ h (.vals l) I i:=
 ⟨fp,P,St,W,dR,og,hv,lv,go⟩
theorem eN.lst{n:Nat}{I:al}{i:Nat}{h:cD}{w:al}(hw:σ.ρ[n]?=some w)(x:h.IsListIter I w i):eN C A σ h (.lst n) I i:=⟨w,hw,x⟩
theorem HR(hz:(C.h₀.get? il).isSome=true){a:al}(h:C.h₀.get? a=none):(a==il)=false:=by
 induction e:a==il with
 | false=>rfl
 | true=>rw[beq_iff_eq.mp e]at h;rw[h]at hz;exact bV hz
theorem aal{l:List (Tx×V)}{ax:List (ai×ac)}(x:cM C σ l ax):(rM l).length=ax.length/\∀(j:Nat) (k:ai) (c:ac) (v:V),ax[j]?=some (k,c)->(rM l)[j]?=some v->∀t,VR C σ v (.str k t):=
 x.ind (P:=λl ax=>(rM l).length=ax.length/\∀(j:Nat) (k:ai) (c:ac) (v:V),ax[j]?=some (k,c)->(rM l)[j]?=some v->∀t,VR C σ v (.str k t)) ⟨rfl,λj k c v e=>au e⟩ λx v l c cs _ _ ih=>⟨congrArg (·+1) ih.1,λj k c' v' e1 e2 t=>by
  induction j with
  | zero=>cases aI e1;induction aI e2;exact .str x t
  | succ j=>exact ih.2 j k c' v' e1 e2 t⟩
theorem uj(R:Rep C σ st s){o:aT}{src:Src}{Q:ac->ak->Prop}(x:eN C A σ (s.heap.push o) src s.heap.objs.size 0)
  (hQ:∀I aa s',js C.tabs σ aa s s'->Rep C aa st s'->eN C A aa s'.heap src I 0->s.heap.get? I=none->Out C aa I->Q (.ref I) s'):Q (.ref s.heap.objs.size) {s with heap:=s.heap.push o}:=by
 have k:∀b ob,s.heap.get? b=some ob->(s.heap.push o).get? b=some ob:=λb ob e=>iD _ e
 exact hQ _ σ {s with heap:=s.heap.push o} ⟨Step.ext (k:=s.toks) k,dr _⟩ (R.grow k) x (rY s.heap) (Out.fresh R (rY s.heap))
theorem HS{h:cD}{a:al}{o:aT}(e:h.get? a=some o):a≠h.objs.size:=rq (kj e)
theorem OH(hz:(C.h₀.get? il).isSome=true)(hh:A.handled=none){v:V}{c:ac}{src:Src}(h:GI st v=some src)(R:Rep C σ st s)(hv:VR C σ v c){Q E:ac->ak->Prop}
  (hQ:∀I aa s',js C.tabs σ aa s s'->Rep C aa st s'->eN C A aa s'.heap src I 0->s.heap.get? I=none->Out C aa I->Q (.ref I) s'):aR (model C.prog C.w) A (vb c) Q E s:=by
 have at_:∀{l:List V} {items:Array ac},az C σ l items.toList->∀{j:Nat} {c:ac} {v:V},items[j]?=some c->l[j]?=some v->VR C σ v c:=λhx j c v p e=>by
  refine ah (hx.get e) λc' e' hv=>?_
  rw[Array.getElem?_toList,p]at e';exact aI e'▸hv
 induction v using V.casesOn with
 | loc n=>
  refine ah (av h) λl hg h=>?_
  replace h:=aI h;subst h
  exact VR.mf hv λw hw=>ah (R.get hw (BF hg)) λitems pl hx=>UJ pl.isList (uj R (eN.lst hw ⟨_,jg _ rfl,rfl,rfl⟩) hQ)
 | fd l=>
  replace h:=aI h;subst h
  refine VR.yG hv λa o ax m dk hx=>?_
  refine iU (R.df _ m) λg _z _z ag=>?_
  have eA:=HS g;refine xE (dk.dictOf g).dictAt λep ht=>xA (aal hx) λhs hg=>?_
  have W:=Walks.dictKeys (knd:=ki C.prog C.w) hh s.heap.objs.size a eA ax ep;rw[<-hs]at W;refine wpAny_pyIter_dict (HR hz ag) ht (uj R (eN.vals W ⟨⟨_,jg _ rfl,rfl,by rw[hs];rfl⟩,ht.push _⟩ (λb hb=>?_) (λj c v p e=>?_) (λj h dR=>?_) (λtarget j v s Q E p dR q=>letGo_keyiter dR.1 q)) hQ)
  ·simp at hb;exact hb.imp id λq=>⟨_,q▸m⟩
  ·exact be p λk x e1 e2=>xE (arL e2) λt e3=>by subst e3;exact hg j k x v e1 e t
  ·refine ah dR.1 λo e _=>ab (e ..) ?_;rfl
 | tup l=>
  replace h:=aI h;subst h
  refine VR.t8 hv λa items n m hx=>?_
  have g:=(R.df _ m).1;have eA:=HS g;have ht:s.heap.IsTuple a items:=⟨_,g,rfl,n,rfl⟩;have hs:=hx.items;have W:=Walks.tuple (prog:=C.prog) (w:=C.w) hh s.heap.objs.size a eA items;rw[hs]at W;refine wpAny_pyIter_tuple ht (uj R (eN.vals W ⟨⟨_,jg _ rfl,rfl,rfl⟩,ht.push _⟩ (λb hb=>?_) (λj c v p e=>at_ hx p e) (λj h dR=>?_) (λtarget j v s Q E p dR q=>letGo_tupleiter dR.1 q)) hQ)
  ·simp at hb;exact hb.imp id λq=>⟨_,q▸m⟩
  ·refine ah dR.1 λo e _=>ab (e ..) ?_;rfl
 | fl l=>
  replace h:=aI h;subst h
  refine VR.Bx hv λa items n m hx=>?_
  have g:=(R.df _ m).1;have eA:=HS g;have ht:s.heap.IsList a items:=⟨_,g,rfl,n,rfl⟩;have hs:=hx.items;have W:=Walks.list (prog:=C.prog) (w:=C.w) hh s.heap.objs.size a eA items;rw[hs]at W;refine UJ ht (uj R (eN.vals W ⟨⟨_,jg _ rfl,rfl,rfl⟩,ht.push _⟩ (λb hb=>?_) (λj c v p e=>at_ hx p e) (λj h dR=>?_) (λtarget j v s Q E p dR q=>letGo_listiter dR.1 q)) hQ)
  ·simp at hb;exact hb.imp id λq=>⟨_,q▸m⟩
  ·refine ah dR.1 λo e _=>ab (e ..) ?_;rfl
 | str x=>
  refine ah (av h) λl e h=>?_
  replace h:=aI h;subst h
  refine bP (N6 (C:=C) e) λh1 h2 h3=>VR.fV hv λt=>?_
  have hs:(aL C.θ x).cps.size=l.length:=by refine ab (h1 ..) ?_;refine bX (h2 ..) ?_;rfl
  have hP:∀j c v,SignAt (aL C.θ x) j c->l[j]?=some v->VR C σ v c:=by
   rintro j c v ⟨k,u,e1,rfl⟩ e2
   refine lY (h3 j v e2) λk' a e3 ag e4=>?_;subst ag
   have:k'=k:=by
    have e1:(den C.θ x).toArray[j]?=some k:=e1;simp[e3]at e1;exact e1
   subst this
   have:(⟨#[k']⟩:ai)=aL C.θ [a]:=by unfold aL;exact ab (e4 ..) rfl
   exact ab (this ..) (.str _ _)
  have go:∀(target:ar) (j:Nat) (v:ac) (s:ak) (Q:Unit->ak->Prop) (E:ac->ak->Prop),SignAt (aL C.θ x) j v->Q () s->aR (model C.prog C.w) A (tj target (.ref s.heap.objs.size) v) Q E s:=by
   rintro target j v s Q E ⟨k,u,e1,rfl⟩ q
   exact B9 (λa q=>by cases q) q
  induction ha:(aL C.θ x).cps.all (·<128)
  ·have W:=Walks.strWide (prog:=C.prog) (w:=C.w) hh s.heap.objs.size (aL C.θ x) t;rw[hs]at W;refine wpAny_pyIter_wide ha (uj R (eN.vals W ⟨_,jg _ rfl,rfl,rfl⟩ (λb hb=>.inl (by simpa using hb)) (hP) (λj h dR=>?_) (λtarget j v s Q E p dR q=>?_)) hQ)
   ·refine ah dR λo e _=>?_;clear dR
    refine ab (e ..) ?_;rfl
   ·refine be p λk u e1 ag=>?_;clear p;subst ag
    exact B9 (λa q=>by cases q) q
  ·have W:=Walks.strAscii (prog:=C.prog) (w:=C.w) hh s.heap.objs.size (aL C.θ x) t;rw[hs]at W;refine wpAny_pyIter_ascii ha (uj R (eN.vals W ⟨_,jg _ rfl,rfl,rfl⟩ (λb hb=>.inl (by simpa using hb)) (hP) (λj h dR=>?_) (λtarget j v s Q E p dR q=>?_)) hQ)
   ·refine ah dR λo e _=>?_;clear dR
    refine ab (e ..) ?_;rfl
   ·refine be p λk u e1 ag=>?_;clear p;subst ag
    exact B9 (λa q=>by cases q) q
 | _=>exact au h
theorem HT{r:Option Src}{am:St}{p:Src}(h:Ba r st=some (p,am)):r=some p/\am=st:=by
 induction r with
 | none=>exact au h
 | some q=>refine dY h ?_;exact⟨rfl,rfl⟩
theorem aam(hz:(C.h₀.get? il).isSome=true){e:ar}{c:Cd}(he:bn C sc e c):qB C sc e (ce c):=by
 intro n K hK fr st src am h A env cs σ s hA F R Q E hQ;refine be (bu h) λv st1 e1 h=>xA (HT h) λe2 ag=>?_;subst ag
 exact(he n K hK fr st v _ e1 A env cs σ s hA F R).go λx aY s1 x1 ag=>xA ag λR1 V1=>OH hz hA.1 e2 R1 V1 λI aa s' y R' it hn O=>hQ I aa s' ⟨x1.toStep.trans y.toStep,dG x1.tok y.tok⟩ R' it (x1.dom _ hn) O
end
section
variable {C:Cx}{N:cP}{mg mb:ai->Option ac}{A:bC}{σ aa:Sg}{s s':ak}{ow:List al}{sc:Sc}{fr:Fr}{env:bd}{cs:List al}{st:St}
theorem OI{i:Int}(h:yu i=true):-1000001<i/\i<1000000:=by
 induction i with
 | ofNat n=>
  have:n<1000000:=bF h
  simp only[aqL]
  lia
 | negSucc n=>
  have:n<1000000:=bF h
  lia
theorem aan(i:Int):jK i=i.toNat:=by induction i<;>rfl
theorem aao(n:Nat):∀(a:Int),(qf n a).length=n/\∀(j:Nat) (v:V),(qf n a)[j]?=some v->v=V.int (a+j):=by
 induction n with
 | zero=>exactλa=>⟨rfl,λj v e=>au e⟩
 | succ n ih=>
  intro a;refine xA (ih (a+1)) λh1 h2=>⟨congrArg (·+1) h1,λj v e=>?_⟩
  induction j with
  | zero=>exact(aI e).symm.trans (congrArg V.int (aqI a).symm)
  | succ j=>exact(h2 j v e).trans (congrArg V.int ((Int.add_right_comm a 1 j).trans (aqH a j 1)))
theorem OJ(hh:A.handled=none){r:al}{a b c:Int}{t u v:Tok}{src:Src}(hc:c=1)(h:Na a b=some src)(R:Rep C σ st s)(hr:IsRange s.heap r a b c t u v){Q E:ac->ak->Prop}
  (hQ:∀I aa s',js C.tabs σ aa s s'->Rep C aa st s'->eN C A aa s'.heap src I 0->s.heap.get? I=none->Out C aa I->Q (.ref I) s'):aR (model C.prog C.w) A (vb (.ref r)) Q E s:=by
 subst hc;refine xA (bK h) λk h=>xA ((cz _ _).mp k) λk h3=>xA ((cz _ _).mp k) λh1 h2=>?_
 replace h:=aI h;subst h
 have b1:=OI h1;have b2:=OI h2;refine xA (aao (jK (b-a)) a) λq1 q2=>PySem.wpAny_pyIter_range hr (small_one (xU b1.1 (by decide)) (AF b1.2 (by decide)) (xU b2.1 (by decide)) (AF b2.2 (by decide))) ?_
 have hsz:Builtin.Range.rangeSize a b 1=((b-a).toNat:Int):=by refine ab (rangeSize_one ..) ?_;split<;>lia
 have W:=Walks.range (prog:=C.prog) (w:=C.w) hh s.heap.objs.size a 1 (qf (jK (b-a)) a).length;refine uj R (eN.vals W ?_ (λb hb=>.inl (by simpa using hb)) (λj c v p e=>?_) (λj h dR=>?_) (λtarget j v s Q E p dR q=>?_)) hQ
 ·have e1:(a+((0:Nat):Int)*1)=a:=by simp
  have e2:(((qf (jK (b-a)) a).length:Int)-((0:Nat):Int))=Builtin.Range.rangeSize a b 1:=by refine ab (hsz ..) ?_;refine ab (q1 ..) ?_;refine ab (aan ..) ?_;rfl
  refine ab (e1 ..) ?_;exact ab (e2 ..) (jg _ rfl)
 ·refine xE p λt ag=>?_;clear p;subst ag
  have:=q2 j v e
  subst this;exact ab (congrArg (a+·) (Int.mul_one (j:Int))) (.int _ _)
 ·have dR:=dR;refine ab (dR ..) ?_;rfl
 ·refine xE p λt ag=>?_;clear p;subst ag
  exact B9 (λa q=>by cases q) q
theorem aap (H:dz C N mg mb) (hS:sc.Ok) {p pos:aC} {e:ar} {c:Cd} (he:bn C sc e c) (hu:gy e=true) (hn:iZ sc.scope "range"= true) (hm:mg "range"= none) (hb:mb "range"= some (.type "range")) :
  qB C sc (.Call (.Name "range" p) [e] [] pos) (dT c):=by
 intro n K hK fr st src am h A env cs σ s hA F R Q E hQ;refine be (bu h) λv st1 e1 h=>xA (HT h) λe2 ag=>?_;subst ag
 show aR _ A (eval (.Name "range" p) env>>=λf=>ll pos f [] (fJ pos (fg [e] env)) (iB pos (iC [] env))) _ E s
 refine aA (wf H hS hn rfl hm hb F R ?_);have bH:eM C sc [e] [c]:=.cons he hu .nil;have h1:=we e1;refine PySem.callWith_type (qw bH) (se hK hA bH h1 F R λaU aY s1 x1 R1 V1=>?_);refine az.yH V1 λ_ a=>ah (av (o:=kU v) e2) λy ey e2=>?_
 revert a
 refine qt ey ?_;intro a;exact VR.gn a λ_z=>call_range_1 (OJ hA.1 rfl e2 (R1.grow λb ob e=>iD _ e) (IsRange.new ..) λI aa s' z R' it hn O=>hQ I aa s' ⟨(x1.toStep.trans (Step.ext λb ob e=>iD _ e)).trans z.toStep,dG x1.tok (dG (mG _ 2) z.tok)⟩ R' it (x1.dom _ (t7 (λb ob e=>iD _ e) _ hn)) O)
theorem aaq (H:dz C N mg mb) (hS:sc.Ok) {p pos:aC} {e e':ar} {c c':Cd} (he:bn C sc e c) (hu:gy e=true) (rC:bn C sc e' c') (HF:gy e'=true) (hn:iZ sc.scope "range"= true) (hm:mg "range"= none) (hb:mb "range"= some (.type "range")) :
  qB C sc (.Call (.Name "range" p) [e,e'] [] pos) (nW c c'):=by
 intro n K hK fr st src am h A env cs σ s hA F R Q E hQ;refine be (bu h) λv st1 e1 h=>be (bu h) λu aF e2 h=>xA (HT h) λe3 ag=>?_;subst ag
 show aR _ A (eval (.Name "range" p) env>>=λf=>ll pos f [] (fJ pos (fg [e,e'] env)) (iB pos (iC [] env))) _ E s
 refine aA (wf H hS hn rfl hm hb F R ?_);have bH:eM C sc [e,e'] [c,c']:=.cons he hu (.cons rC HF .nil);have h1:=Oj e1 e2;refine PySem.callWith_type (qw bH) (se hK hA bH h1 F R λaU aY s1 x1 R1 V1=>?_);refine az.NE V1 λ_ _ a a'=>ah (av e3) λy ey e3=>ah (av e3) λz ez e3=>?_
 revert a a'
 refine qt ey (qt ez ?_);intro a a';exact VR.gn a λ_z=>VR.gn a' λ_z=>call_range_2 (OJ hA.1 rfl e3 (R1.grow λb ob e=>iD _ e) (IsRange.new ..) λI aa s' z R' it hn O=>hQ I aa s' ⟨(x1.toStep.trans (Step.ext λb ob e=>iD _ e)).trans z.toStep,dG x1.tok (dG (mG _ 1) z.tok)⟩ R' it (x1.dom _ (t7 (λb ob e=>iD _ e) _ hn)) O)
end
inductive yX(C:Cx)(σ:Sg):Fl->xu->Prop
 | next:yX C σ .next .next
 | brk:yX C σ .brk .brk
 | ret {v:V} {c:ac}:VR C σ v c->yX C σ (.ret v) (.ret c)
abbrev yY(C:Cx)(sc:Sc)(env:bd)(cs:List al)(f:Fl)(aw:Fr)(am:St)(fl:xu)(aa:Sg)(s':ak):Prop:=Rep C aa am s'/\bp C sc aw env cs aa s'/\yX C aa f fl
def hW(C:Cx)(sc:Sc)(b:bS)(c:Cs):Prop:=∀n K,fq C n K->∀fr st f aw am,c K fr st=some (f,aw,am)->∀A env cs σ s,cC (n+2) A->bp C sc fr env cs σ s->Rep C σ st s ->
 cT C A (cJ C sc env cs) (exec b env) σ s (yY C sc env cs f aw am)
def iw(C:Cx)(sc:Sc)(b:List bS)(c:Cs):Prop:=∀n K,fq C n K->∀fr st f aw am,c K fr st=some (f,aw,am)->∀A env cs σ s,cC (n+2) A->bp C sc fr env cs σ s->Rep C σ st s ->
 cT C A (cJ C sc env cs) (execs b env) σ s (yY C sc env cs f aw am)
section
variable {C:Cx}{N:cP}{mg mb:ai->Option ac}{A:bC}{σ aa:Sg}{s s':ak}{ow:List al}{sc:Sc}{fr:Fr}{env:bd}{cs:List al}{st:St}
theorem OK:iw C sc [] bJ:=by
 intro n K hK fr st f aw am h A env cs σ s hA F R;refine jj h ?_;exact cT.pure ⟨R,F,.next⟩
theorem OM{a:bS}{r:List bS}{c d:Cs}(ha:hW C sc a c)(hr:iw C sc r d):iw C sc (a::r) (aE c d):=by
 intro n K hK fr st f aw am h A env cs σ s hA F R;refine dN (ky h) λf1 bc st1 e1 h=>ab (K9 ..) ((ha n K hK fr st f1 bc st1 e1 A env cs σ s hA F R).bind λfl aY s1 x1 ag=>bP ag λR1 F1 q=>?_)
 induction q with
 | next=>exact hr n K hK bc st1 f aw am h A env cs aY s1 hA F1 R1
 | brk=>refine jj h ?_;exact cT.pure ⟨R1,F1,.brk⟩
 | ret v=>refine jj h ?_;exact cT.pure ⟨R1,F1,.ret v⟩
theorem ON{a:bS}{c:Cs}(ha:hW C sc a c):iw C sc [a] c:=by
 intro n K hK fr st f aw am h A env cs σ s hA F R;refine ab (K9 ..) ((ha n K hK fr st f aw am h A env cs σ s hA F R).bind λfl aY s1 x1 ag=>bP ag λR1 F1 q=>?_);induction q with
 | next=>exact cT.pure ⟨R1,F1,.next⟩
 | brk=>exact cT.pure ⟨R1,F1,.brk⟩
 | ret v=>exact cT.pure ⟨R1,F1,.ret v⟩
theorem aar{t:ar}{a b:List bS}{ct:Ct}{ca cb:Cs}{pos:aC}(ht:mj C sc t ct)(ha:iw C sc a ca)(hb:iw C sc b cb):hW C sc (.If t a b pos) (dy ct ca cb):=by
 intro n K hK fr st f aw am h A env cs σ s hA F R;refine be (bu h) λr st1 e1 h=>ab (arm_exec_If ..) (cT.stand ((ht n K hK fr st r st1 e1 A env cs σ s hA.lo F R).then (iu C sc env cs) λv aY s1 x1 ag=>xA ag λR1 q=>?_))
 subst v;induction r with
 | true=>exact ha n K hK fr st1 f aw am h A env cs aY s1 hA (F.stepT x1) R1
 | false=>exact hb n K hK fr st1 f aw am h A env cs aY s1 hA (F.stepT x1) R1
theorem aas{e:ar}{c:Cd}{pos:aC}(he:bn C sc e c):hW C sc (.Return (some e) pos) (dq c):=by
 intro n K hK fr st f aw am h A env cs σ s hA F R;refine be (bu h) λv st1 e1 h=>jj h ?_
 exactλE=>wpAny_Return_some ((he n K hK _ st v _ e1 A env cs σ s hA.lo F R).go (λcv aY s1 x1 ag=>xA ag λR1 V1=>(iW aY (x1.toStep.fU (iu C sc env cs)) R1 (F.stepT x1) (.ret V1))))
theorem aat{pos:aC}:hW C sc (.Break pos) GS:=by
 intro n K hK fr st f aw am h A env cs σ s hA F R;refine jj h ?_;refine ab (arm_exec_Break ..) ?_;exact cT.stand (cT.pure ⟨R,F,.brk⟩)
def B'(K:bb)(t:Tg)(body:Cs)(src:Src)(j m:Nat)(fr:Fr)(st:St):Option (Fl×Fr×St):=match src with
 | .vals l=>iI K t body (l.drop j) fr st
 | .lst n=>GT K t body n m j fr st
def sk(src:Src)(j m:Nat):Prop:=match src with|.vals l=>j+m=l.length|.lst _=>True
inductive RF(K:bb)(t:Tg)(b:Cs)(src:Src)(r:Fl×Fr×St)(j:Nat)(fr:Fr)(st:St)(m:Nat):Prop
 | done (h:na st src j=some none) (hl:∀l,src=.vals l->j<=l.length) (e:(Fl.next,fr,st)=r)
 | item (m':Nat) (v:V) (bc:Fr) (f:Fl) (br:Fr) (aF:St) (hm:m'<m) (h:na st src j=some (some v)) (e1:pp v t fr st=some bc) (e2:b K bc st=some (f,br,aF)) (c:sk src (j+1) m')
  (e:match f with|.next=>B' K t b src (j+1) m' br aF=some r|.brk=>(.next,br,aF)=r|.ret v=>(.ret v,br,aF)=r)
theorem OO{o:Option V}{u:Unit}(h:GK o=some u):o=none:=by induction o<;>first|rfl|exact au h
theorem OP{l:List V}{j:Nat}(h:j<l.length):na st (.vals l) j=some (some l[j]):=by simp[na,h]
theorem OQ{l:List V}{j:Nat}(h:¬j<l.length):na st (.vals l) j=some none:=by simp[na];exact oZ h
theorem aau{K:bb}{t:Tg}{body:Cs}{src:Src}{j m:Nat}{r:Fl×Fr×St}(h:B' K t body src j m fr st=some r)(hc:sk src j m):RF K t body src r j fr st m:=by
 induction src with
 | vals l=>
  have hc:=hc;have h:iI K t body (l.drop j) fr st=some r:=h
  by_cases hj:j<l.length
  ·rw[LG hj]at h;refine ah (av h) λbc e1 h=>dN (ky h) λf br aF e2 h=>.item (m-1) l[j] bc f br aF (LV (o7 _) (L9 hc hj).symm) (OP hj) e1 e2 (L' hc hj) ?_
   induction f with
   | next=>exact h
   | brk=>exact aI h
   | ret v=>exact aI h
  ·rw[Fj.mpr (oZ hj)]at h;exact .done (OQ hj) (λl' e=>by cases e;exact Nat.le.intro hc) (aI h)
 | lst n=>
  have h:=h;induction m with
  | zero=>exact ah (av h) λo e1 h=>ah (av h) λ_ e2 h=>.done (OO e2▸e1) (λl e=>nomatch e) (aI h)
  | succ m=>
   refine ah (av h) λo e1 h=>ah (av h) λv e2 h=>ah (av h) λbc e3 h=>dN (ky h) λf br aF e4 h=>.item m v bc f br aF (o7 _) (e2▸e1) e3 e4 trivial ?_
   induction f with
   | next=>exact h
   | brk=>exact aI h
   | ret v=>exact aI h
inductive aav(C:Cx)(A:bC)(sc:Sc)(env:bd)(cs:List al)(K:bb)(t:Tg)(b:Cs)(src:Src)(r:Fl×Fr×St)(I:al)(σ₀:Sg)(s₀:ak)(m:Nat)(s:ak):Prop
 | mk (j:Nat) (uk:Fr) (oq:St) (iJ:Sg) (hr:B' K t b src j m uk oq=some r) (hc:sk src j m) (X:Step (cJ C sc env cs) σ₀ iJ s₀ s) (F:bp C sc uk env cs iJ s) (R:Rep C iJ oq s) (it:eN C A iJ s.heap src I j) (O:Out C iJ I)
theorem OS(hS:sc.Ok){target iter:ar}{body:List bS}{t:Tg}{b:Cs}{pos:aC}(ht:mr C sc target t)(hb:iw C sc body b)(hs:∀env x,u9 iter env x=pure x){n:Nat}{K:bb}(hK:fq C n K){fr:Fr}{st1:St}{f:Fl}{hY:Fr}{am:St}
  {A:bC} {env:bd} {cs:List al} {σ₀:Sg} {s₀:ak} (hA:cC (n+2) A) (kB:bp C sc fr env cs σ₀ s₀) {H:Src->Prop} (ot:∀src,H src->∃aw,Ng K t b src fr st1=some (f,aw,am)/\∀σ s,bp C sc aw env cs σ s->bp C sc hY env cs σ s)
  (hi:∀(Q E:ac->ak->Prop),(∀src I aa s',H src->js C.tabs σ₀ aa s₀ s'->Rep C aa st1 s'->eN C A aa s'.heap src I 0->s₀.heap.get? I=none->Out C aa I->Q (.ref I) s')->aR (model C.prog C.w) A (eval iter env) (λx s1=>aR (model C.prog C.w) A (vb x) Q E s1) E s₀) :
  cT C A (cJ C sc env cs) (exec (.For target iter body [] pos) env) σ₀ s₀ (yY C sc env cs f hY am):=by
 intro E;refine wpAny_For (hi _ _ λsrc I aY s1 aaw x1 R1 so pz O1=>?_) (hs env)
 revert R1;refine ah (ot src aaw) λaw h aax R1=>?_
 have fin:∀{f0:Fl} {ju:Fr} {dm:St} {fl:xu} {σ2:Sg} {s2:ak},(f0,ju,dm)=(f,aw,am)->Step (cJ C sc env cs) σ₀ σ2 s₀ s2->Rep C σ2 dm s2->bp C sc ju env cs σ2 s2->yX C σ2 f0 fl->∃aa,Step (cJ C sc env cs) σ₀ aa s₀ s2/\yY C sc env cs f hY am fl aa s2:=λe x R F q=>by cases e;exact iW _ x R (aax _ _ F) q
 have nb:I∉env.locals::cs:=λq=>by have:=kB.has I q;rw[pz]at this;exact bV this
 have ul:I∉cJ C sc env cs:=qA nb O1.t;have h0:∃m,B' K t b src 0 m fr st1=some (f,aw,am)/\sk src 0 m:=by
  induction src with
  | vals l=>exact(aW l.length h (by exact jh _ _))
  | lst n=>exact(aW (Bb st1 n) h trivial)
 revert h0;refine V7 λm0 h0 hc0=>Mp (aav C A sc env cs K t b src (f,aw,am) I σ₀ s₀) ?_ m0 (.mk 0 fr st1 aY h0 hc0 (x1.toStep.fU (iu C sc env cs)) (kB.stepT x1) R1 so O1)
 intro m s d5 Pq Eq Fq Ca HU HV HW HX;cases d5 with|mk j uk oq iJ hr hc x F R it O=>?_
 induction aau hr hc with
 | done e2 hl e3=>
  exact it.done hA.1 R e2 hl λh' tk um k=>Ca _ (Lu (fin e3 (x.hide (S:=[I]) (by simpa using pz) (λb o hb e=>k b o (by simpa using hb) e)) (R.hid O k) (F.hid nb um k) .next))
 | item m' v bc f1 br aF hm e2 e3 e4 e5 e6=>
  refine it.next R O e2 λc h' tk hv qC um k go=>HU _ _ (go _ _ _ ?_)
  have R1:Rep C iJ oq {s with heap:=h',toks:=tk}:=R.hid O k;have F1:=F.hid nb um k;have x1:=x.hide (S:=[I]) (h':=h') (tk:=tk) (by simpa using pz) (λb o hb e=>k b o (by simpa using hb) e);refine(B8 hS hA.1 ht e3 F1 R1 hv).go λ_z σ2 s2 x2 ag=>xA ag λR2 F2=>?_
  have yZ:=eN.step (s:={s with heap:=h',toks:=tk}) qC R1 R2 x2.toStep ul O;have O2:=O.step x2.toStep qC.live ul;refine(hb n K hK bc oq f1 br aF e4 A env cs _ s2 hA F2 R2).go λfl dJ s3 x3 ag=>bP ag λR3 F3 q=>?_
  have HY:=yZ.step R2 R3 x3.toStep ul O2;have O3:=O2.step x3.toStep yZ.live ul;have x':=(x1.trans x2.toStep).trans x3.toStep;induction q with
  | next=>exact(HV m' _ hm (.mk (j+1) br aF dJ e6 e5 x' F3 R3 HY O3)).1
  | brk=>exact HW _ (fin e6 x' R3 F3 .next)
  | ret v=>exact HX _ _ (fin e6 x' R3 F3 (.ret v))
theorem aay(hS:sc.Ok){target iter:ar}{body:List bS}{t:Tg}{i:Ci}{b:Cs}{pos:aC}(hi:qB C sc iter i)(ht:mr C sc target t)(hb:iw C sc body b)(hs:∀env x,u9 iter env x=pure x) :
  hW C sc (.For target iter body [] pos) (eW t i b):=by
 intro n K hK fr st f aw am h A env cs σ₀ s₀ hA kB R₀;exact be (bu h) λsrc st1 e1 h=>OS hS ht hb hs hK hA kB (H:=(·=src)) (λarP e=>⟨aw,e▸h,λ_ _ x=>x⟩) λQ E k=>hi n K hK fr st src st1 e1 A env cs σ₀ s₀ hA.lo kB R₀ Q E λI aa s'=>k src I aa s' rfl
end
noncomputable def un(ifs:List ar)(env:bd):bo Bool:=forIn ifs true λc r=>if r=true then do let ok <-ti c env (eval c env);pure (g9 ok)else pure (g9 r)
noncomputable def OU(bW:ar)(aO:ac)(env:bd):bo Unit:=eval bW env>>=λx=>PySem.call (.builtin "list.append") [aO,x]>>=λ_z=>pure ()
noncomputable def OV(e:ar)(d:Nat)(iter:ar)(aO:ac)(env:bd)(k:bo Fin):bo Fin:=
 eval iter env>>=λx=>gv iter.pos>>=λ_z=>u9 iter env x>>=λx=>holding [x] (vb x)>>=λit=>runOwn (.compStart e (d+1) it aO env) env>>=λ_z=>k
section
variable {bW:ar}{gens:List lh}{scope:dQ}{pos:aC}{d:Nat}{t e8:ar}{ifs:List ar}{it aO:ac}{env:bd}
theorem aaz(h:gens[d]?=some ⟨t,e8,ifs,0⟩)(h2:gens[d+1]?=none):Ag (.ListComp bW gens scope pos) d it aO env=(gv e8.pos>>=λ_z=>Am it>>=λr=>match r with
  | none=>pure (.done .next)
  | some v=>tj t it v>>=λ_z=>assign t env v>>=λ_z=>un ifs env>>=λok=>
   if ok=true then OU bW aO env>>=λ_z=>again (.compLoop (.ListComp bW gens scope pos) d it aO env)else again (.compLoop (.ListComp bW gens scope pos) d it aO env)):=by
 unfold Ag;simp only[h,h2]
 rfl
theorem aaA{g:lh}(h:gens[d]?=some ⟨t,e8,ifs,0⟩)(h2:gens[d+1]?=some g)(h3:g.is_async=0):Ag (.ListComp bW gens scope pos) d it aO env=(gv e8.pos>>=λ_z=>Am it>>=λr=>match r with
  | none=>pure (.done .next)
  | some v=>tj t it v>>=λ_z=>assign t env v>>=λ_z=>un ifs env>>=λok=>
   if ok=true then OV (.ListComp bW gens scope pos) d g.iter aO env (again (.compLoop (.ListComp bW gens scope pos) d it aO env))else again (.compLoop (.ListComp bW gens scope pos) d it aO env)):=by
 obtain⟨gt,gi,gf,ga⟩:=g;subst h3;unfold Ag;simp only[h,h2]
 rfl
end
def ms(C:Cx)(σ:Sg)(aO:List V)(D:al)(h:cD):Prop:=∃ys,h.PlainList D ys/\az C σ aO.reverse ys.toList
def wk(bW:ar)(gens:List lh)(scope:dQ)(pos:aC)(d:Nat)(aO:ac)(env:bd)(k:bo Fin)(ok:Bool):bo Fin:=
 if ok=true then(match gens[d+1]? with|none=>OU bW aO env>>=λ_z=>k|some g=>OV (.ListComp bW gens scope pos) d g.iter aO env k)else k
def pA(C:Cx)(sc:Sc)(bW:ar)(gens:List lh)(scope:dQ)(pos:aC)(d:Nat)(ifs:List ar)(g:Cg):Prop:=
 ∀n K,fq C n K->∀aO fr st mu aw am,g K aO fr st=some (mu,aw,am)->∀A env cs σ s D (k:bo Fin),cC n A->bp C sc fr env cs σ s->Rep C σ st s->ms C σ aO D s.heap->Out C σ D->D∉env.locals::cs ->
  ∀(Q:Fin->ak->Prop) (E:ac->ak->Prop),(∀aa s',Step (D::cJ C sc env cs) σ aa s s'->Rep C aa am s'->bp C sc aw env cs aa s'->ms C aa mu D s'.heap->Out C aa D->aR (model C.prog C.w) A k Q E s') ->
   aR (model C.prog C.w) A (un ifs env) (λok s1=>aR (model C.prog C.w) A (wk bW gens scope pos d (.ref D) env k ok) Q E s1) E s
def Cb(K:bb)(t:Tg)(g:Cg)(src:Src)(j m:Nat)(aO:List V)(fr:Fr)(st:St):Option (List V×Fr×St):=match src with
 | .vals l=>qg K t g (l.drop j) aO fr st
 | .lst n=>GL K t g n m j aO fr st
section
variable {C:Cx}{N:cP}{mg mb:ai->Option ac}{A:bC}{σ aa:Sg}{s s':ak}{ow:List al}{sc:Sc}{fr:Fr}{env:bd}{cs:List al}{st:St}
variable {bW:ar}{gens:List lh}{scope:dQ}{pos:aC}{d:Nat}{ifs:List ar}
inductive RC(K:bb)(t:Tg)(g:Cg)(src:Src)(r:List V×Fr×St)(j:Nat)(aO:List V)(fr:Fr)(st:St)(m:Nat):Prop
 | done (h:na st src j=some none) (hl:∀l,src=.vals l->j<=l.length) (e:(aO,fr,st)=r)
 | item (m':Nat) (v:V) (bc:Fr) (y0:List V) (br:Fr) (aF:St) (hm:m'<m) (h:na st src j=some (some v)) (e1:pp v t fr st=some bc) (e2:g K aO bc st=some (y0,br,aF)) (c:sk src (j+1) m') (e:Cb K t g src (j+1) m' y0 br aF=some r)
theorem aaB{K:bb}{t:Tg}{g:Cg}{src:Src}{j m:Nat}{aO:List V}{r:List V×Fr×St}(h:Cb K t g src j m aO fr st=some r)(hc:sk src j m):RC K t g src r j aO fr st m:=by
 induction src with
 | vals l=>
  have hc:=hc;have h:qg K t g (l.drop j) aO fr st=some r:=h
  by_cases hj:j<l.length
  ·rw[LG hj]at h;exact ah (av h) λbc e1 h=>dN (ky h) λf br aF e2 h=>.item (m-1) l[j] bc f br aF (LV (o7 _) (L9 hc hj).symm) (OP hj) e1 e2 (L' hc hj) h
  ·rw[Fj.mpr (oZ hj)]at h;exact .done (OQ hj) (λl' e=>by cases e;exact Nat.le.intro hc) (aI h)
 | lst n=>
  have h:=h;induction m using nI with
  | zero=>exact ah (av h) λo e1 h=>ah (av h) λ_ e2 h=>.done (OO e2▸e1) (λl e=>nomatch e) (aI h)
  | succ m=>
   exact ah (av h) λo e1 h=>ah (av h) λv e2 h=>ah (av h) λbc e3 h=>dN (ky h) λf br aF e4 h=>.item m v bc f br aF (o7 _) (e2▸e1) e3 e4 trivial h
theorem ms.step{aO:List V}{D:al}(x:ms C σ aO D s.heap)(y:Step ow σ aa s s')(hO:Out C σ D)(hD:D∉ow):ms C aa aO D s'.heap:=by
 refine ah x λys ag v=>?_;exact xE ag λn e=>⟨ys,⟨n,y.keep D _ e hO.o hD⟩,v.mono y.le⟩
theorem ms.live{aO:List V}{D:al}{h:cD}(x:ms C σ aO D h):(h.get? D).isSome=true:=by
 refine ah x λys ag v=>?_;refine xE ag λn e=>ab (e ..) ?_;rfl
theorem aaC{M:rj}{ifs:List ar}{Q:Bool->ak->Prop}{E:ac->ak->Prop}(h:Q false s):aR M A (forIn ifs false λc r=>if r=true then do let ok <-ti c env (eval c env);pure (g9 ok)else pure (g9 r)) Q E s:=by
 induction ifs with
 | nil=>exact bj h
 | cons c ifs ih=>refine ab (mD ..) (aA (bj ih))
theorem aaD{M:rj}{c:ar}{ifs:List ar}{Q:Bool->ak->Prop}{E:ac->ak->Prop}(h:aR M A (ti c env (eval c env)) (λb s1=>if b=true then aR M A (un ifs env) Q E s1 else Q false s1) E s) :
  aR M A (un (c::ifs) env) Q E s:=by
 unfold un;simp only[mD,if_true];refine aA (aA (c8 h (λb s1 h1=>bj ?_) λ_z _z e=>e));induction b with
 | true=>simp only[if_true]at h1;exact h1
 | false=>simp only[rp,if_false]at h1;exact aaC h1
theorem Cc{D:al}:∀a∈cJ C sc env cs,a∈D::cJ C sc env cs:=λ_z h=>bL _ h
theorem aaE{t:ar}{ct:Ct}{g:Cg}(ht:mj C sc t ct)(hg:pA C sc bW gens scope pos d ifs g):pA C sc bW gens scope pos d (t::ifs) (jq ct g):=by
 intro n K hK aO fr st mu aw am h A env cs σ s D k hA F R a O hD Q E hQ;refine be (bu h) λb st1 e1 h=>aaD ((ht n K hK fr st b st1 e1 A env cs σ s hA F R).go (λv aY s1 x1 ag=>xA ag λR1 q=>?_))
 subst v;have F1:=F.stepT x1;have a1:=a.step x1.toStep O O.t;have O1:=O.step x1.toStep a.live O.t;have w1:Step (D::cJ C sc env cs) σ aY s s1:=x1.toStep.fU λz hz=>Cc z (iu C sc env cs z hz)
 induction b with
 | true=>
  simp only[if_true];exact hg n K hK aO fr st1 mu aw am h A env cs aY s1 D k hA F1 R1 a1 O1 hD Q E λaa s' y R' F' a' O'=>hQ aa s' (w1.trans y) R' F' a' O'
 | false=>
  cases h;simp only[rp,if_false];exact hQ aY s1 w1 R1 F1 a1 O1
theorem aaF{c:Cd}(he:bn C sc bW c)(hd:gens[d+1]?=none):pA C sc bW gens scope pos d [] (bE c):=by
 intro n K hK aO fr st mu aw am h A env cs σ s D k hA F R a O hD Q E hQ;refine be (bu h) λv st1 e1 h=>?_
 split at h
 ·rename_i hl
  revert h;refine Mg λag cU mX=>?_;subst ag fr st1
  refine bj ?_;unfold wk;refine ab (if_pos rfl ..) ?_;refine ab (hd ..) (aA (aA ((he n K hK _ st v _ e1 A env cs σ s hA F R).go (λcv aY s1 x1 ag=>xA ag λR1 V1=>?_))));refine ah (a.step x1.toStep O O.t) λys pl hv=>?_
  have O1:=O.step x1.toStep a.live O.t;have F1:=F.stepT x1;have hsz:ys.size<=gI:=by
   have:=hv.items
   rw[xK]at this
   have:=mZ hl
   refine ab (ir ..) ?_;lia
  refine aA (aql (hsz:=hsz) pl λh' Ce hs=>bj ?_);have hi:(h'.get? D).isSome=true:=by refine xE Ce λn e=>?_;refine ab (e ..) ?_;rfl
  have w1:Step (D::cJ C sc env cs) σ aY s s1:=x1.toStep.fU λz hz=>Cc z (iu C sc env cs z hz)
  refine hQ aY {s1 with heap:=h'} (w1.trans (Step.one (k:=s1.toks) hs bT hi)) (R1.one (k:=s1.toks) hs O1.o O1.f O1.t O1.z) (F1.hid hD (dr _) λb o hb e=>hs.extBut b o hb e) ⟨ys.push cv,Ce,?_⟩ O1;refine ab (UN ..) ?_;exact ab (vl ..) (hv.append (.cons V1 .nil))
 ·exact au h
end
section
variable {C:Cx}{N:cP}{mg mb:ai->Option ac}{A:bC}{σ aa:Sg}{s s':ak}{ow:List al}{sc:Sc}{fr:Fr}{env:bd}{cs:List al}{st:St}
variable {bW:ar}{gens:List lh}{scope:dQ}{pos:aC}{d:Nat}{ifs:List ar}
theorem eN.again{src:Src}{I:al}{i:Nat}(x:eN C A σ s.heap src I i){Q E:ac->ak->Prop}(q:Q (.ref I) s):aR (model C.prog C.w) A (vb (.ref I)) Q E s:=by
 induction src with
 | vals l=>refine gY x λfp P St W h _z=>?_;exact W.self i s Q E h q
 | lst n=>refine ah x λw hw h=>?_;exact wpAny_pyIter_listiter h q
inductive OW(C:Cx)(A:bC)(sc:Sc)(env:bd)(cs:List al)(K:bb)(t:Tg)(g:Cg)(src:Src)(r:List V×Fr×St)(I D:al)(σ₀:Sg)(s₀:ak)(m:Nat)(s:ak):Prop
 | mk (j:Nat) (aO:List V) (fr:Fr) (st:St) (σ:Sg) (hr:Cb K t g src j m aO fr st=some r) (hc:sk src j m) (x:Step (D::cJ C sc env cs) σ₀ σ s₀ s) (F:bp C sc fr env cs σ s) (R:Rep C σ st s) (it:eN C A σ s.heap src I j) (O:Out C σ I) (a:ms C σ aO D s.heap) (OD:Out C σ D)
theorem OX(hS:sc.Ok)(has:∀g∈gens,g.is_async=0){t e8:ar}{tg:Tg}{g:Cg}(sr:gens[d]?=some ⟨t,e8,ifs,0⟩)(ht:mr C sc t tg)(hg:pA C sc bW gens scope pos d ifs g)
  {n:Nat} {K:bb} (hK:fq C n K) (hA:cC n A) {src:Src} {I D:al} {mu:List V} {aw:Fr} {am:St} {σ₀:Sg} {s₀:ak}
  (nb:I∉env.locals::cs) (ul:s₀.heap.get? I=none) (uo:I≠D) (hD:D∉env.locals::cs)
  {m:Nat} (hm:OW C A sc env cs K tg g src (mu,aw,am) I D σ₀ s₀ m s) :
  rk (model C.prog C.w) A (.compLoop (.ListComp bW gens scope pos) d (.ref I) (.ref D) env)
   (λr s'=>r=.ok .next/\∃aa,Step (D::cJ C sc env cs) σ₀ aa s₀ s'/\Rep C aa am s'/\bp C sc aw env cs aa s'/\ms C aa mu D s'.heap/\Out C aa D) s:=by
 refine codeAny_loop rfl (OW C A sc env cs K tg g src (mu,aw,am) I D σ₀ s₀)
  (λm s hI=>?_) m hm
 show aR _ A ((Ag (.ListComp bW gens scope pos) d (.ref I) (.ref D) env).onRaise (λx=>do noteFrame x env;theTreesLotGoes x)) _ _ s
 refine wpAny_noted ?_;cases hI with|mk j aO fr st σ hr hc x F R it O a OD=>?_
 have aaG:Ag (.ListComp bW gens scope pos) d (.ref I) (.ref D) env=(gv e8.pos>>=λ_z=>Am (.ref I)>>=λr=>match r with
   | none=>pure (.done .next)
   | some v=>tj t (.ref I) v>>=λ_z=>assign t env v>>=λ_z=>un ifs env>>=λok=>
    wk bW gens scope pos d (.ref D) env (again (.compLoop (.ListComp bW gens scope pos) d (.ref I) (.ref D) env)) ok):=by
  induction hn:gens[d+1]? with
  | none=>refine ab (aaz sr hn ..) ?_;unfold wk;refine ab (hn ..) ?_;try rfl
  | some g'=>refine ab (aaA sr hn (has g' (fK hn)) ..) ?_;unfold wk;refine ab (hn ..) ?_;try rfl
 refine ab (aaG ..) (Wn λP_ E_ OY=>aA (kN (aA (lz λP2_ OZ=>?_))));induction aaB hr hc with
 | done e2 hl e3=>
  refine it.done hA.1 R e2 hl λh' tk um k=>OZ _ _ (bj (OY _ _ ⟨rfl,Mi e3 ⟨σ,x.hide (S:=[I]) (by simpa using ul) (λb o hb e=>k b o (by simpa using hb) e),R.hid O k,F.hid nb um k,?_,OD⟩⟩))
  refine ah a λys ag pv=>?_;refine xE ag λq pe=>?_;clear ag
  exact aW ys ⟨q,k D _ (vq uo) pe⟩ pv
 | item m' v bc y0 br aF hm e2 e3 e4 e5 e6=>
  refine it.next R O e2 λc h' tk hv qC um k go=>OZ _ _ (aA (go _ _ _ ?_))
  have R1:Rep C σ st {s with heap:=h',toks:=tk}:=R.hid O k;have F1:=F.hid nb um k;have x1:=x.hide (S:=[I]) (h':=h') (tk:=tk) (by simpa using ul) (λb o hb e=>k b o (by simpa using hb) e);have a1:ms C σ aO D ({s with heap:=h',toks:=tk}:ak).heap:=by
   refine ah a λys ag pv=>?_;clear a;refine xE ag λq pe=>?_;clear ag
   exact aW ys ⟨q,k D _ (vq uo) pe⟩ pv
  have HZ:I∉cJ C sc env cs:=qA nb O.t;have Cf:D∉cJ C sc env cs:=qA hD OD.t;refine aA ((B8 hS hA.1 ht e3 F1 R1 hv).go (λ_z σ2 s2 x2 ag=>xA ag λR2 F2=>?_));have yZ:=eN.step (s:={s with heap:=h',toks:=tk}) qC R1 R2 x2.toStep HZ O;have O2:=O.step x2.toStep qC.live HZ;have a2:=a1.step x2.toStep OD Cf;have OD2:=OD.step x2.toStep a1.live Cf;refine aA (hg n K hK aO bc st y0 br aF e4 A env cs _ s2 D _ hA F2 R2 a2 OD2 hD _ _ λdJ s3 x3 R3 F3 a3 OD3=>?_);have O4:I∉D::cJ C sc env cs:=by simp only[cW,not_or];exact⟨uo,HZ⟩
  have HY:=yZ.step R2 R3 x3 O4 O2;have O3:=O2.step x3 yZ.live O4;have x':=(x1.trans (x2.toStep.fU Cc)).trans x3;exact bj (OY _ _ ⟨rfl,m',hm,.mk (j+1) y0 br aF dJ e6 e5 x' F3 R3 HY O3 a3 OD3⟩)
theorem aaH:clausesOf (.ListComp bW gens scope pos)=gens:=rfl
theorem O5{R:Result->ak->Prop}{t e8:ar}(sr:gens[d]?=some ⟨t,e8,ifs,0⟩){it aO:ac}(h0:rk (model C.prog C.w) A (.compLoop (.ListComp bW gens scope pos) d it aO env) R s)
  (h:aR (model C.prog C.w) A (vb it) (λqC s'=>rk (model C.prog C.w) A (.compLoop (.ListComp bW gens scope pos) d qC aO env) R s') (notedBy (model C.prog C.w) A env λx s'=>R (.error x) s') s) :
  rk (model C.prog C.w) A (.compStart (.ListComp bW gens scope pos) d it aO env) R s:=by
 refine codeAny_of_tree ?_
 show aR _ _ ((compStart (.ListComp bW gens scope pos) d it aO env).onRaise (λx=>do noteFrame x env;gv theWindowsPlace)) _ _ s
 refine PySem.wpAny_notedAt ?_;unfold compStart;refine ab (aaH ..) ?_;refine ab (sr ..) ?_;refine aA (aqh (wpAny_ite ?_));split
 ·first
   | exact aA (bj (bj (vg rfl h0)))
   | exact bj (vg rfl h0)
 ·first
   | exact aA (UK (aA (kN (aA (c8 h (λqC s' h'=>bj (vg rfl h')) λ_z _z x=>x)))))
   | (refine aA (UK ?_);exact aA (kN (aA (c8 h (λqC s' h'=>bj (vg rfl h')) λ_z _z x=>x))))
theorem O6{K:bb}{t:Tg}{g:Cg}{src:Src}{aO:List V}{r:List V×Fr×St}(h:Bc K t g src aO fr st=some r):∃m,Cb K t g src 0 m aO fr st=some r/\sk src 0 m:=by
 refine FW λNV ub=>?_
 induction src with
 | vals l=>exact ub ((aW l.length h (by exact jh _ _)))
 | lst n=>exact ub ((aW (Bb st n) h trivial))
theorem aaI(hS:sc.Ok)(has:∀g∈gens,g.is_async=0){t e8:ar}{tg:Tg}{i:Ci}{g:Cg}(sr:gens[d+1]?=some ⟨t,e8,ifs,0⟩)(hi:qB C sc e8 i)(hs:∀env x,u9 e8 env x=pure x)(ht:mr C sc t tg)(hg:pA C sc bW gens scope pos (d+1) ifs g) :
  pA C sc bW gens scope pos d [] (tY tg i g):=by
 intro n K hK aO fr st mu aw am h A env cs σ s D k hA F R a O hD Q E hQ;refine be (bu h) λsrc st1 e1 h=>ah (O6 h) λm hr hc=>bj ?_
 unfold wk;refine ab (if_pos rfl ..) ?_;refine ab (sr ..) ?_;refine aA (c8 (hi n K hK fr st src st1 e1 A env cs σ s hA F R (λit s'=>aR (model C.prog C.w) A (runOwn (.compStart (.ListComp bW gens scope pos) (d+1) it (.ref D) env) env>>=λ_z=>k) Q E s') E λI aY s1 x1 R1 so pz O1=>?_)
  (λx s1 h1=>aA (kN (aA (wpAny_of_eq (hs env x) (aA (fY h1)))))) λ_z _z e=>e)
 have F1:=F.stepT x1;have a1:=a.step x1.toStep O O.t;have OD1:=O.step x1.toStep a.live O.t;have nb:I∉env.locals::cs:=λq=>by have:=F.has I q;rw[pz]at this;exact bV this
 have uo:I≠D:=λq=>by have:=a.live;rw[<-q,pz]at this;exact bV this
 have w1:Step (D::cJ C sc env cs) σ aY s s1:=x1.toStep.fU λz hz=>Cc z (iu C sc env cs z hz)
 have rV:=OX (A:=A) (scope:=scope) (pos:=pos) hS has sr ht hg hK hA nb pz uo hD (.mk 0 aO fr st1 aY hr hc w1 F1 R1 so O1 a1 OD1);refine aA (wpAny_runOwn (s9 (O5 sr rV (so.again rV)) λr s' ag=>tG ag λe aa y cU=>iU cU λR' F' a' O'=>?_));subst e;exact hQ aa s' y R' F' a' O'
end
noncomputable def ng(k:lj)(x:ai×lj):Bool:=x.2==k
def gQ(names:List (ai×lj)):List ai:=(names.filter (ng .cell)).map (·.1)
def eO(names:List (ai×lj)):List ai:=(names.filter (ng .free)).map (·.1)
noncomputable def ss(n:Nat):List ai->List (ai×al)
 | []=>[]
 | x::r=>(x,n)::ss (n+1) r
theorem H0{k:lj}{p:ai×lj}{r:List (ai×lj)}(h:(p.2==k)=true):((p::r).filter (ng k)).map (·.1)=p.1::(r.filter (ng k)).map (·.1):=by rw[U5 (p:=ng k) h];rfl
theorem H1{k:lj}{p:ai×lj}{r:List (ai×lj)}(h:¬(p.2==k)=true):((p::r).filter (ng k)).map (·.1)=(r.filter (ng k)).map (·.1):=by rw[U4 (p:=ng k) h]
theorem O7(names:List (ai×lj)):∀(n:Nat) (aO:List (ai×al)),s8 n names aO=(ss n (gQ names)).reverse++aO:=by
 induction names with
 | nil=>exactλ_ _=>rfl
 | cons p r ih=>
  intro n aO
  show(if(p.2==Aw)=true then s8 (n+1) r ((p.1,n)::aO)else s8 n r aO)=_
  by_cases h:(p.2==Aw)=true
  ·rw[if_pos h,ih,show gQ (p::r)=p.1::gQ r from H0 h,ss,vl,gJ];rfl
  ·rw[if_neg h,ih,show gQ (p::r)=gQ r from H1 h]
theorem aaJ(names:List (ai×lj)):∀(h:cD) (i:Nat),i<(gQ names).length->(kL h names).IsCell (h.objs.size+i) none:=by
 induction names with
 | nil=>exactλ_ _ hi=>absurd hi (xQ _)
 | cons p r ih=>
  intro h i hi
  show(if(p.2==Aw)=true then kL (h.push {cls:=.type "cell",data:=.cell none}) r else kL h r).IsCell _ _
  by_cases hk:(p.2==Aw)=true
  ·rw[if_pos hk];rw[show gQ (p::r)=p.1::gQ r from H0 hk]at hi;induction i using nI with
   | zero=>exact(show Heap.IsCell (h.push {cls:=.type "cell",data:=.cell none}) (h.objs.size+0) none from⟨_,jg _ rfl,rfl⟩).keeps (Al r _)
   | succ i=>
    have:=ih (h.push {cls:=.type "cell",data:=.cell none}) i (xO hi)
    rw[xI,lu,jh 1]at this;exact this
  ·rw[if_neg hk];rw[show gQ (p::r)=gQ r from H1 hk]at hi;exact ih h i hi
theorem aaK(l:List ai):∀(n i:Nat) (x:ai),l[i]?=some x->(x,n+i)∈ss n l:=by
 induction l with
 | nil=>exactλ_ _ _ h=>au h
 | cons y l ih=>
  intro n i x h;induction i using nI with
  | zero=>exact bf (P:=λx=>(x,n)∈ss n (y::l)) h bT
  | succ i=>
   have:=ih (n+1) i x h
   rw[lu,jh 1]at this;exact bL _ this
theorem O8(l:List ai):∀n:Nat,(ss n l).map (·.1)=l:=by
 induction l with
 | nil=>exactλ_=>rfl
 | cons y l ih=>exactλn=>congrArg (y::·) (ih (n+1))
theorem O9{α:Type}{l:List (ai×α)}{x y:ai}{a:α}(h:x≠y):((y,a)::l).lookup x=l.lookup x:=by rw[LJ,beq_eq_false_iff_ne.mpr h]
theorem H2{α:Type}{l:List (ai×α)}{x:ai}{a:α}(hn:(l.map (·.1)).Nodup)(h:(x,a)∈l):l.lookup x=some a:=by
 induction l with
 | nil=>exact nomatch h
 | cons p l ih=>
  have hn:=lT.mp hn;refine(cW.mp h).elim (λe=>?_) λh=>?_
  ·exact e▸List.lookup_cons_self
  ·exact(O9 λq=>hn.1 (dF.mpr ⟨_,h,q⟩)).trans (ih hn.2 h)
theorem Pa{α:Type}{l:List (ai×α)}{x:ai}(h:x∉l.map (·.1)):l.lookup x=none:=by
 induction l with
 | nil=>rfl
 | cons p l ih=>exact(O9 λq=>h (cW.mpr (.inl q))).trans (ih λm=>h (bL _ m))
abbrev Pb(env:bd)(x:ai×lj)(r:List (ai×al)):bo (ForInStep (List (ai×al))):=match x with|(name,kind)=>if(kind==Vc)=true then(do let a <-Lc env name;pure (g9 ((name,a)::r)))else(pure (g9 r):bo (ForInStep (List (ai×al))))
theorem aaL{env:bd}{f:ai->al}(names:List (ai×lj)):∀aO:List (ai×al),(∀n∈eO names,env.cells.lookup n=some (f n)) ->
  forIn names aO (Pb env)=pure (((eO names).map λn=>(n,f n)).reverse++aO):=by
 induction names with
 | nil=>exactλ_ _=>rfl
 | cons p r ih=>
  intro aO h;rw[mD]
  show(if(p.2==Vc)=true then(do let a <-Lc env p.1;pure (g9 ((p.1,a)::aO)))else(pure (g9 aO):bo (ForInStep (List (ai×al)))))>>=_=_
  by_cases hk:(p.2==Vc)=true
  ·have e:eO (p::r)=p.1::eO r:=H0 hk;have h1:Lc env p.1=pure (f p.1):=by
    unfold Lc;rw[h p.1 (by exact ab (e) bT)]
   rw[if_pos hk,h1]
   show(forIn r ((p.1,f p.1)::aO) _:bo (List (ai×al)))=_
   rw[ih _ λn hn=>h n (by exact ab (e) (bL _ hn)),e,jE,vl,gJ]
   rfl
  ·have e:eO (p::r)=eO r:=H1 hk;rw[if_neg hk]
   show(forIn r aO _:bo (List (ai×al)))=_
   rw[ih _ λn hn=>h n (by exact ab (e) hn),e]
theorem Pd{env:bd}{f:ai->al}{scope:dQ}(h:∀n∈eO scope.names,env.cells.lookup n=some (f n)):Ux scope env=pure (((eO scope.names).map λn=>(n,f n)).reverse):=by
 have:=aaL (env:=env) (f:=f) scope.names [] h
 rw[fS]at this
 show forIn scope.names ([]:List (ai×al)) (Pb env)>>=pure=_
 rw[this];rfl
section
variable {M:rj}{A:bC}{E:ac->ak->Prop}{s:ak}
theorem aaM{scope:dQ}{globals:al}{cl:List (ai×al)}{qual:ai}{env:bd}{Q:bd->ak->Prop}
  (h:Q {scope:=scope,locals:=s.heap.objs.size,globals:=globals,cells:=s8 (s.heap.objs.size+1) scope.names cl,qual:=qual,func:=none,code:=env.code,frame:=env.frame,builtins:=env.builtins}
   {s with heap:=kL (s.heap.push {cls:=.type "dict",data:=.dict #[]}) scope.names}) :
  aR M A (E8 scope globals cl [] qual none .none (some env)) Q E s:=by
 simp only[E8,Option.isSome_some,if_true];refine aA (Lr ?_);refine aA (wpAny_layCells _ (λname kind cells=>by induction hkc:kind==Aw<;>rfl) _ _ _ _ ?_);refine ab (show({s with heap:=s.heap.push {cls:=.type "dict",data:=.dict #[]}}:ak).heap.objs.size=s.heap.objs.size+1 from xI ..) ?_;exact aA (bj (bj h))
end
noncomputable def Pe(scope Pf:dQ):dQ:=
 {scope with names:=scope.names.map fun(n,k)=>if(k==.free&&Pf.kind==.function&&Pf.names.lookup n==some .cell)then(n,.cell)else(n,k)}
theorem Pg(n:Nat):∀i,i<n->(fN n)[i]?=some none:=by
 induction n with
 | zero=>exactλ_ h=>absurd h (xQ _)
 | succ n ih=>exactλi=>nI i (λ_=>rfl) λi h=>ih i (xO h)
theorem wl:∀n,(fN n).length=n
 | 0=>rfl
 | n+1=>congrArg (·+1) (wl n)
theorem Ph{Cl:List (Option V)}{free:List Nat}:∀{cl:List (Option V)},nS Cl free=some cl->cl.length=free.length/\∀(j i:Nat),free[j]?=some i->∃v,Cl[i]?=some v/\cl[j]?=some v:=by
 induction free with
 | nil=>intro cl h;exact⟨aI h▸rfl,λj i e=>au e⟩
 | cons i free ih=>
  intro cl h;refine ah (av h) λv e h=>ah (av h) λvs e2 h=>bf h (xA (ih e2) λh1 h2=>⟨congrArg (·+1) h1,λj i' e'=>?_⟩)
  induction j with
  | zero=>exact aW v (aI e'▸e) rfl
  | succ j=>exact h2 j i' e'
theorem nodup_map_on{α β:Type}{f:α->β}{l:List α}:(∀x∈l,∀y∈l,f x=f y->x=y)->l.Nodup->(l.map f).Nodup:=by
 induction l with
 | nil=>exactλ_ _=>tC
 | cons x l ih=>
  intro h hn;refine xA (lT.mp hn) λh1 h2=>lT.mpr ⟨λq=>?_,ih (λa ha b hb=>h a (bL _ ha) b (bL _ hb)) h2⟩
  refine ah (dF.mp q) λy hy e=>?_
  have:=h x bT y (bL _ hy) e.symm
  exact h1 (this▸hy)
theorem H3{α:Type}{l:List α}(h:l.Nodup):l.reverse.Nodup:=List.pairwise_reverse.mpr (List.Pairwise.imp (λq=>vq q) h)
structure ou(sc dL:Sc)(scope:dQ)(free:List Nat)(nl nc:Nat):Prop where
 ok:dL.Ok
 scp:dL.scope=Pe scope sc.scope
 cn:dL.cn=gQ scope.names++eO scope.names
 nw:dL.nw=nc
 nc:(gQ scope.names).length=nc
 nl:dL.ln.length=nl
 free:free.map (λi=>sc.cn[i]?)=(eO scope.names).map some
 kind:scope.kind=.function
 cd:dL.cd=.none
 fin:dL.fin=sc.fin
 names:∀x∈scope.names,x.2=.local->scope.names.lookup x.1=some .local
section
variable {C:Cx}{N:cP}{mg mb:ai->Option ac}{A:bC}{σ aa:Sg}{s s':ak}{ow:List al}{sc dL:Sc}{fr:Fr}{env:bd}{cs:List al}{st:St}
variable {bW:ar}{gs:List lh}{scope:dQ}{pos:aC}{ifs:List ar}{free:List Nat}{nl nc:Nat}
theorem j6.new(R:Rep C σ st s){b:Bool}{a:al}(h:s.heap.get? a=none):j6 b σ none a:=by unfold j6;split<;>first|exact R.t6 h|(rename_i q;exact au q)
theorem ou.idx(X:ou sc dL scope free nl nc){j:Nat}{n:ai}(h:(eO scope.names)[j]?=some n):∃i,free[j]?=some i/\sc.cn[i]?=some n:=by
 have e:(free.map (λi=>sc.cn[i]?))[j]?=((eO scope.names).map some)[j]?:=by rw[X.free]
 rw[pR,pR,h]at e;induction hf:free[j]? with
 | none=>rw[hf]at e;exact au e
 | some i=>
  rw[hf]at e;exact(aW i rfl (mH.inj e))
noncomputable def ix(env:bd)(n:ai):al:=(env.cells.lookup n).getD 0
theorem ou.cell(X:ou sc dL scope free nl nc)(F:bp C sc fr env cs σ s){j:Nat}{n:ai}(h:(eO scope.names)[j]?=some n) :
  ∃i v c,free[j]?=some i/\cs[i]?=some (ix env n)/\env.cells.lookup n=some (ix env n)/\fr.C[i]?=some v/\s.heap.IsCell (ix env n) c/\kz C σ v c/\j6 sc.fin σ v (ix env n):=by
 refine ah (X.idx h) λi hi hn=>nM (F.bi i n hn) λa v c e1 e2 e3 e4 e5 e6=>?_
 have:ix env n=a:=by unfold ix;rw[e2];rfl
 refine ab (this) ?_;exact⟨i,v,c,hi,e1,e2,e3,e4,e5,e6⟩
theorem ou.clos(X:ou sc dL scope free nl nc)(F:bp C sc fr env cs σ s):Ux scope env=pure (((eO scope.names).map λn=>(n,ix env n)).reverse):=
 Pd λn hn=>by
  refine xE (pS hn) λj hj=>?_
  exact vw (X.cell F hj) λi v c _z _z e _z=>e
theorem Pi(R:Rep C σ st s)(hS:sc.Ok){free:List ai}{names:List (ai×lj)}(Ch:sc.cn=gQ names++free){nl nc:Nat}(Pj:sc.ln.length=nl)(qj:(gQ names).length=nc)(ht:0<s.toks){h₁:cD}(hk:∀b o,s.heap.get? b=some o->h₁.get? b=some o)
  (hsz:s.heap.objs.size<=h₁.objs.size) {o:aT} (ho:(h₁.push o).Ns h₁.objs.size λ_z=>none) {cl:List (ai×al)} {cA:List al} {up:List (Option V)}
  (hf:∀(j:Nat) (n:ai),free[j]?=some n->∃(a:al) (v:Option V) (c:Option ac),cA[j]?=some a/\cl.lookup n=some a/\up[j]?=some v/\s.heap.IsCell a c/\kz C σ v c/\j6 sc.fin σ v a)
  (wg:cA.length=free.length) (uq:up.length=free.length) (H4:cA.Nodup) (hfo:∀a∈cA,a∉σ.ρ/\a∉C.tabs/\C.h₀.get? a=none) (Pk:∀a∈cA,(s.heap.get? a).isSome=true)
  {env:bd} (h1:env.scope=sc.scope) (h2:env.globals=kh) (h3:env.builtins=lP) (h4:env.locals=h₁.objs.size) (h5:env.cells=s8 (h₁.objs.size+1) names cl) (h6:sc.cd=.none\/env.code=sc.cd) :
  bp C sc ⟨fN nl,fN nc++up⟩ env (lU (h₁.objs.size+1) nc++cA) σ {s with heap:=kL (h₁.push o) names}:=by
 have wm:=hS.Hg;rw[Ch,tB]at wm;refine bP wm λaaN arQ aaO=>?_
 have k3:∀b o',s.heap.get? b=some o'->(kL (h₁.push o) names).get? b=some o':=λb o' e=>Al _ _ b o' (iD _ (hk b o' e))
 have fresh:∀a,h₁.objs.size<=a->s.heap.get? a=none:=λa ha=>by
  induction e:s.heap.get? a with
  | none=>rfl
  | some o=>exact absurd (kj e) (xP.mpr (dG hsz ha))
 have aaP:(((ss (h₁.objs.size+1) (gQ names)).reverse).map (·.1)).Nodup:=by
  rw[xL,O8];exact H3 aaN
 have pt:(kL (h₁.push o) names).Ns h₁.objs.size λ_z=>none:=ho.keeps (Al _ _)
 have cell:∀i,i<nc->(kL (h₁.push o) names).IsCell (h₁.objs.size+1+i) none:=λi hi=>by
  have:=aaJ names (h₁.push o) i (by exact ab (qj) hi)
  rw[xI]at this;exact this
 have hx:∀a∈env.locals::(lU (h₁.objs.size+1) nc++cA),(h₁.objs.size<=a/\a<h₁.objs.size+1+nc)\/a∈cA:=λa ha=>by
  rcases cW.mp ha with rfl|ha
  ·exact .inl ⟨lV h4.symm,by exact ab (h4) (L7 (o7 _))⟩
  ·rcases dc.mp ha with ha|ha
   ·have:=vk.mp ha
    exact .inl ⟨fh this.1,this.2⟩
   ·exact .inr ha
 refine⟨h1,h2,h3,(aW (λ_z=>none) (h4▸pt) (λi n h=>?_)),λi n h=>?_,λa ha=>?_,h4▸R.t6 (fresh _ (dr _)),λa ha=>?_,?_,?_,?_,?_,ht,h6⟩
 ·have:=(gW.mp h).1
  exact(aW none (Pg _ _ (by exact bX (Pj) this)) .none)
 ·rw[Ch]at h
  by_cases hi:i<nc
  ·rw[pQ (by exact ab (qj) hi)]at h;refine⟨h₁.objs.size+1+i,none,none,?_,?_,?_,cell i hi,.none,j6.new R (fresh _ (dG (pU _) (mG _ i)))⟩
   ·rw[pQ (by simpa using hi)];simp[hi]
   ·rw[h5,O7,ard,H2 aaP (LL.mpr (aaK _ _ _ _ h))]
    rfl
   ·show(fN nc++up)[i]?=_
    rw[pQ (by rw[wl];exact hi)];exact Pg _ _ hi
  ·rw[U9 (by exact ab (qj) (oZ hi)),qj]at h;refine fZ (hf _ _ h) λa v c y=>iV y λe1 e2 e3 e4 e5 e6=>⟨a,v,c,?_,?_,?_,e4.keeps k3,e5,e6⟩
   ·rw[U9 (by simp;exact oZ hi),LH];exact e1
   ·have hn:=fK h;rw[h5,O7,ard,Pa (l:=(ss (h₁.objs.size+1) (gQ names)).reverse) (by
     rw[xL,O8,LL];exactλq=>aaO _ q _ hn rfl)]
    exact e2
   ·show(fN nc++up)[i]?=_
    rw[U9 (by rw[wl];exact oZ hi),wl];exact e3
 ·rcases hx a ha with d5|h1
  ·refine xA d5 λh1 _=>?_
   have:=Out.fresh R (fresh a h1)
   exact⟨this.o,this.t,this.z⟩
  ·exact hfo a h1
 ·rcases cW.mp ha with rfl|ha
  ·refine dN pt λo' _z _z e _z=>?_
   rw[h4,e];rfl
  ·rcases dc.mp ha with ha|ha
   ·have hr:=vk.mp ha
    have:=cell (a-(h₁.objs.size+1)) (Nat.sub_lt_left_of_lt_add hr.1 hr.2)
    rw[VK hr.1]at this;refine ah this λo e _z=>?_
    rw[e];rfl
   ·refine xE (pV.mp (Pk a ha)) λo e=>?_
    rw[k3 _ _ e];rfl
 ·have hold:∀a∈cA,a<h₁.objs.size:=λa ha=>by
   exact xE (pV.mp (Pk a ha)) λo e=>km (kj e) hsz
  refine lT.mpr ⟨λq=>?_,tB.mpr ⟨List.nodup_range',H4,λa ha b hb q=>?_⟩⟩
  ·rw[h4]at q;rcases dc.mp q with q|q
   ·have:=vk.mp q
    exact(FB this.1 (fh this.1)).elim
   ·exact absurd (hold _ q) (nJ _)
  ·have h1:=(vk.mp ha).1;have h2:=hold _ hb;rw[q]at h1;exact(nJ _ (km h2 (fh h1))).elim
 ·show(fN nl).length=_
  rw[wl,Pj]
 ·show(fN nc++up).length=_
  rw[cS,wl,uq,Ch,cS,qj]
 ·rw[cS,LH,wg,Ch,cS,qj]
def wn(scope:dQ)(env:bd)(L nc:Nat):List al:=lU (L+1) nc++(eO scope.names).map (ix env)
theorem aaQ(X:ou sc dL scope free nl nc)(F:bp C sc fr env cs σ s)(R:Rep C σ st s){cl:List (Option V)}(hcl:nS fr.C free=some cl){h₁:cD}(hk:∀b o,s.heap.get? b=some o->h₁.get? b=some o)(hsz:s.heap.objs.size<=h₁.objs.size) :
  bp C dL ⟨fN nl,fN nc++cl⟩ {scope:=relabel scope env,locals:=h₁.objs.size,globals:=env.globals,cells:=s8 (h₁.objs.size+1) scope.names (((eO scope.names).map λn=>(n,ix env n)).reverse),qual:=env.qual,func:=none,code:=env.code,frame:=env.frame,builtins:=env.builtins}
   (wn scope env h₁.objs.size nc) σ {s with heap:=kL (h₁.push {cls:=.type "dict",data:=.dict #[]}) scope.names}:=by
 have wm:=X.ok.Hg;rw[X.cn,tB]at wm;refine xA (Ph hcl) λwo m9=>?_
 have hlf:free.length=(eO scope.names).length:=by
  have:=congrArg Fm X.free
  simpa using this
 have Pl:∀a∈(eO scope.names).map (ix env),a∈cs:=λa ha=>by
  refine ah (dF.mp ha) λn hn ag=>?_;subst ag
  refine xE (pS hn) λj hj=>?_
  exact gY (X.cell F hj) λi v c _z e _z=>fK e
 refine Pi R X.ok X.cn X.nl X.nc F.tok hk hsz (Heap.Ns.new h₁ (.type "dict")) (λj n h=>?_) (by simp) (wo.trans hlf) ?_ (λa ha=>F.out a (bL _ (Pl a ha))) (λa ha=>F.has a (bL _ (Pl a ha))) ?_ F.globals F.builtins rfl rfl (.inl X.cd)
 ·refine nM (X.cell F h) λi0 v c e0 e1 e2 e3 e4 y_5=>xA y_5 λe5 e6=>ah (m9 _ _ e0) λv' q1 q2=>?_
  rw[e3]at q1;replace q1:=aI q1;subst q1;refine⟨ix env n,v,c,?_,?_,q2,e4,e5,X.fin▸e6⟩
  ·rw[pR,h];rfl
  ·have hn:=fK h;refine H2 ?_ (LL.mpr (dF.mpr (aW n hn rfl)));rw[xL,kO];exact H3 (by simpa[Function.comp_def]using wm.2.1)
 ·refine nodup_map_on (λx hx y hy q=>?_) wm.2.1;refine xE (pS hx) λj hj=>?_
  refine xE (pS hy) λj' qD=>?_
  refine gY (X.cell F hj) λi v c e0 e1 _z=>gY (X.cell F qD) λi' v' c' e0' Cj _z=>ah (X.idx hj) λi2 e2 e3=>ah (X.idx qD) λi3 e4 e5=>?_
  rw[e0]at e2;replace e2:=aI e2;subst e2;rw[e0']at e4;replace e4:=aI e4;subst e4;rw[<-q]at Cj;have uh:=(lT.mp F.nd).2
  have:i=i':=by
   by_cases h:i=i'
   ·exact h
   ·exact absurd rfl (wi uh e1 Cj h)
  subst this;rw[e3]at e5;exact mH.inj e5
 ·rw[X.scp,<-F.scope]
  rfl
end
section
variable {C:Cx}{N:cP}{mg mb:ai->Option ac}{A:bC}{σ aa:Sg}{s s':ak}{ow:List al}{sc dL:Sc}{fr:Fr}{env:bd}{cs:List al}{st:St}
variable {bW:ar}{gs:List lh}{scope:dQ}{pos:aC}{ifs:List ar}{free:List Nat}{nl nc:Nat}
theorem bp.stepK{aa:Sg}{s s':ak}(F:bp C sc fr env cs σ s)(x:Step ow σ aa s s')(mY:∀a∈env.locals::cs,a∉ow)(ht:0<s'.toks):bp C sc fr env cs aa s':=by
 refine fL x.same λh' tk ag=>?_;subst ag
 by_cases jG:s.toks<=tk
 ·exact F.step ⟨x,jG⟩ mY
 ·have F':=F.step (s':={s with heap:=h',toks:=s.toks}) ⟨⟨x.ρ,x.φ,x.keep,x.dom,(gK _ _ rfl)⟩,dr _⟩ mY;exact⟨F'.scope,F'.globals,F'.builtins,F'.ns,F'.bi,F'.out,F'.outF,F'.has,F'.nd,F'.jQ,F'.qo,F'.qp,ht,F'.cd⟩
theorem ur(w:al):Sg.Le σ ⟨σ.ρ++[w],σ.φ⟩:=⟨λn b e=>by
  rw[pQ (gW.mp e).1];exact e,λ_z e=>e⟩
theorem Rep.adopt(R:Rep C σ st s){w:al}{o:O}(hO:Out C σ w)(x:OR C ⟨σ.ρ++[w],σ.φ⟩ s.heap o w):Rep C ⟨σ.ρ++[w],σ.φ⟩ (st.push o) s:=by
 refine⟨by simp[St.push,R.n],by simp[St.push,R.l],λi b e=>?_,?_,λb m=>?_,λz hz=>?_,R.base,R.code.mono (ur w) (λ_z _z _z e=>e) (λ_z _z _z _z e=>e) R.base⟩
 ·by_cases hi:i<σ.ρ.length
  ·have e':σ.ρ[i]?=some b:=by
    have:=e
    rw[pQ hi]at this;exact this
   refine ah (R.obj i b e') λo' e1 x'=>(aW o' ?_ (x'.mono (ur w) λ_z z=>z))
   rw[St.yD (by exact ab (R.n) (fh hi)),if_neg (by exact ab (R.n) (AD hi))];exact e1
  ·have:i=σ.ρ.length:=by
    have:=(gW.mp e).1
    simp only[cS,cH,lS]at this;exact FC hi this
   subst this;simp at e;subst e;exact(aW o (by rw[St.yD (by exact ab (R.n) (dr _)),if_pos R.n.symm]) x)
 ·exact tB.mpr ⟨R.nd,(by simp),λb m c m' q=>hO.o (cO.mp m'▸q▸m)⟩
 ·rcases dc.mp m with m|m
  ·exact R.new b m
  ·exact cO.mp m▸hO.z
 ·refine bP (R.df z hz) λa b c=>⟨a,?_,c⟩
  intro m;rcases dc.mp m with m|m
  ·exact b m
  ·exact hO.f z hz (cO.mp m)
theorem Step.adopt{σ₀:Sg}{s₀:ak}{w:al}(x:Step ow σ₀ σ s₀ s)(h:s₀.heap.get? w=none):Step ow σ₀ ⟨σ.ρ++[w],σ.φ⟩ s₀ s:=by
 refine ah x.ρ λm e hm=>⟨(aW (m++[w]) (by rw[e,gJ]) (λa ha=>?_)),x.φ,x.keep,x.dom,x.same⟩
 rcases dc.mp ha with ha|ha
 ·exact hm a ha
 ·exact cO.mp ha▸h
theorem Step.freeze{σ₀:Sg}{s₀:ak}{z:al×aT}(x:Step ow σ₀ σ s₀ s)(h:s₀.heap.get? z.1=none):Step ow σ₀ ⟨σ.ρ,σ.φ++[z]⟩ s₀ s:=by
 refine ah x.φ λm e hm=>⟨x.ρ,(aW (m++[z]) (by rw[e,gJ]) (λa ha=>?_)),x.keep,x.dom,x.same⟩
 rcases dc.mp ha with ha|ha
 ·exact hm a ha
 ·simp at ha;subst ha;exact .inl h
theorem y9{α:Type}(l:List α):∀a:List α,vF l a=l.reverse++a:=by
 induction l with
 | nil=>exactλ_=>rfl
 | cons x l ih=>exactλa=>(ih (x::a)).trans (by rw[vl,gJ];rfl)
noncomputable def aaR(m:Bool)(l:List V)(st:St):V×St:=match m with|true=>(.loc st.n,st.push (.list l))|false=>(.fl l,st)
theorem Pm{m:Bool}{l:List V}{r:V×St}(h:rF m l st=some r):dZ l=true/\some (aaR m l st)=some r:=by
 unfold rF at h;induction e:dZ l with
 | true=>rw[e]at h;exact⟨rfl,by induction m<;>exact h⟩
 | false=>rw[e]at h;exact au h
theorem Pn{m:Bool}{aO:List V}{am:St}{v:V}{D:al}{σ₀:Sg}{s₀:ak}(h:rF m (vF aO []) st=some (v,am))(R:Rep C σ st s)(a:ms C σ aO D s.heap)(O:Out C σ D)(hD:s₀.heap.get? D=none)(x:Step ow σ₀ σ s₀ s) :
  ∃aa,Step ow σ₀ aa s₀ s/\Rep C aa am s/\VR C aa v (.ref D)/\Sg.Le σ aa/\(∀a,Out C σ a->a≠D->Out C aa a):=by
 refine FW λNV ub=>?_
 rw[y9,fS]at h;refine ah a λys ag hv=>?_;refine xE ag λn e=>?_
 refine xA (Pm h) λ_ h=>?_
 induction m with
 | true=>
  revert h;refine FR λag cU=>?_;subst ag cU
  refine ub ((AI _ (x.adopt hD) (R.adopt O ⟨ys,⟨n,e⟩,hv.mono (ur D)⟩) (.loc ?_) (ur D) (λa ha eA=>⟨λq=>?_,ha.f,ha.t,ha.z⟩)))
  ·show(σ.ρ++[_])[st.n]?=_
   rw[R.n];simp
  ·rcases dc.mp q with q|q
   ·exact ha.o q
   ·exact eA (cO.mp q)
 | false=>
  revert h;refine FR λag cU=>?_;subst ag st
  have le:Sg.Le σ ⟨σ.ρ,σ.φ++[(D,jO ys n)]⟩:=⟨λ_z _z e=>e,λ_z e=>jF _ e⟩;refine ub ((AI _ (x.freeze (z:=(D,jO ys n)) hD) (R.freeze (l:=[(D,jO ys n)]) λz hz=>?_) (.fl (mF _ (cO.mpr rfl)) (hv.mono le)) le (λa ha eA=>⟨ha.o,λz hz q=>?_,ha.t,ha.z⟩)))
  ·simp at hz;subst hz;exact⟨e,O.o,O.t,O.z⟩
  ·rcases dc.mp hz with hz|hz
   ·exact ha.f z hz q
   ·simp at hz;subst hz;exact eA q.symm
theorem Po(X:ou sc dL scope free nl nc)(has:∀g∈gs,g.is_async=0){t e8:ar}{tg:Tg}{i:Ci}{g:Cg}(hi:qB C sc e8 i)(hs:∀env x,u9 e8 env x=pure x)(ht:mr C dL t tg)
  (hg:pA C dL bW (⟨t,e8,ifs,0⟩::gs) scope pos 0 ifs g) {n:Nat} {K:bb} (hK:fq C n K) (hA:cC n A) {src:Src} {st1 am:St} {cl:List (Option V)} {mu:List V} {aw:Fr} {σ₀:Sg} {s₀:ak}
  (e1:i K fr st=some (src,st1)) (e2:nS fr.C free=some cl) (e3:Bc K tg g src [] ⟨fN nl,fN nc++cl⟩ st1=some (mu,aw,am)) (F:bp C sc fr env cs σ₀ s₀) (R:Rep C σ₀ st s₀) {p:aC} {use:Option (ac->bo Unit)} {Q E:ac->ak->Prop}
  (hQ:∀D L aa s',Step C.tabs σ₀ aa s₀ s'->Rep C aa am s'->ms C aa mu D s'.heap->Out C aa D->Out C aa L->L≠D->s₀.heap.get? D=none->s₀.heap.get? L=none->(∃m,s'.heap.Ns L m)->0<s'.toks ->
   compPost (model C.prog C.w) A E use Q (.ref D) L (.ok .next) s') :
  aR (model C.prog C.w) A (comprehension (.ListComp bW (⟨t,e8,ifs,0⟩::gs) scope pos) scope env p (newList []) false (eval e8 env) use) Q E s₀:=by
 refine wpAny_comprehension_free (use:=use) rfl (hs env) (X.clos F) X.kind X.names (hi n K hK fr st src st1 e1 A env cs σ₀ s₀ hA F R _ E λI aY s1 x1 R1 so pz O1=>?_);have F1:=F.stepT x1;refine wpAny_newList ?_ (by rw[ir];simp);refine aaM ?_;have k1:∀b o,s1.heap.get? b=some o->(s1.heap.push {cls:=.type "list",data:=.seq ([]:List ac).toArray}).get? b=some o:=λb o e=>iD _ e
 have Ck:s1.heap.objs.size<=(s1.heap.push {cls:=.type "list",data:=.seq ([]:List ac).toArray}).objs.size:=by rw[xI];exact pU _
 have F4:=aaQ (h₁:=s1.heap.push {cls:=.type "list",data:=.seq ([]:List ac).toArray}) X F1 R1 e2 k1 Ck
 generalize Pp:s1.heap.push {cls:=.type "list",data:=.seq ([]:List ac).toArray}=h₁ at F4 k1 Ck ⊢
 have hL:h₁.objs.size=s1.heap.objs.size+1:=by rw[<-Pp,xI]
 have k4:∀b o,s1.heap.get? b=some o->(kL (h₁.push {cls:=.type "dict",data:=.dict #[]}) scope.names).get? b=some o:=λb o e=>Al _ _ b o (iD _ (k1 b o e))
 have fresh:∀a,s1.heap.objs.size<=a->s1.heap.get? a=none:=λa ha=>by
  induction e:s1.heap.get? a with
  | none=>rfl
  | some o=>exact absurd (kj e) (xP.mpr ha)
 have eD:(kL (h₁.push {cls:=.type "dict",data:=.dict #[]}) scope.names).PlainList s1.heap.objs.size #[]:=⟨_,Al _ _ _ _ (iD _ (by exact bX (Pp) (jg _ rfl)))⟩;have OD:=Out.fresh R1 (fresh _ (dr _));have OL:=Out.fresh R1 (fresh _ Ck);have nD:=x1.dom _ (fresh _ (dr _));have nL:=x1.dom _ (fresh _ Ck);have us:∀a∈(eO scope.names).map (ix env),a∈cs:=λa ha=>by
  refine ah (dF.mp ha) λn hn ag=>?_;subst ag
  refine xE (pS hn) λj hj=>?_
  exact gY (X.cell F hj) λi v c _z e _z=>fK e
 have hold:∀a∈env.locals::cs,a<s1.heap.objs.size:=λa ha=>by
  exact xE (pV.mp (F1.has a ha)) λo e=>kj e
 have mV:∀a∈h₁.objs.size::wn scope env h₁.objs.size nc,s1.heap.objs.size<a\/a∈cs:=λa ha=>by
  rcases cW.mp ha with rfl|ha
  ·exact .inl (xT hL (o7 _))
  ·rcases dc.mp ha with ha|ha
   ·have:=vk.mp ha
    exact .inl (j1 (AC hL this.1))
   ·exact .inr (us a ha)
 have nb:I∉h₁.objs.size::wn scope env h₁.objs.size nc:=λq=>by
  rcases mV I q with q|q
  ·exact xE (pV.mp so.live) λo e=>absurd (kj e) (xP.mpr (fh q))
  ·have:=F.has I (bL _ q)
   rw[pz]at this;exact bV this
 have uo:I≠s1.heap.objs.size:=λq=>by
  refine xE (pV.mp so.live) λo e=>?_
  have:=kj e
  exact nJ _ (q▸this)
 have Cm:s1.heap.objs.size∉h₁.objs.size::wn scope env h₁.objs.size nc:=λq=>by
  rcases mV _ q with q|q
  ·exact nJ _ q
  ·exact nJ _ (hold _ (bL _ q))
 have Cn:Step C.tabs aY aY s1 {s1 with heap:=kL (h₁.push {cls:=.type "dict",data:=.dict #[]}) scope.names}:=Step.ext (k:=s1.toks) k4;have R4:=R1.grow (s':={s1 with heap:=kL (h₁.push {cls:=.type "dict",data:=.dict #[]}) scope.names}) k4;have Pr:=so.step R1 R4 Cn O1.t O1;have a4:ms C aY [] s1.heap.objs.size (kL (h₁.push {cls:=.type "dict",data:=.dict #[]}) scope.names):=⟨#[],eD,.nil⟩;refine ah (O6 e3) λm hr hc=>?_
 generalize uh:wn scope env h₁.objs.size nc=t3 at F4 nb Cm mV
 have lH:∀a∈s1.heap.objs.size::cJ C dL {scope:=relabel scope env,locals:=h₁.objs.size,globals:=env.globals,cells:=s8 (h₁.objs.size+1) scope.names (((eO scope.names).map λn=>(n,ix env n)).reverse),qual:=env.qual,func:=none,code:=env.code,frame:=env.frame,builtins:=env.builtins} t3,s₀.heap.get? a=none\/a∈C.tabs:=λa ha=>by
  rcases cW.mp ha with rfl|ha
  ·exact .inl nD
  ·rcases dc.mp ha with ha|ha
   ·rcases cW.mp ha with q|ha
    ·exact ab (q) (.inl nL)
    ·rw[X.nw,<-uh]at ha;unfold wn at ha;rw[Vb (by simp)]at ha
     have:=vk.mp (xM ha)
     exact .inl (x1.dom _ (fresh _ (fh (j1 (AC hL this.1)))))
   ·exact .inr ha
 have rV:=OX (A:=A) (scope:=scope) (pos:=pos) (gens:=⟨t,e8,ifs,0⟩::gs) (d:=0) (σ₀:=σ₀) (s₀:=s₀) (s:={s1 with heap:=kL (h₁.push {cls:=.type "dict",data:=.dict #[]}) scope.names}) X.ok
  (λg hg=>by rcases cW.mp hg with rfl|hg;exact rfl;exact has g hg) rfl ht hg hK hA nb pz uo Cm (m:=m)
  (.mk 0 [] _ st1 aY hr hc ((x1.toStep.trans Cn).fU (λa ha=>bL _ (iu C dL _ t3 a ha))) F4 R4 Pr O1 a4 OD)
 refine s9 (O5 (gens:=⟨t,e8,ifs,0⟩::gs) rfl rV (Pr.again rV)) λr s' ag=>tG ag λe aa y cU=>iU cU λR' F' a' OD'=>?_
 subst e;have y':Step C.tabs σ₀ aa s₀ s':=by
  exact Step.drop (L:=s1.heap.objs.size::cJ C dL _ t3) (y.fU λa ha=>jF _ ha) (λa ha=>lH a ha)
 exact ah F'.ns λm' lE _z=>bP (F'.out _ bT) λo1 o3 o4=>hQ _ _ aa s' y' R' a' OD' ⟨o1,F'.outF,o3,o4⟩ (by refine ab (hL) ?_;exact Nat.succ_ne_self _) nD nL ⟨m',lE⟩ F'.tok
theorem aaS(hS:sc.Ok)(X:ou sc dL scope free nl nc)(has:∀g∈gs,g.is_async=0){t e8:ar}{tg:Tg}{i:Ci}{g:Cg}{m:Bool}(hi:qB C sc e8 i)(hs:∀env x,u9 e8 env x=pure x)(ht:mr C dL t tg)
  (hg:pA C dL bW (⟨t,e8,ifs,0⟩::gs) scope pos 0 ifs g):bn C sc (.ListComp bW (⟨t,e8,ifs,0⟩::gs) scope pos) (bR m tg i g nl nc free):=by
 intro n K hK fr st v am h A env cs σ s hA F R E;refine lz λmm eC=>be (bu h) λsrc st1 e1 h=>ah (av h) λcl e2 h=>dN (ky h) λaO aw aF e3 h=>?_
 rw[eval_ListComp];refine Po X has hi hs ht hg hK hA e1 e2 e3 F R λD L aa s' x R' a O OL H5 nD nL hn ht=>?_
 revert hn;refine yE λm' hn=>⟨m',hn,λh' io=>?_⟩
 refine FM (Pn h R' a O nD x) λσ2 x2 R2 V2 le2 H6=>?_
 have wp:=H6 L OL H5;have k:∀b o,b≠L->s'.heap.get? b=some o->h'.get? b=some o:=λb o hb e=>io.extBut b o hb e
 exact eC _ _ ((cp σ2 (x2.hide (S:=[L]) (tk:=s'.toks) (by simpa using nL) (λb o hb e=>k b o (by simpa using hb) e)) (R2.hid (tk:=s'.toks) wp k) V2))
end
def oy(ts:List Tg)(c:Cd):Cs:=λK fr st=>bk (c K fr st) λv st1=>af (qb v st1) λvs=>nY (iH vs.reverse ts fr) st1
section
variable {C:Cx}{N:cP}{mg mb:ai->Option ac}{A:bC}{σ aa:Sg}{s s':ak}{ow:List al}{sc dL:Sc}{fr:Fr}{env:bd}{cs:List al}{st:St}
theorem wq{r:Option Fr}{am:St}{f:Fl}{aw:Fr}(h:nY r st=some (f,aw,am)):r=some aw/\f=.next/\am=st:=by
 induction r with
 | none=>exact au h
 | some q=>refine jj h ?_;exact⟨rfl,rfl,rfl⟩
theorem Ps(hS:sc.Ok){e:ar}{c:Cd}{pos:aC}(he:bn C sc e c)(hs:∀env,iT e none pos.line env=pure false):hW C sc (.Expr e pos) (jM c):=by
 intro n K hK fr st f aw am h A env cs σ s hA F R E;refine lz λmm eC=>be (bu h) λv st1 e1 h=>?_
 revert h;refine Mg λag cU mX=>?_;subst ag cU st1
 refine PySem.wpAny_Expr_any ((he n K hK _ st v _ e1 A env cs σ s hA.lo F R).go (λcv aY s1 x1 ag=>xA ag λR1 V1=>(eC _ _ (iW aY (x1.toStep.fU (iu C sc env cs)) R1 (F.stepT x1) .next)))) ?_ (hs env);unfold interactive;refine ab (F.scope ..) ?_;refine ab (hS.kind ..) ?_;rfl
theorem H7(hS:sc.Ok){target cQ:ar}{t:Tg}{c:Cd}{pos:aC}(he:bn C sc cQ c)(ht:mr C sc target t)(hs:∀env:bd,env.scope=sc.scope->iT cQ (some target) pos.line env=pure false)
  (hw:∀env:bd,env.scope=sc.scope->jD [target] cQ env=pure none):hW C sc (.Assign [target] cQ pos) (aP t c):=by
 intro n K hK fr st f aw am h A env cs σ s hA F R E;refine lz λmm eC=>be (bu h) λv st1 e1 h=>bP (wq h) λe2 ag cU=>?_;subst ag;subst cU
 refine Lq ((he n K hK _ st v _ e1 A env cs σ s hA.lo F R).go (λcv aY s1 x1 ag=>xA ag λR1 V1=>?_)) (hs env F.scope) (hw env F.scope);have ha:assignAll cv ((nE [target] env).map (·.2))=assign target env cv:=by induction ht<;>rfl
 refine ab (ha ..) (c8 (B8 hS hA.1 ht e2 (F.stepT x1) R1 V1 E) (λ_z s2 ag=>fj ag λσ2 x2 R2 F2=>?_) λ_z _z e=>e);exact eC _ _ ((iW _ ((x1.toStep.fU (iu C sc env cs)).trans x2) R2 F2 .next))
noncomputable def ut:ar->ai
 | .Name n _=>n
 | _ => ""
theorem aaT(hS:sc.Ok){es:List ar}{ts:List Tg}(hn:kY C sc es ts):∀{vs:List V} {items:List ac} {fr aw:Fr} {σ:Sg} {s:ak},iH vs ts fr=some aw->bp C sc fr env cs σ s->Rep C σ st s->az C σ vs items ->
  cT C A (cJ C sc env cs) (Ur ((es.map ut).map λn=>Ut env n) items) σ s (λ_ aa s'=>Rep C aa st s'/\bp C sc aw env cs aa s'):=by
 induction hn with
 | nil=>
  intro vs items fr aw σ s h F R hv;induction vs using iE with
  | cons v vs=>exact au h
  | nil=>
   refine bf h ?_
   replace hv:=az.jP hv;subst hv
   exact cT.pure ⟨R,F⟩
 | @cons n pos t es ts hn _ ih=>
  intro vs items fr aw σ s h F R hv;induction vs using iE with
  | nil=>exact au h
  | cons v vs=>
   exact ah (av h) λbc e h=>az.iq hv λc items h1 h2=>(cT.hold (Q:=λ_ aa s'=>Rep C aa st s'/\bp C sc bc env cs aa s') λE=>wpAny_bindName (ui hS hn e F R h1 E)).bind λ_ aa s' x ag=>xA ag λR' F'=>ih h F' R' (h2.mono x.le)
theorem kY.kR{es:List ar}{ts:List Tg}(h:kY C sc es ts):es.length=ts.length:=by
 induction h with
 | nil=>rfl
 | cons _ _ ih=>simp[ih]
theorem az.rev{l:List V}{cs:List ac}(h:az C σ l cs):az C σ l.reverse cs.reverse:=by
 refine az.ind (P:=λl cs=>az C σ l.reverse cs.reverse) .nil (λv l c cs a _ ih=>?_) h;refine ab (vl ..) ?_;exact ab (vl ..) (ih.append (.cons a .nil))
theorem aaU(hS:sc.Ok){es vals:List ar}{ts:List Tg}{wr:List Cd}{k k':Nat}{iy uu pos:aC}(he:eM C sc vals wr)(ht:kY C sc es.reverse ts)(hs:∀env:bd,env.scope=sc.scope->iT (.Tuple vals k' uu) (some (.Tuple es k iy)) pos.line env=pure false)
  (hw:∀env:bd,env.scope=sc.scope->jD [.Tuple es k iy] (.Tuple vals k' uu) env=pure (some (es.map ut))):hW C sc (.Assign [.Tuple es k iy] (.Tuple vals k' uu) pos) (oy ts (bI wr)):=by
 intro n K hK fr st f aw am h A env cs σ s hA F R E;refine lz λmm eC=>be (bu h) λv st1 e1 h=>ah (av h) λvs ev h=>bP (wq h) λe2 ag cU=>?_;subst ag;subst cU
 refine Assign_Tuple_swapped (names:=es.map ut) ((Hz he n K hK _ st v _ e1 A env cs σ s hA.lo F R).go (λcv aY s1 x1 ag=>xA ag λR1 V1=>?_)) (hs env F.scope) (hw env F.scope);have hl:(es.map ut).length=vs.length:=by
  exact(cK ..).trans ((xK (as:=es)).symm.trans (ht.kR.trans ((yW e2).symm.trans (xK ..))))
 refine ab (hl ..) ((HQ (ow:=cJ C sc env cs) hA.1 ev R1 (F.stepT x1) V1).go λitems σ2 s2 x2 ag=>iU ag λq R2 F2 V2=>?_);subst σ2;have e:((es.map ut).reverse.map λn=>Ut env n)=((es.reverse.map ut).map λn=>Ut env n):=by simp only[xL]
 refine ab (e ..) ?_;exact c8 (aaT hS ht e2 F2 R2 V2.rev E) (λ_ s3 ag=>fj ag λdJ x3 R3 F3=>eC _ _ ((iW _ (((x1.toStep.fU (iu C sc env cs)).trans x2.toStep).trans x3) R3 F3 .next))) λ_ _ e=>e
end
section
variable {C:Cx}{N:cP}{mg mb:ai->Option ac}{A:bC}{σ aa:Sg}{s s':ak}{ow:List al}{sc dL:Sc}{fr:Fr}{env:bd}{cs:List al}{st:St}
variable {bW:ar}{gs:List lh}{scope:dQ}{pos:aC}{ifs:List ar}{free:List Nat}{nl nc:Nat}
theorem aaV(hS:sc.Ok)(X:ou sc dL scope free nl nc)(has:∀g∈gs,g.is_async=0){t e8:ar}{tg:Tg}{i:Ci}{g:Cg}{m:Bool}(hi:qB C sc e8 i)(hs:∀env x,u9 e8 env x=pure x)(ht:mr C dL t tg)
  (hg:pA C dL bW (⟨t,e8,ifs,0⟩::gs) scope pos 0 ifs g) {y:ai} {py za:aC} {ty:Tg} (hy:sj C sc y ty)
  (hsw:∀env:bd,env.scope=sc.scope->iT (.ListComp bW (⟨t,e8,ifs,0⟩::gs) scope pos) (some (.Name y py)) za.line env=pure true) :
  hW C sc (.Assign [.Name y py] (.ListComp bW (⟨t,e8,ifs,0⟩::gs) scope pos) za) (aP ty (bR m tg i g nl nc free)):=by
 intro n K hK fr st f aw am h A env cs σ s hA F R E;refine be (bu h) λv st1 e0 h=>bP (wq h) λe4 ag cU=>?_;subst ag;subst cU
 refine be (bu e0) λsrc st1 e1 h=>ah (av h) λcl e2 h=>dN (ky h) λaO br aF e3 h=>?_
 have e4:iY v ty fr=some aw:=by
  cases ty with
  | tup _=>exact hy.elim
  | loc _=>exact e4
  | bi _=>exact e4
  | fin _=>exact e4
 refine ab (exec_Assign_Name_used _ _ _ _ (hsw env F.scope) ..) (aA (kN (aA ?_)));refine aA (c8 (Po (Q:=λ_z s'=>∃aa,Step (cJ C sc env cs) σ aa s s'/\yY C sc env cs .next aw am .next aa s') X has hi hs ht hg hK hA.lo e1 e2 e3 F R λD L aa s' x R' a O OL H5 nD nL hn htk=>?_)
  (λ_z s' hq=>bj (bj hq)) λ_z _z e=>e)
 revert hn;refine yE λm' hn=>FM (Pn h R' a O nD x) λσ2 x2 R2 V2 le2 H6=>?_
 have wp:=H6 L OL H5;have F2:=F.stepK x2 (λa ha=>(F.out a ha).2.1) htk;have H8:L∉env.locals::cs:=λq=>by have:=F.has L q;rw[nL]at this;exact bV this
 refine c8 (LY (ui hS hy e4 F2 R2 V2 E)) (λ_z s3 ag=>fj ag λdJ x3 R3 F3=>?_) λ_z _z e=>e
 have OL3:=wp.step x3 (dN hn λo es ep e r=>by rw[e];rfl) (qA H8 wp.t);refine(aW m' ?_ (λh' io=>?_))
 ·refine dN hn λo es ep e r=>?_;clear hn
  exact⟨o,es,ep,x3.keep L o e wp.o (qA H8 wp.t),r⟩
 ·have k:∀b o,b≠L->s3.heap.get? b=some o->h'.get? b=some o:=λb o hb e=>io.extBut b o hb e
  exact(iW _ (((x2.fU (iu C sc env cs)).trans x3).hide (S:=[L]) (tk:=s3.toks) (by simpa using nL) (λb o hb e=>k b o (by simpa using hb) e)) (R3.hid (tk:=s3.toks) OL3 k) (F3.hid H8 (dr _) k) .next)
theorem Pt{a b r:V}(h:Be .add a b=some r):∃x y:Int,a=.int x/\b=.int y/\r=.int (x+y):=by
 exact ah (av h) λx ex h=>ah (av h) λy ey h=>qt ex (qt ey (rz x y rfl rfl (rZ h).1))
theorem aaW(hS:sc.Ok){i:Nat}{n:ai}{aaX:aC}{cQ:ar}{c:Cd}(hn:sc.ln[i]?=some n)(he:bn C sc cQ c):hW C sc (.AugAssign (.Name n aaX) .Add cQ pos) (Nf i .add c):=by
 intro k K hK fr st f aw am h A env cs σ s hA F R E;refine be (bu h) λold st1 e1 h=>be (bu h) λv aF e3 h=>ah (av h) λr e4 h=>bP (wq h) λe5 q1 q2=>xA (Hj e1) λe2 q3=>?_
 clear h
 subst q1 q2 q3;refine ah F.ns λm hm q=>ah (q i n hn) λv' h1 h2=>?_
 rw[e2]at h1;replace h1:=aI h1;subst h1;have hl:=hS.ln n (yI hn)
 generalize hc:m n=oc at h2
 cases h2 with
 | @some _ co h2=>
  refine wpAny_AugAssign_Name (aqm (F.scope▸hS.kind) (by show env.scope.names.lookup n=_;refine ab (F.scope ..) ?_;exact hl.1) hm hc ?_);refine(he k K hK fr _ v _ e3 A env cs σ s hA.lo F R).go λcv aY s1 x1 ag=>xA ag λR1 V1=>?_
  have h3:=h2.mono x1.le;refine lY (Pt e4) λx y ag cU mX=>?_;subst ag;subst cU;subst mX
  refine VR.yF h3 λ_z ag=>?_;subst ag
  refine VR.gn V1 λ_z=>arG ?_
  ·have F1:=(F.stepT x1).stepT ⟨Step.toks,pU _⟩;refine c8 (ui hS (t:=.loc i) hn e5 F1 (R1.toks (k:=s1.toks+1)) (.int (x+y) s1.toks) E) (λ_z s2 ag=>fj ag λσ2 x2 R2 F2=>?_) λ_z _z e=>e
   exact(iW _ (((x1.toStep.trans Step.toks).fU (iu C sc env cs)).trans x2) R2 F2 .next)
theorem aaY{prog:iS}{w:bD}{E:ac->ak->Prop}{l:al}{items:Array ac}{k:Int}{j:Nat}{t:Tok}{v:ac}{Q:Unit->ak->Prop}(hl:s.heap.PlainList l items)(hk:Gp items.size k=some j)(hj:j<items.size)
  (hQ:∀h',h'.PlainList l (items.setIfInBounds j v)->Heap.SameBut l s.heap h'->Q () {s with heap:=h'}):aR (model prog w) A (E9 (.ref l) (.int k t) v) Q E s:=by
 refine xE hl λn ho=>?_;clear hl
 have hT:s.TypeIs (.ref l) "list":= ⟨_,ho,rfl⟩;have wt:(s.heap.update l (Obj.mapSeq (·.setIfInBounds j v))).PlainList l (items.setIfInBounds j v):=⟨_,Fe _ ho rfl⟩;have hx:=UL hj;unfold E9
 try with_reducible refine fY ?_
 first|refine aA (bj ?_)|skip
 refine aA (wpAny_sequenceKey hT (by decide) ?_);refine aA (wpAny_callSpecial?_slot (name:=nK "__setitem__") hT aqg (aqi aqg hT entry_list_setitem ?_ (args_list_setitem _ _ _)))
 show aR _ _ (arZ (.int k t)>>=_) _ _ s
 have Pu:aqy k=true:=by
  induction k with
  | ofNat k=>
   refine xA (bK hk) λhk e=>?_
   have hk:=bF hk;exact fitsIndex_of (pd (by decide)) (rx hk (by decide))
  | negSucc i=>
   refine xA (bK hk) λhk e=>xA ((cz _ _).mp hk) λh1 h2=>?_
   have h2:=bF h2;exact fitsIndex_neg (Fg i) (Mf h2)
 refine aA (wpAny_listSubscript_int Pu ?_);clear Pu;induction k with
 | ofNat i=>
  refine xA (bK hk) λhk e=>?_;cases e
  show aR _ _ ((seqItemAt l j>>=λr=>pure (r.map (j,·)))>>=_) _ _ s
  refine aA (aA (wpAny_seqItemAt ho rfl (bj ?_)));refine ab (hx ..) ?_;refine aA (aqo ho rfl ?_)
  first
   | exact aA (bj (bj (aW .none rfl (bj (hQ _ wt (tn ..))))))
   | exact bj (aW .none rfl (bj (hQ _ wt (tn ..))))
 | negSucc k=>
  refine xA (bK hk) λhk e=>xA ((cz _ _).mp hk) λh1 h2=>?_
  have h1:=bF h1;have h2:=bF h2;have vR:=seqIndex_neg (n:=items.size) (Fg k) (FJ h1);rw[FK,aI e]at vR
  show aR _ _ ((arY (.ref l)>>=λxs=>pure ((seqIndex? (Ff k) xs.size).bind λi=>xs[i]?.map (i,·)))>>=_) _ _ s
  refine aA (aA ?_);refine aA (wpAny_seqItems ho rfl (bj (bj ?_)));refine ab (vR ..) ?_;simp only[Option.bind_some,hx,arF];refine aA (aqo ho rfl ?_)
  first
   | exact aA (bj (bj (aW .none rfl (bj (hQ _ wt (tn ..))))))
   | exact bj (aW .none rfl (bj (hQ _ wt (tn ..))))
theorem aaZ{l:List V}:∀{l':List V} {k:Nat} {v:V},qh l k v=some l'->k<l.length/\l'=l.set k v:=by
 induction l with
 | nil=>exactλh=>au h
 | cons x l ih=>
  intro l' k v h;induction k using nI with
  | zero=>exact⟨arB _,(aI h).symm⟩
  | succ k=>
   exact ah (av h) λr e h=>xA (ih e) λh1 h2=>⟨Ay h1,(aI h).symm.trans (congrArg (x::·) h2)⟩
theorem az.set{l:List V}{cs:List ac}{v:V}{c:ac}(h:az C σ l cs)(hv:VR C σ v c):∀{k:Nat},az C σ (l.set k v) (cs.set k c):=
 h.ind (P:=λl cs=>∀{k:Nat},az C σ (l.set k v) (cs.set k c)) .nil λ_ _ _ _ a b ih {k}=>by
  induction k with
  | zero=>exact .cons hv b
  | succ k=>exact .cons a ih
theorem aba{T:Tb}{x:Tx}{v:V}{l:List (Tx×V)}:∀{l':List (Tx×V)},pk T x v l=some l'->l.length<=l'.length:=by
 induction l with
 | nil=>exactλ_=>tE _
 | cons e r ih=>
  intro l' h;refine ah (av h) λb _ h=>?_
  induction b with
  | true=>refine bf h ?_;exact dr _
  | false=>exact ah (av h) λr' e' h=>by refine bf h ?_;exact Fv (ih e')
theorem SameBut.dom{a:al}{h h':cD}(x:Heap.SameBut a h h')(i:(h'.get? a).isSome=true):∀b,h'.get? b=none->h.get? b=none:=λb e=>by
 by_cases q:b=a
 ·subst q;rw[e]at i;exact bV i
 ·exact(x.2 b q).symm.trans e
theorem Pv{a:Nat}{w:al}{o:O}{h':cD}{k:Tok}(R:Rep C σ st s)(hw:σ.ρ[a]?=some w)(hs:Heap.SameBut w s.heap h')(x:OR C σ h' o w):Step ow σ σ s {s with heap:=h',toks:=k}/\Rep C σ (st.set a o) {s with heap:=h',toks:=k}:=
 ⟨Step.set (fK hw) (λb ob hb e=>hs.extBut b ob hb e) (SameBut.dom hs x.has) (gK _ _ rfl),R.set hw (λb ob hb e=>hs.extBut b ob hb e) x⟩
theorem Pw(hN:eY C){o i v:V}{co ci cv:ac}{am:St}(h:rP C.T o i v st=some am)(R:Rep C σ st s)(ho:VR C σ o co)(hi:VR C σ i ci)(hv:VR C σ v cv) :
  aM C A (E9 co ci cv) σ s (λ_ aa s'=>Rep C aa am s'/\aa=σ):=by
 intro E;induction o using V.casesOn with
 | loc a=>
  refine ah (av h) λob hg h=>VR.mf ho λw hw=>?_
  have x:=R.get hw hg;induction ob with
  | list l=>
   refine ah (av h) λk ek h=>ah (av h) λj ej h=>ah (av h) λl' e1 h=>bf h ?_
   refine xA (aaZ e1) λh1 ag=>?_;subst ag
   revert hi
   refine qt ek λhi=>VR.gn hi λt=>ah x λitems pl hx=>?_
   have hs:=hx.items;rw[<-hs]at ej h1;refine aaY pl ej h1 λh' Ce io=>xA (Pv (o:=.list _) (ow:=C.tabs) (k:=s.toks) R hw io ⟨_,Ce,ab (Array.toList_setIfInBounds ..) (hx.set hv)⟩) λX R'=>⟨σ,X,R',rfl⟩
  | dict l=>
   refine ah (av h) λy ey h=>ah (av h) λl' e1 h=>xA (bK h) λhl h=>bf h ?_
   revert hi
   refine HI ey λhi=>VR.fV hi λt=>ah x λax d hk=>?_
   have hl:=lW (aba e1) (bF hl);rw[hk.len]at hl;exact wpAny_setItem_pairs (strKind_is C.prog C.w _ t) d (λh' d' io=>xA (Pv (o:=.dict _) (ow:=C.tabs) (k:=s.toks+1) R hw io ⟨_,d',HA hN hv e1 hk (xE d.dictAt λ_ y=>y.nodup)⟩) λX R'=>⟨σ,X,R',rfl⟩) (by rw[ir];lia)
  | _=>exact au h
 | _=>exact au h
theorem abb(hP:eY C){o i cQ:ar}{iy:aC}{co ci c:Cd}(ho:bn C sc o co)(hi:bn C sc i ci)(he:bn C sc cQ c)(hau:∀ov iv new,augStore i ov iv new=(do holding [new,ov,iv] (E9 ov iv new);release [new,ov,iv] [];pure .next)) :
  hW C sc (.AugAssign (.Subscript o i iy) .Add cQ pos) (Bf C.T co ci .add c):=by
 intro k K hK fr st f aw am h A env cs σ s hA F R E;refine be (bu h) λov st1 e1 h=>be (bu h) λiv aF e2 h=>ah (av h) λold e3 h=>be (bu h) λv hR e4 h=>ah (av h) λr e5 h=>ah (av h) λCn e6 h=>jj h ?_
 refine wpAny_AugAssign_SubscriptAny ?_ hau;refine(ho k K hK fr st ov st1 e1 A env cs σ s hA.lo F R).go λoc aY s1 x1 ag=>xA ag λR1 V1=>(hi k K hK fr st1 iv aF e2 A env cs aY s1 hA.lo (F.stepT x1) R1).go λic σ2 s2 x2 ag=>xA ag λR2 V2=>xA (N7 (A:=A) hP e3 R2 (V1.mono x2.le) V2) λ_ g2=>(show aM C A (pO oc ic) σ2 s2 _ from g2).go λgc dJ s3 x3 ag=>xA ag λR3 V3=>?_
 have F3:=((F.stepT x1).stepT x2).stepT x3;refine(he k K hK fr aF v hR e4 A env cs dJ s3 hA.lo F3 R3).go λvc H9 s4 x4 ag=>xA ag λR4 V4=>?_
 have h3:=V3.mono x4.le;refine lY (Pt e5) λx y ag cU mX=>?_;subst ag;subst cU;subst mX
 refine VR.gn h3 λ_=>VR.gn V4 λ_=>arG ?_
 ·skip
  have VO:=(((V1.mono x2.le).mono x3.le).mono x4.le);have VI:=((V2.mono x3.le).mono x4.le);refine(Pw (A:=A) hP e6 (R4.toks (k:=s4.toks+1)) VO VI (.int (x+y) s4.toks)).go λ_ H' s5 x5 ag=>xA ag λR5 _=>?_
  have x6:js C.tabs H9 H' s4 s5:=⟨Step.toks.trans x5.toStep,dG (pU _) x5.tok⟩;exact(iW _ (((((x1.toStep.trans x2.toStep).trans x3.toStep).trans x4.toStep).trans x6.toStep).fU (iu C sc env cs)) R5 ((F3.stepT x4).stepT x6) .next)
theorem abc{body:List bS}{h₀:ExceptHandler}{hs:List ExceptHandler}{c:Cs}(hb:iw C sc body c):hW C sc (.Try body (h₀::hs) [] [] pos) c:=by
 intro n K hK fr st f aw am h A env cs σ s hA F R E;refine wpAny_Try_except (c8 (hb n K hK fr st f aw am h A env cs σ s hA F R _) (λfl s' q=>?_) λ_z _z e=>e);induction fl with
 | next=>exact Lu q
 | _=>exact q
end
structure Co(C:Cx)(mg:ai->Option ac):Prop where
 b1:∃a n,mg "b1_set"= some (.ref a)/\a∉C.tabs/\C.h₀.SetOf (th C.prog C.w) a C.T.b1 n
 b3:∃a f,mg "b3_exceptions"= some (.ref a)/\a∉C.tabs/\(a==il)=false/\C.h₀.MapOf (th C.prog C.w) a f /\
  ∀k,match C.T.b3 k with|some x=>∃t,f k=some (.str ⟨x.toArray⟩ t)|none=>f k=none
section
variable {C:Cx}{N:cP}{mg mb:ai->Option ac}{A:bC}{σ aa:Sg}{s s':ak}{ow:List al}{sc dL:Sc}{fr:Fr}{env:bd}{cs:List al}{st:St}
theorem abd{K:Type}[DecidableEq K]{σ:Sg}{s:ak}{knd:KeyKind C.prog C.w K}{a:al}{S:K->Bool}{n:Nat}(x:C.h₀.SetOf knd a S n)(ht:a∉C.tabs)(R:Rep C σ st s):s.heap.SetOf knd a S n:=
 lw x λo es ep t r=>xA r λe r=>⟨o,es,ep,t,R.base _ _ e ht,r⟩
theorem Ia{K:Type}[DecidableEq K]{σ:Sg}{s:ak}{knd:KeyKind C.prog C.w K}{a:al}{f:K->Option ac}(x:C.h₀.MapOf knd a f)(ht:a∉C.tabs)(R:Rep C σ st s):s.heap.MapOf knd a f:=
 dN x λo es ep e r=>⟨o,es,ep,R.base _ _ e ht,r⟩
theorem Px(k:Int)(t:Tok):(th C.prog C.w).is k (.int k t)=true:=by simp[th,rv]
theorem abe (H:dz C N mg mb) (T:Co C mg) (hS:sc.Ok) {p pos:aC} {e:ar} {c:Cd} (he:bn C sc e c) (hn:iZ sc.scope "b1_set"= true):bn C sc (.Compare e [.In] [.Name "b1_set" p] pos) (GQ C.T c):=by
 intro n K hK fr st v am h A env cs σ s hA F R E;refine lz λmm eC=>be (bu h) λu st1 e1 h=>xA (i9 h) λe3 q=>?_
 subst q;unfold Nb at e3;split at e3
 ·rename_i i
  replace e3:=aI e3;subst e3
  refine lY T.b1 λa m hg ht abf=>ab (eval_Compare1 ..) ?_;refine ab (Ll (by rfl)) (aA ((he n K hK fr st _ _ e1 A env cs σ s hA F R).go (λx aY s1 x1 ag=>xA ag λR1 V1=>?_)))
  have F1:=F.stepT x1;refine aA (fY (Calls.Name_function_global (F.scope▸hS.kind) (by show env.scope.names.lookup _=_;refine ab (F.scope ..) ?_;exact BB hn)
   (US (F.globals▸R1.ns H) hg (aA (kN ?_))) rfl))
  exact VR.gn V1 λt=>by
   exact wpAny_operate' (wpAny_inSet_of (Px _ t) rfl (abd abf ht R1) (eC _ _ (cp aY (x1.toStep.trans Step.toks) R1.toks (.bool _))))
 ·exact au e3
theorem qE(x:List Nat):dw (ao x)=some x:=by
 induction x with
 | nil=>rfl
 | cons n x ih=>exact vY (f:=λl=>some (n::l)) ih rfl
theorem abg (H:dz C N mg mb) (T:Co C mg) (hS:sc.Ok) {p apos pos:aC} {e:ar} {c:Cd} (he:bn C sc e c) (hu:gy e=true) (hn:iZ sc.scope "b3_exceptions"= true) (ol:(apos.endLine==pos.line)=true) :
  bn C sc (.Call (.Attribute (.Name "b3_exceptions" p) "get" apos) [e] [] pos) (GR C.T c):=by
 intro n K hK fr st v am h A env cs σ s hA F R E;refine be (bu h) λu st1 e1 h=>xA (i9 h) λe3 q=>?_
 subst q;refine lZ T.b3 λa f hg ht abh ag=>?_;refine xA ag λIb hf=>?_
 have bH:eM C sc [e] [c]:=.cons he hu .nil;have h1:=we e1;have mq:∃pl,eval (.Call (.Attribute (.Name "b3_exceptions" p) "get" apos) [e] [] pos) env=(eval (.Name "b3_exceptions" p) env>>=λov=>gv apos.atName>>=λ_=>holding [ov] (rl ov "get" pl)>>=λp=>ll pos p.1 p.2 (fJ pos (fg [e] env)) (iB pos (iC [] env))):=by
  refine⟨do return (<-Li (.Name "b3_exceptions" p) env).getD true,?_⟩
  show(Ad (.Name "b3_exceptions" p) "get" env (eval (.Name "b3_exceptions" p) env)>>=λov=>gv apos.atName>>=λ_=>va (.Name "b3_exceptions" p) "get" apos pos env ov (1+([]:List ri).length) (fJ pos (fg [e] env)) (iB pos (iC [] env)))=_
  refine ab (yR rfl ..) ?_;unfold va;refine ab (show E6 (1+([]:List ri).length) (fJ pos (fg [e] env)) (iB pos (iC [] env))=true from B4 bH (by decide:1<30)) ?_;unfold Lm;refine ab (ol ..) ?_
  rfl
 revert mq;refine yE λpl mq=>ab (mq ..) ?_
 refine aA (Calls.Name_function_global (F.scope▸hS.kind) (by show env.scope.names.lookup _=_;refine ab (F.scope ..) ?_;exact BB hn)
   (US (F.globals▸R.ns H) hg (aA (kN ?_))) rfl)
 have hM:=Ia Ib ht R;refine aA (fY (Aj hM.typeIs PySem.F.plainAttrs_dict PySem.F.slot_dict_get PySem.F.type_dict_get hM.noDict ?_));refine(BX (first:=[.ref a]) hK hA bH h1 F R (Q:=λcv aa s'=>Rep C aa am s'/\VR C aa v cv) λaU aY s1 x1 F1 R1 V1=>?_) E;exact az.iq V1 λ_ _ a1 b'=>by cases b' with
  | nil=>
   unfold Nd at e3;split at e3
   ·rename_i i
    exact VR.gn a1 λt=>by
     intro E;refine call_meetsIn PySem.F.slot_dict_get (Ia Ib ht R1).typeIs PySem.F.entry_dict_get (PySem.F.args_dict_get_2 _ _) (meets_dict_get (th C.prog C.w) a (Px _ t) abh) (Mj _ (Ia Ib ht R1) aY .toks R1.toks ?_);have hf:=hf i;split at e3
     ·rename_i x ex
      refine bf e3 ?_;rw[ex]at hf
      revert hf;refine yE λt' hf=>ab (hf ..) ?_
      have:aL C.θ (ao x)=⟨x.toArray⟩:=by unfold aL;exact ab (jt (qE x) ..) rfl
      exact bX (this ..) (.str _ _)
     ·rename_i ex
      refine bf e3 ?_;rw[ex]at hf;exact ab (hf ..) (.none)
   ·exact au e3
end
inductive qF(C:Cx)(sc:Sc):List ai->List Tg->Prop
 | nil:qF C sc [] []
 | cons {n:ai} {t:Tg} {ns:List ai} {ts:List Tg}:sj C sc n t->qF C sc ns ts->qF C sc (n::ns) (t::ts)
structure wu(C:Cx)(sc:Sc)(free:List ai)(nl nc:Nat)(ps:List ai)(ts:List Tg):Prop where
 ok:sc.Ok
 co:sc.scope.isCoroutine=false
 gen:sc.scope.isGenerator=false
 cn:sc.cn=gQ sc.scope.names++free
 nw:sc.nw=nc
 nc:(gQ sc.scope.names).length=nc
 nl:sc.ln.length=nl
 par:qF C sc ps ts
 fin:∀n∈free,sc.fin=true
def Ic(C:Cx)(g:Nat)(sc:Sc)(body:List bS)(B:nC->Prop):Prop:=
 ∃a o fd,C.G g=.ref a/\C.h₀.get? a=some o/\a∉C.tabs/\o.data=.func fd/\fd.body=.stmts body/\fd.closure=[]/\fd.scope=sc.scope/\fd.globals=kh/\fd.builtins=lP /\
  (∃c oc vs t,fd.code=.ref c/\C.h₀.get? c=some oc/\c∉C.tabs/\oc.data=.fields vs/\vs[1]?=some (.str fd.qualname t)/\(sc.cd=.none\/sc.cd=.ref c))/\B fd
structure fc(C:Cx)(g:Nat)(F:FI)(sc:Sc)(ps:List ai)(body:List bS):Prop where
 fn:Ic C g sc body λfd=>∀vals,vals.length=ps.length->sX fd ⟨vals,[]⟩=pure (ps.zip vals)
 scp:wu C sc [] F.nl F.nc ps F.params
noncomputable def Py:xu->Option ac
 | .next=>some .none
 | .ret c=>some c
 | _=>none
section
variable {C:Cx}{N:cP}{mg mb:ai->Option ac}{A:bC}{σ aa:Sg}{s s':ak}{ow:List al}{sc dL:Sc}{fr:Fr}{env:bd}{cs:List al}{st:St}
theorem qF.len{ns:List ai}{ts:List Tg}(h:qF C sc ns ts):ns.length=ts.length:=by
 induction h with
 | nil=>rfl
 | cons _ _ ih=>exact congrArg (·+1) ih
theorem abi(hS:sc.Ok){ns:List ai}{ts:List Tg}(hp:qF C sc ns ts):∀{vs:List V} {vals:List ac} {fr aw:Fr} {σ:Sg} {s:ak},iH vs ts fr=some aw->bp C sc fr env cs σ s->Rep C σ st s->az C σ vs vals ->
  cT C A (cJ C sc env cs) (forIn (ns.zip vals) gX fun(x:ai×ac) (_:PUnit)=>match x with|(n,v)=>(do UB env n v;pure (g9 gX):bo (ForInStep PUnit))) σ s (λ_ aa s'=>Rep C aa st s'/\bp C sc aw env cs aa s'):=by
 induction hp with
 | nil=>
  intro vs vals fr aw σ s h F R hv;induction vs with
  | cons v vs=>exact au h
  | nil=>
   replace h:=aI h;subst h
   replace hv:=az.jP hv;subst hv
   exact cT.pure ⟨R,F⟩
 | @cons n t ns ts hn hr ih=>
  intro vs vals fr aw σ s h F R hv;induction vs using iE with
  | nil=>exact au h
  | cons v vs=>
   refine ah (av h) λbc e h=>az.iq hv λc vals h1 h2 E=>ab (List.zip_cons_cons ..) ?_;refine ab (mD ..) (aA (aA (c8 (ui hS hn e F R h1 E) (λ_ s2 ag=>fj ag λσ2 x2 R2 F2=>bj ?_) λ_ _ e=>e)))
   exact c8 (ih h F2 R2 (h2.mono x2.le) E) (λ_ s3 ag=>ah ag λdJ x3 q'=>(aW dJ (x2.trans x3) q')) λ_ _ e=>e
theorem yB.nil(cl:List (ai×al)):yB C σ cl [] []:=⟨rfl,tC,λ_ _ e=>au e⟩
theorem Pz{free ps:List ai}{ts:List Tg}{nl nc:Nat}(X:wu C sc free nl nc ps ts)(R:Rep C σ st s)(ht:0<s.toks){vs caps:List V}{ju:Fr}{aU:List ac}{cl:List (ai×al)}(e:iH vs ts ⟨fN nl,fN nc++caps.map some⟩=some ju)
  (hv:az C σ vs aU) (hc:yB C σ cl free caps) {fa:Option al} {code:ac} (jr:sc.cd=.none\/code=sc.cd) {qual:ai} {P:bd->ak->Prop} {E:ac->ak->Prop}
  (hP:∀env cs σ2 s2,Step (cJ C sc env cs) σ σ2 s s2->(∀b∈cJ C sc env cs,s.heap.get? b=none\/b∈C.tabs)->Rep C σ2 st s2->bp C sc ju env cs σ2 s2->P env s2) :
  aR (model C.prog C.w) A (E8 sc.scope kh cl (ps.zip aU) qual fa code none lP) P E s:=by
 simp only[E8,Option.isSome_none,rp,if_false];refine aA (Lr ?_);refine aA (wpAny_layCells _ (λname kind cells=>by induction hkc:kind==Aw<;>rfl) _ _ _ _ ?_);refine ab (show({s with heap:=s.heap.push {cls:=.type "frame",data:=.dict #[]}}:ak).heap.objs.size=s.heap.objs.size+1 from xI ..) ?_;refine bP hc λsu sx Ie=>?_
 have wv:∀(j:Nat) (n:ai),free[j]?=some n->∃a,cl.lookup n=some a/\(cl.lookup n).getD 0=a:=λj n h=>lw (Ie j n h) λa _ _ _ y=>⟨a,y.1,by rw[y.1];rfl⟩
 have df:∀a∈free.map (λn=>(cl.lookup n).getD 0),∃oc,(a,oc)∈σ.φ:=λa ha=>by
  refine ah (dF.mp ha) λn hn ag=>?_;subst ag
  exact xE (pS hn) λj hj=>lw (Ie j n hj) λa oc _ _ y=>⟨oc,by exact ab (y.1) y.2.1⟩
 have F0:=Pi (s:=s) (h₁:=s.heap) (o:={cls:=.type "frame",data:=.dict #[]}) (cl:=cl) (up:=caps.map some) (cA:=free.map (λn=>(cl.lookup n).getD 0)) (env:={scope:=sc.scope,locals:=s.heap.objs.size,globals:=kh,cells:=s8 (s.heap.objs.size+1) sc.scope.names cl,qual:=qual,func:=fa,code:=code,frame:=some s.heap.objs.size,builtins:=lP})
  R X.ok X.cn X.nl X.nc ht (λ_ _ e=>e) (dr _) (Heap.Ns.new s.heap (.type "frame")) (λj n h=>lw (Ie j n h) λa oc cv v y=>xV y λy1 y2 y3 y4 y5=>⟨a,some v,some cv,by rw[pR,h];show some ((cl.lookup n).getD 0)=_;rw[y1];rfl,y1,by rw[pR,y4];rfl,⟨oc,(R.df _ y2).1,y3⟩,.some y5,by
   unfold j6;refine ab (X.fin n (fK h)) ?_;exact⟨oc,y2⟩⟩) (by simp) (by simpa using su) ?_ (λa ha=>xE (df a ha) λoc h=>iU (R.df _ h) λ_ a b c=>⟨a,b,c⟩) (λa ha=>xE (df a ha) λoc h=>by rw[(R.df _ h).1];rfl) rfl rfl rfl rfl rfl jr
 ·have kk:∀b o',s.heap.get? b=some o'->(kL (s.heap.push {cls:=.type "frame",data:=.dict #[]}) sc.scope.names).get? b=some o':=λb o' e=>Al _ _ b o' (iD _ e)
  have R0:=R.grow (s':={s with heap:=kL (s.heap.push {cls:=.type "frame",data:=.dict #[]}) sc.scope.names}) kk;have fresh:∀a,s.heap.objs.size<=a->s.heap.get? a=none:=λa ha=>by
   induction e:s.heap.get? a with
   | none=>rfl
   | some o=>exact absurd (kj e) (xP.mpr ha)
  generalize abj:({scope:=sc.scope,locals:=s.heap.objs.size,globals:=kh,cells:=s8 (s.heap.objs.size+1) sc.scope.names cl,qual:=qual,func:=fa,code:=code,frame:=some s.heap.objs.size,builtins:=lP}:bd)=env at F0 ⊢
  have abk:env.locals=s.heap.objs.size:=by exact bX (abj ..) rfl
  generalize uh:lU (s.heap.objs.size+1) nc++free.map (λn=>(cl.lookup n).getD 0)=cs at F0
  have lH:∀b∈cJ C sc env cs,s.heap.get? b=none\/b∈C.tabs:=λb hb=>by
   rcases dc.mp hb with hb|hb
   ·rcases cW.mp hb with q|hb
    ·refine ab (q ..) ?_;refine ab (abk ..) ?_;exact .inl (fresh _ (dr _))
    ·rw[X.nw,<-uh,Vb (by simp)]at hb
     have:=(vk.mp (xM hb)).1
     exact .inl (fresh _ (fh this))
   ·exact .inr hb
  exact aA ((abi (A:=A) X.ok X.par e F0 R0 hv).go (λ_z σ2 s2 x2 ag=>xA ag λR2 F2=>bj (hP env cs σ2 s2 ((Step.ext (ow:=cJ C sc env cs) (k:=s.toks) kk).trans x2.toStep) lH R2 F2)))
 ·refine nodup_map_on (f:=λn=>(cl.lookup n).getD 0) (λx hx y hy q=>?_) ?_
  ·refine xE (pS hx) λj hj=>xE (pS hy) λj' qD=>ah (wv j x hj) λa a1 a2=>ah (wv j' y qD) λb b1 b2=>?_
   have hab:=a2.symm.trans (q.trans b2);have e1:(free.map (cl.lookup ·))[j]?=some (some a):=by rw[pR,hj,<-a1];rfl
   have e2:(free.map (cl.lookup ·))[j']?=some (some a):=by rw[pR,qD,hab,<-b1];rfl
   by_cases h:j=j'
   ·subst h;rw[hj]at qD;exact aI qD
   ·exact absurd rfl (wi sx e1 e2 h)
  ·have:=X.ok.Hg
   rw[X.cn,tB]at this;exact this.2.1
def Ig(C:Cx)(A:bC)(fd:nC)(args:Args)(ps:List ai)(vs:List V)(σ:Sg)(st:St)(s:ak):Prop:=∀(Q:List (ai×ac)->ak->Prop) (E:ac->ak->Prop),
 (∀Ih aY s1,Step C.tabs σ aY s s1->0<s1.toks->Rep C aY st s1->az C aY vs Ih->Q (ps.zip Ih) s1)->aR (model C.prog C.w) A (sX fd args) Q E s
theorem PA(H:dz C N mg mb){g:Nat}{F:FI}{ps:List ai}{body:List bS}{B:nC->Prop}(X:Ic C g sc body B)(S:wu C sc [] F.nl F.nc ps F.params){n:Nat}(hA:cC (n+3) A)(R:Rep C σ st s){vs:List V}{args:Args}(Ii:∀fd,B fd->Ig C A.in1 fd args ps vs σ st s){ju:Fr}
  (e2:iH vs F.params ⟨fN F.nl,fN F.nc⟩=some ju) {P:ac->ak->Prop} (hb:∀A' env cs σ2 s2,cC (n+2) A'->Step (cJ C sc env cs) σ σ2 s s2->(∀b∈cJ C sc env cs,s.heap.get? b=none\/b∈C.tabs)->Rep C σ2 st s2->bp C sc ju env cs σ2 s2 ->
   ∀E,aR (model C.prog C.w) A' (execs body env) (λfl s'=>∃cv,Py fl=some cv/\P cv s') E s2):rk (model C.prog C.w) A (.call (C.G g) args) (λr s'=>∃v,r=.ok (.ret v)/\P v s') s:=by
 refine nM X λa o fd hG ho Ij hd hbd cU=>?_;refine iV cU λhcl Ik hgl hbl ag hB=>?_;refine lw ag λc oc cvv tc mX=>?_;refine iV mX λjr ww htc abl hcq abm=>?_;clear mX
 refine ab (hG ..) ?_;have zb:A.depth<UA:=by have:=hA.2.1;exact FF this (by decide)
 refine codeAny_call_function zb (R.base _ _ ho Ij) hd (by refine ab (Ik ..) ?_;exact S.co) (by refine ab (Ik ..) ?_;exact S.gen) hbd ⟨c,oc,cvv,tc,jr,R.base _ _ ww htc,abl,hcq⟩ ?_;refine Ii fd hB _ _ λIh aY s1 x1 ht R1 hv=>?_
 refine ab (hcl ..) ?_;refine ab (Ik ..) ?_;refine ab (hgl ..) ?_;refine ab (hbl ..) ?_;refine Pz S R1 ht (caps:=[]) (by rw[tx,fS];exact e2) hv (yB.nil _) (abm.imp id λq=>jr.trans q.symm) λenv cs σ2 s2 x lH R2 F2=>⟨R2.noLimit H,codeAny_func ?_⟩
 refine c8 (hb (A.deeper env) env cs σ2 s2 (hA.deeper env) ((x1.fU (iu C sc env cs)).trans x) (λb hb=>(lH b hb).imp (x1.dom b) id) R2 F2 _) (λfl s' y=>ah y λcv e q=>?_) λ_ _ e=>e
 induction fl with
 | next=>replace e:=aI e;subst e;exact aW _ rfl q
 | ret c=>replace e:=aI e;subst e;exact aW _ rfl q
 | brk=>exact au e
 | cont=>exact au e
theorem PB(H:dz C N mg mb){g:Nat}{F:FI}{ps:List ai}{body:List bS}(X:fc C g F sc ps body){n:Nat}(hA:cC (n+3) A)(ht:0<s.toks)(R:Rep C σ st s){vs:List V}{aU:List ac}(hv:az C σ vs aU){ju:Fr}(e2:iH vs F.params ⟨fN F.nl,fN F.nc⟩=some ju)
  {P:ac->ak->Prop} (hb:∀A' env cs σ2 s2,cC (n+2) A'->Step (cJ C sc env cs) σ σ2 s s2->(∀b∈cJ C sc env cs,s.heap.get? b=none\/b∈C.tabs)->Rep C σ2 st s2->bp C sc ju env cs σ2 s2 ->
   ∀E,aR (model C.prog C.w) A' (execs body env) (λfl s'=>∃cv,Py fl=some cv/\P cv s') E s2):rk (model C.prog C.w) A (.call (C.G g) ⟨aU,[]⟩) (λr s'=>∃v,r=.ok (.ret v)/\P v s') s:=
 PA H X.fn X.scp hA R (λfd hB Q E k=>ab (hB aU (hv.length.symm.trans ((yW e2).trans X.scp.par.len.symm)) ..) (bj (k aU σ s (.refl _ _ _) ht R hv))) e2 hb
theorem PC(H:dz C N mg mb){g:Nat}{F:FI}{ps:List ai}{body:List bS}(X:fc C g F sc ps body)(mv:iw C sc body F.body){n:Nat}{K:bb}(hK:fq C n K){vs:List V}{am:St}{v:V}(h:nZ K F vs [] st=some (v,am))
  (hA:cC (n+3) A) (ht:0<s.toks) (R:Rep C σ st s) {aU:List ac} (hv:az C σ vs aU):n9 C A (.call (C.G g) ⟨aU,[]⟩) σ s (λcv aa s'=>Rep C aa am s'/\VR C aa v cv):=by
 refine ah (av h) λju e2 h=>dN (ky h) λf bc st1 e3 h=>?_
 rw[tx,fS]at e2;refine s9 (PB (P:=λv' s'=>∃aa,Step C.tabs σ aa s s'/\Rep C aa am s'/\VR C aa v v') H X hA ht R hv e2 λA' env cs σ2 s2 wx x2 lH R2 F2 E=>(mv n K hK ju st f bc st1 e3 A' env cs _ s2 wx F2 R2).go λfl dJ s3 x3 ag=>bP ag λR3 F3 q=>?_) λr s' y=>ah y λv' e y=>ah y λaa x q=>⟨v',aa,e,x,q⟩
 have x:=((x2.trans x3.toStep).fU λa ha=>jF C.tabs ha).drop lH;induction q with
 | next=>refine dY h ?_;exact⟨.none,rfl,dJ,x,R3,.none⟩
 | ret V=>refine dY h ?_;exact⟨_,rfl,dJ,x,R3,V⟩
 | brk=>exact au h
end
structure wy(C:Cx)(mg:ai->Option ac):Prop where
 hd:∀ct∈C.rW,CodeHd C.h₀ ct.1 ct.2
 blt:∃bm o,mg "__builtins__"= some (.ref bm)/\bm≠lP/\bm≠kh/\bm∉C.tabs/\C.h₀.get? bm=some o/\o.cls=.type "module"/\ o.dict=some lP/\o.data=.plain
theorem abn{pos m8:aC}{c v:ac}(l:List ac)(ht:K8 l)(h:Af m8 (l++[xB pos.line,xB pos.col,c])=some v):Af m8 l=some v\/v=c:=by
 fun_induction K8 l with
 | case1=>
  right;simp only[tA,xB,Af]at h
  split at h
  ·refine bf h ?_;rfl
  ·exact au h
 | case2 a t b u x rest ih=>
  simp only[Fi,Af]at h ⊢;split at h
  ·rename_i hc
   exact ab (if_pos hc ..) (.inl h)
  ·rename_i hc
   exact ab (if_neg hc ..) (ih ht h)
 | case3 l h1 h2=>exact ht.elim
section
variable {C:Cx}{N:cP}{mg mb:ai->Option ac}{A:bC}{σ aa:Sg}{s s':ak}{ow:List al}{sc dL:Sc}{fr:Fr}{env:bd}{cs:List al}{st:St}
variable {name qual:ai}{params:rh}{body:ar}{scope:dQ}{c P:al}{pos:aC}{firstLine:Nat}{clos:List (ai×al)}
theorem abo(H:dz C N mg mb)(S:wy C mg)(R:Rep C σ st s)(hg:env.globals=kh)(Cp:env.code=.ref c)(pB:(c,P)∈C.rW)(hcl:Ux scope env=pure clos){Q E:ac->ak->Prop}
  (hQ:∀f h' tk aa lF sy,s.heap.get? f=none->h'.get? f=some {cls:=.type "function",data:=.func (kla_fn name qual params body scope clos ((mg "__name__").getD .none) lF sy)}->pu C aa lF->Step C.tabs σ aa s {s with heap:=h',toks:=tk} ->
   Rep C aa st {s with heap:=h',toks:=tk}->Out C aa f->(∀b o,b∉C.tabs->s.heap.get? b=some o->h'.get? b=some o)->Q (.ref f) {s with heap:=h',toks:=tk}) :
  aR (model C.prog C.w) A (makeFunction name qual params (.expr body) scope env [] [] [] pos firstLine) Q E s:=by
 refine AH (R.code.2 _ pB) λm1 m2 m3 ps jr qx=>?_
 refine vu (G8 jr) λop r7 r8 Cq eA=>?_
 refine be (R.code.1 P m1) λgZ more wz zc=>?_
 rw[show(c,P).2=P from rfl]at r7;have hop:op=t4 (gZ++more):=by rw[zc]at r7;refine bf r7 ?_;rfl
 subst hop;have Cr:gZ++more=ps:=by cases r8;rfl
 have hP:s.heap.get? P=some (tabObj ps):=by refine ab (zc ..) ?_;refine ab (Cr ..) ?_;rfl
 have Cu:=S.hd _ pB;have PD:CodeHd s.heap c P:=by
  refine FN Cu λo vs Br tf Bs ag=>?_;refine lw ag λtg Bt Bu tt cU=>?_;refine xA cU λe r=>?_;clear cU
  exact⟨o,vs,Br,tf,Bs,tg,Bt,Bu,tt,R.base _ _ e m2,r⟩
 refine lZ S.blt λbm ob b1 b2 b3 ag=>?_;refine xV ag λb4 b5 b6 b7 b8=>?_;clear ag
 have hb:s.heap.BuiltinsAt mg P:=⟨bm,ob,b1,b2,b3,λq=>b4 (q▸m1),R.base _ _ b5 b4,b6,b7,b8⟩;have hgP:kh≠P:=λq=>H.Hi (q▸m1)
 have fresh:∀a,s.heap.objs.size<=a->s.heap.get? a=none:=λa ha=>by
  induction e:s.heap.get? a with
  | none=>rfl
  | some o=>exact absurd (kj e) (xP.mpr ha)
 induction hf:Af pos ps.toList with
 | some cv=>
  refine kla_makeFunctionHit hcl hg (R.ns H) Cp PD hP Cq hf hb λsy h' tk hk hsz=>tH (qx pos cv hf) λa oa vV q t z1 z2 z3 z4=>?_
  have nf:=fresh _ hsz;have kk:∀b o,s.heap.get? b=some o->(h'.push {cls:=.type "function",data:=.func (kla_fn name qual params body scope clos ((mg "__name__").getD .none) cv sy)}).get? b=some o:=λb o e=>iD _ (hk b o e)
  exact hQ _ _ tk σ cv sy nf (jg _ rfl) ⟨a,oa,vV,q,t,z1,z2,z3,z4⟩ (Step.ext kk) (R.grow kk) (Out.fresh R nf) λb o _z e=>kk b o e
 | none=>
  refine kla_makeFunction hcl hg (R.ns H) Cp PD hP Cq hf hgP hb λc' sy h' tk hx PF fB Il abp=>lw Il λc2 oc vV t ag=>?_;refine iU ag λz1 z2 z3 z4=>?_;clear ag
  cases z1;have nc:=fresh _ PF;have nf:=fresh _ (dG PF (fh fB));have Oc:=Out.fresh R nc;have Of:=Out.fresh R nf
  generalize PG:h'.push (kla_obj name qual params body scope clos ((mg "__name__").getD .none) c' sy)=h2
  have p2:∀b o,h'.get? b=some o->h2.get? b=some o:=λb o e=>by refine bX (PG ..) ?_;exact iD _ e
  have kP:∀b o,b≠P->s.heap.get? b=some o->h2.get? b=some o:=λb o hb e=>p2 b o (hx b o hb e)
  have kT:∀b o,b∉C.tabs->s.heap.get? b=some o->h2.get? b=some o:=λb o hb e=>kP b o (λq=>hb (q▸m1)) e
  have eP:=p2 _ _ abp;have le:Sg.Le σ ⟨σ.ρ,σ.φ++[(c',oc)]⟩:=⟨λ_z _z e=>e,λ_z e=>jF _ e⟩;have abq:Step C.tabs σ ⟨σ.ρ,σ.φ++[(c',oc)]⟩ s {s with heap:=h2,toks:=tk}:=by
   refine⟨(aW ([]) (by simp) (λ_z q=>(nomatch q))),(aW ([(c',oc)]) rfl (λz hz=>by simp at hz;subst hz;exact .inl nc)),λb o e _z hb=>kT b o hb e,λb e=>?_,(gK _ _ rfl)⟩;induction q:s.heap.get? b with
   | none=>rfl
   | some ob=>
    by_cases hbP:b=P
    ·subst b;rw[show h2.get? P=none from e]at eP;exact au eP
    ·have:=kP b ob hbP q
     rw[show h2.get? b=none from e]at this;exact au this
  have Im:Rep C ⟨σ.ρ,σ.φ++[(c',oc)]⟩ st {s with heap:=h2,toks:=tk}:=by
   refine⟨R.n,R.l,λi w e=>?_,R.nd,R.new,λz hz=>?_,λb o e hb=>kT b o hb (R.base b o e hb),λt ht=>?_,λct Io=>?_⟩
   ·refine ah (R.obj i w e) λo e1 x=>?_
    exact(aW o e1 (x.mono le λob e'=>kP w ob (λq=>R.yC m1 (by refine ab (show(c,P).2=w from q.symm) ?_;exact fK e)) e'))
   ·rcases dc.mp hz with hz|hz
    ·exact iU (R.df z hz) λa1 a2 a3 a4=>⟨kT _ _ a3 a1,a2,a3,a4⟩
    ·simp at hz;subst hz;exact⟨p2 _ _ z2,Oc.o,Oc.t,Oc.z⟩
   ·refine be (R.code.1 t ht) λq0 mo e1 e2=>?_
    by_cases hq:t=P
    ·subst t;rw[wz]at e1
     have:gZ=q0:=by injection e1 with e1;injection e1 with _ _ e1;injection e1
     subst this;exact(vx gZ (more++#[xB pos.line,xB pos.col,.ref c']) wz (by refine ab (eP ..) ?_;refine bX (Cr ..) ?_;exact ab (Array.append_assoc ..) rfl))
    ·exact(vx q0 mo e1 (kP _ _ hq e2))
   ·refine AH (R.code.2 ct Io) λn1 n2 n3 qs hq PH=>?_
    by_cases Ip:ct.2=P
    ·have hqp:ps=qs:=vu (G8 hq) λXK q7 q8 _ _=>by
      rw[Ip,hP]at q7;rw[<-aI q7]at q8;exact Data.fields.inj q8
     subst qs;refine⟨n1,n2,n3,_,Nx (op:=t4 (ps++#[xB pos.line,xB pos.col,.ref c'])) hq (λo=>kT _ o n2) (ab Ip eP) rfl (ab (Lz ..) (TriplesOk_snoc _ _ _ _ Cq)),λm8 v hv=>?_⟩;rw[Lz]at hv;refine(abn _ Cq hv).elim (λhv=>pu.mono (PH m8 v hv) le) λhv=>?_
     subst v;exact(Mn c' oc vV qual t rfl z3 z4 (.inl (mF _ (cO.mpr rfl))))
    ·exact⟨n1,n2,n3,qs,Ny hq (λo=>kT _ o n2) (λo=>kP _ o Ip),λm8 v hv=>pu.mono (PH m8 v hv) le⟩
  refine hQ _ _ tk _ (.ref c') sy nf (by refine bX (PG ..) ?_;exact jg _ rfl) ⟨c',oc,vV,qual,t,rfl,z3,z4,.inl (mF _ (cO.mpr rfl))⟩ abq Im ⟨Of.o,λz hz q=>?_,Of.t,Of.z⟩ kT;rcases dc.mp hz with hz|hz
  ·exact Of.f z hz q
  ·simp at hz;subst hz;exact absurd fB (by refine ab (show c'=h'.objs.size from q) ?_;exact nJ _)
end
section
variable {prog:iS}{w:bD}{A:bC}{R:Result->ak->Prop}{s:ak}
theorem abr{a:al}{args:Args}{o:aT}{fd:nC}{body:ar}{q:ai}(zb:A.depth<UA)(ho:s.heap.get? a=some o)(ip:o.data=.func fd)(Nr:fd.scope.isCoroutine=false)(abt:fd.scope.isGenerator=false)
  (mv:fd.body=.expr body) (jr:s.heap.CodeRec fd.code q)
  (h:aR (model prog w) A.in1 (sX fd args) (λPI d7=>
   aR (model prog w) A.in1 (E8 fd.scope fd.globals fd.closure PI (q ++ ".<locals>.") (some a) fd.code none fd.builtins)
    (λenv j3=>j3.heap.NoLimit/\rk (model prog w) A (.expr body env) R j3) (λe s'=>R (.error e) s') d7) (λe s'=>R (.error e) s') s) :
  rk (model prog w) A (.call (.ref a) args) R s:=by
 refine codeAny_of_tree ?_
 show aR _ A.in1 (callAny (.ref a) args) _ _ s
 simp only[callAny];refine aA (UF ho ?_);refine lw jr λc oc vs tq ag=>?_;refine iU ag λhc ww hdc hq=>?_
 simp only[ip,callFunction,Nr,abt,mv,hc];rw[hc]at h;refine aA (m:=field (.ref c) 1) (wpAny_field ww hdc hq (aA (bj ?_)));exact aA (c8 h (λPI d7 h₁=>aA (c8 h₁ (λenv j3 PJ=>aA (wpAny_enterFrame PJ.1 zb
  (bj (vg rfl PJ.2)))) λ_z _z h'=>h')) λ_z _z h'=>h')
end
section
variable {C:Cx}{N:cP}{mg mb:ai->Option ac}{A:bC}{σ aa:Sg}{s s':ak}{ow:List al}{sc dL:Sc}{fr:Fr}{env:bd}{cs:List al}{st:St}
theorem pu.rec{lF:ac}(x:pu C σ lF)(R:Rep C σ st s):∃q,s.heap.CodeRec lF q:=by
 refine tH x λa o vs q t e1 e2 e3 e4=>⟨q,a,o,vs,t,e1,?_,e2,e3⟩
 rcases e4 with e4|d5
 ·exact(R.df _ e4).1
 ·exact xA d5 λe4 e5=>R.base _ _ e4 e5
end
section
variable {C:Cx}{N:cP}{mg mb:ai->Option ac}{A:bC}{σ aa σ2:Sg}{s s':ak}{ow:List al}{sc dL:Sc}{fr:Fr}{env:bd}{cs:List al}{st am:St}
theorem az.all{l:List V}{aU:List ac}(x:az C σ l aU):∀{p:V->Bool},(∀v c,VR C σ v c->p v=true->VR C σ2 v c)->l.all p=true->az C σ2 l aU:=
 x.ind (P:=λl aU=>∀{p:V->Bool},(∀v c,VR C σ v c->p v=true->VR C σ2 v c)->l.all p=true->az C σ2 l aU) (λ_ _=>.nil) λv l c cs a _ ih p k h=>by
  rw[LF,cz]at h;exact .cons (k v c a h.1) (ih k h.2)
theorem cM.all{l:List (Tx×V)}{ax:List (ai×ac)}(x:cM C σ l ax):∀{p:V->Bool},(∀v c,VR C σ v c->p v=true->VR C σ2 v c)->l.all (λe=>p e.2)=true->cM C σ2 l ax:=
 x.ind (P:=λl ax=>∀{p:V->Bool},(∀v c,VR C σ v c->p v=true->VR C σ2 v c)->l.all (λe=>p e.2)=true->cM C σ2 l ax) (λ_ _=>.nil) λx v l c cs a _ ih p k h=>by
  rw[LF,cz]at h;exact .cons (k v c a h.1) (ih k h.2)
theorem PK(kA:∀z∈σ.φ,z∈σ2.φ):∀(d:Nat) (v:V) (c:ac),VR C σ v c->bY d v=true->VR C σ2 v c:=by
 intro d;induction d with
 | zero=>exactλ_ _ _ h=>bV h
 | succ d ih=>
  intro v c x h;cases x with
  | none=>exact .none
  | bool b=>exact .bool b
  | int i t=>exact .int i t
  | str x t=>exact .str x t
  | tup m y=>exact .tup (kA _ m) (y.all ih h)
  | fl m y=>exact .fl (kA _ m) (y.all ih h)
  | fd m o y=>exact .fd (kA _ m) o (y.all ih h)
  | loc _=>exact bV h
  | bh g=>exact .bh g
  | ins a1 a2 a3 a4 a5 a6 a7 a8 a9=>exact .ins (kA _ a1) a2 a3 a4 (kA _ a5) a6 a7 a8 (a9.all ih h)
  | raw _ _=>exact bV h
theorem Iq{f:V->Option V}(k:∀v w c,VR C σ v c->f v=some w->VR C σ2 w c){l:List V}{aU:List ac}(x:az C σ l aU):∀{l':List V},hJ f l=some l'->az C σ2 l' aU:=
 x.ind (P:=λl aU=>∀{l':List V},hJ f l=some l'->az C σ2 l' aU) (λh=>by refine bf h ?_;exact .nil) λv l c cs a _ ih l' h=>
  ah (av h) λw e h=>ah (av h) λr e' h=>by refine bf h ?_;exact .cons (k v w c a e) (ih e')
theorem Cv{f:V->Option V}(k:∀v w c,VR C σ v c->f v=some w->VR C σ2 w c){l:List (Tx×V)}{ax:List (ai×ac)}(x:cM C σ l ax):∀{l':List (Tx×V)},pr f l=some l'->cM C σ2 l' ax:=
 x.ind (P:=λl ax=>∀{l':List (Tx×V)},pr f l=some l'->cM C σ2 l' ax) (λh=>by refine bf h ?_;exact .nil) λx v l c cs a _ ih l' h=>
  ah (av h) λw e h=>ah (av h) λr e' h=>by refine bf h ?_;exact .cons (k v w c a e) (ih e')
structure uv(C:Cx):Prop where
 at_:∀n,C.T.mR n=true->C.T.l9 n=none
theorem abu{x:Tx}{l:List Nat}(h:dw x=some l):aL C.θ x=⟨l.toArray⟩:=by unfold aL;rw[jt h]
theorem abv(hT:uv C){l:List (Tx×V)}{ax:List (ai×ac)}(x:cM C σ l ax):Bj C.T l=true->∀n g,C.T.l9 n=some g->ax.lookup ⟨n.toArray⟩=none:=
 x.ind (P:=λl ax=>Bj C.T l=true->∀n g,C.T.l9 n=some g->ax.lookup ⟨n.toArray⟩=none) (λ_ _ _ _=>rfl) λx v l c cs _ _ ih h n g hg=>by
  refine xA ((cz _ _).mp h) λh1 h2=>?_
  have:((⟨n.toArray⟩:ai)==aL C.θ x)=false:=by
   induction e:dw x with
   | none=>simp only[e]at h1;exact bV h1
   | some m=>
    simp only[e]at h1;refine beq_eq_false_iff_ne.mpr λq=>?_
    rw[abu e]at q
    have:n=m:=by injection q with q;simpa using congrArg aqr q
    rw[this,hT.at_ m h1]at hg;exact au hg
  rw[LJ,this];exact ih h2 n g hg
theorem Ir(hT:uv C)(R:Rep C σ st s)(kA:∀z∈σ.φ,z∈σ2.φ)(ud:∀a∈σ.ρ,∀o,s.heap.get? a=some o->(a,o)∈σ2.φ):∀(d:Nat) (v w:V) (c:ac),VR C σ v c->dH C.T st d v=some w->VR C σ2 w c:=by
 intro d;induction d with
 | zero=>exactλ_ _ _ _ h=>au h
 | succ d ih=>
  intro v w c x h;cases x with
  | none=>refine bf h ?_;exact .none
  | bool b=>refine bf h ?_;exact .bool b
  | int i t=>refine bf h ?_;exact .int i t
  | str x t=>refine bf h ?_;exact .str x t
  | tup m y=>exact ah (av h) λl e h=>by refine bf h ?_;exact .tup (kA _ m) (Iq ih y e)
  | fl m y=>exact ah (av h) λl e h=>by refine bf h ?_;exact .fl (kA _ m) (Iq ih y e)
  | fd m o y=>exact ah (av h) λl e h=>by refine bf h ?_;exact .fd (kA _ m) o (Cv ih y e)
  | bh g=>refine bf h ?_;exact .bh g
  | ins a1 a2 a3 a4 a5 a6 a7 a8 a9=>exact ah (av h) λl e h=>by refine bf h ?_;exact .ins (kA _ a1) a2 a3 a4 (kA _ a5) a6 a7 a8 (Cv ih a9 e)
  | raw x t=>refine bf h ?_;exact .raw x t
  | @loc n a hw=>
   refine ah (av h) λo ho h=>?_
   have ha:=fK hw;have x:=R.get hw ho;induction o with
   | list l=>exact ah x λitems pl hx=>xE pl λn g=>ah (av h) λl e h=>by refine bf h ?_;exact .fl (n:=n) (ud a ha _ g) (Iq ih hx e)
   | dict l=>exact ah x λax y hx=>ah (hU.of y) λo g y=>ah (av h) λl e h=>by refine bf h ?_;exact .fd (ud a ha _ g) y (Cv ih hx e)
   | at_ l=>exact au h
   | ob k dd=>
    induction k with
    | fn=>exact au h
    | ins=>
     refine fj x λo g y z=>ah (av h) λl e1 h=>xA (bK h) λhm h=>ah (av h) λl' e2 h=>?_
     refine bf h ?_;induction dd with
     | none=>exact absurd rfl z.2
     | some j=>
      refine fj z λD z1 z2 z3=>?_
      have hD:=fK z2;refine ah (B5 e1) λj' ej gj=>?_;cases ej;refine fj (R.get z2 gj) λax ns hk _=>ah (vU.of ns) λod gd nd=>?_
      exact .ins (ud a ha _ g) y.1 z1 y.2 (ud D hD _ gd) z3 nd (abv hT hk hm) (Cv ih hk e2)
end
theorem abw(b1 b2:List bS)(env:bd):execs (b1++b2) env=(execs b1 env>>=λf=>match f with|.next=>execs b2 env|f=>pure f):=by
 induction b1 with
 | nil=>show execs b2 env=(pure Flow.next>>=_);rw[pure_bind]
 | cons a r ih=>
  rw[Fi,K9,K9,ih,bind_assoc]
  congr 1
  funext fl
  induction fl<;>first|rfl|rw[pure_bind]
section
variable {C:Cx}{N:cP}{mg mb:ai->Option ac}{A:bC}{σ aa σ2:Sg}{s s':ak}{ow:List al}{sc dL:Sc}{fr:Fr}{env:bd}{cs:List al}{st am:St}
theorem Rep.alone(R:Rep C σ st s):Rep C ⟨[],σ.φ⟩ dm s:=
 ⟨rfl,rfl,λi w h=>(by simp at h),tC,λ_z q=>(nomatch q),λz hz=>⟨(R.df z hz).1,(λq=>nomatch q),(R.df z hz).2.2⟩,R.base,R.code.1,R.code.2⟩
def lI(l:List al)(h:cD):List (al×aT):=l.map λa=>(a,(h.get? a).getD (t4 #[]))
theorem It{l:List al}{h:cD}{a:al}{o:aT}(m:a∈l)(e:h.get? a=some o):(a,o)∈lI l h:=dF.mpr ⟨a,m,by rw[e];rfl⟩
theorem Cw{l:List al}{h:cD}(has:∀a∈l,(h.get? a).isSome=true){z:al×aT}(m:z∈lI l h):z.1∈l/\h.get? z.1=some z.2:=by
 refine ah (dF.mp m) λa ha e=>?_;subst e
 exact xE (pV.mp (has a ha)) λo e=>⟨ha,by rw[e];rfl⟩
theorem Rep.back(R:Rep C σ st s)(R':Rep C aa am s')(X:Step ow ⟨[],σ.φ⟩ aa s s')(mY:∀a∈ow,a∉σ.ρ) :
  Rep C ⟨σ.ρ,aa.φ++lI aa.ρ s'.heap⟩ st s'/\Step ow σ ⟨σ.ρ,aa.φ++lI aa.ρ s'.heap⟩ s s':=by
 refine ah X.φ λm e1 hm=>ah X.ρ λm2 e2 Hr=>?_
 have e1:=e1;have e2:aa.ρ=m2:=e2;have has:∀a∈aa.ρ,(s'.heap.get? a).isSome=true:=λa h=>R'.has h
 have keep:∀b o,s.heap.get? b=some o->b∉ow->s'.heap.get? b=some o:=λb o e hb=>X.keep b o e (λq=>nomatch q) hb
 have le:Sg.Le σ ⟨σ.ρ,aa.φ++lI aa.ρ s'.heap⟩:=⟨λ_z _z e=>e,λz hz=>jF _ (by exact ab (e1) (jF _ hz))⟩;have cd:∀{lF},(∃a o vs q t,lF=.ref a/\o.data=.fields vs/\vs[1]?=some (.str q t)/\((a,o)∈aa.φ\/(C.h₀.get? a=some o/\a∉C.tabs)))->pu C ⟨σ.ρ,aa.φ++lI aa.ρ s'.heap⟩ lF:=λy=>
  tH y λa o vs q t e1 e2 e3 e4=>⟨a,o,vs,q,t,e1,e2,e3,e4.imp (jF _) id⟩
 refine⟨⟨R.n,R.l,λi w e=>?_,R.nd,R.new,λz hz=>?_,R'.base,R'.code.1,λct Io=>?_⟩,⟨(aW ([]) (by simp) (λ_z q=>(nomatch q))),⟨m++lI aa.ρ s'.heap,(by rw[e1,gJ]),λz hz=>?_⟩,λb o e h1 h2=>keep b o e h2,X.dom,X.same⟩⟩
 ·exact ah (R.obj i w e) λo g1 g2=>aW o g1 (g2.mono le λob z=>keep w ob z λq=>mY w q (fK e))
 ·rcases dc.mp hz with hz|hz
  ·refine bP (R'.df z hz) λh1 _z h3=>⟨h1,λq=>?_,h3⟩
   rw[e1]at hz;rcases dc.mp hz with hz|hz
   ·exact(R.df z hz).2.1 q
   ·rcases hm z hz with h|h
    ·have:=R.has q
     rw[h]at this;exact bV this
    ·exact mY _ h q
  ·refine xA (Cw has hz) λh1 h2=>?_
   have h3:=Hr _ (e2▸h1);exact⟨h2,R.rX h3,R.qk h3,R.ql h3⟩
 ·exact AH (R'.code.2 ct Io) λn1 n2 n3 ps h1 h2=>⟨n1,n2,n3,ps,h1,λpos c e=>cd (h2 pos c e)⟩
 ·rcases dc.mp hz with hz|hz
  ·exact hm z hz
  ·exact .inl (Hr _ (e2▸(Cw has hz).1))
def PL(f:V->Option V)(o o':Option V):Prop:=match o with|none=>o'=none|some v=>∃w,f v=some w/\o'=some w
theorem PM{f:V->Option V}{l:List (Option V)}:∀{l':List (Option V)},n7 f l=some l'->l'.length=l.length/\∀(i:Nat) (o:Option V),l[i]?=some o->∃o',l'[i]?=some o'/\PL f o o':=by
 induction l with
 | nil=>intro l' h;refine bf h ?_;exact⟨rfl,λi o e=>au e⟩
 | cons x l ih=>
  intro l' h;refine ah (av h) λy e h=>ah (av h) λr e' h=>?_
  refine bf h ?_;refine xA (ih e') λh1 h2=>⟨congrArg (·+1) h1,λi o ei=>?_⟩
  induction i with
  | succ i=>exact h2 i o ei
  | zero=>
   induction aI ei;induction x with
   | none=>exact aW y rfl ((aI e).symm)
   | some v=>exact ah (av e) λw ew ey=>⟨y,rfl,w,ew,(aI ey).symm⟩
theorem bp.dH(hT:uv C)(F:bp C sc fr env cs σ s)(R:Rep C σ st s){aw:Fr}(h:GX (Internal.dH C.T st 12) fr=some aw):bp C sc aw env cs ⟨[],σ.φ++lI σ.ρ s.heap⟩ s:=by
 refine ah (av h) λL eL h=>ah (av h) λD eD h=>?_;refine bf h ?_
 have fz:=Ir hT (σ2:=⟨[],σ.φ++lI σ.ρ s.heap⟩) R (λz hz=>jF _ hz) (λa ha o e=>mF _ (It ha e)) 12;have has:∀a∈σ.ρ,(s.heap.get? a).isSome=true:=λa h=>R.has h
 have vo:∀{o c o'},kz C σ o c->PL (Internal.dH C.T st 12) o o'->kz C ⟨[],σ.φ++lI σ.ρ s.heap⟩ o' c:=fun{o c o'} x y=>by
  induction x with
  | none=>cases(show o'=none from y);exact .none
  | some x=>exact ah y λw e q=>by subst q;exact .some (fz _ w _ x e)
 refine xA (PM eL) λl1 l2=>xA (PM eD) λd1 d2=>⟨F.scope,F.globals,F.builtins,?_,λi n hi=>?_,λa ha=>⟨(λq=>nomatch q),(F.out a ha).2⟩,λz hz=>?_,F.has,F.nd,l1.trans F.jQ,d1.trans F.qo,F.qp,F.tok,F.cd⟩
 ·exact ah F.ns λm hm k=>⟨m,hm,λi n hi=>ah (k i n hi) λo e x=>ah (l2 i o e) λo' e' y=>⟨o',e',vo x y⟩⟩
 ·refine fZ (F.bi i n hi) λa o c y=>iV y λh1 h2 h3 h4 h5 h6=>ah (d2 i o h3) λo' e' y=>⟨a,o',c,h1,h2,e',h4,vo h5 y,?_⟩
  have ne (k:∀x∈σ.φ,x.1≠a):∀x∈σ.φ++lI σ.ρ s.heap,x.1≠a:=λz hz q=>(dc.mp hz).elim (λhz=>k z hz q) λhz=>(F.out a (bL _ (fK h1))).1 (q▸(Cw has hz).1)
  induction e:sc.fin with
  | false=>rw[e]at h6;exact ne h6
  | true=>
   rw[e]at h6;induction o with
   | none=>exact(show o'=none from y)▸ne h6
   | some v=>exact ah y λw _ q=>by subst q;exact xE h6 λoc h=>⟨oc,jF _ h⟩
 ·exact(dc.mp hz).elim (F.outF z) λhz q=>(F.out _ bT).1 (q▸(Cw has hz).1)
theorem abx(H:dz C N mg mb)(hT:uv C){g:Nat}{F:FI}{ps:List ai}{b1 b2:List bS}(X:fc C g F sc ps (b1++b2))(h1:iw C sc b1 F.body)(h2:iw C sc b2 F.tail){n:Nat}{K:bb}(hK:fq C n K){vs:List V}{v:V}
  (h:rS C.T K F vs st=some (v,am)) (hA:cC (n+3) A) (ht:0<s.toks) (R:Rep C σ st s) {aU:List ac} (hv:az C σ vs aU):n9 C A (.call (C.G g) ⟨aU,[]⟩) σ s (λcv aa s'=>Rep C aa am s'/\VR C aa v cv):=by
 refine xA (bK h) λhb h=>ah (av h) λju e2 h=>dN (ky h) λf bc st1 e3 h=>?_
 have Iu:=hv.all (PK (σ:=σ) (σ2:=⟨[],σ.φ⟩) (λ_ h=>h) 12) hb;have PN:∀{dJ:Sg} {hR:St} {s3:ak} {ρ:List al} (R3:Rep C dJ hR s3) {u w c},VR C dJ u c->Internal.dH C.T hR 12 u=some w->VR C ⟨ρ,dJ.φ++lI dJ.ρ s3.heap⟩ w c:=@λdJ hR s3 ρ R3 u w c x e=>
  Ir (σ2:=⟨ρ,dJ.φ++lI dJ.ρ s3.heap⟩) hT R3 (λz hz=>jF _ hz) (λa ha o e=>mF _ (It ha e)) 12 u w c x e
 refine s9 (PB (P:=λv' s'=>∃aa,Step C.tabs σ aa s s'/\Rep C aa am s'/\VR C aa v v') H X hA ht R.alone Iu e2 λA' env cs σ2 s2 wx x2 lH R2 F2 E=>?_) λr s' y=>ah y λv' e y=>ah y λaa x q=>⟨v',aa,e,x,q⟩
 have mY:∀a∈cJ C sc env cs,a∉σ.ρ:=λa ha q=>(lH a ha).elim (λe=>R.rX e q) λe=>R.yC e q
 have fin:∀{aa:Sg} {s':ak},Step (cJ C sc env cs) σ aa s s'->Step C.tabs σ aa s s':=λx=>(x.fU λa ha=>jF C.tabs ha).drop lH
 rw[abw];refine aA ((h1 n K hK ju dm f bc st1 e3 A' env cs _ s2 wx F2 R2).go λfl dJ s3 x3 ag=>bP ag λR3 F3 q=>?_);refine xA (R.back R3 (x2.trans x3.toStep) mY) λRb Xb=>?_
 induction q with
 | next=>
  refine ah (av h) λbr e4 h=>dN (ky h) λf2 PP aF e5 h=>?_
  refine(h2 n K hK br dm f2 PP aF e5 A' env cs _ s3 wx (F3.dH hT R3 e4) Rb.alone).go λfl2 H' s5 x5 ag=>bP ag λR5 F5 q2=>?_
  induction q2 with
  | ret V=>exact xA (i9 h) λe4 q=>xA (Rb.back R5 x5.toStep mY) λRc Xc=>⟨_,rfl,_,fin (Xb.trans Xc),q▸Rc,PN R5 V e4⟩
  | next=>exact au h
  | brk=>exact au h
 | ret V=>exact xA (i9 h) λe4 q=>bj ⟨_,rfl,_,fin Xb,q▸Rb,PN R3 V e4⟩
 | brk=>exact au h
end
structure uw(C:Cx)(id:Nat)(F:FI):Prop where
 ex:∃lt sc ps c,C.lam id=some lt/\sc.scope=lt.scope/\sc.cd=.none/\wu C sc lt.free F.nl F.nc ps F.params/\bn C sc lt.body c/\F.body=dq c /\
  ∀(fd:nC) (vals:List ac),fd.params=lt.params->fd.defaults=.none->fd.kwdefaults=.none->vals.length=ps.length->sX fd ⟨vals,[]⟩=pure (ps.zip vals)
section
variable {C:Cx}{N:cP}{mg mb:ai->Option ac}{A:bC}{σ aa:Sg}{s s':ak}{ow:List al}{sc dL:Sc}{fr:Fr}{env:bd}{cs:List al}{st am:St}
theorem aby(H:dz C N mg mb){id:Nat}{F:FI}(X:uw C id F){n:Nat}{K:bb}(hK:fq C n K){vs caps:List V}{v:V}(h:nZ K F vs caps st=some (v,am)){a:al}{o:aT}(g:s.heap.get? a=some o)(k:KR C σ (.fn id caps) o)
  (hA:cC (n+3) A) (ht:0<s.toks) (R:Rep C σ st s) {aU:List ac} (hv:az C σ vs aU):n9 C A (.call (.ref a) ⟨aU,[]⟩) σ s (λcv aa s'=>Rep C aa am s'/\VR C aa v cv):=by
 refine lw X.ex λlt sc ps c y=>iV y λq1 q2 q3 q4 q5 y=>xA y λq6 Ii=>?_
 refine xA k λ_ y=>fL y λfd lt' y=>iU y λhd e2 LO hc=>?_
 rw[q1]at e2;replace e2:=aI e2;subst e2;refine ah (av h) λju e1 h=>?_
 rw[q6]at h;refine dN (ky h) λf bc st1 e3 h=>be (bu e3) λu aF e4 e5=>?_
 have eX:=(yW e1).trans q4.par.len.symm;have zb:A.depth<UA:=by have:=hA.2.1;exact FF this (by decide)
 refine xE (LO.code.rec R) λqn Il=>abr zb g hd (by rw[LO.scope,<-q2];exact q4.co) (by rw[LO.scope,<-q2];exact q4.gen) LO.body Il ?_
 refine ab (Ii fd aU LO.params LO.defaults LO.kwd (hv.length.symm.trans eX) ..) (bj ?_);rw[LO.scope,LO.globals,LO.builtins,<-q2];refine Pz q4 R ht e1 hv hc (.inl q3) λenv cs σ2 s2 x lH R2 F2=>⟨R2.noLimit H,kla_codeExpr ?_⟩
 refine(q5 n K hK ju st u aF e4 (A.deeper env) env cs σ2 s2 ((hA.deeper env).le (mG _ 2)) F2 R2).go λcv dJ s3 x3 y=>xA y λR3 V3=>?_
 cases e5;refine dY h ?_;exact pf cv dJ rfl (((x.trans (x3.toStep.fU (iu C sc env cs))).fU λa ha=>jF C.tabs ha).drop lH) R3 V3
end
section
variable {C:Cx}{N:cP}{mg mb:ai->Option ac}{A:bC}{σ aa:Sg}{s s':ak}{ow:List al}{sc dL:Sc}{fr:Fr}{env:bd}{cs:List al}{st am:St}
theorem abz{free:List Nat}{names:List ai}(X:free.map (λi=>sc.cn[i]?)=names.map some){j:Nat}{n:ai}(h:names[j]?=some n):∃i,free[j]?=some i/\sc.cn[i]?=some n:=by
 have e:(free.map (λi=>sc.cn[i]?))[j]?=(names.map some)[j]?:=by rw[X]
 rw[pR,pR,h]at e;induction hf:free[j]? with
 | none=>rw[hf]at e;exact au e
 | some i=>
  rw[hf]at e;exact(aW i rfl (mH.inj e))
theorem Cy{free:List Nat}{names:List ai}(X:free.map (λi=>sc.cn[i]?)=names.map some)(F:bp C sc fr env cs σ s){j:Nat}{n:ai}(h:names[j]?=some n) :
  ∃i v c,free[j]?=some i/\sc.cn[i]?=some n/\cs[i]?=some (ix env n)/\env.cells.lookup n=some (ix env n)/\fr.C[i]?=some v/\(s.heap.IsCell (ix env n) c/\kz C σ v c/\j6 sc.fin σ v (ix env n)):=by
 refine ah (abz X h) λi hi hn=>nM (F.bi i n hn) λa v c e1 e2 e3 e4 e5 e6=>?_
 have:ix env n=a:=by unfold ix;rw[e2];rfl
 refine ab (this) ?_;exact⟨i,v,c,hi,hn,e1,e2,e3,e4,e5,e6⟩
theorem abA{l:List (Option V)}:∀{caps:List V},GP l=some caps->caps.length=l.length/\∀(j:Nat) (o:Option V),l[j]?=some o->∃v,o=some v/\caps[j]?=some v:=by
 induction l with
 | nil=>intro caps h;refine bf h ?_;exact⟨rfl,λj o e=>au e⟩
 | cons x l ih=>
  intro caps h;refine ah (av h) λv e h=>ah (av h) λr e' h=>?_
  refine bf h ?_;refine xA (ih e') λh1 h2=>⟨congrArg (·+1) h1,λj o ej=>?_⟩
  induction j with
  | zero=>induction aI ej;exact aW v e rfl
  | succ j=>exact h2 j o ej
theorem abB(H:dz C N mg mb)(S:wy C mg)(hS:sc.Ok){id:Nat}{free:List Nat}{lt:t0}{params:rh}{body:ar}{scope:dQ}{pos:aC}{c P:al}(abC:C.lam id=some lt)(fB:lt=⟨body,scope,params,eO scope.names⟩)
  (Iw:∀env,defaultsOf params env=([],[])) (jr:sc.cd=.ref c) (pB:(c,P)∈C.rW) (us:free.map (λi=>sc.cn[i]?)=(eO scope.names).map some) (rU:(eO scope.names).Nodup) (wt:∀n∈eO scope.names,sc.fin=true) :
  bn C sc (.Lambda params body scope pos) (vK id free):=by
 intro n K hK fr st v am h A env cs σ s hA F R E;refine ah (av h) λcl e1 h=>ah (av h) λcaps e2 h=>dY h ?_
 have Cp:=F.cd.elim (λq=>by rw[jr]at q;cases q) λq=>q.trans jr
 refine xA (Ph e1) λwo m9=>xA (abA e2) λsu sx=>?_
 have wg:free.length=(eO scope.names).length:=by
  have:=congrArg Fm us
  simpa using this
 have wv:∀n∈eO scope.names,(((eO scope.names).map λn=>(n,ix env n)).reverse).lookup n=some (ix env n):=λn hn=>
  H2 (by rw[xL,kO];exact H3 (by simpa[Function.comp_def]using rU)) (LL.mpr (dF.mpr (aW n hn rfl)))
 refine kla_eval (Iw env) (abo H S R F.globals Cp pB (Pd λn hn=>xE (pS hn) λj hj=>fZ (Cy us F hj) λi v c y=>y.2.2.2.1) λf h' tk aa lF sy nf ef cf x R' O' k=>?_);refine cp ⟨aa.ρ++[f],aa.φ⟩ (x.adopt nf) (R'.adopt O' ⟨_,ef,⟨rfl,_,lt,rfl,abC,?_,?_,?_,λj n hj=>?_⟩,rfl,λq=>by cases q⟩) (.loc ?_)
 ·subst fB;exact⟨rfl,rfl,rfl,rfl,rfl,rfl,rfl,cf.mono (ur f)⟩
 ·subst fB;exact(su.trans wo).trans wg
 ·subst fB;refine nodup_map_on (λx hx y hy q=>?_) rU;have q:=(wv x hx).symm.trans (q.trans (wv y hy));refine xE (pS hx) λj hj=>xE (pS hy) λj' qD=>fZ (Cy us F hj) λi v c y1=>fZ (Cy us F qD) λi' v' c' y2=>?_
  by_cases h:i=i'
  ·subst h;exact aI (y1.2.1.symm.trans y2.2.1)
  ·exact absurd (aI q) (wi (lT.mp F.nd).2 y1.2.2.1 y2.2.2.1 h)
 ·subst fB;have hn:=fK hj;refine fZ (Cy us F hj) λi u c y=>iV y λy1 y2 y3 y4 y5 z6=>bP z6 λy6 y7 y8=>ah (m9 j i y1) λu' g1 g2=>?_
  have:u'=u:=aI (g1.symm.trans y5)
  subst this;refine ah (sx j u' g2) λw hw g3=>?_
  subst hw;rw[wt n hn]at y8;refine xE y8 λoc ww=>ah y6 λo' eo d=>?_
  have:oc=o':=aI ((R.df _ ww).1.symm.trans eo)
  subst this;cases y7 with
  | @some _ cv y7=>exact⟨ix env n,oc,cv,w,wv n hn,x.le.φ _ ww,d,g3,(y7.mono x.le).mono (ur f)⟩
 ·rw[R'.n];simp
end
section
variable {C:Cx}{N:cP}{mg mb:ai->Option ac}{A:bC}{σ aa:Sg}{s s':ak}{ow:List al}{sc dL:Sc}{fr:Fr}{env:bd}{cs:List al}{st am:St}
noncomputable def stI:St:=(dm.push (.ob .ins (some 1))).push (.at_ [])
theorem abD(R:Rep C σ st s){x dx:al}{ox:aT}{h':cD}{tk:Tok}(k:∀b o,s.heap.get? b=some o->h'.get? b=some o)(nx:s.heap.get? x=none)(nd:s.heap.get? dx=none)(eA:dx≠x)(ex:h'.get? x=some ox)(hc:ox.cls=.ref C.cls)
  (hn:∀q,ox.data≠.cls q) (hd:ox.dict=some dx) (pt:h'.Ns1 dx λ_=>none):Rep C ⟨[x,dx],σ.φ⟩ stI {s with heap:=h',toks:=tk}:=by
 have R0:=R.alone.grow (s':={s with heap:=h',toks:=tk}) k;refine⟨rfl,rfl,λi w h=>?_,?_,λa ha=>?_,λz hz=>?_,R0.base,R0.code.1,R0.code.2⟩
 ·induction i using nI with
  | zero=>induction aI h;exact⟨_,rfl,ox,ex,⟨hc,hn⟩,dx,hd,rfl,eA⟩
  | succ i=>
   induction i using nI with
   | zero=>induction aI h;exact⟨_,rfl,[],pt,.nil,by decide⟩
   | succ i=>exact au h
 ·exact lT.mpr ⟨λq=>eA (cO.mp q).symm,by simp⟩
 ·rcases cW.mp ha with q|q
  ·exact ab (q) (R.ql nx)
  ·exact ab (cO.mp q) (R.ql nd)
 ·refine bP (R0.df z hz) λh1 _ h3=>⟨h1,λq=>?_,h3⟩
  rcases cW.mp q with q|q
  ·exact R.t6 nx z hz q
  ·exact R.t6 nd z hz (cO.mp q)
theorem abE (H:dz C N mg mb) (hT:uv C) {Nc:al} {mN:ai->Option ac} (X:jR C Nc mN) {F:FI} {ps:List ai} {body:List bS} (mV:mN "__init__"= some (C.G C.T.init)) (Y:fc C C.T.init F sc ps body) (hfc:∀a o,C.G C.T.init=.ref a->C.h₀.get? a=some o->o.cls=.type "function")
  (mv:iw C sc body F.body) {n:Nat} {K:bb} (hK:fq C n K) {vs:List V} {v:V} {st1:St} (hb:vs.all (bY 12)=true) (h:nZ K F (.loc 0::vs) [] stI=some (.none,st1)) (hf:dH C.T st1 12 (.loc 0)=some v)
  (hA:cC (n+4) A) (ht:0<s.toks) (R:Rep C σ st s) {aU:List ac} (hv:az C σ vs aU):n9 C A (.call (.ref C.cls) ⟨aU,[]⟩) σ s (λcv aa s'=>Rep C aa st s'/\VR C aa v cv):=by
 refine pY Y.fn λfI oI fd hG PQ htI _ _=>?_
 refine ry ((X.now R).obj) λnm qn bs sn sub col ddx k0 k1 k2 k3 k5 hC=>?_
 have pt:=(X.now R).ns;have abF:=R.base _ _ PQ htI;have hcI:=hfc fI oI hG PQ;have Iu:=hv.all (PK (σ:=σ) (σ2:=⟨[],σ.φ⟩) (λ_ h=>h) 12) hb
 generalize hs:s=s0
 obtain⟨hh,g,d,tt,os⟩:=s;subst hs;refine codeAny_call_obj_init PySem.F.objNew hC pt (mV.trans (congrArg some hG)) abF hcI λh' x dx Mk=>?_
 have hAu:cC (n+3) (A.under (.builtin "type.__call__" ⟨.ref C.cls::aU,[]⟩)):=by
  refine bP hA λa1 a2 a3=>⟨a1,?_,?_⟩
  ·show A.depth+Code.weight (.builtin "type.__call__" _)+_<_
   have:Code.weight (.builtin "type.__call__" ⟨.ref C.cls::aU,[]⟩)=1:=by kernel_rfl
   exact VH a2 this
  ·show A.units+Code.cUnits (.builtin "type.__call__" _)+_<_
   have:Code.cUnits (.builtin "type.__call__" ⟨.ref C.cls::aU,[]⟩)=1:=by kernel_rfl
   exact VJ a3 this
 refine vu Mk.inst λox PR Ix abG abH=>?_
 have vS:=Mk.dict ox PR;have rU:h'.Ns1 dx (λ_=>none)/\dx≠x:=by
  rcases abH with d5|d5
  ·refine xA d5 λHp _=>?_
   rw[Hp]at vS;exact au vS
  ·refine vu d5 λd' ip abI abJ _=>?_
   obtain rfl:=mH.inj (ip.symm.trans vS);exact⟨abJ,abI⟩
 have kx:=Mk.keeps;have R1:=abD (tk:=tt) R kx Mk.newX Mk.newD rU.2 PR Ix abG vS rU.1;have x1:Step C.tabs ⟨[],σ.φ⟩ ⟨[x,dx],σ.φ⟩ (⟨hh,g,d,tt,os⟩:ak) ⟨h',g,d,tt,os⟩:=⟨⟨[x,dx],rfl,λa ha=>by
  rcases cW.mp ha with q|q
  ·exact ab (q) Mk.newX
  ·exact ab (cO.mp q) Mk.newD⟩,⟨[],by simp,λ_ q=>nomatch q⟩,λb o e _ _=>kx b o e,t7 kx,⟨_,_,rfl⟩⟩
 have V1:az C ⟨[x,dx],σ.φ⟩ (.loc 0::vs) (.ref x::aU):=.cons (.loc rfl) (Iu.mono x1.le);have Cz:=PC (s:=⟨h',g,d,tt,os⟩) H Y mv hK h hAu ht R1 V1;rw[hG]at Cz;refine wpAny_call (s9 Cz λr s' y=>fL y λv' aa y=>iU y λe x2 R2 Vn=>?_);subst e
 replace Vn:=Vn.inv
 subst Vn;refine xA (R.back R2 (x1.trans x2) λa ha q=>R.yC ha q) λRb Xb=>⟨rfl,.ref x,_,rfl,Xb,Rb,?_⟩
 exact Ir (σ2:=⟨σ.ρ,aa.φ++lI aa.ρ s'.heap⟩) hT R2 (λz hz=>jF _ hz) (λa ha o e=>mF _ (It ha e)) 12 (.loc 0) v (.ref x) (.loc (x2.le.ρ 0 x rfl)) hf
end
structure zd(C:Cx)(m:Nat)(jN:vO):Prop where
 none:∀vs,jN .none vs=none
 ok:∀f vs v,jN f vs=some v->∀st,Hh C st f/\∀A σ s cf aU,cC m A->0<s.toks->Rep C σ st s->VR C σ f cf->az C σ vs aU->n9 C A (.call cf ⟨aU,[]⟩) σ s (λcv aa s'=>Rep C aa st s'/\VR C aa v cv)
structure Iy(C:Cx)(g:Nat)(n:List Nat)(F:FI):Prop where
 ex:∃sc ps body,Ic C g sc body (λfd=>∀A σ st s aU cu vs u k,dw k=some n->0<s.toks->Rep C σ st s->az C σ vs aU->VR C σ u cu->vs.length+1=ps.length->Ig C A fd ⟨aU,[(aL C.θ k,cu)]⟩ ps (vs++[.fd [(k,u)]]) σ st s)/\wu C sc [] F.nl F.nc ps F.params/\iw C sc body F.body
inductive ft(C:Cx)(g:Nat)(F:FI):Prop
 | plain (sc:Sc) (ps:List ai) (body:List bS) (ha:F.alone=false) (X:fc C g F sc ps body) (h:iw C sc body F.body)
 | alone (sc:Sc) (ps:List ai) (b1 b2:List bS) (ha:F.alone=true) (X:fc C g F sc ps (b1++b2)) (h1:iw C sc b1 F.body) (h2:iw C sc b2 F.tail)
theorem ft.isFn{C:Cx}{g:Nat}{F:FI}(x:ft C g F):∃a o fd,C.G g=.ref a/\C.h₀.get? a=some o/\a∉C.tabs/\o.data=.func fd:=by
 induction x with
 | plain sc ps body ha X h=>exact pY X.fn λa o fd e1 e2 e3 e4 _=>⟨a,o,fd,e1,e2,e3,e4⟩
 | alone sc ps b1 b2 ha X h1 h2=>exact pY X.fn λa o fd e1 e2 e3 e4 _=>⟨a,o,fd,e1,e2,e3,e4⟩
section
variable {C:Cx}{N:cP}{mg mb:ai->Option ac}{A:bC}{σ aa:Sg}{s s':ak}{st am:St}{Nc:al}{mN:ai->Option ac}
theorem PS{g:Nat}(h:(∃a o fd,C.G g=.ref a/\C.h₀.get? a=some o/\a∉C.tabs/\o.data=.func fd)\/C.G g=.ref C.cls):Hh C st (.bh g):=by
 refine⟨λσ c hc=>?_,λσ s a R hc=>?_⟩
 ·have hc:c=C.G g:=hc.inv;exact h.elim (λy=>fZ y λa o fd e=>⟨a,hc.trans e.1⟩) λe=>⟨_,hc.trans e⟩
 ·have hc:pc a=C.G g:=hc.inv;rcases h with y|e
  ·exact vw y λa' o fd e1 e2 e3 e4=>by
    rw[e1]at hc;cases hc;exact .inl ⟨o,fd,R.base _ _ e2 e3,e4⟩
  ·rw[e]at hc;cases hc;exact .inr rfl
theorem abK(H:dz C N mg mb){g:Nat}{nm:List Nat}{F:FI}(X:Iy C g nm F){n:Nat}{K:bb}(hK:fq C n K){vs:List V}{k:Tx}{u:V}(hk:dw k=some nm){v:V}(h:nZ K F (vs++[.fd [(k,u)]]) [] st=some (v,am))(hA:cC (n+3) A)(ht:0<s.toks)(R:Rep C σ st s){cu:ac}{aU:List ac}(hu:VR C σ u cu)(hv:az C σ vs aU) :
  n9 C A (.call (C.G g) ⟨aU,[(aL C.θ k,cu)]⟩) σ s (λcv aa s'=>Rep C aa am s'/\VR C aa v cv):=by
 refine fZ X.ex λsc ps body y=>bP y λY S mv=>ah (av h) λju e2 h=>dN (ky h) λf bc st1 e3 h=>?_
 rw[tx,fS]at e2;have eX:vs.length+1=ps.length:=by
  have:=(yW e2).trans S.par.len.symm
  rwa [cS]at this
 refine s9 (PA (P:=λv' s'=>∃aa,Step C.tabs σ aa s s'/\Rep C aa am s'/\VR C aa v v') H Y S hA R (λfd hB=>hB _ _ _ _ _ _ _ _ _ hk ht R hv hu eX) e2 λA' env cs σ2 s2 wx x2 lH R2 F2 E=>(mv n K hK ju st f bc st1 e3 A' env cs _ s2 wx F2 R2).go λfl dJ s3 x3 ag=>bP ag λR3 F3 q=>?_) λr s' y=>ah y λv' e y=>ah y λaa x q=>⟨v',aa,e,x,q⟩
 have x:=((x2.trans x3.toStep).fU λa ha=>jF C.tabs ha).drop lH;induction q with
 | next=>refine dY h ?_;exact⟨.none,rfl,dJ,x,R3,.none⟩
 | ret V=>refine dY h ?_;exact⟨_,rfl,dJ,x,R3,V⟩
 | brk=>exact au h
theorem abL{n:List Nat}{k:Tx}{u:V}(h:Nh n (.fd [(k,u)])=true):dw k=some n:=by
 have h:(match dw k with|some m=>bw m n&&true|none=>false)=true:=h;induction e:dw k with
 | none=>rw[e]at h;exact bV h
 | some m=>rw[e]at h;exact congrArg some (ja ((cz _ _).mp h).1)
structure PT(C:Cx)(D:Fs)(mN:ai->Option ac):Prop where
 fns:∀g F,D.fn g=some F->ft C g F
 CA:∀id F,D.lm id=some F->uw C id F
 kws:∀g n F,D.kw g=some (n,F)->Iy C g n F
 init:mN "__init__"= some (C.G C.T.init)
 PU:∀F,D.fn C.T.init=some F->F.alone=false
 PV:∀a o,C.G C.T.init=.ref a->C.h₀.get? a=some o->o.cls=.type "function"
theorem abM(H:dz C N mg mb)(hT:uv C)(X:jR C Nc mN){m:Nat}{jN:vO}(Of:zd C m jN){D:Fs}(Y:PT C D mN):∀n,fq C (4*n+m) (call C.T D jN n):=by
 intro n;induction n with
 | zero=>exact⟨λf vs st v am h=>by induction f using V.casesOn<;>exact au h,λg k u vs st v am h=>au h⟩
 | succ n ih=>
  refine⟨λf vs st v am h0=>?_,λg k u vs st v am h=>?_⟩
  ·have h:call C.T D jN (n+1) f vs st=some (v,am):=by induction f using V.casesOn<;>first|exact au h0|exact h0
   have h:(match jN f vs with|some v=>some (v,st)|none=>G0 C.T D (call C.T D jN n) f vs st)=some (v,am):=h;induction e:jN f vs with
   | some r=>
    rw[e]at h
    replace h:=aI h;cases h
    exact xA (Of.ok f vs v e st) λh1 h2=>⟨h1,λA σ s cf aU hA=>h2 A σ s cf aU (hA.le (LS _ _))⟩
   | none=>
    rw[e]at h;induction f using V.casesOn with
    | bh g=>
     have h:GZ C.T D.fn (call C.T D jN n) g vs st=some (v,am):=h;unfold GZ at h;induction hg:aG g C.T.cls with
     | true=>
      rw[hg]at h;have hg:=dj hg;subst hg;refine⟨PS (.inr X.B2),λA σ s cf aU hA ht R hf hv=>VR.By hf ?_⟩;refine ab (X.B2 ..) ?_;refine ah (av h) λF eF h=>xA (bK h) λhb h=>be (bu h) λu st1 e1 h=>?_
      induction u using V.casesOn with
      | none=>
       refine xA (i9 h) λe2 q=>?_
       subst q;have hA:cC (4*n+m+4) A:=hA.le (lV (by lia));induction Y.fns _ _ eF with
       | plain sc ps body ha Z mv=>exact abE H hT X Y.init Z Y.PV mv ih hb e1 e2 hA ht R hv
       | alone sc ps b1 b2 ha=>rw[Y.PU F eF]at ha;exact bV ha
      | _=>exact au h
     | false=>
      rw[hg]at h;refine ah (av h) λF eF h=>?_
      have Y:=Y.fns _ _ eF;refine⟨PS (.inl Y.isFn),λA σ s cf aU hA ht R hf hv=>VR.By hf ?_⟩;have h:=h;unfold GY at h;have hA:cC (4*n+m+3) A:=hA.le (by omega);induction Y with
      | plain sc ps body ha Y mv=>rw[ha]at h;exact PC H Y mv ih h hA ht R hv
      | alone sc ps b1 b2 ha Y h1 h2=>rw[ha]at h;exact abx H hT Y h1 h2 ih h hA ht R hv
    | loc a=>
     refine ah (av h) λp ep h=>?_
     have hg:=HN ep;obtain⟨k,d⟩:=p;induction k with
     | ins=>exact au h
     | fn id caps=>
      refine ah (av h) λF eF h=>⟨⟨λσ c hc=>VR.mf hc λw _=>⟨w,rfl⟩,λσ s w R hc=>?_⟩,λA σ s cf aU hA ht R hf hv=>VR.mf hf λw hw=>?_⟩
      ·exact ah hc.inv λw' hw e=>by
        cases e;exact fj (R.get hw hg) λo g k _=>xA k λ_ y=>be y λfd lt e _=>.inl ⟨o,fd,g,e⟩
      ·exact fj (R.get hw hg) λo g k _=>aby H (Y.CA _ _ eF) ih h g k (hA.le (by omega)) ht R hv
    | none=>exact au h0
    | _=>exact au h
  ·have h:(match jN .none (.bh g::.fd [(k,u)]::vs)with|some v=>some (v,st)|none=>G0 C.T D (call C.T D jN n) .none (.bh g::.fd [(k,u)]::vs) st)=some (v,am):=h;rw[Of.none]at h;have h:=h;refine ah (av h) λF eF h=>xA (bK h) λhk h=>?_
   have Z:=Y.kws g F.1 F.2 eF;refine⟨fZ Z.ex λsc ps body y=>pY y.1 λa o fd e1 e2 e3 e4 _=>⟨a,o,fd,e1,e2,e3,e4⟩,λA σ s cu aU hA ht R hu hv=>?_⟩;exact abK H Z ih (abL hk) h (hA.le (by omega)) ht R hu hv
end
section
variable {C:Cx}{N:cP}{mg mb:ai->Option ac}{A:bC}{σ aa:Sg}{s s':ak}{ow:List al}{sc dL:Sc}{fr:Fr}{env:bd}{cs:List al}{st:St}
theorem abN(hN:eY C){o i cQ:ar}{co ci c:Cd}{iy pos:aC}(ho:bn C sc o co)(hi:bn C sc i ci)(he:bn C sc cQ c)(hs:∀env:bd,env.scope=sc.scope->iT cQ (some (.Subscript o i iy)) pos.line env=pure false) :
  hW C sc (.Assign [.Subscript o i iy] cQ pos) (vL C.T co ci c):=by
 intro n K hK fr st f aw am h A env cs σ s hA F R E;refine be (bu h) λv st1 e1 h=>be (bu h) λov aF e2 h=>be (bu h) λiv hR e3 h=>ah (av h) λCn e4 h=>jj h ?_
 refine wpAny_Assign_Subscript ((he n K hK fr st v st1 e1 A env cs σ s hA.lo F R).go λcv aY s1 x1 ag=>xA ag λR1 V1=>(ho n K hK fr st1 ov aF e2 A env cs aY s1 hA.lo (F.stepT x1) R1).go λoc σ2 s2 x2 ag=>xA ag λR2 V2=>
  (hi n K hK fr aF iv hR e3 A env cs σ2 s2 hA.lo ((F.stepT x1).stepT x2) R2).go λic dJ s3 x3 ag=>xA ag λR3 V3=>(Pw (A:=A) hN e4 R3 (V2.mono x3.le) V3 ((V1.mono x2.le).mono x3.le)).go λ_ H9 s4 x4 ag=>xA ag λR4 _=>?_) (hs env F.scope)
 exact(iW H9 ((((x1.toStep.trans x2.toStep).trans x3.toStep).trans x4.toStep).fU (iu C sc env cs)) R4 ((((F.stepT x1).stepT x2).stepT x3).stepT x4) .next)
inductive WhL(C:Cx)(sc:Sc)(env:bd)(cs:List al)(K:bb)(t:Ct)(b:Cs)(r:Fl×Fr×St)(σ₀:Sg)(s₀:ak)(m:Nat)(s:ak):Prop
 | mk (fr:Fr) (st:St) (σ:Sg) (h:vM K t b m fr st=some r) (X:Step (cJ C sc env cs) σ₀ σ s₀ s) (F:bp C sc fr env cs σ s) (R:Rep C σ st s)
theorem abO{t:ar}{body:List bS}{ct:Ct}{b:Cs}{pos:aC}(ht:mj C sc t ct)(hb:iw C sc body b):hW C sc (.While t body [] pos) (Bh ct b):=by
 intro n K hK fr st f aw am h A env cs σ₀ s₀ hA kB R₀ E;refine wpAny_While (codeAny_whileLoop (WhL C sc env cs K ct b (f,aw,am) σ₀ s₀) (λm s y=>?_) 50 (.mk fr st σ₀ h (.refl _ _ _) kB R₀));cases y with|mk fr st σ h X F R=>?_
 induction m using nI with
 | zero=>exact au h
 | succ m=>
  refine be (bu h) λr st1 e1 h=>(ht n K hK fr st r st1 e1 A env cs σ s hA.lo F R).go λv aY s1 x1 ag=>xA ag λR1 q=>?_
  subst v;have F1:=F.stepT x1;have X1:=X.trans (x1.toStep.fU (iu C sc env cs));induction r with
  | false=>exact jj h (Lu ⟨aY,X1,R1,F1,.next⟩)
  | true=>
   refine dN (ky h) λf1 br aF e2 h=>(hb n K hK fr st1 f1 br aF e2 A env cs aY s1 hA F1 R1).go λfl dJ s3 x3 ag=>bP ag λR3 F3 q=>?_
   have X3:=X1.trans x3.toStep;induction q with
   | next=>exact aW m (o7 m) (.mk br aF dJ h X3 F3 R3)
   | brk=>exact jj h ⟨dJ,X3,R3,F3,.next⟩
   | ret V=>exact jj h ⟨dJ,X3,R3,F3,.ret V⟩
theorem abP(hS:sc.Ok){es:List ar}{ts:List Tg}{cQ:ar}{c:Cd}{pos:aC}(he:bn C sc cQ c)(ht:kY C sc es ts)(hs:∀env:bd,env.scope=sc.scope->xD es cQ pos.line env=pure false)(hw:∀env:bd,env.scope=sc.scope->jD es cQ env=pure none) :
  hW C sc (.Assign es cQ pos) (yw ts c):=by
 intro n K hK fr st f aw am h A env cs σ s hA F R E;refine be (bu h) λv st1 e1 h=>bP (wq h) λe2 ag cU=>?_;subst ag;subst cU
 refine Lq ((he n K hK _ st v _ e1 A env cs σ s hA.lo F R).go (λcv aY s1 x1 ag=>xA ag λR1 V1=>?_)) (hs env F.scope) (hw env F.scope);have key:∀{es:List ar} {ts:List Tg},kY C sc es ts->∀{fr aw:Fr} {σ:Sg} {s:ak},GV v ts fr=some aw->bp C sc fr env cs σ s->Rep C σ am s->VR C σ v cv ->
   cT C A (cJ C sc env cs) (assignAll cv ((nE es env).map (·.2))) σ s (λ_ aa s'=>Rep C aa am s'/\bp C sc aw env cs aa s'):=by
  intro es ts hn;induction hn with
  | nil=>intro fr aw σ s h F R _;refine bf h ?_;exact cT.pure ⟨R,F⟩
  | @cons n pos t es ts hn hr ih=>
   intro fr aw σ s h F R hv;refine ah (av h) λbc e h=>?_
   have one:cT C A (cJ C sc env cs) (assign (.Name n pos) env cv) σ s (λ_ aa s'=>Rep C aa am s'/\bp C sc bc env cs aa s'):=λE=>LY (ui hS hn e F R hv E)
   induction hr with
   | nil=>refine bf h ?_;exact one
   | cons a b=>exact one.hold.bind λ_ aa s' x y=>xA y λR' F'=>ih h F' R' (hv.mono x.le)
 exact c8 (key ht e2 (F.stepT x1) R1 V1 E) (λ_z s2 ag=>fj ag λσ2 x2 R2 F2=>(iW _ ((x1.toStep.fU (iu C sc env cs)).trans x2) R2 F2 .next)) λ_z _z e=>e
end
def Iz(T:Tb)(a b:Cd):Cd:=λK fr st=>bk (a K fr st) λv st1=>af (vE v st1) λl=>bk (b K fr st1) λu aF=>af (vE u aF) λm=>bv (aH l.length 1000&&aH m.length 1000) (af (putAll T l m) λd=>some (.fd d,aF))
section
variable {A:bC}{s:ak}
theorem abQ{M:rj}{m1 m2:bo ac}{Q:ac->ak->Prop}{E:ac->ak->Prop}
  (h:aR M A m1 (λa s1=>∀E',aR M A (E5 s.heap.objs.size a false) (λ_z s2=>aR M A m2 (λb s3=>∀E',aR M A (E5 s.heap.objs.size b false) (λ_z s4=>Q (.ref s.heap.objs.size) s4) E' s3) E s2) E' s1) E {s with heap:=s.heap.push {cls:=.type "dict",data:=.dict #[]}}) :
  aR M A (EW [(none,m1),(none,m2)]) Q E s:=by
 unfold EW;dsimp only;refine ab (mD ..) (aA (aA (aA ?_)));refine ab (if_pos (by rfl)) ?_;refine bj ?_;refine aA (Lr ?_);refine aA (fY (c8 h (λa s1 h1=>?_) λ_z _z e=>e));refine aA (Lx (wpAny_tryCatch (Lx (fY (c8 (h1 _) (λ_z s2 h2=>bj ?_) λ_z _z e=>e)))));dsimp only;refine ab (mD ..) (aA (aA ?_));refine ab (if_pos (by rfl)) ?_;refine bj ?_;refine aA (bj ?_);refine aA (fY (c8 h2 (λb s3 h3=>?_) λ_z _z e=>e));refine aA (Lx (wpAny_tryCatch (Lx (fY (c8 (h3 _) (λ_z s4 h4=>bj ?_) λ_z _z e=>e)))));dsimp only;refine ab (U7 ..) ?_;refine bj ?_;refine aA ?_;refine ab (if_pos (by rfl)) ?_;exact bj (bj h4)
end
section
variable {C:Cx}{N:cP}{mg mb:ai->Option ac}{A:bC}{σ aa:Sg}{s s':ak}{ow:List al}{sc dL:Sc}{fr:Fr}{env:bd}{cs:List al}{st:St}
theorem PX(R:Rep C σ st s){v:V}{l:List (Tx×V)}{c:ac}(e:vE v st=some l)(h:VR C σ v c):∃a o ax,c=.ref a/\s.heap.get? a=some o/\hU C ax o/\cM C σ l ax/\C.h₀.get? a=none:=by
 refine vw (NN R e h) λa o ax e1 e2 e3 e4=>⟨a,o,ax,e1,e2,e3,e4,?_⟩
 induction v using V.casesOn with
 | fd m=>exact fZ h.inv λa' o' abR y=>by have:=y.2.2.2;rw[e1]at this;cases this;exact(R.df _ y.1).2.2.2
 | loc n=>exact ah h.inv λa' y q=>by rw[e1]at q;cases q;exact R.new _ (fK y)
 | _=>exact au e
theorem PY{v:V}{l:List (Tx×V)}{D a:al}(O:Out C σ D)(e:vE v st=some l)(h:VR C σ v (.ref a)):D≠a:=λq=>by
 induction v using V.casesOn with
 | fd _=>exact fZ h.inv λa' o' abR y=>by have:=y.2.2.2;cases this;exact O.f _ y.1 q.symm
 | loc _=>exact ah h.inv λa' y e=>by cases e;exact O.o (q▸fK y)
 | _=>exact au e
theorem abS(hN:eY C){m:List (Tx×V)}{more:List (ai×ac)}(x:cM C σ m more):∀{l d:List (Tx×V)} {ax:List (ai×ac)},putAll C.T l m=some d->cM C σ l ax->(ax.map (·.1)).Nodup->cM C σ d (merged ax more):=
 x.ind (P:=λm more=>∀{l d:List (Tx×V)} {ax:List (ai×ac)},putAll C.T l m=some d->cM C σ l ax->(ax.map (·.1)).Nodup->cM C σ d (merged ax more)) (λh k _=>by refine bf h ?_;exact k) λx v l c cs a _ ih l0 d ax h k n=>
  ah (av h) λl' e h=>ih h (HA hN a e k n) (Ob n _ _)
theorem PZ:∀k key,(ki C.prog C.w).is k key=true->∀b,key≠.ref b:=λk key hk b q=>by subst q;exact bV hk
theorem abT(hN:eY C){a b:ar}{ca cb:Cd}{pos:aC}(ha:bn C sc a ca)(hb:bn C sc b cb):bn C sc (.Dict [none,none] [a,b] pos) (Iz C.T ca cb):=by
 intro n K hK fr st v am h A env cA σ s hA F R E;refine be (bu h) λu st1 e1 h=>ah (av h) λl el h=>be (bu h) λu2 aF e2 h=>ah (av h) λm em h=>xA (bK h) λhl h=>ah (av h) λd ed h=>dY h ?_
 refine xA ((cz _ _).mp hl) λwo m9=>?_
 have wo:=bF wo;have m9:=bF m9;refine lz λmm eC=>ab (arm_eval_Dict ..) (aA (kN ?_))
 have nf:=rY s.heap;have k1:∀b o,s.heap.get? b=some o->(s.heap.push {cls:=.type "dict",data:=.dict #[]}).get? b=some o:=λb o e=>iD _ e
 generalize hD:s.heap.objs.size=D at nf
 have Cu:(s.heap.push {cls:=.type "dict",data:=.dict #[]}).DictOf (ki C.prog C.w) D []:=⟨_,#[],0,hD▸jg _ rfl,⟨rfl,rfl,rfl⟩,rfl,λ_z he=>by simp at he,.nil,by decide⟩;have x0:js C.tabs σ σ s {s with heap:=s.heap.push {cls:=.type "dict",data:=.dict #[]}}:=⟨Step.ext (k:=s.toks) k1,dr _⟩;refine abQ (aA ((ha n K hK fr st u st1 e1 A env cA σ {s with heap:=s.heap.push {cls:=.type "dict",data:=.dict #[]}} hA (F.stepT x0) (R.grow k1)).go λc1 aY s1 x1 y=>xA y λR1 V1=>aA (kN (bj λE1=>?_))));have O0:=Out.fresh R nf;have Cm:s1.heap.DictOf (ki C.prog C.w) D []:=dN Cu λo es ep e r=>⟨o,es,ep,x1.keep D o e O0.o O0.t,r⟩
 have P0:∀{h:cD} {ax:List (ai×ac)},h.DictOf (ki C.prog C.w) D ax->(h.get? D).isSome=true:=λy=>dN y λo es ep e r=>by rw[e];rfl
 have O1:=O0.step x1.toStep (P0 Cu) O0.t;refine pY (PX R1 el V1) λa1 o1 ax g1 g2 g3 g4 g5=>?_
 subst g1;have sz:=PY O1 el V1;rw[hD];refine Nq PZ sz (HR hN.2 g5) Cm (g3.dictOf g2) (λh2 IA hs2=>?_) (by rw[ir,<-g4.len];simp;lia);have P1:=fL g3 λ_ _ y=>y.2.2.2.2
 rw[merged_nil_of_nodup _ P1]at IA;have k2:∀b o,b≠D->s1.heap.get? b=some o->h2.get? b=some o:=λb o hb e=>(hs2.2 b hb).trans e
 have R2:=R1.hid (tk:=s1.toks) O1 k2;have hDf:D∉env.locals::cA:=λq=>by have:=F.has D q;rw[nf]at this;exact bV this
 have F2:=bp.hid ((F.stepT x0).stepT x1) hDf (dr _) k2;refine aA ((hb n K hK fr st1 u2 aF e2 A env cA aY {s1 with heap:=h2} hA F2 R2).go λc2 σ2 s3 x2 y=>xA y λR3 V3=>aA (kN (bj λE3=>?_)));have Cf:s3.heap.DictOf (ki C.prog C.w) D ax:=dN IA λo es ep e r=>⟨o,es,ep,x2.keep D o e O1.o O1.t,r⟩
 have O3:=O1.step x2.toStep (P0 IA) O1.t;refine pY (PX R3 em V3) λa2 o2 more f1 f2 f3 f4 f5=>?_
 subst f1;refine Nq PZ (PY O3 em V3) (HR hN.2 f5) Cf (f3.dictOf f2) (λh4 hd4 hs4=>?_) (by rw[ir,<-g4.len,<-f4.len];lia);have k4:∀b o,b≠D->s3.heap.get? b=some o->h4.get? b=some o:=λb o hb e=>(hs4.2 b hb).trans e
 refine ah (hU.of hd4) λoD go IB=>?_
 have X:=((((x0.toStep.trans x1.toStep).hide (S:=[D]) (tk:=s1.toks) (by simpa using nf) (λb o hb e=>k2 b o (by simpa using hb) e)).trans x2.toStep).hide (S:=[D]) (tk:=s3.toks) (by simpa using nf) (λb o hb e=>k4 b o (by simpa using hb) e));have R4:=R3.hid (tk:=s3.toks) O3 k4;refine eC _ _ ⟨⟨σ2.ρ,σ2.φ++[(D,oD)]⟩,X.freeze (z:=(D,oD)) nf,R4.freeze (λz hz=>?_),.fd (mF _ (cO.mpr rfl)) IB ((abS hN f4 ed (g4.mono x2.le) P1).mono (Sg.le_app _ _))⟩;simp at hz;subst hz;exact⟨go,O3.o,O3.t,O3.z⟩
end
section
variable {C:Cx}{N:cP}{mg mb:ai->Option ac}{A:bC}{σ aa:Sg}{s s':ak}{ow:List al}{sc dL:Sc}{fr:Fr}{env:bd}{cs:List al}{st:St}{Nc:al}{mN:ai->Option ac}
theorem P2{ax:List (ai×ac)}{x:ai}{v:ac}:(λy=>if y=x then some v else ax.lookup y)=λy=>((x,v)::ax).lookup y:=by
 funext y
 rw[LJ]
 by_cases h:y=x
 ·rw[if_pos h,beq_iff_eq.mpr h]
 ·rw[if_neg h,beq_eq_false_iff_ne.mpr h]
theorem P3(ax:List (ai×ac)):Within (ax.lookup ·) (ax.map (·.1)):=λy h=>by
 by_cases q:y∈ax.map (·.1)
 ·exact q
 ·exact absurd (Pa q) h
theorem P4(n:List Nat):aL C.θ (ao n)=⟨n.toArray⟩:=by unfold aL;rw[jt (qE n)]
theorem P5{j:Nat}{D:al}{l:List (Tx×V)}{ax:List (ai×ac)}{n:List Nat}{x:V}{cx:ac}{h':cD}{tk:Tok}(R:Rep C σ st s)(hj:σ.ρ[j]?=some D)(hk:cM C σ l ax)(hx:VR C σ x cx)(hl:aH l.length 50=true)
  (k:∀b ob,b≠D->s.heap.get? b=some ob->h'.get? b=some ob) (dom:∀b,h'.get? b=none->s.heap.get? b=none) (hn:h'.Ns1 D (λy=>if y=⟨n.toArray⟩then some cx else ax.lookup y)) :
  Step C.tabs σ σ s {s with heap:=h',toks:=tk}/\Rep C σ (st.set j (.at_ ((ao n,x)::l))) {s with heap:=h',toks:=tk}:=by
 refine⟨Step.set (fK hj) k dom (gK _ _ rfl),R.set hj k ⟨(⟨n.toArray⟩,cx)::ax,?_,?_,?_⟩⟩
 ·rw[P2]at hn;exact hn
 ·refine bX (P4 (C:=C) n) ?_;exact .cons hx hk
 ·have:=bF hl
  rw[cH,<-hk.len];lia
theorem abU(X:jR C Nc mN){v x:V}{n:List Nat}{am:St}{cv cx:ac}(h:A7 C.T v n x st=some am)(R:Rep C σ st s)(hv:VR C σ v cv)(hx:VR C σ x cx):aM C A (setAttr cv ⟨n.toArray⟩ cx) σ s (λ_ aa s'=>Rep C aa am s'):=by
 intro E;induction v using V.casesOn with
 | loc a=>
  refine ah (av h) λp ep h=>xA (bK h) λon h=>VR.mf hv λw hw=>?_
  have hg:=HN ep;obtain⟨k,d⟩:=p;refine fj (R.get hw hg) λo g kr z=>?_
  have ze:=fK hw;induction d with
  | none=>
   refine xA z λz1 z2=>?_
   induction k with
   | ins=>exact absurd rfl z2
   | fn id caps=>
    refine xA kr λhc y=>fL y λfd lt y=>?_
    obtain⟨hh,gg,dd,tt,os⟩:=s;refine c8 (xG (Nn (E:=E) (m:=λ_=>none) (ns:=[]) (Q:=λ_ s'=>∃h' tk D,s'=⟨h',gg,dd,tk,os⟩/\Bk hh h' w o (λ_=>none) ⟨n.toArray⟩ cx D/\hh.get? D=none) g hc ⟨fd,y.1⟩ (.inl ⟨z1,λ_=>rfl⟩) (X.yQ n on) (λy h=>absurd rfl h) (by decide) (λh' tk D F q=>⟨h',tk,D,rfl,F,q.elim (·.2) λq=>by rw[z1]at q;exact au q⟩))) (λ_ s' y=>xA y λ_ y=>?_) λ_ _ e=>e.2
    refine bf h ?_;refine gY y λh' tk D e F hD=>?_
    subst e;have le:=ur (σ:=σ) D;have hDw:∀b∈σ.ρ,b≠D:=λb hb q=>by have:=R.has hb;rw[q,show(⟨hh,gg,dd,tt,os⟩:ak).heap.get? D=none from hD]at this;exact bV this
    have O:=Out.fresh R hD;have keep:∀b ob,b≠w->hh.get? b=some ob->h'.get? b=some ob:=λb ob hb e=>F.keep b ob hb (λq=>by rw[q,hD]at e;exact au e) e
    have ht:∀t∈C.tabs,t≠w:=λt m q=>R.yC m (q▸ze)
    have ha:=(gW.mp hw).1;have kb:∀b o,C.h₀.get? b=some o->hh.get? b=some o->h'.get? b=some o:=λb o e g=>keep b o (λq=>by rw[q,R.new w ze]at e;exact au e) g
    refine⟨⟨σ.ρ++[D],σ.φ⟩,⟨⟨[D],rfl,λb hb=>cO.mp hb▸hD⟩,⟨[],by simp,λ_ q=>nomatch q⟩,λb ob e h1 _=>keep b ob (λq=>h1 (q▸ze)) e,F.dom,⟨_,_,rfl⟩⟩,by simp[St.push,St.set,R.n],by simp[St.push,St.set,NC,R.l],λi b e=>?_,tB.mpr ⟨R.nd,by simp,λb m c m' q=>O.o (cO.mp m'▸q▸m)⟩,λb m=>?_,λz hz=>?_,λb ob e hb=>kb b ob e (R.base b ob e hb),R.code.mono le (λt m o e=>keep t o (ht t m) e) (λb o e _ g=>kb b o e g) R.base⟩
    ·have gp:=fun(i:Nat) (h:i<=st.n)=>St.yD (st:=st.set a (.ob (.fn id caps) (some st.n))) (o:=.at_ [(ao n,x)]) (j:=i) h
     by_cases hi:i<σ.ρ.length
     ·have e':σ.ρ[i]?=some b:=by
       rw[pQ hi]at e;exact e
      have gi:∀o',(st.set a (.ob (.fn id caps) (some st.n))).get i=some o'->((st.set a (.ob (.fn id caps) (some st.n))).push (.at_ [(ao n,x)])).get i=some o':=λo' q=>(gp i (by exact ab (R.n) (fh hi))).trans ((if_neg (show i≠st.n by exact ab (R.n) (AD hi))).trans q)
      by_cases zf:i=a
      ·replace zf:=nF zf;subst zf
       have:b=w:=aI (e'.symm.trans hw)
       replace this:=nF this;subst this
       refine⟨.ob (.fn id caps) (some st.n),gi _ (by rw[St.get_set R.l (by rw[R.n];exact hi) (by rw[R.n];exact hi),if_pos rfl]),_,F.obj,?_,D,rfl,by rw[R.n];simp,F.ne⟩;have kr':=KR.mono le kr;exact xA kr' λc y=>⟨c,y⟩
      ·refine ah (R.obj i b e') λo' e1 x'=>⟨o',gi _ (by rw[St.get_set R.l (by exact ab (R.n) ha) (by exact ab (R.n) hi),if_neg zf];exact e1),x'.mono le λob q=>keep b ob (wi R.nd e' hw zf) q⟩
     ·have:i=σ.ρ.length:=by
       have:=(gW.mp e).1
       simp only[cS,cH,lS]at this;exact FC hi this
      subst this;simp at e;subst e;refine⟨.at_ [(ao n,x)],(gp _ (by exact ab (R.n) (dr _))).trans (if_pos (show _=st.n from R.n.symm)),[(⟨n.toArray⟩,cx)],?_,?_,by simp⟩
      ·have:=(show h'.Ns1 D (λy=>if y=⟨n.toArray⟩then some cx else([]:List (ai×ac)).lookup y) from F.ns)
       rw[P2]at this;exact this
      ·refine bX (P4 (C:=C) n) ?_;exact .cons (hx.mono le) .nil
    ·rcases dc.mp m with m|m
     ·exact R.new b m
     ·exact cO.mp m▸O.z
    ·refine bP (R.df z hz) λq1 q2 q3=>⟨keep _ _ (λq=>q2 (q▸ze)) q1,λm=>?_,q3⟩
     rcases dc.mp m with m|m
     ·exact q2 m
     ·exact O.f z hz (cO.mp m)
  | some j=>
   refine fj z λD z1 z2 z3=>ah (av h) λl el h=>xA (bK h) λhl h=>?_
   refine bf h ?_;refine ah (B5 el) λj' ej gj=>?_
   cases ej;refine fj (R.get z2 gj) λax ns hk eX=>?_
   induction k with
   | fn id caps=>
    refine xA kr λhc y=>fL y λfd lt y=>?_
    obtain⟨hh,gg,dd,tt,os⟩:=s;refine c8 (xG (Nn (E:=E) (m:=(ax.lookup ·)) (ns:=ax.map (·.1)) (Q:=λ_ s'=>∃h' tk,s'=⟨h',gg,dd,tk,os⟩/\Bk hh h' w o (ax.lookup ·) ⟨n.toArray⟩ cx D) g hc ⟨fd,y.1⟩ (.inr ⟨D,z1,z3,ns⟩) (X.yQ n on) (P3 ax) (by rw[cK];lia) (λh' tk D' F q=>⟨h',tk,rfl,by
     have:D'=D:=q.elim (λq=>by rw[z1]at q;exact kn q.1) λq=>aI (q.symm.trans z1)
     exact this▸F⟩))) (λ_ s' y=>xA y λ_ y=>be y λh' tk e F=>?_) λ_ _ e=>e.2
    subst e;refine xA (P5 (s:=⟨hh,gg,dd,tt,os⟩) (tk:=tk) R z2 hk hx hl (λb ob hb e=>?_) F.dom F.ns) λq1 q2=>⟨σ,q1,q2⟩
    by_cases q:b=w
    ·replace q:=nF q;subst q
     have:ob=o:=aI (e.symm.trans g)
     replace this:=nF this;subst this
     rw[F.obj,<-z1]
    ·exact F.keep b ob q hb e
   | ins=>
    refine xA kr λhc qj=>ry ((X.now R).obj) λnm qn bs sn sub col ddx k0 k1 k2 k3 k5 hC=>?_
    have I0:s.heap.Inst w C.cls (ax.lookup ·):=⟨o,g,hc,qj,.inr (cp D z1 z3 ns)⟩;have hxC:w≠C.cls:=λe=>by
     refine ry X.at_.obj λnm' qn' bs' sn' arR arS arT k0' k1' k2' k3' k5' hC0=>?_
     have:=R.new w ze
     rw[e,hC0]at this;exact kn this
    have h1:=(X.now R).ns;obtain⟨hh,gg,dd,tt,os⟩:=s;refine c8 (xG (store_attr (Q:=λ_z s'=>∃h' tk,s'=⟨h',gg,dd,tk,os⟩/\(h'.Ns1 D (λy=>if y=⟨n.toArray⟩then some cx else ax.lookup y))/\(∀b ob,b≠D->hh.get? b=some ob->h'.get? b=some ob)) (E:=E) PySem.F.store_object hC h1 X.sa (X.atC n on) (X.HL n on) hxC I0 (λh' qi I' k hx=>?_) (P3 ax) (by rw[cK,ir];lia)))
     (λ_z s' ag=>xA ag λht cU=>lY cU λh' tk e I' k=>?_) λ_z _z e=>e.2
    ·refine FM (hx o g) λo1 f1 f2 f3 f4 f5=>⟨h',qi,rfl,?_,λb ob hb e=>?_⟩
     ·refine vu I' λo2 g1 _z _z g4=>?_
      rw[f1]at g1;replace g1:=aI g1;subst g1;rcases g4 with d5|d5
      ·refine xA d5 λg4 _=>?_
       rw[f5 D z1]at g4;exact kn g4
      ·refine fj d5 λdd g4 _ g5=>?_
       rw[f5 D z1]at g4;replace g4:=aI g4;subst g4;exact g5
     ·by_cases q:b=w
      ·replace q:=nF q;subst q
       have:ob=o:=aI (e.symm.trans g)
       subst this;rw[f1];have f5:=f5 D z1;induction o1;induction ob
       simp_all
      ·exact k b ob q (λabV dx q1 q2=>by
        have:abV=o:=aI (q1.symm.trans g)
        replace this:=nF this;subst this
        have:D=dx:=aI (z1.symm.trans q2)
        exact this▸hb) e
    ·subst e;refine xA (P5 (s:=⟨hh,gg,dd,tt,os⟩) (tk:=tk) R z2 hk hx hl k ?_ I') λq1 q2=>⟨σ,q1,q2⟩
     intro b e;induction q:hh.get? b with
     | none=>rfl
     | some ob=>
      by_cases hb:b=D
      ·replace hb:=nF hb;subst hb
       refine dN I' λod es ep e' _=>?_
       rw[e']at e;exact kn e
      ·have:=k b ob hb q
       rw[this]at e;exact kn e
 | _=>exact au h
end
section
variable {C:Cx}{N:cP}{mg mb:ai->Option ac}{A:bC}{σ aa:Sg}{s s':ak}{ow:List al}{sc dL:Sc}{fr:Fr}{env:bd}{cs:List al}{st:St}{Nc:al}{mN:ai->Option ac}
theorem P6(X:jR C Nc mN){n:Nat}{K:bb}(hK:fq C n K){o:ar}{co:Cd}(ho:bn C sc o co){nl:List Nat}{name:ai}(gm:name=⟨nl.toArray⟩){iy:aC}{v ov:V}{cv:ac}{st1 aF:St}(e1:co K fr st=some (ov,st1))(e2:A7 C.T ov nl v st1=some aF)
  (hA:cC n A) (F:bp C sc fr env cs σ s) (R:Rep C σ st s) (hv:VR C σ v cv):aM C A (assign (.Attribute o name iy) env cv) σ s (λ_ aa s'=>Rep C aa aF s'):=by
 intro E;subst gm;refine ab (arm_assign_Attribute ..) (aA (fY ((ho n K hK fr st ov st1 e1 A env cs σ s hA F R).go λoc aY s1 x1 y=>xA y λR1 V1=>aA (kN (aA (fY ((abU (A:=A) X e2 R1 V1 (hv.mono x1.le)).go λ_ σ2 s2 x2 R2=>wpAny_release ⟨σ2,x1.toStep.trans x2.toStep,R2⟩)))))))
theorem P7(X:jR C Nc mN){o cQ:ar}{co c:Cd}{name:ai}{nl:List Nat}{iy pos:aC}(ho:bn C sc o co)(he:bn C sc cQ c)(gm:name=⟨nl.toArray⟩)(hs:∀env:bd,env.scope=sc.scope->iT cQ (some (.Attribute o name iy)) pos.line env=pure false)
  (hw:∀env:bd,env.scope=sc.scope->jD [.Attribute o name iy] cQ env=pure none):hW C sc (.Assign [.Attribute o name iy] cQ pos) (lD C.T co nl c):=by
 intro n K hK fr st f aw am h A env cs σ s hA F R E;refine be (bu h) λv st1 e1 h=>be (bu h) λov aF e2 h=>ah (av h) λhR e3 h=>jj h ?_
 refine Lq ((he n K hK _ st v _ e1 A env cs σ s hA.lo F R).go (λcv aY s1 x1 ag=>xA ag λR1 V1=>?_)) (hs env F.scope) (hw env F.scope);exact(P6 X hK ho gm e2 e3 hA.lo (F.stepT x1) R1 V1).go λ_ σ2 s2 x2 R2=>(iW σ2 ((x1.toStep.trans x2.toStep).fU (iu C sc env cs)) R2 ((F.stepT x1).stepT x2) .next)
inductive sA(C:Cx)(sc:Sc):List ar->List (Cd×List Nat)->Prop
 | nil:sA C sc [] []
 | cons {o:ar} {name:ai} {iy:aC} {co:Cd} {nl:List Nat} {es:List ar} {os:List (Cd×List Nat)}:bn C sc o co->name=⟨nl.toArray⟩->sA C sc es os->sA C sc (.Attribute o name iy::es) ((co,nl)::os)
theorem sA.len{es:List ar}{os:List (Cd×List Nat)}(h:sA C sc es os)(env:bd):(nE es env).length=os.length/\(nE es env).findIdx? (·.1)=none:=by
 induction h with
 | nil=>exact⟨rfl,rfl⟩
 | @cons o name iy co nl es os _ _ _ ih=>
  refine⟨by show(nE es env).length+1=_;refine ab (ih.1 ..) ?_;rfl,?_⟩;refine ab (U6) ?_;simp[ih.2]
theorem abW{T:Tb}{K:bb}{fr:Fr}{os:List (Cd×List Nat)}:∀{vs:List V} {st am:St},Bg T K fr os vs st=some am->vs.length=os.length:=by
 induction os with
 | nil=>intro vs st am h;exact xA (bK h) λe _=>congrArg Fm (lR.mp e)
 | cons o os ih=>
  intro vs st am h;induction vs with
  | nil=>exact au h
  | cons v vs=>exact be (bu h) λov st1 _ h=>ah (av h) λaF _ h=>congrArg (·+1) (ih h)
theorem abX(X:jR C Nc mN){n:Nat}{K:bb}(hK:fq C n K)(hA:cC n A){es:List ar}{os:List (Cd×List Nat)}(h:sA C sc es os):∀{vs:List V} {items:List ac} {st am:St} {σ:Sg} {s:ak},Bg C.T K fr os vs st=some am->bp C sc fr env cs σ s->Rep C σ st s->az C σ vs items ->
  aM C A (Ur ((nE es env).map (·.2)) items) σ s (λ_ aa s'=>Rep C aa am s'):=by
 induction h with
 | nil=>
  intro vs items st am σ s h F R hv;refine xA (bK h) λe h=>?_
  refine bf h ?_;have e:=lR.mp e;subst e
  replace hv:=az.jP hv;subst hv
  exact aM.pure R
 | cons ho gm _ ih=>
  intro vs items st am σ s h F R hv;induction vs using iE with
  | nil=>exact au h
  | cons v vs=>
   refine be (bu h) λov st1 e1 h=>ah (av h) λaF e2 h=>az.iq hv λc items h1 h2=>?_
   exact(aM.hold (P6 X hK ho gm e1 e2 hA F R h1)).bind λ_ aY s1 x1 R1=>ih h (F.stepT x1) R1 (h2.mono x1.le)
theorem abY(X:jR C Nc mN){es vals:List ar}{os:List (Cd×List Nat)}{wr:List Cd}{k k':Nat}{iy uu pos:aC}(he:eM C sc vals wr)(ht:sA C sc es os)(hn:aH os.length 4000=true)(hs:∀env:bd,env.scope=sc.scope->iT (.Tuple vals k' uu) (some (.Tuple es k iy)) pos.line env=pure false)
  (hw:∀env:bd,env.scope=sc.scope->jD [.Tuple es k iy] (.Tuple vals k' uu) env=pure none):hW C sc (.Assign [.Tuple es k iy] (.Tuple vals k' uu) pos) (GU C.T os wr):=by
 intro n K hK fr st f aw am h A env cs σ s hA F R E;refine be (bu h) λvs st1 e1 h=>ah (av h) λaF e2 h=>jj h ?_
 have hl:=abW e2;have e3:bI wr K fr st=some (.tup vs,st1):=by
  unfold bI;rw[e1]
  show eB (vG vs) st1=_
  unfold vG dZ;rw[hl,hn]
  rfl
 refine Lq ((Hz he n K hK fr st _ _ e3 A env cs σ s hA.lo F R).go (λcv aY s1 x1 ag=>xA ag λR1 V1=>?_)) (hs env F.scope) (hw env F.scope);have D:cT C A (cJ C sc env cs) (assign (.Tuple es k iy) env cv) aY s1 (λ_ aa s'=>Rep C aa aF s'/\bp C sc fr env cs aa s'):=by
  refine xA (ht.len env) λh1 h2=>?_
  refine ab (aqb ..) (cT.stand ?_);unfold unpack;refine ab (h1 ..) ?_;refine ab (h2 ..) ?_;refine bX (hl ..) ((cT.hold (HQ (v:=.tup vs) hA.1 rfl R1 (F.stepT x1) V1)).bind λitems aa s' _ ag=>iU ag λq R' F' V'=>?_);subst aa;exactλE=>(abX X hK hA.lo ht e2 F' R' V').go λ_ σ2 s2 x2 R2=>⟨σ2,x2.toStep.fU (iu C sc env cs),R2,F'.stepT x2⟩
 exact D.go λ_ σ2 s2 x2 y=>xA y λR2 F2=>(iW σ2 ((x1.toStep.fU (iu C sc env cs)).trans x2.toStep) R2 F2 .next)
end
section
variable {C:Cx}{N:cP}{mg mb:ai->Option ac}{A:bC}{σ aa:Sg}{s s':ak}{sc:Sc}{fr:Fr}{env:bd}{cs:List al}{st:St}
theorem abZ (H:dz C N mg mb) (hS:sc.Ok) {p pos:aC} {e:ar} {c:Cd} (he:bn C sc e c) (hu:gy e=true) (hn:iZ sc.scope "tuple"= true) (hm:mg "tuple"= none) (hb:mb "tuple"= some (.type "tuple")) :
  bn C sc (.Call (.Name "tuple" p) [e] [] pos) (GG c):=by
 intro n K hK fr st v am h A env cA σ s hA F R;refine be (bu h) λu st1 e1 h=>ah (av h) λl el h=>xA (i9 h) λe2 q=>?_
 subst q;refine xA (Oa (vs:=l) e2) λq hl=>?_
 subst q;refine λE=>aA (wf H hS hn rfl hm hb F R ?_)
 have bH:eM C sc [e] [c]:=.cons he hu .nil;have h1:=we e1;refine PySem.callWith_type (qw bH) (se hK hA bH h1 F R λaU aY s1 x1 R1 V1=>?_);refine az.yH V1 λ_ V1=>kX R1 el V1 λa items k g hv=>?_
 have hsz:=hv.items;refine call_tuple_list g.isList (λh' k'=>?_) (by refine ab (hsz ..) ?_;refine ab (ir ..) ?_;exact fh (mJ hl (by decide)));have R2:Rep C aY am {s1 with heap:=h'}:=R1.grow k';exact fj (BD R2 hv (k:=s1.toks)) λdJ x3 R3 V3=>(cp dJ ((x1.toStep.trans (Step.ext (k:=s1.toks) k')).trans x3) R3 V3)
end
section
variable {C:Cx}{N:cP}{mg mb:ai->Option ac}{A:bC}{σ aa:Sg}{s s':ak}{sc:Sc}{fr:Fr}{env:bd}{cs:List al}{st:St}
theorem aca{o:ac}{sl:al}{Q:ac->ak->Prop}{E:ac->ak->Prop}{M:iS}{w:bD}(hs:px s o)
  (h:aR (model M w) A (pO o (.ref sl)) Q E s) {cQ:ar} {step:ar} {p:aC} :
  aR (model M w) A (te o>>=λb=>subscripted (.Slice none none (some step) p) b o (.ref sl)>>=λr=>tl cQ o r>>=λ_z=>pure r) Q E s:=by
 have fin:aR (model M w) A (subscripted (.Slice none none (some step) p) false o (.ref sl)>>=λr=>tl cQ o r>>=λ_z=>pure r) Q E s:=by
  show aR (model M w) A (operate [o,.ref sl] (pO o (.ref sl))>>=λr=>tl cQ o r>>=λ_z=>pure r) Q E s
  exact aA (UI (c8 h (λr s' q=>aA (Lv (bj q))) λ_z _z e=>e))
 have key:∀{T id:String},s.TypeIs o T->kM (.type T) "__getitem__"= pure (some (.builtin id))->aR (model M w) A (te o) (λb s'=>b=false/\s'=s) E s:=λht hl=>by
  rw[Uz ht.not_modules];exact aA (xF ht hl (bj ⟨rfl,rfl⟩))
 have k2:aR (model M w) A (te o) (λb s'=>b=false/\s'=s) E s:=by
  induction hs with
  | list g=>exact key ⟨_,g,rfl⟩ slot_list_getitem.lookup
  | tup g=>exact key ⟨_,g,rfl⟩ UX.lookup
  | str x t=>exact key (An s x t) UV.lookup
  | dict g h'=>exact key ⟨_,g,h'⟩ slot_dict_getitem.lookup
 exact aA (c8 k2 (λb s' e2=>by obtain⟨rfl,rfl⟩:=e2;exact fin) λ_z _z e=>e)
theorem az.acb{l:List V}{cs:List ac}(h:az C σ l cs):az C σ l.reverse cs.reverse:=
 h.ind (P:=λl cs=>az C σ l.reverse cs.reverse) .nil λv l c cs a _ ih=>by rw[vl,vl];exact ih.append (.cons a .nil)
theorem acd{cQ step:ar}{p pos:aC}{a:Cd}(hv:bn C sc cQ a)(hs:bn C sc step (aj (-1))):bn C sc (.Subscript cQ (.Slice none none (some step) p) pos) (yt a):=by
 intro n K hK fr st v am h A env cs σ s hA F R;refine be (bu h) λx st1 e1 h=>ah (av h) λl el h=>xA (i9 h) λe4 q=>?_
 subst q;refine xA (BE e4) λq hl=>?_
 subst q;rw[Uy];refine(hv n K hK fr st x _ e1 A env cs σ s hA F R).bind λcv aY s1 x1 ag=>xA ag λR1 V1=>?_
 rw[arm_eval_Slice];refine aM.bind (Q:=λi aa s'=>∃sl t,i=.ref sl/\Rep C aa am s'/\s'.heap.get? sl=some {cls:=.type "slice",data:=.fields #[.none,.none,.int (-1) t]}) (aM.hold ?_) ?_
 ·show aM C A (pure .none>>=λl=>holding [l] (pure .none)>>=λu=>holding [l,u] (eval step env)>>=λz=>newFields "slice" [l,u,z]) aY s1 _
  refine aM.bind (Q:=λz aa s'=>z=.none/\aa=aY/\s'=s1) (aM.pure ⟨rfl,rfl,rfl⟩) λz aa s' _z ag=>bP ag λe5 e6 e7=>?_
  subst e5 aa s';refine aM.bind (Q:=λz aa s'=>z=.none/\aa=aY/\s'=s1) (aM.hold (aM.pure ⟨rfl,rfl,rfl⟩)) λz aa s' _z ag=>bP ag λe5 e6 e7=>?_
  subst e5 aa s';refine(aM.hold (hs n K hK fr am (.int (-1)) am rfl A env cs aY s1 hA (F.stepT x1) R1)).bind λc3 dJ s3 x3 ag=>xA ag λR3 V3=>?_
  refine VR.gn V3 λt=>?_
  intro E;refine Lw ?_;have k':∀b ob,s3.heap.get? b=some ob->(s3.heap.push {cls:=.type "slice",data:=.fields [.none,.none,.int (-1) t].toArray}).get? b=some ob:=λb ob e=>iD _ e
  exact⟨dJ,Step.BO k' ⟨_,_,rfl⟩,_,t,rfl,R3.grow k',jg _ rfl⟩
 ·intro i σ2 s2 x2 BR;refine lY BR λsl t ag R2 lG=>?_;subst ag
  refine aM.stand λE=>?_
  refine kX R2 el (V1.mono x2.le) λb items k g hx=>?_
  have hz:=hx.items;have hl:l.length<4000:=by rw[y9,fS,xK]at hl;exact hl
  have hV:az C σ2 (vF l []) (slicePick items none none (some (-1))).toList:=by rw[krv_pick,y9,fS];exact hx.acb
  exact aca (.list g) (aqj g.isList ⟨_,lG,rfl,rfl⟩ .none .none (.int (-1) t) (by decide) (v8 R2 hV) (by exact ab (ir) (fh (mJ (tF hz hl) (by decide)))))
end
section
variable {C:Cx}{N:cP}{mg mb:ai->Option ac}{A:bC}{σ aa:Sg}{s s':ak}{sc:Sc}{fr:Fr}{env:bd}{cs:List al}{st:St}
theorem ace{l r:ar}{pos:aC}{a b:Cd}(hl:bn C sc l a)(hr:bn C sc r b):bn C sc (.BinOp l .Add r pos) (GF a b):=by
 intro n K hK fr st v am h A env cs σ s hA F R;refine be (bu h) λx st1 e1 h=>be (bu h) λy aF e2 h=>ah (av h) λl1 el h=>ah (av h) λl2 em h=>xA (Pm h) λeX h=>?_
 refine dY h ?_;refine v7 hl hr hK e1 e2 hA F R (λcv cu aa s' F' R' h1 h2=>aM.stand (aM.operate λE=>?_));refine kX R' el h1 λx items n g hx=>kX R' em h2 λy r9 n2 g2 hy=>?_
 have s1:=hx.items;have s2:=hy.items;have hl:=mZ eX;rw[cS]at hl;refine P.add_list g g2 ?_ (by refine ab (ir ..) ?_;exact Md s1 s2 hl (by decide));exact Hy R' (o:=.list (l1++l2)) (k:=s'.toks) (λmW le=>⟨_,⟨0,jg _ rfl⟩,by refine ab (Lz ..) ?_;exact(hx.append hy).mono le⟩) rfl
end
section
variable {C:Cx}{N:cP}{mg mb:ai->Option ac}{A:bC}{σ aa:Sg}{s s':ak}{sc:Sc}{fr:Fr}{env:bd}{cs:List al}{st:St}
theorem P8{e:ar}{i:Int}{pos:aC}(he:bn C sc e (aj i)):bn C sc (.UnaryOp .USub e pos) (aj (-i)):=by
 intro n K hK fr st v am h A env cs σ s hA F R E;refine dY h ?_;rw[arm_eval_UnaryOp];refine aA ((he n K hK fr st (.int i) st rfl A env cs σ s hA F R).go λcv aY s1 x1 y=>xA y λR1 V1=>aA (kN (fY ?_)));exact VR.gn V1 λt=>asm ⟨aY,x1.toStep.trans Step.toks,R1.toks,.int _ _⟩
end
section
variable {C:Cx}{N:cP}{mg mb:ai->Option ac}{A:bC}{σ aa:Sg}{s s':ak}{sc:Sc}{fr:Fr}{env:bd}{cs:List al}{st am:St}
theorem acf{θ:Th}{k:Tx}{ks:ai}(h:strOf k=some ks):aL θ k=ks:=by
 unfold strOf at h;induction e:dw k with
 | none=>rw[e]at h;exact au h
 | some l=>rw[e]at h;unfold aL;exact ab (jt e) (aI h)
theorem acg{id:ai}{p0 kp pos:aC}{g:Nat}{e0:ar}{es:List ar}{cs:List Cd}{ve:ar}{d:Cd}{k:Tx}{ks:ai}(he:bn C sc (.Name id p0) (cF g))(bH:eM C sc (e0::es) cs)(hu:gy e0=true)(hd:bn C sc ve d)(hk:strOf k=some ks) :
  bn C sc (.Call (.Name id p0) (e0::es) [⟨some ks,ve,kp⟩] pos) (GO g cs k d):=by
 intro n K hK fr st r am h A env cA σ s hA F R;refine be (bu h) λvs st1 e1 h=>be (bu h) λv aF e2 h=>xA (hK.kw _ _ _ _ _ _ _ h) λH4 Cz=>?_
 show aM C A (eval (.Name id p0) env>>=λf=>ll pos f [] (fJ pos (fg (e0::es) env)) (iB pos (iC [⟨some ks,ve,kp⟩] env))) σ s _
 refine(he n K hK fr st (.bh g) st rfl A env cA σ s hA F R).bind λcf σ0 s0 x0 y=>xA y λR0 V0=>VR.By V0 ?_
 have F0:=F.stepT x0;intro E;refine lz λmm eC=>vw H4 λa o fd hG ho Ij hdt=>?_
 refine ab (hG ..) ?_;have sp:=BS (pos:=pos) hK hA bH e1 F0 R0;refine ab (wb hu ..) ?_;rw[wb hu]at sp;refine callWith_function_kw (o:=o) (fd:=fd) (evalArgs_kw (by rfl) (sp.go (λaU aY s1 x1 ag=>xA ag λR1 V1=>?_)));have F1:=F0.stepT x1
 show aR _ A (evalAll [eval ve env>>=λv=>gv pos>>=λ_z=>pure v]) _ E s1
 refine aA (aA ((hd n K hK fr st1 v aF e2 A env cA aY s1 hA F1 R1).go (λvc σ2 s2 x2 ag=>xA ag λR2 V2=>aA (kN (bj (aA (fY (bj (bj ?_)))))))));refine⟨⟨R2.base _ _ ho Ij,hdt⟩,?_⟩;have F2:=F1.stepT x2;have D:=Cz A σ2 s2 vc aU hA F2.tok R2 V2 (V1.mono x2.le);rw[hG,acf hk]at D;exact c8 (Os D E) (λcr s3 ag=>ah ag λdJ x3 y=>eC _ _ (aW dJ ((x1.toStep.trans x2.toStep).trans x3) y)) λ_z _z e=>e
end
noncomputable def CB(q:Nat->aC):rh:={posonlyargs:=[],args:=[{arg := "parent",annotation:=none,pos:=q 0},{arg := "tag",annotation:=none,pos:=q 1},{arg := "attrib",annotation:=none,pos:=q 2}],vararg:=none,kwonlyargs:=[],kw_defaults:=[],kwarg:=some {arg := "extra",annotation:=none,pos:=q 3},defaults:=[.Dict [] [] (q 4)]}
section
variable {C:Cx}{A:bC}{σ:Sg}{s:ak}{st:St}{q:Nat->aC}
theorem ach{prog:iS}{w:bD}{d:al}{k:ai}{v:ac}{Q:Unit->ak->Prop}{E:ac->ak->Prop}(hd:s.heap.get? d=some (dictOf [] 0))
  (h:∀h',h'.DictOf (ki prog w) d [(k,v)]->Heap.SameBut d s.heap h'->Q () {s with heap:=h',toks:=s.toks+1}):aR (model prog w) A (nsSet d k v) Q E s:=by
 have e:Obj.putName k (PyData.keyHash w.params k) (.str k s.toks) v (dictOf [] 0)=dictOf (kwEs w.params s.toks [(k,v)]) (0+1):=by
  rw[putName_dict];rfl
 refine aA (aA (aqh (bj (aA (Ao (aA (wpAny_loadPart hd ?_)))))));refine ab (show aRefKeyMayBeTheName k ([]:List dU).toArray=false from by rw[aRefKeyMayBeTheName_at];simp) ?_;refine wpAny_updatePart hd ?_
 show Q () {s with heap:=s.heap.update d (Obj.putName k (PyData.keyHash w.params k) (.str k s.toks) v),toks:=s.toks+1}
 refine h _ ?_ (tn ..);refine lZ (kp_isDict (prog:=prog) (w:=w) (ex:=[(k,v)]) s.toks 1 (by simp)) λes ep z1 z2 z3 ag=>?_;refine xA ag λz4 z5=>?_;clear ag
 exact⟨_,es,ep,Fe _ hd (by rw[e];rfl),by rw[e];exact z1,by rw[e];exact z2,z3,z4,z5⟩
theorem aci{fd:nC}{T:al}{oT:aT}{dv:ac}{n:Nat}(h1:fd.params=CB q)(h2:fd.defaults=.ref T)(h3:fd.kwdefaults=.none)(ho:s.heap.get? T=some oT)(hs:oT.data=.seq #[dv] n){a b c v:ac}{Q:List (ai×ac)->ak->Prop}{E:ac->ak->Prop}{prog:iS}{w:bD}
  (h:∀h',h'.DictOf (ki prog w) s.heap.objs.size [(("nag": ai),v)]->Heap.SameBut s.heap.objs.size (s.heap.push (dictOf [] 0)) h' ->
   Q [(("parent": ai),a),(("tag": ai),b),(("attrib": ai),c),(("extra": ai),.ref s.heap.objs.size)] {s with heap:=h',toks:=s.toks+1}):aR (model prog w) A (sX fd ⟨[a,b,c],[(("nag": ai),v)]⟩) Q E s:=by
 obtain⟨name,qualname,params,body,scope,globals,closure,defaults,kwdefaults,doc,pyModule,annotations,code,closureTuple,builtins⟩:=fd;subst h1;subst h2;subst h3
 show aR _ A (seqItems? (.ref T)>>=_) _ _ _
 refine aA (wpAny_seqItems ho hs ?_)
 show aR _ A (alloc {cls:=.type "dict",data:=.dict #[]}>>=_) _ _ _
 refine aA (Lr ?_);have hg:(s.heap.push (dictOf [] 0)).get? s.heap.objs.size=some (dictOf [] 0):=jg _ rfl
 show aR _ A ((forIn [(("nag": ai),v)] gX fun(x:ai×ac) (_:PUnit)=>match x with|(k,v)=>(do nsSet s.heap.objs.size k v;pure (g9 gX):bo (ForInStep PUnit)))>>=_) _ _ _
 rw[mD];refine aA (aA (aA (ach (s:={s with heap:=s.heap.push (dictOf [] 0)}) hg λh' hd IC=>bj ?_)))
 show aR _ A (forIn [] gX _) _ _ _
 rw[U7];exact bj (bj (h h' hd IC))
structure acj(C:Cx)(q:Nat->aC)(fd:nC):Prop where
 par:fd.params=CB q
 ex:∃T oT dv n,fd.defaults=.ref T/\C.h₀.get? T=some oT/\T∉C.tabs/\oT.data=.seq #[dv] n
 kwd:fd.kwdefaults=.none
theorem P9{θ:Th}{k:Tx}(h:dw k=some [110,97,103]):aL θ k=("nag": ai):=by unfold aL;rw[jt h];kernel_rfl
theorem ack{fd:nC}(X:acj C q fd):∀A σ st s aU cu vs u k,dw k=some [110,97,103]->0<s.toks->Rep C σ st s->az C σ vs aU->VR C σ u cu->vs.length+1=(["parent", "tag", "attrib", "extra"]:List ai).length->Ig C A fd ⟨aU,[(aL C.θ k,cu)]⟩ ["parent", "tag", "attrib", "extra"] (vs++[.fd [(k,u)]]) σ st s:=by
 intro A σ st s aU cu vs u k hk ht R hv hu hl Q E;have hc:=hv.length.symm.trans (vm.inj hl)
 revert hv
 refine Mo (λc1 c2 c3 hv kQ=>?_) aU hc;refine ab (P9 hk) ?_;refine lw X.ex λT oT dv n y=>iU y λe1 e2 e3 e4=>aci X.par e1 X.kwd (R.base _ _ e2 e3) e4 λh' tK IC=>?_
 have nf:=rY s.heap;have k1:∀b o,s.heap.get? b=some o->h'.get? b=some o:=λb o e=>IC.extBut b o (rq (kj e)) (iD _ e)
 refine ah (hU.of tK) λoD go IB=>?_
 have OD:=Out.fresh R nf;have R1:Rep C ⟨σ.ρ,σ.φ++[(s.heap.objs.size,oD)]⟩ st {s with heap:=h',toks:=s.toks+1}:=(R.grow (s':={s with heap:=h',toks:=s.toks+1}) k1).freeze λz hz=>by
  simp at hz;subst hz;exact⟨go,OD.o,OD.t,OD.z⟩
 have x1:Step C.tabs σ ⟨σ.ρ,σ.φ++[(s.heap.objs.size,oD)]⟩ s {s with heap:=h',toks:=s.toks+1}:=(Step.ext k1).freeze (z:=(s.heap.objs.size,oD)) nf;have v5:VR C ⟨σ.ρ,σ.φ++[(s.heap.objs.size,oD)]⟩ (.fd [(k,u)]) (.ref s.heap.objs.size):=by
  refine .fd (mF _ (cO.mpr rfl)) IB ?_;refine bX (P9 (θ:=C.θ) hk) ?_;exact .cons (hu.mono (Sg.le_app _ _)) .nil
 have hv':=hv.mono (Sg.le_app σ [(s.heap.objs.size,oD)]);exact kQ _ _ _ x1 (arB _) R1 (hv'.append (.cons v5 .nil))
end
section
variable {C:Cx}{N:cP}{mg mb:ai->Option ac}{A:bC}{σ aa:Sg}{s s':ak}{sc:Sc}{fr:Fr}{env:bd}{cs:List al}{st am:St}
inductive sB:List (ai×ai)->List V->Prop
 | nil:sB [] []
 | cons {p q:ai} {u v:Tok} {l:List (ai×ai)} {r:List V}:u≠0->v≠0->u≠v->sB l r->sB ((p,q)::l) (.tup [.raw p u,.raw q v]::r)
inductive sC:List ar->List (ai×ai)->Prop
 | nil:sC [] []
 | cons {p q:ai} {k k1 k2:Nat} {pos p1 p2:aC} {es:List ar} {l:List (ai×ai)}:sC es l->sC (.Tuple [.Constant (.str p) k1 p1,.Constant (.str q) k2 p2] k pos::es) ((p,q)::l)
theorem acl(R:Rep C σ st s){p q:ai}{k k1 k2:Nat}{pos p1 p2:aC}:aM C A (eval (.Tuple [.Constant (.str p) k1 p1,.Constant (.str q) k2 p2] k pos) env) σ s (λcv aa s'=>Rep C aa st s'/\VR C aa (.tup [.raw p s.toks,.raw q (s.toks+1)]) cv):=by
 refine aM.stand (aM.bind (Q:=λaU aa s'=>aU=[.str p s.toks,.str q (s.toks+1)]/\Rep C aa st s') (λE=>?_) λaU aY s1 x1 y=>xA y λe R1=>λE=>?_)
 ·show aR _ A (spliced ((false,E7 p)::(false,E7 q)::[])) _ E s
  rw[spliced];refine aA (Ao ?_);simp only[rp,if_false];refine aA (bj (aA (fY ?_)));rw[spliced];refine aA (Ao ?_);simp only[rp,if_false];refine aA (bj (aA (fY ?_)));rw[spliced];exact bj (bj (bj ⟨σ,.toks,rfl,R.toks⟩))
 ·subst e;exact UH (BD R1 (items:=#[.str p s.toks,.str q (s.toks+1)]) (.cons (.raw _ _) (.cons (.raw _ _) .nil))) (by show 2<=16777216;decide)
theorem acm{es:List ar}{ps:List (ai×ai)}(h:sC es ps){pos:aC}:∀{σ:Sg} {s:ak},0<s.toks->Rep C σ st s->aM C A (spliced (fJ pos (fg es env))) σ s (λaU aa s'=>Rep C aa st s'/\∃r,sB ps r/\az C aa r aU):=by
 induction h with
 | nil=>exactλ_ R=>aM.pure ⟨R,[],.nil,.nil⟩
 | @cons p q k k1 k2 m8 p1 p2 es l h ih=>
  intro σ s ht R
  show aM C A (spliced ((false,eval (.Tuple [.Constant (.str p) k1 p1,.Constant (.str q) k2 p2] k m8) env)::fJ pos (fg es env))) σ s _
  rw[spliced];refine(acl R).bind λcv aY s1 x1 ag=>xA ag λR1 V1=>?_
  simp only[rp,if_false];refine aM.bind (Q:=λyO aa s'=>yO=[cv]/\aa=aY/\s'=s1) (aM.pure ⟨rfl,rfl,rfl⟩) λyO aa s' _z ag=>bP ag λq1 q2 q3=>?_
  subst q1 aa s';exact(aM.hold (ih (km ht x1.tok) R1)).bind λaU σ2 s2 x2 ag=>tG ag λR2 r hr V2=>aM.pure ⟨R2,_,.cons (arw.mp ht) (Az _) (rq (o7 _)) hr,.cons (V1.mono x2.le) V2⟩
theorem pairs_len{ps:List (ai×ai)}{r:List V}(h:sB ps r):r.length=ps.length:=by
 induction h with
 | nil=>rfl
 | cons _ _ _ _ ih=>exact congrArg (·+1) ih
theorem acn{es:List ar}{ps:List (ai×ai)}(h:sC es ps)(hl:ps.length<4000){k:Nat}{pos:aC}(ht:0<s.toks)(R:Rep C σ st s):aM C A (eval (.Tuple es k pos) env) σ s (λcv aa s'=>Rep C aa st s'/\∃r,sB ps r/\VR C aa (.tup r) cv):=
 aM.stand ((acm h ht R).bind λaU aY s1 x1 ag=>tG ag λR1 r hr V1=>λE=>by
  have eX:=V1.length
  have:=pairs_len hr
  exact UH (fj (BD R1 (items:=aU.toArray) (l:=r) (by simpa using V1)) λaa x R' V=>⟨aa,x,R',r,hr,V⟩) (by show _<=16777216;lia))
theorem aco{K:bb}{l:List Cd}:∀{st am:St} {vs:List V},gl K fr l st=some (vs,am)->vs.length=l.length:=by
 induction l with
 | nil=>intro st am vs h;refine dY h ?_;rfl
 | cons c l ih=>intro st am vs h;exact be (bu h) λv st1 _ h=>be (bu h) λws aF e h=>by refine dY h ?_;exact congrArg (·+1) (ih e)
def CC(v a b:V):Option V:=match a with
 | .raw p u=>(match b with
  | .raw q w=>af (pn v) λx=>af (dw x) λl=>bv ((cX (aG u 0)&&(cX (aG w 0)&&cX (aG u w)))&&((cX (bw p.cps.toList q.cps.toList)&&aH q.cps.size 100)&&aH l.length 4000)) (some (.str (ao (rR l (p.cps.toList,q.cps.toList)))))
  | _=>none)
 | _=>none
def CD(o a b:Cd):Cd:=λK fr st=>bk (o K fr st) λv st1=>bk (gl K fr [a,b] st1) λvs aF=>match vs with
 | []=>none
 | x::vs=>match vs with|[]=>none|y::_=>eB (CC v x y) aF
theorem P'{b:Bool}(h:cX b=true):b=false:=by induction b<;>first|rfl|exact bV h
theorem ux{a b:Nat}(h:cX (aG a b)=true):a≠b:=λe=>by have:=P' h;rw[e,gw]at this;exact nN this
theorem acp{o e1 e2:ar}{c a b:Cd}{apos pos:aC}(he:bn C sc o c)(ha:bn C sc e1 a)(hb:bn C sc e2 b)(u1:gy e1=true)(u2:gy e2=true)(hp:qz o=true)(ol:(apos.endLine==pos.line)=true) :
  bn C sc (.Call (.Attribute o "replace" apos) [e1,e2] [] pos) (CD c a b):=by
 intro n K hK fr st v am h A env cs σ s hA F R;refine be (bu h) λov st1 Cj h=>be (bu h) λvs aF Qa h=>?_
 have bH:eM C sc [e1,e2] [a,b]:=.cons ha u1 (.cons hb u2 .nil);have mq:∃pl,eval (.Call (.Attribute o "replace" apos) [e1,e2] [] pos) env=(eval o env>>=λov=>gv apos.atName>>=λ_=>holding [ov] (rl ov "replace" pl)>>=λz=>ll pos z.1 z.2 (fJ pos (fg [e1,e2] env)) (iB pos (iC [] env))):=by
  refine⟨do return (<-Li o env).getD true,?_⟩
  show(Ad o "replace" env (eval o env)>>=λov=>gv apos.atName>>=λ_=>va o "replace" apos pos env ov (2+([]:List ri).length) (fJ pos (fg [e1,e2] env)) (iB pos (iC [] env)))=_
  refine ab (yR hp ..) ?_;unfold va;refine ab (show E6 (2+([]:List ri).length) (fJ pos (fg [e1,e2] env)) (iB pos (iC [] env))=true from B4 bH (by decide:2<30)) ?_;unfold Lm;refine ab (ol ..) ?_
  rfl
 revert mq;refine yE λpl mq=>ab (mq ..) ((he n K hK fr st _ _ Cj A env cs σ s hA F R).bind λco aY s1 x1 ag=>xA ag λR1 V1=>aM.stand ?_)
 have F1:=F.stepT x1;cases vs with
 | nil=>exact au h
 | cons x vs=>cases vs with
 | nil=>exact au h
 | cons y vs=>
 have hw:=i9 (show eB (CC ov x y) aF=some (v,am) from h)
 clear h
 obtain⟨hw,z⟩:=hw;subst z;induction x using V.casesOn with
 | raw p u=>induction y using V.casesOn with
  | raw q w=>
   refine ah (av hw) λxt ex h6=>ah (av h6) λlx hx h7=>xA (bK h7) λhc hv=>?_
   refine xA ((cz _ _).mp hc) λsu sx=>xA ((cz _ _).mp su) λk1 su=>xA ((cz _ _).mp su) λk2 k3=>xA ((cz _ _).mp sx) λsx k6=>xA ((cz _ _).mp sx) λk4 k5=>?_
   replace hv:=aI hv
   subst hv
   clear h7 h6 hw
   induction ov using V.casesOn with
   | str xs=>
    replace ex:=aI ex
    subst ex;refine VR.fV V1 λt=>?_
    refine(aM.hold (Q:=λz aa s'=>z=(.builtin "str.replace",[.str (aL C.θ xs) t])/\aa=aY/\s'=s1) λE=>GM.replace (iW aY (.refl _ _ _) rfl rfl rfl)).bind λz aa s' _ ag=>bP ag λq1 q2 q3=>?_
    subst q1 aa s';intro E;refine UR (qw bH) (se hK hA bH Qa F1 R1 λaU σ2 s2 x2 R2 V2=>?_);refine az.iq V2 λ_ _ a1 V2=>az.iq V2 λ_ _ a2 V2=>?_
    have hvs:vs=[]:=by
     have:=(aco Qa)
     simpa using this
    subst hvs
    replace V2:=az.jP V2;subst V2
    refine VR.Hc a1 (VR.Hc a2 ?_);have hm:(aL C.θ xs).cps.toList=lx:=by refine ab (oh ..) ?_;exact ab (jt hx ..) rfl
    refine SC.replace (u:=u) (v:=w) (ux k1) (ux k2) (ux k3) ?_ ?_ λt' k=>(cp _ (x2.toStep.trans .toks) R2.toks ?_)
    ·refine beq_eq_false_iff_ne.mpr λe=>?_
     have:=P' k4
     rw[e]at this;rw[yU]at this;exact nN this
    ·have hd:=qq C.θ xs;have eX:(aL C.θ xs).length=lx.length:=by refine ab (hd ..) ?_;exact ab (jt hx ..) rfl
     have h3:q.length<100:=bF k5;have h4:lx.length<4000:=bF k6;rw[eX]
     have:(lx.length+1)*q.length<=4000*100:=Ax h4 (fh h3)
     lia
    ·have e9:AB (aL C.θ xs) p q=aL C.θ (ao (rR lx (p.cps.toList,q.cps.toList))):=BZ (by
      rw[oh,pw];exact bX (hm) rfl)
     rw[e9];exact .str _ t'
   | _=>exact au ex
  | _=>exact au hw
 | _=>exact au hw
def wA(i m n:Nat):Cs:=aP (.loc i) (CD (ae i) (ae m) (ae n))
noncomputable def nh(p:ai×ai):List Nat×List Nat:=(p.1.cps.toList,p.2.cps.toList)
def CE(ps:List (List Nat×List Nat)):Bool:=ps.all λp=>cX (bw p.1 p.2)&&aH p.2.length 100
structure RpF(i m n:Nat)(ps:List (ai×ai))(l':List Nat)(fr aw:Fr):Prop where
 C:aw.C=fr.C
 len:aw.L.length=fr.L.length
 Qb:∀j,j≠i->j≠m->j≠n->aw.L[j]?=fr.L[j]?
 txt:∃x',aw.L[i]?=some (some (.str x'))/\dw x'=some l'
 lst:ps=[]\/∃p u v,ps.getLast?=some p/\aw.L[m]?=some (some (.raw p.1 u))/\aw.L[n]?=some (some (.raw p.2 v))
theorem acq{b:Bool}(h:b=false):cX b=true:=by subst h;rfl
theorem ID{a b:Nat}(h:a≠b):cX (aG a b)=true:=acq (by cases e:aG a b with|false=>rfl|true=>exact absurd (dj e) h)
theorem acr{p q:ai}{u v:Tok}{x:Tx}{l:List Nat}(hx:dw x=some l)(hu:u≠0)(hv:v≠0)(IE:u≠v)(h1:(cX (bw p.cps.toList q.cps.toList)&&aH q.cps.toList.length 100)=true)(h2:aH l.length 4000=true) :
  CC (.str x) (.raw p u) (.raw q v)=some (.str (ao (rR l (p.cps.toList,q.cps.toList)))):=by
 refine vY hx (dI ?_ rfl)
 have:q.cps.size=q.cps.toList.length:=rn.symm
 rw[ID hu,ID hv,ID IE,this,h1,h2];rfl
theorem acs{K:bb}{i m n:Nat}(CF:i≠m)(mV:i≠n)(CG:m≠n){ps:List (ai×ai)}{r:List V}(h:sB ps r):CE (ps.map nh)=true->∀{fr:Fr} {x:Tx} {l l':List Nat},m<fr.L.length->n<fr.L.length->fr.L[i]?=some (some (.str x))->dw x=some l ->
  tZ (ps.map nh) l=some l'->∃aw,iI K (.tup [.loc m,.loc n]) (wA i m n) r fr st=some (.next,aw,st)/\RpF i m n ps l' fr aw:=by
 induction h with
 | nil=>
  intro _ fr x l l' _ _ hi hx h;refine bf h ?_;exact⟨fr,rfl,rfl,rfl,λ_ _ _ _=>rfl,⟨x,hi,hx⟩,.inl rfl⟩
 | @cons p q u v ps r hu hv IE hr ih=>
  intro qx fr x l l' hm hn hi hx h;have qx:=qx;refine xA ((cz _ _).mp qx) λzc hp2=>?_
  have h:=h;refine xA (bK h) λhl h=>?_
  refine xE (HP (v:=.raw p u) hm) λL1 e1=>bP (si e1) λ_ n1 g1=>xE (HP (v:=.raw q v) (n1.symm▸hn)) λL2 e2=>bP (si e2) λ_ n2 g2=>?_
  have hiL:i<L2.length:=by rw[n2,n1];exact(gW.mp hi).1
  refine xE (HP (v:=.str (ao (rR l (p.cps.toList,q.cps.toList)))) hiL) λL3 e3=>bP (si e3) λ_ n3 g3=>?_
  have s2i:L2[i]?=some (some (.str x)):=by rw[g2,if_neg mV,g1,if_neg CF];exact hi
  have Qc:L2[m]?=some (some (.raw p u)):=by rw[g2,if_neg CG,g1,if_pos rfl]
  have Qd:L2[n]?=some (some (.raw q v)):=by rw[g2,if_pos rfl]
  have l3:=n3.trans (n2.trans n1);refine ah (ih hp2 (fr:=⟨L3,fr.C⟩) (x:=ao (rR l (p.cps.toList,q.cps.toList))) (by exact ab (l3) hm) (by exact ab (l3) hn) (by rw[g3,if_pos rfl]) (qE _) h) λaw ot H=>⟨aw,?_,?_⟩
  ·have sl:∀{j:Nat} {w:V},L2[j]?=some (some w)->ae j K ⟨L2,fr.C⟩ st=some (w,st):=λe=>by show af _ _=_;rw[e];rfl
   have hb:wA i m n K ⟨L2,fr.C⟩ st=some (.next,⟨L3,fr.C⟩,st):=by
    show bk (CD (ae i) (ae m) (ae n) K ⟨L2,fr.C⟩ st) (λv st1=>nY (iY v (.loc i) ⟨L2,fr.C⟩) st1)=_
    have:CD (ae i) (ae m) (ae n) K ⟨L2,fr.C⟩ st=some (.str (ao (rR l (p.cps.toList,q.cps.toList))),st):=by
     show bk (ae i K ⟨L2,fr.C⟩ st) _=_
     rw[sl s2i]
     show bk (bk (ae m K ⟨L2,fr.C⟩ st) _) _=_
     rw[sl Qc]
     show bk (bk (bk (ae n K ⟨L2,fr.C⟩ st) _) _) _=_
     rw[sl Qd]
     show eB (CC (.str x) (.raw p u) (.raw q v)) st=_
     rw[acr hx hu hv IE zc hl];rfl
    rw[this]
    show nY (af (ku L2 i _) _) st=_
    rw[e3];rfl
   show af (af (af (ku fr.L m (.raw p u)) λL=>some ⟨L,fr.C⟩) λaw=>af (iY (.raw q v) (.loc n) aw) λwB=>some wB) (λbc=>eV (wA i m n K bc st) _)=_
   rw[e1]
   show af (af (af (ku L1 n (.raw q v)) λL=>some ⟨L,fr.C⟩) λwB=>some wB) (λbc=>eV (wA i m n K bc st) _)=_
   rw[e2]
   show eV (wA i m n K ⟨L2,fr.C⟩ st) _=_
   refine ab (hb) ?_;exact ot
  ·refine⟨H.C,H.len.trans l3,λj a b c=>(H.Qb j a b c).trans ?_,H.txt,.inr ?_⟩
   ·show L3[j]?=_
    rw[g3,if_neg a,g2,if_neg c,g1,if_neg b]
   ·induction hr with
    | nil=>
     refine jj ot ?_;exact vy (p,q) u v rfl (by rw[g3,if_neg (vq CF)];exact Qc) (by rw[g3,if_neg (vq mV)];exact Qd)
    | cons a b c d=>exact H.lst.elim (λq=>nomatch q) λy=>dN y λz u' v' ez y=>⟨z,u',v',by rw[aqV];exact ez,y⟩
theorem Qe{ps:List (ai×ai)}:GW (ps.map nh)=ps.getLast?.map nh:=by
 induction ps with
 | nil=>rfl
 | cons p ps ih=>induction ps with
  | nil=>rfl
  | cons q ps=>exact ab (aqV) ih
theorem bp.act(F:bp C sc fr env cs σ s){L:List (Option V)}(hl:L.length=fr.L.length)(h:∀(j:Nat) (o:Option V),fr.L[j]?=some o->∃o',L[j]?=some o'/\∀c,kz C σ o c->kz C σ o' c):bp C sc ⟨L,fr.C⟩ env cs σ s:=
 ⟨F.scope,F.globals,F.builtins,ah F.ns λm hm k=>⟨m,hm,λj x hj=>ah (k j x hj) λo e1 e2=>ah (h j o e1) λo' e3 e4=>⟨o',e3,e4 _ e2⟩⟩,F.bi,F.out,F.outF,F.has,F.nd,hl.trans F.jQ,F.qo,F.qp,F.tok,F.cd⟩
theorem acu{θ:Th}{x y:Tx}{l:List Nat}(h1:dw x=some l)(h2:dw y=some l):aL θ x=aL θ y:=by unfold aL;rw[jt h1,jt h2]
theorem Qf{x:ai}{t:Tok}{c:ac}(h:VR C σ (.raw x t) c):VR C σ (.str (ao x.cps.toList)) c:=VR.Hc h (by
 have:x=aL C.θ (ao x.cps.toList):=by unfold aL;rw[pw]
 exact(congrArg (λy=>VR C σ (.str (ao x.cps.toList)) (.str y t)) this).mpr (.str _ t))
theorem acv(hz:(C.h₀.get? il).isSome=true)(hS:sc.Ok){i m n:Nat}{ps:List (ai×ai)}{es:List ar}(hp:sC es ps)(hl:ps.length<4000)(IF:CE (ps.map nh)=true){nt nm nn:ai}(ht:sc.ln[i]?=some nt)(hm:sc.ln[m]?=some nm)(hn:sc.ln[n]?=some nn)(CF:i≠m)(mV:i≠n)(CG:m≠n)
  {p1 p2 p3 p4 p5 p6 ap p7 p8 p9 nO pos:aC} {k k':Nat} (ol:(ap.endLine==p9.line)=true) (hs:∀env:bd,env.scope=sc.scope->iT (.Call (.Attribute (.Name nt p6) "replace" ap) [.Name nm p7,.Name nn p8] [] p9) (some (.Name nt p5)) nO.line env=pure false)
  (hw:∀env:bd,env.scope=sc.scope->jD [.Name nt p5] (.Call (.Attribute (.Name nt p6) "replace" ap) [.Name nm p7,.Name nn p8] [] p9) env=pure none) :
  hW C sc (.For (.Tuple [.Name nm p1,.Name nn p2] k p3) (.Tuple es k' p4) [.Assign [.Name nt p5] (.Call (.Attribute (.Name nt p6) "replace" ap) [.Name nm p7,.Name nn p8] [] p9) nO] [] pos) (vN i m n (ps.map nh)):=by
 intro N' K hK fr st f aw am h A env cs σ₀ s₀ hA kB R₀;refine be (bu h) λv st1 e1 h=>ah (av h) λx ex h=>ah (av h) λl hx h=>ah (av h) λl' hg h=>ah (av h) λp ep h=>ah (av h) λbc b1 h=>ah (av h) λbr b2 h=>bP (wq h) λb3 z1 z2=>?_
 subst z1 z2;refine ah (av e1) λo eo e1=>xA (i9 e1) λeo' z=>?_
 subst z eo';have hvx:v=.str x:=by induction v using V.casesOn<;>first|exact au ex|exact congrArg V.str (aI ex)
 subst hvx;refine ah (av b1) λL1 c1 b1=>ah (av b2) λL2 c2 b2=>ah (av b3) λL3 c3 b3=>?_
 cases b1;cases b2;refine bf b3 ?_;refine bP (si c1) λd1 n1 g1=>bP (si c2) λd2 n2 g2=>bP (si c3) λd3 n3 g3=>?_
 have nmo:kY C sc [.Name nm p1,.Name nn p2] [.loc m,.loc n]:=.cons hm (.cons hn .nil);have mv:iw C sc [.Assign [.Name nt p5] (.Call (.Attribute (.Name nt p6) "replace" ap) [.Name nm p7,.Name nn p8] [] p9) nO] (wA i m n):=
  ON (H7 hS (acp (BC hS ht) (BC hS hm) (BC hS hn) rfl rfl rfl ol) (.one (t:=.loc i) ht) hs hw)
 refine OS (st1:=am) hS (.tup nmo) mv (λ_ _=>rfl) hK hA kB (H:=λsrc=>∃r,src=.vals r/\sB ps r) (λsrc y=>ah y λr e hr=>?_) λQ E kq=>?_
 ·subst e;refine ah (acs (K:=K) (st:=am) CF mV CG hr IF (fr:=fr) (by exact d1) (by rw[n1]at d2;exact d2) eo hx hg) λeE ot W=>⟨eE,ot,λσ s F=>?_⟩
  have:=bp.act (L:=(L3:List (Option V))) F (n3.trans (n2.trans (n1.trans W.len.symm))) (fun(j:Nat) (o:Option V) (ej:eE.L[j]?=some o)=>?_)
  ·rw[W.C]at this;exact this
  ·by_cases ji:j=i
   ·subst j;refine ah W.txt λx' e' w'=>?_
    rw[e']at ej;replace ej:=aI ej;subst ej;refine aW _ (by rw[g3,if_pos rfl]) (λc y=>?_);cases y with
    | some y=>exact .some (VR.fV y λt=>acu (θ:=C.θ) (qE l') w'▸.str _ t)
   ·by_cases jm:j=m
    ·subst j;rcases W.lst with q|y
     ·replace q:=nF q;replace q:=nF q;subst q;exact au ep
     ·refine gY y λz u w ez y1 y2=>?_
      rw[y1]at ej;replace ej:=aI ej;subst ej
      have:p=nh z:=by rw[Qe,ez]at ep;exact(aI ep).symm
      subst this;refine aW (some (.str (ao z.1.cps.toList))) (by rw[g3,if_neg ji,g2,if_neg CG,g1,if_pos rfl];rfl) (λc y=>?_);cases y with
      | some y=>exact .some (Qf y)
    ·by_cases jn:j=n
     ·subst j;rcases W.lst with q|y
      ·subst q;exact au ep
      ·refine gY y λz u w ez y1 y2=>?_
       rw[y2]at ej;replace ej:=aI ej;subst ej
       have:p=nh z:=by rw[Qe,ez]at ep;exact(aI ep).symm
       subst this;refine aW (some (.str (ao z.2.cps.toList))) (by rw[g3,if_neg ji,g2,if_pos rfl];rfl) (λc y=>?_);cases y with
       | some y=>exact .some (Qf y)
     ·refine aW o ?_ (λc y=>y);rw[g3,if_neg ji,g2,if_neg jn,g1,if_neg jm,<-W.Qb j ji jm jn];exact ej
 ·refine(acn hp hl kB.tok R₀).go λc aY s1 x1 y=>tG y λR1 r hr V1=>?_
  exact OH hz hA.1 (v:=.tup r) (src:=.vals r) rfl R1 V1 λI aa s' x2 R2 it hn O=>kq (.vals r) I aa s' ⟨r,rfl,hr⟩ ⟨x1.toStep.trans x2.toStep,dG x1.tok x2.tok⟩ R2 it (by
   induction e:s₀.heap.get? I with
   | none=>rfl
   | some o=>exact absurd hn (by
    have:=x1.toStep.dom I
    intro q;rw[this q]at e;exact au e)) O
end
section
variable {C:Cx}{N:cP}{mg mb:ai->Option ac}{A:bC}{σ aa:Sg}{s s':ak}{ow:List al}{sc dL:Sc}{fr:Fr}{env:bd}{cs:List al}{st:St}
theorem acw{l:List V}{j:Nat}{v:V}(h:l[j]?=some v):rN (j:Int) (l.drop j)=.tup [.int (j:Int),v]::rN ((j+1:Nat):Int) (l.drop (j+1)):=by
 have hj:=(gW.mp h).1;refine ab (LG hj ..) ?_
 have:l[j]=v:=(gW.mp h).2
 refine ab (this ..) ?_;rfl
structure uy(C:Cx)(env:bd)(cs:List al)(σ:Sg)(h:cD)(e it l:al)(items:Array ac)(i:Nat):Prop where
 en:∃old,IsEnum h e it i old
 li:h.IsListIter it l i
 ls:∃n,(l,jO items n)∈σ.φ
 oe:Out C σ e
 oi:Out C σ it
 ne:e≠it
 me:e∉env.locals::cs
 mi:it∉env.locals::cs
theorem uy.step{e it l:al}{items:Array ac}{i:Nat}(x:uy C env cs σ s.heap e it l items i)(y:Step (cJ C sc env cs) σ aa s s'):uy C env cs aa s'.heap e it l items i:=by
 obtain⟨⟨old,h1⟩,⟨o,h2,h3⟩,⟨n,h4⟩,h5,h6,h7,h8,h9⟩:=x;exact⟨⟨old,y.keep e _ h1 h5.o (qA h8 h5.t)⟩,⟨o,y.keep it _ h2 h6.o (qA h9 h6.t),h3⟩,⟨n,y.le.φ _ h4⟩,h5.step y (by refine ab (h1 ..) ?_;rfl) (qA h8 h5.t),h6.step y (by refine ab (h2 ..) ?_;rfl) (qA h9 h6.t),h7,h8,h9⟩
theorem bp.acx(F:bp C sc fr env cs σ s){h':cD}{tk:Tok}(ht:s.toks<=tk)(kp:∀a∈env.locals::cs,∀o,s.heap.get? a=some o->h'.get? a=some o):bp C sc fr env cs σ {s with heap:=h',toks:=tk}:=by
 refine⟨F.scope,F.globals,F.builtins,?_,λi n h=>?_,F.out,F.outF,λa ha=>?_,F.nd,F.jQ,F.qo,F.qp,km F.tok ht,F.cd⟩
 ·refine ah F.ns λm ag hm=>?_;refine dN ag λo es ep e r=>?_;clear ag
  exact(aW m ⟨o,es,ep,kp _ bT _ e,r⟩ hm)
 ·exact fZ (F.bi i n h) λa v c y=>iV y λh1 h2 h3 ag h6 h7=>ah ag λo h4 h5=>⟨a,v,c,h1,h2,h3,⟨o,kp a (bL _ (fK h1)) _ h4,h5⟩,h6,h7⟩
 ·refine xE (pV.mp (F.has a ha)) λo e=>?_
  refine ab (kp a ha o e ..) ?_;rfl
theorem bp.lock(F:bp C sc fr env cs σ s){a:al}{o:aT}(ha:a∉env.locals::cs):bp C sc fr env cs ⟨σ.ρ,σ.φ++[(a,o)]⟩ s:=by
 have ne {b:al} (hb:b∈env.locals::cs) (k:∀x∈σ.φ,x.1≠b):∀x∈σ.φ++[(a,o)],x.1≠b:=λz hz q=>(dc.mp hz).elim (λhz=>k z hz q) λhz=>by
  rw[cO.mp hz]at q;have q:a=b:=q;exact ha (by exact ab (q) hb)
 refine⟨F.scope,F.globals,F.builtins,?_,λi n h=>?_,F.out,ne bT F.outF,F.has,F.nd,F.jQ,F.qo,F.qp,F.tok,F.cd⟩
 ·exact ah F.ns λm hm k=>⟨m,hm,λi n h=>ah (k i n h) λv e x=>⟨v,e,x.mono (Sg.le_app _ _)⟩⟩
 ·refine fZ (F.bi i n h) λb v c y=>iV y λh1 h2 h3 h4 h6 h7=>⟨b,v,c,h1,h2,h3,h4,h6.mono (Sg.le_app _ _),?_⟩
  have hb:=bL env.locals (fK h1);induction e:sc.fin with
  | false=>rw[e]at h7;exact ne hb h7
  | true=>
   rw[e]at h7;induction v with
   | none=>exact ne hb h7
   | some w=>exact xE h7 λoc h=>⟨oc,jF _ h⟩
inductive EnL(C:Cx)(sc:Sc)(env:bd)(cs:List al)(K:bb)(ts:List Tg)(b:Cs)(l:List V)(items:Array ac)(r:Fl×Fr×St)(ea ia la:al)(σ₀:Sg)(s₀:ak)(m:Nat)(s:ak):Prop
 | mk (j:Nat) (uk:Fr) (oq:St) (iJ:Sg) (hr:iI K (.tup ts) b (rN (j:Int) (l.drop j)) uk oq=some r) (hm:m=l.length-j) (hj:j<=l.length) (hv:az C iJ l items.toList) (X:Step (cJ C sc env cs) σ₀ iJ s₀ s) (F:bp C sc uk env cs iJ s) (R:Rep C iJ oq s) (I:uy C env cs iJ s.heap ea ia la items j)
theorem acy{K:bb}{c:Cd}{src:Src}{st1:St}(h:tX c K fr st=some (src,st1)):∃l,c K fr st=some (.fl l,st1)/\src=.vals (rN 0 l):=by
 refine be (bu h) λv aF e2 e1=>?_
 induction v using V.casesOn with
 | fl l=>exact dY e1 (aW l e2 rfl)
 | _=>exact au e1
theorem acz(H:dz C N mg mb)(hS:sc.Ok){e:ar}{Qg:List ar}{tk:Nat}{tp:aC}{body:List bS}{ts:List Tg}{c:Cd}{b:Cs}{p CH pos:aC}(he:bn C sc e c)(hu:gy e=true)(ht:mr C sc (.Tuple Qg tk tp) (.tup ts))(hb:iw C sc body b)
  (hn:iZ sc.scope "enumerate"= true) (hm:mg "enumerate"= none) (hbm:mb "enumerate"= some (.type "enumerate")) :
  hW C sc (.For (.Tuple Qg tk tp) (.Call (.Name "enumerate" p) [e] [] CH) body [] pos) (eW (.tup ts) (tX c) b):=by
 intro n K hK fr st f aw am h A env cs σ₀ s₀ hA kB R₀ E;refine be (bu h) λsrc st1 e1 h=>ah (acy e1) λl e2 ag=>?_;subst ag
 have h:=h;refine wpAny_For ?_ (by intros;rfl)
 show aR _ _ (eval (.Name "enumerate" p) env>>=λf=>ll CH f [] (fJ CH (fg [e] env)) (iB CH (iC [] env))) _ _ _
 refine aA (wf H hS hn rfl hm hbm kB R₀ ?_);have bH:eM C sc [e] [c]:=.cons he hu .nil;have h1:=we e2;refine PySem.callWith_type (qw bH) (se hK hA.lo bH h1 kB R₀ λaU aY s1 x1 R1 V1=>?_);refine az.yH V1 λ_ V1=>VR.Bx V1 λla items k qG uq=>?_
 have lG:=uq.items;refine call_enumerate_1 (R1.df _ qG).1 λh2 CI Qh hsz k2=>?_
 have nf:∀a,s1.heap.objs.size<=a->s1.heap.get? a=none:=λa ha=>by
  induction e:s1.heap.get? a with
  | none=>rfl
  | some o=>exact absurd (kj e) (xP.mpr ha)
 generalize hE:s1.heap.objs.size+1=ea at CI
 generalize hI:s1.heap.objs.size=ia at CI Qh
 have sz:=nf _ (Vt (lV hE));have IG:=nf _ (lV hI);have R2:Rep C aY st1 {s1 with heap:=h2}:=R1.grow k2;have F2:=(kB.stepT x1).ext k2;have X2:=(x1.toStep.trans (Step.ext (k:=s1.toks) k2)).fU (iu C sc env cs);have oe:=Out.fresh R1 sz;have oi:=Out.fresh R1 IG;have me:ea∉env.locals::cs:=λq=>by have:=(kB.stepT x1).has _ q;rw[sz]at this;exact bV this
 have mi:ia∉env.locals::cs:=λq=>by have:=(kB.stepT x1).has _ q;rw[IG]at this;exact bV this
 have eA:ea≠ia:=by lia
 refine wpAny_pyIter_enum CI ?_;have ne0:=x1.dom _ sz;have Qi:=x1.dom _ IG;have I0:uy C env cs aY h2 ea ia la items 0:=⟨⟨_,CI⟩,Qh,⟨k,qG⟩,oe,oi,eA,me,mi⟩;refine Mp (EnL C sc env cs K ts b l items (f,aw,am) ea ia la σ₀ s₀) ?_ l.length (.mk 0 fr st1 aY h rfl (tE _) uq X2 F2 R2 I0);intro m s d5 Pq Eq Fq Ca HU HV HW HX;cases d5 with|mk j uk oq iJ hr hm hj uq X F R I=>?_
 obtain⟨⟨old,i1⟩,i2,⟨nn,i3⟩,i4,i5,i6,i7,i8⟩:=I;have Qj:s.heap.IsList la items:=⟨_,(R.df _ i3).1,rfl,nn,rfl⟩;have arU:=lG
 by_cases CJ:j<l.length
 ·have hv:=Fk CJ;refine ah (uq.get hv) λcx Ix hvr=>?_
  have hx:items[j]?=some cx:=by simpa using Ix
  refine wpAny_pyNext_enum_item i1 i2 Qj hx i6 λh' g1 g2 g3 g4 g5=>HU _ _ (wpAny_letOwnedTupleGo_enum g1 λn8 g6 g7=>?_)
  have g7:Heap.SameBut ea h' n8:=g7;have kb:∀b o,b≠ea->b≠ia->s.heap.get? b=some o->n8.get? b=some o:=λb o q1 q2 q3=>(g7.2 b q1).trans (g5 b o q1 q2 q3)
  generalize hT:s.heap.objs.size=T at g1 g3
  have nT:=hT▸rY s.heap;have Qk:T≠ea:=λq=>by have i1:s.heap.get? ea=some _:=i1;rw[<-q,nT]at i1;exact au i1
  have eT:=(g7.2 T Qk).trans g3;have R3:Rep C iJ oq {s with heap:=n8,toks:=s.toks+1}:=R.other (S:=[ea,ia]) (λb o e hb=>kb b o (λq=>hb (by simp[q])) (λq=>hb (by simp[q])) e)
   (λa ha=>by simp at ha;rcases ha with rfl|rfl<;>first|exact i4.o|exact i5.o) (λa ha=>by simp at ha;rcases ha with rfl|rfl<;>first|exact i4.t|exact i5.t)
   (λa ha=>by simp at ha;rcases ha with rfl|rfl<;>first|exact i4.z|exact i5.z) (λa ha=>by simp at ha;rcases ha with rfl|rfl<;>first|exact i4.f|exact i5.f)
  have F3:=F.acx (pU _) λa ha o e=>kb a o (λq=>i7 (q▸ha)) (λq=>i8 (q▸ha)) e
  have X3:=X.hide (S:=[ea,ia]) (h':=n8) (tk:=s.toks+1) (λa ha=>by simp at ha;rcases ha with rfl|rfl<;>first|exact ne0|exact Qi) (λb o hb e=>kb b o (λq=>hb (by simp[q])) (λq=>hb (by simp[q])) e);have OT:=Out.fresh R nT;have IH:=Sg.le_app iJ [(T,j5 #[.int (j:Int) s.toks,cx] 0)];have R4:=R3.freeze (l:=[(T,j5 #[.int (j:Int) s.toks,cx] 0)]) (λz hz=>by refine ab (cO.mp hz) ?_;exact⟨eT,OT.o,OT.t,OT.z⟩);have hTm:T∉env.locals::cs:=λq=>by have:=F.has _ q;rw[nT]at this;exact bV this
  have F4:=F3.lock (o:=j5 #[.int (j:Int) s.toks,cx] 0) hTm;have X4:=X3.freeze (z:=(T,j5 #[.int (j:Int) s.toks,cx] 0)) (X.dom _ nT);have hli:n8.IsListIter ia la (j+1):=by
   refine ah g2 λo q1 q2=>?_;clear g2
   exact aW o ((g7.2 ia (vq i6)).trans q1) q2
  have I4:uy C env cs ⟨iJ.ρ,iJ.φ++[(T,j5 #[.int (j:Int) s.toks,cx] 0)]⟩ n8 ea ia la items (j+1):=by
   have hTi:T≠ia:=λq=>by refine ah i2 λo q1 _=>?_;rw[<-q,nT]at q1;exact au q1
   refine⟨⟨_,by simpa using g6⟩,hli,⟨nn,IH.φ _ i3⟩,⟨i4.o,λz hz=>?_,i4.t,i4.z⟩,⟨i5.o,λz hz=>?_,i5.t,i5.z⟩,i6,i7,i8⟩
   ·rcases dc.mp hz with hz|hz
    ·exact i4.f z hz
    ·have:=cO.mp hz;subst this;exact Qk
   ·rcases dc.mp hz with hz|hz
    ·exact i5.f z hz
    ·have:=cO.mp hz;subst this;exact hTi
  rw[acw hv]at hr;refine ah (av hr) λbc e3 hr=>dN (ky hr) λfl1 br hR e4 hr=>?_
  have VT:VR C ⟨iJ.ρ,iJ.φ++[(T,j5 #[.int (j:Int) s.toks,cx] 0)]⟩ (.tup [.int (j:Int),l[j]]) (.ref T):=.tup (mF _ (cO.mpr rfl)) (.cons (.int _ _) (.cons (hvr.mono IH) .nil));refine(B8 hS hA.1 ht e3 F4 R4 VT).go λ_ H' s5 x5 ag=>xA ag λR5 F5=>?_
  have I5:=uy.step (s:={s with heap:=n8,toks:=s.toks+1}) I4 x5.toStep;have X5:=X4.trans x5.toStep;refine(hb n K hK bc oq fl1 br hR e4 A env cs _ s5 hA F5 R5).go λfl II s6 x6 ag=>bP ag λR6 F6 q=>?_
  have I6:=I5.step x6.toStep;have X6:=X5.trans x6.toStep;have V6:=((uq.mono IH).mono x5.le).mono x6.le;induction q with
  | next=>exact(HV (l.length-(j+1)) _ (hm▸Vv CJ) (.mk (j+1) br hR II hr rfl CJ V6 X6 F6 R6 I6)).1
  | brk=>refine HW _ ?_;refine jj hr ?_;exact(iW II X6 R6 F6 .next)
  | ret v=>refine HX _ _ ?_;refine jj hr ?_;exact(iW II X6 R6 F6 (.ret v))
 ·have Ql:=Vw hj CJ;refine wpAny_pyNext_enum_end hA.1 i1 i2 Qj (Array.getElem?_eq_none (lV (lG.trans Ql.symm))) λh' kx=>?_
  have kx:∀b o,b≠ia->s.heap.get? b=some o->h'.get? b=some o:=λb o q e=>kx b o q e
  rw[Ql,aqO]at hr;refine Ca _ (Lu ?_);exact jj hr ((iW iJ (X.hide (S:=[ia]) (h':=h') (tk:=s.toks) (λa ha=>by have:=cO.mp ha;subst a;exact Qi) (λb o hb e=>kx b o (by simpa using hb) e)) (R.hid i5 kx) (F.hid i8 (dr _) kx) .next))
end
end Internal
set_option backward.match.sparseCases false
namespace Internal
open PySem PySem.W PyProof.Rows
noncomputable section
noncomputable def gd{γ:Type}(b:Bool)(k:b=true->Option γ):Option γ:=match b,k with|true,k=>k rfl|false,_=>none
noncomputable def jv{γ:Type}(o p:Option γ):Option γ:=match o with|some a=>some a|none=>p
theorem a1{a b:Bool}(h:(a&&b)=true):a=true:=((cz _ _).mp h).1
theorem a2{a b:Bool}(h:(a&&b)=true):b=true:=((cz _ _).mp h).2
theorem uz{a:Bool}(h:cX a=true):a=false:=by induction a<;>first|rfl|exact bV h
def jw(a b:ai):Bool:=bw a.cps.toList b.cps.toList
theorem kZ{a b:ai}(h:jw a b=true):a=b:=congrArg Fy (vh.mp (ja h))
theorem zg(y:ai):strOf (ao y.cps.toList)=some y:=by unfold strOf;rw[qE];rfl
noncomputable def ni(n:ai):(l:List ai)->Option {i:Nat // l[i]?=some n}
 | []=>none
 | a::l=>jv (gd (jw a n) λh=>some ⟨0,congrArg some (kZ h)⟩) (af (ni n l) λi=>some ⟨i.1+1,i.2⟩)
noncomputable def IJ(cn:List ai):(l:List ai)->Option {is:List Nat // is.map (λi=>cn[i]?)=l.map some}
 | []=>some ⟨[],rfl⟩
 | n::l=>af (ni n cn) λi=>af (IJ cn l) λb=>some ⟨i.1::b.1,congr (congrArg mC i.2) b.2⟩
section
variable {P:ar->Type}
@[elab_as_elim] noncomputable def j7(e:ar)(n:P e)(k:∀a b,P (.Name a b)):P e:=match e with|.Name a b=>k a b|_=>n
@[elab_as_elim] noncomputable def zh(e:ar)(n:P e)(k:∀a b c,P (.Attribute a b c)):P e:=match e with|.Attribute a b c=>k a b c|_=>n
@[elab_as_elim] noncomputable def zi(e:ar)(n:P e)(k:∀a b c,P (.Constant (.str a) b c)):P e:=match e with|.Constant v b c=>(match v with|.str a=>k a b c|v=>n)|_=>n
@[elab_as_elim] noncomputable def IK(e:ar)(n:P e)(k:∀a b c,P (.Subscript a b c)):P e:=match e with|.Subscript a b c=>k a b c|_=>n
@[elab_as_elim] noncomputable def cpE(e:ar)(n:P e)(k:∀a b c d,P (.Compare a b c d)):P e:=match e with|.Compare a b c d=>k a b c d|_=>n
@[elab_as_elim] noncomputable def qH(e:ar)(n:P e)(k:∀a b c,P (.Tuple a b c)):P e:=match e with|.Tuple a b c=>k a b c|_=>n
@[elab_as_elim] noncomputable def lcE(e:ar)(n:P e)(k:∀a b c d,P (.ListComp a b c d)):P e:=match e with|.ListComp a b c d=>k a b c d|_=>n
@[elab_as_elim] noncomputable def IL(e:ar)(n:P e)(k:∀a b c,P (.Call a b [] c)):P e:=match e with|.Call a b c d=>(match c with|[]=>k a b d|_::_=>n)|_=>n
end
section
variable {α:Type}{P:List α->Type}
@[elab_as_elim] noncomputable def l1(l:List α)(n:P l)(k:∀a,P [a]):P l:=match l with|[]=>n|a::l=>match l with|[]=>k a|_::_=>n
@[elab_as_elim] noncomputable def l2(l:List α)(n:P l)(k:∀a b,P [a,b]):P l:=match l with|[]=>n|a::l=>match l with|[]=>n|b::l=>match l with|[]=>k a b|_::_=>n
end
@[elab_as_elim] noncomputable def opC{P:ES->Type}(op:ES)(n:P op)(k:∀o:jH,P (ua o)):P op:=match op with
 | .Add=>k .add|.Sub=>k .sub|.Mult=>k .mul|.FloorDiv=>k .fdiv|.Mod=>k .mod|.Pow=>k .pow|_=>n
@[elab_as_elim] noncomputable def CK{P:sW->Type}(op:sW)(n:P op)(k:∀o:lB,P (ml o)):P op:=match op with
 | .Eq=>k .eq|.Lt=>k .lt|.LtE=>k .le|.Gt=>k .gt|.GtE=>k .ge|.Is=>k .is|.IsNot=>k .pi|.In=>k .isin|_=>n
@[elab_as_elim] noncomputable def inC{P:sW->Type}(op:sW)(n:P op)(k:P .In):P op:=match op with|.In=>k|_=>n
noncomputable def vT(e:ar):Bool:=match e with|.Name ..=>true|.Call ..=>true|.Subscript ..=>true|.Attribute ..=>true|_=>false
theorem acA{e:ar}(h:vT e=true):∀env w,ti e env w=(w>>=λv=>gv e.pos>>=λ_z=>holding [v] (truthy v)):=by cases e<;>first|(intros;rfl)|exact bV h
noncomputable def CL(e:ar):Bool:=match e with|.Slice ..=>false|_=>true
theorem acB{e:ar}(h:CL e=true):∀a b c d,e≠.Slice a b c d:=by intro a b c d q;subst q;exact bV h
theorem acC{e:ar}(h:CL e=true):∀ov iv new,augStore e ov iv new=(do holding [new,ov,iv] (E9 ov iv new);release [new,ov,iv] [];pure .next):=by cases e<;>first|(intros;rfl)|exact bV h
noncomputable def CM(e:ar):Bool:=match e with|.Set ..=>false|_=>true
theorem CN{e:ar}(h:CM e=true):∀env x,u9 e env x=pure x:=by cases e<;>first|(intros;rfl)|exact bV h
noncomputable def Qm(e:ar):Bool:=match e with|.ListComp ..=>false|.SetComp ..=>false|.DictComp ..=>false|_=>true
theorem acD{e:ar}(h:Qm e=true)(k:Nat):∀env,iT e none k env=pure false:=by cases e<;>first|(intros;rfl)|exact bV h
noncomputable def iK(sc:Sc):bd:={scope:=sc.scope,locals:=0,globals:=0,cells:=[]}
theorem qI{v:ar}{t:Option ar}{l:Nat}{env:bd}{sc:Sc}(h:env.scope=sc.scope):iT v t l env=iT v t l (iK sc):=by induction env;subst h;rfl
theorem sD{v:ar}{t:List ar}{env:bd}{sc:Sc}(h:env.scope=sc.scope):jD t v env=jD t v (iK sc):=by induction env;subst h;rfl
noncomputable def sE{α:Type}(x:bo α):Option {a:α // x=pure a}:=match x with|.pure a=>some ⟨a,rfl⟩|_=>none
noncomputable def zj:List ai->List ai->Bool
 | [],b=>b.isEmpty
 | x::a,b=>match b with|[]=>false|y::b=>jw x y&&zj a b
theorem IM{a:List ai}:∀{b:List ai},zj a b=true->a=b:=by
 induction a with
 | nil=>exactλh=>(lR.mp h).symm
 | cons x a ih=>
  intro b h;induction b with
  | nil=>exact bV h
  | cons y b=>exact congr (congrArg mC (kZ (a1 h))) (ih (a2 h))
def Qn(names:List (ai×lj)):List ai:=(names.filter (ng .local)).map (·.1)
def fW(s:dQ)(cd:ac)(fin:Bool):Sc:=⟨s,Qn s.names,gQ s.names++eO s.names,(gQ s.names).length,cd,fin⟩
def zk(sc:Sc)(s:dQ):Sc:={fW s .none sc.fin with scope:=Pe s sc.scope}
def Qo(s:dQ):Bool:=s.names.all λx=>cX (ng .local x)||isLocal s x.1
theorem acE{s:dQ}(h:Qo s=true):∀x∈s.names,x.2=.local->s.names.lookup x.1=some .local:=λx m e=>by
 have:=eh.mp h x m
 rw[show ng .local x=true from by unfold ng;rw[e];rfl]at this;exact NG this
def trX(sc:Sc)(s:dQ):Option {free:List Nat // ou sc (zk sc s) s free (Qn s.names).length (gQ s.names).length}:=
 gd ((zk sc s).BA&&(Bz s&&Qo s)) λh=>af (IJ sc.cn (eO s.names)) λf=>some ⟨f.1,Sc.fO (a1 h),rfl,rfl,rfl,rfl,rfl,f.2,NH (a1 (a2 h)),rfl,rfl,acE (a2 (a2 h))⟩
noncomputable def qr{C:Cx}{sc:Sc}{n:ai}{i:Nat}(h:sc.cn[i]?=some n/\i<sc.nw):{t:Tg // sj C sc n t}:=match e:sc.fin with|true=>⟨.fin i,h,e⟩|false=>⟨.bi i,h,e⟩
def IN(C:Cx)(sc:Sc)(n:ai):Option {t:Tg // sj C sc n t}:=jv (af (ni n sc.ln) λi=>some ⟨.loc i.1,i.2⟩) (af (ni n sc.cn) λi=>gd (aH i.1 sc.nw) λh=>some (qr ⟨i.2,bF h⟩))
noncomputable def zl(C:Cx)(sc:Sc):(es:List ar)->Option {ts:List Tg // kY C sc es ts}
 | []=>some ⟨[],.nil⟩
 | e::es=>j7 e none λx _=>af (IN C sc x) λt=>af (zl C sc es) λb=>some ⟨t.1::b.1,.cons t.2 b.2⟩
def zm(C:Cx)(sc:Sc)(e:ar):Option {t:Tg // mr C sc e t}:=j7 e (qH e none λx _ _=>af (zl C sc x) λts=>some ⟨.tup ts.1,.tup ts.2⟩) λx _=>af (IN C sc x) λt=>some ⟨t.1,.one t.2⟩
noncomputable def Qp:(ks:List (Option ar))->Option {xs:List Tx // sb ks xs}
 | []=>some ⟨[],.nil⟩
 | k::ks=>match k with|none=>none|some e=>zi e none λy _ _=>af (Qp ks) λb=>some ⟨ao y.cps.toList::b.1,.cons (zg _) b.2⟩
theorem acF{gens:List lh}{g:lh}{i:Nat}(has:∀g∈gens,g.is_async=0)(h:gens[i]?=some g):gens[i]?=some ⟨g.target,g.iter,g.ifs,0⟩:=by
 have:=has g (fK h)
 rw[h,<-this];cases g;rfl
noncomputable def CO(i:Int):Bool:=match i with|.ofNat k=>aG k 0|.negSucc _=>false
theorem acG{i:Int}(h:CO i=true):i=0:=by
 induction i with
 | ofNat k=>exact congrArg aZ (dj h)
 | negSucc k=>exact bV h
theorem IP{gens:List lh}(h:gens.all (λg=>CO g.is_async)=true):∀g∈gens,g.is_async=0:=λg m=>acG (eh.mp h g m)
noncomputable def Qq(l c:Nat):List (Nat×Nat)->Bool
 | []=>false
 | p::r=>(aG p.1 l&&aG p.2 c)||Qq l c r
noncomputable def CP:List ai:=["_wall", "Whitespace", "b1_set", "in_table_b1", "b3_exceptions", "map_table_b3", "SubElement", "_serialize_text", "_raise_serialization_error", "_escape_cdata", "_escape_attrib", "_escape_attrib_html", "_escape_cdata_c14n", "_escape_attrib_c14n", "_law_rows", "_law_typed", "_law_element", "_law_nest", "_law_escape", "_law_document", "_law_elements", "_law_told", "_law_column", "_law_due", "law"]
def N2:cP:=⟨λg=>CP[g]?⟩
def CQ(p:aC):Bool:=Qq p.line p.col [(11,16),(21,28),(61,12),(162,19),(162,57),(173,13),(179,52),(188,53),(188,57),(200,26),(200,30),(200,34),(214,67),(243,64)]
noncomputable def Qr(_z:Bi):Bool:=true
structure Qs(mg mb:ai->Option ac):Prop where
 b:∀(b:Bi) (n:ai),Qr b=true->sd b=n->mg n=none/\mb n=some (.builtin (sd b))
 range:mg "range"= none/\mb "range"= some (.type "range")
 enumerate:mg "enumerate"= none/\mb "enumerate"= some (.type "enumerate")
 tuple:mg "tuple"= none/\mb "tuple"= some (.type "tuple")
structure Wd where
 C:Cx
 mg:ai->Option ac
 mb:ai->Option ac
 Nc:al
 mN:ai->Option ac
 H:dz C N2 mg mb
 hN:eY C
 hcl:ue C
 X:jR C Nc mN
 TT:Co C mg
 B:Qs mg mb
abbrev jb(C:Cx)(sc:Sc)(e:ar):={c:Cd // bn C sc e c}
abbrev TrL(C:Cx)(sc:Sc)(e:List ar):={c:List Cd // eM C sc e c}
abbrev IQ(C:Cx)(sc:Sc)(e:ar):={c:Ct // mj C sc e c}
abbrev TrA(C:Cx)(sc:Sc)(e:List ar):={c:Ct // yN C sc e c}
abbrev TrI(C:Cx)(sc:Sc)(e:ar):={c:Ci // qB C sc e c}
abbrev IR(C:Cx)(sc:Sc)(bW:ar)(gens:List lh)(s:dQ)(pos:aC)(d:Nat)(ifs:List ar):={c:Cg // pA C sc bW gens s pos d ifs c}
abbrev TrC(C:Cx)(sc:Sc)(bW:ar)(gens:List lh)(s:dQ)(pos:aC):={c:Cd // bn C sc (.ListComp bW gens s pos) c /\
 ∀{y:ai} {py za:aC} {ty:Tg},sj C sc y ty->(∀env:bd,env.scope=sc.scope->iT (.ListComp bW gens s pos) (some (.Name y py)) za.line env=pure true)->hW C sc (.Assign [.Name y py] (.ListComp bW gens s pos) za) (aP ty c)}
abbrev kC(C:Cx)(sc:Sc)(e:bS):={c:Cs // hW C sc e c}
abbrev wC(C:Cx)(sc:Sc)(e:List bS):={c:Cs // iw C sc e c}
variable (W:Wd)
def Qt(sc:Sc)(hS:sc.Ok)(n:ai)(pos:aC):Option (jb W.C sc (.Name n pos)):=
 jv (af (ni n sc.ln) λi=>some ⟨ae i.1,BC hS i.2⟩) (jv (af (ni n sc.cn) λi=>some ⟨aq i.1,XZ hS i.2⟩)
  (gd (iZ sc.scope n&&mh n) λh=>af (ni n CP) λi=>some ⟨cF i.1,NL W.H hS i.2 (a1 h) (a2 h)⟩))
noncomputable def Qu(n:ai)(k:Nat):List Bi->Option {b:Bi // W.mg n=none/\W.mb n=some (.builtin (sd b))}
 | []=>none
 | b::l=>jv (gd (jw (sd b) n&&(Qr b&&aG k (match b with|.min2=>2|.max2=>2|_=>1))) λh=>some ⟨b,W.B.b b n (a1 (a2 h)) (kZ (a1 h))⟩) (Qu n k l)
section
variable (r:∀sc:Sc,sc.Ok->∀e:ar,Option (jb W.C sc e))(sc:Sc)(hS:sc.Ok)
noncomputable def pC:(es:List ar)->Option (TrL W.C sc es)
 | []=>some ⟨[],.nil⟩
 | e::es=>af (r sc hS e) λa=>gd (gy e) λhu=>af (pC es) λb=>some ⟨a.1::b.1,.cons a.2 hu b.2⟩
def acH(l:ar)(lJ:List sW)(cs:List ar)(pos:aC):Option (IQ W.C sc (.Compare l lJ cs pos)):=
 l1 lJ (l2 lJ none λo1 o2=>l2 cs none λm x=>CK o1 none λo1=>CK o2 none λo2=>gd (cX (xv (ml o2) x)) λhm=>af (r sc hS l) λa=>af (r sc hS m) λb=>af (r sc hS x) λc=>
   some ⟨M9 W.C.T a.1 o1 b.1 o2 c.1,YM W.hN a.2 b.2 c.2 (uz hm)⟩)
  λo=>l1 cs none λx=>CK o none λo=>gd (cX (xv (ml o) x)) λhm=>af (r sc hS l) λa=>af (r sc hS x) λb=>
   some ⟨bq W.C.T o a.1 b.1,YI W.hN a.2 b.2 (uz hm)⟩
def CR(e:ar):Option (IQ W.C sc e):=cpE e (gd (vT e) λh=>af (r sc hS e) λa=>some ⟨tW a.1,YT W.H a.2 (acA h)⟩) λl lJ cs pos=>acH W r sc hS l lJ cs pos
noncomputable def Qv:(es:List ar)->Option (TrA W.C sc es)
 | []=>none
 | [x]=>af (CR W r sc hS x) λt=>some ⟨t.1,YQ t.2⟩
 | x::y::es=>af (CR W r sc hS x) λt=>af (Qv (y::es)) λu=>some ⟨yr t.1 u.1,YR t.2 u.2⟩
def CS(e:ar):Option (IQ W.C sc e):=match e with
 | .UnaryOp op x pos=>(match op with|.Not=>af (CR W r sc hS x) λt=>some ⟨M' t.1,YP t.2⟩|_=>none)
 | .BoolOp op es pos=>(match op with|.And=>af (Qv W r sc hS es) λt=>some ⟨t.1,YS t.2⟩|.Or=>none)
 | e=>CR W r sc hS e
def IS(e:ar):Option (TrI W.C sc e):=
 jv (IL e none λf args pos=>j7 f none λn p=>gd (jw "range" n&&iZ sc.scope "range") λh=>
   l1 args (l2 args none λx y=>gd (gy x&&gy y) λhu=>af (r sc hS x) λa=>af (r sc hS y) λb=>some ⟨nW a.1 b.1,kZ (a1 h)▸aaq W.H hS a.2 (a1 hu) b.2 (a2 hu) (a2 h) W.B.range.1 W.B.range.2⟩)
    λy=>gd (gy y) λhu=>af (r sc hS y) λa=>some ⟨dT a.1,kZ (a1 h)▸aap W.H hS a.2 hu (a2 h) W.B.range.1 W.B.range.2⟩)
  (af (r sc hS e) λa=>some ⟨ce a.1,aam W.hN.2 a.2⟩)
def oE(o:Option ar):Option {c:Option Cd // BP W.C sc o c}:=match o with|none=>some ⟨none,trivial⟩|some e=>af (r sc hS e) λa=>some ⟨some a.1,a.2⟩
noncomputable def acI(i:Int):Option (PLift (i=1)):=match i with|.ofNat k=>(match k with|0=>none|k+1=>match k with|0=>some ⟨rfl⟩|_+1=>none)|.negSucc _=>none
def acJ(op:UnaryOp)(e:ar)(pos:aC):Option (jb W.C sc (.UnaryOp op e pos)):=match op with
 | .USub=>(match e with|.Constant v k p=>(match v with|.int i=>some ⟨aj (-i),P8 Hk⟩|_=>none)|_=>none)
 | _=>none
def acK(v st:ar)(p pos:aC):Option (jb W.C sc (.Subscript v (.Slice none none (some st) p) pos)):=match st with
 | .UnaryOp op e p1=>(match op with
  | .USub=>(match e with|.Constant c k p2=>(match c with|.int i=>af (acI i) λh=>af (r sc hS v) λa=>some ⟨yt a.1,acd a.2 ((congrArg (λj:Int=>bn W.C sc (.UnaryOp .USub (.Constant (.int i) k p2) p1) (aj (-j))) h.down).mp (P8 Hk))⟩|_=>none)|_=>none)
  | _=>none)
 | _=>none
def acL(v s:ar)(pos:aC):Option (jb W.C sc (.Subscript v s pos)):=match s with
 | .Slice lo hi st p=>(match st with
  | none=>af (r sc hS v) λa=>af (oE W r sc hS lo) λb=>af (oE W r sc hS hi) λc=>some ⟨fC a.1 b.1 c.1,Y1 a.2 b.2 c.2⟩
  | some st=>(match lo,hi with|none,none=>acK W r sc hS v st p pos|_,_=>none))
 | s=>gd (CL s) λh=>af (r sc hS v) λa=>af (r sc hS s) λb=>some ⟨aJ W.C.T a.1 b.1,YX W.hN a.2 b.2 (acB h)⟩
def acM(ks:List (Option ar))(vs:List ar)(pos:aC):Option (jb W.C sc (.Dict ks vs pos)):=
 l2 ks none λk1 k2=>match k1,k2 with
  | none,none=>l2 vs none λx y=>af (r sc hS x) λa=>af (r sc hS y) λb=>some ⟨Iz W.C.T a.1 b.1,abT W.hN a.2 b.2⟩
  | _,_=>none
def acN(ks:List (Option ar))(vs:List ar)(pos:aC):Option (jb W.C sc (.Dict ks vs pos)):=match ks with
 | []=>(match vs with|[]=>some ⟨nV (CQ pos),Y'⟩|_::_=>none)
 | k::ks=>jv (acM W r sc hS (k::ks) vs pos) (gd (aG (k::ks).length vs.length&&fT (k::ks).length 15) λh=>af (Qp (k::ks)) λx=>af (pC W r sc hS vs) λa=>some ⟨vH W.C.T x.1 a.1,Za W.hN x.2 a.2 (dj (a1 h)) (λh=>nomatch h) (bF (a2 h))⟩)
section
variable (bW:ar)(gens:List lh)(s:dQ)(pos:aC)
noncomputable def IT{d:Nat}(b:Option (IR W.C sc bW gens s pos d [])):(ifs:List ar)->Option (IR W.C sc bW gens s pos d ifs)
 | []=>b
 | t::ifs=>af (CS W r sc hS t) λu=>af (IT b ifs) λg=>some ⟨jq u.1 g.1,aaE u.2 g.2⟩
noncomputable def Qw(has:∀g∈gens,g.is_async=0):(k d:Nat)->Option (IR W.C sc bW gens s pos d [])
 | 0,_=>none
 | k+1,d=>match hg:gens[d+1]? with
  | none=>af (r sc hS bW) λa=>some ⟨bE a.1,aaF a.2 hg⟩
  | some g=>af (zm W.C sc g.target) λt=>af (IS W r sc hS g.iter) λi=>gd (CM g.iter) λhs=>af (IT W r sc hS bW gens s pos (Qw has k (d+1)) g.ifs) λb=>
   some ⟨tY t.1 i.1 b.1,aaI hS has (acF has hg) i.2 (CN hs) t.2 b.2⟩
end
def Qx(bW:ar)(gens:List lh)(s:dQ)(pos:aC):Option (TrC W.C sc bW gens s pos):=match gens with
 | []=>none
 | ⟨t,it,ifs,as⟩::gs=>match as with
  | .negSucc _=>none
  | .ofNat z=>match z with
   | _+1=>none
   | 0=>gd (gs.all λg=>CO g.is_async) λhz=>af (trX sc s) λX=>af (IS W r sc hS it) λi=>gd (CM it) λhs=>af (zm W.C (zk sc s) t) λtg=>
    af (IT W r (zk sc s) X.2.ok bW (⟨t,it,ifs,0⟩::gs) s pos (Qw W r (zk sc s) X.2.ok bW (⟨t,it,ifs,0⟩::gs) s pos (λg m=>(cW.mp m).elim (λq=>q▸rfl) (IP hz g)) 3 0) ifs) λg=>
     some ⟨bR (CQ pos) tg.1 i.1 g.1 _ _ X.1,aaS hS X.2 (IP hz) i.2 (CN hs) tg.2 g.2,λhy hw=>aaV hS X.2 (IP hz) i.2 (CN hs) tg.2 g.2 hy hw⟩
def acO(n:ai)(p:aC)(args:List ar)(pos:aC):Option (jb W.C sc (.Call (.Name n p) args [] pos)):=
 jv (gd (iZ sc.scope n&&mh n) λh=>jv
    (l1 args none λx=>gd (jw "tuple" n&&(gy x&&iZ sc.scope "tuple")) λh2=>af (r sc hS x) λa=>some ⟨GG a.1,kZ (a1 h2)▸abZ W.H hS a.2 (a1 (a2 h2)) (a2 (a2 h2)) W.B.tuple.1 W.B.tuple.2⟩)
    (af (Qu W n args.length [.len,.tO,.min2,.yh,.max2,.chr,.ord,.sorted]) λb =>
     l1 args (l2 args none λx y=>gd (gy x&&gy y) λhu=>af (r sc hS x) λa=>af (r sc hS y) λc=>some ⟨nX b.1 a.1 c.1,Zt W.H hS a.2 (a1 hu) c.2 (a2 hu) (a1 h) (a2 h) b.2.1 b.2.2⟩)
      λx=>gd (gy x) λhu=>af (r sc hS x) λa=>some ⟨eJ W.C.T b.1 a.1,Zr W.H hS a.2 hu (a1 h) (a2 h) b.2.1 b.2.2⟩))
   (af (Qt W sc hS n p) λg=>af (pC W r sc hS args) λa=>some ⟨du g.1 a.1,Ow W.X g.2 a.2⟩)
def acP(o:ar)(m:ai)(ap:aC)(args:List ar)(pos:aC):Option (jb W.C sc (.Call (.Attribute o m ap) args [] pos)):=
 gd (ap.endLine==pos.line&&qz o) λh=>jv
   (j7 o none λn _=>l1 args none λx=>gd (jw "b3_exceptions" n&&(jw "get" m&&(gy x&&iZ sc.scope "b3_exceptions"))) λh2=>af (r sc hS x) λa=>some ⟨GR W.C.T a.1,
    kZ (a1 h2)▸kZ (a1 (a2 h2))▸abg W.H W.TT hS a.2 (a1 (a2 (a2 h2))) (a2 (a2 (a2 h2))) (a1 h)⟩)
   (jv (l2 args none λx y=>zi x none λu _ _=>zi y none λv _ _=>gd (jw "replace" m) λh2=>af (r sc hS o) λa=>some ⟨gx a.1 (ao u.cps.toList) (ao v.cps.toList),kZ h2▸aae a.2 (zg _) (zg _) (a2 h) (a1 h)⟩)
   (gd (aH args.length 30) λhl=>af (r sc hS o) λa=>af (pC W r sc hS args) λb=>some ⟨bG W.C.T a.1 m.cps.toList b.1,Z9 W.H W.hN W.hcl W.X a.2 b.2 rfl (a2 h) (a1 h) (bF hl)⟩))
def acQ(n:ai)(p0:aC)(args:List ar)(k:ai)(v:ar)(kp pos:aC):Option (jb W.C sc (.Call (.Name n p0) args [⟨some k,v,kp⟩] pos)):=match args with
 | []=>none
 | x::xs=>gd (iZ sc.scope n&&(mh n&&gy x)) λh=>af (ni n CP) λi=>af (pC W r sc hS (x::xs)) λa=>af (r sc hS v) λd=>
   some ⟨GO i.1 a.1 (ao k.cps.toList) d.1,acg (NL W.H hS i.2 (a1 h) (a1 (a2 h))) a.2 (a2 (a2 h)) d.2 (zg _)⟩
def acR(f:ar)(args:List ar)(kws:List ri)(pos:aC):Option (jb W.C sc (.Call f args kws pos)):=match kws with
 | []=>j7 f (zh f (IK f none λv i p=>af (r sc hS (.Subscript v i p)) λg=>af (pC W r sc hS args) λa=>some ⟨du g.1 a.1,Z3 W.X g.2 a.2⟩) λo m ap=>acP W r sc hS o m ap args pos) λn p=>acO W r sc hS n p args pos
 | ⟨k,v,kp⟩::kws=>(match kws,k with|[],some k=>j7 f none λn p=>acQ W r sc hS n p args k v kp pos|_,_=>none)
def acS(v:Const)(k:Nat)(pos:aC):Option (jb W.C sc (.Constant v k pos)):=match v with
 | .none=>some ⟨yp,X0⟩
 | .bool b=>(match b with|true=>some ⟨pq,X7⟩|false=>some ⟨qe,X8⟩)
 | .int i=>some ⟨aj i,Hk⟩
 | .str y=>some ⟨aX (ao y.cps.toList),Hm (zg y)⟩
 | _=>none
def acT(l:ar)(lJ:List sW)(cs:List ar)(pos:aC):Option (jb W.C sc (.Compare l lJ cs pos)):=
 l1 lJ none λop=>inC op none (l1 cs none λy=>j7 y none λn _=>gd (jw "b1_set" n&&iZ sc.scope "b1_set") λh=>af (r sc hS l) λa=>some ⟨GQ W.C.T a.1,kZ (a1 h)▸abe W.H W.TT hS a.2 (a2 h)⟩)
def acU(l:ar)(lJ:List sW)(cs:List ar)(pos:aC):Option (jb W.C sc (.Compare l lJ cs pos)):=
 l1 lJ none λo=>l1 cs none λx=>CK o none λo=>gd (cX (xv (ml o) x)) λhm=>af (r sc hS l) λa=>af (r sc hS x) λb=>some ⟨nU (bq W.C.T o a.1 b.1),YJ W.hN a.2 b.2 (uz hm)⟩
def acV(l:ar)(op:ES)(rr:ar)(pos:aC):Option (jb W.C sc (.BinOp l op rr pos)):=match op with
 | .Add=>gd (CQ pos) λ_=>af (r sc hS l) λa=>af (r sc hS rr) λb=>some ⟨GF a.1 b.1,ace a.2 b.2⟩
 | _=>none
def acW(e:ar):Option (jb W.C sc e):=match e with
 | .Constant v k pos=>acS W sc v k pos
 | .Name n pos=>Qt W sc hS n pos
 | .BinOp l op rr pos=>jv (acV W r sc hS l op rr pos) (opC op none λo=>af (r sc hS l) λa=>af (r sc hS rr) λb=>some ⟨aK o a.1 b.1,Yo W.H a.2 b.2⟩)
 | .UnaryOp op e pos=>acJ W sc op e pos
 | .Compare l lJ cs pos=>jv (acT W r sc hS l lJ cs pos) (acU W r sc hS l lJ cs pos)
 | .IfExp t b o pos=>af (CS W r sc hS t) λu=>af (r sc hS b) λa=>af (r sc hS o) λc=>some ⟨jp u.1 a.1 c.1,YU u.2 a.2 c.2⟩
 | .Subscript v s pos=>acL W r sc hS v s pos
 | .Attribute v n pos=>gd (qz v) λhb=>af (r sc hS v) λa=>some ⟨fD W.C.T a.1 n.cps.toList,aaj W.H W.X a.2 rfl hb⟩
 | .Tuple es k pos=>af (pC W r sc hS es) λa=>some ⟨bI a.1,Hz a.2⟩
 | .List es pos=>af (pC W r sc hS es) λa=>some ⟨dn (CQ pos) a.1,Y4 a.2⟩
 | .Dict ks vs pos=>acN W r sc hS ks vs pos
 | .ListComp bW gens s pos=>af (Qx W r sc hS bW gens s pos) λa=>some ⟨a.1,a.2.1⟩
 | .Call f args kws pos=>acR W r sc hS f args kws pos
 | _=>none
end
noncomputable def Qy:Nat->∀sc:Sc,sc.Ok->∀e:ar,Option (jb W.C sc e)
 | 0,_,_,_=>none
 | n+1,sc,hS,e=>acW W (Qy n) sc hS e
def rE:∀sc:Sc,sc.Ok->∀e:ar,Option (jb W.C sc e):=Qy W 30
section
variable (sc:Sc)(hS:sc.Ok)(rs:∀b:List bS,Option (wC W.C sc b))
def acX(t v:ar)(pos:aC):iT v (some t) pos.line (iK sc)=pure true->Option (kC W.C sc (.Assign [t] v pos)):=
 lcE v (λ_=>none) λbW gens s p=>j7 t (λ_=>none) λn q hs=>af (IN W.C sc n) λty=>af (Qx W (rE W) sc hS bW gens s p) λc=>some ⟨aP ty.1 c.1,c.2.2 ty.2 λenv h=>(qI h).trans hs⟩
def acY(t v:ar)(pos:aC){ns:List ai}:iT v (some t) pos.line (iK sc)=pure false->jD [t] v (iK sc)=pure (some ns)->Option (kC W.C sc (.Assign [t] v pos)):=
 qH t (λ_ _=>none) λes k p=>qH v (λ_ _=>none) λvs k' q hs hw=>af (zl W.C sc es.reverse) λtg=>gd (zj ns (es.map ut)) λh=>af (pC W (rE W) sc hS vs) λa=>
  some ⟨oy tg.1 (bI a.1),aaU hS a.2 tg.2 (λenv h=>(qI h).trans hs) λenv h'=>(sD h').trans (IM h▸hw)⟩
theorem acZ{es:List ar}{v:ar}{l:Nat}{env:bd}{sc:Sc}(h:env.scope=sc.scope):xD es v l env=xD es v l (iK sc):=by induction env;subst h;match es with|[]=>rfl|[t]=>rfl|_::_::_=>rfl
def ada(ts:List ar)(v:ar)(pos:aC):Option (kC W.C sc (.Assign ts v pos)):=
 af (sE (xD ts v pos.line (iK sc))) λs=>match s with
  | ⟨true,_⟩=>none
  | ⟨false,hs⟩=>af (sE (jD ts v (iK sc))) λw=>match w with
   | ⟨none,hw⟩=>af (rE W sc hS v) λa=>af (zl W.C sc ts) λtg=>some ⟨yw tg.1 a.1,abP hS a.2 tg.2 (λenv h=>(acZ h).trans hs) λenv h=>(sD h).trans hw⟩
   | ⟨some _,_⟩=>none
def adb(t v:ar)(pos:aC):iT v (some t) pos.line (iK sc)=pure false->Option (kC W.C sc (.Assign [t] v pos)):=
 IK t (λ_=>none) λo i p hs=>af (rE W sc hS o) λo=>af (rE W sc hS i) λi=>af (rE W sc hS v) λa=>some ⟨vL W.C.T o.1 i.1 a.1,abN W.hN o.2 i.2 a.2 λenv h=>(qI h).trans hs⟩
def adc(t v:ar)(pos:aC):iT v (some t) pos.line (iK sc)=pure false->jD [t] v (iK sc)=pure none->Option (kC W.C sc (.Assign [t] v pos)):=
 zh t (λ_ _=>none) λo n p hs hw=>af (rE W sc hS o) λo=>af (rE W sc hS v) λa=>some ⟨lD W.C.T o.1 n.cps.toList a.1,P7 W.X o.2 a.2 rfl (λenv h=>(qI h).trans hs) λenv h=>(sD h).trans hw⟩
noncomputable def Qz:(es:List ar)->Option {os:List (Cd×List Nat) // sA W.C sc es os}
 | []=>some ⟨[],.nil⟩
 | e::es=>zh e none λo n p=>af (rE W sc hS o) λc=>af (Qz es) λb=>some ⟨(c.1,n.cps.toList)::b.1,.cons c.2 rfl b.2⟩
def ade(t v:ar)(pos:aC):iT v (some t) pos.line (iK sc)=pure false->jD [t] v (iK sc)=pure none->Option (kC W.C sc (.Assign [t] v pos)):=
 qH t (λ_ _=>none) λes k p=>qH v (λ_ _=>none) λvs k' q hs hw=>af (Qz W sc hS es) λos=>gd (aH os.1.length 4000) λh=>af (pC W (rE W) sc hS vs) λa=>
  some ⟨GU W.C.T os.1 a.1,abY W.X a.2 os.2 h (λenv h=>(qI h).trans hs) λenv h'=>(sD h').trans hw⟩
def adf(ts:List ar)(v:ar)(pos:aC):Option (kC W.C sc (.Assign ts v pos)):=
 l1 ts (ada W sc hS ts v pos) λt=>af (sE (iT v (some t) pos.line (iK sc))) λs=>match s with
  | ⟨true,hs⟩=>acX W sc hS t v pos hs
  | ⟨false,hs⟩=>jv (adb W sc hS t v pos hs) (af (sE (jD [t] v (iK sc))) λw=>match w with
   | ⟨none,hw⟩=>jv (adc W sc hS t v pos hs hw) (jv (ade W sc hS t v pos hs hw) (af (rE W sc hS v) λa=>af (zm W.C sc t) λtg=>some ⟨aP tg.1 a.1,H7 hS a.2 tg.2 (λenv h=>(qI h).trans hs) λenv h=>(sD h).trans hw⟩))
   | ⟨some ns,hw⟩=>acY W sc hS t v pos hs hw)
def adg(t:ar)(op:ES)(v:ar)(pos:aC):Option (kC W.C sc (.AugAssign t op v pos)):=match op with
 | .Add=>af (rE W sc hS v) λa=>j7 t (IK t none λo i _=>gd (CL i) λh=>af (rE W sc hS o) λo=>af (rE W sc hS i) λi=>some ⟨Bf W.C.T o.1 i.1 .add a.1,abb W.hN o.2 i.2 a.2 (acC h)⟩)
   λn _=>af (ni n sc.ln) λi=>some ⟨Nf i.1 .add a.1,aaW hS i.2 a.2⟩
 | _=>none
theorem adh{C:Cx}{sc:Sc}(hz:(C.h₀.get? il).isSome=true)(hS:sc.Ok){i j q:Nat}{ps:List (ai×ai)}{es:List ar}(hp:sC es ps)(hl:aH ps.length 4000=true)(IF:CE (ps.map nh)=true){nt nm nn no n1 n2 m:ai}(ht:sc.ln[i]?=some nt)(hm:sc.ln[j]?=some nm)(hn:sc.ln[q]?=some nn)(hd:(cX (aG i j)&&(cX (aG i q)&&cX (aG j q)))=true)
  {p1 p2 p3 p4 p5 p6 ap p7 p8 p9 nO pos:aC} {k k':Nat} (h:((jw no nt&&(jw n1 nm&&jw n2 nn))&&(jw m "replace" && (ap.endLine==p9.line)))=true) (hs:∀env:bd,env.scope=sc.scope->iT (.Call (.Attribute (.Name no p6) m ap) [.Name n1 p7,.Name n2 p8] [] p9) (some (.Name nt p5)) nO.line env=pure false)
  (hw:∀env:bd,env.scope=sc.scope->jD [.Name nt p5] (.Call (.Attribute (.Name no p6) m ap) [.Name n1 p7,.Name n2 p8] [] p9) env=pure none) :
  hW C sc (.For (.Tuple [.Name nm p1,.Name nn p2] k p3) (.Tuple es k' p4) [.Assign [.Name nt p5] (.Call (.Attribute (.Name no p6) m ap) [.Name n1 p7,.Name n2 p8] [] p9) nO] [] pos) (vN i j q (ps.map nh)):=by
 have z1:=kZ (a1 (a1 h));have z2:=kZ (a1 (a2 (a1 h)));have z3:=kZ (a2 (a2 (a1 h)));have z4:=kZ (a1 (a2 h));subst z1 z2 z3 z4;exact acv hz hS hp (bF hl) IF ht hm hn (ux (a1 hd)) (ux (a1 (a2 hd))) (ux (a2 (a2 hd))) (a2 (a2 h)) hs hw
noncomputable def QA:(es:List ar)->Option {ps:List (ai×ai) // sC es ps}
 | []=>some ⟨[],.nil⟩
 | e::es=>qH e none λzs _ _=>l2 zs none λx y=>zi x none λu _ _=>zi y none λv _ _=>af (QA es) λb=>some ⟨(u,v)::b.1,.cons b.2⟩
@[elab_as_elim] noncomputable def asE{P:List bS->Type}(b:List bS)(n:P b)(k:∀t v p,P [.Assign [t] v p]):P b:=match b with
 | []=>n
 | x::l=>match l with
  | _::_=>n
  | []=>match x with
   | .Assign ts v p=>(match ts with|[]=>n|t::ts=>match ts with|[]=>k t v p|_::_=>n)
   | _=>n
def adi(t it:ar)(b:List bS)(pos:aC):Option (kC W.C sc (.For t it b [] pos)):=
 qH t none λtz k1 p3=>l2 tz none λt1 t2=>j7 t1 none λnm p1=>j7 t2 none λnn p2=>qH it none λes k2 p4=>asE b none λy v nO=>j7 y none λnt p5=>IL v none λf args p9=>zh f none λo m ap=>j7 o none λno p6=>l2 args none λx1 x2=>j7 x1 none λn1 p7=>j7 x2 none λn2 p8=>
  gd ((jw no nt&&(jw n1 nm&&jw n2 nn))&&(jw m "replace" && (ap.endLine==p9.line))) λh=>af (QA es) λps=>gd (aH ps.1.length 4000&&CE (ps.1.map nh)) λhp=>af (ni nt sc.ln) λi=>af (ni nm sc.ln) λj=>af (ni nn sc.ln) λq=>
   gd (cX (aG i.1 j.1)&&(cX (aG i.1 q.1)&&cX (aG j.1 q.1))) λhd=>af (sE (iT (.Call (.Attribute (.Name no p6) m ap) [.Name n1 p7,.Name n2 p8] [] p9) (some (.Name nt p5)) nO.line (iK sc))) λs=>match s with
     | ⟨true,_⟩=>none
     | ⟨false,hs⟩=>af (sE (jD [.Name nt p5] (.Call (.Attribute (.Name no p6) m ap) [.Name n1 p7,.Name n2 p8] [] p9) (iK sc))) λw=>match w with
      | ⟨some _,_⟩=>none
      | ⟨none,hw⟩=>some ⟨vN i.1 j.1 q.1 (ps.1.map nh),adh W.hN.2 hS ps.2 (a1 hp) (a2 hp) i.2 j.2 q.2 hd h (λenv h=>(qI h).trans hs) λenv h=>(sD h).trans hw⟩
def adj(t it:ar)(b:List bS)(pos:aC):Option (kC W.C sc (.For t it b [] pos)):=jv (adi W sc hS t it b pos) (af (rs b) λu=>jv
 (IL it none λf args _=>j7 f none λn _=>gd (jw "enumerate" n&&iZ sc.scope "enumerate") λh=>l1 args none λy=>gd (gy y) λhu=>af (rE W sc hS y) λa=>qH t none λz _ _=>af (zl W.C sc z) λts=>
  some ⟨eW (.tup ts.1) (tX a.1) u.1,kZ (a1 h)▸acz W.H hS a.2 hu (.tup ts.2) u.2 (a2 h) W.B.enumerate.1 W.B.enumerate.2⟩)
 (af (IS W (rE W) sc hS it) λi=>af (zm W.C sc t) λtg=>gd (CM it) λhs=>some ⟨eW tg.1 i.1 u.1,aay hS i.2 tg.2 u.2 (CN hs)⟩))
def wD(b:bS):Option (kC W.C sc b):=match b with
 | .Expr e pos=>gd (Qm e) λh=>af (rE W sc hS e) λa=>some ⟨jM a.1,Ps hS a.2 (acD h _)⟩
 | .Assign ts v pos=>adf W sc hS ts v pos
 | .AugAssign t op v pos=>adg W sc hS t op v pos
 | .Return v pos=>(match v with|some e=>af (rE W sc hS e) λa=>some ⟨dq a.1,aas a.2⟩|none=>none)
 | .Break pos=>some ⟨GS,aat⟩
 | .If t a b pos=>af (CS W (rE W) sc hS t) λu=>af (rs a) λx=>af (rs b) λy=>some ⟨dy u.1 x.1 y.1,aar u.2 x.2 y.2⟩
 | .For t it b oe pos=>(match oe with|[]=>adj W sc hS rs t it b pos|_::_=>none)
 | .While t b oe pos=>(match oe with|[]=>af (CS W (rE W) sc hS t) λu=>af (rs b) λx=>some ⟨Bh u.1 x.1,abO u.2 x.2⟩|_::_=>none)
 | .Try b hs oe fb pos=>(match hs,oe,fb with|_::_,[],[]=>af (rs b) λu=>some ⟨u.1,abc u.2⟩|_,_,_=>none)
 | _=>none
noncomputable def QB:(b:List bS)->Option (wC W.C sc b)
 | []=>some ⟨bJ,OK⟩
 | [a]=>af (wD W sc hS rs a) λu=>some ⟨u.1,ON u.2⟩
 | a::b::l=>af (wD W sc hS rs a) λu=>af (QB (b::l)) λv=>some ⟨aE u.1 v.1,OM u.2 v.2⟩
end
noncomputable def fe(sc:Sc)(hS:sc.Ok):Nat->∀b:List bS,Option (wC W.C sc b)
 | 0,_=>none
 | n+1,b=>QB W sc hS (fe sc hS n) b
structure fP(C:Cx)(sc:Sc)(b:List bS)(c:Cs):Prop where
 h:iw C sc b c
structure PE(C:Cx)(sc:Sc)(b:ar)(c:Cd):Prop where
 h:bn C sc b c
theorem gq{C:Cx}{sc:Sc}{b:List bS}{c:Cs}(o:Option (wC C sc b))(h:af o (λx=>some x.1)=some c):fP C sc b c:=ah (av h) λx _ e=>⟨aI e▸x.2⟩
theorem CT{C:Cx}{sc:Sc}{b:ar}{c:Cd}(o:Option (jb C sc b))(h:af o (λx=>some x.1)=some c):PE C sc b c:=ah (av h) λx _ e=>⟨aI e▸x.2⟩
end
end Internal
set_option backward.match.sparseCases true
namespace Internal.L1
open Internal
def CU(T:Tb):Cd:=(jp (bq T .lt (ae 2) (aj 10)) (aK .add (aj 119808) (aK .mul (aj 52) (aJ T (bI [(aj 0),(aj 1),(aj 2),(aj 4),(aj 7),(aj 8),(aj 9),(aj 10),(aj 11),(aj 12)]) (ae 2)))) (aJ T (bI [(aj 97),(aj 65)]) (aK .sub (ae 2) (aj 10))))
def CV(T:Tb):Cs:=aE (dy (bq T .gt (ae 3) (aj 0)) (jM (bG T (ae 5) [105,110,115,101,114,116] [(aK .sub (ae 3) (aj 1)),(aJ T (ae 0) (aj 3))])) bJ)
  (dq (bG T (aX []) [106,111,105,110] [(ae 5)]))
def wE(T:Tb):Cs:=(dy (bq T .eq (ae 8) (ae 2)) (aE (aP (.loc 6) (aK .add (ae 6) (aj 1)))
  (aP (.loc 5) (aK .add (ae 5) (aj 1)))) (dy (bq T .eq (ae 8) (ae 3)) (aE (aP (.loc 6) (aK .add (ae 6) (aj 1)))
  (aE (aP (.loc 7) (aK .add (ae 7) (aj 1)))
  (aE (dy (bq T .ge (ae 5) (eJ T .len (ae 4))) (aP (.loc 4) (GF (ae 4) (aK .mul (dn false [(aj 0)]) (aK .add (aK .sub (ae 5) (eJ T .len (ae 4))) (aj 1))))) bJ)
  (aE (vL T (ae 4) (ae 5) (aK .add (aJ T (ae 4) (ae 5)) (aj 1)))
  (aP (.loc 5) (aj 0)))))) GS))
def zn(T:Tb):Cs:=(aE (lD T (ae 0) [110] (ae 6))
  (aE (lD T (ae 0) [110,116] (ae 7))
  (aE (lD T (ae 0) [110,111,114,109] (bI [(GG (ae 4)),(ae 5)]))
  (lD T (ae 0) [105,115,95,115,105,109,112,108,101] (nU (bq T .le (eJ T .len (ae 4)) (aj 1)))))))
def QC(T:Tb):Cs:=(aE (jM (bG T (ae 1) [97,112,112,101,110,100] [(eJ T .len (aq 0))])) (jM (bG T (aq 0) [97,112,112,101,110,100] [(aX [])])))
def QD(T:Tb):Cs:=(jM (bG T (ae 2) [97,112,112,101,110,100] [(bI [(bG T (ae 1) [112,111,112] []),(eJ T .len (aq 0))])]))
def QE(T:Tb):Cs:=(vL T (aq 0) (aj (-1)) (aK .add (aJ T (aq 0) (aj (-1))) (jp (bq T .is (ae 5) qe) (du (cF 5) [(ae 4)]) (aX [.c 63]))))
def zo(T:Tb):Cs:=(aE (aP (.loc 5) (du (cF 3) [(ae 4)])) (dy (bq T .eq (ae 4) (aX [.c 40])) (QC T) (dy (bq T .eq (ae 4) (aX [.c 41])) (QD T) (dy (bq T .pi (ae 5) pq) (QE T) bJ))))
def dA(T:Tb):Cs:=aP (.loc 7) (ae 6)
def dW(T:Tb):Cs:=Bh (yr (tW (ae 4)) (bq T .pi (aJ T (aJ T (ae 1) (aJ T (aJ T (ae 4) (aj (-1))) (aj 0))) (ae 6)) pq)) (aP (.loc 7) (aJ T (bG T (ae 4) [112,111,112] []) (aj 0)))
def dC(T:Tb):Cd:=du (cF 18) [(du (cF 15) [(aJ T (ae 0) (ae 6)),(ae 3)]),(aK .mod (ae 3) (aj 5))]
def dE(T:Tb):Cs:=jM (bG T (ae 4) [97,112,112,101,110,100] [(bI [(ae 6),(GO 6 [(jp (tW (ae 4)) (aJ T (aJ T (ae 4) (aj (-1))) (aj 1)) (aq 1)),(ae 8),(ae 5)] [.c 110,.c 97,.c 103] (jp (bq T .is (aJ T (aJ T (ae 2) (ae 7)) (ae 6)) pq) (aX []) (aX [.c 33])))])])
def d0(T:Tb):Cs:=aP (.tup [(.fin 1),(.loc 4),(.fin 0),(.loc 5)]) (bI [(du (cF 16) [(aX []),(nV false)]),(dn true []),(dn true [(aX [.c 40])]),(vH T [[.c 110,.c 97,.c 103]] [(aX [.c 33])])])
def d9(T:Tb):Cs:=aE (lD T (aq 1) [105,116,101,114,116,101,120,116] (vK 2 [1]))
  (aE (lD T (aq 1) [116,97,105,108] (aX [.c 41]))
  (aE (jM (du (cF 7) [(vK 3 [0]),(aq 1)]))
  (dq (aK .add (bG T (aX []) [106,111,105,110] [(aq 0)]) (jp (bq T .eq (ae 5) (vH T [[.c 110,.c 97,.c 103]] [(aX [.c 33])])) (aX []) (aX [.c 63]))))))
def zp(T:Tb):Cd:=(bI [(bR false (.loc 1) (ce (aq 0)) (bE (du (cF 15) [(ae 1),(aq 0)])) 2 0 [1]),(nV true),(aK .mul (dn false [(aK .mul (dn false [pq]) (aj 5))]) (aj 5))])
def CW(T:Tb):Cd:=(bR false (.loc 1) (dT (aj 5)) (bE (du (cF 1) [(aK .add (aJ T (aJ T (aq 0) (ae 1)) (aj 0)) (aJ T (aq 1) (ae 1)))])) 2 0 [0,2])
def CX(T:Tb):Cd:=(bR false (.bi 0) (dT (aj 5)) (bE (bR false (.loc 1) (dT (aj 5)) (bE (jp (bq T .lt (aq 1) (ae 1)) (bG T (aJ T (aq 0) (aq 1)) [110,111,116,95,108,101,115,115,95,119,105,116,110,101,115,115] [(aJ T (aq 0) (ae 1))]) (dn false []))) 2 0 [1,0])) 1 1 [5])
def CY(T:Tb):Cd:=(bR false (.loc 1) (ce (aq 5)) (bE (bG T (ae 1) [108,111,110,103,101,115,116,95,114,117,110,95,111,102,95,115,112,97,99,101,115] [])) 2 0 [])
def CZ(T:Tb):Cs:=(vL T (aq 3) (ae 1) (aK .add (bG T (aq 3) [103,101,116] [(ae 1),(aj 0)]) (aj 1)))
def IU(T:Tb):Cd:=(bR false (.loc 1) (ce (aq 5)) (bE (bG T (ae 1) [105,110,100,101,110,116,95,108,101,118,101,108] [(aq 0)])) 2 0 [8])
def IV(T:Tb):Cd:=(bR false (.bi 0) (ce (aq 9)) (bE (bR false (.loc 1) (ce (aq 1)) (bE (nU (bq T .lt (aq 0) (ae 1)))) 2 0 [0])) 1 1 [9])
def IW(T:Tb):Cd:=(bR false (.loc 1) (ce (aJ T (aJ T (aq 1) (aq 4)) (aq 0))) (jq (bq T .eq (aJ T (ae 1) (aj 0)) (nX .min2 (aq 1) (aK .add (nX .max2 (aJ T (aq 0) (aq 2)) (aJ T (aq 0) (aq 3))) (aj 1)))) (bE (ae 1))) 2 0 [2,3,4,0])
def IX(T:Tb):Cd:=(bR false (.bi 0) (dT (aj 5)) (bE (bR false (.bi 0) (dT (aj 5)) (bE (nU (bq T .eq (IW T) (dn false [])))) 1 1 [1,2,3,0])) 1 1 [6,7,8])
def C0(T:Tb):Cs:=(aE (dy (bq T .eq (aK .mod (aq 8) (aj 2)) (aj 1)) (aE (aP (.bi 9) (IU T)) (aP (.loc 0) (IV T))) (aP (.loc 0) (IX T)))
  (eW (.loc 1) (ce (du (cF 20) [(du (cF 19) [(aq 0),(ae 0),(aq 4),(aK .add (aq 1) (aq 8))])])) (CZ T)))
def IY(T:Tb):Cd:=(bR false (.loc 1) (ce (aq 3)) (jq (bq T .gt (aJ T (aq 0) (ae 1)) (aj 2)) (bE (fC (bG T (ae 1) [115,112,108,105,116] [(aX [.c 32])]) (some (aj 1)) none))) 2 0 [3])
def IZ(T:Tb):Cd:=(bR false (.bi 0) (ce (aq 0)) (bE (eJ T .len (bR false (.loc 1) (ce (aq 1)) (jq (bq T .isin (aK .add (eJ T .chr (aK .add (aj 97) (aJ T (aq 0) (aj 1)))) (aJ T (aq 0) (aj 2))) (ae 1)) (bE (ae 1))) 2 0 [0]))) 1 1 [10])
def I1(T:Tb):Cd:=(bR false (.loc 1) (dT (aj 4)) (bE (aK .add (aK .mul (aX [.c 32]) (aK .mod (aK .fdiv (aK .fdiv (aq 0) (aj 60)) (aK .pow (aj 3) (ae 1))) (aj 3))) (aX [.c 9]))) 2 0 [1])
def I2(T:Tb):Cd:=(bR false (.loc 1) (dT (aj 5)) (bE (du (cF 1) [(aK .add (bG T (aX []) [106,111,105,110] [(jp (bq T .eq (aK .mod (ae 1) (aj 2)) (aj 0)) (fC (aq 1) none (some (aJ T (aq 0) (ae 1)))) (yt (fC (aq 1) none (some (aJ T (aq 0) (ae 1))))))]) (aJ T (aq 2) (ae 1)))])) 2 0 [11,12,2])
def I3(T:Tb):Cd:=(bR false (.bi 0) (ce (bI [(aq 5),(ae 2)])) (bE (bR false (.bi 0) (dT (aj 5)) (bE (bR false (.loc 1) (dT (aj 5)) (bE (jp (bq T .lt (aq 1) (ae 1)) (bG T (aJ T (aq 0) (aq 1)) [108,101,115,115] [(aJ T (aq 0) (ae 1))]) qe)) 2 0 [1,0])) 1 1 [0])) 1 1 [])
def I7(T:Tb):Cd:=(bR false (.bi 0) (ce (bI [(aq 5),(ae 2)])) (bE (bR false (.bi 0) (ce (aq 0)) (bE (bR false (.loc 1) (ce (aq 1)) (bE (bG T (aq 0) [101,113,117,97,108] [(ae 1)])) 2 0 [0])) 1 1 [0])) 1 1 [])
def zq(T:Tb):Cg:=(jq (yr (bq T .pi (ae 3) pq) (bq T .pi (ae 3) qe)) (bE (ae 3)))
def I8(T:Tb):Cd:=(bR false (.loc 1) (ce (aK .add (aq 13) (aq 14))) (tY (.loc 2) (ce (ae 1)) (tY (.loc 3) (ce (ae 2)) (zq T))) 4 0 [])
def I9(T:Tb):Cd:=(bR false (.loc 1) (dT (aj 2)) (bE (eJ T .sorted (du (cF 20) [(du (cF 19) [(aq 4),(aJ T (aq 1) (ae 1)),(aJ T (bI [(aq 3),(aJ T (aq 0) (aj 1))]) (ae 1)),(aq 2)])]))) 2 0 [14,13,1,4,0])
def Ja(T:Tb):Cd:=(bR false (.bi 0) (ce (aq 2)) (bE (bR false (.loc 1) (dT (aj 5)) (bE (du (cF 18) [(aq 0),(ae 1)])) 2 0 [0])) 1 1 [])
def wF(T:Tb):Cd:=(bR false (.loc 1) (ce (ae 0)) (bE (aK .add (eJ T .chr (aK .add (aj 97) (aJ T (ae 1) (aj 1)))) (aJ T (ae 1) (aj 2)))) 2 0 [])
def Jb(T:Tb):Cd:=(bR false (.bi 0) (ce (ae 0)) (bE (bR false (.loc 1) (nW (aj 1) (aj 6)) (bE (du (cF 22) [(aJ T (aq 0) (aj 0)),(ae 1)])) 2 0 [0])) 1 1 [])
def Jc(T:Tb):Cd:=(bR false (.bi 0) (dT (aj 5)) (bE (bR false (.bi 0) (dT (aj 5)) (bE (aJ T (aK .add (bR false (.loc 1) (nW (aK .add (aq 2) (aj 1)) (aj 5)) (jq (bq T .le (aJ T (aJ T (aq 0) (ae 1)) (aq 1)) (aJ T (aJ T (aq 0) (aq 2)) (aq 1))) (bE (ae 1))) 2 0 [1,0,2]) (dn false [(aj 5)])) (aj 0))) 1 1 [1,0])) 1 1 [3])
def wG(T:Tb):Cs:=(vL T (ae 1) (bG T (aX [.c 32]) [106,111,105,110] [(fC (aq 2) (some (ae 2)) (some (ae 3)))]) (bG T (aJ T (aq 4) (ae 2)) [99,111,117,110,116] [(ae 3)]))
def Jd(T:Tb):Cs:=(eW (.loc 2) (dT (aj 5)) (eW (.loc 3) (ce (aJ T (aq 4) (ae 2))) (wG T)))
def Je(T:Tb):Cd:=(bR false (.bi 0) (dT (aj 5)) (bE (aJ T (aK .add (bR false (.loc 1) (ce (aJ T (aq 1) (aq 0))) (jq (bq T .gt (bG T (aJ T (aq 0) (aq 1)) [99,111,117,110,116] [(ae 1)]) (aj 2)) (bE (ae 1))) 2 0 [1,0]) (dn false [(aK .add (aq 0) (aj 1))])) (aj 0))) 1 1 [4])
def Jf(T:Tb):Cd:=(bR false (.bi 0) (ce (bI [(bR false (.loc 1) (ce (aq 4)) (bE (eJ T .tO (ae 1))) 2 0 []),(aq 5)])) (bE (eJ T .sorted (bR false (.loc 1) (dT (aj 5)) (bE (bG T (aX [.c 32]) [106,111,105,110] [(fC (aq 1) (some (ae 1)) (some (aJ T (aq 0) (ae 1))))])) 2 0 [0,1]))) 1 1 [2])
def QF(T:Tb):Cd:=(eJ T .yh (bR false (.loc 1) (ce (bG T (aJ T (ae 1) (aj 0)) [115,112,108,105,116] [(aX [.c 9])])) (bE (eJ T .len (ae 1))) 2 0 []))
def Jg(T:Tb):Cd:=(bR false (.loc 1) (ce (ae 0)) (bE (QF T)) 2 0 [])
def Jh(T:Tb):Cd:=(bR false (.bi 0) (dT (aj 5)) (bE (bR false (.bi 0) (dT (aj 5)) (bE (jp (bq T .lt (aq 3) (aq 0)) (bR false (.loc 1) (dT (aK .add (nX .max2 (aJ T (aq 2) (aq 3)) (aJ T (aq 2) (aq 0))) (aj 1))) (jq (bq T .ge (aJ T (aJ T (aq 0) (aq 1)) (ae 1)) (aJ T (aJ T (aq 0) (aq 2)) (ae 1))) (bE (bI [(aK .add (ae 1) (aj 1)),(aJ T (aJ T (aq 0) (aq 1)) (ae 1)),(aJ T (aJ T (aq 0) (aq 2)) (ae 1))]))) 2 0 [1,3,0]) (dn false []))) 1 1 [1,2,0])) 1 1 [3,6])
def Ji(T:Tb):Cd:=(bR false (.bi 0) (dT (aj 5)) (bE (eJ T .len (bR false (.loc 1) (dT (aq 0)) (jq (bq T .gt (aJ T (aq 0) (ae 1)) (aq 1)) (bE (ae 1))) 2 0 [1,0]))) 1 1 [5])
def Jj(T:Tb):Cd:=(bR false (.bi 0) (ce (bI [(aq 3),(ae 6)])) (bE (bR false (.bi 0) (ce (aq 0)) (bE (bR false (.loc 1) (ce (aq 1)) (bE (nU (bq T .eq (aq 0) (ae 1)))) 2 0 [0])) 1 1 [0])) 1 1 [])
def C2(T:Tb):Cd:=(vH T [[.c 38],[.c 60],[.c 62],[.c 34],[.c 13],[.c 10],[.c 9]] [(bI [(aX [.c 38,.c 97,.c 109,.c 112,.c 59]),(aX [.c 38,.c 97,.c 109,.c 112,.c 59]),(aX [.c 38,.c 97,.c 109,.c 112,.c 59]),(aX [.c 38,.c 97,.c 109,.c 112,.c 59]),(aX [.c 38,.c 97,.c 109,.c 112,.c 59])]),(bI [(aX [.c 38,.c 108,.c 116,.c 59]),(aX [.c 38,.c 108,.c 116,.c 59]),(aX [.c 60]),(aX [.c 38,.c 108,.c 116,.c 59]),(aX [.c 38,.c 108,.c 116,.c 59])]),(bI [(aX [.c 38,.c 103,.c 116,.c 59]),(aX [.c 38,.c 103,.c 116,.c 59]),(aX [.c 38,.c 103,.c 116,.c 59]),(aX [.c 38,.c 103,.c 116,.c 59]),(aX [.c 62])]),(bI [(aX [.c 34]),(aX [.c 38,.c 113,.c 117,.c 111,.c 116,.c 59]),(aX [.c 38,.c 113,.c 117,.c 111,.c 116,.c 59]),(aX [.c 34]),(aX [.c 38,.c 113,.c 117,.c 111,.c 116,.c 59])]),(bI [(aX [.c 13]),(aX [.c 38,.c 35,.c 49,.c 51,.c 59]),(aX [.c 13]),(aX [.c 38,.c 35,.c 120,.c 68,.c 59]),(aX [.c 38,.c 35,.c 120,.c 68,.c 59])]),(bI [(aX [.c 10]),(aX [.c 38,.c 35,.c 49,.c 48,.c 59]),(aX [.c 10]),(aX [.c 10]),(aX [.c 38,.c 35,.c 120,.c 65,.c 59])]),(bI [(aX [.c 9]),(aX [.c 38,.c 35,.c 48,.c 57,.c 59]),(aX [.c 9]),(aX [.c 9]),(aX [.c 38,.c 35,.c 120,.c 57,.c 59])])])
def Jk(T:Tb):Cd:=(bR false (.bi 0) (ce (ae 0)) (bE (bR false (.loc 1) (ce (aJ T (aq 1) (aJ T (aq 0) (aj 2)))) (bE (du (cF 15) [(bI [(aJ T (aq 1) (aj 0)),(aJ T (aq 1) (aj 1)),(ae 1),(aJ T (aq 1) (aj 3))]),(aq 0)])) 2 0 [2,0])) 1 1 [1,0])
def zr(T:Tb):Cs:=Bf T (aq 0) (aK .mod (ae 2) (aj 6)) .add (aK .mod (ae 3) (aK .pow (aj 10) (aj 9)))
def Jl(T:Tb):Cd:=(eJ T .chr (jp (bq T .gt (ae 4) (aj 10)) (aK .add (aj 65013) (ae 4)) (aJ T (bI [(aj 173),(aj 847),(aj 6150),(aj 6155),(aj 6156),(aj 6157),(aj 8203),(aj 8204),(aj 8205),(aj 8288),(aj 65279)]) (ae 4))))
def C3(T:Tb):Cd:=(bG T (aX []) [106,111,105,110] [(bR false (.loc 1) (dT (aj 4)) (bE (aJ T (bI [(aX []),(aX [.c 32]),(aX [.c 9])]) (aK .mod (aK .fdiv (aJ T (aq 0) (aq 1)) (aK .pow (aj 3) (ae 1))) (aj 3)))) 2 0 [0,1])])
def C4(T:Tb):Cd:=(aJ T (aX [.c 38,.c 60,.c 62,.c 34,.c 13,.c 10,.c 9]) (aK .mod (aK .fdiv (aJ T (aq 0) (aq 1)) (aj 81)) (aj 7)))
def zt(T:Tb):Cs:=(aE (oy [(.loc 5),(.loc 4)] (bI [(aK .mod (aK .fdiv (aJ T (aq 0) (aq 1)) (aj 567)) (aj 27)),(aK .mod (aK .add (aJ T (aq 0) (aj 5)) (aK .mul (aq 1) (aK .add (aj 1) (aK .mod (aK .fdiv (aJ T (aq 0) (aj 5)) (aj 26)) (aj 7))))) (aj 26))]))
  (aE (aP (.loc 6) (Jl T))
  (jM (bG T (ae 1) [97,112,112,101,110,100] [(bI [C3 T,(ae 5),C4 T,(ae 6)])]))))
def qJ(T:Tb):FI:={params:=[(.loc 0),(.loc 1)],nl:=9,nc:=0,alone:=false,body:=(aE (lD T (ae 0) [114,97,119] (ae 1)) (aE (oy [(.loc 3),(.loc 2)] (bI [(fD T (cF 1) [83]),(fD T (cF 1) [84])])) (aE (aP (.loc 4) (dn true [])) (aE (yw [(.loc 5),(.loc 6),(.loc 7)] (aj 0)) (aE (eW (.loc 8) (ce (fD T (ae 0) [114,97,119])) (wE T)) (zn T)))))),tail:=bJ}
def C5(T:Tb):FI:={params:=[(.loc 0)],nl:=3,nc:=0,alone:=false,body:=(aE (aP (.tup [(.loc 1),(.loc 2)]) (fD T (ae 0) [110,111,114,109])) (dq (nX .max2 (aK .sub (eJ T .len (ae 1)) (aj 1)) (ae 2)))),tail:=bJ}
def C6(T:Tb):FI:={params:=[(.loc 0),(.loc 1)],nl:=6,nc:=0,alone:=false,body:=(aE (aP (.tup [(.loc 2),(.loc 3)]) (fD T (ae 0) [110,111,114,109])) (aE (aP (.loc 4) (aj 0)) (aE (eW (.loc 5) (nW (ae 1) (eJ T .len (ae 2))) (aP (.loc 4) (aK .add (ae 4) (aK .mul (aK .fdiv (ae 5) (ae 1)) (aJ T (ae 2) (ae 5)))))) (dq (aK .add (ae 3) (aK .mul (ae 1) (aK .add (ae 4) (fD T (ae 0) [110,116])))))))),tail:=bJ}
def C7(T:Tb):FI:={params:=[(.loc 0),(.loc 1)],nl:=2,nc:=0,alone:=false,body:=(dq (nU (bq T .eq (fD T (ae 0) [110,111,114,109]) (fD T (ae 1) [110,111,114,109])))),tail:=bJ}
def C8(T:Tb):FI:={params:=[(.loc 0),(.loc 1)],nl:=4,nc:=0,alone:=false,body:=(aE (dy (bq T .ge (fD T (ae 0) [110]) (fD T (ae 1) [110])) (dq qe) bJ) (aE (dy (yr (tW (fD T (ae 0) [105,115,95,115,105,109,112,108,101])) (tW (fD T (ae 1) [105,115,95,115,105,109,112,108,101]))) (dq (nU (bq T .le (fD T (ae 0) [110,116]) (fD T (ae 1) [110,116])))) bJ) (aE (aP (.loc 2) (aK .add (nX .max2 (bG T (ae 0) [108,111,110,103,101,115,116,95,114,117,110,95,111,102,95,115,112,97,99,101,115] []) (bG T (ae 1) [108,111,110,103,101,115,116,95,114,117,110,95,111,102,95,115,112,97,99,101,115] [])) (aj 1))) (aE (eW (.loc 3) (nW (aj 2) (aK .add (ae 2) (aj 1))) (dy (bq T .ge (bG T (ae 0) [105,110,100,101,110,116,95,108,101,118,101,108] [(ae 3)]) (bG T (ae 1) [105,110,100,101,110,116,95,108,101,118,101,108] [(ae 3)])) (dq qe) bJ)) (dq pq))))),tail:=bJ}
def C9(T:Tb):FI:={params:=[(.loc 0),(.loc 1)],nl:=5,nc:=0,alone:=true,body:=(aE (aP (.loc 2) (aK .add (nX .max2 (bG T (ae 0) [108,111,110,103,101,115,116,95,114,117,110,95,111,102,95,115,112,97,99,101,115] []) (bG T (ae 1) [108,111,110,103,101,115,116,95,114,117,110,95,111,102,95,115,112,97,99,101,115] [])) (aj 1))) (aE (aP (.loc 3) (dn true [])) (aE (eW (.loc 4) (nW (aj 1) (aK .add (ae 2) (aj 1))) (dy (bq T .ge (bG T (ae 0) [105,110,100,101,110,116,95,108,101,118,101,108] [(ae 4)]) (bG T (ae 1) [105,110,100,101,110,116,95,108,101,118,101,108] [(ae 4)])) (jM (bG T (ae 3) [97,112,112,101,110,100] [(bI [(ae 4),(bG T (ae 0) [105,110,100,101,110,116,95,108,101,118,101,108] [(ae 4)]),(bG T (ae 1) [105,110,100,101,110,116,95,108,101,118,101,108] [(ae 4)])])])) bJ)) (dq (ae 3))))),tail:=bJ}
def f3(T:Tb):FI:={params:=[(.loc 0)],nl:=1,nc:=0,alone:=false,body:=(dq (GQ T (eJ T .ord (ae 0)))),tail:=bJ}
def f5(T:Tb):FI:={params:=[(.loc 0)],nl:=2,nc:=0,alone:=false,body:=(aE (aP (.loc 1) (GR T (eJ T .ord (ae 0)))) (aE (dy (bq T .pi (ae 1) yp) (dq (ae 1)) bJ) (dq (bG T (ae 0) [108,111,119,101,114] [])))),tail:=bJ}
def f6(T:Tb):FI:={params:=[(.loc 0),(.loc 1),(.loc 2),(.loc 3)],nl:=5,nc:=0,alone:=false,body:=(aE (aP (.loc 2) (Iz T (ae 2) (ae 3))) (aE (aP (.loc 4) (bG T (ae 0) [109,97,107,101,101,108,101,109,101,110,116] [(ae 1),(ae 2)])) (aE (jM (bG T (ae 0) [97,112,112,101,110,100] [(ae 4)])) (dq (ae 4))))),tail:=bJ}
def f7(T:Tb):FI:={params:=[(.loc 0),(.loc 1)],nl:=3,nc:=0,alone:=false,body:=(aE (eW (.loc 2) (ce (bG T (ae 1) [105,116,101,114,116,101,120,116] [])) (jM (du (ae 0) [(ae 2)]))) (dy (tW (fD T (ae 1) [116,97,105,108])) (jM (du (ae 0) [(fD T (ae 1) [116,97,105,108])])) bJ)),tail:=bJ}
def f9(T:Tb):FI:={params:=[(.loc 0)],nl:=1,nc:=0,alone:=false,body:=(aE (dy (bq T .isin (aX [.c 38]) (ae 0)) (aP (.loc 0) (gx (ae 0) [.c 38] [.c 38,.c 97,.c 109,.c 112,.c 59])) bJ) (aE (dy (bq T .isin (aX [.c 60]) (ae 0)) (aP (.loc 0) (gx (ae 0) [.c 60] [.c 38,.c 108,.c 116,.c 59])) bJ) (aE (dy (bq T .isin (aX [.c 62]) (ae 0)) (aP (.loc 0) (gx (ae 0) [.c 62] [.c 38,.c 103,.c 116,.c 59])) bJ) (dq (ae 0))))),tail:=bJ}
def wH(T:Tb):FI:={params:=[(.loc 0)],nl:=1,nc:=0,alone:=false,body:=(aE (dy (bq T .isin (aX [.c 38]) (ae 0)) (aP (.loc 0) (gx (ae 0) [.c 38] [.c 38,.c 97,.c 109,.c 112,.c 59])) bJ) (aE (dy (bq T .isin (aX [.c 60]) (ae 0)) (aP (.loc 0) (gx (ae 0) [.c 60] [.c 38,.c 108,.c 116,.c 59])) bJ) (aE (dy (bq T .isin (aX [.c 62]) (ae 0)) (aP (.loc 0) (gx (ae 0) [.c 62] [.c 38,.c 103,.c 116,.c 59])) bJ) (aE (dy (bq T .isin (aX [.c 34]) (ae 0)) (aP (.loc 0) (gx (ae 0) [.c 34] [.c 38,.c 113,.c 117,.c 111,.c 116,.c 59])) bJ) (aE (dy (bq T .isin (aX [.c 13]) (ae 0)) (aP (.loc 0) (gx (ae 0) [.c 13] [.c 38,.c 35,.c 49,.c 51,.c 59])) bJ) (aE (dy (bq T .isin (aX [.c 10]) (ae 0)) (aP (.loc 0) (gx (ae 0) [.c 10] [.c 38,.c 35,.c 49,.c 48,.c 59])) bJ) (aE (dy (bq T .isin (aX [.c 9]) (ae 0)) (aP (.loc 0) (gx (ae 0) [.c 9] [.c 38,.c 35,.c 48,.c 57,.c 59])) bJ) (dq (ae 0))))))))),tail:=bJ}
def wI(T:Tb):FI:={params:=[(.loc 0)],nl:=1,nc:=0,alone:=false,body:=(aE (dy (bq T .isin (aX [.c 38]) (ae 0)) (aP (.loc 0) (gx (ae 0) [.c 38] [.c 38,.c 97,.c 109,.c 112,.c 59])) bJ) (aE (dy (bq T .isin (aX [.c 62]) (ae 0)) (aP (.loc 0) (gx (ae 0) [.c 62] [.c 38,.c 103,.c 116,.c 59])) bJ) (aE (dy (bq T .isin (aX [.c 34]) (ae 0)) (aP (.loc 0) (gx (ae 0) [.c 34] [.c 38,.c 113,.c 117,.c 111,.c 116,.c 59])) bJ) (dq (ae 0))))),tail:=bJ}
def wJ(T:Tb):FI:={params:=[(.loc 0)],nl:=1,nc:=0,alone:=false,body:=(aE (dy (bq T .isin (aX [.c 38]) (ae 0)) (aP (.loc 0) (gx (ae 0) [.c 38] [.c 38,.c 97,.c 109,.c 112,.c 59])) bJ) (aE (dy (bq T .isin (aX [.c 60]) (ae 0)) (aP (.loc 0) (gx (ae 0) [.c 60] [.c 38,.c 108,.c 116,.c 59])) bJ) (aE (dy (bq T .isin (aX [.c 62]) (ae 0)) (aP (.loc 0) (gx (ae 0) [.c 62] [.c 38,.c 103,.c 116,.c 59])) bJ) (aE (dy (bq T .isin (aX [.c 13]) (ae 0)) (aP (.loc 0) (gx (ae 0) [.c 13] [.c 38,.c 35,.c 120,.c 68,.c 59])) bJ) (dq (ae 0)))))),tail:=bJ}
def wK(T:Tb):FI:={params:=[(.loc 0)],nl:=1,nc:=0,alone:=false,body:=(aE (dy (bq T .isin (aX [.c 38]) (ae 0)) (aP (.loc 0) (gx (ae 0) [.c 38] [.c 38,.c 97,.c 109,.c 112,.c 59])) bJ) (aE (dy (bq T .isin (aX [.c 60]) (ae 0)) (aP (.loc 0) (gx (ae 0) [.c 60] [.c 38,.c 108,.c 116,.c 59])) bJ) (aE (dy (bq T .isin (aX [.c 34]) (ae 0)) (aP (.loc 0) (gx (ae 0) [.c 34] [.c 38,.c 113,.c 117,.c 111,.c 116,.c 59])) bJ) (aE (dy (bq T .isin (aX [.c 9]) (ae 0)) (aP (.loc 0) (gx (ae 0) [.c 9] [.c 38,.c 35,.c 120,.c 57,.c 59])) bJ) (aE (dy (bq T .isin (aX [.c 10]) (ae 0)) (aP (.loc 0) (gx (ae 0) [.c 10] [.c 38,.c 35,.c 120,.c 65,.c 59])) bJ) (aE (dy (bq T .isin (aX [.c 13]) (ae 0)) (aP (.loc 0) (gx (ae 0) [.c 13] [.c 38,.c 35,.c 120,.c 68,.c 59])) bJ) (dq (ae 0)))))))),tail:=bJ}
def wL(T:Tb):FI:={params:=[(.loc 0)],nl:=7,nc:=2,alone:=true,body:=(aE (aP (.tup [(.bi 0),(.loc 1)]) (bI [(dn true [(aj 0),(aj 2918),(aj 7052),(aj 6163),(aj 15106),(aj 503852)]),(dn true [])])) (aE (eW (.tup [(.loc 2),(.loc 3)]) (tX (fC (ae 0) none (some (aj 60)))) (zr T)) (aE (eW (.bi 1) (dT (aj 5)) (zt T)) (dq (bI [(ae 1),(aK .fdiv (aJ T (aq 0) (aj 5)) (aj 182))]))))),tail:=bJ}
def wM(T:Tb):FI:={params:=[(.loc 0),(.loc 1)],nl:=6,nc:=0,alone:=true,body:=(aE (oy [(.loc 3),(.loc 2)] (bI [(aK .mod (ae 1) (aj 12)),(aK .mod (aK .add (ae 1) (aJ T (ae 0) (aj 1))) (aj 4))])) (aE (aP (.loc 4) (CU T)) (aE (aP (.loc 5) (dn true [(eJ T .chr (aK .add (ae 4) (aJ T (ae 0) (aj 1)))),(aJ T (ae 0) (aj 2))])) (CV T)))),tail:=bJ}
def C'(T:Tb):FI:={params:=[(.loc 0),(.loc 1)],nl:=2,nc:=1,alone:=false,body:=(aE (aP (.fin 0) (vK 0 [])) (aE (GU T [((aq 0),[116,97,103]),((aq 0),[97,116,116,114,105,98]),((aq 0),[119,105,116,104,105,110])] [(ae 0),(ae 1),(dn true [])]) (aE (lD T (aq 0) [97,112,112,101,110,100] (vK 1 [0])) (aE (lD T (aq 0) [109,97,107,101,101,108,101,109,101,110,116] (cF 16)) (dq (aq 0)))))),tail:=bJ}
def Da(T:Tb):FI:={params:=[(.loc 0)],nl:=1,nc:=0,alone:=false,body:=(dq (aK .add (aK .add (aK .add (aK .add (aX [.c 40]) (fD T (ae 0) [116,97,103])) (bG T (fD T (ae 0) [97,116,116,114,105,98]) [103,101,116] [(aX [.c 110,.c 97,.c 103]),(aX [.c 63])])) (bG T (aX []) [106,111,105,110] [(bR false (.loc 1) (ce (fD T (ae 0) [119,105,116,104,105,110])) (bE (du (cF 17) [(ae 1)])) 2 0 [])])) (aX [.c 41]))),tail:=bJ}
def Db(T:Tb):FI:={params:=[(.loc 0),(.loc 1)],nl:=2,nc:=0,alone:=false,body:=(dq (du (aJ T (bI [(cF 9),(cF 10),(cF 11),(cF 12),(cF 13)]) (ae 1)) [(ae 0)])),tail:=bJ}
def uA(T:Tb):FI:={params:=[(.loc 0),(.loc 1),(.loc 2),(.loc 3)],nl:=9,nc:=2,alone:=true,body:=(aE (d0 T) (aE (eW (.loc 6) (dT (aj 5)) (aE (dA T) (aE (dW T) (aE (aP (.loc 8) (dC T)) (dE T))))) (d9 T))),tail:=bJ}
def wN(T:Tb):FI:={params:=[(.loc 0)],nl:=6,nc:=1,alone:=true,body:=(aE (aP (.tup [(.bi 0),(.loc 1),(.loc 2)]) (bI [(dn true []),(dn true []),(dn true [])])) (aE (vN 0 3 4 [([38,108,116,59],[60]),([38,103,116,59],[62]),([38,113,117,111,116,59],[34]),([38,35,49,51,59],[13]),([38,35,120,68,59],[13]),([38,35,49,48,59],[10]),([38,35,120,65,59],[10]),([38,35,48,57,59],[9]),([38,35,120,57,59],[9]),([38,97,109,112,59],[38])]) (aE (eW (.loc 4) (ce (ae 0)) (zo T)) (dq (bR false (.tup [(.loc 1),(.loc 2)]) (ce (fC (ae 2) none (some (aj (-1))))) (bE (bG T (aX [.c 32]) [106,111,105,110] [(fC (aq 0) (some (ae 1)) (some (ae 2)))])) 3 0 [0]))))),tail:=bJ}
def pD(T:Tb):FI:={params:=[(.bi 0),(.bi 1)],nl:=6,nc:=15,alone:=true,body:=(aE (aP (.tup [(.bi 2),(.bi 3),(.bi 4)]) (zp T)) (aE (aP (.bi 5) (CW T)) (aE (aP (.bi 6) (CX T)) (aE (aP (.bi 7) (CY T)) (eW (.bi 8) (nW (aj 1) (aj 6)) (C0 T)))))),tail:=(aE (aP (.bi 10) (IY T)) (aE (aP (.bi 11) (IZ T)) (aE (aP (.bi 12) (I1 T)) (aE (aP (.loc 2) (I2 T)) (aE (aP (.bi 13) (I3 T)) (aE (aP (.bi 14) (I7 T)) (aE (aP (.loc 3) (I8 T)) (aE (aP (.loc 4) (I9 T)) (aE (aP (.loc 5) (Ja T)) (dq (bI [(aq 3),(ae 4),(aq 7),(aq 6),(aq 14),(ae 5),(ae 3)])))))))))))}
def Dc(T:Tb):FI:={params:=[(.loc 0),(.loc 1)],nl:=4,nc:=0,alone:=false,body:=(aE (aP (.loc 2) (aj 0)) (aE (eW (.loc 3) (ce (ae 0)) (aP (.loc 2) (jp (bq T .eq (ae 3) (aX [.c 32])) (aK .add (ae 2) (aj 1)) (aK .mul (aK .add (aK .fdiv (ae 2) (ae 1)) (aj 1)) (ae 1))))) (dq (ae 2)))),tail:=bJ}
def uB(T:Tb):FI:={params:=[(.loc 0),(.bi 0)],nl:=9,nc:=7,alone:=true,body:=(aE (aP (.bi 1) (C2 T)) (aE (aP (.tup [(.bi 2),(.loc 1)]) (bI [(wF T),(nV true)])) (aE (aP (.bi 3) (Jb T)) (aE (aP (.bi 4) (Jc T)) (aE (Jd T) (aE (aP (.bi 5) (Je T)) (aE (aP (.loc 4) (Jf T)) (aE (aP (.bi 6) (Jg T)) (aE (aP (.loc 5) (Jh T)) (aE (aP (.loc 6) (Ji T)) (aE (aP (.loc 7) (Jj T)) (aE (aP (.loc 8) (Jk T)) (dq (bI [(ae 1),(ae 4),(aq 6),(ae 5),(ae 7),(ae 8),(dn false [])])))))))))))))),tail:=bJ}
def zu(T:Tb):FI:={params:=[(.loc 0)],nl:=3,nc:=0,alone:=false,body:=(aE (aP (.tup [(.loc 1),(.loc 2)]) (du (cF 14) [(ae 0)])) (dq (nU (bq T .eq (du (cF 21) [(ae 1),(ae 2)]) (du (cF 23) [(ae 1),(ae 2)]))))),tail:=bJ}
def l0(T:Tb):FI:={params:=[],nl:=0,nc:=0,body:=(dq yp),alone:=false,tail:=bJ}
def l1(T:Tb):FI:={params:=[(.loc 0)],nl:=1,nc:=0,body:=(dq (bG T (fD T (aq 0) [119,105,116,104,105,110]) [97,112,112,101,110,100] [(ae 0)])),alone:=false,tail:=bJ}
def l2(T:Tb):FI:={params:=[],nl:=0,nc:=0,body:=(dq (bR false (.loc 1) (ce (fD T (aq 0) [119,105,116,104,105,110])) (bE (du (cF 17) [(ae 1)])) 2 0 [])),alone:=false,tail:=bJ}
def l3(T:Tb):FI:={params:=[(.loc 0)],nl:=1,nc:=0,body:=(dq (bG T (aq 0) [97,112,112,101,110,100] [(ae 0)])),alone:=false,tail:=bJ}
def QG(T:Tb):List (Nat×FI):=[(100,qJ T),(101,C5 T),(102,C6 T),(103,C7 T),(104,C8 T),(105,C9 T),(3,f3 T),(5,f5 T),(7,f7 T),(9,f9 T),(10,wH T),(11,wI T),(12,wJ T),(13,wK T),(14,wL T),(15,wM T),(16,C' T),(17,Da T),(18,Db T),(19,uA T),(20,wN T),(21,pD T),(22,Dc T),(23,uB T),(24,zu T)]
noncomputable def Dd(i:Nat):List (Nat×FI)->Option FI
 | []=>none
 | x::l=>match aG x.1 i with|true=>some x.2|false=>Dd i l
def fns(T:Tb)(i:Nat):Option FI:=Dd i (QG T)
def kws(T:Tb)(i:Nat):Option (List Nat×FI):=match aG i 6 with|true=>some ([110,97,103],f6 T)|false=>none
def lmL(T:Tb):List FI:=[l0 T,l1 T,l2 T,l3 T]
def CA(T:Tb)(i:Nat):Option FI:=(lmL T)[i]?
noncomputable def QH:List (List Nat×Nat):=[([108,111,110,103,101,115,116,95,114,117,110,95,111,102,95,115,112,97,99,101,115],101),([105,110,100,101,110,116,95,108,101,118,101,108],102),([101,113,117,97,108],103),([108,101,115,115],104),([110,111,116,95,108,101,115,115,95,119,105,116,110,101,115,115],105)]
noncomputable def De(n:List Nat):List (List Nat×Nat)->Option Nat
 | []=>none
 | x::l=>match bw n x.1 with|true=>some x.2|false=>De n l
def QI(n:List Nat):Option Nat:=De n QH
def D1(T:Tb):Fs:=⟨fns T,CA T,kws T⟩
end Internal.L1
namespace Internal.L1
open Internal Internal.L2 PySem PySem.W PyProof.Rows
noncomputable section
variable (W:Wd)
def Df:Sc:=fW (fM (ay (eS (ay aN 2)) 1)) .none false
theorem QJ:Df.Ok:=Sc.fO (by kernel_rfl)
theorem adk:fP W.C Df (cq (ay (eS (ay aN 2)) 1)) (qJ W.C.T).body:=gq (fe W Df QJ 20 _) (by kernel_rfl)
def Dg:Sc:=fW (fM (ay (eS (ay aN 2)) 2)) .none false
theorem QK:Dg.Ok:=Sc.fO (by kernel_rfl)
theorem adl:fP W.C Dg (cq (ay (eS (ay aN 2)) 2)) (C5 W.C.T).body:=gq (fe W Dg QK 20 _) (by kernel_rfl)
def Dh:Sc:=fW (fM (ay (eS (ay aN 2)) 3)) .none false
theorem QL:Dh.Ok:=Sc.fO (by kernel_rfl)
theorem adm:fP W.C Dh (cq (ay (eS (ay aN 2)) 3)) (C6 W.C.T).body:=gq (fe W Dh QL 20 _) (by kernel_rfl)
def Di:Sc:=fW (fM (ay (eS (ay aN 2)) 4)) .none false
theorem QM:Di.Ok:=Sc.fO (by kernel_rfl)
theorem adn:fP W.C Di (cq (ay (eS (ay aN 2)) 4)) (C7 W.C.T).body:=gq (fe W Di QM 20 _) (by kernel_rfl)
def Dj:Sc:=fW (fM (ay (eS (ay aN 2)) 6)) .none false
theorem QN:Dj.Ok:=Sc.fO (by kernel_rfl)
theorem ado:fP W.C Dj (cq (ay (eS (ay aN 2)) 6)) (C8 W.C.T).body:=gq (fe W Dj QN 20 _) (by kernel_rfl)
def Dk:Sc:=fW (fM (ay (eS (ay aN 2)) 7)) .none false
theorem QO:Dk.Ok:=Sc.fO (by kernel_rfl)
theorem adp:fP W.C Dk (cq (ay (eS (ay aN 2)) 7)) (C9 W.C.T).body:=gq (fe W Dk QO 20 _) (by kernel_rfl)
def Dl:Sc:=fW (fM (ay aN 5)) .none false
theorem QP:Dl.Ok:=Sc.fO (by kernel_rfl)
theorem adq:fP W.C Dl (cq (ay aN 5)) (f3 W.C.T).body:=gq (fe W Dl QP 20 _) (by kernel_rfl)
def Dn:Sc:=fW (fM (ay aN 7)) .none false
theorem QQ:Dn.Ok:=Sc.fO (by kernel_rfl)
theorem adr:fP W.C Dn (cq (ay aN 7)) (f5 W.C.T).body:=gq (fe W Dn QQ 20 _) (by kernel_rfl)
def Do:Sc:=fW (fM (ay aN 9)) .none false
theorem QR:Do.Ok:=Sc.fO (by kernel_rfl)
theorem ads:fP W.C Do (cq (ay aN 9)) (f6 W.C.T).body:=gq (fe W Do QR 20 _) (by kernel_rfl)
def Dq:Sc:=fW (fM (ay aN 10)) .none false
theorem QS:Dq.Ok:=Sc.fO (by kernel_rfl)
theorem adt:fP W.C Dq (cq (ay aN 10)) (f7 W.C.T).body:=gq (fe W Dq QS 20 _) (by kernel_rfl)
def Dr:Sc:=fW (fM (ay aN 12)) .none false
theorem QT:Dr.Ok:=Sc.fO (by kernel_rfl)
theorem adu:fP W.C Dr (cq (ay aN 12)) (f9 W.C.T).body:=gq (fe W Dr QT 20 _) (by kernel_rfl)
def Ds:Sc:=fW (fM (ay aN 13)) .none false
theorem QU:Ds.Ok:=Sc.fO (by kernel_rfl)
theorem adv:fP W.C Ds (cq (ay aN 13)) (wH W.C.T).body:=gq (fe W Ds QU 20 _) (by kernel_rfl)
def Dt:Sc:=fW (fM (ay aN 14)) .none false
theorem QV:Dt.Ok:=Sc.fO (by kernel_rfl)
theorem adw:fP W.C Dt (cq (ay aN 14)) (wI W.C.T).body:=gq (fe W Dt QV 20 _) (by kernel_rfl)
def Du:Sc:=fW (fM (ay aN 15)) .none false
theorem QW:Du.Ok:=Sc.fO (by kernel_rfl)
theorem adx:fP W.C Du (cq (ay aN 15)) (wJ W.C.T).body:=gq (fe W Du QW 20 _) (by kernel_rfl)
def Dv:Sc:=fW (fM (ay aN 16)) .none false
theorem QX:Dv.Ok:=Sc.fO (by kernel_rfl)
theorem ady:fP W.C Dv (cq (ay aN 16)) (wK W.C.T).body:=gq (fe W Dv QX 20 _) (by kernel_rfl)
def Dw:Sc:=fW (fM (ay aN 18)) .none false
theorem QY:Dw.Ok:=Sc.fO (by kernel_rfl)
theorem adz:fP W.C Dw (cq (ay aN 18)) (wL W.C.T).body:=gq (fe W Dw QY 20 _) (by kernel_rfl)
def Dx:Sc:=fW (fM (ay aN 19)) .none false
theorem QZ:Dx.Ok:=Sc.fO (by kernel_rfl)
theorem adA:fP W.C Dx (cq (ay aN 19)) (wM W.C.T).body:=gq (fe W Dx QZ 20 _) (by kernel_rfl)
def qK:Sc:=fW (fM (ay aN 20)) (.ref 227) true
theorem wO:qK.Ok:=Sc.fO (by kernel_rfl)
def Dy:Sc:=fW (fM (ay aN 21)) .none false
theorem Q0:Dy.Ok:=Sc.fO (by kernel_rfl)
theorem adB:fP W.C Dy (cq (ay aN 21)) (Da W.C.T).body:=gq (fe W Dy Q0 20 _) (by kernel_rfl)
def Dz:Sc:=fW (fM (ay aN 22)) .none false
theorem Q1:Dz.Ok:=Sc.fO (by kernel_rfl)
theorem adC:fP W.C Dz (cq (ay aN 22)) (Db W.C.T).body:=gq (fe W Dz Q1 20 _) (by kernel_rfl)
def nj:Sc:=fW (fM (ay aN 23)) (.ref 246) true
theorem pE:nj.Ok:=Sc.fO (by kernel_rfl)
def DA:Sc:=fW (fM (ay aN 24)) .none false
theorem Q2:DA.Ok:=Sc.fO (by kernel_rfl)
theorem adD:fP W.C DA (cq (ay aN 24)) (wN W.C.T).body:=gq (fe W DA Q2 20 _) (by kernel_rfl)
def wP:Sc:=fW (fM (ay aN 25)) .none false
theorem Jm:wP.Ok:=Sc.fO (by kernel_rfl)
theorem adE:fP W.C wP ((cq (ay aN 25)).take 5) (pD W.C.T).body:=gq (fe W wP Jm 20 _) (by kernel_rfl)
theorem adF:fP W.C wP ((cq (ay aN 25)).drop 5) (pD W.C.T).tail:=gq (fe W wP Jm 20 _) (by kernel_rfl)
def DB:Sc:=fW (fM (ay aN 26)) .none false
theorem Q3:DB.Ok:=Sc.fO (by kernel_rfl)
theorem adG:fP W.C DB (cq (ay aN 26)) (Dc W.C.T).body:=gq (fe W DB Q3 20 _) (by kernel_rfl)
def DC:Sc:=fW (fM (ay aN 27)) .none false
theorem Q4:DC.Ok:=Sc.fO (by kernel_rfl)
theorem adH:fP W.C DC (cq (ay aN 27)) (uB W.C.T).body:=gq (fe W DC Q4 20 _) (by kernel_rfl)
def DD:Sc:=fW (fM (ay aN 28)) .none false
theorem Q5:DD.Ok:=Sc.fO (by kernel_rfl)
theorem adI:fP W.C DD (cq (ay aN 28)) (zu W.C.T).body:=gq (fe W DD Q5 20 _) (by kernel_rfl)
end
end Internal.L1
namespace Internal
open PySem PySem.W PyProof.Rows PySem.StrLaws PySem.Builtin PySem.Builtin.Str
section
variable (m z:List Nat)
noncomputable def gR:List Nat->Nat->List Nat
 | [],_=>[]
 | c::r,k=>match k with
  | k+1=>gR r k
  | 0=>match m.isPrefixOf (c::r)with
   | true=>z++gR r (m.length-1)
   | false=>c::gR r 0
noncomputable def jS:List Nat->Nat->Nat->List Nat
 | [],_,_=>[]
 | c::r,i,k=>match k with
  | k+1=>jS r (i+1) k
  | 0=>match m.isPrefixOf (c::r)with
   | true=>i::jS r (i+1) (m.length-1)
   | false=>jS r (i+1) 0
end
theorem adJ{l m:List Nat}{i:Nat}(hi:i+m.length<=l.length):subAt ⟨l.toArray⟩ ⟨m.toArray⟩ i=m.isPrefixOf (l.drop i):=by
 unfold subAt;rw[show(⟨m.toArray⟩:ai).length=m.length from by simp[xS]];rw[ro,aqX];simp only[beq_iff_eq];constructor
 ·intro h;have h:=congrArg aqr h;simp at h;refine bX (h) ?_;exact List.take_prefix _ _
 ·rintro ⟨t,h⟩
  apply vh.mp;simp;refine bX (h) ?_;simp
theorem adK{l m:List Nat}(hm:m≠[]):∀(r:List Nat) (i k:Nat) (found:Array Nat) (free:Nat),l.drop i=r->i+r.length=l.length->free=i+k\/(k=0/\free<=i)->found.size+r.length<=l.length ->
  (forIn (lU i (r.length+1)) (found,free) (occBody ⟨l.toArray⟩ ⟨m.toArray⟩ l.length (l.length+1))).run.fst.toList=found.toList++jS m r i k:=by
 have qG:∀s:List Nat,(⟨s.toArray⟩:ai).length=s.length:=λs=>rfl
 have hm0:=arb.mpr hm;intro r;induction r with
 | nil=>
  intro i k found free hd hi hf hs;rw[show lU i (([]:List Nat).length+1)=[i] from rfl,mD];unfold occBody;rw[if_neg (by rw[qG];intro h;have:=h.1.2;simp at hi;lia)]
  show found.toList=found.toList++[]
  rw[fS]
 | cons c r ih=>
  intro i k found free hd hi hf hs;have ip:l.drop (i+1)=r:=by rw[<-U1,hd];rfl
  have sf:(i+1)+r.length=l.length:=by rw[<-hi,cH];lia
  rw[cH,Av,mD];rw[cH]at hs hi;unfold occBody;have Jn:∀k',free=(i+1)+k'\/(k'=0/\free<=i+1)->(forIn (lU (i+1) (r.length+1)) (found,free) (occBody ⟨l.toArray⟩ ⟨m.toArray⟩ l.length (l.length+1))).run.fst.toList=found.toList++jS m r (i+1) k':=λk' h=>ih (i+1) k' found free ip sf h (by lia)
  induction k with
  | succ k=>
   have vP:=hf.elim id λh=>absurd h.1 (Az _)
   rw[if_neg (by intro h;have:=h.1.1.2;dsimp only at this;lia)];exact Jn k (.inl (by lia))
  | zero=>
   have vP:=hf.elim (λh=>by lia) λh=>h.2
   show _=found.toList++(match m.isPrefixOf (c::r)with|true=>i::jS m r (i+1) (m.length-1)|false=>jS m r (i+1) 0)
   by_cases jG:i+m.length<=l.length
   ·have yd:=adJ (m:=m) jG;rw[hd]at yd;induction hp:m.isPrefixOf (c::r)with
    | true=>
     refine ab (if_pos ⟨⟨⟨by dsimp only;lia,vP⟩,by rw[qG];exact jG⟩,by rw[yd,hp]⟩) ?_
     have:=ih (i+1) (m.length-1) (found.push i) (i+m.length) ip sf (.inl (by lia)) (by rw[Array.size_push];lia)
     rw[UN,gJ]at this;rw[qG];exact this
    | false=>
     refine ab (if_neg (by intro h;rw[yd,hp]at h;exact UO h.2)) ?_;exact Jn 0 (.inr ⟨rfl,by lia⟩)
   ·refine ab (if_neg (by intro h;have:=h.1.2;rw[qG]at this;exact jG this)) ?_;have hp:m.isPrefixOf (c::r)=false:=by
     induction e:m.isPrefixOf (c::r)with
     | false=>rfl
     | true=>
      have:=(aqX.mp e).length_le
      rw[cH]at this
      lia
    refine ab (hp) ?_;exact Jn 0 (.inr ⟨rfl,by lia⟩)
theorem adL{l m:List Nat}(hm:m≠[]):occurrences ⟨l.toArray⟩ ⟨m.toArray⟩ 0 l.length (l.length+1)=jS m l 0 0:=by
 rw[occ_eq]
 have:=adK (l:=l) hm l 0 0 #[] 0 rfl (by simp) (.inl rfl) (by simp)
 rw[arA];simpa using this
theorem Q6(l:List Nat)(a b:Nat):(strSub ⟨l.toArray⟩ a b).cps.toList=(l.take b).drop a:=by
 unfold strSub;simp;exact(aqP ..).symm
theorem adM{l m z:List Nat}(hm:m≠[]):∀(r:List Nat) (i k a:Nat),l.drop i=r->i+r.length=l.length->(a=i+k/\0<k\/k=0/\a<=i) ->
  eZ z ((partsFrom ⟨l.toArray⟩ m.length a (jS m r i k)).map (·.cps.toList))=(l.take i).drop a++gR m z r k:=by
 have hm0:=arb.mpr hm;have one:∀{p:ai} {x:ai} {ps:List ai},eZ z ((p::x::ps).map (·.cps.toList))=p.cps.toList++(z++eZ z ((x::ps).map (·.cps.toList))):=fun{p x ps}=>rfl
 intro r;induction r with
 | nil=>
  intro i k a hd hi ha
  show eZ z [(strSub ⟨l.toArray⟩ a (⟨l.toArray⟩:ai).length).cps.toList]=_
  rw[show(⟨l.toArray⟩:ai).length=l.length from by simp[xS]]
  show(strSub ⟨l.toArray⟩ a l.length).cps.toList=_++[]
  rw[Q6,fS,show i=l.length from hi]
 | cons c r ih=>
  intro i k a hd hi ha;have ip:l.drop (i+1)=r:=by rw[<-U1,hd];rfl
  have sf:(i+1)+r.length=l.length:=by rw[<-hi,cH];lia
  have hc:l.take (i+1)=l.take i++[c]:=by
   have:l[i]?=some c:=by
    have:=congrArg (·[0]?) hd
    simpa[List.getElem?_drop]using this
   rw[List.take_add_one,this];rfl
  have hil:i<l.length:=by rw[<-hi,cH];lia
  have htl:(l.take i).length=i:=by rw[lr];lia
  induction k with
  | succ k=>
   have ha':=ha.elim (λh=>h.1) λh=>absurd h.1 (Az _)
   have e0:(l.take i).drop a=[]:=Fj.mpr (by rw[htl];lia);rw[e0]
   show eZ z ((partsFrom _ _ a (jS m r (i+1) k)).map (·.cps.toList))=[]++gR m z r k
   have:=ih (i+1) k a ip sf (by
    rcases arp k with q|q
    ·exact .inr ⟨q,by lia⟩
    ·exact .inl ⟨by lia,q⟩)
   rw[this,show(l.take (i+1)).drop a=[] from Fj.mpr (by rw[lr];lia)]
  | zero=>
   have ha':=ha.elim (λh=>absurd h.2 (nJ _)) λh=>h.2
   show eZ z ((partsFrom _ _ a (match m.isPrefixOf (c::r)with|true=>i::jS m r (i+1) (m.length-1)|false=>jS m r (i+1) 0)).map (·.cps.toList))=_++(match m.isPrefixOf (c::r)with|true=>z++gR m z r (m.length-1)|false=>c::gR m z r 0)
   induction hp:m.isPrefixOf (c::r)with
   | true=>
    show eZ z ((strSub ⟨l.toArray⟩ a i::partsFrom ⟨l.toArray⟩ m.length (i+m.length) (jS m r (i+1) (m.length-1))).map (·.cps.toList))=_
    have:=ih (i+1) (m.length-1) (i+m.length) ip sf (by
     rcases arp (m.length-1)with q|q
     ·exact .inr ⟨q,by lia⟩
     ·exact .inl ⟨by lia,q⟩)
    rw[show(l.take (i+1)).drop (i+m.length)=[] from Fj.mpr (by rw[lr];lia),tA]at this;refine fL (partsFrom_ne ⟨l.toArray⟩ m.length (i+m.length) (jS m r (i+1) (m.length-1))) λx ps e=>?_
    rw[e]at this ⊢;rw[one,this,Q6]
   | false=>
    rw[ih (i+1) 0 a ip sf (.inr ⟨rfl,by lia⟩),hc,List.drop_append_of_le_length (by lia),gJ];rfl
theorem adN{m z:List Nat}:∀(r:List Nat) (i:Nat),jS m r i 0=[]->gR m z r 0=r:=by
 intro r;induction r with
 | nil=>exactλ_ _=>rfl
 | cons c r ih=>
  intro i h;have h:(match m.isPrefixOf (c::r)with|true=>i::jS m r (i+1) (m.length-1)|false=>jS m r (i+1) 0)=[]:=h
  show(match m.isPrefixOf (c::r)with|true=>z++gR m z r (m.length-1)|false=>c::gR m z r 0)=_
  induction hp:m.isPrefixOf (c::r)with
  | true=>rw[hp]at h;cases h
  | false=>rw[hp]at h;exact congrArg (c::·) (ih (i+1) h)
theorem adO(l:List Nat){m:List Nat}(hm:m≠[])(z:List Nat):rR l (m,z)=gR m z l 0:=by
 show(AB ⟨l.toArray⟩ ⟨m.toArray⟩ ⟨z.toArray⟩).cps.toList=_
 have hl:(⟨l.toArray⟩:ai).length=l.length:=by simp[xS]
 have qG:(⟨m.toArray⟩:ai).length=m.length:=by simp[xS]
 unfold AB;refine ab (hl) ?_;refine ab (adL hm) ?_;refine ab (qG) ?_
 have:(m.length==0)=false:=beq_eq_false_iff_ne.mpr λq=>hm (U2 q)
 rw[this,aqt,Bool.or_false];induction e:(jS m l 0 0).isEmpty with
 | true=>
  rw[if_pos rfl];rw[adN l 0 (lR.mp e)]
 | false=>
  rw[if_neg (by decide),glued_eq_join,partsBetween_eq,BY]
  have:=adM (l:=l) (z:=z) hm l 0 0 0 rfl (by simp) (.inr ⟨rfl,dr _⟩)
  rw[List.take_zero]at this;simpa using this
end Internal
namespace Internal.L1
open Internal
abbrev Ev(c:Cd)(K:bb)(fr:Fr)(st:St)(v:V):Prop:=c K fr st=some (v,st)
abbrev Tv(t:Ct)(K:bb)(fr:Fr)(st:St)(b:Bool):Prop:=t K fr st=some (b,st)
abbrev Es(cs:List Cd)(K:bb)(fr:Fr)(st:St)(vs:List V):Prop:=gl K fr cs st=some (vs,st)
abbrev Iv(i:Ci)(K:bb)(fr:Fr)(st:St)(s:Src):Prop:=i K fr st=some (s,st)
abbrev Sv(c:Cs)(K:bb)(fr:Fr)(st:St)(aw:Fr)(am:St):Prop:=c K fr st=some (.next,aw,am)
section
variable {T:Tb}{K:bb}{fr aw wB:Fr}{st am A9:St}{a b c d f o:Cd}{u v w r:V}{x y:Int}{cs:List Cd}{vs:List V}
theorem bz{α γ:Type}{m:Option (α×St)}{k:α->St->Option γ}{z:α}(h:m=some (z,st)):bk m k=k z st:=by subst h;rfl
theorem bx{α γ:Type}{m:Option α}{k:α->Option γ}{z:α}(h:m=some z):af m k=k z:=by subst h;rfl
theorem fQ{α β γ:Type}{m:Option (α×β×St)}{k:α->β->St->Option γ}{z:α}{y:β}(h:m=some (z,y,st)):eV m k=k z y st:=by subst h;rfl
theorem jT{m:Option V}(h:m=some v):eB m st=some (v,st):=by subst h;rfl
theorem ba{i:Nat}(h:fr.L[i]?=some (some v)):Ev (ae i) K fr st v:=(bx h).trans rfl
theorem aV{i:Nat}(h:fr.C[i]?=some (some v)):Ev (aq i) K fr st v:=(bx h).trans rfl
theorem cR(ha:Ev a K fr st u)(hb:Ev b K fr st v)(h:nR T u v st=some w):Ev (aJ T a b) K fr st w:=(bz ha).trans ((bz hb).trans (jT h))
theorem d6{op:jH}(ha:Ev a K fr st u)(hb:Ev b K fr st v)(h:mT op u v st=some w):Ev (aK op a b) K fr st w:=(bz ha).trans ((bz hb).trans (jT h))
theorem uC:Es [] K fr st []:=rfl
theorem hZ(ha:Ev a K fr st u)(h:Es cs K fr st vs):Es (a::cs) K fr st (u::vs):=(bz ha).trans ((bz h).trans rfl)
theorem iM(ha:Ev a K fr st u):Es [a] K fr st [u]:=hZ ha uC
theorem gS(ha:Ev a K fr st u)(hb:Ev b K fr st v):Es [a,b] K fr st [u,v]:=hZ ha (iM hb)
theorem jx(hf:Ev f K fr st u)(h:Es cs K fr st vs)(hk:vJ K u vs st=some (r,st)):Ev (du f cs) K fr st r:=(bz hf).trans ((bz h).trans hk)
theorem uD{n:List Nat}{q:Option V}(ho:Ev o K fr st u)(hr:yv T n u st=some q)(h:Es cs K fr st vs)(hm:GN T K q u n vs st=some (r,st)):Ev (bG T o n cs) K fr st r:=(bz ho).trans ((bx hr).trans ((bz h).trans hm))
theorem uE{i:Bi}(ha:Ev a K fr st u)(h:yl T i u st=some w):Ev (eJ T i a) K fr st w:=(bz ha).trans (jT h)
theorem Jo{i:Bi}(ha:Ev a K fr st u)(hb:Ev b K fr st v)(h:ym i u v=some w):Ev (nX i a b) K fr st w:=(bz ha).trans ((bz hb).trans (jT h))
theorem adP(h:Es cs K fr st vs)(hl:vG vs=some w):Ev (bI cs) K fr st w:=(bz h).trans (jT hl)
theorem nk(h:Es cs K fr st vs)(hl:dZ vs=true):Ev (bI cs) K fr st (.tup vs):=adP h (by show(match dZ vs with|true=>some (V.tup vs)|false=>none)=_;exact ab (hl) rfl)
theorem zv(h:Es cs K fr st vs)(hl:dZ vs=true):Ev (dn false cs) K fr st (.fl vs):=(bz h).trans (by show(match dZ vs with|true=>some (V.fl vs,st)|false=>none)=_;exact ab (hl) rfl)
theorem j8{op:lB}{z:Bool}(ha:Ev a K fr st u)(hb:Ev b K fr st v)(h:rI T op u v st=some z):Tv (bq T op a b) K fr st z:=(bz ha).trans ((bz hb).trans (by rw[h];rfl))
theorem DE{t:Ct}{z:Bool}(h:Tv t K fr st z):Ev (nU t) K fr st (.bool z):=(bz h).trans rfl
theorem DF{t:Ct}(h:Tv t K fr st true)(ha:Ev a K fr st u):Ev (jp t a b) K fr st u:=(bz h).trans ha
theorem Jp{t:Ct}(h:Tv t K fr st false)(hb:Ev b K fr st u):Ev (jp t a b) K fr st u:=(bz h).trans hb
theorem adQ(ha:Ev a K fr st u)(hb:Ev b K fr st v)(h:iX u (some v) none st=some w):Ev (fC a (some b) none) K fr st w:=(bz ha).trans ((bz (z:=some v) ((bz hb).trans rfl)).trans (jT h))
theorem Jq(ha:Ev a K fr st u)(hb:Ev b K fr st v)(h:iX u none (some v) st=some w):Ev (fC a none (some b)) K fr st w:=(bz ha).trans ((bz (z:=some v) ((bz hb).trans rfl)).trans (jT h))
theorem Q7(ha:Ev a K fr st u)(hb:Ev b K fr st v)(hc:Ev c K fr st r)(h:iX u (some v) (some r) st=some w):Ev (fC a (some b) (some c)) K fr st w:=(bz ha).trans ((bz (z:=some v) ((bz hb).trans rfl)).trans ((bz (z:=some r) ((bz hc).trans rfl)).trans (jT h)))
theorem uF(h0:0<=x)(h1:x<1000000000000000000):j4 x=some (.int x):=by
 refine xE (UY h0) λn e=>?_;subst e
 show(match aH n _ with|true=>some (V.int n)|false=>none)=_
 have:aH n 1606938044258990275541962092341162602522202993782792835301376=true:=cZ (by lia)
 exact ab (this) rfl
theorem wQ(h0:0<=x)(h1:x<1000000000000000000):kS x=true:=by
 have:=uF h0 h1
 unfold j4 at this;induction q:kS x with
 | true=>rfl
 | false=>rw[q]at this;exact au this
theorem DG(h0:0<=x+y)(h1:x+y<1000000000000000000):mT .add (.int x) (.int y) st=some (.int (x+y)):=uF h0 h1
theorem adR(h0:0<=x)(h1:x<1000000000)(h2:0<=y)(h3:y<1000000000):mT .mul (.int x) (.int y) st=some (.int (x*y)):=by
 have:x*y<1000000000*1000000000:=LD (Int.mul_le_mul_of_nonneg_left (nG h3) h0) (Int.mul_lt_mul_of_pos_right h1 (by decide))
 refine dI ?_ (uF (Int.mul_nonneg h0 h2) this);rw[wQ h0 (by lia),wQ h2 (by lia)];rfl
theorem Q8(h0:0<y):nz y=true:=by
 refine xE (UY (nG h0)) λn e=>?_;subst e
 induction n with
 | zero=>exact absurd h0 (by decide)
 | succ n=>rfl
theorem qL(h0:0<y)(h1:y<1000000000000000000):mT .mod (.int x) (.int y) st=some (.int (x%y)):=
 dI (by rw[Q8 h0,wQ (nG h0) h1];rfl) (by rw[Int.fmod_eq_emod_of_nonneg _ (nG h0)])
theorem DH(hx:0<=x)(hx1:x<1000000000000000000)(h0:0<y)(h1:y<1000000000000000000):mT .fdiv (.int x) (.int y) st=some (.int (x/y)):=
 dI (by rw[Q8 h0,wQ (nG h0) h1];rfl) (by
  rw[Int.fdiv_eq_ediv_of_nonneg _ (nG h0)];exact uF (Int.ediv_nonneg hx (nG h0)) (LD (Int.ediv_le_self _ hx) hx1))
theorem Q9{n:Nat}(h:n<55296\/57344<=n/\n<1114112):yl T .chr (.int n) st=some (.str [.c n]):=by
 refine dI ?_ rfl;rcases h with h|⟨h1,h2⟩
 ·rw[show aH n 0xD800=true from cZ h];rfl
 ·rw[show fT 0xE000 n=true from cZ h1,show aH n 0x110000=true from cZ h2];exact Bool.or_true _
theorem zw{p q:Tx}(h:p.length+q.length<4000):mT .add (.str p) (.str q) st=some (.str (p++q)):=by
 show mS (p++q)=_
 unfold mS lC;exact ab (show aH (p++q).length 4000=true from cZ (by exact ab (cS) h)) rfl
theorem ff{s:Src}(ha:Ev a K fr st u)(h:GI st u=some s):Iv (ce a) K fr st s:=(bz ha).trans (by rw[h];rfl)
theorem zx{s:Src}(ha:Ev a K fr st u)(h:vI (.int 0) u=some s):Iv (dT a) K fr st s:=(bz ha).trans (by rw[h];rfl)
theorem Jr{s:Src}(ha:Ev a K fr st u)(hb:Ev b K fr st v)(h:vI u v=some s):Iv (nW a b) K fr st s:=(bz ha).trans ((bz hb).trans (by rw[h];rfl))
def sF(g:Cg)(K:bb)(fr:Fr)(st:St)(l:List V):Prop:=∀aO:List V,dZ aO=true->g K aO fr st=some (l.reverse++aO,fr,st)
theorem DI(h:Ev c K fr st v):sF (bE c) K fr st [v]:=λaO ha=>(bz h).trans (by refine ab (ha) ?_;rfl)
theorem adS{t:Ct}{g:Cg}{l:List V}(h:Tv t K fr st true)(hg:sF g K fr st l):sF (jq t g) K fr st l:=λaO ha=>(bz h).trans (hg aO ha)
theorem adT{t:Ct}{g:Cg}(h:Tv t K fr st false):sF (jq t g) K fr st []:=λaO ha=>(bz h).trans rfl
theorem uG{t:Ct}{z:Bool}(h:Tv t K fr st z)(hc:Ev c K fr st v):sF (jq t (bE c)) K fr st (if z then [v]else []):=by
 induction z with
 | true=>exact adS h (DI hc)
 | false=>exact adT h
theorem j9{l:List V}(h:l.length<4000):dZ l=true:=cZ h
theorem Js{α:Type}{t:Tg}{g:Cg}(G:α->V)(F:α->Fr)(P:Fr->Prop)(f:α->List V)(hf:∀v,(f v).length<=1):∀(ks:List α),(∀k∈ks,P (F k)/\(∀fr,P fr->pp (G k) t fr st=some (F k))/\sF g K (F k) st (f k))->∀(aO:List V) (fr:Fr),aO.length+ks.length<4000->P fr ->
  ∃aw,qg K t g (ks.map G) aO fr st=some ((ks.flatMap f).reverse++aO,aw,st):=by
 intro ks;induction ks with
 | nil=>exactλ_ aO fr _ _=>⟨fr,rfl⟩
 | cons v vs ih=>
  intro h aO fr hl hp;refine bP (h v bT) λh1 h2 h3=>?_
  have uc:=lW (mG _ _) hl;refine xE (ih (λw hw=>h w (bL _ hw)) ((f v).reverse++aO) (F v) ?_ h1) λaw e=>⟨aw,?_⟩
  ·have:=hf v
   rw[cS,xK];rw[cH]at hl
   lia
  ·refine(bx (h2 fr hp)).trans ((fQ (h3 aO (j9 uc))).trans (e.trans ?_));rw[j0,List.reverse_append,gJ]
theorem Jt{t:Tg}{i:Ci}{g:Cg}{nl nc:Nat}{free:List Nat}{l:List V}{C:List (Option V)}{bc:Fr}(hi:Iv i K fr st (.vals vs))(hp:nS fr.C free=some C)(h:qg K t g vs [] ⟨fN nl,fN nc++C⟩ st=some (l.reverse++[],bc,st))(hl:l.length<4000) :
  Ev (bR false t i g nl nc free) K fr st (.fl l):=by
 refine(bz hi).trans ((bx hp).trans ((fQ h).trans ?_));rw[y9,fS,fS,List.reverse_reverse]
 show(match dZ l with|true=>some (V.fl l,st)|false=>none)=_
 rw[j9 hl]
theorem Ju{α:Type}{f:α->List V}(hf:∀v,(f v).length<=1)(l:List α):(l.flatMap f).length<=l.length:=by
 induction l with
 | nil=>exact dr _
 | cons v l ih=>rw[j0,cS,cH];have:=hf v;lia
variable {α:Type}{ks:List α}{G:α->V}
theorem sG{i:Ci}{g:Cg}{free:List Nat}{C:List (Option V)}{f:α->List V}(hf:∀v,(f v).length<=1)(hi:Iv i K fr st (.vals (ks.map G)))(hp:nS fr.C free=some C)(hl:ks.length<1000)(h:∀k∈ks,sF g K ⟨[none,some (G k)],C⟩ st (f k)) :
  Ev (bR false (.loc 1) i g 2 0 free) K fr st (.fl (ks.flatMap f)):=by
 refine xE (Js (t:=.loc 1) (g:=g) G (λk=>⟨[none,some (G k)],C⟩) (λfr=>∃o,fr=⟨[none,o],C⟩) f hf ks (λv hv=>⟨⟨_,rfl⟩,λfr y=>xE y λo e=>by subst e;rfl,h v hv⟩) [] ⟨[none,none],C⟩ (by simp;lia) ⟨none,rfl⟩) λbc e=>Jt hi hp e (by have:=Ju hf ks;lia)
theorem adU{i:Ci}{g:Cg}{free:List Nat}{C:List (Option V)}{f:α->List V}(hf:∀v,(f v).length<=1)(hi:Iv i K fr st (.vals (ks.map G)))(hp:nS fr.C free=some C)(hl:ks.length<1000)(h:∀k∈ks,sF g K ⟨[none],some (G k)::C⟩ st (f k)) :
  Ev (bR false (.bi 0) i g 1 1 free) K fr st (.fl (ks.flatMap f)):=by
 refine xE (Js (t:=.bi 0) (g:=g) G (λk=>⟨[none],some (G k)::C⟩) (λfr=>∃o,fr=⟨[none],o::C⟩) f hf ks (λv hv=>⟨⟨_,rfl⟩,λfr y=>xE y λo e=>by subst e;rfl,h v hv⟩) [] ⟨[none],none::C⟩ (by simp;lia) ⟨none,rfl⟩) λbc e=>Jt hi hp e (by have:=Ju hf ks;lia)
theorem Jv(f:α->V)(l:List α):l.flatMap (λv=>[f v])=l.map f:=by
 induction l with
 | nil=>rfl
 | cons v l ih=>rw[j0,ih];rfl
theorem jc{i:Ci}{free:List Nat}{C:List (Option V)}{f:α->V}(hi:Iv i K fr st (.vals (ks.map G)))(hp:nS fr.C free=some C)(hl:ks.length<1000)(h:∀k∈ks,Ev c K ⟨[none,some (G k)],C⟩ st (f k)):Ev (bR false (.loc 1) i (bE c) 2 0 free) K fr st (.fl (ks.map f)):=
 Jv f ks▸sG (f:=λv=>[f v]) (λ_=>dr _) hi hp hl λv hv=>DI (h v hv)
theorem iO{i:Ci}{free:List Nat}{C:List (Option V)}{f:α->V}(hi:Iv i K fr st (.vals (ks.map G)))(hp:nS fr.C free=some C)(hl:ks.length<1000)(h:∀k∈ks,Ev c K ⟨[none],some (G k)::C⟩ st (f k)):Ev (bR false (.bi 0) i (bE c) 1 1 free) K fr st (.fl (ks.map f)):=
 Jv f ks▸adU (f:=λv=>[f v]) (λ_=>dr _) hi hp hl λv hv=>DI (h v hv)
abbrev lsN(n:Nat)(G:Nat->V):List V:=(aD n).map G
theorem adV(n:Nat):∀a:Int,qf n a=lsN n λk=>.int (a+k):=by
 induction n with
 | zero=>exactλ_=>rfl
 | succ n ih=>
  intro a
  show V.int a::qf n (a+1)=(aD (n+1)).map _
  rw[ih,ark,jE,kO];refine congr (congrArg mC (congrArg V.int (aqI a).symm)) (Fn λk _=>?_);rw[aqH,Int.add_comm 1];rfl
theorem Ra{n:Nat}(hn:n<1000):vI (.int 0) (.int n)=some (.vals (lsN n λk=>.int k)):=by
 show bv (yu 0&&yu (aZ n)&&aH (jK ((n:Int)-0)) 4000) (some (Src.vals (qf (jK ((n:Int)-0)) 0)))=_
 rw[Int.sub_zero];refine dI ?_ (congrArg (λl=>some (Src.vals l)) ((adV n 0).trans (Fn λk _=>by rw[Int.zero_add])))
 show(true&&aH n 1000000&&aH n 4000)=true
 rw[show aH n 1000000=true from cZ (by lia),show aH n 4000=true from cZ (by lia)];rfl
theorem adW{n k:Nat}{G:Nat->V}(h:k<n):(lsN n G)[k]?=some (G k):=by simp[lsN,h]
theorem gz{n k:Nat}{G:Nat->V}(hk:k<n)(hn:n<4000):nR T (.fl (lsN n G)) (.int k) st=some (G k):=by
 show af (bv (aH k 4000) (some k)) (λj=>(lsN n G)[j]?)=_
 refine ab (show aH k 4000=true from cZ (by lia)) ?_;exact adW hk
variable {p q:Cs}
theorem dS(h:Sv p K fr st aw am):aE p q K fr st=q K aw am:=fQ h
theorem adX(h:Sv p K fr st aw am)(h2:Sv q K aw am wB A9):Sv (aE p q) K fr st wB A9:=(dS h).trans h2
theorem fE{t:Tg}(h:Ev c K fr st v)(hb:pp v t fr st=some aw):Sv (aP t c) K fr st aw st:=(bz h).trans (by rw[hb];rfl)
theorem wR{t:Ct}(h:Tv t K fr st true):dy t p q K fr st=p K fr st:=(bz h).trans rfl
theorem qM{t:Ct}(h:Tv t K fr st false):dy t p q K fr st=q K fr st:=(bz h).trans rfl
theorem uH(h:Ev c K fr st v):dq c K fr st=some (.ret v,fr,st):=bz h
end
end Internal.L1
namespace Internal.L1
open Internal Internal.L2
noncomputable def gA:List Nat:=[173,847,6150,6155,6156,6157,8203,8204,8205,8288,65024,65025,65026,65027,65028,65029,65030,65031,65032,65033,65034,65035,65036,65037,65038,65039,65279]
def sz(a b:At):Bool:=match a with|.c m=>(match b with|.c n=>cX (aG m n)|_=>false)|_=>false
def Jw(n:List Nat):Option Tx:=match bw n [83]with|true=>some [.c 32]|false=>(match bw n [84]with|true=>some [.c 9]|false=>none)
noncomputable def Jx:List (List Nat):=[[114,97,119],[110],[110,116],[110,111,114,109],[105,115,95,115,105,109,112,108,101],[116,97,103],[97,116,116,114,105,98],[119,105,116,104,105,110],[97,112,112,101,110,100],[109,97,107,101,101,108,101,109,101,110,116],[105,116,101,114,116,101,120,116],[116,97,105,108]]
noncomputable def zy(n:List Nat):List (List Nat)->Bool
 | []=>false
 | x::l=>match bw n x with|true=>true|false=>zy n l
noncomputable section
def T1(θ:Th):Tb:={l9:=QI,vD:=Jw,mR:=λn=>zy n Jx,cls:=1,init:=100,b1:=λi=>(match i with|.ofNat n=>gO n gA|_=>false),b3:=λi=>(match i with|.ofNat n=>yf n Hd.WR|_=>none),ne:=sz,AZ:=λ_ _=>false,lt:=λx y=>PySem.Spec.ltCps (den θ x) (den θ y)}
noncomputable def Jy(doc:List V->Option V):vO:=λf vs=>match f with
 | .bh g=>(match aG g 19 with|true=>doc vs|false=>none)
 | _=>none
abbrev KA(θ:Th)(doc:List V->Option V):Nat->bb:=call (T1 θ) (D1 (T1 θ)) (Jy doc)
end
structure Dat where
 lead:Nat->List Nat
 l:Nat->Nat
 s:Nat->Nat
 u:Nat->Nat
 pg:Nat
noncomputable def zz:Nat->List (List Nat)
 | 0=>[[]]
 | n+1=>(zz n).flatMap λw=>[32::w,9::w]
def fF:List (List Nat):=[[]]++(zz 1++(zz 2++(zz 3++zz 4)))
noncomputable def SG:List Nat:=[38,60,62,34,13,10,9]
structure Good(d:Dat):Prop where
 lead:∀x,x<5->d.lead x∈fF
 l:∀x,x<5->d.l x<26
 ne:∀x y,x<5->y<5->d.l x=d.l y->x=y
 s:∀x,x<5->d.s x∈SG
 u:∀x,x<5->d.u x∈gA
 pg:d.pg<1000000000000
def dg(d:Dat)(x:Nat):V:=.tup [.str (ao (d.lead x)),.int (d.l x),.str [.c (d.s x)],.str [.c (d.u x)]]
noncomputable def dM(i:Nat):Nat:=[119808,119860,119912,120016,120172,120224,120276,120328,120380,120432,97,65].getD i 0
def uI(l:Nat)(m u:Tx)(k:Nat):Tx:=match(k+l)%4 with
 | 0=>.c (dM (k%12)+l)::m
 | 1=>u++.c (dM (k%12)+l)::m
 | 2=>.c (dM (k%12)+l)::(u++m)
 | _=>.c (dM (k%12)+l)::(m++u)
def fG(l:Nat)(m u:List Nat)(k:Nat):List Nat:=match(k+l)%4 with
 | 0=>(dM (k%12)+l)::m
 | 1=>u++(dM (k%12)+l)::m
 | 2=>(dM (k%12)+l)::(u++m)
 | _=>(dM (k%12)+l)::(m++u)
theorem qO(a b:List Nat):ao (a++b)=ao a++ao b:=by
 induction a with
 | nil=>rfl
 | cons x a ih=>exact congrArg (At.c x::·) ih
theorem Jz(l:Nat)(m u:List Nat)(k:Nat):uI l (ao m) (ao u) k=ao (fG l m u k):=by
 unfold uI fG;split
 ·rfl
 ·rw[qO];rfl
 ·show _=At.c _::ao (u++m);rw[qO]
 ·show _=At.c _::ao (m++u);rw[qO]
section
variable {θ:Th}{T:Tb}{K:bb}{st:St}
theorem cV{α β:Type}{f g:α->β}{l:List α}(h:l.map f=l.map g){x:α}(hx:x∈l):f x=g x:=List.map_inj_left.mp h x hx
noncomputable def hY(r k:V)(a b c e:Option V):Fr:=⟨[some r,some k,a,b,c,e],[]⟩
theorem adY:(fun(T:Tb) (K:bb) (r k:V) (b:Option V) (st:St)=>(aD 12).map λi=>CU T K (hY r k (some (.int (aZ i))) b none none) st)=λT K r k b st=>(aD 12).map λi=>some (.int (aZ (dM i)),st):=by kernel_rfl
theorem adZ:∀i,i<12->dM i<120440:=by decide
theorem aea:∀i,i<12->dM i+26<1000\/100000<dM i:=by decide
noncomputable def zA(i:Nat)(x:At)(m u:Tx):Tx:=match i with
 | 0=>x::m
 | 1=>u++(x::m)
 | 2=>x::(u++m)
 | _=>x::(m++u)
theorem DJ{x:Tx}(h:x.length<4000):mS x=some (.str x):=by
 unfold mS lC;exact ab (show aH x.length 4000=true from cZ h) rfl
theorem aeb{l:List V}{x:Tx}(h:rK [] l=some x)(hl:dZ l=true)(hx:x.length<4000):tT [] l=some (.str x):=dI (by rw[hl];rfl) ((bx h).trans (DJ hx))
noncomputable def Rd(i:Nat)(x y u:V):List V:=match i with|1=>[u,x,y]|2=>[x,u,y]|_=>[x,y,u]
theorem aec:(fun(T:Tb) (K:bb) (a b:V) (l:V) (k:V) (o c:Option V) (x y u:V)=>[1,2,3].map λi=>jM (bG T (ae 5) [105,110,115,101,114,116] [(aK .sub (ae 3) (aj 1)),(aJ T (ae 0) (aj 3))]) K (hY (.tup [a,l,b,u]) k o (some (.int (aZ i))) c (some (.loc 0))) ⟨[.list [x,y]],1⟩) =
  λT K a b l k o c x y u=>[1,2,3].map λi=>some (.next,hY (.tup [a,l,b,u]) k o (some (.int (aZ i))) c (some (.loc 0)),⟨[.list (Rd i x y u)],1⟩):=by kernel_rfl
theorem Re{l:List V}{r:Fr}(h5:r.L[5]?=some (some (.loc 0))){x:Tx}(h:rK [] l=some x)(hl:dZ l=true)(hx:x.length<4000):dq (bG T (aX []) [106,111,105,110] [(ae 5)]) K r ⟨[.list l],1⟩=some (.ret (.str x),r,⟨[.list l],1⟩):=
 uH (uD (q:=none) (u:=.str []) rfl rfl (iM (ba h5)) (by
  exact jT (aeb h hl hx)))
theorem aed{a b:V}{o c:Option V}{l:Int}{x:At}{m u:Tx}{kk:V}(hm:m.length<1000)(hu:u.length<1000):∀i,i<4->∃fr am,CV T K (hY (.tup [a,.int l,b,.str u]) kk o (some (.int (aZ i))) c (some (.loc 0))) ⟨[.list [.str [x],.str m]],1⟩=some (.ret (.str (zA i x m u)),fr,am):=by
 intro i hi;have h3:∀i∈[1,2,3],_:=λi hi=>cV (congrFun (congrFun (congrFun (congrFun (congrFun (congrFun (congrFun (congrFun (congrFun (congrFun (congrFun aec T) K) a) b) (.int l)) kk) o) c) (.str [x])) (.str m)) (.str u)) hi
 have go:∀i∈[1,2,3],∀{ls:List V} {y:Tx},Rd i (.str [x]) (.str m) (.str u)=ls->rK [] ls=some y->dZ ls=true->y.length<4000->∃fr am,CV T K (hY (.tup [a,.int l,b,.str u]) kk o (some (.int (aZ i))) c (some (.loc 0))) ⟨[.list [.str [x],.str m]],1⟩=some (.ret (.str y),fr,am):=by
  intro i hi ls y e hc hl hy;have hs:=h3 i hi;have ht:Tv (bq T .gt (ae 3) (aj 0)) K (hY (.tup [a,.int l,b,.str u]) kk o (some (.int (aZ i))) c (some (.loc 0))) ⟨[.list [.str [x],.str m]],1⟩ true:=
   j8 (ba rfl) rfl (by show some (decide ((0:Int)<aZ i))=_;rw[decide_eq_true];simp at hi;rcases hi with q|q|q<;>subst q<;>decide)
  rw[e]at hs;exact gK _ _ ((fQ ((wR ht).trans hs)).trans (Re rfl hc hl hy))
 rcases(by lia:i=0\/i=1\/i=2\/i=3)with q|q|q|q<;>subst q
 ·have ht:Tv (bq T .gt (ae 3) (aj 0)) K (hY (.tup [a,.int l,b,.str u]) kk o (some (.int (aZ 0))) c (some (.loc 0))) ⟨[.list [.str [x],.str m]],1⟩ false:=j8 (ba rfl) rfl rfl;have h0:Sv (dy (bq T .gt (ae 3) (aj 0)) (jM (bG T (ae 5) [105,110,115,101,114,116] [(aK .sub (ae 3) (aj 1)),(aJ T (ae 0) (aj 3))])) bJ) K (hY (.tup [a,.int l,b,.str u]) kk o (some (.int (aZ 0))) c (some (.loc 0))) ⟨[.list [.str [x],.str m]],1⟩ (hY (.tup [a,.int l,b,.str u]) kk o (some (.int (aZ 0))) c (some (.loc 0))) ⟨[.list [.str [x],.str m]],1⟩:=(qM ht).trans rfl;exact gK _ _ ((dS h0).trans (Re (x:=x::m) rfl rfl rfl (by rw[cH];lia)))
 ·exact go 1 (by decide) rfl rfl rfl (by simp[zA];lia)
 ·exact go 2 (by decide) rfl rfl rfl (by simp[zA];lia)
 ·exact go 3 (by decide) rfl rfl rfl (by simp[zA];lia)
theorem aee(l:Nat)(m u:Tx)(k:Nat):zA ((k+l)%4) (.c (dM (k%12)+l)) m u=uI l m u k:=by
 rfl
theorem aef(T:Tb):(wM T).body=aE (oy [(.loc 3),(.loc 2)] (bI [(aK .mod (ae 1) (aj 12)),(aK .mod (aK .add (ae 1) (aJ T (ae 0) (aj 1))) (aj 4))]))
  (aE (aP (.loc 4) (CU T)) (aE (aP (.loc 5) (dn true [(eJ T .chr (aK .add (ae 4) (aJ T (ae 0) (aj 1)))),(aJ T (ae 0) (aj 2))])) (CV T))):=by kernel_rfl
theorem Rf{K:bb}{fr aw:Fr}{st:St}{a b:Cd}{u v:V}{i j:Nat}(ha:Ev a K fr st u)(hb:Ev b K fr st v)(h:iH [v,u] [.loc i,.loc j] fr=some aw):Sv (oy [.loc i,.loc j] (bI [a,b])) K fr st aw st:=
 (bz (nk (gS ha hb) rfl)).trans ((bx (z:=[u,v]) rfl).trans (by refine ab (h) ?_;rfl))
theorem aeg{a:V}{l k:Nat}{m u:Tx}(hl:l<26)(hk:k<100000000000000)(hm:m.length<1000)(hu:u.length<1000):∃fr am,(wM T).body K (hY (.tup [a,.int l,.str m,.str u]) (.int k) none none none none) dm=some (.ret (.str (uI l m u k)),fr,am):=by
 have hd:k%12<12:=lX _ (by decide);have hb:=adZ _ hd;have hg:=aea _ hd;have s1:Sv (oy [(.loc 3),(.loc 2)] (bI [(aK .mod (ae 1) (aj 12)),(aK .mod (aK .add (ae 1) (aJ T (ae 0) (aj 1))) (aj 4))])) K (hY (.tup [a,.int l,.str m,.str u]) (.int k) none none none none) dm (hY (.tup [a,.int l,.str m,.str u]) (.int k) (some (.int (aZ (k%12)))) (some (.int (aZ ((k+l)%4)))) none none) dm:=
  Rf (d6 (ba rfl) rfl (qL (by decide) (by decide))) (d6 (d6 (ba rfl) (cR (ba rfl) rfl rfl) (DG (x:=(k:Int)) (y:=(l:Int)) (by lia) (by lia))) rfl (qL (by decide) (by decide))) rfl
 have hbg:Ev (CU T) K (hY (.tup [a,.int l,.str m,.str u]) (.int k) (some (.int (aZ (k%12)))) (some (.int (aZ ((k+l)%4)))) none none) dm (.int (aZ (dM (k%12)))):=
  cV (congrFun (congrFun (congrFun (congrFun (congrFun (congrFun adY T) K) _) _) _) _) (eR.mpr hd)
 have s2:=fE (t:=.loc 4) (aw:=hY (.tup [a,.int l,.str m,.str u]) (.int k) (some (.int (aZ (k%12)))) (some (.int (aZ ((k+l)%4)))) (some (.int (aZ (dM (k%12))))) none) hbg rfl;have hch:Ev (eJ T .chr (aK .add (ae 4) (aJ T (ae 0) (aj 1)))) K (hY (.tup [a,.int l,.str m,.str u]) (.int k) (some (.int (aZ (k%12)))) (some (.int (aZ ((k+l)%4)))) (some (.int (aZ (dM (k%12))))) none) dm (.str [.c (dM (k%12)+l)]):=
  uE (d6 (w:=.int ((dM (k%12)+l:Nat):Int)) (ba rfl) (cR (ba rfl) rfl rfl) (DG (x:=((dM (k%12):Nat):Int)) (y:=(l:Int)) (by lia) (by lia))) (Q9 (by lia))
 have s3:aP (.loc 5) (dn true [(eJ T .chr (aK .add (ae 4) (aJ T (ae 0) (aj 1)))),(aJ T (ae 0) (aj 2))]) K (hY (.tup [a,.int l,.str m,.str u]) (.int k) (some (.int (aZ (k%12)))) (some (.int (aZ ((k+l)%4)))) (some (.int (aZ (dM (k%12))))) none) dm =
   some (.next,hY (.tup [a,.int l,.str m,.str u]) (.int k) (some (.int (aZ (k%12)))) (some (.int (aZ ((k+l)%4)))) (some (.int (aZ (dM (k%12))))) (some (.loc 0)),⟨[.list [.str [.c (dM (k%12)+l)],.str m]],1⟩):=by
  have:dn true [(eJ T .chr (aK .add (ae 4) (aJ T (ae 0) (aj 1)))),(aJ T (ae 0) (aj 2))] K (hY (.tup [a,.int l,.str m,.str u]) (.int k) (some (.int (aZ (k%12)))) (some (.int (aZ ((k+l)%4)))) (some (.int (aZ (dM (k%12))))) none) dm=some (.loc 0,⟨[.list [.str [.c (dM (k%12)+l)],.str m]],1⟩):=
   (bz (gS hch (cR (ba rfl) rfl rfl))).trans rfl
  exact(bz this).trans rfl
 rw[aef];refine fL (aed (T:=T) (K:=K) (a:=a) (b:=.str m) (o:=some (.int (aZ (k%12)))) (c:=some (.int (aZ (dM (k%12))))) (l:=(l:Int)) (x:=.c (dM (k%12)+l)) (kk:=.int k) hm hu ((k+l)%4) (lX _ (by decide))) λfr am e=>⟨fr,am,?_⟩
 rw[aee]at e;exact(dS s1).trans ((dS s2).trans ((fQ s3).trans e))
theorem JA{doc:List V->Option V}{n:Nat}{a:V}{l k:Nat}{m u:Tx}(ha:bY 11 a=true)(hl:l<26)(hk:k<100000000000000)(hm:m.length<1000)(hu:u.length<1000):KA θ doc (n+1) (.bh 15) [.tup [a,.int l,.str m,.str u],.int k] st=some (.str (uI l m u k),st):=by
 refine dI (by show((bY 11 a&&true)&&true)=true;refine ab (ha) ?_;rfl) ?_;refine fL (aeg (T:=T1 θ) (K:=KA θ doc n) (a:=a) hl hk hm hu) λfr am e=>?_
 refine(bx (z:=hY (.tup [a,.int l,.str m,.str u]) (.int k) none none none none) rfl).trans ((fQ e).trans rfl)
end
section
variable {θ:Th}{T:Tb}{K:bb}{st:St}
def Rg(T:Tb)(p:Nat×List Nat):Cs:=dy (bq T .isin (aX [.c p.1]) (ae 0)) (aP (.loc 0) (gx (ae 0) [.c p.1] (ao p.2))) bJ
noncomputable def DK(T:Tb):List (Nat×List Nat)->Cs
 | []=>dq (ae 0)
 | p::ps=>aE (Rg T p) (DK T ps)
noncomputable def JB:List (Nat×List Nat)->List Nat->List Nat
 | [],l=>l
 | p::ps,l=>JB ps (f8 p.1 p.2 l)
noncomputable def DL:List (Nat×List Nat)->List Nat->Bool
 | [],l=>aH l.length 1000
 | p::ps,l=>aH l.length 1000&&((aH 1 p.2.length&&aH p.2.length 100)&&DL ps (f8 p.1 p.2 l))
theorem Rh{ps:List (Nat×List Nat)}{l:List Nat}(h:DL ps l=true):l.length<1000:=by
 induction ps with
 | nil=>exact bF h
 | cons p ps=>exact bF (a1 h)
theorem Ri(n:Nat)(q a b:List Nat):f8 n q (a++b)=f8 n q a++f8 n q b:=by
 induction a with
 | nil=>rfl
 | cons c a ih=>
  show(match aG c n with|true=>q++f8 n q (a++b)|false=>c::f8 n q (a++b))=(match aG c n with|true=>q++f8 n q a|false=>c::f8 n q a)++_
  refine ab (ih) ?_;induction aG c n with
  | true=>exact(gJ ..).symm
  | false=>rfl
theorem JC{n:Nat}{q l:List Nat}(h:n∉l):f8 n q l=l:=by
 induction l with
 | nil=>rfl
 | cons c l ih=>
  have e:aG c n=false:=by
   induction z:aG c n with
   | false=>rfl
   | true=>exact absurd (dj z▸bT) h
  show(match aG c n with|true=>q++f8 n q l|false=>c::f8 n q l)=_
  refine ab (e) ?_;exact congrArg (c::·) (ih λm=>h (bL _ m))
theorem mw(l:List Nat):(ao l).length=l.length:=by
 induction l with
 | nil=>rfl
 | cons a l ih=>exact congrArg (·+1) ih
theorem aeh{p:Nat×List Nat}{l:List Nat}(hl:l.length<4000)(h1:1<p.2.length)(h2:p.2.length<100)(hr:(f8 p.1 p.2 l).length<4000):Sv (Rg T p) K ⟨[some (.str (ao l))],[]⟩ st ⟨[some (.str (ao (f8 p.1 p.2 l)))],[]⟩ st:=by
 have hc:rI T .isin (.str [.c p.1]) (.str (ao l)) st=some (gO p.1 l):=by
  show(match dw [At.c p.1]with|some x=>(match x with|[n]=>(match dw (ao l)with|some v=>some (gO n v)|none=>none)|_=>none)|none=>none)=_
  rw[qE];rfl
 have ht:Tv (bq T .isin (aX [.c p.1]) (ae 0)) K ⟨[some (.str (ao l))],[]⟩ st (gO p.1 l):=j8 rfl (ba rfl) hc;induction e:gO p.1 l with
 | false=>
  rw[e]at ht;rw[JC λm=>by rw[(BJ _ _).mpr m]at e;exact nN e];exact(qM ht).trans rfl
 | true=>
  rw[e]at ht;refine(wR ht).trans (fE (v:=.str (ao (f8 p.1 p.2 l))) ?_ rfl);refine(bz (ba rfl)).trans (jT ?_);refine(bx (qE l)).trans ((bx (z:=p.1) rfl).trans ((bx (qE p.2)).trans (dI ?_ (DJ (by rw[mw];exact hr)))));rw[show aH 1 p.2.length=true from cZ h1,show aH p.2.length 100=true from cZ h2];exact cZ (by rw[mw];exact hl)
theorem aei{a b:List Nat}(ha:a.length<1000)(hb:b.length<1000):∀(ps:List (Nat×List Nat)) (m:List Nat),(∀p∈ps,p.1∉a/\p.1∉b)->DL ps m=true ->
  ∃aw,DK T ps K ⟨[some (.str (ao (a++(m++b))))],[]⟩ st=some (.ret (.str (ao (a++(JB ps m++b)))),aw,st):=by
 intro ps;induction ps with
 | nil=>exactλm _ _=>⟨_,uH (ba rfl)⟩
 | cons p ps ih=>
  intro m hp hk;have JD:=hk;have k4:=a2 (a2 JD);refine xE (ih (f8 p.1 p.2 m) (λq hq=>hp q (bL _ hq)) k4) λaw e=>⟨aw,?_⟩
  refine xA (hp p bT) λn1 n2=>?_
  have e3:f8 p.1 p.2 (a++(m++b))=a++(f8 p.1 p.2 m++b):=by rw[Ri,Ri,JC n1,JC n2]
  have l1:=Rh hk;have l2:=Rh k4
  have:=aeh (T:=T) (K:=K) (st:=st) (p:=p) (l:=a++(m++b)) (by rw[cS,cS];lia) (bF (a1 (a1 (a2 JD)))) (bF (a2 (a1 (a2 JD)))) (by rw[e3,cS,cS];lia)
  rw[e3]at this;exact(dS this).trans e
noncomputable def zB:List Nat:=[38,97,109,112,59]
noncomputable def DM:List Nat:=[38,108,116,59]
noncomputable def DN:List Nat:=[38,103,116,59]
noncomputable def JE:List Nat:=[38,113,117,111,116,59]
def Rj:List (List (Nat×List Nat)):=[
 [(38,zB),(60,DM),(62,DN)],
 [(38,zB),(60,DM),(62,DN),(34,JE),(13,[38,35,49,51,59]),(10,[38,35,49,48,59]),(9,[38,35,48,57,59])],
 [(38,zB),(62,DN),(34,JE)],
 [(38,zB),(60,DM),(62,DN),(13,[38,35,120,68,59])],
 [(38,zB),(60,DM),(34,JE),(9,[38,35,120,57,59]),(10,[38,35,120,65,59]),(13,[38,35,120,68,59])]]
noncomputable def mk(h:Nat):List (Nat×List Nat):=Rj.getD h []
theorem aej(T:Tb):[(f9 T).body,(wH T).body,(wI T).body,(wJ T).body,(wK T).body]=Rj.map (DK T):=by kernel_rfl
def ib(s h:Nat):List Nat:=JB (mk h) [s]
theorem aek:∀s∈SG,∀h,h<5->DL (mk h) [s]=true:=by decide +kernel
theorem ael:∀h,h<5->∀p∈mk h,p.1∈SG:=by decide +kernel
theorem aem:∀u∈gA,u∉SG:=by decide +kernel
theorem aen:∀i,i<12->∀l,l<26->dM i+l∉SG:=by decide +kernel
theorem aeo{l k u:Nat}(hl:l<26)(hu:u∈gA):∃a b,(∀m,fG l m [u] k=a++(m++b))/\a.length<3/\b.length<3/\(∀c∈SG,c∉a/\c∉b):=by
 have h1:=aen (k%12) (lX _ (by decide)) l hl;have h2:=aem u hu;have k1:∀c∈SG,c≠dM (k%12)+l:=λc hc e=>h1 (e▸hc)
 have k2:∀c∈SG,c≠u:=λc hc e=>h2 (e▸hc)
 unfold fG;split
 ·exact pf ([dM (k%12)+l]) ([]) (λm=>by rw[fS];rfl) (by simp) (by simp) (λc hc=>⟨by simp;exact k1 c hc,by simp⟩)
 ·exact pf ([u,dM (k%12)+l]) ([]) (λm=>by rw[fS];rfl) (by simp) (by simp) (λc hc=>⟨by simp;exact⟨k2 c hc,k1 c hc⟩,by simp⟩)
 ·exact pf ([dM (k%12)+l,u]) ([]) (λm=>by rw[fS];rfl) (by simp) (by simp) (λc hc=>⟨by simp;exact⟨k1 c hc,k2 c hc⟩,by simp⟩)
 ·exact pf ([dM (k%12)+l]) ([u]) (λm=>rfl) (by simp) (by simp) (λc hc=>⟨by simp;exact k1 c hc,by simp;exact k2 c hc⟩)
theorem aep{doc:List V->Option V}{n h:Nat}(hh:h<5){x:Tx}{y:Tx}(hb:∀K,∃aw,DK (T1 θ) (mk h) K ⟨[some (.str x)],[]⟩ st=some (.ret (.str y),aw,st)):KA θ doc (n+1) (.bh (9+h)) [.str x] st=some (.str y,st):=by
 have go:∀{F:FI} {b:Cs},F.body=b->F.params=[.loc 0]->F.nl=1->F.nc=0->F.alone=false->(∃aw,b (KA θ doc n) ⟨[some (.str x)],[]⟩ st=some (.ret (.str y),aw,st))->GY (T1 θ) (KA θ doc n) F [.str x] st=some (.str y,st):=by
  intro F b e1 e2 e3 e4 e5 e6;refine xE e6 λaw e6=>?_
  show(match F.alone with|true=>rS (T1 θ) (KA θ doc n) F [.str x] st|false=>nZ (KA θ doc n) F [.str x] [] st)=_
  rw[e5]
  show af (iH [.str x] F.params ⟨fN F.nl,fN F.nc++[].map some⟩) (λfr=>eV (F.body (KA θ doc n) fr st) yx)=_
  rw[e2,e3,e4,e1];exact(fQ e6).trans rfl
 have e:=aej (T1 θ)
 rcases(by lia:h=0\/h=1\/h=2\/h=3\/h=4)with q|q|q|q|q<;>subst q
 ·exact go (F:=f9 (T1 θ)) (congrArg (λl:List Cs=>l.getD 0 bJ) e) rfl rfl rfl rfl (hb _)
 ·exact go (F:=wH (T1 θ)) (congrArg (λl:List Cs=>l.getD 1 bJ) e) rfl rfl rfl rfl (hb _)
 ·exact go (F:=wI (T1 θ)) (congrArg (λl:List Cs=>l.getD 2 bJ) e) rfl rfl rfl rfl (hb _)
 ·exact go (F:=wJ (T1 θ)) (congrArg (λl:List Cs=>l.getD 3 bJ) e) rfl rfl rfl rfl (hb _)
 ·exact go (F:=wK (T1 θ)) (congrArg (λl:List Cs=>l.getD 4 bJ) e) rfl rfl rfl rfl (hb _)
theorem aeq{doc:List V->Option V}:(fun(n:Nat) (x:Tx) (st:St)=>(aD 5).map λh=>KA θ doc (n+1) (.bh 18) [.str x,.int (aZ h)] st)=λn x st=>(aD 5).map λh=>eV (bk (KA θ doc n (.bh (9+h)) [.str x] st) λv st1=>some (Fl.ret v,(⟨[some (.str x),some (.int (aZ h))],[]⟩:Fr),st1)) yx:=by kernel_rfl
theorem Rk{doc:List V->Option V}{n l k u s h:Nat}(hl:l<26)(hu:u∈gA)(hs:s∈SG)(hh:h<5):KA θ doc (n+2) (.bh 18) [.str (ao (fG l [s] [u] k)),.int (h:Int)] st=some (.str (ao (fG l (ib s h) [u] k)),st):=by
 have e:=cV (congrFun (congrFun (congrFun (aeq (θ:=θ) (doc:=doc)) (n+1)) (ao (fG l [s] [u] k))) st) (eR.mpr hh);refine xH e ?_;refine lZ (aeo (k:=k) hl hu) λa b e1 l1 l2 hn=>?_
 have:=aep (θ:=θ) (doc:=doc) (n:=n) (st:=st) hh (x:=ao (fG l [s] [u] k)) (y:=ao (fG l (ib s h) [u] k)) λK=>by
  rw[e1,e1];exact aei (by lia) (by lia) (mk h) [s] (λp hp=>hn _ (ael h hh p hp)) (aek s hs h hh)
 refine ab (this) ?_;rfl
end
noncomputable def fu(c:Nat):V:=.str [.c c]
theorem Rl(l:List Nat):tP (ao l)=some (l.map fu):=by
 induction l with
 | nil=>rfl
 | cons c l ih=>exact dI rfl (vY ih rfl)
noncomputable def uJ(w:List Nat):List Nat:=w.flatMap λq=>oX q 32++[9]
noncomputable def zC:Nat->List (List Nat)
 | 0=>[[]]
 | n+1=>(zC n).flatMap λw=>[w++[0],w++[1],w++[2]]
def PW:List (List Nat):=[[]]++(zC 1++(zC 2++(zC 3++zC 4)))
def uK:List (List Nat):=fF++PW.map uJ
structure sH where
 cur:List Nat
 old:List (List Nat)
 b:Nat
 n:Nat
 nt:Nat
noncomputable def JF:List Nat->Nat->List Nat
 | [],_=>[]
 | c::l,k=>match k with|0=>(c+1)::l|k+1=>c::JF l k
def aer(s:sH)(c:Nat):sH:=match aG c 32 with
 | true=>⟨s.cur,s.old,s.b+1,s.n+1,s.nt⟩
 | false=>(match fT s.cur.length s.b with
  | true=>⟨JF (s.cur++oX (s.b-s.cur.length+1) 0) s.b,s.cur::s.old,0,s.n+1,s.nt+1⟩
  | false=>⟨JF s.cur s.b,s.old,0,s.n+1,s.nt+1⟩)
def ie(l:List Nat):sH:=l.foldl aer ⟨[],[],0,0,0⟩
noncomputable def zD(l:List Nat):List V:=l.map λn=>.int (aZ n)
def Rm:Tx:=ao [114,97,119]
def lK(raw:Tx)(s:sH)(ch:Option V):Fr:=⟨[some (.loc 0),some (.str raw),some (fu 32),some (fu 9),some (.loc (s.old.length+2)),some (.int (aZ s.b)),some (.int (aZ s.n)),some (.int (aZ s.nt)),ch],[]⟩
def np(raw:Tx)(s:sH):St:=⟨.list (zD s.cur)::(s.old.map λl=>.list (zD l))++[.at_ [(Rm,.str raw)],.ob .ins (some 1)],s.old.length+3⟩
def k7(raw:Tx)(s:sH):V:=.ins [(ao [105,115,95,115,105,109,112,108,101],.bool (fT s.cur.length 1)),(ao [110,111,114,109],.tup [.tup (zD s.cur),.int (aZ s.b)]),(ao [110,116],.int (aZ s.nt)),(ao [110],.int (aZ s.n)),(Rm,.str raw)]
section
variable {θ:Th}{K:bb}{st:St}
def aes(l:List Nat):Option V:=match l.getLast? with|some c=>some (fu c)|none=>none
theorem aet:(fun(θ:Th) (K:bb) (raw:Tx) (R:List V)=>uK.map λl=>iI K (.loc 8) (wE (T1 θ)) (l.map fu++R) (lK raw ⟨[],[],0,0,0⟩ none) (np raw ⟨[],[],0,0,0⟩)) =
  λθ K raw R=>uK.map λl=>iI K (.loc 8) (wE (T1 θ)) R (lK raw (ie l) (aes l)) (np raw (ie l)):=by kernel_rfl
theorem aeu:(fun(θ:Th) (K:bb) (raw:Tx) (ch:Option V) (st:St)=>uK.map λl=>eV (zn (T1 θ) K (lK raw (ie l) ch) (np raw (ie l))) λf fr am=>bk (yx f fr am) λv am=>match v with
   | .none=>eB (dH (T1 θ) am 12 (.loc 0)) st
   | _=>none)=λθ K raw ch st=>uK.map λl=>some (k7 raw (ie l),st):=by kernel_rfl
theorem aev(T:Tb):(qJ T).body=aE (lD T (ae 0) [114,97,119] (ae 1)) (aE (oy [(.loc 3),(.loc 2)] (bI [(fD T (cF 1) [83]),(fD T (cF 1) [84])])) (aE (aP (.loc 4) (dn true [])) (aE (yw [(.loc 5),(.loc 6),(.loc 7)] (aj 0)) (aE (eW (.loc 8) (ce (fD T (ae 0) [114,97,119])) (wE T)) (zn T))))):=by kernel_rfl
noncomputable def DO:St:=⟨[.at_ [],.ob .ins (some 1)],2⟩
theorem aew:(fun(θ:Th) (K:bb) (raw:Tx) (R:Cs)=>aE (lD (T1 θ) (ae 0) [114,97,119] (ae 1)) (aE (oy [(.loc 3),(.loc 2)] (bI [(fD (T1 θ) (cF 1) [83]),(fD (T1 θ) (cF 1) [84])])) (aE (aP (.loc 4) (dn true [])) (aE (yw [(.loc 5),(.loc 6),(.loc 7)] (aj 0)) R))) K ⟨[some (.loc 0),some (.str raw),none,none,none,none,none,none,none],[]⟩ DO) =
  λθ K raw R=>R K (lK raw ⟨[],[],0,0,0⟩ none) (np raw ⟨[],[],0,0,0⟩):=by kernel_rfl
theorem Rn{a b:Nat}(h:a≠b):aG a b=false:=by
 induction e:aG a b with
 | false=>rfl
 | true=>exact absurd (dj e) h
theorem zE{a b:Nat}(h:a≠b):jI (T1 θ) [.c a] [.c b]=some false:=by
 show(match aG a b with|true=>jI (T1 θ) [] []|false=>rD (cX (aG a b)))=_
 rw[Rn h];rfl
theorem Ro{a:Nat}:jI (T1 θ) [.c a] [.c a]=some true:=by
 show(match aG a a with|true=>jI (T1 θ) [] []|false=>rD (cX (aG a a)))=_
 rw[gw];rfl
theorem aex{raw:Tx}{s:sH}{c:Nat}{ch:Option V}{R:List V}(h1:c≠32)(h2:c≠9):iI K (.loc 8) (wE (T1 θ)) (fu c::R) (lK raw s ch) (np raw s)=some (.next,lK raw s (some (fu c)),np raw s):=by
 have t1:Tv (bq (T1 θ) .eq (ae 8) (ae 2)) K (lK raw s (some (fu c))) (np raw s) false:=j8 (ba rfl) (ba rfl) (zE h1);have t2:Tv (bq (T1 θ) .eq (ae 8) (ae 3)) K (lK raw s (some (fu c))) (np raw s) false:=j8 (ba rfl) (ba rfl) (zE h2);have hb:wE (T1 θ) K (lK raw s (some (fu c))) (np raw s)=some (.brk,lK raw s (some (fu c)),np raw s):=(qM t1).trans ((qM t2).trans rfl);exact(bx (z:=lK raw s (some (fu c))) rfl).trans ((fQ hb).trans rfl)
theorem aey{doc:List V->Option V}{n:Nat}{l:List Nat}{c:Nat}{rest:List Nat}(hl:l∈uK)(h1:c≠32)(h2:c≠9):KA θ doc (n+1) (.bh 1) [.str (ao (l++c::rest))] st=some (k7 (ao (l++c::rest)) (ie l),st):=by
 show af (some (qJ (T1 θ))) (λF=>bv ([V.str (ao (l++c::rest))].all (bY 12)) (bk (nZ (KA θ doc n) F (.loc 0::[.str (ao (l++c::rest))]) [] DO) λv am=>match v with
  | .none=>eB (dH (T1 θ) am 12 (.loc 0)) st
  | _=>none))=_
 refine(bx (z:=qJ (T1 θ)) rfl).trans (dI rfl ?_)
 generalize aez:ao (l++c::rest)=raw
 have hb:(qJ (T1 θ)).body (KA θ doc n) ⟨[some (.loc 0),some (.str raw),none,none,none,none,none,none,none],[]⟩ DO=zn (T1 θ) (KA θ doc n) (lK raw (ie l) (some (fu c))) (np raw (ie l)):=by
  rw[aev];refine(congrFun (congrFun (congrFun (congrFun aew θ) (KA θ doc n)) raw) _).trans ?_;refine(fQ (z:=.next) (y:=lK raw (ie l) (some (fu c))) ((bz (ff (u:=.str raw) (s:=.vals (l.map fu++(fu c::rest.map fu))) rfl ?_)).trans ?_)).trans rfl
  ·show af (tP raw) (λl=>some (Src.vals l))=_
   rw[<-aez,Rl,mE];rfl
  ·show iI _ _ _ _ _ _=_
   exact(cV (congrFun (congrFun (congrFun (congrFun aet θ) (KA θ doc n)) raw) (fu c::rest.map fu)) hl).trans (aex h1 h2)
 show bk (eV ((qJ (T1 θ)).body (KA θ doc n) ⟨[some (.loc 0),some (.str raw),none,none,none,none,none,none,none],[]⟩ DO) yx) (λv am=>match v with
  | .none=>eB (dH (T1 θ) am 12 (.loc 0)) st
  | _=>none)=_
 rw[hb];have he:=cV (congrFun (congrFun (congrFun (congrFun (congrFun aeu θ) (KA θ doc n)) raw) (some (fu c))) st) hl;refine xH ?_ he;induction zn (T1 θ) (KA θ doc n) (lK raw (ie l) (some (fu c))) (np raw (ie l))<;>rfl
noncomputable def gT(l:List Nat)(k:Nat):Nat:=l.foldl (λc s=>match aG s 32 with|true=>c+1|false=>(c/k+1)*k) 0
noncomputable def JG:List Nat->Nat->Nat->Nat
 | [],b,m=>max b m
 | c::l,b,m=>match aG c 32 with|true=>JG l (b+1) m|false=>JG l 0 (max b m)
def jy(l:List Nat):Nat:=JG l 0 0
noncomputable def iN(n:Nat):V:=.int (aZ n)
theorem aeA:(fun(θ:Th) (doc:List V->Option V) (n:Nat) (st:St)=>fF.map λl=>(aD 5).map λk=>KA θ doc (n+1) (.bh 22) [.str (ao l),iN (k+1)] st)=λθ doc n st=>fF.map λl=>(aD 5).map λk=>some (iN (gT l (k+1)),st):=by kernel_rfl
theorem aeB:(fun(θ:Th) (doc:List V->Option V) (n:Nat) (st:St) (raw:Tx)=>fF.map λl=>(aD 5).map λk=>KA θ doc (n+1) (.bh 102) [k7 raw (ie l),iN (k+1)] st)=λθ doc n st raw=>fF.map λl=>(aD 5).map λk=>some (iN (gT l (k+1)),st):=by kernel_rfl
theorem JH:(fun(θ:Th) (doc:List V->Option V) (n:Nat) (st:St) (raw:Tx)=>fF.map λl=>KA θ doc (n+1) (.bh 101) [k7 raw (ie l)] st)=λθ doc n st raw=>fF.map λl=>some (iN (jy l),st):=by kernel_rfl
def zF(l:List Nat):List Nat:=(aD 5).map λk=>gT l (k+1)
def sI(a b:List Nat):Bool:=(aD 5).all λk=>aH (gT a (k+1)) (gT b (k+1))
def JI(a b:List Nat):Bool:=bw (zF a) (zF b)
def DP(a b:List Nat):List V:=((aD (max (jy a) (jy b)+1)).filter λk=>fT (gT b (k+1)) (gT a (k+1))).map λk=>.tup [iN (k+1),iN (gT a (k+1)),iN (gT b (k+1))]
theorem aeC:(fun(θ:Th) (doc:List V->Option V) (n:Nat) (st:St) (raw kD:Tx)=>fF.map λa=>fF.map λb=>KA θ doc (n+1) (.bh 103) [k7 raw (ie a),k7 kD (ie b)] st)=λθ doc n st raw kD=>fF.map λa=>fF.map λb=>some (.bool (JI a b),st):=by kernel_rfl
theorem aeD:(fun(θ:Th) (doc:List V->Option V) (n:Nat) (st:St) (raw kD:Tx)=>fF.map λa=>fF.map λb=>KA θ doc (n+2) (.bh 104) [k7 raw (ie a),k7 kD (ie b)] st)=λθ doc n st raw kD=>fF.map λa=>fF.map λb=>some (.bool (sI a b),st):=by kernel_rfl
theorem aeE:(fun(θ:Th) (doc:List V->Option V) (n:Nat) (st:St) (raw kD:Tx)=>fF.map λa=>fF.map λb=>KA θ doc (n+2) (.bh 105) [k7 raw (ie a),k7 kD (ie b)] st)=λθ doc n st raw kD=>fF.map λa=>fF.map λb=>some (.fl (DP a b),st):=by kernel_rfl
end
noncomputable def zG(w:List Nat):List (List Nat):=(aD (w.length+1)).map λk=>w.take k
section
variable {θ:Th}{K:bb}{st:St}
def oz(raw:Tx)(w:List Nat):V:=k7 raw (ie (uJ w))
theorem Rp:(fun(θ:Th) (doc:List V->Option V) (n:Nat) (st:St) (raw kD:Tx)=>PW.map λw=>(zG w).map λv=>(KA θ doc (n+2) (.bh 104) [oz raw v,oz kD w] st,KA θ doc (n+2) (.bh 104) [oz raw w,oz kD v] st)) =
  λθ doc n st raw kD=>PW.map λw=>(zG w).map λv=>(some (.bool (aH v.length w.length),st),some (.bool (aH w.length v.length),st)):=by kernel_rfl
theorem Rq:(fun(θ:Th) (doc:List V->Option V) (n:Nat) (st:St) (raw kD:Tx)=>PW.map λw=>(zG w).map λv=>(KA θ doc (n+1) (.bh 103) [oz raw v,oz kD w] st,KA θ doc (n+1) (.bh 103) [oz raw w,oz kD v] st)) =
  λθ doc n st raw kD=>PW.map λw=>(zG w).map λv=>(some (.bool (aG v.length w.length),st),some (.bool (aG w.length v.length),st)):=by kernel_rfl
theorem aeF:(fun(raw:Tx)=>PW.map λw=>oz raw w.reverse)=λraw=>PW.map λw=>oz raw w:=by kernel_rfl
theorem aeG:∀w∈PW,w.reverse∈PW:=by decide +kernel
end
section
variable {θ:Th}{T:Tb}{K:bb}{fr:Fr}{st st1:St}{o c:Cd}{v:V}{a:Nat}{l:List V}
theorem JJ(ho:Ev o K fr st (.loc a))(hg:st.get a=some (.list l))(hc:c K fr st=some (v,st1))(hg1:st1.get a=some (.list l))(hl:l.length+1<4000):bG T o [97,112,112,101,110,100] [c] K fr st=some (.none,st1.set a (.list (l++[v]))):=by
 refine(bz ho).trans ((bx (z:=none) ((bx hg).trans rfl)).trans ?_)
 have:gl K fr [c] st=some ([v],st1):=by show bk (c K fr st) _=_;refine ab (hc) ?_;rfl
 refine ab (this) ?_;refine(bx hg1).trans ?_
 show bv true (bv (dZ (l++[v])) (some (V.none,st1.set a (.list (l++[v])))))=_
 exact dI rfl (dI (j9 (by exact ab (cS) hl)) rfl)
theorem aeH(l:List V)(v:V):yo (l++[v])=some v:=by
 induction l with
 | nil=>rfl
 | cons x l ih=>induction l with
  | nil=>rfl
  | cons y l=>exact ih
theorem aeI(ho:Ev o K fr st (.loc a))(hg:st.get a=some (.list (l++[v])))(hl:l.length+1<4000):bG T o [112,111,112] [] K fr st=some (v,st.set a (.list l)):=by
 refine(bz ho).trans ((bx (z:=none) ((bx hg).trans rfl)).trans ((bz uC).trans ?_));refine(bx hg).trans ?_
 show bv (true&&dZ (l++[v])) (af (yo (l++[v])) λv'=>bv (dZ (l++[v]).dropLast) (some (v',st.set a (.list (l++[v]).dropLast))))=_
 rw[aeH,aqN];exact dI (j9 (by exact ab (cS) hl)) (dI (j9 (by lia)) rfl)
theorem Rr(ho:Ev o K fr st (.loc a))(hg:st.get a=some (.list l))(hl:l.length<4000):Ev (eJ T .len o) K fr st (.int l.length):=
 uE ho (by
  show af (af (st.get a) A0) (λl=>bv (dZ l) (some (V.int l.length)))=_
  refine ab (hg) ?_;exact dI (j9 hl) rfl)
noncomputable def gB(nm bg td:List V):St:=⟨[.list td,.list bg,.list nm],3⟩
noncomputable def eE(x:V)(m s h:Option V):Fr:=⟨[some x,some (.loc 1),some (.loc 2),m,s,h],[some (.loc 0)]⟩
structure jz where
 nm:List (List Nat)
 bg:List Nat
 td:List (Nat×Nat)
def oA(p:Nat×Nat):V:=.tup [iN p.1,iN p.2]
def ig(s:jz):St:=gB (s.nm.map λx=>.str (ao x)) (s.bg.map iN) (s.td.map oA)
inductive pF:jz->Nat->jz->Prop
 | Rs {nm:List (List Nat)} {bg:List Nat} {td:List (Nat×Nat)}:pF ⟨nm,bg,td⟩ 40 ⟨nm++[[]],bg++[nm.length],td⟩
 | Rt {nm:List (List Nat)} {bg:List Nat} {td:List (Nat×Nat)} {b:Nat}:pF ⟨nm,bg++[b],td⟩ 41 ⟨nm,bg,td++[(b,nm.length)]⟩
 | sign {nm:List (List Nat)} {bg:List Nat} {td:List (Nat×Nat)} {x:List Nat} {c:Nat} {e:List Nat}:c≠40->c≠41->x.length+e.length<1000->(gO c gA=true/\e=[]\/gO c gA=false/\∀doc n st,KA θ doc (n+1) (.bh 5) [.str [.c c]] st=some (.str (ao e),st))->pF ⟨nm++[x],bg,td⟩ c ⟨nm++[x++e],bg,td⟩
theorem aeJ{doc:List V->Option V}{n c:Nat}:KA θ doc (n+1) (.bh 3) [.str [.c c]] st=some (.bool (gO c gA),st):=by kernel_rfl
theorem aeK{nm:List V}{v:V}{st:St}(hg:st.get 0=some (.list (nm++[v])))(hl:nm.length<3000):nR T (.loc 0) (.int (-1)) st=some v:=by
 show af (af (st.get 0) A0) (λl=>A2 l (-1))=_
 rw[hg]
 show af (bv (aH 0 (nm++[v]).length&&aH 0 4000) (some ((nm++[v]).length-1-0))) (λk=>(nm++[v])[k]?)=_
 have e:(nm++[v]).length=nm.length+1:=by simp
 rw[e,show aH 0 (nm.length+1)=true from cZ (by lia)]
 show(nm++[v])[nm.length+1-1-0]?=_
 simp
theorem aeL(nm:List V)(v w:V):qh (nm++[v]) nm.length w=some (nm++[w]):=by
 induction nm with
 | nil=>rfl
 | cons x nm ih=>exact vY ih rfl
theorem aeM{nm bg td:List V}{v w:V}(hl:nm.length<3000):rP T (.loc 0) (.int (-1)) w (gB (nm++[v]) bg td)=some (gB (nm++[w]) bg td):=by
 show af (bv (aH 0 (nm++[v]).length&&aH 0 4000) (some ((nm++[v]).length-1-0))) (λk=>af (qh (nm++[v]) k w) λl'=>some ((gB (nm++[v]) bg td).set 0 (.list l')))=_
 have e:(nm++[v]).length=nm.length+1:=by simp
 rw[e,show aH 0 (nm.length+1)=true from cZ (by lia)]
 show af (qh (nm++[v]) (nm.length+1-1-0) w) _=_
 rw[show nm.length+1-1-0=nm.length from rfl,aeL]
 rfl
theorem aeN{i:Int}:Ev (aj i) K fr st (.int i):=rfl
theorem JK{r:V×St}(h:c K fr st=some r):jM c K fr st=some (.next,fr,r.2):=by obtain⟨v,s⟩:=r;exact bz h
section
variable {nm bg td:List V}{x w:V}{m s h:Option V}
theorem aeO(h1:nm.length<1000)(h2:bg.length<1000):Sv (QC T) K (eE x m s h) (gB nm bg td) (eE x m s h) (gB (nm++[.str []]) (bg++[iN nm.length]) td):=by
 have a1:=JJ (T:=T) (K:=K) (fr:=eE x m s h) (st:=gB nm bg td) (st1:=gB nm bg td) (o:=ae 1) (a:=1) (l:=bg) (ba rfl) rfl (Rr (T:=T) (o:=aq 0) (a:=0) (l:=nm) (aV rfl) rfl (by lia)) rfl (by lia);have a2:=JJ (T:=T) (K:=K) (fr:=eE x m s h) (st:=gB nm (bg++[iN nm.length]) td) (st1:=gB nm (bg++[iN nm.length]) td) (o:=aq 0) (c:=aX []) (v:=.str []) (a:=0) (l:=nm) (aV rfl) rfl rfl rfl (by lia);exact(fQ (JK a1)).trans (JK a2)
theorem aeP{b:V}(h1:nm.length<1000)(h2:bg.length<1000)(h3:td.length<1000):Sv (QD T) K (eE x m s h) (gB nm (bg++[b]) td) (eE x m s h) (gB nm bg (td++[.tup [b,iN nm.length]])):=by
 have a1:=aeI (T:=T) (K:=K) (fr:=eE x m s h) (st:=gB nm (bg++[b]) td) (o:=ae 1) (a:=1) (l:=bg) (v:=b) (ba rfl) rfl (by lia);have a2:bI [(bG T (ae 1) [112,111,112] []),(eJ T .len (aq 0))] K (eE x m s h) (gB nm (bg++[b]) td)=some (.tup [b,iN nm.length],gB nm bg td):=by
  show bk (bk (bG T (ae 1) [112,111,112] [] K (eE x m s h) (gB nm (bg++[b]) td)) _) _=_
  rw[a1];exact(bz (bz (iM (Rr (T:=T) (K:=K) (fr:=eE x m s h) (st:=gB nm bg td) (o:=aq 0) (a:=0) (l:=nm) (aV rfl) rfl (by lia))))).trans rfl
 exact JK (JJ (T:=T) (K:=K) (fr:=eE x m s h) (st:=gB nm (bg++[b]) td) (st1:=gB nm bg td) (o:=ae 2) (a:=2) (l:=td) (ba rfl) rfl a2 rfl (by lia))
theorem aeQ{y e:Tx}{c:Nat}(h1:nm.length<1000)(hb:Ev (jp (bq T .is (ae 5) qe) (du (cF 5) [(ae 4)]) (aX [.c 63])) K (eE x m s h) (gB (nm++[.str y]) bg td) (.str e))(hl:y.length+e.length<4000) :
  Sv (QE T) K (eE x m s h) (gB (nm++[.str y]) bg td) (eE x m s h) (gB (nm++[.str (y++e)]) bg td):=
 (bz (d6 (w:=.str (y++e)) (cR (aV rfl) rfl (aeK rfl (by lia))) hb (zw hl))).trans ((bz (aV rfl)).trans ((bz (aeN (i:=-1) (K:=K) (fr:=eE x m s h) (st:=gB (nm++[.str y]) bg td))).trans (by rw[aeM (by lia)];rfl)))
end
theorem aeR{doc:List V->Option V}{n:Nat}{s s':jz}{c:Nat}(h:pF (θ:=θ) s c s')(h1:s.nm.length<900)(h2:s.bg.length<900)(h3:s.td.length<900){x:V}{m hd:Option V} :
  zo (T1 θ) (KA θ doc (n+1)) (eE x m (some (fu c)) hd) (ig s)=some (.next,eE x m (some (fu c)) (some (.bool (gO c gA))),ig s'):=by
 have s1:Sv (aP (.loc 5) (du (cF 3) [(ae 4)])) (KA θ doc (n+1)) (eE x m (some (fu c)) hd) (ig s) (eE x m (some (fu c)) (some (.bool (gO c gA)))) (ig s):=fE (jx (u:=.bh 3) rfl (iM (ba rfl)) aeJ) rfl;refine(dS s1).trans ?_;have tt:∀{b:Nat} {z:Bool} {st:St},jI (T1 θ) [.c c] [.c b]=some z->Tv (bq (T1 θ) .eq (ae 4) (aX [.c b])) (KA θ doc (n+1)) (eE x m (some (fu c)) (some (.bool (gO c gA)))) st z:=λh=>j8 (ba rfl) rfl h
 induction h with
 | @Rs nm bg td=>
  have Ru:nm.length<900:=h1;have h2':bg.length<900:=h2;refine(wR (tt Ro)).trans ((aeO (by rw[cK];lia) (by rw[cK];lia)).trans ?_);unfold ig;rw[mE,mE,cK];rfl
 | @Rt nm bg td b=>
  refine(qM (tt (zE (by decide)))).trans ((wR (tt Ro)).trans ?_)
  have:ig ⟨nm,bg++[b],td⟩=gB (nm.map λx=>.str (ao x)) (bg.map iN++[iN b]) (td.map oA):=by unfold ig;rw[mE];rfl
  refine ab (this) ?_;have Ru:nm.length<900:=h1;have h3':td.length<900:=h3;refine(aeP (by rw[cK];lia) (by rw[cK];simp at h2;lia) (by rw[cK];lia)).trans ?_;unfold ig;rw[mE,cK];rfl
 | @sign nm bg td y c e n1 n2 hl hk=>
  refine(qM (tt (zE n1))).trans ((qM (tt (zE n2))).trans ?_);have e1:ig ⟨nm++[y],bg,td⟩=gB ((nm.map λx=>.str (ao x))++[.str (ao y)]) (bg.map iN) (td.map oA):=by unfold ig;rw[mE];rfl
  have e2:ig ⟨nm++[y++e],bg,td⟩=gB ((nm.map λx=>.str (ao x))++[.str (ao y++ao e)]) (bg.map iN) (td.map oA):=by unfold ig;rw[mE,<-qO];rfl
  have Ru:nm.length<900:=by simp at h1;lia
  have tb:∀{st:St} {b:Bool},gO c gA=b->Tv (bq (T1 θ) .pi (ae 5) pq) (KA θ doc (n+1)) (eE x m (some (fu c)) (some (.bool (gO c gA)))) st (cX (tN b true)):=λe=>j8 (ba rfl) rfl (by rw[e];rfl)
  rcases hk with⟨hb,he⟩|⟨hb,hk⟩
  ·subst he;rw[fS];exact(qM (tb hb)).trans rfl
  ·rw[e1,e2];refine(wR (tb hb)).trans (aeQ (c:=c) (by rw[cK];lia) (DF (j8 (ba rfl) rfl (by rw[hb];rfl)) (jx (u:=.bh 5) rfl (iM (ba rfl)) (hk _ _ _))) (by rw[mw,mw];lia))
end
noncomputable def wS:List (List Nat×List Nat):=[([38,108,116,59],[60]),([38,103,116,59],[62]),([38,113,117,111,116,59],[34]),([38,35,49,51,59],[13]),([38,35,120,68,59],[13]),([38,35,49,48,59],[10]),([38,35,120,65,59],[10]),([38,35,48,57,59],[9]),([38,35,120,57,59],[9]),([38,97,109,112,59],[38])]
inductive Pc where
 | raw (c:Nat)
 | ent (i:Nat)
noncomputable def fR(i:Nat):List Nat:=(wS.getD i ([],[])).1
noncomputable def nq(i:Nat):List Nat:=(wS.getD i ([],[])).2
def Pc.flat:Pc->List Nat
 | .raw c=>[c]
 | .ent i=>fR i
def Pc.fin:Pc->List Nat
 | .raw c=>[c]
 | .ent i=>nq i
def Pc.at(j:Nat):Pc->List Nat
 | .raw c=>[c]
 | .ent i=>match aH i j with|true=>nq i|false=>fR i
noncomputable def wT:Pc->Prop
 | .raw c=>c≠38
 | .ent i=>i<10
theorem aeS{m z:List Nat}(a b:List Nat):gR m z (a++b) a.length=gR m z b 0:=by
 induction a with
 | nil=>rfl
 | cons c a ih=>exact ih
theorem JL{m z:List Nat}(hm:m.headD 0=38)(a b:List Nat)(h:∀c∈a,c≠38):gR m z (a++b) 0=a++gR m z b 0:=by
 induction a with
 | nil=>rfl
 | cons c a ih=>
  show(match m.isPrefixOf (c::(a++b))with|true=>z++gR m z (a++b) (m.length-1)|false=>c::gR m z (a++b) 0)=_
  have:m.isPrefixOf (c::(a++b))=false:=by
   induction m with
   | nil=>exact absurd hm (by decide)
   | cons x m=>
    have hx:x=38:=hm
    show(x==c&&m.isPrefixOf (a++b))=false
    rw[hx,beq_eq_false_iff_ne.mpr (vq (h c bT))];rfl
  refine ab (this) ?_;exact congrArg (c::·) (ih λd hd=>h d (bL _ hd))
theorem aeT:(λrest:List Nat=>(aD 10).map λj=>(aD 10).map λi=>(fR j).isPrefixOf (fR i++rest))=λrest=>(aD 10).map λj=>(aD 10).map λi=>aG i j:=by kernel_rfl
theorem wU:∀i,i<10->(fR i).headD 0=38/\(fR i).length=(fR i).tail.length+1/\(∀c∈(fR i).tail,c≠38)/\(fR i).length<7/\(nq i).length<7:=by decide +kernel
theorem aeU:∀i,i<9->∀c∈nq i,c≠38:=by decide +kernel
theorem aeV{i j:Nat}(hi:i<10)(hj:j<10)(z b:List Nat):gR (fR j) z (fR i++b) 0=(match aG i j with|true=>z|false=>fR i)++gR (fR j) z b 0:=by
 have hp:=cV (cV (congrFun aeT b) (eR.mpr hj)) (eR.mpr hi);refine xV (wU i hi) λe1 e2 e3 e4 e5=>?_
 induction e:fR i using iE with
 | nil=>rw[e]at e1;exact absurd e1 (by decide)
 | cons x t=>
  rw[e]at hp e3
  show(match(fR j).isPrefixOf (x::(t++b))with|true=>z++gR (fR j) z (t++b) ((fR j).length-1)|false=>x::gR (fR j) z (t++b) 0)=_
  refine ab (show(fR j).isPrefixOf (x::(t++b))=aG i j from hp) ?_;induction q:aG i j with
  | true=>
   have:i=j:=dj q
   subst this;have hl:(fR i).length-1=t.length:=by rw[e];rfl
   rw[hl,aeS]
  | false=>
   show x::gR (fR j) z (t++b) 0=x::(t++gR (fR j) z b 0)
   rw[JL (wU j hj).1 t b e3]
theorem aeW{j:Nat}(hj:j<10)(ps:List Pc)(h:∀p∈ps,wT p):gR (fR j) (nq j) (ps.flatMap (Pc.at j)) 0=ps.flatMap (Pc.at (j+1)):=by
 induction ps with
 | nil=>rfl
 | cons p ps ih=>
  have ih:=ih λq hq=>h q (bL _ hq)
  have hp:=h p bT;rw[j0,j0];induction p with
  | raw c=>
   rw[JL (wU j hj).1 _ _ (λd hd=>by exact ab (cO.mp hd) hp),ih];rfl
  | ent i=>
   have hi:=hp
   show gR _ _ ((match aH i j with|true=>nq i|false=>fR i)++_) 0=(match aH i (j+1)with|true=>nq i|false=>fR i)++_
   induction q:aH i j with
   | true=>
    have hij:i<j:=bF q;rw[show aH i (j+1)=true from cZ (by lia)];rw[JL (wU j hj).1 _ _ (aeU i (by lia)),ih]
   | false=>
    rw[aeV hi hj,ih];have hij:¬i<j:=λz=>by rw[show aH i j=true from cZ z]at q;exact nN q
    induction z:aG i j with
    | true=>rw[dj z,show aH j (j+1)=true from cZ (dr _)]
    | false=>
     have:i≠j:=λe=>by rw[e,gw]at z;exact nN z
     rw[show aH i (j+1)=false from by
      induction w:aH i (j+1)with
      | false=>rfl
      | true=>have:=bF w;lia]
theorem aeX(j:Nat)(ps:List Pc)(h:∀p∈ps,wT p):(ps.flatMap (Pc.at j)).length<=6*ps.length:=by
 induction ps with
 | nil=>exact tE _
 | cons p ps ih=>
  have ih:=ih λq hq=>h q (bL _ hq)
  have hp:=h p bT;rw[j0,cS,cH]
  have:(Pc.at j p).length<=6:=by
   induction p with
   | raw c=>show 1<=6;decide
   | ent i=>
    have:=wU i hp
    show(match aH i j with|true=>nq i|false=>fR i).length<=6
    induction aH i j<;>dsimp only<;>lia
  lia
theorem aeY{j:Nat}(hj:j<10){ps:List Pc}(h:∀p∈ps,wT p)(hl:ps.length<600)(r:List (List Nat×List Nat)):tZ ((fR j,nq j)::r) (ps.flatMap (Pc.at j))=tZ r (ps.flatMap (Pc.at (j+1))):=by
 have:=aeX j ps h
 refine dI (cZ (by lia)) ?_;rw[adO _ (λe=>by have:=(wU j hj).1;rw[e]at this;exact absurd this (by decide)),aeW hj ps h]
theorem aeZ{ps:List Pc}(h:∀p∈ps,wT p)(hl:ps.length<600):tZ wS (ps.flatMap Pc.flat)=some (ps.flatMap Pc.fin):=by
 have e0:ps.flatMap Pc.flat=ps.flatMap (Pc.at 0):=congrArg (ps.flatMap ·) (funext λp=>by induction p<;>rfl);have e1:ps.flatMap (Pc.at 10)=ps.flatMap Pc.fin:=by
  clear hl e0
  induction ps with
  | nil=>rfl
  | cons p ps ih=>
   rw[j0,j0,ih λq hq=>h q (bL _ hq)];have hp:=h p bT;induction p with
   | raw c=>rfl
   | ent i=>
    have hi:=hp
    show(match aH i 10 with|true=>nq i|false=>fR i)++_=nq i++_
    exact ab (show aH i 10=true from cZ hi) rfl
 rw[e0,<-e1]
 have:=λj (hj:j<10) r=>aeY hj h hl r
 exact(this 0 (by decide) _).trans ((this 1 (by decide) _).trans ((this 2 (by decide) _).trans ((this 3 (by decide) _).trans ((this 4 (by decide) _).trans ((this 5 (by decide) _).trans ((this 6 (by decide) _).trans ((this 7 (by decide) _).trans ((this 8 (by decide) _).trans ((this 9 (by decide) _).trans rfl)))))))))
def sJ(s h:Nat):Pc:=match(aD 10).find? (λi=>bw (fR i) (ib s h)&&bw (nq i) [s])with|some i=>.ent i|none=>.raw s
def pcB(p:Pc):Bool:=match p with|.raw c=>cX (aG c 38)|.ent i=>aH i 10
theorem afa:(SG.map λs=>(aD 5).map λh=>(bw (sJ s h).flat (ib s h),bw (sJ s h).fin [s],pcB (sJ s h)))=SG.map λs=>(aD 5).map λh=>(true,true,true):=by kernel_rfl
theorem afb{s h:Nat}(hs:s∈SG)(hh:h<5):(sJ s h).flat=ib s h/\(sJ s h).fin=[s]/\wT (sJ s h):=by
 have:=cV (cV afa hs) (eR.mpr hh)
 have e1:=(Fw.inj this).1;have e2:=(Fw.inj (Fw.inj this).2).1;have e3:=(Fw.inj (Fw.inj this).2).2;refine⟨ja e1,ja e2,?_⟩;induction q:sJ s h with
 | raw c=>rw[q]at e3;exact ux e3
 | ent i=>rw[q]at e3;exact bF e3
inductive Tok where
 | op|sh
 | nm (y:Nat)
noncomputable section
noncomputable def Rv(ty es:List V->Option V):vO:=λf vs=>match f with
 | .bh g=>(match aG g 15 with|true=>ty vs|false=>match aG g 18 with|true=>es vs|false=>none)
 | _=>none
abbrev KD(θ:Th)(ty es:List V->Option V):Nat->bb:=call (T1 θ) (D1 (T1 θ)) (Rv ty es)
def oB:Cd:=λ_z fr st=>af fr.L[6]? λo=>af o λv=>af (kU v) λy=>af fr.L[3]? λo=>af o λu=>af (kU u) λk=>some (.str [.s (jK y) (jK k) (jK (vj k 5))],st)
def dB(T:Tb)(c:Cd):Cs:=aE (dA T) (aE (dW T) (aE (aP (.loc 8) c) (dE T)))
def zH(T:Tb)(c:Cd):Cs:=aE (d0 T) (aE (eW (.loc 6) (dT (aj 5)) (dB T c)) (d9 T))
theorem afc(T:Tb):(uA T).body=zH T (dC T):=by kernel_rfl
def DQ(θ:Th)(ty es:List V->Option V)(n:Nat)(vs:List V)(st:St):Option (V×St):=rS (T1 θ) (KD θ ty es n) {uA (T1 θ)with body:=zH (T1 θ) oB} vs st
end
noncomputable def eG(b:Nat->Nat->Bool):V:=.fl ((aD 5).map λx=>.fl ((aD 5).map λy=>.bool (b x y)))
def DR(b w:Nat->Nat->Bool):V:=eG λx y=>match aH x y with|true=>b x y|false=>w x y
noncomputable def bt(l:List Bool)(x y:Nat):Bool:=match x with
 | 0=>l.getD (y-1) true
 | 1=>l.getD (y+2) true
 | 2=>l.getD (y+4) true
 | 3=>l.getD (y+5) true
 | _=>true
noncomputable def wV(b:Nat->Nat->Bool)(y:Nat):List Nat->List Nat×List Tok
 | []=>([],[])
 | x::p=>match b x y with
  | true=>(x::p,[])
  | false=>((wV b y p).1,.sh::(wV b y p).2)
noncomputable def JM(b:Nat->Nat->Bool):Nat->Nat->List Nat->List Tok
 | 0,_,p=>p.map λ_=>.sh
 | n+1,y,p=>(wV b y p).2++(.op::.nm y::JM b n (y+1) (y::(wV b y p).1))
def kE(b:Nat->Nat->Bool):List Tok:=.op::JM b 5 0 []++[.sh]
noncomputable def afd(k h:Nat):Tok->At
 | .op=>.c 40
 | .sh=>.c 41
 | .nm y=>.s y k h
def uL(b:Nat->Nat->Bool)(k h:Nat):Tx:=(kE b).map (afd k h)
def jU:V:=eG λ_ _=>true
@[elab_as_elim] theorem dK{P:Bool->Prop}(b:Bool)(t:P true)(f:P false):P b:=Bool.rec f t b
def bA(l:List Bool):Prop:=(fun(θ:Th) (ty es:List V->Option V) (d:Dat) (w:Nat->Nat->Bool) (n k:Nat) (st:St)=>DQ θ ty es (n+11) [.fl ((aD 5).map (dg d)),DR (bt l) w,jU,.int (aZ k)] st)=λθ ty es d w n k st=>some (.str (uL (bt l) k (jK (vj (aZ k) 5))),st)
theorem afe(cy bU bM cm bO cg:Bool):bA [true,cy,bU,bM,true,cm,bO,true,cg,true]:=by unfold bA;kernel_rfl
theorem aff(cy bU bM cm bO:Bool):bA [true,cy,bU,bM,true,cm,bO,true,true,false]:=by unfold bA;kernel_rfl
theorem afg(cy bU bM cm:Bool):bA [true,cy,bU,bM,true,cm,true,true,false,false]:=by unfold bA;kernel_rfl
theorem afh(cy bU cm:Bool):bA [true,cy,bU,true,true,cm,false,true,false,false]:=by unfold bA;kernel_rfl
theorem afi(cy bU cm:Bool):bA [true,cy,bU,false,true,cm,false,true,false,false]:=by unfold bA;kernel_rfl
theorem afj(cy bU bM bO cg:Bool):bA [true,cy,bU,bM,true,true,bO,false,cg,true]:=by unfold bA;kernel_rfl
theorem afk(cy bU bM cg:Bool):bA [true,cy,bU,bM,true,true,true,false,cg,false]:=by unfold bA;kernel_rfl
theorem afl(cy bU cg:Bool):bA [true,cy,bU,true,true,true,false,false,cg,false]:=by unfold bA;kernel_rfl
theorem afm(cy bU cg:Bool):bA [true,cy,bU,false,true,true,false,false,cg,false]:=by unfold bA;kernel_rfl
theorem afn(cy bM bO cg:Bool):bA [true,cy,true,bM,true,false,bO,false,cg,true]:=by unfold bA;kernel_rfl
theorem afo(cy bO cg:Bool):bA [true,cy,true,true,true,false,bO,false,cg,false]:=by unfold bA;kernel_rfl
theorem afp(cy bO cg:Bool):bA [true,cy,true,false,true,false,bO,false,cg,false]:=by unfold bA;kernel_rfl
theorem afq(cy bM bO cg:Bool):bA [true,cy,false,bM,true,false,bO,false,cg,true]:=by unfold bA;kernel_rfl
theorem afr(cy bM bO cg:Bool):bA [true,cy,false,bM,true,false,bO,false,cg,false]:=by unfold bA;kernel_rfl
theorem afs(bU bM cm bO cg:Bool):bA [true,true,bU,bM,false,cm,bO,true,cg,true]:=by unfold bA;kernel_rfl
theorem aft(bU bM cm bO:Bool):bA [true,true,bU,bM,false,cm,bO,true,true,false]:=by unfold bA;kernel_rfl
theorem afu(bU cm bO:Bool):bA [true,true,bU,true,false,cm,bO,true,false,false]:=by unfold bA;kernel_rfl
theorem afv(bU cm bO:Bool):bA [true,true,bU,false,false,cm,bO,true,false,false]:=by unfold bA;kernel_rfl
theorem afw(bM cm bO cg:Bool):bA [true,true,true,bM,false,cm,bO,false,cg,true]:=by unfold bA;kernel_rfl
theorem afx(cm bO cg:Bool):bA [true,true,true,true,false,cm,bO,false,cg,false]:=by unfold bA;kernel_rfl
theorem afy(cm bO cg:Bool):bA [true,true,true,false,false,cm,bO,false,cg,false]:=by unfold bA;kernel_rfl
theorem afz(bM cm bO cg:Bool):bA [true,true,false,bM,false,cm,bO,false,cg,true]:=by unfold bA;kernel_rfl
theorem afA(bM cm bO cg:Bool):bA [true,true,false,bM,false,cm,bO,false,cg,false]:=by unfold bA;kernel_rfl
theorem afB(bU bM cm bO cg:Bool):bA [true,false,bU,bM,false,cm,bO,true,cg,true]:=by unfold bA;kernel_rfl
theorem afC(bU bM cm bO:Bool):bA [true,false,bU,bM,false,cm,bO,true,true,false]:=by unfold bA;kernel_rfl
theorem afD(bU bM cm bO:Bool):bA [true,false,bU,bM,false,cm,bO,true,false,false]:=by unfold bA;kernel_rfl
theorem afE(bU bM cm bO cg:Bool):bA [true,false,bU,bM,false,cm,bO,false,cg,true]:=by unfold bA;kernel_rfl
theorem afF(bU bM cm bO cg:Bool):bA [true,false,bU,bM,false,cm,bO,false,cg,false]:=by unfold bA;kernel_rfl
theorem afG(cy bU bM cm bO cg:Bool):bA [false,cy,bU,bM,true,cm,bO,true,cg,true]:=by unfold bA;kernel_rfl
theorem afH(cy bU bM cm bO:Bool):bA [false,cy,bU,bM,true,cm,bO,true,true,false]:=by unfold bA;kernel_rfl
theorem afI(cy bU bM cm:Bool):bA [false,cy,bU,bM,true,cm,true,true,false,false]:=by unfold bA;kernel_rfl
theorem afJ(cy bU bM cm:Bool):bA [false,cy,bU,bM,true,cm,false,true,false,false]:=by unfold bA;kernel_rfl
theorem afK(cy bU bM bO cg:Bool):bA [false,cy,bU,bM,true,true,bO,false,cg,true]:=by unfold bA;kernel_rfl
theorem afL(cy bU bM cg:Bool):bA [false,cy,bU,bM,true,true,true,false,cg,false]:=by unfold bA;kernel_rfl
theorem afM(cy bU bM cg:Bool):bA [false,cy,bU,bM,true,true,false,false,cg,false]:=by unfold bA;kernel_rfl
theorem afN(cy bU bM bO cg:Bool):bA [false,cy,bU,bM,true,false,bO,false,cg,true]:=by unfold bA;kernel_rfl
theorem afO(cy bU bM bO cg:Bool):bA [false,cy,bU,bM,true,false,bO,false,cg,false]:=by unfold bA;kernel_rfl
theorem afP(cy bU bM cm bO cg:Bool):bA [false,cy,bU,bM,false,cm,bO,true,cg,true]:=by unfold bA;kernel_rfl
theorem afQ(cy bU bM cm bO:Bool):bA [false,cy,bU,bM,false,cm,bO,true,true,false]:=by unfold bA;kernel_rfl
theorem afR(cy bU bM cm bO:Bool):bA [false,cy,bU,bM,false,cm,bO,true,false,false]:=by unfold bA;kernel_rfl
theorem afS(cy bU bM cm bO cg:Bool):bA [false,cy,bU,bM,false,cm,bO,false,cg,true]:=by unfold bA;kernel_rfl
theorem afT(cy bU bM cm bO cg:Bool):bA [false,cy,bU,bM,false,cm,bO,false,cg,false]:=by unfold bA;kernel_rfl
theorem afU(Rw cy bU bM JN cm bO wW cg k8:Bool):bA [Rw,cy,bU,bM,JN,cm,bO,wW,cg,k8]:=dK Rw (dK JN (dK wW (dK k8 (afe ..) (dK cg (aff ..) (dK bO (afg ..) (dK bM (afh ..) (afi ..))))) (dK cm (dK k8 (afj ..) (dK bO (afk ..) (dK bM (afl ..) (afm ..)))) (dK bU (dK k8 (afn ..) (dK bM (afo ..) (afp ..))) (dK k8 (afq ..) (afr ..))))) (dK cy (dK wW (dK k8 (afs ..) (dK cg (aft ..) (dK bM (afu ..) (afv ..)))) (dK bU (dK k8 (afw ..) (dK bM (afx ..) (afy ..))) (dK k8 (afz ..) (afA ..)))) (dK wW (dK k8 (afB ..) (dK cg (afC ..) (afD ..))) (dK k8 (afE ..) (afF ..))))) (dK JN (dK wW (dK k8 (afG ..) (dK cg (afH ..) (dK bO (afI ..) (afJ ..)))) (dK cm (dK k8 (afK ..) (dK bO (afL ..) (afM ..))) (dK k8 (afN ..) (afO ..)))) (dK wW (dK k8 (afP ..) (dK cg (afQ ..) (afR ..))) (dK k8 (afS ..) (afT ..))))
noncomputable def oC(dp:List Nat)(x y:Nat):Bool:=aH (dp.getD x 0) (dp.getD y 0)
noncomputable def zI(dp:List Nat)(x y:Nat):Bool:=aG (dp.getD x 0) (dp.getD y 0)
noncomputable def DV:Nat->List (List Nat)
 | 0=>[[0]]
 | n+1=>(DV n).flatMap λl=>(aD (l.getLastD 0+2)).map λk=>l++[k]
noncomputable def ee(f:Nat->Nat->Bool):List Bool:=[f 0 1,f 0 2,f 0 3,f 0 4,f 1 2,f 1 3,f 1 4,f 2 3,f 2 4,f 3 4]
theorem afV:(fun(θ:Th) (ty es:List V->Option V) (d:Dat) (w:Nat->Nat->Bool) (n k:Nat) (st:St)=>(DV 4).map λdp=>DQ θ ty es (n+11) [.fl ((aD 5).map (dg d)),DR (oC dp) w,eG (zI dp),.int (aZ k)] st)=λθ ty es d w n k st=>(DV 4).map λdp=>some (.str (uL (bt (ee (oC dp))) k (jK (vj (aZ k) 5))),st):=by kernel_rfl
theorem afW{θ:Th}{ty es:List V->Option V}{d:Dat}(f:Nat->Nat->Bool){n k:Nat}{st:St}:DQ θ ty es (n+11) [.fl ((aD 5).map (dg d)),eG f,jU,.int (aZ k)] st=some (.str (uL (bt (ee f)) k (jK (vj (aZ k) 5))),st):=
 congrFun (congrFun (congrFun (congrFun (congrFun (congrFun (congrFun (congrFun (afU (f 0 1) (f 0 2) (f 0 3) (f 0 4) (f 1 2) (f 1 3) (f 1 4) (f 2 3) (f 2 4) (f 3 4)) θ) ty) es) d) f) n) k) st
section
variable {θ:Th}{doc:List V->Option V}
inductive mx:jz->List Nat->jz->Prop
 | nil {s:jz}:mx s [] s
 | cons {s s1 s':jz} {c:Nat} {l:List Nat}:pF (θ:=θ) s c s1->s.nm.length<900->s.bg.length<900->s.td.length<900->mx s1 l s'->mx s (c::l) s'
theorem mx.app{s s1 s2:jz}{a b:List Nat}(h:mx (θ:=θ) s a s1)(h2:mx (θ:=θ) s1 b s2):mx (θ:=θ) s (a++b) s2:=by
 induction h with
 | nil=>exact h2
 | cons t b1 b2 b3 _ ih=>exact .cons t b1 b2 b3 (ih h2)
theorem afX{n:Nat}{x:V}{m:Option V}{s s':jz}{l:List Nat}(h:mx (θ:=θ) s l s'):∀(c hd:Option V),∃c' ip,iI (KA θ doc (n+1)) (.loc 4) (zo (T1 θ)) (l.map fu) (eE x m c hd) (ig s)=some (.next,eE x m c' ip,ig s'):=by
 induction h with
 | nil=>exactλc hd=>⟨c,hd,rfl⟩
 | @cons s s1 s' c l t b1 b2 b3 _ ih=>
  intro c0 hd;refine fL (ih (some (fu c)) (some (.bool (gO c gA)))) λc' ip e=>⟨c',ip,?_⟩
  exact(bx (z:=eE x m (some (fu c)) hd) rfl).trans ((fQ (aeR t b1 b2 b3)).trans e)
theorem afY:(fun(θ:Th) (doc:List V->Option V) (n:Nat) (st:St)=>(aD 12).map λi=>(aD 26).map λl=>KA θ doc (n+1) (.bh 5) [.str [.c (dM i+l)]] st)=λθ doc n st=>(aD 12).map λi=>(aD 26).map λl=>some (.str (ao [97+l]),st):=by kernel_rfl
theorem afZ:(fun(θ:Th) (doc:List V->Option V) (n:Nat) (st:St)=>SG.map λs=>KA θ doc (n+1) (.bh 5) [.str [.c s]] st)=λθ doc n st=>SG.map λs=>some (.str (ao [s]),st):=by kernel_rfl
theorem aga:((aD 12).map λi=>(aD 26).map λl=>gO (dM i+l) gA)=(aD 12).map λi=>(aD 26).map λl=>false:=by kernel_rfl
theorem agb:(SG.map λs=>gO s gA)=SG.map λ_=>false:=by kernel_rfl
theorem Rx:∀c∈SG,c≠40/\c≠41:=by decide
theorem JO:∀c∈gA,c≠40/\c≠41/\c≠38:=by decide +kernel
theorem JP:∀i,i<12->∀l,l<26->dM i+l≠40/\dM i+l≠41/\dM i+l≠38:=by decide +kernel
section
variable {nm:List (List Nat)}{bg:List Nat}{td:List (Nat×Nat)}{x:List Nat}
theorem DS{i l:Nat}(hi:i<12)(hl:l<26)(hx:x.length<900):pF (θ:=θ) ⟨nm++[x],bg,td⟩ (dM i+l) ⟨nm++[x++[97+l]],bg,td⟩:=
 .sign (JP i hi l hl).1 (JP i hi l hl).2.1 (by show x.length+1<1000;lia) (.inr ⟨cV (cV aga (eR.mpr hi)) (eR.mpr hl),λdoc n st=>cV (cV (congrFun (congrFun (congrFun (congrFun afY θ) doc) n) st) (eR.mpr hi)) (eR.mpr hl)⟩)
theorem DT{s:Nat}(hs:s∈SG)(hx:x.length<900):pF (θ:=θ) ⟨nm++[x],bg,td⟩ s ⟨nm++[x++[s]],bg,td⟩:=
 .sign (Rx s hs).1 (Rx s hs).2 (by show x.length+1<1000;lia) (.inr ⟨cV agb hs,λdoc n st=>cV (congrFun (congrFun (congrFun (congrFun afZ θ) doc) n) st) hs⟩)
theorem JQ{u:Nat}(hu:u∈gA)(hx:x.length<900):pF (θ:=θ) ⟨nm++[x],bg,td⟩ u ⟨nm++[x],bg,td⟩:=by
 have:=pF.sign (θ:=θ) (nm:=nm) (bg:=bg) (td:=td) (x:=x) (c:=u) (e:=[]) (JO u hu).1 (JO u hu).2.1 (by show x.length+0<1000;lia) (.inl ⟨(BJ _ _).mpr hu,rfl⟩)
 rwa [fS]at this
theorem agc{l s u k:Nat}(hl:l<26)(hs:s∈SG)(hu:u∈gA)(h1:nm.length<800)(h2:bg.length<800)(h3:td.length<800):mx (θ:=θ) ⟨nm++[[]],bg,td⟩ (fG l [s] [u] k) ⟨nm++[[97+l,s]],bg,td⟩:=by
 have hd:k%12<12:=lX _ (by decide);have cn:∀{y z:List Nat} {c:Nat} {r:List Nat} {s':jz},pF (θ:=θ) ⟨nm++[y],bg,td⟩ c ⟨nm++[z],bg,td⟩->mx (θ:=θ) ⟨nm++[z],bg,td⟩ r s'->mx (θ:=θ) ⟨nm++[y],bg,td⟩ (c::r) s':=λa b=>.cons a (by simp;lia) (by lia) (by lia) b
 unfold fG;split
 ·exact cn (DS hd hl (by decide)) (cn (DT hs (by simp)) .nil)
 ·exact cn (JQ hu (by decide)) (cn (DS hd hl (by decide)) (cn (DT hs (by simp)) .nil))
 ·exact cn (DS hd hl (by decide)) (cn (JQ hu (by simp)) (cn (DT hs (by simp)) .nil))
 ·exact cn (DS hd hl (by decide)) (cn (DT hs (by simp)) (cn (JQ hu (by simp)) .nil))
end
noncomputable def dh(d:Dat)(y:Nat):List Nat:=[97+d.l y,d.s y]
def pG(d:Dat)(k:Nat):Tok->List Nat
 | .op=>[40]
 | .sh=>[41]
 | .nm y=>fG (d.l y) [d.s y] [d.u y] k
def wX(d:Dat)(k:Nat):Tok->List Nat
 | .op=>[40]
 | .sh=>[41]
 | .nm y=>fG (d.l y) (ib (d.s y) (k%5)) [d.u y] k
noncomputable def agd(N:Nat->List Nat)(s:jz)(t:Tok):Option jz:=match t with
 | .op=>some ⟨s.nm++[[]],s.bg++[s.nm.length],s.td⟩
 | .sh=>(match s.bg.getLast? with|some b=>some ⟨s.nm,s.bg.dropLast,s.td++[(b,s.nm.length)]⟩|none=>none)
 | .nm y=>(match aH y 5 with
  | true=>(match s.nm.getLast? with|some x=>(match x with|[]=>some ⟨s.nm.dropLast++[N y],s.bg,s.td⟩|_::_=>none)|none=>none)
  | false=>none)
noncomputable def DU(N:Nat->List Nat):List Tok->jz->Option jz
 | [],s=>some s
 | t::l,s=>af (agd N s t) (DU N l)
theorem Ry{α:Type}{l:List α}{x:α}(h:l.getLast?=some x):l=l.dropLast++[x]:=by
 obtain⟨ys,e⟩:=List.getLast?_eq_some_iff.mp h;subst e;exact ab (aqN) rfl
theorem age{d:Dat}(g:Good d){k:Nat}(l:List Tok):∀{s s':jz},DU (dh d) l s=some s'->s.nm.length+l.length<700->s.bg.length+l.length<700->s.td.length+l.length<700->mx (θ:=θ) s (l.flatMap (pG d k)) s':=by
 induction l with
 | nil=>intro s s' h _ _ _;refine bf h ?_;exact .nil
 | cons t l ih=>
  intro s s' h h1 h2 h3;rw[cH]at h1 h2 h3;obtain⟨nm,bg,td⟩:=s;refine ah (av h) λs1 e h0=>?_
  clear h
  have h:=h0
  clear h0
  refine ab (j0) ?_;induction t with
  | op=>
   cases e;exact .cons .Rs (by dsimp only at *;lia) (by dsimp only at *;lia) (by dsimp only at *;lia) (ih h (by simp at *;lia) (by simp at *;lia) (by simp at *;lia))
  | sh=>
   have e:(match bg.getLast? with|some b=>some (⟨nm,bg.dropLast,td++[(b,nm.length)]⟩:jz)|none=>none)=some s1:=e;induction q:bg.getLast? with
   | none=>rw[q]at e;exact au e
   | some b=>
    rw[q]at e;cases e
    have:=Ry q
    generalize bg.dropLast=bg' at this h ih
    subst this;exact .cons .Rt (by dsimp only at *;lia) (by dsimp only at *;lia) (by dsimp only at *;lia) (ih h (by simp at *;lia) (by simp at *;lia) (by simp at *;lia))
  | nm y=>
   have e:(match aH y 5 with
    | true=>(match nm.getLast? with|some x=>(match x with|[]=>some (⟨nm.dropLast++[dh d y],bg,td⟩:jz)|_::_=>none)|none=>none)
    | false=>none)=some s1:=e
   induction hy:aH y 5 with
   | false=>rw[hy]at e;exact au e
   | true=>
    have hy:=bF hy;rw[show aH y 5=true from cZ hy]at e;induction q:nm.getLast? with
    | none=>rw[q]at e;exact au e
    | some x=>
     rw[q]at e;induction x with
     | cons a x=>exact au e
     | nil=>
      cases e
      have:=Ry q
      generalize nm.dropLast=nm' at this h ih
      subst this;refine mx.app (agc (g.l y hy) (g.s y hy) (g.u y hy) (by simp at h1;lia) (by dsimp only at *;lia) (by dsimp only at *;lia)) (ih h (by simp at *;lia) (by dsimp only at *;lia) (by dsimp only at *;lia))
noncomputable def ke(r L u:Nat)(p:Pc):List Pc:=match r with
 | 0=>[.raw L,p]
 | 1=>[.raw u,.raw L,p]
 | 2=>[.raw L,.raw u,p]
 | _=>[.raw L,p,.raw u]
def qP(d:Dat)(k:Nat):Tok->List Pc
 | .op=>[.raw 40]
 | .sh=>[.raw 41]
 | .nm y=>ke ((k+d.l y)%4) (dM (k%12)+d.l y) (d.u y) (sJ (d.s y) (k%5))
noncomputable def JR:Tok->Bool
 | .nm y=>aH y 5
 | _=>true
theorem DW(c:Nat):(Pc.raw c).flat=[c]:=rfl
theorem DX(c:Nat):(Pc.raw c).fin=[c]:=rfl
theorem DY{d:Dat}(g:Good d){k:Nat}{t:Tok}(ht:JR t=true):(qP d k t).flatMap Pc.flat=wX d k t/\(qP d k t).flatMap Pc.fin=pG d k t/\(∀p∈qP d k t,wT p)/\(qP d k t).length<=3:=by
 induction t with
 | op=>exact⟨rfl,rfl,λp hp=>by rw[cO.mp hp];exact(by decide:(40:Nat)≠38),by show 1<=3;decide⟩
 | sh=>exact⟨rfl,rfl,λp hp=>by rw[cO.mp hp];exact(by decide:(41:Nat)≠38),by show 1<=3;decide⟩
 | nm y=>
  have hy:y<5:=bF ht;have hd:k%12<12:=lX _ (by decide);refine bP (afb (g.s y hy) (lX k (by decide:0<5))) λe1 e2 e3=>?_
  have d1:=(JP _ hd _ (g.l y hy)).2.2;have d2:=(JO _ (g.u y hy)).2.2;unfold qP wX pG fG;dsimp only;have h4:(k+d.l y)%4<4:=lX _ (by decide)
  generalize (k+d.l y)%4=r at h4
  rcases(by lia:r=0\/r=1\/r=2\/r=3)with q|q|q|q<;>subst q
  ·exact⟨by simp[ke,DW,e1],by simp[ke,DX,e2],by simp[ke];exact⟨d1,e3⟩,by simp[ke]⟩
  ·exact⟨by simp[ke,DW,e1],by simp[ke,DX,e2],by simp[ke];exact⟨d2,d1,e3⟩,by simp[ke]⟩
  ·exact⟨by simp[ke,DW,e1],by simp[ke,DX,e2],by simp[ke];exact⟨d1,d2,e3⟩,by simp[ke]⟩
  ·exact⟨by simp[ke,DW,e1],by simp[ke,DX,e2],by simp[ke];exact⟨d1,e3,d2⟩,by simp[ke]⟩
theorem agf{d:Dat}(g:Good d){k:Nat}{l:List Tok}(hl:l.length<200)(ht:∀t∈l,JR t=true):tZ wS (l.flatMap (wX d k))=some (l.flatMap (pG d k)):=by
 have e:∀{f:Pc->List Nat} {h:Tok->List Nat},(∀t∈l,(qP d k t).flatMap f=h t)->(l.flatMap (qP d k)).flatMap f=l.flatMap h:=fun{f h} hh=>by
  rw[List.flatMap_assoc]
  clear hl ht
  induction l with
  | nil=>rfl
  | cons t l ih=>rw[j0,j0,hh t bT,ih λu hu=>hh u (bL _ hu)]
 have eX:(l.flatMap (qP d k)).length<=3*l.length:=by
  clear hl e
  induction l with
  | nil=>exact tE _
  | cons t l ih=>
   rw[j0,cS,cH]
   have:=(DY g (k:=k) (ht t bT)).2.2.2
   have:=ih λu hu=>ht u (bL _ hu)
   lia
 have:=aeZ (ps:=l.flatMap (qP d k)) (λp hp=>ah (arf.mp hp) λt h1 h2=>(DY g (ht t h1)).2.2.1 p h2) (by lia)
 rwa [e λt h=>(DY g (ht t h)).1,e λt h=>(DY g (ht t h)).2.1]at this
end
noncomputable def sK:Nat->List (List Bool)
 | 0=>[[]]
 | n+1=>(sK n).map (false::·)++(sK n).map (true::·)
theorem zJ{n:Nat}:∀{l:List Bool},l.length=n->l∈sK n:=by
 induction n with
 | zero=>intro l h;exact ab (U2 h) (cO.mpr rfl)
 | succ n ih=>
  intro l h;induction l with
  | nil=>cases h
  | cons b l=>
   have:=ih (l:=l) (vm.inj h)
   induction b with
   | false=>exact jF _ (dF.mpr ⟨l,this,rfl⟩)
   | true=>exact mF _ (dF.mpr ⟨l,this,rfl⟩)
def agg(bl:List Bool):List (Nat×Nat):=match DU (λ_=>[0]) (kE (bt bl)) ⟨[],[],[]⟩with|some s=>s.td|none=>[]
def fX(bl:List Bool):List (Nat×Nat):=(agg bl).dropLast.map λp=>(p.1-1,p.2-1)
noncomputable def oF(p:Nat×Nat):Nat×Nat:=(p.1+1,p.2+1)
theorem agh:(λN:Nat->List Nat=>(sK 10).map λbl=>DU N (kE (bt bl)) ⟨[],[],[]⟩)=λN=>(sK 10).map λbl=>some ⟨[[],N 0,N 1,N 2,N 3,N 4],[],(fX bl).map oF++[(0,6)]⟩:=by kernel_rfl
def JS(bl:List Bool):Bool:=(kE (bt bl)).all JR&&(aH (kE (bt bl)).length 30&&((fX bl).all (λp=>aH p.1 p.2&&fT p.2 5)&&aG (fX bl).length 5))
theorem JT:(sK 10).all JS=true:=by kernel_rfl
theorem agi(L:List (List Nat)):rK [.c 32] (L.map λx=>.str (ao x))=some (ao (eZ [32] L)):=by
 induction L with
 | nil=>rfl
 | cons x L ih=>
  refine(bx (z:=ao x) rfl).trans ((bx ih).trans ?_);induction L with
  | nil=>rfl
  | cons y L=>show some (ao x++([At.c 32]++ao (eZ [32] (y::L))))=some (ao (x++([32]++eZ [32] (y::L))));rw[qO];rfl
theorem HJ{L:List (List Nat)}(h:∀x∈L,x.length<=2):(eZ [32] L).length<=3*L.length:=by
 induction L with
 | nil=>exact tE _
 | cons x L ih=>
  have h1:=h x bT;have h2:=ih λy hy=>h y (bL _ hy)
  induction L with
  | nil=>show x.length<=3;lia
  | cons y L=>
   show(x++([32]++eZ [32] (y::L))).length<=_
   rw[cS,cS]
   have:([32]:List Nat).length=1:=rfl
   have:(x::y::L).length=(y::L).length+1:=rfl
   lia
def dD(d:Dat)(x e:Nat):List Nat:=eZ [32] ((((aD 5).map (dh d)).take e).drop x)
def oG(d:Dat)(p:Nat×Nat):V:=.str (ao (dD d p.1 p.2))
section
variable {θ:Th}{T:Tb}{K:bb}{fr:Fr}{st:St}
theorem Rz{c:Cd}{L:List (List Nat)}(hc:Ev c K fr st (.fl (L.map λx=>.str (ao x))))(h:∀x∈L,x.length<=2)(hl:L.length<=6):Ev (bG T (aX [.c 32]) [106,111,105,110] [c]) K fr st (.str (ao (eZ [32] L))):=by
 refine uD (q:=none) (u:=.str [.c 32]) rfl rfl (iM hc) ?_
 show bv (lC [.c 32]) (eB (bv true (match true with|true=>af (gN (.fl (L.map λx=>.str (ao x))) st) (tT [.c 32])|false=>none)) st)=_
 refine dI rfl (jT (dI rfl ?_))
 show tT [.c 32] (L.map λx=>.str (ao x))=_
 have:=HJ h
 exact dI (by rw[j9 (by rw[cK];lia)];rfl) ((bx (agi L)).trans (DJ (by rw[mw];lia)))
theorem RA(d:Dat)(L:List Nat):∀x∈L.map (dh d),x.length<=2:=λx hx=>ah (dF.mp hx) λy _ e=>by subst e;exact dr 2
theorem agj{l:List V}{a b:Nat}(ha:a<=l.length)(hb:b<=l.length)(hl:l.length<4000):A3 l (some (iN a)) (some (iN b))=some ((l.take b).drop a):=by
 have h:∀{k:Nat},k<=l.length->yk l.length (iN k)=some k:=fun{k} hk=>dI (wQ (Aq k) (by show(k:Int)<_;lia)) (congrArg some (tD hk))
 show af (yk l.length (iN a)) (λa=>af (yk l.length (iN b)) λb=>some ((l.take b).drop a))=_
 rw[h ha,h hb];rfl
theorem sL{l:List V}(h:l.length<4000):jJ l=some (.fl l):=by
 show(match dZ l with|true=>some (V.fl l)|false=>none)=_
 exact ab (j9 h) rfl
theorem BQ{u:V}{l:List V}{a b:Nat}(hu:gN u st=some l)(ha:a<=l.length)(hb:b<=l.length)(hl:l.length<4000):iX u (some (iN a)) (some (iN b)) st=some (.fl ((l.take b).drop a)):=
 (bx hu).trans (dI (j9 hl) ((bx (agj ha hb hl)).trans (sL (by rw[tv,lr];lia))))
theorem agk(T:Tb)(st:St)(l:List (List Nat)):hJ (dH T st 11) (l.map λx=>.str (ao x))=some (l.map λx=>.str (ao x)):=by
 induction l with
 | nil=>rfl
 | cons x l ih=>exact(bx (z:=V.str (ao x)) rfl).trans ((bx ih).trans rfl)
theorem agl(T:Tb):(wN T).body=aE (aP (.tup [(.bi 0),(.loc 1),(.loc 2)]) (bI [(dn true []),(dn true []),(dn true [])])) (aE (vN 0 3 4 wS) (aE (eW (.loc 4) (ce (ae 0)) (zo T))
  (dq (bR false (.tup [(.loc 1),(.loc 2)]) (ce (fC (ae 2) none (some (aj (-1))))) (bE (bG T (aX [.c 32]) [106,111,105,110] [(fC (aq 0) (some (ae 1)) (some (ae 2)))])) 3 0 [0])))):=by kernel_rfl
theorem agm{d:Dat}{els:List (Nat×Nat)}(h1:∀p∈els,p.1<p.2/\p.2<=5)(h2:els.length<900){x:V}{m c hd:Option V} :
  Ev (bR false (.tup [(.loc 1),(.loc 2)]) (ce (fC (ae 2) none (some (aj (-1))))) (bE (bG T (aX [.c 32]) [106,111,105,110] [(fC (aq 0) (some (ae 1)) (some (ae 2)))])) 3 0 [0]) K (eE x m c hd)
   (ig ⟨[[],dh d 0,dh d 1,dh d 2,dh d 3,dh d 4],[],els.map oF++[(0,6)]⟩) (.fl (els.map (oG d))):=by
 generalize dR:ig ⟨[[],dh d 0,dh d 1,dh d 2,dh d 3,dh d 4],[],els.map oF++[(0,6)]⟩=st
 have hn:st.get 0=some (.list (([]::(aD 5).map (dh d)).map λx=>.str (ao x))):=by subst dR;rfl
 have ht:st.get 2=some (.list ((els.map oF++[(0,6)]).map oA)):=by subst dR;rfl
 have lG:iX (.loc 2) none (some (.int (-1))) st=some (.fl (els.map λp=>oA (oF p))):=by
  show af (af (st.get 2) A0) (λl=>bv (dZ l) (af (A3 l none (some (.int (-1)))) jJ))=_
  refine ab (ht) ?_;have hl:((els.map oF++[(0,6)]).map oA).length=els.length+1:=by simp
  refine dI (j9 (by rw[hl];lia)) ?_
  show af (af (some 0) λa=>af (bv true (some (((els.map oF++[(0,6)]).map oA).length-1-0))) λb=>some (((((els.map oF++[(0,6)]).map oA).take b).drop a))) jJ=_
  refine ab (hl) ?_
  show jJ (((els.map oF++[(0,6)]).map oA).take els.length)=_
  rw[mE,Vb (by simp),LQ (by simp),kO];exact sL (by simp;lia)
 have key:=Js (K:=K) (st:=st) (t:=.tup [.loc 1,.loc 2]) (g:=bE (bG T (aX [.c 32]) [106,111,105,110] [(fC (aq 0) (some (ae 1)) (some (ae 2)))])) (λp:Nat×Nat=>oA (oF p)) (λp=>⟨[none,some (iN (p.1+1)),some (iN (p.2+1))],[some (.loc 0)]⟩) (λfr=>∃a b,fr=⟨[none,a,b],[some (.loc 0)]⟩) (λp=>[oG d p]) (λ_=>dr _) els
  (λp hp=>⟨⟨_,_,rfl⟩,λfr y=>fL y λa b e=>by subst e;rfl,DI ?_⟩) [] ⟨[none,none,none],[some (.loc 0)]⟩ (by simp;lia) ⟨none,none,rfl⟩
 ·refine xE key λbc e=>?_
  have:=Jt (K:=K) (st:=st) (fr:=eE x m c hd) (t:=.tup [.loc 1,.loc 2]) (i:=ce (fC (ae 2) none (some (aj (-1))))) (g:=bE (bG T (aX [.c 32]) [106,111,105,110] [(fC (aq 0) (some (ae 1)) (some (ae 2)))])) (nl:=3) (nc:=0) (free:=[0]) (ff (Jq (v:=.int (-1)) (ba rfl) rfl lG) rfl) rfl e (by have:=Ju (f:=λp=>[oG d p]) (λ_=>dr _) els;lia)
  rwa [Jv]at this
 ·refine xA (h1 p hp) λp1 p2=>?_
  have hs:Ev (fC (aq 0) (some (ae 1)) (some (ae 2))) K ⟨[none,some (iN (p.1+1)),some (iN (p.2+1))],[some (.loc 0)]⟩ st (.fl (((((aD 5).map (dh d)).take p.2).drop p.1).map λx=>.str (ao x))):=by
   refine Q7 (aV rfl) (ba rfl) (ba rfl) ?_;refine(BQ (u:=.loc 0) (l:=([]::(aD 5).map (dh d)).map λx=>.str (ao x)) ((bx hn).trans rfl) (by simp;lia) (by simp;omega) (by simp)).trans ?_;rw[<-Au,<-Fo];rfl
  exact Rz hs (λy hy=>RA d _ y (xM (LK hy))) (by rw[tv,lr,cK,tw];lia)
theorem agn{doc:List V->Option V}{d:Dat}(g:Good d){n k:Nat}{bl:List Bool}(hb:bl.length=10):KA θ doc (n+2) (.bh 20) [.str (ao ((kE (bt bl)).flatMap (wX d k)))] st=some (.fl ((fX bl).map (oG d)),st):=by
 have hm:=zJ hb;have hi:=eh.mp JT bl hm;have i1:=eh.mp (a1 hi);have i2:=bF (a1 (a2 hi));have i3:=eh.mp (a1 (a2 (a2 hi)));have i4:=dj (a2 (a2 (a2 hi)));have hr:=cV (congrFun agh (dh d)) hm;have ot:=age (θ:=θ) g (k:=k) (kE (bt bl)) hr (by show 0+_<700;lia) (by show 0+_<700;lia) (by show 0+_<700;lia)
 generalize io:(⟨[[],dh d 0,dh d 1,dh d 2,dh d 3,dh d 4],[],(fX bl).map oF++[(0,6)]⟩:jz)=s' at ot
 generalize hx:(kE (bt bl)).flatMap (wX d k)=xs
 have Im:=hx▸agf g (by lia) i1
 show rS (T1 θ) (KA θ doc (n+1)) (wN (T1 θ)) [.str (ao xs)] st=_
 refine dI rfl ((bx (z:=(⟨[some (.str (ao xs)),none,none,none,none,none],[none]⟩:Fr)) rfl).trans ?_);rw[agl];have s1:Sv (aP (.tup [(.bi 0),(.loc 1),(.loc 2)]) (bI [(dn true []),(dn true []),(dn true [])])) (KA θ doc (n+1)) ⟨[some (.str (ao xs)),none,none,none,none,none],[none]⟩ dm (eE (.str (ao xs)) none none none) (ig ⟨[],[],[]⟩):=rfl;have s2:Sv (vN 0 3 4 wS) (KA θ doc (n+1)) (eE (.str (ao xs)) none none none) (ig ⟨[],[],[]⟩) (eE (.str (ao ((kE (bt bl)).flatMap (pG d k)))) (some (.str (ao [38,97,109,112,59]))) (some (.str (ao [38]))) none) (ig ⟨[],[],[]⟩):=
  (bz (ba (K:=KA θ doc (n+1)) (i:=0) (v:=.str (ao xs)) rfl)).trans ((bx (z:=ao xs) rfl).trans ((bx (qE xs)).trans ((bx Im).trans rfl)))
 refine fL (afX (doc:=doc) (n:=n) (x:=.str (ao ((kE (bt bl)).flatMap (pG d k)))) (m:=some (.str (ao [38,97,109,112,59]))) ot (some (.str (ao [38]))) none) λc' ip e=>?_
 have s3:Sv (eW (.loc 4) (ce (ae 0)) (zo (T1 θ))) (KA θ doc (n+1)) (eE (.str (ao ((kE (bt bl)).flatMap (pG d k)))) (some (.str (ao [38,97,109,112,59]))) (some (.str (ao [38]))) none) (ig ⟨[],[],[]⟩) (eE (.str (ao ((kE (bt bl)).flatMap (pG d k)))) (some (.str (ao [38,97,109,112,59]))) c' ip) (ig s'):=
  (bz (ff (s:=.vals (((kE (bt bl)).flatMap (pG d k)).map fu)) (ba rfl) (by show af (tP (ao _)) _=_;rw[Rl];rfl))).trans e
 have s4:=uH (K:=KA θ doc (n+1)) (agm (T:=T1 θ) (K:=KA θ doc (n+1)) (d:=d) (els:=fX bl) (x:=.str (ao ((kE (bt bl)).flatMap (pG d k)))) (m:=some (.str (ao [38,97,109,112,59]))) (c:=c') (hd:=ip) (λp hp=>⟨bF (a1 (i3 p hp)),bF (a2 (i3 p hp))⟩) (by lia));rw[io]at s4;refine(fQ ((dS s1).trans ((dS s2).trans ((dS s3).trans s4)))).trans ?_
 show eB (af (hJ (dH (T1 θ) _ 11) ((fX bl).map (oG d))) λl=>some (V.fl l)) st=_
 have:=agk (T1 θ) (ig s') ((fX bl).map λp=>dD d p.1 p.2)
 rw[kO]at this;refine ab (show hJ (dH (T1 θ) (ig s') 11) ((fX bl).map (oG d))=some ((fX bl).map (oG d)) from this) ?_
 rfl
end
def dO(d:Dat):V:=.fl (lsN 5 (dg d))
def qQ(d:Dat)(bl:List Bool)(k:Nat):List Nat:=(kE (bt bl)).flatMap (wX d k)
noncomputable def bOf(v:V):Bool:=match v with|.bool b=>b|_=>true
noncomputable def RB(v:V):List V:=match v with|.fl l=>l|_=>[]
def JU(m:V):List Bool:=ee λx y=>bOf ((RB ((RB m).getD x .none)).getD y .none)
inductive zK(d:Dat):List V->Prop
 | lf (f:Nat->Nat->Bool) (k:Nat):k<10000000000000->zK d [dO d,eG f,jU,iN k]
 | dp (dp:List Nat) (w:Nat->Nat->Bool) (k:Nat):k<10000000000000->dp∈DV 4->zK d [dO d,DR (oC dp) w,eG (zI dp),iN k]
def JV(vs:List V):Nat:=match vs with|[_,_,_,.int k]=>jK k|_=>0
open Classical in
def kf(d:Dat)(vs:List V):Option V:=if zK d vs then some (.str (ao (qQ d (JU (vs.getD 1 .none)) (JV vs))))else none
noncomputable section
variable {θ:Th}{d:Dat}{st:St}{n:Nat}
abbrev KT(θ:Th)(d:Dat):Nat->bb:=KA θ (kf d)
theorem RD{vs:List V}(h:zK d vs):KT θ d (n+1) (.bh 19) vs st=some (.str (ao (qQ d (JU (vs.getD 1 .none)) (JV vs))),st):=by
 show(match kf d vs with|some v=>some (v,st)|none=>_)=_
 unfold kf;exact ab (if_pos h) rfl
theorem RE(f:Nat->Nat->Bool){k:Nat}(hk:k<10000000000000):KT θ d (n+1) (.bh 19) [dO d,eG f,jU,iN k] st=some (.str (ao (qQ d (ee f) k)),st):=RD (.lf f k hk)
theorem ago(dp:List Nat)(w:Nat->Nat->Bool){k:Nat}(hk:k<10000000000000)(h:dp∈DV 4):KT θ d (n+1) (.bh 19) [dO d,DR (oC dp) w,eG (zI dp),iN k] st=some (.str (ao (qQ d (ee (oC dp)) k)),st):=RD (.dp dp w k hk h)
theorem JW(g:Good d)(f:Nat->Nat->Bool){k:Nat}:KT θ d (n+2) (.bh 20) [.str (ao (qQ d (ee f) k))] st=some (.fl ((fX (ee f)).map (oG d)),st):=agn g rfl
def oH(d:Dat)(x:Nat):List Nat:=fG (d.l x) [d.s x] [d.u x] d.pg
def oJ(d:Dat)(x:Nat):Tx:=ao (d.lead x++oH d x)
def nr(d:Dat)(x:Nat):V:=k7 (oJ d x) (ie (d.lead x))
noncomputable def JX(z:Bool)(u v:V):V:=match z with|true=>u|false=>v
def nu(d:Dat)(x y:Nat):V:=JX (aH x y) (.fl (DP (d.lead x) (d.lead y))) (.fl [])
theorem agp:∀w∈fF,w.length<=4:=by decide +kernel
theorem agq:∀w∈fF,w∈uK:=λw h=>jF _ h
theorem RG(l:Nat)(hl:l<26)(s u k:Nat)(hu:u∈gA):∃c r,fG l [s] [u] k=c::r/\c≠32/\c≠9/\r.length<=2:=by
 have hd:k%12<12:=lX _ (by decide);have h1:=(by decide +kernel:∀i,i<12->∀l,l<26->dM i+l≠32/\dM i+l≠9) _ hd l hl;have h2:=(by decide +kernel:∀u∈gA,u≠32/\u≠9) u hu;unfold fG;split
 ·exact pf _ _ rfl h1.1 h1.2 (by simp)
 ·exact pf _ _ rfl h2.1 h2.2 (by simp)
 ·exact pf _ _ rfl h1.1 h1.2 (by simp)
 ·exact pf _ _ rfl h1.1 h1.2 (by simp)
theorem RH(g:Good d){x:Nat}(hx:x<5):(oH d x).length<=3:=lZ (RG (d.l x) (g.l x hx) (d.s x) (d.u x) d.pg (g.u x hx)) λc r e _ _ h=>by unfold oH;rw[e,cH];lia
theorem agr(g:Good d){x k:Nat}(hx:x<5)(hk:k<100000000000000):KT θ d (n+1) (.bh 15) [dg d x,iN k] st=some (.str (ao (fG (d.l x) [d.s x] [d.u x] k)),st):=by
 rw[<-Jz];exact JA (a:=.str (ao (d.lead x))) rfl (g.l x hx) hk (Ay (xR _)) (Ay (xR _))
theorem RI(g:Good d){x:Nat}(hx:x<5){l:List Nat}(hl:l∈uK):KT θ d (n+1) (.bh 1) [.str (ao (l++oH d x))] st=some (k7 (ao (l++oH d x)) (ie l),st):=
 lZ (RG (d.l x) (g.l x hx) (d.s x) (d.u x) d.pg (g.u x hx)) λc r e h1 h2 _=>by
  unfold oH;refine ab (e) ?_;exact aey hl h1 h2
theorem ags(g:Good d){x y:Nat}(hx:x<5)(hy:y<5):KT θ d (n+2) (.bh 105) [nr d x,nr d y] st=some (.fl (DP (d.lead x) (d.lead y)),st):=
 cV (cV (congrFun (congrFun (congrFun (congrFun (congrFun (congrFun aeE θ) (kf d)) n) st) (oJ d x)) (oJ d y)) (g.lead x hx)) (g.lead y hy)
theorem agt(g:Good d){x:Nat}(hx:x<5):KT θ d (n+1) (.bh 101) [nr d x] st=some (iN (jy (d.lead x)),st):=
 cV (congrFun (congrFun (congrFun (congrFun (congrFun JH θ) (kf d)) n) st) (oJ d x)) (g.lead x hx)
theorem agu(g:Good d){x k:Nat}(hx:x<5)(hk:k<5):KT θ d (n+1) (.bh 102) [nr d x,iN (k+1)] st=some (iN (gT (d.lead x) (k+1)),st):=
 cV (cV (congrFun (congrFun (congrFun (congrFun (congrFun aeB θ) (kf d)) n) st) (oJ d x)) (g.lead x hx)) (eR.mpr hk)
theorem agv(g:Good d){x y:Nat}(hx:x<5)(hy:y<5):KT θ d (n+2) (.bh 104) [nr d x,nr d y] st=some (.bool (sI (d.lead x) (d.lead y)),st):=
 cV (cV (congrFun (congrFun (congrFun (congrFun (congrFun (congrFun aeD θ) (kf d)) n) st) (oJ d x)) (oJ d y)) (g.lead x hx)) (g.lead y hy)
theorem agw(g:Good d){x y:Nat}(hx:x<5)(hy:y<5):KT θ d (n+1) (.bh 103) [nr d x,nr d y] st=some (.bool (JI (d.lead x) (d.lead y)),st):=
 cV (cV (congrFun (congrFun (congrFun (congrFun (congrFun (congrFun aeC θ) (kf d)) n) st) (oJ d x)) (oJ d y)) (g.lead x hx)) (g.lead y hy)
noncomputable def cj(D:List (Tx×V)):St:=⟨[.dict D],1⟩
def kF(d:Dat):V:=.fl (lsN 5 λx=>.str (ao (oH d x)))
def jA(d:Dat):V:=.fl (lsN 5 (nr d))
def ii(d:Dat):V:=.fl (lsN 5 λx=>.fl (lsN 5 (nu d x)))
def gr(d:Dat):V:=.fl (lsN 5 λx=>iN (jy (d.lead x)))
theorem cY{k:Nat}(h:k∈aD 5):k<5:=eR.mp h
theorem jB{K:bb}{fr:Fr}:Iv (dT (aj 5)) K fr st (.vals ((aD 5).map iN)):=zx (u:=.int 5) rfl rfl
section
variable {C L:List (Option V)}{a:Cd}
theorem agx(g:Good d)(h0:C[0]?=some (some (dO d)))(h1:C[1]?=some (some (iN d.pg))):zp (T1 θ) (KT θ d (n+1)) ⟨L,C⟩ dm=some (.tup [kF d,.loc 0,jU],cj []):=by
 have e1:Ev (bR false (.loc 1) (ce (aq 0)) (bE (du (cF 15) [(ae 1),(aq 0)])) 2 0 [1]) (KT θ d (n+1)) ⟨L,C⟩ dm (kF d):=
  jc (ks:=aD 5) (G:=dg d) (C:=[some (iN d.pg)]) (ff (aV h0) rfl) (by show af C[1]? _=_;rw[h1];rfl) (by decide) λk hk=>jx (u:=.bh 15) rfl (gS (ba rfl) (aV rfl)) (agr g (cY hk) (by have:=g.pg;lia))
 have e2:gl (KT θ d (n+1)) ⟨L,C⟩ [(bR false (.loc 1) (ce (aq 0)) (bE (du (cF 15) [(ae 1),(aq 0)])) 2 0 [1]),(nV true),(aK .mul (dn false [(aK .mul (dn false [pq]) (aj 5))]) (aj 5))] dm=some ([kF d,.loc 0,jU],cj []):=(bz e1).trans rfl
 show bk (gl _ _ _ _) _=_
 rw[e2];rfl
theorem agy(g:Good d)(h0:C[0]?=some (some (dO d)))(h2:C[2]?=some (some (kF d))):Ev (CW (T1 θ)) (KT θ d (n+1)) ⟨L,C⟩ st (jA d):=
 jc (ks:=aD 5) (G:=iN) (C:=[some (dO d),some (kF d)]) jB (by show af C[0]? _=_;rw[h0];show af (af C[2]? _) _=_;rw[h2];rfl) (by decide) λk hk=>by
  have hk:=cY hk;have hl:=agp _ (g.lead k hk);have ht:=RH g hk
  have:Ev (aK .add (aJ (T1 θ) (aJ (T1 θ) (aq 0) (ae 1)) (aj 0)) (aJ (T1 θ) (aq 1) (ae 1))) (KT θ d (n+1)) ⟨[none,some (iN k)],[some (dO d),some (kF d)]⟩ st (.str (oJ d k)):=by
   unfold oJ;rw[qO];exact d6 (cR (cR (aV rfl) (ba rfl) (gz hk (by decide))) rfl rfl) (cR (aV rfl) (ba rfl) (gz hk (by decide))) (zw (by rw[mw,mw];lia))
  exact jx (u:=.bh 1) rfl (iM this) (RI g hk (agq _ (g.lead k hk)))
theorem DZ{K:bb}{fr:Fr}{b:Cd}{x y:Nat}(ha:Ev a K fr st (iN x))(hb:Ev b K fr st (iN y)):Tv (bq (T1 θ) .lt a b) K fr st (aH x y):=
 j8 ha hb (by
  show some (decide ((x:Int)<(y:Int)))=_
  congr 1
  rw[ro,decide_eq_true_iff];exact⟨λh=>cZ (nH.mp h),λh=>nH.mpr (bF h)⟩)
theorem RJ{K:bb}{fr:Fr}{t:Ct}{z:Bool}{p q:Cd}{u v:V}(h:Tv t K fr st z)(hp:z=true->Ev p K fr st u)(hq:z=false->Ev q K fr st v):Ev (jp t p q) K fr st (JX z u v):=by
 induction z with
 | true=>exact DF h (hp rfl)
 | false=>exact Jp h (hq rfl)
theorem D0{K:bb}{fr:Fr}{o:Cd}{cs:List Cd}{l:List (Tx×V)}{vs:List V}{nm:List Nat}{f:Nat}{r:V}(ho:Ev o K fr st (.ins l))(hs:Es cs K fr st vs)(hm:(T1 θ).l9 nm=some f)(hk:K (.bh f) (.ins l::vs) st=some (r,st)):Ev (bG (T1 θ) o nm cs) K fr st r:=
 uD (q:=none) ho rfl hs ((bx hm).trans hk)
theorem agz(g:Good d)(h5:C[5]?=some (some (jA d))):Ev (CX (T1 θ)) (KT θ d (n+2)) ⟨L,C⟩ st (ii d):=
 iO (ks:=aD 5) (G:=iN) (C:=[some (jA d)]) jB (by show af C[5]? _=_;rw[h5];rfl) (by simp) λx hx=>
  jc (ks:=aD 5) (G:=iN) (C:=[some (jA d),some (iN x)]) (f:=nu d x) jB rfl (by simp) λy hy=>
   RJ (DZ (aV rfl) (ba rfl)) (λ_=>D0 (cR (aV rfl) (aV rfl) (gz (cY hx) (by decide))) (iM (cR (aV rfl) (ba rfl) (gz (cY hy) (by decide)))) rfl (ags g (cY hx) (cY hy))) λ_=>zv uC rfl
theorem agA(g:Good d)(h5:C[5]?=some (some (jA d))):Ev (CY (T1 θ)) (KT θ d (n+1)) ⟨L,C⟩ st (gr d):=
 jc (ks:=aD 5) (G:=nr d) (C:=[]) (ff (aV h5) rfl) rfl (by decide) λx hx=>D0 (ba rfl) uC rfl (agt g (cY hx))
end
end
end Internal.L1
namespace Internal.L1
open Internal Internal.L2
theorem D2(θ:Th)(a:List Nat):∀b:List Nat,jI (T1 θ) (ao a) (ao b)=some (bw a b):=by
 induction a with
 | nil=>
  intro b;induction b with
  | nil=>rfl
  | cons y b=>rfl
 | cons x a ih=>
  intro b;induction b with
  | nil=>rfl
  | cons y b=>
   show(match aG x y with|true=>jI (T1 θ) (ao a) (ao b)|false=>rD (cX (aG x y)))=some (aG x y&&bw a b)
   induction e:aG x y with
   | true=>exact ih b
   | false=>rfl
abbrev Dm:=List (List Nat×Nat)
def dV(e:List Nat×Nat):Tx×V:=(ao e.1,iN e.2)
noncomputable def kg:Dm->List Nat->Option Nat
 | [],_=>none
 | e::r,x=>match bw e.1 x with|true=>some e.2|false=>kg r x
noncomputable def nv:Dm->List Nat->Nat->Dm
 | [],x,n=>[(x,n)]
 | e::r,x,n=>match bw e.1 x with|true=>(e.1,n)::r|false=>e::nv r x n
def bump(D:Dm)(x:List Nat):Dm:=nv D x ((kg D x).getD 0+1)
theorem JY(θ:Th)(D:Dm)(x:List Nat):pj (T1 θ) (ao x) (D.map dV)=some ((kg D x).map iN):=by
 induction D with
 | nil=>rfl
 | cons e r ih=>
  refine(bx (D2 θ e.1 x)).trans ?_
  show _=some ((match bw e.1 x with|true=>some e.2|false=>kg r x).map iN)
  induction bw e.1 x with
  | true=>rfl
  | false=>exact ih
theorem RK(θ:Th)(D:Dm)(x:List Nat)(n:Nat):pk (T1 θ) (ao x) (iN n) (D.map dV)=some ((nv D x n).map dV):=by
 induction D with
 | nil=>rfl
 | cons e r ih=>
  refine(bx (D2 θ e.1 x)).trans ?_
  show _=some ((match bw e.1 x with|true=>(e.1,n)::r|false=>e::nv r x n).map dV)
  induction bw e.1 x with
  | true=>rfl
  | false=>exact vY ih rfl
theorem wY(D:Dm)(x:List Nat)(n:Nat):(nv D x n).length<=D.length+1:=by
 induction D with
 | nil=>exact dr _
 | cons e r ih=>
  show(match bw e.1 x with|true=>(e.1,n)::r|false=>e::nv r x n).length<=_
  induction bw e.1 x with
  | true=>exact pU _
  | false=>exact Fv ih
noncomputable section
variable {θ:Th}{d:Dat}{K:bb}{n:Nat}
section
variable {C:List (Option V)}{o0 o1:Option V}{R:List (Option V)}
theorem agB(h3:C[3]?=some (some (.loc 0))){D:Dm}(hD:D.length<900){x:List Nat}(hc:(kg D x).getD 0<900):Sv (CZ (T1 θ)) K ⟨o0::some (.str (ao x))::R,C⟩ (cj (D.map dV)) ⟨o0::some (.str (ao x))::R,C⟩ (cj ((bump D x).map dV)):=by
 have e1:Ev (bG (T1 θ) (aq 3) [103,101,116] [(ae 1),(aj 0)]) K ⟨o0::some (.str (ao x))::R,C⟩ (cj (D.map dV)) (iN ((kg D x).getD 0)):=by
  refine uD (q:=none) (u:=.loc 0) (aV h3) rfl (gS (ba rfl) rfl) ?_
  show eB (bv true (af (pj (T1 θ) (ao x) (D.map dV)) λr=>match r with|some v=>some v|none=>some (.int 0))) _=_
  rw[JY];induction kg D x<;>rfl
 have e2:=d6 (b:=aj 1) e1 rfl (DG (x:=(((kg D x).getD 0:Nat):Int)) (y:=1) (by lia) (by lia));refine(bz e2).trans ((bz (aV h3)).trans ((bz (ba (K:=K) (v:=.str (ao x)) rfl)).trans ?_))
 have:rP (T1 θ) (.loc 0) (.str (ao x)) (iN ((kg D x).getD 0+1)) (cj (D.map dV))=some (cj ((bump D x).map dV)):=by
  show af (pk (T1 θ) (ao x) (iN ((kg D x).getD 0+1)) (D.map dV)) (λl'=>bv (aH l'.length 1000) (some ((cj (D.map dV)).set 0 (.dict l'))))=_
  rw[RK];refine dI (cZ ?_) rfl
  have:=wY D x ((kg D x).getD 0+1)
  rw[cK];lia
 exact(congrArg (rQ _) this).trans rfl
theorem RL{B:Nat}{D:Dm}(h:∀e∈D,e.2<=B)(x:List Nat):(kg D x).getD 0<=B:=by
 induction D with
 | nil=>exact tE _
 | cons e r ih=>
  show(match bw e.1 x with|true=>some e.2|false=>kg r x).getD 0<=B
  induction bw e.1 x with
  | true=>exact h e bT
  | false=>exact ih λa ha=>h a (bL _ ha)
theorem RM{B:Nat}{D:Dm}(h:∀e∈D,e.2<=B)(x:List Nat){n:Nat}(hn:n<=B):∀e∈nv D x n,e.2<=B:=by
 induction D with
 | nil=>intro e he;exact ab (cO.mp he) hn
 | cons a r ih=>
  have e:nv (a::r) x n=match bw a.1 x with|true=>(a.1,n)::r|false=>a::nv r x n:=rfl
  refine ab (e) ?_;induction bw a.1 x with
  | true=>exactλe he=>(cW.mp he).elim (λq=>q▸hn) λq=>h e (bL _ q)
  | false=>exactλe he=>(cW.mp he).elim (λq=>q▸h a bT) λq=>ih (λb hb=>h b (bL _ hb)) e q
theorem agC(h3:C[3]?=some (some (.loc 0))):∀(ks:List (List Nat)) (D:Dm) (B:Nat) (o1:Option V),(∀e∈D,e.2<=B)->D.length+ks.length<800->B+ks.length<800 ->
  ∃gC,iI K (.loc 1) (CZ (T1 θ)) (ks.map λx=>.str (ao x)) ⟨o0::o1::R,C⟩ (cj (D.map dV))=some (.next,⟨o0::gC::R,C⟩,cj ((ks.foldl bump D).map dV))/\(gC=o1\/∃x,gC=some (.str x)):=by
 intro ks;induction ks with
 | nil=>exactλD B o1 _ _ _=>⟨o1,rfl,.inl rfl⟩
 | cons x ks ih=>
  intro D B o1 hB h1 h2;rw[cH]at h1 h2;have hg:=RL hB x;refine ah (ih (bump D x) (B+1) (some (.str (ao x))) (RM (λe he=>Ve (hB e he)) x (by lia)) (by have:=wY D x ((kg D x).getD 0+1);unfold bump;lia) (by lia)) λgC e q=>⟨gC,?_,.inr (q.elim (λq=>⟨_,q⟩) id)⟩
  exact(bx (z:=(⟨o0::some (.str (ao x))::R,C⟩:Fr)) rfl).trans ((fQ (agB h3 (by lia) (by lia))).trans e)
end
def cL(d:Dat)(k x:Nat):Nat:=gT (d.lead x) k
def fw(d:Dat)(k x y:Nat):Bool:=aH (cL d k x) (cL d k y)
def qR(a b:List Nat):List Nat:=(aD (max (jy a) (jy b)+1)).filter λk=>fT (gT b (k+1)) (gT a (k+1))
def zL(a b:List Nat)(k:Nat):V:=.tup [iN (k+1),iN (gT a (k+1)),iN (gT b (k+1))]
def wZ(d:Dat)(k x y:Nat):Bool:=match aH x y with|true=>fw d k x y|false=>true
def JZ(a b:List Nat)(k:Nat):Nat:=min k (max (jy a) (jy b)+1)
theorem agD:(fF.map λa=>fF.map λb=>[2,4].map λk=>((qR a b).filter λj=>aG (j+1) (JZ a b k)).isEmpty)=fF.map λa=>fF.map λb=>[2,4].map λk=>aH (gT a k) (gT b k):=by kernel_rfl
section
variable {C L:List (Option V)}{st:St}
theorem agE(g:Good d){k:Nat}(hk:k<5)(h5:C[5]?=some (some (jA d)))(h8:C[8]?=some (some (iN (k+1)))):Ev (IU (T1 θ)) (KT θ d (n+1)) ⟨L,C⟩ st (.fl (lsN 5 λx=>iN (cL d (k+1) x))):=
 jc (ks:=aD 5) (G:=nr d) (C:=[some (iN (k+1))]) (ff (aV h5) rfl) (by show af C[8]? _=_;refine ab (h8) ?_;rfl) (by decide) λx hx=>D0 (ba rfl) (iM (aV rfl)) rfl (agu g (cY hx) hk)
theorem agF{k:Nat}(h9:C[9]?=some (some (.fl (lsN 5 λx=>iN (cL d k x))))):Ev (IV (T1 θ)) K ⟨L,C⟩ st (eG (fw d k)):=
 iO (ks:=aD 5) (G:=λx=>iN (cL d k x)) (C:=[some (.fl (lsN 5 λx=>iN (cL d k x)))]) (ff (aV h9) rfl) (by show af C[9]? _=_;rw[h9];rfl) (by simp) λx hx=>
  jc (ks:=aD 5) (G:=λy=>iN (cL d k y)) (C:=[some (iN (cL d k x))]) (ff (aV rfl) rfl) rfl (by simp) λy hy=>DE (DZ (aV rfl) (ba rfl))
theorem J0{fr:Fr}{a b:Cd}{x y:Nat}(ha:Ev a K fr st (iN x))(hb:Ev b K fr st (iN y)):Tv (bq (T1 θ) .eq a b) K fr st (aG x y):=
 j8 ha hb (by
  show some (decide ((aZ x)=aZ y))=_
  congr 1
  rw[ro,decide_eq_true_iff];exact⟨λh=>by rw[aZ.inj h];exact gw _,λh=>congrArg aZ (dj h)⟩)
theorem agG(x y:Nat):ym .min2 (iN x) (iN y)=some (iN (min x y)):=by
 show some (V.int (match decide (aZ y<aZ x)with|true=>aZ y|false=>aZ x))=_
 by_cases h:y<x
 ·rw[show decide (aZ y<aZ x)=true from decide_eq_true (nH.mpr h),Vi (fh h)];rfl
 ·rw[show decide (aZ y<aZ x)=false from decide_eq_false λz=>h (nH.mp z),tD (oZ h)];rfl
theorem RN(x y:Nat):ym .max2 (iN x) (iN y)=some (iN (max x y)):=by
 show some (V.int (match decide (aZ x<aZ y)with|true=>aZ y|false=>aZ x))=_
 by_cases h:x<y
 ·rw[show decide (aZ x<aZ y)=true from decide_eq_true (nH.mpr h),Nat.max_eq_right (fh h)];rfl
 ·rw[show decide (aZ x<aZ y)=false from decide_eq_false λz=>h (nH.mp z),Nat.max_eq_left (oZ h)];rfl
theorem qT{x y:Nat}(h:x+y<1000000000000000):mT .add (iN x) (iN y) st=some (iN (x+y)):=DG (x:=(x:Int)) (y:=(y:Int)) (by lia) (by lia)
theorem D3:∀w∈fF,jy w<5:=by decide +kernel
theorem uM{α:Type}(p:α->Bool)(G:α->V)(l:List α):l.flatMap (λk=>if p k then [G k]else [])=(l.filter p).map G:=by
 induction l with
 | nil=>rfl
 | cons a l ih=>
  rw[j0,ih,oW];induction p a<;>rfl
theorem agH{l:List V}:rI (T1 θ) .eq (.fl l) (.fl []) st=some l.isEmpty:=by induction l<;>rfl
theorem agI(g:Good d){k:Nat}(hk:k=2\/k=4)(h6:C[6]?=some (some (ii d)))(h7:C[7]?=some (some (gr d)))(h8:C[8]?=some (some (iN k))):Ev (IX (T1 θ)) K ⟨L,C⟩ st (eG (wZ d k)):=
 iO (ks:=aD 5) (G:=iN) (C:=[some (ii d),some (gr d),some (iN k)]) jB (by show af C[6]? _=_;rw[h6];show af (af C[7]? _) _=_;rw[h7];show af (af (af C[8]? _) _) _=_;rw[h8];rfl) (by simp) λx hx=>
  iO (ks:=aD 5) (G:=iN) (f:=λy=>.bool (wZ d k x y)) (C:=[some (ii d),some (gr d),some (iN k),some (iN x)]) jB rfl (by simp) λy hy=>by
   have hx:=cY hx;have hy:=cY hy;have r1:=D3 _ (g.lead x hx);have r2:=D3 _ (g.lead y hy)
   let ks:List Nat:=match aH x y with|true=>qR (d.lead x) (d.lead y)|false=>[]
   have yP:nu d x y=.fl (ks.map (zL (d.lead x) (d.lead y))):=by
    show JX (aH x y) _ _=V.fl ((match aH x y with|true=>qR (d.lead x) (d.lead y)|false=>[]).map _)
    induction aH x y<;>rfl
   have eX:ks.length<1000:=by
    show(match aH x y with|true=>qR (d.lead x) (d.lead y)|false=>[]).length<1000
    induction aH x y with
    | false=>exact xR _
    | true=>
     have:=xJ (λk=>fT (gT (d.lead y) (k+1)) (gT (d.lead x) (k+1))) (aD (max (jy (d.lead x)) (jy (d.lead y))+1))
     rw[tw]at this;unfold qR
     lia
   have kG:Ev (IW (T1 θ)) K ⟨[none],[some (iN y),some (ii d),some (gr d),some (iN k),some (iN x)]⟩ st (.fl ((ks.filter λj=>aG (j+1) (JZ (d.lead x) (d.lead y) k)).map (zL (d.lead x) (d.lead y)))):=by
    rw[<-uM];refine sG (ks:=ks) (G:=zL (d.lead x) (d.lead y)) (C:=[some (gr d),some (iN k),some (iN x),some (iN y)]) (λj=>by split<;>simp) (ff (u:=nu d x y) (cR (cR (aV rfl) (aV rfl) (gz hx (by decide))) (aV rfl) (gz hy (by decide))) (by rw[yP];rfl)) rfl eX λj hj=>?_
    refine uG (J0 (cR (ba rfl) rfl rfl) (Jo (aV rfl) (d6 (b:=aj 1) (Jo (cR (aV rfl) (aV rfl) (gz hx (by decide))) (cR (aV rfl) (aV rfl) (gz hy (by decide))) (RN _ _)) rfl (qT (y:=1) (by lia))) (agG _ _))) (ba rfl)
   have key:(ks.filter λj=>aG (j+1) (JZ (d.lead x) (d.lead y) k)).isEmpty=wZ d k x y:=by
    show((match aH x y with|true=>qR (d.lead x) (d.lead y)|false=>[]).filter _).isEmpty=(match aH x y with|true=>fw d k x y|false=>true)
    induction aH x y with
    | false=>rfl
    | true=>exact cV (cV (cV agD (g.lead x hx)) (g.lead y hy)) (by rcases hk with q|q<;>subst q<;>decide)
   have tt:=j8 (T:=T1 θ) (op:=.eq) (a:=IW (T1 θ)) (b:=dn false []) kG (zv uC rfl) agH;rw[List.isEmpty_map,key]at tt;exact DE tt
end
end
noncomputable section
variable {θ:Th}{d:Dat}{K:bb}{n:Nat}{st:St}
def BL(d:Dat)(k:Nat):List Bool:=ee (fw d k)
def my(d:Dat)(k:Nat):List (List Nat):=(fX (BL d k)).map λp=>dD d p.1 p.2
def jV(d:Dat)(o8 o9 o0 o1:Option V):Fr:=⟨[o0,o1,none,none,none,none],[some (dO d),some (iN d.pg),some (kF d),some (.loc 0),some jU,some (jA d),some (ii d),some (gr d),o8,o9,none,none,none,none,none]⟩
def gE(o:Option V):Prop:=∀v,o=some v->bY 12 v=true
theorem D4:gE none:=λv e=>au e
theorem zM{v:V}(h:bY 12 v=true):gE (some v):=λw e=>by refine bf e ?_;exact h
theorem zN(f:Nat->Nat->Bool):(fX (ee f)).length=5:=by
 have hi:JS (ee f)=true:=eh.mp JT _ (zJ rfl);exact dj (a2 (a2 (a2 hi)))
theorem RO{x:Nat}:mT .mod (iN x) (iN 2) st=some (iN (x%2)):=qL (x:=(x:Int)) (y:=2) (by decide) (by decide)
theorem agJ(g:Good d)(f:Nat->Nat->Bool){k:Nat}(hk:k<100){fr:Fr}(h0:fr.C[0]?=some (some (dO d)))(hl:fr.L[0]?=some (some (eG f)))(h4:fr.C[4]?=some (some jU))(h1:fr.C[1]?=some (some (iN d.pg)))(h8:fr.C[8]?=some (some (iN k))) :
  Ev (du (cF 20) [(du (cF 19) [(aq 0),(ae 0),(aq 4),(aK .add (aq 1) (aq 8))])]) (KT θ d (n+2)) fr st (.fl ((fX (ee f)).map (oG d))):=
 jx (u:=.bh 20) rfl (iM (jx (u:=.bh 19) rfl (hZ (aV h0) (hZ (ba hl) (gS (aV h4) (d6 (aV h1) (aV h8) (qT (by have:=g.pg;lia)))))) (RE f (by have:=g.pg;lia)))) (JW g f)
theorem agK(g:Good d){k:Nat}(hk:k<5){D:Dm}{B:Nat}(hB:∀e∈D,e.2<=B)(h1:D.length<700)(h2:B<700){o9 o0 o1:Option V} :
  ∃uN uO gC,C0 (T1 θ) (KT θ d (n+2)) (jV d (some (iN (k+1))) o9 o0 o1) (cj (D.map dV))=some (.next,jV d (some (iN (k+1))) uN uO gC,cj (((my d (k+1)).foldl bump D).map dV))/\(gE o9->gE uN)/\gE uO/\(gE o1->gE gC):=by
 have eX:(my d (k+1)).length=5:=by unfold my;rw[cK];exact zN _
 have rest:∀(f:Nat->Nat->Bool) (o9:Option V),ee f=BL d (k+1)->∃gC,(gE o1->gE gC)/\eW (.loc 1) (ce (du (cF 20) [(du (cF 19) [(aq 0),(ae 0),(aq 4),(aK .add (aq 1) (aq 8))])])) (CZ (T1 θ)) (KT θ d (n+2)) (jV d (some (iN (k+1))) o9 (some (eG f)) o1) (cj (D.map dV))=some (.next,jV d (some (iN (k+1))) o9 (some (eG f)) gC,cj (((my d (k+1)).foldl bump D).map dV)):=by
  intro f o9 hf;refine ah (agC (θ:=θ) (K:=KT θ d (n+2)) (C:=(jV d (some (iN (k+1))) o9 (some (eG f)) o1).C) (o0:=some (eG f)) (R:=[none,none,none,none]) rfl (my d (k+1)) D B o1 hB (by lia) (by lia)) λgC e q=>⟨gC,λhb=>q.elim (λq=>q▸hb) (fun⟨x,q⟩=>q▸zM rfl),?_⟩
  refine(bz (ff (agJ g f (by lia) rfl rfl rfl rfl rfl) rfl)).trans ?_;rw[hf]
  have:(fX (BL d (k+1))).map (oG d)=(my d (k+1)).map λx=>.str (ao x):=by unfold my;rw[kO];rfl
  refine ab (this) ?_;exact e
 have tm:∀{st:St},Tv (bq (T1 θ) .eq (aK .mod (aq 8) (aj 2)) (aj 1)) (KT θ d (n+2)) (jV d (some (iN (k+1))) o9 o0 o1) st (aG ((k+1)%2) 1):=J0 (b:=aj 1) (d6 (b:=aj 2) (aV rfl) rfl RO) rfl;have kk:(k=0\/k=2\/k=4)\/(k=1\/k=3):=by lia
 rcases kk with kk|kk
 ·have e2:aG ((k+1)%2) 1=true:=by rcases kk with q|q|q<;>subst q<;>rfl
  rw[e2]at tm;refine ah (rest (fw d (k+1)) (some (.fl (lsN 5 λx=>iN (cL d (k+1) x)))) rfl) λgC hb e=>⟨some (.fl (lsN 5 λx=>iN (cL d (k+1) x))),some (eG (fw d (k+1))),gC,?_,λ_=>zM rfl,zM rfl,hb⟩
  have s1:Sv (aE (aP (.bi 9) (IU (T1 θ))) (aP (.loc 0) (IV (T1 θ)))) (KT θ d (n+2)) (jV d (some (iN (k+1))) o9 o0 o1) (cj (D.map dV)) (jV d (some (iN (k+1))) (some (.fl (lsN 5 λx=>iN (cL d (k+1) x)))) (some (eG (fw d (k+1)))) o1) (cj (D.map dV)):=
   adX (aw:=jV d (some (iN (k+1))) (some (.fl (lsN 5 λx=>iN (cL d (k+1) x)))) o0 o1) (fE (agE g hk rfl rfl) rfl) (fE (agF (K:=KT θ d (n+2)) (k:=k+1) rfl) rfl)
  exact(fQ ((wR tm).trans s1)).trans e
 ·have e2:aG ((k+1)%2) 1=false:=by rcases kk with q|q<;>subst q<;>rfl
  rw[e2]at tm;refine ah (rest (wZ d (k+1)) o9 rfl) λgC hb e=>⟨o9,some (eG (wZ d (k+1))),gC,?_,id,zM rfl,hb⟩
  have s1:Sv (aP (.loc 0) (IX (T1 θ))) (KT θ d (n+2)) (jV d (some (iN (k+1))) o9 o0 o1) (cj (D.map dV)) (jV d (some (iN (k+1))) o9 (some (eG (wZ d (k+1)))) o1) (cj (D.map dV)):=
   fE (agI (K:=KT θ d (n+2)) g (by rcases kk with q|q<;>subst q<;>decide) rfl rfl rfl) rfl
  exact(fQ ((qM tm).trans s1)).trans e
theorem agL{B:Nat}(x:List Nat){D:Dm}(h:∀e∈D,e.2<=B):∀e∈bump D x,e.2<=B+1:=RM (λe he=>Ve (h e he)) x (Fv (RL h x))
theorem agM(ks:List (List Nat)):∀{B:Nat} {D:Dm},(∀e∈D,e.2<=B)->(∀e∈ks.foldl bump D,e.2<=B+ks.length)/\(ks.foldl bump D).length<=D.length+ks.length:=by
 induction ks with
 | nil=>exactλh=>⟨h,dr _⟩
 | cons x ks ih=>
  intro B D h;refine xA (ih (agL x h)) λh1 h2=>?_
  have:=wY D x ((kg D x).getD 0+1)
  refine ab (lq) ?_;refine ab (cH) ?_;exact⟨λe he=>by have:=h1 e he;lia,by unfold bump at h2 ⊢;lia⟩
theorem agN(g:Good d):∀(ks:List Nat),(∀k∈ks,k<5)->∀{D:Dm} {B:Nat},(∀e∈D,e.2<=B)->D.length+5*ks.length<700->B+5*ks.length<700->∀{o8 o9 o0 o1:Option V},gE o8->gE o9->gE o0->gE o1 ->
  ∃RP uN uO gC,iI (KT θ d (n+2)) (.bi 8) (C0 (T1 θ)) (ks.map λk=>iN (k+1)) (jV d o8 o9 o0 o1) (cj (D.map dV))=some (.next,jV d RP uN uO gC,cj (((ks.flatMap λk=>my d (k+1)).foldl bump D).map dV))/\gE RP/\gE uN/\gE uO/\gE gC:=by
 intro ks;induction ks with
 | nil=>exactλ_ D B _ _ _ o8 o9 o0 o1 b8 b9 b0 b1=>⟨o8,o9,o0,o1,rfl,b8,b9,b0,b1⟩
 | cons k ks ih=>
  intro hk D B hB h1 h2 o8 o9 o0 o1 b8 b9 b0 b1;rw[cH]at h1 h2;refine vw (agK (θ:=θ) (n:=n) g (hk k bT) hB (by lia) (by lia) (o9:=o9) (o0:=o0) (o1:=o1)) λuN uO gC e c9 c0 c1=>?_
  have eX:(my d (k+1)).length=5:=by unfold my;rw[cK];exact zN _
  have hf:=agM (my d (k+1)) hB;rw[eX]at hf;obtain⟨p8,p9,p0,p1,e',q8,q9,q0,q1⟩:=ih (λj hj=>hk j (bL _ hj)) hf.1 (by lia) (by lia) (o8:=some (iN (k+1))) (o9:=uN) (o0:=uO) (o1:=gC) (zM rfl) (c9 b9) c0 (c1 b1);refine⟨p8,p9,p0,p1,?_,q8,q9,q0,q1⟩;rw[j0,List.foldl_append];exact(bx (z:=jV d (some (iN (k+1))) o9 o0 o1) rfl).trans ((fQ e).trans e')
def J1(d:Dat):List (List Nat):=(aD 5).flatMap λk=>my d (k+1)
def zO(d:Dat):Dm:=(J1 d).foldl bump []
theorem agO(T:Tb):(pD T).body=aE (aP (.tup [(.bi 2),(.bi 3),(.bi 4)]) (zp T)) (aE (aP (.bi 5) (CW T)) (aE (aP (.bi 6) (CX T)) (aE (aP (.bi 7) (CY T)) (eW (.bi 8) (nW (aj 1) (aj 6)) (C0 T))))):=by kernel_rfl
def w0(d:Dat):Fr:=⟨[none,none,none,none,none,none],[some (dO d),some (iN d.pg),none,none,none,none,none,none,none,none,none,none,none,none,none]⟩
def uP(d:Dat)(g l r:Option V):Fr:=⟨[none,none,none,none,none,none],[some (dO d),some (iN d.pg),some (kF d),some (.loc 0),some jU,g,l,r,none,none,none,none,none,none,none]⟩
theorem agP(g:Good d):∃o8 o9 o0 o1,(pD (T1 θ)).body (KT θ d (n+2)) (w0 d) dm=some (.next,jV d o8 o9 o0 o1,cj ((zO d).map dV))/\gE o8/\gE o9/\gE o0/\gE o1:=by
 obtain⟨o8,o9,o0,o1,e,b⟩:=agN (θ:=θ) (n:=n) g (aD 5) (λk hk=>cY hk) (D:=[]) (B:=0) (λe he=>nomatch he) (by decide) (by decide) (o8:=none) (o9:=none) (o0:=none) (o1:=none) D4 D4 D4 D4;refine Wl o8 o9 o0 o1 ?_ b;rw[agO];have s1:Sv (aP (.tup [(.bi 2),(.bi 3),(.bi 4)]) (zp (T1 θ))) (KT θ d (n+2)) (w0 d) dm (uP d none none none) (cj []):=by
  show bk (zp (T1 θ) (KT θ d (n+2)) (w0 d) dm) _=_
  refine ab (agx (L:=(w0 d).L) (C:=(w0 d).C) g rfl rfl) ?_;rfl
 have s2:Sv (aP (.bi 5) (CW (T1 θ))) (KT θ d (n+2)) (uP d none none none) (cj []) (uP d (some (jA d)) none none) (cj []):=fE (agy g rfl rfl) rfl;have s3:Sv (aP (.bi 6) (CX (T1 θ))) (KT θ d (n+2)) (uP d (some (jA d)) none none) (cj []) (uP d (some (jA d)) (some (ii d)) none) (cj []):=fE (agz g rfl) rfl;have s4:Sv (aP (.bi 7) (CY (T1 θ))) (KT θ d (n+2)) (uP d (some (jA d)) (some (ii d)) none) (cj []) (uP d (some (jA d)) (some (ii d)) (some (gr d))) (cj []):=fE (agA g rfl) rfl;refine(dS s1).trans ((dS s2).trans ((dS s3).trans ((dS s4).trans ?_)));exact(bz (Jr (u:=.int 1) (v:=.int 6) (s:=.vals ((aD 5).map λk=>iN (k+1))) rfl rfl rfl)).trans e
end
noncomputable def iz(b:Nat->Nat->Bool)(x:Nat):Nat->Nat->Nat
 | 0,y=>y
 | n+1,y=>match b x y with|true=>iz b x n (y+1)|false=>y
def eH(b:Nat->Nat->Bool)(x:Nat):Nat:=iz b x (4-x) (x+1)
noncomputable def RQ:List (Nat×Nat×Nat):=[(0,1,2),(0,1,3),(0,1,4),(0,2,3),(0,2,4),(0,3,4),(1,2,3),(1,2,4),(1,3,4),(2,3,4)]
def xa(b:Nat->Nat->Bool):Bool:=RQ.all λt=>cX (b t.1 t.2.1&&b t.2.1 t.2.2)||b t.1 t.2.2
def zP(b:Nat->Nat->Bool):List (Nat×Nat):=(aD 5).map λx=>(x,eH b x)
theorem agQ:((sK 10).all λbl=>cX (xa (bt bl))||(fX bl).isPerm (zP (bt bl)))=true:=by kernel_rfl
theorem RR{f:Nat->Nat->Bool}(h:xa (bt (ee f))=true):(fX (ee f)).Perm (zP (bt (ee f))):=by
 have:=eh.mp agQ (ee f) (zJ rfl)
 rw[h]at this;exact aqW.mp this
noncomputable def J2:List (Nat×Nat):=[(0,1),(0,2),(0,3),(0,4),(1,2),(1,3),(1,4),(2,3),(2,4),(3,4)]
theorem agR:∀y∈aD 5,∀x∈aD y,(x,y)∈J2:=by decide
theorem agS:(λf:Nat->Nat->Bool=>J2.map λp=>bt (ee f) p.1 p.2)=λf=>J2.map λp=>f p.1 p.2:=by kernel_rfl
theorem D5(f:Nat->Nat->Bool){x y:Nat}(hx:x<y)(hy:y<5):bt (ee f) x y=f x y:=
 cV (congrFun agS f) (agR y (eR.mpr hy) x (eR.mpr hx))
theorem RT{f:Nat->Nat->Bool}(h:∀x y z,f x y=true->f y z=true->f x z=true):xa (bt (ee f))=true:=by
 refine eh.mpr λt ht=>?_
 have go:∀{x y z:Nat},x<y->y<z->z<5->(cX (bt (ee f) x y&&bt (ee f) y z)||bt (ee f) x z)=true:=by
  intro x y z h1 h2 h3;rw[D5 f h1 (by lia),D5 f h2 h3,D5 f (by lia) h3]
  have:=h x y z
  induction e1:f x y with
  | false=>rfl
  | true=>induction e2:f y z with
   | false=>rfl
   | true=>rw[this e1 e2];rfl
 have ok:∀t∈RQ,t.1<t.2.1/\t.2.1<t.2.2/\t.2.2<5:=by decide
 exact go (ok t ht).1 (ok t ht).2.1 (ok t ht).2.2
abbrev Dp:=List ((Nat×Nat)×Nat)
noncomputable def eI(p q:Nat×Nat):Bool:=aG p.1 q.1&&aG p.2 q.2
theorem kH{p q:Nat×Nat}:eI p q=true↔p=q:=by
 constructor
 ·intro h;exact mI (dj (a1 h)) (dj (a2 h))
 ·intro h;subst h;show(aG p.1 p.1&&aG p.2 p.2)=true;rw[gw,gw];rfl
noncomputable def gF:Dp->Nat×Nat->Option Nat
 | [],_=>none
 | e::r,x=>match eI e.1 x with|true=>some e.2|false=>gF r x
noncomputable def fx:Dp->Nat×Nat->Nat->Dp
 | [],x,n=>[(x,n)]
 | e::r,x,n=>match eI e.1 x with|true=>(e.1,n)::r|false=>e::fx r x n
def ny(D:Dp)(x:Nat×Nat):Dp:=fx D x ((gF D x).getD 0+1)
def jC(x:Nat×Nat)(l:List (Nat×Nat)):Nat:=(l.filter (eI · x)).length
theorem RU(D:Dp)(x y:Nat×Nat)(n:Nat):gF (fx D x n) y=match eI x y with|true=>some n|false=>gF D y:=by
 induction D with
 | nil=>
  rfl
 | cons e r ih=>
  show gF (match eI e.1 x with|true=>(e.1,n)::r|false=>e::fx r x n) y=match eI x y with|true=>some n|false=>(match eI e.1 y with|true=>some e.2|false=>gF r y)
  induction h:eI e.1 x with
  | true=>
   have h:=kH.mp h
   show(match eI e.1 y with|true=>some n|false=>gF r y)=_
   refine ab (h) ?_;cases eI x y<;>rfl
  | false=>
   show(match eI e.1 y with|true=>some e.2|false=>gF (fx r x n) y)=_
   refine ab (ih) ?_;induction h2:eI e.1 y with
   | false=>rfl
   | true=>
    have h2:=kH.mp h2;rw[h2]at h;induction h3:eI x y with
    | false=>rfl
    | true=>rw[kH.mp h3,kH.mpr rfl]at h;cases h
theorem agT(x:Nat×Nat)(a b:List (Nat×Nat)):jC x (a++b)=jC x a+jC x b:=by
 unfold jC;rw[List.filter_append,cS]
theorem RV(l:List (Nat×Nat)):∀(D:Dp) (x:Nat×Nat),(gF (l.foldl ny D) x).getD 0=(gF D x).getD 0+jC x l:=by
 induction l with
 | nil=>exactλD x=>rfl
 | cons y l ih=>
  intro D x;rw[lq,ih]
  show(gF (fx D y ((gF D y).getD 0+1)) x).getD 0+jC x l=_+((y::l).filter (eI · x)).length
  rw[RU,oW];induction h:eI y x with
  | true=>
   have:=kH.mp h
   subst this
   show(gF D y).getD 0+1+jC y l=_+((l.filter (eI · y)).length+1)
   unfold jC;lia
  | false=>rfl
noncomputable def eQ(D:Dp):List (Nat×Nat):=D.map (·.1)
theorem J3(D:Dp)(x:Nat×Nat)(n:Nat):(∀y,y∈eQ (fx D x n)↔y=x\/y∈eQ D)/\((eQ D).Nodup->(eQ (fx D x n)).Nodup):=by
 induction D with
 | nil=>exact⟨λy=>by simp[eQ,fx],λ_=>by simp[eQ,fx]⟩
 | cons e r ih=>
  have hq:fx (e::r) x n=match eI e.1 x with|true=>(e.1,n)::r|false=>e::fx r x n:=rfl
  refine ab (hq) ?_;induction h:eI e.1 x with
  | true=>
   have h:=kH.mp h;exact⟨λy=>by simp[eQ,h],λz=>z⟩
  | false=>
   have eA:e.1≠x:=λq=>by rw[q,kH.mpr rfl]at h;cases h
   refine⟨λy=>?_,λz=>?_⟩
   ·show y∈e.1::eQ (fx r x n)↔y=x\/y∈e.1::eQ r
    rw[cW,ih.1,cW];exact⟨λq=>q.elim (λa=>.inr (.inl a)) (λa=>a.elim .inl λb=>.inr (.inr b)),λq=>q.elim (λa=>.inr (.inl a)) λa=>a.elim .inl λb=>.inr (.inr b)⟩
   ·have z:(e.1::eQ r).Nodup:=z
    show(e.1::eQ (fx r x n)).Nodup
    rw[lT]at z ⊢;refine⟨λm=>?_,ih.2 z.2⟩;rw[ih.1]at m;exact m.elim eA z.1
theorem RW(l:List (Nat×Nat)):∀{D:Dp},(eQ D).Nodup->(eQ (l.foldl ny D)).Nodup/\∀y,y∈eQ (l.foldl ny D)↔y∈eQ D\/y∈l:=by
 induction l with
 | nil=>exactλh=>⟨h,λy=>⟨.inl,λq=>q.elim id λz=>nomatch z⟩⟩
 | cons x l ih=>
  intro D h
  have:=J3 D x ((gF D x).getD 0+1)
  refine xA (ih (D:=ny D x) (this.2 h)) λh1 h2=>⟨h1,λy=>?_⟩
  rw[lq,h2]
  show y∈eQ (fx D x _)\/_↔_
  rw[this.1,cW];exact⟨λq=>q.elim (λa=>a.elim (λb=>.inr (.inl b)) .inl) λa=>.inr (.inr a),λq=>q.elim (λa=>.inl (.inr a)) λa=>a.elim (λb=>.inl (.inl b)) .inr⟩
theorem D6{D:Dp}(h:(eQ D).Nodup){e:(Nat×Nat)×Nat}(he:e∈D):gF D e.1=some e.2:=by
 induction D with
 | nil=>cases he
 | cons a r ih=>
  have h:(a.1::eQ r).Nodup:=h;rw[lT]at h
  show(match eI a.1 e.1 with|true=>some a.2|false=>gF r e.1)=_
  rcases cW.mp he with q|q
  ·rw[q,kH.mpr rfl]
  ·have:eI a.1 e.1=false:=by
    induction z:eI a.1 e.1 with
    | false=>rfl
    | true=>exact absurd (dF.mpr ⟨e,q,(kH.mp z).symm⟩) h.1
   refine ab (this) ?_;exact ih h.2 q
def eK(d:Dat)(k x:Nat):Nat:=eH (bt (BL d k)) x
def kJ(d:Dat):List (Nat×Nat):=(aD 5).flatMap λk=>fX (BL d (k+1))
def eL(d:Dat)(x:Nat):List Nat:=(aD 5).map λk=>eK d (k+1) x
noncomputable def cG(e:Nat)(l:List Nat):Nat:=(l.filter (aG · e)).length
def qU(l:List Nat)(x:Nat):Nat:=((l.filter λe=>aH 2 (cG e l))++[x+1]).headD 0
def mK(d:Dat)(x:Nat):Nat:=qU (eL d x) x
theorem RX(d:Dat)(k:Nat):xa (bt (BL d k))=true:=RT λx y z h1 h2=>cZ (Ft (bF h1) (bF h2))
theorem D7(b:Nat->Nat->Bool)(x:Nat):∀(n y:Nat),y<=iz b x n y/\iz b x n y<=y+n:=by
 intro n;induction n with
 | zero=>exactλy=>⟨dr _,dr _⟩
 | succ n ih=>
  intro y
  show y<=(match b x y with|true=>iz b x n (y+1)|false=>y)/\(match b x y with|true=>iz b x n (y+1)|false=>y)<=y+(n+1)
  induction b x y with
  | true=>have:=ih (y+1);dsimp only;exact⟨by lia,by lia⟩
  | false=>exact⟨dr _,mG _ _⟩
theorem zQ(b:Nat->Nat->Bool){x:Nat}(hx:x<5):x<eH b x/\eH b x<=5:=by
 have:=D7 b x (4-x) (x+1)
 unfold eH
 lia
def D8(e:Nat->Nat):Bool:=(aD 5).all λx=>(aD 5).all λy=>cX (aH x y&&aH y (e x))||fT (e y) (e x)
theorem agU:((sK 10).all λbl=>cX (xa (bt bl))||D8 (eH (bt bl)))=true:=by kernel_rfl
theorem agV{e:Nat->Nat}(h:D8 e=true){x y:Nat}(hx:x<5)(hy:y<5)(h1:x<y)(h2:y<e x):e y<=e x:=by
 have:=eh.mp (eh.mp h x (eR.mpr hx)) y (eR.mpr hy)
 rw[show aH x y=true from cZ h1,show aH y (e x)=true from cZ h2]at this;exact bF this
theorem agW(d:Dat)(k:Nat){x y:Nat}(hx:x<5)(hy:y<5)(h1:x<y)(h2:y<eK d k x):eK d k y<=eK d k x:=by
 have:=eh.mp agU (BL d k) (zJ rfl)
 rw[RX]at this;exact agV (e:=eH (bt (BL d k))) this hx hy h1 h2
theorem agX{l m:List (Nat×Nat)}(h:l.Perm m)(x:Nat×Nat):jC x l=jC x m:=(h.filter _).length_eq
theorem agY(b:Nat->Nat->Bool){x:Nat}(hx:x<5)(e:Nat):jC (x,e) (zP b)=match aG (eH b x) e with|true=>1|false=>0:=by
 have k:∀i,i<5->i≠x->eI (i,eH b i) (x,e)=false:=λi _ eA=>by
  induction z:eI (i,eH b i) (x,e)with
  | false=>rfl
  | true=>exact absurd (congrArg AA (kH.mp z)) eA
 have kx:eI (x,eH b x) (x,e)=aG (eH b x) e:=by show(aG x x&&_)=_;rw[gw];rfl
 have hr:aD 5=[0,1,2,3,4]:=rfl;unfold jC zP;refine ab (hr) ?_
 rcases(by lia:x=0\/x=1\/x=2\/x=3\/x=4)with q|q|q|q|q<;>subst q
 ·simp only[jE,tx,oW,kx,k 1 (by decide) (by decide),k 2 (by decide) (by decide),k 3 (by decide) (by decide),k 4 (by decide) (by decide)];induction aG (eH b 0) e<;>rfl
 ·simp only[jE,tx,oW,kx,k 0 (by decide) (by decide),k 2 (by decide) (by decide),k 3 (by decide) (by decide),k 4 (by decide) (by decide)];induction aG (eH b 1) e<;>rfl
 ·simp only[jE,tx,oW,kx,k 0 (by decide) (by decide),k 1 (by decide) (by decide),k 3 (by decide) (by decide),k 4 (by decide) (by decide)];induction aG (eH b 2) e<;>rfl
 ·simp only[jE,tx,oW,kx,k 0 (by decide) (by decide),k 1 (by decide) (by decide),k 2 (by decide) (by decide),k 4 (by decide) (by decide)];induction aG (eH b 3) e<;>rfl
 ·simp only[jE,tx,oW,kx,k 0 (by decide) (by decide),k 1 (by decide) (by decide),k 2 (by decide) (by decide),k 3 (by decide) (by decide)];induction aG (eH b 4) e<;>rfl
theorem D9(d:Dat){x:Nat}(hx:x<5)(e:Nat):jC (x,e) (kJ d)=cG e (eL d x):=by
 have go:∀ks:List Nat,jC (x,e) (ks.flatMap λk=>fX (BL d (k+1)))=cG e (ks.map λk=>eK d (k+1) x):=by
  intro ks;induction ks with
  | nil=>rfl
  | cons k ks ih=>
   rw[j0,agT,ih,show jC (x,e) (fX (BL d (k+1)))=_ from agX (RR (RX d (k+1))) (x,e)];rw[agY _ hx,jE]
   show(match aG (eK d (k+1) x) e with|true=>1|false=>0)+cG e (ks.map λk=>eK d (k+1) x)=(List.filter (aG · e) (eK d (k+1) x::ks.map λk=>eK d (k+1) x)).length
   rw[oW];induction aG (eK d (k+1) x) e with
   | true=>rw[if_pos rfl,cH,jh];rfl
   | false=>rw[if_neg (by decide),rt];rfl
 exact go _
theorem agZ{a b:Nat}(h:a≠b)(l:List Nat):cG a l+cG b l<=l.length:=by
 induction l with
 | nil=>exact dr _
 | cons c l ih=>
  unfold cG at ih ⊢;rw[oW,oW,cH];induction e1:aG c a with
  | true=>
   have:aG c b=false:=Rn λq=>h ((dj e1).symm.trans q)
   rw[this];simp;lia
  | false=>induction aG c b<;>simp<;>lia
theorem J4{e:Nat}{l:List Nat}(h:0<cG e l):e∈l:=by
 have:∃c,c∈l.filter (aG · e):=aqQ h
 obtain⟨c,hc⟩:=this
 have:=pT.mp hc
 refine bX (dj this.2) ?_;exact this.1
theorem zR{l:List Nat}(hl:l.length=5)(x:Nat):(2<cG (qU l x) l/\∀e,2<cG e l->e=qU l x)\/(qU l x=x+1/\∀e,¬2<cG e l):=by
 have aha:∀{a b:Nat},2<cG a l->2<cG b l->a=b:=fun{a b} h1 h2=>by
  by_cases q:a=b
  ·exact q
  ·have:=agZ q l;lia
 induction h:l.filter λe=>aH 2 (cG e l)using iE with
 | nil=>
  refine .inr ⟨by unfold qU;rw[h];rfl,λe he=>?_⟩
  have:e∈l.filter λe=>aH 2 (cG e l):=pT.mpr ⟨J4 (by lia),cZ he⟩
  rw[h]at this;cases this
 | cons a r=>
  have ha:a∈l.filter λe=>aH 2 (cG e l):=by exact ab (h) bT
  have hc:2<cG a l:=bF (pT.mp ha).2;have hm:qU l x=a:=by unfold qU;rw[h];rfl
  exact .inl (hm▸⟨hc,λe he=>aha he hc⟩)
theorem ahb(f g:Nat->Nat){a b:Nat}(ks:List Nat)(h:ks.length<cG a (ks.map f)+cG b (ks.map g)):∃k∈ks,f k=a/\g k=b:=by
 induction ks with
 | nil=>exact absurd h (nJ 0)
 | cons k ks ih=>
  unfold cG at h ih;rw[jE,jE,oW,oW,cH]at h;induction e1:aG (f k) a with
  | true=>induction e2:aG (g k) b with
   | true=>exact cp k bT (dj e1) (dj e2)
   | false=>
    rw[e1,e2]at h;simp at h;refine ah (ih (by lia)) λj hj q=>?_
    exact aW j (bL _ hj) q
  | false=>
   rw[e1]at h;refine ah (ih (by induction e2:aG (g k) b<;>rw[e2]at h<;>simp at h ⊢<;>lia)) λj hj q=>?_
   exact aW j (bL _ hj) q
theorem oK(d:Dat)(x:Nat):(eL d x).length=5:=rfl
theorem J5(d:Dat){x:Nat}(hx:x<5):x<mK d x/\mK d x<=5:=by
 rcases zR (oK d x) x with⟨h,_⟩|⟨h,_⟩
 ·have:=J4 (Ft (by decide) h)
  refine ah (dF.mp this) λk _ e=>?_
  have:=zQ (bt (BL d (k+1))) hx
  unfold mK;refine bX (e) ?_;exact this
 ·unfold mK;refine ab (h) ?_;lia
theorem ahc(d:Dat){x y:Nat}(hx:x<5)(hy:y<5)(h1:x<y)(h2:y<mK d x):mK d y<=mK d x:=by
 rcases zR (oK d x) x with⟨c1,_⟩|⟨h,_⟩
 ·rcases zR (oK d y) y with⟨c2,_⟩|⟨h,_⟩
  ·refine fj (ahb (λk=>eK d (k+1) x) (λk=>eK d (k+1) y) (a:=mK d x) (b:=mK d y) (aD 5) (by
    show 5<cG (qU (eL d x) x) (eL d x)+cG (qU (eL d y) y) (eL d y)
    lia)) λk hk e1 e2=>?_
   have e1:=e1;have e2:=e2;refine bX (e2) ?_;refine bX (e1) ?_;exact agW d (k+1) hx hy h1 (by exact ab (e1) h2)
  ·have:mK d y=y+1:=h
   lia
 ·have:mK d x=x+1:=h
  lia
noncomputable def MV:List (List Nat):=(aD 5).flatMap λa=>(aD 4).flatMap λb=>(aD 3).flatMap λc=>(aD 2).map λe=>[a+1,b+2,c+3,e+4,5]
noncomputable def Ea(m:List Nat):List Nat:=(aD 5).map λx=>((aD 5).filter λy=>aH y x&&aH x (m.getD y 0)).length
theorem ahd:(MV.all λm=>cX (D8 λx=>m.getD x 0)||((DV 4).contains (Ea m)&&(fX (ee (oC (Ea m)))).isPerm ((aD 5).map λx=>(x,m.getD x 0))))=true:=by kernel_rfl
def mL(d:Dat):List Nat:=(aD 5).map (mK d)
def gu(d:Dat):List Nat:=Ea (mL d)
theorem ahe:∀a∈aD 6,0<a->∀b∈aD 6,1<b->∀c∈aD 6,2<c->∀e∈aD 6,3<e->∀f∈aD 6,4<f->[a,b,c,e,f]∈MV:=by decide +kernel
theorem RY(d:Dat):mL d∈MV:=
 have b {x:Nat} (hx:x<5):=(J5 d hx).1;have m {x:Nat} (hx:x<5):=eR.mpr (ars (J5 d hx).2)
 ahe _ (m (by decide)) (b (by decide)) _ (m (by decide)) (b (by decide)) _ (m (by decide)) (b (by decide)) _ (m (by decide)) (b (by decide)) _ (m (by decide)) (b (by decide))
theorem J6(d:Dat){x:Nat}(hx:x<5):(mL d).getD x 0=mK d x:=by
 unfold mL;rw[U8,pR,List.getElem?_range hx];rfl
theorem ahf(d:Dat):D8 (λx=>(mL d).getD x 0)=true:=by
 refine eh.mpr λx hx=>eh.mpr λy hy=>?_
 have hx:=cY hx;have hy:=cY hy;dsimp only;refine ab (J6 d hx) ?_;refine ab (J6 d hy) ?_;induction e1:aH x y with
 | false=>rfl
 | true=>induction e2:aH y (mK d x)with
  | false=>rfl
  | true=>exact cZ (ahc d hx hy (bF e1) (bF e2))
theorem RZ(d:Dat):gu d∈DV 4/\(fX (ee (oC (gu d)))).Perm ((aD 5).map λx=>(x,mK d x)):=by
 have h:=eh.mp ahd (mL d) (RY d);rw[ahf d]at h;have h:=h;refine⟨List.contains_iff_mem.mp (a1 h),?_⟩
 have:=aqW.mp (a2 h)
 exact this
theorem zS(b c:Nat->Nat->Bool)(x:Nat):∀(n y:Nat),iz (λx y=>b x y&&c x y) x n y=min (iz b x n y) (iz c x n y):=by
 intro n;induction n with
 | zero=>exactλy=>(art y).symm
 | succ n ih=>
  intro y;have h1:=(D7 b x n (y+1)).1;have h2:=(D7 c x n (y+1)).1
  show(match b x y&&c x y with|true=>iz (λx y=>b x y&&c x y) x n (y+1)|false=>y)=min (match b x y with|true=>iz b x n (y+1)|false=>y) (match c x y with|true=>iz c x n (y+1)|false=>y)
  induction b x y with
  | true=>induction c x y with
   | true=>exact ih (y+1)
   | false=>show y=min (iz b x n (y+1)) y;lia
  | false=>induction c x y with
   | true=>show y=min y (iz c x n (y+1));lia
   | false=>show y=min y y;lia
theorem R7{b c:Nat->Nat->Bool}{x:Nat}:∀(n y:Nat),(∀z,y<=z->z<y+n->b x z=c x z)->iz b x n y=iz c x n y:=by
 intro n;induction n with
 | zero=>exactλ_ _=>rfl
 | succ n ih=>
  intro y h
  show(match b x y with|true=>iz b x n (y+1)|false=>y)=(match c x y with|true=>iz c x n (y+1)|false=>y)
  rw[h y (dr _) (by lia),ih (y+1) λz h1 h2=>h z (by lia) (by lia)]
theorem J7(f:Nat->Nat->Bool){x:Nat}(hx:x<5):eH (bt (ee f)) x=eH f x:=R7 _ _ λz h1 h2=>D5 f (by lia) (by lia)
theorem ahg(x:Nat):∀(n y:Nat),iz (λ_ _=>true) x n y=y+n:=by
 intro n;induction n with
 | zero=>exactλ_=>rfl
 | succ n ih=>intro y;exact(ih (y+1)).trans (by lia)
def sM(d:Dat)(x y:Nat):Bool:=match aH x y with|true=>sI (d.lead x) (d.lead y)|false=>false
noncomputable def qV(l:List Nat):Nat:=match l with|[]=>0|a::r=>r.foldl min a
theorem ahh(d:Dat)(x y:Nat):sI (d.lead x) (d.lead y)=(fw d 1 x y&&(fw d 2 x y&&(fw d 3 x y&&(fw d 4 x y&&(fw d 5 x y&&true))))):=rfl
theorem ahi(d:Dat){x y z:Nat}(h1:sI (d.lead x) (d.lead y)=true)(h2:sI (d.lead y) (d.lead z)=true):sI (d.lead x) (d.lead z)=true:=
 eh.mpr λk hk=>cZ (Ft (bF (eh.mp h1 k hk)) (bF (eh.mp h2 k hk)))
theorem ahj(d:Dat):xa (bt (ee (sM d)))=true:=RT λx y z h1 h2=>by
 unfold sM at h1 h2 ⊢;induction e1:aH x y with
 | false=>rw[e1]at h1;exact bV h1
 | true=>induction e2:aH y z with
  | false=>rw[e2]at h2;exact bV h2
  | true=>
   rw[e1]at h1;rw[e2]at h2;rw[show aH x z=true from cZ (Ft (bF e1) (bF e2))];exact ahi d h1 h2
theorem ahk(d:Dat){x:Nat}(hx:x<5):eH (bt (ee (sM d))) x=qV (eL d x):=by
 rw[J7 _ hx];have e1:∀k,eH (bt (BL d k)) x=eH (fw d k) x:=λk=>J7 _ hx
 have e2:eH (sM d) x=iz (λx y=>fw d 1 x y&&(fw d 2 x y&&(fw d 3 x y&&(fw d 4 x y&&(fw d 5 x y&&true))))) x (4-x) (x+1):=R7 _ _ λz h1 h2=>by
  unfold sM;refine ab (show aH x z=true from cZ (by omega)) ?_;exact ahh d x z
 rw[e2,zS,zS,zS,zS,zS,ahg];have hl:eL d x=[eH (fw d 1) x,eH (fw d 2) x,eH (fw d 3) x,eH (fw d 4) x,eH (fw d 5) x]:=by
  show [eK d 1 x,eK d 2 x,eK d 3 x,eK d 4 x,eK d 5 x]=_
  unfold eK;rw[e1,e1,e1,e1,e1]
 refine ab (hl) ?_;have b5:=(D7 (fw d 5) x (4-x) (x+1)).2;rw[tD b5]
 show _=min (min (min (min (eH (fw d 1) x) (eH (fw d 2) x)) (eH (fw d 3) x)) (eH (fw d 4) x)) (eH (fw d 5) x)
 rw[Vh,Vh,Vh]
 rfl
section
variable {α:Type}(lt:α->α->Bool)
noncomputable def k9(x:α):List α->List α
 | []=>[x]
 | y::r=>match lt y x with|true=>y::k9 x r|false=>x::y::r
variable {lt}
theorem ahl(as:∀x y,lt x y=true->lt y x=false)(tr:∀x y z,lt x y=true->lt y z=true->lt x z=true)(Eb:∀x y,lt x y=false->lt y x=false->x=y)(x y:α):∀l:List α,k9 lt x (k9 lt y l)=k9 lt y (k9 lt x l):=by
 intro l;induction l with
 | nil=>
  show(match lt y x with|true=>y::[x]|false=>x::[y])=(match lt x y with|true=>x::[y]|false=>y::[x])
  induction h1:lt y x with
  | true=>rw[as y x h1]
  | false=>induction h2:lt x y with
   | true=>rfl
   | false=>rw[Eb x y h2 h1]
 | cons z l ih=>
  have e:∀u,k9 lt u (z::l)=match lt z u with|true=>z::k9 lt u l|false=>u::z::l:=λu=>rfl
  have e2:∀u w r,k9 lt u (w::r)=match lt w u with|true=>w::k9 lt u r|false=>u::w::r:=λu w r=>rfl
  rw[e x,e y];induction h1:lt z y with
  | true=>induction h2:lt z x with
   | true=>
    rw[e2 x z,e2 y z,h1,h2];exact congrArg (z::·) ih
   | false=>
    have hxy:lt x y=true:=by
     induction h3:lt x y with
     | true=>rfl
     | false=>
      induction h4:lt y x with
      | true=>rw[tr z y x h1 h4]at h2;cases h2
      | false=>rw[Eb x y h3 h4,h1]at h2;cases h2
    rw[e2 x z,e2 y x,h2,hxy];rw[e y,h1]
  | false=>induction h2:lt z x with
   | true=>
    have hyx:lt y x=true:=by
     induction h3:lt y x with
     | true=>rfl
     | false=>
      induction h4:lt x y with
      | true=>rw[tr z x y h2 h4]at h1;cases h1
      | false=>rw[Eb y x h3 h4,h2]at h1;cases h1
    rw[e2 x y,e2 y z,h1,hyx];rw[e x,h2]
   | false=>
    rw[e2 x y,e2 y x];induction h3:lt y x with
    | true=>
     rw[as y x h3];rw[e x,h2]
    | false=>induction h4:lt x y with
     | true=>
      refine ab (e y) ?_;exact ab (h1) rfl
     | false=>rw[Eb x y h4 h3]
end
theorem ahm(θ:Th)(x:List Nat)(l:List (List Nat)):qc (T1 θ) (ao x) (l.map ao)=(k9 PySem.Spec.ltCps x l).map ao:=by
 induction l with
 | nil=>rfl
 | cons y l ih=>
  have e:(T1 θ).lt (ao y) (ao x)=PySem.Spec.ltCps y x:=by
   show PySem.Spec.ltCps (den θ (ao y)) (den θ (ao x))=_
   rw[pw,pw]
  show(match(T1 θ).lt (ao y) (ao x)with|true=>ao y::qc (T1 θ) (ao x) (l.map ao)|false=>ao x::ao y::l.map ao)=(match PySem.Spec.ltCps y x with|true=>y::k9 PySem.Spec.ltCps x l|false=>x::y::l).map ao
  refine ab (e) ?_;induction PySem.Spec.ltCps y x with
  | true=>exact congrArg (ao y::·) ih
  | false=>rfl
theorem ahn(θ:Th)(l:List (List Nat)):qd (T1 θ) (l.map ao)=(l.foldr (k9 PySem.Spec.ltCps) []).map ao:=by
 induction l with
 | nil=>rfl
 | cons x l ih=>
  show qc (T1 θ) (ao x) (qd (T1 θ) (l.map ao))=_
  rw[ih,ahm];rfl
theorem J8(a b:List Nat):PySem.Spec.ltCps a b=decide (a<b):=asj a b
theorem aho{l m:List (List Nat)}(h:l.Perm m):l.foldr (k9 PySem.Spec.ltCps) []=m.foldr (k9 PySem.Spec.ltCps) []:=by
 refine h.foldr_eq' (λx _ y _ z=>?_) _;refine ahl (λx y h=>?_) (λx y z h1 h2=>?_) (λx y h1 h2=>?_) y x z
 ·rw[J8]at h ⊢;exact decide_eq_false λq=>List.lt_irrefl x (are (of_decide_eq_true h) q)
 ·rw[J8]at h1 h2 ⊢;exact decide_eq_true (are (of_decide_eq_true h1) (of_decide_eq_true h2))
 ·rw[J8]at h1 h2;exact aqY (LM.mp (of_decide_eq_false h2)) (LM.mp (of_decide_eq_false h1))
theorem J9{f:V->Option V}{l:List V}(h:∀v∈l,f v=some v):hJ f l=some l:=by
 induction l with
 | nil=>rfl
 | cons v l ih=>exact(bx (h v bT)).trans ((bx (ih λw hw=>h w (bL _ hw))).trans rfl)
theorem Ec{f:V->Option V}{l:List (Tx×V)}(h:∀e∈l,f e.2=some e.2):pr f l=some l:=by
 induction l with
 | nil=>rfl
 | cons v l ih=>exact(bx (h v bT)).trans ((bx (ih λw hw=>h w (bL _ hw))).trans rfl)
theorem Ed(T:Tb)(st:St):∀(n:Nat) (v:V),bY n v=true->dH T st n v=some v:=by
 intro n;induction n with
 | zero=>exactλv h=>bV h
 | succ n ih=>
  intro v h;induction v using V.casesOn with
  | tup l=>exact(bx (J9 λv hv=>ih v (eh.mp h v hv))).trans rfl
  | fl l=>exact(bx (J9 λv hv=>ih v (eh.mp h v hv))).trans rfl
  | fd l=>exact(bx (Ec λe he=>ih e.2 (eh.mp h e he))).trans rfl
  | ins l=>exact(bx (Ec λe he=>ih e.2 (eh.mp h e he))).trans rfl
  | loc _=>exact bV h
  | raw _ _=>exact bV h
  | _=>rfl
theorem jd{n k:Nat}{G:Nat->V}(h:∀x,x<k->bY n (G x)=true):bY (n+1) (.fl (lsN k G))=true:=eh.mpr λv hv=>by
 refine ah (dF.mp hv) λx hx e=>?_
 subst e;exact h x (eR.mp hx)
theorem zT{α:Type}{n:Nat}{G:α->V}{l:List α}(h:∀x∈l,bY n (G x)=true):bY (n+1) (.fl (l.map G))=true:=eh.mpr λv hv=>by
 refine ah (dF.mp hv) λx hx e=>?_
 subst e;exact h x hx
theorem ahp(n:Nat)(l:List Nat):bY (n+2) (.tup (zD l))=true:=eh.mpr λv hv=>by
 refine ah (dF.mp hv) λx hx e=>?_
 subst e
 rfl
theorem ahq(raw:Tx)(s:sH):bY 11 (k7 raw s)=true:=by
 show(true&&((bY 9 (.tup (zD s.cur))&&(true&&true))&&(true&&(true&&(true&&true)))))=true
 rw[ahp];rfl
theorem ahr(d:Dat):bY 12 (jA d)=true:=jd λx _=>ahq _ _
theorem ahs(d:Dat)(x y:Nat):bY 10 (nu d x y)=true:=by
 unfold nu;induction aH x y with
 | true=>exact zT (l:=qR (d.lead x) (d.lead y)) λk _=>rfl
 | false=>rfl
theorem aht(d:Dat):bY 12 (ii d)=true:=jd λx _=>jd λy _=>ahs d x y
noncomputable section
variable {θ:Th}{d:Dat}{K:bb}{n:Nat}{st:St}
def xb(d:Dat)(D:Dm)(o8 o9 o0 o1:Option V):Fr:=⟨[o0,o1,none,none,none,none],[some (dO d),some (iN d.pg),some (kF d),some (.fd (D.map dV)),some jU,some (jA d),some (ii d),some (gr d),o8,o9,none,none,none,none,none]⟩
theorem qX{f:V->Option V}{v w:V}{r r':List (Option V)}(h:f v=some w)(hr:n7 f r=some r'):n7 f (some v::r)=some (some w::r'):=by
 show af (af (f v) λv=>some (some v)) (λo=>af (n7 f r) λl=>some (o::l))=_
 refine ab (h) ?_;exact(bx (z:=some w) rfl).trans ((bx hr).trans rfl)
theorem Ee{f:V->Option V}{o:Option V}{r r':List (Option V)}(h:∀v,o=some v->f v=some v)(hr:n7 f r=some r'):n7 f (o::r)=some (o::r'):=by
 induction o with
 | none=>exact(bx (z:=none) rfl).trans ((bx hr).trans rfl)
 | some v=>exact qX (h v rfl) hr
theorem ahu{D:Dm}{o8 o9 o0 o1:Option V}(b8:gE o8)(b9:gE o9)(b0:gE o0)(b1:gE o1):GX (dH (T1 θ) (cj (D.map dV)) 12) (jV d o8 o9 o0 o1)=some (xb d D o8 o9 o0 o1):=by
 have fz:∀{v:V},bY 12 v=true->dH (T1 θ) (cj (D.map dV)) 12 v=some v:=λh=>Ed _ _ 12 _ h
 have fo:∀{o:Option V},gE o->∀v,o=some v->dH (T1 θ) (cj (D.map dV)) 12 v=some v:=λh v e=>fz (h v e)
 have hs:dH (T1 θ) (cj (D.map dV)) 12 (.loc 0)=some (.fd (D.map dV)):=by
  show af (pr (dH (T1 θ) (cj (D.map dV)) 11) (D.map dV)) (λl=>some (V.fd l))=_
  refine ab (Ec λe he=>by
   refine ah (dF.mp he) λx hx q=>?_
   subst q;rfl) ?_
  rfl
 have hL:n7 (dH (T1 θ) (cj (D.map dV)) 12) (jV d o8 o9 o0 o1).L=some (xb d D o8 o9 o0 o1).L:=Ee (fo b0) (Ee (fo b1) rfl);have hC:n7 (dH (T1 θ) (cj (D.map dV)) 12) (jV d o8 o9 o0 o1).C=some (xb d D o8 o9 o0 o1).C:=
  qX (fz (jd λx _=>rfl)) (qX (fz rfl) (qX (fz (jd λx _=>rfl)) (qX hs (qX (fz rfl) (qX (fz (ahr d)) (qX (fz (aht d)) (qX (fz (jd λx _=>rfl)) (Ee (fo b8) (Ee (fo b9) rfl)))))))))
 exact(bx hL).trans ((bx hC).trans rfl)
noncomputable def VP:List (Nat×Nat):=(aD 5).flatMap λx=>(aD (5-x)).map λk=>(x,x+1+k)
theorem ahv:∀b∈aD 6,∀a∈aD b,(a,b)∈VP:=by decide +kernel
theorem R8{p:Nat×Nat}(h1:p.1<p.2)(h2:p.2<=5):p∈VP:=ahv p.2 (eR.mpr (ars h2)) p.1 (eR.mpr h1)
theorem xc:∀p∈VP,p.1<p.2/\p.2<=5:=by decide
theorem ahw:∀p∈VP,∀q∈VP,p.1=q.1->3*(p.2-p.1)-1=3*(q.2-q.1)-1->p=q:=by decide +kernel
theorem J':(λd:Dat=>VP.map λp=>((dD d p.1 p.2).head?,(dD d p.1 p.2).length))=λd=>VP.map λp=>(some (97+d.l p.1),3*(p.2-p.1)-1):=by kernel_rfl
theorem R9(g:Good d){p q:Nat×Nat}(hp:p∈VP)(hq:q∈VP):bw (dD d p.1 p.2) (dD d q.1 q.2)=eI p q:=by
 refine ro.mpr ⟨λh=>?_,λh=>?_⟩
 ·have lt:∀{p},p∈VP->p.1<5:=λhp=>km (xc _ hp).1 (xc _ hp).2
  have e3:=(cV (congrFun J' d) hp).symm.trans ((congrArg (λl:List Nat=>(l.head?,l.length)) (ja h)).trans (cV (congrFun J' d) hq));exact kH.mpr (ahw p hp q hq (g.ne p.1 q.1 (lt hp) (lt hq) (Nat.add_left_cancel (aI (congrArg AA e3)))) (congrArg Fx e3))
 ·exact kH.mp h▸yU _
def kd(d:Dat)(q:(Nat×Nat)×Nat):List Nat×Nat:=(dD d q.1.1 q.1.2,q.2)
theorem Ka(g:Good d){D:Dp}(hD:∀q∈D,q.1∈VP){p:Nat×Nat}(hp:p∈VP):kg (D.map (kd d)) (dD d p.1 p.2)=gF D p:=by
 induction D with
 | nil=>rfl
 | cons e r ih=>
  show(match bw (dD d e.1.1 e.1.2) (dD d p.1 p.2)with|true=>some e.2|false=>kg (r.map (kd d)) (dD d p.1 p.2))=(match eI e.1 p with|true=>some e.2|false=>gF r p)
  refine ab (R9 g (hD e bT) hp) ?_;exact ab (ih λq hq=>hD q (bL _ hq)) rfl
theorem Sa(g:Good d){D:Dp}(hD:∀q∈D,q.1∈VP){p:Nat×Nat}(hp:p∈VP)(n:Nat):nv (D.map (kd d)) (dD d p.1 p.2) n=(fx D p n).map (kd d):=by
 induction D with
 | nil=>rfl
 | cons e r ih=>
  show(match bw (dD d e.1.1 e.1.2) (dD d p.1 p.2)with|true=>(dD d e.1.1 e.1.2,n)::r.map (kd d)|false=>kd d e::nv (r.map (kd d)) (dD d p.1 p.2) n)=(match eI e.1 p with|true=>(e.1,n)::r|false=>e::fx r p n).map (kd d)
  refine ab (R9 g (hD e bT) hp) ?_;refine ab (ih λq hq=>hD q (bL _ hq)) ?_;induction eI e.1 p<;>rfl
theorem Sb{D:Dp}(hD:∀q∈D,q.1∈VP){p:Nat×Nat}(hp:p∈VP)(n:Nat):∀q∈fx D p n,q.1∈VP:=λq hq=>by
 have:q.1∈eQ (fx D p n):=dF.mpr ⟨q,hq,rfl⟩
 rw[(J3 D p n).1]at this;rcases this with z|z
 ·exact ab (z) hp
 ·refine ah (dF.mp z) λe he z=>?_
  refine bX (z) ?_;exact hD e he
theorem Sd(g:Good d)(ps:List (Nat×Nat)):∀{D:Dp},(∀p∈ps,p∈VP)->(∀q∈D,q.1∈VP)->(ps.map λp=>dD d p.1 p.2).foldl bump (D.map (kd d))=(ps.foldl ny D).map (kd d)/\∀q∈ps.foldl ny D,q.1∈VP:=by
 induction ps with
 | nil=>exactλ_ h=>⟨rfl,h⟩
 | cons p ps ih=>
  intro D hp hD;have wz:=hp p bT
  have:bump (D.map (kd d)) (dD d p.1 p.2)=(ny D p).map (kd d):=by
   unfold bump ny;rw[Ka g hD wz,Sa g hD wz]
  refine ab (jE) ?_;refine ab (lq) ?_;refine ab (lq) ?_;refine ab (this) ?_;exact ih (λq hq=>hp q (bL _ hq)) (Sb hD wz _)
theorem ahx(f:Nat->Nat->Bool):∀p∈fX (ee f),p∈VP:=λp hp=>by
 have hi:JS (ee f)=true:=eh.mp JT _ (zJ rfl)
 have:=eh.mp (a1 (a2 (a2 hi))) p hp
 exact R8 (bF (a1 this)) (bF (a2 this))
theorem Kb(d:Dat):∀p∈kJ d,p∈VP:=λp hp=>by
 refine ah (arf.mp hp) λk _ h=>?_
 exact ahx _ p h
def fH(d:Dat):Dp:=(kJ d).foldl ny []
theorem ahy(d:Dat):J1 d=(kJ d).map λp=>dD d p.1 p.2:=by
 unfold J1 kJ my;rw[List.map_flatMap]
theorem ahz(g:Good d):zO d=(fH d).map (kd d):=by
 unfold zO fH;rw[ahy];exact(Sd g (kJ d) (D:=[]) (Kb d) (λq hq=>nomatch hq)).1
theorem zU(g:Good d):∀q∈fH d,q.1∈VP:=(Sd g (kJ d) (D:=[]) (Kb d) (λq hq=>nomatch hq)).2
end
theorem Se(L:List (List Nat)):po (L.map ao)=L.map λx=>.str (ao x):=by
 induction L with
 | nil=>rfl
 | cons x L ih=>exact congrArg (V.str (ao x)::·) ih
theorem ahA(θ:Th)(c:Nat)(l:List Nat):rL (T1 θ) c (ao l)=some ((gP c l).map ao)/\gP c l≠[]:=by
 induction l with
 | nil=>exact⟨rfl,λh=>nomatch h⟩
 | cons n l ih=>
  have e:gP c (n::l)=match gP c l with|y::m=>if n=c then []::y::m else(n::y)::m|[]=>[]:=rfl
  have e2:rL (T1 θ) c (ao (n::l))=af (rL (T1 θ) c (ao l)) λl=>af (some (aG n c)) λb=>match l with
   | []=>none
   | y::m=>match b with|true=>some ([]::y::m)|false=>some ((At.c n::y)::m):=rfl
  rw[e,e2,ih.1];induction h:gP c l with
  | nil=>exact absurd h ih.2
  | cons y m=>
   induction q:aG n c with
   | true=>
    dsimp only;rw[if_pos (dj q)];exact⟨rfl,λh=>nomatch h⟩
   | false=>
    dsimp only;rw[if_neg λz=>by rw[z,gw]at q;cases q];exact⟨rfl,λh=>nomatch h⟩
noncomputable section
variable {θ:Th}{d:Dat}{K:bb}{n:Nat}{st:St}{fr:Fr}{a b c:Cd}
theorem Kc{x y:Nat}(ha:Ev a K fr st (iN x))(hb:Ev b K fr st (iN y)):Tv (bq (T1 θ) .gt a b) K fr st (aH y x):=
 j8 ha hb (by
  show some (decide ((y:Int)<(x:Int)))=_
  congr 1
  rw[ro,decide_eq_true_iff];exact⟨λh=>cZ (nH.mp h),λh=>nH.mpr (bF h)⟩)
theorem ahB{x:List Nat}{L:List (List Nat)}(hx:Ev a K fr st (.str (ao x)))(hc:gP 32 x=L)(h1:x.length<1000)(h2:L.length<1000):Ev (bG (T1 θ) a [115,112,108,105,116] [(aX [.c 32])]) K fr st (.fl (L.map λx=>.str (ao x))):=by
 refine uD (q:=none) hx rfl (iM (u:=.str [.c 32]) rfl) ?_
 show bv (lC (ao x)) (eB (bv true (match false with|true=>af (gN (.str [.c 32]) st) (tT (ao x))|false=>bv true (af (some 32) λc=>af (rL (T1 θ) c (ao x)) λl=>jJ (po l)))) st)=_
 refine dI (cZ (by rw[mw];lia)) (jT (dI rfl (dI rfl ?_)))
 show af (rL (T1 θ) 32 (ao x)) (λl=>jJ (po l))=_
 rw[(ahA θ 32 x).1,hc]
 show jJ (po (L.map ao))=_
 rw[Se];exact sL (by rw[cK];lia)
theorem ahC{l:List V}(hl:l.length<4000)(h1:1<=l.length):iX (.fl l) (some (.int 1)) none st=some (.fl (l.drop 1)):=by
 show bv (dZ l) (af (af (bv true (some (min 1 l.length))) λa=>some ((l.take l.length).drop a)) jJ)=_
 refine dI (j9 hl) ?_;rw[arm,tD h1];exact sL (by rw[tv];omega)
def sN(d:Dat)(p:Nat×Nat):List (List Nat):=(((aD 5).map (dh d)).take p.2).drop (p.1+1)
def je(d:Dat)(p:Nat×Nat):V:=.fl ((sN d p).map λx=>.str (ao x))
def gU(d:Dat):List (Nat×Nat):=((fH d).filter λq=>aH 2 q.2).map (·.1)
def qY(d:Dat):V:=.fd (((fH d).map (kd d)).map dV)
theorem ahD(g:Good d):∀x∈(aD 5).map (dh d),32∉x:=λx hx h=>by
 refine ah (dF.mp hx) λy hy e=>?_
 subst e;have hy:=cY hy;rcases cW.mp h with q|q
 ·lia
 ·rw[cO]at q;exact(by decide:∀s∈SG,s≠32) _ (g.s y hy) q.symm
theorem zV(d:Dat):(eQ (fH d)).Nodup:=(RW (kJ d) (D:=[]) tC).1
theorem pairs_len(d:Dat):(kJ d).length=25:=by
 have go:∀ks:List Nat,(ks.flatMap λk=>fX (BL d (k+1))).length=5*ks.length:=by
  intro ks;induction ks with
  | nil=>rfl
  | cons k ks ih=>
   rw[j0,cS,ih,cH]
   have:(fX (BL d (k+1))).length=5:=zN _
   lia
 exact go _
theorem Sf(d:Dat):(fH d).length<=25:=by
 have go:∀(ps:List (Nat×Nat)) (D:Dp),(ps.foldl ny D).length<=D.length+ps.length:=by
  intro ps;induction ps with
  | nil=>exactλ_=>dr _
  | cons p ps ih=>
   intro D;have h1:=ih (ny D p)
   have:∀(D:Dp) (x:Nat×Nat) (n:Nat),(fx D x n).length<=D.length+1:=by
    intro D x n;induction D with
    | nil=>exact dr _
    | cons e r ih=>
     show(match eI e.1 x with|true=>(e.1,n)::r|false=>e::fx r x n).length<=_
     induction eI e.1 x with
     | true=>exact pU _
     | false=>exact Fv ih
   have h2:=this D p ((gF D p).getD 0+1);rw[lq,cH];unfold ny at h1 ⊢
   lia
 have:=go (kJ d) []
 rw[pairs_len]at this;exact dG this (by decide)
section
variable {C L:List (Option V)}
theorem ahE(g:Good d)(h3:C[3]?=some (some (qY d))):Ev (IY (T1 θ)) K ⟨L,C⟩ st (.fl ((gU d).map (je d))):=by
 have hk:rM (((fH d).map (kd d)).map dV)=(fH d).map λq=>.str (ao (dD d q.1.1 q.1.2)):=by
  generalize fH d=D
  induction D with
  | nil=>rfl
  | cons e r ih=>exact congrArg (V.str (ao (dD d e.1.1 e.1.2))::·) ih
 have key:=sG (K:=K) (st:=st) (fr:=⟨L,C⟩) (ks:=fH d) (G:=λq=>.str (ao (dD d q.1.1 q.1.2))) (C:=[some (qY d)]) (free:=[3]) (i:=ce (aq 3)) (g:=jq (bq (T1 θ) .gt (aJ (T1 θ) (aq 0) (ae 1)) (aj 2)) (bE (fC (bG (T1 θ) (ae 1) [115,112,108,105,116] [(aX [.c 32])]) (some (aj 1)) none)))
  (f:=λq=>if aH 2 q.2 then [je d q.1]else []) (λq=>by split<;>simp) (ff (aV h3) (by show some (Src.vals (rM _))=_;rw[hk])) (by show af C[3]? _=_;rw[h3];rfl) (by have:=Sf d;lia) λq hq=>?_
 ·rw[uM]at key;have e:(gU d).map (je d)=((fH d).filter λq=>aH 2 q.2).map λq=>je d q.1:=by unfold gU;rw[kO];rfl
  rw[e];exact key
 ·have hv:=zU g q hq;have vv:=xc _ hv;have hs:nR (T1 θ) (qY d) (.str (ao (dD d q.1.1 q.1.2))) st=some (iN q.2):=by
   show af (some (((fH d).map (kd d)).map dV)) (λl=>M2 (T1 θ) (ao (dD d q.1.1 q.1.2)) l)=_
   show af (pj (T1 θ) (ao (dD d q.1.1 q.1.2)) (((fH d).map (kd d)).map dV)) (λo=>o)=_
   rw[JY,Ka g (zU g) hv,D6 (zV d) hq];rfl
  refine uG (Kc (b:=aj 2) (y:=2) (cR (aV rfl) (ba rfl) hs) rfl) ?_;have hc:gP 32 (dD d q.1.1 q.1.2)=(((aD 5).map (dh d)).take q.1.2).drop q.1.1:=Ol 32 _ (λz=>by
   have:=congrArg Fm z
   rw[tv,lr,cK,tw]at this;simp at this;lia) λp hp=>ahD g p (xM (LK hp))
  have hl:(((aD 5).map (dh d)).take q.1.2).length=q.1.2:=by rw[lr,cK,tw];lia
  have kl:(dD d q.1.1 q.1.2).length<1000:=by
   have:=congrArg Fx (cV (congrFun J' d) hv)
   have:(dD d q.1.1 q.1.2).length=3*(q.1.2-q.1.1)-1:=this
   lia
  have sp:=ahB (θ:=θ) (K:=K) (st:=st) (fr:=⟨[none,some (.str (ao (dD d q.1.1 q.1.2)))],[some (qY d)]⟩) (a:=ae 1) (ba rfl) hc kl (by rw[tv,hl];lia);refine adQ (b:=aj 1) sp rfl ((ahC (by rw[cK,tv,hl];lia) (by rw[cK,tv,hl];lia)).trans ?_)
  show some (V.fl ((((((aD 5).map (dh d)).take q.1.2).drop q.1.1).map λx=>V.str (ao x)).drop 1))=some (V.fl ((sN d q.1).map λx=>V.str (ao x)))
  unfold sN;rw[<-Fo,U1]
theorem ahF(θ:Th)(x:List Nat)(L:List (List Nat)):yj (T1 θ) (ao x) (L.map λy=>.str (ao y))=some (L.any λy=>bw y x):=by
 induction L with
 | nil=>rfl
 | cons y L ih=>exact(bx (D2 θ y x)).trans ((bx ih).trans rfl)
theorem ahG(g:Good d){x y:Nat}(hx:x<5)(hy:y<5):bw (dh d x) (dh d y)=aG x y:=by
 rw[ro];constructor
 ·intro h
  have:=(mC.inj (ja h)).1
  exact ab (g.ne x y hx hy (by lia)) (gw _)
 ·intro h;refine ab (dj h) ?_;exact yU _
theorem ahH:∀a,a<6->∀e,e<6->∀x,x<5->(((aD 5).take e).drop a).any (λy=>aG y x)=(fT a x&&aH x e):=by decide +kernel
noncomputable def zW(p:Nat×Nat)(x:Nat):Bool:=fT (p.1+1) x&&aH x p.2
theorem ahI(g:Good d){p:Nat×Nat}(hp:p∈VP){x:Nat}(hx:x<5):(sN d p).any (λy=>bw y (dh d x))=zW p x:=by
 have vp:=xc p hp;unfold sN;rw[<-Au,<-Fo,List.any_map]
 have:∀y∈((aD 5).take p.2).drop (p.1+1),((λy=>bw y (dh d x)) ∘ dh d) y=aG y x:=λy hy=>ahG g (cY (xM (LK hy))) hx
 have e:∀l:List Nat,(∀y∈l,((λy=>bw y (dh d x)) ∘ dh d) y=aG y x)->l.any ((λy=>bw y (dh d x)) ∘ dh d)=l.any λy=>aG y x:=by
  intro l;induction l with
  | nil=>exactλ_=>rfl
  | cons a l ih=>intro h;rw[Fh,Fh,h a bT,ih λy hy=>h y (bL _ hy)]
 rw[e _ this];exact ahH _ (by lia) _ (by lia) x hx
theorem Sh{x:Nat}(g:Good d)(hx:x<5)(hr:Ev a K fr st (dg d x)):Ev (aK .add (eJ (T1 θ) .chr (aK .add (aj 97) (aJ (T1 θ) a (aj 1)))) (aJ (T1 θ) a (aj 2))) K fr st (.str (ao (dh d x))):=by
 have hl:=g.l x hx;exact d6 (w:=.str (ao (dh d x))) (uE (w:=.str [.c (97+d.l x)]) (d6 (a:=aj 97) (u:=iN 97) rfl (cR (b:=aj 1) hr rfl rfl) (qT (x:=97) (y:=d.l x) (by lia))) (Q9 (by lia))) (cR (b:=aj 2) hr rfl rfl) (zw (p:=[.c (97+d.l x)]) (q:=[.c (d.s x)]) (km (by decide:2<3) (by decide)))
def zX(d:Dat)(x:Nat):Nat:=((gU d).filter λp=>zW p x).length
theorem ahJ(g:Good d):∀p∈gU d,p∈VP:=λp hp=>by
 refine ah (dF.mp hp) λq hq e=>?_
 refine bX (e) ?_;exact zU g q (pT.mp hq).1
theorem Si(d:Dat):(gU d).length<=25:=by
 unfold gU;rw[cK];exact dG (xJ _ _) (Sf d)
theorem ahK(g:Good d)(h0:C[0]?=some (some (dO d)))(FU:C[10]?=some (some (.fl ((gU d).map (je d))))):Ev (IZ (T1 θ)) K ⟨L,C⟩ st (.fl (lsN 5 λx=>iN (zX d x))):=
 iO (ks:=aD 5) (G:=dg d) (C:=[some (.fl ((gU d).map (je d)))]) (ff (aV h0) rfl) (by show af C[10]? _=_;rw[FU];rfl) (by decide) λx hx=>by
  have hx:=cY hx;have kG:=sG (K:=K) (st:=st) (fr:=⟨[none],[some (dg d x),some (.fl ((gU d).map (je d)))]⟩) (ks:=gU d) (G:=je d) (C:=[some (dg d x)]) (free:=[0]) (i:=ce (aq 1)) (g:=(jq (bq (T1 θ) .isin (aK .add (eJ (T1 θ) .chr (aK .add (aj 97) (aJ (T1 θ) (aq 0) (aj 1)))) (aJ (T1 θ) (aq 0) (aj 2))) (ae 1)) (bE (ae 1))))
   (f:=λp=>if(sN d p).any (λy=>bw y (dh d x))then [je d p]else []) (λq=>by split<;>simp) (ff (aV rfl) rfl) rfl (by have:=Si d;lia) λp hp=>uG (j8 (Sh g hx (aV rfl)) (ba rfl) (ahF θ (dh d x) (sN d p))) (ba rfl)
  rw[uM]at kG;refine uE kG ?_
  show bv (dZ _) (some (V.int ((((gU d).filter λp=>(sN d p).any λy=>bw y (dh d x)).map (je d)).length:Nat)))=_
  have e:=U3 λp hp=>ahI g (ahJ g p hp) hx
  refine ab (e) ?_
  have:=xJ (λp=>zW p x) (gU d)
  have:=Si d
  refine dI (j9 (by rw[cK];lia)) ?_;rw[cK];rfl
end
end
theorem ahL{D:Dp}{p:Nat×Nat}{c:Nat}(h:gF D p=some c):(p,c)∈D:=by
 induction D with
 | nil=>exact au h
 | cons e r ih=>
  have h:(match eI e.1 p with|true=>some e.2|false=>gF r p)=some c:=h;induction q:eI e.1 p with
  | true=>
   rw[q]at h;refine bf h ?_;refine bX (kH.mp q) ?_;exact bT
  | false=>rw[q]at h;exact bL _ (ih h)
theorem ahM{d:Dat}(g:Good d)(p:Nat×Nat):p∈gU d↔p.1<5/\2<cG p.2 (eL d p.1):=by
 have cnt:p.1<5->(gF (fH d) p).getD 0=cG p.2 (eL d p.1):=λh=>by
  have:=RV (kJ d) [] p
  rw[show jC p (kJ d)=cG p.2 (eL d p.1) from D9 d h p.2]at this;exact this.trans (rt _)
 constructor
 ·intro h;refine ah (dF.mp h) λq hq e=>?_
  have hf:=pT.mp hq;have hv:=xc _ (zU g q hf.1);have h5:p.1<5:=by refine bX (e) ?_;lia
  refine⟨h5,?_⟩;rw[<-cnt h5,<-e,D6 (zV d) hf.1];exact bF hf.2
 ·intro h
  have:=cnt h.1
  induction q:gF (fH d) p with
  | none=>
   rw[q]at this;have t:0=cG p.2 (eL d p.1):=this
   have:=h.2
   lia
  | some c=>
   rw[q]at this;have this:c=_:=this;exact dF.mpr ⟨(p,c),pT.mpr ⟨ahL q,cZ (by show 2<c;exact ab (this) h.2)⟩,rfl⟩
def zY(d:Dat)(y:Nat):Bool:=aH 2 (cG (mK d y) (eL d y))
theorem ahN{d:Dat}(g:Good d):(gU d).Perm (((aD 5).filter (zY d)).map λy=>(y,mK d y)):=by
 refine(ari ?_ ?_).mpr λp=>?_
 ·have h:(((fH d).filter λq=>aH 2 q.2).map (·.1)).Sublist ((fH d).map (·.1)):=List.filter_sublist.map _;exact h.nodup (zV d)
 ·refine List.Pairwise.map _ (λa b h e=>h (congrArg AA e)) (List.Pairwise.filter _ List.nodup_range)
 ·rw[ahM g,dF];constructor
  ·rintro ⟨h1,h2⟩
   rcases zR (oK d p.1) p.1 with⟨c1,u⟩|⟨_,u⟩
   ·have e:=u _ h2;exact aW p.1 (pT.mpr ⟨eR.mpr h1,cZ c1⟩) (mI rfl e.symm)
   ·exact absurd h2 (u _)
  ·rintro ⟨y,hy,e⟩
   subst e
   have:=pT.mp hy
   exact⟨cY this.1,bF this.2⟩
theorem ahO{d:Dat}(g:Good d){x:Nat}(hx:x<5):zX d x=(gu d).getD x 0:=by
 have e1:zX d x=(((aD 5).filter (zY d)).filter λy=>zW (y,mK d y) x).length:=by
  unfold zX;rw[((ahN g).filter _).length_eq,List.filter_map,cK];rfl
 have e2:(((aD 5).filter (zY d)).filter λy=>zW (y,mK d y) x)=(aD 5).filter λy=>aH y x&&aH x ((mL d).getD y 0):=by
  rw[List.filter_filter];refine U3 λy hy=>?_
  rw[J6 d (cY hy)]
  show(aH y x&&aH x (mK d y)&&zY d y)=_
  rcases zR (oK d y) y with⟨c1,_⟩|⟨h,_⟩
  ·rw[show zY d y=true from cZ c1,Bool.and_true]
  ·have h:mK d y=y+1:=h
   have:(aH y x&&aH x (mK d y))=false:=by
    induction q:aH y x with
    | false=>rfl
    | true=>
     have:=bF q
     induction z:aH x (mK d y)with
     | false=>rfl
     | true=>have:=bF z;lia
   rw[this];rfl
 rw[e1,e2]
 rcases(by lia:x=0\/x=1\/x=2\/x=3\/x=4)with q|q|q|q|q<;>subst q<;>rfl
theorem zZ{d:Dat}{x:Nat}(hx:x<5):(gu d).getD x 0<=4:=by
 have h:∀m∈MV,∀x,x<5->(Ea m).getD x 0<=4:=by decide +kernel
 exact h (mL d) (RY d) x hx
noncomputable def qN(d:Dat)(k:Nat):Nat:=d.pg/60/3^k%3
def qW(d:Dat):List Nat:=[qN d 0,qN d 1,qN d 2,qN d 3]
noncomputable def sO(q:Nat):List Nat:=oX q 32++[9]
noncomputable section
variable {θ:Th}{d:Dat}{K:bb}{n:Nat}{st:St}{fr:Fr}{a b c:Cd}{C L:List (Option V)}
def lc(d:Dat):V:=.fl (lsN 4 λk=>.str (ao (sO (qN d k))))
theorem Sj:∀k,k<4->MT 3 (aZ k)=some (iN (3^k)):=by
 intro k hk
 rcases(by lia:k=0\/k=1\/k=2\/k=3)with q|q|q|q<;>subst q<;>rfl
theorem ahP{q:Nat}(hq:q<3):mT .mul (.str [.c 32]) (iN q) st=some (.str (ao (oX q 32))):=by
 rcases(by lia:q=0\/q=1\/q=2)with q|q|q<;>subst q<;>rfl
theorem Sk:Iv (dT (aj 4)) K fr st (.vals ((aD 4).map iN)):=zx (u:=.int 4) rfl rfl
theorem ahQ(g:Good d)(h1:C[1]?=some (some (iN d.pg))):Ev (I1 (T1 θ)) K ⟨L,C⟩ st (lc d):=
 jc (ks:=aD 4) (G:=iN) (C:=[some (iN d.pg)]) (f:=λk=>.str (ao (sO (qN d k)))) Sk (by show af C[1]? _=_;rw[h1];rfl) (by decide) λk hk=>by
  have hk:=eR.mp hk;have hp:=g.pg;have hq:qN d k<3:=lX _ (by decide);have h3:0<3^k:=Nat.pow_pos (by decide);have h81:3^k<=27:=arx (by decide) (by lia:k<=3);have e1:Ev (aK .fdiv (aq 0) (aj 60)) K ⟨[none,some (iN k)],[some (iN d.pg)]⟩ st (iN (d.pg/60)):=d6 (b:=aj 60) (aV rfl) rfl (DH (x:=(d.pg:Int)) (y:=60) (by lia) (by lia) (by decide) (by decide));have e2:Ev (aK .pow (aj 3) (ae 1)) K ⟨[none,some (iN k)],[some (iN d.pg)]⟩ st (iN (3^k)):=d6 (a:=aj 3) (u:=.int 3) rfl (ba rfl) (Sj k hk);have hd:d.pg/60<=d.pg:=aro _ _;have e3:=d6 e1 e2 (DH (x:=((d.pg/60:Nat):Int)) (y:=((3^k:Nat):Int)) (by lia) (by lia) (by lia) (by lia));have e4:Ev (aK .mod (aK .fdiv (aK .fdiv (aq 0) (aj 60)) (aK .pow (aj 3) (ae 1))) (aj 3)) K ⟨[none,some (iN k)],[some (iN d.pg)]⟩ st (iN (qN d k)):=d6 (b:=aj 3) e3 rfl (qL (x:=((d.pg/60/3^k:Nat):Int)) (y:=3) (by decide) (by decide));have e5:=d6 (b:=aX [.c 9]) (d6 (a:=aX [.c 32]) rfl e4 (ahP hq)) rfl (zw (st:=st) (q:=[.c 9]) (by rw[mw,List.length_replicate];show qN d k+1<4000;lia));rw[show ao (oX (qN d k) 32)++[At.c 9]=ao (sO (qN d k))by unfold sO;rw[qO];rfl]at e5;exact e5
def uW(d:Dat)(x:Nat):List Nat:=match aG (x%2) 0 with|true=>(qW d).take ((gu d).getD x 0)|false=>((qW d).take ((gu d).getD x 0)).reverse
theorem ahR(L:List (List Nat)):rK [] (L.map λx=>.str (ao x))=some (ao L.flatten):=by
 induction L with
 | nil=>rfl
 | cons x L ih=>
  refine(bx (z:=ao x) rfl).trans ((bx ih).trans ?_);induction L with
  | nil=>rw[As,aqS,fS];rfl
  | cons y L=>show some (ao x++([]++ao (y::L).flatten))=some (ao (x++(y::L).flatten));rw[tA,qO]
theorem Sl{L:List (List Nat)}(hc:Ev c K fr st (.fl (L.map λx=>.str (ao x))))(hl:L.length<100)(hf:L.flatten.length<3000):Ev (bG (T1 θ) (aX []) [106,111,105,110] [c]) K fr st (.str (ao L.flatten)):=by
 refine uD (q:=none) (u:=.str []) rfl rfl (iM hc) ?_
 show bv (lC []) (eB (bv true (match true with|true=>af (gN (.fl (L.map λx=>.str (ao x))) st) (tT [])|false=>none)) st)=_
 refine dI rfl (jT (dI rfl ?_))
 show tT [] (L.map λx=>.str (ao x))=_
 exact dI (by rw[j9 (by rw[cK];lia)];rfl) ((bx (ahR L)).trans (DJ (by rw[mw];lia)))
theorem ahS{l:List V}{k:Nat}(hl:l.length<4000)(hk:k<=l.length):iX (.fl l) none (some (iN k)) st=some (.fl (l.take k)):=by
 show bv (dZ l) (af (af (bv (kS (iN k |> λ_=>(k:Int))) (some (min k l.length))) λb=>some ((l.take b).drop 0)) jJ)=_
 refine dI (j9 hl) ?_;rw[show kS (k:Int)=true from wQ (by lia) (by lia),tD hk]
 show jJ (l.take k)=_
 exact sL (by rw[lr];lia)
theorem ahT{l:List V}(ha:Ev a K fr st (.fl l))(hl:l.length<4000):Ev (yt a) K fr st (.fl l.reverse):=
 (bz ha).trans ((bx (z:=l) rfl).trans (jT (by rw[y9,fS];exact sL (by exact ab (xK) hl))))
theorem uQ(d:Dat)(k:Nat):(qW d).take k∈PW/\((qW d).take k).reverse∈PW:=by
 have h:∀a∈aD 3,∀b∈aD 3,∀c∈aD 3,∀e∈aD 3,∀k∈aD 5,[a,b,c,e].take k∈PW:=by decide +kernel
 have q:∀k,qN d k∈aD 3:=λk=>eR.mpr (lX _ (by decide))
 have e:(qW d).take k=(qW d).take (min k 4):=by rw[arl];show min k 4=min (min k 4) 4;lia
 refine ab (e) ?_
 have:=h _ (q 0) _ (q 1) _ (q 2) _ (q 3) (min k 4) (eR.mpr (by lia))
 exact⟨this,aeG _ this⟩
theorem Sm(d:Dat)(x:Nat):uW d x∈PW:=by
 unfold uW;induction aG (x%2) 0 with
 | true=>exact(uQ d _).1
 | false=>exact(uQ d _).2
theorem Sn(w:List Nat):uJ w=(w.map sO).flatten:=by
 unfold uJ;rw[List.flatMap_def];rfl
theorem ahU:∀w∈PW,(uJ w).length<=12:=by decide +kernel
def qZ(d:Dat)(x:Nat):V:=k7 (ao (uJ (uW d x)++oH d x)) (ie (uJ (uW d x)))
def iP(d:Dat):V:=.fl (lsN 5 λx=>iN ((gu d).getD x 0))
theorem ahV(g:Good d)(xW:C[11]?=some (some (iP d)))(FV:C[12]?=some (some (lc d)))(h2:C[2]?=some (some (kF d))):Ev (I2 (T1 θ)) (KT θ d (n+1)) ⟨L,C⟩ st (.fl (lsN 5 (qZ d))):=
 jc (ks:=aD 5) (G:=iN) (C:=[some (iP d),some (lc d),some (kF d)]) jB (by show af C[11]? _=_;rw[xW];show af (af C[12]? _) _=_;rw[FV];show af (af (af C[2]? _) _) _=_;rw[h2];rfl) (by decide) λx hx=>by
  have hx:=cY hx;have hd:=zZ (d:=d) hx;have hp:lc d=.fl (((qW d).map sO).map λx=>.str (ao x)):=rfl;have hs:Ev (fC (aq 1) none (some (aJ (T1 θ) (aq 0) (ae 1)))) (KT θ d (n+1)) ⟨[none,some (iN x)],[some (iP d),some (lc d),some (kF d)]⟩ st (.fl ((((qW d).take ((gu d).getD x 0)).map sO).map λx=>.str (ao x))):=by
   refine Jq (aV rfl) (cR (aV rfl) (ba rfl) (gz hx (by decide))) ?_;rw[hp];refine(ahS (by simp[qW]) (by simp[qW];exact hd)).trans ?_;rw[<-Au,<-Au]
  have hq:((qW d).take ((gu d).getD x 0)).length<=4:=by rw[lr];show min _ 4<=4;lia
  have hi:Ev (jp (bq (T1 θ) .eq (aK .mod (ae 1) (aj 2)) (aj 0)) (fC (aq 1) none (some (aJ (T1 θ) (aq 0) (ae 1)))) (yt (fC (aq 1) none (some (aJ (T1 θ) (aq 0) (ae 1)))))) (KT θ d (n+1)) ⟨[none,some (iN x)],[some (iP d),some (lc d),some (kF d)]⟩ st (.fl (((uW d x).map sO).map λx=>.str (ao x))):=by
   have tm:Tv (bq (T1 θ) .eq (aK .mod (ae 1) (aj 2)) (aj 0)) (KT θ d (n+1)) ⟨[none,some (iN x)],[some (iP d),some (lc d),some (kF d)]⟩ st (aG (x%2) 0):=J0 (b:=aj 0) (d6 (b:=aj 2) (ba rfl) rfl RO) rfl;unfold uW;induction z:aG (x%2) 0 with
   | true=>rw[z]at tm;exact DF tm hs
   | false=>
    rw[z]at tm
    have:=ahT hs (by rw[cK,cK];lia)
    rw[<-xL,<-xL]at this;exact Jp tm this
  have hl:=ahU _ (Sm d x);have hu:(uW d x).length<=4:=by
   unfold uW;induction aG (x%2) 0 with
   | true=>exact hq
   | false=>exact ab (xK) hq
  rw[Sn]at hl;have hj:=Sl (θ:=θ) hi (by rw[cK];lia) (by lia);have ht:=RH g hx;have ha:=d6 hj (cR (T:=T1 θ) (a:=aq 2) (b:=ae 1) (aV rfl) (ba rfl) (gz (G:=λx=>.str (ao (oH d x))) hx (by decide))) (zw (by rw[mw,mw];lia));rw[<-qO,<-Sn]at ha;exact jx (u:=.bh 1) rfl (iM ha) (RI g hx (mF _ (dF.mpr ⟨uW d x,Sm d x,rfl⟩)))
theorem Ef(d:Dat)(x:Nat):∃raw,qZ d x=oz raw ((qW d).take ((gu d).getD x 0)):=by
 unfold qZ uW;induction aG (x%2) 0 with
 | true=>exact⟨_,rfl⟩
 | false=>exact⟨_,cV (congrFun aeF _) (uQ d _).1⟩
theorem Eg{w:List Nat}{j k:Nat}(h:j<=k)(hk:k<=w.length):w.take j∈zG (w.take k):=
 dF.mpr ⟨j,eR.mpr (by rw[lr];lia),by rw[List.take_take,tD h]⟩
theorem sP(d:Dat){k:Nat}(hk:k<=4):((qW d).take k).length=k:=by rw[lr];show min k 4=k;lia
theorem ahW{x y:Nat}(hx:x<5)(hy:y<5):KT θ d (n+2) (.bh 104) [qZ d x,qZ d y] st=some (.bool (oC (gu d) x y),st):=by
 refine xE (Ef d x) λr1 e1=>?_
 obtain⟨r2,e2⟩:=Ef d y;have uR:=zZ (d:=d) hx;have uS:=zZ (d:=d) hy;refine ab (e1) ?_;refine ab (e2) ?_;rcases Vf ((gu d).getD x 0) ((gu d).getD y 0)with h|h
 ·have:=cV (cV (congrFun (congrFun (congrFun (congrFun (congrFun (congrFun Rp θ) (kf d)) n) st) r1) r2) (uQ d ((gu d).getD y 0)).1) (Eg (w:=qW d) h uS)
  rw[sP d uR,sP d uS]at this;exact congrArg AA this
 ·have:=cV (cV (congrFun (congrFun (congrFun (congrFun (congrFun (congrFun Rp θ) (kf d)) n) st) r1) r2) (uQ d ((gu d).getD x 0)).1) (Eg (w:=qW d) h uR)
  rw[sP d uR,sP d uS]at this;exact congrArg Fx this
theorem ahX{x y:Nat}(hx:x<5)(hy:y<5):KT θ d (n+1) (.bh 103) [qZ d x,qZ d y] st=some (.bool (zI (gu d) x y),st):=by
 refine xE (Ef d x) λr1 e1=>?_
 obtain⟨r2,e2⟩:=Ef d y;have uR:=zZ (d:=d) hx;have uS:=zZ (d:=d) hy;refine ab (e1) ?_;refine ab (e2) ?_;rcases Vf ((gu d).getD x 0) ((gu d).getD y 0)with h|h
 ·have:=cV (cV (congrFun (congrFun (congrFun (congrFun (congrFun (congrFun Rq θ) (kf d)) n) st) r1) r2) (uQ d ((gu d).getD y 0)).1) (Eg (w:=qW d) h uS)
  rw[sP d uR,sP d uS]at this;exact congrArg AA this
 ·have:=cV (cV (congrFun (congrFun (congrFun (congrFun (congrFun (congrFun Rq θ) (kf d)) n) st) r1) r2) (uQ d ((gu d).getD x 0)).1) (Eg (w:=qW d) h uR)
  rw[sP d uR,sP d uS]at this;exact congrArg Fx this
end
def pH(l:List (List Nat)):List (List Nat):=l.foldr (k9 PySem.Spec.ltCps) []
def sV(l:List (List Nat)):V:=.fl (l.map λx=>.str (ao x))
theorem ahY(l:List (List Nat)):hJ pn (l.map λx=>.str (ao x))=some (l.map ao):=by
 induction l with
 | nil=>rfl
 | cons x l ih=>exact(bx (z:=ao x) rfl).trans ((bx ih).trans rfl)
noncomputable section
variable {θ:Th}{d:Dat}{K:bb}{n:Nat}{st:St}{fr:Fr}{a b c:Cd}{C L:List (Option V)}
theorem Ke{l:List (List Nat)}(ha:Ev a K fr st (sV l))(hl:l.length<64):Ev (eJ (T1 θ) .sorted a) K fr st (sV (pH l)):=
 uE ha (by
  show af (hJ pn (l.map λx=>.str (ao x))) (λm=>bv (aH (l.map λx=>V.str (ao x)).length 64) (some (V.fl (po (qd (T1 θ) m)))))=_
  rw[ahY];refine dI (cZ (by rw[cK];exact hl)) ?_;rw[ahn,Se];rfl)
noncomputable def So(z b:Bool):Bool:=match z with|true=>b|false=>false
theorem ahZ{t:Ct}{z b:Bool}{p:Cd}(h:Tv t K fr st z)(hp:z=true->Ev p K fr st (.bool b)):Ev (jp t p qe) K fr st (.bool (So z b)):=by
 induction z with
 | true=>exact DF h (hp rfl)
 | false=>exact Jp h rfl
def oL(d:Dat):V:=.fl (lsN 5 (qZ d))
def oM(d:Dat)(k:Nat):V:=match k with|0=>jA d|_=>oL d
def rb(d:Dat)(k x:Nat):V:=match k with|0=>nr d x|_=>qZ d x
theorem Eh(d:Dat)(k:Nat):oM d k=.fl (lsN 5 (rb d k)):=by induction k<;>rfl
def Kg(d:Dat)(k x y:Nat):Bool:=match k with|0=>sI (d.lead x) (d.lead y)|_=>oC (gu d) x y
def lL(d:Dat)(k x y:Nat):Bool:=match k with|0=>JI (d.lead x) (d.lead y)|_=>zI (gu d) x y
def oN(d:Dat)(k x y:Nat):Bool:=So (aH x y) (Kg d k x y)
theorem Sp(d:Dat)(k x:Nat):∃l,rb d k x=.ins l:=by
 induction k with
 | zero=>exact⟨_,rfl⟩
 | succ k=>exact⟨_,rfl⟩
theorem aia(g:Good d)(k:Nat){x y:Nat}(hx:x<5)(hy:y<5):KT θ d (n+2) (.bh 104) [rb d k x,rb d k y] st=some (.bool (Kg d k x y),st):=by
 induction k with
 | zero=>exact agv g hx hy
 | succ k=>exact ahW hx hy
theorem aib(g:Good d)(k:Nat){x y:Nat}(hx:x<5)(hy:y<5):KT θ d (n+1) (.bh 103) [rb d k x,rb d k y] st=some (.bool (lL d k x y),st):=by
 induction k with
 | zero=>exact agw g hx hy
 | succ k=>exact ahX hx hy
theorem Sq{o:Cd}{cs:List Cd}{u:V}{vs:List V}{nm:List Nat}{f:Nat}{r:V}(ho:Ev o K fr st u)(hi:∃l,u=.ins l)(hs:Es cs K fr st vs)(hm:(T1 θ).l9 nm=some f)(hk:K (.bh f) (u::vs) st=some (r,st)):Ev (bG (T1 θ) o nm cs) K fr st r:=by
 obtain⟨l,e⟩:=hi;subst e;exact D0 ho hs hm hk
theorem Sr(h5:C[5]?=some (some (jA d)))(h2:L[2]?=some (some (oL d))):Iv (ce (bI [(aq 5),(ae 2)])) K ⟨L,C⟩ st (.vals ([0,1].map (oM d))):=
 ff (nk (gS (aV h5) (ba h2)) rfl) rfl
theorem aic(g:Good d)(h5:C[5]?=some (some (jA d)))(h2:L[2]?=some (some (oL d))):Ev (I3 (T1 θ)) (KT θ d (n+2)) ⟨L,C⟩ st (.fl ([0,1].map λk=>eG (oN d k))):=by
 refine iO (ks:=[0,1]) (G:=oM d) (C:=[]) (Sr h5 h2) rfl (by decide) λk hk=>?_
 refine iO (ks:=aD 5) (G:=iN) (C:=[some (oM d k)]) (f:=λx=>.fl ((aD 5).map λy=>.bool (oN d k x y))) jB rfl (by simp) λx hx=>?_
 refine jc (ks:=aD 5) (G:=iN) (C:=[some (oM d k),some (iN x)]) (f:=λy=>.bool (oN d k x y)) jB rfl (by simp) λy hy=>?_
 refine ahZ (z:=aH x y) (b:=Kg d k x y) (DZ (aV rfl) (ba rfl)) λ_=>?_
 refine Sq (cR (u:=oM d k) (aV rfl) (aV rfl) ?_) (Sp d k x) (iM (cR (u:=oM d k) (aV rfl) (ba rfl) ?_)) rfl (aia g k (cY hx) (cY hy))
 ·rw[Eh];exact gz (cY hx) (by decide)
 ·rw[Eh];exact gz (cY hy) (by decide)
theorem aid(g:Good d)(h5:C[5]?=some (some (jA d)))(h2:L[2]?=some (some (oL d))):Ev (I7 (T1 θ)) (KT θ d (n+2)) ⟨L,C⟩ st (.fl ([0,1].map λk=>eG (lL d k))):=by
 refine iO (ks:=[0,1]) (G:=oM d) (C:=[]) (Sr h5 h2) rfl (by decide) λk hk=>?_
 refine iO (ks:=aD 5) (G:=rb d k) (C:=[some (oM d k)]) (f:=λx=>.fl ((aD 5).map λy=>.bool (lL d k x y))) (ff (u:=oM d k) (aV rfl) (by rw[Eh];rfl)) rfl (by simp) λx hx=>?_
 refine jc (ks:=aD 5) (G:=rb d k) (C:=[some (rb d k x)]) (f:=λy=>.bool (lL d k x y)) (ff (u:=oM d k) (aV rfl) (by rw[Eh];rfl)) rfl (by simp) λy hy=>?_
 exact Sq (aV rfl) (Sp d k x) (iM (ba rfl)) rfl (aib g k (cY hx) (cY hy))
theorem aie(θ:Th)(o1 o2:Option V)(b:Bool)(aO:List V):zq (T1 θ) K aO ⟨[none,o1,o2,some (.bool b)],[]⟩ st=some (aO,⟨[none,o1,o2,some (.bool b)],[]⟩,st):=by
 induction b<;>rfl
theorem aif(θ:Th)(f:Nat->Bool)(o1 o2:Option V)(aO:List V):∀(l:List Nat) (o3:Option V),∃jW,qg K (.loc 3) (zq (T1 θ)) (l.map λy=>.bool (f y)) aO ⟨[none,o1,o2,o3],[]⟩ st=some (aO,⟨[none,o1,o2,jW],[]⟩,st):=by
 intro l;induction l with
 | nil=>exactλo3=>⟨o3,rfl⟩
 | cons y l ih=>exactλo3=>xE (ih (some (.bool (f y)))) λjW e=>Exists.intro jW (by
  refine(bx (z:=(⟨[none,o1,o2,some (.bool (f y))],[]⟩:Fr)) rfl).trans ?_;exact(fQ (aie θ o1 o2 (f y) aO)).trans e)
theorem aig(θ:Th)(f:Nat->Nat->Bool)(o1:Option V)(aO:List V):∀(l:List Nat) (o2 o3:Option V),∃pI jW,qg K (.loc 2) (tY (.loc 3) (ce (ae 2)) (zq (T1 θ))) (l.map λx=>.fl ((aD 5).map λy=>.bool (f x y))) aO ⟨[none,o1,o2,o3],[]⟩ st=some (aO,⟨[none,o1,pI,jW],[]⟩,st):=by
 intro l;induction l with
 | nil=>exactλo2 o3=>⟨o2,o3,rfl⟩
 | cons x l ih=>
  intro o2 o3;obtain⟨p3,e1⟩:=aif (K:=K) (st:=st) θ (f x) o1 (some (.fl ((aD 5).map λy=>.bool (f x y)))) aO (aD 5) o3;refine fL (ih (some (.fl ((aD 5).map λy=>.bool (f x y)))) p3) λq2 q3 e2=>?_
  refine gK q2 q3 ?_;refine(bx (z:=(⟨[none,o1,some (.fl ((aD 5).map λy=>.bool (f x y))),o3],[]⟩:Fr)) rfl).trans ?_;exact(fQ ((bz (ff (ba rfl) rfl)).trans e1)).trans e2
theorem aih(θ:Th)(F:Nat->Nat->Nat->Bool)(aO:List V):∀(l:List Nat) (o1 o2 o3:Option V),∃gC pI jW,qg K (.loc 1) (tY (.loc 2) (ce (ae 1)) (tY (.loc 3) (ce (ae 2)) (zq (T1 θ)))) (l.map λk=>eG (F k)) aO ⟨[none,o1,o2,o3],[]⟩ st=some (aO,⟨[none,gC,pI,jW],[]⟩,st):=by
 intro l;induction l with
 | nil=>exactλo1 o2 o3=>⟨o1,o2,o3,rfl⟩
 | cons k l ih=>
  intro o1 o2 o3;refine fL (aig (K:=K) (st:=st) θ (F k) (some (eG (F k))) aO (aD 5) o2 o3) λp2 p3 e1=>?_
  refine fZ (ih (some (eG (F k))) p2 p3) λq1 q2 q3 e2=>?_
  refine FS q1 q2 q3 ?_;refine(bx (z:=(⟨[none,some (eG (F k)),o2,o3],[]⟩:Fr)) rfl).trans ?_;exact(fQ ((bz (ff (ba rfl) rfl)).trans e1)).trans e2
def mz(d:Dat):V:=.fl ([0,1].map λk=>eG (oN d k))
def iQ(d:Dat):V:=.fl ([0,1].map λk=>eG (lL d k))
theorem aii(xX:C[13]?=some (some (mz d)))(xY:C[14]?=some (some (iQ d))):Ev (I8 (T1 θ)) K ⟨L,C⟩ st (.fl []):=by
 refine fZ (aih (K:=K) (st:=st) θ (λk=>match aH k 2 with|true=>oN d k|false=>lL d (k-2)) [] [0,1,2,3] none none none) λp1 p2 p3 e=>?_
 have hb:Ev (aK .add (aq 13) (aq 14)) K ⟨L,C⟩ st (.fl ([0,1,2,3].map λk=>eG (match aH k 2 with|true=>oN d k|false=>lL d (k-2)))):=d6 (aV xX) (aV xY) rfl;exact(bz (ff hb rfl)).trans ((bx (z:=[]) rfl).trans ((fQ e).trans rfl))
def oO(d:Dat)(e:Nat->Nat):List (List Nat):=(aD 5).map λx=>dD d x (e x)
def jX(d:Dat):V:=.fl [sV (pH (oO d λx=>qV (eL d x))),sV (pH (oO d (mK d)))]
theorem Ss{f:Nat->Nat->Bool}{e:Nat->Nat}(h:(fX (ee f)).Perm ((aD 5).map λx=>(x,e x))):pH ((fX (ee f)).map λp=>dD d p.1 p.2)=pH (oO d e):=by
 have:=aho (h.map λp=>dD d p.1 p.2)
 rw[kO]at this;exact this
theorem aij(d:Dat):(fX (ee (sM d))).Perm ((aD 5).map λx=>(x,qV (eL d x))):=by
 refine(RR (ahj d)).trans ?_
 have:zP (bt (ee (sM d)))=(aD 5).map λx=>(x,qV (eL d x)):=Fn λx hx=>by rw[ahk d (cY hx)]
 rw[this]
theorem aik:Iv (dT (aj 2)) K fr st (.vals ([0,1].map iN)):=zx (u:=.int 2) rfl rfl
theorem Su(d:Dat)(l:List (Nat×Nat)):V.fl (l.map (oG d))=sV (l.map λp=>dD d p.1 p.2):=by
 unfold sV;rw[kO];rfl
theorem ail(g:Good d)(h0:C[0]?=some (some (dO d)))(h1:C[1]?=some (some (iN d.pg)))(h4:C[4]?=some (some jU))(xX:C[13]?=some (some (mz d)))(xY:C[14]?=some (some (iQ d))):Ev (I9 (T1 θ)) (KT θ d (n+2)) ⟨L,C⟩ st (jX d):=by
 refine jc (ks:=[0,1]) (G:=iN) (C:=[some (iQ d),some (mz d),some (iN d.pg),some jU,some (dO d)]) (f:=λk=>match k with|0=>sV (pH (oO d λx=>qV (eL d x)))|_=>sV (pH (oO d (mK d)))) aik ?_ (by decide) λk hk=>?_
 ·show af C[14]? _=_;rw[xY];show af (af C[13]? _) _=_;rw[xX];show af (af (af C[1]? _) _) _=_;rw[h1];show af (af (af (af C[4]? _) _) _) _=_;rw[h4];show af (af (af (af (af C[0]? _) _) _) _) _=_;refine ab (h0) ?_;rfl
 ·have Kh:d.pg<10000000000000:=by have:=g.pg;lia
  rcases(by simpa using hk:k=0\/k=1)with q|q
  ·subst q;have e:=jx (K:=KT θ d (n+2)) (st:=st) (u:=.bh 19) (f:=cF 19) rfl (hZ (aV (i:=4) rfl) (hZ (cR (T:=T1 θ) (a:=aq 1) (b:=ae 1) (u:=mz d) (v:=iN 0) (w:=eG (oN d 0)) (aV rfl) (ba rfl) rfl) (gS (cR (T:=T1 θ) (a:=bI [(aq 3),(aJ (T1 θ) (aq 0) (aj 1))]) (b:=ae 1) (u:=.tup [jU,eG (lL d 1)]) (v:=iN 0) (w:=jU) (nk (gS (aV rfl) (cR (u:=iQ d) (v:=.int 1) (aV rfl) rfl rfl)) rfl) (ba rfl) rfl) (aV (i:=2) rfl)))) (RE (oN d 0) Kh)
    (fr:=⟨[none,some (iN 0)],[some (iQ d),some (mz d),some (iN d.pg),some jU,some (dO d)]⟩)
   have e2:=jx (u:=.bh 20) (f:=cF 20) rfl (iM e) (JW g (oN d 0));rw[Su]at e2;have e3:=Ke (θ:=θ) e2 (by rw[cK,zN];decide);rw[show oN d 0=sM d from rfl,Ss (aij d)]at e3;exact e3
  ·subst q;have e:=jx (K:=KT θ d (n+2)) (st:=st) (u:=.bh 19) (f:=cF 19) rfl (hZ (aV (i:=4) rfl) (hZ (cR (T:=T1 θ) (a:=aq 1) (b:=ae 1) (u:=mz d) (v:=iN 1) (w:=eG (oN d 1)) (aV rfl) (ba rfl) rfl) (gS (cR (T:=T1 θ) (a:=bI [(aq 3),(aJ (T1 θ) (aq 0) (aj 1))]) (b:=ae 1) (u:=.tup [jU,eG (lL d 1)]) (v:=iN 1) (w:=eG (lL d 1)) (nk (gS (aV rfl) (cR (u:=iQ d) (v:=.int 1) (aV rfl) rfl rfl)) rfl) (ba rfl) rfl) (aV (i:=2) rfl)))) (ago (gu d) (λ_ _=>false) Kh (RZ d).1)
    (fr:=⟨[none,some (iN 1)],[some (iQ d),some (mz d),some (iN d.pg),some jU,some (dO d)]⟩)
   have e2:=jx (u:=.bh 20) (f:=cF 20) rfl (iM e) (JW g (oC (gu d)));rw[Su]at e2;have e3:=Ke (θ:=θ) e2 (by rw[cK,zN];decide);rw[Ss (RZ d).2]at e3;exact e3
def oP(d:Dat):V:=.fl (lsN 5 λx=>.fl (lsN 5 λh=>.str (ao (fG (d.l x) (ib (d.s x) h) [d.u x] d.pg))))
theorem aim(g:Good d)(h2:C[2]?=some (some (kF d))):Ev (Ja (T1 θ)) (KT θ d (n+2)) ⟨L,C⟩ st (oP d):=
 iO (ks:=aD 5) (G:=λx=>.str (ao (oH d x))) (C:=[]) (ff (aV h2) rfl) rfl (by simp) λx hx=>
  jc (ks:=aD 5) (G:=iN) (C:=[some (.str (ao (oH d x)))]) (f:=λh=>.str (ao (fG (d.l x) (ib (d.s x) h) [d.u x] d.pg))) jB rfl (by simp) λh hh=>
   jx (u:=.bh 18) rfl (gS (aV rfl) (ba rfl)) (Rk (g.l x (cY hx)) (g.u x (cY hx)) (g.s x (cY hx)) (cY hh))
theorem ain(T:Tb):(pD T).tail=aE (aP (.bi 10) (IY T)) (aE (aP (.bi 11) (IZ T)) (aE (aP (.bi 12) (I1 T)) (aE (aP (.loc 2) (I2 T)) (aE (aP (.bi 13) (I3 T)) (aE (aP (.bi 14) (I7 T)) (aE (aP (.loc 3) (I8 T)) (aE (aP (.loc 4) (I9 T)) (aE (aP (.loc 5) (Ja T))
  (dq (bI [(aq 3),(ae 4),(aq 7),(aq 6),(aq 14),(ae 5),(ae 3)])))))))))):=by kernel_rfl
def mA(d:Dat)(o8 o9 o0 o1 c10 c11 c12 c13 c14 l2 l3 l4 l5:Option V):Fr:=⟨[o0,o1,l2,l3,l4,l5],[some (dO d),some (iN d.pg),some (kF d),some (qY d),some jU,some (jA d),some (ii d),some (gr d),o8,o9,c10,c11,c12,c13,c14]⟩
def Ei(d:Dat):V:=.tup [qY d,jX d,gr d,ii d,iQ d,oP d,.fl []]
theorem aio(g:Good d){o8 o9 o0 o1:Option V}:∃fr,(pD (T1 θ)).tail (KT θ d (n+2)) (mA d o8 o9 o0 o1 none none none none none none none none none) st=some (.ret (Ei d),fr,st):=by
 rw[ain];have hd:V.fl (lsN 5 λx=>iN (zX d x))=iP d:=congrArg V.fl (Fn λx hx=>by rw[ahO g (cY hx)]);refine⟨mA d o8 o9 o0 o1 (some (.fl ((gU d).map (je d)))) (some (iP d)) (some (lc d)) (some (mz d)) (some (iQ d)) (some (oL d)) (some (.fl [])) (some (jX d)) (some (oP d)),?_⟩;refine(dS (fE (aw:=mA d o8 o9 o0 o1 (some (.fl ((gU d).map (je d)))) none none none none none none none none) (ahE g rfl) rfl)).trans ?_;refine(dS (fE (aw:=mA d o8 o9 o0 o1 (some (.fl ((gU d).map (je d)))) (some (iP d)) none none none none none none none) (hd▸ahK g rfl rfl) rfl)).trans ?_;refine(dS (fE (aw:=mA d o8 o9 o0 o1 (some (.fl ((gU d).map (je d)))) (some (iP d)) (some (lc d)) none none none none none none) (ahQ g rfl) rfl)).trans ?_;refine(dS (fE (aw:=mA d o8 o9 o0 o1 (some (.fl ((gU d).map (je d)))) (some (iP d)) (some (lc d)) none none (some (oL d)) none none none) (ahV (n:=n+1) g rfl rfl rfl) rfl)).trans ?_;refine(dS (fE (aw:=mA d o8 o9 o0 o1 (some (.fl ((gU d).map (je d)))) (some (iP d)) (some (lc d)) (some (mz d)) none (some (oL d)) none none none) (aic g rfl rfl) rfl)).trans ?_;refine(dS (fE (aw:=mA d o8 o9 o0 o1 (some (.fl ((gU d).map (je d)))) (some (iP d)) (some (lc d)) (some (mz d)) (some (iQ d)) (some (oL d)) none none none) (aid g rfl rfl) rfl)).trans ?_;refine(dS (fE (aw:=mA d o8 o9 o0 o1 (some (.fl ((gU d).map (je d)))) (some (iP d)) (some (lc d)) (some (mz d)) (some (iQ d)) (some (oL d)) (some (.fl [])) none none) (aii (d:=d) rfl rfl) rfl)).trans ?_
 refine(dS (fE (aw:=mA d o8 o9 o0 o1 (some (.fl ((gU d).map (je d)))) (some (iP d)) (some (lc d)) (some (mz d)) (some (iQ d)) (some (oL d)) (some (.fl [])) (some (jX d)) none) (ail g rfl rfl rfl rfl rfl) rfl)).trans ?_;refine(dS (fE (aw:=mA d o8 o9 o0 o1 (some (.fl ((gU d).map (je d)))) (some (iP d)) (some (lc d)) (some (mz d)) (some (iQ d)) (some (oL d)) (some (.fl [])) (some (jX d)) (some (oP d))) (aim g rfl) rfl)).trans ?_;exact uH (nk (hZ (aV rfl) (hZ (ba rfl) (hZ (aV rfl) (hZ (aV rfl) (hZ (aV rfl) (gS (ba rfl) (ba rfl))))))) rfl)
theorem Sw{n:Nat}(l:List (List Nat)):bY (n+2) (sV l)=true:=zT λx _=>rfl
theorem Sx(d:Dat)(x y:Nat):bY 9 (nu d x y)=true:=by
 unfold nu;induction aH x y with
 | true=>exact zT (l:=qR (d.lead x) (d.lead y)) λk _=>rfl
 | false=>rfl
theorem Sy(a b:List (List Nat)):bY 11 (.fl [sV a,sV b])=true:=eh.mpr λv hv=>by
 rcases(by simpa using hv:v=sV a\/v=sV b)with q|q<;>refine ab (q) ?_
 ·exact Sw (n:=8) a
 ·exact Sw (n:=8) b
theorem aip{n:Nat}{a b c e f g h:V}(h1:bY n a=true)(h2:bY n b=true)(h3:bY n c=true)(h4:bY n e=true)(h5:bY n f=true)(h6:bY n g=true)(h7:bY n h=true):bY (n+1) (.tup [a,b,c,e,f,g,h])=true:=by
 show(bY n a&&(bY n b&&(bY n c&&(bY n e&&(bY n f&&(bY n g&&(bY n h&&true)))))))=true
 rw[h1,h2,h3,h4,h5,h6,h7];rfl
theorem aiq(d:Dat):bY 12 (Ei d)=true:=by
 have h1:bY 11 (qY d)=true:=eh.mpr λe he=>by
  refine ah (dF.mp he) λx hx q=>?_
  subst q;rfl
 have h2:bY 11 (jX d)=true:=Sy _ _;have h3:bY 11 (gr d)=true:=jd λx _=>rfl
 have h4:bY 11 (ii d)=true:=jd λx _=>jd λy _=>Sx d x y
 have h5:bY 11 (iQ d)=true:=zT λk _=>jd λx _=>jd λy _=>rfl
 have h6:bY 11 (oP d)=true:=jd λx _=>jd λy _=>rfl
 exact aip h1 h2 h3 h4 h5 h6 rfl
theorem air(g:Good d):KT θ d (n+3) (.bh 21) [dO d,iN d.pg] st=some (Ei d,st):=by
 show rS (T1 θ) (KT θ d (n+2)) (pD (T1 θ)) [dO d,iN d.pg] st=_
 refine dI rfl ((bx (z:=w0 d) rfl).trans ?_);obtain⟨o8,o9,o0,o1,e,b8,b9,b0,b1⟩:=agP (θ:=θ) (n:=n) g;refine(fQ e).trans ?_;refine ab (ahu b8 b9 b0 b1) ?_;have hs:xb d (zO d) o8 o9 o0 o1=mA d o8 o9 o0 o1 none none none none none none none none none:=by
  unfold xb mA qY;rw[ahz g]
 refine xE (aio (θ:=θ) (n:=n) (st:=dm) g (o8:=o8) (o9:=o9) (o0:=o0) (o1:=o1)) λfr e2=>?_
 rw[<-hs]at e2;refine(bx (z:=xb d (zO d) o8 o9 o0 o1) rfl).trans ((fQ e2).trans ?_);exact jT (Ed _ _ 12 _ (aiq d))
end
noncomputable section
variable {θ:Th}{d:Dat}{K:bb}{n:Nat}{st:St}{fr:Fr}{a b c:Cd}{C L:List (Option V)}
theorem ais{x y:Nat}(ha:Ev a K fr st (iN x))(hb:Ev b K fr st (iN y)):Tv (bq (T1 θ) .le a b) K fr st (fT x y):=
 j8 ha hb (by
  show some (decide ((x:Int)<=(y:Int)))=_
  congr 1
  rw[ro,decide_eq_true_iff];exact⟨λh=>cZ (to.mp h),λh=>to.mpr (bF h)⟩)
theorem ait{x y:Nat}(ha:Ev a K fr st (iN x))(hb:Ev b K fr st (iN y)):Tv (bq (T1 θ) .ge a b) K fr st (fT y x):=
 j8 ha hb (by
  show some (decide ((y:Int)<=(x:Int)))=_
  congr 1
  rw[ro,decide_eq_true_iff];exact⟨λh=>cZ (to.mp h),λh=>to.mpr (bF h)⟩)
def g8(d:Dat):V:=.fl (lsN 5 λx=>.str (ao (dh d x)))
theorem aiu(g:Good d)(h0:L[0]?=some (some (dO d))):Ev (wF (T1 θ)) K ⟨L,C⟩ st (g8 d):=
 jc (ks:=aD 5) (G:=dg d) (C:=[]) (ff (ba h0) rfl) rfl (by decide) λx hx=>Sh g (cY hx) (ba rfl)
def fy(d:Dat):V:=.fl (lsN 5 λx=>.fl (lsN 5 λk=>iN (cL d (k+1) x)))
theorem aiv(g:Good d)(h0:L[0]?=some (some (dO d))):Ev (Jb (T1 θ)) (KT θ d (n+1)) ⟨L,C⟩ st (fy d):=by
 refine iO (ks:=aD 5) (G:=dg d) (C:=[]) (f:=λx=>.fl (lsN 5 λk=>iN (cL d (k+1) x))) (ff (ba h0) rfl) rfl (by simp) λx hx=>?_
 refine jc (ks:=aD 5) (G:=λk=>iN (k+1)) (C:=[some (dg d x)]) (f:=λk=>iN (cL d (k+1) x)) (Jr (u:=.int 1) (v:=.int 6) rfl rfl rfl) rfl (by simp) λk hk=>?_
 exact jx (u:=.bh 22) rfl (gS (cR (b:=aj 0) (w:=.str (ao (d.lead x))) (aV rfl) rfl rfl) (ba rfl)) (cV (cV (congrFun (congrFun (congrFun (congrFun aeA θ) (kf d)) n) st) (g.lead x (cY hx))) hk)
theorem aiw(b:Nat->Nat->Bool)(x:Nat):∀n y,((lU y n).filter (λz=>cX (b x z))++[y+n]).headD 0=iz b x n y:=by
 intro n;induction n with
 | zero=>exactλy=>rfl
 | succ n ih=>
  intro y;rw[Av]
  show _=match b x y with|true=>iz b x n (y+1)|false=>y
  induction h:b x y with
  | true=>
   rw[U4 (by rw[h];decide)]
   have:=ih (y+1)
   rw[show y+1+n=y+(n+1)by lia]at this;exact this
  | false=>rw[U5 (by rw[h];rfl)];rfl
theorem aix(d:Dat){x:Nat}(hx:x<5)(k:Nat):(((lU (x+1) (4-x)).filter λy=>fT (cL d k y) (cL d k x))++[5]).headD 0=eK d k x:=by
 have h:=aiw (fw d k) x (4-x) (x+1);rw[show x+1+(4-x)=5 by lia]at h;have e:eK d k x=eH (fw d k) x:=J7 _ hx;rw[e];refine xH ?_ h;refine congrArg (λl:List Nat=>(l++[5]).headD 0) (U3 λy _=>?_)
 show _=cX (aH (cL d k x) (cL d k y))
 induction h1:aH (cL d k x) (cL d k y)with
 | true=>
  have:=bF h1
  induction h2:fT (cL d k y) (cL d k x)with
  | true=>have:=bF h2;lia
  | false=>rfl
 | false=>
  refine cZ (oZ λq=>?_);rw[show aH (cL d k x) (cL d k y)=true from cZ q]at h1;cases h1
theorem Sz{l:List Nat}{z:Nat}(ha:Ev a K fr st (.fl (l.map iN)))(hb:Ev b K fr st (iN z))(hl:l.length<100):Ev (aJ (T1 θ) (aK .add a (dn false [b])) (aj 0)) K fr st (iN ((l++[z]).headD 0)):=by
 refine cR (b:=aj 0) (u:=.fl ((l++[z]).map iN)) (d6 (v:=.fl [iN z]) ha (zv (iM hb) rfl) ?_) rfl ?_
 ·rw[mE];exact sL (by rw[cS,cK];show _+1<_;lia)
 ·induction l with
  | nil=>rfl
  | cons x l=>rfl
def iA(d:Dat):V:=.fl (lsN 5 λx=>.fl ((eL d x).map iN))
theorem aiy{x:Nat}(hx:x<5):vI (iN (x+1)) (.int 5)=some (.vals ((lU (x+1) (4-x)).map iN)):=by
 rcases(by lia:x=0\/x=1\/x=2\/x=3\/x=4)with q|q|q|q|q<;>subst q<;>rfl
theorem aiz(h3:C[3]?=some (some (fy d))):Ev (Jc (T1 θ)) K ⟨L,C⟩ st (iA d):=by
 refine iO (ks:=aD 5) (G:=iN) (C:=[some (fy d)]) (f:=λx=>.fl ((eL d x).map iN)) jB (by show af C[3]? _=_;rw[h3];rfl) (by simp) λx hx=>?_
 have hx:=cY hx;have e:(eL d x).map iN=(aD 5).map λk=>iN (eK d (k+1) x):=by unfold eL;rw[kO];rfl
 refine ab (e) ?_;refine iO (ks:=aD 5) (G:=iN) (C:=[some (fy d),some (iN x)]) (f:=λk=>iN (eK d (k+1) x)) jB rfl (by simp) λk hk=>?_
 have hk:=cY hk;refine bX (aix d hx (k+1)) ?_;have kG:=sG (K:=K) (st:=st) (fr:=⟨[none],[some (iN k),some (fy d),some (iN x)]⟩) (ks:=lU (x+1) (4-x)) (G:=iN) (C:=[some (fy d),some (iN k),some (iN x)]) (free:=[1,0,2]) (i:=nW (aK .add (aq 2) (aj 1)) (aj 5)) (g:=(jq (bq (T1 θ) .le (aJ (T1 θ) (aJ (T1 θ) (aq 0) (ae 1)) (aq 1)) (aJ (T1 θ) (aJ (T1 θ) (aq 0) (aq 2)) (aq 1))) (bE (ae 1))))
  (f:=λy=>if fT (cL d (k+1) y) (cL d (k+1) x)then [iN y]else []) (λq=>by split<;>simp) (Jr (u:=iN (x+1)) (v:=.int 5) (d6 (b:=aj 1) (v:=iN 1) (aV rfl) rfl (qT (by lia))) rfl (aiy hx)) rfl (by rw[LH];lia) λy hy=>by
   have hy5:y<5:=by have:=(vk.mp hy).2;lia
   exact uG (ais (cR (cR (u:=fy d) (aV rfl) (ba rfl) (gz hy5 (by decide))) (aV rfl) (gz hk (by decide))) (cR (cR (u:=fy d) (aV rfl) (aV rfl) (gz hx (by decide))) (aV rfl) (gz hk (by decide)))) (ba rfl)
 rw[uM]at kG;exact Sz (b:=aj 5) (z:=5) kG rfl (lW (xJ _ _) (by rw[LH];lia))
theorem SA(l:List Nat):tR (l.map iN)=some (l.map aZ):=by
 induction l with
 | nil=>rfl
 | cons x l ih=>
  have ih:hJ kU (l.map iN)=some (l.map aZ):=ih
  show af (kU (iN x)) (λv=>af (hJ kU (l.map iN)) λl=>some (v::l))=_
  refine ab (ih) ?_;rfl
theorem aiA(e:Nat)(l:List Nat):mU (aZ e) (l.map aZ)=cG e l:=by
 induction l with
 | nil=>rfl
 | cons x l ih=>
  show(match decide (aZ x=aZ e)with|true=>mU (aZ e) (l.map aZ)+1|false=>mU (aZ e) (l.map aZ))=_
  refine ab (ih) ?_;unfold cG;induction h:aG x e with
  | true=>
   rw[U5 (by exact h),decide_eq_true (by rw[dj h])];rfl
  | false=>
   rw[U4 (by rw[h];decide),decide_eq_false λq=>by rw[aZ.inj q,gw]at h;cases h]
theorem SB{l:List Nat}{e:Nat}(ha:Ev a K fr st (.fl (l.map iN)))(hb:Ev b K fr st (iN e))(hl:l.length<100):Ev (bG (T1 θ) a [99,111,117,110,116] [b]) K fr st (iN (cG e l)):=by
 refine uD (q:=none) ha rfl (iM hb) (jT ?_)
 show af (tR (l.map iN)) (λns=>j4 (mU (aZ e) ns))=_
 rw[SA]
 show j4 (mU (aZ e) (l.map aZ))=_
 rw[aiA]
 have:cG e l<=l.length:=xJ _ _
 exact uF (Aq _) (by lia)
noncomputable def kK(r:V)(o2 o3:Option V)(R:List (Option V))(C:List (Option V)):Fr:=⟨some r::some (.loc 0)::o2::o3::R,C⟩
def oQ(d:Dat)(x:Nat)(D:Dm)(e:Nat):Dm:=nv D (dD d x e) (cG e (eL d x))
def uT(d:Dat)(D:Dm)(x:Nat):Dm:=(eL d x).foldl (oQ d x) D
def lM(d:Dat):Dm:=(aD 5).foldl (uT d) []
section
variable {r:V}{R:List (Option V)}
theorem SD{x e:Nat}(ha:Ev a K fr st (g8 d))(hb:Ev b K fr st (iN x))(hc:Ev c K fr st (iN e))(hx:x<=5)(he:e<=5):Ev (bG (T1 θ) (aX [.c 32]) [106,111,105,110] [(fC a (some b) (some c))]) K fr st (.str (ao (dD d x e))):=by
 have hs:=Q7 ha hb hc (BQ (l:=lsN 5 λx=>.str (ao (dh d x))) rfl (by simpa using hx) (by simpa using he) (by simp));have e1:((lsN 5 λx=>V.str (ao (dh d x))).take e).drop x=((((aD 5).map (dh d)).take e).drop x).map λx=>V.str (ao x):=by
  rw[<-Au,<-Fo,<-Au,<-Fo,kO];rfl
 rw[e1]at hs;refine Rz hs (λx hx=>RA d (aD 5) x (xM (LK hx))) ?_;rw[tv,lr,cK,tw]
 lia
theorem aiB(h2:C[2]?=some (some (g8 d)))(h4:C[4]?=some (some (iA d))){x e:Nat}(hx:x<5)(he:e<=5){D:Dm}(hD:D.length<900):Sv (wG (T1 θ)) K (kK r (some (iN x)) (some (iN e)) R C) (cj (D.map dV)) (kK r (some (iN x)) (some (iN e)) R C) (cj ((oQ d x D e).map dV)):=by
 have e1:Ev (bG (T1 θ) (aJ (T1 θ) (aq 4) (ae 2)) [99,111,117,110,116] [(ae 3)]) K (kK r (some (iN x)) (some (iN e)) R C) (cj (D.map dV)) (iN (cG e (eL d x))):=
  SB (cR (a:=aq 4) (b:=ae 2) (aV h4) (ba rfl) (gz (G:=λx=>.fl ((eL d x).map iN)) hx (by decide))) (ba rfl) (by rw[oK];decide)
 have e2:Ev (bG (T1 θ) (aX [.c 32]) [106,111,105,110] [(fC (aq 2) (some (ae 2)) (some (ae 3)))]) K (kK r (some (iN x)) (some (iN e)) R C) (cj (D.map dV)) (.str (ao (dD d x e))):=
  SD (aV h2) (ba rfl) (ba rfl) (fh hx) he
 refine(bz e1).trans ((bz (ba (K:=K) (i:=1) (v:=.loc 0) rfl)).trans ((bz e2).trans ?_))
 have:rP (T1 θ) (.loc 0) (.str (ao (dD d x e))) (iN (cG e (eL d x))) (cj (D.map dV))=some (cj ((oQ d x D e).map dV)):=by
  show af (pk (T1 θ) (ao (dD d x e)) (iN (cG e (eL d x))) (D.map dV)) (λl'=>bv (aH l'.length 1000) (some ((cj (D.map dV)).set 0 (.dict l'))))=_
  rw[RK];refine dI (cZ ?_) rfl
  have:=wY D (dD d x e) (cG e (eL d x))
  rw[cK];lia
 exact(congrArg (rQ _) this).trans rfl
theorem aiC(h2:C[2]?=some (some (g8 d)))(h4:C[4]?=some (some (iA d))){x:Nat}(hx:x<5):∀(es:List Nat),(∀e∈es,e<=5)->∀(D:Dm) (o3:Option V),D.length+es.length<900 ->
  ∃jW,iI K (.loc 3) (wG (T1 θ)) (es.map iN) (kK r (some (iN x)) o3 R C) (cj (D.map dV))=some (.next,kK r (some (iN x)) jW R C,cj ((es.foldl (oQ d x) D).map dV)):=by
 intro es;induction es with
 | nil=>exactλ_ D o3 _=>⟨o3,rfl⟩
 | cons e es ih=>
  intro he D o3 hD;rw[cH]at hD;have hl:(oQ d x D e).length<=D.length+1:=wY _ _ _;refine xE (ih (λe h=>he e (bL _ h)) (oQ d x D e) (some (iN e)) (by lia)) λjW h=>⟨jW,?_⟩
  refine(bx (z:=kK r (some (iN x)) (some (iN e)) R C) rfl).trans ?_;exact(fQ (aiB h2 h4 hx (he e bT) (by lia))).trans h
theorem aiD(d:Dat){x:Nat}(hx:x<5):∀e∈eL d x,e<=5:=λe he=>by
 refine ah (dF.mp he) λk _ q=>?_
 refine bX (q) ?_;exact(zQ _ hx).2
theorem aiE(d:Dat)(x:Nat):∀(es:List Nat) (D:Dm),(es.foldl (oQ d x) D).length<=D.length+es.length:=by
 intro es;induction es with
 | nil=>exactλD=>dr _
 | cons e es ih=>
  intro D;have h1:=ih (oQ d x D e);have h2:(oQ d x D e).length<=D.length+1:=wY _ _ _;rw[lq,cH];lia
theorem aiF(h2:C[2]?=some (some (g8 d)))(h4:C[4]?=some (some (iA d))):∀(xs:List Nat),(∀x∈xs,x<5)->∀(D:Dm) (o2 o3:Option V),D.length+5*xs.length<900 ->
  ∃pI jW,iI K (.loc 2) (eW (.loc 3) (ce (aJ (T1 θ) (aq 4) (ae 2))) (wG (T1 θ))) (xs.map iN) (kK r o2 o3 R C) (cj (D.map dV))=some (.next,kK r pI jW R C,cj ((xs.foldl (uT d) D).map dV)):=by
 intro xs;induction xs with
 | nil=>exactλ_ D o2 o3 _=>⟨o2,o3,rfl⟩
 | cons x xs ih=>
  intro hx D o2 o3 hD;rw[cH]at hD;have Ki:=hx x bT;have hl:(uT d D x).length<=D.length+(eL d x).length:=aiE d x _ D;rw[oK]at hl;obtain⟨p3,e1⟩:=aiC (θ:=θ) (K:=K) (r:=r) (R:=R) h2 h4 Ki (eL d x) (aiD d Ki) D o3 (by rw[oK];lia);refine fL (ih (λy h=>hx y (bL _ h)) (uT d D x) (some (iN x)) p3 (by lia)) λq2 q3 e2=>?_
  refine gK q2 q3 ?_;refine(bx (z:=kK r (some (iN x)) o3 R C) rfl).trans ?_;have e3:Sv (eW (.loc 3) (ce (aJ (T1 θ) (aq 4) (ae 2))) (wG (T1 θ))) K (kK r (some (iN x)) o3 R C) (cj (D.map dV)) (kK r (some (iN x)) p3 R C) (cj ((uT d D x).map dV)):=
   (bz (ff (s:=.vals ((eL d x).map iN)) (cR (T:=T1 θ) (a:=aq 4) (b:=ae 2) (aV h4) (ba rfl) (gz (G:=λx=>.fl ((eL d x).map iN)) Ki (by decide))) rfl)).trans e1
  exact(fQ e3).trans e2
theorem aiG:dT (aj 5) K fr st=some (.vals ((aD 5).map iN),st):=jB
theorem aiH(h2:C[2]?=some (some (g8 d)))(h4:C[4]?=some (some (iA d))){o2 o3:Option V}:∃pI jW,Sv (Jd (T1 θ)) K (kK r o2 o3 R C) (cj []) (kK r pI jW R C) (cj ((lM d).map dV)):=by
 refine fL (aiF (θ:=θ) (K:=K) (r:=r) (R:=R) h2 h4 (aD 5) (λx hx=>cY hx) [] o2 o3 (by decide)) λpI jW e=>?_
 refine gK pI jW ?_;have h:eW (.loc 2) (dT (aj 5)) (eW (.loc 3) (ce (aJ (T1 θ) (aq 4) (ae 2))) (wG (T1 θ))) K (kK r o2 o3 R C) (cj [])=some (.next,kK r pI jW R C,cj ((lM d).map dV)):=(bz aiG).trans e;exact h
end
end
theorem foldl_min(l:List Nat):∀a:Nat,(l.map aZ).foldl rJ (aZ a)=aZ (l.foldl min a)/\l.foldl min a<=a:=by
 induction l with
 | nil=>exactλa=>⟨rfl,dr _⟩
 | cons x l ih=>
  intro a;have h:=ih (min a x);have e:rJ (aZ a) (aZ x)=aZ (min a x):=by
   show(match decide (aZ x<aZ a)with|true=>aZ x|false=>aZ a)=_
   induction q:decide (aZ x<aZ a)with
   | true=>rw[Vi (fh (nH.mp (of_decide_eq_true q)))]
   | false=>rw[tD (oZ λz=>of_decide_eq_false q (nH.mpr z))]
  exact⟨by rw[jE,lq,lq,e];exact h.1,dG h.2 (Nat.min_le_left _ _)⟩
theorem aiI{T:Tb}{st:St}{a:Nat}{l:List Nat}(h:a<1000):yl T .tO (.fl ((a::l).map iN)) st=some (iN (qV (a::l))):=by
 show af (tR ((a::l).map iN)) (λns=>af (A5 rJ ns) j4)=_
 rw[SA]
 show j4 ((l.map aZ).foldl rJ (aZ a))=some (iN (l.foldl min a))
 have:=foldl_min l a
 rw[this.1];exact uF (Aq _) (by lia)
theorem aiJ(d:Dat){x:Nat}(hx:x<5):qV (eL d x)<=5:=dG (foldl_min _ _).2 (zQ _ hx).2
noncomputable section
variable {θ:Th}{d:Dat}{K:bb}{n:Nat}{st:St}{fr:Fr}{a b c:Cd}{C L:List (Option V)}
def lN(d:Dat):V:=.fl (lsN 5 λx=>iN (mK d x))
theorem SE{x:Nat}(ha:Ev a K fr st (iA d))(hb:Ev b K fr st (iN x))(hx:x<5):Ev (aJ (T1 θ) a b) K fr st (.fl ((eL d x).map iN)):=cR ha hb (gz (G:=λx=>.fl ((eL d x).map iN)) hx (by decide))
theorem aiK(h4:C[4]?=some (some (iA d))):Ev (Je (T1 θ)) K ⟨L,C⟩ st (lN d):=by
 refine iO (ks:=aD 5) (G:=iN) (C:=[some (iA d)]) (f:=λx=>iN (mK d x)) jB (by show af C[4]? _=_;rw[h4];rfl) (by decide) λx hx=>?_
 have hx:=cY hx;have kG:=sG (K:=K) (st:=st) (fr:=⟨[none],[some (iN x),some (iA d)]⟩) (ks:=eL d x) (G:=iN) (C:=[some (iA d),some (iN x)]) (free:=[1,0]) (i:=ce (aJ (T1 θ) (aq 1) (aq 0))) (g:=(jq (bq (T1 θ) .gt (bG (T1 θ) (aJ (T1 θ) (aq 0) (aq 1)) [99,111,117,110,116] [(ae 1)]) (aj 2)) (bE (ae 1))))
  (f:=λe=>if aH 2 (cG e (eL d x))then [iN e]else []) (λq=>by split<;>simp) (ff (SE (aV rfl) (aV rfl) hx) rfl) rfl (by rw[oK];decide) λe he=>
   uG (Kc (y:=2) (b:=aj 2) (SB (SE (aV rfl) (aV rfl) hx) (ba rfl) (by rw[oK];decide)) rfl) (ba rfl)
 rw[uM]at kG;exact Sz (z:=x+1) kG (d6 (b:=aj 1) (v:=iN 1) (aV rfl) rfl (qT (by lia))) (lW (xJ _ _) (by rw[oK];decide))
def sQ(d:Dat)(k x:Nat):Nat:=match k with|0=>qV (eL d x)|_=>mK d x
def Kj(d:Dat)(k:Nat):V:=.fl (lsN 5 λx=>iN (sQ d k x))
theorem aiL(d:Dat)(k:Nat){x:Nat}(hx:x<5):sQ d k x<=5:=by
 induction k with
 | zero=>exact aiJ d hx
 | succ k=>exact(J5 d hx).2
theorem aiM(h2:C[2]?=some (some (g8 d)))(h4:C[4]?=some (some (iA d)))(h5:C[5]?=some (some (lN d))):Ev (Jf (T1 θ)) K ⟨L,C⟩ st (jX d):=by
 have e1:Ev (bR false (.loc 1) (ce (aq 4)) (bE (eJ (T1 θ) .tO (ae 1))) 2 0 []) K ⟨L,C⟩ st (Kj d 0):=
  jc (ks:=aD 5) (G:=λx=>.fl ((eL d x).map iN)) (C:=[]) (f:=λx=>iN (sQ d 0 x)) (ff (aV h4) rfl) rfl (by simp) λx hx=>uE (ba rfl) (aiI (lW (zQ _ (cY hx)).2 (by decide)))
 have e2:=ff (nk (gS e1 (aV h5)) rfl) rfl;refine iO (ks:=[0,1]) (G:=Kj d) (C:=[some (g8 d)]) (f:=λk=>sV (pH (oO d (sQ d k)))) e2 (by show af C[2]? _=_;rw[h2];rfl) (by decide) λk hk=>?_
 refine Ke ?_ (by unfold oO;simp)
 have:sV (oO d (sQ d k))=.fl (lsN 5 λx=>.str (ao (dD d x (sQ d k x)))):=by unfold sV oO;rw[kO];rfl
 refine ab (this) ?_;refine jc (ks:=aD 5) (G:=iN) (C:=[some (Kj d k),some (g8 d)]) (f:=λx=>.str (ao (dD d x (sQ d k x)))) jB rfl (by simp) λx hx=>?_
 have hx:=cY hx;exact SD (aV rfl) (ba rfl) (cR (aV rfl) (ba rfl) (gz (G:=λx=>iN (sQ d k x)) hx (by decide))) (fh hx) (aiL d k hx)
theorem aiN:(fun(θ:Th) (K:bb) (a b c:V) (st:St)=>fF.map λl=>QF (T1 θ) K ⟨[none,some (.tup [.str (ao l),a,b,c])],[]⟩ st)=λθ K a b c st=>fF.map λl=>some (iN (jy l),st):=by kernel_rfl
theorem aiO(g:Good d)(h0:L[0]?=some (some (dO d))):Ev (Jg (T1 θ)) K ⟨L,C⟩ st (gr d):=
 jc (ks:=aD 5) (G:=dg d) (C:=[]) (ff (ba h0) rfl) rfl (by decide) λx hx=>
  cV (congrFun (congrFun (congrFun (congrFun (congrFun (congrFun aiN θ) K) (.int (d.l x))) (.str [.c (d.s x)])) (.str [.c (d.u x)])) st) (g.lead x (cY hx))
theorem SF{x k:Nat}(ha:Ev a K fr st (fy d))(hb:Ev b K fr st (iN x))(hc:Ev c K fr st (iN k))(hx:x<5)(hk:k<5):Ev (aJ (T1 θ) (aJ (T1 θ) a b) c) K fr st (iN (cL d (k+1) x)):=
 cR (cR ha hb (gz (G:=λx=>.fl (lsN 5 λk=>iN (cL d (k+1) x))) hx (by decide))) hc (gz (G:=λk=>iN (cL d (k+1) x)) hk (by decide))
theorem aiP(g:Good d)(h3:C[3]?=some (some (fy d)))(h6:C[6]?=some (some (gr d))):Ev (Jh (T1 θ)) K ⟨L,C⟩ st (ii d):=by
 refine iO (ks:=aD 5) (G:=iN) (C:=[some (fy d),some (gr d)]) (f:=λx=>.fl (lsN 5 (nu d x))) jB (by show af C[3]? _=_;rw[h3];show af (af C[6]? _) _=_;rw[h6];rfl) (by simp) λx hx=>?_
 have hx:=cY hx;refine iO (ks:=aD 5) (G:=iN) (C:=[some (fy d),some (gr d),some (iN x)]) (f:=λy=>nu d x y) jB rfl (by simp) λy hy=>?_
 have hy:=cY hy;refine RJ (u:=.fl (DP (d.lead x) (d.lead y))) (v:=.fl []) (DZ (x:=x) (y:=y) (aV rfl) (aV rfl)) (λ_=>?_) λ_=>zv uC rfl
 have r1:=D3 _ (g.lead x hx);have r2:=D3 _ (g.lead y hy);have hm:=Nat.max_lt.mpr ⟨r1,r2⟩;have er:Ev (aK .add (nX .max2 (aJ (T1 θ) (aq 2) (aq 3)) (aJ (T1 θ) (aq 2) (aq 0))) (aj 1)) K ⟨[none],[some (iN y),some (fy d),some (gr d),some (iN x)]⟩ st (iN (max (jy (d.lead x)) (jy (d.lead y))+1)):=
  d6 (b:=aj 1) (v:=iN 1) (Jo (cR (aV rfl) (aV rfl) (gz (G:=λx=>iN (jy (d.lead x))) hx (by decide))) (cR (aV rfl) (aV rfl) (gz (G:=λx=>iN (jy (d.lead x))) hy (by decide))) (RN _ _)) rfl (qT (by lia))
 have kG:=sG (K:=K) (st:=st) (fr:=⟨[none],[some (iN y),some (fy d),some (gr d),some (iN x)]⟩) (ks:=aD (max (jy (d.lead x)) (jy (d.lead y))+1)) (G:=iN) (C:=[some (fy d),some (iN x),some (iN y)]) (free:=[1,3,0]) (i:=(dT (aK .add (nX .max2 (aJ (T1 θ) (aq 2) (aq 3)) (aJ (T1 θ) (aq 2) (aq 0))) (aj 1)))) (g:=(jq (bq (T1 θ) .ge (aJ (T1 θ) (aJ (T1 θ) (aq 0) (aq 1)) (ae 1)) (aJ (T1 θ) (aJ (T1 θ) (aq 0) (aq 2)) (ae 1))) (bE (bI [(aK .add (ae 1) (aj 1)),(aJ (T1 θ) (aJ (T1 θ) (aq 0) (aq 1)) (ae 1)),(aJ (T1 θ) (aJ (T1 θ) (aq 0) (aq 2)) (ae 1))]))))
  (f:=λk=>if fT (gT (d.lead y) (k+1)) (gT (d.lead x) (k+1))then [zL (d.lead x) (d.lead y) k]else []) (λq=>by split<;>simp) (zx er (Ra (by lia))) rfl (by rw[tw];lia) λk hk=>by
   have hk:k<5:=by have:=eR.mp hk;lia
   have ex:Ev (aJ (T1 θ) (aJ (T1 θ) (aq 0) (aq 1)) (ae 1)) K ⟨[none,some (iN k)],[some (fy d),some (iN x),some (iN y)]⟩ st (iN (gT (d.lead x) (k+1))):=SF (aV rfl) (aV rfl) (ba rfl) hx hk;have ey:Ev (aJ (T1 θ) (aJ (T1 θ) (aq 0) (aq 2)) (ae 1)) K ⟨[none,some (iN k)],[some (fy d),some (iN x),some (iN y)]⟩ st (iN (gT (d.lead y) (k+1))):=SF (aV rfl) (aV rfl) (ba rfl) hy hk;exact uG (ait ex ey) (nk (hZ (d6 (b:=aj 1) (v:=iN 1) (ba rfl) rfl (qT (by lia))) (gS ex ey)) rfl)
 rw[uM]at kG;exact kG
theorem aiQ(d:Dat){x:Nat}(hx:x<5):((aD x).filter λy=>aH x (mK d y)).length=(gu d).getD x 0:=by
 rcases(by lia:x=0\/x=1\/x=2\/x=3\/x=4)with q|q|q|q|q<;>subst q<;>rfl
theorem aiR(h5:C[5]?=some (some (lN d))):Ev (Ji (T1 θ)) K ⟨L,C⟩ st (iP d):=by
 refine iO (ks:=aD 5) (G:=iN) (C:=[some (lN d)]) (f:=λx=>iN ((gu d).getD x 0)) jB (by show af C[5]? _=_;rw[h5];rfl) (by decide) λx hx=>?_
 have hx:=cY hx;refine bX (aiQ d hx) ?_;have kG:=sG (K:=K) (st:=st) (fr:=⟨[none],[some (iN x),some (lN d)]⟩) (ks:=aD x) (G:=iN) (C:=[some (lN d),some (iN x)]) (free:=[1,0]) (i:=dT (aq 0)) (g:=(jq (bq (T1 θ) .gt (aJ (T1 θ) (aq 0) (ae 1)) (aq 1)) (bE (ae 1))))
  (f:=λy=>if aH x (mK d y)then [iN y]else []) (λq=>by split<;>simp) (zx (u:=iN x) (aV rfl) (Ra (by lia))) rfl (by rw[tw];lia) λy hy=>by
   have hy:y<5:=by have:=eR.mp hy;lia
   exact uG (Kc (cR (aV rfl) (ba rfl) (gz (G:=λx=>iN (mK d x)) hy (by decide))) (aV rfl)) (ba rfl)
 rw[uM]at kG;refine uE kG ?_;have hl:((aD x).filter λy=>aH x (mK d y)).length<=x:=by have:=xJ (λy=>aH x (mK d y)) (aD x);rw[tw]at this;exact this
 show bv (dZ _) (some (V.int (((((aD x).filter λy=>aH x (mK d y)).map iN).length:Nat))))=_
 refine dI (j9 (by rw[cK];lia)) ?_;rw[cK];rfl
theorem aiS{f:V->V->Option Bool}(hf:∀x y:Nat,f (iN x) (iN y)=some (aG x y))(l:List Nat):∀m:List Nat,l.length=m.length->ma f (l.map iN) (m.map iN)=some (bw l m):=by
 induction l with
 | nil=>
  intro m h;induction m with
  | nil=>rfl
  | cons y m=>exact absurd h (by simp)
 | cons x l ih=>
  intro m h;induction m with
  | nil=>exact absurd h (by simp)
  | cons y m=>
   refine(bx (hf x y)).trans ((bx (ih m (by simpa using h))).trans rfl)
theorem Ej(T:Tb)(n x y:Nat):eU T st (n+1) (iN x) (iN y)=some (aG x y):=by
 show some (decide (aZ x=aZ y))=_
 congr 1
 rw[ro,decide_eq_true_iff];exact⟨λh=>(aZ.inj h)▸gw _,λh=>by rw[dj h]⟩
theorem aiT(T:Tb)(n:Nat){l m:List Nat}(h:l.length=m.length):eU T st (n+2) (.fl (l.map iN)) (.fl (m.map iN))=some (bw l m):=by
 show(match aG (l.map iN).length (m.map iN).length with|true=>ma (eU T st (n+1)) (l.map iN) (m.map iN)|false=>some false)=_
 rw[cK,cK,h,gw];exact aiS (Ej T n) l m h
def xd(d:Dat)(k x:Nat):V:=match k with|0=>.fl ((zF (d.lead x)).map iN)|_=>iN ((gu d).getD x 0)
def Ek(d:Dat)(k:Nat):V:=.fl (lsN 5 (xd d k))
theorem aiU(d:Dat):fy d=Ek d 0:=by
 refine congrArg V.fl (Fn λx _=>?_)
 show V.fl _=V.fl _
 unfold zF;rw[kO];rfl
theorem aiV(d:Dat)(k x y:Nat):rI (T1 θ) .eq (xd d k x) (xd d k y) st=some (lL d k x y):=by
 induction k with
 | zero=>exact aiT (T1 θ) 10 (by unfold zF;rfl)
 | succ k=>exact Ej (st:=st) (T1 θ) 11 _ _
theorem aiW(h3:C[3]?=some (some (fy d)))(h6:L[6]?=some (some (iP d))):Ev (Jj (T1 θ)) K ⟨L,C⟩ st (iQ d):=by
 rw[aiU]at h3;have e2:Iv (ce (bI [(aq 3),(ae 6)])) K ⟨L,C⟩ st (.vals ([0,1].map (Ek d))):=ff (nk (gS (aV h3) (ba h6)) rfl) rfl;refine iO (ks:=[0,1]) (G:=Ek d) (C:=[]) (f:=λk=>eG (lL d k)) e2 rfl (by decide) λk hk=>?_
 refine iO (ks:=aD 5) (G:=xd d k) (C:=[some (Ek d k)]) (f:=λx=>.fl ((aD 5).map λy=>.bool (lL d k x y))) (ff (aV rfl) rfl) rfl (by simp) λx hx=>?_
 refine jc (ks:=aD 5) (G:=xd d k) (C:=[some (xd d k x)]) (f:=λy=>.bool (lL d k x y)) (ff (aV rfl) rfl) rfl (by simp) λy hy=>?_
 exact DE (j8 (aV rfl) (ba rfl) (aiV d k x y))
def ij:V:=.fd (SG.map λs=>([At.c s],.tup (lsN 5 λh=>.str (ao (ib s h)))))
theorem aiX:(fun(θ:Th) (K:bb) (fr:Fr) (st:St)=>C2 (T1 θ) K fr st)=λθ K fr st=>some (ij,st):=by kernel_rfl
theorem aiY:Ev (C2 (T1 θ)) K fr st ij:=congrFun (congrFun (congrFun (congrFun aiX θ) K) fr) st
theorem aiZ:(fun(θ:Th) (st:St)=>SG.map λs=>nR (T1 θ) ij (.str [.c s]) st)=λθ st=>SG.map λs=>some (.tup (lsN 5 λh=>.str (ao (ib s h)))):=by kernel_rfl
theorem SH:∀s∈SG,∀h∈aD 5,(ib s h).length<10:=by decide +kernel
theorem aja(g:Good d)(h0:L[0]?=some (some (dO d)))(h1:C[1]?=some (some ij))(hp:C[0]?=some (some (iN d.pg))):Ev (Jk (T1 θ)) (KT θ d (n+1)) ⟨L,C⟩ st (oP d):=by
 refine iO (ks:=aD 5) (G:=dg d) (C:=[some ij,some (iN d.pg)]) (f:=λx=>.fl (lsN 5 λh=>.str (ao (fG (d.l x) (ib (d.s x) h) [d.u x] d.pg)))) (ff (ba h0) rfl) (by show af C[1]? _=_;rw[h1];show af (af C[0]? _) _=_;rw[hp];rfl) (by simp) λx hx=>?_
 have hx:=cY hx;have es:Ev (aJ (T1 θ) (aq 1) (aJ (T1 θ) (aq 0) (aj 2))) (KT θ d (n+1)) ⟨[none],[some (dg d x),some ij,some (iN d.pg)]⟩ st (.tup (lsN 5 λh=>.str (ao (ib (d.s x) h)))):=
  cR (aV rfl) (cR (b:=aj 2) (w:=.str [.c (d.s x)]) (aV rfl) rfl rfl) (cV (congrFun (congrFun aiZ θ) st) (g.s x hx))
 refine jc (ks:=aD 5) (G:=λh=>.str (ao (ib (d.s x) h))) (C:=[some (iN d.pg),some (dg d x)]) (f:=λh=>.str (ao (fG (d.l x) (ib (d.s x) h) [d.u x] d.pg))) (ff es rfl) rfl (by simp) λh hh=>?_
 have hm:=SH _ (g.s x hx) h hh;have Kh:=g.pg;have ea:Ev (bI [(aJ (T1 θ) (aq 1) (aj 0)),(aJ (T1 θ) (aq 1) (aj 1)),(ae 1),(aJ (T1 θ) (aq 1) (aj 3))]) (KT θ d (n+1)) ⟨[none,some (.str (ao (ib (d.s x) h)))],[some (iN d.pg),some (dg d x)]⟩ st (.tup [.str (ao (d.lead x)),.int (d.l x),.str (ao (ib (d.s x) h)),.str [.c (d.u x)]]):=
  nk (hZ (cR (b:=aj 0) (u:=dg d x) (aV rfl) rfl rfl) (hZ (cR (b:=aj 1) (u:=dg d x) (aV rfl) rfl rfl) (gS (ba rfl) (cR (b:=aj 3) (u:=dg d x) (aV rfl) rfl rfl)))) rfl
 have ht:=Jz (d.l x) (ib (d.s x) h) [d.u x] d.pg;refine bX (ht) ?_;exact jx (u:=.bh 15) rfl (gS ea (aV rfl)) (JA (a:=.str (ao (d.lead x))) rfl (g.l x hx) (by lia) (by rw[mw];lia) (by show 1<1000;decide))
end
noncomputable section
variable {θ:Th}{d:Dat}{K:bb}{n:Nat}{st:St}{fr:Fr}{a b c:Cd}{C L:List (Option V)}
theorem ajb(T:Tb):(uB T).body=aE (aP (.bi 1) (C2 T)) (aE (aP (.tup [(.bi 2),(.loc 1)]) (bI [wF T,(nV true)])) (aE (aP (.bi 3) (Jb T)) (aE (aP (.bi 4) (Jc T)) (aE (Jd T) (aE (aP (.bi 5) (Je T)) (aE (aP (.loc 4) (Jf T)) (aE (aP (.bi 6) (Jg T)) (aE (aP (.loc 5) (Jh T)) (aE (aP (.loc 6) (Ji T)) (aE (aP (.loc 7) (Jj T)) (aE (aP (.loc 8) (Jk T))
  (dq (bI [(ae 1),(ae 4),(aq 6),(ae 5),(ae 7),(ae 8),(dn false [])]))))))))))))):=by kernel_rfl
def jY(d:Dat)(l1 l2 l3 l4 l5 l6 l7 l8 c1 c2 c3 c4 c5 c6:Option V):Fr:=⟨[some (dO d),l1,l2,l3,l4,l5,l6,l7,l8],[some (iN d.pg),c1,c2,c3,c4,c5,c6]⟩
def Kk(d:Dat)(s:V):V:=.tup [s,jX d,gr d,ii d,iQ d,oP d,.fl []]
theorem ajc(g:Good d):∃fr,(uB (T1 θ)).body (KT θ d (n+1)) (jY d none none none none none none none none none none none none none none) dm=some (.ret (Kk d (.loc 0)),fr,cj ((lM d).map dV)):=by
 rw[ajb];refine fL (aiH (θ:=θ) (d:=d) (K:=KT θ d (n+1)) (r:=dO d) (R:=[none,none,none,none,none]) (C:=[some (iN d.pg),some ij,some (g8 d),some (fy d),some (iA d),none,none]) (o2:=none) (o3:=none) rfl rfl) λp2 p3 e5=>?_
 refine⟨jY d (some (.loc 0)) p2 p3 (some (jX d)) (some (ii d)) (some (iP d)) (some (iQ d)) (some (oP d)) (some ij) (some (g8 d)) (some (fy d)) (some (iA d)) (some (lN d)) (some (gr d)),?_⟩;refine(dS (fE (aw:=jY d none none none none none none none none (some ij) none none none none none) aiY rfl)).trans ?_;have s2:Sv (aP (.tup [(.bi 2),(.loc 1)]) (bI [wF (T1 θ),(nV true)])) (KT θ d (n+1)) (jY d none none none none none none none none (some ij) none none none none none) dm (jY d (some (.loc 0)) none none none none none none none (some ij) (some (g8 d)) none none none none) (cj []):=by
  have e2:gl (KT θ d (n+1)) (jY d none none none none none none none none (some ij) none none none none none) [wF (T1 θ),(nV true)] dm=some ([g8 d,.loc 0],cj []):=(bz (aiu g rfl)).trans rfl;have e3:bI [wF (T1 θ),(nV true)] (KT θ d (n+1)) (jY d none none none none none none none none (some ij) none none none none none) dm=some (.tup [g8 d,.loc 0],cj []):=by
   show bk (gl _ _ _ _) _=_
   rw[e2];rfl
  exact(bz e3).trans rfl
 refine(dS s2).trans ?_;refine(dS (fE (aw:=jY d (some (.loc 0)) none none none none none none none (some ij) (some (g8 d)) (some (fy d)) none none none) (aiv g rfl) rfl)).trans ?_;refine(dS (fE (aw:=jY d (some (.loc 0)) none none none none none none none (some ij) (some (g8 d)) (some (fy d)) (some (iA d)) none none) (aiz rfl) rfl)).trans ?_;refine(dS (aw:=jY d (some (.loc 0)) p2 p3 none none none none none (some ij) (some (g8 d)) (some (fy d)) (some (iA d)) none none) e5).trans ?_;refine(dS (fE (aw:=jY d (some (.loc 0)) p2 p3 none none none none none (some ij) (some (g8 d)) (some (fy d)) (some (iA d)) (some (lN d)) none) (aiK rfl) rfl)).trans ?_;refine(dS (fE (aw:=jY d (some (.loc 0)) p2 p3 (some (jX d)) none none none none (some ij) (some (g8 d)) (some (fy d)) (some (iA d)) (some (lN d)) none) (aiM rfl rfl rfl) rfl)).trans ?_;refine(dS (fE (aw:=jY d (some (.loc 0)) p2 p3 (some (jX d)) none none none none (some ij) (some (g8 d)) (some (fy d)) (some (iA d)) (some (lN d)) (some (gr d))) (aiO g rfl) rfl)).trans ?_;refine(dS (fE (aw:=jY d (some (.loc 0)) p2 p3 (some (jX d)) (some (ii d)) none none none (some ij) (some (g8 d)) (some (fy d)) (some (iA d)) (some (lN d)) (some (gr d))) (aiP g rfl rfl) rfl)).trans ?_;refine(dS (fE (aw:=jY d (some (.loc 0)) p2 p3 (some (jX d)) (some (ii d)) (some (iP d)) none none (some ij) (some (g8 d)) (some (fy d)) (some (iA d)) (some (lN d)) (some (gr d))) (aiR rfl) rfl)).trans ?_
 refine(dS (fE (aw:=jY d (some (.loc 0)) p2 p3 (some (jX d)) (some (ii d)) (some (iP d)) (some (iQ d)) none (some ij) (some (g8 d)) (some (fy d)) (some (iA d)) (some (lN d)) (some (gr d))) (aiW rfl rfl) rfl)).trans ?_;refine(dS (fE (aw:=jY d (some (.loc 0)) p2 p3 (some (jX d)) (some (ii d)) (some (iP d)) (some (iQ d)) (some (oP d)) (some ij) (some (g8 d)) (some (fy d)) (some (iA d)) (some (lN d)) (some (gr d))) (aja g rfl rfl rfl) rfl)).trans ?_;exact uH (nk (hZ (ba rfl) (hZ (ba rfl) (hZ (aV rfl) (hZ (ba rfl) (hZ (ba rfl) (gS (ba rfl) (zv uC rfl))))))) rfl)
def Kl(d:Dat):V:=Kk d (.fd ((lM d).map dV))
theorem ajd(d:Dat):bY 11 (jX d)=true/\bY 11 (gr d)=true/\bY 11 (ii d)=true/\bY 11 (iQ d)=true/\bY 11 (oP d)=true:=
 ⟨Sy _ _,jd λx _=>rfl,jd λx _=>jd λy _=>Sx d x y,zT λk _=>jd λx _=>jd λy _=>rfl,jd λx _=>jd λy _=>rfl⟩
theorem rc{f:V->Option V}{v w:V}{l m:List V}(h:f v=some w)(hl:hJ f l=some m):hJ f (v::l)=some (w::m):=(bx h).trans ((bx hl).trans rfl)
theorem aje{st:St}{s s' p q u v w:V}(hs:dH (T1 θ) st 11 s=some s')(h1:bY 11 p=true)(h2:bY 11 q=true)(h3:bY 11 u=true)(h4:bY 11 v=true)(h5:bY 11 w=true):dH (T1 θ) st 12 (.tup [s,p,q,u,v,w,.fl []])=some (.tup [s',p,q,u,v,w,.fl []]):=by
 have fz:∀{v:V},bY 11 v=true->dH (T1 θ) st 11 v=some v:=λh=>Ed _ _ 11 _ h
 have ha:hJ (dH (T1 θ) st 11) [s,p,q,u,v,w,.fl []]=some [s',p,q,u,v,w,.fl []]:=
  rc hs (rc (fz h1) (rc (fz h2) (rc (fz h3) (rc (fz h4) (rc (fz h5) (rc (fz rfl) rfl))))))
 exact(bx ha).trans rfl
theorem ajf(D:Dm):dH (T1 θ) (cj (D.map dV)) 11 (.loc 0)=some (.fd (D.map dV)):=by
 show af (pr (dH (T1 θ) (cj (D.map dV)) 10) (D.map dV)) (λl=>some (V.fd l))=_
 refine ab (Ec λe he=>by
  refine ah (dF.mp he) λx hx q=>?_
  subst q;rfl) ?_
 rfl
theorem ajg(d:Dat):dH (T1 θ) (cj ((lM d).map dV)) 12 (Kk d (.loc 0))=some (Kl d):=by
 have h:=ajd d;have hs:dH (T1 θ) (cj ((lM d).map dV)) 11 (.loc 0)=some (.fd ((lM d).map dV)):=ajf _;exact aje hs h.1 h.2.1 h.2.2.1 h.2.2.2.1 h.2.2.2.2
theorem ajh(g:Good d):KT θ d (n+2) (.bh 23) [dO d,iN d.pg] st=some (Kl d,st):=by
 show rS (T1 θ) (KT θ d (n+1)) (uB (T1 θ)) [dO d,iN d.pg] st=_
 refine dI rfl ((bx (z:=jY d none none none none none none none none none none none none none none) rfl).trans ?_);refine xE (ajc (θ:=θ) (n:=n) g) λfr e=>?_
 exact(fQ e).trans (jT (ajg d))
def sR(d:Dat):Dp:=(aD 5).foldl (λD x=>(eL d x).foldl (λD e=>fx D (x,e) (cG e (eL d x))) D) []
theorem SI(d:Dat){x:Nat}(hx:x<5):∀e∈eL d x,(x,e)∈VP:=λe he=>by
 refine ah (dF.mp he) λk _ q=>?_
 refine bX (q) ?_
 have:=zQ (bt (BL d (k+1))) hx
 exact R8 this.1 this.2
theorem aji(g:Good d){x:Nat}(hx:x<5):∀(es:List Nat),(∀e∈es,(x,e)∈VP)->∀(D:Dp),(∀q∈D,q.1∈VP)->es.foldl (oQ d x) (D.map (kd d))=(es.foldl (λD e=>fx D (x,e) (cG e (eL d x))) D).map (kd d)/\∀q∈es.foldl (λD e=>fx D (x,e) (cG e (eL d x))) D,q.1∈VP:=by
 intro es;induction es with
 | nil=>exactλ_ D h=>⟨rfl,h⟩
 | cons e es ih=>
  intro he D hD;have h0:=he e bT
  have:oQ d x (D.map (kd d)) e=(fx D (x,e) (cG e (eL d x))).map (kd d):=Sa g hD (p:=(x,e)) h0 _
  refine ab (lq) ?_;refine ab (lq) ?_;refine ab (this) ?_;exact ih (λe h=>he e (bL _ h)) _ (Sb hD h0 _)
theorem SJ(g:Good d):lM d=(sR d).map (kd d):=by
 have go:∀(xs:List Nat),(∀x∈xs,x<5)->∀(D:Dp),(∀q∈D,q.1∈VP)->xs.foldl (uT d) (D.map (kd d))=(xs.foldl (λD x=>(eL d x).foldl (λD e=>fx D (x,e) (cG e (eL d x))) D) D).map (kd d):=by
  intro xs;induction xs with
  | nil=>exactλ_ D _=>rfl
  | cons x xs ih=>
   intro hx D hD;have h0:=hx x bT;have h:=aji g h0 (eL d x) (SI d h0) D hD;refine ab (lq) ?_;refine ab (lq) ?_;have e:uT d (D.map (kd d)) x=_:=h.1;refine ab (e) ?_;exact ih (λy hy=>hx y (bL _ hy)) _ h.2
 exact go (aD 5) (λx hx=>cY hx) [] (λq hq=>nomatch hq)
def xe(d:Dat)(D:Dp):Prop:=(eQ D).Nodup/\∀p c,gF D p=some c->c=cG p.2 (eL d p.1)
theorem ajj(x:Nat):∀(es:List Nat) (D:Dp),xe d D->xe d (es.foldl (λD e=>fx D (x,e) (cG e (eL d x))) D)/\∀p,p∈eQ (es.foldl (λD e=>fx D (x,e) (cG e (eL d x))) D)↔(p.1=x/\p.2∈es)\/p∈eQ D:=by
 intro es;induction es with
 | nil=>exactλD h=>⟨h,λp=>⟨.inr,λq=>q.elim (λz=>nomatch z.2) id⟩⟩
 | cons e es ih=>
  intro D h;have hk:=J3 D (x,e) (cG e (eL d x));have h1:xe d (fx D (x,e) (cG e (eL d x))):=⟨hk.2 h.1,λp c hp=>by
   rw[RU]at hp;induction q:eI (x,e) p with
   | true=>
    rw[q]at hp
    have:=kH.mp q
    subst this;refine bf hp ?_;rfl
   | false=>rw[q]at hp;exact h.2 p c hp⟩
  have h2:=ih _ h1;refine⟨h2.1,λp=>(h2.2 p).trans ?_⟩;rw[hk.1 p];constructor
  ·rintro (⟨u,v⟩|u|u)
   ·exact .inl ⟨u,bL _ v⟩
   ·exact ab (u) (.inl ⟨rfl,bT⟩)
   ·exact .inr u
  ·rintro (⟨u,v⟩|u)
   ·rcases cW.mp v with z|z
    ·exact .inr (.inl (mI u z))
    ·exact .inl ⟨u,z⟩
   ·exact .inr (.inr u)
theorem xf(d:Dat):xe d (sR d)/\∀p,p∈eQ (sR d)↔p.1<5/\p.2∈eL d p.1:=by
 have go:∀(xs:List Nat) (D:Dp),xe d D->xe d (xs.foldl (λD x=>(eL d x).foldl (λD e=>fx D (x,e) (cG e (eL d x))) D) D)/\∀p,p∈eQ (xs.foldl (λD x=>(eL d x).foldl (λD e=>fx D (x,e) (cG e (eL d x))) D) D)↔(p.1∈xs/\p.2∈eL d p.1)\/p∈eQ D:=by
  intro xs;induction xs with
  | nil=>exactλD h=>⟨h,λp=>⟨.inr,λq=>q.elim (λz=>nomatch z.1) id⟩⟩
  | cons x xs ih=>
   intro D h;have h1:=ajj x (eL d x) D h;have h2:=ih _ h1.1;refine⟨h2.1,λp=>(h2.2 p).trans ?_⟩;rw[h1.2 p];constructor
   ·rintro (⟨u,v⟩|⟨u,v⟩|u)
    ·exact .inl ⟨bL _ u,v⟩
    ·exact ab (u) (.inl ⟨bT,v⟩)
    ·exact .inr u
   ·rintro (⟨u,v⟩|u)
    ·rcases cW.mp u with z|z
     ·exact .inr (.inl ⟨z,z▸v⟩)
     ·exact .inl ⟨z,v⟩
    ·exact .inr (.inr u)
 have h:=go (aD 5) [] ⟨tC,λp c h=>au h⟩;refine⟨h.1,λp=>(h.2 p).trans ?_⟩;constructor
 ·rintro (⟨u,v⟩|u)
  ·exact⟨cY u,v⟩
  ·exact nomatch u
 ·rintro ⟨u,v⟩
  exact .inl ⟨eR.mpr u,v⟩
theorem SK{e:Nat}{l:List Nat}:0<cG e l↔e∈l:=by
 constructor
 ·exact J4
 ·intro h;exact arc (pT.mpr ⟨h,gw e⟩)
theorem SL{p:Nat×Nat}{l:List (Nat×Nat)}:0<jC p l↔p∈l:=by
 constructor
 ·intro h;obtain⟨q,hq⟩:=aqQ h
  have:=pT.mp hq
  refine bX (kH.mp this.2) ?_;exact this.1
 ·intro h;exact arc (pT.mpr ⟨h,kH.mpr rfl⟩)
theorem Km(g:Good d)(p:Nat×Nat):p∈eQ (fH d)↔p.1<5/\p.2∈eL d p.1:=by
 have h:=(RW (kJ d) (D:=[]) tC).2 p;refine Iff.trans h ?_;constructor
 ·rintro (u|u)
  ·exact nomatch u
  ·have h5:p.1<5:=by have:=xc p (Kb d p u);lia
   refine⟨h5,SK.mp ?_⟩;rw[<-D9 d h5 p.2];exact SL.mpr u
 ·rintro ⟨u,v⟩
  right
  have:=SK.mpr v
  rw[<-D9 d u p.2]at this;exact SL.mp this
theorem ajk(g:Good d){q:(Nat×Nat)×Nat}(hq:q∈fH d):q.2=cG q.1.2 (eL d q.1.1):=by
 have hk:q.1∈eQ (fH d):=dF.mpr ⟨q,hq,rfl⟩;have h5:=((Km g q.1).mp hk).1;have h1:=RV (kJ d) [] q.1;have h2:=D6 (zV d) hq;have h1:(gF (fH d) q.1).getD 0=0+jC q.1 (kJ d):=h1;rw[h2,show jC q.1 (kJ d)=cG q.1.2 (eL d q.1.1) from D9 d h5 q.1.2]at h1;have h1:q.2=0+cG q.1.2 (eL d q.1.1):=h1
 lia
theorem ajl(d:Dat){p:Nat×Nat}(hp:p∈eQ (sR d)):gF (sR d) p=some (cG p.2 (eL d p.1)):=by
 refine ah (dF.mp hp) λq hq e=>?_
 subst e
 have:=D6 (xf d).1.1 hq
 rw[this,(xf d).1.2 q.1 q.2 this]
theorem ajm(g:Good d):(fH d).length=(sR d).length:=by
 have:(eQ (fH d)).Perm (eQ (sR d)):=(ari (zV d) (xf d).1.1).mpr λp=>(Km g p).trans ((xf d).2 p).symm
 have:=this.length_eq
 unfold eQ at this;rw[cK,cK]at this;exact this
theorem ajn(d:Dat):∀q∈sR d,q.1∈VP:=λq hq=>by
 have:=((xf d).2 q.1).mp (dF.mpr ⟨q,hq,rfl⟩)
 exact SI d this.1 _ this.2
theorem ajo(g:Good d)(k:Nat):∀D:Dp,(∀q∈D,q∈fH d)->rH (T1 θ) (eU (T1 θ) st (k+1)) ((D.map (kd d)).map dV) ((lM d).map dV)=some true:=by
 intro D;induction D with
 | nil=>exactλ_=>rfl
 | cons q D ih=>
  intro h;have hq:=h q bT;have hk:q.1∈eQ (fH d):=dF.mpr ⟨q,hq,rfl⟩;have hd:=((xf d).2 q.1).mpr ((Km g q.1).mp hk);have hl:pj (T1 θ) (ao (dD d q.1.1 q.1.2)) ((lM d).map dV)=some (some (iN q.2)):=by
   rw[JY,SJ g,Ka g (ajn d) (zU g q hq),ajl d hd,ajk g hq];rfl
  refine(bx hl).trans ((bx ?_).trans ((bx (ih λr hr=>h r (bL _ hr))).trans (show some (true&&true)=some true from rfl)));exact(Ej _ k q.2 q.2).trans (by rw[gw])
theorem ajp(g:Good d)(k:Nat):eU (T1 θ) st (k+2) (qY d) (.fd ((lM d).map dV))=some true:=by
 show(match aG (((fH d).map (kd d)).map dV).length ((lM d).map dV).length with|true=>rH (T1 θ) (eU (T1 θ) st (k+1)) (((fH d).map (kd d)).map dV) ((lM d).map dV)|false=>some false)=_
 have:aG (((fH d).map (kd d)).map dV).length ((lM d).map dV).length=true:=by
  rw[SJ g,cK,cK,cK,cK,ajm g];exact gw _
 refine ab (this) ?_;exact ajo g k (fH d) λq h=>h
def ik(st:St)(θ:Th)(n:Nat)(v:V):Prop:=eU (T1 θ) st n v v=some true
theorem SM{f:V->V->Option Bool}:∀l:List V,(∀v∈l,f v v=some true)->ma f l l=some true:=by
 intro l;induction l with
 | nil=>exactλ_=>rfl
 | cons v l ih=>exactλh=>(bx (h v bT)).trans ((bx (ih λw hw=>h w (bL _ hw))).trans rfl)
theorem El{n:Nat}{l:List V}(h:∀v∈l,ik st θ n v):ik st θ (n+1) (.fl l):=by
 show(match aG l.length l.length with|true=>ma (eU (T1 θ) st n) l l|false=>some false)=_
 rw[gw];exact SM l h
theorem ajq{n:Nat}{l:List V}(h:∀v∈l,ik st θ n v):ik st θ (n+1) (.tup l):=by
 show af (ma (eU (T1 θ) st n) l l) (λa=>some (a&&aG l.length l.length))=_
 rw[SM l h,gw];rfl
theorem uU{n k:Nat}{G:Nat->V}(h:∀x,x<k->ik st θ n (G x)):ik st θ (n+1) (.fl (lsN k G)):=El λv hv=>by
 refine ah (dF.mp hv) λx hx e=>?_
 subst e;exact h x (eR.mp hx)
theorem Kn{α:Type}{n:Nat}{G:α->V}{l:List α}(h:∀x,ik st θ n (G x)):ik st θ (n+1) (.fl (l.map G)):=El λv hv=>by
 refine ah (dF.mp hv) λx hx e=>?_
 subst e;exact h x
theorem SN(n x:Nat):ik st θ (n+1) (iN x):=(Ej _ n x x).trans (by rw[gw])
theorem SO(n:Nat)(x:List Nat):ik st θ (n+1) (.str (ao x)):=(D2 θ x x).trans (by rw[yU])
theorem ajr(n:Nat)(b:Bool):ik st θ (n+1) (.bool b):=by cases b<;>rfl
theorem ajs(n:Nat)(l:List (List Nat)):ik st θ (n+2) (sV l):=Kn λx=>SO n x
theorem ajt(d:Dat)(n x y:Nat):ik st θ (n+3) (nu d x y):=by
 unfold nu;induction aH x y with
 | true=>
  refine Kn (l:=qR (d.lead x) (d.lead y)) (G:=zL (d.lead x) (d.lead y)) λk=>ajq λv hv=>?_
  rcases(by simpa using hv:v=iN (k+1)\/v=iN (gT (d.lead x) (k+1))\/v=iN (gT (d.lead y) (k+1)))with q|q|q<;>refine ab (q) ?_<;>exact SN n _
 | false=>exact El λv hv=>nomatch hv
theorem aju{s s' p q u v w:V}(hs:eU (T1 θ) st 11 s s'=some true)(h1:ik st θ 11 p)(h2:ik st θ 11 q)(h3:ik st θ 11 u)(h4:ik st θ 11 v)(h5:ik st θ 11 w):eU (T1 θ) st 12 (.tup [s,p,q,u,v,w,.fl []]) (.tup [s',p,q,u,v,w,.fl []])=some true:=by
 have cons:∀{x y:V} {l m:List V},eU (T1 θ) st 11 x y=some true->ma (eU (T1 θ) st 11) l m=some true->ma (eU (T1 θ) st 11) (x::l) (y::m)=some true:=λh1 h2=>(bx h1).trans ((bx h2).trans rfl)
 have ha:ma (eU (T1 θ) st 11) [s,p,q,u,v,w,.fl []] [s',p,q,u,v,w,.fl []]=some true:=
  cons hs (cons h1 (cons h2 (cons h3 (cons h4 (cons h5 (cons rfl rfl))))))
 exact(bx ha).trans rfl
theorem ajv(g:Good d):eU (T1 θ) st 12 (Ei d) (Kl d)=some true:=by
 have h2:ik st θ 11 (jX d):=El λv hv=>by
  rcases(by simpa[jX]using hv:v=sV (pH (oO d λx=>qV (eL d x)))\/v=sV (pH (oO d (mK d))))with q|q<;>refine ab (q) ?_<;>exact ajs 8 _
 have h3:ik st θ 11 (gr d):=uU λx _=>SN 9 _
 have h4:ik st θ 11 (ii d):=uU λx _=>uU λy _=>ajt d 6 x y
 have h5:ik st θ 11 (iQ d):=Kn λk=>uU λx _=>uU λy _=>ajr 7 _
 have h6:ik st θ 11 (oP d):=uU λx _=>uU λy _=>SO 8 _
 exact aju (ajp g 9) h2 h3 h4 h5 h6
theorem ajw(g:Good d){r:V}(hr:KT θ d (n+3) (.bh 14) [r] dm=some (.tup [dO d,iN d.pg],dm)):KT θ d (n+4) (.bh 24) [r] dm=some (.bool true,dm):=by
 show nZ (KT θ d (n+3)) (zu (T1 θ)) [r] [] dm=_
 have e1:Sv (aP (.tup [(.loc 1),(.loc 2)]) (du (cF 14) [(ae 0)])) (KT θ d (n+3)) ⟨[some r,none,none],[]⟩ dm ⟨[some r,some (dO d),some (iN d.pg)],[]⟩ dm:=fE (jx (u:=.bh 14) rfl (iM (ba rfl)) hr) rfl;have e2:dq (nU (bq (T1 θ) .eq (du (cF 21) [(ae 1),(ae 2)]) (du (cF 23) [(ae 1),(ae 2)]))) (KT θ d (n+3)) ⟨[some r,some (dO d),some (iN d.pg)],[]⟩ dm=some (.ret (.bool true),⟨[some r,some (dO d),some (iN d.pg)],[]⟩,dm):=
  uH (DE (j8 (jx (u:=.bh 21) rfl (gS (ba rfl) (ba rfl)) (air g)) (jx (u:=.bh 23) rfl (gS (ba rfl) (ba rfl)) (ajh (n:=n+1) g)) (ajv g)))
 refine(bx (z:=(⟨[some r,none,none],[]⟩:Fr)) rfl).trans ((fQ ((dS e1).trans e2)).trans rfl)
end
noncomputable def rd:List Nat->Nat->Nat->List Nat
 | [],_,_=>[]
 | c::l,j,v=>match j with|0=>(c+v)::l|j+1=>c::rd l j v
noncomputable def cv(n:Int):Nat:=(n%1000000000).toNat
noncomputable def re:Nat->List Nat->List Int->List Nat
 | _,cs,[]=>cs
 | k,cs,n::ns=>re (k+1) (rd cs (k%6) (cv n)) ns
theorem SQ(l:List Nat):∀(j v:Nat),(rd l j v).length=l.length:=by
 induction l with
 | nil=>exactλ_ _=>rfl
 | cons c l ih=>
  intro j v;induction j with
  | zero=>rfl
  | succ j=>exact congrArg (·+1) (ih j v)
theorem SR{B D:Nat}(l:List Nat):∀(j v:Nat),(∀c∈l,c<=B)->v<=D->∀c∈rd l j v,c<=B+D:=by
 induction l with
 | nil=>exactλ_ _ _ _ _ h=>nomatch h
 | cons d l ih=>
  intro j v hl h1 c h;induction j with
  | zero=>
   rcases cW.mp h with q|q
   ·have:=hl d bT;lia
   ·have:=hl c (bL _ q);lia
  | succ j=>
   rcases cW.mp h with q|q
   ·have:=hl d bT;lia
   ·exact ih j v (λz hz=>hl z (bL _ hz)) h1 c q
theorem Ko(n:Int):cv n<=999999999:=by
 have:=Int.emod_lt_of_pos n (by decide:(0:Int)<1000000000)
 unfold cv;lia
theorem SS(ns:List Int):∀(k:Nat) (cs:List Nat) (B:Nat),cs.length=6->(∀c∈cs,c<=B)->B+1000000000*ns.length<=100000000000->(re k cs ns).length=6/\∀c∈re k cs ns,c<=100000000000:=by
 induction ns with
 | nil=>exactλk cs B hl hb hB=>⟨hl,λc hc=>by have:=hb c hc;simp at hB;lia⟩
 | cons x ns ih=>
  intro k cs B hl hb hB;rw[cH]at hB;have hv:=Ko x;exact ih (k+1) (rd cs (k%6) (cv x)) (B+1000000000) (by rw[SQ];exact hl) (SR cs _ _ hb (by lia)) (by lia)
theorem ajx(l:List Nat):∀(j v:Nat),j<l.length->qh (l.map iN) j (iN (l.getD j 0+v))=some ((rd l j v).map iN):=by
 induction l with
 | nil=>exactλj v h=>absurd h (xQ _)
 | cons d l ih=>
  intro j v h;induction j with
  | zero=>rfl
  | succ j=>exact(bx (ih j v (xO h))).trans rfl
theorem ajy(n:Int):n%1000000000=((cv n:Nat):Int):=by
 have:=Int.emod_nonneg n (by decide:(1000000000:Int)≠0)
 unfold cv;lia
theorem uV{B:Nat}{l:List Nat}(h:∀c∈l,c<=B)(j:Nat):l.getD j 0<=B:=by
 rw[U8];induction q:l[j]? with
 | none=>exact tE _
 | some c=>exact h c (fK q)
noncomputable section
variable {θ:Th}{T:Tb}{K:bb}{n:Nat}{st:St}{fr:Fr}{a b c:Cd}
def cN(cs:List Nat)(rows:List V):St:=⟨[.list rows,.list (cs.map iN)],2⟩
theorem SU{cs:List Nat}{rows:List V}{x:Nat}(hl:cs.length=6)(hx:x<6):nR T (.loc 0) (iN x) (cN cs rows)=some (iN (cs.getD x 0)):=by
 show af (bv (aH x 4000) (some x)) (λk=>(cs.map iN)[k]?)=_
 rw[show aH x 4000=true from cZ (by lia)]
 show(cs.map iN)[x]?=_
 rw[pR,U8,Fk (by lia)];rfl
noncomputable def bc(sv:V)(i m:Option V):Fr:=⟨[some sv,some (.loc 1),i,m,none,none,none],[some (.loc 0),none]⟩
theorem ajz{sv:V}{k:Nat}{m:Int}{cs:List Nat}{B:Nat}(hl:cs.length=6)(hb:∀c∈cs,c<=B)(hB:B<=100000000000) :
  Sv (zr T) K (bc sv (some (.int k)) (some (.int m))) (cN cs []) (bc sv (some (.int k)) (some (.int m))) (cN (rd cs (k%6) (cv m)) []):=by
 have hj:k%6<6:=lX _ (by decide);have e1:Ev (aK .mod (ae 2) (aj 6)) K (bc sv (some (.int k)) (some (.int m))) (cN cs []) (iN (k%6)):=d6 (b:=aj 6) (ba rfl) rfl (qL (x:=(k:Int)) (y:=6) (by decide) (by decide));have e2:Ev (aK .mod (ae 3) (aK .pow (aj 10) (aj 9))) K (bc sv (some (.int k)) (some (.int m))) (cN cs []) (iN (cv m)):=by
  have:=d6 (st:=cN cs []) (K:=K) (fr:=bc sv (some (.int k)) (some (.int m))) (a:=ae 3) (b:=aK .pow (aj 10) (aj 9)) (ba rfl) rfl (qL (x:=m) (y:=1000000000) (by decide) (by decide))
  rw[ajy]at this;exact this
 have hg:=uV hb (k%6);have hv:=Ko m;have e4:Be .add (iN (cs.getD (k%6) 0)) (iN (cv m))=some (iN (cs.getD (k%6) 0+cv m)):=by
  show j4 (((cs.getD (k%6) 0:Nat):Int)+((cv m:Nat):Int))=_
  rw[uF (by lia) (by lia)];rfl
 have e5:rP T (.loc 0) (iN (k%6)) (iN (cs.getD (k%6) 0+cv m)) (cN cs [])=some (cN (rd cs (k%6) (cv m)) []):=by
  show af (bv (aH (k%6) 4000) (some (k%6))) (λk'=>af (qh (cs.map iN) k' (iN (cs.getD (k%6) 0+cv m))) λl'=>some ((cN cs []).set 0 (.list l')))=_
  rw[show aH (k%6) 4000=true from cZ (by lia)]
  show af (qh (cs.map iN) (k%6) (iN (cs.getD (k%6) 0+cv m))) (λl'=>some ((cN cs []).set 0 (.list l')))=_
  rw[ajx cs _ _ (by lia)];rfl
 have e6:Bf T (aq 0) (aK .mod (ae 2) (aj 6)) .add (aK .mod (ae 3) (aK .pow (aj 10) (aj 9))) K (bc sv (some (.int k)) (some (.int m))) (cN cs [])=rQ (bc sv (some (.int k)) (some (.int m))) (rP T (.loc 0) (iN (k%6)) (iN (cs.getD (k%6) 0+cv m)) (cN cs [])):=
  (bz (aV (v:=.loc 0) rfl)).trans ((bz e1).trans ((bx (SU hl hj)).trans ((bz e2).trans (bx e4))))
 exact e6.trans ((congrArg (rQ _) e5).trans rfl)
theorem ajA{sv:V}(ns:List Int):∀(k:Nat) (cs:List Nat) (B:Nat) (i m:Option V),cs.length=6->(∀c∈cs,c<=B)->B+1000000000*ns.length<=100000000000 ->
  ∃i' m',iI K (.tup [.loc 2,.loc 3]) (zr T) (rN k (d8 ns)) (bc sv i m) (cN cs [])=some (.next,bc sv i' m',cN (re k cs ns) []):=by
 induction ns with
 | nil=>exactλk cs B i m hl hb hB=>⟨i,m,rfl⟩
 | cons x ns ih=>
  intro k cs B i m hl hb hB;rw[cH]at hB;have hv:=Ko x;refine fL (ih (k+1) (rd cs (k%6) (cv x)) (B+1000000000) (some (.int k)) (some (.int x)) (by rw[SQ];exact hl) (SR cs _ _ hb (by lia)) (by lia)) λi' m' h1=>?_
  refine gK i' m' ?_;exact(bx (z:=bc sv (some (.int k)) (some (.int x))) rfl).trans ((fQ (ajz hl hb (by lia))).trans h1)
noncomputable def wd(q:Nat):List Nat:=[[],[32],[9]].getD q []
noncomputable def Kq(r:Nat):Nat:=match aH 10 r with|true=>65013+r|false=>[173,847,6150,6155,6156,6157,8203,8204,8205,8288,65279].getD r 0
def dP(cs:List Nat):Dat where
 lead x:=((aD 4).map λk=>wd (cs.getD x 0/3^k%3)).flatten
 l x:=(cs.getD 5 0+x*(1+cs.getD 5 0/26%7))%26
 s x:=SG.getD (cs.getD x 0/81%7) 0
 u x:=Kq (cs.getD x 0/567%27)
 pg:=cs.getD 5 0/182
theorem ajB:∀a∈aD 3,∀b∈aD 3,∀c∈aD 3,∀e∈aD 3,[wd a,wd b,wd c,wd e].flatten∈fF:=by decide +kernel
theorem ajC:∀s∈aD 7,∀x∈aD 5,∀y∈aD 5,∀c∈aD 26,(c+x*(1+s))%26=(c+y*(1+s))%26->x=y:=by decide +kernel
theorem ajD:∀q∈aD 7,SG.getD q 0∈SG:=by decide
theorem ajE:∀r∈aD 27,Kq r∈gA:=by decide +kernel
theorem md{x k:Nat}(h:0<k):x%k∈aD k:=eR.mpr (lX _ h)
theorem ajF{cs:List Nat}(hb:∀c∈cs,c<=100000000000):Good (dP cs) where
 lead x _:=ajB _ (md (by decide)) _ (md (by decide)) _ (md (by decide)) _ (md (by decide))
 l x _:=lX _ (by decide)
 ne x y hx hy h:=ajC (cs.getD 5 0/26%7) (md (by decide)) x (eR.mpr hx) y (eR.mpr hy) (cs.getD 5 0%26) (md (by decide)) ((aru ..).trans ((show(cs.getD 5 0+x*(1+cs.getD 5 0/26%7))%26=(cs.getD 5 0+y*(1+cs.getD 5 0/26%7))%26 from h).trans (aru ..).symm))
 s x _:=ajD _ (md (by decide))
 u x _:=ajE _ (md (by decide))
 pg:=by
  have:=uV hb 5
  have:=aro (cs.getD 5 0) 182
  show cs.getD 5 0/182<_
  lia
noncomputable def br(sv:V)(i m o4 o5 o6 x:Option V):Fr:=⟨[some sv,some (.loc 1),i,m,o4,o5,o6],[some (.loc 0),x]⟩
theorem ajG:(fun(T:Tb) (K:bb) (sv:V) (i m o5 o6 x:Option V) (st:St)=>(aD 27).map λr=>Jl T K (br sv i m (some (iN r)) o5 o6 x) st)=λT K sv i m o5 o6 x st=>(aD 27).map λr=>some (.str [.c (Kq r)],st):=by kernel_rfl
theorem ajH:(fun(T:Tb) (st:St)=>(aD 3).map λq=>nR T (.tup [.str [],.str [.c 32],.str [.c 9]]) (iN q) st)=λT st=>(aD 3).map λq=>some (.str (ao (wd q))):=by kernel_rfl
theorem ajI:(fun(T:Tb) (st:St)=>(aD 7).map λq=>nR T (.str [.c 38,.c 60,.c 62,.c 34,.c 13,.c 10,.c 9]) (iN q) st)=λT st=>(aD 7).map λq=>some (.str [.c (SG.getD q 0)]):=by kernel_rfl
section
variable {cs:List Nat}{rows:List V}{x:Nat}
theorem Em(hl:cs.length=6)(hx:x<6)(ha:Ev a K fr (cN cs rows) (.loc 0))(hb:Ev b K fr (cN cs rows) (iN x)):Ev (aJ T a b) K fr (cN cs rows) (iN (cs.getD x 0)):=cR ha hb (SU hl hx)
theorem En{v p q:Nat}(ha:Ev a K fr st (iN v))(hv:v<=100000000000)(hb:Ev b K fr st (iN p))(hc:Ev c K fr st (iN q))(hp:0<p)(zc:p<1000)(hq:0<q)(Ca:q<1000):Ev (aK .mod (aK .fdiv a b) c) K fr st (iN (v/p%q)):=
 d6 (d6 ha hb (DH (x:=(v:Int)) (y:=(p:Int)) (by lia) (by lia) (by lia) (by lia))) hc (qL (x:=((v/p:Nat):Int)) (y:=(q:Int)) (by lia) (by lia))
theorem ajJ(hl:cs.length=6)(hb:∀c∈cs,c<=100000000000)(hx:x<6){C L:List (Option V)}(h0:C[0]?=some (some (.loc 0)))(h1:C[1]?=some (some (iN x))):Ev (C3 (T1 θ)) K ⟨L,C⟩ (cN cs rows) (.str (ao ((dP cs).lead x))):=by
 have hc:Ev (bR false (.loc 1) (dT (aj 4)) (bE (aJ (T1 θ) (bI [(aX []),(aX [.c 32]),(aX [.c 9])]) (aK .mod (aK .fdiv (aJ (T1 θ) (aq 0) (aq 1)) (aK .pow (aj 3) (ae 1))) (aj 3)))) 2 0 [0,1]) K ⟨L,C⟩ (cN cs rows) (.fl (((aD 4).map λk=>wd (cs.getD x 0/3^k%3)).map λx=>.str (ao x))):=by
  rw[kO];refine jc (ks:=aD 4) (G:=iN) (C:=[some (.loc 0),some (iN x)]) (f:=(λx=>.str (ao x)) ∘ λk=>wd (cs.getD x 0/3^k%3)) Sk (by show af C[0]? _=_;rw[h0];show af (af C[1]? _) _=_;rw[h1];rfl) (by decide) λk hk=>?_
  have hk:=eR.mp hk;have h3:0<3^k:=Nat.pow_pos (by decide);have h81:3^k<=27:=arx (by decide) (by lia:k<=3);have e2:Ev (aK .pow (aj 3) (ae 1)) K ⟨[none,some (iN k)],[some (.loc 0),some (iN x)]⟩ (cN cs rows) (iN (3^k)):=d6 (a:=aj 3) (u:=.int 3) rfl (ba rfl) (Sj k hk);exact cR (u:=.tup [.str [],.str [.c 32],.str [.c 9]]) rfl (En (c:=aj 3) (q:=3) (Em hl hx (aV rfl) (aV rfl)) (uV hb x) e2 rfl h3 (by lia) (by decide) (by decide)) (cV (congrFun (congrFun ajH (T1 θ)) (cN cs rows)) (md (by decide)))
 have hw:∀q:Nat,(wd q).length<=1:=λq=>by
  rcases q with _|_|_|q<;>simp[wd]
 refine Sl hc (by simp) ?_
 have:∀l:List (List Nat),(∀x∈l,x.length<=1)->l.flatten.length<=l.length:=by
  intro l;induction l with
  | nil=>exactλ_=>dr _
  | cons y l ih=>
   intro h;rw[As,cS,cH];have h1:=h y bT;have h2:=ih λz hz=>h z (bL _ hz)
   lia
 have h:=this ((aD 4).map λk=>wd (cs.getD x 0/3^k%3)) λy hy=>by
  refine ah (dF.mp hy) λk _ e=>?_
  refine bX (e) ?_;exact hw _
 rw[cK,tw]at h
 lia
theorem ajK(T:Tb):(wL T).body=aE (aP (.tup [(.bi 0),(.loc 1)]) (bI [(dn true [(aj 0),(aj 2918),(aj 7052),(aj 6163),(aj 15106),(aj 503852)]),(dn true [])]))
  (aE (eW (.tup [(.loc 2),(.loc 3)]) (tX (fC (ae 0) none (some (aj 60)))) (zr T)) (aE (eW (.bi 1) (dT (aj 5)) (zt T)) (dq (bI [(ae 1),(aK .fdiv (aJ T (aq 0) (aj 5)) (aj 182))])))):=by kernel_rfl
theorem ajL{sv:V}{i m o4 o5 o6:Option V}(hl:cs.length=6)(hb:∀c∈cs,c<=100000000000)(hx:x<5)(hr:rows.length<100) :
  ∃Kr Ks Kt,Sv (zt (T1 θ)) K (br sv i m o4 o5 o6 (some (iN x))) (cN cs rows) (br sv i m Kr Ks Kt (some (iN x))) (cN cs (rows++[dg (dP cs) x])):=by
 have h5:=uV hb 5;have ec:∀{fr:Fr},fr.C[0]?=some (some (.loc 0))->fr.C[1]?=some (some (iN x))->Ev (aJ (T1 θ) (aq 0) (aq 1)) K fr (cN cs rows) (iN (cs.getD x 0)):=λh0 h1=>Em hl (by lia) (aV h0) (aV h1)
 have e5:∀{fr:Fr},fr.C[0]?=some (some (.loc 0))->Ev (aJ (T1 θ) (aq 0) (aj 5)) K fr (cN cs rows) (iN (cs.getD 5 0)):=λh0=>Em (b:=aj 5) hl (by lia) (aV h0) rfl
 have es:Ev (aK .add (aj 1) (aK .mod (aK .fdiv (aJ (T1 θ) (aq 0) (aj 5)) (aj 26)) (aj 7))) K (br sv i m o4 o5 o6 (some (iN x))) (cN cs rows) (iN (1+cs.getD 5 0/26%7)):=
  d6 (a:=aj 1) (u:=iN 1) rfl (En (b:=aj 26) (p:=26) (c:=aj 7) (q:=7) (e5 rfl) h5 rfl rfl (by decide) (by decide) (by decide) (by decide)) (qT (by lia))
 have hs:1+cs.getD 5 0/26%7<=7:=by lia
 have yz:x*(1+cs.getD 5 0/26%7)<=4*7:=Ax (by lia) hs;have em:Ev (aK .mul (aq 1) (aK .add (aj 1) (aK .mod (aK .fdiv (aJ (T1 θ) (aq 0) (aj 5)) (aj 26)) (aj 7)))) K (br sv i m o4 o5 o6 (some (iN x))) (cN cs rows) (iN (x*(1+cs.getD 5 0/26%7))):=
  d6 (aV rfl) es (adR (x:=(x:Int)) (y:=((1+cs.getD 5 0/26%7:Nat):Int)) (by lia) (by lia) (by lia) (by lia))
 have el:Ev (aK .mod (aK .add (aJ (T1 θ) (aq 0) (aj 5)) (aK .mul (aq 1) (aK .add (aj 1) (aK .mod (aK .fdiv (aJ (T1 θ) (aq 0) (aj 5)) (aj 26)) (aj 7))))) (aj 26)) K (br sv i m o4 o5 o6 (some (iN x))) (cN cs rows) (iN ((dP cs).l x)):=
  d6 (b:=aj 26) (v:=iN 26) (d6 (e5 rfl) em (qT (by lia))) rfl (qL (x:=((cs.getD 5 0+x*(1+cs.getD 5 0/26%7):Nat):Int)) (y:=26) (by decide) (by decide))
 have s1:Sv (oy [(.loc 5),(.loc 4)] (bI [(aK .mod (aK .fdiv (aJ (T1 θ) (aq 0) (aq 1)) (aj 567)) (aj 27)),(aK .mod (aK .add (aJ (T1 θ) (aq 0) (aj 5)) (aK .mul (aq 1) (aK .add (aj 1) (aK .mod (aK .fdiv (aJ (T1 θ) (aq 0) (aj 5)) (aj 26)) (aj 7))))) (aj 26))])) K (br sv i m o4 o5 o6 (some (iN x))) (cN cs rows) (br sv i m (some (iN (cs.getD x 0/567%27))) (some (iN ((dP cs).l x))) o6 (some (iN x))) (cN cs rows):=
  Rf (En (b:=aj 567) (p:=567) (c:=aj 27) (q:=27) (ec rfl rfl) (uV hb x) rfl rfl (by decide) (by decide) (by decide) (by decide)) el rfl
 have s2:Sv (aP (.loc 6) (Jl (T1 θ))) K (br sv i m (some (iN (cs.getD x 0/567%27))) (some (iN ((dP cs).l x))) o6 (some (iN x))) (cN cs rows) (br sv i m (some (iN (cs.getD x 0/567%27))) (some (iN ((dP cs).l x))) (some (.str [.c ((dP cs).u x)])) (some (iN x))) (cN cs rows):=
  fE (cV (congrFun (congrFun (congrFun (congrFun (congrFun (congrFun (congrFun (congrFun (congrFun ajG (T1 θ)) K) sv) i) m) (some (iN ((dP cs).l x)))) o6) (some (iN x))) (cN cs rows)) (md (by decide))) rfl
 have eg:Ev (C4 (T1 θ)) K (br sv i m (some (iN (cs.getD x 0/567%27))) (some (iN ((dP cs).l x))) (some (.str [.c ((dP cs).u x)])) (some (iN x))) (cN cs rows) (.str [.c ((dP cs).s x)]):=
  cR (u:=.str [.c 38,.c 60,.c 62,.c 34,.c 13,.c 10,.c 9]) rfl (En (b:=aj 81) (p:=81) (c:=aj 7) (q:=7) (ec rfl rfl) (uV hb x) rfl rfl (by decide) (by decide) (by decide) (by decide)) (cV (congrFun (congrFun ajI (T1 θ)) (cN cs rows)) (md (by decide)))
 have et:Ev (bI [C3 (T1 θ),(ae 5),C4 (T1 θ),(ae 6)]) K (br sv i m (some (iN (cs.getD x 0/567%27))) (some (iN ((dP cs).l x))) (some (.str [.c ((dP cs).u x)])) (some (iN x))) (cN cs rows) (dg (dP cs) x):=
  nk (hZ (ajJ hl hb (by lia) rfl rfl) (hZ (ba rfl) (gS eg (ba rfl)))) rfl
 have ea:bG (T1 θ) (ae 1) [97,112,112,101,110,100] [(bI [C3 (T1 θ),(ae 5),C4 (T1 θ),(ae 6)])] K (br sv i m (some (iN (cs.getD x 0/567%27))) (some (iN ((dP cs).l x))) (some (.str [.c ((dP cs).u x)])) (some (iN x))) (cN cs rows)=some (.none,cN cs (rows++[dg (dP cs) x])):=by
  refine(bz (ba (v:=.loc 1) rfl)).trans ((bx (z:=none) rfl).trans ((bz (iM et)).trans ?_));exact dI (j9 (by rw[cS];show _+1<_;lia)) rfl
 refine FS (some (iN (cs.getD x 0/567%27))) (some (iN ((dP cs).l x))) (some (.str [.c ((dP cs).u x)])) ?_;exact(dS s1).trans ((dS s2).trans ((bz ea).trans rfl))
theorem ajM{sv:V}{i m:Option V}(hl:cs.length=6)(hb:∀c∈cs,c<=100000000000):∀(ks:List Nat),(∀k∈ks,k<5)->∀(rows:List V) (o4 o5 o6 o1:Option V),rows.length+ks.length<100 ->
  ∃Kr Ks Kt gC,iI K (.bi 1) (zt (T1 θ)) (ks.map iN) (br sv i m o4 o5 o6 o1) (cN cs rows)=some (.next,br sv i m Kr Ks Kt gC,cN cs (rows++ks.map (dg (dP cs)))):=by
 intro ks;induction ks with
 | nil=>exactλ_ rows o4 o5 o6 o1 _=>⟨o4,o5,o6,o1,by rw[show rows++List.map (dg (dP cs)) []=rows from fS rows];rfl⟩
 | cons x ks ih=>
  intro hk rows o4 o5 o6 o1 hr;rw[cH]at hr;refine fZ (ajL (θ:=θ) (K:=K) (rows:=rows) (sv:=sv) (i:=i) (m:=m) (o4:=o4) (o5:=o5) (o6:=o6) hl hb (hk x bT) (by lia)) λp4 p5 p6 e1=>?_
  refine lw (ih (λk h=>hk k (bL _ h)) (rows++[dg (dP cs) x]) p4 p5 p6 (some (iN x)) (by rw[cS];show _+1+_<_;lia)) λq4 q5 q6 q1 e2=>?_
  refine Wk q4 q5 q6 q1 ?_;rw[gJ]at e2;exact(bx (z:=br sv i m o4 o5 o6 (some (iN x))) rfl).trans ((fQ e1).trans e2)
end
noncomputable def nA:List Nat:=[0,2918,7052,6163,15106,503852]
theorem ajN(ns:List Int):∀k,(d8 ns).take k=d8 (ns.take k):=by
 induction ns with
 | nil=>exactλk=>by cases k<;>rfl
 | cons x ns ih=>
  intro k;induction k with
  | zero=>rfl
  | succ k=>exact congrArg (V.int x::·) (ih k)
theorem SV(ns:List Int):(d8 ns).length=ns.length:=by
 induction ns with
 | nil=>rfl
 | cons x ns ih=>exact congrArg (·+1) ih
theorem ajO(ns:List Int)(h:ns.length<=63):iX (.fl (d8 ns)) none (some (.int 60)) st=some (.fl (d8 (ns.take 60))):=by
 have hl:=SV ns
 show bv (dZ (d8 ns)) (af (af (some 0) λa=>af (bv (kS 60) (some (min 60 (d8 ns).length))) λb=>some (((d8 ns).take b).drop a)) jJ)=_
 refine dI (j9 (by lia)) ?_
 show jJ (((d8 ns).take (min 60 (d8 ns).length)).drop 0)=_
 have:(d8 ns).take (min 60 (d8 ns).length)=d8 (ns.take 60):=by
  rw[<-ajN,arl];lia
 rw[this];exact sL (by rw[List.drop_zero,SV,lr];lia)
theorem ajP(ns:List Int)(h:ns.length<=63):∃d,Good d/\∀(θ:Th) (n:Nat) (st:St),KT θ d (n+1) (.bh 14) [.fl (d8 ns)] st=some (.tup [dO d,iN d.pg],st):=by
 have Ku:∀c∈nA,c<=503852:=by decide
 have eX:(ns.take 60).length<=60:=by rw[lr];lia
 have hB:503852+1000000000*(ns.take 60).length<=100000000000:=by lia
 have hl:=(SS (ns.take 60) 0 nA 503852 rfl Ku hB).1;have hb:=(SS (ns.take 60) 0 nA 503852 rfl Ku hB).2;refine aW (dP (re 0 nA (ns.take 60))) (ajF hb) (λθ n st=>?_)
 show rS (T1 θ) (KT θ (dP (re 0 nA (ns.take 60))) n) (wL (T1 θ)) [.fl (d8 ns)] st=_
 generalize hK:KT θ (dP (re 0 nA (ns.take 60))) n=K
 have ajQ:bY 12 (.fl (d8 ns))=true:=eh.mpr λv hv=>by
  have:∀ns:List Int,v∈d8 ns->bY 11 v=true:=by
   intro ns;induction ns with
   | nil=>exactλh=>nomatch h
   | cons x ns ih=>exactλh=>(cW.mp h).elim (λq=>by rw[q];rfl) ih
  exact this ns hv
 refine dI (by show(bY 12 (.fl (d8 ns))&&true)=true;rw[ajQ];rfl) ((bx (z:=(⟨[some (.fl (d8 ns)),none,none,none,none,none,none],[none,none]⟩:Fr)) rfl).trans ?_);have s0:Sv (aP (.tup [(.bi 0),(.loc 1)]) (bI [(dn true [(aj 0),(aj 2918),(aj 7052),(aj 6163),(aj 15106),(aj 503852)]),(dn true [])])) K ⟨[some (.fl (d8 ns)),none,none,none,none,none,none],[none,none]⟩ dm (bc (.fl (d8 ns)) none none) (cN nA []):=rfl;refine fL (ajA (T:=T1 θ) (K:=K) (sv:=.fl (d8 ns)) (ns.take 60) 0 nA 503852 none none rfl Ku hB) λi' m' e1=>?_
 have s1:Sv (eW (.tup [(.loc 2),(.loc 3)]) (tX (fC (ae 0) none (some (aj 60)))) (zr (T1 θ))) K (bc (.fl (d8 ns)) none none) (cN nA []) (bc (.fl (d8 ns)) i' m') (cN (re 0 nA (ns.take 60)) []):=by
  have hi:Iv (tX (fC (ae 0) none (some (aj 60)))) K (bc (.fl (d8 ns)) none none) (cN nA []) (.vals (rN 0 (d8 (ns.take 60)))):=(bz (Jq (a:=ae 0) (b:=aj 60) (u:=.fl (d8 ns)) (v:=.int 60) (ba rfl) rfl (ajO ns h))).trans rfl;exact(bz hi).trans e1
 generalize re 0 nA (ns.take 60)=cs at *
 refine lw (ajM (θ:=θ) (K:=K) (sv:=.fl (d8 ns)) (i:=i') (m:=m') hl hb (aD 5) (λk hk=>cY hk) [] none none none none (by decide)) λq4 q5 q6 q1 e2=>?_
 have s2:Sv (eW (.bi 1) (dT (aj 5)) (zt (T1 θ))) K (br (.fl (d8 ns)) i' m' none none none none) (cN cs []) (br (.fl (d8 ns)) i' m' q4 q5 q6 q1) (cN cs (lsN 5 (dg (dP cs)))):=(bz jB).trans e2;have h5:=uV hb 5;have e3:dq (bI [(ae 1),(aK .fdiv (aJ (T1 θ) (aq 0) (aj 5)) (aj 182))]) K (br (.fl (d8 ns)) i' m' q4 q5 q6 q1) (cN cs (lsN 5 (dg (dP cs))))=some (.ret (.tup [.loc 1,iN (dP cs).pg]),br (.fl (d8 ns)) i' m' q4 q5 q6 q1,cN cs (lsN 5 (dg (dP cs)))):=
  uH (nk (gS (ba rfl) (d6 (b:=aj 182) (v:=iN 182) (Em (b:=aj 5) hl (by decide) (aV rfl) rfl) rfl (DH (x:=((cs.getD 5 0:Nat):Int)) (y:=182) (by lia) (by lia) (by decide) (by decide)))) rfl)
 rw[ajK];refine(fQ ((dS s0).trans ((dS s1).trans ((dS s2).trans e3)))).trans (jT ?_);have hr:hJ (dH (T1 θ) (cN cs (lsN 5 (dg (dP cs)))) 10) (lsN 5 (dg (dP cs)))=some (lsN 5 (dg (dP cs))):=J9 λv hv=>by
  refine ah (dF.mp hv) λx _ e=>?_
  subst e;exact Ed _ _ 10 _ rfl
 have hf:dH (T1 θ) (cN cs (lsN 5 (dg (dP cs)))) 11 (.loc 1)=some (dO (dP cs)):=by
  show af (hJ (dH (T1 θ) (cN cs (lsN 5 (dg (dP cs)))) 10) (lsN 5 (dg (dP cs)))) (λl=>some (V.fl l))=_
  rw[hr];rfl
 have ha:=rc hf (rc (v:=iN (dP cs).pg) (w:=iN (dP cs).pg) (l:=[]) (m:=[]) rfl rfl)
 show af (hJ (dH (T1 θ) (cN cs (lsN 5 (dg (dP cs)))) 11) [.loc 1,iN (dP cs).pg]) (λl=>some (V.tup l))=_
 rw[ha];rfl
end
theorem SW{l l':List (Option V)}{i:Nat}{v:V}(h:ku l i v=some l'):l'[i]?=some (some v)/\∀j,j≠i->l'[j]?=l[j]?:=by
 induction l generalizing l' i with
 | nil=>exact au h
 | cons x l ih=>
  induction i with
  | zero=>
   have h:=h;refine bf h ?_;exact⟨rfl,λj hj=>by cases j with|zero=>exact absurd rfl hj|succ j=>rfl⟩
  | succ i=>
   refine ah (av (show af (ku l i v) (λr=>some (x::r))=some l' from h)) λr e h=>?_
   refine bf h ?_
   have:=ih e
   exact⟨this.1,λj hj=>by cases j with|zero=>rfl|succ j=>exact this.2 j λq=>hj (congrArg (·+1) q)⟩
def Kp(fr aw:Fr):Prop:=aw.L[0]?=fr.L[0]?/\aw.L[3]?=fr.L[3]?/\aw.L[6]?=fr.L[6]?
def rf(s:Cs):Prop:=∀K fr st f aw am,s K fr st=some (f,aw,am)->Kp fr aw
theorem Kp.trans{a b c:Fr}(h:Kp a b)(k:Kp b c):Kp a c:=⟨k.1.trans h.1,k.2.1.trans h.2.1,k.2.2.trans h.2.2⟩
theorem Kp.rfl'(a:Fr):Kp a a:=⟨rfl,rfl,rfl⟩
theorem Kv{v:V}{i:Nat}{fr aw:Fr}(h:iY v (.loc i) fr=some aw)(h0:i≠0)(h3:i≠3)(h6:i≠6):Kp fr aw:=by
 refine ah (av (show af (ku fr.L i v) (λL=>some (⟨L,fr.C⟩:Fr))=some aw from h)) λL e h=>?_
 refine bf h ?_
 have:=(SW e).2
 exact⟨this 0 h0.symm,this 3 h3.symm,this 6 h6.symm⟩
theorem SX{v:V}{i:Nat}{fr aw:Fr}(h:iY v (.fin i) fr=some aw):Kp fr aw:=by
 refine ah (av (show af fr.C[i]? (λo=>match o with|none=>af (ku fr.C i v) λC=>some (⟨fr.L,C⟩:Fr)|some _=>none)=some aw from h)) λo e h=>?_
 induction o with
 | some _=>exact au h
 | none=>
  refine ah (av (show af (ku fr.C i v) (λC=>some (⟨fr.L,C⟩:Fr))=some aw from h)) λC e h=>?_
  refine bf h ?_;exact Kp.rfl' _
theorem z0{i:Nat}{c:Cd}(h0:i≠0)(h3:i≠3)(h6:i≠6):rf (aP (.loc i) c):=λK fr st f aw am h=>by
 refine be (bu (show bk (c K fr st) (λv st1=>nY (iY v (.loc i) fr) st1)=some (f,aw,am) from h)) λv st1 e h=>?_
 induction q:iY v (.loc i) fr with
 | none=>rw[q]at h;exact au h
 | some bc=>rw[q]at h;cases h;exact Kv q h0 h3 h6
theorem Kw{a b:Cs}(ha:rf a)(hb:rf b):rf (aE a b):=λK fr st f aw am h=>by
 refine dN (ky (show eV (a K fr st) (λf bc st1=>match f with|.next=>b K bc st1|f=>some (f,bc,st1))=some (f,aw,am) from h)) λf1 bc st1 e h=>?_
 have h1:=ha K fr st f1 bc st1 e;induction f1 with
 | next=>exact h1.trans (hb _ _ _ _ _ _ h)
 | brk=>cases h;exact h1
 | ret v=>cases h;exact h1
theorem ajR{c:Cd}:rf (jM c):=λK fr st f aw am h=>by
 refine be (bu (show bk (c K fr st) (λ_z st1=>some (Fl.next,fr,st1))=some (f,aw,am) from h)) λv st1 e h=>?_
 cases h;exact Kp.rfl' _
theorem SY{t:Ct}{b:Cs}(hb:rf b):rf (Bh t b):=λK fr st f aw am h=>by
 have go:∀(n:Nat) (fr:Fr) (st:St),vM K t b n fr st=some (f,aw,am)->Kp fr aw:=by
  intro n;induction n with
  | zero=>exactλfr st h=>au h
  | succ n ih=>
   intro fr st h;refine be (bu (show bk (t K fr st) (λb' st1=>tV b' (eV (b K fr st1) λf br aF=>match f with
    | .next=>vM K t b n br aF
    | .brk=>some (.next,br,aF)
    | .ret v=>some (.ret v,br,aF)) (some (.next,fr,st1)))=some (f,aw,am) from h)) λz st1 e h=>?_
   induction z with
   | false=>cases h;exact Kp.rfl' _
   | true=>
    refine dN (ky (show eV (b K fr st1) (λf br aF=>match f with
     | .next=>vM K t b n br aF
     | .brk=>some (.next,br,aF)
     | .ret v=>some (.ret v,br,aF))=some (f,aw,am) from h)) λf1 bc aF e2 h=>?_
    have h1:=hb K fr st1 f1 bc aF e2;induction f1 with
    | next=>exact h1.trans (ih _ _ h)
    | brk=>cases h;exact h1
    | ret v=>cases h;exact h1
 exact go 50 fr st h
theorem ajS{T:Tb}{c:Cd}:rf (dB T c):=Kw (z0 (by decide) (by decide) (by decide)) (Kw (SY (z0 (by decide) (by decide) (by decide))) (Kw (z0 (by decide) (by decide) (by decide)) ajR))
theorem Eo{vs:List V}{t:Tg}{ts:List Tg}{fr aw:Fr}{P:Prop}(h:iH vs (t::ts) fr=some aw)(k:∀v vs bc,iY v t fr=some bc->iH vs ts bc=some aw->P):P:=by
 induction vs using iE with
 | nil=>exact au h
 | cons v vs=>exact ah (av h) λbc e h=>k v vs bc e h
theorem ajT{vs:List V}{fr aw:Fr}(h:iH vs [] fr=some aw):fr=aw:=by
 induction vs using iE with
 | nil=>exact aI h
 | cons v vs=>exact au h
theorem ajU{T:Tb}:rf (d0 T):=λK fr st f aw am h=>by
 refine be (bu (show bk ((bI [(du (cF 16) [(aX []),(nV false)]),(dn true []),(dn true [(aX [.c 40])]),(vH T [[.c 110,.c 97,.c 103]] [(aX [.c 33])])]) K fr st) (λv st1=>nY (match qb v st1 with|some vs=>iH vs [(.fin 1),(.loc 4),(.fin 0),(.loc 5)] fr|none=>none) st1)=some (f,aw,am) from h)) λv st1 e h=>?_
 induction q:qb v st1 with
 | none=>rw[q]at h;exact au h
 | some vs=>
  rw[q]at h;have h:nY (iH vs [(.fin 1),(.loc 4),(.fin 0),(.loc 5)] fr) st1=some (f,aw,am):=h;induction q2:iH vs [(.fin 1),(.loc 4),(.fin 0),(.loc 5)] fr with
  | none=>rw[q2]at h;exact au h
  | some fr5=>
   rw[q2]at h;cases h;exact Eo q2 λv1 vs bc e1 q2=>Eo q2 λv2 vs br e2 q2=>Eo q2 λv3 vs PP e3 q2=>Eo q2 λv4 vs fr4 e4 q2=>
    ajT q2▸(((SX e1).trans (Kv e2 (by decide) (by decide) (by decide))).trans (SX e3)).trans (Kv e4 (by decide) (by decide) (by decide))
theorem Kx{a b b':Cs}{K:bb}{fr:Fr}{st:St}(h:∀f aw am,a K fr st=some (f,aw,am)->b K aw am=b' K aw am):aE a b K fr st=aE a b' K fr st:=by
 show eV (a K fr st) (λf bc st1=>match f with|.next=>b K bc st1|f=>some (f,bc,st1))=eV (a K fr st) (λf bc st1=>match f with|.next=>b' K bc st1|f=>some (f,bc,st1))
 induction e:a K fr st with
 | none=>rfl
 | some r=>
  obtain⟨f,bc,st1⟩:=r
  have:=h f bc st1 e
  induction f with
  | next=>exact this
  | brk=>rfl
  | ret v=>rfl
noncomputable section
variable {θ:Th}{d:Dat}{K:bb}{k:Nat}
structure xg(d:Dat)(k:Nat)(K:bb):Prop where
 ty:∀y,y<5->∀st,K (.bh 15) [dg d y,iN k] st=some (.str [.s y k 9],st)
 es:∀y,y<5->∀st,K (.bh 18) [.str [.s y k 9],iN (k%5)] st=some (.str [.s y k (k%5)],st)
def Inv(d:Dat)(k:Nat)(fr:Fr):Prop:=fr.L[0]?=some (some (dO d))/\fr.L[3]?=some (some (iN k))
theorem Inv.kp{fr aw:Fr}(h:Inv d k fr)(x:Kp fr aw):Inv d k aw:=⟨x.1.trans h.1,x.2.1.trans h.2⟩
theorem ajV(H:xg d k K){fr:Fr}{st:St}(h:Inv d k fr){y:Nat}(hy:y<5)(h6:fr.L[6]?=some (some (iN y))):dC (T1 θ) K fr st=oB K fr st:=by
 have e1:Ev (aK .mod (ae 3) (aj 5)) K fr st (iN (k%5)):=d6 (b:=aj 5) (ba h.2) rfl (qL (x:=(k:Int)) (y:=5) (by decide) (by decide));have e2:Ev (du (cF 15) [(aJ (T1 θ) (ae 0) (ae 6)),(ae 3)]) K fr st (.str [.s y k 9]):=jx (u:=.bh 15) rfl (gS (cR (ba h.1) (ba h6) (gz hy (by decide))) (ba h.2)) (H.ty y hy st);have e3:Ev (dC (T1 θ)) K fr st (.str [.s y k (k%5)]):=jx (u:=.bh 18) rfl (gS e2 e1) (H.es y hy st);refine xH e3 ?_;have hk:jK (vj (aZ k) 5)=k%5:=by cases k<;>rfl
 unfold oB;rw[h6,h.2]
 show some (V.str [.s y k (k%5)],st)=some (V.str [.s y k (jK (vj (aZ k) 5))],st)
 exact ab (hk) rfl
theorem ajW{c c':Cd}{i:Nat}{fr:Fr}{st:St}(h:c K fr st=c' K fr st):aP (.loc i) c K fr st=aP (.loc i) c' K fr st:=by
 show bk (c K fr st) _=bk (c' K fr st) _
 exact ab (h) rfl
theorem SZ{a a' b:Cs}{fr:Fr}{st:St}(h:a K fr st=a' K fr st):aE a b K fr st=aE a' b K fr st:=by
 show eV (a K fr st) _=eV (a' K fr st) _
 exact ab (h) rfl
theorem ajX(H:xg d k K){fr:Fr}{st:St}(h:Inv d k fr){y:Nat}(hy:y<5)(h6:fr.L[6]?=some (some (iN y))):dB (T1 θ) (dC (T1 θ)) K fr st=dB (T1 θ) oB K fr st:=by
 refine Kx λf bc st1 e=>Kx λf2 br aF e2=>?_
 have k1:=z0 (by decide) (by decide) (by decide) _ _ _ _ _ _ e;have k2:=SY (z0 (by decide) (by decide) (by decide)) _ _ _ _ _ _ e2;have kk:=k1.trans k2;exact SZ (ajW (ajV H (h.kp kk) hy (kk.2.2.trans h6)))
theorem ajY(H:xg d k K):∀(ks:List Nat),(∀y∈ks,y<5)->∀(fr:Fr) (st:St),Inv d k fr->iI K (.loc 6) (dB (T1 θ) (dC (T1 θ))) (ks.map iN) fr st=iI K (.loc 6) (dB (T1 θ) oB) (ks.map iN) fr st:=by
 intro ks;induction ks with
 | nil=>exactλ_ fr st _=>rfl
 | cons y ks ih=>
  intro hy fr st h
  show af (iY (iN y) (.loc 6) fr) (λbc=>eV (dB (T1 θ) (dC (T1 θ)) K bc st) λf br aF=>match f with
   | .next=>iI K (.loc 6) (dB (T1 θ) (dC (T1 θ))) (ks.map iN) br aF
   | .brk=>some (.next,br,aF)
   | .ret v=>some (.ret v,br,aF))=af (iY (iN y) (.loc 6) fr) (λbc=>eV (dB (T1 θ) oB K bc st) λf br aF=>match f with
   | .next=>iI K (.loc 6) (dB (T1 θ) oB) (ks.map iN) br aF
   | .brk=>some (.next,br,aF)
   | .ret v=>some (.ret v,br,aF))
  induction q:iY (iN y) (.loc 6) fr with
  | none=>rfl
  | some bc=>
   refine ah (av (show af (ku fr.L 6 (iN y)) (λL=>some (⟨L,fr.C⟩:Fr))=some bc from q)) λL e q=>?_
   refine bf q ?_;have g:=SW e;have h1:Inv d k ⟨L,fr.C⟩:=⟨(g.2 0 (by decide)).trans h.1,(g.2 3 (by decide)).trans h.2⟩
   show eV (dB (T1 θ) (dC (T1 θ)) K ⟨L,fr.C⟩ st) _=eV (dB (T1 θ) oB K ⟨L,fr.C⟩ st) _
   refine ab (ajX H h1 (hy y bT) g.1) ?_;induction q2:dB (T1 θ) oB K ⟨L,fr.C⟩ st with
   | none=>rfl
   | some r=>
    obtain⟨f,br,aF⟩:=r;induction f with
    | next=>exact ih (λz hz=>hy z (bL _ hz)) br aF (h1.kp (ajS _ _ _ _ _ _ q2))
    | brk=>rfl
    | ret v=>rfl
theorem Ky(H:xg d k K){fr:Fr}{st:St}(h:Inv d k fr):zH (T1 θ) (dC (T1 θ)) K fr st=zH (T1 θ) oB K fr st:=by
 refine Kx λf bc st1 e=>SZ ?_
 have h1:=h.kp (ajU _ _ _ _ _ _ e);have hr:dT (aj 5) K bc st1=some (.vals ((aD 5).map iN),st1):=jB;refine ab (hr) ?_;exact ajY H (aD 5) (λy hy=>cY hy) bc st1 h1
theorem S0{ty es:List V->Option V}{n:Nat}(H:xg d k (KD θ ty es n))(L A:V)(st:St):KD θ ty es (n+1) (.bh 19) [dO d,L,A,iN k] st=DQ θ ty es n [dO d,L,A,iN k] st:=by
 have e:=Ky (θ:=θ) H (fr:=⟨[some (dO d),some L,some A,some (iN k),none,none,none,none,none],[none,none]⟩) (st:=dm) ⟨rfl,rfl⟩;rw[<-afc]at e
 show bv _ (eV ((uA (T1 θ)).body (KD θ ty es n) ⟨[some (dO d),some L,some A,some (iN k),none,none,none,none,none],[none,none]⟩ dm) _)=bv _ (eV (zH (T1 θ) oB (KD θ ty es n) ⟨[some (dO d),some L,some A,some (iN k),none,none,none,none,none],[none,none]⟩ dm) _)
 exact ab (e) rfl
end
end Internal.L1
namespace Internal.Hd
noncomputable section
open PySem PySem.W PyProof.Rows Internal.L2
noncomputable def env:bd:={scope:=fm.main.scope,locals:=mainNs,globals:=mainNs,cells:=[],code:=.ref 13,frame:=some 14}
def cd:nB:=.body (xw fm) env
noncomputable def Ep:Life:={registered:=[],finalised:=[],alive:=[],known:=0,ids:=[],orphanDicts:=[],counting:=false,cnt:=⟨[]⟩,zero:=[],soft:=0,below:=false,collecting:=false,loading:=false,debug:=0,thresholds:=[2000,10,10],woke:=false,asked:=0,gcEnabled:=true,old:=[],middle:=[],young:=0,intoMiddle:=false}
def XC(w:bD):Ctx:=⟨fm,w,11,some (.ref 6)⟩
def RS(os:pM):rA:=⟨Ep,⟨[]⟩,⟨0,0,0,0⟩,os⟩
noncomputable def S1:Nat->List de->List (List de)
 | 0,_=>[]
 | n+1,l=>l.take 17::S1 n (l.drop 17)
noncomputable def i0:List de:=vC.take 17
def iG:List (List de):=S1 37 (vC.drop 17)
noncomputable def iL:List de:=vC.drop 646
def uX:List aT:=bZ (cE 3 (i0++iG.flatten)  368++cE 2 iL (368+3*(i0.length+iG.flatten.length))) (i0.length+(iG.flatten.length+iL.length))::(tM iG (368+3*i0.length)++[bZ (cE 2 iL (368+3*(i0.length+iG.flatten.length))) iL.length])
noncomputable abbrev vs(s:String)(t:Nat):ac:=.str (nK s) t
noncomputable abbrev vi(i:Int)(t:Nat):ac:=.int i t
noncomputable abbrev vr(a:Nat):ac:=.ref a
noncomputable abbrev vn:ac:=.none
abbrev en(P:dX)(s:String)(t:Nat)(v:ac):dU:=⟨PyData.keyHash P (nK s),vs s t,v⟩
noncomputable abbrev tu(l:List ac):aT:=⟨.type "tuple",none,.seq ⟨l⟩ 0,⟨[]⟩⟩
noncomputable abbrev ty(s:String)(l:List ac):aT:=⟨.type s,none,.fields ⟨l⟩,⟨[]⟩⟩
noncomputable abbrev nf(l:List ac):aT:=⟨.none,none,.fields ⟨l⟩,⟨[]⟩⟩
noncomputable abbrev di(l:List dU)(n:Nat):aT:=⟨.type "dict",none,.dict ⟨l⟩ n,⟨[]⟩⟩
abbrev co(n:String)(t:Nat)(q:String)(l k:Int)(v u:Nat)(f:Bool)(a b:Nat)(c d e:ac)(x:Int):aT:=ty "code" [vs n t,vs q (t+1),vs "/claim/cut.py" (t+2),vi l 0,vi k 0,vi 0 0,vi 0 0,vi v 0,vr a,.bool f,vi 181 0,vr b,vn,c,d,e,vi x 0,vi l 0,vs "/claim/cut.py" u]
abbrev f0(n q:String)(s:bS):aT:=⟨.none,none,.func {name:=nK n,qualname:=nK q,params:=AX s,body:=.stmts (cq s),scope:=fM s,globals:=0,closure:=[],defaults:=.none,kwdefaults:=.none,doc:=.none,pyModule:=.none,annotations:=none,code:=.none,closureTuple:=.none,builtins:=0},⟨[]⟩⟩
abbrev f1(n q:String)(s:bS)(c:Nat)(m:String)(t:Nat):aT:=⟨.type "function",none,.func {name:=nK n,qualname:=nK q,params:=AX s,body:=.stmts (cq s),scope:=fM s,globals:=3,closure:=[],defaults:=.none,kwdefaults:=.none,doc:=.none,pyModule:=vs m t,annotations:=none,code:=vr c,closureTuple:=.none,builtins:=0},⟨[]⟩⟩
abbrev bt:=ay (xw fm)
abbrev PO:=dX->aT
def sS:PO:=λ_=>tu []
def ajZ:PO:=λ_=>nf []
def S2:PO:=λ_=>co "<module>" 182 "<module>" 1 0 0 186 false 11 12 vn vn vn 185
def S3:PO:=λ_=>⟨(pW "frame"),none,Data.plain,⟨[(some (vr 13)),(some (vr 3)),(some (vr 3)),none,(some (vs "__main__" 164)),none,(some (vr 0))]⟩⟩
def Er(P:dX):List aT:=([sY P,sZ P,oV P,boot_o_3 P,s7 P,u3 P,u4 P,u5 P,u6 P,u7 P,u0 P,sS P,ajZ P]++([S2 P,S3 P]))
def n0(P:dX):List dU:=[en P "__doc__" 166 vn,en P "__package__" 167 vn,en P "__loader__" 168 (ru "__main__.__loader__#opaque"),en P "__spec__" 169 vn,en P "__annotations__" 170 (vr 6),en P "__builtins__" 171 (vr 4),en P "__file__" 173 (vs "/claim/cut.py" 172),en P "__cached__" 174 vn,en P "_wall" 193 (vr 21)]
def aka(P:dX):aT:=di (en P "__name__" 165 (vs "cpy313.tabnanny" 194)::n0 P) 10
def akb:PO:=λ_=>nf [vi 1 0,vi 0 0,vr 20]
def akc:PO:=λ_=>tu []
def akd:PO:=λ_=>nf []
def ake:PO:=λ_=>tu [vs "k" 190]
def akf:PO:=λ_=>tu []
def akg:PO:=λ_=>f0 "_wall" "_wall" (ay aN 0)
def akh:PO:=λ_=>co "_wall" 187 "_wall" 1 1 3 192 true 15 16 (vr 17) (vr 18) (vr 19) 191
def aki:PO:=λ_=>f1 "_wall" "_wall" (ay aN 0) 20 "__main__" 164
def uY(P:dX):List aT:=[S2 P,S3 P,akc P,akd P,ake P,akf P,akg P,akh P,aki P]
def Et(P:dX):List aT:=([sY P,sZ P,oV P,aka P,s7 P,u3 P,u4 P,u5 P,u6 P,u7 P,u0 P,sS P,akb P]++(uY P))
def n2(P:dX):List dU:=n0 P++[en P "Whitespace" 298 (vr 83)]
def akj(P:dX):aT:=di (en P "__name__" 165 (vs "cpy313.tabnanny" 194)::n2 P) 11
def S4:PO:=λ_=>nf [vi 1 0,vi 0 0,vr 20,vi 5 0,vi 0 0,vr 27]
def akk:PO:=λ_=>tu []
def akl:PO:=λ_=>ty "builtin_function_or_method" [(ru "type.__prepare__"),(pW "type")]
def akm(P:dX):aT:=di [en P "__module__" 203 (vs "cpy313.tabnanny" 194),en P "__qualname__" 205 (vs "Whitespace" 204),en P "__firstlineno__" 207 (vi 5 206),en P "S" 211 (vs " " 209),en P "T" 212 (Vq (Fy #[9]) 210),en P "__init__" 227 (vr 38),en P "longest_run_of_spaces" 236 (vr 45),en P "indent_level" 248 (vr 52),en P "equal" 256 (vr 59),en P "not_equal_witness" 264 (vr 66),en P "less" 274 (vr 73),en P "not_less_witness" 285 (vr 80),en P "__static_attributes__" 291 (vr 81)] 13
def akn:PO:=λ_=>tu []
def ako:PO:=λ_=>nf [vi 8 0,vi 4 0,vr 37,vi 31 0,vi 4 0,vr 44,vi 35 0,vi 4 0,vr 51,vi 42 0,vi 4 0,vr 58,vi 45 0,vi 4 0,vr 65,vi 48 0,vi 4 0,vr 72,vi 59 0,vi 4 0,vr 79]
def akp:PO:=λ_=>co "Whitespace" 198 "Whitespace" 5 0 0 202 false 25 26 vn vn vn 201
def akq:PO:=λ_=>⟨(pW "frame"),none,Data.plain,⟨[(some (vr 27)),(some (vr 3)),(some (vr 24)),none,(some (vs "cpy313.tabnanny" 194)),none,(some (vr 0))]⟩⟩
def akr:PO:=λ_=>ty "str_ascii_iterator" [vn,vi 2 0]
def aks:PO:=λ_=>tu []
def akt:PO:=λ_=>ty "StopIteration" [vr 30,vn,vn,vn,(vt false),vn]
def aku:PO:=λ_=>tu []
def akv:PO:=λ_=>nf []
def akw:PO:=λ_=>tu [vs "self" 216,vs "ws" 217,vs "S" 218,vs "T" 219,vs "count" 220,vs "b" 221,vs "n" 222,vs "nt" 223,vs "ch" 224]
def akx:PO:=λ_=>tu []
def aky:PO:=λ_=>f0 "__init__" "Whitespace.__init__" (ay (eS (ay aN 2)) 1)
def S5:PO:=λ_=>co "__init__" 213 "Whitespace.__init__" 8 2 3 226 true 32 33 (vr 34) (vr 35) (vr 36) 225
def Kz:PO:=λ_=>f1 "__init__" "Whitespace.__init__" (ay (eS (ay aN 2)) 1) 37 "cpy313.tabnanny" 194
def akz:PO:=λ_=>tu []
def akA:PO:=λ_=>nf []
def akB:PO:=λ_=>tu [vs "self" 231,vs "count" 232,vs "trailing" 233]
def akC:PO:=λ_=>tu []
def akD:PO:=λ_=>f0 "longest_run_of_spaces" "Whitespace.longest_run_of_spaces" (ay (eS (ay aN 2)) 2)
def S6:PO:=λ_=>co "longest_run_of_spaces" 228 "Whitespace.longest_run_of_spaces" 31 1 3 235 true 39 40 (vr 41) (vr 42) (vr 43) 234
def KB:PO:=λ_=>f1 "longest_run_of_spaces" "Whitespace.longest_run_of_spaces" (ay (eS (ay aN 2)) 2) 44 "cpy313.tabnanny" 194
def akF:PO:=λ_=>tu []
def akG:PO:=λ_=>nf []
def akH:PO:=λ_=>tu [vs "self" 240,vs "tabsize" 241,vs "count" 242,vs "trailing" 243,vs "il" 244,vs "i" 245]
def akI:PO:=λ_=>tu []
def akJ:PO:=λ_=>f0 "indent_level" "Whitespace.indent_level" (ay (eS (ay aN 2)) 3)
def S7:PO:=λ_=>co "indent_level" 237 "Whitespace.indent_level" 35 2 3 247 true 46 47 (vr 48) (vr 49) (vr 50) 246
def KC:PO:=λ_=>f1 "indent_level" "Whitespace.indent_level" (ay (eS (ay aN 2)) 3) 51 "cpy313.tabnanny" 194
def akK:PO:=λ_=>tu []
def akL:PO:=λ_=>nf []
def akM:PO:=λ_=>tu [vs "self" 252,vs "other" 253]
def akN:PO:=λ_=>tu []
def akO:PO:=λ_=>f0 "equal" "Whitespace.equal" (ay (eS (ay aN 2)) 4)
def S8:PO:=λ_=>co "equal" 249 "Whitespace.equal" 42 2 3 255 true 53 54 (vr 55) (vr 56) (vr 57) 254
def KE:PO:=λ_=>f1 "equal" "Whitespace.equal" (ay (eS (ay aN 2)) 4) 58 "cpy313.tabnanny" 194
def akP:PO:=λ_=>tu []
def akQ:PO:=λ_=>nf []
def akR:PO:=λ_=>tu [vs "self" 260,vs "other" 261]
def akS:PO:=λ_=>tu []
def akT:PO:=λ_=>f0 "not_equal_witness" "Whitespace.not_equal_witness" (ay (eS (ay aN 2)) 5)
def akU:PO:=λ_=>co "not_equal_witness" 257 "Whitespace.not_equal_witness" 45 2 3 263 true 60 61 (vr 62) (vr 63) (vr 64) 262
def akW:PO:=λ_=>f1 "not_equal_witness" "Whitespace.not_equal_witness" (ay (eS (ay aN 2)) 5) 65 "cpy313.tabnanny" 194
def akX:PO:=λ_=>tu []
def akY:PO:=λ_=>nf []
def akZ:PO:=λ_=>tu [vs "self" 268,vs "other" 269,vs "n" 270,vs "ts" 271]
def ala:PO:=λ_=>tu []
def alb:PO:=λ_=>f0 "less" "Whitespace.less" (ay (eS (ay aN 2)) 6)
def S9:PO:=λ_=>co "less" 265 "Whitespace.less" 48 2 3 273 true 67 68 (vr 69) (vr 70) (vr 71) 272
def KG:PO:=λ_=>f1 "less" "Whitespace.less" (ay (eS (ay aN 2)) 6) 72 "cpy313.tabnanny" 194
def alc:PO:=λ_=>tu []
def ald:PO:=λ_=>nf []
def ale:PO:=λ_=>tu [vs "self" 278,vs "other" 279,vs "n" 280,vs "a" 281,vs "ts" 282]
def alf:PO:=λ_=>tu []
def alg:PO:=λ_=>f0 "not_less_witness" "Whitespace.not_less_witness" (ay (eS (ay aN 2)) 7)
def Ta:PO:=λ_=>co "not_less_witness" 275 "Whitespace.not_less_witness" 59 2 3 284 true 74 75 (vr 76) (vr 77) (vr 78) 283
def KH:PO:=λ_=>f1 "not_less_witness" "Whitespace.not_less_witness" (ay (eS (ay aN 2)) 7) 79 "cpy313.tabnanny" 194
def alh:PO:=λ_=>tu [vs "is_simple" 286,vs "n" 287,vs "norm" 288,vs "nt" 289,vs "raw" 290]
def z7(P:dX):aT:=di [en P "__module__" 203 (vs "cpy313.tabnanny" 194),en P "__firstlineno__" 207 (vi 5 206),en P "S" 211 (vs " " 209),en P "T" 212 (Vq (Fy #[9]) 210),en P "__init__" 227 (vr 38),en P "longest_run_of_spaces" 236 (vr 45),en P "indent_level" 248 (vr 52),en P "equal" 256 (vr 59),en P "not_equal_witness" 264 (vr 66),en P "less" 274 (vr 73),en P "not_less_witness" 285 (vr 80),en P "__static_attributes__" 291 (vr 81),en P "__dict__" 293 (vr 84),en P "__weakref__" 295 (vr 85),en P "__doc__" 296 vn] 4
def z8:PO:=λ_=>⟨(pW "type"),none,(Data.cls {name:=(nK "Whitespace"),bases:=[(pW "object")],mro:=[vr 83,(pW "object")],ns:=82,qualname:=(nK "Whitespace"),hasDict:=true,slotNames:=[],subclasses:=[],abstract:=false,collection:=none,hasDel:=false}),⟨[none,none,(some (vs "Whitespace" 196)),(some (vs "Whitespace" 204)),(some (ru "object.__new__")),(some (vt true))]⟩⟩
def ali:PO:=λ_=>ty "getset_descriptor" [vs "__dict__" 292,vr 83,(ru "function.__dict__"),(ru "function.__dict__#set")]
def alj:PO:=λ_=>ty "getset_descriptor" [vs "__weakref__" 294,vr 83,(ru "ExceptionGroup.__weakref__"),vn]
def alk:PO:=λ_=>ty "super" [vr 83,vr 83,vr 83]
def alm:PO:=λ_=>ty "builtin_function_or_method" [(ru "object.__init_subclass__"),vr 83]
def xh(P:dX):List aT:=[akk P,akl P,akm P,akn P,ako P,akp P,akq P,akr P,aks P,akt P,aku P,akv P,akw P,akx P,aky P,S5 P,Kz P,akz P,akA P,akB P,akC P,akD P,S6 P,KB P,akF P,akG P,akH P,akI P,akJ P,S7 P,KC P,akK P,akL P,akM P,akN P,akO P,S8 P,KE P,akP P,akQ P,akR P,akS P,akT P,akU P,akW P,akX P,akY P,akZ P,ala P,alb P,S9 P,KG P,alc P,ald P,ale P,alf P,alg P,Ta P,KH P,alh P,z7 P,z8 P,ali P,alj P,alk P,alm P]
def Eu(P:dX):List aT:=([sY P,sZ P,oV P,akj P,s7 P,u3 P,u4 P,u5 P,u6 P,u7 P,u0 P,sS P,S4 P]++(uY P++(xh P)))
def n4(P:dX):List dU:=n2 P++[en P "b1_set" 360 (vr 95)]
def aln(P:dX):aT:=di (en P "__name__" 165 (vs "cpy313.stringprep" 299)::n4 P) 12
def alo:PO:=λ_=>⟨(pW "list"),none,(Data.seq ⟨[vi 173 301,vi 847 302,vi 6150 303,vi 6155 304,vi 6156 305,vi 6157 306,vi 8203 307,vi 8204 308,vi 8205 309,vi 8288 310,vi 65279 311]⟩ 0),⟨[]⟩⟩
def alp:PO:=λ_=>ty "range" [vi 65024 312,vi 65040 313,vi 1 314]
def alq:PO:=λ_=>⟨(pW "list"),none,(Data.seq ⟨[vi 65024 317,vi 65025 318,vi 65026 319,vi 65027 320,vi 65028 321,vi 65029 322,vi 65030 323,vi 65031 324,vi 65032 325,vi 65033 326,vi 65034 327,vi 65035 328,vi 65036 329,vi 65037 330,vi 65038 331,vi 65039 332]⟩ 18),⟨[]⟩⟩
def alr:PO:=λ_=>ty "range_iterator" [vi 65040 0,vi 0 0,vi 1 0]
def als:PO:=λ_=>tu []
def alu:PO:=λ_=>ty "StopIteration" [vr 92,vn,vn,vn,(vt false),vn]
def alv:PO:=λ_=>⟨(pW "list"),none,(Data.seq ⟨[vi 173 301,vi 847 302,vi 6150 303,vi 6155 304,vi 6156 305,vi 6157 306,vi 8203 307,vi 8204 308,vi 8205 309,vi 8288 310,vi 65279 311,vi 65024 317,vi 65025 318,vi 65026 319,vi 65027 320,vi 65028 321,vi 65029 322,vi 65030 323,vi 65031 324,vi 65032 325,vi 65033 326,vi 65034 327,vi 65035 328,vi 65036 329,vi 65037 330,vi 65038 331,vi 65039 332]⟩ 0),⟨[]⟩⟩
def KI(P:dX):aT:=⟨(pW "set"),none,(Data.set ⟨[(65024,vi 65024 317),(65025,vi 65025 318),(65026,vi 65026 319),(65027,vi 65027 320),(65028,vi 65028 321),(65029,vi 65029 322),(6150,vi 6150 303),(65030,vi 65030 323),(65031,vi 65031 324),(65032,vi 65032 325),(65033,vi 65033 326),(6155,vi 6155 304),(6156,vi 6156 305),(6157,vi 6157 306),(8203,vi 8203 307),(8204,vi 8204 308),(8205,vi 8205 309),(65034,vi 65034 327),(65035,vi 65035 328),(65036,vi 65036 329),(65037,vi 65037 330),(65038,vi 65038 331),(65039,vi 65039 332),(173,vi 173 301),(847,vi 847 302),(8288,vi 8288 310),(65279,vi 65279 311)]⟩ 29 ⟨127,⟨[0,1,2,3,4,5,6,7,8,9,10,11,12,13,14,15,16,17,18,19,20,21,22,45,79,96,127]⟩,⟨[]⟩,0,!P.followText "set-order",2,true⟩),⟨[]⟩⟩
def alw:PO:=λ_=>ty "list_iterator" [vn,vi 27 0]
def alx:PO:=λ_=>tu []
def aly:PO:=λ_=>ty "StopIteration" [vr 97,vn,vn,vn,(vt false),vn]
def z9(P:dX):List aT:=[alo P,alp P,alq P,alr P,als P,alu P,alv P,KI P,alw P,alx P,aly P]
def Ew(P:dX):List aT:=([sY P,sZ P,oV P,aln P,s7 P,u3 P,u4 P,u5 P,u6 P,u7 P,u0 P,sS P,S4 P]++(uY P++(xh P++(z9 P))))
def n5(P:dX):List dU:=n4 P++[en P "in_table_b1" 367 (vr 105)]
def alz(P:dX):aT:=di (en P "__name__" 165 (vs "cpy313.stringprep" 299)::n5 P) 13
def Tc:PO:=λ_=>nf [vi 1 0,vi 0 0,vr 20,vi 5 0,vi 0 0,vr 27,vi 68 0,vi 0 0,vr 104]
def alA:PO:=λ_=>tu []
def alB:PO:=λ_=>nf []
def alC:PO:=λ_=>tu [vs "code" 364]
def alD:PO:=λ_=>tu []
def alE:PO:=λ_=>f0 "in_table_b1" "in_table_b1" (ay aN 5)
def Td:PO:=λ_=>co "in_table_b1" 361 "in_table_b1" 68 1 3 366 true 99 100 (vr 101) (vr 102) (vr 103) 365
def Te:PO:=λ_=>f1 "in_table_b1" "in_table_b1" (ay aN 5) 104 "cpy313.stringprep" 299
def Ex(P:dX):List aT:=[alA P,alB P,alC P,alD P,alE P,Td P,Te P]
def rg(P:dX):List aT:=([sY P,sZ P,oV P,alz P,s7 P,u3 P,u4 P,u5 P,u6 P,u7 P,u0 P,sS P,Tc P]++(uY P++(xh P++(z9 P++(Ex P)))))
def n6(P:dX):List dU:=n5 P++[en P "b3_exceptions" 2318 (vr 106)]
def alF(P:dX):aT:=di (en P "__name__" 165 (vs "cpy313.stringprep" 299)::n6 P) 14
def Ey(P:dX):List aT:=([sY P,sZ P,oV P,alF P,s7 P,u3 P,u4 P,u5 P,u6 P,u7 P,u0 P,sS P,Tc P]++(uY P++(xh P++(z9 P++(Ex P)))))++(uX++[])
def Tf(P:dX):List dU:=n6 P++[en P "map_table_b3" 2326 (vr 151),en P "SubElement" 2339 (vr 160),en P "_serialize_text" 2348 (vr 167),en P "_raise_serialization_error" 2355 (vr 174),en P "_escape_cdata" 2362 (vr 181),en P "_escape_attrib" 2369 (vr 188),en P "_escape_attrib_html" 2376 (vr 195),en P "_escape_cdata_c14n" 2383 (vr 202),en P "_escape_attrib_c14n" 2390 (vr 209)]
def alG(P:dX):aT:=di (en P "__name__" 165 (vs "cpy313.xml.etree.ElementTree" 2327)::Tf P) 23
def alH:PO:=λ_=>nf [vi 1 0,vi 0 0,vr 20,vi 5 0,vi 0 0,vr 27,vi 68 0,vi 0 0,vr 104,vi 71 0,vi 0 0,vr 150,vi 77 0,vi 0 0,vr 159,vi 82 0,vi 0 0,vr 166,vi 87 0,vi 0 0,vr 173,vi 89 0,vi 0 0,vr 180,vi 100 0,vi 0 0,vr 187,vi 119 0,vi 0 0,vr 194,vi 130 0,vi 0 0,vr 201,vi 143 0,vi 0 0,vr 208]
def alI:PO:=λ_=>tu []
def alJ:PO:=λ_=>nf []
def alK:PO:=λ_=>tu [vs "code" 2322,vs "r" 2323]
def alL:PO:=λ_=>tu []
def alM:PO:=λ_=>f0 "map_table_b3" "map_table_b3" (ay aN 7)
def Ti:PO:=λ_=>co "map_table_b3" 2319 "map_table_b3" 71 1 3 2325 true 145 146 (vr 147) (vr 148) (vr 149) 2324
def Tj:PO:=λ_=>f1 "map_table_b3" "map_table_b3" (ay aN 7) 150 "cpy313.stringprep" 299
def alN:PO:=λ_=>di [] 0
def Tk:PO:=λ_=>tu [vr 152]
def alO:PO:=λ_=>tu []
def alP:PO:=λ_=>nf []
def alQ:PO:=λ_=>tu [vs "parent" 2332,vs "tag" 2333,vs "attrib" 2334,vs "extra" 2335,vs "element" 2336]
def alR:PO:=λ_=>tu []
def alS:PO:=λ_=>f0 "SubElement" "SubElement" (ay aN 9)
def Tl:PO:=λ_=>co "SubElement" 2329 "SubElement" 77 3 11 2338 true 154 155 (vr 156) (vr 157) (vr 158) 2337
def Tm:PO:=λ_=>⟨(pW "function"),none,(Data.func {name:=(nK "SubElement"),qualname:=(nK "SubElement"),params:=AX (ay aN 9),body:=.stmts (cq (ay aN 9)),scope:=fM (ay aN 9),globals:=3,closure:=[],defaults:=vr 153,kwdefaults:=vn,doc:=vn,pyModule:=vs "cpy313.xml.etree.ElementTree" 2327,annotations:=none,code:=vr 159,closureTuple:=vn,builtins:=0}),⟨[]⟩⟩
def alT:PO:=λ_=>tu []
def alU:PO:=λ_=>nf []
def alV:PO:=λ_=>tu [vs "write" 2343,vs "elem" 2344,vs "part" 2345]
def alW:PO:=λ_=>tu []
def alX:PO:=λ_=>f0 "_serialize_text" "_serialize_text" (ay aN 10)
def Tn:PO:=λ_=>co "_serialize_text" 2340 "_serialize_text" 82 2 3 2347 true 161 162 (vr 163) (vr 164) (vr 165) 2346
def To:PO:=λ_=>f1 "_serialize_text" "_serialize_text" (ay aN 10) 166 "cpy313.xml.etree.ElementTree" 2327
def alY:PO:=λ_=>tu []
def alZ:PO:=λ_=>nf []
def ama:PO:=λ_=>tu [vs "text" 2352]
def amb:PO:=λ_=>tu []
def amc:PO:=λ_=>f0 "_raise_serialization_error" "_raise_serialization_error" (ay aN 11)
def amd:PO:=λ_=>co "_raise_serialization_error" 2349 "_raise_serialization_error" 87 1 3 2354 true 168 169 (vr 170) (vr 171) (vr 172) 2353
def ame:PO:=λ_=>f1 "_raise_serialization_error" "_raise_serialization_error" (ay aN 11) 173 "cpy313.xml.etree.ElementTree" 2327
def amf:PO:=λ_=>tu []
def amg:PO:=λ_=>nf []
def amh:PO:=λ_=>tu [vs "text" 2359]
def ami:PO:=λ_=>tu []
def amj:PO:=λ_=>f0 "_escape_cdata" "_escape_cdata" (ay aN 12)
def Tp:PO:=λ_=>co "_escape_cdata" 2356 "_escape_cdata" 89 1 3 2361 true 175 176 (vr 177) (vr 178) (vr 179) 2360
def Tq:PO:=λ_=>f1 "_escape_cdata" "_escape_cdata" (ay aN 12) 180 "cpy313.xml.etree.ElementTree" 2327
def amk:PO:=λ_=>tu []
def aml:PO:=λ_=>nf []
def amm:PO:=λ_=>tu [vs "text" 2366]
def amn:PO:=λ_=>tu []
def amo:PO:=λ_=>f0 "_escape_attrib" "_escape_attrib" (ay aN 13)
def Tr:PO:=λ_=>co "_escape_attrib" 2363 "_escape_attrib" 100 1 3 2368 true 182 183 (vr 184) (vr 185) (vr 186) 2367
def Ts:PO:=λ_=>f1 "_escape_attrib" "_escape_attrib" (ay aN 13) 187 "cpy313.xml.etree.ElementTree" 2327
def amq:PO:=λ_=>tu []
def amr:PO:=λ_=>nf []
def ams:PO:=λ_=>tu [vs "text" 2373]
def amt:PO:=λ_=>tu []
def amu:PO:=λ_=>f0 "_escape_attrib_html" "_escape_attrib_html" (ay aN 14)
def Tt:PO:=λ_=>co "_escape_attrib_html" 2370 "_escape_attrib_html" 119 1 3 2375 true 189 190 (vr 191) (vr 192) (vr 193) 2374
def Tu:PO:=λ_=>f1 "_escape_attrib_html" "_escape_attrib_html" (ay aN 14) 194 "cpy313.xml.etree.ElementTree" 2327
def amv:PO:=λ_=>tu []
def amw:PO:=λ_=>nf []
def amx:PO:=λ_=>tu [vs "text" 2380]
def amy:PO:=λ_=>tu []
def amz:PO:=λ_=>f0 "_escape_cdata_c14n" "_escape_cdata_c14n" (ay aN 15)
def Tw:PO:=λ_=>co "_escape_cdata_c14n" 2377 "_escape_cdata_c14n" 130 1 3 2382 true 196 197 (vr 198) (vr 199) (vr 200) 2381
def Tz:PO:=λ_=>f1 "_escape_cdata_c14n" "_escape_cdata_c14n" (ay aN 15) 201 "cpy313.xml.etree.ElementTree" 2327
def amA:PO:=λ_=>tu []
def amB:PO:=λ_=>nf []
def amC:PO:=λ_=>tu [vs "text" 2387]
def amD:PO:=λ_=>tu []
def amE:PO:=λ_=>f0 "_escape_attrib_c14n" "_escape_attrib_c14n" (ay aN 16)
def TA:PO:=λ_=>co "_escape_attrib_c14n" 2384 "_escape_attrib_c14n" 143 1 3 2389 true 203 204 (vr 205) (vr 206) (vr 207) 2388
def TB:PO:=λ_=>f1 "_escape_attrib_c14n" "_escape_attrib_c14n" (ay aN 16) 208 "cpy313.xml.etree.ElementTree" 2327
def TC(P:dX):List aT:=[alI P,alJ P,alK P,alL P,alM P,Ti P,Tj P,alN P,Tk P,alO P,alP P,alQ P,alR P,alS P,Tl P,Tm P,alT P,alU P,alV P,alW P,alX P,Tn P,To P,alY P,alZ P,ama P,amb P,amc P,amd P,ame P,amf P,amg P,amh P,ami P,amj P,Tp P,Tq P,amk P,aml P,amm P,amn P,amo P,Tr P,Ts P,amq P,amr P,ams P,amt P,amu P,Tt P,Tu P,amv P,amw P,amx P,amy P,amz P,Tw P,Tz P,amA P,amB P,amC P,amD P,amE P,TA P,TB P]
def TD(P:dX):List aT:=([sY P,sZ P,oV P,alG P,s7 P,u3 P,u4 P,u5 P,u6 P,u7 P,u0 P,sS P,alH P]++(uY P++(xh P++(z9 P++(Ex P)))))++(uX++TC P)
def n28(P:dX):List dU:=Tf P++[en P "_law_rows" 2398 (vr 214),en P "_law_typed" 2410 (vr 221),en P "_law_element" 2419 (vr 228),en P "_law_nest" 2425 (vr 233),en P "_law_escape" 2433 (vr 240),en P "_law_document" 2450 (vr 247),en P "_law_elements" 2456 (vr 252),en P "_law_told" 2462 (vr 257),en P "_law_column" 2472 (vr 264),en P "_law_due" 2478 (vr 269),en P "law" 2487 (vr 276)]
def TE(P:dX):aT:=di (en P "__name__" 165 (vs "law_tc0089_01" 2391)::n28 P) 34
def amF:PO:=λ_=>nf [vi 1 0,vi 0 0,vr 20,vi 5 0,vi 0 0,vr 27,vi 68 0,vi 0 0,vr 104,vi 71 0,vi 0 0,vr 150,vi 77 0,vi 0 0,vr 159,vi 82 0,vi 0 0,vr 166,vi 87 0,vi 0 0,vr 173,vi 89 0,vi 0 0,vr 180,vi 100 0,vi 0 0,vr 187,vi 119 0,vi 0 0,vr 194,vi 130 0,vi 0 0,vr 201,vi 143 0,vi 0 0,vr 208,vi 161 0,vi 0 0,vr 213,vi 170 0,vi 0 0,vr 220,vi 177 0,vi 0 0,vr 227,vi 183 0,vi 0 0,vr 232,vi 185 0,vi 0 0,vr 239,vi 187 0,vi 0 0,vr 246,vi 199 0,vi 0 0,vr 251,vi 213 0,vi 0 0,vr 256,vi 236 0,vi 0 0,vr 263,vi 241 0,vi 0 0,vr 268,vi 257 0,vi 0 0,vr 275]
def amG:PO:=λ_=>tu []
def amH:PO:=λ_=>nf []
def amI:PO:=λ_=>f0 "_law_rows" "_law_rows" (ay aN 18)
def TF:PO:=λ_=>co "_law_rows" 2393 "_law_rows" 161 1 3 2397 true 210 211 vn vn (vr 212) 2396
def TG:PO:=λ_=>f1 "_law_rows" "_law_rows" (ay aN 18) 213 "law_tc0089_01" 2391
def amJ:PO:=λ_=>tu []
def amK:PO:=λ_=>nf []
def amL:PO:=λ_=>tu [vs "row" 2402,vs "kind" 2403,vs "dress" 2404,vs "place" 2405,vs "begin" 2406,vs "pieces" 2407]
def amM:PO:=λ_=>tu []
def amN:PO:=λ_=>f0 "_law_typed" "_law_typed" (ay aN 19)
def TH:PO:=λ_=>co "_law_typed" 2399 "_law_typed" 170 2 3 2409 true 215 216 (vr 217) (vr 218) (vr 219) 2408
def TI:PO:=λ_=>f1 "_law_typed" "_law_typed" (ay aN 19) 220 "law_tc0089_01" 2391
def amO:PO:=λ_=>tu []
def amP:PO:=λ_=>nf []
def amQ:PO:=λ_=>tu [vs "tag" 2414,vs "attrib" 2415]
def amR:PO:=λ_=>tu [vs "one" 2416]
def amS:PO:=λ_=>f0 "_law_element" "_law_element" (ay aN 20)
def Ez:PO:=λ_=>co "_law_element" 2411 "_law_element" 177 2 3 2418 true 222 223 (vr 224) (vr 225) (vr 226) 2417
def TJ:PO:=λ_=>f1 "_law_element" "_law_element" (ay aN 20) 227 "law_tc0089_01" 2391
def amT:PO:=λ_=>tu []
def amU:PO:=λ_=>nf []
def amV:PO:=λ_=>f0 "_law_nest" "_law_nest" (ay aN 21)
def TK:PO:=λ_=>co "_law_nest" 2420 "_law_nest" 183 1 3 2424 true 229 230 vn vn (vr 231) 2423
def TL:PO:=λ_=>f1 "_law_nest" "_law_nest" (ay aN 21) 232 "law_tc0089_01" 2391
def amW:PO:=λ_=>tu []
def amX:PO:=λ_=>nf []
def amY:PO:=λ_=>tu [vs "typed" 2429,vs "hand" 2430]
def amZ:PO:=λ_=>tu []
def ana:PO:=λ_=>f0 "_law_escape" "_law_escape" (ay aN 22)
def TM:PO:=λ_=>co "_law_escape" 2426 "_law_escape" 185 2 3 2432 true 234 235 (vr 236) (vr 237) (vr 238) 2431
def TN:PO:=λ_=>f1 "_law_escape" "_law_escape" (ay aN 22) 239 "law_tc0089_01" 2391
def anb:PO:=λ_=>tu []
def anc:PO:=λ_=>nf []
def ane:PO:=λ_=>tu [vs "rows" 2437,vs "left" 2438,vs "alike" 2439,vs "kind" 2440,vs "path" 2441,vs "told" 2442,vs "y" 2443,vs "last" 2444,vs "name" 2445]
def anf:PO:=λ_=>tu [vs "parts" 2446,vs "root" 2447]
def ang:PO:=λ_=>f0 "_law_document" "_law_document" (ay aN 23)
def EA:PO:=λ_=>co "_law_document" 2434 "_law_document" 187 4 3 2449 true 241 242 (vr 243) (vr 244) (vr 245) 2448
def TO:PO:=λ_=>f1 "_law_document" "_law_document" (ay aN 23) 246 "law_tc0089_01" 2391
def anh:PO:=λ_=>tu []
def ani:PO:=λ_=>nf []
def anj:PO:=λ_=>f0 "_law_elements" "_law_elements" (ay aN 24)
def TP:PO:=λ_=>co "_law_elements" 2451 "_law_elements" 199 1 3 2455 true 248 249 vn vn (vr 250) 2454
def TQ:PO:=λ_=>f1 "_law_elements" "_law_elements" (ay aN 24) 251 "law_tc0089_01" 2391
def ank:PO:=λ_=>tu []
def anl:PO:=λ_=>nf []
def anm:PO:=λ_=>f0 "_law_told" "_law_told" (ay aN 25)
def TR:PO:=λ_=>co "_law_told" 2457 "_law_told" 213 2 3 2461 true 253 254 vn vn (vr 255) 2460
def TS:PO:=λ_=>f1 "_law_told" "_law_told" (ay aN 25) 256 "law_tc0089_01" 2391
def ano:PO:=λ_=>tu []
def anp:PO:=λ_=>nf []
def anq:PO:=λ_=>tu [vs "lead" 2466,vs "size" 2467,vs "column" 2468,vs "sign" 2469]
def anr:PO:=λ_=>tu []
def ans:PO:=λ_=>f0 "_law_column" "_law_column" (ay aN 26)
def TU:PO:=λ_=>co "_law_column" 2463 "_law_column" 236 2 3 2471 true 258 259 (vr 260) (vr 261) (vr 262) 2470
def TV:PO:=λ_=>f1 "_law_column" "_law_column" (ay aN 26) 263 "law_tc0089_01" 2391
def ant:PO:=λ_=>tu []
def anu:PO:=λ_=>nf []
def anv:PO:=λ_=>f0 "_law_due" "_law_due" (ay aN 27)
def TW:PO:=λ_=>co "_law_due" 2473 "_law_due" 241 2 3 2477 true 265 266 vn vn (vr 267) 2476
def TX:PO:=λ_=>f1 "_law_due" "_law_due" (ay aN 27) 268 "law_tc0089_01" 2391
def anw:PO:=λ_=>tu []
def anx:PO:=λ_=>nf []
def anz:PO:=λ_=>tu [vs "script" 2482,vs "rows" 2483,vs "page" 2484]
def anA:PO:=λ_=>tu []
def anB:PO:=λ_=>f0 "law" "law" (ay aN 28)
def TY:PO:=λ_=>co "law" 2479 "law" 257 1 3 2486 true 270 271 (vr 272) (vr 273) (vr 274) 2485
def TZ:PO:=λ_=>f1 "law" "law" (ay aN 28) 275 "law_tc0089_01" 2391
def anC(P:dX):List aT:=[amG P,amH P,amI P,TF P,TG P,amJ P,amK P,amL P,amM P,amN P,TH P,TI P,amO P,amP P,amQ P,amR P,amS P,Ez P,TJ P,amT P,amU P,amV P,TK P,TL P,amW P,amX P,amY P,amZ P,ana P,TM P,TN P,anb P,anc P,ane P,anf P,ang P,EA P,TO P,anh P,ani P,anj P,TP P,TQ P,ank P,anl P,anm P,TR P,TS P,ano P,anp P,anq P,anr P,ans P,TU P,TV P,ant P,anu P,anv P,TW P,TX P,anw P,anx P,anz P,anA P,anB P,TY P,TZ P]
def iR(P:dX):List aT:=([sY P,sZ P,oV P,TE P,s7 P,u3 P,u4 P,u5 P,u6 P,u7 P,u0 P,sS P,amF P]++(uY P++(xh P++(z9 P++(Ex P)))))++(uX++(TC P++(anC P)))
abbrev gV(l:dX->List aT)(k:Nat)(w:bD)(os:pM):ak:=bQ (RS os) (l w.params) k
def KJ:List bS:=[bt 0,bt 1]
def KL:List bS:=[bt 2]
def KM:List bS:=[bt 3,bt 4]
def KN:List bS:=[bt 5]
def KO:List bS:=[bt 6]
def KP:List bS:=[bt 7,bt 8,bt 9,bt 10,bt 11,bt 12,bt 13,bt 14,bt 15,bt 16]
def KQ:List bS:=[bt 17,bt 18,bt 19,bt 20,bt 21,bt 22,bt 23,bt 24,bt 25,bt 26,bt 27,bt 28]
theorem g1:∀w:bD,(λos=>ev (XC w) (c7 (XC w) 8) (execs KJ env) (gV Er 187 w os) gZ)=λos=>some (.next,gV Et 196 w os,⟨4,0,4,8⟩,38):=by intro w;kernel_rfl
theorem g5:∀w:bD,(λos=>ev (XC w) (c7 (XC w) 8) (execs KN env) (gV Ew 361 w os) ⟨67,0,67,6⟩)=λos=>some (.next,gV rg  368 w os,⟨68,0,69,30⟩,29):=by intro w;kernel_rfl
theorem g16:∀w:bD,(λos=>ev (XC w) (c7 (XC w) 8) (execs KP env) (gV Ey 2319 w os) ⟨70,0,70,13⟩)=λos=>some (.next,gV TD 2391 w os,⟨143,0,159,40⟩,280):=by intro w;kernel_rfl
theorem g28:∀w:bD,(λos=>ev (XC w) (c7 (XC w) 8) (execs KQ env) (gV TD 2391 w os) ⟨143,0,159,40⟩)=λos=>some (.next,gV iR 2488 w os,⟨257,0,259,56⟩,336):=by intro w;kernel_rfl
def ST(l:dX->List aT)(n k:Nat)(w:bD)(os:pM):K6:=⟨Gg 10 (l w.params),n,Ep,⟨[]⟩,⟨0,0,0,0⟩,k,os⟩
theorem g2:∀w:bD,(λos=>AU AV fm w 11 (some (.ref 6)) 1 496 (ST Et 22 196 w os) ⟨(Ge KL env).wrap Ah EV id id,cd,⟨4,0,4,8⟩,[lQ gZ]⟩)=λos=>some (.next,ST Eu 88 299 w os,cd,⟨5,0,65,16⟩):=
 Lb "special-get-raises" (λw=>by kernel_rfl) (λw=>by kernel_rfl)
theorem g4:∀w:bD,(λos=>AU AV fm w 11 (some (.ref 6)) 1 1008 (ST Eu 88 299 w os) ⟨(Ge KM env).wrap Ah EV id id,cd,⟨5,0,65,16⟩,[lQ gZ]⟩)=λos=>some (.next,ST Ew 99 361 w os,cd,⟨67,0,67,6⟩):=
 Lb "special-get-raises" (Lb "set-order" (λw=>by kernel_rfl) (λw=>by kernel_rfl)) (Lb "set-order" (λw=>by kernel_rfl) (λw=>by kernel_rfl))
theorem anD:∀w:bD,(λos=>(ST Et 22 196 w os).abs)=λos=>gV Et 196 w os:=by intro w;kernel_rfl
theorem T0:∀w:bD,(λos=>(ST Eu 88 299 w os).abs)=λos=>gV Eu 299 w os:=by intro w;kernel_rfl
theorem anE:∀w:bD,(λos=>(ST Ew 99 361 w os).abs)=λos=>gV Ew 361 w os:=by intro w;kernel_rfl
theorem anF:∀w:bD,(λos=>topGo lp fm w 11 (some (.ref 6)) 12 ⟨pN w.params,⟨[]⟩,K',La,os⟩ (topStub fm))=λos=>some (gV Er 187 w os,⟨denote lp cd,cd,gZ,[lQ gZ]⟩):=by intro w;kernel_rfl
theorem blk:∀w:bD,(λos=>Lo lp fm w 11 (some (.ref 6)) 1 1 (gV Er 187 w os) (blockOf (xw fm) env cd gZ [lQ gZ]))=λos=>some (.next,gV Er 187 w os,cd,gZ):=by intro w;kernel_rfl
theorem anG:∀w:bD,(λos=>topRun lp fm w 11 (some (.ref 6)) 2 (gV iR 2488 w os) ⟨Ah .next,cd,⟨257,0,259,56⟩,[lQ gZ]⟩)=λos=>some (gV iR 2488 w os):=by intro w;kernel_rfl
end
end Internal.Hd
namespace Internal.Hd
noncomputable section
open PySem PySem.W PyProof.Rows Internal.L2
theorem anH{X:Ctx}{cB:nP}{ts:List ar}{v:ar}{pos:aC}{env:bd}{s s1 s2:ak}{p p1 p2:aC}{cv:ac}{n m:Nat}(h1:xD ts v pos.line env=pure false)(h2:ev X cB (eval v env) s pos=some (cv,s1,p1,n))
  (h3:jD ts v env=pure none) (h4:ev X cB (Us env cv none ((nE ts env).map (·.2))) s1 p1=some (.next,s2,p2,m)):ev X cB (exec (.Assign ts v pos) env) s p=some (.next,s2,p2,1+(n+m)):=by
 show ev X cB (gv pos>>=λ_z=>xD ts v pos.line env>>=λb=>if b=true then _ else(eval v env>>=λv'=>jD ts v env>>=λsw=>Us env v' sw ((nE ts env).map (·.2)))) s p=_
 rw[h1,h3];simp only[pure_bind,rp,if_false];exact cI (a:=()) (s1:=s) (p1:=pos) (n:=1) rfl (cI h2 h4)
def EB:List ar:=match b3 with|.Assign ts _ _=>ts|_=>[]
def v6:ar:=match b3 with|.Assign _ v _=>v|_=>.Constant .none 0 gZ
def p6:aC:=match b3 with|.Assign _ _ p=>p|_=>gZ
theorem anI:b3=.Assign EB v6 p6:=by kernel_rfl
theorem sw6:xD EB v6 p6.line env=pure false:=by kernel_rfl
theorem ss6:jD EB v6 env=pure none:=by kernel_rfl
theorem anJ:(evalEachOpt (dk b3) env).zip ((evalEach (dv b3) env).map λv=>do let x <-v;gv (dp b3);pure x)=(i0++(iG.flatten++iL)).map λit=>qa (iF (dp b3) it):=by kernel_rfl
theorem anK:eval v6 env=gv (dp b3)>>=λ_z=>EW ((evalEachOpt (dk b3) env).zip ((evalEach (dv b3) env).map λv=>do let x <-v;gv (dp b3);pure x)):=by kernel_rfl
theorem anL:jl 0 (i0++(iG.flatten++iL))=true:=by kernel_rfl
theorem tI:i0.length=17:=by kernel_rfl
theorem jQ:iL.length=4:=by kernel_rfl
theorem KS:iG.flatten.length=629:=by kernel_rfl
theorem anM:iG.length=37:=by kernel_rfl
theorem anN:iG.all (λx=>aG x.length 17)=true:=by kernel_rfl
theorem anO:∀w:bD,(λos=>ev (XC w) (c7 (XC w) 3) (Us env (.ref 106) none ((nE EB env).map (·.2))) (bQ (RS os) (rg w.params++uX) 2318) (dp b3))=λos=>some (.next,gV Ey 2319 w os,⟨70,0,70,13⟩,7):=by intro w;kernel_rfl
end
end Internal.Hd
namespace Internal.Hd
noncomputable section
open PySem PySem.W PyProof.Rows Internal.L2
theorem g6(w:bD)(os:pM):ev (XC w) (c7 (XC w) 3) (execs KO env) (gV rg  368 w os) ⟨68,0,69,30⟩=some (.next,gV Ey 2319 w os,⟨70,0,70,13⟩,12524):=by
 have KU:(rg w.params).length=106:=rfl;have D:=WQ (X:=XC w) (r:=RS os) (L:=rg w.params) (k :=  368) (q:=dp b3) (g:=i0) (gs:=iG) (last:=iL) (by rw[KU];rfl) (by rw[KU];decide) (by rw[jQ];decide) (λe=>by have:=jQ;rw[e]at this;cases this) tI
  (λx hx=>dj (eh.mp anN x hx)) anL (by rw[tI,KS,jQ];decide)
 rw[<-anJ,KU]at D;have E:ev (XC w) (c7 (XC w) 3) (eval v6 env) (gV rg  368 w os) p6=some (.ref 106,bQ (RS os) (rg w.params++uX) 2318,dp b3,12516):=by
  rw[anK];refine fk (n:=1+(223+(330*iG.length+(19*iL.length+6)))) (cI (a:=()) (s1:=gV rg  368 w os) (p1:=dp b3) (n:=1) rfl ?_) rfl (by rw[anM,jQ]);rw[D,tI,KS,jQ];have e:(uX:List aT)=bZ (cE 3 (i0++iG.flatten)  368++cE 2 iL (368+3*(17+629))) (17+(629+4))::(tM iG (368+3*17)++[bZ (cE 2 iL (368+3*(17+629))) 4]):=by
   unfold uX;rw[tI,KS,jQ]
  rw[e]
 have A:ev (XC w) (c7 (XC w) 3) (exec b3 env) (gV rg  368 w os) ⟨68,0,69,30⟩=some (.next,gV Ey 2319 w os,⟨70,0,70,13⟩,12524):=by
  rw[anI];exact fk (anH sw6 E ss6 (congrFun (anO w) os)) rfl rfl
 exact fk (n:=12524+0) (cI A rfl) rfl rfl
theorem Ky:xw fm=KJ++(KL++(KM++(KN++(KO++(KP++(KQ++[])))))):=by kernel_rfl
theorem JH(w:bD)(os:pM):topRun lp fm w 11 (some (.ref 6)) (12+(1+(39+(496+(1008+(30+(12525+(281+(337+2))))))))) ⟨pN w.params,⟨[]⟩,K',La,os⟩ (topStub fm)=some (gV iR 2488 w os):=by
 refine go_top (congrFun (anF w) os) (piece_block (congrFun (blk w) os) ?_);rw[show restOf (xw fm) env cd gZ [lQ gZ]=restOf (KJ++(KL++(KM++(KN++(KO++(KP++(KQ++[]))))))) env cd gZ [lQ gZ] from congrArg (λl=>restOf l env cd gZ [lQ gZ]) Ky];refine xz (ye (congrFun (g1 w) os)) ?_;have s2:=MQ (MP (congrFun (g2 w) os));rw[congrFun (anD w) os,congrFun (T0 w) os]at s2;refine xz s2 ?_;have s4:=MQ (MP (congrFun (g4 w) os));rw[congrFun (T0 w) os,congrFun (anE w) os]at s4;refine xz s4 ?_;refine xz (ye (congrFun (g5 w) os)) ?_;refine xz (ye (g6 w os)) ?_;refine xz (ye (congrFun (g16 w) os)) ?_;refine xz (ye (congrFun (g28 w) os)) ?_;exact piece_nil (congrFun (anG w) os)
end
end Internal.Hd
namespace Internal.Hd
noncomputable section
open PySem PySem.W PyProof.Rows Internal.L2
def qv:iS:={fm with main:={fm.main with body:=[ay (xw fm) 28]}}
noncomputable def jf:List ai:=["_wall", "Whitespace", "b1_set", "in_table_b1", "b3_exceptions", "map_table_b3", "SubElement", "_serialize_text", "_raise_serialization_error", "_escape_cdata", "_escape_attrib", "_escape_attrib_html", "_escape_cdata_c14n", "_escape_attrib_c14n", "_law_rows", "_law_typed", "_law_element", "_law_nest", "_law_escape", "_law_document", "_law_elements", "_law_told", "_law_column", "_law_due"]
abbrev xi:OpenRow:=PySem.Challenge.rw_tc0089_01.row
def xj(s:ak):Bool:=xlAt qv [] s&&recOk (RowW.records xi.toRowW) s
abbrev EC(w:bD)(os:pM):ak:=gV iR 2488 w os
abbrev d4(w:bD):cD:=⟨⟨iR w.params⟩,Ep⟩
theorem anP:∀w:bD,(fencedOpening lp fm w 100000).map (λs=>(s.heap,s.gens,s.drawn,s.toks))=some (pN w.params,im [],K',La):=
 boot_open (by rfl) (by decide) (λs=>by rfl)
theorem anQ:∀w:bD,((pN w.params).isNs kh&&(im ([]:List K4)).size==0,(pN w.params).objs.size,(pN w.params).nsMap kh "__annotations__")=(true,11,some (.ref 6)):=by intro w;kernel_rfl
theorem l1:∀w:bD,staticsOk (Ak fm.main.body) (pN w.params) (d4 w)=true:=by intro w;kernel_rfl
theorem l2:∀w:bD,namesBound fm (d4 w)=true:=by intro w;kernel_rfl
theorem l3:∀w:bD,laidKept (pN w.params) (d4 w)=true:=by intro w;kernel_rfl
def pJ(w:bD)(os:pM):=openSeen qv jf (Ak fm.main.body) xj true (EC w os)
theorem q1:∀w:bD,(λos=>(pJ w os).1)=λ_z=>(rm qv jf).1:=by intro w;kernel_rfl
theorem q2:∀w:bD,(λos=>(pJ w os).2.1)=λ_z=>(rm qv jf).2.1:=by intro w;kernel_rfl
theorem q4:∀w:bD,(λos=>(pJ w os).2.2.2.1)=λ_z=>(rm qv jf).2.2.2.1:=by intro w;kernel_rfl
theorem q5:∀w:bD,(λos=>(pJ w os).2.2.2.2.1)=λ_z=>(rm qv jf).2.2.2.2.1:=by intro w;kernel_rfl
theorem q6:∀w:bD,(λos=>(pJ w os).2.2.2.2.2.1)=λ_z=>(rm qv jf).2.2.2.2.2.1:=by intro w;kernel_rfl
theorem q7:∀w:bD,(λos=>(pJ w os).2.2.2.2.2.2.1)=λ_z=>(rm qv jf).2.2.2.2.2.2.1:=by intro w;kernel_rfl
theorem q8:∀w:bD,(λos=>(pJ w os).2.2.2.2.2.2.2.1)=λ_z=>(rm qv jf).2.2.2.2.2.2.2.1:=by intro w;kernel_rfl
theorem q9:∀w:bD,(λos=>(pJ w os).2.2.2.2.2.2.2.2)=λ_z=>(rm qv jf).2.2.2.2.2.2.2.2:=by intro w;kernel_rfl
theorem k1:∀w:bD,(d4 w).keysOk (Lk qv jf) ((recsOf qv).map (·.name)) ((litsOf qv).map (·.1)) ((clssOf qv (Lk qv jf)).map (·.name))=true:=by intro w;kernel_rfl
theorem k2:∀w:bD,(d4 w).accountedOkI (Ak fm.main.body)=true:=by intro w;kernel_rfl
theorem k3:∀w:bD,(d4 w).isNs kh=true:=by intro w;kernel_rfl
theorem k4:∀w:bD,(d4 w).isNs lP=true:=by intro w;kernel_rfl
theorem k5:∀w:bD,tablesOk qv (d4 w)=true:=by intro w;kernel_rfl
theorem k6:∀w:bD,(λos=>xj (EC w os))=λ_z=>true:=by intro w;kernel_rfl
theorem anR(w:bD)(os:pM):openSeen qv jf (Ak fm.main.body) xj true (EC w os)=rm qv jf:=by
 have e3:(pJ w os).2.2.1=(rm qv jf).2.2.1:=by
  show((d4 w).keysOk (Lk qv jf) ((recsOf qv).map (·.name)) ((litsOf qv).map (·.1)) ((clssOf qv (Lk qv jf)).map (·.name))&&(d4 w).accountedOkI (Ak fm.main.body)&&(d4 w).isNs kh&&(d4 w).isNs lP&&tablesOk qv (d4 w)&&xj (EC w os)&&true)=true
  rw[k1,k2,k3,k4,k5,congrFun (k6 w) os]
  rfl
 show pJ w os=_
 exact mI (congrFun (q1 w) os) (mI (congrFun (q2 w) os) (mI e3 (mI (congrFun (q4 w) os) (mI (congrFun (q5 w) os) (mI (congrFun (q6 w) os) (mI (congrFun (q7 w) os) (mI (congrFun (q8 w) os) (congrFun (q9 w) os))))))))
noncomputable def ED(s:ak):Nat×List aT:=(s.toks,s.heap.objs.toList)
def EE(w:bD):Nat×List aT:=(2488,iR w.params)
theorem anS:LeftO fm qv jf xj ED EE 100000:=
 LeftO.of_pieces (H₀:=pN) (H₁:=λP=>⟨⟨iR P⟩,Ep⟩) (gs₀:=im []) (gs₁:=im []) (d₀:=K') (d₁:=⟨0,0,0,0⟩) (k₀:=La) (k₁:=2488) (m₀:=11) (ann:=some (.ref 6)) anP anQ JH (by decide) (λw=>funext λos=>by
  have e1:(staticsOk (Ak fm.main.body) (pN w.params) (d4 w)&&namesBound fm (d4 w)&&true&&laidKept (pN w.params) (d4 w))=true:=by rw[l1,l2,l3];rfl
  exact mI e1 (mI (anR w os) rfl))
end
end Internal.Hd
namespace Internal.L1
open Internal Internal.L2 Internal.Hd PySem PySem.W PyProof.Rows
noncomputable def gL:List Nat:=[21,83,95,105,106,151,160,167,174,181,188,195,202,209,214,221,228,233,240,247,252,257,264,269,276]
noncomputable def mL1:List Nat:=[38,45,52,59,73,80]
noncomputable def EF(o:Option Nat):ac:=match o with|some a=>.ref a|none=>.none
def G1(g:Nat):ac:=match aH g 100 with|true=>EF gL[g]?|false=>EF mL1[g-100]?
noncomputable def T2(s:bS):Option ar:=match s with
 | .Assign _ v _=>some v
 | .Expr e _=>(match e with|.Call _ args _ _=>args[0]?|_=>none)
 | _=>none
def EG(e:ar):Option t0:=match e with|.Lambda ps b s _=>some ⟨b,s,ps,eO s.names⟩|_=>none
noncomputable def anT:List (Nat×Nat):=[(20,0),(20,2),(23,2),(23,4)]
def z'(i:Nat):Option t0:=af anT[i]? λp=>af (T2 (ay (cq (ay aN p.1)) p.2)) EG
noncomputable section
noncomputable def lv(o:aT):Bool:=match o.data with
 | .freed=>false
 | .seq _ _=>(match o.cls with|.type n=>n == "tuple" | _=>false)
 | _=>true
abbrev HH(w:bD):={h:cD // ∀a o,(iR w.params)[a]?=some o->lv o=true->h.get? a=some o}
def C1(w:bD)(θ:Th)(sa:HH w):Cx where
 lam:=z'
 prog:=fm
 w:=w
 h₀:=sa.val
 G:=G1
 tabs:=[223,242]
 rW:=[(227,223),(246,242)]
 T:=T1 θ
 θ:=θ
 cls:=83
noncomputable def pK(w:bD):ai->Option ac:=(d4 w).nsMap kh
noncomputable def KV(w:bD):ai->Option ac:=(d4 w).nsMap lP
noncomputable def xk(w:bD):ai->Option ac:=(d4 w).nsMap 82
variable {w:bD}{θ:Th}{sa:HH w}
theorem bN{a:Nat}{o:aT}(h:(iR w.params)[a]?=some o)(hl:lv o=true):sa.val.get? a=some o:=sa.2 a o h hl
theorem KW{a:Nat}{o:aT}(e:(d4 w).get? a=some o):(iR w.params)[a]?=some o:=by
 have e:(match(im (iR w.params))[a]? with|some ⟨_,_,.freed,_⟩=>none|o=>o)=some o:=e;rw[show(im (iR w.params))[a]?=(iR w.params)[a]? by simp]at e;split at e
 ·exact au e
 ·exact e
theorem EH{a:Nat}{o:aT}{m:ai->Option ac}(n:(d4 w).Ns a m)(h:(iR w.params)[a]?=some o)(hl:lv o=true):sa.val.Ns a m:=by
 refine dN n λo' es ep e r=>?_;clear n
 have:=KW e
 rw[h]at this
 replace this:=aI this;subst this
 exact⟨o,es,ep,bN h hl,r⟩
theorem nT{a:Nat}(h:(aG a 223||aG a 242)=false):a∉(C1 w θ sa).tabs:=by
 intro m;rcases cW.mp m with q|q
 ·subst q;cases h
 ·have:=cO.mp q
  subst this;cases h
noncomputable def KX(P:Nat->ai->Prop):Nat->List ai->Prop
 | _,[]=>True
 | i,x::l=>P i x/\KX P (i+1) l
theorem anU{P:Nat->ai->Prop}{l:List ai}:∀{i:Nat},KX P i l->∀k x,l[k]?=some x->P (i+k) x:=by
 induction l with
 | nil=>exactλ_ _ _ e=>au e
 | cons y l ih=>
  intro i h k x e;induction k with
  | zero=>exact aI (show some y=some x from e)▸h.1
  | succ k=>exact Nat.succ_add_eq_add_succ i k▸ih h.2 k x e
theorem anV:KX (λg id=>pK w id=some (G1 g)) 0 CP:=by
 repeat' apply vg
 all_goals first|exact trivial|(kernel_rfl)
theorem T3:∀g id,N2.g g=some id->pK w id=some (G1 g):=λg id h=>rt g▸anU anV g id h
theorem anW(o:Option Nat):xy (EF o)=pure (EF o):=by cases o<;>rfl
theorem anX(g:Nat):xy (G1 g)=pure (G1 g):=by
 unfold G1;cases aH g 100<;>exact anW _
theorem T4:(sa.val.get? il).isSome=true:=by
 have:sa.val.get? il=some (sZ w.params):=bN rfl rfl
 refine ab (this) ?_;rfl
theorem T5(hl:∀i j k,(θ.s i j k).length<=1000):dz (C1 w θ sa) N2 (pK w) (KV w) where
 main:=EH (o:=TE w.params) (.of_isNs (k3 w)) rfl rfl
 blt:=EH (o:=sY w.params) (.of_isNs (k4 w)) rfl rfl
 Hi:=nT rfl
 NI:=nT rfl
 NJ:=nT rfl
 noLimit:=⟨_,EH (o:=oV w.params) (.of_isNs (h:=d4 w) (a:=Uw) (by kernel_rfl)) (by kernel_rfl) rfl,by kernel_rfl⟩
 bh:=T3
 j2:=hl
 hand:=anX
 lt:=λ_ _=>rfl
 NK:=T4
theorem anY:eY (C1 w θ sa):=by
 refine⟨λa b h x y e=>?_,T4⟩
 replace h:sz a b=true:=h
 induction a with
 | c m=>induction b with
  | c n=>
   have q:aG m n=true:=(mC.inj (show m::x=n::y from e)).1▸gw m;exact bV ((congrArg cX q).symm.trans h)
  | _=>exact bV h
 | _=>exact bV h
theorem anZ:ue (C1 w θ sa):=λc a h=>by cases(h:false=true)
theorem aoa{n:List Nat}{l:List (List Nat)}(h:zy n l=true):n∈l:=by
 induction l with
 | nil=>exact bV h
 | cons x l ih=>
  have h:(match bw n x with|true=>true|false=>zy n l)=true:=h;induction q:bw n x with
  | true=>exact ab (ja q) bT
  | false=>rw[q]at h;exact bL _ (ih h)
def T6(w:bD)(n:List Nat):Prop:=kM (.type "function") ⟨n.toArray⟩=pure none/\kM (.type "object") ⟨n.toArray⟩=pure none/\xk w ⟨n.toArray⟩=none/\QI n=none
noncomputable def EI{α:Type}(P:α->Prop):List α->Prop
 | []=>True
 | x::l=>P x/\EI P l
theorem T7{α:Type}{P:α->Prop}{x:α}{l:List α}(h:EI P l)(m:x∈l):P x:=by
 induction l with
 | nil=>exact nomatch m
 | cons y l ih=>exact(cW.mp m).elim (λq=>q▸h.1) (ih h.2)
theorem aob:EI (T6 w) Jx:=by
 repeat' apply vg
 all_goals first|exact trivial|(kernel_rfl)
theorem Aa{n:List Nat}(h:zy n Jx=true):T6 w n:=T7 aob (aoa h)
theorem aoc:uv (C1 w θ sa):=⟨λn h=>(Aa (w:=w) h).2.2.2⟩
theorem aod:ClsAt sa.val 83 82 (xk w):=⟨⟨_,_,_,_,_,_,_,_,_,_,_,_,bN (o:=z8 w.params) (by kernel_rfl) rfl⟩,EH (o:=z7 w.params) (.of_isNs (by kernel_rfl)) (by kernel_rfl) rfl⟩
def KF(w:bD):Frag:=[(2,oV w.params),(82,z7 w.params),(83,z8 w.params)]
theorem T8:(KF w).In sa.val:=λa o e=>by
 have e:(match a==2 with|true=>some (oV w.params)|false=>match a==82 with|true=>some (z7 w.params)|false=>match a==83 with|true=>some (z8 w.params)|false=>none)=some o:=e;split at e
 ·rename_i q;have:=beq_iff_eq.mp q;subst this;refine bf e ?_;exact bN rfl rfl
 ·split at e
  ·rename_i q;have:=beq_iff_eq.mp q;subst this;cases e;exact bN rfl rfl
  ·split at e
   ·rename_i q;have:=beq_iff_eq.mp q;subst this;cases e;exact bN rfl rfl
   ·exact au e
theorem T9:∀a o,(KF w).lookup a=some o->a∉(C1 w θ sa).tabs:=λa o e=>by
 have e:(match a==2 with|true=>some (oV w.params)|false=>match a==82 with|true=>some (z7 w.params)|false=>match a==83 with|true=>some (z8 w.params)|false=>none)=some o:=e;split at e
 ·rename_i q;have:=beq_iff_eq.mp q;subst this;exact nT rfl
 ·split at e
  ·rename_i q;have:=beq_iff_eq.mp q;subst this;exact nT rfl
  ·split at e
   ·rename_i q;have:=beq_iff_eq.mp q;subst this;exact nT rfl
   ·exact au e
def T'(w:bD)(θ:Th)(sa:HH w)(n:List Nat)(g:Nat):Prop:=∃f o fd y,xk w ⟨n.toArray⟩=some (.ref f)/\G1 g=.ref f/\sa.val.get? f=some o/\f∉(C1 w θ sa).tabs/\o.cls=.type "function"/\ o.data=.func fd/\kM (.type "object") ⟨n.toArray⟩=pure y
theorem aoe:EI (λp=>T' w θ sa p.1 p.2) QH:=
 ⟨⟨45,KB w.params,_,none,by kernel_rfl,rfl,bN rfl rfl,nT rfl,rfl,rfl,by kernel_rfl⟩,⟨52,KC w.params,_,none,by kernel_rfl,rfl,bN rfl rfl,nT rfl,rfl,rfl,by kernel_rfl⟩,⟨59,KE w.params,_,none,by kernel_rfl,rfl,bN rfl rfl,nT rfl,rfl,rfl,by kernel_rfl⟩,
  ⟨73,KG w.params,_,none,by kernel_rfl,rfl,bN rfl rfl,nT rfl,rfl,rfl,by kernel_rfl⟩,⟨80,KH w.params,_,none,by kernel_rfl,rfl,bN rfl rfl,nT rfl,rfl,rfl,by kernel_rfl⟩,trivial⟩
theorem aof{n:List Nat}{g:Nat}{l:List (List Nat×Nat)}(h:De n l=some g):(n,g)∈l:=by
 induction l with
 | nil=>exact au h
 | cons x l ih=>
  have h:(match bw n x.1 with|true=>some x.2|false=>De n l)=some g:=h;induction q:bw n x.1 with
  | true=>rw[q]at h;rw[ja q,<-aI h];exact bT
  | false=>rw[q]at h;exact bL _ (ih h)
theorem Ua:jR (C1 w θ sa) 82 (xk w) where
 at_:=aod
 t1:=nT rfl
 t2:=nT rfl
 ga:=by kernel_rfl
 gh:=by kernel_rfl
 yQ:=λn h=>(Aa (w:=w) h).1
 HL:=λn h=>(Aa (w:=w) h).2.1
 atC:=λn h=>(Aa (w:=w) h).2.2.1
 ZY:=λn h=>(Aa (w:=w) h).2.2.2
 sa:=by kernel_rfl
 B2:=rfl
 vD:=λn x h=>by
  have h:Jw n=some x:=h;unfold Jw at h;split at h
  ·rename_i q
   have q:=ja q;subst q;refine bf h ?_;exact FT (KF w) 209 (.type "type") T8 T9 (by kernel_rfl) (by kernel_rfl)
  ·split at h
   ·rename_i q
    have q:=ja q;subst q;refine bf h ?_;exact FT (KF w) 210 (.type "type") T8 T9 (by kernel_rfl) (by kernel_rfl)
   ·exact au h
 l9:=λn g h=>by
  have h:=h;exact T7 (P:=λp=>T' w θ sa p.1 p.2) aoe (aof h)
theorem aog:Qs (pK w) (KV w):=⟨λb n h e=>by subst e;cases b<;>exact⟨by kernel_rfl,by kernel_rfl⟩,⟨by kernel_rfl,by kernel_rfl⟩,⟨by kernel_rfl,by kernel_rfl⟩,⟨by kernel_rfl,by kernel_rfl⟩⟩
theorem Ub:wy (C1 w θ sa) (pK w) where
 hd:=λct m=>by
  rcases cW.mp m with q|q
  ·rw[q];exact⟨Ez w.params,_,_,_,_,_,_,_,_,bN rfl rfl,rfl,rfl,rfl,rfl,rfl,rfl,rfl,rfl,by decide⟩
  ·rw[cO.mp q];exact⟨EA w.params,_,_,_,_,_,_,_,_,bN rfl rfl,rfl,rfl,rfl,rfl,rfl,rfl,rfl,rfl,by decide⟩
 blt:=⟨4,s7 w.params,by kernel_rfl,by decide,by decide,nT rfl,bN rfl rfl,rfl,rfl,rfl⟩
end
inductive oR:List dU->List de->Prop
 | nil:oR [] []
 | cons {i:Int} {x:ai} {t u:Nat} {es:List dU} {l:List de}:oR es l->oR (⟨i,.int i t,.str x u⟩::es) (⟨i,x⟩::l)
theorem oR.app{a b:List dU}{l m:List de}(h:oR a l)(k:oR b m):oR (a++b) (l++m):=by
 induction h with
 | nil=>exact k
 | cons _ ih=>exact .cons ih
theorem KY(st:Nat):∀(l:List de) (t:Nat),oR (cE st l t) l
 | [],_=>.nil
 | ⟨i,x⟩::l,t=>.cons (KY st l _)
theorem KZ(k i:Int)(t:Nat):rv k (.int i t)=decide (i=k):=by
 rfl
theorem aoh{es:List dU}{l:List de}(h:oR es l)(k:Int):match l.find? (λit=>decide (it.i=k))with
  | some it=>∃t,Ai rv ⟨es⟩ k=some (.str it.x t)
  | none=>Ai rv ⟨es⟩ k=none:=by
 unfold Ai;simp only[List.find?_toArray];induction h with
 | nil=>rfl
 | @cons i x t u es l _ ih=>
  rw[Ar,Ar];rw[KZ]
  by_cases q:i=k
  ·refine ab (decide_eq_true q) ?_;exact⟨u,rfl⟩
  ·refine ab (decide_eq_false q) ?_;exact ih
def sT:List de:=i0++iG.flatten++iL
theorem aoi:vC=sT:=by kernel_rfl
theorem aoj:sT.all (λit=>decide (0<=it.i)&&decide (it.i<2^61-1))=true:=by kernel_rfl
theorem aok{i:Int}(h0:0<=i)(h1:i<2^61-1):hashInt i=i:=by
 have e:rawHash i=i:=MA h0 h1;unfold hashInt;rw[e,if_neg];rw[beq_iff_eq];exact L6 h0
theorem aol{prog:iS}{w:bD}:∀{es:List dU} {l:List de},oR es l->(∀it∈l,0<=it.i/\it.i<2^61-1)->KeysOf (th prog w) ⟨es⟩:=by
 intro es l h;induction h with
 | nil=>intro _ e he;exact absurd he (by simp)
 | @cons i x t u es l _ ih=>
  intro hp e he;have he:e∈(⟨i,.int i t,.str x u⟩:dU)::es:=by simpa using he
  rcases cW.mp he with q|q
  ·refine ab (q) ?_
   have:=hp _ bT
   exact(aW i (by simp[th,rv]) ((aok this.1 this.2).symm))
  ·exact ih (λit hi=>hp it (bL _ hi)) e (by simpa using q)
theorem K0:∀it∈sT,0<=it.i/\it.i<2^61-1:=λit h=>by
 have:=eh.mp aoj it h
 rw[cz,decide_eq_true_eq,decide_eq_true_eq]at this;exact this
theorem aom(n:Nat)(l:List de):(∀it∈l,0<=it.i/\it.i<2^61-1)->yf n (l.map λit=>(it.i.toNat,it.x.cps.toList))=(l.find? λit=>decide (it.i=(n:Int))).map λit=>it.x.cps.toList:=by
 induction l with
 | nil=>exactλ_=>rfl
 | cons it l ih=>
  intro h;rw[jE,Ar]
  show(match aG n it.i.toNat with|true=>some it.x.cps.toList|false=>yf n (l.map fun(it:de)=>(it.i.toNat,it.x.cps.toList)))=_
  have hp:=(h it bT).1
  by_cases q:it.i=(n:Int)
  ·have:aG n it.i.toNat=true:=by exact ab (q) (gw n)
   rw[this,decide_eq_true q]
   rfl
  ·have:aG n it.i.toNat=false:=by
    induction e:aG n it.i.toNat with
    | false=>rfl
    | true=>have:=dj e;lia
   rw[this,decide_eq_false q];exact ih λz hz=>h z (bL _ hz)
noncomputable section
variable {w:bD}{θ:Th}{sa:HH w}
def xl:List dU:=cE 3 (i0++iG.flatten) 368++cE 2 iL (368+3*(i0.length+iG.flatten.length))
theorem Uc:oR xl sT:=(KY _ _ _).app (KY _ _ _)
theorem aon:(iR w.params)[106]?=some (bZ xl (i0.length+(iG.flatten.length+iL.length))):=by kernel_rfl
theorem aoo(k:Int):match(T1 θ).b3 k with|some x=>∃t,Ai rv ⟨xl⟩ k=some (.str ⟨x.toArray⟩ t)|none=>Ai rv ⟨xl⟩ k=none:=by
 have F:=aoh Uc k;have hT:(T1 θ).b3 k=(sT.find? λit=>decide (it.i=k)).map λit=>it.x.cps.toList:=by
  induction k with
  | ofNat n=>
   show yf n (vC.map λit=>(it.i.toNat,it.x.cps.toList))=_
   rw[aoi];exact aom n sT K0
  | negSucc n=>
   have:(sT.find? λit=>decide (it.i=Ff n))=none:=by
    rw[List.find?_eq_none];intro it hi
    have:=(K0 it hi).1
    rw[decide_eq_true_eq]
    lia
   rw[this]
   rfl
 refine ab (hT) ?_;induction e:sT.find? λit=>decide (it.i=k)with
 | none=>rw[e]at F;exact F
 | some it=>
  rw[e]at F;refine xE F λt ht=>?_;clear F
  exact⟨t,ht⟩
def xm(P:dX):List (Int×ac):=match(KI P).data with|.set es _ _=>es.toList|_=>[]
theorem Ud(P:dX):((xm P).all λe=>(match e.2 with|.int i _=>decide (0<=i)&&decide (hashInt i=e.1)&&gO i.toNat gA|_=>false))=true:=by kernel_rfl
theorem aop(P:dX):gA.all (λp=>(xm P).any λe=>(match e.2 with|.int i _=>decide (i=(p:Int))|_=>false))=true:=by kernel_rfl
theorem aoq(P:dX)(k:Int):(T1 θ).b1 k=true↔∃e∈xm P,rv k e.2=true:=by
 constructor
 ·intro h;induction k with
  | negSucc n=>exact bV h
  | ofNat n=>
   have h:gO n gA=true:=h;have h:=(BJ n gA).mp h;refine ah (UZ.mp (eh.mp (aop P) n h)) λe he h2=>(aW e he ?_)
   split at h2
   ·rename_i i t q
    rw[q,KZ];exact h2
   ·exact bV h2
 ·intro d5;refine ah d5 λe he h2=>?_;clear d5
  have:=eh.mp (Ud P) e he
  split at this
  ·rename_i i t q
   rw[q,KZ,decide_eq_true_eq]at h2;subst h2;rw[cz,cz,decide_eq_true_eq]at this;refine xA this λag c=>?_;clear this;refine xA ag λa _=>?_;clear ag
   induction i with
   | negSucc n=>omega
   | ofNat n=>exact c
  ·exact bV this
theorem aor(P:dX):ElemsOf (th fm w) (xm P):=λe he=>by
 have:=eh.mp (Ud P) e he
 split at this
 ·rename_i i t q
  rw[cz,cz,decide_eq_true_eq,decide_eq_true_eq]at this;exact⟨(aW i (by rw[q];simp[th,rv]) this.1.2.symm),by rw[q];rfl⟩
 ·exact bV this
theorem aos:Co (C1 w θ sa) (pK w) where
 b1:=⟨95,27,by kernel_rfl,nT rfl,KI w.params,⟨xm w.params⟩,_,_,bN rfl rfl,⟨rfl,rfl,rfl⟩,rfl,aor w.params,λk=>aoq w.params k,by exact lW (lV (show(xm w.params).length=27 by kernel_rfl)) (by decide),by kernel_rfl,rfl⟩
 b3:=(Wj 106 (Ai rv ⟨xl⟩) rfl (nT rfl) rfl ⟨_,⟨xl⟩,_,bN aon rfl,⟨rfl,rfl,rfl⟩,rfl,aol Uc K0,λk=>rfl⟩ aoo)
end
noncomputable section
@[elab_as_elim] noncomputable def Ue{P:ar->Type}(e:ar)(n:P e)(k:∀a b c d,P (.Lambda a b c d)):P e:=match e with|.Lambda a b c d=>k a b c d|_=>n
noncomputable def Uf(ps:rh):Bool:=match ps with|⟨_,_,_,_,k,_,d⟩=>k.isEmpty&&d.isEmpty
theorem aot{ps:rh}(h:Uf ps=true):∀env,defaultsOf ps env=([],[]):=by
 obtain⟨a,b,c,e,k,f,d⟩:=ps;intro env;have h1:=lR.mp (a1 h);have h2:=lR.mp (a2 h);subst h1 h2
 rfl
section
variable (W:Wd)(S:wy W.C W.mg)(sc:Sc)(hS:sc.Ok){c P:al}(jr:sc.cd=.ref c)(pB:(c,P)∈W.C.rW)(hf:sc.fin=true)(id:Nat)
def Ug(ps:rh)(b:ar)(s:dQ)(pos:aC)(hl:W.C.lam id=some ⟨b,s,ps,eO s.names⟩):Option (jb W.C sc (.Lambda ps b s pos)):=
 gd (Uf ps&&vZ (eO s.names)) λh=>af (IJ sc.cn (eO s.names)) λf=>some ⟨vK id f.1,abB W.H S hS hl rfl (aot (a1 h)) jr pB f.2 (He (a2 h)) λ_ _=>hf⟩
def aou(ts:List ar)(v:ar)(pos:aC):W.C.lam id=EG v->Option (kC W.C sc (.Assign ts v pos)):=
 Internal.l1 ts (λ_=>none) λt=>Ue v (λ_=>none) λps b s p hl=>af (Ug W S sc hS jr pB hf id ps b s p hl) λa=>af (sE (iT (.Lambda ps b s p) (some t) pos.line (iK sc))) λw=>match w with
  | ⟨true,_⟩=>none
  | ⟨false,hs⟩=>af (sE (jD [t] (.Lambda ps b s p) (iK sc))) λu=>match u with
   | ⟨none,hw⟩=>jv ((zh (P:=λt=>iT (.Lambda ps b s p) (some t) pos.line (iK sc)=pure false->jD [t] (.Lambda ps b s p) (iK sc)=pure none->Option (kC W.C sc (.Assign [t] (.Lambda ps b s p) pos))) t (λ_ _=>none)
     λo n q hs hw=>af (rE W sc hS o) λo=>some ⟨lD W.C.T o.1 n.cps.toList a.1,P7 W.X o.2 a.2 rfl (λenv h=>(qI h).trans hs) λenv h=>(sD h).trans hw⟩) hs hw)
     (af (zm W.C sc t) λtg=>some ⟨aP tg.1 a.1,H7 hS a.2 tg.2 (λenv h=>(qI h).trans hs) λenv h=>(sD h).trans hw⟩)
   | ⟨some _,_⟩=>none
def aov(f:ar)(args:List ar)(kws:List ri)(p pos:aC):W.C.lam id=af args[0]? EG->Option (kC W.C sc (.Expr (.Call f args kws p) pos)):=match kws with
 | _::_=>λ_=>none
 | []=>j7 f (λ_=>none) λn q=>Internal.l2 args (λ_=>none) λx y=>Ue x (λ_=>none) λps b s r hl=>af (Ug W S sc hS jr pB hf id ps b s r hl) λa=>af (rE W sc hS y) λe=>gd (gy y) λhu=>af (rE W sc hS (.Name n q)) λg=>
  some ⟨jM (du g.1 [a.1,e.1]),Ps hS (Ow W.X g.2 (.cons a.2 rfl (.cons e.2 hu .nil))) (λ_=>rfl)⟩
def EJ(s:bS):W.C.lam id=af (T2 s) EG->Option (kC W.C sc s):=match s with
 | .Assign ts v pos=>λhl=>aou W S sc hS jr pB hf id ts v pos hl
 | .Expr e pos=>(match e with|.Call f args kws p=>λhl=>aov W S sc hS jr pB hf id f args kws p pos hl|_=>λ_=>none)
 | _=>λ_=>none
end
def sU{C:Cx}{sc:Sc}{s:bS}{l:List bS}(a:Option (kC C sc s))(r:Option (wC C sc l)):Option (wC C sc (s::l)):=af a λa=>af r λr=>some ⟨aE a.1 r.1,OM a.2 r.2⟩
def mB:List bS:=cq (ay aN 20)
def lg:List bS:=cq (ay aN 23)
theorem aow:[ay mB 0,ay mB 1,ay mB 2,ay mB 3,ay mB 4]=mB:=by kernel_rfl
theorem aox:[ay lg 0,ay lg 1,ay lg 2,ay lg 3,ay lg 4,ay lg 5]=lg:=by kernel_rfl
section
variable (W:Wd)
theorem aoy(S:wy W.C W.mg)(hl:W.C.lam=z')(h1:(227,223)∈W.C.rW):fP W.C qK mB (C' W.C.T).body:=
 aow▸gq (sU (EJ W S qK wO rfl h1 rfl 0 (ay mB 0) (congrFun hl 0)) (sU (wD W qK wO (fe W qK wO 19) (ay mB 1)) (sU (EJ W S qK wO rfl h1 rfl 1 (ay mB 2) (congrFun hl 1)) (fe W qK wO 20 [ay mB 3,ay mB 4])))) (by kernel_rfl)
theorem aoz(S:wy W.C W.mg)(hl:W.C.lam=z')(h2:(246,242)∈W.C.rW):fP W.C nj lg (uA W.C.T).body:=
 aox▸gq (sU (wD W nj pE (fe W nj pE 19) (ay lg 0)) (sU (wD W nj pE (fe W nj pE 19) (ay lg 1)) (sU (EJ W S nj pE rfl h2 rfl 2 (ay lg 2) (congrFun hl 2)) (sU (wD W nj pE (fe W nj pE 19) (ay lg 3)) (sU (EJ W S nj pE rfl h2 rfl 3 (ay lg 4) (congrFun hl 3)) (fe W nj pE 20 [ay lg 5])))))) (by kernel_rfl)
end
end
def okF(sc:Sc)(F:FI):Bool:=cX sc.scope.isCoroutine&&(cX sc.scope.isGenerator&&(zj sc.cn (gQ sc.scope.names)&&(aG sc.nw F.nc&&(aG (gQ sc.scope.names).length F.nc&&aG sc.ln.length F.nl))))
theorem gG{C:Cx}{F:FI}{sc:Sc}{ps:List ai}(h:okF sc F=true)(ok:sc.Ok)(par:qF C sc ps F.params):wu C sc [] F.nl F.nc ps F.params:=
 ⟨ok,uz (a1 h),uz (a1 (a2 h)),by rw[fS];exact IM (a1 (a2 (a2 h))),dj (a1 (a2 (a2 (a2 h)))),dj (a1 (a2 (a2 (a2 (a2 h))))),dj (a2 (a2 (a2 (a2 (a2 h))))),par,λ_ m=>nomatch m⟩
theorem xn{C:Cx}{g:Nat}{F:FI}{sc:Sc}{ps:List ai}{b:List bS}(ha:F.alone=true)(ht:F.tail=bJ)(X:fc C g F sc ps b)(h:fP C sc b F.body):ft C g F:=
 .alone sc ps b [] ha (by rw[fS];exact X) h.h (by exact ab (ht) OK)
noncomputable section
variable {w:bD}{θ:Th}{sa:HH w}
def fA(hl:∀i j k,(θ.s i j k).length<=1000):Wd:={C:=C1 w θ sa,mg:=pK w,mb:=KV w,Nc:=82,mN:=xk w,H:=T5 hl,hN:=anY,hcl:=anZ,X:=Ua,TT:=aos,B:=aog}
variable (hl:∀i j k,(θ.s i j k).length<=1000)
theorem aoA:fc (C1 w θ sa) 100 (qJ (T1 θ)) Df ["self", "ws"] (cq (ay (eS (ay aN 2)) 1)) where
 fn:=(gM 38 (Kz w.params) _ rfl (bN rfl rfl) (nT rfl) rfl (by kernel_rfl) rfl (by kernel_rfl) rfl rfl ⟨37,S5 w.params,_,_,rfl,bN rfl rfl,nT rfl,rfl,rfl,.inl rfl⟩ (λvals h=>kR (λa0 a1=>by kernel_rfl) vals h))
 scp:=gG (by kernel_rfl) QJ (.cons rfl (.cons rfl .nil))
include hl in
theorem aoB:ft (C1 w θ sa) 100 (qJ (T1 θ)):=.plain _ _ _ rfl aoA (adk (fA hl)).h
theorem aoC:fc (C1 w θ sa) 101 (C5 (T1 θ)) Dg ["self"] (cq (ay (eS (ay aN 2)) 2)) where
 fn:=(gM 45 (KB w.params) _ rfl (bN rfl rfl) (nT rfl) rfl (by kernel_rfl) rfl (by kernel_rfl) rfl rfl ⟨44,S6 w.params,_,_,rfl,bN rfl rfl,nT rfl,rfl,rfl,.inl rfl⟩ (λvals h=>j2 (λa0=>by kernel_rfl) vals h))
 scp:=gG (by kernel_rfl) QK (.cons rfl .nil)
include hl in
theorem aoD:ft (C1 w θ sa) 101 (C5 (T1 θ)):=.plain _ _ _ rfl aoC (adl (fA hl)).h
theorem aoE:fc (C1 w θ sa) 102 (C6 (T1 θ)) Dh ["self", "tabsize"] (cq (ay (eS (ay aN 2)) 3)) where
 fn:=(gM 52 (KC w.params) _ rfl (bN rfl rfl) (nT rfl) rfl (by kernel_rfl) rfl (by kernel_rfl) rfl rfl ⟨51,S7 w.params,_,_,rfl,bN rfl rfl,nT rfl,rfl,rfl,.inl rfl⟩ (λvals h=>kR (λa0 a1=>by kernel_rfl) vals h))
 scp:=gG (by kernel_rfl) QL (.cons rfl (.cons rfl .nil))
include hl in
theorem aoF:ft (C1 w θ sa) 102 (C6 (T1 θ)):=.plain _ _ _ rfl aoE (adm (fA hl)).h
theorem aoG:fc (C1 w θ sa) 103 (C7 (T1 θ)) Di ["self", "other"] (cq (ay (eS (ay aN 2)) 4)) where
 fn:=(gM 59 (KE w.params) _ rfl (bN rfl rfl) (nT rfl) rfl (by kernel_rfl) rfl (by kernel_rfl) rfl rfl ⟨58,S8 w.params,_,_,rfl,bN rfl rfl,nT rfl,rfl,rfl,.inl rfl⟩ (λvals h=>kR (λa0 a1=>by kernel_rfl) vals h))
 scp:=gG (by kernel_rfl) QM (.cons rfl (.cons rfl .nil))
include hl in
theorem aoH:ft (C1 w θ sa) 103 (C7 (T1 θ)):=.plain _ _ _ rfl aoG (adn (fA hl)).h
theorem aoI:fc (C1 w θ sa) 104 (C8 (T1 θ)) Dj ["self", "other"] (cq (ay (eS (ay aN 2)) 6)) where
 fn:=(gM 73 (KG w.params) _ rfl (bN rfl rfl) (nT rfl) rfl (by kernel_rfl) rfl (by kernel_rfl) rfl rfl ⟨72,S9 w.params,_,_,rfl,bN rfl rfl,nT rfl,rfl,rfl,.inl rfl⟩ (λvals h=>kR (λa0 a1=>by kernel_rfl) vals h))
 scp:=gG (by kernel_rfl) QN (.cons rfl (.cons rfl .nil))
include hl in
theorem aoJ:ft (C1 w θ sa) 104 (C8 (T1 θ)):=.plain _ _ _ rfl aoI (ado (fA hl)).h
theorem aoK:fc (C1 w θ sa) 105 (C9 (T1 θ)) Dk ["self", "other"] (cq (ay (eS (ay aN 2)) 7)) where
 fn:=(gM 80 (KH w.params) _ rfl (bN rfl rfl) (nT rfl) rfl (by kernel_rfl) rfl (by kernel_rfl) rfl rfl ⟨79,Ta w.params,_,_,rfl,bN rfl rfl,nT rfl,rfl,rfl,.inl rfl⟩ (λvals h=>kR (λa0 a1=>by kernel_rfl) vals h))
 scp:=gG (by kernel_rfl) QO (.cons rfl (.cons rfl .nil))
include hl in
theorem aoL:ft (C1 w θ sa) 105 (C9 (T1 θ)):=xn rfl rfl aoK (adp (fA hl))
theorem at3:fc (C1 w θ sa) 3 (f3 (T1 θ)) Dl ["code"] (cq (ay aN 5)) where
 fn:=(gM 105 (Te w.params) _ rfl (bN rfl rfl) (nT rfl) rfl (by kernel_rfl) rfl (by kernel_rfl) rfl rfl ⟨104,Td w.params,_,_,rfl,bN rfl rfl,nT rfl,rfl,rfl,.inl rfl⟩ (λvals h=>j2 (λa0=>by kernel_rfl) vals h))
 scp:=gG (by kernel_rfl) QP (.cons rfl .nil)
include hl in
theorem ok3:ft (C1 w θ sa) 3 (f3 (T1 θ)):=.plain _ _ _ rfl at3 (adq (fA hl)).h
theorem at5:fc (C1 w θ sa) 5 (f5 (T1 θ)) Dn ["code"] (cq (ay aN 7)) where
 fn:=(gM 151 (Tj w.params) _ rfl (bN rfl rfl) (nT rfl) rfl (by kernel_rfl) rfl (by kernel_rfl) rfl rfl ⟨150,Ti w.params,_,_,rfl,bN rfl rfl,nT rfl,rfl,rfl,.inl rfl⟩ (λvals h=>j2 (λa0=>by kernel_rfl) vals h))
 scp:=gG (by kernel_rfl) QQ (.cons rfl .nil)
include hl in
theorem ok5:ft (C1 w θ sa) 5 (f5 (T1 θ)):=.plain _ _ _ rfl at5 (adr (fA hl)).h
theorem at7:fc (C1 w θ sa) 7 (f7 (T1 θ)) Dq ["write", "elem"] (cq (ay aN 10)) where
 fn:=(gM 167 (To w.params) _ rfl (bN rfl rfl) (nT rfl) rfl (by kernel_rfl) rfl (by kernel_rfl) rfl rfl ⟨166,Tn w.params,_,_,rfl,bN rfl rfl,nT rfl,rfl,rfl,.inl rfl⟩ (λvals h=>kR (λa0 a1=>by kernel_rfl) vals h))
 scp:=gG (by kernel_rfl) QS (.cons rfl (.cons rfl .nil))
include hl in
theorem ok7:ft (C1 w θ sa) 7 (f7 (T1 θ)):=.plain _ _ _ rfl at7 (adt (fA hl)).h
theorem at9:fc (C1 w θ sa) 9 (f9 (T1 θ)) Dr ["text"] (cq (ay aN 12)) where
 fn:=(gM 181 (Tq w.params) _ rfl (bN rfl rfl) (nT rfl) rfl (by kernel_rfl) rfl (by kernel_rfl) rfl rfl ⟨180,Tp w.params,_,_,rfl,bN rfl rfl,nT rfl,rfl,rfl,.inl rfl⟩ (λvals h=>j2 (λa0=>by kernel_rfl) vals h))
 scp:=gG (by kernel_rfl) QT (.cons rfl .nil)
include hl in
theorem ok9:ft (C1 w θ sa) 9 (f9 (T1 θ)):=.plain _ _ _ rfl at9 (adu (fA hl)).h
theorem aoM:fc (C1 w θ sa) 10 (wH (T1 θ)) Ds ["text"] (cq (ay aN 13)) where
 fn:=(gM 188 (Ts w.params) _ rfl (bN rfl rfl) (nT rfl) rfl (by kernel_rfl) rfl (by kernel_rfl) rfl rfl ⟨187,Tr w.params,_,_,rfl,bN rfl rfl,nT rfl,rfl,rfl,.inl rfl⟩ (λvals h=>j2 (λa0=>by kernel_rfl) vals h))
 scp:=gG (by kernel_rfl) QU (.cons rfl .nil)
include hl in
theorem aoN:ft (C1 w θ sa) 10 (wH (T1 θ)):=.plain _ _ _ rfl aoM (adv (fA hl)).h
theorem aoO:fc (C1 w θ sa) 11 (wI (T1 θ)) Dt ["text"] (cq (ay aN 14)) where
 fn:=(gM 195 (Tu w.params) _ rfl (bN rfl rfl) (nT rfl) rfl (by kernel_rfl) rfl (by kernel_rfl) rfl rfl ⟨194,Tt w.params,_,_,rfl,bN rfl rfl,nT rfl,rfl,rfl,.inl rfl⟩ (λvals h=>j2 (λa0=>by kernel_rfl) vals h))
 scp:=gG (by kernel_rfl) QV (.cons rfl .nil)
include hl in
theorem aoP:ft (C1 w θ sa) 11 (wI (T1 θ)):=.plain _ _ _ rfl aoO (adw (fA hl)).h
theorem aoQ:fc (C1 w θ sa) 12 (wJ (T1 θ)) Du ["text"] (cq (ay aN 15)) where
 fn:=(gM 202 (Tz w.params) _ rfl (bN rfl rfl) (nT rfl) rfl (by kernel_rfl) rfl (by kernel_rfl) rfl rfl ⟨201,Tw w.params,_,_,rfl,bN rfl rfl,nT rfl,rfl,rfl,.inl rfl⟩ (λvals h=>j2 (λa0=>by kernel_rfl) vals h))
 scp:=gG (by kernel_rfl) QW (.cons rfl .nil)
include hl in
theorem aoR:ft (C1 w θ sa) 12 (wJ (T1 θ)):=.plain _ _ _ rfl aoQ (adx (fA hl)).h
theorem aoS:fc (C1 w θ sa) 13 (wK (T1 θ)) Dv ["text"] (cq (ay aN 16)) where
 fn:=(gM 209 (TB w.params) _ rfl (bN rfl rfl) (nT rfl) rfl (by kernel_rfl) rfl (by kernel_rfl) rfl rfl ⟨208,TA w.params,_,_,rfl,bN rfl rfl,nT rfl,rfl,rfl,.inl rfl⟩ (λvals h=>j2 (λa0=>by kernel_rfl) vals h))
 scp:=gG (by kernel_rfl) QX (.cons rfl .nil)
include hl in
theorem aoT:ft (C1 w θ sa) 13 (wK (T1 θ)):=.plain _ _ _ rfl aoS (ady (fA hl)).h
theorem aoU:fc (C1 w θ sa) 14 (wL (T1 θ)) Dw ["script"] (cq (ay aN 18)) where
 fn:=(gM 214 (TG w.params) _ rfl (bN rfl rfl) (nT rfl) rfl (by kernel_rfl) rfl (by kernel_rfl) rfl rfl ⟨213,TF w.params,_,_,rfl,bN rfl rfl,nT rfl,rfl,rfl,.inl rfl⟩ (λvals h=>j2 (λa0=>by kernel_rfl) vals h))
 scp:=gG (by kernel_rfl) QY (.cons rfl .nil)
include hl in
theorem aoV:ft (C1 w θ sa) 14 (wL (T1 θ)):=xn rfl rfl aoU (adz (fA hl))
theorem aoW:fc (C1 w θ sa) 15 (wM (T1 θ)) Dx ["row", "kind"] (cq (ay aN 19)) where
 fn:=(gM 221 (TI w.params) _ rfl (bN rfl rfl) (nT rfl) rfl (by kernel_rfl) rfl (by kernel_rfl) rfl rfl ⟨220,TH w.params,_,_,rfl,bN rfl rfl,nT rfl,rfl,rfl,.inl rfl⟩ (λvals h=>kR (λa0 a1=>by kernel_rfl) vals h))
 scp:=gG (by kernel_rfl) QZ (.cons rfl (.cons rfl .nil))
include hl in
theorem aoX:ft (C1 w θ sa) 15 (wM (T1 θ)):=xn rfl rfl aoW (adA (fA hl))
theorem aoY:fc (C1 w θ sa) 16 (C' (T1 θ)) qK ["tag", "attrib"] mB where
 fn:=(gM 228 (TJ w.params) _ rfl (bN rfl rfl) (nT rfl) rfl (by kernel_rfl) rfl (by kernel_rfl) rfl rfl ⟨227,Ez w.params,_,_,rfl,bN rfl rfl,nT rfl,rfl,rfl,.inr rfl⟩ (λvals h=>kR (λa0 a1=>by kernel_rfl) vals h))
 scp:=gG (by kernel_rfl) wO (.cons rfl (.cons rfl .nil))
include hl in
theorem aoZ:ft (C1 w θ sa) 16 (C' (T1 θ)):=.plain _ _ _ rfl aoY (aoy (fA hl) Ub rfl bT).h
theorem apa:fc (C1 w θ sa) 17 (Da (T1 θ)) Dy ["one"] (cq (ay aN 21)) where
 fn:=(gM 233 (TL w.params) _ rfl (bN rfl rfl) (nT rfl) rfl (by kernel_rfl) rfl (by kernel_rfl) rfl rfl ⟨232,TK w.params,_,_,rfl,bN rfl rfl,nT rfl,rfl,rfl,.inl rfl⟩ (λvals h=>j2 (λa0=>by kernel_rfl) vals h))
 scp:=gG (by kernel_rfl) Q0 (.cons rfl .nil)
include hl in
theorem apb:ft (C1 w θ sa) 17 (Da (T1 θ)):=.plain _ _ _ rfl apa (adB (fA hl)).h
theorem apc:fc (C1 w θ sa) 18 (Db (T1 θ)) Dz ["typed", "hand"] (cq (ay aN 22)) where
 fn:=(gM 240 (TN w.params) _ rfl (bN rfl rfl) (nT rfl) rfl (by kernel_rfl) rfl (by kernel_rfl) rfl rfl ⟨239,TM w.params,_,_,rfl,bN rfl rfl,nT rfl,rfl,rfl,.inl rfl⟩ (λvals h=>kR (λa0 a1=>by kernel_rfl) vals h))
 scp:=gG (by kernel_rfl) Q1 (.cons rfl (.cons rfl .nil))
include hl in
theorem apd:ft (C1 w θ sa) 18 (Db (T1 θ)):=.plain _ _ _ rfl apc (adC (fA hl)).h
theorem ape:fc (C1 w θ sa) 19 (uA (T1 θ)) nj ["rows", "left", "alike", "kind"] lg where
 fn:=(gM 247 (TO w.params) _ rfl (bN rfl rfl) (nT rfl) rfl (by kernel_rfl) rfl (by kernel_rfl) rfl rfl ⟨246,EA w.params,_,_,rfl,bN rfl rfl,nT rfl,rfl,rfl,.inr rfl⟩ (λvals h=>Wm (λa0 a1 a2 a3=>by kernel_rfl) vals h))
 scp:=gG (by kernel_rfl) pE (.cons rfl (.cons rfl (.cons rfl (.cons rfl .nil))))
include hl in
theorem apf:ft (C1 w θ sa) 19 (uA (T1 θ)):=xn rfl rfl ape (aoz (fA hl) Ub rfl (bL _ bT))
theorem apg:fc (C1 w θ sa) 20 (wN (T1 θ)) DA ["text"] (cq (ay aN 24)) where
 fn:=(gM 252 (TQ w.params) _ rfl (bN rfl rfl) (nT rfl) rfl (by kernel_rfl) rfl (by kernel_rfl) rfl rfl ⟨251,TP w.params,_,_,rfl,bN rfl rfl,nT rfl,rfl,rfl,.inl rfl⟩ (λvals h=>j2 (λa0=>by kernel_rfl) vals h))
 scp:=gG (by kernel_rfl) Q2 (.cons rfl .nil)
include hl in
theorem aph:ft (C1 w θ sa) 20 (wN (T1 θ)):=xn rfl rfl apg (adD (fA hl))
theorem api:fc (C1 w θ sa) 21 (pD (T1 θ)) wP ["rows", "page"] (cq (ay aN 25)) where
 fn:=(gM 257 (TS w.params) _ rfl (bN rfl rfl) (nT rfl) rfl (by kernel_rfl) rfl (by kernel_rfl) rfl rfl ⟨256,TR w.params,_,_,rfl,bN rfl rfl,nT rfl,rfl,rfl,.inl rfl⟩ (λvals h=>kR (λa0 a1=>by kernel_rfl) vals h))
 scp:=gG (by kernel_rfl) Jm (.cons ⟨⟨rfl,by decide⟩,rfl⟩ (.cons ⟨⟨rfl,by decide⟩,rfl⟩ .nil))
theorem apj:(cq (ay aN 25)).take 5++(cq (ay aN 25)).drop 5=cq (ay aN 25):=List.take_append_drop 5 _
include hl in
theorem apk:ft (C1 w θ sa) 21 (pD (T1 θ)):=.alone _ _ _ _ rfl (apj.symm▸api) (adE (fA hl)).h (adF (fA hl)).h
theorem apl:fc (C1 w θ sa) 22 (Dc (T1 θ)) DB ["lead", "size"] (cq (ay aN 26)) where
 fn:=(gM 264 (TV w.params) _ rfl (bN rfl rfl) (nT rfl) rfl (by kernel_rfl) rfl (by kernel_rfl) rfl rfl ⟨263,TU w.params,_,_,rfl,bN rfl rfl,nT rfl,rfl,rfl,.inl rfl⟩ (λvals h=>kR (λa0 a1=>by kernel_rfl) vals h))
 scp:=gG (by kernel_rfl) Q3 (.cons rfl (.cons rfl .nil))
include hl in
theorem apm:ft (C1 w θ sa) 22 (Dc (T1 θ)):=.plain _ _ _ rfl apl (adG (fA hl)).h
theorem apn:fc (C1 w θ sa) 23 (uB (T1 θ)) DC ["rows", "page"] (cq (ay aN 27)) where
 fn:=(gM 269 (TX w.params) _ rfl (bN rfl rfl) (nT rfl) rfl (by kernel_rfl) rfl (by kernel_rfl) rfl rfl ⟨268,TW w.params,_,_,rfl,bN rfl rfl,nT rfl,rfl,rfl,.inl rfl⟩ (λvals h=>kR (λa0 a1=>by kernel_rfl) vals h))
 scp:=gG (by kernel_rfl) Q4 (.cons rfl (.cons ⟨⟨rfl,by decide⟩,rfl⟩ .nil))
include hl in
theorem apo:ft (C1 w θ sa) 23 (uB (T1 θ)):=xn rfl rfl apn (adH (fA hl))
theorem apq:fc (C1 w θ sa) 24 (zu (T1 θ)) DD ["script"] (cq (ay aN 28)) where
 fn:=(gM 276 (TZ w.params) _ rfl (bN rfl rfl) (nT rfl) rfl (by kernel_rfl) rfl (by kernel_rfl) rfl rfl ⟨275,TY w.params,_,_,rfl,bN rfl rfl,nT rfl,rfl,rfl,.inl rfl⟩ (λvals h=>j2 (λa0=>by kernel_rfl) vals h))
 scp:=gG (by kernel_rfl) Q5 (.cons rfl .nil)
include hl in
theorem apr:ft (C1 w θ sa) 24 (zu (T1 θ)):=.plain _ _ _ rfl apq (adI (fA hl)).h
noncomputable def K1(P:Nat->FI->Prop):List (Nat×FI)->Prop
 | []=>True
 | x::l=>P x.1 x.2/\K1 P l
theorem aps{P:Nat->FI->Prop}{i:Nat}{F:FI}{l:List (Nat×FI)}(h:K1 P l)(e:Dd i l=some F):P i F:=by
 induction l with
 | nil=>exact au e
 | cons x l ih=>
  have e:(match aG x.1 i with|true=>some x.2|false=>Dd i l)=some F:=e;induction b:aG x.1 i with
  | true=>rw[b]at e;exact aI e▸dj b▸h.1
  | false=>rw[b]at e;exact ih h.2 e
include hl in
theorem apt:∀i F,fns (T1 θ) i=some F->ft (C1 w θ sa) i F:=λi F h=>
 aps (P:=ft (C1 w θ sa)) (show K1 _ (QG (T1 θ)) from⟨aoB hl,aoD hl,aoF hl,aoH hl,aoJ hl,aoL hl,ok3 hl,ok5 hl,ok7 hl,ok9 hl,aoN hl,aoP hl,aoR hl,aoT hl,aoV hl,aoX hl,aoZ hl,apb hl,apd hl,apf hl,aph hl,apk hl,apm hl,apo hl,apr hl,trivial⟩) h
end
noncomputable section
variable {w:bD}{θ:Th}{sa:HH w}
noncomputable def qS(k:Nat):aC:=[⟨77,15,77,21⟩,⟨77,23,77,26⟩,⟨77,28,77,34⟩,⟨77,41,77,46⟩,⟨77,35,77,37⟩].getD k ⟨0,0,0,0⟩
theorem aS:AX (ay aN 9)=CB qS:=by kernel_rfl
theorem kw6(hl:∀i j k,(θ.s i j k).length<=1000):Iy (C1 w θ sa) 6 [110,97,103] (f6 (T1 θ)):=by
 refine⟨Do,["parent", "tag", "attrib", "extra"],cq (ay aN 9),⟨160,Tm w.params,_,rfl,bN rfl rfl,nT rfl,rfl,by kernel_rfl,rfl,by kernel_rfl,rfl,rfl,⟨159,Tl w.params,_,_,rfl,bN rfl rfl,nT rfl,rfl,rfl,.inl rfl⟩,?_⟩,gG (by kernel_rfl) QR (.cons rfl (.cons rfl (.cons rfl (.cons rfl .nil)))),(ads (fA hl)).h⟩;exact ack (q:=qS) ⟨aS,⟨153,Tk w.params,_,_,rfl,bN rfl rfl,nT rfl,rfl⟩,rfl⟩
def pL(i:Nat):t0:=(z' i).getD ⟨.Name "x" ⟨0,0,0,0⟩,qK.scope,CB qS,[]⟩
def jZ(i:Nat):Sc:=fW (pL i).scope .none true
theorem apu:∀i,i<4->z' i=some (pL i):=λi h=>by
 rcases(by lia:i=0\/i=1\/i=2\/i=3)with q|q|q|q<;>subst q<;>kernel_rfl
def okL(i:Nat)(F:FI):Bool:=cX (jZ i).scope.isCoroutine&&(cX (jZ i).scope.isGenerator&&(zj (jZ i).cn (gQ (jZ i).scope.names++(pL i).free)&&(aG (jZ i).nw F.nc&&(aG (gQ (jZ i).scope.names).length F.nc&&(aG (jZ i).ln.length F.nl&&(jZ i).BA)))))
theorem EK{i:Nat}{F:FI}{ps:List ai}{c:Cd}(hi:i<4)(h:okL i F=true)(par:qF (C1 w θ sa) (jZ i) ps F.params)(he:PE (C1 w θ sa) (jZ i) (pL i).body c)(hb:F.body=dq c)
  (hd:∀(fd:nC) (vals:List ac),fd.params=(pL i).params->fd.defaults=.none->fd.kwdefaults=.none->vals.length=ps.length->sX fd ⟨vals,[]⟩=pure (ps.zip vals)):uw (C1 w θ sa) i F:=
 ⟨pL i,jZ i,ps,c,apu i hi,rfl,rfl,⟨Sc.fO (a2 (a2 (a2 (a2 (a2 (a2 h)))))),uz (a1 h),uz (a1 (a2 h)),IM (a1 (a2 (a2 h))),dj (a1 (a2 (a2 (a2 h)))),dj (a1 (a2 (a2 (a2 (a2 h))))),dj (a1 (a2 (a2 (a2 (a2 (a2 h)))))),par,λ_ _=>rfl⟩,he.h,hb,hd⟩
def bindL(ps:rh)(ns:List ai):Prop:=∀(fd:nC) (vals:List ac),fd.params=ps->fd.defaults=.none->fd.kwdefaults=.none->vals.length=ns.length->sX fd ⟨vals,[]⟩=pure (ns.zip vals)
theorem Uh{i:Nat}(h:(fun(name qualname:ai) (body:FuncBody) (scope:dQ) (g:al) (cl:List (ai×al)) (doc pm:ac) (an:Option al) (code ct:ac) (b:al)=>sX ⟨name,qualname,(pL i).params,body,scope,g,cl,.none,.none,doc,pm,an,code,ct,b⟩ ⟨[],[]⟩)=λ_ _ _ _ _ _ _ _ _ _ _ _=>pure []):bindL (pL i).params []:=by
 intro fd vals h1 h2 h3 hl;obtain⟨name,qualname,params,body,scope,globals,closure,defaults,kwdefaults,doc,pyModule,annotations,code,closureTuple,builtins⟩:=fd;subst h1 h2 h3;exact tI (congrFun (congrFun (congrFun (congrFun (congrFun (congrFun (congrFun (congrFun (congrFun (congrFun (congrFun (congrFun h name) qualname) body) scope) globals) closure) doc) pyModule) annotations) code) closureTuple) builtins) vals hl
theorem Ui{i:Nat}{n:ai}(h:(fun(name qualname:ai) (body:FuncBody) (scope:dQ) (g:al) (cl:List (ai×al)) (doc pm:ac) (an:Option al) (code ct:ac) (b:al) (v:ac)=>sX ⟨name,qualname,(pL i).params,body,scope,g,cl,.none,.none,doc,pm,an,code,ct,b⟩ ⟨[v],[]⟩)=λ_ _ _ _ _ _ _ _ _ _ _ _ v=>pure [(n,v)]):bindL (pL i).params [n]:=by
 intro fd vals h1 h2 h3 hl;obtain⟨name,qualname,params,body,scope,globals,closure,defaults,kwdefaults,doc,pyModule,annotations,code,closureTuple,builtins⟩:=fd;subst h1 h2 h3;exact j2 (λv=>congrFun (congrFun (congrFun (congrFun (congrFun (congrFun (congrFun (congrFun (congrFun (congrFun (congrFun (congrFun (congrFun h name) qualname) body) scope) globals) closure) doc) pyModule) annotations) code) closureTuple) builtins) v) vals hl
theorem EL:∀i,i<4->(jZ i).Ok:=λi h=>by
 rcases(by lia:i=0\/i=1\/i=2\/i=3)with q|q|q|q<;>subst q<;>exact Sc.fO (by kernel_rfl)
section
variable (hl:∀i j k,(θ.s i j k).length<=1000)
include hl
theorem apv:uw (C1 w θ sa) 0 (l0 (T1 θ)):=
 EK (ps:=[]) (c:=yp) (by decide) (by kernel_rfl) .nil (CT (rE (fA hl) (jZ 0) (EL 0 (by decide)) _) (by kernel_rfl)) rfl (Uh (by kernel_rfl))
theorem apw:uw (C1 w θ sa) 1 (l1 (T1 θ)):=
 EK (ps:=["child"]) (c:=bG (T1 θ) (fD (T1 θ) (aq 0) [119,105,116,104,105,110]) [97,112,112,101,110,100] [(ae 0)]) (by decide) (by kernel_rfl) (.cons (show(jZ 1).ln[0]?=_ by kernel_rfl) .nil) (CT (rE (fA hl) (jZ 1) (EL 1 (by decide)) _) (by kernel_rfl)) rfl (Ui (by kernel_rfl))
theorem apx:uw (C1 w θ sa) 2 (l2 (T1 θ)):=
 EK (ps:=[]) (c:=bR false (.loc 1) (ce (fD (T1 θ) (aq 0) [119,105,116,104,105,110])) (bE (du (cF 17) [(ae 1)])) 2 0 []) (by decide) (by kernel_rfl) .nil (CT (rE (fA hl) (jZ 2) (EL 2 (by decide)) _) (by kernel_rfl)) rfl (Uh (by kernel_rfl))
theorem apy:uw (C1 w θ sa) 3 (l3 (T1 θ)):=
 EK (ps:=["part"]) (c:=bG (T1 θ) (aq 0) [97,112,112,101,110,100] [(ae 0)]) (by decide) (by kernel_rfl) (.cons (show(jZ 3).ln[0]?=_ by kernel_rfl) .nil) (CT (rE (fA hl) (jZ 3) (EL 3 (by decide)) _) (by kernel_rfl)) rfl (Ui (by kernel_rfl))
theorem dok:PT (C1 w θ sa) (D1 (T1 θ)) (xk w) where
 fns:=apt hl
 CA:=λid F h=>by
  have h:=h
  match id,h with
  | 0,h=>exact aI h▸apv hl
  | 1,h=>exact aI h▸apw hl
  | 2,h=>exact aI h▸apx hl
  | 3,h=>exact aI h▸apy hl
 kws:=λg n F h=>by
  have h:(match aG g 6 with|true=>some ([110,97,103],f6 (T1 θ))|false=>none)=some (n,F):=h;induction q:aG g 6 with
  | false=>rw[q]at h;exact au h
  | true=>
   rw[q]at h;have h:=aI h;have g6:=dj q;subst g6;cases h;exact kw6 hl
 init:=by kernel_rfl
 PU:=λF h=>by
  have h:=h;refine bf h ?_;rfl
 PV:=λa o ha h=>by
  have ha:pc 38=.ref a:=ha;cases ha;have h2:sa.val.get? 38=some (Kz w.params):=bN rfl rfl;have h:sa.val.get? 38=some o:=h;rw[h2]at h;refine bf h ?_;rfl
theorem EM{m:Nat}{jN:vO}(Of:zd (C1 w θ sa) m jN)(n:Nat):fq (C1 w θ sa) (4*n+m) (call (T1 θ) (D1 (T1 θ)) jN n):=abM (T5 hl) aoc Ua Of (dok hl) n
end
end
noncomputable section
def gH(d:Dat):Th:={v:=λ_ _ _=>97,s:=λy k h=>(fG (d.l y) (match aG h 9 with|true=>[d.s y]|false=>ib (d.s y) h) [d.u y] k).take 1000}
theorem EN(d:Dat):∀i j k,((gH d).s i j k).length<=1000:=λi j k=>List.length_take_le _ _
theorem Uj(l:Nat)(m u:List Nat)(k:Nat):(fG l m u k).length<=m.length+u.length+1:=by
 unfold fG
 generalize (k+l)%4=i
 generalize dM (k%12)+l=c
 rcases i with _|_|_|i<;>simp only[cH,cS]<;>lia
theorem Uk{d:Dat}(y k:Nat):(gH d).s y k 9=fG (d.l y) [d.s y] [d.u y] k:=LQ (dG (Uj _ _ _ _) (by show 1+1+1<=1000;decide))
theorem Ul{d:Dat}(g:Good d){y h:Nat}(k:Nat)(hy:y<5)(hh:h<5):(gH d).s y k h=fG (d.l y) (ib (d.s y) h) [d.u y] k:=by
 have hm:=SH _ (g.s y hy) h (eR.mpr hh)
 have:aG h 9=false:=by
  induction q:aG h 9 with
  | false=>rfl
  | true=>have:=dj q;lia
 show(fG (d.l y) (match aG h 9 with|true=>[d.s y]|false=>ib (d.s y) h) [d.u y] k).take 1000=_
 refine ab (this) ?_;exact LQ (dG (Uj _ _ _ _) (by show(ib (d.s y) h).length+1+1<=1000;lia))
theorem EO{C:Cx}{σ:Sg}{x y:Tx}{cv:ac}(h:VR C σ (.str x) cv)(e:den C.θ x=den C.θ y):VR C σ (.str y) cv:=by
 refine VR.fV h λ_z=>?_
 rw[show aL C.θ x=aL C.θ y by unfold aL;rw[e]];exact .str _ _
theorem apz{C:Cx}{σ:Sg}{x y:Tx}{vs:List V}{aU:List ac}(h:az C σ (.str x::vs) aU)(e:den C.θ x=den C.θ y):az C σ (.str y::vs) aU:=by
 refine az.iq h λ_z _z a b=>?_
 exact .cons (EO a e) b
theorem K2{C:Cx}{A:bC}{c:nB}{σ:Sg}{s:ak}{P Q:ac->Sg->ak->Prop}(h:n9 C A c σ s P)(k:∀v aa s',P v aa s'->Q v aa s'):n9 C A c σ s Q:=
 s9 h λr s' ag=>lY ag λv aa e x q=>(rz v aa e x (k _ _ _ q))
open Classical in
def oS(d:Dat)(k:Nat)(vs:List V):Option V:=if h:∃y,y<5/\vs=[dg d y,iN k]then some (.str [.s h.choose k 9])else none
open Classical in
def oU(k:Nat)(vs:List V):Option V:=if h:∃p:Nat×Nat,p.1<5/\p.2<5/\vs=[.str [.s p.1 k 9],iN p.2]then some (.str [.s h.choose.1 k h.choose.2])else none
theorem apA{d:Dat}{k:Nat}{vs:List V}{v:V}(h:oS d k vs=some v):∃y,y<5/\vs=[dg d y,iN k]/\v=.str [.s y k 9]:=by
 unfold oS at h;split at h
 ·rename_i q
  exact cp q.choose q.choose_spec.1 q.choose_spec.2 ((aI h).symm)
 ·exact au h
theorem apB{k:Nat}{vs:List V}{v:V}(h:oU k vs=some v):∃y e,y<5/\e<5/\vs=[.str [.s y k 9],iN e]/\v=.str [.s y k e]:=by
 unfold oU at h;split at h
 ·rename_i q
  exact pf q.choose.1 q.choose.2 q.choose_spec.1 q.choose_spec.2.1 q.choose_spec.2.2 ((aI h).symm)
 ·exact au h
theorem apC{d:Dat}(g:Good d){k y:Nat}(hy:y<5):oS d k [dg d y,iN k]=some (.str [.s y k 9]):=by
 have h:∃z,z<5/\[dg d y,iN k]=[dg d z,iN k]:=⟨y,hy,rfl⟩;have e:h.choose=y:=by
  have q:=(mC.inj h.choose_spec.2).1;have q:=q
  injection q with q
  have q:=(mC.inj (mC.inj q).2).1
  injection q with q
  exact(g.ne y h.choose hy h.choose_spec.1 (aZ.inj q)).symm
 unfold oS;rw[dif_pos h,e]
theorem apD{k y e:Nat}(hy:y<5)(he:e<5):oU k [.str [.s y k 9],iN e]=some (.str [.s y k e]):=by
 have h:∃p:Nat×Nat,p.1<5/\p.2<5/\[V.str [.s y k 9],iN e]=[.str [.s p.1 k 9],iN p.2]:=⟨(y,e),hy,he,rfl⟩;have q:=h.choose_spec.2.2;have q1:=(mC.inj q).1;have q2:=(mC.inj (mC.inj q).2).1
 injection q1 with q1
 have q1:=(mC.inj q1).1
 injection q1 with q1
 injection q2 with q2
 have q2:=aZ.inj q2;unfold oU;rw[dif_pos h,<-q1,<-q2]
variable {w:bD}{d:Dat}{sa:HH w}
theorem Um:zd (C1 w (gH d) sa) 0 (Jy λ_=>none) where
 none:=λ_=>rfl
 ok:=λf vs v h=>by
  induction f using V.casesOn with
  | bh g=>
   have h:(match aG g 19 with|true=>none|false=>none)=some v:=h;cases q:aG g 19<;>rw[q]at h<;>exact au h
  | _=>exact au h
theorem K3{θ:Th}(y k h:Nat):den θ [.s y k h]=θ.s y k h:=by
 show θ.s y k h++[]=_
 rw[fS]
theorem apE(g:Good d){k:Nat}(hk:k<100000000000000):zd (C1 w (gH d) sa) 8 (Rv (oS d k) (oU k)) where
 none:=λ_=>rfl
 ok:=λf vs v h st=>by
  induction f using V.casesOn with
  | bh i=>
   have h:(match aG i 15 with|true=>oS d k vs|false=>match aG i 18 with|true=>oU k vs|false=>none)=some v:=h;induction q:aG i 15 with
   | true=>
    rw[q]at h
    have:=dj q
    subst this;refine fj (apA h) λy hy e1 e2=>?_
    subst e1 e2;have hr:KA (gH d) (λ_=>none) (0+1) (.bh 15) [dg d y,iN k] st=some (.str (uI (d.l y) [.c (d.s y)] [.c (d.u y)] k),st):=JA (a:=.str (ao (d.lead y))) rfl (g.l y hy) hk (Ay (xR _)) (Ay (xR _));have X:=(EM (w:=w) (sa:=sa) (EN d) Um 1).pos (.bh 15) [dg d y,iN k] st _ st hr;refine⟨X.1,λA σ s cf aU hA ht R hf hv=>K2 (X.2 A σ s cf aU (hA.le (by decide)) ht R hf hv) λcv aa s' z=>⟨z.1,EO z.2 ?_⟩⟩
    show den (gH d) (uI (d.l y) (ao [d.s y]) (ao [d.u y]) k)=den (gH d) [.s y k 9]
    rw[Jz,pw,K3,Uk]
   | false=>
    rw[q]at h;have h:=h;induction q2:aG i 18 with
    | false=>rw[q2]at h;exact au h
    | true=>
     rw[q2]at h
     have:=dj q2
     subst this;refine lZ (apB h) λy e hy he e1 e2=>?_
     subst e1 e2;have hr:KA (gH d) (λ_=>none) (0+2) (.bh 18) [.str (ao (fG (d.l y) [d.s y] [d.u y] k)),iN e] st=some (.str (ao (fG (d.l y) (ib (d.s y) e) [d.u y] k)),st):=Rk (g.l y hy) (g.u y hy) (g.s y hy) he;have X:=(EM (w:=w) (sa:=sa) (EN d) Um 2).pos (.bh 18) _ st _ st hr;refine⟨X.1,λA σ s cf aU hA ht R hf hv=>K2 (X.2 A σ s cf aU (hA.le (by decide)) ht R hf (apz hv ?_)) λcv aa s' z=>⟨z.1,EO z.2 ?_⟩⟩
     ·show den (gH d) [.s y k 9]=den (gH d) (ao _)
      rw[pw,K3,Uk]
     ·show den (gH d) (ao _)=den (gH d) [.s y k e]
      rw[pw,K3,Ul g k hy he]
  | _=>exact au h
theorem apF(b:Nat->Nat->Bool):∀(n y:Nat) (p:List Nat) (z:Nat),.nm z∈JM b n y p->z<y+n:=by
 have pop:∀(y:Nat) (p:List Nat) (z:Nat),Tok.nm z∈(wV b y p).2->False:=by
  intro y p;induction p with
  | nil=>exactλz h=>nomatch h
  | cons x p ih=>
   intro z h;unfold wV at h;induction q:b x y with
   | true=>rw[q]at h;exact nomatch h
   | false=>
    rw[q]at h;rcases cW.mp h with e|e
    ·exact nomatch e
    ·exact ih z e
 intro n;induction n with
 | zero=>
  intro y p z h;refine ah (dF.mp h) λ_ _ e=>?_
  exact nomatch e
 | succ n ih=>
  intro y p z h;rcases dc.mp h with h|h
  ·exact absurd h λq=>pop y p z q
  ·rcases cW.mp h with e|h
   ·exact nomatch e
   ·rcases cW.mp h with e|h
    ·cases e;lia
    ·have:=ih _ _ _ h;lia
theorem apG(b:Nat->Nat->Bool){z:Nat}(h:Tok.nm z∈kE b):z<5:=by
 rcases dc.mp h with h|h
 ·rcases cW.mp h with e|h
  ·exact nomatch e
  ·have:=apF b 5 0 [] z h;omega
 ·exact nomatch cO.mp h
theorem apH{α β:Type}{f g:α->List β}{l:List α}(h:∀t∈l,f t=g t):l.flatMap f=l.flatMap g:=by
 induction l with
 | nil=>rfl
 | cons a l ih=>rw[j0,j0,h a bT,ih λt ht=>h t (bL _ ht)]
theorem apI(θ:Th)(x:Tx):den θ x=x.flatMap (At.den θ):=by
 induction x with
 | nil=>rfl
 | cons a x ih=>rw[j0,<-ih];rfl
theorem apJ(g:Good d)(bl:List Bool)(k:Nat):den (gH d) (uL (bt bl) k (k%5))=qQ d bl k:=by
 unfold uL qQ;rw[apI,List.flatMap_map];refine apH λt ht=>?_
 induction t with
 | op=>rfl
 | sh=>rfl
 | nm y=>exact Ul g k (apG _ ht) (lX _ (by decide))
theorem Un(k:Nat):jK (vj (aZ k) 5)=k%5:=by cases k<;>rfl
theorem Uo(g:Good d)(k:Nat)(n:Nat):xg d k (KD (gH d) (oS d k) (oU k) (n+1)) where
 ty:=λy hy st=>by
  show(match oS d k [dg d y,iN k]with|some v=>some (v,st)|none=>_)=_
  rw[apC g hy]
 es:=λy hy st=>by
  show(match oU k [.str [.s y k 9],iN (k%5)]with|some v=>some (v,st)|none=>_)=_
  rw[apD hy (lX _ (by decide))]
theorem apK(g:Good d){vs:List V}(h:zK d vs)(st:St):∃k bl,k<100000000000000/\KD (gH d) (oS d k) (oU k) 12 (.bh 19) vs st=some (.str (uL (bt bl) k (k%5)),st)/\qQ d bl k=qQ d (JU (vs.getD 1 .none)) (JV vs):=by
 induction h with
 | lf f k hk=>
  refine rz k (ee f) (by lia) ?_ rfl;rw[S0 (Uo g k 10)]
  have:=afW (θ:=gH d) (ty:=oS d k) (es:=oU k) (d:=d) f (n:=0) (k:=k) (st:=st)
  rw[Un]at this;exact this
 | dp dp w k hk hd=>
  refine rz k (ee (oC dp)) (by lia) ?_ rfl;rw[S0 (Uo g k 10)]
  have:=cV (congrFun (congrFun (congrFun (congrFun (congrFun (congrFun (congrFun (congrFun afV (gH d)) (oS d k)) (oU k)) d) w) 0) k) st) hd
  rw[Un]at this;exact this
theorem apL(g:Good d):zd (C1 w (gH d) sa) 56 (Jy (kf d)) where
 none:=λ_=>rfl
 ok:=λf vs v h st=>by
  induction f using V.casesOn with
  | bh i=>
   have h:(match aG i 19 with|true=>kf d vs|false=>none)=some v:=h;induction q:aG i 19 with
   | false=>rw[q]at h;exact au h
   | true=>
    rw[q]at h
    have:=dj q
    subst this;have h:kf d vs=some v:=h;unfold kf at h;split at h
    ·rename_i hd
     have h:=aI h;refine lY (apK g hd st) λk bl hk hr e=>?_
     have X:=(EM (w:=w) (sa:=sa) (EN d) (apE g hk) 12).pos (.bh 19) vs st _ st hr;refine⟨X.1,λA σ s cf aU hA ht R hf hv=>K2 (X.2 A σ s cf aU (hA.le (by decide)) ht R hf hv) λcv aa s' z=>⟨z.1,?_⟩⟩;refine bX (h) ?_;refine EO z.2 ?_
     show den (gH d) (uL (bt bl) k (k%5))=den (gH d) (ao _)
     rw[apJ g,pw,e]
    ·exact au h
  | _=>exact au h
theorem apM(g:Good d)(n:Nat):fq (C1 w (gH d) sa) (4*n+56) (KT (gH d) d n):=EM (EN d) (apL g) n
end
end Internal.L1
namespace Internal.Hd
open PySem PySem.W PyProof.Rows Internal.L2
set_option maxHeartbeats 4000000 in
theorem apN(hc:∀d kwd,defOf qv xi.name=some (d,kwd)->WalkX qv jf (XL qv []) ED EE xi.toRowW d kwd λf vs=>PySem.call f vs):PySem.Challenge.rw_tc0089_01.Holds:=by
 w_on
 refine holds_law (by decide +kernel) λarV=>holds_openX (r:=xi) (q:=qv) (loose:=jf) (Xt:=xj) (XP:=XL qv []) (Yf:=ED) (Ya:=EE) (N:=100000) anS (λs e=>xl_of s (aqs.mp e).1) XL.keeps (by rfl) (by rfl) (by rfl) (λs e=>recFacts_of (aqs.mp e).2) (by rfl) (by assumption) (by decide +kernel) ⟨rfl,rfl,rfl,rfl,rfl,by decide +kernel⟩ ?hw (hc _ _ rfl)
 w_witness2
end Internal.Hd
namespace Internal.L1
open Internal Internal.L2 Internal.Hd PySem PySem.W PyProof.Rows
theorem apO{C:Cx}{σ:Sg}{vs:List ac}{ns:List Int}(h:Ac vs ns):az C σ (d8 ns) vs:=by
 induction h with
 | nil=>exact .nil
 | cons n t _ ih=>exact .cons (.int n t) ih
theorem apP{h:cD}{a:al}{m m':ai->Option ac}(x:h.Ns a m)(y:h.Ns a m'):m=m':=x.eq_nsMap.trans y.eq_nsMap.symm
noncomputable section
def lO(w:bD):HH w:=⟨d4 w,λa o h hl=>by
 show(match(im (iR w.params))[a]? with|some ⟨_,_,.freed,_⟩=>none|o=>o)=some o
 rw[show(im (iR w.params))[a]?=some o by rw[<-h];simp];obtain⟨c,d,dt,sl⟩:=o;cases dt<;>first|rfl|cases hl⟩
theorem apQ{w:bD}{a:Nat}{o:aT}(e:(d4 w).get? a=some o):live o=true:=by
 have e:(match(im (iR w.params))[a]? with|some ⟨_,_,.freed,_⟩=>none|o=>o)=some o:=e;split at e
 ·exact au e
 ·rename_i q
  rw[e]at q;obtain⟨c,d,dt,sl⟩:=o;cases dt<;>first|rfl|exact absurd rfl (q _ _ _)
section
variable {w:bD}{θ:Th}{d7:ak}{l:al}{vs:List ac}{ns:List Int}
theorem apR(Y:∀a o,(d4 w).get? a=some o->d7.heap.get? a=some o)(hl:d7.heap.get? l=some (jO vs.toArray 0))(hf:(d4 w).get? l=none) :
  Rep (C1 w θ (lO w)) ⟨[],[(l,jO vs.toArray 0)]⟩ ⟨[],0⟩ d7:=by
 have Up:∀t o,(d4 w).get? t=some o->t≠l:=λt o e q=>by rw[q,hf]at e;exact au e
 have xo:=(lO w).2 223 _ rfl rfl;have xr:=(lO w).2 242 _ rfl rfl;have EP:(d4 w).get? 227=some (Ez w.params):=(lO w).2 227 _ rfl rfl;have EQ:(d4 w).get? 246=some (EA w.params):=(lO w).2 246 _ rfl rfl;refine⟨rfl,rfl,λi w' e=>(by simp at e),tC,(λ_z q=>nomatch q),λx hx=>?_,λb o e _z=>Y b o e,λt ht=>?_,λct m=>?_⟩
 ·refine ab (cO.mp hx) ?_;refine⟨hl,(λq=>nomatch q),?_,hf⟩;intro m;rcases cW.mp m with q|q
  ·exact Up _ _ xo q.symm
  ·exact Up _ _ xr (cO.mp q).symm
 ·rcases cW.mp ht with q|q
  ·exact ab (q) (vx (#[]) (#[]) xo (Y _ _ xo))
  ·exact ab (cO.mp q) (vx (#[]) (#[]) xr (Y _ _ xr))
 ·rcases cW.mp m with q|q
  ·rw[q];refine⟨bT,(by show 227∉[223,242];decide),by show((d4 w).get? 227).isSome=true;rw[EP];rfl,#[],⟨_,_,_,_,_,_,_,_,_,_,Y _ _ EP,rfl,rfl,rfl,rfl,rfl,rfl,Y _ _ xo,rfl,trivial,by decide⟩,λpos c h=>by cases h⟩
  ·rw[cO.mp q];refine⟨bL _ bT,(by show 246∉[223,242];decide),by show((d4 w).get? 246).isSome=true;rw[EQ];rfl,#[],⟨_,_,_,_,_,_,_,_,_,_,Y _ _ EQ,rfl,rfl,rfl,rfl,rfl,rfl,Y _ _ xr,rfl,trivial,by decide⟩,λpos c h=>by cases h⟩
theorem apS{aa:Sg}{s':ak}{φ:List (al×aT)}(Y:∀a o,(d4 w).get? a=some o->d7.heap.get? a=some o)(X:Step (C1 w θ (lO w)).tabs ⟨[],φ⟩ aa d7 s'){am:St}(R':Rep (C1 w θ (lO w)) aa am s'):OldK d7.heap s'.heap:=by
 have xo:=(lO w).2 223 _ rfl rfl;have xr:=(lO w).2 242 _ rfl rfl;have EP:=(lO w).2 227 _ rfl rfl;have EQ:=(lO w).2 246 _ rfl rfl;have old:∀b o,d7.heap.get? b=some o->asItWas d7.heap s'.heap b o/\∃o',s'.heap.get? b=some o':=λb o e=>by
  have one:∀t c oc,(d4 w).get? t=some (t4 #[])->(d4 w).get? c=some oc->b=t->oc.cls=.type "code" -> (∃cv,oc.data=.fields cv/\cv[11]?=some (.ref t))->t∈(C1 w θ (lO w)).tabs->asItWas d7.heap s'.heap b o/\∃o',s'.heap.get? b=some o':=by
   intro t c oc ht hc hb hcl ⟨cv,hcv,xW⟩ hm;subst hb;refine be (R'.code.1 b hm) λps more q1 q2=>?_
   have q1:(d4 w).get? b=some (t4 ps):=q1;rw[ht]at q1;have qx:=mH.inj q1;have ho:=mH.inj (e.symm.trans (Y _ _ ht));have Cr:(#[]:Array ac)=ps:=by
    have:=congrArg Obj.data qx
    injection this
   subst Cr ho;exact⟨.inr (.inl ⟨⟨c,oc,cv,Y _ _ hc,hcl,hcv,xW⟩,rfl,#[],more,rfl,q2⟩),_,q2⟩
  by_cases m:b∈(C1 w θ (lO w)).tabs
  ·have m':b∈[223,242]:=m;rcases cW.mp m' with q|q
   ·exact one 223 227 _ xo EP q rfl (aW _ rfl rfl) bT
   ·exact one 242 246 _ xr EQ (cO.mp q) rfl (aW _ rfl rfl) (bL _ bT)
  ·have:=X.keep b o e (λq=>nomatch q) m
   exact⟨.inl this,o,this⟩
 exact⟨λb o e=>(old b o e).1,λb o e=>(old b o e).2⟩
end
set_option maxHeartbeats 4000000 in
theorem walk1(d:DefRec)(kwd:List (ai×PySem.Expr))(Iw:defOf qv xi.name=some (d,kwd)):WalkX qv jf (XL qv []) ED EE xi.toRowW d kwd λf vs=>PySem.call f vs:=by
 intro w s₀ d7 mg mb G Y a o pm cd doc dV kV ho hd jr hD Ab hg args vals as L apT apU hrd hwl Ht;have hn:=defOf_name Iw
 wrow_args apT apU hrd hwl Ht
 rename_i ns hs arW hL1 hr1 m9 as4 as3 l items CO hL ra w1 r0 hI hr su sx
 have ht:=X.script_toks L (congrArg AA Y);have Uq:s₀.heap.objs.toList=iR w.params:=congrArg Fx Y;have apV:=X.script_obj L hL;have on:=(X.script_at L).1;have apW:(iR w.params).length=l:=by rw[<-Uq,on];rfl
 have hf:(d4 w).get? l=none:=by
  induction e:(d4 w).get? l with
  | none=>rfl
  | some o=>
   have:=(gW.mp (KW e)).1
   exact(FB this (lV apW)).elim
 have Yk:∀b o,(d4 w).get? b=some o->d7.heap.get? b=some o:=λb o e=>L.keeps b o (by
  have e1:=KW e;rw[<-Uq]at e1;have e2:=apQ e
  show(match s₀.heap.objs[b]? with|some ⟨_,_,.freed,_⟩=>none|o=>o)=some o
  rw[show s₀.heap.objs[b]?=some o by rw[<-e1];simp];obtain⟨c,d,dt,sl⟩:=o;cases dt<;>first|rfl|exact bV e2)
 have apX:mg=pK w:=apP G.T.g ((Heap.Ns.of_isNs (k3 w)).keeps Yk);have ha:pc a=G1 24:=by
  have h1:pK w (nK "law")=some (G1 24):=T3 24 _ rfl;rw[apX,hn]at Ab;have Ab:pK w (nK "law")=some (pc a):=Ab;rw[h1]at Ab;exact(mH.inj Ab).symm
 have pt:ns.length<=63:=by lia
 refine ah (ajP ns pt) λdt g apY=>?_
 have ot:=ajw (θ:=gH dt) (n:=0) g (apY (gH dt) 2 dm);have R:=apR (θ:=gH dt) Yk apV hf;have A72:cC 72 callerA:=⟨rfl,by decide,by decide⟩;have X1:=(apM (w:=w) (sa:=lO w) g 4).pos (.bh 24) [.fl (d8 ns)] dm _ dm ot;have D:=X1.2 callerA _ d7 _ [.ref l] A72 (L0 ht) R (.bh 24) (.cons (.fl (cO.mpr rfl) (apO hI)) .nil);refine ab (ha) ?_;refine wpAny_call (s9 D λr s' ag=>lZ ag λv aa q X' R' V=>?_);subst q;refine VR.vX V ?_;refine fL X'.same λh' tk io=>⟨.inl (Ml (.bool true) (.bool true) ([]) rfl (λcls=>rfl) (.bool true) ?_ (λ_=>⟨tC,λ_ q=>nomatch q⟩)),apS Yk X' R',?_,?_⟩
 ·first|kernel_rfl|wrow_post
 ·rw[io]
 ·rw[io];exact .of_eq hg
end
theorem apZ:PySem.Challenge.rw_tc0089_01.Holds:=apN walk1
end Internal.L1
theorem PySem.Challenge.cw_tc0089_01_holds : PySem.Challenge.rw_tc0089_01.Holds :=
  Internal.L1.apZ
