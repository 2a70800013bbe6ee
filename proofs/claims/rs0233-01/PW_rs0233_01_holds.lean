import PyProof.Rows.All
import Wide.All
import OpenK.AllK
import Wide.FinOn
import PySem.Challenge.RW_rs0233_01
open And renaming intro->zO
open Array renaming length_toList->fh,getElem?_eq_getElem->lZ,getElem?_push_size->xQ,toList->zw,toList_inj->G4,size_push->Ho
open Bool renaming false_eq_true->cb,and_eq_true->cq,and_eq_true_iff->dU,false_ne_true->gE,or_eq_true->iO,and_true->kh,eq_iff_iff->oK,and_false->pE,or_false->ya,eq_false_iff->G0,decide_or->KG
open Classical renaming byContradiction->cE
open Decidable renaming byContradiction->sS
open Except renaming ok->r8
open ForInStep renaming yield->fD
open Function renaming comp->lF
open Int renaming le_of_eq->af,le_antisymm->aE,toNat_of_nonneg->aG,le_max_right->br,self_le_toNat->bz,le_max_left->bO,le_trans->bX,lt_or_gt_of_ne->cy,max_le->cD,le_total->cT,max_eq_right->dW,max_eq_left->et,toNat_le->eR,toNat_of_nonpos->fq,toNat_natCast->hJ,not_lt->ie,le_of_lt_add_one->ig,not_le->i9,natAbs_natCast->ja,ofNat->jb,le_refl->jc,zero_sub->jz,sub_le_sub->jA,add_zero->jC,mul_comm->ll,natCast_nonneg->lY,min_le_right->nI,ofNat_le->oJ,zero_add->su,add_assoc->zv,toNat->zL,fmod_nonneg_of_pos->Bj,mul_add->DF,add_le_add_right->DG,fmod_lt_of_pos->GZ,min_eq_right->Jz,min_le_left->KC,min_eq_left->KD
open List renaming length_map->ai,getElem?_eq_getElem->aj,getD_eq_getElem?_getD->ak,mem_cons->au,getElem?_map->av,mem_map->aw,mem_singleton->aA,range->aB,map_map->aM,map_cons->aO,length_cons->aQ,all_eq_true->aT,mem_range->aW,length_append->a8,length_filter_le->ba,replicate->bf,not_mem_nil->bo,mem_filter->bw,length_replicate->bA,range'->bB,mem_of_getElem?->bI,replicate_succ->bM,mem_append->bN,getElem?_eq_none->cf,mem_cons_self->cw,getElem?_eq_some_iff->cI,getElem?_range->cQ,mem_range'_1->cR,length_range'->cY,all_cons->c9,take_of_length_le->df,getElem_mem->dg,length_range->ec,flatten_cons->ee,map_congr_left->ef,foldl_cons->ei,lookup_cons->eF,filter_cons->eG,count_replicate->eV,size_toArray->fe,length_nil->ff,nodup_cons->fS,map_append->fU,filterMap_cons_none->gb,mem_replicate->gC,drop_of_length_le->gD,append_nil->gT,length_pos_iff->iA,filterMap_cons_some->iI,forIn_cons->iM,find?_cons->iN,length_eq_zero_iff->i7,length->i8,length_eq_one_iff->jq,forIn_nil->jr,ext_getElem?->js,cons_append->jZ,sum_cons->kg,range_eq_range'->kk,mem_append_left->kl,getElem?_range'->km,of_mem_zip->kE,idxOf_lt_length_of_mem->k8,pairwise_cons->lE,mem_of_find?_eq_some->md,getElem?_eq_none_iff->me,filter_congr->mC,count_append->mD,append_assoc->mE,any_eq_false->mF,isEmpty_nil->ni,ext_getElem->nj,length_pos_of_mem->nX,nil_append->oG,count_cons->oH,all_append->oI,idxOf_le_length->pD,getElem_of_mem->qb,filterMap_cons->qc,any_cons->qU,lookup_append->rb,count_pos_iff->rd,pairwise_map->r6,all_nil->r7,range'_succ->sN,mem_flatMap->sO,map_flatMap->sP,length_drop->sQ,getD->sR,drop_zero->wO,getElem?_append_left->xO,count_replicate_self->xP,map_take->x9,getElem?_cons_zero->zu,toArray->zH,not_of_lt_findIdx->zI,map_nil->zJ,filter_eq_nil_iff->zK,mem_iff_getElem?->Bg,mem_append_right->Bh,length_singleton->Bi,mem_of_mem_drop->Cu,lookup->Cv,drop_eq_nil_iff->Cw,mem_map_of_mem->DA,filter_eq_self->DB,eraseDups_cons->DC,map_inj_right->DU,getElem_idxOf->DV,getElem?_drop->DW,forIn_toArray->DX,foldl->DY,count_eq_zero->DZ,reverse_cons->GW,nodup_append->GX,flatMap_cons->GY,prefix_refl->Hh,mem_flatten->Hi,map_flatten->Hj,length_take->Hk,drop_subset->Hl,any_eq_true->Hm,length_zip->Jy,nodup_nil->Ky,filterMap->Kz,drop_drop->KA
open List.Perm renaming cons->DE
open Max renaming max->aF
open Min renaming min->iy
open Nat renaming le_of_eq->ah,le_antisymm->ar,le_trans->aP,sub_add_cancel->aV,le_of_not_lt->aY,ne_of_lt->bg,lt_or_gt_of_ne->bj,le_refl->bL,add_le_add_left->cB,le_max_left->de,mul_comm->dM,mod_lt->dQ,le_max_right->eN,le_total->fA,zero_le->fC,mul_div_le->fF,lt_of_lt_of_le->fG,lt_of_le_of_lt->fH,sub_eq_zero_of_le->fJ,zero_add->fW,lt_or_ge->fX,lt_of_not_le->gw,le_add_right->gx,ne_of_gt->gP,add_le_add->ic,min_le_right->iv,min_eq_right->iw,max_eq_right->ix,mul_le_mul_left->iE,lt_irrefl->iL,max_le->i6,lt_succ_of_lt->jy,succ_le_succ->kf,min_le_left->kU,min_eq_left->kW,max_eq_left->kX,add_zero->lj,sub_le->lX,div_eq_of_lt->nH,beq->oF,mul_le_mul->p8,add_lt_add_left->qT,add_assoc->ra,lt_succ_self->uR,mul_lt_mul_of_pos_left->xM,le_mul_of_pos_right->zF,add_sub_cancel_left->zG,zero_mul->Ba,rec->Bb,le_of_lt->Bc,blt->Be,add_comm->Bf,le_of_ble_eq_true->Ct,one_mul->Dy,div_le_div_right->Dz,lt_mul_div_succ->DT,pos_of_ne_zero->GS,not_lt->GU,add_right_comm->GV,le_of_lt_succ->Hf,add_div_right->Hg,succ_ne_self->Jx,not_lt_zero->Kw,div_le_self->Kx
open Option renaming none->aD,ne_none_iff_exists'->cX,map_eq_some_iff->fm,bind_some->jL,getD_some->DR,getD_none->DS
open Option.some renaming inj->cg,injEq->x7
open PUnit renaming unit->Dv
open Prod.mk renaming injEq->He
open PyProof.Rows renaming add_str->uW,wpAny_releaseD->A0,tail_any->A2,Attribute_any_->Bl,listUpdate_at->Dt,seqEpoch_at->Js
open PyProof.Rows.AllBare renaming push->JA
open PyProof.Rows.KTD renaming Dat->Kv
open PyProof.Rows.KTD.Dat renaming flat->oE
open PySem renaming wpAny_bind->aa,wpAny_pure->ao,NameKind->aC,starEach->aI,wpAny_holding->aL,wpAny_standAt->aZ,assignEach->bk,sizeLine_eq->bu,attributeBase->bx,assign->bE,foldedSetIterable->bH,mainGlobals->bV,compareOp->cc,DictEntry->cz,builtinsNs->cP,swappedStores->cS,Builtin->dz,wpAny_mono->dC,wpAny_field->dD,standAt->dE,sliceBounds->dF,keywordEach->dG,getItem->dI,Comprehension->dT,methodCallForm->eB,codeAny->eC,cellsFrom->eD,bindArgs->eQ,methodCall->eX,swapsWithSole->fI,wpAny_call->fQ,callWith->fR,theTreesLotGoes->gi,swapsWith->gj,codeAny_of_tree->gk,getAttr->gn,backToKw->gp,Program->gr,wpAny_seqItems->gI,wpAny_loadPart->gJ,wpAny_execs_cons->gK,wpAny_callSpecial?_slot->gM,wpAny_nextOf_list_item->gZ,builtinLookup_eq_fast->ib,wpAny_pyIter_list->ik,IsRangeIter->iF,noteFrame->iK,wpAny_Assign_stores->i0,methodCallPos->ji,binaryOp->jj,behindInMarks->jk,wpAny_execs_nil->jm,letOwnedTupleGo->jn,wpAny_newTuple->ka,wpAny_loadPart_at->kb,callEnvC->ke,wpAny_call_entry->kS,typeLookup->kT,wpAny_onRaise->kY,sizeLine->lg,wpAny_updateSeq->lT,typeLookup_type->lU,wpAny_setField_rec->mX,wpAny_rule->mY,typeIs_str->m5,sliceRange->m6,call_meets->m7,wpAny_noted->nM,wpAny_newObj_type->nN,wpAny_Return_some->nO,getMethod_builtin->nP,wpAny_newList->oC,wpAny_askSetting->pf,strValues->pg,compStart->pn,wpAny_mkText->pX,aRefKeyMayBeTheName_at->p7,wpAny_pyNext_list_end->qS,wpAny_Expr_any->rK,codeAny_call_builtin->rM,calleeOf->rN,wpAny_isSubtype_exc->sr,wpAny_attempt->sL,wpAny_Name->uP,wpAny_truthy_bool->vD,wpAny_updatePart->xA,wpAny_pyIter_zip->xB,wpAny_lookBehind->xC,updateSeq->xD,pastItsLine_dict->xE,getMethod->xF,assign_Attribute->xG,wpAny_letGo->xT,wpAny_specialOf->zp,importedModules->zq,forTurn->zB,UnaryOp->zD,wpAny_setField->AZ,wpAny_load->A1,sliceRange_one->A3,letTemporaryGo->A4,evalPairs_cons->A7,compTurn->A8,FuncData->Bk,nums_intItems->Ds,assignInOrder->Du,ExceptHandler->DI,setFlight->DO,typeIs_bool->DQ,wpAny_pyNext_list_item->GN,wpAny_getItem_list_neg->GO,codeAny_compStart_list->GQ,wpAny_isTrue_Compare1->Hc,wpAny_tryStmt_except->Jn,wpAny_of_eq->Jo,wpAny_alloc->Jp,wpAny_BinOp->Jq,unpackItems->Jr,numAt_eq->Ju,cStatics->Jv
open PySem.Around renaming under_of_weight->nk,under_plainId->zM,frames_deeper->zN
open PySem.Builtin.List renaming listExtendWith->jM,listLengthHint->qV,listSameRef->r9,listItems->sT
open PySem.Builtin.Range renaming rangeSize->eE,small->gU,rangeFitsLong->qd
open PySem.Builtin.SmallTypes renaming nextOf->bG,ownedTupleIsFree->cv,ownedTupleHandOut->lG,iterAll->xX
open PySem.Builtin.Str renaming strSliceIndices->lV,tooLong->GP
open PySem.Calls renaming spliced_cons->dO,spliced_nil->d9,call_len_list->Cy
open PySem.Challenge renaming rw_rs0233_01->fV
open PySem.Code renaming quiet_builtin->D1
open PySem.F renaming type_str_join->gN,slot_str_join->gO,slot_str_split->i5,args_str_split_2->lW,slot_list_index->mA,entry_str_split->mB,type_list_index->wK,slot_dict_items->wL,args_list_add_2->wM,args_int_rmul_2->wN,slot_bool_rmul->xH,entry_list_add->xI,entry_int_rmul->xJ,args_str_mul_2->xK,slot_list_add->xY,slot_int_rmul->x4,entry_str_mul->x5,slot_str_mul->zt
open PySem.Heap renaming get?_push_of_some->aH,get?_push_size->bC,lt_size->bJ,get?_update_self->bK,get?_update_other->ct,size_push->cZ,SameBut->ft,get?_push_ne->hH,size_update->j0,ExtBut->uS,get?_update_ne->DH,push->Hn
open PySem.Heap.SameBut renaming update->dR
open PySem.NameKind renaming «local»->ae,globalImplicit->ag,cell->aq,free->cM
open PySem.Obj renaming mapSeq->c8,mapFields->qZ,isFreed_of_fields->Cs,putName->Dw,data_mapFields->GR
open PySem.PyData renaming keyHash->du
open PySem.ScopeKind renaming isAnnotationScope->r5
open PySem.Sre renaming inSet->qa,forSearch->zr,M->zE
open PySem.Sre.M renaming admitted->Jw
open PySem.Str renaming ofString->J
open PySem.StrLaws renaming glued_eq_join->xW
open PySem.Txt renaming split->p9
open PySem.Value renaming none->d7,ref->kZ,type->lh,isStr->sM
open PySem.W renaming callWith_of->d6,looks_findIn->hF,SharedT->jo,instObj->kc,putName_dict->mz,hasDictIn->pj,takerIn->pY,plainGet_of->rL,InstAt->uQ,looks_clsIn->xU,findObj_own->xV,absHeap->zC,kas_sort->A5,handedIn->A6,codeRec_of->A9,plainOver->DP,plainGet->Jt
open PySem.W.Fast renaming te14364793385576792824->nD,te14289696077712309145->nE,te11892475500146522536->nF,te10156331382660048174->nG,te8920871248978507458->nQ,te6613529449190102663->nR,te5923862056798008813->nS,te4187177175401517315->nV,te1435165496053646825->nW
open PySem.W.Looks renaming now->x8
open PySem PySem.W PyProof.Rows
set_option Elab.async false
set_option compiler.extract_closed false
set_option maxHeartbeats 0
set_option genSizeOf false
set_option tactic.hygienic false
set_option maxRecDepth 100000
set_option linter.unusedVariables false
namespace Mine
section
section
set_option genSizeOf false
set_option genInjectivity false
inductive Nx|v(i:Nat)|n(k:Nat)|a(x y:Nx)|m(k:Nat)(x:Nx)
inductive Zx|c(x:Nx)|v(i:Nat)|n(k:Int)|a(x y:Zx)|s(x y:Zx)|m(k:Int)(x:Zx)
inductive Hs|e|n(k:Nat)(x y:Nx)(r:Hs)|z(k:Nat)(x y:Zx)(r:Hs)
structure Po where
 k:Int
 n:List Int
 z:List Int
end
noncomputable def Nx.N(c:List Nat)(x:Nx):Nat:=Nx.rec (λi=>c.getD i 0) (λk=>k) (λ_ _ x y=>x+y) (λk _ x=>k*x) x
noncomputable def Zx.Z(c:List Nat)(d:List Int)(x:Zx):Int:=Zx.rec (λx=>(x.N c:Int)) (λi=>d.getD i 0) (λk=>k) (λ_ _ x y=>x+y) (λ_ _ x y=>x-y) (λk _ x=>k*x) x
noncomputable def un(i:Nat):List Int:=Bb [1] (λ_ r=>0::r) i
noncomputable def pa(p:List Int):List Int->List Int:=List.rec (λq=>q) (λx p r q=>List.casesOn q (x::p) λy q=>(x+y)::r q) p
noncomputable def dot(p:List Int):List Int->Int:=List.rec (λ_=>0) (λx _ r c=>List.casesOn c 0 λy c=>x*y+r c) p
noncomputable def Po.a(x y:Po):Po:=⟨x.k+y.k,pa x.n y.n,pa x.z y.z⟩
noncomputable def Po.m(k:Int)(x:Po):Po:=⟨k*x.k,x.n.map (k* ·),x.z.map (k* ·)⟩
noncomputable def Po.s(x y:Po):Po:=x.a (.m (-1) y)
noncomputable def Po.ev(c:List Nat)(d:List Int)(x:Po):Int:=x.k+dot x.n (c.map Nat.cast)+dot x.z d
noncomputable def Nx.p(x:Nx):Po:=Nx.rec (λi=>⟨0,un i,[]⟩) (λk=>⟨k,[],[]⟩) (λ_ _ x y=>x.a y) (λk _ x=>x.m k) x
noncomputable def Zx.p(x:Zx):Po:=Zx.rec Nx.p (λi=>⟨0,[],un i⟩) (λk=>⟨k,[],[]⟩) (λ_ _ x y=>x.a y) (λ_ _ x y=>x.s y) (λk _ x=>x.m k) x
noncomputable def Hs.p(x:Hs):Po:=Hs.rec ⟨0,[],[]⟩ (λk x y _ r=>((y.p.s x.p).m k).a r) (λk x y _ r=>((y.p.s x.p).m k).a r) x
noncomputable def Hs.D(c:List Nat)(d:List Int)(P:Prop)(x:Hs):Prop:=Hs.rec P (λ_ x y _ r=>x.N c<=y.N c->r) (λ_ x y _ r=>x.Z c d<=y.Z c d->r) x
noncomputable def Po.ok(k:Nat)(x:Po):Bool:=decide (x.k+1<=k)&&x.n.all (λi=>decide (i<=0))&&x.z.all (λi=>decide (i=0))
theorem a4(a b c d:Int):(a+b)+(c+d)=(a+c)+(b+d):=by rw[zv,zv,Int.add_left_comm b]
theorem P7(c:List Int):dot [] c=0:=rfl
theorem zP:∀(c:List Int) (i:Nat),dot (un i) c=c.getD i 0
 |[],0=>rfl
 |[],_+1=>rfl
 |x::c,0=>show 1*x+0=x from(jC _).trans (Int.one_mul x)
 |x::c,i+1=>show 0*x+dot (un i) c=_ from(congrArg (·+dot (un i) c) (Int.zero_mul x)).trans ((su _).trans (zP c i))
theorem vF:∀(c:List Nat) (i:Nat),(c.map (Nat.cast:Nat->Int)).getD i 0=((c.getD i 0:Nat):Int)
 |[],_=>rfl
 |x::c,0=>rfl
 |x::c,i+1=>vF c i
theorem zQ:∀(p q c:List Int),dot (pa p q) c=dot p c+dot q c
 |[],q,c=>(su _).symm
 |x::p,[],c=>(jC _).symm
 |x::p,y::q,[]=>rfl
 |x::p,y::q,z::c=>show(x+y)*z+dot (pa p q) c=(x*z+dot p c)+(y*z+dot q c) by rw[zQ p q c,Int.add_mul,a4]
theorem zR(k:Int):∀(p c:List Int),dot (p.map (k* ·)) c=k*dot p c
 |[],c=>(Int.mul_zero k).symm
 |x::p,[]=>(Int.mul_zero k).symm
 |x::p,y::c=>show k*x*y+dot (p.map (k* ·)) c=k*(x*y+dot p c) by rw[zR k p c,DF,Int.mul_assoc]
theorem CA(c:List Nat)(d:List Int)(x y:Po):(x.a y).ev c d=x.ev c d+y.ev c d:=by
 show x.k+y.k+dot (pa x.n y.n) _+dot (pa x.z y.z) d=x.k+dot x.n _+dot x.z d+(y.k+dot y.n _+dot y.z d); rw[zQ,zQ,a4 x.k,a4]
theorem D2(c:List Nat)(d:List Int)(k:Int)(x:Po):(x.m k).ev c d=k*x.ev c d:=by
 show k*x.k+dot (x.n.map (k* ·)) _+dot (x.z.map (k* ·)) d=k*(x.k+dot x.n _+dot x.z d); rw[zR,zR,DF,DF]
theorem KH(c:List Nat)(d:List Int)(x y:Po):(x.s y).ev c d=x.ev c d-y.ev c d:=by
 rw[Po.s,CA,D2,Int.neg_mul,Int.one_mul]; rfl
theorem Hp(c:List Nat)(d:List Int)(k:Int):Po.ev c d ⟨k,[],[]⟩=k:=(jC _).trans (jC _)
theorem D3(c:List Nat)(d:List Int)(x:Nx):x.p.ev c d=x.N c:=by
 induction x with
 |v i=>exact(jC _).trans ((su _).trans ((zP _ i).trans (vF c i)))
 |n k=>exact Hp c d k
 |a x y hx hy=>exact(CA c d x.p y.p).trans (hx▸hy▸rfl)
 |m k x hx=>exact(D2 c d k x.p).trans (hx▸rfl)
theorem Hq(c:List Nat)(d:List Int)(x:Zx):x.p.ev c d=x.Z c d:=by
 induction x with
 |c x=>exact D3 c d x
 |v i=>exact(su _).trans (zP _ i)
 |n k=>exact Hp c d k
 |a x y hx hy=>exact(CA c d x.p y.p).trans (hx▸hy▸rfl)
 |s x y hx hy=>exact(KH c d x.p y.p).trans (hx▸hy▸rfl)
 |m k x hx=>exact(D2 c d k x.p).trans (hx▸rfl)
theorem Bm:∀(c:List Nat) (p:List Int),p.all (λi=>decide (i<=0))=true->dot p (c.map Nat.cast)<=0
 |_,[],_=>jc _
 |[],_::_,_=>jc _
 |x::c,y::p,h=>have h:=dU.mp h
  Int.add_le_add (Int.mul_nonpos_of_nonpos_of_nonneg (of_decide_eq_true h.1) (lY x)) (Bm c p h.2)
theorem Bn:∀(c p:List Int),p.all (λi=>decide (i=0))=true->dot p c=0
 |_,[],_=>rfl
 |[],_::_,_=>rfl
 |x::c,y::p,h=>have h:=dU.mp h
  show y*x+dot p c=0 by rw[of_decide_eq_true h.1,Bn c p h.2,Int.zero_mul]; rfl
theorem KI{c:List Nat}{d:List Int}{P:Prop}(r:Hs):(0<=r.p.ev c d->P)->r.D c d P:=by
 have key:∀(k:Nat) (x y r:Po),x.ev c d<=y.ev c d->0<=r.ev c d->0<=(((y.s x).m k).a r).ev c d:=λk x y r g q=>by
  rw[CA,D2,KH]
  exact Int.add_nonneg (Int.mul_nonneg (lY k) (Int.sub_nonneg_of_le g)) q
 induction r with
 |e=>exact λh=>h (af (Hp c d 0).symm)
 |n k x y r ih=>exact λh g=>ih λq=>h (key k x.p y.p r.p (by rw[D3,D3]; exact oJ.mpr g) q)
 |z k x y r ih=>exact λh g=>ih λq=>h (key k x.p y.p r.p (by rw[Hq,Hq]; exact g) q)
theorem JB{c:List Nat}{d:List Int}{k:Nat}{x:Po}(h:x.ok k=true):x.ev c d<k:=by
 have h:=dU.mp h
 have h1:=dU.mp h.1
 have h2:x.k<k:=of_decide_eq_true h1.1
 show x.k+dot x.n _+dot x.z d<k
 rw[Bn d _ h.2,jC,<-jC (k:Int)]
 exact Int.add_lt_add_of_lt_of_le h2 (Bm c _ h1.2)
theorem YS{c:List Nat}{d:List Int}{k:Nat}{x y:Po}{r:Hs}(h:((((x.s y).m k).a r.p).ok k)=true)(g:0<=r.p.ev c d):x.ev c d<=y.ev c d:=by
 have h:=JB (c:=c) (d:=d) h
 rw[CA,D2,KH] at h
 have h2:(k:Int)*(x.ev c d-y.ev c d)<k*1:=by rw[Int.mul_one]; exact Int.lt_of_le_of_lt (Int.le_add_of_nonneg_right g) h
 exact Int.le_of_sub_nonpos (ig (Int.lt_of_mul_lt_mul_left h2 (lY k)))
noncomputable def dK(f:Nat):Nat->Nat×Nat:=Bb (λw=>(0,w)) (λ_ ih w=>bif Be (w % 32) 16 then(w % 32,w / 32) else(w % 32-16+16*(ih (w / 32)).1,(ih (w / 32)).2)) f
noncomputable def pN(x:Nx×Nat)(g:Nat->Nx×Nat):Nx×Nat:=(x.1.a (g x.2).1,(g x.2).2)
noncomputable def mN(k:Nat×Nat)(g:Nat->Nx×Nat):Nx×Nat:=(.m k.1 (g k.2).1,(g k.2).2)
noncomputable def dN(f:Nat):Nat->Nx×Nat:=Bb (λw=>(.n 0,w)) (λ_ ih w=>
 bif Be (w % 32) 16 then(.v (w % 32),w / 32) else bif Be 18 (w % 32) then(.n (w % 32-19),w / 32) else bif oF (w % 32) 16 then pN (ih (w / 32)) ih else
 bif oF (w % 32) 17 then mN (dK 20 (w / 32)) ih else(.n (dK 20 (w / 32)).1,(dK 20 (w / 32)).2)) f
noncomputable def pZ(b:Bool)(x:Zx×Nat)(g:Nat->Zx×Nat):Zx×Nat:=(bif b then x.1.a (g x.2).1 else x.1.s (g x.2).1,(g x.2).2)
noncomputable def mZ(k:Nat×Nat)(g:Nat->Zx×Nat):Zx×Nat:=(.m k.1 (g k.2).1,(g k.2).2)
noncomputable def dZ(f:Nat):Nat->Zx×Nat:=Bb (λw=>(.n 0,w)) (λ_ ih w=>
 bif Be (w % 32) 8 then(.v (w % 32),w / 32) else bif Be 14 (w % 32) then(.n (w % 32-15:Nat),w / 32) else bif oF (w % 32) 8 then(.c (dN 20 (w / 32)).1,(dN 20 (w / 32)).2) else
 bif oF (w % 32) 11 then pZ true (ih (w / 32)) ih else bif oF (w % 32) 12 then pZ false (ih (w / 32)) ih else bif oF (w % 32) 13 then mZ (dK 20 (w / 32)) ih else
 bif oF (w % 32) 9 then(.n (dK 20 (w / 32)).1,(dK 20 (w / 32)).2) else(.n (-(dK 20 (w / 32)).1),(dK 20 (w / 32)).2)) f
noncomputable def xN(k:Nat)(x:Nx×Nat)(g:Nat->Hs):Hs:= .n k x.1 (dN 20 x.2).1 (g (dN 20 x.2).2)
noncomputable def xZ(k:Nat)(x:Zx×Nat)(g:Nat->Hs):Hs:= .z k x.1 (dZ 20 x.2).1 (g (dZ 20 x.2).2)
noncomputable def dH(f:Nat):Nat->Hs:=Bb (λ_=> .e) (λ_ ih w=>
 bif oF w 0 then .e else bif oF (w % 32) 1 then xN (dK 20 (w / 32)).1 (dN 20 (dK 20 (w / 32)).2) ih else xZ (dK 20 (w / 32)).1 (dZ 20 (dK 20 (w / 32)).2) ih) f
theorem tt:true=true:=rfl
theorem ln_(c:List Nat)(d:List Int)(k:Nat)(x y:Nx)(r:Hs)(h:((((x.p.s y.p).m k).a r.p).ok k)=true):r.D c d (x.N c<=y.N c):=
 KI r λg=>by have:=YS (c:=c) (d:=d) h g; rw[D3,D3] at this; exact oJ.mp this
theorem lz_(c:List Nat)(d:List Int)(k:Nat)(x y:Zx)(r:Hs)(h:((((x.p.s y.p).m k).a r.p).ok k)=true):r.D c d (x.Z c d<=y.Z c d):=
 KI r λg=>by have:=YS (c:=c) (d:=d) h g; rw[Hq,Hq] at this; exact this
theorem lf_(c:List Nat)(d:List Int)(r:Hs)(h:((r.p.a ⟨1,[],[]⟩).ok 1)=true):r.D c d False:=KI r λg=>by
 have:=JB (c:=c) (d:=d) h
 rw[CA,Hp] at this
 exact Int.lt_irrefl _ (Int.lt_of_lt_of_le this (Int.le_add_of_nonneg_left g))
noncomputable def kn(w:Nat):Nat:=(dK 20 w).1
noncomputable def n1(w:Nat):Nx×Nat:=dN 20 (dK 20 w).2
noncomputable def n2(w:Nat):Nx×Nat:=dN 20 (n1 w).2
noncomputable def z1(w:Nat):Zx×Nat:=dZ 20 (dK 20 w).2
noncomputable def P8(w:Nat):Zx×Nat:=dZ 20 (z1 w).2
noncomputable def Cn(w:Nat):Bool:=((((n1 w).1.p.s (n2 w).1.p).m (kn w)).a (dH 20 (n2 w).2).p).ok (kn w)
noncomputable def Cz(w:Nat):Bool:=((((z1 w).1.p.s (P8 w).1.p).m (kn w)).a (dH 20 (P8 w).2).p).ok (kn w)
noncomputable def Cf(w:Nat):Bool:=((dH 20 w).p.a ⟨1,[],[]⟩).ok 1
noncomputable def Gn(c:List Nat)(d:List Int)(w:Nat):Prop:=(dH 20 (n2 w).2).D c d ((n1 w).1.N c<=(n2 w).1.N c)
noncomputable def Gz(c:List Nat)(d:List Int)(w:Nat):Prop:=(dH 20 (P8 w).2).D c d ((z1 w).1.Z c d<=(P8 w).1.Z c d)
noncomputable def Gf(c:List Nat)(d:List Int)(w:Nat):Prop:=(dH 20 w).D c d False
theorem ln(c:List Nat)(d:List Int)(w:Nat)(h:Cn w=true):Gn c d w:=ln_ c d _ _ _ _ h
theorem lz(c:List Nat)(d:List Int)(w:Nat)(h:Cz w=true):Gz c d w:=lz_ c d _ _ _ _ h
theorem lf(c:List Nat)(d:List Int)(w:Nat)(h:Cf w=true):Gf c d w:=lf_ c d _ h
theorem uT(x y:Nat):x<=x-y+y:=Nat.le_add_of_sub_le (bL _)
theorem Hr(w:Nat)(h:Cf w=true):Gf [] [] w:=lf _ _ w h
theorem jd{u:Int}(w:Nat)(h:Cf w=true):Gf [] [u] w:=lf _ _ w h
theorem zS{u v:Int}(w:Nat)(h:Cf w=true):Gf [] [u,v] w:=lf _ _ w h
theorem gF{a:Nat}(w:Nat)(h:Cf w=true):Gf [a] [] w:=lf _ _ w h
theorem KJ{a:Nat}{u:Int}(w:Nat)(h:Cf w=true):Gf [a] [u] w:=lf _ _ w h
theorem lH{a b:Nat}(w:Nat)(h:Cf w=true):Gf [a,b] [] w:=lf _ _ w h
theorem zT{a b c:Nat}(w:Nat)(h:Cf w=true):Gf [a,b,c] [] w:=lf _ _ w h
theorem KL{a b c d:Nat}(w:Nat)(h:Cf w=true):Gf [a,b,c,d] [] w:=lf _ _ w h
theorem QK{a b c d e f g:Nat}(w:Nat)(h:Cf w=true):Gf [a,b,c,d,e,f,g] [] w:=lf _ _ w h
theorem QL(w:Nat)(h:Cn w=true):Gn [] [] w:=ln _ _ w h
theorem aN{a:Nat}(w:Nat)(h:Cn w=true):Gn [a] [] w:=ln _ _ w h
theorem Ht{a:Nat}{u:Int}(w:Nat)(h:Cn w=true):Gn [a] [u] w:=ln _ _ w h
theorem zU{a:Nat}{u v:Int}(w:Nat)(h:Cn w=true):Gn [a] [u,v] w:=ln _ _ w h
theorem vG{a b c d e f g i j k:Nat}{u v:Int}(w:Nat)(h:Cn w=true):Gn [a,b,c,d,e,f,g,i,j,k] [u,v] w:=ln _ _ w h
theorem JC{a b c d e f g i j k l m:Nat}{u v:Int}(w:Nat)(h:Cn w=true):Gn [a,b,c,d,e,f,g,i,j,k,l,m] [u,v] w:=ln _ _ w h
theorem aX{a b:Nat}(w:Nat)(h:Cn w=true):Gn [a,b] [] w:=ln _ _ w h
theorem MW{a b:Nat}{u:Int}(w:Nat)(h:Cn w=true):Gn [a,b] [u] w:=ln _ _ w h
theorem cG{a b c:Nat}(w:Nat)(h:Cn w=true):Gn [a,b,c] [] w:=ln _ _ w h
theorem QM{a b c:Nat}{u:Int}(w:Nat)(h:Cn w=true):Gn [a,b,c] [u] w:=ln _ _ w h
theorem hK{a b c d:Nat}(w:Nat)(h:Cn w=true):Gn [a,b,c,d] [] w:=ln _ _ w h
theorem QN{a b c d:Nat}{u v:Int}(w:Nat)(h:Cn w=true):Gn [a,b,c,d] [u,v] w:=ln _ _ w h
theorem wQ{a b c d e:Nat}(w:Nat)(h:Cn w=true):Gn [a,b,c,d,e] [] w:=ln _ _ w h
theorem KN{a b c d e:Nat}{u v:Int}(w:Nat)(h:Cn w=true):Gn [a,b,c,d,e] [u,v] w:=ln _ _ w h
theorem KO{a b c d e f:Nat}(w:Nat)(h:Cn w=true):Gn [a,b,c,d,e,f] [] w:=ln _ _ w h
theorem MX{a b c d e f:Nat}{u:Int}(w:Nat)(h:Cn w=true):Gn [a,b,c,d,e,f] [u] w:=ln _ _ w h
theorem yb{a b c d e f g:Nat}(w:Nat)(h:Cn w=true):Gn [a,b,c,d,e,f,g] [] w:=ln _ _ w h
theorem Hu{a b c d e f g i:Nat}{u:Int}(w:Nat)(h:Cn w=true):Gn [a,b,c,d,e,f,g,i] [u] w:=ln _ _ w h
theorem eH{u:Int}(w:Nat)(h:Cz w=true):Gz [] [u] w:=lz _ _ w h
theorem dP{u v:Int}(w:Nat)(h:Cz w=true):Gz [] [u,v] w:=lz _ _ w h
theorem ew{a:Nat}(w:Nat)(h:Cz w=true):Gz [a] [] w:=lz _ _ w h
theorem j1{a:Nat}{u:Int}(w:Nat)(h:Cz w=true):Gz [a] [u] w:=lz _ _ w h
theorem MY{a:Nat}{u v:Int}(w:Nat)(h:Cz w=true):Gz [a] [u,v] w:=lz _ _ w h
theorem je{a b:Nat}(w:Nat)(h:Cz w=true):Gz [a,b] [] w:=lz _ _ w h
theorem qe{a b:Nat}{u:Int}(w:Nat)(h:Cz w=true):Gz [a,b] [u] w:=lz _ _ w h
theorem Hv{a b:Nat}{u v:Int}(w:Nat)(h:Cz w=true):Gz [a,b] [u,v] w:=lz _ _ w h
theorem KP{a b c:Nat}(w:Nat)(h:Cz w=true):Gz [a,b,c] [] w:=lz _ _ w h
theorem CB{a b c:Nat}{u:Int}(w:Nat)(h:Cz w=true):Gz [a,b,c] [u] w:=lz _ _ w h
theorem MZ{a b c:Nat}{u v:Int}(w:Nat)(h:Cz w=true):Gz [a,b,c] [u,v] w:=lz _ _ w h
theorem CC{a b c d:Nat}(w:Nat)(h:Cz w=true):Gz [a,b,c,d] [] w:=lz _ _ w h
theorem QO{a b c d e:Nat}(w:Nat)(h:Cz w=true):Gz [a,b,c,d,e] [] w:=lz _ _ w h
theorem M0{a b c d e:Nat}{u v:Int}(w:Nat)(h:Cz w=true):Gz [a,b,c,d,e] [u,v] w:=lz _ _ w h
theorem M1{a b c d e f g:Nat}(w:Nat)(h:Cz w=true):Gz [a,b,c,d,e,f,g] [] w:=lz _ _ w h
theorem P9{a b:Int}(h:a<=b)(n:a≠b):a<b:=Int.lt_iff_le_and_ne.mpr ⟨h,n⟩
theorem z2{u v w:Int}(h:u<=2)(h0:0<=v)(b:v≠0)(m:v<=w)(k:u=2->2<=w):u<=w:=(Decidable.em (u=2)).elim (λe=>bX (af e) (k e)) λn=>bX (ig (P9 h n)) (bX (P9 h0 (Ne.symm b)) m)
theorem mx(p q:Nat):aF (p:Int) (q:Int)=((aF p q:Nat):Int):=by
 rcases fA p q with h|h
 ·rw[ix h,dW (oJ.mpr h)]
 ·rw[kX h,et (oJ.mpr h)]
theorem YT(p q:Nat):(aF (p:Int) (q:Int)+2).toNat-2=aF p q:=by rw[mx]; rfl
theorem mx1{p q:Nat}(h:q<=p):(aF (p:Int) (q:Int)+2).toNat-1=((p:Int)+1).toNat:=by rw[mx,kX h]; rfl
theorem QP{p q:Nat}(h:p<=q):(aF (p:Int) (q:Int)+2).toNat-1=((q:Int)+1).toNat:=by rw[mx,ix h]; rfl
theorem hf:∀a:Nat,a / 2+(a+1) / 2=a
 | 0=>rfl
 | 1=>rfl
 |a+2=>by
  rw[Hg a (by decide:0<2),show a+2+1=a+1+2 from rfl,Hg (a+1) (by decide:0<2)]
  exact(Nat.add_add_add_comm (a / 2) 1 ((a+1) / 2) 1).trans (congrArg (·+2) (hf a))
theorem QQ(u v:Int):aF u v=u\/aF u v=v:=(cT u v).elim (λh=> .inr (dW h)) λh=> .inl (et h)
theorem QR{u v w x y z:Int}(h1:v=0\/v=1/\w=1)(h2:x=1)(h3:y≠0->z≠0->y<=v/\z<=v)(h4:0<=y/\y<=2)(h5:z≠0/\y≠0/\x<=u/\z<=u/\y<=u/\w<=u/\u<=2/\(u=2->x=2\/z=2\/y=2\/w=2)):u=1:=have k:=h3 h5.2.1 h5.1; have e:v=1/\w=1:=h1.elim (λe=>absurd (aE (e▸k.1) h4.1) h5.2.1) id; have n2:∀{t:Int},t<=1->t≠2:=λh e=>absurd (e▸h) (by decide); have r:=h5.2.2; aE (ig (P9 r.2.2.2.2.1 λq=>(r.2.2.2.2.2 q).elim (n2 (h2▸jc 1)) λq=>q.elim (n2 (e.1▸k.2)) λq=>q.elim (n2 (e.1▸k.1)) (n2 (e.2▸jc 1)))) (h2▸r.1)
theorem QS{n:Nat}(h1:1<=n)(h2:n<=2):n=1\/n=2:=(fX n 2).elim (λh=> .inl (ar (Hf h) h1)) λh=> .inr (ar h2 h)
theorem MD{a:Nat}(h:a<=1000):((a:Int)).natAbs<1000000:=fH (show(a:Int).natAbs<=1000 from h) (by decide)
theorem bb1{a b c:Nat}{u:Int}(h1:u=(↑b:Int)-(↑c:Int))(h2:a<=4/\b<=4/\c<=4):-4<=u/\u<=4:=⟨(lz [b,c] [u] 0xb8421005004302201141 tt (af h1.symm) h2.2.2),(lz [b,c] [u] 0x5c01085004300114c01 tt (af h1) h2.2.1)⟩
theorem bb2{a b c:Nat}{u v:Int}(h1:v=(↑b:Int)-(↑c:Int)-u-((↑a:Int)-(↑b:Int)))(h2:a<=4/\b<=4/\c<=4)(h3:-4<=u/\u<=4)(h4:u<=(↑b:Int)-(↑c:Int)):-8<=v/\v<=16:=⟨(lz [b,c,a] [u,v] 0xa00860022b882108102430014010c630220a141 tt (af h1.symm) h2.1 h4),(lz [b,c,a] [v,u] 0x914115c0208102430214010c6300117c01 tt (af h1) h2.2.1 h3.1)⟩
theorem bb3{a b c:Nat}{u v w:Int}(h1:w=(↑a:Int)-(↑b:Int)+v-(↑c:Int))(h2:a<=4/\b<=4/\c<=4)(h3:-8<=v/\v<=16)(h4:(↑b:Int)-(↑c:Int)-u-((↑a:Int)-(↑b:Int))<=v):-20<=w/\w<=20:=⟨(lz [a,b,c] [v,w] 0x10a08ae2086e108422400280218b604410d141 tt (af h1.symm) h2.2.1 h2.2.2 h3.1),(lz [a,b,c] [w,v] 0x3e108ae008448085004316c00441a2401 tt (af h1) h2.1 h3.2)⟩
theorem YU{u v:Int}(h1:u<=50)(h2:v<=50):(aF u v+2).toNat-1<=100:=aP (lX _ _) (aP (eR (n:=52).mpr (DG (cD.mpr ⟨h1,h2⟩) 2)) (by decide))
theorem YV{u v:Int}{t:Nat}(h1:u<=50)(h2:v<=50)(h:1<=t/\t<1+((aF u v+2).toNat-1)):0<t/\t<200:=⟨h.1,fG h.2 (aP (cB (YU h1 h2) 1) (by decide))⟩
section
variable {a b c d e f g i j k l m n o p q r s t:Nat}{u v w x y z u1 v1 w1 x1 y1 z1:Int}
theorem q2:(↑(a+1):Int)-1=(↑a:Int):=(aE (ew 292729397633 tt) (ew 18279926464769 tt))
theorem q3(h1:a+(c+1)<=b):a<b:=(cG 0x2a060080422a0201 tt h1)
theorem q4(h1:a+(b+1)<=c):a+1+b<=c:=(cG 0xa81802010883404201 tt h1)
theorem q5:a+(b+1)=a+1+b:=(ar (aX 0x6808428180201 tt) (aX 0x50300403404201 tt))
theorem q6:0+a<=a:=(aN 19969 tt)
theorem q21(h1:a<b)(h2:b<=16777216)(h3:c=b):(↑a:Int)<2 ^ 63:=(qe 0x110842108421084210841211061084210904210d0100841002161 tt h1 h2 (af rfl))
theorem q23(h1:c=a)(h2:¬b<c):a<=b:=(cG 0x8210840108801 tt (ah h1.symm) (aY h2))
theorem q24(h1:a+(b+1)<9000):a+1+b<9000:=(aX 0xa72c4a940c010804229cb12a068084201 tt h1)
theorem q25(h1:a+(b+1)<9000):a<9900:=(aX 0xa72c4a940c01080422b6b92a0201 tt h1)
theorem q26(h1:c=d)(h2:e=a)(h3:c=e)(h4:¬b<c):a<=b:=(hK 0xc41088210840108c01 tt (ah h2.symm) (ah h3.symm) (aY h4))
theorem q27(h1:b=d)(h2:c=e)(h3:b=c)(h4:a<b):a<min b c:=(Nat.le_min.mpr ⟨(aX 0x68080421a0201 tt h4),(cG 0x2828042100421a0a01 tt (ah h3) h4)⟩)
theorem q28(h1:u≠0):u.natAbs≠0:=by simp[*]
theorem QT(h1:a<1000000):(↑a:Int)<2 ^ 63:=(j1 0x442108421084210842104844fa4a90950100841002161 tt h1 (af rfl))
theorem YW(h1:u=-(↑a:Int))(h2:0<a)(h3:a<1000000):u<0:=(MY 0x87b02110293804210044f80161 tt (af h1) h2 (af (jz _).symm))
theorem YX(h1:u=-(↑b:Int))(h2:b<=c)(h3:a=c):-(↑a:Int)<=u:=(lz [b,c,a] [(-((b:Nat):Int)),u,(-((a:Nat):Int))] 0x243d820880043d8110821084010840110441 tt (af h1.symm) h2 (ah h3.symm) (af (jz ((b:Nat):Int))) (af (jz ((a:Nat):Int)).symm))
theorem YZ(h1:u=-(↑a:Int))(h2:0<a)(h3:a<1000000):-2 ^ 63<=u:=(lz [a] [(-((a:Nat):Int)),u,(-((2:Int) ^ 63))] 0x88421084210842108420a10440021ec089f495212a02010840110441 tt (af h1.symm) h3 (af (jz ((a:Nat):Int))) (af rfl))
theorem Y0(h1:u=-(↑c:Int))(h2:c<=b)(h3:a=b):(u+(↑a:Int)).toNat=b-c:=(ar (KN 0x200b2202210e01084487b021104010840110c81 tt (af h1) (ah h3) (af (jz _).symm) (uT _ _) (af (aG (MZ 0x21ec088410842008420088480ade1 tt (af h1.symm) h2 (ah h3.symm) (af (jz _)))))) (KN 0x890084680a02b0880243d81104010840110c81 tt (af h1.symm) (ah h3.symm) (af (jz _)) (bz _) (ah (aV (aX 1074824193 tt h2)))))
theorem q39:-2 ^ 63<=(↑a:Int):=by simp[*]
theorem q40(h1:a<1000000):¬(↑a:Int)<0:=(λg1=>(gF 16643271714 tt g1))
theorem QU(h1:b<1000000)(h2:a=b):(↑a:Int)<2 ^ 63:=(qe 0x44210842108421084210484400842fa4a9095010084100a161 tt h1 (ah h2) (af rfl))
theorem q43(h1:a<1000000):¬(↑a:Int)>=2 ^ 63:=(λg1=>(KJ 0x2210842108421084210824220200113e92a425404021 tt h1 g1 (af rfl)))
theorem q44(h1:max u w<=v):u<=v:=(lz [] [(max u w),v,u] 71538050139201 tt h1 (bO u w))
theorem q45(h1:max w u<=v):u<=v:=(lz [] [(max w u),v,u] 71538050139201 tt h1 (br w u))
theorem q46(h1:u<=min v w):u<=v:=(lz [] [u,(min v w),v] 0x8211040110801 tt h1 (KC v w))
theorem q47(h1:u<=min w v):u<=v:=(lz [] [u,(min w v),v] 0x8211040110801 tt h1 (nI w v))
theorem q48(h1:u>v):u=max v u:=(aE (dP 1074856961 tt (br _ _)) (cD.mpr ⟨(dP 1649637655553 tt h1),(eH 1 tt)⟩))
theorem q49(h1:¬v>u):u=max u v:=(aE (dP 1074856961 tt (bO _ _)) (cD.mpr ⟨(eH 1 tt),(dP 1074856961 tt (ie.mp h1))⟩))
theorem Y1(h1:0<b)(h2:a<=b-1):a<b:=(cG 0xa818042100422a0201 tt h2 (ah (aV (aN 708133814913 tt h1))))
theorem Y2(h1:0<b)(h2:a<b):a<=b-1:=(cG 0x505008421a020108801 tt h2 (uT _ _))
theorem QV:aF 0 (iy (↑a:Int) (↑b:Int))=(↑(iy a b):Int):=(aE (cD.mpr ⟨(ew 8673 tt),((cT ((a:Nat):Int) ((b:Nat):Int)).elim (λg1=>(qe 0x100420400220a001 tt (KC _ _) (ah (kW (aX 1374659085313 tt g1)).symm))) λg2=>(qe 0x100420400220a001 tt (nI _ _) (ah (iw (aX 1374659085313 tt g2)).symm)))⟩) ((fA a b).elim (λg3=>(Hv 0xa022080220802108101 tt (kU _ _) (br _ _) (af (KD (je 1100620235009 tt g3)).symm))) λg4=>(Hv 0xa022080220802108101 tt (iv _ _) (br _ _) (af (Jz (je 1100620235009 tt g4)).symm))))
theorem q54(h1:a<=b):a<=b-c+c:=(hK 0xc50084210042314001 tt h1 (uT _ _))
theorem q55(h1:iy c b-iy a b=b)(h2:b>0):iy a b=0:=(ar (hK 0x21860108041084010cc61 tt (ah h1.symm) (iv _ _) (ah (aV (hK 0xc21080410840108c41 tt (ah h1.symm) (iv _ _) (lX _ _))))) (aN 609 tt))
theorem q57(h1:u<1):u.toNat=0:=(ar (aN 20402195457 tt (ah (fq (eH 18142312086529 tt h1)))) (aN 609 tt))
theorem q58(h1:u<=1000)(h2:-1000<=u):-9223372036854775808<=u/\u<9223372036854775808:=⟨(eH 0x3f61411011084210842108421084141 tt h2),(eH 0x1fb09004488421084210842108420980161 tt h1)⟩
theorem q59(h1:u<=1000)(h2:-1000<=u)(h3:¬u<1):0<u:=(eH 550897204577 tt (ie.mp h3))
theorem q60(h1:u<=1000)(h2:-1000<=u)(h3:¬u<1):1000*u<=2 ^ 63-1:=(dP 0x28842108421084210842090887ec2403f60500b003f61a1 tt h1 (af rfl))
theorem q61(h1:a<=1000)(h2:(2 ^ 63-1) / u>=1000):¬(↑a:Int)>(2 ^ 63-1) / u:=(λg1=>(KJ 0x4400b08803f612110fd890021 tt h1 h2 g1))
theorem Y3(h1:u<=1000):u.toNat<=1000:=by simp[*]
theorem q63(h1:a*u.toNat<=1000*1000):a*u.toNat<=2 ^ 24:=by lia
theorem q66(h1:a=(u-v).toNat)(h2:v<u):u-v-1+1=(↑a:Int):=(aE (Hv 0x4040c08820084288402063161 tt (ah h1.symm) (bz _)) (Hv 0x10302808820086100818c58101 tt (ah h1) (af (aG (dP 0x600584400b1e1 tt h2)))))
theorem q67(h1:a=(u-v).toNat)(h2:¬v<u):0=(↑a:Int):=(aE (ew 8673 tt) (je 0x984210802178101 tt (ah h1) (ah (fq (dP 1100668240257 tt (ie.mp h2))))))
theorem q68(h1:-3000000<=u)(h2:u<=3000000):-9223372036854775808<=u/\u<9223372036854775808:=⟨(eH 0x17796e41411011084210842108421084141 tt h1),(eH 0xbbcb7209004488421084210842108420980161 tt h2)⟩
theorem q72(h1:-1000000<=v)(h2:v<=1000000)(h3:-1000000<=u)(h4:u<=1000000):(↑(u-v).toNat:Int)<=3000000:=((cT (0:Int) (u-v)).elim (λg1=>(MY 0x2c020227d25482421101f49520a0885de5b9048101 tt h1 h4 (af (aG (dP 0x40c78441031e1 tt g1))))) λg2=>(ew 0x2600845de5b9048101 tt (ah (fq (dP 0x3c206044f08181 tt g2)))))
theorem q75(h1:-1000000<=u)(h2:u<=1000000)(h3:-1000000<=v)(h4:v<=1000000):(↑(u-v).toNat:Int)<2 ^ 63:=((cT (0:Int) (u-v)).elim (λg1=>(lz [(((u-v):Int).toNat)] [u,v,((2:Int) ^ 63)] 0x40c0202212210842108421084210824220be92a414113e92a41200885002161 tt h2 h3 (af rfl) (af (aG (lz [] [u,v] 0x40c78441031e1 tt g1))))) λg2=>(lz [(((u-v):Int).toNat)] [((2:Int) ^ 63)] 0x26008408842108421084210842090881002161 tt (af rfl) (ah (fq (lz [] [u,v] 0x3c206044f08181 tt g2)))))
theorem q76(h1:-1000000<=v)(h2:u<=1000000):(u-v).toNat<=2 ^ 24:=aP (eR (n:=2000000).mpr (jA h2 h1)) (by decide)
theorem q77:u+((↑a:Int)+1)*1=u+1+(↑a:Int)*1:=(aE (lz [a] [((((a:Nat):Int)+(1:Int))*(1:Int)),(((a:Nat):Int)*(1:Int)),u] 0x10202d08a0042c2d004418096b00961 tt (af (ll (((a:Nat):Int)+(1:Int)) 1)) (af (ll 1 ((a:Nat):Int)))) (lz [a] [(((a:Nat):Int)*(1:Int)),((((a:Nat):Int)+(1:Int))*(1:Int)),u] 0x18010b0b4220202d0044112c1012d61 tt (af (ll ((a:Nat):Int) 1)) (af (ll 1 (((a:Nat):Int)+(1:Int))))))
theorem Y4(h1:a<b)(h2:a=b+1):False:=(lH 0x50300843404021 tt h1 (ah h2.symm))
theorem Y5(h1:a<b)(h2:a=b):False:=(lH 1134999650337 tt h1 (ah h2.symm))
theorem Y6(h1:a+(b+1)=c):a+1+b=c:=(ar (cG 0xa81802010883404201 tt (ah h1)) (cG 0x50500c00108a8184001 tt (ah h1.symm)))
theorem QW(h1:b<a):¬(a<=b/\b<a+5):=(λg1=>(lH 1134999650337 tt h1 g1.1))
theorem q85(h1:a+2=a+4):False:=(gF 722115510305 tt (ah h1.symm))
theorem q86(h1:a+3=a+4):False:=(gF 756475248673 tt (ah h1.symm))
theorem q87(h1:a+2=a):False:=(gF 22036513 tt (ah h1))
theorem q88(h1:a+1=a+4):False:=(gF 687755771937 tt (ah h1.symm))
theorem q89(h1:a+2=a+1):False:=(gF 687753674785 tt (ah h1))
theorem q90(h1:a+3=a+1):False:=(gF 687754723361 tt (ah h1))
theorem q91(h1:a=a+1):False:=(gF 20987937 tt (ah h1.symm))
theorem Y7(h1:a<b)(h2:a=b+4):False:=(lH 0x5c300843404021 tt h1 (ah h2.symm))
theorem QX(h1:d<=1000)(h2:a<=1000*d)(h3:b*c<=1000*10):¬a+b*c>16777216:=(λg1=>(zT 0x106140c210842128043d1fb11104201fb1108423f62401fb01 tt h1 h2 h3 g1))
theorem QY(h1:a<=1000):¬a>16777216:=(λg1=>(gF 0x50308421084a0108fd890021 tt h1 g1))
theorem QZ(h1:a<1000000):(↑a:Int)<2 ^ 63-1:=(j1 0x1108421084210842108412113e92a4254040218019002161 tt h1 (af rfl))
theorem Q0(h1:-1000000<=u)(h2:u<=1000):-9223372036854775808<=u/\u<9223372036854775808:=⟨(eH 0x3e92a41411011084210842108421084141 tt h1),(eH 0x1fb09004488421084210842108420980161 tt h2)⟩
theorem Q1(h1:a*u.toNat<=2 ^ 24):¬a*u.toNat>(2 ^ 63-1) / 8:=by lia
theorem Q2(h1:¬v<=u):u<=v:=(dP 1649637655553 tt (i9.mp h1))
theorem Q3(h1:w>v)(h2:u>w):u=aF (aF v w) u:=(aE (lz [] [u,(max (max v w) u)] 1074856961 tt (br (max v w) u)) (cD.mpr ⟨(cD.mpr ⟨(lz [] [v,w,u] 0xa01584418016110801 tt h1 h2),(lz [] [w,u] 1649637655553 tt h2)⟩),(lz [] [u] 1 tt)⟩))
theorem Q4(h1:u>v)(h2:¬w>u):u=aF (aF v u) w:=(aE (lz [] [u,(max v u),(max (max v u) w)] 0x8211040110801 tt (br v u) (bO (max v u) w)) (cD.mpr ⟨(cD.mpr ⟨(lz [] [v,u] 1649637655553 tt h1),(lz [] [u] 1 tt)⟩),(lz [] [w,u] 1074856961 tt (ie.mp h2))⟩))
theorem Q5(h1:¬w>v)(h2:u>v):u=aF (aF v w) u:=(aE (lz [] [u,(max (max v w) u)] 1074856961 tt (br (max v w) u)) (cD.mpr ⟨(cD.mpr ⟨(lz [] [v,u] 1649637655553 tt h2),(lz [] [w,v,u] 0x2805611040110801 tt (ie.mp h1) h2)⟩),(lz [] [u] 1 tt)⟩))
theorem Q6(h1:¬v>u)(h2:¬w>u):u=aF (aF u v) w:=(aE (lz [] [u,(max u v),(max (max u v) w)] 0x8211040110801 tt (bO u v) (bO (max u v) w)) (cD.mpr ⟨(cD.mpr ⟨(lz [] [u] 1 tt),(lz [] [v,u] 1074856961 tt (ie.mp h1))⟩),(lz [] [w,u] 1074856961 tt (ie.mp h2))⟩))
theorem Q7(h1:¬a>=b):a<b:=(aX 0x68080421a0201 tt (gw h1))
theorem Q8(h1:a<c)(h2:c<b)(h3:b<a):a<b:=(cG 0x2a06010868080422a0201 tt h1 h2)
theorem Q9(h1:a<b):a<=b\/c<a:=(.inl (aX 1787244348417 tt h1))
theorem Ra(h1:a<b):a<=b\/b<c:=(.inl (aX 1787244348417 tt h1))
theorem Rb(h1:b<a)(h2:c<b)(h3:a<c):a<b\/b<c:=(.inl (cG 0xa0a010868080421a0a01 tt h2 h3))
theorem Rc(h1:a<b)(h2:c<b):((a<=b\/c<=a)\/b<c)/\((b<a\/a<c)\/c<=b):=⟨(.inl (.inl (aX 1787244348417 tt h1))),(.inr (aX 1787244348417 tt h2))⟩
theorem Rd(h1:2<=a)(h2:a<=4):a=2\/a=3\/a=4:=(cE λg6=>((bj (λe_=>g6 (.inl e_))).elim (λg7=>(gF 760879260914721 tt h1 g7)) λg8=>((bj (λe_=>g6 (.inr (.inl e_)))).elim (λg9=>(gF 0xb501008414ac021 tt g8 g9)) λDJ=>((bj (λe_=>g6 (.inr (.inr e_)))).elim (λCD=>(gF 0xbd01008414b4021 tt DJ CD)) λHw=>(gF 22797721763873 tt h2 Hw)))))
theorem Rf(h1:1<=a)(h2:a<=4)(h3:b=a)(h4:¬b<2):2<=a:=(aX 740006760056481 tt (ah h3) (aY h4))
theorem Rg(h1:c=b)(h2:a<c):a<b:=(cG 0x2828042100421a0a01 tt (ah h1) h2)
theorem M3(h1:c=a)(h2:¬b<a):a<=b:=(aX 1074824193 tt (aY h2))
theorem Rh(h1:a<b)(h2:b<a):¬a<b:=(λg1=>(lH 0x50300843404021 tt h2 g1))
theorem Ri(h1:0<a)(h2:a<1000):(↑a:Int)≠0:=(λg1=>(gF 0x3c08088149c021 tt h1 (af g1)))
theorem M4(h1:0<a)(h2:a<1000):(↑a:Int).natAbs<1000000:=(aX 0x2108fd895010085f495212a0601 tt h2 (ah (ja _)))
theorem Rj(h1:b<=100)(h2:a<=102*b):13+a<=1000000:=(aX 0x35a21084d4900d60be92a42416ca01 tt h1 h2)
theorem Rk(h1:b<=100)(h2:a<=102*b):12+a<=1000000:=(aX 0x1ad108426a4806b05f4952120fe01 tt h1 h2)
theorem Rl:0<=aF 0 (iy u (↑a:Int)):=(eH 504431073 tt (bO _ _))
theorem Rn:aF 0 (iy u (↑a:Int))<=(↑a:Int):=(cD.mpr ⟨(ew 8673 tt),(j1 274913566721 tt (nI _ _))⟩)
theorem Rp:aF (-1) (iy u ((↑a:Int)-1))<=(↑a:Int)-1:=(cD.mpr ⟨(ew 17188652353 tt),(j1 0x100218008a0043001 tt (nI _ _))⟩)
theorem Rq:-1<=aF (-1) (iy u ((↑a:Int)-1)):=(eH 45132809537 tt (bO _ _))
theorem Rr(h1:0<=u)(h2:u<3):u=(↑u.toNat:Int):=(aE (j1 274913566721 tt (bz _)) (j1 8625586433 tt (af (aG (eH 504431073 tt h1)))))
theorem Rt(h1:0<=u)(h2:u<3):u.toNat<3:=(Ht 0x10114a0058456a0201 tt h2 (af (aG (eH 504431073 tt h1))))
theorem D4(h1:a<4):a<1000000:=(aN 0xbd010085f495212a0201 tt h1)
theorem Hx(h1:a<3):a=0\/a=1\/a=2:=(cE λg6=>((bj (λe_=>g6 (.inl e_))).elim (λg7=>(gF 658522145 tt g7)) λg8=>((bj (λe_=>g6 (.inr (.inl e_)))).elim (λg9=>(gF 0xa5010084149c021 tt g8 g9)) λDJ=>((bj (λe_=>g6 (.inr (.inr e_)))).elim (λCD=>(gF 0xad01008414a4021 tt DJ CD)) λHw=>(gF 0x52b0086d404021 tt h1 Hw)))))
theorem Ru(h1:c<=a/\a<c+(b-c)):a<b:=((fA c b).elim (λg1=>(hK 0xc22804220c28080423a0201 tt h1.2 (ah (aV (aX 1074824193 tt g1))))) λg2=>(zT 0x98821102140c02108021 tt h1.1 h1.2 (ah (fJ (aX 1074824193 tt g2)))).elim)
theorem Rv(h1:0<a)(h2:a<=1000):(↑a:Int).natAbs<1000000:=(aX 0x8423f6240085f495212a0601 tt h2 (ah (ja _)))
theorem Rw(h1:a<=100)(h2:0<=u)(h3:u<=100):0<=aF ((↑a:Int)-1) u/\aF ((↑a:Int)-1) u<=100:=⟨(dP 0x401101e1105e1 tt h2 (br _ _)),(cD.mpr ⟨(ew 0xd4900213513002181 tt h1),(eH 7468983635289089 tt h3)⟩)⟩
theorem Rx(h1:0<=u/\u<=100)(h2:0<=v/\v<=100):(aF u v+2).toNat-a=(aF u v+1+1-(↑a:Int)).toNat:=((congrArg (λx:Int=>(x-a).toNat) (zv _ 1 1)).trans (Int.toNat_sub' _ a)).symm
theorem Ry(h1:a=1\/a=2):(↑a:Int)<=1000000:=(h1.elim (λg1=>(ew 0x140042fa4a9048101 tt (ah g1))) λg2=>(ew 0x150042fa4a9048101 tt (ah g2)))
theorem Rz(h1:0<=u/\u<=100)(h2:0<=v/\v<=100):-1000000<=aF u v+1+1:=(dP 0x802203c228402b5be92a4141 tt h1.1 (bO _ _))
theorem RA(h1:0<=u/\u<=100)(h2:0<=v/\v<=100):aF u v+1+1<=1000000:=((cT u v).elim (λg1=>(dP 0x1088d4480227d254826100ad61 tt h2.2 (af (dW (dP 1074856961 tt g1))))) λg2=>(dP 0x1088d4480227d254826100ad61 tt h1.2 (af (et (dP 1074856961 tt g2)))))
theorem RB(h1:b=1\/b=2)(h2:0<=u/\u<=100)(h3:0<=v/\v<=100)(h4:b<=a/\a<b+((aF u v+2).toNat-b)):0<a/\a<=1000:=have k:0<b/\b<=2:=h1.elim (λe=>by subst e; decide) (λe=>by subst e; decide); ⟨fG k.1 h4.1,Bc (fG h4.2 (aP (ic k.2 (aP (lX _ _) (eR (n:=102).mpr (DG (cD.mpr ⟨h2.2,h3.2⟩) 2)))) (by decide)))⟩
theorem M5(h1:0<=u/\u<=100)(h2:0<=v/\v<=100):aF u v+2<=1001:=((cT u v).elim (λg1=>(dP 0x1088d4480221fb2988561 tt h2.2 (af (dW (dP 1074856961 tt g1))))) λg2=>(dP 0x1088d4480221fb2988561 tt h1.2 (af (et (dP 1074856961 tt g2)))))
theorem RC(h1:v<=u):¬u<v:=(λg1=>(zS 17638392627234 tt h1 g1))
theorem RD(h1:¬v<=u):u<v:=(dP 0x6005844180161 tt (i9.mp h1))
theorem RE(h1:a<=b):a+(b-a+1)=aF a (b+1):=(ar (hK 0x6280421a02010868280e01 tt (eN _ _) (ah (aV (aX 1074824193 tt h1)))) (i6.mpr ⟨(aX 21525184513 tt),(cG 0x830004340c050a0201 tt (uT _ _))⟩))
theorem RF(h1:¬a<=b):a=aF a (b+1):=(ar (aX 1074824193 tt (de _ _)) (i6.mpr ⟨(aN 1 tt),(aX 0x68080421a0201 tt (gw h1))⟩))
theorem RG:(↑a:Int)<=1↔a<=1:=⟨λg1=>(aN 550025383937 tt g1),λg2=>(ew 687229894913 tt g2)⟩
theorem RH(h1:b<=a):((↑a:Int)-(↑b:Int)+1).toNat=a-b+1:=(ar (hK 0x2024010c58d0110830004340c061 tt (uT _ _) (af (aG (je 0x1004300202862de1 tt h1)))) (hK 0x11c021122014010c58442a0e01 tt (bz _) (ah (aV (aX 1074824193 tt h1)))))
theorem M6(h1:c<=1000)(h2:b+(d+1)<=c)(h3:a<=b):a+(b-a+1)<=1000000:=(wQ 0x48108461082828060208fd8900417d25484a8480e01 tt h1 h2 h3 (lX _ _))
theorem RI(h1:b<=a):a<b+(a-b+1):=(cG 0x830004340c050a0201 tt (uT _ _))
theorem RJ(h1:a<=c)(h2:b+(d+1)<=c):aF a (b+1)<=c:=(i6.mpr ⟨(aX 1074824193 tt h1),(cG 0x2a060080422a0201 tt h2)⟩)
theorem RK(h1:¬b<=a):a<b:=(aX 0x68080421a0201 tt (gw h1))
theorem RL(h1:a<=c)(h2:¬a<=b):aF a (b+1)<=c:=(i6.mpr ⟨(aX 1074824193 tt h1),(cG 0x2828042100421a0a01 tt h1 (gw h2))⟩)
theorem RM(h1:32<=a/\a<127):¬a=127:=(λg1=>(gF 0x7fc8213fe5404021 tt h1.2 (ah g1.symm)))
theorem RN(h1:a<=1000):iy a b<=100000:=(aX 0x2108fd8900210e2da84821 tt h1 (kU _ _))
theorem M7(h1:(↑a:Int)=27):a=27:=(ar (aN 0xed2040441dc801 tt (af h1)) (aN 9072380819336769 tt (af h1.symm)))
theorem M8(h1:¬(↑a:Int)=27):¬a=27:=(λg1=>((cy h1).elim (λg2=>(gF 0x7698010b08801dc821 tt (ah g1.symm) g2)) λg3=>(gF 0x1100ed2b0883b90021 tt (ah g1) g3)))
theorem RO(h1:-1<=u/\u<8):7<=256+u/\256+u<264:=⟨(eH 0xa822006104aec1 tt h1.1),(eH 0x5e005844186130006104ad61 tt h1.2)⟩
theorem RP(h1:¬b<a):a<=b:=(aX 1074824193 tt (aY h1))
theorem RQ:a-0<=a:=by simp[*]
theorem RR(h1:a<b)(h2:b-a=0):False:=(zT 0xa01086620843404021 tt h1 (ah h2) (uT _ _))
theorem RS(h1:b-c<=a)(h2:c<b):a=a-1+1:=(ar (aX 0x5030004340c001 tt (uT _ _)) (aX 0x68080421a0201 tt (ah (aV (hK 0x81018423a0a010840108681 tt h1 h2 (uT _ _))))))
theorem RT(h1:b<a)(h2:0<c/\c<=3)(h3:a-b<=d+1):a-(b+c)<=d:=((fA (b+c) a).elim (λg1=>(KO 0x301205804240c0610d05008420a4e01088a1 tt h2.1 h3 (uT _ _) (ah (aV (cG 0x8208042208201 tt g1))))) λg2=>(aX 20402177025 tt (ah (fJ (cG 0x830004220c001 tt g2)))))
theorem RU:¬(u<256↔256<=u):=by omega
theorem RV(h1:7<=u/\u<264)(h2:¬u<256):u-256=(↑(u-256).toNat:Int):=(aE (j1 0x10184120604404061048181 tt (bz _)) (j1 0x61048180404418412060101 tt (af (aG (eH 0x30824220c209031e1 tt (ie.mp h2))))))
theorem RW(h1:7<=u/\u<264)(h2:¬u<256):(u-256).toNat<8:=(Ht 0xc2090300808830c26005845ba0201 tt h1.2 (af (aG (eH 0x30824220c209031e1 tt (ie.mp h2)))))
theorem RX(h1:a<=b-1)(h2:0<b):a+1<=b:=(cG 0xa818042100422a0201 tt h1 (ah (aV (aN 708133814913 tt h2))))
theorem RY(h1:b+a=8)(h2:c<=8)(h3:b<c):a=a-1+1:=(ar (aX 0x5030004340c001 tt (uT _ _)) (aX 0x68080421a0201 tt (ah (aV (cG 0xa808043b104210436108681 tt (ah h1.symm) h2 h3)))))
theorem RZ(h1:a+(b+1)=8):a+1+b=8:=(ar (aX 0x6e81802010ec3404201 tt (ah h1)) (aX 0x5030043610868084361 tt (ah h1.symm)))
theorem R0(h1:b<=a)(h2:¬b<a):a<=b:=(aX 1074824193 tt (aY h2))
theorem R4(h1:a+(b+1)<=c):a+b<c:=(cG 0xa818020108a8104201 tt h1)
theorem R5:¬(↑a:Int)<0:=(λg1=>(gF 16643271714 tt g1))
theorem R6:iy a b+(b-iy a b)<=b:=(cG 0x8208042200601 tt (ah (aV (aX 1074824193 tt (iv _ _)))))
theorem R7:0+(iy a b-0)<=b:=(cG 73219778936917505 tt (iv _ _) (lX _ _))
theorem M9(h1:(↑a:Int)=(↑b:Int)):a=b:=(ar (aX 1374659085313 tt (af h1)) (aX 1374659085313 tt (af h1.symm)))
theorem Na(h1:c<b)(h2:a<c):a<b:=(cG 0xa0a010868080421a0a01 tt h1 h2)
theorem R8(h1:(↑a:Int)-(↑b:Int)=u)(h2:c<=10/\a<=10/\b<=10):-10<=(↑a:Int)-(↑b:Int)/\(↑a:Int)-(↑b:Int)<=10:=⟨(je 0xe80210202862941 tt h2.2.2),(je 0x74010e42802181 tt h2.2.1)⟩
theorem R9(h1:(↑a:Int)-(↑b:Int)-u-((↑c:Int)-(↑a:Int))=v)(h2:c<=10/\a<=10/\b<=10)(h3:-10<=u/\u<=10):-30<=(↑a:Int)-(↑b:Int)-u-((↑c:Int)-(↑a:Int))/\(↑a:Int)-(↑b:Int)-u-((↑c:Int)-(↑a:Int))<=30:=⟨(CB 0x190045d0843d004224010c005024318c0f941 tt h2.1 h2.2.2 h3.2),(CB 0xa5045d00821f2408121800a00863181 tt h2.2.1 h3.1)⟩
theorem Sa(h1:(↑a:Int)-(↑b:Int)+u-(↑c:Int)=v)(h2:a<=10/\b<=10/\c<=10)(h3:-30<=u/\u<=30):-50<=(↑a:Int)-(↑b:Int)+u-(↑c:Int)/\(↑a:Int)-(↑b:Int)+u-(↑c:Int)<=50:=⟨(CB 0x7ca08ba1087a008428001024316c1c941 tt h2.2.1 h2.2.2 h3.1),(CB 0xf92008ba008472489000a00862d81 tt h2.1 h3.2)⟩
theorem Sb(h1:c<=10/\a<=10/\b<=10)(h2:-10<=u/\u<=10)(h3:-30<=v/\v<=30)(h4:-50<=w/\w<=50):-100<=(↑a:Int)-(↑b:Int)-u/\(↑a:Int)-(↑b:Int)-u<=100/\-100<=(↑c:Int)-(↑a:Int)+v/\(↑c:Int)-(↑a:Int)+v<=100/\-100<=(↑b:Int)+w/\(↑b:Int)+w<=100:=⟨(qe 0x640117401080080a18c35141 tt h1.2.2 h2.2),⟨(qe 0x29411740109a890050043181 tt h1.2.1 h2.1),⟨(qe 0xf94117401080080a18b35141 tt h1.2.1 h3.1),⟨(qe 0x1f24011740109a890050043161 tt h1.1 h3.2),⟨(j1 0x3928220010b35141 tt h4.1),(j1 0x7248022e80213512002161 tt h1.2.2 h4.2)⟩⟩⟩⟩⟩
theorem Sd(h1:-100<=u/\u<=100/\-100<=v/\v<=100/\-100<=w/\w<=100):u.toNat+(v-u).toNat+(w-v).toNat<=500:=have t:=h1.2.1; have t2:=h1.2.2.2.1; have t3:=h1.2.2.2.2.2; aP (ic (ic (eR.mpr t) (eR (n:=200).mpr (jA t2 h1.1))) (eR (n:=200).mpr (jA t3 h1.2.2.1))) (by decide)
theorem Se(h1:(u.toNat≠0/\a=2\/(v-u).toNat≠0/\a=1)\/(w-v).toNat≠0/\a=0):a<=2:=(h1.elim (λg1=>(g1.elim (λg3=>(aN 22549681153 tt (ah g3.2))) λg4=>(aN 21475939329 tt (ah g4.2)))) λg2=>(aN 20402197505 tt (ah g2.2)))
theorem Sf(h1:a+1<=b):a<=b-1:=(cG 0x505008421a020108801 tt h1 (uT _ _))
theorem Sh(h1:d+1<=c)(h2:a<=2)(h3:b<=3*(c-1)):a+(0+1)+b<=3*c:=(hK 0xe8280c221c4210d40108c710d27004201 tt h2 h3 (ah (aV (aX 1787244349057 tt h1))))
theorem Si:(↑a:Int)=1↔a=1:=⟨λg1=>(ar (aN 550025383937 tt (af g1)) (aN 9127920257 tt (af g1.symm))),λg2=>(aE (ew 687229894913 tt (ah g2)) (ew 21509448193 tt (ah g2.symm)))⟩
theorem Sj(h1:a<=10/\b<=10/\c<=10):(↑(a / 2):Int)<=1000:=(je 0x8a210f40108fd848502 tt h1.1 (fF _ 2))
theorem Sk(h1:b % 3<3)(h2:a<=10/\c<=10/\d<=10):(↑((a+1) / 2+b % 3):Int)<=1000:=(KP 0x503010a210f4210da8080823f612014102 tt h1 h2.1 (fF _ 2))
theorem Sl(h1:b % 3<3)(h2:a<=10/\c<=10/\d<=10):a / 2+((a+1) / 2+b % 3)<=1000000:=(hK 0xa02031442100851086d40c041e80417d2548482380a02 tt h2.1 (dQ _ (by decide:0<3)) (fF _ 2) (fF _ 2))
theorem Sm(h1:-100<=u/\u<=100/\-100<=v/\v<=100/\-100<=w/\w<=100):u.toNat+(v-u).toNat<=1000000:=aP (ic (eR.mpr h1.2.1) (eR (n:=200).mpr (jA h1.2.2.2.1 h1.1))) (by decide)
theorem Sn(h1:-100<=u/\u<=100/\-100<=v/\v<=100/\-100<=w/\w<=100):u.toNat+(v-u).toNat+(w-v).toNat<=1000000:=have t:=h1.2.1; have t2:=h1.2.2.2.1; have t3:=h1.2.2.2.2.2; aP (ic (ic (eR.mpr t) (eR (n:=200).mpr (jA t2 h1.1))) (eR (n:=200).mpr (jA t3 h1.2.2.1))) (by decide)
theorem So(h1:b<4)(h2:a<=500):a-b+iy b a<=500:=((fA b a).elim (λg1=>(hK 0x10e0108821087f4900210fe9208e01 tt h2 (kU _ _) (ah (aV (aX 1074824193 tt g1))))) λg2=>(cG 0x26208401086f4040210fe9208a01 tt h1 (kU _ _) (ah (fJ (aX 1074824193 tt g2)))))
theorem Sp(h1:a<=500):a-b+iy b a<=1000000:=(cG 0x1042008421fd240105f49521210601 tt h1 (lX _ _) (iv _ _))
theorem Sq(h1:b % 3<3)(h2:a<=3*500):a+(↑(b % 3):Int).toNat<=1000000:=(cG 0x50240456a0601087f490e20085f49521210201 tt h2 (dQ _ (by decide:0<3)) (af (aG (ew 8673 tt))))
theorem Sr(h1:0<a):(↑a:Int)≠0:=by lia
theorem Ss(h1:b+1<=a)(h2:c=b+1)(h3:d=b):a-b=a-(b+1)+1:=(ar (hK 0x438043414030004340c061 tt (uT _ _) (ah (aV (aX 1787244348417 tt h1)))) (hK 0x28280e010883000421a0e01 tt (uT _ _) (ah (aV (aX 0x68080421a0201 tt h1)))))
theorem Nb(h1:b+1<=a)(h2:c=b+1)(h3:d=b):a-(b+1)<=a:=(aX 1074824193 tt (lX _ _))
theorem Su(h1:a<=b*c)(h2:b*c<=4*1000):a<=100000:=(aX 0x3f624488421080210e2da84801 tt h1 h2)
theorem Sv(h1:b=4)(h2:a<4):a<b:=(aX 0x5e8180420b8420a0601 tt (ah h1.symm) h2)
theorem Sw(h1:(↑a:Int)=21):a=21:=(ar (aN 0xd52040441ac801 tt (af h1)) (aN 9065783749563969 tt (af h1.symm)))
theorem Sx(h1:¬(↑a:Int)=21):¬a=21:=(λg1=>((cy h1).elim (λg2=>(gF 0x6a98010b08801ac821 tt (ah g1.symm) g2)) λg3=>(gF 0x1100d52b0883590021 tt (ah g1) g3)))
theorem Hy(h1:c<=b)(h2:a<c):a<b:=(cG 0x2828042100421a0a01 tt h1 h2)
theorem Sy(h1:a<200):(↑a:Int).natAbs<1000000:=(aX 0x10859895010085f495212a0601 tt h1 (ah (ja _)))
theorem Sz(h1:b<=100)(h2:a<b):a<1000000:=(aX 0x140c02135240085f495212a0601 tt h1 h2)
theorem SA(h1:0<u):¬u<=0:=(λg1=>(jd 527802105834530 tt h1 g1))
theorem SD:(↑(a+1):Int)+1=(↑a:Int)+1+1:=by simp[*]
theorem SE(h1:b-a=0)(h2:a<=b):a=b:=(ar (aX 1074824193 tt h2) (cG 0x2040210cc0108821 tt (ah h1) (uT _ _)))
theorem SG(h1:a<=100000)(h2:0<a):a=a-1+1:=(ar (aX 0x5030004340c001 tt (uT _ _)) (aX 0x68080421a0201 tt (ah (aV (aN 708133814913 tt h2)))))
theorem SH(h1:b-a=c+1)(h2:a<=b):a<b:=(hK 0x3106010868080423a0a01 tt (ah h1.symm) (ah (aV (aX 1074824193 tt h2))))
theorem SI(h1:a-b=c+1)(h2:b<a):a-(b+1)=c:=(ar (wQ 0xa838120108c10104340c00108481 tt (ah h1) (uT _ _) (ah (aV (aX 0x68080421a0201 tt h2)))) (wQ 0x881804342407010421a020108c01 tt (ah h1.symm) (uT _ _) (ah (aV (aX 1787244348417 tt h2)))))
theorem SJ:(↑a:Int)-(↑(b+1):Int)=(↑a:Int)-(↑b:Int)-1:=(aE (je 0x40280218ca060802181 tt) (je 0x50304010c8050043181 tt))
theorem SK(h1:a<b+1)(h2:a>=b):a=b:=(ar (aX 0x5030a020108401 tt h1) (aX 1074824193 tt h2))
theorem SM:0+a=a:=(ar (aN 19969 tt) (aN 638977 tt))
theorem SN(h1:a<4):u.toNat % 2*4+a<8:=(cG 0x1244410d68181037a02010ee8014201 tt h1 (dQ _ (by decide:0<2)) (ah (dM _ 4)))
theorem SO(h1:a<4)(h2:u<4):u.toNat / 2*4+a<8:=fG (qT h1 _) (Nat.add_le_add_right (Nat.mul_le_mul_right 4 (Dz (c:=2) (eR (n:=3).mpr (ig (show u<3+1 from h2))))) 4)
theorem SP(h1:u=(↑(a % 4):Int)):a % 4<4:=(aN 0x5e8080437a0201 tt (dQ _ (by decide:0<4)))
theorem SQ:a / 16 % 3<3:=(aN 0x5a8080436a0201 tt (dQ _ (by decide:0<3)))
theorem SR(h1:u=(↑(a / 4 % 4):Int)):a / 4 % 4<4:=(aN 0x5e8080437a0201 tt (dQ _ (by decide:0<4)))
theorem SS(h1:0<=(↑a:Int)/\(↑a:Int)<192)(h2:u=(↑(a % 4):Int))(h3:v=(↑(a / 4 % 4):Int)):(↑(a / 48):Int)<4:=(je 0x2384421641300216114e0142c70 tt h1.2 (fF _ 48))
theorem SU:(↑(a / 16 % 3):Int)=0↔a / 16 % 3=0:=⟨λg1=>(ar (aN 515665644545 tt (af g1)) (aN 609 tt)),λg2=>(aE (ew 652870123777 tt (ah g2)) (ew 8673 tt))⟩
theorem SV:(↑(a / 16 % 3):Int)=1↔a / 16 % 3=1:=⟨λg1=>(ar (aN 550025383937 tt (af g1)) (aN 9127920257 tt (af g1.symm))),λg2=>(aE (ew 687229894913 tt (ah g2)) (ew 21509448193 tt (ah g2.symm)))⟩
theorem SW(h1:u=(↑a:Int)/\a<8/\b=c):¬256+(↑a:Int)=13:=(λg1=>(gF 985438924090402 tt (af g1)))
theorem SX(h1:u=(↑a:Int)/\a<8/\b=c):¬256+(↑a:Int)<256:=(λg1=>(gF 0x6104c0080c2095ac22 tt g1))
theorem SY(h1:u=(↑a:Int)/\a<8/\b=c):(256+(↑a:Int)-256).toNat=a:=(ar (aX 0x610485018412b6010110401 tt (af (aG (ew 0x30824080c2095b1e1 tt)))) (aX 0x50184120406104ad8110401 tt (bz _)))
theorem Ta(h1:4<=a):a=a-4+1+3:=(ar (aX 0x170c0010da8184001 tt (uT _ _)) (aX 0x1b8201086d404201 tt (ah (aV (aN 772834017 tt h1)))))
theorem Tb(h1:4*(b+1+1)<=a):a=a-4+1+3:=(ar (aX 0x170c0010da8184001 tt (uT _ _)) (aX 0x1b8201086d404201 tt (ah (aV (aX 0x1a501081221086e2 tt h1)))))
theorem Tc(h1:a<=b)(h2:3<=a):a<=b+1/\3<=a:=⟨(aX 1100639944705 tt h1),(aN 739279553 tt h2)⟩
theorem Td(h1:a<=c)(h2:3<=a)(h3:b<=(c+1)*(d+1)/\4*(d+1)<=b+1)(h4:(c+1)*(d+1+1)=(c+1)*(d+1)+(c+1)):a+(0+1)+b<=(c+1)*(d+1+1)/\4*(d+1+1)<=a+(0+1)+b+1:=⟨(wQ 0x4a06038042310421004241527004201 tt h1 h3.1 (ah h4.symm)),(cG 0x5050a060488420b04341527004210a503081221 tt h2 h3.2)⟩
theorem Te(h1:b=5)(h2:a<=(4+1)*b/\4*b<=a+1):a<=1000:=by lia
theorem Tf(h1:0<a):a-1<a:=(aX 0x68080421a0201 tt (ah (aV (aN 708133814913 tt h1))))
theorem Tg(h1:b<=100)(h2:a<=b):0<=(↑a:Int)/\(↑a:Int)<=100:=⟨(ew 8673 tt),(je 0x42135240084d448501 tt h1 h2)⟩
theorem Th:a=((↑a:Int)+1-(↑1:Int)).toNat:=by simp[*]
theorem Hz(h1:0<=u/\u<=100):(u+1).toNat<=100000:=(Ht 0x1002c08088d4480220e2da84801 tt h1.2 (af (aG (eH 516553715169 tt h1.1))))
theorem Nc(h1:0<=u/\u<=100):u+2=(↑(u+1).toNat:Int)+1:=(aE (j1 0x11002c228010b88161 tt (bz _)) (j1 0x400b020228817002161 tt (af (aG (eH 516553715169 tt h1.1)))))
theorem Nd(h1:0<=u/\u<=100)(h2:1<=a/\a<1+(u+1).toNat):a<1000:=(MW 0x1002c280883485010084d4480221fb12a0201 tt h1.2 h2.2 (af (aG (eH 516553715169 tt h1.1))))
theorem Ti(h1:1<=a/\a<1+(u+1).toNat):(↑a:Int)-1=(↑(a-1):Int):=(aE (je 0x140c0010851002181 tt (uT _ _)) (je 0x1a02010c02860101 tt (ah (aV (aN 672170625 tt h1.1)))))
theorem Tj(h1:0<=u/\u<=100)(h2:1<=a/\a<1+(u+1).toNat):a-1<1000000:=(QM 0xa0a010c00b0a0220d2140402135120089f495212a0a01 tt h1.2 h2.2 (af (aG (eH 516553715169 tt h1.1))) (ah (aV (aN 672170625 tt h2.1))))
theorem Tn(h1:0<=v/\v<=100)(h2:v<=u)(h3:1<=a/\a<1+(v+1).toNat):a-1<(u+1).toNat:=(QN 0xa0e010c00b0a0221220158441a42808042100442a0e01 tt h2 h3.2 (bz _) (af (aG (eH 516553715169 tt h1.1))) (ah (aV (aN 672170625 tt h3.1))))
theorem Tp(h1:1<=a/\a<1+(u+1).toNat):1+1*(a-1)=a:=(ar (aX 0x1a0201084018d201 tt (ah (aV (aN 672170625 tt h1.1)))) (aX 0x140c00108431a4001 tt (uT _ _)))
theorem Tq(h1:u<=60)(h2:1<=a/\a<1+(u+1).toNat):0<a/\a<200:=⟨(aN 688302738945 tt h2.1),((cT (0:Int) (u+(1:Int))).elim (λg1=>(MW 0x8016140441a428080423e240113312a0201 tt h1 h2.2 (af (aG (eH 0x400b7845002de1 tt g1))))) λg2=>(aX 0x4c2108690a02010b312a0201 tt h2.2 (ah (fq (eH 0x3e005844f80161 tt g2)))))⟩
theorem Tr(h1:v<=u):u<=v↔u=v:=⟨λg1=>(aE (dP 1074856961 tt g1) (dP 1074856961 tt h1)),λg2=>(dP 1074856961 tt (af g2))⟩
theorem Ts(h1:u<=60):(u+1).toNat<=61:=((cT (0:Int) (u+(1:Int))).elim (λg1=>(Ht 0x2005810110f8900443ec801 tt h1 (af (aG (eH 0x400b7845002de1 tt g1))))) λg2=>(aN 20891832338433 tt (ah (fq (eH 0x3e005844f80161 tt g2)))))
theorem Nf(h1:0<a/\a<200):(↑a:Int).natAbs<1000000:=(aX 0x10859895010085f495212a0601 tt h1.2 (ah (ja _)))
theorem Tt:(↑(1+a):Int)=(↑a:Int)+1:=(aE (ew 17601145749761 tt) (ew 704659857761 tt))
theorem Ng:(aF u v+2).toNat-1=(aF u v+1).toNat:=(Int.toNat_sub' _ 1).symm.trans (congrArg zL (Int.add_sub_assoc _ 2 1))
theorem Tu(h1:0<=w/\w<=100)(h2:u<=w)(h3:v<=w):(aF u v+1).toNat<=(w+1).toNat:=((cT (0:Int) ((max u v)+(1:Int))).elim (λg1=>((cT u v).elim (λg3=>(ln [(((w+(1:Int)):Int).toNat),((((max u v)+(1:Int)):Int).toNat)] [v,w,(max u v)] 0x1012c280880208808805611040110021 tt h3 (bz (w+(1:Int))) (af (dW (lz [] [u,v] 1074856961 tt g3))) (af (aG (lz [] [(max u v)] 0x400b7845002de1 tt g1))))) λg4=>(ln [(((w+(1:Int)):Int).toNat),((((max u v)+(1:Int)):Int).toNat)] [u,w,(max u v)] 0x1012c280880208808805611040110021 tt h2 (bz (w+(1:Int))) (af (et (lz [] [v,u] 1074856961 tt g4))) (af (aG (lz [] [(max u v)] 0x400b7845002de1 tt g1)))))) λg2=>(ln [((((max u v)+(1:Int)):Int).toNat),(((w+(1:Int)):Int).toNat)] [] 20402177025 tt (ah (fq (lz [] [(max u v)] 0x3e005844f80161 tt g2)))))
theorem Tv(h1:0<=u/\u<=100)(h2:0<=v/\v<=100):aF u v+2=(↑(aF u v+1).toNat:Int)+1:=(aE (j1 0x11002c228010b88161 tt (bz _)) (j1 0x400b020228817002161 tt (af (aG (dP 0x100440784500ade1 tt h1.1 (bO _ _))))))
theorem Tw(h1:0<=u/\u<=100)(h2:0<=v/\v<=100):(aF u v+1).toNat<=1000:=((cT u v).elim (λg1=>(zU 0x402b0202200422351200887ec4801 tt h2.2 (af (dW (dP 1074856961 tt g1))) (af (aG (dP 0x100440784500ade1 tt h2.1 (br _ _)))))) λg2=>(zU 0x402b0202200422351200887ec4801 tt h1.2 (af (et (dP 1074856961 tt g2))) (af (aG (dP 0x100440784500ade1 tt h2.1 (br _ _))))))
theorem Tx(h1:0<=u/\u<=100)(h2:0<=v/\v<=100):0<(aF u v+1).toNat:=(zU 0x2201584410044078440a4e01 tt h2.1 (br _ _) (bz _))
theorem Tz(h1:0<=u/\u<=100)(h2:0<=v/\v<=100):(aF u v+1).toNat<=100000:=((cT u v).elim (λg1=>(zU 0x100ac0808801088d4480220e2da84801 tt h2.2 (af (dW (dP 1074856961 tt g1))) (af (aG (dP 0x100440784500ade1 tt h2.1 (br _ _)))))) λg2=>(zU 0x100ac0808801088d4480220e2da84801 tt h1.2 (af (et (dP 1074856961 tt g2))) (af (aG (dP 0x100440784500ade1 tt h2.1 (br _ _))))))
theorem TA(h1:a<1000):a<1000000:=(aN 0xfd895010085f495212a0201 tt h1)
theorem HA(h1:b=5)(h2:a<5):a<b:=(aX 0x628180420c0420a0601 tt (ah h1.symm) h2)
theorem Nh(h1:a<5):a<1000000:=(aN 0xc5010085f495212a0201 tt h1)
theorem TB(h1:0<=u/\u<=100)(h2:0<=v/\v<=100)(h3:u<=60)(h4:v<=60):(aF u v+1).toNat<=61/\(↑(aF u v+1).toNat:Int)=aF u v+1:=⟨((cT u v).elim (λg1=>(zU 0x201581011002110f8900443ec801 tt h4 (af (dW (dP 1074856961 tt g1))) (af (aG (dP 0x100440784500ade1 tt h1.1 (bO _ _)))))) λg2=>(zU 0x201581011002110f8900443ec801 tt h3 (af (et (dP 1074856961 tt g2))) (af (aG (dP 0x100440784500ade1 tt h2.1 (br _ _)))))),(aE (j1 0x1002c0808a0058101 tt (af (aG (dP 0x100440784500ade1 tt h1.1 (bO _ _))))) (j1 0x4400b0880880161 tt (bz _)))⟩
theorem TC:aF u v+2=aF u v+1+1:=(aE (eH 18142323048801 tt) (eH 18704062492001 tt))
theorem TF:(↑((↑a:Int)+1-1).toNat:Int)=(↑a:Int):=by simp[*]
theorem TG:((↑a:Int)+1-1).toNat=a:=by simp[*]
theorem TH(h1:b<=61/\(↑b:Int)=aF u v+1)(h2:1<=a/\a<1+b):(↑a:Int).natAbs<1000000:=(cG 0x8821052140c0211f640085f495212a0a01 tt h1.1 h2.2 (ah (ja _)))
theorem TJ(h1:¬(↑63:Int)<(↑a:Int)):a<=63:=(aN 0x3fc90040443fc801 tt (ie.mp h1))
theorem TK:u<=aF u (aF (aF v w) x):=(dP 1074856961 tt (bO _ _))
theorem TL(h1:0<=v/\v<=2)(h2:0<=u/\u<=2)(h3:0<=x/\x<=2):u<=aF v (aF (aF u w) x):=(lz [] [u,(max u w),(max (max u w) x),(max v (max (max u w) x))] 0xc41108211040110c01 tt (bO u w) (bO (max u w) x) (br v (max (max u w) x)))
theorem TM:u<=aF v (aF (aF w x) u):=(lz [] [u,(max (max w x) u),(max v (max (max w x) u))] 0x8211040110801 tt (br (max w x) u) (br v (max (max w x) u)))
theorem TN:u<=aF v (aF (aF w u) x):=(lz [] [u,(max w u),(max (max w u) x),(max v (max (max w u) x))] 0xc41108211040110c01 tt (br w u) (bO (max w u) x) (br v (max (max w u) x)))
theorem TP(h1:w=1\/w=2)(h2:0<=u/\u<=2)(h3:0<=v/\v<=2)(h4:0<=x/\x<=2)(h5:v≠0/\x≠0):aF u (aF (aF v w) x)<=2:=(cD.mpr ⟨(eH 18254742529 tt h2.2),(cD.mpr ⟨(cD.mpr ⟨(eH 18254742529 tt h3.2),(h1.elim (λg1=>(eH 17181000705 tt (af g1))) λg2=>(eH 18254742529 tt (af g2)))⟩),(eH 18254742529 tt h4.2)⟩)⟩)
theorem TQ(h1:0<=u/\u<=2)(h2:0<=v/\v<=2)(h3:0<=x/\x<=2):aF u (aF (aF v w) x)=2->u=2\/v=2\/x=2\/w=2:=λe=>(QQ u _).elim (λq=> .inl (q.symm.trans e)) λq=>have e:=q.symm.trans e; (QQ _ x).elim (λq=>have e:=q.symm.trans e; (QQ v w).elim (λq=> .inr (.inl (q.symm.trans e))) λq=> .inr (.inr (.inr (q.symm.trans e)))) λq=> .inr (.inr (.inl (q.symm.trans e)))
theorem TR(h1:¬(u≠0/\v≠0)):u=0\/v=0:=by lia
theorem TS(h1:0<=u/\u<=2):aF u 0=u:=(aE (cD.mpr ⟨(eH 1 tt),(eH 504431073 tt h1.1)⟩) (dP 1074856961 tt (bO _ _)))
theorem TU(h1:0<=v/\v<=2)(h2:w≠0/\x≠0/\v<=u/\w<=u/\x<=u/\y<=u/\u<=2/\(u=2->v=2\/w=2\/x=2\/y=2)):0<=u/\u<=2:=⟨(dP 0x401101e1105e1 tt h1.1 h2.2.2.1),(eH 18254742529 tt h2.2.2.2.2.2.2.1)⟩
theorem TV(h1:0<=v/\v<=2)(h2:u=v):0<=u/\u<=2:=⟨(dP 0x401101e1105e1 tt h1.1 (af h2.symm)),(dP 36370857935905 tt h1.2 (af h2))⟩
theorem TX(h1:v=0\/v=1/\w=1)(h2:x=1)(h3:y≠0->z≠0->y<=v/\z<=v)(h4:0<=y/\y<=2)(h5:z≠0/\y≠0/\x<=u/\z<=u/\y<=u/\w<=u/\u<=2/\(u=2->x=2\/z=2\/y=2\/w=2)):u=1:=have k:=h3 h5.2.1 h5.1; have e:v=1/\w=1:=h1.elim (λe=>absurd (aE (e▸k.1) h4.1) h5.2.1) id; have n2:∀{t:Int},t<=1->t≠2:=λh e=>absurd (e▸h) (by decide); have r:=h5.2.2; aE (ig (P9 r.2.2.2.2.1 λq=>(r.2.2.2.2.2 q).elim (n2 (h2▸jc 1)) λq=>q.elim (n2 (e.1▸k.2)) λq=>q.elim (n2 (e.1▸k.1)) (n2 (e.2▸jc 1)))) (h2▸r.1)
theorem TY(h1:v=1)(h2:u=v):u=1:=by simp[*]
theorem TZ(h1:x=1\/x=2)(h2:y=0\/y=1/\x=1)(h3:z≠0->u1≠0->z<=v1/\u1<=v1)(h4:w1≠0->x1≠0->w1<=y1/\x1<=y1)(h5:w1≠0->u1≠0->w1<=y/\u1<=y)(h6:w1≠0)(h7:v1<=u)(h8:x<=u)(h9:u<=2)(JD:u=2->z=2\/v1=2\/w1=2\/x=2)(KQ:u1≠0)(Ni:y1<=v)(JE:v<=2)(h14:v=2->x1=2\/u1=2\/y1=2\/x=2)(Y8:v1<=w)(Y9:y1<=w)(Qa:x<=w):u≠0->v≠0->u<=w/\v<=w:=have k:=h5 h6 KQ; have y1':y<=1:=h2.elim (λe=>e▸(by decide:(0:Int)<=1)) (λe=>af e.1); have Za:1<=x:=h1.elim (λe=>af e.symm) (λe=>e▸(by decide:(1:Int)<=2)); have n2:∀{t:Int},t<=y->t≠2:=λh e=>absurd (bX (af e.symm) (bX h y1')) (by decide:¬(2:Int)<=1); have p0:=bX (by decide:(0:Int)<=1) Za; have p1:x≠0:=λe=>absurd (e▸Za) (by decide:¬(1:Int)<=0); λa b=>⟨z2 h9 p0 p1 Qa λe=>(JD e).elim (λq=>q▸bX (h3 (q▸by decide) KQ).1 Y8) λq=>q.elim (λq=>q▸Y8) λq=>q.elim (λq=>absurd q (n2 k.1)) λq=>q▸Qa,z2 JE p0 p1 Qa λe=>(h14 e).elim (λq=>q▸bX (h4 h6 (q▸by decide)).2 Y9) λq=>q.elim (λq=>absurd q (n2 k.2)) λq=>q.elim (λq=>q▸Y9) λq=>q▸Qa⟩
theorem T3(h1:x≠0)(h2:y≠0)(h3:x=0\/y=0):u≠0->v≠0->u<=w/\v<=w:=by simp_all
theorem T4(h1:x≠0->y≠0->x<=z/\y<=z)(h2:u1≠0->y≠0->u1<=v1/\y<=v1)(h3:0<=y/\y<=2)(h4:0<=z/\z<=2)(h5:u1≠0)(h6:u<=2)(h7:u=2->x=2\/w1=2\/u1=2\/x1=2)(h8:v=y)(h9:z<=w)(JD:w1<=w)(KQ:v1<=w)(Ni:x1<=w)(JE:w<=2):u≠0->v≠0->u<=w/\v<=w:=λa b=>have b:=h8▸b; have k:=h2 h5 b; have m:=bX k.2 KQ; ⟨z2 h6 h3.1 b m λe=>(h7 e).elim (λq=>q▸bX (h1 (q▸by decide) b).1 h9) λq=>q.elim (λq=>q▸JD) λq=>q.elim (λq=>q▸bX k.1 KQ) λq=>q▸Ni,h8▸m⟩
theorem T5(h1:x≠0->y≠0->x<=z/\y<=z)(h2:0<=y/\y<=2)(h3:u1≠0)(h4:x≠0)(h5:v=y)(h6:u1=0\/z=0):u≠0->v≠0->u<=w/\v<=w:=λa b=>absurd (aE (h6.elim (λe=>absurd e h3) λe=>e▸(h1 h4 (h5▸b)).2) h2.1) (h5▸b)
theorem T6(h1:x≠0->y≠0->x<=z/\y<=z)(h2:x≠0->u1≠0->x<=v1/\u1<=v1)(h3:0<=x/\x<=2)(h4:u=x)(h5:u1≠0)(h6:v<=2)(h7:v=2->y=2\/u1=2\/w1=2\/x1=2)(h8:z<=w)(h9:v1<=w)(JD:w1<=w)(KQ:x1<=w)(Ni:w<=2):u≠0->v≠0->u<=w/\v<=w:=λa b=>have a:=h4▸a; have k:=h2 a h5; have m:=bX k.1 h9; ⟨h4▸m,z2 h6 h3.1 a m λe=>(h7 e).elim (λq=>q▸bX (h1 a (q▸by decide)).2 h8) λq=>q.elim (λq=>q▸bX k.2 h9) λq=>q.elim (λq=>q▸JD) λq=>q▸KQ⟩
theorem T7(h1:x≠0->y≠0->x<=z/\y<=z)(h2:0<=x/\x<=2)(h3:u=x)(h4:y≠0)(h5:u1≠0)(h6:z=0\/u1=0):u≠0->v≠0->u<=w/\v<=w:=λa b=>absurd (aE (h6.elim (λe=>e▸(h1 (h3▸a) h4).1) λe=>absurd e h5) h2.1) (h3▸a)
theorem T8(h1:x≠0->y≠0->x<=z/\y<=z)(h2:u=x)(h3:v=y)(h4:z<=w):u≠0->v≠0->u<=w/\v<=w:=λa b=>have k:=h1 (h2▸a) (h3▸b); ⟨h2▸bX k.1 h4,h3▸bX k.2 h4⟩
theorem T9(h1:x≠0->y≠0->x<=z/\y<=z)(h2:u=x)(h3:v=y)(h4:w=z):u≠0->v≠0->u<=w/\v<=w:=by simp_all
theorem Ua(h1:v<=u)(h2:w<=u)(h3:x<=u)(h4:u<=2)(h5:(v=2\/x=2)\/w=2):u=2:=(aE (eH 18254742529 tt h4) (h5.elim (λg1=>(g1.elim (λg3=>(dP 599303631472161 tt h1 (af g3.symm))) λg4=>(dP 599303631472161 tt h3 (af g4.symm)))) λg2=>(dP 599303631472161 tt h2 (af g2.symm))))
theorem Ub(h1:u<=x)(h2:w<=x)(h3:v<=x)(h4:¬y=x)(h5:x=2)(h6:y=2\/u=2\/w=2\/v=2):(u=2\/v=2)\/w=2:=by lia
theorem Uc(h1:v≠0->w≠0->v<=u/\w<=u)(h2:a<4/\1<=v)(h3:a<4/\b<4/\1<=w):1<=u:=(dP 0x4011020110601 tt h2.2 ((h1 (λg1=>(jd 515431743522 tt h2.2 (af g1)))) (λg2=>(jd 515431743522 tt h3.2.2 (af g2)))).1)
theorem Ud(h1:v≠0->w≠0->v<=u/\w<=u)(h2:a<4/\1<=v)(h3:a<4/\b<4/\2<=w):2<=u:=(dP 0x4011022110621 tt h3.2.2 ((h1 (λg1=>(jd 515431743522 tt h2.2 (af g1)))) (λg2=>(jd 515431744546 tt h3.2.2 (af g2)))).2)
theorem Ue(h1:v≠0->w≠0->v<=u/\w<=u)(h2:a<4/\x<=v)(h3:a<4/\2<=v)(h4:a<4/\b<4/\1<=w):2<=u:=(dP 0x4011022110621 tt h3.2 ((h1 (λg1=>(jd 515431744546 tt h3.2 (af g1)))) (λg2=>(jd 515431743522 tt h4.2.2 (af g2)))).1)
theorem Ug(h1:v≠0->w≠0->v<=u/\w<=u)(h2:a<4/\2<=v)(h3:a<4/\b<4/\2<=w):2<=u:=(dP 0x4011022110621 tt h2.2 ((h1 (λg1=>(jd 515431744546 tt h2.2 (af g1)))) (λg2=>(jd 515431744546 tt h3.2.2 (af g2)))).1)
theorem Uh(h1:v=1)(h2:w≠0->u≠0->w<=v/\u<=v)(h3:w=2):u=0:=by simp_all
theorem Ui(h1:u=1):u≠0:=(λg1=>(jd 515431743522 tt (af h1.symm) (af g1)))
theorem Uj(h1:v=1)(h2:w≠0->u≠0->w<=v/\u<=v)(h3:0<=u/\u<=2)(h4:w=1)(h5:1<=u):u=1:=(aE (dP 36369784193057 tt (af h1) ((h2 (λg1=>(jd 515431743522 tt (af h4.symm) (af g1)))) (λg2=>(jd 515431743522 tt h5 (af g2)))).2) (eH 537985537 tt h5))
theorem Uk(h1:1<=u):u≠0:=(λg1=>(jd 515431743522 tt h1 (af g1)))
theorem Ul(h1:2<=u):u≠0:=(λg1=>(jd 515431744546 tt h1 (af g1)))
theorem Nj(h1:0<=u/\u<=2)(h2:2<=u):u=2:=(aE (eH 18254742529 tt h1.2) (eH 571540001 tt h2))
theorem Um(h1:1<=v)(h2:u=2->v=0):¬u=2:=(λg1=>(jd 515431743522 tt h1 (af (h2 (aE (eH 18254742529 tt (af g1)) (eH 571540001 tt (af g1.symm)))))))
theorem Un(h1:w≠0/\x≠0/\u<=v/\w<=v/\x<=v/\y<=v/\v<=2/\(v=2->u=2\/w=2\/x=2\/y=2)):u<=v:=(dP 1074856961 tt h1.2.2.1)
theorem Uo(h1:v=u):u<=v:=(dP 1074856961 tt (af h1.symm))
theorem Up(h1:w≠0/\x≠0/\y<=v/\w<=v/\x<=v/\u<=v/\v<=2/\(v=2->y=2\/w=2\/x=2\/u=2)):u<=v:=(dP 1074856961 tt h1.2.2.2.2.2.1)
theorem Uq(h1:w=1)(h2:x=1)(h3:w=0\/x=0):u<=v:=(h3.elim (λg1=>(jd 515431743522 tt (af h1.symm) (af g1)).elim) λg2=>(jd 515431743522 tt (af h2.symm) (af g2)).elim)
theorem Ur(h1:v<=u)(h2:0<=v/\v<=2)(h3:v≠0):u≠0:=(λg1=>((cy h3).elim (λg2=>(jd 545369614203938 tt h2.1 g2)) λg3=>(zS 0x107ac227842208022 tt h1 (af g1) g3)))
theorem Us(h1:w<=u)(h2:x<=v)(h3:0<=u/\u<=2)(h4:0<=v/\v<=2)(h5:w=2\/x=2):u=2\/v=2:=(cE λg5=>(h5.elim (λg6=>((cy (λe_=>g5 (.inl e_))).elim (λg8=>(zS 0x2300ac220442208022 tt h1 (af g6.symm) g8)) λg9=>(jd 18188148965410 tt h3.2 g9))) λg7=>((cy (λe_=>g5 (.inl e_))).elim (λDJ=>((cy (λe_=>g5 (.inr e_))).elim (λHw=>(zS 0x2300ac220442208022 tt h2 (af g7.symm) Hw)) λg13=>(jd 18188148965410 tt h4.2 g13))) λCD=>(jd 18188148965410 tt h3.2 CD))))
theorem Ut(h1:0<=u/\u<=2)(h2:0<=v/\v<=2)(h3:2<=aF u v):u=2\/v=2:=(cE λg5=>((cy (λe_=>g5 (.inl e_))).elim (λg6=>((cy (λe_=>g5 (.inr e_))).elim (λg8=>((cT u v).elim (λDJ=>(zS 0x2008a300ac2204422 tt h3 g8 (af (dW (dP 1074856961 tt DJ))))) λCD=>(zS 0x2008a300ac2204422 tt h3 g6 (af (et (dP 1074856961 tt CD)))))) λg9=>(jd 18188148965410 tt h2.2 g9))) λg7=>(jd 18188148965410 tt h1.2 g7)))
theorem Uu(h1:97+a=97+b):a=b:=(ar (aX 0x4d1940068ca0108401 tt (ah h1)) (aX 0x4d1940068ca0108401 tt (ah h1.symm)))
theorem Uv(h1:a<4):(u.toNat % 2*4+a) % 4=a:=by simp[*]
theorem Uw(h1:a<4):(u.toNat / 2*4+a) % 4=a:=by simp[*]
theorem Ux(h1:c<0+b)(h2:d<=c)(h3:a<d):a<b:=(hK 0xa8380420104219c28080421a0e01 tt h1 h2 h3)
theorem Uy(h1:a<c)(h2:c<b):a<b:=(cG 0x2a06010868080422a0201 tt h1 h2)
theorem Uz(h1:a<b+1)(h2:¬a<b):a=b:=(ar (aX 0x5030a020108401 tt h1) (aX 1074824193 tt (aY h2)))
theorem UA(h1:0<=u/\u<=2)(h2:(u=2->v=0)/\(u=1->v=1))(h3:¬u=0)(h4:v=0):u=2:=by lia
theorem UB(h1:0<=u/\u<=2)(h2:(u=2->v=0)/\(u=1->v=1))(h3:¬u=0)(h4:¬v=0):u=1:=by lia
theorem UC(h1:¬v=0)(h2:¬w=0)(h3:v<=u/\w<=u)(h4:0<=v/\v<=2):u≠0:=(λg1=>((cy h1).elim (λg2=>(jd 545369614203938 tt h4.1 g2)) λg3=>(zS 0x107ac227842208022 tt h3.1 (af g1) g3)))
theorem yc(h1:¬0<a):a=0:=(ar (aN 20402195457 tt (aY h1)) (aN 609 tt))
theorem KR(h1:a<=2):a=0\/a=1\/a=2:=(cE λg6=>((bj (λe_=>g6 (.inl e_))).elim (λg7=>(gF 658522145 tt g7)) λg8=>((bj (λe_=>g6 (.inr (.inl e_)))).elim (λg9=>(gF 0xa5010084149c021 tt g8 g9)) λDJ=>((bj (λe_=>g6 (.inr (.inr e_)))).elim (λCD=>(gF 0xad01008414a4021 tt DJ CD)) λHw=>(gF 22729002221601 tt h1 Hw)))))
theorem D5:a+1+b=a+(b+1):=(ar (aX 0x50300403404201 tt) (aX 0x6808428180201 tt))
theorem UD:a+(b*a+c*d+e*f)=b*a+a+c*d+e*f:=(ar (hK 0xc400c2101883080201 tt) (hK 0xc40840301882084201 tt))
theorem UE:a+(b*c+d*e+f*a)=b*c+d*e+(f*a+a):=(ar (hK 0x70106101883080201 tt) (hK 0x8208407018a0104201 tt))
theorem UG:1+a=a+1:=(ar (aN 21491634689 tt) (aN 688521729 tt))
theorem UH:a+b+1+c+d=a+(b+1+c)+d:=(ar (hK 0xc540c20084062a041084201 tt) (hK 0xc540821084062a061004201 tt))
theorem UI:a+(b+c+1)=a+1+b+c:=(ar (cG 0x83404210a083080201 tt) (cG 0x5041840101068084201 tt))
theorem UJ:u+1+(↑a:Int)=u+(↑(a+1):Int):=(aE (j1 0x14041005811002d61 tt) (j1 0x4400b5d01040161 tt))
theorem UK(h1:0<c):0<a+b+c:=(cG 0x2938042010610a4e01 tt h1)
theorem UL(h1:¬0<c)(h2:0<b):0<a+b+c:=(cG 0x2938042200610a4e01 tt h2)
theorem UM(h1:¬0<c)(h2:¬0<b)(h3:0<a):0<a+b+c:=(cG 0x2938042208210a4e01 tt h3)
theorem UN(h1:¬0<c)(h2:¬0<b)(h3:¬0<a):¬0<a+b+c:=(λg1=>(zT 0x1142149c021988219842198021 tt (aY h1) (aY h2) (aY h3) g1))
theorem Nk(h1:a=b*1+c*1+d*1):a=b+c+d:=by simp[*]
theorem Nl(h1:0<a):a=1\/a=2\/3<=a:=(cE λg4=>((bj (λe_=>g4 (.inl e_))).elim (λg5=>(gF 0xa5010084149c021 tt h1 g5)) λg6=>((bj (λe_=>g4 (.inr (.inl e_)))).elim (λg7=>(gF 0xad01008414a4021 tt g6 g7)) λg8=>(gF 0x52b0086d404021 tt (gw (λe_=>g4 (.inr (.inr e_)))) g8))))
theorem UO:2*(↑a:Int)=(↑a:Int)*2:=(aE (j1 9091898157566369 tt (af (ll 2 _))) (j1 0x409a00880813401 tt (af (ll _ 2))))
theorem UP(h1:3<=a):3-a=0:=(ar (aN 20402195457 tt (ah (fJ (aN 739279553 tt h1)))) (aN 609 tt))
theorem UQ(h1:3<=a):2-a=0:=(ar (aN 20402195457 tt (ah (fJ (aN 740328099 tt h1)))) (aN 609 tt))
theorem UR(h1:0<a):1-a=0:=(ar (aN 20402195457 tt (ah (fJ (aN 708133814913 tt h1)))) (aN 609 tt))
theorem US:a+(b*(1 / c)+b*1)+(d*(2 / c)+d*1)=b*(1 / c)+d*(2 / c)+(a+b+d):=(ar (yb 0xc31104210c40108c24840c584046800b024201 tt (ah (dM _ 1)) (ah (dM _ 1))) (yb 0xc41884210062108cb009206840403420524201 tt (ah (dM 1 _)) (ah (dM 1 _))))
theorem UT:(↑a:Int)*((↑b:Int)+(↑c:Int)*(1 / (↑a:Int)+1)+(↑d:Int)*(2 / (↑a:Int)+1))+(↑e:Int)=(↑e:Int)+(↑a:Int)*((↑b:Int)+(↑c:Int)*(1 / (↑a:Int)+1)+(↑d:Int)*(2 / (↑a:Int)+1)):=(aE (j1 8959295841 tt) (j1 275247014241 tt))
theorem UU(h1:a<=b):(↑a:Int)<=(↑(aF b c):Int):=(KP 0x2084210042240101 tt h1 (de _ _))
theorem UW:(↑a:Int)<=(↑(aF b a):Int):=(je 1100620235009 tt (eN _ _))
theorem UX(h1:a<=b):(↑(aF a b):Int)<=(↑b:Int):=(je 1100620235009 tt (ah (ix (aX 1074824193 tt h1))))
theorem UY(h1:¬b<=a):a<=b:=(aX 1787244348417 tt (gw h1))
theorem UZ(h1:u<=(↑(aF a b):Int))(h2:(↑(aF a b):Int)<=u):u=(↑(aF a b):Int):=(aE (j1 274913566721 tt h1) (j1 8625586433 tt h2))
theorem U0(h1:u<=(↑(aF a b):Int))(h2:(↑b:Int)<=u)(h3:(↑(aF a b):Int)<=(↑b:Int)):u=(↑(aF a b):Int):=(aE (j1 274913566721 tt h1) (qe 0x101404400202200501 tt h2 h3))
theorem U1:aF ((↑(a+1):Int)-1) (↑b:Int)=(↑(aF a b):Int):=(aE (cD.mpr ⟨(je 0x1004214428082181 tt (de _ _)),(je 1100620235009 tt (eN _ _))⟩) ((fA a b).elim (λg1=>(qe 0x84200202200501 tt (br _ _) (ah (ix (aX 1074824193 tt g1))))) λg2=>(qe 0x8420850104302200501 tt (bO _ _) (ah (kX (aX 1074824193 tt g2))))))
theorem U2(h1:¬0<b+c+a):¬0<a:=(λg1=>(zT 0x549c0219882084021 tt (aY h1) g1))
theorem U3(h1:¬0<b+a+c):¬0<a:=(λg1=>(zT 0x349c0219882084021 tt (aY h1) g1))
theorem U4(h1:b=0):aF ((↑0:Int)-1) (↑a:Int)=(↑(aF b a):Int):=(aE (cD.mpr ⟨(ew 285843841 tt),(je 1100620235009 tt (eN _ _))⟩) (qe 0x84200202200501 tt (br _ _) (ah (ix (aX 20402177025 tt (ah h1))))))
theorem U5(h1:0<b):2+1<=1↔a=0/\b=0:=⟨λg1=>⟨(ar (Hr 692764705 tt g1).elim (aN 609 tt)),(ar (Hr 692764705 tt g1).elim (aN 609 tt))⟩,λg2=>(aN 0x4c020829380834a5601 tt h1 (ah g2.2))⟩
theorem U6(h1:0<a):1+1<=1↔a=0/\b=0:=⟨λg1=>⟨(ar (Hr 692731937 tt g1).elim (aN 609 tt)),(ar (Hr 692731937 tt g1).elim (aN 609 tt))⟩,λg2=>(aN 0x4c010829380434a5201 tt h1 (ah g2.1))⟩
theorem U7(h1:¬0<b)(h2:¬0<a):0+1<=1↔a=0/\b=0:=⟨λg1=>⟨(ar (aN 20402195457 tt (aY h2)) (aN 609 tt)),(ar (aN 20402195457 tt (aY h1)) (aN 609 tt))⟩,λg2=>(QL 21646849 tt)⟩
theorem U8(h1:(↑a:Int)=(↑b:Int)/\(↑c:Int)=(↑d:Int)/\(↑e:Int)=(↑f:Int)):a=b/\c=d/\e=f:=⟨(ar (aX 1374659085313 tt (af h1.1)) (aX 1374659085313 tt (af h1.1.symm))),⟨(ar (aX 1374659085313 tt (af h1.2.1)) (aX 1374659085313 tt (af h1.2.1.symm))),(ar (aX 1374659085313 tt (af h1.2.2)) (aX 1374659085313 tt (af h1.2.2.symm)))⟩⟩
theorem U9(h1:¬0<e)(h2:¬0<f)(h3:(↑a:Int)=(↑b:Int)/\(↑c:Int)=(↑d:Int)):a=b/\c=d/\e=f:=⟨(ar (aX 1374659085313 tt (af h3.1)) (aX 1374659085313 tt (af h3.1.symm))),⟨(ar (aX 1374659085313 tt (af h3.2)) (aX 1374659085313 tt (af h3.2.symm))),(ar (aX 20402177025 tt (aY h1)) (aX 20402177025 tt (aY h2)))⟩⟩
theorem Va(h1:¬0<e)(h2:¬0<c)(h3:¬0<f)(h4:¬0<d)(h5:(↑a:Int)=(↑b:Int)):a=b/\c=d/\e=f:=⟨(ar (aX 1374659085313 tt (af h5)) (aX 1374659085313 tt (af h5.symm))),⟨(ar (aX 20402177025 tt (aY h2)) (aX 20402177025 tt (aY h4))),(ar (aX 20402177025 tt (aY h1)) (aX 20402177025 tt (aY h3)))⟩⟩
theorem Vb(h1:¬0<e)(h2:¬0<c)(h3:¬0<a)(h4:¬0<f)(h5:¬0<d)(h6:¬0<b):a=b/\c=d/\e=f:=⟨(ar (aX 20402177025 tt (aY h3)) (aX 20402177025 tt (aY h6))),⟨(ar (aX 20402177025 tt (aY h2)) (aX 20402177025 tt (aY h5))),(ar (aX 20402177025 tt (aY h1)) (aX 20402177025 tt (aY h4)))⟩⟩
theorem Vc(h1:a<=1000)(h2:b<=1000)(h3:0<b)(h4:u=(↑a:Int)\/u=(↑b:Int)):u.natAbs<1000000:=h4.elim (λe=>by subst e; exact fH h1 (by decide)) λe=>by subst e; exact fH h2 (by decide)
theorem Vd(h1:d+a+c<=100)(h2:a*(1 / b)<=a*1)(h3:c*(2 / b)<=c*2):((↑(a*(1 / b)+c*(2 / b)):Int)+(↑(d+a+c):Int)).natAbs<1000000:=(show a*(1 / b)+c*(2 / b)+(d+a+c)<1000000 from(ln [d,a,c,(a*(1 / b)),(a*1),(c*(2 / b)),(c*2)] [] 0x10a2608421890213142120c213524208210185f495212a0820840a384201 tt h1 h2 h3 (ah (dM a 1)) (ah (dM c 2))))
theorem Ve:a+(b+c*2+d*3)=b+2*c+3*d+a:=(ar (KO 0xc71104211440109063884512c210100b081201 tt (ah (dM _ 2)) (ah (dM _ 3))) (KO 0xc438842100a2108c24840b02887100a2484201 tt (ah (dM 2 _)) (ah (dM 3 _))))
theorem Vf:2*(a+b+c*2)=2*(a+b+2*c):=(ar (hK 0x45100821144628405100c5080a21 tt (ah (dM _ 2))) (hK 0x4028882118a101440288c5080a21 tt (ah (dM 2 _))))
theorem Vg(h1:(↑(d+2*e+3*f+g):Int)<=(↑(a+2*b+3*c+g):Int)):¬(a+2*b+3*c<d+2*e+3*f/\a+b+2*c<d+e+2*f/\a+b+c<d+e+f):=(λg1=>(QK 0x10e2114410850c38945124210084661c4a289210820621c4228821082022 tt h1 g1.1))
theorem Vh(h1:¬(↑(b+2*0+3*0+c):Int)<=(↑(a+2*0+3*0+c):Int)):(↑(a+0+0):Int)<=(↑(b+0+0):Int)↔a+2*0+3*0<b+2*0+3*0/\a+0+2*0<b+0+2*0/\a+0+0<b+0+0:=⟨λg1=>⟨(cG 0x198e3314450841100cc7198a2084208584531c66288a10a4c7198a2084201 tt (i9.mp h1)),⟨(cG 0x198e3314450841100cc7198a20842085845314662842931466084201 tt (i9.mp h1)),(cG 0x198e3314450841100cc7198a20842085845398a10a4e6084201 tt (i9.mp h1))⟩⟩,λg2=>(je 0x4e618429398210804339861044e6084101 tt g2.2.2)⟩
theorem Vi(h1:b<=2)(h2:a<=2)(h3:c<=2):(aF (↑(aF a b):Int) (↑(aF c b):Int)+2).toNat-2=aF (aF a b) (aF c b):=YT _ _
theorem Vj(h1:b<=2)(h2:u=(↑(b+2*(c+d+2*e)):Int))(h3:v=(↑(b+2*(f+g+2*i)):Int))(h4:w=(↑(b+3*(c+d+e)):Int))(h5:x=(↑(b+3*(f+g+i)):Int))(h6:a<=2)(h7:j<=2)(h8:aF (aF a b) (aF j b)=1):a<=1:=(cG 0x41088210d0010d021 tt (ah h8) (de _ _) (de _ _))
theorem Vk(h1:b<=2)(h2:a<=2)(h3:aF (aF c b) (aF a b)=1):a<=1:=(cG 0x41088210d0010d021 tt (ah h3) (de _ _) (eN _ _))
theorem Vl(h1:¬(↑(d+2*e+3*0+a):Int)<=(↑(b+2*c+3*0+a):Int)):(↑(a+2*(b+c+2*0)):Int)<(↑(a+2*(d+e+2*0)):Int)↔b+2*c+3*0<d+2*e+3*0/\b+c+2*0<d+e+2*0/\b+c+0<d+e+0:=⟨λg1=>⟨(wQ 0x298e24144708411014c7108a2084208584531c48288e10a4c7108a2084201 tt (i9.mp h1)),⟨(wQ 0x1314483840510411098a220c202882085845314483842931444184202 tt g1),(wQ 0x1314483840510411098a220c202882085845320e10a4c4184202 tt g1)⟩⟩,λg2=>(QO 0x1318a10a4c20842020cc5118a1014490442628841080a2482161 tt g2.2.2)⟩
theorem Vm(h1:¬(↑(e+2*f+3*g+a):Int)<=(↑(b+2*c+3*d+a):Int)):(↑(a+2*(b+c+2*d)):Int)<(↑(a+2*(e+f+2*g)):Int)/\(↑(a+3*(b+c+d)):Int)<(↑(a+3*(e+f+g)):Int)↔b+2*c+3*d<e+2*f+3*g/\b+c+2*d<e+f+2*g/\b+c+d<e+f+g:=⟨λg1=>⟨(yb 0x330e2514490841101887108a2084208584461c4a289210a087108a2084201 tt (i9.mp h1)),⟨(yb 0x6144a4840510411018a220c2028820858446144a4842831444184202 tt g1.1),(yb 0x6292101c410440620c203882085844629210a0c4184203 tt g1.2)⟩⟩,λg2=>⟨(M1 0x5144838428214420842020945120e10144d0440428841080a2682161 tt g2.2.1),(M1 0x520e10a0820842030948384071341101041080e2682161 tt g2.2.2)⟩⟩
theorem Vn(h1:(↑(c+d):Int)<=(↑(a+b):Int)):¬(a+b<c+d/\a<=c):=(λg1=>(KL 0x821418a10084628202082022 tt h1 g1.1))
theorem Vo(h1:¬(↑(b+d):Int)<=(↑(a+c):Int)):(↑a:Int)<=(↑b:Int)↔a+c<b+d/\a<=b:=⟨λg1=>⟨(hK 0x31411008208584431428104201 tt (i9.mp h1)),(aX 1374659085313 tt g1)⟩,λg2=>(je 1100620235009 tt g2.2)⟩
theorem Vp(h1:a=b/\c=d/\e=f)(h2:(↑g:Int)=(↑i:Int)):a=b/\c=d/\e=f/\g=i:=⟨(ar (aX 1074824193 tt (ah h1.1)) (aX 1074824193 tt (ah h1.1.symm))),⟨(ar (aX 1074824193 tt (ah h1.2.1)) (aX 1074824193 tt (ah h1.2.1.symm))),⟨(ar (aX 1074824193 tt (ah h1.2.2)) (aX 1074824193 tt (ah h1.2.2.symm))),(ar (aX 1374659085313 tt (af h2)) (aX 1374659085313 tt (af h2.symm)))⟩⟩⟩
theorem Vq(h1:a<=2)(h2:a≠1)(h3:a≠2):a=0:=(ar ((bj h2).elim (λg1=>(aN 22677965294593 tt g1)) λg2=>((bj h3).elim (λg3=>(aN 0x568080820a52010cc01 tt g2 g3)) λg4=>(aN 0xa56020d4030cc01 tt h1 g4))) (aN 609 tt))
theorem Vr(h1:a=b+c+d)(h2:b=0/\c=0/\d=0):a=0:=(ar (hK 0x4c610cc410cc2108c41840010cc01 tt (ah h1) (ah h2.1) (ah h2.2.1) (ah h2.2.2)) (aN 609 tt))
theorem Vs(h1:a<=2/\c=0/\(a=0↔d=0/\e=0))(h2:¬(d=0/\e=0)):2<=aF a b+1/\aF a b+1<2+((aF (↑(aF c b):Int) (↑(aF a b):Int)+2).toNat-2):=have k:=kf (aP (GS λe=>h2 (h1.2.2.mp e)) (de a b)); ⟨k,by rw[YT,Bf 2]; exact fG (uR _) (kf (kf (eN _ _)))⟩
theorem Vt(h1:a<=2/\c=0/\(a=0↔d=0/\e=0))(h2:¬(d=0/\e=0)):2<=aF a b+1:=kf (aP (GS λe=>h2 (h1.2.2.mp e)) (de a b))
theorem Vu(h1:u=(↑(aF a b):Int)/\v=u)(h2:2<=aF a b+1)(h3:aF a b+1<3):aF a b+1=2:=(ar (aN 0x16a501080435a0201 tt h3) (aN 0x5010a8434042a1 tt h2))
theorem Vv(h1:a<=2/\b=0/\(a=0↔c=0/\d=0))(h2:2<=aF a e+1)(h3:aF a e+1<3):a<=1:=(aX 0x210da94042010d021 tt h3 (de _ _))
theorem Vw(h1:(↑(b+2*(c+d+a+0+2*0)):Int)<(↑(b+2*(c+d+2*a)):Int))(h2:¬0<a):a=0:=(ar (aN 20402195457 tt (aY h2)) (aN 609 tt))
theorem Vx(h1:(↑(a+2*(b+c+d+0+2*0)):Int)<(↑(a+2*(b+c+2*d)):Int))(h2:d=0):False:=(KL 0x98c4118a220c2028820884c5198c41842101441042c22 tt h1 (ah h2))
theorem Vy(h1:e=a+2*b+3*c+d)(h2:u=(↑(a+2*b+3*c+d):Int))(h3:v=(↑(a+b+c+d):Int))(h4:w=(↑(a+2*b+3*c+d):Int)):¬(a+b+c+d<0+(a+2*b+3*c+d)/\a+b+c<=0):=(λg1=>(KL 0x98820840411887108a2084213850620821084021 tt g1.1 g1.2))
theorem Vz(h1:b<=5)(h2:d=e+2*f+3*g+b)(h3:u=(↑(aF a b):Int)/\v=u)(h4:w=(↑(aF c b):Int)/\x=w)(h5:a<=2/\c=0/\(a=0↔f=0/\g=0))(h6:y=(↑(e+2*f+3*g+b):Int))(h7:z=(↑(e+f+g+b):Int))(h8:u1=(↑(e+2*f+3*g+b):Int)):(aF (↑(aF a b):Int) (↑(aF c b):Int)+2).toNat-1=((↑(aF a b):Int)+1).toNat:=mx1 (i6.mpr ⟨h5.2.1▸fC _,eN a b⟩)
theorem VC(h1:b<=5)(h2:d=e+2*f+3*g+b)(h3:u=(↑(aF c b):Int)/\v=u)(h4:w=(↑(aF a b):Int)/\x=w)(h5:c<=2/\a=0/\(c=0↔f=0/\g=0))(h6:y=(↑(e+2*f+3*g+b):Int))(h7:z=(↑(e+f+g+b):Int))(h8:u1=(↑(e+2*f+3*g+b):Int)):(aF (↑(aF a b):Int) (↑(aF c b):Int)+2).toNat-1=((↑(aF c b):Int)+1).toNat:=QP (i6.mpr ⟨h5.2.1▸fC _,eN c b⟩)
theorem VD(h1:b<=5)(h2:c=d+2*e+3*f+b)(h3:u=(↑(aF a b):Int)/\v=u)(h4:w=(↑(aF g b):Int)/\x=w)(h5:a<=2/\g=0/\(a=0↔e=0/\f=0))(h6:y=(↑(d+2*e+3*f+b):Int))(h7:z=(↑(d+e+f+b):Int))(h8:u1=(↑(d+2*e+3*f+b):Int)):(↑(aF a b):Int)<=60:=((fA a b).elim (λg1=>(je 0x1087000847c48501 tt h1 (ah (ix (aX 1074824193 tt g1))))) λg2=>(je 0x1086a00847c48501 tt h5.1 (ah (kX (aX 1074824193 tt g2)))))
theorem VF:a / 3 % 3=0\/a / 3 % 3=1\/a / 3 % 3=2:=(cE λg6=>((bj (λe_=>g6 (.inl e_))).elim (λg7=>(gF 658522145 tt g7)) λg8=>((bj (λe_=>g6 (.inr (.inl e_)))).elim (λg9=>(gF 0xa5010084149c021 tt g8 g9)) λDJ=>((bj (λe_=>g6 (.inr (.inr e_)))).elim (λCD=>(gF 0xad01008414a4021 tt DJ CD)) λHw=>(gF 0xb501008414ac021 tt Hw (dQ _ (by decide:0<3)))))))
theorem VG(h1:a<=4):a / 2+2*0+3*0<=60:=(aX 0x228843700423e4a638cc510c202 tt h1 (fF _ 2))
theorem VH(h1:a<=4):(a+1) / 2+b % 3<=5:=(cG 0x5a828083404022884370043810602 tt h1 (fF _ 2) (dQ _ (by decide:0<3)))
theorem VJ(h1:a<b):a / 2<=b / 2:=(hK 0x141c051a06010804288421a020108c42 tt h1 (fF _ 2) (DT _ (by decide:0<2)))
theorem VK(h1:a<b)(h2:(a+1) / 2>=(b+1) / 2):a / 2<b / 2:=gw λh=>Nat.not_le_of_lt h1 (aP (ah (hf b).symm) (aP (ic h h2) (ah (hf a))))
theorem VL(h1:a<d)(h2:(a+1) / 2>=(d+1) / 2)(h3:c*(a / 2)<c*(d / 2)):(a+1) / 2+b % 3+c*(a / 2)<(d+1) / 2+b % 3+c*(d / 2):=(yb 0x14040a28843424051a503080423a0a02086808042331210a08c584202 tt h1 h3 (DT _ (by decide:0<2)) (fF _ 2))
theorem VM(h1:a / 2=b / 2)(h2:(a+1) / 2+c % 3=(b+1) / 2+c % 3):a=b:=by rw[<-hf a,h1,Nat.add_right_cancel h2,hf]
theorem VN:a / 2+((a+1) / 2+b % 3)<c / 2+((c+1) / 2+b % 3)/\a / 2<=c / 2↔a<c:=by rw[<-ra,<-ra,hf,hf]; exact⟨λh=>Nat.lt_of_add_lt_add_right h.1,λh=>⟨Nat.add_lt_add_right h _,Dz (Bc h)⟩⟩
theorem VO(h1:u<=(↑a:Int)-(↑b:Int)):(↑((↑a:Int)-(↑b:Int)-u).toNat:Int)=(↑a:Int)-(↑b:Int)-u:=(aE (CB 0x1202863008088024050c60101 tt (af (aG (qe 0x14010c004400a008631e1 tt h1)))) (CB 0x2400280218c088480050043181 tt (bz _)))
theorem VQ(h1:u<=(↑a:Int)-(↑b:Int))(h2:(↑a:Int)-(↑b:Int)-u-((↑c:Int)-(↑a:Int))<=v):(↑(((↑a:Int)-(↑b:Int)-u).toNat+((↑c:Int)-(↑a:Int)+v-((↑a:Int)-(↑b:Int)-u)).toNat):Int)=(↑c:Int)-(↑a:Int)+v:=(aE (M0 0x24050c604282218b60d01100480a18c02022085044316304101 tt (af (aG (qe 0x14010c004400a008631e1 tt h1))) (af (aG (MZ 0x102048600280218c604400a008630204090c5b1e1 tt h2)))) (M0 0x8800500431810206862d81109000a0086302220a080810343161 tt (bz _) (bz _)))
theorem VR(h1:u<=(↑a:Int)-(↑b:Int))(h2:(↑a:Int)-(↑b:Int)-u-((↑c:Int)-(↑a:Int))<=v)(h3:(↑c:Int)-(↑a:Int)+v-(↑b:Int)<=w):(↑(((↑a:Int)-(↑b:Int)-u).toNat+((↑c:Int)-(↑a:Int)+v-((↑a:Int)-(↑b:Int)-u)).toNat+((↑b:Int)+w-((↑c:Int)-(↑a:Int)+v)).toNat):Int)=(↑b:Int)+w:=(aE (lz [((((((a:Nat):Int)-((b:Nat):Int))-u):Int).toNat),a,b,(((((((c:Nat):Int)-((a:Nat):Int))+v)-((((a:Nat):Int)-((b:Nat):Int))-u)):Int).toNat),c,((((((b:Nat):Int)+w)-((((c:Nat):Int)-((a:Nat):Int))+v)):Int).toNat)] [u,v,w] 0x10a08862c4242d854044012028630214110c5b068088024050c60101108485946084101 tt (af (aG (lz [a,b] [u] 0x14010c004400a008631e1 tt h1))) (af (aG (lz [a,b,c] [u,v] 0x102048600280218c604400a008630204090c5b1e1 tt h2))) (af (aG (lz [c,a,b] [v,w] 0x448005004316c088014010c584485b1e1 tt h3)))) (lz [a,b,((((((a:Nat):Int)-((b:Nat):Int))-u):Int).toNat),c,(((((((c:Nat):Int)-((a:Nat):Int))+v)-((((a:Nat):Int)-((b:Nat):Int))-u)):Int).toNat),((((((b:Nat):Int)+w)-((((c:Nat):Int)-((a:Nat):Int))+v)):Int).toNat)] [u,v,w] 0x5404081a18b1050b60444400280218c081034316c08848005004318111482841020a161 tt (bz ((((a:Nat):Int)-((b:Nat):Int))-u)) (bz (((((c:Nat):Int)-((a:Nat):Int))+v)-((((a:Nat):Int)-((b:Nat):Int))-u))) (bz ((((b:Nat):Int)+w)-((((c:Nat):Int)-((a:Nat):Int))+v)))))
theorem VU(h1:-4<=u/\u<=4)(h2:-20<=v/\v<=20)(h3:(↑c:Int)=(↑d:Int)-(↑e:Int)-u/\(↑(c+b):Int)=(↑f:Int)-(↑d:Int)+w/\(↑(c+b+a):Int)=(↑e:Int)+v)(h4:f<=4/\d<=4/\e<=4):a+2*b+3*c<=60:=(KN 0x5c410dc21084485906084102100480a18c020220d1211080450443e480388c5124201 tt h1.1 h2.2 (af h3.1) (af h3.2.2) h4.2.1 h4.2.2)
theorem VV:a % 3<=5:=(aN 24876988555265 tt (dQ _ (by decide:0<3)))
theorem VW(h1:g<i/\j<k/\l<m)(h2:(↑c:Int)=(↑j:Int)-(↑l:Int)-u/\(↑(c+b):Int)=(↑g:Int)-(↑j:Int)+v/\(↑(c+b+a):Int)=(↑l:Int)+w)(h3:(↑f:Int)=(↑k:Int)-(↑m:Int)-u/\(↑(f+e):Int)=(↑i:Int)-(↑k:Int)+v/\(↑(f+e+d):Int)=(↑m:Int)+w):a+2*b+3*c<d+2*e+3*f:=(ln [g,i,c,j,l,b,a,k,m,f,e,d] [u,v,w] 0x2d49841024216112930404e80a18b08928021074318110888598a284101104680218b28a080880440d0c6090110680804291c5428ae10a087128a2684201 tt h1.1 (af h2.1) (af h2.2.1) (af h2.2.2) (af h3.1.symm) (af h3.2.1.symm) (af h3.2.2.symm))
theorem VY(h1:g<i/\j<k/\l<m)(h2:(↑c:Int)=(↑j:Int)-(↑l:Int)-u/\(↑(c+b):Int)=(↑g:Int)-(↑j:Int)+v/\(↑(c+b+a):Int)=(↑l:Int)+w)(h3:(↑f:Int)=(↑k:Int)-(↑m:Int)-u/\(↑(f+e):Int)=(↑i:Int)-(↑k:Int)+v/\(↑(f+e+d):Int)=(↑m:Int)+w):a+b+2*c<d+e+2*f:=(ln [j,k,c,l,b,a,m,f,e,d] [u,w] 0x941e10404c858447400c80a18c0882342ca414208088034010c60901106808042714509842821448584201 tt h1.2.1 (af h2.1) (af h2.2.2) (af h3.1.symm) (af h3.2.2.symm))
theorem VZ(h1:g<i/\j<k/\l<m)(h2:(↑c:Int)=(↑j:Int)-(↑l:Int)-u/\(↑(c+b):Int)=(↑g:Int)-(↑j:Int)+v/\(↑(c+b+a):Int)=(↑l:Int)+w)(h3:(↑f:Int)=(↑k:Int)-(↑m:Int)-u/\(↑(f+e):Int)=(↑i:Int)-(↑k:Int)+v/\(↑(f+e+d):Int)=(↑m:Int)+w):a+b+c<d+e+f:=(ln [l,m,c,b,a,f,e,d] [w] 0x1cc5841000a161100085906284101106808042531e10a086484201 tt h1.2.2 (af h2.2.2) (af h3.2.2.symm))
theorem V0(h1:(↑c:Int)=(↑d:Int)-(↑e:Int)-u/\(↑(c+f):Int)=(↑g:Int)-(↑d:Int)+v/\(↑(c+f+a):Int)=(↑e:Int)+w)(h2:(↑i:Int)=(↑j:Int)-(↑k:Int)-u/\(↑(i+l):Int)=(↑m:Int)-(↑j:Int)+v/\(↑(i+l+b):Int)=(↑k:Int)+w)(h3:g=m)(h4:d=j)(h5:e=k):a=b:=(ar (JC 0xa28429084204042b39a1040548584404a10862ce6820220950b20c508202218a08005004316112c81 tt (af h1.2.1.symm) (af h1.2.2) (af h2.2.1) (af h2.2.2.symm) (ah h3.symm) (ah h4) (ah h5)) (JC 0x45842338426104215a16a4a21040449441003a0c862c22284108202442c2200d02431610410111541 tt (af h1.2.1) (af h1.2.2.symm) (af h2.2.1.symm) (af h2.2.2) (ah h3) (ah h4.symm) (ah h5.symm)))
theorem V1(h1:(↑c:Int)=(↑d:Int)-(↑e:Int)-u/\(↑(c+a):Int)=(↑f:Int)-(↑d:Int)+v/\(↑(c+a+g):Int)=(↑e:Int)+w)(h2:(↑i:Int)=(↑j:Int)-(↑k:Int)-u/\(↑(i+b):Int)=(↑l:Int)-(↑j:Int)+v/\(↑(i+b+m):Int)=(↑k:Int)+w)(h3:f=l)(h4:d=j)(h5:e=k):a=b:=(ar (vG 0x1c21080c20a0810a4b0404c84218b088074190c61501104082218b18a0808848005004318112461 tt (af h1.1.symm) (af h1.2.1) (af h2.1) (af h2.2.1.symm) (ah h3) (ah h4.symm) (ah h5)) (vG 0x8c10942208d21084a84a18b41e08088e8019054318111010404281a18b088024050c6010111101 tt (af h1.1) (af h1.2.1.symm) (af h2.1.symm) (af h2.2.1) (ah h3.symm) (ah h4) (ah h5.symm)))
theorem V2(h1:(↑a:Int)=(↑c:Int)-(↑d:Int)-u/\(↑(a+e):Int)=(↑f:Int)-(↑c:Int)+v/\(↑(a+e+g):Int)=(↑d:Int)+w)(h2:(↑b:Int)=(↑i:Int)-(↑j:Int)-u/\(↑(b+k):Int)=(↑l:Int)-(↑i:Int)+v/\(↑(b+k+m):Int)=(↑j:Int)+w)(h3:f=l)(h4:c=i)(h5:d=j):a=b:=(ar (MX 0x22042308425400881a18c088024050c6010111401 tt (af h1.1) (af h2.1.symm) (ah h4) (ah h5.symm)) (MX 0x508420204202a0886306808848005004318110861 tt (af h1.1.symm) (af h2.1) (ah h4.symm) (ah h5)))
theorem V3(h1:(↑c:Int)=(↑d:Int)-(↑e:Int)-u/\(↑(c+f):Int)=(↑a:Int)-(↑d:Int)+v/\(↑(c+f+g):Int)=(↑e:Int)+w)(h2:(↑i:Int)=(↑j:Int)-(↑k:Int)-u/\(↑(i+l):Int)=(↑b:Int)-(↑j:Int)+v/\(↑(i+l+m):Int)=(↑k:Int)+w)(h3:g=m)(h4:f=l)(h5:c=i):a=b:=(ar (ln [d,e,c,a,f,g,i,j,k,l,b,m] [u,v,w] 0x18430a4820aca1089085ad2684101104e85218b49a080880841d0c6190111482841020a16111050404081a18b08848005004318112861 tt (af h1.1.symm) (af h1.2.1.symm) (af h1.2.2.symm) (af h2.1) (af h2.2.1) (af h2.2.2) (ah h3) (ah h4) (ah h5)) (ln [c,d,e,f,a,g,j,k,i,b,l,m] [u,v,w] 0x10308d42095610ad48841023a16112910404c84a18b0890801d0643181108485946084101104282218b18208088024050c6010111121 tt (af h1.1) (af h1.2.1) (af h1.2.2) (af h2.1.symm) (af h2.2.1.symm) (af h2.2.2.symm) (ah h3.symm) (ah h4.symm) (ah h5.symm)))
theorem V4(h1:(↑c:Int)=(↑a:Int)-(↑d:Int)-u/\(↑(c+e):Int)=(↑f:Int)-(↑a:Int)+v/\(↑(c+e+g):Int)=(↑d:Int)+w)(h2:(↑i:Int)=(↑b:Int)-(↑j:Int)-u/\(↑(i+k):Int)=(↑l:Int)-(↑b:Int)+v/\(↑(i+k+m):Int)=(↑j:Int)+w)(h3:g=m)(h4:e=k)(h5:c=i):a=b:=(ar (vG 0x51082818429204213a16941610404403a0c8630a808883142080850b08848005004318111801 tt (af h1.1.symm) (af h1.2.2.symm) (af h2.1) (af h2.2.2) (ah h3) (ah h4) (ah h5)) (vG 0x38823404244842941e10404c858447400c82a18c0882242c8304208088024050c60101104a1 tt (af h1.1) (af h1.2.2) (af h2.1.symm) (af h2.2.2.symm) (ah h3.symm) (ah h4.symm) (ah h5.symm)))
theorem V5(h1:(↑c:Int)=(↑d:Int)-(↑a:Int)-u/\(↑(c+e):Int)=(↑f:Int)-(↑d:Int)+v/\(↑(c+e+g):Int)=(↑a:Int)+w)(h2:(↑i:Int)=(↑j:Int)-(↑b:Int)-u/\(↑(i+k):Int)=(↑l:Int)-(↑j:Int)+v/\(↑(i+k+m):Int)=(↑b:Int)+w)(h3:g=m)(h4:e=k)(h5:c=i):a=b:=(ar (Hu 0x10210944109861080e8598a48410110c41841000216111c01 tt (af h1.2.2.symm) (af h2.2.2) (ah h3) (ah h4) (ah h5)) (Hu 0xa1084c1088e109cc5841002216110068588208410110c81 tt (af h1.2.2) (af h2.2.2.symm) (ah h3.symm) (ah h4.symm) (ah h5.symm)))
theorem V6:a % 3<=2:=(aN 24876988552193 tt (dQ _ (by decide:0<3)))
theorem V7(h1:(↑c:Int)=(↑d:Int)-(↑e:Int)-u/\(↑(c+f):Int)=(↑a:Int)-(↑d:Int)+v/\(↑(c+f+g):Int)=(↑e:Int)+w)(h2:(↑i:Int)=(↑j:Int)-(↑k:Int)-u/\(↑(i+l):Int)=(↑b:Int)-(↑j:Int)+v/\(↑(i+l+m):Int)=(↑k:Int)+w)(h3:g+2*f+3*c<m+2*l+3*i):a<b:=(ln [d,e,c,a,f,g,i,j,k,l,b,m] [u,v,w] 0x187148a2b842821c48289610804224216b49a10404413a14862d268202202107431864044520a104082858444141010206862c22120014010c6044aa0e01 tt (af h1.1.symm) (af h1.2.1.symm) (af h1.2.2.symm) (af h2.1) (af h2.2.1) (af h2.2.2) h3)
theorem V8(h1:(↑c:Int)=(↑a:Int)-(↑d:Int)-u/\(↑(c+e):Int)=(↑f:Int)-(↑a:Int)+v/\(↑(c+e+g):Int)=(↑d:Int)+w)(h2:(↑i:Int)=(↑b:Int)-(↑j:Int)-u/\(↑(i+k):Int)=(↑l:Int)-(↑b:Int)+v/\(↑(i+k+m):Int)=(↑j:Int)+w)(h3:g+e+2*c<m+k+2*i):a<b:=(vG 0x514509842821446484201084e85a50584101100e83218c2a02220c508202142c22120014010c60446a0201 tt (af h1.1.symm) (af h1.2.2.symm) (af h2.1) (af h2.2.2) h3)
theorem V9(h1:(↑c:Int)=(↑d:Int)-(↑a:Int)-u/\(↑(c+e):Int)=(↑f:Int)-(↑d:Int)+v/\(↑(c+e+g):Int)=(↑a:Int)+w)(h2:(↑i:Int)=(↑j:Int)-(↑b:Int)-u/\(↑(i+k):Int)=(↑l:Int)-(↑j:Int)+v/\(↑(i+k+m):Int)=(↑b:Int)+w)(h3:g+e+c<m+k+i):a<b:=(Hu 0x10a68428110e10804203a1662921040443106104000858447a0201 tt (af h1.2.2.symm) (af h2.2.2) h3)
theorem Wa(h1:(↑c:Int)=(↑g:Int)-(↑i:Int)-u/\(↑(c+b):Int)=(↑j:Int)-(↑g:Int)+v/\(↑(c+b+a):Int)=(↑i:Int)+w)(h2:(↑f:Int)=(↑k:Int)-(↑l:Int)-u/\(↑(f+e):Int)=(↑m:Int)-(↑k:Int)+v/\(↑(f+e+d):Int)=(↑l:Int)+w)(h3:j<m):a+2*b+3*c<d+2*e+3*f:=(ln [c,g,i,b,j,a,k,l,f,m,e,d] [u,v,w] 0x26848042b52210408e85844a441013212862c22420074190c604421216518210404410a08862c60820220090143180404481c5428ae10a007118a2584201 tt (af h1.1) (af h1.2.1) (af h1.2.2) (af h2.1.symm) (af h2.2.1.symm) (af h2.2.2.symm) h3)
theorem Wb(h1:(↑c:Int)=(↑g:Int)-(↑i:Int)-u/\(↑(c+b):Int)=(↑j:Int)-(↑g:Int)+v/\(↑(c+b+a):Int)=(↑i:Int)+w)(h2:(↑f:Int)=(↑k:Int)-(↑l:Int)-u/\(↑(f+e):Int)=(↑m:Int)-(↑k:Int)+v/\(↑(f+e+d):Int)=(↑l:Int)+w)(h3:g<k):a+b+2*c<d+e+2*f:=(vG 0x5a06010a507841013216111d00320a8630220890b20c108202200901431804044714509842801446484201 tt (af h1.1) (af h1.2.2) (af h2.1.symm) (af h2.2.2.symm) h3)
theorem Wc(h1:(↑c:Int)=(↑g:Int)-(↑i:Int)-u/\(↑(c+b):Int)=(↑j:Int)-(↑g:Int)+v/\(↑(c+b+a):Int)=(↑i:Int)+w)(h2:(↑f:Int)=(↑k:Int)-(↑l:Int)-u/\(↑(f+e):Int)=(↑m:Int)-(↑k:Int)+v/\(↑(f+e+d):Int)=(↑l:Int)+w)(h3:i<l):a+b+c<d+e+f:=(Hu 0x1283804273161040088584401a162082104044531e10a002284201 tt (af h1.2.2) (af h2.2.2.symm) h3)
theorem We(h1:a<4):97+(u.toNat % 2*4+a) % 4-97=a:=by simp[*]
theorem Wg(h1:a<4):97+(u.toNat / 2*4+a) % 4-97=a:=by simp[*]
theorem Wh(h1:aF (↑(aF a b):Int) u+1<=0):False:=(KJ 8833120349218 tt h1 (bO _ _))
theorem Wi(h1:0<=u/\u<=2)(h2:0<=v/\v<=2)(h3:(u=2->v=0)/\(u=1->v=1))(h4:w<=v)(h5:1<=u)(h6:1<=v):u=1:=by lia
theorem Wj(h1:a<b):(↑a:Int)≠(↑b:Int):=(λg1=>(lH 9051216281616417 tt h1 (af g1.symm)))
theorem Wl(h1:b<a):(↑a:Int)≠(↑b:Int):=(λg1=>(lH 9051216281616417 tt h1 (af g1)))
theorem Wm(h1:0<=u/\u<=2)(h2:u≠0):u=1\/u=2:=(cE λg5=>((cy h2).elim (λg6=>(jd 545369614203938 tt h1.1 g6)) λg7=>((cy (λe_=>g5 (.inl e_))).elim (λg8=>(jd 0x8400b088107ac22 tt g7 g8)) λg9=>((cy (λe_=>g5 (.inr e_))).elim (λDJ=>(jd 0x8c00b0881082c22 tt g9 DJ)) λCD=>(jd 18188148965410 tt h1.2 CD)))))
theorem Wn(h1:a=5)(h2:b>=5):a<=b:=(aX 0x7010e00108401 tt (ah h1) h2)
theorem Wo(h1:0<=v)(h2:0<=u):0<=u+v:=(dP 0x178440784400ade1 tt h1 h2)
end
theorem iB{α:Type}{x:Option α}{y:α}{P:Prop}(h:x=none)(e:x=some y):P:=(Option.some_ne_none _ (e.symm.trans h)).elim
theorem nJ{α:Type}{x:Option α}{y z:α}(h:x=some y)(e:x=some z):y=z:=cg (h.symm.trans e)
theorem sn{α:Type}{x:Option α}{y:α}(h:x=some y):x≠none:=λe=>iB e h
theorem none_of{α:Type}{x:Option α}(h:∀y,x=some y->False):x=none:=match x,h with
 |none,_=>rfl
 |some y,h=>(h y rfl).elim
section
open PySem PySem.W PyProof.Rows
noncomputable abbrev Fz:=Addr->Option Obj
noncomputable def Fz.le(f g:Fz):Prop:=∀a o,f a=some o->g a=some o
noncomputable def Fz.put(f:Fz)(a:Addr)(o:Obj):Fz:=λb=>if b=a then some o else f b
noncomputable def Fz.del(f:Fz)(a:Addr):Fz:=λb=>if b=a then none else f b
theorem Fz.le.refl(f:Fz):f.le f:=λ_ _ e=>e
theorem Fz.le.trans{f g h:Fz}(x:f.le g)(y:g.le h):f.le h:=λa o e=>y a o (x a o e)
theorem Fz.aJ(f:Fz)(a:Addr)(o:Obj):f.put a o a=some o:=by simp[Fz.put]
theorem Fz.az{f:Fz}{a b:Addr}{o:Obj}(h:b≠a):f.put a o b=f b:=by simp[Fz.put,h]
theorem Fz.bP{f:Fz}{a:Addr}{o:Obj}(h:f a=none):f.le (f.put a o):=λb o' e=>by
 by_cases hb:b=a
 ·subst hb; exact iB h e
 ·rw[Fz.az hb]; exact e
inductive D where
 |none
 |bool (b:Bool)
 |int (i:Int)
 |str (x:Str)
 |list (ds:List D)
 |tup (ds:List D)
 |Bo (a b:Int)
 |raw (v:Value)
 |obj (C:Addr) (fs:List (Str×D))
 deriving Inhabited
noncomputable def PL(o:Obj):Prop:=o.cls= .type "list" /\o.dict=none/\o.slots=#[]
inductive Wq(f:Fz)(K:Obj->Prop)(P:List Value->Prop)(v:Value):Prop
 |mk (a:Addr) (o:Obj) (vs:List Value) (n:Nat) (h1:v= .ref a) (h2:f a=some o) (h3:K o) (h4:o.data= .seq ⟨vs⟩ n) (h5:P vs):Wq f K P v
inductive Zb(f:Fz)(a b:Int)(v:Value):Prop
 |mk (r:Addr) (t u w:Tok) (h1:v= .ref r) (h2:f r=some {cls:= .type "range",data:= .fields #[.int a t, .int b u, .int 1 w]}):Zb f a b v
inductive Zc(f:Fz)(C:Addr)(P:List cz->Prop)(v:Value):Prop
 |mk (a dx:Addr) (es:List cz) (n:Nat) (h1:v= .ref a) (h2:f a=some (kc C dx)) (h3:f dx=some (dictOf es n)) (h4:P es):Zc f C P v
inductive Zd(P:Value->Prop)(Q:List Value->Prop)(vs:List Value):Prop
 |mk (v:Value) (r:List Value) (h1:vs=v::r) (h2:P v) (h3:Q r):Zd P Q vs
inductive Ze(n:Str)(P:Value->Prop)(Q:List cz->Prop)(es:List cz):Prop
 |mk (h:Int) (t:Tok) (v:Value) (r:List cz) (h1:es=⟨h, .str n t,v⟩::r) (h2:P v) (h3:Q r):Ze n P Q es
mutual
noncomputable def Den(f:Fz):D->Value->Prop
 | .none,v=>v= .none
 | .bool b,v=>v= .bool b
 | .int i,v=>∃t,v= .int i t
 | .str x,v=>∃t,v= .str x t
 | .list ds,v=>Wq f PL (bQ f ds) v
 | .tup ds,v=>Wq f (λo=>o.cls= .type "tuple") (bQ f ds) v
 | .Bo a b,v=>Zb f a b v
 | .raw u,v=>v=u
 | .obj C fs,v=>Zc f C (eY f fs) v
noncomputable def bQ(f:Fz):List D->List Value->Prop
 |[],vs=>vs=[]
 |d::ds,vs=>Zd (Den f d) (bQ f ds) vs
noncomputable def eY(f:Fz):List (Str×D)->List cz->Prop
 |[],es=>es=[]
 |(n,d)::fs,es=>Ze n (Den f d) (eY f fs) es
end
mutual
theorem Den.mono{f g:Fz}(h:f.le g):∀{d:D} {v:Value},Den f d v->Den g d v
 | .none,_,e=>e
 | .bool _,_,e=>e
 | .int _,_,e=>e
 | .str _,_,e=>e
 | .Bo _ _,_,⟨r,t,u,w,e,x⟩=>⟨r,t,u,w,e,h _ _ x⟩
 | .raw _,_,e=>e
 | .list _,_,⟨a,o,vs,n,e,x,c,y,z⟩=>⟨a,o,vs,n,e,h _ _ x,c,y,bQ.mono h z⟩
 | .tup _,_,⟨a,o,vs,n,e,x,c,y,z⟩=>⟨a,o,vs,n,e,h _ _ x,c,y,bQ.mono h z⟩
 | .obj _ _,_,⟨a,dx,es,n,e,x,y,z⟩=>⟨a,dx,es,n,e,h _ _ x,h _ _ y,eY.mono h z⟩
theorem bQ.mono{f g:Fz}(h:f.le g):∀{ds:List D} {vs:List Value},bQ f ds vs->bQ g ds vs
 |[],_,e=>e
 |_::_,_,⟨v,r,e,x,y⟩=>⟨v,r,e,Den.mono h x,bQ.mono h y⟩
theorem eY.mono{f g:Fz}(h:f.le g):∀{fs:List (Str×D)} {es:List cz},eY f fs es->eY g fs es
 |[],_,e=>e
 |(_,_)::_,_,⟨a,t,v,r,e,x,y⟩=>⟨a,t,v,r,e,Den.mono h x,eY.mono h y⟩
end
theorem bQ.length{f:Fz}:∀{ds:List D} {vs:List Value},bQ f ds vs->vs.length=ds.length
 |[],_,e=>by rw[show _=[] from e]; rfl
 |_::_,_,⟨v,r,e,_,y⟩=>by rw[e,aQ,aQ,bQ.length y]
theorem bQ.nil{f:Fz}:bQ f [] []:=rfl
theorem bQ.cons{f:Fz}{d:D}{ds:List D}{v:Value}{vs:List Value}(x:Den f d v)(y:bQ f ds vs):bQ f (d::ds) (v::vs):=⟨v,vs,rfl,x,y⟩
theorem bQ.get{f:Fz}:∀{ds:List D} {vs:List Value},bQ f ds vs->∀{i:Nat} {d:D},ds[i]? =some d->∃v,vs[i]? =some v/\Den f d v
 |[],_,_,i,_,e=>by simp at e
 |_::_,_,⟨v,r,e,x,y⟩,0,d,q=>by subst e; simp at q; subst q; exact⟨v,rfl,x⟩
 |_::_,_,⟨v,r,e,x,y⟩,i+1,d,q=>by subst e; simp at q; simpa using bQ.get y q
theorem bQ.append{f:Fz}:∀{ds es:List D} {vs us:List Value},bQ f ds vs->bQ f es us->bQ f (ds++es) (vs++us)
 |[],_,_,_,e,y=>by rw[show _=[] from e]; exact y
 |_::_,_,_,_,⟨v,r,e,x,z⟩,y=>by subst e; exact⟨v,r++_,rfl,x,bQ.append z y⟩
theorem bQ.snoc{f:Fz}{ds:List D}{vs:List Value}{d:D}{v:Value}(x:bQ f ds vs)(y:Den f d v):bQ f (ds++[d]) (vs++[v]):=x.append (.cons y .nil)
theorem bQ.get'{f:Fz}:∀{ds:List D} {vs:List Value},bQ f ds vs->∀{i:Nat} {v:Value},vs[i]? =some v->∃d,ds[i]? =some d/\Den f d v
 |[],_,e,i,_,q=>by rw[show _=[] from e] at q; simp at q
 |_::_,_,⟨v,r,e,x,y⟩,0,w,q=>by subst e; simp at q; subst q; exact⟨_,rfl,x⟩
 |_::_,_,⟨v,r,e,x,y⟩,i+1,w,q=>by subst e; simp at q; simpa using bQ.get' y q
theorem bQ.reverse{f:Fz}:∀{ds:List D} {vs:List Value},bQ f ds vs->bQ f ds.reverse vs.reverse
 |[],_,e=>by rw[show _=[] from e]; rfl
 |_::_,_,⟨v,r,e,x,y⟩=>by subst e; rw[GW,GW]; exact y.reverse.snoc x
theorem bQ.of_append{f:Fz}:∀{ds es:List D} {vs:List Value},bQ f (ds++es) vs->∃v1 v2,vs=v1++v2/\bQ f ds v1/\bQ f es v2
 |[],_,vs,h=>⟨[],vs,rfl,rfl,h⟩
 |_::_,_,_,⟨v,r,e,x,y⟩=>by
  obtain⟨a,b,e',p,q⟩:=bQ.of_append y
  exact⟨v::a,b,by rw[e,e']; rfl,⟨v,a,rfl,x,p⟩,q⟩
structure Base where
 f:Fz
 side:Addr->Prop
 sq:Addr->Obj->Prop
 os:OsState
 dq:Drawn->Prop
 gq:Array GenState->Prop
 nolimit:∀h:Heap,(∀a x,f a=some x->h.get? a=some x)->h.NoLimit
 ftab:∀a,side a->f a=none
noncomputable def ME:Type:={m:Array Value // TriplesOk m.toList}
noncomputable def ME.obj(m:ME):Obj:={cls:= .none,data:= .fields m.1}
variable (B:Base)
structure St(f o:Fz)(s:Shared):Prop where
 sub:∀a x,f a=some x->s.heap.get? a=some x
 own:∀a x,o a=some x->s.heap.get? a=some x
 apart:∀a x,f a=some x->o a=none
 base:B.f.le f
 tab:∀a,B.side a->∃x,s.heap.get? a=some x/\B.sq a x
 fo:∀a,B.side a->f a=none/\o a=none
 os:s.os=B.os/\B.dq s.drawn
 gens:B.gq s.gens
section
variable {B}{f o f' o':Fz}{s:Shared}
theorem St.tok(S:St B f o s)(t:Tok):St B f o {s with toks:=t}:=⟨S.sub,S.own,S.apart,S.base,S.tab,S.fo,S.os,S.gens⟩
theorem St.lt(S:St B f o s){a:Addr}{x:Obj}(h:f a=some x\/o a=some x):a<s.heap.objs.size:=by
 rcases h with h|h
 ·exact bJ (S.sub _ _ h)
 ·exact bJ (S.own _ _ h)
theorem St.gQ(S:St B f o s):f s.heap.objs.size=none:=by
 exact none_of λx h=>absurd (S.lt (.inl h)) (iL _)
theorem St.eZ(S:St B f o s):o s.heap.objs.size=none:=by
 exact none_of λx h=>absurd (S.lt (.inr h)) (iL _)
theorem St.fu(S:St B f o s){a:Addr}{x:Obj}(h:o a=some x):f a=none:=by
 refine none_of λy q=>?_
 exact iB (S.apart _ _ q) h
theorem St.jt(S:St B f o s){a:Addr}(ha:B.side a):a<s.heap.objs.size:=let⟨_,h,_⟩:=S.tab a ha; bJ h
theorem St.iG(S:St B f o s){a:Addr}{x:Obj}(h:f a=some x\/o a=some x):¬B.side a:=λha=>by
 rcases h with h|h
 ·exact iB ((S.fo a ha).1) h
 ·exact iB ((S.fo a ha).2) h
theorem St.ju(S:St B f o s)(x:Obj)(hx:x.isFreed=false:=by rfl):St B (f.put s.heap.objs.size x) o {s with heap:=s.heap.push x}:=by
 refine⟨λa y e=>?_,λa y e=>aH _ (S.own a y e),λa y e=>?_,S.base.trans (Fz.bP S.gQ),λc hc=>let⟨z,hz,hq⟩:=S.tab c hc; ⟨z,aH _ hz,hq⟩,?_,S.os,S.gens⟩
 ·by_cases h:a=s.heap.objs.size
  ·subst h; cases nJ (Fz.aJ ..) e; exact bC _ hx
  ·rw[Fz.az h] at e; exact aH _ (S.sub a y e)
 ·by_cases h:a=s.heap.objs.size
  ·subst h; exact S.eZ
  ·rw[Fz.az h] at e; exact S.apart a y e
 ·exact λc hc=>⟨by rw[Fz.az (bg (S.jt hc))]; exact(S.fo c hc).1,(S.fo c hc).2⟩
theorem St.gV(S:St B f o s)(x:Obj)(hx:x.isFreed=false:=by rfl):St B f (o.put s.heap.objs.size x) {s with heap:=s.heap.push x}:=by
 refine⟨λa y e=>aH _ (S.sub a y e),λa y e=>?_,λa y e=>?_,S.base,λc hc=>let⟨z,hz,hq⟩:=S.tab c hc; ⟨z,aH _ hz,hq⟩,?_,S.os,S.gens⟩
 ·by_cases h:a=s.heap.objs.size
  ·subst h; cases nJ (Fz.aJ ..) e; exact bC _ hx
  ·rw[Fz.az h] at e; exact aH _ (S.own a y e)
 ·have h:a≠s.heap.objs.size:=bg (S.lt (.inl e))
  rw[Fz.az h]; exact S.apart a y e
 ·exact λc hc=>⟨(S.fo c hc).1,by rw[Fz.az (bg (S.jt hc))]; exact(S.fo c hc).2⟩
theorem St.same(S:St B f o s){a:Addr}{x x':Obj}{h':Heap}(ha:o a=some x)(hs:ft a s.heap h')(hx:h'.get? a=some x'):St B f (o.put a x') {s with heap:=h'}:=by
 have JF:=S.fu ha
 refine⟨λb y e=>?_,λb y e=>?_,λb y e=>?_,S.base,?_,?_,S.os,S.gens⟩
 ·have hb:b≠a:=λh=>by subst h; exact iB JF e
  exact(hs.2 b hb).trans (S.sub b y e)
 ·by_cases hb:b=a
  ·subst hb; cases nJ (Fz.aJ ..) e; exact hx
  ·rw[Fz.az hb] at e; exact(hs.2 b hb).trans (S.own b y e)
 ·have hb:b≠a:=λh=>by subst h; exact iB JF e
  rw[Fz.az hb]; exact S.apart b y e
 ·exact λc hc=>let⟨z,hz,hq⟩:=S.tab c hc; ⟨z,(hs.2 _ λq=>S.iG (.inr ha) (q▸hc)).trans hz,hq⟩
 ·intro c hc
  have hb:c≠a:=λq=>S.iG (.inr ha) (q▸hc)
  exact⟨(S.fo c hc).1,by rw[Fz.az hb]; exact(S.fo c hc).2⟩
theorem St.drop(S:St B f o s)(h:o'.le o):St B f o' s:=
 ⟨S.sub,λa x e=>S.own a x (h a x e),λa x e=>by cases q:o' a with|none=>rfl|some y=>(have:=h a y q; exact iB (S.apart a x e) this),S.base,S.tab,
  λc hc=>⟨(S.fo c hc).1,by cases q:o' c with|none=>rfl|some y=>exact absurd (h _ _ q) (by rw[(S.fo c hc).2]; simp)⟩,S.os,S.gens⟩
set_option tactic.hygienic true in
theorem St.freeze(S:St B f o s){a:Addr}{x:Obj}(ha:o a=some x):St B (f.put a x) (o.del a) s:=by
 have JF:=S.fu ha
 refine⟨λb y e=>?_,λb y e=>?_,λb y e=>?_,S.base.trans (Fz.bP JF),S.tab,?_,S.os,S.gens⟩
 ·by_cases hb:b=a
  ·subst hb; cases nJ (Fz.aJ ..) e; exact S.own _ _ ha
  ·rw[Fz.az hb] at e; exact S.sub b y e
 ·unfold Fz.del at e; split at e
  ·exact nomatch e
  ·exact S.own b y e
 ·unfold Fz.del
  split
  ·rfl
  ·rename_i hb
   rw[Fz.az hb] at e; exact S.apart b y e
 ·intro c hc
  have hb:c≠a:=λq=>S.iG (.inr ha) (q▸hc)
  exact⟨by rw[Fz.az hb]; exact(S.fo c hc).1,by simp only[Fz.del,hb,if_false]; exact(S.fo c hc).2⟩
end
structure Wd where
 prog:gr
 w:World
 B:Base
noncomputable abbrev Wd.M(W:Wd):Model:=model W.prog W.w
structure Rm(A:Around):Prop where
 depth:A.depth<=600
 units:A.units<=6000
structure Res where
 v:Value
 as:List Addr
 P:Fz->Fz->Prop
 mono:∀f f' o o',f.le f'->(∀a∈as,∀x,o a=some x->o' a=some x)->P f o->P f' o'
 there:∀f o,P f o->∀a∈as,∃x,o a=some x
inductive Bd where
 |unset
 |val (d:D)
 |res (own:Bool) (r:Res)
noncomputable abbrev Ro:=List (Str×Bd)
structure Cx where
 env:Env
 A:Around
 names:List (Str×aC)
structure Cx.Ok(C:Cx):Prop where
 kind:C.env.scope.kind= .function
 glob:C.env.globals=bV
 HB:C.env.builtins=cP
 kinds:∀n k,(n,k)∈C.names->k≠ .free->C.env.kindOf n=some k
 frees:∀n,(n,cM)∈C.names->C.env.kindOf n=some .cell\/C.env.kindOf n=some .free
 apart:∀n n' c c',C.env.kindOf n=some .cell\/C.env.kindOf n=some .free->C.env.kindOf n'=some .cell\/C.env.kindOf n'=some .free->
  C.env.cells.lookup n=some c->C.env.cells.lookup n'=some c'->n≠n'->c≠c'
 room:Rm C.A
theorem fY{α:Type}{n:Str}{k:α}{l:List (Str×α)}(h:(n,k)∈l):n∈l.map (·.1):=aw.mpr ⟨_,h,rfl⟩
theorem cJ{α:Type}:∀{l:List (Str×α)},(l.map (·.1)).Nodup->∀{n:Str} {k:α},(n,k)∈l->l.lookup n=some k
 |(x,y)::l,h,n,k,hm=>by
  rw[aO,fS] at h
  rw[eF]
  rcases au.mp hm with e|Nm
  ·cases e; simp
  ·have:n≠x:=λe=>h.1 (e▸fY Nm)
   rw[show(n==x)=false from beq_eq_false_iff_ne.mpr this]
   exact cJ h.2 Nm
inductive LstIs(f o:Fz)(a:Addr)(ds:List D):Prop
 |mk (ob:Obj) (vs:List Value) (n:Nat) (h1:o a=some ob) (h2:PL ob) (h3:ob.data= .seq ⟨vs⟩ n) (h4:bQ f ds vs):LstIs f o a ds
inductive Nn(E:Env)(o:Fz)(n:Str)(vo:Option Value):Prop
 |mk (h1:E.kindOf n=some .local) (ob:Obj) (es:Array cz) (ep:Nat) (h2:o E.locals=some ob) (h3:ob.data= .dict es ep) (h4:StrKeys es) (h5:nsFind es n=vo):Nn E o n vo
inductive Np(E:Env)(o:Fz)(n:Str)(vo:Option Value):Prop
 |mk (h1:E.kindOf n=some .cell\/E.kindOf n=some .free) (c:Addr) (ob:Obj) (h2:E.cells.lookup n=some c) (h3:o c=some ob) (h4:ob.data= .cell vo):Np E o n vo
inductive Nq(E:Env)(o:Fz):Prop
 |mk (ob:Obj) (es:Array cz) (ep:Nat) (h1:o E.locals=some ob) (h2:ob.data= .dict es ep) (h3:StrKeys es):Nq E o
noncomputable def kF(C:Cx)(o:Fz)(n:Str)(vo:Option Value):Prop:=
 Nn C.env o n vo\/Np C.env o n vo
noncomputable def Holds(f o:Fz):Bd->Option Value->Prop
 | .unset,_=>True
 | .val d,vo=>∃v,vo=some v/\Den f d v
 | .res _ r,vo=>vo=some r.v/\r.P f o
noncomputable def Slots(C:Cx)(ρ:Ro)(a:Addr):Prop:=a=C.env.locals\/∃n,n∈ρ.map (·.1)/\(C.env.kindOf n=some .cell\/C.env.kindOf n=some .free)/\C.env.cells.lookup n=some a
structure bc(C:Cx)(ρ:Ro)(f o:Fz):Prop where
 ok:C.Ok
 ns:Nq C.env o
 vars:∀n b,(n,b)∈ρ->∃vo,kF C o n vo/\Holds f o b vo
 nd:(ρ.map (·.1)).Nodup
 sep:∀n u r,(n,Bd.res u r)∈ρ->∀a∈r.as,¬Slots C ρ a
 two:∀n n' u u' r r',(n,Bd.res u r)∈ρ->(n',Bd.res u' r')∈ρ->n≠n'->∀a∈r.as,a∉r'.as
section
variable {C:Cx}{ρ:Ro}{f o f' o':Fz}
theorem LstIs.mono(h:f.le f')(ho:o.le o'){a:Addr}{ds:List D}(x:LstIs f o a ds):LstIs f' o' a ds:=let⟨ob,vs,n,p,q,r,t⟩:=x; ⟨ob,vs,n,ho _ _ p,q,r,t.mono h⟩
theorem Holds.mono(h:f.le f')(ho:o.le o'){b:Bd}{vo:Option Value}(x:Holds f o b vo):Holds f' o' b vo:=by
 cases b with
 |unset=>trivial
 |val d=>obtain⟨v,e,y⟩:=x; exact⟨v,e,y.mono h⟩
 |res _ r=>exact⟨x.1,r.mono _ _ _ _ h (λa _=>ho a) x.2⟩
theorem kF.mono(ho:o.le o'){n:Str}{vo:Option Value}(x:kF C o n vo):kF C o' n vo:=by
 rcases x with⟨k,ob,es,ep,a,r,y1,y2⟩|⟨k,c,ob,l,a,r⟩
 ·exact .inl ⟨k,ob,es,ep,ho _ _ a,r,y1,y2⟩
 ·exact .inr ⟨k,c,ob,l,ho _ _ a,r⟩
theorem bc.mono(h:f.le f')(ho:o.le o')(x:bc C ρ f o):bc C ρ f' o':=
 ⟨x.ok,let⟨ob,es,ep,p,r,y1⟩:=x.ns; ⟨ob,es,ep,ho _ _ p,r,y1⟩,λn b hm=>let⟨vo,a,c⟩:=x.vars n b hm; ⟨vo,a.mono ho,c.mono h ho⟩,x.nd,x.sep,x.two⟩
end
inductive Ro.Set(n:Str)(b:Bd):Ro->Ro->Prop
 |head {qf ρ}:Ro.Set n b ((n,qf)::ρ) ((n,b)::ρ)
 |tail {p ρ a9}:Ro.Set n b ρ a9->Ro.Set n b (p::ρ) (p::a9)
theorem Ro.Set.keys{n:Str}{b:Bd}{ρ a9:Ro}(h:Ro.Set n b ρ a9):a9.map (·.1)=ρ.map (·.1):=by
 induction h with
 |head=>rfl
 |tail _ ih=>exact congrArg (List.cons _) ih
theorem Ro.Set.t4{n:Str}{b:Bd}{p q r t:Str×Bd}{ρ a9:Ro}(h:Ro.Set n b ρ a9):Ro.Set n b (p::q::r::t::ρ) (p::q::r::t::a9):= .tail (.tail (.tail (.tail h)))
theorem Ro.Set.t1{n:Str}{b qf:Bd}{p:Str×Bd}{ρ:Ro}:Ro.Set n b (p::(n,qf)::ρ) (p::(n,b)::ρ):= .tail .head
theorem Ro.Set.t2{n:Str}{b qf:Bd}{p q:Str×Bd}{ρ:Ro}:Ro.Set n b (p::q::(n,qf)::ρ) (p::q::(n,b)::ρ):= .tail (.tail .head)
theorem Ro.Set.t3{n:Str}{b qf:Bd}{p q r:Str×Bd}{ρ:Ro}:Ro.Set n b (p::q::r::(n,qf)::ρ) (p::q::r::(n,b)::ρ):= .tail (.tail (.tail .head))
theorem Zf{α:Type}{a p:α}{l:List α}:a∈p::a::l:= .tail _ (.head _)
theorem Zg{α:Type}{a p q:α}{l:List α}:a∈p::q::a::l:= .tail _ Zf
theorem me3{α:Type}{a p q r:α}{l:List α}:a∈p::q::r::a::l:= .tail _ Zg
theorem me4{α:Type}{a p q r s:α}{l:List α}(h:a∈l):a∈p::q::r::s::l:= .tail _ (.tail _ (.tail _ (.tail _ h)))
theorem Ro.Set.here{n:Str}{b:Bd}{ρ a9:Ro}(h:Ro.Set n b ρ a9):n∈ρ.map (·.1):=by
 induction h with
 |head=>exact .head _
 |tail _ ih=>exact .tail _ ih
theorem Ro.Set.mem{n:Str}{b:Bd}{ρ a9:Ro}(h:Ro.Set n b ρ a9):(ρ.map (·.1)).Nodup->∀{x:Str} {y:Bd},(x,y)∈a9->(x=n/\y=b)\/(x≠n/\(x,y)∈ρ):=by
 induction h with
 |head=>
  intro hn x y hm
  rcases au.mp hm with e|h2
  ·cases e; exact .inl ⟨rfl,rfl⟩
  ·exact .inr ⟨λe=>(fS.mp hn).1 (e▸fY h2), .tail _ h2⟩
 |tail h ih=>
  intro hn x y hm
  have hn:=fS.mp hn
  rcases au.mp hm with e|h2
  ·subst e; exact .inr ⟨λe=>hn.1 (e.symm▸h.here), .head _⟩
  ·exact(ih hn.2 h2).imp id λq=>⟨q.1, .tail _ q.2⟩
noncomputable def pq(C:Cx)(ρ:Ro)(a:Addr):Prop:=a=C.env.locals\/(∃n,(n,aq)∈C.names/\n∈ρ.map (·.1)/\C.env.cells.lookup n=some a)\/∃n r,(n,Bd.res true r)∈ρ/\a∈r.as
noncomputable def Uses(C:Cx)(ρ:Ro)(a:Addr):Prop:=Slots C ρ a\/∃n u r,(n,Bd.res u r)∈ρ/\a∈r.as
theorem pq.uses{C:Cx}(O:C.Ok){ρ:Ro}{a:Addr}(h:pq C ρ a):Uses C ρ a:=by
 rcases h with h|⟨n,h1,h2,h3⟩|⟨n,r,h,h'⟩
 ·exact .inl (.inl h)
 ·exact .inl (.inr ⟨n,h2, .inl (O.kinds _ _ h1 (by decide)),h3⟩)
 ·exact .inr ⟨n,true,r,h,h'⟩
theorem bc.slot{C:Cx}{ρ:Ro}{f o:Fz}(H:bc C ρ f o){a:Addr}(h:Slots C ρ a):∃x,o a=some x:=by
 rcases h with rfl|⟨n,h1,h2,h3⟩
 ·obtain⟨ob,_,_,h,_⟩:=H.ns; exact⟨ob,h⟩
 ·obtain⟨⟨x,b⟩,hm,e⟩:=aw.mp h1
  dsimp only at e; subst e
  obtain⟨vo,hv,_⟩:=H.vars _ _ hm
  rcases hv with⟨k,_⟩|⟨_,c,ob,e1,e2,_⟩
  ·exfalso; rcases h2 with h2|h2<;>rw[h2] at k<;>exact nomatch k
  ·cases nJ h3 e1; exact⟨ob,e2⟩
theorem bc.there{C:Cx}{ρ:Ro}{f o:Fz}(H:bc C ρ f o){a:Addr}(h:Uses C ρ a):∃x,o a=some x:=by
 rcases h with h|⟨n,u,r,h,h'⟩
 ·exact H.slot h
 ·obtain⟨vo,_,hh⟩:=H.vars _ _ h
  exact r.there _ _ hh.2 a h'
theorem bc.off{C:Cx}{ρ:Ro}{f o o':Fz}(H:bc C ρ f o)(h:∀a y,o a=some y->Uses C ρ a->o' a=some y):bc C ρ f o':=by
 refine⟨H.ok,?_,λn b hm=>?_,H.nd,H.sep,H.two⟩
 ·obtain⟨ob,es,ep,e,r,y1⟩:=H.ns; exact⟨ob,es,ep,h _ _ e (.inl (.inl rfl)),r,y1⟩
 ·obtain⟨vo,hv,hh⟩:=H.vars n b hm
  refine⟨vo,?_,?_⟩
  ·rcases hv with⟨k,ob,es,ep,e1,r,y1,y2⟩|⟨k,c,ob,e1,e2,r⟩
   ·exact .inl ⟨k,ob,es,ep,h _ _ e1 (.inl (.inl rfl)),r,y1,y2⟩
   ·exact .inr ⟨k,c,ob,e1,h _ _ e2 (.inl (.inr ⟨n,aw.mpr ⟨(n,b),hm,rfl⟩,k,e1⟩)),r⟩
  ·cases b with
   |unset=>trivial
   |val d=>exact hh
   |res u r=>exact⟨hh.1,r.mono _ _ _ _ (.refl f) (λa ha x e=>h a x e (.inr ⟨n,u,r,hm,ha⟩)) hh.2⟩
theorem Slots.set{C:Cx}{n:Str}{b:Bd}{ρ a9:Ro}(h:Ro.Set n b ρ a9){a:Addr}:Slots C a9 a↔Slots C ρ a:=by unfold Slots; rw[h.keys]
noncomputable def qg(C:Cx)(ρ:Ro)(o o':Fz):Prop:=∀a x,o a=some x->¬pq C ρ a->o' a=some x
theorem qg.refl{C:Cx}{ρ:Ro}(o:Fz):qg C ρ o o:=λ_ _ e _=>e
section
variable {W:Wd}{C:Cx}{ρ a9:Ro}{f o:Fz}{s:Shared}
theorem D6(O:C.Ok)(S:St W.B f o s)(H:bc C ρ f o){n:Str}{d:D}{v:Value}(aU:Ro.Set n (.val d) ρ a9)(hd:Den f d v){Q:Unit->Shared->Prop}{E:Value->Shared->Prop}
 (hk:C.env.kindOf n=some .local)
 (h:∀o' s',St W.B f o' s'->bc C a9 f o'->qg C ρ o o'->Q () s'):wpAny W.M C.A (storeName C.env n v) Q E s:=by
 obtain⟨ob,es,ep,p,zV,JG⟩:=H.ns
 have wR:s.heap.Ns C.env.locals (nsFind es):=⟨ob,es,ep,S.own _ _ p,zV,JG,λ_=>rfl⟩
 refine wpAny_storeName_local hk wR (λh' hn hs=>?_) (by rw[O.kind]; rfl)
 obtain⟨ob',pF,D7,q,zW,zX,Qb⟩:=hn
 refine h _ _ ((S.same p hs q).tok _) ⟨O,⟨ob',pF,D7,Fz.aJ ..,zW,zX⟩,λx b hm=>?_,by rw[aU.keys]; exact H.nd,λx u r hm a ha hs=>?_,λx y u u' r r' p q=>?_⟩ λa x e hm=>?_
 ·rcases aU.mem H.nd hm with⟨rfl,rfl⟩|⟨hx,hm⟩
  ·exact⟨some v, .inl ⟨hk,ob',pF,D7,Fz.aJ ..,zW,zX,(Qb _).trans (if_pos rfl)⟩,v,rfl,hd⟩
  ·obtain⟨vo,hv,hh⟩:=H.vars x b hm
   refine⟨vo,?_,?_⟩
   ·rcases hv with⟨k,m8,yd,ye,e1,e2,e3,e4⟩|⟨k,c,m8,e1,e2,e3⟩
    ·cases nJ p e1
     rw[zV] at e2; cases e2
     exact .inl ⟨k,ob',pF,D7,Fz.aJ ..,zW,zX,((Qb _).trans (if_neg hx)).trans e4⟩
    ·have:c≠C.env.locals:=λe=>by subst e; cases nJ p e2; rw[zV] at e3; exact nomatch e3
     exact .inr ⟨k,c,m8,e1,by rw[Fz.az this]; exact e2,e3⟩
   ·cases b with
    |unset=>trivial
    |val d=>exact hh
    |res u r=>exact⟨hh.1,r.mono _ _ _ _ (.refl f) (λa ha y e=>by rw[Fz.az (λq=>H.sep x u r hm a ha (.inl q))]; exact e) hh.2⟩
 ·rcases aU.mem H.nd hm with⟨_,e⟩|⟨_,hm⟩
  ·exact nomatch e
  ·exact H.sep x u r hm a ha ((Slots.set aU).mp hs)
 ·rcases aU.mem H.nd p with⟨_,e⟩|⟨_,p⟩
  ·exact nomatch e
  ·rcases aU.mem H.nd q with⟨_,e⟩|⟨_,q⟩
   ·exact nomatch e
   ·exact H.two x y u u' r r' p q
 ·have:a≠C.env.locals:=λe=>hm (.inl e)
  rw[Fz.az this]; exact e
theorem HC(O:C.Ok)(S:St W.B f o s)(H:bc C ρ f o){n:Str}{d:D}{v:Value}(aU:Ro.Set n (.val d) ρ a9)(hd:Den f d v){Q:Unit->Shared->Prop}{E:Value->Shared->Prop}
 (Zh:(n,aq)∈C.names)
 (h:∀o' s',St W.B f o' s'->bc C a9 f o'->qg C ρ o o'->Q () s'):wpAny W.M C.A (storeName C.env n v) Q E s:=by
 have hk:=O.kinds _ _ Zh (by decide)
 obtain⟨qf,Nr⟩:∃qf,(n,qf)∈ρ:=by
  have:=aU.here
  obtain⟨⟨x,b⟩,hm,e⟩:=aw.mp this
  exact⟨b,by subst e; exact hm⟩
 obtain⟨vo,hv,_⟩:=H.vars n qf Nr
 rcases hv with⟨k,_⟩|⟨_,c,oc,hl,hc,sd⟩
 ·cases nJ hk k
 obtain⟨ob,es,ep,p,zV,JG⟩:=H.ns
 refine wpAny_storeName_cell O.kind hk hl ⟨oc,S.own _ _ hc,sd⟩ λh' hn hs=>?_
 obtain⟨oc',q,Wr⟩:=hn
 have Zi:C.env.locals≠c:=λe=>by subst e; cases nJ p hc; rw[zV] at sd; exact nomatch sd
 refine h _ _ (S.same hc hs q) ⟨O,⟨ob,es,ep,by rw[Fz.az Zi]; exact p,zV,JG⟩,λx b hm=>?_,by rw[aU.keys]; exact H.nd,λx u r hm a ha hs=>?_,λx y u u' r r' p q=>?_⟩ λa x e hm=>?_
 ·rcases aU.mem H.nd hm with⟨rfl,rfl⟩|⟨hx,hm⟩
  ·exact⟨some v, .inr ⟨.inl hk,c,oc',hl,Fz.aJ ..,Wr⟩,v,rfl,hd⟩
  ·obtain⟨vo,hv,hh⟩:=H.vars x b hm
   refine⟨vo,?_,?_⟩
   ·rcases hv with⟨k,m8,yd,ye,e1,e2,e3,e4⟩|⟨k,c',m8,e1,e2,e3⟩
    ·exact .inl ⟨k,m8,yd,ye,by rw[Fz.az Zi]; exact e1,e2,e3,e4⟩
    ·have:c'≠c:=O.apart x n c' c k (.inl hk) e1 hl hx
     exact .inr ⟨k,c',m8,e1,by rw[Fz.az this]; exact e2,e3⟩
   ·cases b with
    |unset=>trivial
    |val d=>exact hh
    |res u r=>exact⟨hh.1,r.mono _ _ _ _ (.refl f) (λa ha y e=>by rw[Fz.az (λq=>H.sep x u r hm a ha (.inr ⟨n,aU.here, .inl hk,by rw[q]; exact hl⟩))]; exact e) hh.2⟩
 ·rcases aU.mem H.nd hm with⟨_,e⟩|⟨_,hm⟩
  ·exact nomatch e
  ·exact H.sep x u r hm a ha ((Slots.set aU).mp hs)
 ·rcases aU.mem H.nd p with⟨_,e⟩|⟨_,p⟩
  ·exact nomatch e
  ·rcases aU.mem H.nd q with⟨_,e⟩|⟨_,q⟩
   ·exact nomatch e
   ·exact H.two x y u u' r r' p q
 ·have:a≠c:=λe=>hm (.inr (.inl ⟨n,Zh,aU.here,e▸hl⟩))
  rw[Fz.az this]; exact e
theorem sv(O:C.Ok)(S:St W.B f o s)(H:bc C ρ f o){n:Str}{k:aC}{d:D}{v:Value}(hk:(n,k)∈C.names)(oX:(k== .local||k== .cell)=true)
 (aU:Ro.Set n (.val d) ρ a9) (hd:Den f d v) {Q:Unit->Shared->Prop} {E:Value->Shared->Prop}
 (h:∀o' s',St W.B f o' s'->bc C a9 f o'->qg C ρ o o'->Q () s'):wpAny W.M C.A (storeName C.env n v) Q E s:=by
 cases k<;>first|cases oX; done|skip
 ·exact D6 O S H aU hd (O.kinds _ _ hk (by decide)) h
 ·exact HC O S H aU hd hk h
noncomputable def eg(W:Wd)(C:Cx)(ρ:Ro)(e:Expr)(d:D):Prop:=∀f o s,St W.B f o s->bc C ρ f o->∀(Q:Value->Shared->Prop) (E:Value->Shared->Prop),
 (∀v f' s',f.le f'->St W.B f' o s'->Den f' d v->Q v s')->wpAny W.M C.A (eval e C.env) Q E s
noncomputable def vH(W:Wd)(C:Cx)(ρ:Ro)(e:Expr)(b:Bool):Prop:=∀f o s,St W.B f o s->bc C ρ f o->∀(Q:Bool->Shared->Prop) (E:Value->Shared->Prop),
 (∀f' s',f.le f'->St W.B f' o s'->Q b s')->wpAny W.M C.A (isTrue e C.env (eval e C.env)) Q E s
theorem sx(O:C.Ok)(S:St W.B f o s)(H:bc C ρ f o){n:Str}{b:Bd}{vo:Option Value}(_hm:(n,b)∈ρ)(hv:kF C o n vo){v:Value}(e:vo=some v){Q:Value->Shared->Prop}{E:Value->Shared->Prop}
 (sd:(n==("__classdict__" :Str))=false) (h:Q v s):wpAny W.M C.A (loadName C.env n) Q E s:=by
 subst e
 rcases hv with⟨k,ob,es,ep,e1,e2,e3,e4⟩|⟨k,c,ob,e1,e2,e3⟩
 ·exact wpAny_loadName_local O.kind k ⟨ob,es,ep,S.own _ _ e1,e2,e3,λ_=>rfl⟩ e4 h
 ·rcases k with k|k
  ·exact wpAny_loadName_cell O.kind k e1 ⟨ob,S.own _ _ e2,e3⟩ h
  ·exact wpAny_loadName_free O.kind k e1 ⟨ob,S.own _ _ e2,e3⟩ h sd
theorem eg.name(O:C.Ok){n:Str}{d:D}{pos:Pos}(hm:(n,Bd.val d)∈ρ)(h1:(n==("__debug__" :Str))=false)(h2:(n==("__classdict__" :Str))=false):eg W C ρ (.Name n pos) d:=λf o s S H Q E h=>by
 obtain⟨vo,hv,v,e,hd⟩:=H.vars _ _ hm
 exact uP (sx O S H hm hv e h2 (h v f s (.refl f) S hd)) h1
noncomputable def eI(a:Addr)(ds:List D):Res where
 v:= .ref a
 as:=[a]
 P:=λf o=>LstIs f o a ds
 mono:=λf f' o o' h ho ⟨ob,vs,n,e,p,q,r⟩=>⟨ob,vs,n,ho a (.head _) _ e,p,q,r.mono h⟩
 there:=λf o ⟨ob,_,_,e,_,_,_⟩ x hx=>by rcases aA.mp hx with rfl; exact⟨ob,e⟩
theorem eg.int{i:Int}{k:Nat}{pos:Pos}:eg W C ρ (.Constant (.int i) k pos) (.int i):=λf _ s S _ _ _ h=>
 wpAny_Constant_int (h _ f _ (.refl f) (S.tok _) ⟨_,rfl⟩)
theorem eg.str{x:Str}{k:Nat}{pos:Pos}:eg W C ρ (.Constant (.str x) k pos) (.str x):=λf _ s S _ _ _ h=>
 pX (h _ f _ (.refl f) (S.tok _) ⟨_,rfl⟩)
theorem eg.bool{b:Bool}{k:Nat}{pos:Pos}:eg W C ρ (.Constant (.bool b) k pos) (.bool b):=λf _ s S _ _ _ h=>
 ao (h _ f _ (.refl f) S rfl)
theorem eg.none{k:Nat}{pos:Pos}:eg W C ρ (.Constant .none k pos) .none:=λf _ s S _ _ _ h=>
 ao (h _ f _ (.refl f) S rfl)
noncomputable def lp(W:Wd)(t:Value->Value->Sem Value)(da db d:D):Prop:=∀A f o s va vb,Rm A->St W.B f o s->Den f da va->Den f db vb->∀(Q:Value->Shared->Prop) (E:Value->Shared->Prop),
 (∀v f' s',f.le f'->St W.B f' o s'->Den f' d v->Q v s')->wpAny W.M A (t va vb) Q E s
noncomputable def yf(W:Wd)(t:Value->Sem Value)(da d:D):Prop:=∀A f o s va,Rm A->St W.B f o s->Den f da va->∀(Q:Value->Shared->Prop) (E:Value->Shared->Prop),
 (∀v f' s',f.le f'->St W.B f' o s'->Den f' d v->Q v s')->wpAny W.M A (t va) Q E s
noncomputable def KS(W:Wd)(d:D)(b:Bool):Prop:=∀A f o s v,Rm A->St W.B f o s->Den f d v->∀(Q:Bool->Shared->Prop) (E:Value->Shared->Prop),(∀f' s',f.le f'->St W.B f' o s'->Q b s')->wpAny W.M A (truthy v) Q E s
theorem eg.bin(O:C.Ok){l r:Expr}{op:Operator}{pos:Pos}{da db d:D}(ha:eg W C ρ l da)(hb:eg W C ρ r db)(ho:lp W (jj op) da db d):eg W C ρ (.BinOp l op r pos) d:=λf o s S H Q E h=>
 Jq (ha f o s S H _ _ λva f1 s1 l1 S1 d1=>hb f1 o s1 S1 (H.mono l1 (.refl o)) _ _ λvb f2 s2 l2 S2 d2=>
  ho _ f2 o s2 va vb O.room S2 (d1.mono l2) d2 _ _ λv f3 s3 l3 S3 d3=>h v f3 s3 (l1.trans (l2.trans l3)) S3 d3)
theorem eg.cmp(O:C.Ok){l r:Expr}{op:CmpOp}{pos:Pos}{da db d:D}(ha:eg W C ρ l da)(hb:eg W C ρ r db)(ho:lp W (cc op) da db d)(hm:jk op r=false):eg W C ρ (.Compare l [op] [r] pos) d:=λf o s S H Q E h=>
 wpAny_Compare1 (ha f o s S H _ _ λva f1 s1 l1 S1 d1=>hb f1 o s1 S1 (H.mono l1 (.refl o)) _ _ λvb f2 s2 l2 S2 d2=>
  ho _ f2 o s2 va vb O.room S2 (d1.mono l2) d2 _ _ λv f3 s3 l3 S3 d3=>h v f3 s3 (l1.trans (l2.trans l3)) S3 d3) hm
theorem vH.cmp(O:C.Ok){l r:Expr}{op:CmpOp}{pos:Pos}{da db:D}{b:Bool}(ha:eg W C ρ l da)(hb:eg W C ρ r db)(ho:lp W (cc op) da db (.bool b))(hm:jk op r=false):vH W C ρ (.Compare l [op] [r] pos) b:=λf o s S H Q E h=>
 Hc (ha f o s S H _ _ λva f1 s1 l1 S1 d1=>hb f1 o s1 S1 (H.mono l1 (.refl o)) _ _ λvb f2 s2 l2 S2 d2=>
  ho _ f2 o s2 va vb O.room S2 (d1.mono l2) d2 _ _ λv f3 s3 l3 S3 d3=>by
   obtain rfl:v= .bool b:=d3
   exact vD (h f3 s3 (l1.trans (l2.trans l3)) S3)) hm
noncomputable def cK(W:Wd)(n:Str)(v:Value):Prop:=∀f o s,St W.B f o s->∀A env (Q:Value->Shared->Prop) (E:Value->Shared->Prop),env.globals=bV->env.builtins=cP->Q v s->wpAny W.M A (loadGlobal env n) Q E s
theorem eg.glob(O:C.Ok){n:Str}{v:Value}{pos:Pos}(hm:(n,ag)∈C.names)(g:cK W n v)(h1:(n==("__debug__" :Str))=false):eg W C ρ (.Name n pos) (.raw v):=λf o s S H Q E h=>by
 refine uP ?_ h1
 rw[loadName_read O.kind (O.kinds _ _ hm (by decide))]
 exact g f o s S _ _ _ _ O.glob O.HB (h v f s (.refl f) S rfl)
theorem vH.val(O:C.Ok){e:Expr}{d:D}{b:Bool}(x:eg W C ρ e d)(t:KS W d b)(he:isTrue e C.env (eval e C.env)=(do let v <-eval e C.env; dE e.pos; holding [v] (truthy v))):vH W C ρ e b:=λf o s S H Q E h=>
 wpAny_isTrue_value (x f o s S H _ _ λv f1 s1 l1 S1 d1=>t _ f1 o s1 v O.room S1 d1 _ _ λf2 s2 l2 S2=>h f2 s2 (l1.trans l2) S2) he
theorem vH.not{e:Expr}{b:Bool}{pos:Pos}(x:vH W C ρ e b):vH W C ρ (.UnaryOp .Not e pos) (!b):=λf o s S H Q E h=>
 wpAny_isTrue_Not (x f o s S H _ _ λf1 s1 l1 S1=>h f1 s1 l1 S1)
noncomputable def lq(W:Wd)(C:Cx)(ρ:Ro)(op:BoolOp)(es:List Expr)(b:Bool):Prop:=∀f o s,St W.B f o s->bc C ρ f o->∀(Q:Bool->Shared->Prop) (E:Value->Shared->Prop),
 (∀f' s',f.le f'->St W.B f' o s'->Q b s')->wpAny W.M C.A (allTrue op es C.env) Q E s
theorem vH.KU{op:BoolOp}{es:List Expr}{b:Bool}{pos:Pos}(x:lq W C ρ op es b):vH W C ρ (.BoolOp op es pos) b:=λf o s S H Q E h=>wpAny_isTrue_BoolOp (x f o s S H _ _ h)
theorem lq.and_nil:lq W C ρ .And [] true:=λf o s S H Q E h=>wpAny_allTrue_And_nil (h f s (.refl f) S)
theorem lq.or_nil:lq W C ρ .Or [] false:=λf o s S H Q E h=>wpAny_allTrue_Or_nil (h f s (.refl f) S)
theorem lq.and_cons{e:Expr}{es:List Expr}{a b:Bool}(x:vH W C ρ e a)(y:a=true->lq W C ρ .And es b):lq W C ρ .And (e::es) (a&&b):=λf o s S H Q E h=>
 wpAny_allTrue_And_cons (x f o s S H _ _ λf1 s1 l1 S1=>by
  cases a with
  |true=>exact y rfl f1 o s1 S1 (H.mono l1 (.refl o)) _ _ λf2 s2 l2 S2=>h f2 s2 (l1.trans l2) S2
  |false=>exact h f1 s1 l1 S1)
theorem lq.or_cons{e:Expr}{es:List Expr}{a b:Bool}(x:vH W C ρ e a)(y:a=false->lq W C ρ .Or es b):lq W C ρ .Or (e::es) (a||b):=λf o s S H Q E h=>
 wpAny_allTrue_Or_cons (x f o s S H _ _ λf1 s1 l1 S1=>by
  cases a with
  |true=>exact h f1 s1 l1 S1
  |false=>exact y rfl f1 o s1 S1 (H.mono l1 (.refl o)) _ _ λf2 s2 l2 S2=>h f2 s2 (l1.trans l2) S2)
theorem eg.ite{t x y:Expr}{pos:Pos}{b:Bool}{d:D}(ht:vH W C ρ t b)(hx:b=true->eg W C ρ x d)(hy:b=false->eg W C ρ y d):eg W C ρ (.IfExp t x y pos) d:=λf o s S H Q E h=>
 wpAny_IfExp (ht f o s S H _ _ λf1 s1 l1 S1=>by
  cases b with
  |true=>exact hx rfl f1 o s1 S1 (H.mono l1 (.refl o)) _ _ λv f2 s2 l2 S2 d2=>h v f2 s2 (l1.trans l2) S2 d2
  |false=>exact hy rfl f1 o s1 S1 (H.mono l1 (.refl o)) _ _ λv f2 s2 l2 S2 d2=>h v f2 s2 (l1.trans l2) S2 d2)
theorem eg.un(O:C.Ok){op:zD}{x:Expr}{pos:Pos}{da d:D}(hx:eg W C ρ x da)(ho:yf W (unaryOp op) da d):eg W C ρ (.UnaryOp op x pos) d:=λf o s S H Q E h=>
 wpAny_UnaryOp (hx f o s S H _ _ λv f1 s1 l1 S1 d1=>ho _ f1 o s1 v O.room S1 d1 _ _ λv f2 s2 l2 S2 d2=>h v f2 s2 (l1.trans l2) S2 d2)
theorem eg.or2(O:C.Ok){x y:Expr}{pos:Pos}{da db:D}{a:Bool}(hx:eg W C ρ x da)(ha:KS W da a)(hy:a=false->eg W C ρ y db){d:D}(h1:a=true->d=da)(h2:a=false->d=db):eg W C ρ (.BoolOp .Or [x,y] pos) d:=λf o s S H Q E h=>by
 show wpAny _ _ (boolOp pos .Or [eval x C.env,eval y C.env]) Q E s
 unfold boolOp
 refine aa (hx f o s S H _ _ λv f1 s1 l1 S1 d1=>aa (aZ (aa (aL (ha _ f1 o s1 v O.room S1 d1 _ _ λf2 s2 l2 S2=>?_)))))
 cases a with
 |true=>exact ao (h v f2 s2 (l1.trans l2) S2 (h1 rfl▸d1.mono l2))
 |false=>
  show wpAny _ _ (boolOp pos .Or [eval y C.env]) Q E s2
  unfold boolOp
  exact hy rfl f2 o s2 S2 (H.mono (l1.trans l2) (.refl o)) _ _ λv f3 s3 l3 S3 d3=>h v f3 s3 ((l1.trans l2).trans l3) S3 (h2 rfl▸d3)
noncomputable def nq(W:Wd)(C:Cx)(ρ:Ro)(es:List Expr)(ds:List D):Prop:=∀pos f o s,St W.B f o s->bc C ρ f o->∀(Q:List Value->Shared->Prop) (E:Value->Shared->Prop),
 (∀vs f' s',f.le f'->St W.B f' o s'->bQ f' ds vs->Q vs s')->wpAny W.M C.A (spliced (backTo pos (aI es C.env))) Q E s
theorem nq.nil:nq W C ρ [] []:=λpos f o s S H Q E h=>d9 (h [] f s (.refl f) S rfl)
theorem nq.cons{e:Expr}{es:List Expr}{d:D}{ds:List D}(x:eg W C ρ e d)(y:nq W C ρ es ds)(he:aI (e::es) C.env=(false,eval e C.env)::aI es C.env):nq W C ρ (e::es) (d::ds):=λpos f o s S H Q E h=>by
 rw[he]
 show wpAny _ _ (spliced ((false,eval e C.env)::backTo pos (aI es C.env))) Q E s
 exact dO (x f o s S H _ _ λv f1 s1 l1 S1 d1=>y pos f1 o s1 S1 (H.mono l1 (.refl o)) _ _ λvs f2 s2 l2 S2 d2=>h _ f2 s2 (l1.trans l2) S2 (.cons (d1.mono l2) d2))
theorem pG(S:St W.B f o s){A:Around}{ds:List D}{vs:List Value}(hd:bQ f ds vs)(fB:ds.length<=16777216){Q:Value->Shared->Prop}{E:Value->Shared->Prop}
 (h:∀v f' s',f.le f'->St W.B f' o s'->Den f' (.tup ds) v->Q v s'):wpAny W.M A (newTuple vs) Q E s:=by
 refine ka (h _ _ _ (Fz.bP S.gQ) (S.ju _) ⟨_,_,vs,0,rfl,Fz.aJ ..,rfl,rfl,hd.mono (Fz.bP S.gQ)⟩) ?_
 rw[bu,hd.length]; exact fB
theorem CE(S:St W.B f o s){A:Around}{ds:List D}{vs:List Value}(hd:bQ f ds vs)(fB:ds.length<=16777216){Q:Value->Shared->Prop}{E:Value->Shared->Prop}
 (h:∀v f' s',f.le f'->St W.B f' o s'->Den f' (.list ds) v->Q v s'):wpAny W.M A (newList vs) Q E s:=by
 refine oC (h _ _ _ (Fz.bP S.gQ) (S.ju _) ⟨_,_,vs,0,rfl,Fz.aJ ..,⟨rfl,rfl,rfl⟩,rfl,hd.mono (Fz.bP S.gQ)⟩) ?_
 rw[bu,hd.length]; exact fB
theorem eg.tuple{es:List Expr}{k:Nat}{pos:Pos}{ds:List D}(x:nq W C ρ es ds)(fB:ds.length<=16777216):eg W C ρ (.Tuple es k pos) (.tup ds):=λf o s S H Q E h=>
 Tuple_ (x pos f o s S H _ _ λvs f1 s1 l1 S1 d1=>pG S1 d1 fB λv f2 s2 l2 S2 d2=>h v f2 s2 (l1.trans l2) S2 d2)
theorem eg.list{es:List Expr}{pos:Pos}{ds:List D}(x:nq W C ρ es ds)(fB:ds.length<=16777216):eg W C ρ (.List es pos) (.list ds):=λf o s S H Q E h=>
 List_ (x pos f o s S H _ _ λvs f1 s1 l1 S1 d1=>CE S1 d1 fB λv f2 s2 l2 S2 d2=>h v f2 s2 (l1.trans l2) S2 d2)
noncomputable def Kept(W:Wd)(fv:Value):Prop:=∀h:Heap,(∀a x,W.B.f a=some x->h.get? a=some x)->∃k,(k=Keeper.frame\/k=Keeper.machine\/k=Keeper.boundFrame)/\Looks W.M h (keeperOf fv) k
theorem Kept.builtin{id:String}:Kept W (.builtin id):=λh _=>⟨.machine, .inr (.inl rfl),x8⟩
theorem Kept.type{id:String}:Kept W (.type id):=λh _=>⟨.machine, .inr (.inl rfl),x8⟩
noncomputable def l7(W:Wd)(A:Around)(fv:Value)(ds:List D)(d:D):Prop:=∀f o s vs,St W.B f o s->bQ f ds vs->∀(Q:Value->Shared->Prop) (E:Value->Shared->Prop),
 (∀v f' s',f.le f'->St W.B f' o s'->Den f' d v->Q v s')->wpAny W.M A (call fv vs []) Q E s
theorem St.bT(S:St W.B f o s):∀a x,W.B.f a=some x->s.heap.get? a=some x:=λa x e=>S.sub a x (S.base a x e)
theorem cn(pos:Pos):∀(es:List Expr) (env:Env),(aI es env).all (λx=>!x.1)=true->(backTo pos (aI es env)).any (·.1)=false:=λes env h=>by
 unfold backTo
 rw[List.any_map]
 generalize aI es env=l at h
 induction l with
 |nil=>rfl
 |cons x l ih=>
  rw[c9,cq] at h
  rw[qU,ih h.2]
  simp only[lF,ya]
  simpa using h.1
theorem dj{M:Model}{A:Around}{E:Value->Shared->Prop}{s:Shared}{f:Value}{args:List (Bool×Sem Value)}{Q:Args->Shared->Prop}(hp:args.any (·.1)=false)
 (h:wpAny M A (spliced args) (λvs s'=>Q ⟨vs,[]⟩ s') E s):wpAny M A (evalArgs f true args []) Q E s:=by
 cases args with
 |nil=>
  unfold evalArgs
  show wpAny M A (spliced [] >>= _) Q E s
  refine aa (dC h (λvs s' h'=>?_) λ_ _ x=>x)
  exact aL (aa (ao (aa (ao (ao h')))))
 |cons x r=>
  obtain⟨b,t⟩:=x
  obtain rfl:b=false:=by cases b with|false=>rfl|true=>exact nomatch hp
  exact Calls.evalArgs_plain h
theorem rO(hk:Kept W fv){pos pos':Pos}{first:List Value}{es:List Expr}{ds d1s:List D}{d:D}(ha:nq W C ρ es ds)(hp:(aI es C.env).all (λx=>!x.1)=true)
 (S:St W.B f o s) (H:bc C ρ f o) (hf:bQ f d1s first) (hc:l7 W C.A fv (d1s++ds) d) {Q:Value->Shared->Prop} {E:Value->Shared->Prop}
 (h:∀v f' s',f.le f'->St W.B f' o s'->Den f' d v->Q v s'):wpAny W.M C.A (fR pos fv first (backTo pos' (aI es C.env)) []) Q E s:=by
 have jl:=cn pos' es C.env hp
 refine d6 (P:=λh=>∀a x,W.B.f a=some x->h.get? a=some x) (by rw[jl]; rfl) hk (dj jl ?_)
 exact ha pos' f o s S H _ _ λvs f1 s1 l1 S1 d1=>⟨S1.bT,hc f1 o s1 _ S1 ((hf.mono l1).append d1) _ _ λv f2 s2 l2 S2 d2=>h v f2 s2 (l1.trans l2) S2 d2⟩
theorem eg.call{func:Expr}{es:List Expr}{pos:Pos}{fv:Value}{ds:List D}{d:D}(hf:eg W C ρ func (.raw fv))(hk:Kept W fv)(ha:nq W C ρ es ds)(hp:(aI es C.env).all (λx=>!x.1)=true)(hc:l7 W C.A fv ds d)
 (he:eval (.Call func es [] pos) C.env=(do fR pos (<-eval func C.env) [] (backTo pos (aI es C.env)) (gp pos (dG [] C.env)))):eg W C ρ (.Call func es [] pos) d:=λf o s S H Q E h=>by
 rw[he]
 refine aa (hf f o s S H _ _ λv f1 s1 l1 S1 d1=>?_)
 obtain rfl:v=fv:=d1
 exact rO hk ha hp S1 (H.mono l1 (.refl o)) (d1s:=[]) rfl hc λv f2 s2 l2 S2 d2=>h v f2 s2 (l1.trans l2) S2 d2
noncomputable def Meth(W:Wd)(d:D)(name:Str)(fv:Value):Prop:=∀A f o s v pl,St W.B f o s->Den f d v->∀(Q:Value×List Value->Shared->Prop) (E:Value->Shared->Prop),Q (fv,[v]) s->wpAny W.M A (xF v name pl) Q E s
theorem uX{da d:D}{name:Str}{fv v:Value}{n:Nat}{ob:Expr}(hm:Meth W da name fv)(hk:Kept W fv){apos pos pos':Pos}{es:List Expr}{ds:List D}(ha:nq W C ρ es ds)(hp:(aI es C.env).all (λx=>!x.1)=true)
 (S:St W.B f o s) (H:bc C ρ f o) (hv:Den f da v) (hc:l7 W C.A fv (da::ds) d) {Q:Value->Shared->Prop} {E:Value->Shared->Prop} (hn:n<30) (hl:(apos.endLine==pos.line)=true)
 (h:∀v f' s',f.le f'->St W.B f' o s'->Den f' d v->Q v s'):wpAny W.M C.A (eX ob name apos pos C.env v n (backTo pos' (aI es C.env)) []) Q E s:=by
 have qh:eB n (backTo pos' (aI es C.env)) []=true:=by
  unfold eB
  have:=cn pos' es C.env hp
  rw[mF] at this
  simp only[r7,kh,ni,if_true,lj,cq,aT,decide_eq_true_eq]
  exact⟨λx hx=>by simpa using this x hx,hn⟩
 unfold eX rN
 rw[qh]
 refine aa (aL (hm _ f o s v _ S hv _ _ ?_))
 unfold ji
 rw[hl]
 refine aa (ao ?_)
 exact rO hk ha hp S H (d1s:=[da]) (.cons hv .nil) hc h
theorem eg.yg{ob:Expr}{name:Str}{es:List Expr}{apos pos:Pos}{fv:Value}{da d:D}{ds:List D}(ho:eg W C ρ ob da)(hm:Meth W da name fv)(hk:Kept W fv)(ha:nq W C ρ es ds)(hp:(aI es C.env).all (λx=>!x.1)=true)
 (hc:l7 W C.A fv (da::ds) d) (hn:es.length+0<30) (hl:(apos.endLine==pos.line)=true) (hb:bx ob name C.env (eval ob C.env)=eval ob C.env):eg W C ρ (.Call (.Attribute ob name apos) es [] pos) d:=λf o s S H Q E h=>by
 show wpAny _ _ (do
  let ov <-bx ob name C.env (eval ob C.env)
  dE apos.atName
  eX ob name apos pos C.env ov (es.length+0) (backTo pos (aI es C.env)) []) Q E s
 rw[hb]
 exact aa (ho f o s S H _ _ λv f1 s1 l1 S1 d1=>aa (aZ (uX hm hk ha hp S1 (H.mono l1 (.refl o)) d1 hc hn hl λv f2 s2 l2 S2 d2=>h v f2 s2 (l1.trans l2) S2 d2)))
theorem eg.attr(O:C.Ok){ob:Expr}{name:Str}{pos:Pos}{da d:D}(ho:eg W C ρ ob da)(hg:yf W (λv=>gn v name true) da d)
 (he:eval (.Attribute ob name pos) C.env=(do
  let o <-eval ob C.env
  dE pos.atName
  let r <-holding [o] (gn o name true)
  A4 ob o r
  pure r)):eg W C ρ (.Attribute ob name pos) d:=λf o s S H Q E h=>
 Bl (ho f o s S H _ _ λv f1 s1 l1 S1 d1=>hg _ f1 o s1 v O.room S1 d1 _ _ λv f2 s2 l2 S2 d2=>h v f2 s2 (l1.trans l2) S2 d2) he
noncomputable def D.ty:D->Option String
 | .none=>some "NoneType"
 | .bool _=>some "bool"
 | .int _=>some "int"
 | .str _=>some "str"
 | .list _=>some "list"
 | .tup _=>some "tuple"
 | .Bo _ _=>some "range"
 |_=>aD
theorem Nt(S:St W.B f o s){d:D}{v:Value}(h:Den f d v){T:String}(e:d.ty=some T):s.TypeIs v T:=by
 cases d with
 |none=>cases e; rw[show v= .none from h]; rfl
 |bool b=>cases e; rw[show v= .bool b from h]; rfl
 |int i=>cases e; obtain⟨t,rfl⟩:=h; rfl
 |str x=>cases e; obtain⟨t,rfl⟩:=h; rfl
 |list ds=>cases e; obtain⟨a,ob,vs,n,rfl,x,y,_⟩:=h; exact⟨ob,S.sub _ _ x,y.1⟩
 |tup ds=>cases e; obtain⟨a,ob,vs,n,rfl,x,y,_⟩:=h; exact⟨ob,S.sub _ _ x,y⟩
 |Bo a b=>cases e; obtain⟨r,t,u,w,rfl,x⟩:=h; exact⟨_,S.sub _ _ x,rfl⟩
 |raw v=>exact nomatch e
 |obj C fs=>exact nomatch e
theorem nY(value slice:Expr)(pos:Pos)(env:Env):eval (.Subscript value slice pos) env=(do
 let o <-eval value env
 let i <-holding [o] (eval slice env)
 dE pos
 subscriptTail value slice o i):=rfl
theorem eg.sub(O:C.Ok){value slice:Expr}{pos:Pos}{da di d:D}{T id:String}(hv:eg W C ρ value da)(hi:eg W C ρ slice di)(hT:da.ty=some T)(hl:kT (.type T) "__getitem__" =pure (some (.builtin id)))
 (ho:lp W dI da di d) (hs:∀o i,subscripted slice false o i=operate [o,i] (dI o i)):eg W C ρ (.Subscript value slice pos) d:=λf o s S H Q E h=>by
 rw[nY]
 exact aa (hv f o s S H _ _ λv f1 s1 l1 S1 d1=>aa (aL (hi f1 o s1 S1 (H.mono l1 (.refl o)) _ _ λi f2 s2 l2 S2 d2=>aa (aZ
  (A2 (Nt S2 (d1.mono l2) hT) hl (ho _ f2 o s2 v i O.room S2 (d1.mono l2) d2 _ _ λr f3 s3 l3 S3 d3=>h r f3 s3 (l1.trans (l2.trans l3)) S3 d3) (hs v i))))))
noncomputable def zx(W:Wd)(C:Cx)(ρ:Ro)(e:Option Expr)(x:Option Int):Prop:=∀f o s,St W.B f o s->bc C ρ f o->∀(Q:Value->Shared->Prop) (E:Value->Shared->Prop),
 (∀v f' s',f.le f'->St W.B f' o s'->(match x with|some i=>∃t,v= .int i t|aD=>v= .none)->Q v s')->wpAny W.M C.A (evalPart e C.env) Q E s
theorem zx.none:zx W C ρ aD aD:=λf o s S H Q E h=>ao (h _ f s (.refl f) S rfl)
theorem zx.some{e:Expr}{i:Int}(x:eg W C ρ e (.int i)):zx W C ρ (some e) (some i):=λf o s S H Q E h=>x f o s S H _ _ λv f1 s1 l1 S1 d1=>h v f1 s1 l1 S1 d1
end
noncomputable def oY(w o o':Fz):Prop:=∀a y,o a=some y->w a=none->o' a=some y
section
variable {W:Wd}{C:Cx}{ρ a9:Ro}{f o:Fz}{s:Shared}
set_option tactic.hygienic true in
theorem St.ext(S:St W.B f o s){a:Addr}{x:Obj}{h':Heap}(ha:o a=some x)(hs:uS a s.heap h'):St W.B f (o.del a) {s with heap:=h'}:=by
 have JF:=S.fu ha
 have hb:∀c,W.B.side c->c≠a:=λc hc q=>S.iG (.inr ha) (q▸hc)
 refine⟨λb y e=>hs b y (λh=>by subst h; exact iB JF e) (S.sub b y e),λb y e=>?_,λb y e=>?_,S.base,?_,λc hc=>⟨(S.fo c hc).1,?_⟩,S.os,S.gens⟩
 ·unfold Fz.del at e; split at e
  ·exact nomatch e
  ·rename_i h; exact hs b y h (S.own b y e)
 ·unfold Fz.del; split
  ·rfl
  ·exact S.apart b y e
 ·exact λc hc=>let⟨z,hz,hq⟩:=S.tab c hc; ⟨z,hs _ _ (hb c hc) hz,hq⟩
 ·unfold Fz.del; rw[if_neg (hb c hc)]; exact(S.fo c hc).2
theorem oY.del{w o:Fz}{a:Addr}(h:w a≠none):oY w o (o.del a):=λb y e hb=>by
 unfold Fz.del; rw[if_neg (λq=>h (by subst q; exact hb))]; exact e
theorem oY.put{w o:Fz}{a:Addr}{x:Obj}(h:w a≠none):oY w o (o.put a x):=λb y e hb=>by
 rw[Fz.az (λq=>h (by subst q; exact hb))]; exact e
noncomputable def oZ(W:Wd)(eO:Expr):List D->Fz->Fz->Value->Prop
 |[],w,f,it=>∀(A:Around) f' o s (Q:Option Value->Shared->Prop) E,A.handled=none->Rm A->f.le f'->w.le o->St W.B f' o s->(∀o' s',St W.B f' o' s'->oY w o o'->Q none s')->wpAny W.M A (pyNext it) Q E s
 |x::xs,w,f,it=>∀(A:Around) f' o s (Q:Value->Shared->Prop) E,A.handled=none->Rm A->f.le f'->w.le o->St W.B f' o s->
  (∀v Qc o' s' w',f'.le Qc->St W.B Qc o' s'->oY w o o'->w'.le o'->(∀a,w' a≠none->w a≠none\/o a=none)->Den Qc x v->oZ W eO xs w' Qc it->Q v s')->
  wpAny W.M A (pyNext it) (λr s1=>∃v,r=some v/\wpAny W.M A (jn eO it v) (λ_=>Q v) E s1) E s
theorem oZ.mono{eO:Expr}{f g:Fz}(h:f.le g):∀{xs:List D} {w:Fz} {it:Value},oZ W eO xs w f it->oZ W eO xs w g it
 |[],_,_,x=>λA f' o s Q E hh r l=>x A f' o s Q E hh r (h.trans l)
 |_::_,_,_,x=>λA f' o s Q E hh r l=>x A f' o s Q E hh r (h.trans l)
noncomputable def one(a:Addr)(x:Obj):Fz:=λb=>if b=a then some x else none
theorem bW(a:Addr)(x:Obj):one a x a=some x:=by simp[one]
set_option tactic.hygienic true in
theorem one_le{a:Addr}{x:Obj}{o:Fz}(h:o a=some x):(one a x).le o:=λb y e=>by
 unfold one at e; split at e
 ·rename_i hb; cases e; subst hb; exact h
 ·exact nomatch e
theorem mH{a b:Addr}{x:Obj}(h:one a x b≠none):b=a:=by
 unfold one at h; split at h
 ·assumption
 ·exact absurd rfl h
theorem CF{M:Model}{A:Around}{E:Value->Shared->Prop}{s:Shared}{T:String}{Q:Unit->Shared->Prop}{dt:Data}{L:List String}{p:Array Value->Bool}{g:Array Value->Sem Unit}(hn:L.contains T=false)(h:Q () s):
 wpAny M A (match lh T,dt with
  | .type n, .fields vs=>if L.contains n&&p vs then g vs else pure ()
  |_,_=>pure ()) Q E s:=by
 cases dt<;>first|exact ao h|(dsimp only; rw[hn]; exact ao h)
theorem iP{M:Model}{A:Around}{E:Value->Shared->Prop}{s:Shared}{eO:Expr}{i:Addr}{ob:Obj}{T:String}{v:Value}{Q:Unit->Shared->Prop}(hi:s.heap.get? i=some ob)(hT:ob.cls= .type T)
 (hn:(["enumerate","zip","dict_itemiterator","dict_reverseitemiterator","odict_iterator","itertools.zip_longest","itertools.pairwise"].contains T)=false) (h:Q () s):wpAny M A (jn eO (.ref i) v) Q E s:=by
 have key:wpAny M A (jn (.Tuple [] 0 default) (.ref i) v) Q E s:=by
  cases v
  case ref=>
   refine aa (A1 hi ?_)
   rw[hT]
   exact CF hn h
  all_goals exact ao h
 cases eO
 case Tuple=>exact key
 case List=>exact key
 all_goals exact ao h
theorem drop_cons{α:Type}{l:List α}{i:Nat}{x:α}{r:List α}(h:l.drop i=x::r):l[i]? =some x/\l.drop (i+1)=r:=by
 have h1:(l.drop i)[0]? =some x:=by rw[h]; rfl
 refine⟨by simpa using h1,?_⟩
 rw[<-KA,h]; rfl
theorem drop_nil{α:Type}{l:List α}{i:Nat}(h:l.drop i=[]):l[i]? =none:=by
 rw[me]; exact Cw.mp h
theorem Bp{eO:Expr}{l it:Addr}{ol:Obj}{vs:List Value}{n:Nat}:∀{xs:List D} {i:Nat} {f:Fz} {ob:Obj},f l=some ol->ol.cls= .type "list" ->ol.data= .seq ⟨vs⟩ n->bQ f xs (vs.drop i)->
 ob.cls= .type "list_iterator" ->ob.data= .fields #[.ref l, .int i 0]->oZ W eO xs (one it ob) f (.ref it)
 |[],i,f,ob,h1,h2,h3,h4,h5,h6=>λA f' o s Q E hh r l1 wl S h=>by
  have hit:=S.own _ _ (wl _ _ (bW ..))
  refine qS hh ⟨_,hit,h5,h6⟩ ⟨ol,S.sub _ _ (l1 _ _ h1),h2,n,h3⟩ (by simpa using drop_nil h4) λh' he=>?_
  exact h _ _ (S.ext (wl _ _ (bW ..)) he) (oY.del (by rw[bW]; simp))
 |x::xs,i,f,ob,h1,h2,h3,h4,h5,h6=>λA f' o s Q E hh r l1 wl S h=>by
  obtain⟨v,rest,e,hv,hr⟩:=h4
  obtain⟨e1,e2⟩:=drop_cons e
  have D8:=wl _ _ (bW it _)
  refine GN ⟨_,S.own _ _ D8,h5,h6⟩ ⟨ol,S.sub _ _ (l1 _ _ h1),h2,n,h3⟩ (x:=v) (by simpa using e1) λh' yh hs=>?_
  obtain⟨ob',g1,g2,g3⟩:=yh
  refine⟨v,rfl,iP g1 g2 (by decide) ?_⟩
  refine h v f' _ _ _ (.refl f') (S.same D8 hs g1) (oY.put (by rw[bW]; simp)) (one_le (Fz.aJ ..)) (λa ha=>?_) (hv.mono l1) (Bp (l1 _ _ h1) h2 h3 (e2▸hr.mono l1) g2 g3)
  rw[mH ha,bW]; exact .inl (by exact nofun)
theorem D9{eO:Expr}{l it:Addr}{ol:Obj}{vs:List Value}{n:Nat}:∀{xs:List D} {i:Nat} {f:Fz} {ob:Obj},f l=some ol->ol.cls= .type "tuple" ->ol.data= .seq ⟨vs⟩ n->bQ f xs (vs.drop i)->
 ob.cls= .type "tuple_iterator" ->ob.data= .fields #[.ref l, .int i 0]->oZ W eO xs (one it ob) f (.ref it)
 |[],i,f,ob,h1,h2,h3,h4,h5,h6=>λA f' o s Q E hh r l1 wl S h=>by
  have hit:=S.own _ _ (wl _ _ (bW ..))
  refine wpAny_pyNext_tuple_end hh ⟨_,hit,h5,h6⟩ ⟨ol,S.sub _ _ (l1 _ _ h1),h2,n,h3⟩ (by simpa using drop_nil h4) λh' he=>?_
  exact h _ _ (S.ext (wl _ _ (bW ..)) he) (oY.del (by rw[bW]; simp))
 |x::xs,i,f,ob,h1,h2,h3,h4,h5,h6=>λA f' o s Q E hh r l1 wl S h=>by
  obtain⟨v,rest,e,hv,hr⟩:=h4
  obtain⟨e1,e2⟩:=drop_cons e
  have D8:=wl _ _ (bW it _)
  refine wpAny_pyNext_tuple_item ⟨_,S.own _ _ D8,h5,h6⟩ ⟨ol,S.sub _ _ (l1 _ _ h1),h2,n,h3⟩ (x:=v) (by simpa using e1) λh' yh hs=>?_
  obtain⟨ob',g1,g2,g3⟩:=yh
  refine⟨v,rfl,iP g1 g2 (by decide) ?_⟩
  refine h v f' _ _ _ (.refl f') (S.same D8 hs g1) (oY.put (by rw[bW]; simp)) (one_le (Fz.aJ ..)) (λa ha=>?_) (hv.mono l1) (D9 (l1 _ _ h1) h2 h3 (e2▸hr.mono l1) g2 g3)
  rw[mH ha,bW]; exact .inl (by exact nofun)
noncomputable def uY(a:Int):Nat->List Int
 | 0=>[]
 |n+1=>a::uY (a+1) n
theorem yi{eO:Expr}{it:Addr}:∀{n:Nat} {x:Int} {f:Fz},oZ W eO ((uY x n).map .int) (one it {cls:= .type "range_iterator",dict:=none,data:= .fields #[rawInt x,rawInt n,rawInt 1],slots:=#[]}) f (.ref it)
 | 0,x,f=>λA f' o s Q E hh r l1 wl S h=>by
  have hit:=S.own _ _ (wl _ _ (bW ..))
  refine wpAny_pyNext_range_end hh hit (by simp[*]) λh' he=>?_
  exact h _ _ (S.ext (wl _ _ (bW ..)) he) (oY.del (by rw[bW]; simp))
 |n+1,x,f=>λA f' o s Q E hh r l1 wl S h=>by
  have D8:=wl _ _ (bW it _)
  refine wpAny_pyNext_range_item (S.own _ _ D8) (by exact ew 687740566881 tt) λh' yh hs=>?_
  refine⟨_,rfl,iP yh rfl (by decide) ?_⟩
  refine h _ f' _ _ _ (.refl f') ((S.same D8 hs yh).tok _) (oY.put (by rw[bW]; simp)) (one_le (Fz.aJ ..)) (λa ha=>?_) ⟨_,rfl⟩ ?_
  ·rw[mH ha,bW]; exact .inl (by exact nofun)
  ·have:((n+1:Nat):Int)-1=(n:Int):=by exact q2
   rw[this]; exact yi
noncomputable def rf(W:Wd)(w f:Fz)(it:Value):Prop:=∀A f' o s (Q:Value->Shared->Prop) E,f.le f'->w.le o->St W.B f' o s->Q it s->wpAny W.M A (pyIter it) Q E s
theorem CG{it l:Addr}{ob:Obj}{i:Nat}{f:Fz}(h5:ob.cls= .type "list_iterator")(h6:ob.data= .fields #[.ref l, .int i 0]):rf W (one it ob) f (.ref it):=λA f' o s Q E l1 wl S h=>
 wpAny_pyIter_listiter ⟨ob,S.own _ _ (wl _ _ (bW ..)),h5,h6⟩ h
theorem Ea{it l:Addr}{ob:Obj}{i:Nat}{f:Fz}(h5:ob.cls= .type "tuple_iterator")(h6:ob.data= .fields #[.ref l, .int i 0]):rf W (one it ob) f (.ref it):=λA f' o s Q E l1 wl S h=>
 wpAny_pyIter_tupleiter ⟨ob,S.own _ _ (wl _ _ (bW ..)),h5,h6⟩ h
theorem zY{it:Addr}{x l c:Int}{f:Fz}:rf W (one it {cls:= .type "range_iterator",dict:=none,data:= .fields #[rawInt x,rawInt l,rawInt c],slots:=#[]}) f (.ref it):=λA f' o s Q E l1 wl S h=>
 wpAny_pyIter_rangeiter (S.own _ _ (wl _ _ (bW ..))) h
noncomputable def KV(W:Wd)(d:D)(xs:List D):Prop:=∀eO A f o s v,Rm A->St W.B f o s->Den f d v->∀(Q:Value->Shared->Prop) (E:Value->Shared->Prop),
 (∀it w f' o' s',f.le f'->St W.B f' o' s'->o.le o'->w.le o'->(∀a,w a≠none->o a=none)->oZ W eO xs w f' it->rf W w f' it->Q it s')->wpAny W.M A (pyIter v) Q E s
theorem bp{ds:List D}:KV W (.list ds) ds:=λeO A f o s v r S hd Q E h=>by
 obtain⟨l,ol,vs,n,rfl,h1,h2,h3,h4⟩:=hd
 refine ik ⟨ol,S.sub _ _ h1,h2.1,n,h3⟩ ?_
 refine h _ (one s.heap.objs.size _) f _ _ (.refl f) (S.gV _) (Fz.bP S.eZ) (one_le (Fz.aJ ..)) (λa ha=>by rw[mH ha]; exact S.eZ) (Bp (i:=0) h1 h2.1 h3 h4 rfl rfl) (CG (i:=0) rfl rfl)
theorem HD{ds:List D}:KV W (.tup ds) ds:=λeO A f o s v r S hd Q E h=>by
 obtain⟨l,ol,vs,n,rfl,h1,h2,h3,h4⟩:=hd
 refine wpAny_pyIter_tuple ⟨ol,S.sub _ _ h1,h2,n,h3⟩ ?_
 refine h _ (one s.heap.objs.size _) f _ _ (.refl f) (S.gV _) (Fz.bP S.eZ) (one_le (Fz.aJ ..)) (λa ha=>by rw[mH ha]; exact S.eZ) (D9 (i:=0) h1 h2 h3 h4 rfl rfl) (Ea (i:=0) rfl rfl)
noncomputable def zZ(W:Wd)(C:Cx)(ρ:Ro)(eO e:Expr)(xs:List D):Prop:=∀f o s,St W.B f o s->bc C ρ f o->∀(Q:Value->Shared->Prop) (E:Value->Shared->Prop),
 (∀it w f' o' s',f.le f'->St W.B f' o' s'->o.le o'->w.le o'->(∀a,w a≠none->o a=none)->oZ W eO xs w f' it->rf W w f' it->Q it s')->wpAny W.M C.A (eval e C.env) (λx s1=>wpAny W.M C.A (pyIter x) Q E s1) E s
theorem zZ.val(O:C.Ok){eO e:Expr}{d:D}{xs:List D}(x:eg W C ρ e d)(i:KV W d xs):zZ W C ρ eO e xs:=λf o s S H Q E h=>
 x f o s S H _ _ λv f1 s1 l1 S1 d1=>i _ _ f1 o s1 v O.room S1 d1 _ _ λit w f2 o2 s2 l2 S2 a b c d e=>h it w f2 o2 s2 (l1.trans l2) S2 a b c d e
end
section
variable {prog:gr}{w:World}{A:Around}{E:Value->Shared->Prop}{s:Shared}
theorem vJ{it t:Addr}{items:Array Value}(ea:t≠it):∀(n i:Nat) (s:Shared) (Q:List Value->Shared->Prop),s.heap.IsListIter it t i->s.heap.IsList t items->i+n<=items.size->
 (∀h',h'.IsListIter it t (i+n)->ft it s.heap h'->Q ((items.toList.drop i).take n) {s with heap:=h'})->wpAny (model prog w) A (draw (.ref it) n) Q E s
 | 0,i,s,Q,hit,_,_,hQ=>ao (by simpa using hQ s.heap hit (Heap.SameBut.refl ..))
 |n+1,i,s,Q,hit,ht,hle,hQ=>by
  have ki:i<items.size:=by exact cG 0x2a060080422a0201 tt hle
  show wpAny _ _ (pyNext (.ref it) >>= _) Q E s
  refine aa (GN hit ht (x:=items[i]) (by simp[ki]) λgd z0 iQ=>?_)
  refine aa (aL (vJ ea n (i+1) _ _ z0 (ht.extBut iQ.extBut ea) (by exact cG 0xa81802010883404201 tt hle) λwU KW qi=>ao ?_))
  have hd:items.toList.drop i=items[i]::items.toList.drop (i+1):=by simp[List.drop_eq_getElem_cons,ki]
  have:=hQ wU (by rw[show i+(n+1)=i+1+n by exact q5]; exact KW) (iQ.trans qi)
  rw[hd,List.take_succ_cons] at this
  exact this
theorem rg{t:Addr}{items:Array Value}{Q:List Value->Shared->Prop}(hh:A.handled=none)(ht:s.heap.IsList t items)
 (hQ:∀h',uS s.heap.objs.size s.heap h'->Q items.toList {s with heap:=h'}):wpAny (model prog w) A (Jr (.ref t) items.size none) Q E s:=by
 have ki:t≠s.heap.objs.size:=by obtain⟨o,ho,_⟩:=ht; exact bg (bJ ho)
 unfold Jr
 refine aa ?_
 unfold notIterableAtAll
 refine aa (zp ht.typeIs slot_list_iter.lookup ?_)
 refine ao ?_
 simp only[cb,if_false]
 refine aa (aL (ik ht ?_))
 refine aa (aL (vJ ki items.size 0 _ _ ⟨_,bC _ rfl,rfl,rfl⟩ (ht.push _) (by exact aN 19969 tt) λgd z0 iQ=>?_))
 have KY:List.take items.size (List.drop 0 items.toList)=items.toList:=by
  rw[wO]; exact df (by simp)
 rw[KY]
 rw[if_neg (by simp)]
 have Nu:gd.IsList t items:=(ht.push _).extBut iQ.extBut ki
 refine aa (aL (qS hh z0 Nu (by simp) λwU Bq=>?_))
 simp only[Option.isSome_none,cb,if_false]
 exact ao (hQ wU λb o hb e=>Bq b o hb (iQ.extBut b o hb (aH _ e)))
end
section
variable {W:Wd}{C:Cx}{ρ a9:Ro}{f o:Fz}{s:Shared}
theorem St.Eb(S:St W.B f o s){h':Heap}(hs:uS s.heap.objs.size s.heap h'):St W.B f o {s with heap:=h'}:=
 ⟨λa x e=>hs a x (bg (S.lt (.inl e))) (S.sub a x e),λa x e=>hs a x (bg (S.lt (.inr e))) (S.own a x e),S.apart,S.base,λc hc=>let⟨z,hz,hq⟩:=S.tab c hc; ⟨z,hs _ _ (bg (S.jt hc)) hz,hq⟩,S.fo,S.os,S.gens⟩
theorem lI(hh:C.A.handled=none)(S:St W.B f o s){d:D}{ds:List D}{v:Value}(hd:d= .tup ds\/d= .list ds)(hv:Den f d v){n:Nat}(hn:n=ds.length){Q:List Value->Shared->Prop}{E:Value->Shared->Prop}
 (h:∀vs s',St W.B f o s'->bQ f ds vs->Q vs s'):wpAny W.M C.A (Jr v n none) Q E s:=by
 rcases hd with rfl|rfl
 ·obtain⟨a,ob,vs,m,rfl,h1,h2,h3,h4⟩:=hv
  have e:n=(⟨vs⟩:Array Value).size:=by rw[hn]; exact h4.length.symm
  rw[e]
  exact wpAny_unpackItems_tuple hh ⟨ob,S.sub _ _ h1,h2,m,h3⟩ λh' he=>h _ _ (S.Eb he) h4
 ·obtain⟨a,ob,vs,m,rfl,h1,h2,h3,h4⟩:=hv
  have e:n=(⟨vs⟩:Array Value).size:=by rw[hn]; exact h4.length.symm
  rw[e]
  exact rg hh ⟨ob,S.sub _ _ h1,h2.1,m,h3⟩ λh' he=>h _ _ (S.Eb he) h4
noncomputable def kG(a9 ρ:Ro):Prop:=∀n u r,(n,Bd.res u r)∈a9->∃n' u' r',(n',Bd.res u' r')∈ρ/\∀a∈r.as,a∈r'.as
theorem kG.refl(ρ:Ro):kG ρ ρ:=λn u r h=>⟨n,u,r,h,λ_ h=>h⟩
theorem kG.trans{a b c:Ro}(x:kG a b)(y:kG b c):kG a c:=λn u r h=>let⟨n',u',r',h',k⟩:=x n u r h; let⟨n2,u2,r2,h2,k2⟩:=y n' u' r' h'; ⟨n2,u2,r2,h2,λa ha=>k2 a (k a ha)⟩
theorem jN{n:Str}{d:D}{ρ a9:Ro}(h:Ro.Set n (.val d) ρ a9):kG a9 ρ:=by
 induction h with
 |head=>
  intro n u r h
  rcases au.mp h with e|h
  ·exact nomatch e
  ·exact⟨n,u,r, .tail _ h,λ_ h=>h⟩
 |tail _ ih=>
  intro n u r h
  rcases au.mp h with e|h
  ·exact⟨n,u,r,e▸ .head _,λ_ h=>h⟩
  ·obtain⟨n',u',r',h',k⟩:=ih n u r h; exact⟨n',u',r', .tail _ h',k⟩
theorem rh:∀{n:Str} {r0 r':Res} {ρ a9:Ro},Ro.Set n (.res true r') ρ a9->(n,Bd.res true r0)∈ρ->(∀a∈r'.as,a∈r0.as)->kG a9 ρ:=fun{n r0 r' ρ a9} h hm hs m u r hr=>by
 have key:∀{ρ a9:Ro},Ro.Set n (.res true r') ρ a9->(m,Bd.res u r)∈a9->Bd.res u r=Bd.res true r'\/(m,Bd.res u r)∈ρ:=by
  intro ρ a9 h
  induction h with
  |head=>
   intro hr; rcases au.mp hr with e|hr
   ·cases e; exact .inl rfl
   ·exact .inr (.tail _ hr)
  |tail _ ih=>
   intro hr; rcases au.mp hr with e|hr
   ·exact .inr (e▸ .head _)
   ·exact(ih hr).imp id (.tail _)
 rcases key h hr with e|hr
 ·cases e; exact⟨n,true,r0,hm,hs⟩
 ·exact⟨m,u,r,hr,λ_ h=>h⟩
theorem Uses.of{C:Cx}{ρ a9:Ro}(hk:a9.map (·.1)=ρ.map (·.1))(hl:kG a9 ρ){a:Addr}(h:Uses C a9 a):Uses C ρ a:=by
 rcases h with h|⟨n,u,r,h,ha⟩
 ·exact .inl (by unfold Slots at h ⊢; rw[<-hk]; exact h)
 ·obtain⟨n',u',r',h',k⟩:=hl n u r h; exact .inr ⟨n',u',r',h',k a ha⟩
structure Left(W:Wd)(C:Cx)(ρ a9:Ro)(f o f' o':Fz)(s':Shared):Prop where
 le:f.le f'
 st:St W.B f' o' s'
 env:bc C a9 f' o'
 step:qg C ρ o o'
 ri:∀a,pq C a9 a->pq C ρ a\/o a=none
 uses:∀a,Uses C a9 a->Uses C ρ a\/o a=none
theorem Left.refl(S:St W.B f o s)(H:bc C ρ f o):Left W C ρ ρ f o f o s:=⟨.refl f,S,H, .refl o,λ_ h=> .inl h,λ_ h=> .inl h⟩
theorem Left.trans{bD bZ:Ro}{wV dr Nv Nw:Fz}{cU sU:Shared}(x:Left W C ρ bD f o wV dr cU)(y:Left W C bD bZ wV dr Nv Nw sU):Left W C ρ bZ f o Nv Nw sU:=by
 refine⟨x.le.trans y.le,y.st,y.env,λa z e hm=>y.step a z (x.step a z e hm) λh=>?_,λa h=>?_,λa h=>?_⟩
 ·rcases x.ri a h with h|h
  ·exact hm h
  ·exact iB h e
 ·rcases y.ri a h with h|h
  ·exact x.ri a h
  ·by_cases hm:pq C ρ a
   ·exact .inl hm
   ·cases q:o a with
    |none=>exact .inr rfl
    |some z=>rw[x.step a z q hm] at h; exact nomatch h
 ·rcases y.uses a h with h|h
  ·exact x.uses a h
  ·by_cases hm:pq C ρ a
   ·exact .inl (hm.uses x.env.ok)
   ·cases q:o a with
    |none=>exact .inr rfl
    |some z=>rw[x.step a z q hm] at h; exact nomatch h
theorem oM{n:Str}{d:D}(aU:Ro.Set n (.val d) ρ a9)(nd:(ρ.map (·.1)).Nodup)(a:Addr)(h:pq C a9 a):pq C ρ a:=by
 rcases h with h|h|⟨x,r,hm,ha⟩
 ·exact .inl h
 ·obtain⟨n,h1,h2,h3⟩:=h; exact .inr (.inl ⟨n,h1,aU.keys▸h2,h3⟩)
 ·rcases aU.mem nd hm with⟨_,e⟩|⟨_,hm⟩
  ·exact nomatch e
  ·exact .inr (.inr ⟨x,r,hm,ha⟩)
noncomputable def jO(W:Wd)(C:Cx)(ρ:Ro)(t:Expr)(d:D)(a9:Ro):Prop:=(kG a9 ρ/\a9.map (·.1)=ρ.map (·.1))/\∀f o s v,St W.B f o s->bc C ρ f o->Den f d v->∀(Q:Unit->Shared->Prop) (E:Value->Shared->Prop),
 (∀f' o' s',Left W C ρ a9 f o f' o' s'->Q () s')->wpAny W.M C.A (assign t C.env v) Q E s
theorem jO.name(O:C.Ok){n:Str}{k:aC}{d:D}{pos:Pos}(hk:(n,k)∈C.names)(oX:(k== .local||k== .cell)=true)(aU:Ro.Set n (.val d) ρ a9):jO W C ρ (.Name n pos) d a9:=⟨⟨jN aU,aU.keys⟩,λf o s v S H hd Q E h=>
 wpAny_assign_Name (sv O S H hk oX aU hd λo' s' S' H' os=>h f o' s' ⟨.refl f,S',H',os,λa hm=> .inl (oM aU H.nd a hm),λa hu=> .inl (Uses.of aU.keys (jN aU) hu)⟩)⟩
inductive jD(W:Wd)(C:Cx):Ro->List Expr->List D->Ro->Prop
 |nil {ρ:Ro}:jD W C ρ [] [] ρ
 |cons {ρ bD bZ:Ro} {t:Expr} {ts:List Expr} {d:D} {ds:List D}:jO W C ρ t d bD->jD W C bD ts ds bZ->bk (t::ts) C.env=(false,assign t C.env)::bk ts C.env->jD W C ρ (t::ts) (d::ds) bZ
theorem jD.length{ts:List Expr}{ds:List D}(x:jD W C ρ ts ds a9):(bk ts C.env).length=ds.length/\(bk ts C.env).findIdx? (·.1)=none:=by
 induction x with
 |nil=>exact⟨rfl,rfl⟩
 |cons _ _ e ih=>rw[e]; exact⟨by simp[ih.1],by simp[List.findIdx?_cons,ih.2]⟩
theorem jD.run{ts:List Expr}{ds:List D}(x:jD W C ρ ts ds a9):∀{f o s} {vs:List Value},St W.B f o s->bc C ρ f o->bQ f ds vs->∀(Q:Unit->Shared->Prop) (E:Value->Shared->Prop),
 (∀f' o' s',Left W C ρ a9 f o f' o' s'->Q () s')->wpAny W.M C.A (Du ((bk ts C.env).map (·.2)) vs) Q E s:=by
 induction x with
 |nil=>intro f o s vs S H hd Q E h; rw[show vs=[] from hd]; exact ao (h f o s (.refl S H))
 |cons t _ e ih=>
  intro f o s vs S H hd Q E h
  obtain⟨v,r,rfl,h1,h2⟩:=hd
  rw[e]
  show wpAny _ _ (do holding r (assign _ C.env v); Du ((bk _ C.env).map (·.2)) r) Q E s
  exact aa (aL (t.2 f o s v S H h1 _ _ λf1 o1 s1 L1=>ih L1.st L1.env (h2.mono L1.le) _ _ λf2 o2 s2 L2=>h f2 o2 s2 (L1.trans L2)))
theorem jD.Ws{ts:List Expr}{ds:List D}(x:jD W C ρ ts ds a9):kG a9 ρ/\a9.map (·.1)=ρ.map (·.1):=by
 induction x with
 |nil=>exact⟨.refl _,rfl⟩
 |cons t _ e ih=>exact⟨ih.1.trans t.1.1,ih.2.trans t.1.2⟩
theorem jO.tuple(hh:C.A.handled=none){ts:List Expr}{k:Nat}{pos:Pos}{d:D}{ds:List D}(hd:d= .tup ds\/d= .list ds)(x:jD W C ρ ts ds a9):jO W C ρ (.Tuple ts k pos) d a9:=⟨x.Ws,λf o s v S H hv Q E h=>by
 rw[arm_assign_Tuple]
 refine aa (aZ ?_)
 unfold unpack
 rw[x.length.1,x.length.2]
 exact aa (aL (lI hh S hd hv rfl λvs s1 S1 d1=>x.run S1 H d1 _ _ h))⟩
noncomputable def yj(W:Wd)(C:Cx)(ρ:Ro)(es:List Expr)(b:Bool):Prop:=∀f o s,St W.B f o s->bc C ρ f o->∀(Q:Bool->Shared->Prop) (E:Value->Shared->Prop),(∀f' s',f.le f'->St W.B f' o s'->Q b s')->
 wpAny W.M C.A (forIn es true λc r=>if r=true then do let ok <-isTrue c C.env (eval c C.env); pure (fD ok) else pure (fD r)) Q E s
theorem yj.nil:yj W C ρ [] true:=λf o s S H Q E h=>wpAny_tests_nil (h f s (.refl f) S)
theorem yj.one{e:Expr}{b:Bool}(x:vH W C ρ e b):yj W C ρ [e] b:=λf o s S H Q E h=>wpAny_tests_one (x f o s S H _ _ h)
inductive o8:Ro->Ro->Prop
 |nil:o8 [] []
 |same {p:Str×Bd} {ρ a9:Ro}:o8 ρ a9->o8 (p::ρ) (p::a9)
 |drop {n:Str} {b:Bd} {ρ a9:Ro}:o8 ρ a9->o8 ((n,b)::ρ) ((n, .unset)::a9)
theorem o8.keys{ρ a9:Ro}(h:o8 ρ a9):a9.map (·.1)=ρ.map (·.1):=by
 induction h with
 |nil=>rfl
 |same _ ih=>rw[aO,aO,ih]
 |drop _ ih=>rw[aO,aO,ih]
theorem o8.mem{ρ a9:Ro}(h:o8 ρ a9):∀{n:Str} {b:Bd},(n,b)∈a9->(n,b)∈ρ\/(b= .unset/\∃b',(n,b')∈ρ):=by
 induction h with
 |nil=>intro n b hm; exact nomatch hm
 |same _ ih=>
  intro n b hm
  rcases au.mp hm with e|hm
  ·rw[e]; exact .inl (.head _)
  ·rcases ih hm with h|⟨h,b',h'⟩
   ·exact .inl (.tail _ h)
   ·exact .inr ⟨h,b', .tail _ h'⟩
 |drop _ ih=>
  intro n b hm
  rcases au.mp hm with e|hm
  ·cases e; exact .inr ⟨rfl,_, .head _⟩
  ·rcases ih hm with h|⟨h,b',h'⟩
   ·exact .inl (.tail _ h)
   ·exact .inr ⟨h,b', .tail _ h'⟩
theorem bc.weak(H:bc C ρ f o)(h:o8 ρ a9):bc C a9 f o:=by
 refine⟨H.ok,H.ns,λn b hm=>?_,by rw[h.keys]; exact H.nd,λn u r hm a ha hs=>?_,λn n' u u' r r' p q=>?_⟩
 ·rcases h.mem hm with hm|⟨rfl,b',hm⟩
  ·exact H.vars n b hm
  ·obtain⟨vo,hv,_⟩:=H.vars n b' hm; exact⟨vo,hv,trivial⟩
 ·rcases h.mem hm with hm|⟨e,_⟩
  ·exact H.sep n u r hm a ha (by unfold Slots at hs ⊢; rw[<-h.keys]; exact hs)
  ·exact nomatch e
 ·rcases h.mem p with p|⟨e,_⟩
  ·rcases h.mem q with q|⟨e,_⟩
   ·exact H.two n n' u u' r r' p q
   ·exact nomatch e
  ·exact nomatch e
end
noncomputable def Bd.MF:Bd->Bd
 | .res _ r=> .res false r
 |b=>b
inductive nr(outer:List (Str×aC))(ρ:Ro):List (Str×aC)->Ro->Prop
 |nil:nr outer ρ [] []
 |loc {n:Str} {ns:List (Str×aC)} {eW:Ro}:nr outer ρ ns eW->nr outer ρ ((n, .local)::ns) ((n, .unset)::eW)
 |Wt {n:Str} {ns:List (Str×aC)} {eW:Ro}:nr outer ρ ns eW->nr outer ρ ((n, .cell)::ns) ((n, .unset)::eW)
 |MG {n:Str} {ns:List (Str×aC)} {eW:Ro}:nr outer ρ ns eW->nr outer ρ ((n, .globalImplicit)::ns) eW
 |HE {n:Str} {k:aC} {b:Bd} {ns:List (Str×aC)} {eW:Ro}:(n,k)∈outer->(k== .cell||k== .free)=true->(n,b)∈ρ->nr outer ρ ns eW->nr outer ρ ((n, .free)::ns) ((n,b.MF)::eW)
theorem nr.mem{outer:List (Str×aC)}{ρ:Ro}{ns:List (Str×aC)}{eW:Ro}(h:nr outer ρ ns eW):∀{n:Str} {b:Bd},(n,b)∈eW->
 (b= .unset/\((n,ae)∈ns\/(n,aq)∈ns))\/((n,cM)∈ns/\∃k b',(n,k)∈outer/\(k= .cell\/k= .free)/\(n,b')∈ρ/\b=b'.MF):=by
 induction h with
 |nil=>intro n b hm; exact nomatch hm
 |loc _ ih=>
  intro n b hm
  rcases au.mp hm with e|hm
  ·cases e; exact .inl ⟨rfl, .inl (.head _)⟩
  ·rcases ih hm with⟨e,h⟩|⟨a,r⟩
   ·exact .inl ⟨e,h.imp (.tail _) (.tail _)⟩
   ·exact .inr ⟨.tail _ a,r⟩
 |Wt _ ih=>
  intro n b hm
  rcases au.mp hm with e|hm
  ·cases e; exact .inl ⟨rfl, .inr (.head _)⟩
  ·rcases ih hm with⟨e,h⟩|⟨a,r⟩
   ·exact .inl ⟨e,h.imp (.tail _) (.tail _)⟩
   ·exact .inr ⟨.tail _ a,r⟩
 |MG _ ih=>
  intro n b hm
  rcases ih hm with⟨e,h⟩|⟨a,r⟩
  ·exact .inl ⟨e,h.imp (.tail _) (.tail _)⟩
  ·exact .inr ⟨.tail _ a,r⟩
 |HE h1 h2 h3 _ ih=>
  intro n b hm
  rcases au.mp hm with e|hm
  ·cases e
   exact .inr ⟨.head _,_,_,h1,by simpa using h2,h3,rfl⟩
  ·rcases ih hm with⟨e,h⟩|⟨a,r⟩
   ·exact .inl ⟨e,h.imp (.tail _) (.tail _)⟩
   ·exact .inr ⟨.tail _ a,r⟩
theorem nr.keys{outer:List (Str×aC)}{ρ:Ro}{ns:List (Str×aC)}{eW:Ro}(h:nr outer ρ ns eW):(eW.map (·.1)).Sublist (ns.map (·.1)):=by
 induction h with
 |nil=>exact .slnil
 |loc _ ih=>exact ih.cons_cons _
 |Wt _ ih=>exact ih.cons_cons _
 |MG _ ih=>exact ih.cons _
 |HE _ _ _ _ ih=>exact ih.cons_cons _
theorem nr.free{outer:List (Str×aC)}{ρ:Ro}{ns:List (Str×aC)}{eW:Ro}(h:nr outer ρ ns eW):∀{n:Str},(n,cM)∈ns->∃k b,(n,k)∈outer/\(k= .cell\/k= .free)/\(n,b)∈ρ:=by
 induction h with
 |nil=>intro n hm; exact nomatch hm
 |loc _ ih=>intro n hm; rcases au.mp hm with e|hm<;>first|exact ih hm|cases e
 |Wt _ ih=>intro n hm; rcases au.mp hm with e|hm<;>first|exact ih hm|cases e
 |MG _ ih=>intro n hm; rcases au.mp hm with e|hm<;>first|exact ih hm|cases e
 |HE h1 h2 h3 _ ih=>
  intro n hm
  rcases au.mp hm with e|hm
  ·cases e; exact⟨_,_,h1,by simpa using h2,h3⟩
  ·exact ih hm
theorem lookup_mem{α:Type}{n:Str}{k:α}:∀{l:List (Str×α)},l.lookup n=some k->(n,k)∈l:=λh=>mem_of_lookup h
theorem sV(c:Str->aC->Bool)(n:Str):∀l:List (Str×aC),Cv n (l.map λ(n,k)=>if c n k then(n,aq) else(n,k))=(l.lookup n).map λk=>if c n k then aq else k
 |[]=>rfl
 |(x,k)::l=>by
  have e:(if c x k then(x,aq) else(x,k))=(x,if c x k then aq else k):=by cases c x k<;>rfl
  show Cv n ((if c x k then(x,aq) else(x,k))::_)=_
  rw[e,eF,eF]
  cases h:n==x with
  |false=>exact sV c n l
  |true=>cases beq_iff_eq.mp h; rfl
theorem sW{env:Env}{scope:Scope}{n:Str}{k:aC}(h:scope.names.lookup n=some k):
 (relabel scope env).names.lookup n=some (if(k== .free&&env.scope.kind== .function&&env.kindOf n==some .cell) then .cell else k):=
 (sV (λn k=>k== .free&&env.scope.kind== .function&&env.kindOf n==some .cell) n scope.names).trans (by rw[h]; rfl)
theorem nZ{env:Env}{scope:Scope}{n:Str}{k:aC}(h:(relabel scope env).names.lookup n=some k):∃k',scope.names.lookup n=some k'/\(k=k'\/(k'= .free/\k= .cell)):=by
 obtain⟨k',q,e⟩:=fm.mp ((sV (λn k=>k== .free&&env.scope.kind== .function&&env.kindOf n==some .cell) n scope.names).symm.trans h)
 refine⟨k',q,?_⟩
 by_cases hc:(k'== .free&&env.scope.kind== .function&&env.kindOf n==some .cell)=true
 ·exact .inr ⟨beq_iff_eq.mp (dU.mp (dU.mp hc).1).1,e.symm.trans (if_pos hc)⟩
 ·exact .inl (e.symm.trans (if_neg hc))
noncomputable def kH(env:Env):List (Str×aC)->List (Str×Addr)->List (Str×Addr)
 |[],acc=>acc
 |(n,k)::r,acc=>kH env r (if k== .free then(n,(env.cells.lookup n).getD 0)::acc else acc)
theorem sX{env:Env}(g:Str×aC->List (Str×Addr)->Sem (ForInStep (List (Str×Addr))))
 (hg:∀n k cs,g (n,k) cs=if k== .free then(do let a <-cellOf env n; pure (.yield ((n,a)::cs))) else pure (.yield cs)):
 ∀(names:List (Str×aC)) (acc:List (Str×Addr)),(∀n,(n,cM)∈names->∃c,env.cells.lookup n=some c)->forIn names acc g=pure (kH env names acc)
 |[],acc,_=>rfl
 |(n,k)::r,acc,h=>by
  rw[iM,hg]
  unfold kH
  cases hk:k==cM with
  |false=>
   simp only[cb,if_false,pure_bind]
   exact sX g hg r acc λx hx=>h x (.tail _ hx)
  |true=>
   obtain rfl:k= .free:=by simpa using hk
   obtain⟨c,hc⟩:=h n (.head _)
   have:cellOf env n=pure c:=by unfold cellOf; rw[hc]
   simp only[if_true,this,pure_bind,hc,DR]
   exact sX g hg r _ λx hx=>h x (.tail _ hx)
theorem uZ{env:Env}{scope:Scope}(h:∀n,(n,cM)∈scope.names->∃c,env.cells.lookup n=some c):closureFor scope env=pure (kH env scope.names []):=by
 unfold closureFor
 dsimp only
 rw[sX (env:=env) _ (λn k cs=>by cases hk:k==cM<;>simp[hk]) scope.names [] h]
 rfl
theorem sY{env:Env}{n:Str}:∀{names:List (Str×aC)} {acc:List (Str×Addr)},(n,cM)∉names->(kH env names acc).lookup n=acc.lookup n
 |[],_,_=>rfl
 |(x,k)::r,acc,h=>by
  unfold kH
  rw[sY λhm=>h (.tail _ hm)]
  cases hk:k==cM with
  |false=>rfl
  |true=>
   obtain rfl:k= .free:=by simpa using hk
   have:n≠x:=λe=>h (e▸ .head _)
   rw[if_pos rfl,eF,show(n==x)=false from beq_eq_false_iff_ne.mpr this]
theorem vK{env:Env}{n:Str}:∀{names:List (Str×aC)} {acc:List (Str×Addr)},(names.map (·.1)).Nodup->(n,cM)∈names->(kH env names acc).lookup n=some ((env.cells.lookup n).getD 0)
 |(x,k)::r,acc,hn,h=>by
  rw[aO,fS] at hn
  unfold kH
  rcases au.mp h with e|hm
  ·cases e
   rw[sY λhm=>hn.1 (fY hm)]
   simp
  ·exact vK hn.2 hm
theorem hO(acc:List (Str×Addr)):∀(names:List (Str×aC)) (n:Nat) (b:List (Str×Addr)),eD n names (b++acc)=eD n names b++acc
 |[],_,_=>rfl
 |(x,k)::r,n,b=>by
  unfold eD
  cases hk:k==aq with
  |true=>simp only[if_true]; exact hO acc r (n+1) ((x,n)::b)
  |false=>simp only[cb,if_false]; exact hO acc r n b
theorem iR{x:Str}:∀{names:List (Str×aC)} {n:Nat} {acc:List (Str×Addr)},(x,aq)∉names->(eD n names acc).lookup x=acc.lookup x
 |[],_,_,_=>rfl
 |(y,k)::r,n,acc,h=>by
  unfold eD
  cases hk:k==aq with
  |false=>simp only[cb,if_false]; exact iR λhm=>h (.tail _ hm)
  |true=>
   obtain rfl:k= .cell:=by simpa using hk
   simp only[if_true]
   rw[iR λhm=>h (.tail _ hm),eF,show(x==y)=false from beq_eq_false_iff_ne.mpr λe=>h (e▸ .head _)]
theorem fi{x:Str}:∀{names:List (Str×aC)} {n:Nat} {acc:List (Str×Addr)},(names.map (·.1)).Nodup->(x,aq)∈names->∃c,(eD n names acc).lookup x=some c/\n<=c
 |(y,k)::r,n,acc,hn,h=>by
  rw[aO,fS] at hn
  unfold eD
  rcases au.mp h with e|hm
  ·cases e
   simp only[beq_self_eq_true,if_true]
   rw[iR λhm=>hn.1 (fY hm)]
   exact⟨n,by simp,bL _⟩
  ·cases hk:k==aq with
   |false=>simp only[cb,if_false]; exact fi hn.2 hm
   |true=>
    simp only[if_true]
    obtain⟨c,h1,h2⟩:=fi (n:=n+1) (acc:=(y,n)::acc) hn.2 hm
    exact⟨c,h1,by exact aX 1787244348417 tt h2⟩
theorem hU{x:Str}{c:Addr}:∀{names:List (Str×aC)} {n:Nat} {acc:List (Str×Addr)},(∀p∈acc,n<=p.2\/p∈acc)->(x,c)∈eD n names acc->n<=c\/(x,c)∈acc
 |[],_,_,_,h=> .inr h
 |(y,k)::r,n,acc,h0,h=>by
  unfold eD at h
  cases hk:k==aq with
  |false=>rw[hk] at h; exact hU (λp hp=> .inr hp) h
  |true=>
   rw[hk] at h
   rcases hU (n:=n+1) (λp hp=> .inr hp) h with h|h
   ·exact .inl (by exact aX 1787244348417 tt h)
   ·rcases au.mp h with e|h
    ·cases e; exact .inl (bL _)
    ·exact .inr h
section
variable {W:Wd}{C:Cx}{ρ a9:Ro}{f o:Fz}{s:Shared}
theorem St.cells:∀(names:List (Str×aC)) {o:Fz} {s:Shared},St W.B f o s->∃o',o.le o'/\St W.B f o' {s with heap:=pushCells s.heap names}/\
 (∀acc x c,(x,c)∈eD s.heap.objs.size names acc->(x,c)∈acc\/(o' c=some {cls:= .type "cell",data:= .cell none}/\o c=none))
 |[],o,s,S=>⟨o, .refl o,S,λacc x c h=> .inl h⟩
 |(y,k)::r,o,s,S=>by
  unfold pushCells eD
  cases hk:k==aq with
  |false=>simp only[cb,if_false]; exact St.cells r S
  |true=>
   simp only[if_true]
   have S1:=S.gV {cls:= .type "cell",data:= .cell none}
   obtain⟨o',h1,h2,h3⟩:=St.cells r S1
   refine⟨o',(Fz.bP S.eZ).trans h1,h2,λacc x c h=>?_⟩
   rw[show({s with heap:=s.heap.push {cls:= .type "cell",data:= .cell none}}:Shared).heap.objs.size=s.heap.objs.size+1 from cZ ..] at h3
   rcases h3 _ x c h with h|⟨h,g⟩
   ·rcases au.mp h with e|h
    ·cases e; exact .inr ⟨h1 _ _ (Fz.aJ ..),S.eZ⟩
    ·exact .inl h
   ·refine .inr ⟨h,?_⟩
    have:c≠s.heap.objs.size:=λe=>by rw[e,Fz.aJ] at g; exact nomatch g
    rwa [Fz.az this] at g
theorem HF{b:Bd}{r:Res}(h:Bd.res true r=b.MF):False:=by
 cases b<;>first|exact Bd.noConfusion h|exact Bool.noConfusion (Bd.res.inj h).1
theorem Holds.MF{b:Bd}{vo:Option Value}(h:Holds f o b vo):Holds f o b.MF vo:=by cases b<;>exact h
theorem pH(O:C.Ok)(H:bc C ρ f o){n:Str}{k:aC}{b:Bd}(h1:(n,k)∈C.names)(h2:k= .cell\/k= .free)(h3:(n,b)∈ρ):
 (C.env.kindOf n=some .cell\/C.env.kindOf n=some .free)/\∃c ob vo,C.env.cells.lookup n=some c/\o c=some ob/\ob.data= .cell vo/\Holds f o b vo:=by
 have hk:C.env.kindOf n=some .cell\/C.env.kindOf n=some .free:=by
  rcases h2 with rfl|rfl
  ·exact .inl (O.kinds _ _ h1 (by decide))
  ·exact O.frees _ h1
 obtain⟨vo,hv,hh⟩:=H.vars _ _ h3
 rcases hv with⟨k',_⟩|⟨_,c,ob,e1,e2,e3⟩
 ·exfalso; rcases hk with hk|hk<;>rw[hk] at k'<;>exact nomatch k'
 ·exact⟨hk,c,ob,vo,e1,e2,e3,hh⟩
noncomputable def sZ(C:Cx)(scope:Scope)(cenv:Env):Cx:=⟨{cenv with scope:=relabel scope C.env},C.A,scope.names⟩
theorem Ec(O:C.Ok)(S:St W.B f o s)(H:bc C ρ f o){scope:Scope}{eW:Ro}(hk:scope.kind= .function)(j4:(scope.names.map (·.1)).Nodup)(hi:nr C.names ρ scope.names eW){Q:Env->Shared->Prop}{E:Value->Shared->Prop}
 (h:∀cenv o1 s1,(sZ C scope cenv).Ok->o.le o1->St W.B f o1 s1->bc (sZ C scope cenv) eW f o1->(∀a,pq (sZ C scope cenv) eW a->o a=none)->(∀a,Uses (sZ C scope cenv) eW a->Uses C ρ a\/@LE.le Nat _ s.heap.objs.size a)->Q cenv s1):
 wpAny W.M C.A (newFunctionEnv scope C.env.globals (kH C.env scope.names []) [] C.env.qual none .none (some C.env)) Q E s:=by
 simp only[newFunctionEnv,Option.isSome_some,if_true]
 refine aa (Jp ?_)
 refine aa (wpAny_layCells _ (λname kind cells=>by cases hkc:kind==aq<;>simp) _ _ _ _ ?_)
 rw[jr]
 refine aa (ao (ao ?_))
 rw[show({s with heap:=s.heap.push {cls:= .type "dict",data:= .dict #[]}}:Shared).heap.objs.size=s.heap.objs.size+1 from cZ ..]
 have S1:=S.gV {cls:= .type "dict",data:= .dict #[]}
 obtain⟨o2,l2,S2,hc⟩:=St.cells scope.names S1
 rw[show({s with heap:=s.heap.push {cls:= .type "dict",data:= .dict #[]}}:Shared).heap.objs.size=s.heap.objs.size+1 from cZ ..] at hc
 have lo:o.le o2:=(Fz.bP S.eZ).trans l2
 have hL:o2 s.heap.objs.size=some {cls:= .type "dict",data:= .dict #[]}:=l2 _ _ (Fz.aJ ..)
 --Qd
 have own:∀n,(n,aq)∈scope.names->∃c,(eD (s.heap.objs.size+1) scope.names (kH C.env scope.names [])).lookup n=some c/\s.heap.objs.size+1<=c/\o2 c=some {cls:= .type "cell",data:= .cell none}/\o c=none:=by
  intro n hn
  obtain⟨c,h1,h2⟩:=fi (n:=s.heap.objs.size+1) (acc:=kH C.env scope.names []) j4 hn
  have e:=hO (kH C.env scope.names []) scope.names (s.heap.objs.size+1) []
  rw[oG] at e
  have hm:(n,c)∈eD (s.heap.objs.size+1) scope.names []:=by
   rw[e,rb] at h1
   cases q:(eD (s.heap.objs.size+1) scope.names []).lookup n with
   |some c'=>rw[q] at h1; cases h1; exact lookup_mem q
   |none=>
    obtain⟨c',h',_⟩:=fi (n:=s.heap.objs.size+1) (acc:=[]) j4 hn
    rw[q] at h'; exact nomatch h'
  rcases hc [] n c hm with h|⟨h,g⟩
  ·exact nomatch h
  ·refine⟨c,h1,h2,h,?_⟩
   refine none_of λy q=>?_
   have:=(Fz.bP (o:=⟨.type "dict",none, .dict #[],#[]⟩) S.eZ) _ _ q; exact iB g this
 have HE:∀n,(n,cM)∈scope.names->∀c,C.env.cells.lookup n=some c->(eD (s.heap.objs.size+1) scope.names (kH C.env scope.names [])).lookup n=some c:=by
  intro n hn c hc
  have G5:(n,aq)∉scope.names:=λhm=>by
   have h1:=cJ j4 hn
   cases nJ (cJ j4 hm) h1
  rw[iR G5,vK j4 hn,hc]; rfl
 have kd:∀n k,(n,k)∈scope.names->(relabel scope C.env).names.lookup n=some (if(k== .free&&C.env.scope.kind== .function&&C.env.kindOf n==some .cell) then .cell else k):=λn k hm=>sW (cJ j4 hm)
 have Zj:∀n,(n,cM)∈scope.names->(relabel scope C.env).names.lookup n=some .cell\/(relabel scope C.env).names.lookup n=some .free:=by
  intro n hn
  rw[kd n _ hn]
  split
  ·exact .inl rfl
  ·exact .inr rfl
 have Wu:∀n k,(n,k)∈scope.names->k≠ .free->(relabel scope C.env).names.lookup n=some k:=by
  intro n k hn hk
  rw[kd n _ hn,if_neg]
  simp[hk]
 --distinct cells
 have dist:∀n c,((relabel scope C.env).names.lookup n=some .cell\/(relabel scope C.env).names.lookup n=some .free)->(eD (s.heap.objs.size+1) scope.names (kH C.env scope.names [])).lookup n=some c->
  ((n,aq)∈scope.names/\(n,c)∈eD (s.heap.objs.size+1) scope.names [])\/((n,cM)∈scope.names/\C.env.cells.lookup n=some c/\@LT.lt Nat _ c s.heap.objs.size/\(C.env.kindOf n=some .cell\/C.env.kindOf n=some .free)):=by
  intro n c hk hl
  have oX:(n,aq)∈scope.names\/(n,cM)∈scope.names:=by
   rcases hk with hk|hk
   ·obtain⟨k',h1,h2⟩:=nZ hk
    rcases h2 with rfl|⟨rfl,_⟩
    ·exact .inl (lookup_mem h1)
    ·exact .inr (lookup_mem h1)
   ·obtain⟨k',h1,h2⟩:=nZ hk
    rcases h2 with rfl|⟨_,h⟩
    ·exact .inr (lookup_mem h1)
    ·exact nomatch h
  rcases oX with hm|hm
  ·left
   refine⟨hm,?_⟩
   have e:=hO (kH C.env scope.names []) scope.names (s.heap.objs.size+1) []
   rw[oG] at e
   rw[e,rb] at hl
   obtain⟨c',h',_⟩:=fi (n:=s.heap.objs.size+1) (acc:=[]) j4 hm
   rw[h'] at hl; cases hl; exact lookup_mem h'
  ·right
   obtain⟨k,b,h1,h2,h3⟩:=hi.free hm
   obtain⟨hk,c',ob,vo,e1,e2,_,_⟩:=pH O H h1 h2 h3
   have:=HE n hm c' e1
   cases nJ this hl
   exact⟨hm,e1,S.lt (.inr e2),hk⟩
 refine h _ o2 _ ?ok lo S2 ⟨?ok,⟨_,#[],0,hL,rfl,λ_ he=>by simp at he⟩,?_,j4.sublist hi.keys,?_,?_⟩ ?_ ?_
 case ok=>
  refine⟨hk,O.glob,O.HB,Wu,Zj,?_,O.room⟩
  intro n n' c c' h1 h2 e1 e2 ea e
  subst e
  rcases dist n c h1 e1 with⟨hm,m1⟩|⟨hm,x1,y1,z1⟩
  ·rcases dist n' c h2 e2 with⟨qW,m2⟩|⟨qW,x2,y2,z2⟩
   ·exact ea (name_of_addr (cellsFrom_ok scope.names (s.heap.push {cls:= .type "dict",data:= .dict #[]}) 0 [] ⟨λ_ _ hm=>(nomatch hm),List.Pairwise.nil⟩ (fC _)).apart (by rw[cZ]; exact m1) (by rw[cZ]; exact m2))
   ·rcases hU (λp hp=> .inr hp) m1 with h|h
    ·exact lH 0x50300843404021 tt y2 h
    ·exact nomatch h
  ·rcases dist n' c h2 e2 with⟨qW,m2⟩|⟨qW,x2,y2,z2⟩
   ·rcases hU (λp hp=> .inr hp) m2 with h|h
    ·exact lH 0x50300843404021 tt y1 h
    ·exact nomatch h
   ·exact O.apart n n' c c z1 z2 x1 x2 ea rfl
 ·intro n b hm
  rcases hi.mem hm with⟨rfl,hm|hm⟩|⟨Nm,k,b',h1,h2,h3,rfl⟩
  ·exact⟨none, .inl ⟨Wu n _ hm (by decide),_,#[],0,hL,rfl,λ_ he=>by simp at he,rfl⟩,trivial⟩
  ·obtain⟨c,h1,h2,h3,h4⟩:=own n hm
   exact⟨none, .inr ⟨.inl (Wu n _ hm (by decide)),c,_,h1,h3,rfl⟩,trivial⟩
  ·obtain⟨hk,c,ob,vo,e1,e2,e3,e4⟩:=pH O H h1 h2 h3
   exact⟨vo, .inr ⟨Zj n Nm,c,ob,HE n Nm c e1,lo _ _ e2,e3⟩,e4.MF.mono (.refl f) lo⟩
 ·intro n u r hm a ha hs
  obtain⟨u',h3⟩:∃u',(n,Bd.res u' r)∈ρ:=by
   rcases hi.mem hm with⟨e,_⟩|⟨_,k,b',_,_,h3,e⟩
   ·exact nomatch e
   ·cases b'<;>cases e
    exact⟨_,h3⟩
  obtain⟨vo,_,hh⟩:=H.vars _ _ h3
  obtain⟨y,hy⟩:=r.there _ _ hh.2 a ha
  have ki:@LT.lt Nat _ a s.heap.objs.size:=S.lt (.inr hy)
  rcases hs with rfl|⟨m,h1,h2,h4⟩
  ·exact absurd ki (iL _)
  ·rcases dist m a h2 h4 with⟨qW,m1⟩|⟨qW,x1,y1,z1⟩
   ·rcases hU (λp hp=> .inr hp) m1 with h|h
    ·exact lH 0x50300843404021 tt ki h
    ·exact nomatch h
   ·obtain⟨k,b,_,_,h5⟩:=hi.free qW
    exact H.sep n u' r h3 a ha (.inr ⟨m,aw.mpr ⟨_,h5,rfl⟩,z1,x1⟩)
 ·intro n n' u u' r r' p q ea
  have find:∀n u r,(n,Bd.res u r)∈eW->∃u',(n,Bd.res u' r)∈ρ:=by
   intro n u r p
   rcases hi.mem p with⟨e,_⟩|⟨_,k,b',_,_,h3,e⟩
   ·exact nomatch e
   ·cases b'<;>cases e
    exact⟨_,h3⟩
  obtain⟨_,p'⟩:=find _ _ _ p
  obtain⟨_,q'⟩:=find _ _ _ q
  exact H.two n n' _ _ r r' p' q' ea
 ·intro a hm
  rcases hm with rfl|⟨n,hn,_,hl⟩|⟨n,r,hm,ha⟩
  ·exact S.eZ
  ·obtain⟨c,h1,h2,h3,h4⟩:=own n hn
   have:some c=some a:=h1.symm.trans hl
   cases this; exact h4
  ·rcases hi.mem hm with⟨e,_⟩|⟨_,k,b',_,_,h3,e⟩
   ·exact nomatch e
   ·exact(HF e).elim
 ·intro a hm
  rcases hm with(rfl|⟨n,h1,h2,h3⟩)|⟨n,u,r,hm,ha⟩
  ·exact .inr (bL _)
  ·rcases dist n a h2 h3 with⟨hm,m1⟩|⟨hm,x1,y1,z1⟩
   ·rcases hU (λp hp=> .inr hp) m1 with h|h
    ·exact .inr (Nat.le_of_succ_le h)
    ·exact nomatch h
   ·obtain⟨k,b,h1,h2,h3⟩:=hi.free hm
    exact .inl (.inl (.inr ⟨n,aw.mpr ⟨_,h3,rfl⟩,z1,x1⟩))
  ·rcases hi.mem hm with⟨e,_⟩|⟨_,k,b',_,_,h3,e⟩
   ·exact nomatch e
   ·cases b'<;>cases e
    exact .inl (.inr ⟨n,_,_,h3,ha⟩)
end
theorem yk(elt t1 i1 t2 i2:Expr)(z8 z9:List Expr)(scope:Scope)(pos:Pos)(it acc:Value)(env:Env):
 A8 (.ListComp elt [⟨t1,i1,z8,0⟩,⟨t2,i2,z9,0⟩] scope pos) 0 it acc env=(do
  dE i1.pos
  match <-pyNext it with
  |none=>pure (.done .next)
  |some v=>
   jn t1 it v
   assign t1 env v
   let mut ok:=true
   for c in z8 do
    if ok then ok <-isTrue c env (eval c env)
   if ok then
    let x <-eval i2 env
    dE i2.pos
    let x <-bH i2 env x
    let _ <-runOwn (.compStart (.ListComp elt [⟨t1,i1,z8,0⟩,⟨t2,i2,z9,0⟩] scope pos) 1 (<-holding [x] (pyIter x)) acc env) env
   again (.compLoop (.ListComp elt [⟨t1,i1,z8,0⟩,⟨t2,i2,z9,0⟩] scope pos) 0 it acc env)):=by rfl
theorem yl(elt t1 i1 t2 i2:Expr)(z8 z9:List Expr)(scope:Scope)(pos:Pos)(it acc:Value)(env:Env):
 A8 (.ListComp elt [⟨t1,i1,z8,0⟩,⟨t2,i2,z9,0⟩] scope pos) 1 it acc env=(do
  dE i2.pos
  match <-pyNext it with
  |none=>pure (.done .next)
  |some v=>
   jn t2 it v
   assign t2 env v
   let mut ok:=true
   for c in z9 do
    if ok then ok <-isTrue c env (eval c env)
   if ok then
    (do let _ <-call (.builtin "list.append") [acc,<-eval elt env])
   again (.compLoop (.ListComp elt [⟨t1,i1,z8,0⟩,⟨t2,i2,z9,0⟩] scope pos) 1 it acc env)):=by rfl
section
variable {W:Wd}{C:Cx}{ρ a9:Ro}{f o:Fz}{s:Shared}
theorem LstIs.plain(S:St W.B f o s){a:Addr}{ds:List D}(h:LstIs f o a ds):∃vs n,o a=some {cls:= .type "list",data:= .seq ⟨vs⟩ n}/\bQ f ds vs:=by
 obtain⟨⟨c,d,dt,sl⟩,vs,n,h1,⟨h2,h3,h4⟩,h5,h6⟩:=h
 dsimp only at h2 h3 h4 h5
 subst h2 h3 h4 h5
 exact⟨vs,n,h1,h6⟩
theorem wW{A:Around}{a:Addr}{ds:List D}{d:D}{v:Value}(S:St W.B f o s)(l:LstIs f o a ds)(hd:Den f d v)(fB:ds.length<=16777216){Q:Value->Shared->Prop}{E:Value->Shared->Prop}
 (h:∀o' s',St W.B f o' s'->LstIs f o' a (ds++[d])->(∀b y,o b=some y->b≠a->o' b=some y)->Q .none s'):wpAny W.M A (call (.builtin "list.append") [.ref a,v]) Q E s:=by
 obtain⟨vs,n,h1,h2⟩:=l.plain S
 refine wpAny_list_append_plain ⟨n,S.own _ _ h1⟩ (λh' Wv hs=>?_) (by rw[bu]; show vs.length<=_; rw[h2.length]; exact fB)
 obtain⟨n',g⟩:=Wv
 exact h _ _ (S.same h1 hs g) ⟨_,vs++[v],n',Fz.aJ ..,⟨rfl,rfl,rfl⟩,by simp,h2.snoc hd⟩ λb y e hb=>by rw[Fz.az hb]; exact e
theorem bc.put(H:bc C ρ f o){a:Addr}{x':Obj}(hc:¬Uses C ρ a):bc C ρ f (o.put a x'):=
 H.off λb y e hu=>by rw[Fz.az (λq=>hc (by subst q; exact hu))]; exact e
noncomputable def CH(W:Wd)(C:Cx)(Dl:Addr)(ρ:Ro)(t:Sem Unit)(ds:List D):Prop:=∀f o s acc,St W.B f o s->bc C ρ f o->LstIs f o Dl acc->acc.length+ds.length<=100000->¬Uses C ρ Dl->∀(Q:Unit->Shared->Prop) (E:Value->Shared->Prop),
 (∀f' o' s',f.le f'->St W.B f' o' s'->bc C ρ f' o'->LstIs f' o' Dl (acc++ds)->(∀a y,o a=some y->¬pq C ρ a->a≠Dl->o' a=some y)->Q () s')->wpAny W.M C.A t Q E s
theorem CH.elt{e:Expr}{d:D}{Dl:Addr}(x:eg W C ρ e d):CH W C Dl ρ (do let _ <-call (.builtin "list.append") [.ref Dl,<-eval e C.env]) [d]:=λf o s acc S H hl hn hm Q E h=>by
 refine aa (x f o s S H _ _ λv f1 s1 l1 S1 d1=>?_)
 refine aa (wW (S:=S1) (l:=hl.mono l1 (.refl o)) d1 (by simp only[aQ,ff] at hn; exact aN 0x716d42549c010084308421084801 tt hn) λo' s' a1 a2 a3=>?_)
 exact ao (h f1 _ _ l1 a1 ((H.mono l1 (.refl o)).off λb y e hu=>a3 b y e λq=>hm (q▸hu)) a2 λa y e _ ha=>a3 a y e ha)
inductive Clause(W:Wd)(C:Cx)(ρ:Ro)(eO:Expr)(ifs:List Expr)(P:Ro->List D->Prop):List D->List D->Prop
 |nil:Clause W C ρ eO ifs P [] []
 |cons {x:D} {xs ds out:List D} {mf:Ro} {b:Bool}:jO W C ρ eO x mf->yj W C mf ifs b->(b=true->P mf ds)->(b=false->ds=[])->o8 mf ρ->Clause W C ρ eO ifs P xs out->Clause W C ρ eO ifs P (x::xs) (ds++out)
theorem pI(O:C.Ok){Dl:Addr}{it:Value}{eO:Expr}{ifs:List Expr}{p:Pos}{t:Sem Unit}{c:Code}{P:Ro->List D->Prop}(hh:C.A.handled=none)(DK:Rm C.A)(hq:c.quiet=true)(hu:C.A.under c=C.A)
 (hP:∀mf ds,P mf ds->CH W C Dl mf t ds)
 (Ny:W.M.den c=(do
  dE p
  match <-pyNext it with
  |none=>pure (.done .next)
  |some v=>
   jn eO it v
   assign eO C.env v
   let ok <-forIn ifs true λc r=>if r=true then do let ok <-isTrue c C.env (eval c C.env); pure (fD ok) else pure (fD r)
   if ok then t
   again c:Sem Fin).onRaise λx=>do iK x C.env; gi x)
 {xs out:List D} (hc:Clause W C ρ eO ifs P xs out):∀{w f o:Fz} {s:Shared} {acc:List D},St W.B f o s->bc C ρ f o->oZ W eO xs w f it->w.le o->LstIs f o Dl acc->acc.length+out.length<=100000->¬Uses C ρ Dl->
  (∀a,w a≠none->¬Uses C ρ a/\a≠Dl)->∀(R:Result->Shared->Prop),
  (∀f' o' s',f.le f'->St W.B f' o' s'->bc C ρ f' o'->LstIs f' o' Dl (acc++out)->(∀a y,o a=some y->¬pq C ρ a->a≠Dl->w a=none->o' a=some y)->R (.ok .next) s')->eC W.M C.A c R s:=by
 induction hc with
 |nil=>
  intro w f o s acc S H I hw hl hn hm hd R h
  refine gk ?_
  rw[hu,Ny]
  refine nM (aa (aZ (aa (I C.A f o s _ _ hh DK (.refl f) hw S λo' s' S' off=>?_))))
  have tc:∀a,Uses C ρ a->w a=none:=λa hu=>by
   exact none_of λy q=>absurd hu (hd a (by exact sn q)).1
  refine ao (h f o' s' (.refl f) S' (H.off λa y e hu=>off a y e (tc a hu)) ?_ λa y e h1 h2 h3=>off a y e h3)
  obtain⟨ob,vs,n,e1,r,y1,y2⟩:=hl
  rw[gT]
  refine⟨ob,vs,n,off _ _ e1 ?_,r,y1,y2⟩
  exact none_of λy q=>absurd rfl (hd Dl (by exact sn q)).2
 | @cons x xs ds out mf b h1 h2 h3 h4 h5 _ ih=>
  intro w f o s acc S H I hw hl hn hm hd R h
  have tc:∀a,Uses C ρ a->w a=none:=λa hu=>by
   exact none_of λy q=>absurd hu (hd a (by exact sn q)).1
  have Nz:w Dl=none:=by
   exact none_of λy q=>absurd rfl (hd Dl (by exact sn q)).2
  have NA:∀a,pq C ρ a->Uses C ρ a:=λa hm=>hm.uses O
  have hux:∀a,Uses C mf a->Uses C ρ a:=λa hu=>Uses.of h1.1.2 h1.1.1 hu
  refine gk ?_
  rw[hu,Ny]
  refine nM (aa (aZ (aa (dC (I C.A f o s (λv s1=>wpAny W.M C.A (do
   assign eO C.env v
   let ok <-forIn ifs true λc r=>if r=true then do let ok <-isTrue c C.env (eval c C.env); pure (fD ok) else pure (fD r)
   if ok then t
   again c:Sem Fin) (λfin s'=>match fin with| .done f=>R (.ok f) s'| .again c'=>c'.quiet=true/\eC W.M C.A c' R s') (notedBy W.M C.A C.env λe s'=>R (.error e) s') s1)
   _ hh DK (.refl f) hw S λv f1 o1 s1 w1 l1 S1 off HG Aa hv I1=>?_) (λr s1 hr=>?_) λ_ _ e=>e))))
  ·have H1:bc C ρ f1 o1:=(H.mono l1 (.refl o)).off λa y e hu=>off a y e (tc a hu)
   have NB:LstIs f1 o1 Dl acc:=by
    obtain⟨ob,vs,n,e1,e2,e3,e4⟩:=hl
    exact⟨ob,vs,n,off _ _ e1 Nz,e2,e3,e4.mono l1⟩
   have MH:∀a,w1 a≠none->¬Uses C ρ a/\a≠Dl:=λa ha=>by
    rcases Aa a ha with q|q
    ·exact hd a q
    ·refine⟨λhu=>?_,λe=>?_⟩
     ·obtain⟨y,hy⟩:=H.there hu; exact iB q hy
     ·obtain⟨ob,vs,n,e1,_⟩:=hl; subst e; exact iB q e1
   refine aa (h1.2 f1 o1 s1 v S1 H1 hv _ _ λf2 o2 s2 L2=>aa (h2 f2 o2 s2 L2.st L2.env _ _ λf3 s3 l3 S3=>?_))
   have MI:LstIs f3 o2 Dl acc:=by
    obtain⟨ob,vs,n,e1,e2,e3,e4⟩:=NB
    exact⟨ob,vs,n,L2.step _ _ e1 λKZ=>hm (NA _ KZ),e2,e3,e4.mono (L2.le.trans l3)⟩
   --behind K0 NC
   have fin:∀f4 o4 s4,f3.le f4->St W.B f4 o4 s4->bc C ρ f4 o4->LstIs f4 o4 Dl (acc++ds)->(∀a y,o2 a=some y->¬pq C mf a->a≠Dl->o4 a=some y)->eC W.M C.A c R s4:=by
    intro f4 o4 s4 l4 S4 H4 ND keep
    have Zk:f1.le f4:=L2.le.trans (l3.trans l4)
    have Zl:∀a y,o1 a=some y->¬pq C ρ a->a≠Dl->o4 a=some y:=λa y e KZ ea=>by
     have e2:=L2.step a y e KZ
     refine keep a y e2 (λhx=>?_) ea
     rcases L2.ri a hx with q|q
     ·exact KZ q
     ·exact iB q e
    refine ih (w:=w1) S4 H4 (I1.mono Zk) (λa y e=>Zl a y (HG _ _ e) (λq=>(MH a (by exact sn e)).1 (NA a q)) (MH a (by exact sn e)).2) ND ?_ hm MH R λf' o' s' l5 S5 H5 hl5 NF=>?_
    ·simp only[a8] at hn ⊢; exact cG 0x1c5b5090830040210e2da8484104201 tt hn
    ·refine h f' o' s' (l1.trans (Zk.trans l5)) S5 H5 (by rw[<-mE]; exact hl5) λa y e KZ ea td=>?_
     refine NF a y (Zl a y (off a y e td) KZ ea) KZ ea ?_
     refine none_of λz q=>?_
     rcases Aa a (by exact sn q) with q|q
     ·exact absurd td q
     ·exact iB q e
   cases b with
   |true=>
    refine aa (hP _ _ (h3 rfl) f3 o2 s3 acc S3 (L2.env.mono l3 (.refl o2)) MI ?_ (λhu=>hm (hux _ hu)) _ _ λf4 o4 s4 l4 S4 H4 ND keep=>ao ⟨hq,fin f4 o4 s4 l4 S4 (H4.weak h5) ND keep⟩)
    simp only[a8] at hn; exact cG 0x716d42420c01008438b6a1208201 tt hn
   |false=>
    obtain rfl:=h4 rfl
    exact ao ⟨hq,fin f3 o2 s3 (.refl f3) S3 ((L2.env.mono l3 (.refl o2)).weak h5) (by rw[gT]; exact MI) λa y e _ _=>e⟩
  ·obtain⟨v,rfl,hv⟩:=hr
   exact aa hv
end
section
variable {W:Wd}{C:Cx}{ρ a9 eW:Ro}{f o:Fz}{s:Shared}
theorem St.wX(S:St W.B f o s){a:Addr}{h':Heap}(hf:f a=none)(ho:o a=none)(ht:¬W.B.side a)(hs:ft a s.heap h'):St W.B f o {s with heap:=h'}:=
 ⟨λb x e=>(hs.2 b (λq=>by subst q; exact iB hf e)).trans (S.sub b x e),λb x e=>(hs.2 b (λq=>by subst q; exact iB ho e)).trans (S.own b x e),S.apart,S.base,
  λc hc=>let⟨z,hz,hq⟩:=S.tab c hc; ⟨z,(hs.2 _ (λq=>ht (q▸hc))).trans hz,hq⟩,S.fo,S.os,S.gens⟩
noncomputable def Runs(W:Wd)(C:Cx)(ρ:Ro)(eO e:Expr)(xs out:List D):Prop:=∀Dl it w f o s,St W.B f o s->bc C ρ f o->oZ W eO xs w f it->rf W w f it->w.le o->LstIs f o Dl []->¬Uses C ρ Dl->(∀a,w a≠none->¬Uses C ρ a/\a≠Dl)->∀(R:Result->Shared->Prop),
 (∀f' o' s',f.le f'->St W.B f' o' s'->bc C ρ f' o'->LstIs f' o' Dl out->(∀a y,o a=some y->¬pq C ρ a->a≠Dl->w a=none->o' a=some y)->R (.ok .next) s')->eC W.M C.A (.compStart e 0 it (.ref Dl) C.env) R s
theorem ym(O:C.Ok)(S:St W.B f o s)(H:bc C ρ f o){elt:Expr}{g:dT}{gs:List dT}{scope:Scope}{p pos:Pos}{xs out:List D}(hit:zZ W C ρ g.target g.iter xs)(hs:∀x,bH g.iter C.env x=pure x)
 (hk:scope.kind= .function) (j4:(scope.names.map (·.1)).Nodup) (hi:nr C.names ρ scope.names eW)
 (hr:∀cenv,(sZ C scope cenv).Ok->Runs W (sZ C scope cenv) eW g.target (.ListComp elt (g::gs) scope pos) xs out)
 {use:Option (Value->Sem Unit)} {Q:Value->Shared->Prop} {E:Value->Shared->Prop}
 (h:∀(v:Value) (f' o':Fz) (s':Shared) (L:Addr),f.le f'->o.le o'->St W.B f' o' s'->Den f' (.list out) v->f' L=none->o L=none->¬W.B.side L->(∃ob es ep,o' L=some ob/\ob.data= .dict es ep/\StrKeys es)->
  match use with
  |none=>∀h',ft L s'.heap h'->Q v {s' with heap:=h'}
  |some u=>wpAny W.M C.A (u v) (λ_ xR=>(∃m,xR.heap.Ns L m)/\∀h',ft L xR.heap h'->Q .none {xR with heap:=h'}) E s'):
 wpAny W.M C.A (comprehension (.ListComp elt (g::gs) scope pos) scope C.env p (newList []) false (firstIter (g::gs) C.env) use) Q E s:=by
 have K2:∀n,(n,cM)∈scope.names->∃c,C.env.cells.lookup n=some c:=λn hn=>by
  obtain⟨k,b,h1,h2,h3⟩:=hi.free hn
  obtain⟨_,c,_,_,e,_⟩:=pH O H h1 h2 h3
  exact⟨c,e⟩
 refine wpAny_comprehension_free (g:=g) (gs:=gs) rfl hs (uZ K2) hk (λx hx hl=>by obtain⟨n,k⟩:=x; dsimp only at hl; subst hl; exact cJ j4 hx) ?_
 rw[show firstIter (g::gs) C.env=eval g.iter C.env by obtain⟨_,_,_,_⟩:=g; rfl]
 refine hit f o s S H _ _ λit w f1 o1 s1 l1 S1 lo1 HG tc I1 Is1=>?_
 refine oC ?_ (by rw[bu]; exact fC _)
 have S2:=S1.gV {cls:= .type "list",data:= .seq ([]:List Value).toArray}
 have G6:o1.le (o1.put s1.heap.objs.size {cls:= .type "list",data:= .seq ([]:List Value).toArray}):=Fz.bP S1.eZ
 refine Ec O S2 (H.mono l1 (lo1.trans G6)) hk j4 hi λcenv o3 s3 O' l3 S3 H3 K3 hu3=>?_
 have oD:o s1.heap.objs.size=none:=by
  refine none_of λy q=>?_
  have:=lo1 _ _ q; exact iB (S1.eZ ..) this
 have fB:(s1.heap.push {cls:= .type "list",data:= .seq ([]:List Value).toArray}).objs.size=s1.heap.objs.size+1:=cZ ..
 have lD:LstIs f1 o3 s1.heap.objs.size []:=⟨_,[],0,l3 _ _ (Fz.aJ ..),⟨rfl,rfl,rfl⟩,rfl,rfl⟩
 have Ee:∀a,o a=none->@LT.lt Nat _ a (s1.heap.objs.size+1)->¬Uses (sZ C scope cenv) eW a:=λa ha ki hu=>by
  rcases hu3 a hu with q|q
  ·obtain⟨y,hy⟩:=H.there q; exact iB ha hy
  ·rw[fB] at q; exact lH 0x140c021a061404021 tt ki q
 refine hr cenv O' _ it w f1 o3 s3 S3 H3 I1 Is1 (HG.trans (G6.trans l3)) lD (Ee _ oD (uR _)) (λa ha=>?_) _ λf4 o4 s4 l4 S4 H4 ND keep=>?_
 ·cases q:w a with
  |none=>exact absurd q ha
  |some y=>
   have ki:a<s1.heap.objs.size:=S1.lt (.inr (HG _ _ q))
   exact⟨Ee a (tc a ha) (jy ki),bg ki⟩
 ·obtain⟨ob,vs,n,e1,e2,e3,e4⟩:=ND
  obtain⟨oL,es,ep,g1,g2,g3⟩:=H4.ns
  have Zm:cenv.locals≠s1.heap.objs.size:=λq=>by
   have HH:o4 cenv.locals=some oL:=g1
   rw[q,e1] at HH; cases HH; rw[e3] at g2; exact nomatch g2
  have oL0:o cenv.locals=none:=by
   have:=K3 cenv.locals (.inl rfl)
   refine none_of λy q=>?_
   have q':=G6 _ _ (lo1 _ _ q); rw[this] at q'; exact nomatch q'
  have lo4:o.le (o4.del s1.heap.objs.size):=λa y e=>by
   have e1:=lo1 _ _ e
   have ea:a≠s1.heap.objs.size:=λq=>by subst q; exact iB oD e
   unfold Fz.del
   rw[if_neg ea]
   refine keep a y (l3 _ _ (G6 _ _ e1)) (λq=>?_) ea ?_
   ·have:=K3 a q; rw[G6 _ _ e1] at this; exact nomatch this
   ·refine none_of λz q=>?_
    have:=tc a (by exact sn q); rw[e] at this; exact nomatch this
  have S5:=S4.freeze e1
  have Ww:Den (f4.put s1.heap.objs.size ob) (.list out) (.ref s1.heap.objs.size):=⟨_,ob,vs,n,rfl,Fz.aJ ..,e2,e3,e4.mono (Fz.bP (S4.fu e1))⟩
  have tL:¬W.B.side cenv.locals:=S4.iG (.inr g1)
  have z:=h _ _ _ s4 cenv.locals (l1.trans (l4.trans (Fz.bP (S4.fu e1)))) lo4 S5 Ww (by rw[Fz.az Zm]; exact S4.fu g1) oL0 tL ⟨oL,es,ep,by unfold Fz.del; rw[if_neg Zm]; exact g1,g2,g3⟩
  have nsL:s4.heap.Ns cenv.locals (nsFind es):=⟨oL,es,ep,S4.own _ _ g1,g2,g3,λ_=>rfl⟩
  cases use with
  |none=>exact⟨_,nsL,z⟩
  |some u=>exact dC z (λ_ xR y=>let⟨⟨m,hm⟩,y2⟩:=y; ⟨m,hm,y2⟩) λ_ _ e=>e
theorem eg.comp(O:C.Ok){elt:Expr}{g:dT}{gs:List dT}{scope:Scope}{pos:Pos}{xs out:List D}(hit:zZ W C ρ g.target g.iter xs)(hs:∀x,bH g.iter C.env x=pure x)
 (hk:scope.kind= .function) (j4:(scope.names.map (·.1)).Nodup) (hi:nr C.names ρ scope.names eW) (ha:firstAsync (g::gs)=false)
 (hr:∀cenv,(sZ C scope cenv).Ok->Runs W (sZ C scope cenv) eW g.target (.ListComp elt (g::gs) scope pos) xs out):eg W C ρ (.ListComp elt (g::gs) scope pos) (.list out):=λf o s S H Q E h=>by
 rw[eval_ListComp,ha]
 refine ym O S H hit hs hk j4 hi hr (use:=aD) λv f' o' s' L l1 lo S' hd h1 h2 h3 _=>?_
 dsimp only
 exact λh' hs=>h v f' _ l1 ((S'.drop lo).wX h1 h2 h3 hs) hd
noncomputable def Ab(W:Wd)(C:Cx)(elt:Expr)(ρ:Ro)(ds:List D):Prop:=∃d,ds=[d]/\eg W C ρ elt d
noncomputable def te(W:Wd)(C:Cx)(g:dT)(elt:Expr)(ρ:Ro)(ds:List D):Prop:=∃ys,zZ W C ρ g.target g.iter ys/\Clause W C ρ g.target g.ifs (Ab W C elt) ys ds
theorem pJ{e:Expr}{sc:Scope}{p:Pos}{gs:List dT}{n:Nat}{it acc:Value}{env:Env}(A:Around):A.under (.compLoop (.ListComp e gs sc p) n it acc env)=A:=nk rfl
theorem JH(O:C.Ok)(hh:C.A.handled=none){elt eO iter:Expr}{ifs:List Expr}{scope:Scope}{pos:Pos}{xs out:List D}(hc:Clause W C ρ eO ifs (Ab W C elt) xs out)(hn:out.length<=100000):Runs W C ρ eO (.ListComp elt [⟨eO,iter,ifs,0⟩] scope pos) xs out:=λDl it w f o s S H I Is hw hl hm hd R h=>by
 have loop:eC W.M C.A (.compLoop (.ListComp elt [⟨eO,iter,ifs,0⟩] scope pos) 0 it (.ref Dl) C.env) R s:=by
  refine pI O (t:=do let _ <-call (.builtin "list.append") [.ref Dl,<-eval elt C.env]) (p:=iter.pos) hh O.room rfl (pJ _) (λmf ds hp=>?_) ?_ hc S H I hw hl (by simpa using hn) hm hd R h
  ·obtain⟨d,rfl,x⟩:=hp; exact CH.elt x
  ·show(A8 (.ListComp elt [⟨eO,iter,ifs,0⟩] scope pos) 0 it (.ref Dl) C.env).onRaise (λx=>do iK x C.env; gi x)=_
   rw[compTurn_list]; rfl
 exact GQ loop (Is C.A f o s _ _ (.refl f) hw S loop)
theorem Ac{A:Around}{R:Result->Shared->Prop}{elt t1 i1 t2 i2:Expr}{f1 f2:List Expr}{scope:Scope}{pos:Pos}{it acc:Value}{env:Env}
 (h0:eC W.M A (.compLoop (.ListComp elt [⟨t1,i1,f1,0⟩,⟨t2,i2,f2,0⟩] scope pos) 1 it acc env) R s)
 (h:wpAny W.M A (pyIter it) (λWx s'=>eC W.M A (.compLoop (.ListComp elt [⟨t1,i1,f1,0⟩,⟨t2,i2,f2,0⟩] scope pos) 1 Wx acc env) R s') (notedBy W.M A env λx s'=>R (.error x) s') s):
 eC W.M A (.compStart (.ListComp elt [⟨t1,i1,f1,0⟩,⟨t2,i2,f2,0⟩] scope pos) 1 it acc env) R s:=by
 refine gk ?_
 show wpAny _ _ ((pn (.ListComp elt [⟨t1,i1,f1,0⟩,⟨t2,i2,f2,0⟩] scope pos) 1 it acc env).onRaise (λx=>do iK x env; dE theWindowsPlace)) _ _ s
 refine wpAny_notedAt ?_
 unfold pn
 show wpAny _ _ (ask >>= _) _ _ s
 refine aa (pf (wpAny_ite ?_))
 split
 ·first
   |exact aa (ao (ao (zO rfl h0)))
   |exact ao (zO rfl h0)
 ·first
   |exact aa (mY (aa (aZ (aa (dC h (λWx s' h'=>ao (zO rfl h')) λ_ _ x=>x)))))
   |(refine aa (mY ?_); show wpAny _ _ (dE i2.pos >>= _) _ _ s; exact aa (aZ (aa (dC h (λWx s' h'=>ao (zO rfl h')) λ_ _ x=>x))))
theorem mark_none(A:Around):A.mark none=A:=by
 obtain⟨h,d,f,g,u⟩:=A
 cases h<;>rfl
theorem NG(O:C.Ok)(hh:C.A.handled=none){elt t1 i1 t2 i2:Expr}{q1 q2:List Expr}{scope:Scope}{pos:Pos}{ds:List D}{Dl:Addr}(hs:∀x,bH i2 C.env x=pure x)(hp:te W C ⟨t2,i2,q2,0⟩ elt ρ ds):
 CH W C Dl ρ (do
  let x <-eval i2 C.env
  dE i2.pos
  let x <-bH i2 C.env x
  let _ <-runOwn (.compStart (.ListComp elt [⟨t1,i1,q1,0⟩,⟨t2,i2,q2,0⟩] scope pos) 1 (<-holding [x] (pyIter x)) (.ref Dl) C.env) C.env) ds:=λf o s acc S H hl hn hm Q E h=>by
 obtain⟨ys,hi,hc⟩:=hp
 refine aa (dC (hi f o s S H _ _ λit w f1 o1 s1 l1 S1 lo hw tc I Is=>?_) (λx s1 h1=>aa (aZ (aa (Jo (hs x) (aa (aL h1)))))) λ_ _ e=>e)
 have NB:LstIs f1 o1 Dl acc:=hl.mono l1 lo
 have hd:∀a,w a≠none->¬Uses C ρ a/\a≠Dl:=λa ha=>by
  refine⟨λhu=>?_,λe=>?_⟩
  ·obtain⟨y,hy⟩:=H.there hu; exact iB (tc a ha) hy
  ·obtain⟨ob,vs,n,e1,_⟩:=hl; subst e; exact iB (tc a ha) e1
 refine aa (wpAny_runOwn ?_)
 rw[mark_none]
 have loop:eC W.M C.A (.compLoop (.ListComp elt [⟨t1,i1,q1,0⟩,⟨t2,i2,q2,0⟩] scope pos) 1 it (.ref Dl) C.env) (λr s'=>match r with| .ok f=>wpAny W.M C.A (pure ()) Q E s'| .error e=>cameBackBy W.M C.A C.env E e s') s1:=by
  refine pI O (t:=do let _ <-call (.builtin "list.append") [.ref Dl,<-eval elt C.env]) (p:=i2.pos) hh O.room rfl (pJ _) (λmf ds hp=>?_) ?_ hc S1 (H.mono l1 lo) I hw NB hn hm hd _ λf' o' s' l2 S2 H2 MI keep=>?_
  ·obtain⟨d,rfl,x⟩:=hp; exact CH.elt x
  ·show(A8 (.ListComp elt [⟨t1,i1,q1,0⟩,⟨t2,i2,q2,0⟩] scope pos) 1 it (.ref Dl) C.env).onRaise (λx=>do iK x C.env; gi x)=_
   rw[yl]
  ·refine ao (h f' o' s' (l1.trans l2) S2 H2 MI λa y e h1 h2=>keep a y (lo _ _ e) h1 h2 ?_)
   refine none_of λz q=>?_
   have:=tc a (by exact sn q); rw[e] at this; exact nomatch this
 exact Ac loop (Is C.A f1 o1 s1 _ _ (.refl f1) hw S1 loop)
theorem JI(O:C.Ok)(hh:C.A.handled=none){elt t1 i1 t2 i2:Expr}{f1 f2:List Expr}{scope:Scope}{pos:Pos}{xs out:List D}(hs:∀x,bH i2 C.env x=pure x)
 (hc:Clause W C ρ t1 f1 (te W C ⟨t2,i2,f2,0⟩ elt) xs out) (hn:out.length<=100000):Runs W C ρ t1 (.ListComp elt [⟨t1,i1,f1,0⟩,⟨t2,i2,f2,0⟩] scope pos) xs out:=λDl it w f o s S H I Is hw hl hm hd R h=>by
 have loop:eC W.M C.A (.compLoop (.ListComp elt [⟨t1,i1,f1,0⟩,⟨t2,i2,f2,0⟩] scope pos) 0 it (.ref Dl) C.env) R s:=by
  refine pI O (t:=do
   let x <-eval i2 C.env
   dE i2.pos
   let x <-bH i2 C.env x
   let _ <-runOwn (.compStart (.ListComp elt [⟨t1,i1,f1,0⟩,⟨t2,i2,f2,0⟩] scope pos) 1 (<-holding [x] (pyIter x)) (.ref Dl) C.env) C.env) (p:=i1.pos) hh O.room rfl (pJ _) (λmf ds hp=>NG O hh hs hp) ?_ hc S H I hw hl (by simpa using hn) hm hd R h
  show(A8 (.ListComp elt [⟨t1,i1,f1,0⟩,⟨t2,i2,f2,0⟩] scope pos) 0 it (.ref Dl) C.env).onRaise (λx=>do iK x C.env; gi x)=_
  rw[yk]
  simp only[bind_assoc,pure_bind]
 exact GQ loop (Is C.A f o s _ _ (.refl f) hw S loop)
end
inductive Out where
 |next (ρ:Ro)
 |brk (ρ:Ro)
 |cont (ρ:Ro)
 |ret (d:D)
structure Ad(W:Wd)(C:Cx)(ρ:Ro)(f o:Fz)(d:D)(v:Value)(f' o':Fz)(s':Shared):Prop where
 le:f.le f'
 st:St W.B f' o' s'
 step:qg C ρ o o'
 den:Den f' d v
noncomputable def pv(W:Wd)(C:Cx)(ρ:Ro)(f o:Fz)(fl:Flow)(s':Shared):Out->Prop
 | .next a9=>fl= .next/\∃f' o',Left W C ρ a9 f o f' o' s'
 | .brk a9=>fl= .brk/\∃f' o',Left W C ρ a9 f o f' o' s'
 | .cont a9=>fl= .cont/\∃f' o',Left W C ρ a9 f o f' o' s'
 | .ret d=>∃v f' o',fl= .ret v/\Ad W C ρ f o d v f' o' s'
noncomputable def fP(W:Wd)(C:Cx)(ρ:Ro)(ss:List Stmt)(Q:Out->Prop):Prop:=∀f o s,St W.B f o s->bc C ρ f o->∀(P:Flow->Shared->Prop) (E:Value->Shared->Prop),
 (∀out fl s',Q out->pv W C ρ f o fl s' out->P fl s')->wpAny W.M C.A (execs ss C.env) P E s
section
variable {W:Wd}{C:Cx}{ρ a9 bD:Ro}{f o wV dr:Fz}{s cU:Shared}{Q:Out->Prop}
theorem Ad.after{d:D}{v:Value}{f' o':Fz}{s':Shared}(x:Left W C ρ bD f o wV dr cU)(y:Ad W C bD wV dr d v f' o' s'):Ad W C ρ f o d v f' o' s':=
 ⟨x.le.trans y.le,y.st,λa z e hm=>y.step a z (x.step a z e hm) λh=>by
  (rcases x.ri a h with h|h
   ·exact hm h
   ·exact iB h e),y.den⟩
theorem pv.after{fl:Flow}{s':Shared}(x:Left W C ρ bD f o wV dr cU){u:Out}(h:pv W C bD wV dr fl s' u):pv W C ρ f o fl s' u:=by
 cases u with
 |ret d=>obtain⟨v,f',o',e,y⟩:=h; exact⟨v,f',o',e,Ad.after x y⟩
 |_=>obtain⟨e,f',o',y⟩:=h; exact⟨e,f',o',x.trans y⟩
theorem fP.after{ss:List Stmt}(x:Left W C ρ bD f o wV dr cU)(h:fP W C bD ss Q){P:Flow->Shared->Prop}{E:Value->Shared->Prop}(hP:∀out fl s',Q out->pv W C ρ f o fl s' out->P fl s'):wpAny W.M C.A (execs ss C.env) P E cU:=
 h wV dr cU x.st x.env P E λout fl s' hq ho=>hP out fl s' hq (pv.after x ho)
theorem fP.nil(h:Q (.next ρ)):fP W C ρ [] Q:=λf o s S H P E hP=>jm (hP _ _ _ h ⟨rfl,f,o, .refl S H⟩)
theorem fP.mono{ss:List Stmt}{Q':Out->Prop}(h:fP W C ρ ss Q)(hq:∀out,Q out->Q' out):fP W C ρ ss Q':=λf o s S H P E hP=>h f o s S H P E λout fl s' q=>hP out fl s' (hq _ q)
theorem fP.ghost{ss:List Stmt}(h:fP W C a9 ss Q)(g:∀f o s,St W.B f o s->bc C ρ f o->∃f' o',Left W C ρ a9 f o f' o' s):fP W C ρ ss Q:=λf o s S H P E hP=>
 let⟨_,_,L⟩:=g f o s S H; fP.after L h hP
noncomputable def Ae(W:Wd)(C:Cx)(rest:List Stmt)(Q:Out->Prop):Out->Prop
 | .next a9=>fP W C a9 rest Q
 |out=>Q out
noncomputable def Wy(W:Wd)(C:Cx)(ρ:Ro)(st:Stmt)(Q:Out->Prop):Prop:=∀f o s,St W.B f o s->bc C ρ f o->∀(P:Flow->Shared->Prop) (E:Value->Shared->Prop),
 (∀out fl s',Q out->pv W C ρ f o fl s' out->P fl s')->wpAny W.M C.A (exec st C.env) P E s
theorem fP.cons{st:Stmt}{rest:List Stmt}(h:Wy W C ρ st (Ae W C rest Q)):fP W C ρ (st::rest) Q:=λf o s S H P E hP=>
 gK (h f o s S H _ _ λout fl s' hq ho=>by
  cases out with
  |next a9=>obtain⟨rfl,f',o',L⟩:=ho; exact fP.after L hq hP
  |brk a9=>obtain⟨rfl,r⟩:=ho; exact hP _ _ _ hq ⟨rfl,r⟩
  |cont a9=>obtain⟨rfl,r⟩:=ho; exact hP _ _ _ hq ⟨rfl,r⟩
  |ret d=>obtain⟨v,f',o',rfl,r⟩:=ho; exact hP _ _ _ hq ⟨v,f',o',rfl,r⟩)
theorem fP.assign{t e:Expr}{pos:Pos}{rest:List Stmt}{d:D}(he:eg W C ρ e d)(ht:jO W C ρ t d a9)(h:fP W C a9 rest Q)(hs:fI [t] e pos.line C.env=pure false)(hw:cS [t] e C.env=pure none)
 (ha:(bk [t] C.env).map (·.2)=[assign t C.env]):fP W C ρ (.Assign [t] e pos::rest) Q:=
 .cons λf o s S H P E hP=>i0 (he f o s S H _ _ λv f1 s1 l1 S1 d1=>by
  rw[ha]
  have L1:Left W C ρ ρ f o f1 o s1:=⟨l1,S1,H.mono l1 (.refl o), .refl o,λ_ h=> .inl h,λ_ h=> .inl h⟩
  exact ht.2 f1 o s1 v S1 (H.mono l1 (.refl o)) d1 _ _ λf2 o2 s2 L2=>hP (.next a9) _ _ h ⟨rfl,f2,o2,L1.trans L2⟩) hs hw
theorem fP.ret{e:Expr}{pos:Pos}{rest:List Stmt}{d:D}(he:eg W C ρ e d)(h:Q (.ret d)):fP W C ρ (.Return (some e) pos::rest) Q:=
 .cons λf o s S H P E hP=>nO (he f o s S H _ _ λv f1 s1 l1 S1 d1=>hP (.ret d) _ _ h ⟨v,f1,o,rfl,l1,S1, .refl o,d1⟩)
theorem fP.brk{pos:Pos}{rest:List Stmt}(h:Q (.brk ρ)):fP W C ρ (.Break pos::rest) Q:=
 .cons λf o s S H P E hP=>wpAny_Break (hP (.brk ρ) _ _ h ⟨rfl,f,o, .refl S H⟩)
theorem fP.expr{e:Expr}{pos:Pos}{rest:List Stmt}{d:D}(he:eg W C ρ e d)(h:fP W C ρ rest Q)(hi:interactive C.env=false)(hs:gj e none pos.line C.env=pure false):fP W C ρ (.Expr e pos::rest) Q:=
 .cons λf o s S H P E hP=>rK (he f o s S H _ _ λv f1 s1 l1 S1 d1=>hP (.next ρ) _ _ h ⟨rfl,f1,o,l1,S1,H.mono l1 (.refl o), .refl o,λ_ h=> .inl h,λ_ h=> .inl h⟩) hi hs
theorem fP.ite{t:Expr}{body orelse rest:List Stmt}{pos:Pos}{b:Bool}(ht:vH W C ρ t b)(hx:b=true->fP W C ρ body (Ae W C rest Q))(hy:b=false->fP W C ρ orelse (Ae W C rest Q)):fP W C ρ (.If t body orelse pos::rest) Q:=
 .cons λf o s S H P E hP=>wpAny_If (ht f o s S H _ _ λf1 s1 l1 S1=>by
  have L1:Left W C ρ ρ f o f1 o s1:=⟨l1,S1,H.mono l1 (.refl o), .refl o,λ_ h=> .inl h,λ_ h=> .inl h⟩
  cases b with
  |true=>exact fP.after L1 (hx rfl) hP
  |false=>exact fP.after L1 (hy rfl) hP)
noncomputable def u0(W:Wd)(C:Cx)(eO:Expr)(body:List Stmt)(K:Out->Prop):List D->Ro->Prop
 |[],ρ=>K (.next ρ)
 |x::xs,ρ=>∃mf,jO W C ρ eO x mf/\fP W C mf body fun
  | .next a9=>u0 W C eO body K xs a9
  | .cont a9=>u0 W C eO body K xs a9
  | .brk a9=>K (.next a9)
  | .ret d=>K (.ret d)
theorem u0.of{eO:Expr}{body:List Stmt}{K:Out->Prop}(I:List D->Ro->Prop)(h0:∀ρ,I [] ρ->K (.next ρ))(h1:∀x xs ρ,I (x::xs) ρ->∃mf,jO W C ρ eO x mf/\fP W C mf body fun
 | .next a9=>I xs a9
 | .cont a9=>I xs a9
 | .brk a9=>K (.next a9)
 | .ret d=>K (.ret d)):∀xs ρ,I xs ρ->u0 W C eO body K xs ρ
 |[],ρ,h=>h0 ρ h
 |x::xs,ρ,h=>let⟨mf,a,b⟩:=h1 x xs ρ h; ⟨mf,a,b.mono λout q=>by
  cases out with
  |next a9=>exact u0.of I h0 h1 xs a9 q
  |cont a9=>exact u0.of I h0 h1 xs a9 q
  |brk a9=>exact q
  |ret d=>exact q⟩
theorem rj{eO:Expr}{it:Value}{b e:List Stmt}{env:Env}(A:Around):A.under (.forLoop eO it b e env)=A:=nk rfl
theorem HI(O:C.Ok){it:Value}{eO:Expr}{body:List Stmt}{K:Out->Prop}(hh:C.A.handled=none):∀(xs:List D) {ρ:Ro} {w f o:Fz} {s:Shared},u0 W C eO body K xs ρ->St W.B f o s->bc C ρ f o->oZ W eO xs w f it->w.le o->
 (∀a,w a≠none->¬Uses C ρ a)->∀(R:Result->Shared->Prop),
 (∀fl s' a9 f' o',K (.next a9)->fl= .next->f.le f'->St W.B f' o' s'->bc C a9 f' o'->(∀a y,o a=some y->¬pq C ρ a->w a=none->o' a=some y)->(∀a,pq C a9 a->pq C ρ a\/o a=none\/w a≠none)->(∀a,Uses C a9 a->Uses C ρ a\/o a=none\/w a≠none)->R (.ok fl) s')->
 (∀fl s' d v f' o',K (.ret d)->fl= .ret v->f.le f'->St W.B f' o' s'->(∀a y,o a=some y->¬pq C ρ a->w a=none->o' a=some y)->Den f' d v->R (.ok fl) s')->eC W.M C.A (.forLoop eO it body [] C.env) R s:=by
 intro xs
 induction xs with
 |nil=>
  intro ρ w f o s hL S H I hw hd R h1 h2
  have tc:∀a,Uses C ρ a->w a=none:=λa hu=>by
   exact none_of λy q=>absurd hu (hd a (by exact sn q))
  refine gk ?_
  show wpAny _ _ ((zB eO it body [] C.env).onRaise (λx=>do iK x C.env; gi x)) _ _ s
  rw[rj]
  refine nM ?_
  simp only[zB]
  refine aa (aZ (aa (kY (I C.A f o s _ _ hh O.room (.refl f) hw S λo' s' S' off=>?_))))
  refine ao ⟨rfl,codeAny_block (jm ?_)⟩
  exact h1 _ _ ρ f o' hL rfl (.refl f) S' (H.off λa y e hu=>off a y e (tc a hu)) (λa y e _ td=>off a y e td) (λa h=> .inl h) (λa h=> .inl h)
 |cons x xs ih=>
  intro ρ w f o s hL S H I hw hd R h1 h2
  obtain⟨mf,ha,hb⟩:=hL
  have tc:∀a,Uses C ρ a->w a=none:=λa hu=>by
   exact none_of λy q=>absurd hu (hd a (by exact sn q))
  have NA:∀a,pq C ρ a->Uses C ρ a:=λa hm=>hm.uses O
  refine gk ?_
  show wpAny _ _ ((zB eO it body [] C.env).onRaise (λx=>do iK x C.env; gi x)) _ _ s
  rw[rj]
  refine nM ?_
  simp only[zB]
  refine aa (aZ (aa (kY (dC (I C.A f o s (λv s1=>wpAny W.M C.A (do
   assign eO C.env v
   match <-execs body C.env with
   | .next| .cont=>again (.forLoop eO it body [] C.env)
   | .brk=>pure (.done .next)
   | .ret v=>pure (.done (.ret v)):Sem Fin) (λfin s'=>match fin with| .done f=>R (.ok f) s'| .again c'=>c'.quiet=true/\eC W.M C.A c' R s') (notedBy W.M C.A C.env λe s'=>R (.error e) s') s1)
   (λ_ _=>False) hh O.room (.refl f) hw S λv f1 o1 s1 w1 l1 S1 off HG Aa hv I1=>?_) (λr s1 hr=>?_) λ_ _ e=>e.elim))))
  ·have H1:bc C ρ f1 o1:=(H.mono l1 (.refl o)).off λa y e hu=>off a y e (tc a hu)
   have MH:∀a,w1 a≠none->¬Uses C ρ a:=λa ha hu=>by
    rcases Aa a ha with q|q
    ·exact hd a q hu
    ·obtain⟨y,hy⟩:=H.there hu; exact iB q hy
   refine aa (ha.2 f1 o1 s1 v S1 H1 hv _ _ λf2 o2 s2 L2=>aa (hb f2 o2 s2 L2.st L2.env _ _ λu fl s3 hq ho=>?_))
   --what stays,up to here
   have HJ:∀{a9:Ro} {f3 o3:Fz},Left W C ρ a9 f1 o1 f3 o3 s3->∀a y,o a=some y->¬pq C ρ a->w a=none->(o3 a=some y/\¬pq C a9 a/\w1 a=none):=λth a y e hm td=>by
    have e1:=off a y e td
    refine⟨th.step a y e1 hm,λq=>?_,?_⟩
    ·rcases th.ri a q with q|q
     ·exact hm q
     ·exact iB q e1
    ·refine none_of λz q=>?_
     rcases Aa a (by exact sn q) with q|q
     ·exact absurd td q
     ·exact iB q e
   --an address Wz is new behind K0 step is new ahead of it
   have Br:∀a,o1 a=none->o a=none\/w a≠none:=λa q=>by
    cases p:o a with
    |none=>exact .inl rfl
    |some y=>exact .inr λtd=>by rw[off a y p td] at q; exact nomatch q
   have Ef:∀{a9:Ro} {f3 o3:Fz},Left W C ρ a9 f1 o1 f3 o3 s3->∀a,o3 a=none->pq C ρ a\/o a=none\/w a≠none:=λL a q=>by
    by_cases hm:pq C ρ a
    ·exact .inl hm
    ·cases p:o a with
     |none=>exact .inr (.inl rfl)
     |some y=>exact .inr (.inr λtd=>by rw[(HJ L a y p hm td).1] at q; exact nomatch q)
   have again:∀a9,u0 W C eO body K xs a9->(∃f' o',Left W C mf a9 f2 o2 f' o' s3)->eC W.M C.A (.forLoop eO it body [] C.env) R s3:=by
    rintro a9 WA ⟨f3,o3,L3⟩
    have th:=L2.trans L3
    have hd3:∀a,w1 a≠none->¬Uses C a9 a:=λa ha hu=>by
     rcases th.uses a hu with q|q
     ·exact MH a ha q
     ·obtain⟨z,hz⟩:∃z,w1 a=some z:=cX.mp ha
      rw[HG _ _ hz] at q; exact nomatch q
    refine ih WA th.st th.env (I1.mono th.le) (λa y e=>th.step a y (HG _ _ e) λq=>MH a (by exact sn e) (NA a q)) hd3 R (λfl s' WB f' o' hk HL l' S' H' k' m' u'=>?_) λfl s' d v f' o' hk HL l' S' k' d'=>?_
    ·refine h1 fl s' WB f' o' hk HL (l1.trans (th.le.trans l')) S' H' (λa y e hm td=>let⟨x1,x2,x3⟩:=HJ th a y e hm td; k' a y x1 x2 x3) (λa q=>?_) λa q=>?_
     ·rcases m' a q with q|q|q
      ·exact(th.ri a q).imp id (Br a)
      ·exact Ef th a q
      ·exact .inr ((Aa a q).symm)
     ·rcases u' a q with q|q|q
      ·exact(th.uses a q).imp id (Br a)
      ·exact(Ef th a q).imp (NA a) id
      ·exact .inr ((Aa a q).symm)
    ·exact h2 fl s' d v f' o' hk HL (l1.trans (th.le.trans l')) S' (λa y e hm td=>let⟨x1,x2,x3⟩:=HJ th a y e hm td; k' a y x1 x2 x3) d'
   cases u with
   |next a9=>obtain⟨rfl,r⟩:=ho; exact ao ⟨rfl,again a9 hq r⟩
   |cont a9=>obtain⟨rfl,r⟩:=ho; exact ao ⟨rfl,again a9 hq r⟩
   |brk a9=>
    obtain⟨rfl,f3,o3,L3⟩:=ho
    have th:=L2.trans L3
    refine ao (h1 _ _ a9 f3 o3 hq rfl (l1.trans th.le) th.st th.env (λa y e hm td=>(HJ th a y e hm td).1) (λa q=>(th.ri a q).imp id (Br a)) λa q=>(th.uses a q).imp id (Br a))
   |ret d=>
    obtain⟨v',f3,o3,rfl,G⟩:=ho
    have G1:=Ad.after L2 G
    refine ao (h2 _ _ d v' f3 o3 hq rfl (l1.trans G1.le) G1.st (λa y e hm td=>G1.step a y (off a y e td) hm) G1.den)
  ·obtain⟨v,rfl,hv⟩:=hr
   exact aa (dC hv (λ_ _ q=>q) λ_ _ e=>e.elim)
theorem fP.WC{eO e:Expr}{body rest:List Stmt}{pos:Pos}{xs:List D}(O:C.Ok)(hh:C.A.handled=none)(he:zZ W C ρ eO e xs)(hs:∀x,bH e C.env x=pure x)
 (h:u0 W C eO body (Ae W C rest Q) xs ρ):fP W C ρ (.For eO e body [] pos::rest) Q:=
 .cons λf o s S H P E hP=>wpAny_For (dC (he f o s S H _ E λit w f1 o1 s1 l1 S1 lo hw tc I _=>by
  have dis:∀a,w a≠none->¬Uses C ρ a:=λa ha hu=>by
   obtain⟨y,hy⟩:=H.there hu; exact iB (tc a ha) hy
  have wn:∀a y,o a=some y->w a=none:=λa y e=>by
   refine none_of λz q=>?_
   have:=tc a (by exact sn q); rw[e] at this; exact nomatch this
  have nw:∀a,o1 a=none\/w a≠none->o a=none:=λa q=>by
   rcases q with q|q
   ·refine none_of λy p=>?_
    rw[lo _ _ p] at q; exact nomatch q
   ·exact tc a q
  refine HI O hh xs h S1 (H.mono l1 lo) I hw dis _ (λfl s' a9 f' o' hk HL l' S' H' k' m' u'=>?_) λfl s' d v f' o' hk HL l' S' k' d'=>?_
  ·subst HL
   exact hP (.next a9) _ _ hk ⟨rfl,f',o',l1.trans l',S',H',λa y e hm=>k' a y (lo _ _ e) hm (wn a y e),λa q=>(m' a q).imp id (nw a),λa q=>(u' a q).imp id (nw a)⟩
  ·exact hP (.ret d) _ _ hk ⟨v,f',o',HL,l1.trans l',S',λa y e hm=>k' a y (lo _ _ e) hm (wn a y e),d'⟩) (λ_ _ x=>x) λ_ _ x=>x) hs
noncomputable def CI(W:Wd)(C:Cx)(test:Expr)(body:List Stmt)(K:Out->Prop):Nat->Ro->Prop
 | 0,_=>False
 |n+1,ρ=>∃b,vH W C ρ test b/\(b=true->fP W C ρ body fun
  | .next a9=>CI W C test body K n a9
  | .cont a9=>CI W C test body K n a9
  | .brk a9=>K (.next a9)
  | .ret d=>K (.ret d))/\(b=false->K (.next ρ))
theorem yn{t:Expr}{b e:List Stmt}{env:Env}(A:Around):A.under (.whileLoop t b e env)=A:=nk rfl
theorem CJ{test:Expr}{body:List Stmt}{K:Out->Prop}:∀(n:Nat) {ρ:Ro} {f o:Fz} {s:Shared},CI W C test body K n ρ->St W.B f o s->bc C ρ f o->∀(R:Result->Shared->Prop),
 (∀u fl s',K u->pv W C ρ f o fl s' u->R (.ok fl) s')->eC W.M C.A (.whileLoop test body [] C.env) R s:=by
 intro n
 induction n with
 |zero=>intro ρ f o s h; exact h.elim
 |succ n ih=>
  intro ρ f o s hL S H R h
  obtain⟨b,hb,ht,hf⟩:=hL
  refine gk ?_
  show wpAny _ _ ((whileTurn test body [] C.env).onRaise (λx=>do iK x C.env; gi x)) _ _ s
  rw[yn]
  refine nM ?_
  simp only[whileTurn]
  refine aa (hb f o s S H _ _ λf1 s1 l1 S1=>?_)
  have L1:Left W C ρ ρ f o f1 o s1:=⟨l1,S1,H.mono l1 (.refl o), .refl o,λ_ h=> .inl h,λ_ h=> .inl h⟩
  cases b with
  |false=>
   simp only[cb,if_false]
   exact aa (jm (ao (h _ _ _ (hf rfl) ⟨rfl,f1,o,L1⟩)))
  |true=>
   simp only[if_true]
   refine aa (ht rfl f1 o s1 S1 L1.env _ _ λu fl s3 hq ho=>?_)
   have again:∀a9,CI W C test body K n a9->(∃f' o',Left W C ρ a9 f1 o f' o' s3)->eC W.M C.A (.whileLoop test body [] C.env) R s3:=by
    rintro a9 WA ⟨f3,o3,L3⟩
    exact ih WA L3.st L3.env R λu fl s' hk hx=>h u fl s' hk (pv.after L1 (pv.after L3 hx))
   cases u with
   |next a9=>obtain⟨rfl,r⟩:=ho; exact ao ⟨rfl,again a9 hq r⟩
   |cont a9=>obtain⟨rfl,r⟩:=ho; exact ao ⟨rfl,again a9 hq r⟩
   |brk a9=>obtain⟨rfl,f3,o3,L3⟩:=ho; exact ao (h _ _ _ hq ⟨rfl,f3,o3,L1.trans L3⟩)
   |ret d=>obtain⟨v,f3,o3,rfl,G⟩:=ho; exact ao (h _ _ _ hq ⟨v,f3,o3,rfl,Ad.after L1 G⟩)
theorem fP.whl{test:Expr}{body rest:List Stmt}{pos:Pos}(n:Nat)(h:CI W C test body (Ae W C rest Q) n ρ):fP W C ρ (.While test body [] pos::rest) Q:=
 .cons λf o s S H P E hP=>wpAny_While (by
  exact CJ n h S H _ λu fl s' hk hx=>hP u fl s' hk hx)
end
structure Lv(n:Nat)(A:Around):Prop where
 depth:A.depth+4*n<=600
 units:A.units+10*n<=6000
 hand:A.handled=none
theorem Lv.rm{n:Nat}{A:Around}(h:Lv n A):Rm A:=⟨by have:=h.depth; exact aX 0x2ae2412441008455c4801 tt this,by have:=h.units; exact aX 0x6f78482a88201086f784801 tt this⟩
theorem Lv.le{n m:Nat}{A:Around}(h:Lv n A)(hm:m<=n):Lv m A:=⟨by have:=h.depth; exact cG 0x2ae241244500842020455c480488a01 tt hm this,by have:=h.units; exact cG 0x6f78482a88a010840a086f78480a88a01 tt hm this,h.hand⟩
theorem Lv.deeper{n:Nat}{A:Around}(h:Lv (n+1) A)(env:Env):Lv n (A.deeper env):=⟨by have:=h.depth; show A.depth+1+4*n<=600; exact aX 0x2ae2540c09104021157120923404201 tt this,by have:=h.units; show A.units+3+10*n<=6000; exact aX 0x6f784a8182a2080421bde120aa3604201 tt this,h.hand⟩
inductive kj(bs:List (Str×D)):List (Str×aC)->Ro->Prop
 |nil:kj bs [] []
 |par {n:Str} {k:aC} {d:D} {ns:List (Str×aC)} {ρ:Ro}:(n,d)∈bs->(k== .local||k== .cell)=true->kj bs ns ρ->kj bs ((n,k)::ns) ((n, .val d)::ρ)
 |loc {n:Str} {k:aC} {ns:List (Str×aC)} {ρ:Ro}:(k== .local||k== .cell)=true->kj bs ns ρ->kj bs ((n,k)::ns) ((n, .unset)::ρ)
 |MG {n:Str} {ns:List (Str×aC)} {ρ:Ro}:kj bs ns ρ->kj bs ((n, .globalImplicit)::ns) ρ
theorem kj.mem{bs:List (Str×D)}{ns:List (Str×aC)}{ρ:Ro}(h:kj bs ns ρ):∀{n:Str} {b:Bd},(n,b)∈ρ->(∃k,(n,k)∈ns/\(k= .local\/k= .cell))/\(b= .unset\/∃d,b= .val d/\(n,d)∈bs):=by
 induction h with
 |nil=>intro n b hm; exact nomatch hm
 |par h1 h2 _ ih=>
  intro n b hm
  rcases au.mp hm with e|hm
  ·cases e; exact⟨⟨_, .head _,by simpa using h2⟩, .inr ⟨_,rfl,h1⟩⟩
  ·obtain⟨⟨k,h,h'⟩,r⟩:=ih hm; exact⟨⟨k, .tail _ h,h'⟩,r⟩
 |loc h2 _ ih=>
  intro n b hm
  rcases au.mp hm with e|hm
  ·cases e; exact⟨⟨_, .head _,by simpa using h2⟩, .inl rfl⟩
  ·obtain⟨⟨k,h,h'⟩,r⟩:=ih hm; exact⟨⟨k, .tail _ h,h'⟩,r⟩
 |MG _ ih=>
  intro n b hm
  obtain⟨⟨k,h,h'⟩,r⟩:=ih hm; exact⟨⟨k, .tail _ h,h'⟩,r⟩
theorem kj.keys{bs:List (Str×D)}{ns:List (Str×aC)}{ρ:Ro}(h:kj bs ns ρ):(ρ.map (·.1)).Sublist (ns.map (·.1)):=by
 induction h with
 |nil=>exact .slnil
 |par _ _ _ ih=>exact ih.cons_cons _
 |loc _ _ ih=>exact ih.cons_cons _
 |MG _ ih=>exact ih.cons _
theorem ti{kd:Str->Option aC}{n:Str}:∀{bs:List (Str×Value)} {m:Str->Option Value},n∉bs.map (·.1)->bindL kd bs m n=m n
 |[],_,_=>rfl
 |(x,v)::r,m,h=>by
  rw[aO,au,not_or] at h
  unfold bindL
  rw[ti h.2]
  split
  ·exact if_neg h.1
  ·rfl
theorem vL{kd:Str->Option aC}{n:Str}{v:Value}(hk:kd n=some .local):∀{bs:List (Str×Value)} {m:Str->Option Value},(bs.map (·.1)).Nodup->(n,v)∈bs->bindL kd bs m n=some v
 |(x,u)::r,m,hn,h=>by
  rw[aO,fS] at hn
  unfold bindL
  rcases au.mp h with e|h
  ·cases e; rw[ti hn.1,if_pos hk]; exact if_pos rfl
  ·exact vL hk hn.2 h
theorem tj{kd:Str->Option aC}{n:Str}:∀{bs:List (Str×Value)} {m:Str->Option Value},n∉bs.map (·.1)->bindC kd bs m n=m n
 |[],_,_=>rfl
 |(x,v)::r,m,h=>by
  rw[aO,au,not_or] at h
  unfold bindC
  rw[tj h.2]
  split
  ·rfl
  ·exact if_neg h.1
theorem vM{kd:Str->Option aC}{n:Str}{v:Value}(hk:kd n=some .cell):∀{bs:List (Str×Value)} {m:Str->Option Value},(bs.map (·.1)).Nodup->(n,v)∈bs->bindC kd bs m n=some v
 |(x,u)::r,m,hn,h=>by
  rw[aO,fS] at hn
  unfold bindC
  rcases au.mp h with e|h
  ·cases e; rw[tj hn.1,if_neg (by rw[hk]; decide)]; exact if_pos rfl
  ·exact vM hk hn.2 h
theorem Bs{f:Fz}:∀{ps:List Str} {ds:List D} {vs:List Value},bQ f ds vs->∀{n:Str} {d:D},(n,d)∈ps.zip ds->∃v,(n,v)∈ps.zip vs/\Den f d v
 |[],_,_,_,_,_,h=>by simp at h
 |_::_,[],_,_,_,_,h=>by simp at h
 |p::ps,e::ds,_,⟨v,r,q,x,y⟩,n,d,h=>by
  subst q
  rw[List.zip_cons_cons] at h ⊢
  rcases au.mp h with q|h
  ·cases q; exact⟨v, .head _,x⟩
  ·obtain⟨u,a,b⟩:=Bs y h; exact⟨u, .tail _ a,b⟩
theorem qj{α:Type}:∀(ps:List Str) (vs:List α),((ps.zip vs).map (·.1)).Sublist ps
 |[],_=> .slnil
 |_::_,[]=>List.nil_sublist _
 |p::ps,v::vs=>(qj ps vs).cons_cons p
section
variable {W:Wd}{C:Cx}{ρ a9:Ro}{f o:Fz}{s:Shared}
noncomputable def Ends(d:D):Out->Prop
 | .ret d'=>d'=d
 | .next _=>d= .none
 |_=>False
theorem enter(S:St W.B f o s){fd:Bk}{a:Addr}{A:Around}{ds:List D}{vs:List Value}{ps:List Str}(hd:bQ f ds vs){ρ:Ro}(hp:kj (ps.zip ds) fd.scope.names ρ)(m9:ps.Nodup)
 (j4:(fd.scope.names.map (·.1)).Nodup) (hk:fd.scope.kind= .function) (hg:fd.globals=bV) (hb:fd.builtins=cP) (DK:Rm (A.deeper (ke fd s.heap.objs.size a))) {cU:Shared}
 (x:InCallC s (ke fd s.heap.objs.size a).locals (bindL (ke fd s.heap.objs.size a).kindOf (ps.zip vs) λ_=>none) (ke fd s.heap.objs.size a).cells (bindC (ke fd s.heap.objs.size a).kindOf (ps.zip vs) λ_=>none) cU):
 ∃dr,o.le dr/\St W.B f dr cU/\bc ⟨ke fd s.heap.objs.size a,A.deeper (ke fd s.heap.objs.size a),fd.scope.names⟩ ρ f dr/\∀b,pq ⟨ke fd s.heap.objs.size a,A.deeper (ke fd s.heap.objs.size a),fd.scope.names⟩ ρ b->o b=none:=by
 classical
 obtain⟨⟨⟨gd,tk,rfl⟩,ns,keep,fresh⟩,cell,apart,above⟩:=x
 generalize hE:ke fd s.heap.objs.size a=env at*
 have rk:env.locals=s.heap.objs.size:=by subst hE; rfl
 have K4:env.cells=eD (s.heap.objs.size+1) fd.scope.names []:=by subst hE; rfl
 have Eg:env.scope=fd.scope:=by subst hE; rfl
 have kd:∀n k,(n,k)∈fd.scope.names->env.kindOf n=some k:=λn k h=>by unfold Env.kindOf; rw[Eg]; exact cJ j4 h
 have WD:∀n c,(n,c)∈env.cells->s.heap.objs.size<c:=λn c h=>rk▸above n c h
 let dr:Fz:=λb=>if b=env.locals\/∃n,(n,b)∈env.cells then gd.get? b else o b
 have big:∀b,(b=env.locals\/∃n,(n,b)∈env.cells)->@LE.le Nat _ s.heap.objs.size b:=λb h=>by
  rcases h with h|⟨n,h⟩
  ·rw[h,rk]; exact bL _
  ·exact Bc (WD n b h)
 have small:∀b,b<s.heap.objs.size->dr b=o b:=λb h=>if_neg λq=>absurd h (GU.mpr (big b q))
 have o0:∀b,@LE.le Nat _ s.heap.objs.size b->o b=none:=λb h=>by
  exact none_of λy q=>absurd (S.lt (.inr q)) (GU.mpr h)
 have lo:o.le dr:=λb y e=>by rw[small b (S.lt (.inr e))]; exact e
 obtain⟨wY,Qe,WE,gL,dL,kL,mL⟩:=ns
 have K5:dr env.locals=some wY:=(if_pos (.inl rfl)).trans gL
 have jf:St W.B f dr {s with heap:=gd,toks:=tk}:=by
  refine⟨λb y e=>keep _ _ (S.sub b y e),λb y e=>?_,λb y e=>?_,S.base,?_,λc hc=>⟨(S.fo c hc).1,?_⟩,S.os,S.gens⟩
  ·by_cases q:b=env.locals\/∃n,(n,b)∈env.cells
   ·rw[show dr b=_ from if_pos q] at e; exact e
   ·rw[show dr b=_ from if_neg q] at e; exact keep _ _ (S.own b y e)
  ·rw[small b (S.lt (.inl e))]; exact S.apart b y e
  ·exact λc hc=>let⟨z,hz,hq⟩:=S.tab c hc; ⟨z,keep _ _ hz,hq⟩
  ·rw[small _ (S.jt hc)]; exact(S.fo c hc).2
 have ck:∀n,(n,aq)∈fd.scope.names->∃c,env.cells.lookup n=some c:=λn hn=>by
  rw[K4]; obtain⟨c,h,_⟩:=fi (n:=s.heap.objs.size+1) (acc:=[]) j4 hn; exact⟨c,h⟩
 refine⟨dr,lo,jf,⟨⟨by rw[Eg]; exact hk,by subst hE; exact hg,by subst hE; exact hb,λn k h _=>kd n k h,?_,?_,DK⟩,⟨wY,Qe,WE,K5,dL,kL⟩,λn b hm=>?_,j4.sublist hp.keys,λn u r hm=>?_,λn n' u u' r r' hm=>?_⟩,λb hm=>?_⟩
 ·exact λn hm=> .inr (kd n _ hm)
 ·intro n n' c c' _ _ e1 e2 ea e
  subst e
  exact ea (name_of_addr apart (lookup_mem e1) (lookup_mem e2))
 ·obtain⟨⟨k,u4,DL⟩,hb⟩:=hp.mem hm
  have key:∀d,(n,d)∈ps.zip ds->∃v,(n,v)∈ps.zip vs/\Den f d v:=λd h=>Bs hd h
  have nz:((ps.zip vs).map (·.1)).Nodup:=m9.sublist (qj _ _)
  rcases DL with rfl|rfl
  ·refine⟨nsFind Qe n, .inl ⟨kd n _ u4,wY,Qe,WE,K5,dL,kL,rfl⟩,?_⟩
   rcases hb with rfl|⟨d,rfl,h⟩
   ·trivial
   ·obtain⟨v,h1,h2⟩:=key d h
    exact⟨v,by rw[mL]; exact vL (kd n _ u4) nz h1,h2⟩
  ·obtain⟨c,hc⟩:=ck n u4
   obtain⟨oc,gc,dc⟩:=cell n c hc
   refine⟨_, .inr ⟨.inl (kd n _ u4),c,oc,hc,(if_pos (.inr ⟨n,lookup_mem hc⟩)).trans gc,dc⟩,?_⟩
   rcases hb with rfl|⟨d,rfl,h⟩
   ·trivial
   ·obtain⟨v,h1,h2⟩:=key d h
    exact⟨v,vM (kd n _ u4) nz h1,h2⟩
 ·obtain⟨_,e|⟨d,e,_⟩⟩:=hp.mem hm<;>exact nomatch e
 ·obtain⟨_,e|⟨d,e,_⟩⟩:=hp.mem hm<;>exact nomatch e
 ·rcases hm with h|⟨n,h1,h2,h3⟩|⟨n,r,hm,_⟩
  ·exact o0 b (by rw[h]; exact big _ (.inl rfl))
  ·exact o0 b (big _ (.inr ⟨n,lookup_mem h3⟩))
  ·obtain⟨_,e|⟨d,e,_⟩⟩:=hp.mem hm<;>exact nomatch e
theorem Bt{a:Addr}{ob:Obj}{fd:Bk}{body:List Stmt}{ps:List Str}{ds:List D}{ρ:Ro}{A:Around}(hB:W.B.f a=some ob)(yo:ob.data= .func fd)
 (sd:∀h:Heap,(∀a x,W.B.f a=some x->h.get? a=some x)->h.CodeRec fd.code fd.qualname) (ip:fd.body= .stmts body) (n0:fd.closure=[]) (Eh:A.depth<recursionLimit)
 (jP:∀vs:List Value,vs.length=ds.length->eQ fd ⟨vs,[]⟩=pure (ps.zip vs)) (hp:kj (ps.zip ds) fd.scope.names ρ) (m9:ps.Nodup) (j4:(fd.scope.names.map (·.1)).Nodup)
 (Af:∀n∈ps,(n,ae)∈fd.scope.names\/(n,aq)∈fd.scope.names)
 (hk:fd.scope.kind= .function) (hg:fd.globals=bV) (hb:fd.builtins=cP) (DK:∀env,Rm (A.deeper env)) (wZ:fd.scope.isCoroutine=false) (n7:fd.scope.isGenerator=false)
 (S:St W.B f o s) {vs:List Value} (hd:bQ f ds vs)
 (h:∀env dr cU,o.le dr->St W.B f dr cU->bc ⟨env,A.deeper env,fd.scope.names⟩ ρ f dr->env.scope=fd.scope->(∀b,pq ⟨env,A.deeper env,fd.scope.names⟩ ρ b->o b=none)->
  wpAny W.M (A.deeper env) (execs body env) (λfl s'=>R (.ok (.ret (match fl with| .ret v=>v|_=> .none))) s')
   (λe s'=>wpAny W.M (A.deeper env) (leaving env e) (λ_ xR=>R (.error e) xR) (λe' xR=>R (.error e') xR) s') cU):
 eC W.M A (.call (.ref a) ⟨vs,[]⟩) R s:=by
 refine codeAny_call_cells Eh (S.bT _ _ hB) yo (W.B.nolimit _ S.bT) (sd _ S.bT) ip (jP vs hd.length) n0 (λx hx=>?_) (λcU x=>?_) wZ n7 hk
 ·obtain⟨n,v⟩:=x
  have hn:n∈ps:=(qj ps vs).subset (fY hx)
  rcases Af n hn with h|h
  ·exact .inl (cJ j4 h)
  ·obtain⟨c,hc,_⟩:=fi (n:=s.heap.objs.size+1) (acc:=[]) j4 h
   exact .inr ⟨cJ j4 h,by rw[hc]; rfl⟩
 ·obtain⟨dr,lo,jf,H,hm⟩:=enter S (A:=A) hd hp m9 j4 hk hg hb (DK _) x
  exact h _ dr cU lo jf H rfl hm
theorem K6{a:Addr}{ob:Obj}{fd:Bk}{body:List Stmt}{ps:List Str}{ds:List D}{d:D}{ρ:Ro}{A:Around}{n:Nat}(hB:W.B.f a=some ob)(yo:ob.data= .func fd)
 (sd:∀h:Heap,(∀a x,W.B.f a=some x->h.get? a=some x)->h.CodeRec fd.code fd.qualname) (ip:fd.body= .stmts body) (n0:fd.closure=[])
 (jP:∀vs:List Value,vs.length=ds.length->eQ fd ⟨vs,[]⟩=pure (ps.zip vs)) (hp:kj (ps.zip ds) fd.scope.names ρ) (m9:ps.Nodup) (j4:(fd.scope.names.map (·.1)).Nodup)
 (Af:∀n∈ps,(n,ae)∈fd.scope.names\/(n,aq)∈fd.scope.names)
 (hk:fd.scope.kind= .function) (hg:fd.globals=bV) (hb:fd.builtins=cP) (wZ:fd.scope.isCoroutine=false) (n7:fd.scope.isGenerator=false) (lv:Lv (n+1) A)
 (h:∀C:Cx,C.Ok->Lv n C.A->C.names=fd.scope.names->C.env.scope=fd.scope->fP W C ρ body (Ends d)):l7 W A (.ref a) ds d:=λf o s vs S hd Q E hQ=>by
 refine fQ (Bt (f:=f) (o:=o) hB yo sd ip n0 (by have:=lv.depth; show A.depth<1000; exact aX 0x2ae2540c091040211fb12a0201 tt this) jP hp m9 j4 Af hk hg hb (λenv=>(lv.deeper env).rm) wZ n7 S hd λenv dr cU lo jf H sA hm=>?_)
 refine h _ H.ok (lv.deeper env) rfl sA f dr cU jf H _ _ λu fl s' hq ho=>?_
 have back:∀o',qg ⟨env,A.deeper env,fd.scope.names⟩ ρ dr o'->o.le o':=λo' st a y e=>st a y (lo _ _ e) λq=>by have:=hm a q; rw[e] at this; exact nomatch this
 cases u with
 |next a9=>
  obtain⟨rfl,f',o',L⟩:=ho
  obtain rfl:d= .none:=hq
  exact hQ _ f' s' L.le (L.st.drop (back o' L.step)) rfl
 |ret d'=>
  obtain⟨v,f',o',rfl,G⟩:=ho
  obtain rfl:d'=d:=hq
  exact hQ v f' s' G.le (G.st.drop (back o' G.step)) G.den
 |brk _=>exact hq.elim
 |cont _=>exact hq.elim
end
section
variable {W:Wd}{C:Cx}{ρ a9 bD bZ:Ro}{f o f' o':Fz}{s s':Shared}{Q:Out->Prop}
theorem bc.adopt(H:bc C ρ f o){x:Str}{r:Res}(aU:Ro.Set x (.res true r) ρ a9)(hv:(x,Bd.val (.raw r.v))∈ρ)(hP:r.P f o)(hn:∀a∈r.as,¬Uses C ρ a):bc C a9 f o:=by
 refine⟨H.ok,H.ns,λn b hm=>?_,by rw[aU.keys]; exact H.nd,λn u r' hm a ha hs=>?_,λn n' u u' r1 r2 p q ea a ha hb=>?_⟩
 ·rcases aU.mem H.nd hm with⟨rfl,rfl⟩|⟨_,hm⟩
  ·obtain⟨vo,h1,v,e,hd⟩:=H.vars _ _ hv
   obtain rfl:v=r.v:=hd
   exact⟨vo,h1,e,hP⟩
  ·exact H.vars n b hm
 ·rcases aU.mem H.nd hm with⟨_,e⟩|⟨_,hm⟩
  ·cases e; exact hn a ha (.inl ((Slots.set aU).mp hs))
  ·exact H.sep n u r' hm a ha ((Slots.set aU).mp hs)
 ·rcases aU.mem H.nd p with⟨e1,e⟩|⟨_,p⟩
  ·cases e
   rcases aU.mem H.nd q with⟨e2,_⟩|⟨_,q⟩
   ·exact ea (e1.trans e2.symm)
   ·exact hn a ha (.inr ⟨_,_,_,q,hb⟩)
  ·rcases aU.mem H.nd q with⟨_,e⟩|⟨_,q⟩
   ·cases e; exact hn a hb (.inr ⟨_,_,_,p,ha⟩)
   ·exact H.two n n' u u' r1 r2 p q ea a ha hb
theorem Left.adopt(L:Left W C ρ bD f o f' o' s'){x:Str}{r:Res}(aU:Ro.Set x (.res true r) bD bZ)(hv:(x,Bd.val (.raw r.v))∈bD)(hP:r.P f' o')(hn:∀a∈r.as,¬Uses C bD a)(hw:∀a∈r.as,o a=none):Left W C ρ bZ f o f' o' s':=by
 refine⟨L.le,L.st,L.env.adopt aU hv hP hn,L.step,λa m=>?_,λa u=>?_⟩
 ·rcases m with m|⟨n,h1,h2,h3⟩|⟨n,r',hm,ha⟩
  ·exact L.ri a (.inl m)
  ·exact L.ri a (.inr (.inl ⟨n,h1,aU.keys▸h2,h3⟩))
  ·rcases aU.mem L.env.nd hm with⟨_,e⟩|⟨_,hm⟩
   ·cases e; exact .inr (hw a ha)
   ·exact L.ri a (.inr (.inr ⟨n,r',hm,ha⟩))
 ·rcases u with u|⟨n,u,r',hm,ha⟩
  ·exact L.uses a (.inl ((Slots.set aU).mp u))
  ·rcases aU.mem L.env.nd hm with⟨_,e⟩|⟨_,hm⟩
   ·cases e; exact .inr (hw a ha)
   ·exact L.uses a (.inr ⟨n,u,r',hm,ha⟩)
noncomputable def zy(W:Wd)(C:Cx)(ρ:Ro)(e:Expr)(X:D->Res->Prop):Prop:=∀f o s,St W.B f o s->bc C ρ f o->∀(Q:Value->Shared->Prop) (E:Value->Shared->Prop),
 (∀v d r f' o' s',X d r->f.le f'->o.le o'->St W.B f' o' s'->Den f' d v->r.P f' o'->(∀a∈r.as,o a=none)->Q v s')->wpAny W.M C.A (eval e C.env) Q E s
noncomputable def tm(ds:List D)(d:D)(r:Res):Prop:=∃a,d= .raw (.ref a)/\r=eI a ds
theorem vN(S:St W.B f o s){A:Around}{ds:List D}{vs:List Value}(hd:bQ f ds vs)(fB:ds.length<=16777216){Q:Value->Shared->Prop}{E:Value->Shared->Prop}
 (h:∀a o' s',o.le o'->o a=none->St W.B f o' s'->LstIs f o' a ds->Q (.ref a) s'):wpAny W.M A (newList vs) Q E s:=by
 refine oC (h s.heap.objs.size _ _ (Fz.bP S.eZ) S.eZ (S.gV _) ⟨_,vs,0,Fz.aJ ..,⟨rfl,rfl,rfl⟩,rfl,hd⟩) ?_
 rw[bu,hd.length]; exact fB
theorem zy.list{es:List Expr}{pos:Pos}{ds:List D}(x:nq W C ρ es ds)(fB:ds.length<=16777216):zy W C ρ (.List es pos) (tm ds):=λf o s S H Q E h=>
 List_ (x pos f o s S H _ _ λvs f1 s1 l1 S1 d1=>vN S1 d1 fB λa o' s' lo hn S' l=>h _ _ _ f1 o' s' ⟨a,rfl,rfl⟩ l1 lo S' rfl l λb hb=>by rcases aA.mp hb with rfl; exact hn)
theorem yp{M:Model}{A:Around}{pos:Pos}{env:Env}{e1 e2:Expr}{E:Value->Shared->Prop}{Q:List Value->Shared->Prop}(he:aI [e1,e2] env=[(false,eval e1 env),(false,eval e2 env)])
 (h:wpAny M A (eval e1 env) (λa s1=>wpAny M A (eval e2 env) (λb s2=>Q [a,b] s2) E s1) E s):wpAny M A (spliced (backTo pos (aI [e1,e2] env))) Q E s:=by
 rw[he]
 exact dO (dC h (λa s1 h1=>dO (dC h1 (λb s2 h2=>d9 h2) λ_ _ x=>x)) λ_ _ x=>x)
theorem zy.NH{e1 e2:Expr}{k:Nat}{pos:Pos}{d1:D}{X:D->Res->Prop}(x:eg W C ρ e1 d1)(y:zy W C ρ e2 X)(he:aI [e1,e2] C.env=[(false,eval e1 C.env),(false,eval e2 C.env)]):
 zy W C ρ (.Tuple [e1,e2] k pos) (λd r=>∃d2,d= .tup [d1,d2]/\X d2 r):=λf o s S H Q E h=>
 Tuple_ (yp he (x f o s S H _ _ λv1 f1 s1 l1 S1 h1=>y f1 o s1 S1 (H.mono l1 (.refl o)) _ _ λv2 d2 r f2 o2 s2 hX l2 lo S2 h2 hP hn=>
  pG S2 (ds:=[d1,d2]) (.cons (h1.mono l2) (.cons h2 .nil)) (by simp) λv f3 s3 l3 S3 h3=>h v _ r f3 o2 s3 ⟨d2,rfl,hX⟩ (l1.trans (l2.trans l3)) lo S3 h3 (r.mono _ _ _ _ l3 (λ_ _ _ e=>e) hP) hn))
theorem zy.NI{e1 e2:Expr}{k:Nat}{pos:Pos}{d2:D}{X:D->Res->Prop}(x:zy W C ρ e1 X)(y:eg W C ρ e2 d2)(he:aI [e1,e2] C.env=[(false,eval e1 C.env),(false,eval e2 C.env)]):
 zy W C ρ (.Tuple [e1,e2] k pos) (λd r=>∃d1,d= .tup [d1,d2]/\X d1 r):=λf o s S H Q E h=>
 Tuple_ (yp he (x f o s S H _ _ λv1 d1 r f1 o1 s1 hX l1 lo S1 h1 hP hn=>y f1 o1 s1 S1 (H.mono l1 lo) _ _ λv2 f2 s2 l2 S2 h2=>
  pG S2 (ds:=[d1,d2]) (.cons (h1.mono l2) (.cons h2 .nil)) (by simp) λv f3 s3 l3 S3 h3=>h v _ r f3 o1 s3 ⟨d1,rfl,hX⟩ (l1.trans (l2.trans l3)) lo S3 h3 (r.mono _ _ _ _ (l2.trans l3) (λ_ _ _ e=>e) hP) hn))
theorem Left.given{f1 o1 f2 o2:Fz}{s2:Shared}(H:bc C ρ f o)(S1:St W.B f1 o1 s)(l1:f.le f1)(lo:o.le o1){x:Str}{r:Res}(hP:r.P f1 o1)(hn:∀a∈r.as,o a=none)(L2:Left W C ρ bD f1 o1 f2 o2 s2)
 (hv:(x,Bd.val (.raw r.v))∈bD) (aU:Ro.Set x (.res true r) bD bZ):Left W C ρ bZ f o f2 o2 s2:=by
 have L1:Left W C ρ ρ f o f1 o1 s:=⟨l1,S1,H.mono l1 lo,λa y e _=>lo a y e,λ_ h=> .inl h,λ_ h=> .inl h⟩
 have nu:∀a∈r.as,¬Uses C ρ a:=λa ha hu=>by
  obtain⟨y,e⟩:=H.there hu; exact iB (hn a ha) e
 have hP2:r.P f2 o2:=r.mono _ _ _ _ L2.le (λa ha y e=>L2.step a y e λm=>nu a ha (m.uses H.ok)) hP
 refine(L1.trans L2).adopt aU hv hP2 (λa ha hu=>?_) hn
 rcases L2.uses a hu with q|q
 ·exact nu a ha q
 ·obtain⟨y,e⟩:=r.there _ _ hP a ha; exact iB q e
theorem fP.Bu{t e:Expr}{pos:Pos}{rest:List Stmt}{X:D->Res->Prop}(he:zy W C ρ e X)
 (h:∀d r,X d r->∃x bD bZ,jO W C ρ t d bD/\(x,Bd.val (.raw r.v))∈bD/\Ro.Set x (.res true r) bD bZ/\fP W C bZ rest Q) (hs:fI [t] e pos.line C.env=pure false) (hw:cS [t] e C.env=pure none)
 (ha:(bk [t] C.env).map (·.2)=[bE t C.env]):fP W C ρ (.Assign [t] e pos::rest) Q:=
 .cons λf o s S H P E hP=>i0 (he f o s S H _ _ λv d r f1 o1 s1 hX l1 lo S1 d1 hr hn=>by
  rw[ha]
  obtain⟨x,bD,bZ,ht,hv,aU,iq⟩:=h d r hX
  exact ht.2 f1 o1 s1 v S1 (H.mono l1 lo) d1 _ _ λf2 o2 s2 L2=>hP (.next bZ) _ _ iq ⟨rfl,f2,o2,Left.given H S1 l1 lo hr hn L2 hv aU⟩) hs hw
theorem Ro.Set.via{n:Str}{b:Bd}(b':Bd){ρ a9:Ro}(h:Ro.Set n b ρ a9):∃bD,Ro.Set n b' ρ bD/\(n,b')∈bD/\Ro.Set n b bD a9:=by
 induction h with
 |head=>exact⟨_, .head, .head _, .head⟩
 |tail _ ih=>obtain⟨_,a,m,c⟩:=ih; exact⟨_, .tail a, .tail _ m, .tail c⟩
theorem fP.sf(O:C.Ok){x:Str}{k:aC}{e:Expr}{p pos:Pos}{rest:List Stmt}{ds:List D}(he:zy W C ρ e (tm ds))(hk:(x,k)∈C.names)(oX:(k== .local||k== .cell)=true)
 (h:∀a,∃a9,Ro.Set x (.res true (eI a ds)) ρ a9/\fP W C a9 rest Q) (hs:fI [.Name x p] e pos.line C.env=pure false) (hw:cS [.Name x p] e C.env=pure none)
 (ha:(bk [.Name x p] C.env).map (·.2)=[bE (.Name x p) C.env]):fP W C ρ (.Assign [.Name x p] e pos::rest) Q:=
 .Bu he (λd r ⟨a,e1,e2⟩=>by
  subst e1 e2
  obtain⟨a9,aU,hr⟩:=h a
  obtain⟨bD,s1,m,s2⟩:=aU.via (.val (.raw (.ref a)))
  exact⟨x,bD,a9, .name O hk oX s1,m,s2,hr⟩) hs hw ha
inductive rl(W:Wd)(C:Cx)(d:D):Ro->List Expr->Ro->Prop
 |one {ρ bD:Ro} {t:Expr}:jO W C ρ t d bD->rl W C d ρ [t] bD
 |cons {ρ bD bZ:Ro} {t t':Expr} {ts:List Expr}:jO W C ρ t d bD->rl W C d bD (t'::ts) bZ->rl W C d ρ (t::t'::ts) bZ
theorem rl.run{d:D}{ts:List Expr}(x:rl W C d ρ ts a9):∀{f o s} {v:Value},St W.B f o s->bc C ρ f o->Den f d v->∀(Q:Unit->Shared->Prop) (E:Value->Shared->Prop),
 (∀f' o' s',Left W C ρ a9 f o f' o' s'->Q () s')->wpAny W.M C.A (assignAll v (ts.map λt=>bE t C.env)) Q E s:=by
 induction x with
 |one ht=>intro f o s v S H hd Q E h; exact ht.2 f o s v S H hd _ _ h
 |cons ht hr ih=>
  intro f o s v S H hd Q E h
  exact aa (aL (ht.2 f o s v S H hd _ _ λf1 o1 s1 L1=>ih L1.st L1.env (hd.mono L1.le) _ _ λf2 o2 s2 L2=>h f2 o2 s2 (L1.trans L2)))
theorem fP.HM{ts:List Expr}{e:Expr}{pos:Pos}{rest:List Stmt}{d:D}(he:eg W C ρ e d)(ht:rl W C d ρ ts a9)(h:fP W C a9 rest Q)(hs:fI ts e pos.line C.env=pure false)(hw:cS ts e C.env=pure none)
 (ha:(bk ts C.env).map (·.2)=ts.map λt=>bE t C.env):fP W C ρ (.Assign ts e pos::rest) Q:=
 .cons λf o s S H P E hP=>i0 (he f o s S H _ _ λv f1 s1 l1 S1 d1=>by
  rw[ha]
  have L1:Left W C ρ ρ f o f1 o s1:=⟨l1,S1,H.mono l1 (.refl o), .refl o,λ_ h=> .inl h,λ_ h=> .inl h⟩
  exact ht.run S1 (H.mono l1 (.refl o)) d1 _ _ λf2 o2 s2 L2=>hP (.next a9) _ _ h ⟨rfl,f2,o2,L1.trans L2⟩) hs hw
inductive n8(C:Cx):Ro->List Str->List D->Ro->Prop
 |nil {ρ:Ro}:n8 C ρ [] [] ρ
 |cons {ρ bD bZ:Ro} {n:Str} {k:aC} {ns:List Str} {d:D} {ds:List D}:(n,k)∈C.names->(k== .local||k== .cell)=true->Ro.Set n (.val d) ρ bD->n8 C bD ns ds bZ->n8 C ρ (n::ns) (d::ds) bZ
theorem n8.run(O:C.Ok){ns:List Str}{ds:List D}(x:n8 C ρ ns ds a9):∀{f o s} {vs:List Value},St W.B f o s->bc C ρ f o->bQ f ds vs->∀(Q:Unit->Shared->Prop) (E:Value->Shared->Prop),
 (∀f' o' s',Left W C ρ a9 f o f' o' s'->Q () s')->wpAny W.M C.A (Du (ns.map λn=>bindName C.env n) vs) Q E s:=by
 induction x with
 |nil=>intro f o s vs S H hd Q E h; rw[show vs=[] from hd]; exact ao (h f o s (.refl S H))
 |cons hk oX aU _ ih=>
  intro f o s vs S H hd Q E h
  obtain⟨v,r,rfl,h1,h2⟩:=hd
  refine aa (aL (bindName_ (sv O S H hk oX aU h1 λo1 s1 S1 H1 os=>?_)))
  have L1:Left W C _ _ f o f o1 s1:=⟨.refl f,S1,H1,os,λa hm=> .inl (oM aU H.nd a hm),λa hu=> .inl (Uses.of aU.keys (jN aU) hu)⟩
  exact ih S1 H1 h2 _ _ λf2 o2 s2 L2=>h f2 o2 s2 (L1.trans L2)
theorem fP.HN(O:C.Ok)(hh:C.A.handled=none){ts:List Expr}{k:Nat}{p pos:Pos}{e:Expr}{rest:List Stmt}{names:List Str}{ds:List D}(he:eg W C ρ e (.tup ds))(hn:names.length=ds.length)(hm:n8 C ρ names.reverse ds.reverse a9)(h:fP W C a9 rest Q)
 (hs:fI [.Tuple ts k p] e pos.line C.env=pure false) (hw:cS [.Tuple ts k p] e C.env=pure (some names)):fP W C ρ (.Assign [.Tuple ts k p] e pos::rest) Q:=
 .cons λf o s S H P E hP=>Assign_Tuple_swapped (he f o s S H _ _ λv f1 s1 l1 S1 d1=>lI hh S1 (.inl rfl) d1 hn λvs s2 S2 d2=>by
  have L1:Left W C ρ ρ f o f1 o s2:=⟨l1,S2,H.mono l1 (.refl o), .refl o,λ_ h=> .inl h,λ_ h=> .inl h⟩
  exact hm.run O S2 L1.env d2.reverse _ _ λf3 o3 s3 L3=>hP (.next a9) _ _ h ⟨rfl,f3,o3,L1.trans L3⟩) hs hw
theorem fP.Bv(O:C.Ok){x:Str}{p pos n9:Pos}{elt:Expr}{g:dT}{gs:List dT}{scope:Scope}{rest:List Stmt}{xs out:List D}{eW:Ro}(hit:zZ W C ρ g.target g.iter xs)(hsi:∀x,bH g.iter C.env x=pure x)
 (hk:scope.kind= .function) (j4:(scope.names.map (·.1)).Nodup) (hi:nr C.names ρ scope.names eW) (ha:firstAsync (g::gs)=false)
 (hr:∀cenv,(sZ C scope cenv).Ok->Runs W (sZ C scope cenv) eW g.target (.ListComp elt (g::gs) scope n9) xs out) (hx:(x,ae)∈C.names) (aU:Ro.Set x (.val (.list out)) ρ a9) (h:fP W C a9 rest Q)
 (hs:gj (.ListComp elt (g::gs) scope n9) (some (.Name x p)) pos.line C.env=pure true):fP W C ρ (.Assign [.Name x p] (.ListComp elt (g::gs) scope n9) pos::rest) Q:=
 .cons λf o s S H P E hP=>by
  rw[exec_Assign_Name_used _ _ _ _ hs,arm_evalThenUse_ListComp,ha]
  refine aa (aZ (aa (aa ?_)))
  refine ym O S H hit hsi hk j4 hi hr (use:=some (bE (.Name x p) C.env)) λv f' o' s' L l1 lo S' hd h1 h2 h3 hL=>?_
  dsimp only
  refine wpAny_assign_Name (sv O S' (H.mono l1 lo) hx rfl aU hd λo2 s2 S2 H2 os=>?_)
  have L2:Left W C ρ a9 f o f' o2 s2:=⟨l1,S2,H2,λa y e hm=>os a y (lo _ _ e) hm,λa hm=> .inl (oM aU H.nd a hm),λa hu=> .inl (Uses.of aU.keys (jN aU) hu)⟩
  have Zn:¬Uses C ρ L:=λhu=>by obtain⟨y,e⟩:=H.there hu; exact iB h2 e
  obtain⟨ob,es,ep,g1,g2,g3⟩:=hL
  have HH:=os _ _ g1 λm=>Zn (m.uses O)
  refine⟨⟨_,ob,es,ep,S2.own _ _ HH,g2,g3,λ_=>rfl⟩,λh' hsb=>ao (ao ?_)⟩
  have G6:(o2.del L).le o2:=λb y e=>by unfold Fz.del at e; split at e<;>first|cases e; done|exact e
  have H3:bc C a9 f' (o2.del L):=H2.off λb y e hu=>by
   unfold Fz.del; rw[if_neg]; exact e
   intro q; subst q; exact Zn (Uses.of aU.keys (jN aU) hu)
  refine hP (.next a9) _ _ h ⟨rfl,f',o2.del L,l1,(S2.drop G6).wX h1 (by unfold Fz.del; exact if_pos rfl) h3 hsb,H3,λa y e hm=>?_,L2.ri,L2.uses⟩
  unfold Fz.del
  rw[if_neg (λq=>by subst q; exact iB h2 e)]
  exact L2.step a y e hm
theorem Left.change(H:bc C ρ f o){x:Str}{r r':Res}(hm:(x,Bd.res true r)∈ρ)(aU:Ro.Set x (.res true r') ρ a9)(hv:r'.v=r.v)(has:∀a∈r'.as,a∈r.as\/o a=none)(hle:f.le f')(S':St W.B f' o' s')(hP:r'.P f' o')
 (hk:∀b y,o b=some y->b∉r.as->o' b=some y):Left W C ρ a9 f o f' o' s':=by
 have slot:∀a,Slots C ρ a->a∉r.as:=λa hs ha=>H.sep _ _ _ hm a ha hs
 have key:bc C a9 f' o':=by
  refine⟨H.ok,?_,λn b hn=>?_,by rw[aU.keys]; exact H.nd,λn u q hn a ha hs=>?_,λn n' u u' q q' h1 h2 ea a ha hb=>?_⟩
  ·obtain⟨ob,es,ep,e,t,y1⟩:=H.ns
   exact⟨ob,es,ep,hk _ _ e (slot _ (.inl rfl)),t,y1⟩
  ·have var:∀vo,(n,b)∈a9->n∈ρ.map (·.1)->kF C o n vo->kF C o' n vo:=λvo _ qk hv=>by
    rcases hv with⟨k,ob,es,ep,e1,e2,y1,y2⟩|⟨k,c,ob,e1,e2,e3⟩
    ·exact .inl ⟨k,ob,es,ep,hk _ _ e1 (slot _ (.inl rfl)),e2,y1,y2⟩
    ·exact .inr ⟨k,c,ob,e1,hk _ _ e2 (slot _ (.inr ⟨n,qk,k,e1⟩)),e3⟩
   rcases aU.mem H.nd hn with⟨rfl,rfl⟩|⟨ea,pK⟩
   ·obtain⟨vo,h1,e,_⟩:=H.vars _ _ hm
    exact⟨vo,var vo hn (fY hm) h1,by rw[hv]; exact e,hP⟩
   ·obtain⟨vo,h1,h2⟩:=H.vars _ _ pK
    refine⟨vo,var vo hn (fY pK) h1,?_⟩
    cases b with
    |unset=>trivial
    |val d=>obtain⟨v,e,hd⟩:=h2; exact⟨v,e,hd.mono hle⟩
    |res u q=>exact⟨h2.1,q.mono _ _ _ _ hle (λa ha y e=>hk a y e λhr=>H.two _ _ _ _ _ _ pK hm ea a ha hr) h2.2⟩
  ·rcases aU.mem H.nd hn with⟨_,e⟩|⟨_,pK⟩
   ·cases e
    rcases has a ha with h|h
    ·exact slot a ((Slots.set aU).mp hs) h
    ·obtain⟨y,e⟩:=H.slot ((Slots.set aU).mp hs); exact iB h e
   ·exact H.sep _ _ _ pK a ha ((Slots.set aU).mp hs)
  ·have aux:∀n' u' q',(n',Bd.res u' q')∈ρ->n'≠x->∀a∈r'.as,a∉q'.as:=λn' u' q' h ea a ha hb=>by
    rcases has a ha with h'|h'
    ·exact H.two _ _ _ _ _ _ h hm ea a hb h'
    ·obtain⟨y,e⟩:=H.there (.inr ⟨_,_,_,h,hb⟩); exact iB h' e
   rcases aU.mem H.nd h1 with⟨e1,e⟩|⟨_,h1⟩
   ·cases e
    rcases aU.mem H.nd h2 with⟨e2,_⟩|⟨WG,h2⟩
    ·exact ea (e1.trans e2.symm)
    ·exact aux _ _ _ h2 WG a ha hb
   ·rcases aU.mem H.nd h2 with⟨_,e⟩|⟨_,h2⟩
    ·cases e; exact aux _ _ _ h1 (by assumption) a hb ha
    ·exact H.two _ _ _ _ _ _ h1 h2 ea a ha hb
 refine⟨hle,S',key,λa y e hn=>hk a y e λha=>hn (.inr (.inr ⟨_,_,hm,ha⟩)),λa h=>?_,λa h=>?_⟩
 ·rcases h with h|⟨n,h1,h2,h3⟩|⟨n,q,hn,ha⟩
  ·exact .inl (.inl h)
  ·exact .inl (.inr (.inl ⟨n,h1,aU.keys▸h2,h3⟩))
  ·rcases aU.mem H.nd hn with⟨_,e⟩|⟨_,hn⟩
   ·cases e; exact(has a ha).imp (λh=> .inr (.inr ⟨_,_,hm,h⟩)) id
   ·exact .inl (.inr (.inr ⟨_,_,hn,ha⟩))
 ·rcases h with h|⟨n,u,q,hn,ha⟩
  ·exact .inl (.inl ((Slots.set aU).mp h))
  ·rcases aU.mem H.nd hn with⟨_,e⟩|⟨_,hn⟩
   ·cases e; exact(has a ha).imp (λh=> .inr ⟨_,_,_,hm,h⟩) id
   ·exact .inl (.inr ⟨_,_,_,hn,ha⟩)
theorem eg.tw(O:C.Ok){n:Str}{w:Bool}{r:Res}{pos:Pos}(hm:(n,Bd.res w r)∈ρ)(h1:(n==("__debug__" :Str))=false)(h2:(n==("__classdict__" :Str))=false):eg W C ρ (.Name n pos) (.raw r.v):=λf o s S H Q E h=>by
 obtain⟨vo,hv,e,hd⟩:=H.vars _ _ hm
 exact uP (sx O S H hm hv e h2 (h _ f s (.refl f) S rfl)) h1
inductive k9(f o:Fz)(a:Addr)(ds:List D):Prop
 |mk (ob:Obj) (vs:List Value) (n:Nat) (h1:o a=some ob) (h2:ob.cls= .type "list") (h3:ob.data= .seq ⟨vs⟩ n) (h4:bQ f ds vs):k9 f o a ds
theorem LstIs.G7{a:Addr}{ds:List D}(h:LstIs f o a ds):k9 f o a ds:=let⟨ob,vs,n,e,p,q,r⟩:=h; ⟨ob,vs,n,e,p.1,q,r⟩
theorem k9.isList(S:St W.B f o s){a:Addr}{ds:List D}(h:k9 f o a ds):∃vs,s.heap.IsList a ⟨vs⟩/\bQ f ds vs:=let⟨ob,vs,n,e,p,q,r⟩:=h; ⟨vs,⟨ob,S.own _ _ e,p,n,q⟩,r⟩
noncomputable def o9(a:Addr)(ds:List D):Res where
 v:= .ref a
 as:=[a]
 P:=λf o=>k9 f o a ds
 mono:=λf f' o o' h ho ⟨ob,vs,n,e,p,q,r⟩=>⟨ob,vs,n,ho a (.head _) _ e,p,q,r.mono h⟩
 there:=λf o ⟨ob,_,_,e,_,_,_⟩ x hx=>by rcases aA.mp hx with rfl; exact⟨ob,e⟩
theorem held{x:Str}{w:Bool}{r:Res}(hm:(x,Bd.res w r)∈ρ):∀f o,bc C ρ f o->r.P f o:=λf o H=>let⟨_,_,h⟩:=H.vars _ _ hm; h.2
noncomputable def Ag(W:Wd)(I:Fz->Fz->Prop)(t:Value->Value->Sem Value)(da db d:D):Prop:=∀A f o s va vb,Rm A->St W.B f o s->I f o->Den f da va->Den f db vb->∀(Q:Value->Shared->Prop) (E:Value->Shared->Prop),
 (∀v f' s',f.le f'->St W.B f' o s'->Den f' d v->Q v s')->wpAny W.M A (t va vb) Q E s
noncomputable def Ei(W:Wd)(I:Fz->Fz->Prop)(A:Around)(fv:Value)(ds:List D)(d:D):Prop:=∀f o s vs,St W.B f o s->I f o->bQ f ds vs->∀(Q:Value->Shared->Prop) (E:Value->Shared->Prop),
 (∀v f' s',f.le f'->St W.B f' o s'->Den f' d v->Q v s')->wpAny W.M A (call fv vs []) Q E s
theorem vH.WH(O:C.Ok){I:Fz->Fz->Prop}(hI:∀f o,bc C ρ f o->I f o){l r:Expr}{op:CmpOp}{pos:Pos}{da db:D}{b:Bool}(ha:eg W C ρ l da)(hb:eg W C ρ r db)(ho:Ag W I (cc op) da db (.bool b))(hm:jk op r=false):vH W C ρ (.Compare l [op] [r] pos) b:=λf o s S H Q E h=>
 Hc (ha f o s S H _ _ λva f1 s1 l1 S1 d1=>hb f1 o s1 S1 (H.mono l1 (.refl o)) _ _ λvb f2 s2 l2 S2 d2=>
  ho _ f2 o s2 va vb O.room S2 (hI _ _ (H.mono (l1.trans l2) (.refl o))) (d1.mono l2) d2 _ _ λv f3 s3 l3 S3 d3=>by
   obtain rfl:v= .bool b:=d3
   exact vD (h f3 s3 (l1.trans (l2.trans l3)) S3)) hm
theorem eg.WI(O:C.Ok){I:Fz->Fz->Prop}(hI:∀f o,bc C ρ f o->I f o){value slice:Expr}{pos:Pos}{da di d:D}{T id:String}(hv:eg W C ρ value da)(hi:eg W C ρ slice di)(hT:∀f o s v,St W.B f o s->I f o->Den f da v->s.TypeIs v T)(hl:kT (.type T) "__getitem__" =pure (some (.builtin id)))
 (ho:Ag W I dI da di d) (hs:∀o i,subscripted slice false o i=operate [o,i] (dI o i)):eg W C ρ (.Subscript value slice pos) d:=λf o s S H Q E h=>by
 rw[nY]
 exact aa (hv f o s S H _ _ λv f1 s1 l1 S1 d1=>aa (aL (hi f1 o s1 S1 (H.mono l1 (.refl o)) _ _ λi f2 s2 l2 S2 d2=>aa (aZ
  (A2 (hT _ _ _ _ S2 (hI _ _ (H.mono (l1.trans l2) (.refl o))) (d1.mono l2)) hl (ho _ f2 o s2 v i O.room S2 (hI _ _ (H.mono (l1.trans l2) (.refl o))) (d1.mono l2) d2 _ _ λr f3 s3 l3 S3 d3=>h r f3 s3 (l1.trans (l2.trans l3)) S3 d3) (hs v i))))))
theorem eg.NJ{I:Fz->Fz->Prop}(hI:∀f o,bc C ρ f o->I f o){func:Expr}{es:List Expr}{pos:Pos}{fv:Value}{ds:List D}{d:D}(hf:eg W C ρ func (.raw fv))(hk:Kept W fv)(ha:nq W C ρ es ds)(hp:(aI es C.env).all (λx=>!x.1)=true)(hc:Ei W I C.A fv ds d)
 (he:eval (.Call func es [] pos) C.env=(do fR pos (<-eval func C.env) [] (backTo pos (aI es C.env)) (gp pos (dG [] C.env)))):eg W C ρ (.Call func es [] pos) d:=λf o s S H Q E h=>by
 rw[he]
 refine aa (hf f o s S H _ _ λv f1 s1 l1 S1 d1=>?_)
 obtain rfl:v=fv:=d1
 have jl:=cn pos es C.env hp
 refine d6 (P:=λh=>∀a x,W.B.f a=some x->h.get? a=some x) (by rw[jl]; rfl) hk (dj jl ?_)
 exact ha pos f1 o s1 S1 (H.mono l1 (.refl o)) _ _ λvs f2 s2 l2 S2 d2=>⟨S2.bT,hc f2 o s2 _ S2 (hI _ _ (H.mono (l1.trans l2) (.refl o))) d2 _ _ λv f3 s3 l3 S3 d3=>h v f3 s3 (l1.trans (l2.trans l3)) S3 d3⟩
theorem rP{ob e:Expr}{a:Addr}{p2 p3:Pos}(CL:eg W C ρ ob (.raw (.ref a)))(hb:bx ob "append" C.env (eval ob C.env)=eval ob C.env)(hp:(aI [e] C.env).all (λx=>!x.1)=true)(hl:(p2.endLine==p3.line)=true)
 (S:St W.B f o s) (H:bc C ρ f o) {ds:List D} (K7:∀f',f.le f'->LstIs f' o a ds) {Q:Value->Shared->Prop} {E:Value->Shared->Prop}
 (h:∀f1 s1,f.le f1->St W.B f1 o s1->wpAny W.M C.A (spliced (backTo p3 (aI [e] C.env))) (λvs s2=>(∀a x,W.B.f a=some x->s2.heap.get? a=some x)/\wpAny W.M C.A (call (.builtin "list.append") (.ref a::vs)) Q E s2) E s1):
 wpAny W.M C.A (eval (.Call (.Attribute ob "append" p2) [e] [] p3) C.env) Q E s:=by
 show wpAny _ _ (do
  let ov <-bx ob "append" C.env (eval ob C.env)
  dE p2.atName
  eX ob "append" p2 p3 C.env ov (1+0) (backTo p3 (aI [e] C.env)) []) Q E s
 rw[hb]
 refine aa (CL f o s S H _ _ λv f1 s1 l1 S1 d1=>aa (aZ ?_))
 obtain rfl:v= .ref a:=d1
 have qh:eB (1+0) (backTo p3 (aI [e] C.env)) []=true:=by
  unfold eB
  have:=cn p3 [e] C.env hp
  rw[mF] at this
  simp only[r7,kh,ni,if_true,lj,cq,aT,decide_eq_true_eq]
  exact⟨λx hx=>by simpa using this x hx,by decide⟩
 obtain⟨ob',vs,n,h1,h2,h3,h4⟩:=K7 f1 l1
 unfold eX rN
 rw[qh]
 refine aa (aL (Calls.getMethod_list_append (S1.own _ _ h1) h2.1 h2.2.1 ?_))
 unfold ji
 rw[hl]
 refine aa (ao ?_)
 have jl:=cn p3 [e] C.env hp
 exact d6 (P:=λh=>∀a x,W.B.f a=some x->h.get? a=some x) (by rw[jl]; rfl) Kept.builtin (dj jl (h f1 s1 l1 S1))
theorem fP.append{ob e:Expr}{a:Addr}{p2 p3 pos:Pos}{rest:List Stmt}{d:D}{ds:List D}{x:Str}{r r':Res}(CL:eg W C ρ ob (.raw (.ref a)))(he:eg W C ρ e d)(hm:(x,Bd.res true r)∈ρ)(K7:∀f o,r.P f o->LstIs f o a ds)(fB:ds.length<=16777216)
 (aU:Ro.Set x (.res true r') ρ a9) (hv:r'.v=r.v) (has:r'.as=r.as) (ha:a∈r.as) (hP:∀f o o',r.P f o->LstIs f o' a (ds++[d])->(∀b y,o b=some y->b≠a->o' b=some y)->r'.P f o') (iq:fP W C a9 rest Q)
 (hb:bx ob "append" C.env (eval ob C.env)=eval ob C.env) (pd:aI [e] C.env=[(false,eval e C.env)]) (hl:(p2.endLine==p3.line)=true) (hi:interactive C.env=false)
 (hs:gj (.Call (.Attribute ob "append" p2) [e] [] p3) none pos.line C.env=pure false):fP W C ρ (.Expr (.Call (.Attribute ob "append" p2) [e] [] p3) pos::rest) Q:=
 .cons λf o s S H P E WJ=>rK (rP CL hb (by rw[pd]; rfl) hl S H (λf' l=>K7 _ _ (held hm f' o (H.mono l (.refl o)))) λf1 s1 l1 S1=>by
  have Qf:r.P f1 o:=held hm f1 o (H.mono l1 (.refl o))
  rw[pd]
  refine dO (he f1 o s1 S1 (H.mono l1 (.refl o)) _ _ λv f2 s2 l2 S2 d2=>d9 ⟨S2.bT,?_⟩)
  have K8:r.P f2 o:=held hm f2 o (H.mono (l1.trans l2) (.refl o))
  refine wW S2 (K7 _ _ K8) d2 fB λo' s' S' l' k'=>WJ (.next a9) _ _ iq ⟨rfl,f2,o',?_⟩
  exact Left.change H hm aU hv (λb hb=> .inl (has▸hb)) (l1.trans l2) S' (hP _ _ _ K8 l' k') λb y e hb=>k' b y e λq=>hb (q▸ha)) hi hs
theorem fP.Bw(O:C.Ok){e:Expr}{a:Addr}{p1 p2 p3 pos:Pos}{rest:List Stmt}{d:D}{ds:List D}{x:Str}(he:eg W C ρ e d)(hm:(x,Bd.res true (eI a ds))∈ρ)(fB:ds.length<=16777216)
 (aU:Ro.Set x (.res true (eI a (ds++[d]))) ρ a9) (iq:fP W C a9 rest Q) (h1:(x==("__debug__" :Str))=false) (h2:(x==("__classdict__" :Str))=false)
 (hb:bx (.Name x p1) "append" C.env (eval (.Name x p1) C.env)=eval (.Name x p1) C.env) (pd:aI [e] C.env=[(false,eval e C.env)]) (hl:(p2.endLine==p3.line)=true) (hi:interactive C.env=false)
 (hs:gj (.Call (.Attribute (.Name x p1) "append" p2) [e] [] p3) none pos.line C.env=pure false):fP W C ρ (.Expr (.Call (.Attribute (.Name x p1) "append" p2) [e] [] p3) pos::rest) Q:=
 .append (.tw O hm h1 h2) he hm (λ_ _ h=>h) fB aU rfl rfl (.head _) (λ_ _ _ _ h _=>h) iq hb pd hl hi hs
theorem bQ.set:∀{ds:List D} {vs:List Value} {k:Nat} {d:D} {v:Value},bQ f ds vs->Den f d v->bQ f (ds.set k d) (vs.set k v)
 |[],_,_,_,_,e,_=>by rw[show _=[] from e]; rfl
 |_::_,_,0,_,_,⟨u,r,e,x,y⟩,h=>by subst e; exact⟨_,_,rfl,h,y⟩
 |_::_,_,k+1,_,_,⟨u,r,e,x,y⟩,h=>by subst e; exact⟨_,_,rfl,x,y.set h⟩
theorem fP.WK{ob i e:Expr}{a:Addr}{p pos:Pos}{rest:List Stmt}{d:D}{ds:List D}{x:Str}{k:Nat}(CL:eg W C ρ ob (.raw (.ref a)))(hi:eg W C ρ i (.int k))(he:eg W C ρ e d)(hm:(x,Bd.res true (o9 a ds))∈ρ)(hk:k<ds.length)(fB:ds.length<=16777216)
 (aU:Ro.Set x (.res true (o9 a (ds.set k d))) ρ a9) (iq:fP W C a9 rest Q) (hs:gj e (some (.Subscript ob i p)) pos.line C.env=pure false):fP W C ρ (.Assign [.Subscript ob i p] e pos::rest) Q:=
 .cons λf o s S H P E hP=>wpAny_Assign_Subscript (he f o s S H _ _ λv f1 s1 l1 S1 d1=>CL f1 o s1 S1 (H.mono l1 (.refl o)) _ _ λvo f2 s2 l2 S2 d2=>hi f2 o s2 S2 (H.mono (l1.trans l2) (.refl o)) _ _ λvi f3 s3 l3 S3 d3=>by
  obtain rfl:vo= .ref a:=d2
  obtain⟨t,rfl⟩:=d3
  obtain⟨ob',vs,n,e1,e2,e3,e4⟩:k9 f3 o a ds:=held hm f3 o (H.mono (l1.trans (l2.trans l3)) (.refl o))
  have hlen:=e4.length
  refine wpAny_setItem_list ⟨ob',S3.own _ _ e1,e2,n,e3⟩ (by exact ew 8673 tt) (by exact q21 hk fB hlen) (by show(k:Int)<(vs.length:Nat); exact KP 0x208421a02010891002161 tt hk (ah hlen.symm)) λh' Wv JJ=>?_
  obtain⟨ob2,g1,g2,n2,g3⟩:=Wv
  refine hP (.next a9) _ _ iq ⟨rfl,f3,_,Left.change H hm aU rfl (λb hb=> .inl hb) (l1.trans (l2.trans l3)) (S3.same e1 JJ g1) ⟨ob2,vs.set k v,n2,Fz.aJ ..,g2,?_,e4.set (d1.mono (l2.trans l3))⟩ λb y e hb=>?_⟩
  ·rw[g3]; congr 1; simp
  ·rw[Fz.az (λq=>hb (by subst q; exact .head _))]; exact e) hs
theorem fP.done{ss:List Stmt}{x:Str}{a:Addr}{ds:List D}(hm:(x,Bd.res true (eI a ds))∈ρ)(aU:Ro.Set x (.val (.list ds)) ρ a9)(h:fP W C a9 ss Q):fP W C ρ ss Q:=h.ghost λf o s S H=>by
 obtain⟨vo,hv,ev,ob,vs,n,e1,e2,e3,e4⟩:=H.vars _ _ hm
 have lf:=Fz.bP (o:=ob) (S.fu e1)
 have slot:∀b,Slots C ρ b->b≠a:=λb hs hb=>H.sep _ _ _ hm a (.head _) (hb▸hs)
 have del:∀b y,o b=some y->b≠a->o.del a b=some y:=λb y e hb=>by unfold Fz.del; rw[if_neg hb]; exact e
 refine⟨f.put a ob,o.del a,lf,S.freeze e1,⟨H.ok,?_,λn b hn=>?_,by rw[aU.keys]; exact H.nd,λn u q hn a' ha hs=>?_,λn n' u u' q q' h1 h2 ea a' ha hb=>?_⟩,λb y e hn=>del b y e λq=>hn (.inr (.inr ⟨_,_,hm,q▸ .head _⟩)),λa' h=> .inl ?_,λa' h=> .inl ?_⟩
 ·obtain⟨ob',es,ep,e,t,y1⟩:=H.ns; exact⟨ob',es,ep,del _ _ e (slot _ (.inl rfl)),t,y1⟩
 ·have var:∀vo,n∈ρ.map (·.1)->kF C o n vo->kF C (o.del a) n vo:=λvo qk hv=>by
   rcases hv with⟨k,ob,es,ep,e1,e2,y1,y2⟩|⟨k,c,ob,e1,e2,e3⟩
   ·exact .inl ⟨k,ob,es,ep,del _ _ e1 (slot _ (.inl rfl)),e2,y1,y2⟩
   ·exact .inr ⟨k,c,ob,e1,del _ _ e2 (slot _ (.inr ⟨n,qk,k,e1⟩)),e3⟩
  rcases aU.mem H.nd hn with⟨rfl,rfl⟩|⟨ea,pK⟩
  ·exact⟨vo,var vo (fY hm) hv,_,ev,a,ob,vs,_,rfl,Fz.aJ ..,e2,e3,e4.mono lf⟩
  ·obtain⟨vo,h1,h2⟩:=H.vars _ _ pK
   refine⟨vo,var vo (fY pK) h1,?_⟩
   cases b with
   |unset=>trivial
   |val d=>obtain⟨v,e,hd⟩:=h2; exact⟨v,e,hd.mono lf⟩
   |res u q=>exact⟨h2.1,q.mono _ _ _ _ lf (λb hb y e=>del b y e λhr=>H.two _ _ _ _ _ _ pK hm ea b hb (hr▸ .head _)) h2.2⟩
 ·rcases aU.mem H.nd hn with⟨_,e⟩|⟨_,pK⟩
  ·exact nomatch e
  ·exact H.sep _ _ _ pK a' ha ((Slots.set aU).mp hs)
 ·rcases aU.mem H.nd h1 with⟨_,e⟩|⟨_,h1⟩
  ·exact nomatch e
  ·rcases aU.mem H.nd h2 with⟨_,e⟩|⟨_,h2⟩
   ·exact nomatch e
   ·exact H.two _ _ _ _ _ _ h1 h2 ea a' ha hb
 ·exact oM aU H.nd a' h
 ·exact Uses.of aU.keys (jN aU) h
theorem fP.loose{ss:List Stmt}{x:Str}{a:Addr}{ds:List D}(hm:(x,Bd.res true (eI a ds))∈ρ)(aU:Ro.Set x (.res true (o9 a ds)) ρ a9)(h:fP W C a9 ss Q):fP W C ρ ss Q:=h.ghost λf o s S H=>
 ⟨f,o,Left.change H hm aU rfl (λ_ h=> .inl h) (.refl f) S (held hm f o H).G7 λ_ _ e _=>e⟩
end
end
section
open PySem PySem.W PyProof.Rows PySem.SeqAt
inductive gf:Nat->D->D->Prop
 |none {n}:gf n .none .none
 |bool {n a b}:gf n (.bool a) (.bool b)
 |int {n a b}:gf n (.int a) (.int b)
 |str {n a b}:gf n (.str a) (.str b)
 |list {n xs ys} (h:∀(i:Nat) (x y:D),xs[i]? =some x->ys[i]? =some y->gf n x y):gf (n+1) (.list xs) (.list ys)
 |tup {n xs ys} (h:∀(i:Nat) (x y:D),xs[i]? =some x->ys[i]? =some y->gf n x y):gf (n+1) (.tup xs) (.tup ys)
def yq(n:Nat)(xs ys:List D):Prop:=∀(i:Nat) (x y:D),xs[i]? =some x->ys[i]? =some y->gf n x y
theorem WL{n:Nat}{ys:List D}:yq n [] ys:=λi x y h=>nomatch h
theorem lk{n:Nat}{a b:D}{xs ys:List D}(h:gf n a b)(t:yq n xs ys):yq n (a::xs) (b::ys):=λi x y hx hy=>
 Nat.casesOn (motive:=λi=>(a::xs)[i]? =some x->(b::ys)[i]? =some y->gf n x y) i (λhx hy=>cg hx▸cg hy▸h) (λi hx hy=>t i x y hx hy) hx hy
theorem Zo{α β:Type}{n:Nat}{xs:List α}{ys:List β}{g:α->D}{h:β->D}(hl:∀a b,gf n (g a) (h b)):yq n (xs.map g) (ys.map h):=λi x y hx hy=>by
 rw[av] at hx hy
 obtain⟨a,_,rfl⟩:=fm.mp hx
 obtain⟨b,_,rfl⟩:=fm.mp hy
 exact hl a b
theorem Zp{n:Nat}{xs:List D}:yq n xs []:=λi x y _ h=>nomatch h
theorem jv{α β:Type}{n:Nat}(xs:List α)(ys:List β)(g:α->D)(h:β->D)(hl:∀a b,gf n (g a) (h b)):gf (n+1) (.list (xs.map g)) (.list (ys.map h)):= .list (Zo hl)
theorem w0{n:Nat}{a b c d:D}(h1:gf n a c)(h2:gf n b d):gf (n+1) (.tup [a,b]) (.tup [c,d]):= .tup (lk h1 (lk h2 WL))
theorem w3{n:Nat}{a b c d e g:D}(h1:gf n a d)(h2:gf n b e)(h3:gf n c g):gf (n+1) (.tup [a,b,c]) (.tup [d,e,g]):= .tup (lk h1 (lk h2 (lk h3 WL)))
theorem HO{n:Nat}{a b c d e g:D}(h1:gf n a d)(h2:gf n b e)(h3:gf n c g):gf (n+1) (.list [a,b,c]) (.list [d,e,g]):= .list (lk h1 (lk h2 (lk h3 WL)))
section
variable {W:Wd}{C:Cx}{ρ a9:Ro}{f o:Fz}{s:Shared}
theorem yr{a b:Bool}{p:Prop}(h1:a=true↔p)(h2:b=true↔p):a=b:=by
 rw[oK,h1,h2]
section
open Classical
theorem NK{α:Type}{xs ys:List α}(hl:xs.length=ys.length)(h:∀(i:Nat) (x y:α),xs[i]? =some x->ys[i]? =some y->x=y):xs=ys:=
 nj hl λi h1 h2=>h i _ _ (aj h1) (aj h2)
theorem HP{a:Addr}{ob ob':Obj}{vs u5:List Value}{m m':Nat}(e1:f a=some ob)(e2:f a=some ob')(h1:ob.data= .seq ⟨vs⟩ m)(h2:ob'.data= .seq ⟨u5⟩ m'):vs=u5:=by
 cases cg (e1.symm.trans e2); exact congrArg zw (Data.seq.inj (h1.symm.trans h2)).1
theorem bQ.one{xs ys:List D}{vs:List Value}(h1:bQ f xs vs)(h2:bQ f ys vs)(h:∀(i:Nat) (x y:D),xs[i]? =some x->ys[i]? =some y->∀{v},Den f x v->Den f y v->x=y):xs=ys:=
 NK (h1.length.symm.trans h2.length) λi x y hx hy=>by
  obtain⟨v,g1,k1⟩:=h1.get hx
  obtain⟨v',g2,k2⟩:=h2.get hy
  cases cg (g1.symm.trans g2); exact h i x y hx hy k1 k2
theorem gf.inj{n:Nat}{x y:D}(hl:gf n x y):∀{v:Value},Den f x v->Den f y v->x=y:=by
 induction hl with
 |none=>intro v hx hy; rfl
 |bool=>intro v hx hy; exact congrArg D.bool (Value.bool.inj (hx.symm.trans hy))
 |int=>intro v hx hy; obtain⟨t,rfl⟩:=hx; obtain⟨u,e⟩:=hy; exact congrArg D.int (Value.int.inj e).1
 |str=>intro v hx hy; obtain⟨t,rfl⟩:=hx; obtain⟨u,e⟩:=hy; exact congrArg D.str (Value.str.inj e).1
 |list h ih|tup h ih=>
  intro v hx hy
  obtain⟨a,ob,vs,m,rfl,e1,e2,e3,e4⟩:=hx
  obtain⟨a',ob',u5,m',e0,w4,xS,w5,tA⟩:=hy
  cases Value.ref.inj e0
  cases HP e1 w4 e3 w5
  exact congrArg _ (bQ.one e4 tA λi x y hx hy=>ih i x y hx hy)
theorem sC{n:Nat}{xs ys:List D}(h1:xs.length=n)(h2:ys.length=n):((aB n).all λj=>decide (xs[j]? =ys[j]?))=true↔xs=ys:=by
 rw[aT]
 refine⟨λh=>NK (h1.trans h2.symm) λi x y hx hy=>?_,λe i _=>decide_eq_true (congrArg (·[i]?) e)⟩
 have:=of_decide_eq_true (h i (aW.mpr (h1▸(cI.mp hx).1)))
 exact cg (hx.symm.trans (this.trans hy))
theorem yt{n m:Nat}{xs ys:List D}(h1:xs.length=n)(h2:ys.length=m):((aB (min n m)).all (λj=>decide (xs[j]? =ys[j]?))&&n==m)=true↔xs=ys:=by
 rw[cq,beq_iff_eq]
 constructor
 ·rintro⟨h,rfl⟩; rw[Nat.min_self] at h; exact(sC h1 h2).mp h
 ·intro e; obtain rfl:n=m:=h1.symm.trans ((congrArg i8 e).trans h2); rw[Nat.min_self]; exact⟨(sC h1 h2).mpr e,rfl⟩
theorem iS{a b:Bool}{p:Prop}(h1:a=true↔p)(h2:b=true↔p):a=b:=oK.mpr (h1.trans h2.symm)
theorem bool_no{b:Bool}{p:Prop}(h:b=true↔p)(n:¬p):b=false:=G0.mpr λe=>n (h.mp e)
theorem Qg{a n:Nat}(h:a+(n+1)<9000):a+1+n<9000:=fH (ah (GV a 1 n)) h
theorem MJ{a n:Nat}(h:a+n<9000):a<cLine:=fG (fH (gx _ _) h) (by decide)
theorem Bx{A:Around}{xs ys:List D}{vs u5:List Value}(e:bQ f xs vs)(e':bQ f ys u5)(h:∀(i:Nat) (x y:D),xs[i]? =some x->ys[i]? =some y->∀{v w:Value} {b:Bool},Den f x v->Den f y w->(b=true↔x=y)->EqAt A s v w b):
 ∀j (h1:j<(⟨vs⟩:Array Value).size) (h2:j<(⟨u5⟩:Array Value).size),EqAt A s ((⟨vs⟩:Array Value)[j]) ((⟨u5⟩:Array Value)[j]) (decide (xs[j]? =ys[j]?)):=λj h1 h2=>by
 obtain⟨x,hx,dx⟩:=e.get' (aj h1)
 obtain⟨y,hy,dy⟩:=e'.get' (aj h2)
 exact h j x y hx hy dx dy (by rw[decide_eq_true_iff,hx,hy]; exact⟨cg,congrArg _⟩)
theorem Ej{A:Around}{n:Nat}{x y:D}{a a':Addr}{b:Bool}(hl:gf n x y)(hx:Den f x (.ref a))(hy:Den f y (.ref a'))(hb:b=true↔x=y)(k:RcAt A s (.ref a) (.ref a') b):RcAt A s (.ref a) (.ref a') b/\EqAt A s (.ref a) (.ref a') b:=by
 refine⟨k,?_⟩
 by_cases ha:a=a'
 ·subst ha
  obtain rfl:b=true:=hb.mpr (hl.inj hx hy)
  exact .same _
 ·exact .of_refs ha k
theorem By{n:Nat}{x y:D}(hl:gf n x y):∀{v w:Value} {A:Around} {b:Bool},Den f x v->Den f y w->(b=true↔x=y)->St W.B f o s->A.units+n<9000->RcAt A s v w b/\EqAt A s v w b:=by
 induction hl with
 |none=>intro v w A b hx hy hb S hu; subst hx; subst hy; obtain rfl:b=true:=hb.mpr rfl; exact⟨.none_none, .same _⟩
 | @bool n p q=>intro v w A b hx hy hb S hu; subst hx; subst hy; cases iS (a:=p==q) ((beq_iff_eq).trans ⟨congrArg _,D.bool.inj⟩) hb; exact⟨.bool_bool _ _, .bool_bool _ _⟩
 | @int n p q=>intro v w A b hx hy hb S hu; obtain⟨t,rfl⟩:=hx; obtain⟨u,rfl⟩:=hy; cases iS (a:=p==q) ((beq_iff_eq).trans ⟨congrArg _,D.int.inj⟩) hb; exact⟨.int_int _ _ _ _, .int_int _ _ _ _⟩
 | @str n p q=>intro v w A b hx hy hb S hu; obtain⟨t,rfl⟩:=hx; obtain⟨u,rfl⟩:=hy; cases iS (a:=p==q) ((beq_iff_eq).trans ⟨congrArg _,D.str.inj⟩) hb; exact⟨.str_str _ _ _ _, .str_str _ _ _ _⟩
 |list h ih=>
  intro v w A b hx hy hb S hu
  have hl:=gf.list h
  have K9:=hx
  have WM:=hy
  obtain⟨a,ob,vs,m,rfl,e1,e2,e3,e4⟩:=hx
  obtain⟨a',ob',u5,m',rfl,w4,xS,w5,tA⟩:=hy
  refine Ej hl K9 WM hb ?_
  by_cases hlen:vs.length=u5.length
  ·cases iS ((sC e4.length.symm (tA.length.symm.trans hlen.symm)).trans ⟨congrArg _,D.list.inj⟩) hb
   exact RcAt.lists (A:=A) ⟨ob,S.sub _ _ e1,e2.1,m,e3⟩ ⟨ob',S.sub _ _ w4,xS.1,m',w5⟩ hlen (MJ hu) (Bx e4 tA λi x y hx hy=>λdx dy hb=>(ih i x y hx hy dx dy hb S (Qg hu)).2)
  ·cases bool_no hb λe=>hlen (e4.length.trans ((congrArg i8 (D.list.inj e)).trans tA.length.symm))
   exact RcAt.lists_lengths (A:=A) ⟨ob,S.sub _ _ e1,e2.1,m,e3⟩ ⟨ob',S.sub _ _ w4,xS.1,m',w5⟩ (bne_iff_ne.mpr hlen) (MJ hu)
 |tup h ih=>
  intro v w A b hx hy hb S hu
  have hl:=gf.tup h
  have K9:=hx
  have WM:=hy
  obtain⟨a,ob,vs,m,rfl,e1,e2,e3,e4⟩:=hx
  obtain⟨a',ob',u5,m',rfl,w4,xS,w5,tA⟩:=hy
  refine Ej hl K9 WM hb ?_
  cases iS ((yt e4.length.symm tA.length.symm).trans ⟨congrArg _,D.tup.inj⟩) hb
  exact RcAt.tuples (A:=A) ⟨ob,S.sub _ _ e1,e2,m,e3⟩ ⟨ob',S.sub _ _ w4,xS,m',w5⟩ (MJ hu) (Bx e4 tA λi x y hx hy=>λdx dy hb=>(ih i x y hx hy dx dy hb S (Qg hu)).2)
theorem NL{n:Nat}{x y:D}{v w:Value}{A:Around}{b:Bool}(hl:gf n x y)(hx:Den f x v)(hy:Den f y w)(hb:b=true↔x=y)(S:St W.B f o s)(hu:A.units+n<9000):RcNeAt A s v w (!b):=by
 cases hl with
 |none=>subst hx; subst hy; obtain rfl:b=true:=hb.mpr rfl; exact .none_none
 | @bool _ p q=>subst hx; subst hy; cases iS (a:=p==q) ((beq_iff_eq).trans ⟨congrArg _,D.bool.inj⟩) hb; exact .bool_bool _ _
 | @int _ p q=>obtain⟨t,rfl⟩:=hx; obtain⟨u,rfl⟩:=hy; cases iS (a:=p==q) ((beq_iff_eq).trans ⟨congrArg _,D.int.inj⟩) hb; exact .int_int _ _ _ _
 | @str _ p q=>obtain⟨t,rfl⟩:=hx; obtain⟨u,rfl⟩:=hy; cases iS (a:=p==q) ((beq_iff_eq).trans ⟨congrArg _,D.str.inj⟩) hb; exact .str_str _ _ _ _
 |list h=>
  obtain⟨a,ob,vs,m,rfl,e1,e2,e3,e4⟩:=hx
  obtain⟨a',ob',u5,m',rfl,w4,xS,w5,tA⟩:=hy
  by_cases hlen:vs.length=u5.length
  ·cases iS ((sC e4.length.symm (tA.length.symm.trans hlen.symm)).trans ⟨congrArg _,D.list.inj⟩) hb
   exact RcNeAt.lists (A:=A) ⟨ob,S.sub _ _ e1,e2.1,m,e3⟩ ⟨ob',S.sub _ _ w4,xS.1,m',w5⟩ hlen (MJ hu) (Bx e4 tA λi x y hx hy=>λdx dy hb=>(By (h i x y hx hy) dx dy hb S (Qg hu)).2)
  ·cases bool_no hb λe=>hlen (e4.length.trans ((congrArg i8 (D.list.inj e)).trans tA.length.symm))
   exact RcNeAt.lists_lengths (A:=A) ⟨ob,S.sub _ _ e1,e2.1,m,e3⟩ ⟨ob',S.sub _ _ w4,xS.1,m',w5⟩ (bne_iff_ne.mpr hlen) (MJ hu)
 |tup h=>
  obtain⟨a,ob,vs,m,rfl,e1,e2,e3,e4⟩:=hx
  obtain⟨a',ob',u5,m',rfl,w4,xS,w5,tA⟩:=hy
  cases iS ((yt e4.length.symm tA.length.symm).trans ⟨congrArg _,D.tup.inj⟩) hb
  exact RcNeAt.tuples (A:=A) ⟨ob,S.sub _ _ e1,e2,m,e3⟩ ⟨ob',S.sub _ _ w4,xS,m',w5⟩ (MJ hu) (Bx e4 tA λi x y hx hy=>λdx dy hb=>(By (h i x y hx hy) dx dy hb S (Qg hu)).2)
theorem yu{n:Nat}{x y:D}{b:Bool}(hl:gf n x y)(hb:b=true↔x≠y)(hn:n<=1000):lp W (cc .NotEq) x y (.bool b):=λA f o s va vb r S ha ro Q E h=>by
 have k:=NL (A:=A) (b:=decide (x=y)) hl ha ro decide_eq_true_iff S (by have:=r.units; exact aX 0x37bc2410847ec480108a72c4a800c201 tt hn this)
 rw[<-decide_not,iS (b:=b) decide_eq_true_iff hb] at k
 exact k W.prog W.w E Q (h _ f _ (.refl f) S rfl)
end
theorem St.grow(S:St W.B f o s){h':Heap}{tk:Tok}(hk:∀b x,s.heap.get? b=some x->h'.get? b=some x):St W.B f o {s with heap:=h',toks:=tk}:=
 ⟨λa x e=>hk _ _ (S.sub a x e),λa x e=>hk _ _ (S.own a x e),S.apart,S.base,λc hc=>let⟨z,hz,hq⟩:=S.tab c hc; ⟨z,hk _ _ hz,hq⟩,S.fo,S.os,S.gens⟩
theorem St.Ek(S:St W.B f o s){h':Heap}{tk:Tok}{a:Addr}{x:Obj}(hk:∀b x,s.heap.get? b=some x->h'.get? b=some x)(ha:s.heap.get? a=none)(hx:h'.get? a=some x):
 f.le (f.put a x)/\St W.B (f.put a x) o {s with heap:=h',toks:=tk}:=by
 have fa:f a=none:=by
  refine none_of λy q=>?_
  have:=S.sub _ _ q; exact iB ha this
 have oa:o a=none:=by
  refine none_of λy q=>?_
  have:=S.own _ _ q; exact iB ha this
 have ta:∀c,W.B.side c->c≠a:=λc hc e=>by obtain⟨z,hz,_⟩:=S.tab c hc; rw[e,ha] at hz; exact nomatch hz
 refine⟨Fz.bP fa,λb y e=>?_,λb y e=>hk _ _ (S.own b y e),λb y e=>?_,S.base.trans (Fz.bP fa),λc hc=>let⟨z,hz,hq⟩:=S.tab c hc; ⟨z,hk _ _ hz,hq⟩,λc hc=>⟨?_,(S.fo c hc).2⟩,S.os,S.gens⟩
 ·by_cases hb:b=a
  ·subst hb; cases nJ (Fz.aJ ..) e; exact hx
  ·rw[Fz.az hb] at e; exact hk _ _ (S.sub b y e)
 ·by_cases hb:b=a
  ·subst hb; exact oa
  ·rw[Fz.az hb] at e; exact S.apart b y e
 ·rw[Fz.az (ta c hc)]; exact(S.fo c hc).1
theorem cV{a b:Int}:lp W (jj .Add) (.int a) (.int b) (.int (a+b)):=λA f o s va vb r S ha hb Q E h=>by
 obtain⟨t,rfl⟩:=ha; obtain⟨u,rfl⟩:=hb; exact PyProof.Rows.add_int (h _ f _ (.refl f) (S.tok _) ⟨_,rfl⟩)
theorem gG{a b:Int}:lp W (jj .Sub) (.int a) (.int b) (.int (a-b)):=λA f o s va vb r S ha hb Q E h=>by
 obtain⟨t,rfl⟩:=ha; obtain⟨u,rfl⟩:=hb; exact PyProof.Rows.sub_int' (h _ f _ (.refl f) (S.tok _) ⟨_,rfl⟩)
set_option tactic.hygienic true in
theorem tB{a b:Int}(ro:b.natAbs<1000000):lp W (jj .Mult) (.int a) (.int b) (.int (a*b)):=λA f o s va vb r S ha hb Q E h=>by
 obtain⟨t,rfl⟩:=ha; obtain⟨u,rfl⟩:=hb; exact PyProof.Rows.mul_int (h _ f _ (.refl f) (S.tok _) ⟨_,rfl⟩) (.of_right (by
  unfold Builtin.Int.intBits
  split
  ·simp[*]
  ·rename_i hz; have HQ:b≠0:=by simpa using hz
   have:=(Nat.log2_lt (n:=b.natAbs) (k:=40) (by exact q28 HQ)).mpr (by(first|lia|omega)); exact aN 0xb12a020109212a0201 tt this))
theorem lJ{a b:Int}(WN:b≠0):lp W (jj .Mod) (.int a) (.int b) (.int (a.fmod b)):=λA f o s va vb r S ha hb Q E h=>by
 obtain⟨t,rfl⟩:=ha; obtain⟨u,rfl⟩:=hb; exact PyProof.Rows.mod_int' WN (h _ f _ (.refl f) (S.tok _) ⟨_,rfl⟩)
theorem lK{a b:Int}(WN:b≠0)(ro:b.natAbs<1000000):lp W (jj .FloorDiv) (.int a) (.int b) (.int (a.fdiv b)):=λA f o s va vb r S ha hb Q E h=>by
 obtain⟨t,rfl⟩:=ha; obtain⟨u,rfl⟩:=hb; exact PyProof.Rows.floordiv_int WN (h _ f _ (.refl f) (S.tok _) ⟨_,rfl⟩) (.inl (PyProof.noPylong_small (by exact aN 0x7d25484a80804248421084212a0201 tt ro)))
theorem w6{a:Int}:yf W (unaryOp .USub) (.int a) (.int (-a)):=λA f o s va r S ha Q E h=>by
 obtain⟨t,rfl⟩:=ha; exact P.neg_int (h _ f _ (.refl f) (S.tok _) ⟨_,rfl⟩)
theorem Bz{a b:Int}:lp W (cc .Lt) (.int a) (.int b) (.bool (decide (a<b))):=λA f o s va vb r S ha hb Q E h=>by
 obtain⟨t,rfl⟩:=ha; obtain⟨u,rfl⟩:=hb; exact P.lt_int (h _ f _ (.refl f) S rfl)
theorem JK{a b:Int}:lp W (cc .LtE) (.int a) (.int b) (.bool (decide (a<=b))):=λA f o s va vb r S ha hb Q E h=>by
 obtain⟨t,rfl⟩:=ha; obtain⟨u,rfl⟩:=hb; exact P.le_int (h _ f _ (.refl f) S rfl)
theorem El{a b:Int}:lp W (cc .Gt) (.int a) (.int b) (.bool (decide (b<a))):=λA f o s va vb r S ha hb Q E h=>by
 obtain⟨t,rfl⟩:=ha; obtain⟨u,rfl⟩:=hb; exact P.gt_int (h _ f _ (.refl f) S rfl)
theorem vO{a b:Int}:lp W (cc .GtE) (.int a) (.int b) (.bool (decide (b<=a))):=λA f o s va vb r S ha hb Q E h=>by
 obtain⟨t,rfl⟩:=ha; obtain⟨u,rfl⟩:=hb; exact P.ge_int (h _ f _ (.refl f) S rfl)
theorem w7{a:Int}:KS W (.int a) (a != 0):=λA f o s v r S ha Q E h=>by
 obtain⟨t,rfl⟩:=ha; exact P.truthy_int (h f s (.refl f) S)
theorem gz{b:Bool}:KS W (.bool b) b:=λA f o s v r S ha Q E h=>by
 obtain rfl:v= .bool b:=ha; exact vD (h f s (.refl f) S)
theorem tC{n:Nat}{x y:D}{b:Bool}(hl:gf n x y)(hb:b=true↔x=y)(hn:n<=1000):lp W (cc .Eq) x y (.bool b):=λA f o s va vb r S ha ro Q E h=>
 (By (A:=A) hl ha ro hb S (by have:=r.units; exact aX 0x37bc2410847ec480108a72c4a800c201 tt hn this)).1 W.prog W.w E Q (h _ f _ (.refl f) S rfl)
open Classical in
theorem among{n:Nat}{x:D}{ds:List D}{vs:List Value}{v:Value}{A:Around}(hl:∀d∈ds,gf n d x)(hd:bQ f ds vs)(hx:Den f x v)(S:St W.B f o s)(hu:A.units+n<8999):
 (∀y,y∈(⟨vs⟩:Array Value)->EqAt A.in1 s y v (decide (Den f x y)))/\((⟨vs⟩:Array Value).any λy=>decide (Den f x y))=decide (x∈ds):=by
 have key:∀d y,d∈ds->Den f d y->(Den f x y↔d=x):=λd y hm h=>⟨λh'=>(hl d hm).inj h h',λe=>e▸h⟩
 refine⟨λy hy=>?_,?_⟩
 ·have NM:y∈vs:=by simpa using hy
  obtain⟨i,hi⟩:=Bg.mp NM
  obtain⟨d,h1,h2⟩:=hd.get' hi
  have hm:=bI h1
  exact(By (hl d hm) h2 hx (by rw[decide_eq_true_iff]; exact key d y hm h2) S (by show A.units+1+n<9000; exact aX 0x29caf2a0410804229cb12a068084201 tt hu)).2
 ·rw[oK,Array.any_eq_true,decide_eq_true_iff]
  constructor
  ·rintro⟨i,hi,h⟩
   rw[decide_eq_true_iff] at h
   have vP:i<vs.length:=hi
   obtain⟨d,h1,h2⟩:=hd.get' (aj vP)
   have hm:=bI h1
   rw[<-(key d _ hm h2).mp h]; exact hm
  ·intro hm
   obtain⟨i,hi⟩:=Bg.mp hm
   obtain⟨y,h1,h2⟩:=hd.get hi
   obtain⟨h3,h4⟩:=cI.mp h1
   exact⟨i,h3,by rw[decide_eq_true_iff]; show Den f x (vs[i]); rw[h4]; exact h2⟩
open Classical in
open Classical in
theorem yv{n:Nat}{x:D}{ds:List D}{b:Bool}(hl:∀d∈ds,gf n d x)(hb:b=true↔x∉ds)(hn:n<=1000):lp W (cc .NotIn) x (.list ds) (.bool b):=λA f o s va vb r S ha ro Q E h=>by
 obtain⟨a,ob,vs,m,rfl,e1,e2,e3,e4⟩:=ro
 obtain⟨h1,h2⟩:=among (A:=A) hl e4 ha S (by have:=r.units; exact aX 0x37bc2410847ec480108a72bca800c201 tt hn this)
 refine notIn_listAt _ ⟨ob,S.sub _ _ e1,e2.1,m,e3⟩ h1 ?_
 rw[h2,yr (a:=!decide (x∈ds)) (by simp) hb]
 exact h _ f _ (.refl f) S rfl
open Classical in
theorem CM{n:Nat}{x:D}{a:Addr}{ds:List D}{b:Bool}(hl:∀d∈ds,gf n d x)(hb:b=true↔x∉ds)(hn:n<=1000):Ag W (λf o=>k9 f o a ds) (cc .NotIn) x (.raw (.ref a)) (.bool b):=λA f o s va vb r S hI ha ro Q E h=>by
 obtain rfl:vb= .ref a:=ro
 obtain⟨vs,e1,e4⟩:=hI.isList S
 obtain⟨h1,h2⟩:=among (A:=A) hl e4 ha S (by have:=r.units; exact aX 0x37bc2410847ec480108a72bca800c201 tt hn this)
 refine notIn_listAt _ e1 h1 ?_
 rw[h2,yr (a:=!decide (x∈ds)) (by simp) hb]
 exact h _ f _ (.refl f) S rfl
theorem aR:kT (.type "list") "__getitem__" =pure (some (.builtin "list.__getitem__")):=slot_list_getitem.lookup
theorem cu:kT (.type "tuple") "__getitem__" =pure (some (.builtin "tuple.__getitem__")):=PySem.F.slot_tuple_getitem.lookup
theorem bY{ds:List D}{i:Nat}{d:D}(hi:ds[i]? =some d)(hs:i<1000000):lp W dI (.list ds) (.int i) d:=λA f o s va vb r S ha hb Q E h=>by
 obtain⟨t,rfl⟩:=hb
 obtain⟨a,ob,vs,m,rfl,e1,e2,e3,e4⟩:=ha
 obtain⟨v,h1,h2⟩:=e4.get hi
 exact wpAny_getItem_list (items:=⟨vs⟩) ⟨ob,S.sub _ _ e1,e2.1,m,e3⟩ (by(first|lia|omega)) (by exact QT hs) (by simpa using h1) (h v f s (.refl f) S h2)
theorem Em{ds:List D}{i:Int}{k:Nat}{d:D}(hk:i=-(k:Int))(h0:0<k)(NN:k<=ds.length)(hs:k<1000000)(hi:ds[ds.length-k]? =some d):lp W dI (.list ds) (.int i) d:=λA f o s va vb r S ha hb Q E h=>by
 obtain⟨t,rfl⟩:=hb
 obtain⟨a,ob,vs,m,rfl,e1,e2,e3,e4⟩:=ha
 obtain⟨v,h1,h2⟩:=e4.get hi
 have hl:(⟨vs⟩:Array Value).size=ds.length:=e4.length
 refine GO (items:=⟨vs⟩) ⟨ob,S.sub _ _ e1,e2.1,m,e3⟩ (by exact YW hk h0 hs) (by exact YX hk NN hl) (by exact YZ hk h0 hs) ?_ (h v f s (.refl f) S h2)
 rw[show(i+((⟨vs⟩:Array Value).size:Int)).toNat=ds.length-k by exact Y0 hk NN hl]
 simpa using h1
theorem tD{a:Addr}{ds:List D}{i:Nat}{d:D}(hi:ds[i]? =some d)(hs:i<1000000):Ag W (λf o=>k9 f o a ds) dI (.raw (.ref a)) (.int i) d:=λA f o s va vb r S hI ha hb Q E h=>by
 obtain⟨t,rfl⟩:=hb
 obtain rfl:va= .ref a:=ha
 obtain⟨vs,e1,e4⟩:=hI.isList S
 obtain⟨v,h1,h2⟩:=e4.get hi
 exact wpAny_getItem_list (items:=⟨vs⟩) e1 (by(first|lia|omega)) (by exact QT hs) (by simpa using h1) (h v f s (.refl f) S h2)
theorem vQ{a:Addr}{ds:List D}{i:Int}{k:Nat}{d:D}(hk:i=-(k:Int))(h0:0<k)(NN:k<=ds.length)(hs:k<1000000)(hi:ds[ds.length-k]? =some d):Ag W (λf o=>k9 f o a ds) dI (.raw (.ref a)) (.int i) d:=λA f o s va vb r S hI ha hb Q E h=>by
 obtain⟨t,rfl⟩:=hb
 obtain rfl:va= .ref a:=ha
 obtain⟨vs,e1,e4⟩:=hI.isList S
 obtain⟨v,h1,h2⟩:=e4.get hi
 have hl:(⟨vs⟩:Array Value).size=ds.length:=e4.length
 refine GO (items:=⟨vs⟩) e1 (by exact YW hk h0 hs) (by exact YX hk NN hl) (by exact YZ hk h0 hs) ?_ (h v f s (.refl f) S h2)
 rw[show(i+((⟨vs⟩:Array Value).size:Int)).toNat=ds.length-k by exact Y0 hk NN hl]
 simpa using h1
theorem fw{ds:List D}{i:Nat}{d:D}(hi:ds[i]? =some d)(hs:i<1000000):lp W dI (.tup ds) (.int i) d:=λA f o s va vb r S ha hb Q E h=>by
 obtain⟨t,rfl⟩:=hb
 obtain⟨a,ob,vs,m,rfl,e1,e2,e3,e4⟩:=ha
 obtain⟨v,h1,h2⟩:=e4.get hi
 have hl:vs.length=ds.length:=e4.length
 have HR:=(cI.mp hi).1
 refine PyProof.Rows.getItem_tuple (items:=⟨vs⟩) (j:=i) ⟨ob,S.sub _ _ e1,e2,m,e3⟩ (by exact q39) (by exact QT hs) ?_ (by simpa using h1) (h v f s (.refl f) S h2)
 have h3:(⟨vs⟩:Array Value).size=ds.length:=hl
 rw[h3]
 unfold seqIndex?
 have h4:¬((i:Int)<0):=by exact q40 hs
 have h5:(i:Int)<(ds.length:Int):=by exact je 0x1a02010851002161 tt HR
 simp[h4,h5,HR]
theorem BA{a:Addr}{ds:List D}:∀(f o:Fz) s v,St W.B f o s->k9 f o a ds->Den f (.raw (.ref a)) v->s.TypeIs v "list":=λf o s v S h hv=>by
 obtain rfl:v= .ref a:=hv
 obtain⟨vs,h1,_⟩:=h.isList S
 exact h1.typeIs
theorem jQ{A:Around}{ds:List D}(hs:ds.length<1000000):l7 W A (.builtin "len") [.list ds] (.int ds.length):=λf o s vs S hd Q E h=>by
 obtain⟨v,r,rfl,⟨a,ob,vs,m,rfl,e1,e2,e3,e4⟩,rfl⟩:=hd
 have hl:(⟨vs⟩:Array Value).size=ds.length:=e4.length
 refine Cy (items:=⟨vs⟩) ⟨ob,S.sub _ _ e1,e2.1,m,e3⟩ (by exact QU hs hl) ?_
 rw[hl]; exact h _ f _ (.refl f) (S.tok _) ⟨_,rfl⟩
theorem ql{A:Around}{a:Addr}{ds:List D}(hs:ds.length<1000000):Ei W (λf o=>k9 f o a ds) A (.builtin "len") [.raw (.ref a)] (.int ds.length):=λf o s vs S hI hd Q E h=>by
 obtain⟨v,r,rfl,hv,rfl⟩:=hd
 obtain rfl:v= .ref a:=hv
 obtain⟨vs,e1,e4⟩:=hI.isList S
 have hl:(⟨vs⟩:Array Value).size=ds.length:=e4.length
 refine Cy (items:=⟨vs⟩) e1 (by exact QU hs hl) ?_
 rw[hl]; exact h _ f _ (.refl f) (S.tok _) ⟨_,rfl⟩
theorem yw{A:Around}{ds:List D}(hs:ds.length<1000000):l7 W A (.builtin "len") [.tup ds] (.int ds.length):=λf o s vs S hd Q E h=>by
 obtain⟨v,r,rfl,⟨a,ob,vs,m,rfl,e1,e2,e3,e4⟩,rfl⟩:=hd
 have hl:(⟨vs⟩:Array Value).size=ds.length:=e4.length
 refine PyProof.Rows.len_tuple (items:=⟨vs⟩) ⟨ob,S.sub _ _ e1,e2,m,e3⟩ (by exact QU hs hl) ?_
 rw[hl]; exact h _ f _ (.refl f) (S.tok _) ⟨_,rfl⟩
theorem tE{A:Around}{x:Str}(hs:x.length<1000000):l7 W A (.builtin "len") [.str x] (.int x.length):=λf o s vs S hd Q E h=>by
 obtain⟨v,r,rfl,⟨t,rfl⟩,rfl⟩:=hd
 exact P.len_str (by exact q43 hs) (h _ f _ (.refl f) (S.tok _) ⟨_,rfl⟩)
theorem og:∀{ns:List Int} {vs:List Value},bQ f (ns.map .int) vs->IntsAre vs ns
 |[],_,e=>by rw[show _=[] from e]; exact .nil
 |n::ns,_,⟨v,r,e,⟨t,ht⟩,h⟩=>by subst e; subst ht; exact .cons n t (og h)
noncomputable def tF:List Int->Int
 |[]=>0
 |a::l=>l.foldl max a
noncomputable def En:List Int->Int
 |[]=>0
 |a::l=>l.foldl min a
theorem foldl_max(l:List Int):∀a,(l.foldl max a=a\/l.foldl max a∈l)/\a<=l.foldl max a/\∀b∈l,b<=l.foldl max a:=by
 induction l with
 |nil=>intro a; simp
 |cons x l ih=>
  intro a
  obtain⟨h1,h2,h3⟩:=ih (max a x)
  rw[ei]
  refine⟨?_,by exact q44 h2,λb hb=>?_⟩
  ·rcases h1 with h1|h1
   ·rw[h1]
    rcases cT a x with h|h
    ·right; rw[dW h]; exact .head _
    ·left; rw[et h]
   ·exact .inr (.tail _ h1)
  ·rcases au.mp hb with rfl|hb
   ·exact q45 h2
   ·exact h3 b hb
theorem foldl_min(l:List Int):∀a,(l.foldl min a=a\/l.foldl min a∈l)/\l.foldl min a<=a/\∀b∈l,l.foldl min a<=b:=by
 induction l with
 |nil=>intro a; simp
 |cons x l ih=>
  intro a
  obtain⟨h1,h2,h3⟩:=ih (min a x)
  rw[ei]
  refine⟨?_,by exact q46 h2,λb hb=>?_⟩
  ·rcases h1 with h1|h1
   ·rw[h1]
    rcases cT a x with h|h
    ·left; rw[KD h]
    ·right; rw[Jz h]; exact .head _
   ·exact .inr (.tail _ h1)
  ·rcases au.mp hb with rfl|hb
   ·exact q47 h2
   ·exact h3 b hb
theorem kI{l:List Int}(h:l≠[]):tF l∈l:=by
 cases l with
 |nil=>exact absurd rfl h
 |cons a l=>
  rcases(foldl_max l a).1 with e|e
  ·rw[show tF (a::l)=a from e]; exact .head _
  ·exact .tail _ e
theorem lr{l:List Int}{a:Int}(h:a∈l):a<=tF l:=by
 cases l with
 |nil=>exact nomatch h
 |cons x l=>
  rcases au.mp h with rfl|h
  ·exact(foldl_max l a).2.1
  ·exact(foldl_max l x).2.2 a h
theorem tG{l:List Int}(h:l≠[]):En l∈l:=by
 cases l with
 |nil=>exact absurd rfl h
 |cons a l=>
  rcases(foldl_min l a).1 with e|e
  ·rw[show En (a::l)=a from e]; exact .head _
  ·exact .tail _ e
theorem BB{l:List Int}{a:Int}(h:a∈l):En l<=a:=by
 cases l with
 |nil=>exact nomatch h
 |cons x l=>
  rcases au.mp h with rfl|h
  ·exact(foldl_min l a).2.1
  ·exact(foldl_min l x).2.2 a h
theorem jR{A:Around}{a b:Int}(hh:A.handled=none):l7 W A (.builtin "max") [.int a, .int b] (.int (max a b)):=λf o s vs S hd Q E h=>by
 obtain⟨v,r,rfl,⟨t,rfl⟩,v2,r2,rfl,⟨u,rfl⟩,rfl⟩:=hd
 refine max_two_ints hh λh' tk hk=>h _ f _ (.refl f) (S.grow hk) ?_
 split
 ·exact⟨u,by congr 1; exact q48 ‹_›⟩
 ·exact⟨t,by congr 1; exact q49 ‹_›⟩
theorem oh{A:Around}{ns:List Int}(hh:A.handled=none)(ea:ns≠[]):l7 W A (.builtin "max") [.list (ns.map .int)] (.int (tF ns)):=λf o s vs S hd Q E h=>by
 obtain⟨v,r,rfl,⟨a,ob,vs,m,rfl,e1,e2,e3,e4⟩,rfl⟩:=hd
 have hi:=og e4
 obtain⟨xs,e⟩:=hi.allInts.items
 have wR:ns=xs.toList.map (·.1):=by rw[<-hi.numsOf,<-Ds,<-e]
 have h3:0<ns.length:=iA.mpr ea
 have fB:0<xs.size:=by rw[wR,ai,fh] at h3; exact h3
 have hl:s.heap.IsList a ⟨vs⟩:=⟨ob,S.sub _ _ e1,e2.1,m,e3⟩
 rw[show(⟨vs⟩:Array Value)=intItems xs from e] at hl
 refine max_intList hh hl fB λv h' tk hv hk=>?_
 obtain⟨t,rfl⟩:=intItems_at hv
 obtain⟨h1,h2⟩:=argBest_gt (numAt xs) (xs.size-1)
 refine h _ f _ (.refl f) (S.grow hk) ⟨t,?_⟩
 congr 1
 apply aE
 ·refine lr ?_
  rw[wR,Ju]; exact getD_mem (by rw[ai,fh]; exact Y1 fB h1)
 ·have hm:=kI ea
  rw[wR] at hm
  obtain⟨j,hj,e⟩:=mem_getD hm
  rw[ai,fh] at hj
  rw[wR,<-e,<-Ju]; exact h2 j (by exact Y2 fB hj)
theorem Eo{A:Around}{ns:List Int}(hh:A.handled=none)(ea:ns≠[]):l7 W A (.builtin "min") [.list (ns.map .int)] (.int (En ns)):=λf o s vs S hd Q E h=>by
 obtain⟨v,r,rfl,⟨a,ob,vs,m,rfl,e1,e2,e3,e4⟩,rfl⟩:=hd
 have hi:=og e4
 obtain⟨xs,e⟩:=hi.allInts.items
 have wR:ns=xs.toList.map (·.1):=by rw[<-hi.numsOf,<-Ds,<-e]
 have h3:0<ns.length:=iA.mpr ea
 have fB:0<xs.size:=by rw[wR,ai,fh] at h3; exact h3
 have hl:s.heap.IsList a ⟨vs⟩:=⟨ob,S.sub _ _ e1,e2.1,m,e3⟩
 rw[show(⟨vs⟩:Array Value)=intItems xs from e] at hl
 refine min_intList hh hl fB λv h' tk hv hk=>?_
 obtain⟨t,rfl⟩:=intItems_at hv
 obtain⟨h1,h2⟩:=argBest_lt (numAt xs) (xs.size-1)
 refine h _ f _ (.refl f) (S.grow hk) ⟨t,?_⟩
 congr 1
 apply aE
 ·have hm:=tG ea
  rw[wR] at hm
  obtain⟨j,hj,e⟩:=mem_getD hm
  rw[ai,fh] at hj
  rw[wR,<-e,<-Ju]; exact h2 j (by exact Y2 fB hj)
 ·refine BB ?_
  rw[wR,Ju]; exact getD_mem (by rw[ai,fh]; exact Y1 fB h1)
theorem BC{A:Around}{ns:List Int}(hh:A.handled=none):l7 W A (.builtin "sum") [.list (ns.map .int)] (.int ns.sum):=λf o s vs S hd Q E h=>by
 obtain⟨v,r,rfl,⟨a,ob,vs,m,rfl,e1,e2,e3,e4⟩,rfl⟩:=hd
 have hi:=og e4
 obtain⟨xs,e⟩:=hi.allInts.items
 have wR:ns=xs.toList.map (·.1):=by rw[<-hi.numsOf,<-Ds,<-e]
 have hl:s.heap.IsList a ⟨vs⟩:=⟨ob,S.sub _ _ e1,e2.1,m,e3⟩
 rw[show(⟨vs⟩:Array Value)=intItems xs from e] at hl
 refine sum_intListG hh hl λh' tk t' hk=>?_
 refine h _ f _ (.refl f) (S.grow hk) ⟨t',?_⟩
 rw[preSum_eq,df (by simp),wR]
end
end
section
open PySem PySem.W PyProof.Rows PySem.SeqAt PySem.Builtin PySem.Builtin.Str
section
variable {W:Wd}{C:Cx}{ρ a9:Ro}{f o:Fz}{s:Shared}
noncomputable def qm(ds:List D)(lo hi st:Option Int):List D:=((m6 (dF lo hi st ds.length).1 (dF lo hi st ds.length).2.1 (dF lo hi st ds.length).2.2).filterMap (ds[·]?))
theorem bQ.pick{ds:List D}{vs:List Value}(h:bQ f ds vs):∀idx:List Nat,bQ f (idx.filterMap (ds[·]?)) (idx.filterMap (vs[·]?))
 |[]=>rfl
 |i::r=>by
  rw[qc,qc]
  cases hd:ds[i]? with
  |none=>
   have:vs[i]? =none:=by
    rw[me] at hd ⊢; rw[h.length]; exact hd
   rw[this]; exact bQ.pick h r
  |some d=>
   obtain⟨v,h1,h2⟩:=h.get hd
   rw[h1]; exact⟨v,_,rfl,h2,bQ.pick h r⟩
noncomputable def tH(v:Value)(x:Option Int):Prop:=match x with|some i=>∃t,v= .int i t|aD=>v= .none
theorem tH.is{v:Value}{x:Option Int}(h:tH v x):IsPart v x:=by
 cases x with
 |none=>rw[show v= .none from h]; exact .none
 |some i=>obtain⟨t,rfl⟩:=h; exact .int i t
noncomputable def HS(W:Wd)(da:D)(ds:List D):Prop:=∀f o s v,St W.B f o s->Den f da v->∃a vs,v= .ref a/\s.heap.IsList a ⟨vs⟩/\bQ f ds vs
theorem w8{ds:List D}:HS W (.list ds) ds:=λf o s v S ⟨a,ob,vs,n,e,e1,e2,e3,e4⟩=>⟨a,vs,e,⟨ob,S.sub _ _ e1,e2.1,n,e3⟩,e4⟩
theorem tI(S:St W.B f o s)(H:bc C ρ f o){lo hi st:Option Expr}{l h t:Option Int}{p:Pos}(pl:zx W C ρ lo l)(ph:zx W C ρ hi h)(ps:zx W C ρ st t){Q:Value->Shared->Prop}{E:Value->Shared->Prop}
 (hQ:∀vl vh vt f' s',f.le f'->St W.B f' o s'->tH vl l->tH vh h->tH vt t->Q (.ref s'.heap.objs.size) {s' with heap:=s'.heap.push {cls:= .type "slice",data:= .fields #[vl,vh,vt]}}):
 wpAny W.M C.A (eval (.Slice lo hi st p) C.env) Q E s:=
 wpAny_Slice (pl f o s S H _ _ λvl f1 s1 l1 S1 h1=>ph f1 o s1 S1 (H.mono l1 (.refl o)) _ _ λvh f2 s2 l2 S2 h2=>ps f2 o s2 S2 (H.mono (l1.trans l2) (.refl o)) _ _ λvt f3 s3 l3 S3 h3=>hQ vl vh vt f3 s3 (l1.trans (l2.trans l3)) S3 h1 h2 h3)
theorem eg.slice{value:Expr}{lo hi st:Option Expr}{l h t:Option Int}{p pos:Pos}{da:D}{ds:List D}{ops:Value->Value->List Value}(hv:eg W C ρ value da)(hL:HS W da ds)(pl:zx W C ρ lo l)(ph:zx W C ρ hi h)(ps:zx W C ρ st t)(h0:t≠some 0)(fB:ds.length<=1000000)
 (hs:∀o i,subscripted (.Slice lo hi st p) false o i=operate (ops o i) (dI o i)):eg W C ρ (.Subscript value (.Slice lo hi st p) pos) (.list (qm ds l h t)):=λf o s S H Q E hQ=>by
 rw[nY]
 refine aa (hv f o s S H _ _ λv f1 s1 l1 S1 d1=>aa (aL (tI S1 (H.mono l1 (.refl o)) pl ph ps λvl vh vt f2 s2 l2 S2 h1 h2 h3=>aa (aZ ?_))))
 obtain⟨a,vs,rfl,g1,g2⟩:=hL _ _ _ _ S2 (d1.mono l2)
 have S3:=S2.gV {cls:= .type "slice",data:= .fields #[vl,vh,vt]}
 have WO:(⟨vs⟩:Array Value).size<=lg:=by rw[bu]; show vs.length<=_; rw[g2.length]; exact aN 0x3e92a4240084308421084801 tt fB
 refine A2 (g1.push _).typeIs aR (wpAny_getItem_list_slice (g1.push _) (Heap.IsSliceOf.new ..) h1.is h2.is h3.is h0 ?_ WO) (hs _ _)
 have S4:=(S3.drop (o':=o) (Fz.bP S2.eZ)).ju {cls:= .type "list",data:= .seq (slicePick ⟨vs⟩ l h t)}
 have lf:=Fz.bP (o:={cls:= .type "list",data:= .seq (slicePick ⟨vs⟩ l h t)}) (S3.drop (o':=o) (Fz.bP S2.eZ)).gQ
 refine hQ _ _ _ (l1.trans (l2.trans lf)) S4 ⟨_,_,_,0,rfl,Fz.aJ ..,⟨rfl,rfl,rfl⟩,rfl,?_⟩
 have e:(⟨vs⟩:Array Value).size=ds.length:=g2.length
 have e2:(λi:Nat=>(⟨vs⟩:Array Value)[i]?)=λi:Nat=>vs[i]? :=by funext i; simp
 unfold qm
 rw[e,e2]
 exact(g2.pick _).mono lf
noncomputable def aS(l:List Nat):Str:=⟨⟨l⟩⟩
theorem qo{a b:List Nat}(h:aS a=aS b):a=b:=by injection h with h; injection h
theorem eS(l:List Nat):(aS l).length=l.length:=rfl
theorem sD(a b:List Nat):aS a++aS b=aS (a++b):=by
 show(⟨(⟨a⟩:Array Nat)++ ⟨b⟩⟩:Str)=_
 simp[aS]
set_option tactic.hygienic true in
theorem Ep(l:List Nat)(a b:Nat):Txt.slice (aS l) (some a) (some b)=aS ((l.drop a).take (b-a)):=by
 have hi:lV (some (a:Int)) (some (b:Int)) 1 l.length=(aB (min b l.length-min a l.length)).map (min a l.length+ ·):=by
  have:lV (some (a:Int)) (some (b:Int)) 1 l.length=m6 ((min a l.length:Nat):Int) ((min b l.length:Nat):Int) 1:=by
   unfold lV
   simp only[show(1:Int)>0 by decide,if_true]
   rw[if_neg (by(first|lia|omega)),if_neg (by(first|lia|omega))]
   congr 1<;>exact QV
  rw[this,A3]
 have hp:=pick_run (⟨l⟩:Array Nat) (min a l.length) (min b l.length-min a l.length)
 have key:(l.drop (min a l.length)).take (min b l.length-min a l.length)=(l.drop a).take (b-a):=by
  rcases fA a l.length with ha|ha
  ·rw[kW ha]
   rcases fA b l.length with hb|hb
   ·rw[kW hb]
   ·rw[iw hb,df (by simp),df (by simp; exact q54 hb)]
  ·rw[iw ha,gD (bL _),gD ha]; simp
 unfold Txt.slice
 split
 ·rename_i hc
  have hl:(lV (some (a:Int)) (some (b:Int)) 1 l.length).length=l.length:=by simpa [eS] using hc
  rw[hi] at hl
  simp only[ai,ec] at hl
  rw[<-key]
  unfold aS
  rw[hl,df (by simp)]
  rcases Nat.eq_zero_or_pos l.length with h0|h0
  ·have:l=[]:=i7.mp h0
   subst this; simp
  ·have:min a l.length=0:=by exact q55 hl h0
   rw[this,wO]
 ·show(⟨((lV (some (a:Int)) (some (b:Int)) 1 l.length).filterMap ((⟨l⟩:Array Nat)[·]?)).toArray⟩:Str)=_
  rw[hi,hp,key]; rfl
theorem eg.La{value:Expr}{lo hi:Option Expr}{a b:Nat}{p pos:Pos}{x:List Nat}{ops:Value->Value->List Value}(hv:eg W C ρ value (.str (aS x)))(pl:zx W C ρ lo (some a))(ph:zx W C ρ hi (some b))(fB:x.length<=1000000)
 (hs:∀o i,subscripted (.Slice lo hi aD p) false o i=operate (ops o i) (dI o i)):eg W C ρ (.Subscript value (.Slice lo hi aD p) pos) (.str (aS ((x.drop a).take (b-a)))):=λf o s S H Q E hQ=>by
 rw[nY]
 refine aa (hv f o s S H _ _ λv f1 s1 l1 S1 d1=>aa (aL (tI S1 (H.mono l1 (.refl o)) pl ph zx.none λvl vh vt f2 s2 l2 S2 h1 h2 h3=>aa (aZ ?_))))
 obtain⟨t,rfl⟩:=d1
 obtain⟨i,rfl⟩:=h1
 obtain⟨j,rfl⟩:=h2
 obtain rfl:vt= .none:=h3
 have S3:=(S2.gV {cls:= .type "slice",data:= .fields #[.int a i, .int b j, .none]}).drop (o':=o) (Fz.bP S2.eZ)
 have key:=SBH.sliceItem_ss (prog:=W.prog) (w:=W.w) (A:=C.A) (E:=E) (P:=λh'=>∀c y,s2.heap.get? c=some y->h'.get? c=some y) (s:=s2) (x:=aS x) (t:=t) (i:=a) (j:=b) (ui:=i) (uj:=j) (Q:=Q)
  (λh ob hk c y e=>aH _ (hk c y e)) (λ_ _ e=>e) (λh' t' k hk=>hQ _ f2 _ (l1.trans l2) (S2.grow hk) ⟨t',by rw[Ep]⟩) (by rw[bu,eS]; exact aN 0x3e92a4240084308421084801 tt fB)
 obtain⟨T,id,k1,k2,k3⟩:=key
 exact A2 k2 k1 k3 (hs _ _)
theorem gR{x y:List Nat}(hs:x.length+y.length<=1000000):lp W (jj .Add) (.str (aS x)) (.str (aS y)) (.str (aS (x++y))):=λA f o s va vb r S ha hb Q E h=>by
 obtain⟨t,rfl⟩:=ha; obtain⟨u,rfl⟩:=hb
 exact uW (λt' k=>h _ f _ (.refl f) (S.tok _) ⟨t',by rw[sD]⟩) (by rw[bu,eS,eS]; exact aX 0x3e92a4241040210c2108421208201 tt hs)
noncomputable def rep(n:Nat)(x:List Nat):List Nat:=(bf n x).flatten
theorem tJ(x:List Nat):∀(n:Nat) (a:Array Nat),((bf n (⟨x⟩:Array Nat)).foldl (·++ ·) a).toList=a.toList++rep n x
 | 0,a=>by simp[rep]
 |n+1,a=>by
  rw[bM,ei,tJ x n]
  simp[rep,bM]
set_option tactic.hygienic true in
theorem Lb(x:List Nat)(n:Int):Txt.mul (aS x) n=aS (rep n.toNat x):=by
 unfold Txt.mul
 split
 ·have:n.toNat=0:=by exact q57 ‹_›
  rw[this]; rfl
 ·split
  ·rename_i h1 h2
   rcases iO _ _▸h2 with h|h
   ·have:n=1:=by simpa using h
    subst this; simp[rep]
   ·have:x=[]:=by simpa [eS] using h
    subst this; unfold rep; simp[aS]
  ·unfold aS
   congr 1
   apply G4.mp
   rw[tJ]; simp
theorem NO(x:List Nat)(n:Int)(h1:x.length<=1000)(h2:n<=1000)(h3:-1000<=n):MulOk (aS x) n:=by
 refine⟨by simp; exact q58 h2 h3,λa b=>?_,λa b=>?_⟩
 ·have h4:(2 ^ 63-1) / n>=1000:=by
   rw[ge_iff_le,Int.le_ediv_iff_mul_le (by exact q59 h2 h3 a)]; exact q60 h2 h3 a
  show ¬((x.length:Int)>_); exact q61 h1 h4
 ·show GP (x.length*n.toNat)=false
  unfold GP
  have:x.length*n.toNat<=1000*1000:=p8 h1 (by exact Y3 h2)
  simp; unfold lg; exact q63 this
theorem oN{x:List Nat}{n:Int}(h1:x.length<=1000)(h2:n<=1000)(h3:-1000<=n):lp W (jj .Mult) (.str (aS x)) (.int n) (.str (aS (rep n.toNat x))):=λA f o s va vb r S ha hb Q E h=>by
 obtain⟨t,rfl⟩:=ha; obtain⟨u,rfl⟩:=hb
 exact SB.mul (NO x n h1 h2 h3) λt' k=>h _ f _ (.refl f) (S.tok _) ⟨t',by rw[Lb]⟩
theorem iT{x:List Nat}{i:Nat}{c:Nat}(hi:x[i]? =some c)(hs:x.length<1000000):lp W dI (.str (aS x)) (.int i) (.str (aS [c])):=λA f o s va vb r S ha hb Q E h=>by
 obtain⟨t,rfl⟩:=ha; obtain⟨u,rfl⟩:=hb
 have HR:=(cI.mp hi).1
 refine P.getItem_str (c:=c) (by simp; exact je 0x2818042fa4a909501008510842108421084210841300a161 tt hs HR) ?_ (h _ f _ (.refl f) (S.tok _) ⟨_,rfl⟩)
 have h4:¬((i:Int)<0):=by(first|lia|omega)
 have:seqIndex? (i:Int) (aS x).length=some i:=by
  unfold seqIndex?
  simp[h4,eS,HR]
 rw[this]
 show(⟨x⟩:Array Nat)[i]? =some c
 simpa using hi
theorem fK:kT (.type "str") "__getitem__" =pure (some (.builtin "str.__getitem__")):=PySem.F.slot_str_getitem.lookup
theorem tK{x y:List Nat}:lp W (cc .Eq) (.str (aS x)) (.str (aS y)) (.bool (decide (x=y))):=tC (n:=0) .str (by rw[decide_eq_true_iff]; exact⟨λe=>by rw[e],λe=>qo (by injection e)⟩) (by simp[*])
theorem hZ{x y:Int}:lp W (cc .Eq) (.int x) (.int y) (.bool (decide (x=y))):=tC (n:=0) .int (by rw[decide_eq_true_iff]; exact⟨λe=>by rw[e],λe=>by injection e⟩) (by(first|lia|omega))
theorem qp{xs ys:List D}(hs:xs.length+ys.length<=1000000):lp W (jj .Add) (.list xs) (.list ys) (.list (xs++ys)):=λA f o s va vb r S ha hb Q E h=>by
 obtain⟨a,ob,vs,m,rfl,e1,e2,e3,e4⟩:=ha
 obtain⟨a',ob',u5,m',rfl,w4,xS,w5,tA⟩:=hb
 obtain⟨c,d,dt,sl⟩:=ob
 obtain⟨c',d',dt',WQ⟩:=ob'
 obtain⟨h1,h2,h3⟩:=e2
 obtain⟨NP,zz,Lc⟩:=xS
 dsimp only at h1 h2 h3 NP zz Lc e3 w5
 subst h1 h2 h3 NP zz Lc e3 w5
 have l1:=e4.length
 have l2:=tA.length
 refine concat_meets ⟨_,S.sub _ _ e1,rfl⟩ ⟨_,S.sub _ _ w4,rfl⟩ noFill_list_add seq_list_add xY xI (wM _ _)
  (list_addW a a' ⟨vs⟩ ⟨u5⟩ m m' aD aD #[] #[] (by rw[bu]; show vs.length+u5.length<=_; exact hK 0x461080410be92a4241040210c2108421218a01 tt hs (ah l1) (ah l2))) ⟨S.sub _ _ e1,S.sub _ _ w4,?_⟩
 exact h _ _ _ (Fz.bP S.gQ) (S.ju _) ⟨_,_,vs++u5,0,rfl,Fz.aJ ..,⟨rfl,rfl,rfl⟩,by simp,(e4.append tA).mono (Fz.bP S.gQ)⟩
theorem St.upd(S:St W.B f o s){h':Heap}{tk:Tok}{o':Fz}(T:Addr->Prop)(hk:∀b x,¬T b->s.heap.get? b=some x->h'.get? b=some x)(ht:∀b,T b->o b≠none)
 (WR:∀b x,o' b=some x->(T b/\h'.get? b=some x)\/(¬T b/\o b=some x)):St W.B f o' {s with heap:=h',toks:=tk}:=by
 have tn:∀c,W.B.side c->¬T c:=λc hc t=>ht _ t (S.fo c hc).2
 have fn:∀a x,f a=some x->¬T a:=λa x e t=>ht _ t (S.apart a x e)
 refine⟨λa x e=>hk _ _ (fn a x e) (S.sub a x e),λa x e=>?_,λa x e=>?_,S.base,?_,λc hc=>⟨(S.fo c hc).1,?_⟩,S.os,S.gens⟩
 ·rcases WR a x e with⟨_,h⟩|⟨h1,h2⟩
  ·exact h
  ·exact hk _ _ h1 (S.own a x h2)
 ·refine none_of λy q=>?_
  rcases WR a y q with⟨h,_⟩|⟨_,h⟩
  ·exact absurd h (fn a x e)
  ·exact iB (S.apart a x e) h
 ·exact λc hc=>let⟨z,hz,hq⟩:=S.tab c hc; ⟨z,hk _ _ (tn c hc) hz,hq⟩
 ·refine none_of λy q=>?_
  rcases WR _ y q with⟨h,_⟩|⟨_,h⟩
  ·exact absurd h (tn c hc)
  ·exact iB ((S.fo c hc).2) h
noncomputable def signs(x:List Nat):List D:=x.map λc=> .str (aS [c])
theorem Er{eO:Expr}{it:Addr}{x:List Nat}{t:Tok}:∀{xs:List Nat} {i:Nat} {f:Fz} {ob:Obj},x.drop i=xs->ob.cls= .type "str_ascii_iterator" ->ob.data= .fields #[.str (aS x) t, .int i 0]->oZ W eO (signs xs) (one it ob) f (.ref it)
 |[],i,f,ob,h4,h5,h6=>λA f' o s Q E hh r l1 wl S h=>by
  have hit:=S.own _ _ (wl _ _ (bW ..))
  refine wpAny_pyNext_ascii_end hh ⟨_,hit,h5,h6⟩ (by show(⟨x⟩:Array Nat)[i]? =none; simpa using drop_nil h4) λh' he=>?_
  exact h _ _ (S.ext (wl _ _ (bW ..)) he) (oY.del (by rw[bW]; simp))
 |c::xs,i,f,ob,h4,h5,h6=>λA f' o s Q E hh r l1 wl S h=>by
  obtain⟨e1,e2⟩:=drop_cons h4
  have D8:=wl _ _ (bW it _)
  refine wpAny_pyNext_ascii_item ⟨_,S.own _ _ D8,h5,h6⟩ (c:=c) (by show(⟨x⟩:Array Nat)[i]? =some c; simpa using e1) λh' yh hs=>?_
  obtain⟨ob',g1,g2,g3⟩:=yh
  refine⟨_,rfl,iP g1 g2 (by decide) ?_⟩
  refine h _ f' _ _ _ (.refl f') ((S.same D8 hs g1).tok _) (oY.put (by rw[bW]; simp)) (one_le (Fz.aJ ..)) (λa ha=>?_) ⟨_,rfl⟩ (Er e2 g2 g3)
  rw[mH ha,bW]; exact .inl (by exact nofun)
theorem BD{x:List Nat}(hx:x.all (·<128)=true):KV W (.str (aS x)) (signs x):=λeO A f o s v r S hd Q E h=>by
 obtain⟨t,rfl⟩:=hd
 refine wpAny_pyIter_ascii (by show(⟨x⟩:Array Nat).all (·<128)=true; simpa using hx) ?_
 exact h _ (one s.heap.objs.size _) f _ _ (.refl f) (S.gV _) (Fz.bP S.eZ) (one_le (Fz.aJ ..)) (λa ha=>by rw[mH ha]; exact S.eZ) (Er (x:=x) (i:=0) rfl rfl rfl)
  λA f' o s Q E l1 wl S h=>wpAny_pyIter_striter_ascii (i:=0) ⟨_,S.own _ _ (wl _ _ (bW ..)),rfl,rfl⟩ h
theorem mI{A:Around}{n:Int}:l7 W A (.type "range") [.int n] (.Bo 0 n):=λf o s vs S hd Q E h=>by
 obtain⟨v,r,rfl,⟨t,rfl⟩,rfl⟩:=hd
 exact call_range_1 (h _ _ _ (Fz.bP S.gQ) ((S.ju _).tok _) ⟨_,_,_,_,rfl,Fz.aJ ..⟩)
theorem kJ{A:Around}{a b:Int}:l7 W A (.type "range") [.int a, .int b] (.Bo a b):=λf o s vs S hd Q E h=>by
 obtain⟨v,r,rfl,⟨t,rfl⟩,v2,r2,rfl,⟨u,rfl⟩,rfl⟩:=hd
 exact call_range_2 (h _ _ _ (Fz.bP S.gQ) ((S.ju _).tok _) ⟨_,_,_,_,rfl,Fz.aJ ..⟩)
theorem kK{a b:Int}{n:Nat}(h:n=(b-a).toNat):eE a b 1=(n:Int):=by
 unfold eE
 rw[if_pos (show(1:Int)>0 by decide)]
 by_cases MK:a<b
 ·rw[if_pos MK,Int.ediv_one]; exact q66 h MK
 ·rw[if_neg MK]; exact q67 h MK
theorem oj{a b:Int}(h1:-1000000<=a)(h2:a<=1000000)(h3:-1000000<=b)(h4:b<=1000000):gU a b 1=true:=by
 have hf:∀x:Int,-3000000<=x->x<=3000000->qd x=true:=λx g1 g2=>by
  unfold qd
  simp; exact q68 g1 g2
 unfold gU
 rw[kK rfl,hf a (by exact eH 0xfa4a905044017796e4141 tt h1) (by exact eH 0x1f49520900442ef2dc82401 tt h2),hf b (by exact eH 0xfa4a905044017796e4141 tt h3) (by exact eH 0x1f49520900442ef2dc82401 tt h4),hf 1 (by simp[*]) (by simp[*]),hf _ (by exact ew 8896914538817 tt) (by exact q72 h1 h2 h3 h4),if_pos (show(1:Int)>0 by decide),hf (b+(1-1)) (by exact eH 0xfa4a90504508300b17796e4141 tt h3) (by exact eH 0x1f49520900442ef2dc8261060161 tt h4)]
 simp
theorem mJ{a b:Int}(h1:-1000000<=a)(h2:a<=1000000)(h3:-1000000<=b)(h4:b<=1000000):KV W (.Bo a b) ((uY a (b-a).toNat).map .int):=λeO A f o s v r S hd Q E h=>by
 obtain⟨x,t,u,w,rfl,e⟩:=hd
 refine wpAny_pyIter_range (S.sub _ _ e) (oj h1 h2 h3 h4) ?_
 rw[kK rfl]
 exact h _ (one s.heap.objs.size _) f _ _ (.refl f) (S.gV _) (Fz.bP S.eZ) (one_le (Fz.aJ ..)) (λa ha=>by rw[mH ha]; exact S.eZ) yi zY
theorem Es{A:Around}{a b:Int}(h3:-1000000<=b)(h4:b<=1000000)(h1:-1000000<=a)(h2:a<=1000000):l7 W A (.builtin "len") [.Bo a b] (.int (b-a).toNat):=λf o s vs S hd Q E h=>by
 obtain⟨v,r,rfl,⟨x,t,u,w,rfl,e⟩,rfl⟩:=hd
 exact call_len_range (S.sub _ _ e) (kK rfl) (by exact q75 h3 h4 h1 h2) (h _ f _ (.refl f) (S.tok _) ⟨_,rfl⟩)
theorem CN{A:Around}{a b:Int}(hh:A.handled=none)(h1:-1000000<=a)(h2:a<=1000000)(h3:-1000000<=b)(h4:b<=1000000):l7 W A (.type "list") [.Bo a b] (.list ((uY a (b-a).toNat).map .int)):=λf o s vs S hd Q E h=>by
 obtain⟨v,r,rfl,⟨x,t,u,w,rfl,e⟩,rfl⟩:=hd
 refine call_list_range hh (S.sub _ _ e) (oj h1 h2 h3 h4) (kK rfl) (by exact q76 h1 h4) λh' tk acc c hk hS hi=>?_
 have hn:s.heap.get? s.heap.objs.size=none:=by
  exact none_of λy q=>absurd (bJ q) (iL _)
 obtain⟨lf,S'⟩:=S.Ek (tk:=tk) hk hn hS
 refine h _ _ _ lf S' ⟨_,_,acc.toList,c,rfl,Fz.aJ ..,⟨rfl,rfl,rfl⟩,by simp,?_⟩
 obtain⟨g1,g2⟩:=hi
 have key:∀(n:Nat) (a:Int) (l:List Value),l.length=n->(∀(i:Nat) v,l[i]? =some v->∃t,v=Value.int (a+i*1) t)->bQ (f.put s.heap.objs.size {cls:= .type "list",dict:=aD,data:= .seq acc c,slots:=#[]}) ((uY a n).map D.int) l:=by
  intro n
  induction n with
  |zero=>intro a l hl _; rw[i7.mp hl]; rfl
  |succ n ih=>
   intro a l hl hv
   cases l with
   |nil=>exact nomatch hl
   |cons v l=>
    obtain⟨t,e⟩:=hv 0 v rfl
    refine⟨v,l,rfl,⟨t,by rw[e]; congr 1; simp⟩,ih (a+1) l (by simpa using hl) λi v hi=>?_⟩
    obtain⟨t,e⟩:=hv (i+1) v (by simpa using hi)
    exact⟨t,by rw[e]; congr 1; push_cast; exact q77⟩
 exact key _ _ _ (by simpa using g1) λi v hi=>g2 i v (by simpa using hi)
theorem St.ltN(S:St W.B f o s){a:Addr}{x:Obj}(h:f a=some x\/o a=some x):@LT.lt Nat _ a s.heap.objs.size:=S.lt h
noncomputable def numbered:Nat->List D->List D
 |_,[]=>[]
 |i,x::xs=> .tup [.int i,x]::numbered (i+1) xs
noncomputable def two(a:Addr)(x:Obj)(b:Addr)(y:Obj):Fz:=λc=>if c=a then some x else if c=b then some y else none
theorem qq(a:Addr)(x:Obj)(b:Addr)(y:Obj):two a x b y a=some x:=by simp[two]
theorem qr{a b:Addr}(x y:Obj)(h:b≠a):two a x b y b=some y:=by simp[two,h]
theorem Et{a b c:Addr}{x y:Obj}(h:two a x b y c≠none):c=a\/c=b:=by
 unfold two at h; split at h
 ·exact .inl (by assumption)
 ·split at h
  ·exact .inr (by assumption)
  ·exact absurd rfl h
set_option tactic.hygienic true in
theorem Eu{a b:Addr}{x y:Obj}{o:Fz}(h1:o a=some x)(h2:o b=some y):(two a x b y).le o:=λc z e=>by
 unfold two at e; split at e
 ·rename_i h; cases e; subst h; exact h1
 ·split at e
  ·rename_i h; cases e; subst h; exact h2
  ·exact nomatch e
noncomputable def j5(it:Addr)(i:Int)(old:Value):Obj:={cls:= .type "enumerate",dict:=aD,data:= .fields #[.none, .bool false, .ref it,rawInt i, .none,old],slots:=#[]}
set_option tactic.hygienic true in
theorem BE{elts:List Expr}{k:Nat}{pos:Pos}{l e it:Addr}{ol:Obj}{vs:List Value}{n:Nat}(ea:e≠it):∀{xs:List D} {i:Nat} {f:Fz} {ob:Obj} {old:Value},f l=some ol->ol.cls= .type "list" ->ol.data= .seq ⟨vs⟩ n->bQ f xs (vs.drop i)->
 ob.cls= .type "list_iterator" ->ob.data= .fields #[.ref l, .int i 0]->oZ W (.Tuple elts k pos) (numbered i xs) (two e (j5 it i old) it ob) f (.ref e)
 |[],i,f,ob,old,h1,h2,h3,h4,h5,h6=>λA f' o s Q E hh r l1 wl S h=>by
  have w1:=wl _ _ (qq e (j5 it i old) it ob)
  have w2:=wl _ _ (qr (j5 it i old) ob ea.symm)
  have he:=S.own _ _ w1
  have hit:=S.own _ _ w2
  refine wpAny_pyNext_enum_end hh he ⟨_,hit,h5,h6⟩ ⟨ol,S.sub _ _ (l1 _ _ h1),h2,n,h3⟩ (by simpa using drop_nil h4) λh' hx=>?_
  exact h _ _ (S.ext w2 hx) (oY.del (by exact sn (qr _ _ ea.symm)))
 |x::xs,i,f,ob,old,h1,h2,h3,h4,h5,h6=>λA f' o s Q E hh r l1 wl S h=>by
  obtain⟨v,rest,e0,hv,hr⟩:=h4
  obtain⟨e1,e2⟩:=drop_cons e0
  have w1:=wl _ _ (qq e (j5 it i old) it ob)
  have w2:=wl _ _ (qr (j5 it i old) ob ea.symm)
  refine wpAny_pyNext_enum_item (S.own _ _ w1) ⟨_,S.own _ _ w2,h5,h6⟩ ⟨ol,S.sub _ _ (l1 _ _ h1),h2,n,h3⟩ (x:=v) (by simpa using e1) ea λh' g1 g2 g3 g4 g5=>?_
  refine⟨_,rfl,wpAny_letOwnedTupleGo_enum g1 λzz k1 k2=>?_⟩
  obtain⟨ob',q1,q2,q3⟩:=g2
  have WT:zz.get? it=some ob':=k2.extBut _ _ ea.symm q1
  have nT:s.heap.objs.size≠e:=λ(q:@Eq Nat _ _)=>by have:=S.ltN (.inr w1); exact lH 22041806798881 tt (ah q) this
  have Qh:=k2.extBut _ _ nT g3
  have S1:St W.B f' (λc=>if c=e then some (j5 it ((i:Int)+1) v) else if c=it then some ob' else o c) {s with heap:=zz,toks:=s.toks+1}:=by
   refine S.upd (λc=>c=e\/c=it) (λb y hb hy=>k2.extBut _ _ (λq=>hb (.inl q)) (g5 b y (λq=>hb (.inl q)) (λq=>hb (.inr q)) hy)) (λb hb=>?_) λb y hy=>?_
   ·rcases hb with rfl|rfl
    ·rw[w1]; simp
    ·rw[w2]; simp
   ·split at hy
    ·rename_i hb; cases hy; subst hb; exact .inl ⟨.inl rfl,k1⟩
    ·split at hy
     ·rename_i hb; cases hy; subst hb; exact .inl ⟨.inr rfl,WT⟩
     ·rename_i n1 n2; exact .inr ⟨λq=>q.elim n1 n2,hy⟩
  have fT:f' s.heap.objs.size=none:=S.gQ
  have nTi:s.heap.objs.size≠it:=λ(q:@Eq Nat _ _)=>by have:=S.ltN (.inr w2); exact lH 22041806798881 tt (ah q) this
  have oT:(λc=>if c=e then some (j5 it ((i:Int)+1) v) else if c=it then some ob' else o c) s.heap.objs.size=none:=by
   show(if s.heap.objs.size=e then _ else _)=_
   rw[if_neg nT,if_neg nTi]; exact S.eZ
  have S2:St W.B (f'.put s.heap.objs.size {cls:= .type "tuple",data:= .seq #[.int i s.toks,v]}) (λc=>if c=e then some (j5 it ((i:Int)+1) v) else if c=it then some ob' else o c) {s with heap:=zz,toks:=s.toks+1}:=by
   refine⟨λb y hy=>?_,S1.own,λb y hy=>?_,S1.base.trans (Fz.bP fT),S1.tab,λc hc=>⟨?_,(S1.fo c hc).2⟩,S1.os,S1.gens⟩
   ·by_cases hb:b=s.heap.objs.size
    ·subst hb; cases nJ (Fz.aJ ..) hy; exact Qh
    ·rw[Fz.az hb] at hy; exact S1.sub b y hy
   ·by_cases hb:b=s.heap.objs.size
    ·subst hb; exact oT
    ·rw[Fz.az hb] at hy; exact S1.apart b y hy
   ·rw[Fz.az (bg (S.jt hc))]; exact(S.fo c hc).1
  have lf:=Fz.bP (o:={cls:= .type "tuple",data:= .seq #[.int i s.toks,v]}) fT
  refine h _ _ _ _ (two e (j5 it ((i:Int)+1) v) it ob') lf S2 (λb y hy hw=>?_) (Eu (if_pos rfl) ?_) (λa ha=>?_) ⟨_,_,[.int i s.toks,v],0,rfl,Fz.aJ ..,rfl,rfl,⟨_,_,rfl,⟨_,rfl⟩,_,_,rfl,hv.mono (l1.trans lf),rfl⟩⟩ ?_
  ·have n1:b≠e:=λq=>by subst q; rw[qq] at hw; exact nomatch hw
   have n2:b≠it:=λq=>by subst q; rw[qr _ _ ea.symm] at hw; exact nomatch hw
   show(if b=e then _ else _)=_
   rw[if_neg n1,if_neg n2]; exact hy
  ·show(if it=e then _ else _)=_
   rw[if_neg ea.symm,if_pos rfl]
  ·rcases Et ha with rfl|rfl
   ·left; rw[qq]; simp
   ·left; rw[qr _ _ ea.symm]; simp
  ·have:=BE (elts:=elts) (k:=k) (pos:=pos) (e:=e) (it:=it) ea (i:=i+1) (f:=f'.put s.heap.objs.size {cls:= .type "tuple",data:= .seq #[.int i s.toks,v]}) (ob:=ob') (old:=v) ((l1.trans lf) _ _ h1) h2 h3 (e2▸hr.mono (l1.trans lf)) q2 q3
   exact this
set_option tactic.hygienic true in
theorem zZ.enum{elts:List Expr}{k:Nat}{tp:Pos}{func e:Expr}{pos:Pos}{ds:List D}(hf:eg W C ρ func (.raw (.type "enumerate")))(he:eg W C ρ e (.list ds))(pd:aI [e] C.env=[(false,eval e C.env)])
 (hc:eval (.Call func [e] [] pos) C.env=(do fR pos (<-eval func C.env) [] (backTo pos (aI [e] C.env)) (gp pos (dG [] C.env)))):zZ W C ρ (.Tuple elts k tp) (.Call func [e] [] pos) (numbered 0 ds):=λf o s S H Q E h=>by
 rw[hc]
 refine aa (hf f o s S H _ _ λv f1 s1 l1 S1 d1=>?_)
 obtain rfl:v= .type "enumerate":=d1
 have jl:=cn pos [e] C.env (by rw[pd]; rfl)
 refine d6 (P:=λh=>∀a x,W.B.f a=some x->h.get? a=some x) (by rw[jl]; rfl) Kept.type (dj jl ?_)
 rw[pd]
 refine dO (he f1 o s1 S1 (H.mono l1 (.refl o)) _ _ λv f2 s2 l2 S2 d2=>d9 ⟨S2.bT,?_⟩)
 obtain⟨a,ob,vs,m,rfl,e1,e2,e3,e4⟩:=d2
 refine call_enumerate_list (items:=⟨vs⟩) ⟨ob,S2.sub _ _ e1,e2.1,m,e3⟩ λh' g1 g2 g3 g4=>wpAny_pyIter_enum g1 ?_
 obtain⟨oi,q1,q2,q3⟩:=g2
 have new:∀c:Addr,@LE.le Nat _ s2.heap.objs.size c->o c=none:=λc hc=>by
  refine none_of λy q=>?_
  have:=S2.ltN (.inr q); (first|lia|omega)
 have newf:∀c:Addr,@LE.le Nat _ s2.heap.objs.size c->f2 c=none:=λc hc=>by
  refine none_of λy q=>?_
  have:=S2.ltN (.inl q); (first|lia|omega)
 have tl:∀c,W.B.side c->@LT.lt Nat _ c s2.heap.objs.size:=λc hc=>S2.jt hc
 let o':Fz:=λc=>if c=s2.heap.objs.size+1 then some (j5 s2.heap.objs.size 0 .none) else if c=s2.heap.objs.size then some oi else o c
 have S3:St W.B f2 o' {s2 with heap:=h'}:=by
  have S0:=S2.grow (tk:=s2.toks) g4
  refine⟨S0.sub,λb y hy=>?_,λb y hy=>?_,S0.base,S0.tab,λc hc=>⟨(S0.fo c hc).1,?_⟩,S0.os,S0.gens⟩
  ·dsimp only[o'] at hy
   split at hy
   ·rename_i hb; cases hy; subst hb; exact g1
   ·split at hy
    ·rename_i hb; cases hy; subst hb; exact q1
    ·exact S0.own b y hy
  ·have:=S2.ltN (.inl hy)
   dsimp only[o']
   rw[if_neg (by show ¬(@Eq Nat b _); intro q; exact lH 0x50300843404021 tt this (ah q.symm)),if_neg (by show ¬(@Eq Nat b _); intro q; exact lH 1134999650337 tt this (ah q.symm))]; exact S0.apart b y hy
  ·dsimp only[o']
   have:=tl c hc
   rw[if_neg (by show ¬(@Eq Nat c _); intro q; exact lH 0x50300843404021 tt this (ah q.symm)),if_neg (by show ¬(@Eq Nat c _); intro q; exact lH 1134999650337 tt this (ah q.symm))]; exact(S0.fo c hc).2
 have lo:o.le o':=λb y hy=>by
  have:=S2.ltN (.inr hy)
  dsimp only[o']
  rw[if_neg (by show ¬(@Eq Nat b _); intro q; exact lH 0x50300843404021 tt this (ah q.symm)),if_neg (by show ¬(@Eq Nat b _); intro q; exact lH 1134999650337 tt this (ah q.symm))]; exact hy
 have ea:s2.heap.objs.size+1≠s2.heap.objs.size:=Jx _
 have WU:(two (s2.heap.objs.size+1) (j5 s2.heap.objs.size 0 .none) s2.heap.objs.size oi).le o':=Eu (if_pos rfl) (by dsimp only[o']; rw[if_neg ea.symm,if_pos rfl])
 refine h _ (two (s2.heap.objs.size+1) (j5 s2.heap.objs.size 0 .none) s2.heap.objs.size oi) f2 o' _ (l1.trans l2) S3 lo WU (λa ha=>?_) (BE ea (i:=0) e1 e2.1 e3 e4 q2 q3) λA f3 o3 s3 Q E l3 wl S h=>wpAny_pyIter_enum (S.own _ _ (wl _ _ (qq ..))) h
 rcases Et ha with rfl|rfl
 ·exact new _ (Nat.le_succ _)
 ·exact new _ (bL _)
noncomputable def CO(w:Fz)(h:Heap):Fz:=λa=>if w a=none then none else h.get? a
theorem BF{w:Fz}{h:Heap}{a:Addr}{x:Obj}(e:CO w h a=some x):w a≠none/\h.get? a=some x:=by
 unfold CO at e; split at e
 ·exact nomatch e
 ·exact⟨by assumption,e⟩
noncomputable def over(w:Fz)(h:Heap)(o:Fz):Fz:=λa=>if w a=none then o a else h.get? a
theorem vT{elts:List Expr}{k:Nat}{pos:Pos}{I:Addr}{fp wr:List Addr}{n:Nat}{Pt:Nat->Array Value->Prop}{Sg:Nat->Heap->Prop}{Mid:Nat->Addr->Heap->Prop}(Wk:∀A:Around,A.handled=none->WalksT W.prog W.w A I fp wr n Pt Sg Mid)(Zq:∀i h,Sg i h->∀b∈fp,∃x,h.get? b=some x)(ds:Nat->List D):
 ∀(m i:Nat) {w f:Fz},i+m=n->(∀b∈fp,w b≠none\/f b≠none)->(∀b∈wr,w b≠none)->(∀h:Heap,(∀a x,w a=some x->h.get? a=some x)->(∀a x,f a=some x->h.get? a=some x)->Sg i h)->(∀j vals,Pt j ⟨vals⟩->bQ f (ds j) vals)->
  oZ W (.Tuple elts k pos) ((bB i m).map λj=> .tup (ds j)) w f (.ref I)
 | 0,i,w,f,hn,WV,NQ,hS,hP=>λA f' o s Q E hh r l1 wl S h=>by
  obtain rfl:i=n:=hn
  have st:=hS s.heap (λa x e=>S.own _ _ (wl _ _ e)) λa x e=>S.sub _ _ (l1 _ _ e)
  refine(Wk A hh).done s _ _ st λh' tk hk=>?_
  let o':Fz:=λa=>if w a=none then o a else none
  have ow:∀a,w a≠none->o a≠none:=λa ha=>by
   obtain⟨x,e⟩:=cX.mp ha; rw[wl _ _ e]; simp
  refine h o' _ (S.upd (λa=>w a≠none) (λb x hb e=>hk b x (λhm=>hb (NQ b hm)) e) ow λb x e=>?_) λa y e hw=>?_
  ·dsimp only[o'] at e; split at e
   ·exact .inr ⟨by simpa,e⟩
   ·exact nomatch e
  ·dsimp only[o']; rw[if_pos hw]; exact e
 |m+1,i,w,f,hn,WV,NQ,hS,hP=>λA f' o s Q E hh r l1 wl S h=>by
  have st:=hS s.heap (λa x e=>S.own _ _ (wl _ _ e)) λa x e=>S.sub _ _ (l1 _ _ e)
  have ow:∀a,w a≠none->o a≠none:=λa ha=>by
   obtain⟨x,e⟩:=cX.mp ha; rw[wl _ _ e]; simp
  refine(Wk A hh).item i s _ _ (by exact cG 0x2a060080422a0201 tt (ah hn)) st λT vals h1 Zt hPt hT WW NR u4=>⟨_,rfl,?_⟩
  refine(Wk A hh).go elts k pos i T _ _ _ NR λh2 Zu DL=>?_
  obtain⟨vals⟩:=vals
  have hd:=hP i vals hPt
  obtain⟨ob,q1,q2,c,q3⟩:=WW
  have WT:h2.get? T=some ob:=DL T ob ((Wk A hh).apart i T _ NR) q1
  have hT':@LE.le Nat _ s.heap.objs.size T:=hT
  have hk:∀b x,b∉wr->s.heap.get? b=some x->h2.get? b=some x:=λb x hb e=>DL b x hb (u4 b x hb e)
  have fT:f' T=none:=by
   refine none_of λy q=>?_
   have:=S.ltN (.inl q); (first|lia|omega)
  have oT:o T=none:=by
   refine none_of λy q=>?_
   have:=S.ltN (.inr q); (first|lia|omega)
  have wT:w T=none:=by
   refine none_of λy q=>?_
   rw[wl _ _ q] at oT; cases oT
  have tl:∀c,W.B.side c->@LT.lt Nat _ c s.heap.objs.size:=λc hc=>S.jt hc
  have S1:St W.B f' (over w h2 o) {s with heap:=h2,toks:=Zt}:=by
   refine S.upd (λa=>w a≠none) (λb x hb e=>hk b x (λhm=>hb (NQ b hm)) e) ow λb x e=>?_
   unfold over at e; split at e
   ·exact .inr ⟨by simpa,e⟩
   ·exact .inl ⟨by assumption,e⟩
  have oT':over w h2 o T=none:=by unfold over; rw[if_pos wT]; exact oT
  have S2:St W.B (f'.put T ob) (over w h2 o) {s with heap:=h2,toks:=Zt}:=by
   refine⟨λb y hy=>?_,S1.own,λb y hy=>?_,S1.base.trans (Fz.bP fT),S1.tab,λc hc=>⟨?_,(S1.fo c hc).2⟩,S1.os,S1.gens⟩
   ·by_cases hb:b=T
    ·subst hb; cases nJ (Fz.aJ ..) hy; exact WT
    ·rw[Fz.az hb] at hy; exact S1.sub b y hy
   ·by_cases hb:b=T
    ·subst hb; exact oT'
    ·rw[Fz.az hb] at hy; exact S1.apart b y hy
   ·have tl':=tl c hc
    rw[Fz.az (λq=>by have q':@Eq Nat c T:=q; exact zT 0x41084141402108021 tt hT tl' (ah q'.symm))]; exact(S.fo c hc).1
  have lf:=Fz.bP (o:=ob) fT
  refine h _ _ _ _ (CO w h2) lf S2 (λa y e hw=>?_) (λa x e=>?_) (λa ha=>?_) ⟨T,ob,vals,c,rfl,Fz.aJ ..,q2,q3,hd.mono (l1.trans lf)⟩ ?_
  ·unfold over; rw[if_pos hw]; exact e
  ·obtain⟨g1,g2⟩:=BF e; unfold over; rw[if_neg g1]; exact g2
  ·left
   obtain⟨x,e⟩:=cX.mp ha
   exact(BF e).1
  ·have keep:∀b,w b≠none->∃x,h2.get? b=some x:=λb hb=>by
    by_cases hm:b∈fp
    ·exact Zq _ _ Zu b hm
    ·obtain⟨x,e⟩:=cX.mp (ow b hb)
     exact⟨x,hk b x (λq=>hm ((Wk A hh).sub b q)) (S.own _ _ e)⟩
   refine vT Wk Zq ds m (i+1) (by exact Y6 hn) (λb hb=>?_) (λb hb=>?_) (λh3 hw3 hf3=>?_) (λj vals hj=>(hP j vals hj).mono (l1.trans lf))
   ·rcases WV b hb with q|q
    ·left; obtain⟨x,e⟩:=keep b q; unfold CO; rw[if_neg q,e]; simp
    ·right; obtain⟨x,e⟩:=cX.mp q; rw[(l1.trans lf) _ _ e]; simp
   ·obtain⟨x,e⟩:=keep b (NQ b hb); unfold CO; rw[if_neg (NQ b hb),e]; simp
   ·refine(Wk A hh).frame (i+1) h2 h3 Zu λb hb x e=>?_
    rcases WV b hb with q|q
    ·exact hw3 b x (by unfold CO; rw[if_neg q]; exact e)
    ·obtain⟨y,e'⟩:=cX.mp q
     have:=S2.sub b y ((l1.trans lf) _ _ e')
     have hx:=this.symm.trans e
     injection hx with hx
     subst hx
     exact hf3 b _ ((l1.trans lf) _ _ e')
noncomputable def oo:List D->List D->List D
 |x::xs,y::ys=> .tup [x,y]::oo xs ys
 |_,_=>[]
theorem yx:∀(xs ys:List D),oo xs ys=(aB (min xs.length ys.length)).map λj=> .tup [xs.getD j .none,ys.getD j .none]
 |[],_=>by simp[oo]
 |_::_,[]=>by simp[oo]
 |x::xs,y::ys=>by
  rw[oo,yx xs ys,aQ,aQ,Nat.add_min_add_right,List.range_succ_eq_map,aO,aM]
  rfl
set_option tactic.hygienic true in
theorem zZ.zip{elts:List Expr}{k:Nat}{tp:Pos}{func e1 e2:Expr}{pos:Pos}{xs ys:List D}(hf:eg W C ρ func (.raw (.type "zip")))(he:nq W C ρ [e1,e2] [.list xs, .list ys])(hp:(aI [e1,e2] C.env).all (λx=>!x.1)=true)
 (hc:eval (.Call func [e1,e2] [] pos) C.env=(do fR pos (<-eval func C.env) [] (backTo pos (aI [e1,e2] C.env)) (gp pos (dG [] C.env)))):zZ W C ρ (.Tuple elts k tp) (.Call func [e1,e2] [] pos) (oo xs ys):=λf o s S H Q E h=>by
 rw[hc]
 refine aa (hf f o s S H _ _ λv f1 s1 l1 S1 d1=>?_)
 obtain rfl:v= .type "zip":=d1
 have jl:=cn pos [e1,e2] C.env hp
 refine d6 (P:=λh=>∀a x,W.B.f a=some x->h.get? a=some x) (by rw[jl]; rfl) Kept.type (dj jl ?_)
 refine he pos f1 o s1 S1 (H.mono l1 (.refl o)) _ _ λvs f2 s2 l2 S2 d2=>⟨S2.bT,?_⟩
 obtain⟨v1,r1,rfl,⟨a,ob,Zv,m,rfl,g1,g2,g3,g4⟩,v2,r2,rfl,⟨a',ob',Zw,m',rfl,HH,Zy,Qh,Zz⟩,rfl⟩:=d2
 have n1:=g4.length
 have n2:=Zz.length
 have NB:s2.heap.IsList a ⟨Zv⟩:=⟨ob,S2.sub _ _ g1,g2.1,m,g3⟩
 have MI:s2.heap.IsList a' ⟨Zw⟩:=⟨ob',S2.sub _ _ HH,Zy.1,m',Qh⟩
 refine call_zip_2 NB MI λh' z1 z2 z3 z4 z5 z6 z7=>xB z1 ?_
 have la:@LT.lt Nat _ a s2.heap.objs.size:=S2.lt (.inl g1)
 have WX:@LT.lt Nat _ a' s2.heap.objs.size:=S2.lt (.inl HH)
 have tl:∀c,W.B.side c->@LT.lt Nat _ c s2.heap.objs.size:=λc hc=>S2.jt hc
 let w:Fz:=λc=>if @LE.le Nat _ s2.heap.objs.size c/\@LT.lt Nat _ c (s2.heap.objs.size+5) then h'.get? c else none
 let o':Fz:=λc=>if @LE.le Nat _ s2.heap.objs.size c/\@LT.lt Nat _ c (s2.heap.objs.size+5) then h'.get? c else o c
 have S3:St W.B f2 o' {s2 with heap:=h'}:=by
  have S0:=S2.grow (tk:=s2.toks) z7
  refine⟨S0.sub,λb y hy=>?_,λb y hy=>?_,S0.base,S0.tab,λc hc=>⟨(S0.fo c hc).1,?_⟩,S0.os,S0.gens⟩
  ·dsimp only[o'] at hy; split at hy
   ·exact hy
   ·exact S0.own b y hy
  ·have:=S2.ltN (.inl hy)
   dsimp only[o']; rw[if_neg (by exact QW this)]; exact S0.apart b y hy
  ·have:=tl c hc
   dsimp only[o']; rw[if_neg (by exact QW this)]; exact(S0.fo c hc).2
 have lo:o.le o':=λb y hy=>by
  have:=S2.ltN (.inr hy)
  dsimp only[o']; rw[if_neg (by exact QW this)]; exact hy
 have WU:w.le o':=λb y hy=>by
  dsimp only[w] at hy; split at hy
  ·rename_i hb; dsimp only[o']; rw[if_pos hb]; exact hy
  ·exact nomatch hy
 have Ah:∀(c:Addr) x,@LE.le Nat _ s2.heap.objs.size c->@LT.lt Nat _ c (s2.heap.objs.size+5)->h'.get? c=some x->w c=some x:=λc x q1 q2 e=>by
  dsimp only[w]; rw[if_pos ⟨q1,q2⟩]; exact e
 obtain⟨oi1,p1,p2,p3⟩:=z4
 obtain⟨oi2,r1,r2,r3⟩:=z5
 have DD:ZipApart (s2.heap.objs.size+4) (s2.heap.objs.size+2) (s2.heap.objs.size+3) s2.heap.objs.size (s2.heap.objs.size+1) a a':=by
  constructor<;>(intro q; have q':@Eq Nat _ _:=q; (first|exact q85 q'|exact q86 q'|exact q87 q'|exact q88 q'|exact q89 q'|exact q90 q'|exact q91 q'|exact Y7 la q'|exact Y5 la q'|exact Y4 la q'|exact Y7 WX q'|exact Y5 WX q'|exact Y4 WX q'|lia|omega))
 have key:=vT (W:=W) (elts:=elts) (k:=k) (pos:=tp) (λA hh=>WalksT.zip2 (prog:=W.prog) (w:=W.w) (A:=A) hh _ _ _ _ _ a a' DD ⟨Zv⟩ ⟨Zw⟩) (λi h hs b hb=>by
  obtain⟨q1,q2,⟨_,_,q3⟩,⟨_,q4,_⟩,⟨_,q5,_⟩,⟨_,q6,_⟩,⟨_,q7,_⟩⟩:=hs
  simp only[au,bo,or_false] at hb
  rcases hb with rfl|rfl|rfl|rfl|rfl|rfl|rfl
  ·exact⟨_,q1⟩
  ·exact⟨_,q2⟩
  ·exact⟨_,q3⟩
  ·exact⟨_,q4⟩
  ·exact⟨_,q5⟩
  ·exact⟨_,q6⟩
  ·exact⟨_,q7⟩) (λj=>[xs.getD j .none,ys.getD j .none]) (min xs.length ys.length) 0 (w:=w) (f:=f2) (by simp[n1,n2]) (λb hb=>?_) (λb hb=>?_) (λh3 q1 q2=>?_) (λj vals hj=>?_)
 ·rw[<-kk,<-yx] at key
  refine h _ w f2 o' _ (l1.trans l2) S3 lo WU (λc hc=>?_) key λA f3 o3 s3 Q E l3 wl S h=>xB (S.own _ _ (wl _ _ (Ah _ _ (gx _ _) (uR _) z1))) h
  dsimp only[w] at hc
  split at hc
  ·rename_i hb
   refine none_of λy q=>?_
   have:=S2.ltN (.inr q); (first|lia|omega)
  ·exact absurd rfl hc
 ·simp only[au,bo,or_false] at hb
  rcases hb with rfl|rfl|rfl|rfl|rfl|rfl|rfl
  ·left; rw[Ah _ _ (by exact aN 24133633 tt) (by exact aN 26406154158593 tt) z1]; simp
  ·left; rw[Ah _ _ (by exact aN 22036481 tt) (by exact aN 26406152061441 tt) z2]; simp
  ·left; rw[Ah _ _ (by exact aN 23085057 tt) (by exact aN 26406153110017 tt) z3]; simp
  ·left; rw[Ah _ _ (bL _) (by exact aN 25787236865 tt) p1]; simp
  ·left; rw[Ah _ _ (by exact aN 20987905 tt) (by exact aN 26406151012865 tt) r1]; simp
  ·right; rw[g1]; simp
  ·right; rw[HH]; simp
 ·simp only[au,bo,or_false] at hb
  rcases hb with rfl|rfl|rfl|rfl
  ·rw[Ah _ _ (by(first|lia|omega)) (by(first|lia|omega)) z1]; simp
  ·rw[Ah _ _ (by(first|lia|omega)) (by(first|lia|omega)) z3]; simp
  ·rw[Ah _ _ (bL _) (by(first|lia|omega)) p1]; simp
  ·rw[Ah _ _ (by(first|lia|omega)) (by(first|lia|omega)) r1]; simp
 ·exact⟨q1 _ _ (Ah _ _ (by(first|lia|omega)) (by(first|lia|omega)) z1),q1 _ _ (Ah _ _ (by(first|lia|omega)) (by(first|lia|omega)) z2),⟨_,_,q1 _ _ (Ah _ _ (by(first|lia|omega)) (by(first|lia|omega)) z3)⟩,⟨_,q1 _ _ (Ah _ _ (bL _) (by(first|lia|omega)) p1),p2,p3⟩,⟨_,q1 _ _ (Ah _ _ (by(first|lia|omega)) (by(first|lia|omega)) r1),r2,r3⟩,
   ⟨ob,q2 _ _ g1,g2.1,m,g3⟩,⟨ob',q2 _ _ HH,Zy.1,m',Qh⟩⟩
 ·obtain⟨x,y,hx,hy,e⟩:=hj
  obtain⟨d,e1,d1⟩:=g4.get' (i:=j) (by simpa using hx)
  obtain⟨d',e2,d2⟩:=Zz.get' (i:=j) (by simpa using hy)
  injection e with e
  subst e
  rw[ak,ak,e1,e2]
  exact .cons d1 (.cons d2 .nil)
theorem ir{x:Str}{name:Str}{id:String}(slot:Slot "str" name id)(WY:typeOf (.builtin id)=pure (.type "method_descriptor")):Meth W (.str x) name (.builtin id):=λA f o s v pl S hv Q E h=>by
 obtain⟨t,rfl⟩:=hv
 exact nP (m5 _ _ _) PySem.F.plainAttrs_str slot WY (λa e=>by exact nomatch e) h
theorem vU{ds:List D}{name:Str}{id:String}(slot:Slot "list" name id)(WY:typeOf (.builtin id)=pure (.type "method_descriptor")):Meth W (.list ds) name (.builtin id):=λA f o s v pl S hv Q E h=>by
 obtain⟨a,ob,vs,m,rfl,e1,e2,e3,e4⟩:=hv
 exact nP ⟨ob,S.sub _ _ e1,e2.1⟩ PySem.F.plainAttrs_list slot WY (λa e=>by cases e; exact⟨ob,S.sub _ _ e1,e2.2.1⟩) h
theorem vV:∀{ts:List (List Nat)} {vs:List Value},bQ f (ts.map λt=>D.str (aS t)) vs->∃l:List (Str×Tok),vs=pg l/\l.map (·.1)=ts.map aS
 |[],_,e=>⟨[],by rw[show _=[] from e]; rfl,rfl⟩
 |t::ts,_,⟨v,r,e,⟨u,hu⟩,h⟩=>by
  obtain⟨l,h1,h2⟩:=vV h
  exact⟨(aS t,u)::l,by rw[e,hu,h1]; rfl,by rw[aO,aO,h2]⟩
theorem vW:∀{l:List (Str×Tok)} {ts:List (List Nat)},l.map (·.1)=ts.map aS->bQ f (ts.map λt=>D.str (aS t)) (pg l)
 |[],[],_=>rfl
 |[],_::_,e=>by exact nomatch e
 |_::_,[],e=>by exact nomatch e
 |(x,t)::l,y::ts,e=>by
  rw[aO,aO] at e
  injection e with e1 e2
  exact⟨_,_,rfl,⟨t,by rw[<-e1]⟩,vW e2⟩
noncomputable def cW(sep:List Nat):List (List Nat)->List Nat
 |[]=>[]
 |[x]=>x
 |x::y::r=>x++sep++cW sep (y::r)
theorem sE(sep:List Nat):∀ts:List (List Nat),Str.join (aS sep) (ts.map aS)=aS (cW sep ts)
 |[]=>rfl
 |[x]=>rfl
 |x::y::r=>by
  show aS x++aS sep++Str.join (aS sep) ((y::r).map aS)=_
  rw[sE sep (y::r),sD,sD]; rfl
theorem Ew{sep:List Nat}:∀{ts:List (List Nat)},(∀t∈ts,t.length<=1000)->ts.length<=1000->sep.length<=10->JoinOk (aS sep) (ts.map aS)=true:=by
 intro ts h1 h2 h3
 unfold JoinOk
 rw[Bool.not_eq_true',StrLaws.joinTotal]
 have key:∀ts:List (List Nat),(∀t∈ts,t.length<=1000)->((ts.map aS).map (·.length)).sum<=1000*ts.length:=by
  intro ts
  induction ts with
  |nil=>intro _; simp
  |cons t ts ih=>
   intro h
   have a:=ih λt ht=>h t (.tail _ ht)
   have b:=h t (.head _)
   simp only[aO,kg,aQ]
   rw[show(aS t).length=t.length from rfl]
   exact cG 0x7ec48410847ec44010d0301fb1100a01 tt a b
 have a:=key ts h1
 unfold GP
 rw[decide_eq_false_iff_not,bu]
 have b:(ts.map aS).length*(aS sep).length<=1000*10:=p8 (by rw[ai]; exact h2) h3
 have c:1000*ts.length<=1000*1000:=iE _ h2
 exact QX h2 a b
theorem qs{A:Around}{sep:List Nat}{ts:List (List Nat)}(h1:∀t∈ts,t.length<=1000)(h2:ts.length<=1000)(h3:sep.length<=10):l7 W A (.builtin "str.join") [.str (aS sep), .list (ts.map λt=> .str (aS t))] (.str (aS (cW sep ts))):=λf o s vs S hd Q E h=>by
 obtain⟨v,r,rfl,⟨t,rfl⟩,v2,r2,rfl,⟨a,ob,vs,m,rfl,e1,e2,e3,e4⟩,rfl⟩:=hd
 obtain⟨l,rfl,hl⟩:=vV e4
 refine SC.join (l:=l) (texts:=ts.map aS) ⟨ob,S.sub _ _ e1,e2.1,m,e3⟩ hl (Ew h1 h2 h3) λt' k=>h _ f _ (.refl f) (S.tok _) ⟨t',?_⟩
 show Value.str (glued _ _) t'=_
 rw[xW,sE]
noncomputable def lL(a:Int):List Nat:=(J (toString a)).cps.toList
theorem tM{A:Around}{a:Int}(ha:a.natAbs<1000000):l7 W A (.type "str") [.int a] (.str (aS (lL a))):=λf o s vs S hd Q E h=>by
 obtain⟨v,r,rfl,⟨t,rfl⟩,rfl⟩:=hd
 refine P.str_of_int ?_ (h _ f _ (.refl f) (S.tok _) ⟨_,rfl⟩)
 by_cases h0:a.natAbs=0
 ·rw[h0]; decide
 ·have:=(Nat.log2_lt (n:=a.natAbs) (k:=1000) h0).mpr (Nat.lt_trans ha (by decide+kernel)); exact aN 0x3f6254040213e212a0201 tt this
theorem BG{n:Nat}(h:n<=1000):GP n=false:=by
 unfold GP; rw[decide_eq_false_iff_not,bu]; exact QY h
theorem CP{A:Around}{x:List Nat}(hx:x.all (·<128)=true)(hl:x.length<=1000):l7 W A (.builtin "str.lower") [.str (aS x)] (.str (aS (x.map lo1))):=λf o s vs S hd Q E h=>by
 obtain⟨v,r,rfl,⟨t,rfl⟩,rfl⟩:=hd
 have e:Txt.lower (aS x)=aS (x.map lo1):=by
  rw[lower_ascii (x:=aS x) λc hc=>by
   have NS:c∈x:=hc
   have:=aT.mp hx c NS; simpa using this]
  unfold aS; simp
 refine SC.lower (by rw[e,eS,ai]; exact BG hl) ?_
 rw[e]; exact h _ f _ (.refl f) (S.tok _) ⟨_,rfl⟩
theorem CQ{A:Around}{x:List Nat}(hx:x.all (·<128)=true)(hl:x.length<=1000):l7 W A (.builtin "str.upper") [.str (aS x)] (.str (aS (x.map up1))):=λf o s vs S hd Q E h=>by
 obtain⟨v,r,rfl,⟨t,rfl⟩,rfl⟩:=hd
 have e:Txt.upper (aS x)=aS (x.map up1):=by
  rw[upper_ascii (x:=aS x) λc hc=>by
   have NS:c∈x:=hc
   have:=aT.mp hx c NS; simpa using this]
  unfold aS; simp
 refine SC.upper (by rw[e,eS,ai]; exact BG hl) ?_
 rw[e]; exact h _ f _ (.refl f) (S.tok _) ⟨_,rfl⟩
theorem Ex{A:Around}{x y:List Nat}{i:Int}(e:Txt.find (aS x) (aS y)=i):l7 W A (.builtin "str.find") [.str (aS x), .str (aS y)] (.int i):=λf o s vs S hd Q E h=>by
 obtain⟨v,r,rfl,⟨t,rfl⟩,v2,r2,rfl,⟨u,rfl⟩,rfl⟩:=hd
 refine SC.find ?_
 rw[e]; exact h _ f _ (.refl f) (S.tok _) ⟨_,rfl⟩
noncomputable def dX(c:Nat):List Nat->List (List Nat)
 |[]=>[[]]
 |x::r=>if x=c then[]::dX c r else match dX c r with
  |[]=>[[x]]
  |p::ps=>(x::p)::ps
theorem tN(c:Nat):∀l,dX c l≠[]
 |[]=>by simp[dX]
 |x::r=>by
  unfold dX; split
  ·simp
  ·split<;>simp
theorem tO(c:Nat):∀(l:List Nat) (ps:List (List Nat)),ps≠[]->(∀p∈ps,c∉p)->cW [c] ps=l->ps=dX c l
 |[],ps,h0,h1,h2=>by
  match ps with
  |[]=>exact absurd rfl h0
  |[p]=>have:p=[]:=h2; rw[this]; rfl
  |p::q::r=>simp[cW] at h2
 |x::l,ps,h0,h1,h2=>by
  match ps with
  |[]=>exact absurd rfl h0
  |[]::[]=>simp[cW] at h2
  |[]::q::r=>
   have e:c::cW [c] (q::r)=x::l:=by simpa [cW] using h2
   injection e with e1 e2
   have ih:=tO c l (q::r) (by exact nofun) (λp hp=>h1 p (.tail _ hp)) e2
   unfold dX
   rw[if_pos e1.symm,<-ih]
  |(y::p)::r=>
   have hy:y=x/\cW [c] (p::r)=l:=by
    cases r with
    |nil=>simp[cW] at h2; exact h2
    |cons q r=>simp[cW] at h2; exact⟨h2.1,by simpa [cW] using h2.2⟩
   obtain⟨rfl,e2⟩:=hy
   have hyc:y≠c:=λe=>h1 _ (.head _) (e▸ .head _)
   have ih:=tO c l (p::r) (by exact nofun) (λq hq=>by
    rcases au.mp hq with rfl|hq
    ·exact λh=>h1 _ (.head _) (.tail _ h)
    ·exact h1 q (.tail _ hq)) e2
   unfold dX
   rw[if_neg hyc,<-ih]
theorem Ey(l:List Nat)(c:Nat):p9 (aS l) (aS [c])=(dX c l).map aS:=by
 have h1:=StrLaws.join_split (aS l) (aS [c])
 have h2:=StrLaws.split_free (aS l) c
 have h3:=split_pos (aS l) (aS [c])
 obtain⟨ps,m9⟩:∃ps:List (List Nat),p9 (aS l) (aS [c])=ps.map aS:=⟨(p9 (aS l) (aS [c])).map λx=>x.cps.toList,by
  rw[aM]
  symm
  apply List.map_id''
  intro x; rfl⟩
 have zz:∀p∈(p9 (aS l) (aS [c])),c∉p.cps.toList:=h2
 rw[m9] at h1 zz h3 ⊢
 rw[sE] at h1
 rw[tO c l ps (λe=>by rw[e] at h3; simp at h3) (λp hp=>zz (aS p) (DA hp)) (qo h1)]
theorem CR{A:Around}{x:List Nat}{c:Nat}(hl:x.length<=1000):l7 W A (.builtin "str.split") [.str (aS x), .str (aS [c])] (.list ((dX c x).map λt=> .str (aS t))):=λf o s vs S hd Q E h=>by
 obtain⟨v,r,rfl,⟨t,rfl⟩,v2,r2,rfl,⟨u,rfl⟩,rfl⟩:=hd
 have key:∀(l:List (Str×Tok)) tk,l.map (·.1)=p9 (aS x) (aS [c])->Q (.ref s.heap.objs.size) {s with toks:=tk,heap:=s.heap.push {cls:= .type "list",data:= .seq (pg l).toArray}}:=λl tk hl=>by
  rw[Ey] at hl
  exact h _ _ _ (Fz.bP S.gQ) ((S.ju _).tok _) ⟨_,_,pg l,0,rfl,Fz.aJ ..,⟨rfl,rfl,rfl⟩,rfl,vW hl⟩
 have hlen:=split_le (aS x) (aS [c])
 have hy:((aS [c]).length==0)=false:=rfl
 have hx:(aS x).length<=lg:=by rw[bu,eS]; exact aN 0x3f6240084308421084801 tt hl
 cases h1:(decide ((aS x).length<(aS [c]).length)||decide (strKind (aS x)<strKind (aS [c])))
 ·cases hf:(occurrences (aS x) (aS [c]) 0 (aS x).length ((aS x).length+1)).isEmpty
  ·have e:p9 (aS x) (aS [c])=partsBetween (aS x) (occurrences (aS x) (aS [c]) 0 (aS x).length ((aS x).length+1)) (aS [c]).length:=
    (if_neg (ne_true_of_eq_false h1)).trans (if_neg (ne_true_of_eq_false hf))
   refine m7 i5 (m5 _ _ _) mB (lW _ _) (meets_str_split_sep (aS x) (aS [c]) t u h1 hy hf hx (by rw[<-e,bu]; rw[eS] at hlen; exact aX 0x541008423f6240084308421084821 tt hl hlen)) ?_
   rw[strsFrom_eq]
   exact key _ _ ((numbered_texts _ _).trans e.symm)
  ·refine m7 i5 (m5 _ _ _) mB (lW _ _) (meets_str_split_not_found (aS x) (aS [c]) t u h1 hy hf) ?_
   exact key [(aS x,t)] s.toks ((if_neg (ne_true_of_eq_false h1)).trans (if_pos hf)).symm
 ·refine m7 i5 (m5 _ _ _) mB (lW _ _) (meets_str_split_cannot_occur (aS x) (aS [c]) t u h1) ?_
  exact key [(aS x,t)] s.toks (if_pos h1).symm
open Classical in
theorem vX{A:Around}{n:Nat}{x:D}{ds:List D}{j:Nat}(hl:∀d∈ds,gf n d x)(hj:ds[j]? =some x)(G5:∀m,m<j->ds[m]?≠some x)(hu:A.units+n<8000)(hs:j<1000000):l7 W A (.builtin "list.index") [.list ds,x] (.int j):=λf o s vs S hd Q E h=>by
 obtain⟨v,r,rfl,⟨a,ob,vs,m,rfl,e1,e2,e3,e4⟩,v2,r2,rfl,hx,rfl⟩:=hd
 obtain⟨c,d,dt,sl⟩:=ob
 obtain⟨h1,h2,h3⟩:=e2
 dsimp only at h1 h2 h3 e3
 subst h1 h2 h3 e3
 obtain⟨k1,k2⟩:=among (A:=A) hl e4 hx S (by exact aX 0x7f484a810420108a72bca8104201 tt hu)
 have len:=e4.length
 obtain⟨vj,g1,g2⟩:=e4.get hj
 have Ld:=(cI.mp g1)
 refine m7 mA ⟨_,S.sub _ _ e1,rfl⟩ PySem.F.entry_list_index (PySem.F.args_list_index_2 _ _)
  (list_indexAt a ⟨vs⟩ m aD #[] v2 (λy=>decide (Den f x y)) j Ld.1 (by exact QZ hs) ?_ λi hi rp=>?_) ⟨S.sub _ _ e1,k1,h _ f _ (.refl f) (S.tok _) ⟨_,rfl⟩⟩
 ·rw[decide_eq_true_iff]; show Den f x (vs[j]'Ld.1); rw[Ld.2]; exact g2
 ·rw[decide_eq_false_iff_not]; intro q
  have vP:i<vs.length:=hi
  obtain⟨di,p1,p2⟩:=e4.get' (aj vP)
  have:=(hl di (bI p1)).inj p2 q
  exact G5 i rp (this▸p1)
end
theorem u6(b:Bool)(x:Str)(u:Tok):Gives (Builtin.«int.__rmul__» ⟨[.bool b, .str x u],[]⟩) (.val (Value.notImplemented)):=
 .of_wp λM A E s Q h=>by obtain⟨hp,g,d,tk,os⟩:=s; wp_walk; exact⟨_,rfl,h⟩
theorem w9(x:Str)(t:Tok):Gives («str.__mul__» ⟨[.str x t, .bool true],[]⟩) (.val (.str x t)):=
 .of_wp λM A E s Q h=>by obtain⟨hp,g,d,tk,os⟩:=s; wp_walk; exact⟨_,rfl,h⟩
theorem u7(x:Str)(t:Tok):Gives («str.__mul__» ⟨[.str x t, .bool false],[]⟩) (.str Str.empty):=
 .of_wp λM A E s Q h=>by obtain⟨hp,g,d,tk,os⟩:=s; wp_walk; exact⟨_,rfl,h.2⟩
section
variable {W:Wd}{C:Cx}{ρ a9:Ro}{f o:Fz}{s:Shared}
theorem Ez{x:List Nat}{b:Bool}:lp W (jj .Mult) (.str (aS x)) (.bool b) (.str (aS (if b then x else[]))):=λA f o s va vb r S ha hb Q E h=>by
 obtain⟨t,rfl⟩:=ha
 obtain rfl:vb= .bool b:=hb
 refine wpAny_binaryOp_repeat (T:= "str") (U:= "bool") (by decide) (λs'=>m5 s' _ t) (λs'=>DQ s' b) noFill_str_mul PySem.F.fills_bool_mul xH repeat_str PySem.F.slot_bool_index.lookup
  (call_gives xH (DQ s b) xJ (wN _ _) (u6 b _ t) ⟨rfl,?_⟩)
 cases b with
 |true=>exact call_gives zt (m5 s _ t) x5 (xK _ _) (w9 _ t) (h _ f _ (.refl f) S ⟨t,rfl⟩)
 |false=>exact call_gives zt (m5 s _ t) x5 (xK _ _) (u7 _ t) ⟨by decide,h _ f _ (.refl f) (S.tok _) ⟨_,rfl⟩⟩
noncomputable def rq(n:Nat)(x:List D):List D:=(bf n x).flatten
theorem rQ(x:List Value):∀(n:Nat) (a:Array Value),(DY (λx1 x2=>x1++x2) a (bf n (⟨x⟩:Array Value))).toList=a.toList++(bf n x).flatten
 | 0,a=>by simp
 |n+1,a=>by
  rw[bM,ei,rQ x n]
  simp[bM]
theorem bQ.rep{ds:List D}{vs:List Value}(h:bQ f ds vs):∀n,bQ f (rq n ds) (bf n vs).flatten
 | 0=>rfl
 |n+1=>by
  unfold rq
  rw[bM,bM,ee,ee]
  exact h.append (bQ.rep h n)
theorem qt{ds:List D}{x:Int}(h1:-1000000<=x)(h2:x<=1000)(h3:ds.length<=1000):lp W (jj .Mult) (.list ds) (.int x) (.list (rq x.toNat ds)):=λA f o s va vb r S ha hb Q E h=>by
 obtain⟨a,ob,vs,m,rfl,e1,e2,e3,e4⟩:=ha
 obtain⟨u,rfl⟩:=hb
 obtain⟨c,d,dt,sl⟩:=ob
 obtain⟨g1,g2,g3⟩:=e2
 dsimp only at g1 g2 g3 e3
 subst g1 g2 g3 e3
 have hl:=S.sub _ _ e1
 have len:=e4.length
 have fB:(⟨vs⟩:Array Value).size*x.toNat<=2 ^ 24:=aP (p8 (show vs.length<=1000 by exact aX 0x8423f62400847ec4821 tt h3 (ah len)) (show x.toNat<=1000 by exact Y3 h2)) (by decide)
 refine wpAny_binaryOp_repeat_ref (T:= "list") (U:= "int") (by decide) ⟨_,hl,rfl⟩ (λs'=>typeIs_int s' x u) noFill_list_mul PySem.F.fills_int_mul x4 repeat_list PySem.F.slot_int_index.lookup
  (m7 x4 (typeIs_int s x u) xJ (wN _ _) (int___rmul___int_list x u a ⟨vs⟩ m)
   ⟨hl,rfl,⟨_,hl,rfl⟩,m7 PySem.F.slot_list_mul ⟨_,hl,rfl⟩ PySem.F.entry_list_mul (PySem.F.args_list_mul_2 _ _)
    (AutoListH.list___mul___list_int_3 a ⟨vs⟩ m x u (by simp[Builtin.List.listFitsIndex]; exact Q0 h1 h2) (by exact Q1 fB) (by simp[Builtin.List.listTooLong,lg] at fB ⊢; assumption)) ⟨hl,?_⟩⟩)
 refine h _ _ _ (Fz.bP S.gQ) (S.ju _) ⟨_,_,(bf x.toNat vs).flatten,0,rfl,Fz.aJ ..,⟨rfl,rfl,rfl⟩,?_,(e4.rep _).mono (Fz.bP S.gQ)⟩
 have key:DY (λx1 x2=>x1++x2) #[] (bf (if(⟨vs⟩:Array Value).isEmpty=true then 0 else x.toNat) (⟨vs⟩:Array Value))=⟨(bf x.toNat vs).flatten⟩:=by
  apply G4.mp
  rw[rQ]
  by_cases he:vs=[]
  ·subst he; simp
  ·rw[if_neg (by simpa using he)]; simp
 show Data.seq (DY _ _ _) 0=_
 rw[key]
theorem Ai{A:Around}{a:Addr}{ds:List D}(hs:ds.length<=1000000):Ei W (λf o=>k9 f o a ds) A (.type "tuple") [.raw (.ref a)] (.tup ds):=λf o s vs S hI hd Q E h=>by
 obtain⟨v,r,rfl,hv,rfl⟩:=hd
 obtain rfl:v= .ref a:=hv
 obtain⟨vs,e1,e4⟩:=hI.isList S
 have hl:=e4.length
 refine call_tuple_list (items:=⟨vs⟩) e1 (λh' hk=>?_) (by rw[bu]; show vs.length<=_; exact aX 0x210be92a4240084308421084821 tt hs (ah hl))
 have S1:=S.grow (tk:=s.toks) hk
 exact h _ _ _ (Fz.bP S1.gQ) (S1.ju _) ⟨_,_,vs,0,rfl,Fz.aJ ..,rfl,rfl,e4.mono (Fz.bP S1.gQ)⟩
theorem EA{A:Around}{b:Bool}:l7 W A (.type "int") [.bool b] (.int (if b then 1 else 0)):=λf o s vs S hd Q E h=>by
 obtain⟨v,r,rfl,hv,rfl⟩:=hd
 obtain rfl:v= .bool b:=hv
 exact call_int_bool (h _ f _ (.refl f) (S.tok _) ⟨_,rfl⟩)
noncomputable def insI(x:Int):List Int->List Int
 |[]=>[x]
 |y::r=>if x<=y then x::y::r else y::insI x r
noncomputable def sortI:List Int->List Int
 |[]=>[]
 |x::r=>insI x (sortI r)
theorem insI_perm(x:Int):∀l,(insI x l).Perm (x::l)
 |[]=> .refl _
 |y::r=>by
  unfold insI; split
  ·exact .refl _
  ·exact(DE y (insI_perm x r)).trans (List.Perm.swap x y r)
theorem sortI_perm:∀l,(sortI l).Perm l
 |[]=> .refl _
 |x::r=>(insI_perm x _).trans (DE x (sortI_perm r))
set_option tactic.hygienic true in
theorem rR(x:Int):∀l,l.Pairwise (·<= ·)->(insI x l).Pairwise (·<= ·)
 |[],_=>by simp[insI]
 |y::r,h=>by
  rw[lE] at h
  unfold insI; split
  ·rename_i EB
   rw[lE]
   refine⟨λz hz=>?_,by rw[lE]; exact h⟩
   rcases au.mp hz with rfl|hz
   ·exact EB
   ·exact bX EB (h.1 z hz)
  ·rename_i EB
   rw[lE]
   refine⟨λz hz=>?_,rR x r h.2⟩
   rcases au.mp ((insI_perm x r).mem_iff.mp hz) with rfl|hz
   ·exact Q2 EB
   ·exact h.1 z hz
theorem qu:∀l,(sortI l).Pairwise (·<= ·)
 |[]=> .nil
 |x::r=>rR x _ (qu r)
theorem u9{a b:List Int}(hp:a.Perm b)(h1:a.Pairwise (·<= ·))(h2:b.Pairwise (·<= ·)):a=b:=hp.eq_of_pairwise (λx y _ _=>aE) h1 h2
theorem BH{vs:List Value}{ns:List Int}(h:IntsAre vs ns):bQ f (ns.map .int) vs:=by
 induction h with
 |nil=>rfl
 |cons n t _ ih=>exact⟨_,_,rfl,⟨t,rfl⟩,ih⟩
theorem yy{A:Around}{ns:List Int}(hs:ns.length<64):l7 W A (.builtin "sorted") [.list (ns.map .int)] (.list ((sortI ns).map .int)):=λf o s vs S hd Q E h=>by
 obtain⟨v,r,rfl,⟨a,ob,vs,m,rfl,e1,e2,e3,e4⟩,rfl⟩:=hd
 have hl:=e4.length
 have hi:=og e4
 refine sorted_ints (vs:=vs) ⟨ob,S.sub _ _ e1,e2.1,m,e3⟩ hi (by rw[hl,ai]; exact hs) λout ns' a1 a2 a3=>?_
 obtain⟨e,he⟩:=sortedAll_at s.heap vs out
 have hn:s.heap.get? (s.heap.objs.size+1)=none:=by
  refine none_of λy q=>?_
  have q':@LT.lt Nat _ (s.heap.objs.size+1) s.heap.objs.size:=bJ q; (first|lia|omega)
 obtain⟨lf,S'⟩:=S.Ek (tk:=s.toks) (λ_ _=>sortedAll_old) hn he
 have en:ns'=sortI ns:=u9 (a2.trans (sortI_perm ns).symm) a3 (qu ns)
 subst en
 exact h _ _ _ lf S' ⟨_,_,out.toList,e,rfl,Fz.aJ ..,⟨rfl,rfl,rfl⟩,rfl,(BH a1)⟩
theorem zy.WZ(O:C.Ok){l r:Expr}{pos:Pos}{a:Addr}{xs ys:List D}(hI:∀f o,bc C ρ f o->k9 f o a xs)(ha:eg W C ρ l (.raw (.ref a)))(hb:eg W C ρ r (.list ys))(hs:xs.length+ys.length<=1000000):zy W C ρ (.BinOp l .Add r pos) (tm (xs++ys)):=λf o s S H Q E h=>
 Jq (ha f o s S H _ _ λva f1 s1 l1 S1 d1=>hb f1 o s1 S1 (H.mono l1 (.refl o)) _ _ λvb f2 s2 l2 S2 d2=>by
  obtain rfl:va= .ref a:=d1
  obtain⟨ob,vs,m,e1,e2,e3,e4⟩:=hI _ _ (H.mono (l1.trans l2) (.refl o))
  obtain⟨a',ob',u5,m',rfl,w4,xS,w5,tA⟩:=d2
  obtain⟨c,d,dt,sl⟩:=ob
  obtain⟨c',d',dt',WQ⟩:=ob'
  obtain⟨NP,zz,Lc⟩:=xS
  dsimp only at e2 NP zz Lc e3 w5
  subst e2 NP zz Lc e3 w5
  have l1':=e4.length
  have l2':=tA.length
  refine concat_meets ⟨_,S2.own _ _ e1,rfl⟩ ⟨_,S2.sub _ _ w4,rfl⟩ noFill_list_add seq_list_add xY xI (wM _ _)
   (list_addW a a' ⟨vs⟩ ⟨u5⟩ m m' d aD sl #[] (by rw[bu]; show vs.length+u5.length<=_; exact hK 0x461080410be92a4241040210c2108421218a01 tt hs (ah l1') (ah l2'))) ⟨S2.own _ _ e1,S2.sub _ _ w4,?_⟩
  refine h _ _ _ f2 _ _ ⟨s2.heap.objs.size,rfl,rfl⟩ (l1.trans l2) (Fz.bP S2.eZ) (S2.gV _) rfl ⟨_,vs++u5,0,Fz.aJ ..,⟨rfl,rfl,rfl⟩,by simp,e4.append tA⟩ λb hb=>?_
  rcases aA.mp hb with rfl
  exact S2.eZ)
theorem EC{A:Around}{a b c:Int}(hh:A.handled=none):l7 W A (.builtin "max") [.int a, .int b, .int c] (.int (max (max a b) c)):=λf o s vs S hd Q E h=>by
 obtain⟨v,r,rfl,⟨t,rfl⟩,v2,r2,rfl,⟨u,rfl⟩,v3,r3,rfl,⟨x,rfl⟩,rfl⟩:=hd
 refine max_three_ints hh λh' tk hk=>h _ f _ (.refl f) (S.grow hk) ?_
 split
 ·split
  ·exact⟨x,by congr 1; exact Q3 ‹_› ‹_›⟩
  ·exact⟨u,by congr 1; exact Q4 ‹_› ‹_›⟩
 ·split
  ·exact⟨x,by congr 1; exact Q5 ‹_› ‹_›⟩
  ·exact⟨t,by congr 1; exact Q6 ‹_› ‹_›⟩
theorem Le(k1 k2 k3 v1 v2 v3:Expr)(env:Env)(dp:Pos):(evalEachOpt [some k1,some k2,some k3] env).zip ((evalEach [v1,v2,v3] env).map λv=>do let x <-v; dE dp; pure x)=
 [(eval k1 env,do let x <-eval v1 env; dE dp; pure x),(eval k2 env,do let x <-eval v2 env; dE dp; pure x),(eval k3 env,do let x <-eval v3 env; dE dp; pure x)].map λp=>(some p.1,p.2):=rfl
theorem eg.BI{K:Type}[DecidableEq K]{knd:KeyKind W.prog W.w K}(enc:K->D)(ML:∀k v f,Den f (enc k) v->knd.is k v=true){k1 k2 k3 v1 v2 v3 slice:Expr}{dp pos:Pos}{HT HU HV κ:K}{d1 d2 d3 d:D}
 (e1:eg W C ρ k1 (enc HT)) (x1:eg W C ρ v1 d1) (e2:eg W C ρ k2 (enc HU)) (x2:eg W C ρ v2 d2) (e3:eg W C ρ k3 (enc HV)) (x3:eg W C ρ v3 d3) (hs:eg W C ρ slice (enc κ))
 (hd:∀u1 u2 u3:Value,∃u,valueAt (merged [] [(HT,u1),(HU,u2),(HV,u3)]) κ=some u/\((u=u1/\d=d1)\/(u=u2/\d=d2)\/(u=u3/\d=d3)))
 (yz:∀o i,subscripted slice false o i=operate [o,i] (dI o i)):eg W C ρ (.Subscript (.Dict [some k1,some k2,some k3] [v1,v2,v3] dp) slice pos) d:=λf o s S H Q E h=>by
 rw[nY]
 refine aa (wpAny_Dict_pairs (knd:=knd) (Le k1 k2 k3 v1 v2 v3 C.env dp) (by exact nofun) (by simp) ?_)
 have S0:=S.gV {cls:= .type "dict",data:= .dict #[]}
 have lo0:=Fz.bP (o:={cls:= .type "dict",data:= .dict #[]}) S.eZ
 have H0:=H.mono (.refl f) lo0
 refine A7 (e1 f _ _ S0 H0 _ _ λa1 f1 s1 l1 S1 h1=>aa (x1 f1 _ s1 S1 (H0.mono l1 (.refl _)) _ _ λb1 f2 s2 l2 S2 g1=>aa (aZ (ao ?_))))
 refine A7 (e2 f2 _ s2 S2 (H0.mono (l1.trans l2) (.refl _)) _ _ λa2 f3 s3 l3 S3 h2=>aa (x2 f3 _ s3 S3 (H0.mono (l1.trans (l2.trans l3)) (.refl _)) _ _ λb2 f4 s4 l4 S4 g2=>aa (aZ (ao ?_))))
 have W0:=l1.trans (l2.trans (l3.trans l4))
 refine A7 (e3 f4 _ s4 S4 (H0.mono W0 (.refl _)) _ _ λa3 f5 s5 l5 S5 h3=>aa (x3 f5 _ s5 S5 (H0.mono (W0.trans l5) (.refl _)) _ _ λb3 f6 s6 l6 S6 g3=>aa (aZ (ao (evalPairs_nil ?_)))))
 have ZA:=W0.trans (l5.trans l6)
 have hD:=S6.own _ _ (Fz.aJ o s.heap.objs.size {cls:= .type "dict",data:= .dict #[]})
 have hE:(s.heap.push {cls:= .type "dict",data:= .dict #[]}).DictOf knd s.heap.objs.size []:=⟨_,_,_,bC _ rfl,⟨rfl,rfl,rfl⟩,rfl,(λ_ h=>by simp at h), .nil, .nil⟩
 obtain⟨oe,es,ep,q1,q2⟩:=hE
 refine⟨[(HT,b1),(HU,b2),(HV,b3)],⟨ML _ _ _ h1,rfl,ML _ _ _ h2,rfl,ML _ _ _ h3,rfl,trivial⟩,⟨oe,es,ep,?_,q2⟩,λh' hm JJ=>?_⟩
 ·rw[hD,<-q1]; exact(bC _ rfl).symm
 ·obtain⟨od,pF,D7,p1,p2⟩:=hm
  have S7:=(S6.same (Fz.aJ ..) JJ p1).tok (s6.toks+3)
  have ZC:o.le ((o.put s.heap.objs.size {cls:= .type "dict",data:= .dict #[]}).put s.heap.objs.size od):=λb y e=>by
   have hb:b≠s.heap.objs.size:=λq=>by subst q; exact iB (S.eZ ..) e
   rw[Fz.az hb,Fz.az hb]; exact e
  refine aa (aL (hs f6 _ _ S7 (H.mono ZA ZC) _ _ λi f8 s8 l8 S8 hi=>aa (aZ ?_)))
  have p1':=S8.own _ _ (Fz.aJ (o.put s.heap.objs.size {cls:= .type "dict",data:= .dict #[]}) s.heap.objs.size od)
  have ZD:s8.heap.DictOf knd s.heap.objs.size (merged [] [(HT,b1),(HU,b2),(HV,b3)]):=⟨od,pF,D7,p1',p2⟩
  obtain⟨u,hu,hw⟩:=hd b1 b2 b3
  refine A2 ZD.mapOf.typeIs slot_dict_getitem.lookup (wpAny_getItem_of (ML _ _ _ hi) ZD.mapOf hu ?_) (yz _ _)
  refine h u f8 _ (ZA.trans l8) ((S8.drop ZC).tok _) ?_
  rcases hw with⟨rfl,rfl⟩|⟨rfl,rfl⟩|⟨rfl,rfl⟩
  ·exact g1.mono (l3.trans (l4.trans (l5.trans (l6.trans l8))))
  ·exact g2.mono (l5.trans (l6.trans l8))
  ·exact g3.mono l8
end
end
section
open PySem PySem.W PyProof.Rows PySem.SeqAt PySem.Builtin PySem.Builtin.Re
theorem kM:Slot "re.Pattern" "search" "re.Pattern.search":=
 .of (owner:= "re.Pattern") (n:= "search") (by rw[lU,ib]; kernel_rfl) (by decide+kernel) (by decide+kernel) (by decide+kernel)
  (by first|exact .inl (by decide+kernel)|exact .inr (by decide+kernel)) (by rw[isSubtype_type]; kernel_rfl)
theorem si:entryFor table "re.Pattern.search" =some Builtin.«re.Pattern.search»:=entryFor_of_fast (by kernel_rfl)
theorem tP(a b:Value):argsOk "re.Pattern.search" ⟨[a,b],[]⟩:=by unfold argsOk; kernel_rfl
theorem tQ:typeOf (.builtin "re.Pattern.search")=pure (.type "method_descriptor"):=by show builtinType _=_; rw[builtinType_eq_fast]; kernel_rfl
theorem vd:PlainAttrs "re.Pattern":=⟨⟨"object.__getattribute__",by rw[lU,ib]; kernel_rfl,by decide+kernel⟩,by rw[lU,ib]; kernel_rfl⟩
theorem ED(v:Value):reNamed "re.Pattern.search" "search" ["string","pos","endpos"] 1 [v] []=pure [some v,none,none]:=by rfl
theorem pz(m:zE)(aU:∀i,i<m.lim->∀sn,∃Aj,qa m.code (m.text.getD i 0) m.code.size 5 true sn= .ok (false,Aj)):∀(fuel s:Nat) (sn:Sre.Seen),∃Aj,Jw m fuel s sn= .ok (none,Aj)
 | 0,s,sn=>⟨sn,rfl⟩
 |fuel+1,s,sn=>by
  unfold Jw
  by_cases h:s>=m.lim
  ·rw[if_pos h]; exact⟨sn,rfl⟩
  ·rw[if_neg h]
   obtain⟨Aj,e⟩:=aU s (by exact Q7 h) sn
   rw[e]
   exact pz m aU fuel (s+1) Aj
theorem xa{prog:gr}{w:World}{A:Around}{s:Shared}{m:zE}{E:Value->Shared->Prop}{Q:zE->Shared->Prop}(n:Nat)(h:(m.runFor reTurnSteps).outcome=some .failed)(hQ:∀m',m'.outcome=some .failed->Q m' s):wpAny (model prog w) A (reDrive (n+1) m) Q E s:=by
 unfold reDrive
 dsimp only
 rw[if_pos (by rw[h]; rfl)]
 exact ao (hQ _ h)
theorem rr{prog:gr}{w:World}{A:Around}{s:Shared}{m:zE}{E:Value->Shared->Prop}{Q:PUnit->Shared->Prop}(hQ:Q ⟨⟩ s):∀l:List Nat,wpAny (model prog w) A (forIn l Dv λi (_:PUnit)=>if m.seen.has i=true then(do rule (Sre.names.getD i ""); pure (fD Dv)) else pure (fD Dv)) Q E s
 |[]=>by rw[jr]; exact ao hQ
 |i::l=>by
  rw[iM]
  split
  ·exact aa (aa (mY (ao (rr hQ l))))
  ·exact aa (ao (rr hQ l))
theorem Ak{prog:gr}{w:World}{A:Around}{s:Shared}{m:zE}{E:Value->Shared->Prop}{Q:Option zE->Shared->Prop}(h:(m.runFor reTurnSteps).outcome=some .failed)(hQ:Q none s):wpAny (model prog w) A (reRunToEnd m) Q E s:=by
 unfold reRunToEnd
 rw[show(2:Nat) ^ 64=18446744073709551615+1 from rfl]
 refine aa (xa _ h λm' hm=>?_)
 refine aa (rr ?_ _)
 rw[hm]
 exact ao hQ
theorem tR:∀m:zE,m.outcome=none->m.frames=[]->((m.say false).runFor 4).outcome=some .failed:=by
 rintro⟨c,t,l,st,ls,wt,ma,pc,po,ha,om,mk,lm,li,lo,sj,fr,we,an,se,ou⟩ h1 h2
 dsimp only at h1 h2
 subst h1 h2
 rfl
theorem tS(m:zE)(hc:Sre.ops[m.code.getD 0 0]? =some .INFO)(h2:m.code.getD 2 0=4)
 (aU:∀i,i<m.lim->∀sn,∃Aj,qa m.code (m.text.getD i 0) m.code.size 5 true sn= .ok (false,Aj)) (ho:m.outcome=none) (hf:m.frames=[]) (x:Nat) (b:Bool):((m.attemptFrom x b).runFor 4).outcome=some .failed:=by
 unfold Sre.M.attemptFrom
 have hh:m.hasFirstSet=true:=by unfold Sre.M.hasFirstSet; rw[hc,h2]; rfl
 rw[hh,if_neg (by decide)]
 obtain⟨q,e'⟩:=pz m aU (m.lim+1-x) x m.seen
 rw[e']
 exact tR _ ho hf
theorem yA(code text:Array Nat)(hc:Sre.ops[code.getD 0 0]? =some .INFO)(h2:code.getD 2 0=4)
 (aU:∀i,i<text.size->∀sn,∃Aj,qa code (text.getD i 0) code.size 5 true sn= .ok (false,Aj)):((zr code text 0 0 text.size false).runFor reTurnSteps).outcome=some .failed:=by
 unfold zr
 dsimp only
 split
 ·exact tR _ rfl rfl
 ·exact tS _ hc h2 aU rfl rfl _ _
theorem rS{prog:gr}{w:World}{A:Around}{s:Shared}{E:Value->Shared->Prop}{Q:Value->Shared->Prop}{p c:Addr}{op oc:Obj}{fs xs:Array Value}{n:Nat}{x:Str}{t:Tok}{code:Array Nat}
 (hp:s.heap.get? p=some op) (W2:op.cls= .type "re.Pattern") (EE:op.data= .fields fs) (hk:reRawNat (fs.getD 6 .none)=0) (hg:reRawNat (fs.getD 2 .none)=0) (hcv:fs.getD 5 .none= .ref c)
 (wZ:s.heap.get? c=some oc) (sd:oc.data= .seq xs n) (JL:(xs.map reRawOf).map (·.toNat)=code)
 (hc:Sre.ops[code.getD 0 0]? =some .INFO) (h2:code.getD 2 0=4)
 (aU:∀i,i<x.cps.size->∀sn,∃Aj,qa code (x.cps.getD i 0) code.size 5 true sn= .ok (false,Aj))
 (hx:x.cps.size<=1000000) (hQ:Q .none s):wpAny (model prog w) A (call (.builtin "re.Pattern.search") [.ref p, .str x t]) Q E s:=by
 subst JL
 refine fQ (rM kM.plain si (kM.check _ _ _ _ _ _ _ _ ⟨op,hp,W2⟩ (tP _ _) ?_))
 show wpAny _ A.in1 (reTarget "re.Pattern.search" "search" ⟨[.ref p, .str x t],[]⟩ >>= λt=>reAnswer t (zr t.code t.text t.groups t.pos t.lim false)) _ _ s
 refine aa ?_
 unfold reTarget
 dsimp only
 rw[ED]
 refine aa (ao ?_)
 dsimp only
 refine aa (ao (aa (ao ?_)))
 refine aa (m:=fieldsOf (.ref p)) ?_
 unfold fieldsOf
 refine aa (A1 hp ?_)
 rw[EE]
 refine ao ?_
 refine aa (m:=reTextOf (.str x t)) ?_
 unfold reTextOf
 refine aa (m:=asStr? (.str x t)) (ao (ao ?_))
 dsimp only
 rw[hk]
 rw[if_neg (by decide),if_neg (by decide)]
 refine aa (m:=reNoCollectionInside (.str x t) 0) ?_
 unfold reNoCollectionInside
 rw[if_neg (by decide)]
 refine ao ?_
 refine aa (m:=reRawItems (fs.getD 5 .none)) ?_
 unfold reRawItems
 rw[hcv]
 refine aa (m:=seqItems? (.ref c)) ?_
 unfold seqItems?
 refine aa (A1 wZ ?_)
 rw[sd]
 refine ao (ao (ao ?_))
 dsimp only
 rw[hg]
 have e1:min (zL 0) x.cps.size=0:=Nat.zero_min _
 have e2:min (zL (2 ^ 63-1)) x.cps.size=x.cps.size:=iw (by
  have:zL (2 ^ 63-1)=9223372036854775807:=by decide
  (first|lia|omega))
 rw[e1,e2]
 unfold reAnswer
 dsimp only
 refine aa (Ak (yA _ _ hc h2 aU) ?_)
 exact ao hQ
end
section
open PySem PySem.W PyProof.Rows PySem.SeqAt PySem.Builtin
noncomputable def iU{α:Type}(n:Nat)(lt:Nat->Nat->Bool):KasT α->Option α
 | .ret a=>some a
 | .ask i j k=>if i<n/\j<n/\i≠j then iU n lt (k (lt i j)) else none
set_option tactic.hygienic true in
theorem pA{α:Type}{n:Nat}{lt lt':Nat->Nat->Bool}(h:∀i j,i<n->j<n->i≠j->lt i j=lt' i j):∀t:KasT α,iU n lt t=iU n lt' t
 | .ret a=>rfl
 | .ask i j k=>by
  unfold iU
  split
  ·rename_i rp
   rw[h i j rp.1 rp.2.1 rp.2.2]
   exact pA h _
  ·rfl
set_option tactic.hygienic true in
theorem tT{α:Type}{n:Nat}{lt:Nat->Nat->Bool}{cmp:Nat->Nat->(Bool->Shared->Prop)->Shared->Prop}{s:Shared}(hc:∀i j C,i<n->j<n->i≠j->C (lt i j) s->cmp i j C s){Q:α->Shared->Prop}:∀(t:KasT α) {a:α},iU n lt t=some a->Q a s->t.kasWp cmp Q s
 | .ret b,a,e,h=>by cases e; exact h
 | .ask i j k,a,e,h=>by
  unfold iU at e
  split at e
  ·rename_i rp
   exact hc i j _ rp.1 rp.2.1 rp.2.2 (tT hc _ e h)
  ·exact nomatch e
noncomputable def W3(EF HW MM jg kN MN:Bool)(i j:Nat):Bool:=
 match i,j with
 | 0,1=>EF| 1,0=>!EF| 0,2=>HW| 2,0=>!HW| 0,3=>MM| 3,0=>!MM
 | 1,2=>jg| 2,1=>!jg| 1,3=>kN| 3,1=>!kN| 2,3=>MN| 3,2=>!MN
 |_,_=>false
noncomputable def Lf(a b c:Bool):Bool:=(!(a&&b)||c)&&(a||b|| !c)
noncomputable def oO(n:Nat)(lt:Nat->Nat->Bool):Bool:=match iU n lt (A5 n) with
 |some p=>p.toList.isPerm (aB n)&&decide (p.toList.Pairwise λi j=>lt i j=true)&&decide (p.size=n)
 |none=>false
theorem Lg:∀EF HW MM jg kN MN:Bool,(Lf EF jg HW&&Lf EF kN MM&&Lf HW MN MM&&Lf jg MN kN)=true->oO 4 (W3 EF HW MM jg kN MN)=true:=by decide+kernel
theorem Lh:∀EF HW jg:Bool,Lf EF jg HW=true->oO 3 (W3 EF HW false jg false false)=true:=by decide+kernel
theorem Li:∀EF:Bool,oO 2 (W3 EF false false false false false)=true:=by decide+kernel
theorem tU{a b c:Nat}(h1:a≠b)(h2:b≠c)(h3:a≠c):Lf (decide (a<b)) (decide (b<c)) (decide (a<c))=true:=by
 unfold Lf
 rcases bj h1 with x|x<;>rcases bj h2 with y|y<;>rcases bj h3 with z|z<;>simp_all<;>(first|exact Q8 x y z|exact Q9 y|exact Ra x|exact Rb x y z|exact Rc x z|lia|omega)
theorem vf{n:Nat}{lt lt':Nat->Nat->Bool}(h:∀i j,i<n->j<n->i≠j->lt i j=lt' i j)(hs:oO n lt'=true):∃p:Array Nat,iU n lt (A5 n)=some p/\p.toList.Perm (aB n)/\p.size=n/\p.toList.Pairwise λi j=>lt' i j=true:=by
 unfold oO at hs
 rw[pA h]
 cases e:iU n lt' (A5 n) with
 |none=>rw[e] at hs; exact nomatch hs
 |some p=>
  rw[e] at hs
  simp only[cq,decide_eq_true_eq,List.isPerm_iff] at hs
  exact⟨p,rfl,hs.1.1,hs.2,hs.1.2⟩
theorem ZE:∀i,i<2->i=0\/i=1:=by decide
theorem Qi:∀i,i<3->i=0\/i=1\/i=2:=by decide
theorem Qj:∀i,i<4->i=0\/i=1\/i=2\/i=3:=by decide
theorem Al{n:Nat}(h2:2<=n)(h4:n<=4)(key:Nat->Nat)(hd:∀i j,i<n->j<n->i≠j->key i≠key j):∃p:Array Nat,iU n (λi j=>decide (key i<key j)) (A5 n)=some p/\p.toList.Perm (aB n)/\p.size=n/\p.toList.Pairwise λi j=>key i<key j:=by
 have flip:∀i j,i<n->j<n->i≠j->decide (key j<key i)= !decide (key i<key j):=λi j hi hj rp=>by
  have:=hd i j hi hj rp
  rcases bj this with x|x<;>simp[x]<;>exact aX 1787244348417 tt x
 have fin:∀lt':Nat->Nat->Bool,(∀i j,i<n->j<n->i≠j->decide (key i<key j)=lt' i j)->oO n lt'=true->∃p:Array Nat,iU n (λi j=>decide (key i<key j)) (A5 n)=some p/\p.toList.Perm (aB n)/\p.size=n/\p.toList.Pairwise λi j=>key i<key j:=by
  intro lt' h hs
  obtain⟨p,e,hp,hz,hw⟩:=vf (lt:=λi j=>decide (key i<key j)) h hs
  refine⟨p,e,hp,hz,?_⟩
  have j4:p.toList.Nodup:=hp.nodup_iff.mpr List.nodup_range
  refine(hw.and j4).imp_of_mem fun{i j} hi hj rp=>?_
  have vP:=aW.mp (hp.subset hi)
  have BJ:=aW.mp (hp.subset hj)
  have:=h i j vP BJ rp.2
  rw[rp.1] at this
  exact of_decide_eq_true this
 have hn:n=2\/n=3\/n=4:=by exact Rd h2 h4
 rcases hn with rfl|rfl|rfl
 ·exact fin _ (λi j hi hj rp=>by rcases ZE i hi with rfl|rfl<;>rcases ZE j hj with rfl|rfl<;>first|rfl|exact absurd rfl rp|exact flip _ _ (by decide) (by decide) (by decide)) (Li (decide (key 0<key 1)))
 ·exact fin _ (λi j hi hj rp=>by rcases Qi i hi with rfl|rfl|rfl<;>rcases Qi j hj with rfl|rfl|rfl<;>first|rfl|exact absurd rfl rp|exact flip _ _ (by decide) (by decide) (by decide)) (Lh (decide (key 0<key 1)) (decide (key 0<key 2)) (decide (key 1<key 2)) (tU (hd 0 1 (by decide) (by decide) (by decide)) (hd 1 2 (by decide) (by decide) (by decide)) (hd 0 2 (by decide) (by decide) (by decide))))
 ·refine fin _ (λi j hi hj rp=>by rcases Qj i hi with rfl|rfl|rfl|rfl<;>rcases Qj j hj with rfl|rfl|rfl|rfl<;>first|rfl|exact absurd rfl rp|exact flip _ _ (by decide) (by decide) (by decide)) (Lg (decide (key 0<key 1)) (decide (key 0<key 2)) (decide (key 0<key 3)) (decide (key 1<key 2)) (decide (key 1<key 3)) (decide (key 2<key 3)) ?_)
  rw[tU (hd 0 1 (by decide) (by decide) (by decide)) (hd 1 2 (by decide) (by decide) (by decide)) (hd 0 2 (by decide) (by decide) (by decide)),tU (hd 0 1 (by decide) (by decide) (by decide)) (hd 1 3 (by decide) (by decide) (by decide)) (hd 0 3 (by decide) (by decide) (by decide)),tU (hd 0 2 (by decide) (by decide) (by decide)) (hd 2 3 (by decide) (by decide) (by decide)) (hd 0 3 (by decide) (by decide) (by decide)),tU (hd 1 2 (by decide) (by decide) (by decide)) (hd 2 3 (by decide) (by decide) (by decide)) (hd 1 3 (by decide) (by decide) (by decide))]
  rfl
section
variable {prog:gr}{w:World}{A:Around}{E:Value->Shared->Prop}{s:Shared}
inductive EG(h:Heap)(vs:List Value)(keys:List Nat)(i:Nat):Prop
 |mk (a:Addr) (o:Obj) (xs:Array Value) (n:Nat) (t:Tok) (e1:vs[i]? =some (.ref a)) (e2:h.get? a=some o) (e3:o.cls= .type "tuple") (r:o.data= .seq xs n/\xs.size=2/\xs.toList[0]? =some (.str ⟨#[keys.getD i 0]⟩ t)):EG h vs keys i
noncomputable def ko(h:Heap)(vs:List Value)(keys:List Nat):Prop:=∀i,i<vs.length->EG h vs keys i
theorem ko.keep{h h':Heap}{vs:List Value}{keys:List Nat}(x:ko h vs keys)(k:∀b o,h.get? b=some o->h'.get? b=some o):ko h' vs keys:=λi hi=>by
 obtain⟨a,o,xs,n,t,e1,e2,e3,r⟩:=x i hi; exact⟨a,o,xs,n,t,e1,k _ _ e2,e3,r⟩
theorem Lj{vs:List Value}{keys:List Nat}{i j:Nat}{Q:Bool->Shared->Prop}(x:ko s.heap vs keys)(hi:i<vs.length)(hj:j<vs.length)(ea:keys.getD i 0≠keys.getD j 0)(h:Q (decide (keys.getD i 0<keys.getD j 0)) s):
 wpAny (model prog w) A (keyLt' (tuples' true) (vs.getD i d7) (vs.getD j d7)) Q E s:=by
 obtain⟨a,o,xs,n,t,e1,e2,e3,e4,e5,e6⟩:=x i hi
 obtain⟨a',o',xs',n',t',g1,g2,g3,g4,g5,g6⟩:=x j hj
 rw[ak,e1,ak,g1]
 refine kat_lt e2 e4 g2 g4 ?_
 obtain⟨xl⟩:=xs
 obtain⟨xl'⟩:=xs'
 cases xl with
 |nil=>simp at e6
 |cons p r=>
  cases xl' with
  |nil=>simp at g6
  |cons q r'=>
   simp only[zu,x7] at e6 g6
   subst e6 g6
   refine kat_cons (eqBool_str ?_)
   have hf:((⟨#[keys.getD i 0]⟩:Str)== ⟨#[keys.getD j 0]⟩)=false:=by
    simp only[beq_eq_false_iff_ne,ne_eq]
    intro e
    injection e with e
    have:=congrArg zw e
    simp only[List.cons.injEq,and_true] at this
    exact ea this
   rw[hf]
   refine kat_no ?_
   show wpAny _ _ (oneLt' true _ _) _ _ _
   refine oneLt_str ?_
   have:decide ((⟨#[keys.getD i 0]⟩:Str).cps.toList<(⟨#[keys.getD j 0]⟩:Str).cps.toList)=decide (keys.getD i 0<keys.getD j 0):=by
    rw[decide_eq_decide]
    show[keys.getD i 0]<[keys.getD j 0]↔_
    rw[List.cons_lt_cons_iff]
    simp
   rw[this]
   exact h
theorem EH{vs:List Value}{keys:List Nat}{Q:SortKind->Shared->Prop}(x:ko s.heap vs keys)(ea:0<vs.length)(h:Q (tuples' true) s):wpAny (model prog w) A (keyKind' vs.toArray) Q E s:=by
 obtain⟨fs,EE⟩:∃fs:List Value,KatTups s.heap vs fs/\fs.length=vs.length/\∀v∈fs,∃y t,v=Value.str y t:=by
  clear h ea
  induction vs generalizing keys with
  |nil=>exact⟨[],trivial,rfl,λv hv=>by cases hv⟩
  |cons v vs ih=>
   obtain⟨a,o,xs,n,t,e1,e2,e3,e4,e5,e6⟩:=x 0 (by simp)
   obtain⟨fs,h1,h2,h3⟩:=ih (keys:=keys.drop 1) (λi hi=>by
    obtain⟨a,o,xs,n,t,e1,e2,e3,e4,e5,e6⟩:=x (i+1) (by simp; assumption)
    refine⟨a,o,xs,n,t,by simpa using e1,e2,e3,e4,e5,?_⟩
    rw[e6]
    simp[ak,Bf])
   simp only[zu,x7] at e1
   subst e1
   refine⟨.str ⟨#[keys.getD 0 0]⟩ t::fs,⟨⟨a,o,xs,n,rfl,e2,e3,e4,?_⟩,h1⟩,by simp[h2],λv hv=>?_⟩
   ·rw[<-e6]; simp
   ·rcases au.mp hv with rfl|hv
    ·exact⟨_,_,rfl⟩
    ·exact h3 v hv
 obtain⟨h1,h2,h3⟩:=EE
 refine kat_kind (T:= .type "str") h1 (by rw[h2]; exact ea) (λv hv=>?_) (by decide) h
 obtain⟨y,t,rfl⟩:=h3 v hv
 exact x8
theorem vg{a:Addr}{vs:List Value}{keys:List Nat}{n:Nat}{P:PySem.Fin->Shared->Prop}(ho:s.heap.get? a=some (seqObj "list" vs.toArray n))(x:ko s.heap vs keys)(Qk:1<=vs.length)(G8:vs.length<=4)
 (hd:∀i j,i<vs.length->j<vs.length->i≠j->keys.getD i 0≠keys.getD j 0)
 (h:∀p:List Nat,p.Perm (aB vs.length)->(p.Pairwise λi j=>keys.getD i 0<keys.getD j 0)->P (.done (.ret .none)) {s with heap:=sortedHeap s.heap a vs (zH (p.map λi=>vs.getD i d7))}):
 wpAny (model prog w) A (Builtin.«list.sort» ⟨[.ref a],[]⟩) P E s:=by
 rw[list_sort_plain]
 have ha:a<s.heap.objs.size:=bJ ho
 refine aa (listItems_at ho rfl ?_)
 refine aa (Dt ho rfl ?_ (by rw[fe,bu]; exact aN 0x2e0084308421084801 tt G8) (fC _))
 obtain⟨e1,ZF⟩:∃e1,(s.heap.update a (c8 λ_=>#[])).get? a=some (seqObj "list" #[] e1):=⟨_,get?_update_seq ho (λ_=>#[])⟩
 refine aa (Js ZF rfl ?_)
 refine aa (ka ?_ (by show vs.length<=_; rw[bu]; exact aN 0x2e0084308421084801 tt G8))
 refine aa (oC ?_ (fC _))
 refine aL ?_
 have Ql:(((s.heap.update a (c8 λ_=>#[])).push (seqObj "tuple" vs.toArray 0)).push (seqObj "list" #[] 0)).get? a=some (seqObj "list" #[] e1):=by
  rw[hH _ _ _ (by rw[size_push',j0]; exact bg (jy ha)),hH _ _ _ (by rw[j0]; exact bg ha)]
  exact ZF
 have x6:ko (((s.heap.update a (c8 λ_=>#[])).push (seqObj "tuple" vs.toArray 0)).push (seqObj "list" #[] 0)) vs keys:=λi hi=>by
  obtain⟨b,o,xs,n,t,e1,e2,e3,r⟩:=x i hi
  refine⟨b,o,xs,n,t,e1,?_,e3,r⟩
  have hba:b≠a:=λe=>by subst e; cases nJ ho e2; exact absurd e3 (by simp)
  have ki:b<s.heap.objs.size:=bJ e2
  rw[hH _ _ _ (by rw[size_push',j0]; exact bg (jy ki)),hH _ _ _ (by rw[j0]; exact bg ki),DH _ _ _ _ hba]
  exact e2
 show wpAny (model prog w) A _ P E {s with heap:=((s.heap.update a (c8 λ_=>#[])).push (seqObj "tuple" vs.toArray 0)).push (seqObj "list" #[] 0)}
 dsimp only
 have fB:vs.toArray.size=vs.length:=by simp
 by_cases h2:vs.toArray.size<2
 ·rw[if_pos h2,if_pos h2]
  refine aa (ao ?_)
  rw[StateT.run_pure]
  refine aa (ao ?_)
  dsimp only
  obtain⟨v,rfl⟩:∃v,vs=[v]:=by
   rw[fe] at h2; exact jq.mp (ar (Hf h2) Qk)
  have ez:Array.map (λx=>x.snd) (arrOf (SortSt.mk' general' (([v]:List Value).toArray.zip ([v]:List Value).toArray) #[] 7 none))=#[v]:=by
   show Array.map (λx:Value×Value=>x.snd) (#[v].zip #[v])=_
   simp
  rw[ez]
  refine aa (Js Ql rfl ?_)
  refine aa (Dt Ql rfl ?_ (fC _) (by rw[bu]; show(1:Nat)<=_; simp[*]))
  simp only[bne_self_eq_false,cb,if_false]
  have:=h [0] (List.Perm.refl _) (List.pairwise_singleton ..)
  exact ao this
 ·rw[if_neg h2,if_neg h2]
  have ZG:2<=vs.length:=by exact Rf Qk G8 fB h2
  obtain⟨p,Qf,K8,hp3,hp4⟩:=Al ZG G8 (λi=>keys.getD i 0) hd
  refine aa (EH x6 (by assumption) ?_)
  refine aa (dC (kat_run (Q:=λQm s'=>s'={s with heap:=((s.heap.update a (c8 λ_=>#[])).push (seqObj "tuple" vs.toArray 0)).push (seqObj "list" #[] 0)}/\arrOf Qm=p.map (kas_item (vs.toArray.zip vs.toArray))/\failedOf Qm=none) (G:=λp' s'=>p'=p/\s'={s with heap:=((s.heap.update a (c8 λ_=>#[])).push (seqObj "tuple" vs.toArray 0)).push (seqObj "list" #[] 0)})
   rfl ZG (by exact aN 0x5c0109212a0201 tt G8) (λp' Qm s' a1 a2 a3 a4=>⟨a4.2,a4.1▸a2,a3⟩) (tT (n:=vs.length) (λi j C hi hj rp hc=>Lj x6 hi hj (hd i j hi hj rp) hc) _ Qf ⟨rfl,rfl⟩)) ?_ λ_ _ e=>e)
  rintro⟨⟨⟩,Qm⟩ s' ⟨rfl,har,hf⟩
  dsimp only
  have W4:=kat_snds rfl har
  rw[W4]
  refine aa (Js Ql rfl ?_)
  refine aa (Dt Ql rfl ?_ (fC _) (by rw[fe,ai,fh,hp3,bu]; exact aN 0xb8021a06108421094001 tt G8))
  rw[hf]
  simp only[bne_self_eq_false,cb,if_false]
  exact ao (h p.toList K8 hp4)
theorem Am{l:Addr}{vs:List Value}{keys:List Nat}{Q:Value->Shared->Prop}(hl:s.heap.IsList l vs.toArray)(x:ko s.heap vs keys)(Qk:1<=vs.length)(G8:vs.length<=4)
 (hd:∀i j,i<vs.length->j<vs.length->i≠j->keys.getD i 0≠keys.getD j 0)
 (h:∀p:List Nat,p.Perm (aB vs.length)->(p.Pairwise λi j=>keys.getD i 0<keys.getD j 0)->Q (.ref (s.heap.objs.size+1)) {s with heap:=sortedAll s.heap vs (zH (p.map λi=>vs.getD i d7))}):
 wpAny (model prog w) A (call (.builtin "sorted") [.ref l]) Q E s:=by
 refine Calls.call_function_entry kind_sorted plain_sorted entry_sorted (args_sorted1 _) ?_
 unfold Builtin.«sorted»
 refine aa (m:=checkCount "sorted" 1 1 _) (ao ?_)
 refine aa (collect_list hl ?_ (by rw[bu]; exact aN 0x2e0084308421084801 tt G8))
 refine aa (oC ?_ (by rw[bu]; show vs.length<=_; exact aN 0x2e0084308421084801 tt G8))
 have fB:((s.heap.push (seqObj "list" #[] 0)).update s.heap.objs.size (c8 (·++vs.toArray))).objs.size=s.heap.objs.size+1:=by
  rw[j0,size_push']
 have K5:(((s.heap.push (seqObj "list" #[] 0)).update s.heap.objs.size (c8 (·++vs.toArray))).push (seqObj "list" vs.toArray 0)).get? (s.heap.objs.size+1)=some (seqObj "list" vs.toArray 0):=by
  rw[<-fB]; exact bC _ rfl
 have keep:∀b o,s.heap.get? b=some o->(((s.heap.push (seqObj "list" #[] 0)).update s.heap.objs.size (c8 (·++vs.toArray))).push (seqObj "list" vs.toArray 0)).get? b=some o:=λb o q=>by
  have ki:b<s.heap.objs.size:=bJ q
  rw[hH _ _ _ (by rw[fB]; exact bg (jy ki)),DH _ _ _ _ (bg ki),hH _ _ _ (bg ki)]
  exact q
 show wpAny _ _ _ _ _ {s with heap:=((s.heap.push (seqObj "list" #[] 0)).update s.heap.objs.size (c8 (·++vs.toArray))).push (seqObj "list" vs.toArray 0)}
 rw[fB]
 refine aa (aL (kS slot_list_sort ⟨_,K5,rfl⟩ entry_list_sort (vg (s:={s with heap:=((s.heap.push (seqObj "list" #[] 0)).update s.heap.objs.size (c8 (·++vs.toArray))).push (seqObj "list" vs.toArray 0)}) K5 (x.keep keep) Qk G8 hd λp a1 a2=>⟨_,rfl,?_⟩) (args_list_sort _)))
 exact ao ⟨_,rfl,h p a1 a2⟩
end
noncomputable def lM(p:Nat×Bool):D:= .tup [.str (aS [p.1]), .bool p.2]
section
variable {W:Wd}{f o:Fz}{s:Shared}
theorem bQ.JM{f:Fz}{ds:List D}{vs:List Value}(h:bQ f ds vs):∀p:List Nat,(∀i∈p,i<ds.length)->bQ f (p.map λi=>ds.getD i .none) (p.map λi=>vs.getD i d7)
 |[],_=>rfl
 |i::p,hp=>by
  have hi:=hp i (.head _)
  obtain⟨v,e,hv⟩:=h.get (i:=i) (d:=ds[i]) (aj hi)
  refine⟨_,_,rfl,?_,bQ.JM h p λj hj=>hp j (.tail _ hj)⟩
  dsimp only
  rw[ak,ak,e,aj hi]
  exact hv
theorem yB{A:Around}{ds out:List (Nat×Bool)}(h1:1<=ds.length)(h4:ds.length<=4)(hd:(ds.map (·.1)).Nodup)(hp:out.Perm ds)(hs:out.Pairwise λa b=>a.1<b.1):l7 W A (.builtin "sorted") [.list (ds.map lM)] (.list (out.map lM)):=λf o s vs S Lk Q E h=>by
 obtain⟨v,r,rfl,⟨a,ob,us,m,rfl,e1,e2,e3,e4⟩,e5⟩:=Lk
 obtain rfl:r=[]:=e5
 have hlen:us.length=ds.length:=by rw[e4.length,ai]
 have hx:ko s.heap us (ds.map (·.1)):=λi hi=>by
  have vP:i<ds.length:=hlen▸hi
  obtain⟨v,g1,g2⟩:=e4.get (i:=i) (d:=lM ds[i]) (by rw[av,aj vP]; rfl)
  obtain⟨b,ob',ws,n',rfl,k1,k2,k3,k4⟩:=g2
  obtain⟨w1,r1,rfl,⟨t,rfl⟩,w2,r2,rfl,hb,hr⟩:=k4
  obtain rfl:r2=[]:=hr
  refine⟨b,ob',_,n',t,g1,S.sub _ _ k1,k2,k3,rfl,?_⟩
  have:(ds.map (·.1)).getD i 0=(ds[i]).1:=by rw[ak,av,aj vP]; rfl
  rw[this]; rfl
 have NT:∀i j,i<us.length->j<us.length->i≠j->(ds.map (·.1)).getD i 0≠(ds.map (·.1)).getD j 0:=λi j hi hj rp e=>by
  have vP:i<(ds.map (·.1)).length:=by rw[ai,<-hlen]; exact hi
  have BJ:j<(ds.map (·.1)).length:=by rw[ai,<-hlen]; exact hj
  rw[ak,ak,aj vP,aj BJ] at e
  have G9:=List.pairwise_iff_getElem.mp hd
  rcases bj rp with q|q
  ·exact G9 i j vP BJ q (by simpa using e)
  ·exact G9 j i BJ vP q (by simpa using e.symm)
 refine Am (vs:=us) ⟨ob,S.sub _ _ e1,e2.1,m,e3⟩ hx (by exact aX 0x4010828108681 tt h1 (ah hlen.symm)) (by exact aX 36342940621857 tt h4 (ah hlen)) NT λp a1 a2=>?_
 obtain⟨e,he⟩:=sortedAll_at s.heap us (zH (p.map λi=>us.getD i d7))
 have hn:s.heap.get? (s.heap.objs.size+1)=none:=by
  refine none_of λy q=>?_
  have q':@LT.lt Nat _ (s.heap.objs.size+1) s.heap.objs.size:=bJ q; (first|lia|omega)
 obtain⟨lf,S'⟩:=S.Ek (tk:=s.toks) (λ_ _=>sortedAll_old) hn he
 have jl:∀i∈p,i<ds.length:=λi hi=>by have:=aW.mp (a1.subset hi); exact cG 0x2828042100421a0a01 tt (ah hlen) this
 have en:p.map (λi=>ds.getD i (0,false))=out:=by
  have q1:(p.map λi=>ds.getD i (0,false)).Perm ds:=by
   have:=a1.map λi=>ds.getD i (0,false)
   rw[hlen] at this
   have e:(aB ds.length).map (λi=>ds.getD i (0,false))=ds:=by
    apply js
    intro k
    rw[av]
    by_cases hk:k<ds.length
    ·rw[cQ hk,aj hk]
     simp[ak,hk]
    ·rw[cf (by simp; exact M3 hlen hk),cf (by exact M3 hlen hk)]; rfl
   rw[e] at this; exact this
  refine(q1.trans hp.symm).eq_of_pairwise (le:=λa b=>a.1<b.1) (λx y _ _ h1 h2=>absurd h1 (by exact Rh h1 h2)) ?_ hs
  rw[r6]
  refine a2.imp_of_mem fun{i j} hi hj rp=>?_
  have vP:=jl i hi
  have BJ:=jl j hj
  rw[ak,ak,av,av,aj vP,aj BJ] at rp
  rw[ak,ak,aj vP,aj BJ]
  exact rp
 have hD:out.map lM=p.map λi=>(ds.map lM).getD i .none:=by
  rw[<-en,aM]
  refine ef λi hi=>?_
  have vP:=jl i hi
  simp[ak,vP]
 refine h _ _ _ lf S' ⟨_,_,_,e,rfl,Fz.aJ ..,⟨rfl,rfl,rfl⟩,rfl,?_⟩
 rw[hD]
 exact(bQ.JM (e4.mono lf) p λi hi=>by rw[ai]; exact jl i hi)
end
end
end
section
set_option tactic.hygienic true
noncomputable section
noncomputable abbrev pw:gr:=PySem.Challenge.pw_rs0233_01
noncomputable def W5{α:Type}(d:α):List α->Nat->α
 |[],_=>d
 |a::_,0=>a
 |_::l,n+1=>W5 d l n
noncomputable def nv(i:Nat):Stmt:=W5 (.Pass default) pw.main.body i
noncomputable def qX(i j:Nat):Stmt:=match nv i with
 | .ClassDef _ _ _ body _ _ _ _ _ _ _=>W5 (.Pass default) body j
 |s=>s
noncomputable abbrev vS(x:Str)(t:Nat):Value:= .str x t
noncomputable abbrev vI(i:Int):Value:= .int i 0
noncomputable abbrev vR(a:Addr):Value:= .ref a
noncomputable abbrev vE(P:Params)(k:Str)(t:Nat)(v:Value):cz:=⟨du P k, .str k t,v⟩
noncomputable def fO(st:Stmt)(q:Str)(dV pm:Value)(cd:Addr):Obj:=match st with
 | .FunctionDef name args body _ _ _ scope _ _ _=>{cls:= .type "function",data:= .func {name:=name,qualname:=q,params:=args,body:= .stmts body,scope:=scope,globals:=3,closure:=[],defaults:=dV,kwdefaults:= .none,pyModule:=pm,code:= .ref cd}}
 |_=>default
noncomputable def cO(n:Str)(t:Nat)(q:Str)(t2 t3:Nat)(vs:List Value)(t4:Nat):Obj:={cls:= .type "code",data:= .fields (.str n t:: .str q t2:: .str "/claim/cut.py" t3::(vs++[.str "/claim/cut.py" t4])).toArray}
noncomputable def HK(P:Params):Frag:=[
(2,{cls:= .none,data:= .dict #[vE P "\x69mport.loaded._sre" 183 (.bool true),vE P "class._frozen_importlib.BuiltinImporter" 185 (vR 14),vE P "watched.\x69mport" 206 (vR 18),vE P "class._frozen_importlib.ModuleSpec" 216 (vR 22),vE P "sys.modules.booked-epoch" 245 (vI 3),vE P "\x69mport.later-laid._sre" 270 (.bool true),vE P "watched.library" 272 (vR 27),vE P "watched.library-objects" 0 (vS "\x0c" 0),vE P "watched.library-deep._sre" 273 (vS "\x04\x00\x00\x0b\x04\x00\x00\x0b\x04\x00\x00\x03\x04\x00\x00\x0b\x08\x04dict\x02" 0),vE P "type.__subclasses__.Exception.0" 341 (vI 76),vE P "type.__subclasses__.Exception.n" 342 (vI 1)] 11}),
 (3,{cls:= .type "dict",data:= .dict #[vE P "__name__" 165 (vS "law_rs0233_01" 934),vE P "__doc__" 166 .none,vE P "__package__" 167 .none,vE P "__loader__" 168 (.builtin "__main__.__loader__#opaque"),vE P "__spec__" 169 .none,vE P "__annotations__" 170 (vR 6),vE P "__builtins__" 171 (vR 4),vE P "__file__" 173 (vS "/claim/cut.py" 172),vE P "__cached__" 174 .none,vE P "_sre" 275 (vR 12),vE P "_wall" 288 (vR 38),vE P "NannyNag" 344 (vR 76),vE P "Whitespace" 450 (vR 141),vE P "format_witnesses" 459 (vR 152),vE P "LPAR" 463 (.int 7 462),vE P "RPAR" 465 (.int 8 464),vE P "LSQB" 467 (.int 9 466),vE P "RSQB" 469 (.int 10 468),vE P "COLON" 471 (.int 11 470),vE P "COMMA" 473 (.int 12 472),vE P "SEMI" 475 (.int 13 474),vE P "PLUS" 477 (.int 14 476),vE P "MINUS" 479 (.int 15 478),vE P "STAR" 481 (.int 16 480),vE P "SLASH" 483 (.int 17 482),vE P "VBAR" 485 (.int 18 484),vE P "AMPER" 487 (.int 19 486),vE P "LESS" 489 (.int 20 488),vE P "GREATER" 491 (.int 21 490),vE P "EQUAL" 493 (.int 22 492),vE P "DOT" 495 (.int 23 494),vE P "PERCENT" 497 (.int 24 496),vE P "LBRACE" 499 (.int 25 498),vE P "RBRACE" 501 (.int 26 500),vE P "EQEQUAL" 503 (.int 27 502),vE P "NOTEQUAL" 505 (.int 28 504),vE P "LESSEQUAL" 507 (.int 29 506),vE P "GREATEREQUAL" 509 (.int 30 508),vE P "TILDE" 511 (.int 31 510),vE P "CIRCUMFLEX" 513 (.int 32 512),vE P "LEFTSHIFT" 515 (.int 33 514),vE P "RIGHTSHIFT" 517 (.int 34 516),vE P "DOUBLESTAR" 519 (.int 35 518),vE P "PLUSEQUAL" 521 (.int 36 520),vE P "MINEQUAL" 523 (.int 37 522),vE P "STAREQUAL" 525 (.int 38 524),vE P "SLASHEQUAL" 527 (.int 39 526),vE P "PERCENTEQUAL" 529 (.int 40 528),vE P "AMPEREQUAL" 531 (.int 41 530),vE P "VBAREQUAL" 533 (.int 42 532),vE P "CIRCUMFLEXEQUAL" 535 (.int 43 534),vE P "LEFTSHIFTEQUAL" 537 (.int 44 536),vE P "RIGHTSHIFTEQUAL" 539 (.int 45 538),vE P "DOUBLESTAREQUAL" 541 (.int 46 540),vE P "DOUBLESLASH" 543 (.int 47 542),vE P "DOUBLESLASHEQUAL" 545 (.int 48 544),vE P "AT" 547 (.int 49 546),vE P "ATEQUAL" 549 (.int 50 548),vE P "RARROW" 551 (.int 51 550),vE P "ELLIPSIS" 553 (.int 52 552),vE P "COLONEQUAL" 555 (.int 53 554),vE P "EXCLAMATION" 557 (.int 54 556),vE P "NT_OFFSET" 559 (.int 256 558),vE P "EXACT_TOKEN_TYPES" 656 (vR 153),vE P "ISTERMINAL" 663 (vR 162),vE P "ISNONTERMINAL" 670 (vR 169),vE P "tspecials" 706 (vR 174),vE P "_name_disallowed_re" 732 (vR 179),vE P "_value_disallowed_re" 766 (vR 184),vE P "_formatparam" 776 (vR 192),vE P "Headers" 933 (vR 313),vE P "_law_said" 941 (vR 322),vE P "_law_closure" 947 (vR 327),vE P "_law_leads" 953 (vR 332),vE P "_law_column" 963 (vR 339),vE P "_law_read" 969 (vR 344),vE P "_law_laid" 975 (vR 349),vE P "_law_proved" 981 (vR 354),vE P "_law_words" 987 (vR 359),vE P "_law_nags" 993 (vR 364),vE P "law" 999 (vR 369)] 81}),
 (37,cO "_wall" 282 "_wall" 283 284 [vI 2,vI 1,vI 0,vI 0,vI 3,vR 32, .bool true,vI 276,vR 33, .none,vR 34,vR 35,vR 36,vI 286,vI 2] 287),
 (38,fO (nv 1) "_wall" (.none) (vS "__main__" 164) 37),
 (51,cO "__init__" 303 "NannyNag.__init__" 304 305 [vI 8,vI 4,vI 0,vI 0,vI 3,vR 46, .bool true,vI 276,vR 47, .none,vR 48,vR 49,vR 50,vI 310,vI 8] 311),
 (52,fO (qX 3 0) "NannyNag.__init__" (.none) (vS "cpy313.tabnanny" 289) 51),
 (58,cO "get_lineno" 313 "NannyNag.get_lineno" 314 315 [vI 11,vI 1,vI 0,vI 0,vI 3,vR 53, .bool true,vI 276,vR 54, .none,vR 55,vR 56,vR 57,vI 317,vI 11] 318),
 (59,fO (qX 3 1) "NannyNag.get_lineno" (.none) (vS "cpy313.tabnanny" 289) 58),
 (65,cO "get_msg" 320 "NannyNag.get_msg" 321 322 [vI 14,vI 1,vI 0,vI 0,vI 3,vR 60, .bool true,vI 276,vR 61, .none,vR 62,vR 63,vR 64,vI 324,vI 14] 325),
 (66,fO (qX 3 2) "NannyNag.get_msg" (.none) (vS "cpy313.tabnanny" 289) 65),
 (72,cO "get_line" 327 "NannyNag.get_line" 328 329 [vI 17,vI 1,vI 0,vI 0,vI 3,vR 67, .bool true,vI 276,vR 68, .none,vR 69,vR 70,vR 71,vI 331,vI 17] 332),
 (73,fO (qX 3 3) "NannyNag.get_line" (.none) (vS "cpy313.tabnanny" 289) 72),
 (75,{cls:= .type "dict",data:= .dict #[vE P "__module__" 298 (vS "cpy313.tabnanny" 289),vE P "__firstlineno__" 302 (.int 6 301),vE P "__init__" 312 (vR 52),vE P "get_lineno" 319 (vR 59),vE P "get_msg" 326 (vR 66),vE P "get_line" 333 (vR 73),vE P "__static_attributes__" 337 (vR 74),vE P "__weakref__" 339 (vR 77),vE P "__doc__" 340 .none] 3}),
 (76,{cls:= .type "type",data:= .cls {name:=J "NannyNag",bases:=[.type "Exception"],mro:=[vR 76, .type "Exception", .type "BaseException", .type "object"],ns:=75,qualname:=J "NannyNag"},slots:=#[some (vR 39),none,some (vS "NannyNag" 291),some (vS "NannyNag" 299),some (.builtin "Exception.__new__"),some (.bool true)]}),
 (77,{cls:= .type "getset_descriptor",data:= .fields #[vS "__weakref__" 338,vR 76, .builtin "ExceptionGroup.__weakref__", .none]}),
 (95,cO "__init__" 362 "Whitespace.__init__" 363 364 [vI 22,vI 2,vI 0,vI 0,vI 3,vR 90, .bool true,vI 276,vR 91, .none,vR 92,vR 93,vR 94,vI 374,vI 22] 375),
 (96,fO (qX 4 1) "Whitespace.__init__" (.none) (vS "cpy313.tabnanny" 289) 95),
 (102,cO "longest_run_of_spaces" 377 "Whitespace.longest_run_of_spaces" 378 379 [vI 45,vI 1,vI 0,vI 0,vI 3,vR 97, .bool true,vI 276,vR 98, .none,vR 99,vR 100,vR 101,vI 383,vI 45] 384),
 (103,fO (qX 4 2) "Whitespace.longest_run_of_spaces" (.none) (vS "cpy313.tabnanny" 289) 102),
 (109,cO "indent_level" 386 "Whitespace.indent_level" 387 388 [vI 49,vI 2,vI 0,vI 0,vI 3,vR 104, .bool true,vI 276,vR 105, .none,vR 106,vR 107,vR 108,vI 395,vI 49] 396),
 (110,fO (qX 4 3) "Whitespace.indent_level" (.none) (vS "cpy313.tabnanny" 289) 109),
 (116,cO "equal" 398 "Whitespace.equal" 399 400 [vI 56,vI 2,vI 0,vI 0,vI 3,vR 111, .bool true,vI 276,vR 112, .none,vR 113,vR 114,vR 115,vI 403,vI 56] 404),
 (117,fO (qX 4 4) "Whitespace.equal" (.none) (vS "cpy313.tabnanny" 289) 116),
 (123,cO "not_equal_witness" 406 "Whitespace.not_equal_witness" 407 408 [vI 59,vI 2,vI 0,vI 0,vI 3,vR 118, .bool true,vI 276,vR 119, .none,vR 120,vR 121,vR 122,vI 414,vI 59] 415),
 (124,fO (qX 4 5) "Whitespace.not_equal_witness" (.none) (vS "cpy313.tabnanny" 289) 123),
 (130,cO "less" 417 "Whitespace.less" 418 419 [vI 67,vI 2,vI 0,vI 0,vI 3,vR 125, .bool true,vI 276,vR 126, .none,vR 127,vR 128,vR 129,vI 424,vI 67] 425),
 (131,fO (qX 4 6) "Whitespace.less" (.none) (vS "cpy313.tabnanny" 289) 130),
 (137,cO "not_less_witness" 427 "Whitespace.not_less_witness" 428 429 [vI 78,vI 2,vI 0,vI 0,vI 3,vR 132, .bool true,vI 276,vR 133, .none,vR 134,vR 135,vR 136,vI 435,vI 78] 436),
 (138,fO (qX 4 7) "Whitespace.not_less_witness" (.none) (vS "cpy313.tabnanny" 289) 137),
 (140,{cls:= .type "dict",data:= .dict #[vE P "__module__" 352 (vS "cpy313.tabnanny" 289),vE P "__firstlineno__" 356 (.int 19 355),vE P "S" 360 (vS " " 358),vE P "T" 361 (vS "\t" 359),vE P "__init__" 376 (vR 96),vE P "longest_run_of_spaces" 385 (vR 103),vE P "indent_level" 397 (vR 110),vE P "equal" 405 (vR 117),vE P "not_equal_witness" 416 (vR 124),vE P "less" 426 (vR 131),vE P "not_less_witness" 437 (vR 138),vE P "__static_attributes__" 443 (vR 139),vE P "__dict__" 445 (vR 142),vE P "__weakref__" 447 (vR 143),vE P "__doc__" 448 .none] 4}),
 (141,{cls:= .type "type",data:= .cls {name:=J "Whitespace",bases:=[.type "object"],mro:=[vR 141, .type "object"],ns:=140,qualname:=J "Whitespace"},slots:=#[none,none,some (vS "Whitespace" 345),some (vS "Whitespace" 353),some (.builtin "object.__new__"),some (.bool true)]}),
 (142,{cls:= .type "getset_descriptor",data:= .fields #[vS "__dict__" 444,vR 141, .builtin "function.__dict__", .builtin "function.__dict__#set"]}),
 (143,{cls:= .type "getset_descriptor",data:= .fields #[vS "__weakref__" 446,vR 141, .builtin "ExceptionGroup.__weakref__", .none]}),
 (151,cO "format_witnesses" 451 "format_witnesses" 452 453 [vI 85,vI 1,vI 0,vI 0,vI 3,vR 146, .bool true,vI 276,vR 147, .none,vR 148,vR 149,vR 150,vI 457,vI 85] 458),
 (152,fO (nv 5) "format_witnesses" (.none) (vS "cpy313.tabnanny" 289) 151),
 (153,{cls:= .type "dict",data:= .dict #[vE P "!" 560 (.int 54 556),vE P "!=" 562 (.int 28 504),vE P "%" 564 (.int 24 496),vE P "%=" 566 (.int 40 528),vE P "&" 568 (.int 19 486),vE P "&=" 570 (.int 41 530),vE P "(" 572 (.int 7 462),vE P ")" 574 (.int 8 464),vE P "*" 576 (.int 16 480),vE P "**" 578 (.int 35 518),vE P "**=" 580 (.int 46 540),vE P "*=" 582 (.int 38 524),vE P "+" 584 (.int 14 476),vE P "+=" 586 (.int 36 520),vE P "," 588 (.int 12 472),vE P "-" 590 (.int 15 478),vE P "-=" 592 (.int 37 522),vE P "->" 594 (.int 51 550),vE P "." 596 (.int 23 494),vE P "..." 598 (.int 52 552),vE P "/" 600 (.int 17 482),vE P "//" 602 (.int 47 542),vE P "//=" 604 (.int 48 544),vE P "/=" 606 (.int 39 526),vE P ":" 608 (.int 11 470),vE P ":=" 610 (.int 53 554),vE P ";" 612 (.int 13 474),vE P "<" 614 (.int 20 488),vE P "<<" 616 (.int 33 514),vE P "<<=" 618 (.int 44 536),vE P "<=" 620 (.int 29 506),vE P "=" 622 (.int 22 492),vE P "==" 624 (.int 27 502),vE P ">" 626 (.int 21 490),vE P ">=" 628 (.int 30 508),vE P ">>" 629 (.int 34 516),vE P ">>=" 630 (.int 45 538),vE P "@" 631 (.int 49 546),vE P "@=" 632 (.int 50 548),vE P "[" 633 (.int 9 466),vE P "]" 634 (.int 10 468),vE P "^" 635 (.int 32 512),vE P "^=" 636 (.int 43 534),vE P "{" 637 (.int 25 498),vE P "|" 638 (.int 18 484),vE P "|=" 639 (.int 42 532),vE P "}" 640 (.int 26 500),vE P "~" 641 (.int 31 510)] 48}),
 (161,cO "ISTERMINAL" 657 "ISTERMINAL" 658 659 [vI 142,vI 1,vI 0,vI 0,vI 3,vR 156, .bool true,vI 276,vR 157, .none,vR 158,vR 159,vR 160,vI 661,vI 142] 662),
 (162,fO (nv 57) "ISTERMINAL" (.none) (vS "cpy313.token" 460) 161),
 (168,cO "ISNONTERMINAL" 664 "ISNONTERMINAL" 665 666 [vI 144,vI 1,vI 0,vI 0,vI 3,vR 163, .bool true,vI 276,vR 164, .none,vR 165,vR 166,vR 167,vI 668,vI 144] 669),
 (169,fO (nv 58) "ISNONTERMINAL" (.none) (vS "cpy313.token" 460) 168),
 (174,{cls:= .type "re.Pattern",data:= .fields #[vS "[ \\(\\)<>@,;:\\\\\"/\\[\\]\\?=]" 674, .int 32 705,vI 0, .none, .none,vR 173,vI 0]}),
 (178,{cls:= .type "tuple",data:= .seq #[vI 14,vI 10,vI 4,vI 1,vI 1,vI 22,vI 0,vI 31,vI 16,vI 127,vI 0,vI 13,vI 7,vI 22,vI 0,vI 31,vI 16,vI 127,vI 0,vI 1]}),
 (179,{cls:= .type "re.Pattern",data:= .fields #[vS "[\\x00-\\x1F\\x7F]" 708, .int 32 731,vI 0, .none, .none,vR 178,vI 0]}),
 (183,{cls:= .type "tuple",data:= .seq #[vI 14,vI 14,vI 4,vI 1,vI 1,vI 9,vI 4294966783,vI 0,vI 0,vI 2147483648,vI 0,vI 0,vI 0,vI 0,vI 0,vI 13,vI 11,vI 9,vI 4294966783,vI 0,vI 0,vI 2147483648,vI 0,vI 0,vI 0,vI 0,vI 0,vI 1]}),
 (184,{cls:= .type "re.Pattern",data:= .fields #[vS "[\\x00-\\x08\\x0A-\\x1F\\x7F]" 734, .int 32 765,vI 0, .none, .none,vR 183,vI 0]}),
 (185,{cls:= .type "tuple",data:= .seq #[.none, .int 1 767]}),
 (191,cO "_formatparam" 768 "_formatparam" 769 770 [vI 150,vI 3,vI 0,vI 0,vI 3,vR 186, .bool true,vI 276,vR 187, .none,vR 188,vR 189,vR 190,vI 774,vI 150] 775),
 (192,fO (nv 63) "_formatparam" (vR 185) (vS "cpy313.wsgiref.headers" 671) 191),
 (200,{cls:= .type "tuple",data:= .seq #[.none]}),
 (206,cO "__init__" 789 "Headers.__init__" 790 791 [vI 161,vI 2,vI 0,vI 0,vI 3,vR 201, .bool true,vI 276,vR 202, .none,vR 203,vR 204,vR 205,vI 796,vI 161] 797),
 (207,fO (qX 64 0) "Headers.__init__" (vR 200) (vS "cpy313.wsgiref.headers" 671) 206),
 (213,cO "_convert_string_type" 799 "Headers._convert_string_type" 800 801 [vI 171,vI 2,vI 0,vI 1,vI 3,vR 208, .bool true,vI 276,vR 209, .none,vR 210,vR 211,vR 212,vI 806,vI 171] 807),
 (214,fO (qX 64 1) "Headers._convert_string_type" (.none) (vS "cpy313.wsgiref.headers" 671) 213),
 (220,cO "__len__" 809 "Headers.__len__" 810 811 [vI 179,vI 1,vI 0,vI 0,vI 3,vR 215, .bool true,vI 276,vR 216, .none,vR 217,vR 218,vR 219,vI 813,vI 179] 814),
 (221,fO (qX 64 2) "Headers.__len__" (.none) (vS "cpy313.wsgiref.headers" 671) 220),
 (227,cO "__setitem__" 816 "Headers.__setitem__" 817 818 [vI 182,vI 3,vI 0,vI 0,vI 3,vR 222, .bool true,vI 276,vR 223, .none,vR 224,vR 225,vR 226,vI 822,vI 182] 823),
 (228,fO (qX 64 3) "Headers.__setitem__" (.none) (vS "cpy313.wsgiref.headers" 671) 227),
 (232,cO "__delitem__" 825 "Headers.__delitem__" 826 827 [vI 186,vI 2,vI 0,vI 0,vI 3,vR 229, .bool true,vI 276,vR 230, .none, .none, .none,vR 231,vI 828,vI 186] 829),
 (233,fO (qX 64 4) "Headers.__delitem__" (.none) (vS "cpy313.wsgiref.headers" 671) 232),
 (239,cO "__getitem__" 831 "Headers.__getitem__" 832 833 [vI 190,vI 2,vI 0,vI 0,vI 3,vR 234, .bool true,vI 276,vR 235, .none,vR 236,vR 237,vR 238,vI 836,vI 190] 837),
 (240,fO (qX 64 5) "Headers.__getitem__" (.none) (vS "cpy313.wsgiref.headers" 671) 239),
 (246,cO "__contains__" 839 "Headers.__contains__" 840 841 [vI 193,vI 2,vI 0,vI 0,vI 3,vR 241, .bool true,vI 276,vR 242, .none,vR 243,vR 244,vR 245,vI 844,vI 193] 845),
 (247,fO (qX 64 6) "Headers.__contains__" (.none) (vS "cpy313.wsgiref.headers" 671) 246),
 (251,cO "get_all" 847 "Headers.get_all" 848 849 [vI 196,vI 2,vI 0,vI 0,vI 3,vR 248, .bool true,vI 276,vR 249, .none, .none, .none,vR 250,vI 850,vI 196] 851),
 (252,fO (qX 64 7) "Headers.get_all" (.none) (vS "cpy313.wsgiref.headers" 671) 251),
 (253,{cls:= .type "tuple",data:= .seq #[.none]}),
 (259,cO "get" 853 "Headers.get" 854 855 [vI 200,vI 3,vI 0,vI 0,vI 3,vR 254, .bool true,vI 276,vR 255, .none,vR 256,vR 257,vR 258,vI 861,vI 200] 862),
 (260,fO (qX 64 8) "Headers.get" (vR 253) (vS "cpy313.wsgiref.headers" 671) 259),
 (264,cO "keys" 864 "Headers.keys" 865 866 [vI 207,vI 1,vI 0,vI 0,vI 3,vR 261, .bool true,vI 276,vR 262, .none, .none, .none,vR 263,vI 867,vI 207] 868),
 (265,fO (qX 64 9) "Headers.keys" (.none) (vS "cpy313.wsgiref.headers" 671) 264),
 (269,cO "values" 870 "Headers.values" 871 872 [vI 210,vI 1,vI 0,vI 0,vI 3,vR 266, .bool true,vI 276,vR 267, .none, .none, .none,vR 268,vI 873,vI 210] 874),
 (270,fO (qX 64 10) "Headers.values" (.none) (vS "cpy313.wsgiref.headers" 671) 269),
 (276,cO "items" 876 "Headers.items" 877 878 [vI 213,vI 1,vI 0,vI 0,vI 3,vR 271, .bool true,vI 276,vR 272, .none,vR 273,vR 274,vR 275,vI 880,vI 213] 881),
 (277,fO (qX 64 11) "Headers.items" (.none) (vS "cpy313.wsgiref.headers" 671) 276),
 (283,cO "__repr__" 883 "Headers.__repr__" 884 885 [vI 216,vI 1,vI 0,vI 0,vI 3,vR 278, .bool true,vI 276,vR 279, .none,vR 280,vR 281,vR 282,vI 887,vI 216] 888),
 (284,fO (qX 64 12) "Headers.__repr__" (.none) (vS "cpy313.wsgiref.headers" 671) 283),
 (288,cO "__str__" 890 "Headers.__str__" 891 892 [vI 219,vI 1,vI 0,vI 0,vI 3,vR 285, .bool true,vI 276,vR 286, .none, .none, .none,vR 287,vI 893,vI 219] 894),
 (289,fO (qX 64 13) "Headers.__str__" (.none) (vS "cpy313.wsgiref.headers" 671) 288),
 (295,cO "__bytes__" 896 "Headers.__bytes__" 897 898 [vI 222,vI 1,vI 0,vI 0,vI 3,vR 290, .bool true,vI 276,vR 291, .none,vR 292,vR 293,vR 294,vI 900,vI 222] 901),
 (296,fO (qX 64 14) "Headers.__bytes__" (.none) (vS "cpy313.wsgiref.headers" 671) 295),
 (302,cO "setdefault" 903 "Headers.setdefault" 904 905 [vI 225,vI 3,vI 0,vI 0,vI 3,vR 297, .bool true,vI 276,vR 298, .none,vR 299,vR 300,vR 301,vI 909,vI 225] 910),
 (303,fO (qX 64 15) "Headers.setdefault" (.none) (vS "cpy313.wsgiref.headers" 671) 302),
 (309,cO "add_header" 912 "Headers.add_header" 913 914 [vI 228,vI 3,vI 0,vI 0,vI 11,vR 304, .bool true,vI 276,vR 305, .none,vR 306,vR 307,vR 308,vI 922,vI 228] 923),
 (310,fO (qX 64 16) "Headers.add_header" (.none) (vS "cpy313.wsgiref.headers" 671) 309),
 (312,{cls:= .type "dict",data:= .dict #[vE P "__module__" 784 (vS "cpy313.wsgiref.headers" 671),vE P "__firstlineno__" 788 (.int 159 787),vE P "__init__" 798 (vR 207),vE P "_convert_string_type" 808 (vR 214),vE P "__len__" 815 (vR 221),vE P "__setitem__" 824 (vR 228),vE P "__delitem__" 830 (vR 233),vE P "__getitem__" 838 (vR 240),vE P "__contains__" 846 (vR 247),vE P "get_all" 852 (vR 252),vE P "get" 863 (vR 260),vE P "keys" 869 (vR 265),vE P "values" 875 (vR 270),vE P "items" 882 (vR 277),vE P "__repr__" 889 (vR 284),vE P "__str__" 895 (vR 289),vE P "__bytes__" 902 (vR 296),vE P "setdefault" 911 (vR 303),vE P "add_header" 924 (vR 310),vE P "__static_attributes__" 926 (vR 311),vE P "__dict__" 928 (vR 314),vE P "__weakref__" 930 (vR 315),vE P "__doc__" 931 .none] 4}),
 (313,{cls:= .type "type",data:= .cls {name:=J "Headers",bases:=[.type "object"],mro:=[vR 313, .type "object"],ns:=312,qualname:=J "Headers"},slots:=#[none,none,some (vS "Headers" 777),some (vS "Headers" 785),some (.builtin "object.__new__"),some (.bool true)]}),
 (314,{cls:= .type "getset_descriptor",data:= .fields #[vS "__dict__" 927,vR 313, .builtin "function.__dict__", .builtin "function.__dict__#set"]}),
 (315,{cls:= .type "getset_descriptor",data:= .fields #[vS "__weakref__" 929,vR 313, .builtin "ExceptionGroup.__weakref__", .none]}),
 (321,cO "_law_said" 936 "_law_said" 937 938 [vI 242,vI 1,vI 0,vI 0,vI 3,vR 318, .bool true,vI 276,vR 319, .none, .none, .none,vR 320,vI 939,vI 242] 940),
 (322,fO (nv 66) "_law_said" (.none) (vS "law_rs0233_01" 934) 321),
 (326,cO "_law_closure" 942 "_law_closure" 943 944 [vI 245,vI 1,vI 0,vI 0,vI 3,vR 323, .bool true,vI 276,vR 324, .none, .none, .none,vR 325,vI 945,vI 245] 946),
 (327,fO (nv 67) "_law_closure" (.none) (vS "law_rs0233_01" 934) 326),
 (331,cO "_law_leads" 948 "_law_leads" 949 950 [vI 253,vI 2,vI 0,vI 0,vI 3,vR 328, .bool true,vI 276,vR 329, .none, .none, .none,vR 330,vI 951,vI 253] 952),
 (332,fO (nv 68) "_law_leads" (.none) (vS "law_rs0233_01" 934) 331),
 (338,cO "_law_column" 954 "_law_column" 955 956 [vI 271,vI 2,vI 0,vI 0,vI 3,vR 333, .bool true,vI 276,vR 334, .none,vR 335,vR 336,vR 337,vI 961,vI 271] 962),
 (339,fO (nv 69) "_law_column" (.none) (vS "law_rs0233_01" 934) 338),
 (343,cO "_law_read" 964 "_law_read" 965 966 [vI 276,vI 1,vI 0,vI 0,vI 3,vR 340, .bool true,vI 276,vR 341, .none, .none, .none,vR 342,vI 967,vI 276] 968),
 (344,fO (nv 70) "_law_read" (.none) (vS "law_rs0233_01" 934) 343),
 (348,cO "_law_laid" 970 "_law_laid" 971 972 [vI 287,vI 2,vI 0,vI 0,vI 3,vR 345, .bool true,vI 276,vR 346, .none, .none, .none,vR 347,vI 973,vI 287] 974),
 (349,fO (nv 71) "_law_laid" (.none) (vS "law_rs0233_01" 934) 348),
 (353,cO "_law_proved" 976 "_law_proved" 977 978 [vI 293,vI 2,vI 0,vI 0,vI 3,vR 350, .bool true,vI 276,vR 351, .none, .none, .none,vR 352,vI 979,vI 293] 980),
 (354,fO (nv 72) "_law_proved" (.none) (vS "law_rs0233_01" 934) 353),
 (358,cO "_law_words" 982 "_law_words" 983 984 [vI 302,vI 1,vI 0,vI 0,vI 3,vR 355, .bool true,vI 276,vR 356, .none, .none, .none,vR 357,vI 985,vI 302] 986),
 (359,fO (nv 73) "_law_words" (.none) (vS "law_rs0233_01" 934) 358),
 (363,cO "_law_nags" 988 "_law_nags" 989 990 [vI 304,vI 3,vI 0,vI 0,vI 3,vR 360, .bool true,vI 276,vR 361, .none, .none, .none,vR 362,vI 991,vI 304] 992),
 (364,fO (nv 74) "_law_nags" (.none) (vS "law_rs0233_01" 934) 363),
 (368,cO "law" 994 "law" 995 996 [vI 315,vI 1,vI 0,vI 0,vI 3,vR 365, .bool true,vI 276,vR 366, .none, .none, .none,vR 367,vI 997,vI 315] 998),
 (369,fO (nv 75) "law" (.none) (vS "law_rs0233_01" 934) 368)]
noncomputable def W6:List Addr:=[2,3,37,38,51,52,58,59,65,66,72,73,75,76,77,95,96,102,103,109,110,116,117,123,124,130,131,137,138,140,141,142,143,151,152,153,161,162,168,169,174,178,179,183,184,185,191,192,200,206,207,213,214,220,221,227,228,232,233,239,240,246,247,251,252,253,259,260,264,265,269,270,276,277,283,284,288,289,295,296,302,303,309,310,312,313,314,315,321,322,326,327,331,332,338,339,343,344,348,349,353,354,358,359,363,364,368,369]
end
noncomputable def BK:List Obj->BT->Nat->Option (BT×Nat)
 |[],t,n=>some (t,n)
 |o::os,t,n=>match((t.ins n o).get n).isSome with
  |true=>BK os (t.ins n o) (n+1)
  |false=>none
theorem yC(life:Life):∀(os:List Obj) (t:BT) (n:Nat) (t':BT) (n':Nat),BK os t n=some (t',n')->zC t' n' life=⟨(zC t n life).objs++os.toArray,life⟩
 |[],t,n,t',n',h=>by cases h; simp[zC]
 |o::os,t,n,t',n',h=>by
  unfold BK at h
  cases e:((t.ins n o).get n).isSome with
  |false=>rw[e] at h; cases h
  |true=>
   rw[e] at h
   rw[yC life os _ _ _ _ h,absHeap_ins e]
   show(⟨(Hn _ o).objs++_,_⟩:Heap)=_
   congr 1
   show(zC t n life).objs.push o++os.toArray=_
   simp
noncomputable def toT(s:Shared):Option jo:=match BK s.heap.objs.toList .nil 0 with
 |some (t,n)=>some ⟨t,n,s.heap.life,s.gens,s.drawn,s.toks,s.os⟩
 |none=>none
theorem EI{s:Shared}{a:jo}(h:toT s=some a):a.abs=s:=by
 unfold toT at h
 split at h
 ·rename_i t n e
  cases h
  have:=yC s.heap.life _ _ _ _ _ e
  show(⟨zC t n s.heap.life,_,_,_,_⟩:Shared)=s
  rw[this]
  obtain⟨⟨⟨l⟩,life⟩,g,d,k,o⟩:=s
  simp[zC,BT.list]
 ·cases h
noncomputable abbrev ZH:=jo->Thread->Option (jo×Thread)
noncomputable def EJ(NU:ZH)(ok ZI:Thread->Bool):Nat->jo->Thread->Option jo
 | 0,_,_=>none
 |n+1,s,t=>match ZI t with
  |true=>some s
  |false=>match ok t with
   |false=>none
   |true=>match NU s t with
    |some (s',t')=>EJ NU ok ZI n s' t'
    |none=>none
theorem BL{tb:String->Option Builtin}{p:gr}{w:World}{An:Nat}{ann:Option Value}:∀{n:Nat} {s r:jo} {t:Thread},EJ (stepT (denote tb) p w) (stepOk An ann) through n s t=some r->topRun tb p w An ann n s.abs t=some r.abs
 | 0,_,_,_,h=>by cases h
 |n+1,s,r,t,h=>by
  unfold EJ at h
  unfold topRun
  cases he:through t with
  |true=>rw[he] at h; cases h; rfl
  |false=>
   rw[he] at h
   cases hk:stepOk An ann t with
   |false=>rw[hk] at h; cases h
   |true=>
    rw[hk] at h
    cases hs:stepT (denote tb) p w s t with
    |none=>rw[hs] at h; cases h
    |some r=>obtain⟨sU,W7⟩:=r; rw[hs] at h; rw[stepT_spec hs]; exact BL h
noncomputable def EK(NU:ZH):Nat->jo->Thread->Option jo
 | 0,_,_=>none
 |n+1,s,t=>match t.atExitBegin with
  |some []=>some s
  |some (_::_)=>none
  |none=>match NU s t with
   |some (s',t')=>EK NU n s' t'
   |none=>none
theorem BM{tb:String->Option Builtin}{p:gr}{w:World}:∀{n:Nat} {s r:jo} {t:Thread},EK (stepT (denote tb) p w) n s t=some r->importEnds tb p w n s.abs t=some r.abs
 | 0,_,_,_,h=>by cases h
 |n+1,s,r,t,h=>by
  unfold EK at h
  unfold importEnds
  cases he:t.atExitBegin with
  |some l=>
   rw[he] at h
   cases l with
   |nil=>cases h; rfl
   |cons _ _=>cases h
  |none=>
   rw[he] at h
   cases hs:stepT (denote tb) p w s t with
   |none=>rw[hs] at h; cases h
   |some r=>obtain⟨sU,W7⟩:=r; rw[hs] at h; rw[stepT_spec hs]; exact BM h
noncomputable def Ll(imp:jo->Thread->Option jo)(fence:Shared->Option Shared)(asl:Shared->Bool)(top:Nat->Option Value->jo->Thread->Option jo)(ann:Heap->Option Value)(good:Shared->Shared->Bool)(st:Shared×Thread)(t1:Thread):Option Shared:=
 match toT st.1 with
 |none=>none
 |some a=>match imp a st.2 with
  |none=>none
  |some b=>match fence b.abs with
   |none=>none
   |some mK=>match asl mK with
    |false=>none
    |true=>match toT mK with
     |none=>none
     |some c=>match top mK.heap.objs.size (ann mK.heap) c t1 with
      |none=>none
      |some d=>match good mK d.abs with
       |true=>some d.abs
       |false=>none
theorem HY{tb:String->Option Builtin}{p:gr}{w:World}{N:Nat}{s:Shared}
 (h:Ll (EK (stepT (denote tb) (opening p) w) N) (fenceModules? p) (λmK=>mK.heap.isNs bV&&mK.gens.size==0) (λAn ann=>EJ (stepT (denote tb) p w) (stepOk An ann) through N) (λh=>h.nsMap bV "__annotations__")
  (λmK cU=>staticsOk (zq p.main.body) mK.heap cU.heap&&namesBound p cU.heap&&gensDone cU&&laidKept mK.heap cU.heap) (start (opening p)) (topStub p)=some s):openEnds tb p w N=some s:=by
 unfold Ll at h
 split at h
 ·cases h
 rename_i a ha
 split at h
 ·cases h
 rename_i b hb
 split at h
 ·cases h
 rename_i mK NV
 split at h
 ·cases h
 rename_i NW
 split at h
 ·cases h
 rename_i c hc
 split at h
 ·cases h
 rename_i d hd
 split at h
 ·rename_i hg
  cases h
  have h1:=BM hb
  rw[EI ha] at h1
  have h2:=BL hd
  rw[EI hc] at h2
  dsimp only at NW hg h2
  unfold openEnds fencedOpening topFrom
  rw[h1,jL,NV,jL,NW]
  dsimp only
  rw[h2,jL,hg]
 ·cases h
noncomputable section
noncomputable abbrev Qn:RowW:=fV.row.toRowW
noncomputable def vw:gr:={pw with main:={pw.main with body:=[nv 0,nv 75]}}
noncomputable def LS:List Str:=(["_wall","NannyNag","Whitespace","format_witnesses","LPAR","RPAR","LSQB","RSQB","COLON","COMMA","SEMI","PLUS","MINUS","STAR","SLASH","VBAR","AMPER","LESS","GREATER","EQUAL","DOT","PERCENT","LBRACE","RBRACE","EQEQUAL","NOTEQUAL","LESSEQUAL","GREATEREQUAL","TILDE","CIRCUMFLEX","LEFTSHIFT","RIGHTSHIFT","DOUBLESTAR","PLUSEQUAL","MINEQUAL","STAREQUAL","SLASHEQUAL","PERCENTEQUAL","AMPEREQUAL","VBAREQUAL","CIRCUMFLEXEQUAL","LEFTSHIFTEQUAL","RIGHTSHIFTEQUAL","DOUBLESTAREQUAL","DOUBLESLASH","DOUBLESLASHEQUAL","AT","ATEQUAL","RARROW","ELLIPSIS","COLONEQUAL","EXCLAMATION","NT_OFFSET","EXACT_TOKEN_TYPES","ISTERMINAL","ISNONTERMINAL","tspecials","_name_disallowed_re","_value_disallowed_re","_formatparam","Headers","_law_said","_law_closure","_law_leads","_law_column","_law_read","_law_laid","_law_proved","_law_words","_law_nags"]:List String).map J
noncomputable def HX(P:Params):Frag:=HK P++[(147,⟨.none,none, .fields #[],#[]⟩)]
noncomputable def NX:List Addr:=W6++[147]
noncomputable abbrev rT:Hook:=kHook HX NX (λ_=>by kernel_rfl)
noncomputable abbrev W8(s:Shared):Bool:=xlAt vw [] s&&recOk (RowW.records Qn) s
noncomputable def tV(w:World):Prop:=(Ll (EK (stepT (denote treeTable) (opening pw) w) 8000) (fenceModules? pw) (λmK=>mK.heap.isNs bV&&mK.gens.size==0) (λAn ann=>EJ (stepT (denote treeTable) pw w) (stepOk An ann) through 8000) (λh=>h.nsMap bV "__annotations__")
 (λmK cU=>staticsOk (zq pw.main.body) mK.heap cU.heap&&namesBound pw cU.heap&&gensDone cU&&laidKept mK.heap cU.heap) (start (opening pw)) (topStub pw)).map (λs=>(openSeen vw LS (zq pw.main.body) W8 true s,NX.map s.heap.get?))=some (openGood vw LS,(HX w.params).map λp=>some p.2)
set_option maxHeartbeats 0 in
theorem NY(w:World):tV (w.withFollow "special-get-raises" false):=by
 unfold tV
 rw[nV,nS,nG,nF,nD,nE,nR,nQ,nW]
 kernel_rfl
set_option maxHeartbeats 0 in
theorem NZ(w:World):tV (w.withFollow "special-get-raises" true):=by
 unfold tV
 rw[nV,nS,nG,nF,nD,nE,nR,nQ,nW]
 kernel_rfl
theorem N0:LeftO Qn.prog vw LS W8 rT.obs rT.val 8000:=λw=>by
 have h:tV w:=byRow2 "special-get-raises" (P:=tV) NY NZ w
 unfold tV at h
 obtain⟨s,h1,h2⟩:=fm.mp h
 have h3:=HY h1
 show(openEnds treeTable pw w 8000).map _=_
 rw[h3]
 exact congrArg some h2
noncomputable def D0:DefRec:=((defOf vw (J "law")).get (by kernel_rfl)).1
theorem hd(walk:WalkO vw LS (XL vw []) rT.says Qn D0 [] λf vs=>PySem.call f vs):fV.Holds:=by
 refine holds_law ?_ λW9=>?_
 ·rw[PySem.W.Fast.te9446332074065402090]; kernel_rfl
 refine holds_open (q:=vw) (loose:=LS) (Xt:=W8) (XP:=XL vw []) (Yf:=rT.obs) (Ya:=rT.val) (YP:=rT.says) (N:=8000) N0 rT.of rT.keeps (λs e=>xl_of s (dU.mp e).1) XL.keeps (by kernel_rfl) (by kernel_rfl) (by kernel_rfl) (λs e=>recFacts_of (dU.mp e).2) rfl W9 (by decide+kernel) ⟨rfl,rfl,rfl,rfl,rfl,by decide+kernel⟩ ?_ walk
 w_witness2
end
end
section
section
open PySem PySem.W PyProof.Rows PySem.SeqAt PySem.Builtin PySem.Builtin.Str
theorem Ao{P:List Value->Prop}(h:∀a,P [a])(vs:List Value)(hv:vs.length=1):P vs:=by
 obtain⟨a,rfl⟩:=jq.mp hv; exact h a
theorem tW{P:List Value->Prop}(h:∀a b,P [a,b])(vs:List Value)(hv:vs.length=2):P vs:=by
 match vs with
 |a::v=>obtain⟨b,rfl⟩:=jq.mp (Nat.succ.inj hv); exact h a b
noncomputable abbrev KK(W:Wd):Frag:=HK W.w.params
noncomputable def cm(K:Frag)(a:Addr):Bk:=match K.lookup a with
 |some ⟨_,_, .func fd,_⟩=>fd
 |_=>default
noncomputable def cj(K:Frag)(a:Addr):List Stmt:=match(cm K a).body with
 | .stmts b=>b
 |_=>[]
structure cH(W:Wd):Prop where
 sj:∀a o,(KK W).lookup a=some o->W.B.f a=some o
 Qo:∃mb,(∀h:Heap,(∀a x,W.B.f a=some x->h.get? a=some x)->h.Ns cP mb)/\∀x:Str,x≠ "__name__" ->mb x=bootBuiltins x
section
variable {W:Wd}{C:Cx}{ρ a9:Ro}{f o:Fz}{s:Shared}{Q:Out->Prop}
theorem cH.sF(X:cH W)(S:St W.B f o s):(KK W).In s.heap:=λa ob e=>S.bT _ _ (X.sj a ob e)
theorem cH.glob(X:cH W){n:Str}{v:Value}(e:nsIn (KK W) bV n=some (some v)):cK W n v:=λf o s S A env Q E hg hb h=>by
 unfold loadGlobal
 rw[hg]
 exact aa ((looks_nsIn (X.sF S) e).here (ao h))
theorem cH.bin(X:cH W){n:Str}{v:Value}(e:nsIn (KK W) bV n=some aD)(hn:(n==("__name__" :Str))=false)(hv:bootBuiltins n=some v):cK W n v:=λf o s S A env Q E hg hb h=>by
 obtain⟨mb,h1,h2⟩:=X.Qo
 unfold loadGlobal
 rw[hg,hb]
 refine aa ((looks_nsIn (X.sF S) e).here (aa (wpAny_nsGet (h1 _ S.bT) ?_)))
 rw[h2 n (λq=>by rw[q] at hn; simp at hn),hv]; exact ao h
@[irreducible] noncomputable def VE (W:Wd) (C:Cx) (ρ:Ro) (e:Expr) (d:D):Prop:=eg W C ρ e d
@[irreducible] noncomputable def VB (W:Wd) (C:Cx) (ρ:Ro) (e:Expr) (b:Bool):Prop:=vH W C ρ e b
@[irreducible] noncomputable def VS (W:Wd) (C:Cx) (ρ:Ro) (ss:List Stmt) (Q:Out->Prop):Prop:=fP W C ρ ss Q
@[irreducible] noncomputable def VI (W:Wd) (C:Cx) (ρ:Ro) (t e:Expr) (xs:List D):Prop:=zZ W C ρ t e xs
@[irreducible] noncomputable def VA (W:Wd) (C:Cx) (ρ:Ro) (es:List Expr) (ds:List D):Prop:=nq W C ρ es ds
@[irreducible] noncomputable def VX (W:Wd) (C:Cx) (ρ:Ro) (e:Expr) (X:D->Res->Prop):Prop:=zy W C ρ e X
@[irreducible] noncomputable def VT (W:Wd) (C:Cx) (ρ:Ro) (t:Expr) (d:D) (a9:Ro):Prop:=jO W C ρ t d a9
@[irreducible] noncomputable def sk (W:Wd) (C:Cx) (ρ:Ro) (op:BoolOp) (es:List Expr) (b:Bool):Prop:=lq W C ρ op es b
@[irreducible] noncomputable def VP (W:Wd) (C:Cx) (ρ:Ro) (e:Option Expr) (x:Option Int):Prop:=zx W C ρ e x
@[irreducible] noncomputable def iJ (W:Wd) (A:Around) (fv:Value) (ds:List D) (d:D):Prop:=l7 W A fv ds d
theorem ve{e:Expr}{d:D}(h:eg W C ρ e d):VE W C ρ e d:=by unfold VE; exact h
theorem VE.un{e:Expr}{d:D}(h:VE W C ρ e d):eg W C ρ e d:=by unfold VE at h; exact h
theorem vb{e:Expr}{d:Bool}(h:vH W C ρ e d):VB W C ρ e d:=by unfold VB; exact h
theorem VB.un{e:Expr}{d:Bool}(h:VB W C ρ e d):vH W C ρ e d:=by unfold VB at h; exact h
theorem vs{e:List Stmt}{d:Out->Prop}(h:fP W C ρ e d):VS W C ρ e d:=by unfold VS; exact h
theorem VS.un{e:List Stmt}{d:Out->Prop}(h:VS W C ρ e d):fP W C ρ e d:=by unfold VS at h; exact h
theorem vi{t e:Expr}{d:List D}(h:zZ W C ρ t e d):VI W C ρ t e d:=by unfold VI; exact h
theorem VI.un{t e:Expr}{d:List D}(h:VI W C ρ t e d):zZ W C ρ t e d:=by unfold VI at h; exact h
theorem va{e:List Expr}{d:List D}(h:nq W C ρ e d):VA W C ρ e d:=by unfold VA; exact h
theorem VA.un{e:List Expr}{d:List D}(h:VA W C ρ e d):nq W C ρ e d:=by unfold VA at h; exact h
theorem vx{e:Expr}{d:D->Res->Prop}(h:zy W C ρ e d):VX W C ρ e d:=by unfold VX; exact h
theorem VX.un{e:Expr}{d:D->Res->Prop}(h:VX W C ρ e d):zy W C ρ e d:=by unfold VX at h; exact h
theorem vt{e:Expr}{d:D}(h:jO W C ρ e d a9):VT W C ρ e d a9:=by unfold VT; exact h
theorem VT.un{e:Expr}{d:D}(h:VT W C ρ e d a9):jO W C ρ e d a9:=by unfold VT at h; exact h
theorem HZ{op:BoolOp}{e:List Expr}{d:Bool}(h:lq W C ρ op e d):sk W C ρ op e d:=by unfold sk; exact h
theorem sk.un{op:BoolOp}{e:List Expr}{d:Bool}(h:sk W C ρ op e d):lq W C ρ op e d:=by unfold sk at h; exact h
theorem vp{e:Option Expr}{d:Option Int}(h:zx W C ρ e d):VP W C ρ e d:=by unfold VP; exact h
theorem VP.un{e:Option Expr}{d:Option Int}(h:VP W C ρ e d):zx W C ρ e d:=by unfold VP at h; exact h
theorem Ap{A:Around}{fv:Value}{ds:List D}{d:D}(h:l7 W A fv ds d):iJ W A fv ds d:=by unfold iJ; exact h
theorem iJ.un{A:Around}{fv:Value}{ds:List D}{d:D}(h:iJ W A fv ds d):l7 W A fv ds d:=by unfold iJ at h; exact h
theorem cH.fn(X:cH W)(a:Addr){A:Around}{n:Nat}{ps:List Str}{ds:List D}{d:D}{ρ:Ro}{names:List (Str×aC)}(lv:Lv (n+1) A)
 (yD:∃ob,(KK W).lookup a=some ob/\ob.data= .func (cm (KK W) a)) (ip:(cm (KK W) a).body= .stmts (cj (KK W) a)) (lx:codeIn (KK W) (cm (KK W) a).code (cm (KK W) a).qualname=true) (n0:(cm (KK W) a).closure=[])
 (fx:(cm (KK W) a).scope.names=names) (j4:decide (names.map (·.1)).Nodup=true) (hk:(cm (KK W) a).scope.kind= .function) (hg:(cm (KK W) a).globals=bV) (hb:(cm (KK W) a).builtins=cP)
 (wZ:(cm (KK W) a).scope.isCoroutine=false) (n7:(cm (KK W) a).scope.isGenerator=false) (m9:decide ps.Nodup=true)
 (Af:(ps.all λp=>names.lookup p==some .local||names.lookup p==some .cell)=true)
 (jP:∀vs:List Value,vs.length=ds.length->eQ (cm (KK W) a) ⟨vs,[]⟩=pure (ps.zip vs)) (hp:kj (ps.zip ds) names ρ)
 (h:∀C:Cx,C.Ok->Lv n C.A->C.names=names->C.env.scope=(cm (KK W) a).scope->VS W C ρ (cj (KK W) a) (Ends d)):iJ W A (.ref a) ds d:=by
 refine Ap ?_
 obtain⟨ob,h1,h2⟩:=yD
 refine K6 (X.sj _ _ h1) h2 (λh hB=>A9 (K:=KK W) (λb x e=>hB _ _ (X.sj _ _ e)) lx) ip n0 jP (by rw[fx]; exact hp) (of_decide_eq_true m9) (by rw[fx]; exact of_decide_eq_true j4) (λp Lm=>?_) hk hg hb wZ n7 lv λC O l hn hs=>(h C O l (hn.trans fx) hs).un
 rw[fx]
 have:=aT.mp Af p Lm
 rcases iO _ _▸this with e|e
 ·exact .inl (lookup_mem (by simpa using e))
 ·exact .inr (lookup_mem (by simpa using e))
end
theorem BN(n:Str)(p:Pos)(env:Env):(bk [.Name n p] env).map (·.2)=[bE (.Name n p) env]:=rfl
theorem yE(ts:List Expr)(k:Nat)(p:Pos)(env:Env):(bk [.Tuple ts k p] env).map (·.2)=[bE (.Tuple ts k p) env]:=rfl
theorem EL(n:Str)(p:Pos)(ts:List Expr)(env:Env):bk (.Name n p::ts) env=(false,bE (.Name n p) env)::bk ts env:=rfl
theorem MO(es:List Expr)(k:Nat)(p:Pos)(ts:List Expr)(env:Env):bk (.Tuple es k p::ts) env=(false,bE (.Tuple es k p) env)::bk ts env:=rfl
theorem fL(h:True:=by first|exact tt|rfl):True:=h
theorem sG(h:True:=by decide+kernel):True:=h
theorem vk(h:True:=by decide):True:=h
theorem vm(h:True:=by with_reducible repeat first|apply cw|apply Zf|apply Zg|apply me3|apply me4):True:=h
theorem H6(h:True:=by kernel_rfl):True:=h
theorem H7(h:True:=by first|apply EL|rfl):True:=h
theorem CS(h:True:=by intro _ _; rfl):True:=h
theorem H9(h:True:=by with_reducible repeat first|apply Ro.Set.head|apply Ro.Set.t1|apply Ro.Set.t2|apply Ro.Set.t3|apply Ro.Set.t4):True:=h
theorem MP(h:True:=by intro _; rfl):True:=h
theorem N1(h:True:=by with_reducible repeat' first|decide|exact ij|constructor|apply nr.Xa|apply nr.Xb|apply nr.Xc):True:=h
theorem Xd(h:True:=by with_reducible repeat' first|decide|exact ij|constructor):True:=h
theorem Xe(h:True:=by with_reducible repeat constructor):True:=h
theorem Ln(h:True:=by simp):True:=h
theorem Lo(h:True:=by exact .inl rfl):True:=h
theorem Lp(h:True:=by first|apply BN|apply yE|rfl):True:=h
theorem Lq(h:True:=by intro _ h; exact nomatch h):True:=h
theorem ij{α:Type}{a:α}{l:List α}(h:autoParam (a∈l) vm._auto_1):a∈l:=h
theorem kB{n:Str}{b:Bd}{ρ a9:Ro}(h:autoParam (Ro.Set n b ρ a9) H9._auto_1):Ro.Set n b ρ a9:=h
theorem qY{bs:List (Str×D)}{ns:List (Str×aC)}{ρ:Ro}(h:autoParam (kj bs ns ρ) Xd._auto_1):kj bs ns ρ:=h
theorem kq{outer:List (Str×aC)}{ρ:Ro}{ns:List (Str×aC)}{eW:Ro}(h:autoParam (nr outer ρ ns eW) N1._auto_1):nr outer ρ ns eW:=h
theorem jS{ρ a9:Ro}(h:autoParam (o8 ρ a9) Xe._auto_1):o8 ρ a9:=h
section
variable {W:Wd}{C:Cx}{ρ a9 eW bD bZ qv EM:Ro}{f o:Fz}{s:Shared}{Q:Out->Prop}
structure CK(C:Cx)(names:List (Str×aC)):Prop where
 ok:C.Ok
 hand:C.A.handled=none
 eq:C.names=names
variable {names:List (Str×aC)}
theorem nr.Xa{outer:List (Str×aC)}{n:Str}{k:aC}{d:D}{ns:List (Str×aC)}(h1:(n,k)∈outer)(h2:(k== .cell||k== .free)=true)(h3:(n,Bd.val d)∈ρ)(h:nr outer ρ ns eW):nr outer ρ ((n, .free)::ns) ((n, .val d)::eW):= .HE h1 h2 h3 h
theorem nr.Xb{outer:List (Str×aC)}{n:Str}{k:aC}{u:Bool}{r:Res}{ns:List (Str×aC)}(h1:(n,k)∈outer)(h2:(k== .cell||k== .free)=true)(h3:(n,Bd.res u r)∈ρ)(h:nr outer ρ ns eW):nr outer ρ ((n, .free)::ns) ((n, .res false r)::eW):= .HE h1 h2 h3 h
theorem nr.Xc{outer:List (Str×aC)}{n:Str}{k:aC}{ns:List (Str×aC)}(h1:(n,k)∈outer)(h2:(k== .cell||k== .free)=true)(h3:(n,Bd.unset)∈ρ)(h:nr outer ρ ns eW):nr outer ρ ((n, .free)::ns) ((n, .unset)::eW):= .HE h1 h2 h3 h
theorem qw{α:Type}{c:Prop}[Decidable c]{a b:α}(h:¬c->b=a):(if c then a else b)=a:=by
 by_cases k:c
 ·rw[if_pos k]
 ·rw[if_neg k]; exact h k
theorem EN{α:Type}{F:Expr->Option α}{a b:Expr}(h:F a=aD\/F b=aD):((Kz F [a,b]).length != 2)=true:=by
 rcases h with h|h
 ·rw[gb h]; cases e:F b
  ·rw[gb e]; rfl
  ·rw[iI e]; rfl
 ·cases e:F a
  ·rw[gb e,gb h]; rfl
  ·rw[iI e,gb h]; rfl
theorem jT(K:CK C names){x y:Str}{p q tp vp:Pos}{k k2:Nat}{e1 e2:Expr}(hx:(x,aq)∈names\/(y,aq)∈names):
 cS [.Tuple [.Name x p, .Name y q] k tp] (.Tuple [e1,e2] k2 vp) C.env=pure aD:=by
 have hc:∀z:Str,(z,aq)∈names->(C.env.kindOf z==some ae)=false:=λz hz=>by
  rw[K.ok.kinds _ _ (K.eq▸hz) (by decide)]; rfl
 have EB:(C.env.kindOf x==some ae)=false\/(C.env.kindOf y==some ae)=false:=hx.imp (hc x) (hc y)
 unfold cS
 dsimp only
 refine qw λ_=>qw λ_=>if_pos (Bool.or_eq_true_iff.mpr (.inl (EN (EB.imp (λh=>if_neg ?_) λh=>if_neg ?_))))
 ·rw[h]; exact gE
 ·rw[h]; exact gE
theorem EO{α:Type}{F:Expr->Option α}{a b:Expr}{x y:α}(h1:F a=some x)(h2:F b=some y):Kz F [a,b]=[x,y]:=by
 rw[iI h1,iI h2]; rfl
theorem Aq(K:CK C names){x y:Str}{p q tp vp:Pos}{k k2:Nat}{e1 e2:Expr}(hx:(x,ae)∈names)(hy:(y,ae)∈names)(hl:(q.line==p.line)=true)(EB:(x==y)=false)
 (hs:([e1,e2].any λx=>swappedStores.match_5 (λ_=>Bool) x (λ_ _=>true) λ_=>false)=false) (hf:[e1,e2].all (foldedForSure 8)=false) (ha:[e1,e2].all (constantsAlone 8)=false):
 cS [.Tuple [.Name x p, .Name y q] k tp] (.Tuple [e1,e2] k2 vp) C.env=pure (some [x,y]):=by
 have hc:∀z:Str,(z,ae)∈names->(C.env.kindOf z==some ae)=true:=λz hz=>by
  rw[K.ok.kinds _ _ (K.eq▸hz) (by decide)]; rfl
 have h2:C.env.blockKind= .function:=by simp[Env.blockKind,K.ok.kind,r5]
 have he:([x,y]:List Str).eraseDups=[x,y]:=by
  rw[DC,List.filter_cons_of_pos (by rw[BEq.comm,EB]; rfl),DC]; rfl
 unfold cS
 dsimp only
 rw[EO (x:=x) (y:=y) (if_pos (by rw[hc x hx]; exact beq_self_eq_true _)) (if_pos (by rw[hc y hy]; exact hl)),he,hf,h2]
 refine(if_neg gE).trans ((if_neg λh=>gE (hs.symm.trans h)).trans ((if_neg gE).trans ((if_neg gE).trans ?_)))
 rw[ha]; rfl
theorem CK.inter(K:CK C names):interactive C.env=false:=by
 unfold interactive; rw[K.ok.kind]; rfl
theorem nm(K:CK C names){n:Str}{d:D}{pos:Pos}(hm:autoParam ((n,Bd.val d)∈ρ) vm._auto_1)(h1:autoParam ((n==("__debug__" :Str))=false) sG._auto_1)(h2:autoParam ((n==("__classdict__" :Str))=false) sG._auto_1):VE W C ρ (.Name n pos) d:=ve (.name K.ok hm h1 h2)
theorem Qp(K:CK C names){n:Str}{w:Bool}{r:Res}{pos:Pos}(hm:autoParam ((n,Bd.res w r)∈ρ) vm._auto_1)(h1:autoParam ((n==("__debug__" :Str))=false) sG._auto_1)(h2:autoParam ((n==("__classdict__" :Str))=false) sG._auto_1):VE W C ρ (.Name n pos) (.raw r.v):=ve (.tw K.ok hm h1 h2)
theorem JN(K:CK C names){n:Str}{w:Bool}{a:Addr}{ds:List D}{pos:Pos}(hm:autoParam ((n,Bd.res w (eI a ds))∈ρ) vm._auto_1)(h1:autoParam ((n==("__debug__" :Str))=false) sG._auto_1)(h2:autoParam ((n==("__classdict__" :Str))=false) sG._auto_1):VE W C ρ (.Name n pos) (.raw (.ref a)):=ve (.tw K.ok hm h1 h2)
theorem Lr(K:CK C names){n:Str}{w:Bool}{a:Addr}{ds:List D}{pos:Pos}(hm:autoParam ((n,Bd.res w (o9 a ds))∈ρ) vm._auto_1)(h1:autoParam ((n==("__debug__" :Str))=false) sG._auto_1)(h2:autoParam ((n==("__classdict__" :Str))=false) sG._auto_1):VE W C ρ (.Name n pos) (.raw (.ref a)):=ve (.tw K.ok hm h1 h2)
theorem gl(K:CK C names){n:Str}{v:Value}{pos:Pos}(g:cK W n v)(hm:autoParam ((n,ag)∈names) vm._auto_1)(h1:autoParam ((n==("__debug__" :Str))=false) sG._auto_1):VE W C ρ (.Name n pos) (.raw v):=ve (.glob K.ok (K.eq▸hm) g h1)
theorem ofRaw{e:Expr}{v:Value}{d:D}(x:VE W C ρ e (.raw v))(h:∀f,Den f d v):VE W C ρ e d:=ve λf o s S H Q E k=>x.un f o s S H Q E λu f' s' l S' hd=>k u f' s' l S' (by rw[show u=v from hd]; exact h f')
theorem st(l:List Nat){x:Str}{k:Nat}{pos:Pos}(h:autoParam (x=aS l) H6._auto_1):VE W C ρ (.Constant (.str x) k pos) (.str (aS l)):=ve (h▸ .str)
theorem num{i:Int}{k:Nat}{pos:Pos}:VE W C ρ (.Constant (.int i) k pos) (.int i):=ve .int
theorem JO{b:Bool}{k:Nat}{pos:Pos}:VE W C ρ (.Constant (.bool b) k pos) (.bool b):=ve .bool
theorem Xf{k:Nat}{pos:Pos}:VE W C ρ (.Constant .none k pos) .none:=ve .none
theorem VE.eq{e:Expr}{d d':D}(x:VE W C ρ e d)(h:d=d'):VE W C ρ e d':=h▸x
theorem VB.eq{e:Expr}{d d':Bool}(x:VB W C ρ e d)(h:d=d'):VB W C ρ e d':=h▸x
theorem bin(K:CK C names){l r:Expr}{op:Operator}{pos:Pos}{da db d:D}(ha:VE W C ρ l da)(hb:VE W C ρ r db)(ho:lp W (jj op) da db d):VE W C ρ (.BinOp l op r pos) d:=ve (.bin K.ok ha.un hb.un ho)
theorem neg(K:CK C names){x:Expr}{op:zD}{pos:Pos}{da d:D}(ha:VE W C ρ x da)(ho:yf W (unaryOp op) da d):VE W C ρ (.UnaryOp op x pos) d:=ve (.un K.ok ha.un ho)
theorem cmp(K:CK C names){l r:Expr}{op:CmpOp}{pos:Pos}{da db d:D}(ha:VE W C ρ l da)(hb:VE W C ρ r db)(ho:lp W (cc op) da db d)(hm:autoParam (jk op r=false) fL._auto_1):VE W C ρ (.Compare l [op] [r] pos) d:=ve (.cmp K.ok ha.un hb.un ho hm)
theorem kO(K:CK C names){l r:Expr}{op:CmpOp}{pos:Pos}{da db:D}{b:Bool}(ha:VE W C ρ l da)(hb:VE W C ρ r db)(ho:lp W (cc op) da db (.bool b))(hm:autoParam (jk op r=false) fL._auto_1):VB W C ρ (.Compare l [op] [r] pos) b:=vb (.cmp K.ok ha.un hb.un ho hm)
theorem Xg(K:CK C names){I:Fz->Fz->Prop}(hI:∀f o,bc C ρ f o->I f o){l r:Expr}{op:CmpOp}{pos:Pos}{da db:D}{b:Bool}(ha:VE W C ρ l da)(hb:VE W C ρ r db)(ho:Ag W I (cc op) da db (.bool b))(hm:autoParam (jk op r=false) fL._auto_1):VB W C ρ (.Compare l [op] [r] pos) b:=vb (.WH K.ok hI ha.un hb.un ho hm)
theorem Ar(K:CK C names){e:Expr}{d:D}{b:Bool}(x:VE W C ρ e d)(t:KS W d b)(he:autoParam (isTrue e C.env (eval e C.env)=(do let v <-eval e C.env; dE e.pos; holding [v] (truthy v))) fL._auto_1):VB W C ρ e b:=vb (.val K.ok x.un t he)
theorem Ls{e:Expr}{b:Bool}{pos:Pos}(x:VB W C ρ e b):VB W C ρ (.UnaryOp .Not e pos) (!b):=vb (.not x.un)
theorem Ia{op:BoolOp}{es:List Expr}{b:Bool}{pos:Pos}(x:sk W C ρ op es b):VB W C ρ (.BoolOp op es pos) b:=vb (.KU x.un)
theorem EP:sk W C ρ .And [] true:=HZ .and_nil
theorem Qq:sk W C ρ .Or [] false:=HZ .or_nil
theorem vn{e:Expr}{es:List Expr}{a b:Bool}(x:VB W C ρ e a)(y:a=true->sk W C ρ .And es b):sk W C ρ .And (e::es) (a&&b):=HZ (.and_cons x.un λh=>(y h).un)
theorem Ib{e:Expr}{es:List Expr}{a b:Bool}(x:VB W C ρ e a)(y:a=false->sk W C ρ .Or es b):sk W C ρ .Or (e::es) (a||b):=HZ (.or_cons x.un λh=>(y h).un)
theorem vq{t x y:Expr}{pos:Pos}{b:Bool}{d:D}(ht:VB W C ρ t b)(hx:b=true->VE W C ρ x d)(hy:b=false->VE W C ρ y d):VE W C ρ (.IfExp t x y pos) d:=ve (.ite ht.un (λh=>(hx h).un) λh=>(hy h).un)
theorem a0:VA W C ρ [] []:=va .nil
theorem a1{e:Expr}{d:D}(x:VE W C ρ e d)(he:autoParam (aI [e] C.env=(false,eval e C.env)::aI [] C.env) fL._auto_1):VA W C ρ [e] [d]:=va (.cons x.un .nil he)
theorem ac{e:Expr}{d:D}{es:List Expr}{ds:List D}(x:VE W C ρ e d)(y:VA W C ρ es ds)(he:autoParam (aI (e::es) C.env=(false,eval e C.env)::aI es C.env) fL._auto_1):VA W C ρ (e::es) (d::ds):=va (.cons x.un y.un he)
theorem bS{func:Expr}{es:List Expr}{pos:Pos}{fv:Value}{ds:List D}{d:D}(hf:VE W C ρ func (.raw fv))(hk:Kept W fv)(ha:VA W C ρ es ds)(hc:l7 W C.A fv ds d)(hp:autoParam ((aI es C.env).all (λx=>!x.1)=true) fL._auto_1)
 (he:autoParam (eval (.Call func es [] pos) C.env=(do fR pos (<-eval func C.env) [] (backTo pos (aI es C.env)) (gp pos (dG [] C.env)))) fL._auto_1):VE W C ρ (.Call func es [] pos) d:=ve (.call hf.un hk ha.un hp hc he)
theorem rt{I:Fz->Fz->Prop}(hI:∀f o,bc C ρ f o->I f o){func:Expr}{es:List Expr}{pos:Pos}{fv:Value}{ds:List D}{d:D}(hf:VE W C ρ func (.raw fv))(hk:Kept W fv)(ha:VA W C ρ es ds)(hc:Ei W I C.A fv ds d)(hp:autoParam ((aI es C.env).all (λx=>!x.1)=true) fL._auto_1)
 (he:autoParam (eval (.Call func es [] pos) C.env=(do fR pos (<-eval func C.env) [] (backTo pos (aI es C.env)) (gp pos (dG [] C.env)))) fL._auto_1):VE W C ρ (.Call func es [] pos) d:=ve (.NJ hI hf.un hk ha.un hp hc he)
theorem gg{ob:Expr}{name:Str}{es:List Expr}{apos pos:Pos}{fv:Value}{da d:D}{ds:List D}(ho:VE W C ρ ob da)(hm:Meth W da name fv)(hk:Kept W fv)(ha:VA W C ρ es ds)(hc:l7 W C.A fv (da::ds) d)
 (hp:autoParam ((aI es C.env).all (λx=>!x.1)=true) fL._auto_1) (hn:autoParam (es.length+0<30) vk._auto_1) (hl:autoParam ((apos.endLine==pos.line)=true) vk._auto_1) (hb:autoParam (bx ob name C.env (eval ob C.env)=eval ob C.env) fL._auto_1):VE W C ρ (.Call (.Attribute ob name apos) es [] pos) d:=ve (.yg ho.un hm hk ha.un hp hc hn hl hb)
theorem dA(K:CK C names){value slice:Expr}{pos:Pos}{da di d:D}{T id:String}(hv:VE W C ρ value da)(hi:VE W C ρ slice di)(hl:kT (.type T) "__getitem__" =pure (some (.builtin id)))(ho:lp W dI da di d)(hT:autoParam (da.ty=some T) fL._auto_1)
 (hs:autoParam (∀o i,subscripted slice false o i=operate [o,i] (dI o i)) CS._auto_1):VE W C ρ (.Subscript value slice pos) d:=ve (.sub K.ok hv.un hi.un hT hl ho hs)
theorem yF(K:CK C names){value slice:Expr}{pos:Pos}{a:Addr}{ds:List D}{di d:D}(hI:∀f o,bc C ρ f o->k9 f o a ds)(hv:VE W C ρ value (.raw (.ref a)))(hi:VE W C ρ slice di)(ho:Ag W (λf o=>k9 f o a ds) dI (.raw (.ref a)) di d)
 (hs:autoParam (∀o i,subscripted slice false o i=operate [o,i] (dI o i)) CS._auto_1):VE W C ρ (.Subscript value slice pos) d:=ve (.WI K.ok hI hv.un hi.un BA aR ho hs)
theorem p0:VP W C ρ aD aD:=vp .none
theorem p1{e:Expr}{i:Int}(x:VE W C ρ e (.int i)):VP W C ρ (some e) (some i):=vp (.some x.un)
theorem mM{value:Expr}{lo hi st:Option Expr}{l h t:Option Int}{p pos:Pos}{da:D}{ds:List D}{ops:Value->Value->List Value}(hv:VE W C ρ value da)(hL:HS W da ds)(pl:VP W C ρ lo l)(ph:VP W C ρ hi h)(ps:VP W C ρ st t)(h0:t≠some 0)(fB:ds.length<=1000000)
 (hs:∀o i,subscripted (.Slice lo hi st p) false o i=operate (ops o i) (dI o i)):VE W C ρ (.Subscript value (.Slice lo hi st p) pos) (.list (qm ds l h t)):=ve (.slice hv.un hL pl.un ph.un ps.un h0 fB hs)
theorem BO{value:Expr}{lo hi:Option Expr}{a b:Nat}{p pos:Pos}{x:List Nat}{ops:Value->Value->List Value}(hv:VE W C ρ value (.str (aS x)))(pl:VP W C ρ lo (some a))(ph:VP W C ρ hi (some b))(fB:x.length<=1000000)
 (hs:∀o i,subscripted (.Slice lo hi aD p) false o i=operate (ops o i) (dI o i)):VE W C ρ (.Subscript value (.Slice lo hi aD p) pos) (.str (aS ((x.drop a).take (b-a)))):=ve (.La hv.un pl.un ph.un fB hs)
theorem BI{K:Type}[DecidableEq K]{knd:KeyKind W.prog W.w K}(enc:K->D)(ML:∀k v f,Den f (enc k) v->knd.is k v=true){k1 k2 k3 v1 v2 v3 slice:Expr}{dp pos:Pos}{HT HU HV κ:K}{d1 d2 d3 d:D}
 (e1:VE W C ρ k1 (enc HT)) (x1:VE W C ρ v1 d1) (e2:VE W C ρ k2 (enc HU)) (x2:VE W C ρ v2 d2) (e3:VE W C ρ k3 (enc HV)) (x3:VE W C ρ v3 d3) (hs:VE W C ρ slice (enc κ))
 (hd:∀u1 u2 u3:Value,∃u,valueAt (merged [] [(HT,u1),(HU,u2),(HV,u3)]) κ=some u/\((u=u1/\d=d1)\/(u=u2/\d=d2)\/(u=u3/\d=d3)))
 (yz:autoParam (∀o i,subscripted slice false o i=operate [o,i] (dI o i)) CS._auto_1):VE W C ρ (.Subscript (.Dict [some k1,some k2,some k3] [v1,v2,v3] dp) slice pos) d:=ve (.BI enc ML e1.un x1.un e2.un x2.un e3.un x3.un hs.un hd yz)
theorem lst{es:List Expr}{pos:Pos}{ds:List D}(x:VA W C ρ es ds)(fB:autoParam (ds.length<=16777216) Ln._auto_1):VE W C ρ (.List es pos) (.list ds):=ve (.list x.un fB)
theorem tup{es:List Expr}{k:Nat}{pos:Pos}{ds:List D}(x:VA W C ρ es ds)(fB:autoParam (ds.length<=16777216) Ln._auto_1):VE W C ρ (.Tuple es k pos) (.tup ds):=ve (.tuple x.un fB)
theorem jE(K:CK C names){eO e:Expr}{d:D}{xs:List D}(x:VE W C ρ e d)(i:KV W d xs):VI W C ρ eO e xs:=vi (.val K.ok x.un i)
theorem As{elts:List Expr}{k:Nat}{tp:Pos}{func e:Expr}{pos:Pos}{ds:List D}(hf:VE W C ρ func (.raw (.type "enumerate")))(he:VE W C ρ e (.list ds))(pd:autoParam (aI [e] C.env=[(false,eval e C.env)]) fL._auto_1)
 (hc:autoParam (eval (.Call func [e] [] pos) C.env=(do fR pos (<-eval func C.env) [] (backTo pos (aI [e] C.env)) (gp pos (dG [] C.env)))) fL._auto_1):VI W C ρ (.Tuple elts k tp) (.Call func [e] [] pos) (numbered 0 ds):=vi (.enum hf.un he.un pd hc)
theorem N2{elts:List Expr}{k:Nat}{tp:Pos}{func e1 e2:Expr}{pos:Pos}{xs ys:List D}(hf:VE W C ρ func (.raw (.type "zip")))(he:VA W C ρ [e1,e2] [.list xs, .list ys])(hp:autoParam ((aI [e1,e2] C.env).all (λx=>!x.1)=true) fL._auto_1)
 (hc:autoParam (eval (.Call func [e1,e2] [] pos) C.env=(do fR pos (<-eval func C.env) [] (backTo pos (aI [e1,e2] C.env)) (gp pos (dG [] C.env)))) fL._auto_1):VI W C ρ (.Tuple elts k tp) (.Call func [e1,e2] [] pos) (oo xs ys):=vi (.zip hf.un he.un hp hc)
theorem cx(K:CK C names){n:Str}{k:aC}{d:D}{pos:Pos}(aU:autoParam (Ro.Set n (.val d) ρ a9) H9._auto_1)(hk:autoParam ((n,k)∈names) vm._auto_1)(oX:autoParam ((k== .local||k== .cell)=true) vk._auto_1):VT W C ρ (.Name n pos) d a9:=vt (.name K.ok (K.eq▸hk) oX aU)
theorem iV(K:CK C names){t1 t2:Expr}{k:Nat}{p:Pos}{d:D}{d1 d2:D}(h1:VT W C ρ t1 d1 bD)(h2:VT W C bD t2 d2 bZ)(hd:autoParam (d= .tup [d1,d2]\/d= .list [d1,d2]) Lo._auto_1)(e1:autoParam (bk [t1,t2] C.env=(false,bE t1 C.env)::bk [t2] C.env) H7._auto_1)(e2:autoParam (bk [t2] C.env=(false,bE t2 C.env)::bk [] C.env) H7._auto_1):VT W C ρ (.Tuple [t1,t2] k p) d bZ:=
 vt (.tuple K.hand hd (.cons h1.un (.cons h2.un .nil e2) e1))
theorem rU(K:CK C names){t1 t2 t3:Expr}{k:Nat}{p:Pos}{d:D}{d1 d2 d3:D}(h1:VT W C ρ t1 d1 bD)(h2:VT W C bD t2 d2 bZ)(h3:VT W C bZ t3 d3 qv)(hd:autoParam (d= .tup [d1,d2,d3]\/d= .list [d1,d2,d3]) Lo._auto_1)(e1:autoParam (bk [t1,t2,t3] C.env=(false,bE t1 C.env)::bk [t2,t3] C.env) H7._auto_1)(e2:autoParam (bk [t2,t3] C.env=(false,bE t2 C.env)::bk [t3] C.env) H7._auto_1)(e3:autoParam (bk [t3] C.env=(false,bE t3 C.env)::bk [] C.env) H7._auto_1):VT W C ρ (.Tuple [t1,t2,t3] k p) d qv:=
 vt (.tuple K.hand hd (.cons h1.un (.cons h2.un (.cons h3.un .nil e3) e2) e1))
theorem JP(K:CK C names){t1 t2 t3 t4:Expr}{k:Nat}{p:Pos}{d:D}{d1 d2 d3 d4:D}(h1:VT W C ρ t1 d1 bD)(h2:VT W C bD t2 d2 bZ)(h3:VT W C bZ t3 d3 qv)(h4:VT W C qv t4 d4 EM)(hd:autoParam (d= .tup [d1,d2,d3,d4]\/d= .list [d1,d2,d3,d4]) Lo._auto_1)(e1:autoParam (bk [t1,t2,t3,t4] C.env=(false,bE t1 C.env)::bk [t2,t3,t4] C.env) H7._auto_1)(e2:autoParam (bk [t2,t3,t4] C.env=(false,bE t2 C.env)::bk [t3,t4] C.env) H7._auto_1)(e3:autoParam (bk [t3,t4] C.env=(false,bE t3 C.env)::bk [t4] C.env) H7._auto_1)(e4:autoParam (bk [t4] C.env=(false,bE t4 C.env)::bk [] C.env) H7._auto_1):VT W C ρ (.Tuple [t1,t2,t3,t4] k p) d EM:=
 vt (.tuple K.hand hd (.cons h1.un (.cons h2.un (.cons h3.un (.cons h4.un .nil e4) e3) e2) e1))
theorem BP{g:dT}{elt:Expr}{ys ds:List D}(h:VI W C ρ g.target g.iter ys)(c:Clause W C ρ g.target g.ifs (Ab W C elt) ys ds):te W C g elt ρ ds:=⟨ys,h.un,c⟩
theorem dY(K:CK C names){elt eO iter:Expr}{ifs:List Expr}{scope:Scope}{pos:Pos}{xs out:List D}(hit:VI W C ρ eO iter xs)(hc:∀C',CK C' scope.names->C'.A=C.A->Clause W C' eW eO ifs (Ab W C' elt) xs out)(hi:autoParam (nr names ρ scope.names eW) N1._auto_1)
 (hn:out.length<=100000) (j4:autoParam (decide (scope.names.map (·.1)).Nodup=true) H6._auto_1) (hs:autoParam (∀x,bH iter C.env x=pure x) MP._auto_1) (hk:autoParam (scope.kind= .function) fL._auto_1):VE W C ρ (.ListComp elt [⟨eO,iter,ifs,0⟩] scope pos) (.list out):=
 ve (.comp K.ok hit.un hs hk (of_decide_eq_true j4) (K.eq▸hi) rfl λcenv O=>JH O K.hand (hc _ ⟨O,K.hand,rfl⟩ rfl) hn)
theorem ER(K:CK C names){elt t1 i1 t2 i2:Expr}{f1 f2:List Expr}{scope:Scope}{pos:Pos}{xs out:List D}(hit:VI W C ρ t1 i1 xs)(hc:∀C',CK C' scope.names->C'.A=C.A->Clause W C' eW t1 f1 (te W C' ⟨t2,i2,f2,0⟩ elt) xs out)(hi:autoParam (nr names ρ scope.names eW) N1._auto_1)
 (hn:out.length<=100000) (j4:autoParam (decide (scope.names.map (·.1)).Nodup=true) H6._auto_1) (hs:autoParam (∀x,bH i1 C.env x=pure x) MP._auto_1) (JQ:autoParam (∀env x,bH i2 env x=pure x) CS._auto_1) (hk:autoParam (scope.kind= .function) fL._auto_1):VE W C ρ (.ListComp elt [⟨t1,i1,f1,0⟩,⟨t2,i2,f2,0⟩] scope pos) (.list out):=
 ve (.comp K.ok hit.un hs hk (of_decide_eq_true j4) (K.eq▸hi) rfl λcenv O=>JI O K.hand (JQ _) (hc _ ⟨O,K.hand,rfl⟩ rfl) hn)
theorem yG(K:CK C names){x:Str}{p n9:Pos}{elt:Expr}{gs:List dT}{scope:Scope}{line:Nat}(hx:(x,ae)∈names)(jl:(p.line==n9.line)=true)(ES:(scope.names.any λ(n,k)=>n==x&&(k== .local||k== .cell))=false):
 gj (.ListComp elt gs scope n9) (some (.Name x p)) line C.env=pure true:=by
 unfold gj
 have h1:C.env.kindOf x=some .local:=K.ok.kinds _ _ (K.eq▸hx) (by decide)
 have h2:C.env.blockKind= .function:=by simp[Env.blockKind,K.ok.kind,r5]
 simp only[h1,h2]
 show pure _=pure true
 rw[ES]
 have h3:(p.line==(Expr.ListComp elt gs scope n9).pos.line)=true:=jl
 rw[h3]; rfl
theorem CT(K:CK C names){x:Str}{p n9:Pos}{elt:Expr}{gs:List dT}{scope:Scope}{line:Nat}(hx:(x,aq)∈names):
 gj (.ListComp elt gs scope n9) (some (.Name x p)) line C.env=pure false:=by
 unfold gj
 have h1:C.env.kindOf x=some .cell:=K.ok.kinds _ _ (K.eq▸hx) (by decide)
 simp only[h1]
 have h2:((some aq:Option aC)==some .local)=false:=by decide
 show pure _=pure false
 rw[h2]; simp
theorem gW(K:CK C names){x:Str}{p n9:Pos}{elt:Expr}{gs:List dT}{scope:Scope}{line:Nat}(hx:(x,aq)∈names):
 fI [.Name x p] (.ListComp elt gs scope n9) line C.env=pure false:=CT (line:=line) K hx
theorem gH{α:Type}{eO elt:Expr}(xs:List α)(item:α->D)(out:α->D)(mf:α->Ro)(h1:∀a∈xs,VT W C ρ eO (item a) (mf a))(h2:∀a∈xs,VE W C (mf a) elt (out a))(h3:∀a∈xs,o8 (mf a) ρ):Clause W C ρ eO [] (Ab W C elt) (xs.map item) (xs.map out):=by
 induction xs with
 |nil=>exact .nil
 |cons a xs ih=>
  exact .cons (ds:=[out a]) (b:=true) (h1 a (.head _)).un .nil (λ_=>⟨_,rfl,(h2 a (.head _)).un⟩) (λe=>by exact nomatch e) (h3 a (.head _)) (ih (λb hb=>h1 b (.tail _ hb)) (λb hb=>h2 b (.tail _ hb)) λb hb=>h3 b (.tail _ hb))
theorem sm{α:Type}{eO elt t:Expr}(xs:List α)(item:α->D)(p:α->Bool)(out:α->D)(mf:α->Ro)(h1:∀a∈xs,VT W C ρ eO (item a) (mf a))(ht:∀a∈xs,VB W C (mf a) t (p a))(h2:∀a∈xs,p a=true->VE W C (mf a) elt (out a))(h3:∀a∈xs,o8 (mf a) ρ):
 Clause W C ρ eO [t] (Ab W C elt) (xs.map item) ((xs.filter p).map out):=by
 induction xs with
 |nil=>exact .nil
 |cons a xs ih=>
  have r:=ih (λb hb=>h1 b (.tail _ hb)) (λb hb=>ht b (.tail _ hb)) (λb hb=>h2 b (.tail _ hb)) λb hb=>h3 b (.tail _ hb)
  cases hp:p a with
  |true=>
   rw[eG,if_pos hp]
   exact .cons (ds:=[out a]) (h1 a (.head _)).un (.one (ht a (.head _)).un) (λ_=>⟨_,rfl,(h2 a (.head _) hp).un⟩) (λe=>by rw[hp] at e; exact nomatch e) (h3 a (.head _)) r
  |false=>
   rw[eG,if_neg (by rw[hp]; simp)]
   exact .cons (ds:=[]) (h1 a (.head _)).un (.one (ht a (.head _)).un) (λe=>by rw[hp] at e; exact nomatch e) (λ_=>rfl) (h3 a (.head _)) r
theorem BQ{α:Type}{eO:Expr}{g:dT}{elt:Expr}(xs:List α)(item:α->D)(out:α->List D)(mf:α->Ro)(h1:∀a∈xs,VT W C ρ eO (item a) (mf a))(h2:∀a∈xs,te W C g elt (mf a) (out a))(h3:∀a∈xs,o8 (mf a) ρ):Clause W C ρ eO [] (te W C g elt) (xs.map item) ((xs.map out).flatten):=by
 induction xs with
 |nil=>exact .nil
 |cons a xs ih=>
  rw[aO,aO,ee]
  exact .cons (ds:=out a) (b:=true) (h1 a (.head _)).un .nil (λ_=>h2 a (.head _)) (λe=>by exact nomatch e) (h3 a (.head _)) (ih (λb hb=>h1 b (.tail _ hb)) (λb hb=>h2 b (.tail _ hb)) λb hb=>h3 b (.tail _ hb))
theorem sf{es:List Expr}{pos:Pos}{ds:List D}(x:VA W C ρ es ds)(fB:autoParam (ds.length<=16777216) Ln._auto_1):VX W C ρ (.List es pos) (tm ds):=vx (.list x.un fB)
theorem Xh{e1 e2:Expr}{k:Nat}{pos:Pos}{d1:D}{X:D->Res->Prop}(x:VE W C ρ e1 d1)(y:VX W C ρ e2 X)(he:autoParam (aI [e1,e2] C.env=[(false,eval e1 C.env),(false,eval e2 C.env)]) fL._auto_1):VX W C ρ (.Tuple [e1,e2] k pos) (λd r=>∃d2,d= .tup [d1,d2]/\X d2 r):=vx (.NH x.un y.un he)
theorem ET{e1 e2:Expr}{k:Nat}{pos:Pos}{d2:D}{X:D->Res->Prop}(x:VX W C ρ e1 X)(y:VE W C ρ e2 d2)(he:autoParam (aI [e1,e2] C.env=[(false,eval e1 C.env),(false,eval e2 C.env)]) fL._auto_1):VX W C ρ (.Tuple [e1,e2] k pos) (λd r=>∃d1,d= .tup [d1,d2]/\X d1 r):=vx (.NI x.un y.un he)
theorem Lu(K:CK C names){l r:Expr}{pos:Pos}{a:Addr}{xs ys:List D}(hI:∀f o,bc C ρ f o->k9 f o a xs)(ha:VE W C ρ l (.raw (.ref a)))(hb:VE W C ρ r (.list ys))(hs:xs.length+ys.length<=1000000):VX W C ρ (.BinOp l .Add r pos) (tm (xs++ys)):=vx (.WZ K.ok hI ha.un hb.un hs)
noncomputable def vY(W:Wd)(C:Cx)(rest:List Stmt)(Q:Out->Prop):Out->Prop
 | .next a9=>VS W C a9 rest Q
 |out=>Q out
theorem vY.un{rest:List Stmt}:∀out,vY W C rest Q out->Ae W C rest Q out
 | .next _,h=>VS.un h
 | .brk _,h=>h
 | .cont _,h=>h
 | .ret _,h=>h
theorem dh(h:Q (.next ρ)):VS W C ρ [] Q:=vs (.nil h)
theorem let1{t e:Expr}{pos:Pos}{rest:List Stmt}{d:D}(he:VE W C ρ e d)(ht:VT W C ρ t d a9)(h:VS W C a9 rest Q)(hs:autoParam (fI [t] e pos.line C.env=pure false) fL._auto_1)(hw:autoParam (cS [t] e C.env=pure aD) fL._auto_1)
 (ha:autoParam ((bk [t] C.env).map (·.2)=[bE t C.env]) Lp._auto_1):VS W C ρ (.Assign [t] e pos::rest) Q:=vs (.assign he.un ht.un h.un hs hw ha)
theorem Ic{t e:Expr}{pos:Pos}{rest:List Stmt}{X:D->Res->Prop}(he:VX W C ρ e X)
 (h:∀d r,X d r->∃x bD bZ,VT W C ρ t d bD/\(x,Bd.val (.raw r.v))∈bD/\Ro.Set x (.res true r) bD bZ/\VS W C bZ rest Q) (hs:autoParam (fI [t] e pos.line C.env=pure false) fL._auto_1) (hw:autoParam (cS [t] e C.env=pure aD) fL._auto_1)
 (ha:autoParam ((bk [t] C.env).map (·.2)=[bE t C.env]) Lp._auto_1):VS W C ρ (.Assign [t] e pos::rest) Q:=
 vs (.Bu he.un (λd r hx=>by obtain⟨x,bD,bZ,a,b,c,k⟩:=h d r hx; exact⟨x,bD,bZ,a.un,b,c,k.un⟩) hs hw ha)
theorem Au(K:CK C names){x:Str}{k:aC}{e:Expr}{p pos:Pos}{rest:List Stmt}{ds:List D}(he:VX W C ρ e (tm ds))(h:∀a,∃a9,Ro.Set x (.res true (eI a ds)) ρ a9/\VS W C a9 rest Q)(hk:autoParam ((x,k)∈names) vm._auto_1)(oX:autoParam ((k== .local||k== .cell)=true) vk._auto_1)
 (hs:autoParam (fI [.Name x p] e pos.line C.env=pure false) fL._auto_1) (hw:autoParam (cS [.Name x p] e C.env=pure aD) fL._auto_1) (ha:autoParam ((bk [.Name x p] C.env).map (·.2)=[bE (.Name x p) C.env]) Lp._auto_1):VS W C ρ (.Assign [.Name x p] e pos::rest) Q:=
 vs (.sf K.ok he.un (K.eq▸hk) oX (λa=>let⟨a9,b,c⟩:=h a; ⟨a9,b,c.un⟩) hs hw ha)
theorem N3(K:CK C names){x y:Str}{p q tp vp pos:Pos}{k k2:Nat}{e1 e2:Expr}{rest:List Stmt}{d1 d2:D}(he:VE W C ρ (.Tuple [e1,e2] k2 vp) (.tup [d1,d2]))(hm:n8 C ρ [y,x] [d2,d1] a9)(h:VS W C a9 rest Q)(hx:autoParam ((x,ae)∈names) vm._auto_1)(hy:autoParam ((y,ae)∈names) vm._auto_1)
 (hl:autoParam ((q.line==p.line)=true) vk._auto_1) (EB:autoParam ((x==y)=false) sG._auto_1) (hs:autoParam (([e1,e2].any λx=>swappedStores.match_5 (λ_=>Bool) x (λ_ _=>true) λ_=>false)=false) fL._auto_1) (hf:autoParam ([e1,e2].all (foldedForSure 8)=false) fL._auto_1) (ha:autoParam ([e1,e2].all (constantsAlone 8)=false) fL._auto_1):VS W C ρ (.Assign [.Tuple [.Name x p, .Name y q] k tp] (.Tuple [e1,e2] k2 vp) pos::rest) Q:=
 vs (.HN (names:=[x,y]) (ds:=[d1,d2]) K.ok K.hand he.un rfl hm h.un rfl (Aq K hx hy hl EB hs hf ha))
theorem vZ(K:CK C names){x:Str}{p pos n9:Pos}{elt eO iter:Expr}{ifs:List Expr}{scope:Scope}{rest:List Stmt}{xs out:List D}(hit:VI W C ρ eO iter xs)(hc:∀C',CK C' scope.names->C'.A=C.A->Clause W C' eW eO ifs (Ab W C' elt) xs out)(hi:autoParam (nr names ρ scope.names eW) N1._auto_1)
 (hn:out.length<=100000) (aU:autoParam (Ro.Set x (.val (.list out)) ρ a9) H9._auto_1) (h:VS W C a9 rest Q) (hx:autoParam ((x,ae)∈names) vm._auto_1) (jl:autoParam ((p.line==n9.line)=true) vk._auto_1) (ES:autoParam ((scope.names.any λ(n,k)=>n==x&&(k== .local||k== .cell))=false) sG._auto_1) (j4:autoParam (decide (scope.names.map (·.1)).Nodup=true) H6._auto_1)
 (hs:autoParam (∀x,bH iter C.env x=pure x) MP._auto_1) (hk:autoParam (scope.kind= .function) fL._auto_1):VS W C ρ (.Assign [.Name x p] (.ListComp elt [⟨eO,iter,ifs,0⟩] scope n9) pos::rest) Q:=
 vs (.Bv K.ok hit.un hs hk (of_decide_eq_true j4) (K.eq▸hi) rfl (λcenv O=>JH O K.hand (hc _ ⟨O,K.hand,rfl⟩ rfl) hn) (K.eq▸hx) aU h.un (yG K hx jl ES))
theorem j6{e:Expr}{pos:Pos}{rest:List Stmt}{d:D}(he:VE W C ρ e d)(h:Q (.ret d)):VS W C ρ (.Return (some e) pos::rest) Q:=vs (.ret he.un h)
theorem N4{pos:Pos}{rest:List Stmt}(h:Q (.brk ρ)):VS W C ρ (.Break pos::rest) Q:=vs (.brk h)
theorem jw{t:Expr}{body orelse rest:List Stmt}{pos:Pos}{b:Bool}(ht:VB W C ρ t b)(hx:b=true->VS W C ρ body (vY W C rest Q))(hy:b=false->VS W C ρ orelse (vY W C rest Q)):VS W C ρ (.If t body orelse pos::rest) Q:=
 vs (.ite ht.un (λh=>((hx h).un).mono vY.un) λh=>((hy h).un).mono vY.un)
noncomputable def N5(W:Wd)(C:Cx)(rest:List Stmt)(Q:Out->Prop)(I:List D->Ro->Prop)(xs:List D):Out->Prop
 | .next a9=>I xs a9
 | .cont a9=>I xs a9
 | .brk a9=>VS W C a9 rest Q
 | .ret d=>Q (.ret d)
theorem mO(K:CK C names){eO e:Expr}{body rest:List Stmt}{pos:Pos}{xs:List D}(he:VI W C ρ eO e xs)(I:List D->Ro->Prop)(hI:I xs ρ)(h0:∀ρ,I [] ρ->VS W C ρ rest Q)(h1:∀x xs ρ,I (x::xs) ρ->∃mf,VT W C ρ eO x mf/\VS W C mf body (N5 W C rest Q I xs))(hs:autoParam (∀x,bH e C.env x=pure x) MP._auto_1):VS W C ρ (.For eO e body [] pos::rest) Q:=
 vs (.WC K.ok K.hand he.un hs (u0.of I (λρ h=>(h0 ρ h).un) (λx xs ρ h=>let⟨mf,a,b⟩:=h1 x xs ρ h; ⟨mf,a.un,b.un.mono λout q=>by
  cases out with
  |next a9=>exact q
  |cont a9=>exact q
  |brk a9=>exact VS.un q
  |ret d=>exact q⟩) xs ρ hI))
theorem EU(K:CK C names){e:Expr}{a:Addr}{p1 p2 p3 pos:Pos}{rest:List Stmt}{d:D}{ds:List D}{x:Str}(he:VE W C ρ e d)(fB:ds.length<=16777216)(iq:VS W C a9 rest Q)(hm:autoParam ((x,Bd.res true (eI a ds))∈ρ) vm._auto_1)(aU:autoParam (Ro.Set x (.res true (eI a (ds++[d]))) ρ a9) H9._auto_1)(h1:autoParam ((x==("__debug__" :Str))=false) sG._auto_1)(h2:autoParam ((x==("__classdict__" :Str))=false) sG._auto_1)
 (hb:autoParam (bx (.Name x p1) (J "append") C.env (eval (.Name x p1) C.env)=eval (.Name x p1) C.env) fL._auto_1) (pd:autoParam (aI [e] C.env=[(false,eval e C.env)]) fL._auto_1) (hl:autoParam ((p2.endLine==p3.line)=true) vk._auto_1)
 (hs:autoParam (gj (.Call (.Attribute (.Name x p1) (J "append") p2) [e] [] p3) aD pos.line C.env=pure false) fL._auto_1):VS W C ρ (.Expr (.Call (.Attribute (.Name x p1) (J "append") p2) [e] [] p3) pos::rest) Q:=
 vs (.Bw K.ok he.un hm fB aU iq.un h1 h2 hb pd hl K.inter hs)
theorem tX{ss:List Stmt}{x:Str}{a:Addr}{ds:List D}(hm:(x,Bd.res true (eI a ds))∈ρ)(aU:Ro.Set x (.val (.list ds)) ρ a9)(h:VS W C a9 ss Q):VS W C ρ ss Q:=vs (.done hm aU h.un)
end
noncomputable def jF(size:Int)(c:Int)(x:Nat):Int:=if x=32 then c+1 else(c.fdiv size+1)*size
noncomputable def fc(l:List Nat)(size:Int):Int:=l.foldl (jF size) 0
inductive N6(l:List Nat)(size:Nat)(xs:List D)(ρ:Ro):Prop
 |mk (r:List Nat) (c:Int) (b:Bd) (h1:xs=signs r) (h2:fc l size=r.foldl (jF size) c) (h3:ρ=[(J "lead", .val (.str (aS l))),(J "size", .val (.int size)),(J "column", .val (.int c)),(J "sign",b)]):N6 l size xs ρ
theorem N7{W:Wd}(X:cH W){A:Around}(lv:Lv 1 A){l:List Nat}{size:Nat}(h1:l.all (·<128)=true)(h2:0<size)(h3:size<1000):iJ W A (.ref 339) [.str (aS l), .int size] (.int (fc l size)):=by
 refine X.fn 339 (n:=0) (ps:=["lead","size"]) (ρ:=[("lead", .val (.str (aS l))),("size", .val (.int size)),("column", .unset),("sign", .unset)])
  (names:=[(J "lead", .local),(J "size", .local),(J "column", .local),(J "sign", .local)]) lv ⟨_,rfl,rfl⟩ rfl (by kernel_rfl) rfl rfl (by kernel_rfl) rfl rfl rfl rfl rfl (by kernel_rfl) (by kernel_rfl) (tW λa b=>by kernel_rfl) ?_ (λC O lv hN sA=>?_)
 ·show kj [(_,_),(_,_)] _ _
  exact qY
 ·have K:CK C _:=⟨O,lv.hand,hN⟩
  refine let1 num (cx K) ?_
  refine mO K (jE K (nm K) (BD h1)) (N6 l size) ⟨l,0,_,rfl,rfl,rfl⟩ ?_ ?_
  ·rintro ρ ⟨r,c,b,e1,e2,rfl⟩
   cases r with
   |cons x r=>exact nomatch e1
   |nil=>exact j6 (nm K) (by show D.int c=_; rw[e2]; rfl)
  ·rintro x xs ρ ⟨r,c,b,e1,e2,rfl⟩
   cases r with
   |nil=>exact nomatch e1
   |cons y r=>
    obtain⟨rfl,rfl⟩:x= .str (aS [y])/\xs=signs r:=by cases e1; exact⟨rfl,rfl⟩
    refine⟨_,cx K,?_⟩
    refine let1 (vq (d:= .int (jF size c y)) (kO K (nm K) (st [32]) tK) (λh=> .eq (bin K (nm K) num cV) ?_) λh=> .eq (bin K (bin K (bin K (nm K) (nm K) (lK (by exact Ri h2 h3) (by exact M4 h2 h3))) num cV) (nm K) (tB (by exact M4 h2 h3))) ?_) (cx K) (dh ⟨r,_,_,rfl,e2,rfl⟩)
    ·have:y=32:=by simpa using h
     unfold jF; rw[if_pos this]
    ·have:y≠32:=by simpa using h
     unfold jF; rw[if_neg this]
section
variable {W:Wd}
theorem jU(X:cH W):cK W (J "len") (.builtin "len"):=X.bin (by kernel_rfl) (by decide+kernel) (by kernel_rfl)
theorem ly(X:cH W):cK W (J "max") (.builtin "max"):=X.bin (by kernel_rfl) (by decide+kernel) (by kernel_rfl)
theorem N8(X:cH W):cK W (J "min") (.builtin "min"):=X.bin (by kernel_rfl) (by decide+kernel) (by kernel_rfl)
theorem JR(X:cH W):cK W (J "sum") (.builtin "sum"):=X.bin (by kernel_rfl) (by decide+kernel) (by kernel_rfl)
theorem yH(X:cH W):cK W (J "sorted") (.builtin "sorted"):=X.bin (by kernel_rfl) (by decide+kernel) (by kernel_rfl)
theorem qx(X:cH W):cK W (J "isinstance") (.builtin "isinstance"):=X.bin (by kernel_rfl) (by decide+kernel) (by kernel_rfl)
theorem EV(X:cH W):cK W (J "str") (.type "str"):=X.bin (by kernel_rfl) (by decide+kernel) (by kernel_rfl)
theorem N9(X:cH W):cK W (J "int") (.type "int"):=X.bin (by kernel_rfl) (by decide+kernel) (by kernel_rfl)
theorem g_bool(X:cH W):cK W (J "bool") (.type "bool"):=X.bin (by kernel_rfl) (by decide+kernel) (by kernel_rfl)
theorem xb(X:cH W):cK W (J "list") (.type "list"):=X.bin (by kernel_rfl) (by decide+kernel) (by kernel_rfl)
theorem Ie(X:cH W):cK W (J "tuple") (.type "tuple"):=X.bin (by kernel_rfl) (by decide+kernel) (by kernel_rfl)
theorem Av(X:cH W):cK W (J "type") (.type "type"):=X.bin (by kernel_rfl) (by decide+kernel) (by kernel_rfl)
theorem kr(X:cH W):cK W (J "range") (.type "range"):=X.bin (by kernel_rfl) (by decide+kernel) (by kernel_rfl)
theorem oq(X:cH W):cK W (J "enumerate") (.type "enumerate"):=X.bin (by kernel_rfl) (by decide+kernel) (by kernel_rfl)
theorem JS(X:cH W):cK W (J "zip") (.type "zip"):=X.bin (by kernel_rfl) (by decide+kernel) (by kernel_rfl)
theorem tY(X:cH W):∃t,cK W (J "NT_OFFSET") (.int 256 t):=⟨_,X.glob (v:= .int 256 _) rfl⟩
theorem Oa(X:cH W){A:Around}(lv:Lv 1 A){i:Int}:iJ W A (.ref 162) [.int i] (.bool (decide (i<256))):=by
 obtain⟨t,g⟩:=tY X
 refine X.fn 162 (n:=0) (ps:=["x"]) (ρ:=[("x", .val (.int i))]) (names:=[(J "x", .local),(J "NT_OFFSET", .globalImplicit)]) lv ⟨_,rfl,rfl⟩ rfl (by kernel_rfl) rfl rfl (by kernel_rfl) rfl rfl rfl rfl rfl (by kernel_rfl) (by kernel_rfl) (Ao λa=>by kernel_rfl) ?_ (λC O lv hN sA=>?_)
 ·show kj [(_,_)] _ _
  exact qY
 ·have K:CK C _:=⟨O,lv.hand,hN⟩
  exact j6 (cmp K (nm K) (ofRaw (d:= .int 256) (gl K g) λf=>⟨t,rfl⟩) Bz) rfl
theorem Xi(X:cH W){A:Around}(lv:Lv 1 A){i:Int}:iJ W A (.ref 169) [.int i] (.bool (decide (256<=i))):=by
 obtain⟨t,g⟩:=tY X
 refine X.fn 169 (n:=0) (ps:=["x"]) (ρ:=[("x", .val (.int i))]) (names:=[(J "x", .local),(J "NT_OFFSET", .globalImplicit)]) lv ⟨_,rfl,rfl⟩ rfl (by kernel_rfl) rfl rfl (by kernel_rfl) rfl rfl rfl rfl rfl (by kernel_rfl) (by kernel_rfl) (Ao λa=>by kernel_rfl) ?_ (λC O lv hN sA=>?_)
 ·show kj [(_,_)] _ _
  exact qY
 ·have K:CK C _:=⟨O,lv.hand,hN⟩
  exact j6 (cmp K (nm K) (ofRaw (d:= .int 256) (gl K g) λf=>⟨t,rfl⟩) vO) rfl
noncomputable def nc:List Nat:=[97,116,32,116,97,98,32,115,105,122,101]
noncomputable def wordsOf(ns:List Int):List Nat:=nc++(if(ns.length:Int)>1 then[115] else[])++[32]++cW [44,32] (ns.map lL)
theorem Ob(X:cH W){A:Around}(lv:Lv 1 A){d:D}{ns:List Int}(hlen:∀A,l7 W A (.builtin "len") [d] (.int ns.length))(hit:KV W d (ns.map .int))(hs:∀n∈ns,n.natAbs<1000000/\(lL n).length<=100)(hn:ns.length<=100):iJ W A (.ref 359) [d] (.str (aS (wordsOf ns))):=by
 refine X.fn 359 (n:=0) (ps:=["sizes"]) (ρ:=[("sizes", .val d)]) (names:=[(J "sizes", .local),(J "len", .globalImplicit)]) lv ⟨_,rfl,rfl⟩ rfl (by kernel_rfl) rfl rfl (by kernel_rfl) rfl rfl rfl rfl rfl (by kernel_rfl) (by kernel_rfl) (Ao λa=>by kernel_rfl) ?_ (λC O lv hN sA=>?_)
 ·show kj [(_,_)] _ _
  exact qY
 ·have K:CK C _:=⟨O,lv.hand,hN⟩
  have hp:∀l:List Int,(∀n∈l,(lL n).length<=100)->(cW [44,32] (l.map lL)).length<=102*l.length:=by
   intro l
   induction l with
   |nil=>intro _; simp[cW]
   |cons a l ih=>
    intro h
    have h1:=ih λn hn=>h n (.tail _ hn)
    have h2:=h a (.head _)
    cases l with
    |nil=>simp[cW]; exact aN 7478879206459393 tt h2
    |cons b l=>simp only[aO,cW,a8,aQ,ff] at h1 ⊢; exact cG 0x14140d688421352400869414206b4434a4e1004201 tt h2 h1
  have hj:=hp ns λn hn=>(hs n hn).2
  have key:(ns.map λn=>D.str (aS (lL n)))=((ns.map lL).map λt=>D.str (aS t)):=by rw[aM]; rfl
  refine j6 (bin K (bin K (bin K (st nc) (bin K (st [115]) (cmp K (bS (gl K (jU X)) .builtin (a1 (nm K)) (hlen _)) num El) Ez) (gR ?_)) (st [32]) (gR ?_))
   (gg (d:= .str (aS (cW [44,32] (ns.map lL)))) (st [44,32]) (ir gO gN) .builtin (a1 (dY (eW:=[(".0", .unset),("size", .unset)]) K (jE K (nm K) hit) (λC' K' e=>gH ns .int (λn=> .str (aS (lL n))) (λn=>[(".0", .unset),("size", .val (.int n))]) (λn hn=>cx K') (λn hn=>bS (gl K' (EV X)) .type (a1 (nm K')) (tM (hs n hn).1)) λn hn=>?_) kq ?_)) ?_) (gR ?_)) ?_
  ·split<;>simp[nc]
  ·split<;>simp[nc]
  ·exact jS
  ·simp; exact aN 0xd4900210e2da84801 tt hn
  ·rw[key]
   refine qs (λt ht=>?_) (by simp; exact aN 0x352400847ec4801 tt hn) (by decide)
   obtain⟨n,hn,rfl⟩:=aw.mp ht
   have:=(hs n hn).2; exact aN 0x352400847ec4801 tt this
  ·split<;>(simp[nc]<;>(first|exact Rj hn hj|exact Rk hn hj|lia|omega))
  ·show D.str _=D.str _
   congr 1
   unfold wordsOf
   by_cases h:(ns.length:Int)>1<;>simp[h]
end
section
variable {W:Wd}{C:Cx}{ρ a9 bD bZ qv EM:Ro}{names:List (Str×aC)}
noncomputable def pk{α:Type}(l:List α)(lo hi st:Option Int):List α:=((m6 (dF lo hi st l.length).1 (dF lo hi st l.length).2.1 (dF lo hi st l.length).2.2).filterMap (l[·]?))
theorem Lw{α:Type}(g:α->D)(l:List α)(lo hi st:Option Int):qm (l.map g) lo hi st=(pk l lo hi st).map g:=by
 unfold qm pk
 rw[ai,List.map_filterMap]
 congr 1
 funext i
 simp
theorem Lx{α:Type}(l:List α)(lo hi st:Option Int):(pk l lo hi st).length<=l.length:=by
 unfold pk
 refine aP (List.length_filterMap_le _ _) ?_
 apply sliceRange_length_le
 ·intro hc
  simp only[dF] at hc ⊢
  simp only[hc,if_true]
  constructor
  ·cases lo with
   |none=>simp
   |some i=>dsimp only; exact Rl
  ·cases hi with
   |none=>simp
   |some i=>dsimp only; exact Rn
 ·intro hc
  simp only[dF] at hc ⊢
  simp only[hc,if_false]
  constructor
  ·cases lo with
   |none=>simp
   |some i=>dsimp only; exact Rp
  ·cases hi with
   |none=>simp
   |some i=>dsimp only; exact Rq
noncomputable def bases:List (Nat×Int):=[(0,100),(1,94),(2,114),(3,1),(4,179)]
noncomputable def drawn(ns:List Int)(p:Nat×Int):Int:=(p.2+((pk ns (some p.1) (some 60) (some 5)).map λx=>x.fmod 192).sum).fmod 192
noncomputable def draws(ns:List Int):List Int:=bases.map (drawn ns)
noncomputable def Ig:List Nat:=[60]
noncomputable def Ih:List Nat:=[62]
noncomputable def Ii:List Nat:=[61,61]
noncomputable def signOf(i:Int):List Nat:=if i=0 then Ig else if i=1 then Ih else Ii
noncomputable def EW(y:Int):D:= .str (aS (signOf ((y.fdiv 16).fmod 3)))
noncomputable def tZ(y:Int):D:= .tup [.int (y.fmod 4),EW y, .int ((y.fdiv 4).fmod 4), .int (y.fdiv 48)]
theorem Xj(X:cH W){A:Around}(lv:Lv 1 A){d:D}{ns:List Int}(hL:HS W d (ns.map .int))(hn:ns.length<=1000):iJ W A (.ref 322) [d] (.tup [.list ((draws ns).map tZ), .int (draws ns).sum]):=by
 refine X.fn 322 (n:=0) (ps:=["script"]) (ρ:=[("script", .val d),("draws", .unset)]) (names:=[(J "script", .cell),(J "draws", .local),(J "enumerate", .globalImplicit),(J "sum", .globalImplicit)]) lv ⟨_,rfl,rfl⟩ rfl (by kernel_rfl) rfl rfl (by kernel_rfl) rfl rfl rfl rfl rfl (by kernel_rfl) (by kernel_rfl) (Ao λa=>by kernel_rfl) ?_ (λC O lv hN sA=>?_)
 ·show kj [(_,_)] _ _
  exact qY
 ·have K:CK C _:=⟨O,lv.hand,hN⟩
  have hb:∀p∈bases,p.1<5:=by decide
  refine vZ (eW:=[(".0", .unset),("k", .unset),("base", .unset),("script", .val d)]) (out:=(draws ns).map .int) K
   (As (ds:=[.int 100, .int 94, .int 114, .int 1, .int 179]) (gl K (oq X)) (lst (ac num (ac num (ac num (ac num (ac num a0)))))))
   (λC' K' e=>?_) kq (by simp[draws,bases]) kB ?_
  ·refine gH bases (λp=> .tup [.int p.1, .int p.2]) (λp=> .int (drawn ns p)) (λp=>[(".0", .unset),("k", .val (.int p.1)),("base", .val (.int p.2)),("script", .val d)]) (λp hp=>iV K' (cx K') (cx K')) (λp hp=>?_) (λp hp=>jS)
   have Xk:=Lw .int ns (some p.1) (some 60) (some 5)
   refine bin K' (bin K' (nm K') (bS (d:= .int ((pk ns (some p.1) (some 60) (some 5)).map λx=>x.fmod 192).sum) (gl K' (JR X)) .builtin (a1 (dY (eW:=[(".0", .unset),("x", .unset)]) (out:=(((pk ns (some p.1) (some 60) (some 5)).map λx=>x.fmod 192)).map .int) K'
    (jE K' (mM (nm K') hL (p1 (nm K')) (p1 num) (p1 num) (by decide) (by simp; exact aN 0xfd8900217d25484801 tt hn) (λ_ _=>rfl)) (by rw[Xk]; exact bp))
    (λJT fj e'=>?_) kq ?_)) (BC K'.hand)) cV) num (lJ (by decide))
   ·rw[aM]
    exact gH (pk ns (some p.1) (some 60) (some 5)) .int (λx=> .int (x.fmod 192)) (λx=>[(".0", .unset),("x", .val (.int x))]) (λx hx=>cx fj) (λx hx=>bin fj (nm fj) num (lJ (by decide))) (λx hx=>jS)
   ·have:=Lx ns (some (p.1:Int)) (some 60) (some 5)
    simp; exact aX 0x2108fd8900210e2da84821 tt hn this
  ·refine j6 (tup (ac (dY (eW:=[(".0", .unset),("y", .unset)]) (out:=(draws ns).map tZ) K (jE K (nm K) bp) (λC' K' e=>?_) kq (by simp[draws,bases])) (a1 (bS (gl K (JR X)) .builtin (a1 (nm K)) (BC lv.hand))))) rfl
   refine gH (draws ns) .int tZ (λy=>[(".0", .unset),("y", .val (.int y))]) (λx hx=>cx K') (λy hy=>?_) (λx hx=>jS)
   refine tup (ac (bin K' (nm K') num (lJ (by decide))) (ac ?_ (ac (bin K' (bin K' (nm K') num (lK (by decide) (by decide))) num (lJ (by decide))) (a1 (bin K' (nm K') num (lK (by decide) (by decide)))))))
   have hk:∃i:Nat,(y.fdiv 16).fmod 3=i/\i<3:=by
    have h1:=Bj (y.fdiv 16) (b:=3) (by decide)
    have h2:=GZ (y.fdiv 16) (b:=3) (by decide)
    exact⟨((y.fdiv 16).fmod 3).toNat,by exact Rr h1 h2,by exact Rt h1 h2⟩
   obtain⟨i,hi,ZJ⟩:=hk
   refine dA (T:= "tuple") (da:= .tup [.str (aS Ig), .str (aS Ih), .str (aS Ii)]) (di:= .int i) K' (tup (ac (st Ig) (ac (st Ih) (a1 (st Ii))))) (.eq (bin K' (bin K' (nm K') num (lK (by decide) (by decide))) num (lJ (by decide))) (by rw[hi])) cu (fw ?_ (by exact aN 0xb5010085f495212a0201 tt ZJ))
   unfold EW signOf
   rw[hi]
   match i,ZJ with
   | 0,_=>rfl
   | 1,_=>rfl
   | 2,_=>rfl
end
noncomputable abbrev Rel:=List (List Int)
noncomputable def bF(r:Rel)(u v:Nat):Int:=(r.getD u []).getD v 0
noncomputable def xc:Rel:=(aB 4).map λ(u:Nat)=>(aB 4).map λ(v:Nat)=>if(u:Int)=v then 1 else 0
noncomputable def mP(r:Rel)(x y:Nat)(eP:Int)(u v:Nat):Int:=max (bF r u v) (if bF r u x≠0/\bF r y v≠0 then max (max (bF r u x) eP) (bF r y v) else 0)
noncomputable def c0(r:Rel)(x y:Nat)(eP:Int):Rel:=(aB 4).map λu=>(aB 4).map λv=>mP r x y eP u v
noncomputable def ny(row:List Int):D:= .list (row.map .int)
noncomputable def gA(r:Rel):D:= .list (r.map ny)
structure Wf(r:Rel):Prop where
 len:r.length=4
 row:∀w∈r,w.length=4
theorem yI(g:Nat->Nat->Int):Wf ((aB 4).map λu=>(aB 4).map λv=>g u v):=⟨rfl,λw hw=>by
 obtain⟨u,_,rfl⟩:=aw.mp hw; simp⟩
structure Ed where
 low:Nat
 sg:Nat
 high:Nat
 great:Int
 deriving DecidableEq
noncomputable def mi(i:Nat):List Nat:=if i=0 then Ig else if i=1 then Ih else Ii
noncomputable def uU(e:Ed):D:= .tup [.int e.low, .str (aS (mi e.sg)), .int e.high, .int e.great]
structure Ed.Ok(e:Ed):Prop where
 low:e.low<4
 sg:e.sg<3
 high:e.high<4
noncomputable def Ed.ends(e:Ed):Nat×Nat×Int:=if e.sg=0 then(e.low,e.high,2) else if e.sg=1 then(e.high,e.low,2) else(e.low,e.high,1)
noncomputable def eA(r:Rel)(a b:Nat)(eP:Int):Bool:=if eP=2 then decide (bF r b a=0) else decide (max (bF r a b) (bF r b a)<2)
noncomputable def pairsOf(a b:Nat)(eP:Int):List (Nat×Nat):=if eP=2 then[(a,b)] else[(a,b),(b,a)]
noncomputable def rV(r:Rel)(e:Ed):Rel:=if eA r e.ends.1 e.ends.2.1 e.ends.2.2 then(pairsOf e.ends.1 e.ends.2.1 e.ends.2.2).foldl (λr p=>c0 r p.1 p.2 e.ends.2.2) r else r
noncomputable def ru(q:Rel×List Bool)(e:Ed):Rel×List Bool:=(rV q.1 e,q.2++[eA q.1 e.ends.1 e.ends.2.1 e.ends.2.2])
noncomputable def closure(es:List Ed):Rel×List Bool:=es.foldl ru (xc,[])
section
variable {W:Wd}{C:Cx}{ρ a9:Ro}{names:List (Str×aC)}{Q:Out->Prop}
theorem Wf.at{r:Rel}(w:Wf r){u:Nat}(hu:u<4):(r.map ny)[u]? =some (ny (r.getD u []))/\(r.getD u []).length=4:=by
 have h:u<r.length:=by rw[w.len]; exact hu
 rw[av,aj h,ak,aj h]
 exact⟨rfl,w.row _ (dg h)⟩
theorem ia(K:CK C names){r:Rel}(w:Wf r){e eu ev:Expr}{p1 p2:Pos}{u v:Nat}(he:VE W C ρ e (gA r))(eu':VE W C ρ eu (.int u))(ev':VE W C ρ ev (.int v))(hu:u<4)(hv:v<4)
 (h1:autoParam (∀o i,subscripted eu false o i=operate [o,i] (dI o i)) CS._auto_1) (h2:autoParam (∀o i,subscripted ev false o i=operate [o,i] (dI o i)) CS._auto_1):VE W C ρ (.Subscript (.Subscript e eu p1) ev p2) (.int (bF r u v)):=by
 obtain⟨a,b⟩:=w.at hu
 refine dA (T:= "list") (da:=ny (r.getD u [])) (di:= .int v) K (dA (T:= "list") (da:=gA r) (di:= .int u) K he eu' aR (bY a (by exact aN 0xbd010085f495212a0201 tt hu)) rfl h1) ev' aR (bY ?_ (by exact aN 0xbd010085f495212a0201 tt hv)) rfl h2
 unfold bF
 generalize sR r u []=row at b
 have h:v<row.length:=by rw[b]; exact hv
 rw[av,aj h,ak,aj h]; rfl
theorem mQ(n:Nat):(uY 0 n).map D.int=(aB n).map λ(i:Nat)=>D.int i:=by
 have key:∀(n a:Nat),uY (a:Int) n=(bB a n).map λi:Nat=>(i:Int):=by
  intro n
  induction n with
  |zero=>intro a; rfl
  |succ n ih=>intro a; rw[uY,sN,aO]; have:=ih (a+1); push_cast at this; rw[this]
 have:=key n 0
 rw[show((0:Nat):Int)=0 from rfl] at this
 rw[this,aM,kk]; rfl
theorem t8{eO:Expr}(X:cH W)(K:CK C names){p1 p2 p3:Pos}{k:Nat}(hm:autoParam ((J "range",ag)∈names) vm._auto_1):VI W C ρ eO (.Call (.Name (J "range") p1) [.Constant (.int 4) k p2] [] p3) ((aB 4).map λ(i:Nat)=>D.int i):=by
 rw[<-mQ]
 exact jE K (bS (gl K (kr X) hm (by decide+kernel)) .type (a1 num) mI) (mJ (by decide) (by decide) (by decide) (by decide))
inductive Oc(es:List Ed)(a:Addr)(xs:List D)(ρ:Ro):Prop
 |mk (pF:List Ed) (r:Rel) (ks:List Bool) (b1 b2 b3 b4 b5 b6 b7 b8 b9:Bd) (h1:xs=pF.map uU) (h2:Wf r) (h3:(∀e∈pF,e.Ok)) (h4:ks.length+pF.length<=1000) (h5:closure es=pF.foldl ru (r,ks)) (h6:ρ=([("said", .val (.list (es.map uU))),("rel", .val (gA r)),("kept", .res true (eI a (ks.map .bool))),("low",b1),("sign",b2),("high",b3),("great",b4),("a",b5),("b",b6),("bond",b7),("x",b8),("y",b9)]:Ro)):Oc es a xs ρ
inductive Od(es:List Ed)(e:Ed)(r:Rel)(ks:List Bool)(na nb:Nat)(eP:Int)(a:Addr)(xs:List D)(ρ:Ro):Prop
 |mk (uV:List (Nat×Nat)) (r':Rel) (b8 b9:Bd) (h1:xs=(uV.map λp=> .tup [.int p.1, .int p.2])) (h2:Wf r') (h3:(∀p∈uV,p.1<4/\p.2<4)) (h4:rV r e=uV.foldl (λr p=>c0 r p.1 p.2 eP) r') (h5:ρ=([("said", .val (.list (es.map uU))),("rel", .val (gA r')),("kept", .res true (eI a (ks.map .bool++[.bool (eA r na nb eP)]))),("low", .val (.int e.low)),("sign", .val (.str (aS (mi e.sg)))),("high", .val (.int e.high)),("great", .val (.int e.great)),("a", .val (.int na)),("b", .val (.int nb)),("bond", .val (.int eP)),("x",b8),("y",b9)]:Ro)):Od es e r ks na nb eP a xs ρ
theorem Xl(X:cH W){A:Around}(lv:Lv 1 A){es:List Ed}(Oe:∀e∈es,e.Ok)(hlen:es.length<=1000):iJ W A (.ref 327) [.list (es.map uU)] (.tup [gA (closure es).1, .list ((closure es).2.map .bool)]):=by
 refine X.fn 327 (n:=0) (ps:=["said"]) (ρ:=[("said", .val (.list (es.map uU))),("rel", .unset),("kept", .unset),("low", .unset),("sign", .unset),("high", .unset),("great", .unset),("a", .unset),("b", .unset),("bond", .unset),("x", .unset),("y", .unset)])
  (names:=[(J "said",ae),(J "rel",aq),(J "kept",ae),(J "low",ae),(J "sign",ae),(J "high",ae),(J "great",ae),(J "a",ae),(J "b",ae),(J "bond",aq),(J "x",aq),(J "y",aq),(J "range",ag),(J "max",ag)])
  lv ⟨_,rfl,rfl⟩ rfl (by kernel_rfl) rfl rfl (by kernel_rfl) rfl rfl rfl rfl rfl (by kernel_rfl) (by kernel_rfl) (Ao λa=>by kernel_rfl) ?_ (λC O lv hN sA=>?_)
 ·show kj [(_,_)] _ _
  exact qY
 ·have K:CK C _:=⟨O,lv.hand,hN⟩
  refine Ic (Xh (d1:=gA xc) ?_ (sf a0)) ?_ rfl (jT K (.inl ij))
  ·refine dY (eW:=[(".0", .unset),("u", .unset)]) K (t8 X K) (λC' K' e'=>gH (aB 4) (λu=> .int u) (λu=>ny ((aB 4).map λ(v:Nat)=>if(u:Int)=v then 1 else 0)) (λu=>[(".0", .unset),("u", .val (.int u))]) (λu hu=>cx K') (λu hu=>?_) λu hu=>jS) kq (by decide)
   refine .eq (dY (eW:=[(".0", .unset),("v", .unset),("u", .val (.int u))]) (out:=(aB 4).map λ(v:Nat)=>D.int (if(u:Int)=v then 1 else 0)) K' (t8 X K') (λJT fj Ly=>gH (aB 4) (λv=> .int v) (λ(v:Nat)=>D.int (if(u:Int)=v then 1 else 0)) (λv=>[(".0", .unset),("v", .val (.int v)),("u", .val (.int u))]) (λv hv=>cx fj) (λv hv=>?_) λv hv=>jS) kq (by simp)) (by unfold ny; rw[aM]; rfl)
   refine .eq (bS (gl fj (N9 X)) .type (a1 (cmp fj (nm fj) (nm fj) hZ)) EA) (by simp)
  ·rintro d r ⟨d2,rfl,a,rfl,rfl⟩
   refine⟨"kept",[("said", .val (.list (es.map uU))),("rel", .val (gA xc)),("kept", .val (.raw (.ref a))),("low", .unset),("sign", .unset),("high", .unset),("great", .unset),("a", .unset),("b", .unset),("bond", .unset),("x", .unset),("y", .unset)],
    [("said", .val (.list (es.map uU))),("rel", .val (gA xc)),("kept", .res true (eI a [])),("low", .unset),("sign", .unset),("high", .unset),("great", .unset),("a", .unset),("b", .unset),("bond", .unset),("x", .unset),("y", .unset)],iV K (cx K) (cx K), .tail _ (.tail _ (.head _)),kB,?_⟩
   refine mO K (jE K (nm K) bp) (Oc es a)
    ⟨es,xc,[],_,_,_,_,_,_,_,_,_,rfl,yI _,Oe,by simpa using hlen,rfl,rfl⟩ ?_ ?_
   ·rintro ρ ⟨pF,r,ks,b1,b2,b3,b4,b5,b6,b7,b8,b9,e1,w,e2,e4,e3,rfl⟩
    cases pF with
    |cons _ _=>exact nomatch e1
    |nil=>
     refine tX (x:= "kept") (a:=a) (ds:=ks.map .bool) ij kB ?_
     refine j6 (tup (ac (nm K) (a1 (nm K)))) ?_
     show D.tup _=D.tup _
     rw[e3]; rfl
   ·rintro x xs ρ ⟨pF,r,ks,b1,b2,b3,b4,b5,b6,b7,b8,b9,e1,w,e2,e4,e3,rfl⟩
    cases pF with
    |nil=>exact nomatch e1
    |cons e pF=>
     obtain⟨rfl,rfl⟩:x=uU e/\xs=pF.map uU:=by cases e1; exact⟨rfl,rfl⟩
     have eo:=e2 e (.head _)
     refine⟨_,JP K (cx K) (cx K) (cx K) (cx K),?_⟩
     have Of:∃a b eP,e.ends=(a,b,eP)/\a<4/\b<4/\(eP=1\/eP=2):=by
      unfold Ed.ends
      split
      ·exact⟨_,_,_,rfl,eo.low,eo.high, .inr rfl⟩
      ·split
       ·exact⟨_,_,_,rfl,eo.high,eo.low, .inr rfl⟩
       ·exact⟨_,_,_,rfl,eo.low,eo.high, .inl rfl⟩
     obtain⟨na,nb,eP,he,ha,hb,Og⟩:=Of
     refine let1 (d:= .tup [.int na, .int nb, .int eP]) (BI (knd:=strKind W.prog W.w) (λl:Str=> .str l) (λk v f h=>by obtain⟨t,rfl⟩:=h; exact beq_self_eq_true k) (HT:=aS Ig) (HU:=aS Ih) (HV:=aS Ii) (κ:=aS (mi e.sg)) (st Ig) (tup (ac (nm K) (ac (nm K) (a1 num)))) (st Ih) (tup (ac (nm K) (ac (nm K) (a1 num)))) (st Ii) (tup (ac (nm K) (ac (nm K) (a1 num)))) (nm K) (λu1 u2 u3=>?_)) (rU K (cx K) (cx K) (cx K)) ?_
     ·have hs3:e.sg=0\/e.sg=1\/e.sg=2:=by have:=eo.sg; exact Hx this
      unfold Ed.ends at he
      rcases hs3 with h0|h0|h0<;>rw[h0] at he ⊢<;>injection he with p1 p2<;>injection p2 with p2 p3<;>subst p1 p2 p3
      ·exact⟨u1,by kernel_rfl, .inl ⟨rfl,rfl⟩⟩
      ·exact⟨u2,by kernel_rfl, .inr (.inl ⟨rfl,rfl⟩)⟩
      ·exact⟨u3,by kernel_rfl, .inr (.inr ⟨rfl,rfl⟩)⟩
     ·have hk:ru (r,ks) e=(rV r e,ks++[eA r na nb eP]):=by unfold ru; rw[he]
      refine EU (d:= .bool (eA r na nb eP)) (ds:=ks.map .bool) K (vq (kO K (nm K) num hZ) (λh=> .eq (cmp K (ia K w (nm K) (nm K) (nm K) hb ha) num hZ) ?_) λh=> .eq (cmp K (bS (gl K (ly X)) .builtin (ac (ia K w (nm K) (nm K) (nm K) ha hb) (a1 (ia K w (nm K) (nm K) (nm K) hb ha))) (jR lv.hand)) num Bz) ?_) ?_ ?_
      ·have:eP=2:=by simpa using h
       unfold eA; rw[if_pos this]
      ·have:eP≠2:=by simpa using h
       unfold eA; rw[if_neg this]
      ·simp at e4 ⊢; exact aX 0x3f62540c010084308421084801 tt e4
      ·have hkb:(ks++[eA r na nb eP]).map D.bool=ks.map D.bool++[.bool (eA r na nb eP)]:=by simp
       have fin:∀ps:List (Nat×Nat),ps=(if eA r na nb eP then pairsOf na nb eP else[])->(∀p∈ps,p.1<4/\p.2<4):=by
        rintro ps rfl p hp
        split at hp
        ·unfold pairsOf at hp
         split at hp<;>simp at hp
         ·subst hp; exact⟨ha,hb⟩
         ·rcases hp with rfl|rfl
          ·exact⟨ha,hb⟩
          ·exact⟨hb,ha⟩
        ·exact nomatch hp
       obtain⟨ps,m9⟩:∃ps,ps=(if eA r na nb eP then pairsOf na nb eP else[]):=⟨_,rfl⟩
       have Xm:rV r e=ps.foldl (λr p=>c0 r p.1 p.2 eP) r:=by
        unfold rV; rw[he,m9]
        dsimp only
        split<;>rfl
       refine mO (xs:=ps.map λp=> .tup [.int p.1, .int p.2]) K (jE K ?_ bp) (Od es e r ks na nb eP a)
        ⟨ps,r,_,_,rfl,w,fin ps m9,Xm,rfl⟩ ?_ ?_
       ·have Oh:(ks.map D.bool++[D.bool (eA r na nb eP)])[(ks.map D.bool++[D.bool (eA r na nb eP)]).length-1]? =some (D.bool (eA r na nb eP)):=by simp
        refine vq (Ar K (yF K (a:=a) (ds:=ks.map D.bool++[D.bool (eA r na nb eP)]) (di:= .int (-1)) (d:= .bool (eA r na nb eP)) (λf o H=>(held (x:=J "kept") (w:=true) (r:=eI a (ks.map D.bool++[D.bool (eA r na nb eP)])) ij f o H).G7) (JN K) (neg K num w6) (vQ (k:=1) rfl (by decide) (by simp) (by simp[*]) Oh)) gz) (λh=> .eq (mM (ops:=λo i=>[i,o]) (lst (ac (tup (ac (nm K) (a1 (nm K)))) (a1 (tup (ac (nm K) (a1 (nm K))))))) w8 p0 (p1 (bin K num (nm K) gG)) p0 (by exact nofun) (by simp) (λ_ _=>rfl)) ?_) λh=> .eq (lst a0) ?_
        ·rw[m9,if_pos h]; unfold pairsOf
         rcases Og with rfl|rfl<;>rfl
        ·rw[m9,if_neg (by rw[h]; simp)]; rfl
       ·rintro ρ ⟨uV,r',ZK,ZL,f1,w',f2,f3,rfl⟩
        cases uV with
        |cons _ _=>exact nomatch f1
        |nil=>
         refine dh ⟨pF,r',ks++[eA r na nb eP], .val (.int e.low), .val (.str (aS (mi e.sg))), .val (.int e.high), .val (.int e.great), .val (.int na), .val (.int nb), .val (.int eP),ZK,ZL,rfl,w',λe he=>e2 e (.tail _ he),?_,?_,?_⟩
         ·simp at e4 ⊢; exact aX 0x3f62540c0100847ec483404201 tt e4
         ·rw[e3,ei,hk,f3]; rfl
         ·rw[hkb]
       ·rintro x xs ρ ⟨uV,r',ZK,ZL,f1,w',f2,f3,rfl⟩
        cases uV with
        |nil=>exact nomatch f1
        |cons p uV=>
         obtain⟨rfl,rfl⟩:x= .tup [.int p.1, .int p.2]/\xs=(uV.map λp=> .tup [.int p.1, .int p.2]):=by cases f1; exact⟨rfl,rfl⟩
         obtain⟨q1,q2⟩:=f2 p (.head _)
         refine⟨_,iV K (cx K) (cx K),?_⟩
         refine let1 (d:=gA (c0 r' p.1 p.2 eP)) ?_ (cx K) (dh ⟨uV,c0 r' p.1 p.2 eP,_,_,rfl,yI _,λp hp=>f2 p (.tail _ hp),f3,rfl⟩) (gW K ij)
         refine .eq (dY (eW:=[(".0", .unset),("u", .unset),("bond", .val (.int eP)),("rel", .val (gA r')),("x", .val (.int p.1)),("y", .val (.int p.2))]) (out:=(aB 4).map λ(u:Nat)=>ny ((aB 4).map λ(v:Nat)=>mP r' p.1 p.2 eP u v)) K (t8 X K) (λC' K' e'=>gH (aB 4) (λu=> .int u) (λu=>ny ((aB 4).map λ(v:Nat)=>mP r' p.1 p.2 eP u v))
          (λu=>[(".0", .unset),("u", .val (.int u)),("bond", .val (.int eP)),("rel", .val (gA r')),("x", .val (.int p.1)),("y", .val (.int p.2))]) (λu hu=>cx K') (λu hu=>?_) λu hu=>jS) kq (by simp)) (by unfold gA c0; rw[aM]; rfl)
         have yJ:u<4:=aW.mp hu
         refine .eq (dY (eW:=[(".0", .unset),("v", .unset),("bond", .val (.int eP)),("rel", .val (gA r')),("u", .val (.int u)),("x", .val (.int p.1)),("y", .val (.int p.2))]) (out:=(aB 4).map λ(v:Nat)=>D.int (mP r' p.1 p.2 eP u v)) K' (t8 X K') (λJT fj Ly=>gH (aB 4) (λv=> .int v) (λ(v:Nat)=>D.int (mP r' p.1 p.2 eP u v))
          (λv=>[(".0", .unset),("v", .val (.int v)),("bond", .val (.int eP)),("rel", .val (gA r')),("u", .val (.int u)),("x", .val (.int p.1)),("y", .val (.int p.2))]) (λv hv=>cx fj) (λv hv=>?_) λv hv=>jS) kq (by simp)) (by unfold ny; rw[aM]; rfl)
         have Ij:v<4:=aW.mp hv
         refine bS (gl fj (ly X)) .builtin (ac (ia fj w' (nm fj) (nm fj) (nm fj) yJ Ij) (a1 (vq (b:=decide (bF r' u p.1≠0/\bF r' p.2 v≠0)) (d:= .int (if bF r' u p.1≠0/\bF r' p.2 v≠0 then max (max (bF r' u p.1) eP) (bF r' p.2 v) else 0))
          (.eq (Ia (vn (Ar fj (ia fj w' (nm fj) (nm fj) (nm fj) yJ q1) w7) λ_=>vn (Ar fj (ia fj w' (nm fj) (nm fj) (nm fj) q2 Ij) w7) λ_=>EP)) ?_) (λh=> .eq (bS (gl fj (ly X)) .builtin (ac (ia fj w' (nm fj) (nm fj) (nm fj) yJ q1) (ac (nm fj) (a1 (ia fj w' (nm fj) (nm fj) (nm fj) q2 Ij)))) (EC fj.hand)) ?_) λh=> .eq num ?_))) (jR fj.hand)
         ·rw[oK]; simp
         ·rw[if_pos (of_decide_eq_true h)]
         ·rw[if_neg (of_decide_eq_false h)]
end
section
variable {W:Wd}{C:Cx}{ρ a9:Ro}{names:List (Str×aC)}{Q:Out->Prop}{f o:Fz}{s:Shared}
theorem cH.kept(X:cH W){v:Value}(e:keepIn (KK W) v=true):Kept W v:=λh hB=>keeps_K e h λa ob q=>hB _ _ (X.sj a ob q)
theorem eY.find{name:Str}:∀{fs:List (Str×D)} {es:List cz},eY f fs es->(∀d,fs.lookup name=some d->∃v,getL name es=some (some v)/\Den f d v)/\(fs.lookup name=aD->getL name es=some aD)/\es.any (·.refKey)=false
 |[],_,e=>by
  rw[show _=[] from e]
  exact⟨λd h=>by simp at h,λ_=>rfl,rfl⟩
 |(n,d0)::fs,_,⟨h,t,v,r,e,x,y⟩=>by
  obtain⟨i1,i2,i3⟩:=eY.find (name:=name) y
  subst e
  rw[eF]
  by_cases hn:name=n
  ·subst hn
   have hk:(⟨h, .str name t,v⟩:cz).key.isStr name=true:=by simp[sM]
   have hg:getL name (⟨h, .str name t,v⟩::r)=some (some v):=by unfold getL; rw[iN,hk]
   refine⟨λd hd=>?_,λhd=>?_,?_⟩
   ·simp at hd; subst hd; exact⟨v,hg,x⟩
   ·simp at hd
   ·rw[qU,i3]; rfl
  ·have hk:(⟨h, .str n t,v⟩:cz).key.isStr name=false:=by simp[sM]; exact λq=>hn q.symm
   have hb:(name==n)=false:=by simpa using hn
   have hg:getL name (⟨h, .str n t,v⟩::r)=getL name r:=by
    unfold getL; rw[iN,hk,qU]; rfl
   rw[hb,hg]
   exact⟨i1,i2,by rw[qU,i3]; rfl⟩
theorem Den.inst{Ca:Addr}{fs:List (Str×D)}{v:Value}(S:St W.B f o s)(h:Den f (.obj Ca fs) v):∃a dx es n,v= .ref a/\InstAt s.heap a (kc Ca dx) Ca (some (dictOf es n))/\eY f fs es:=
 let⟨a,dx,es,n,e,h1,h2,h3⟩:=h
 ⟨a,dx,es,n,e,⟨S.sub _ _ h1,rfl,rfl,S.sub _ _ h2⟩,h3⟩
theorem handed{d:D}{v:Value}(h:Den f d v)(hr:∀u,d≠ .raw u):A6 v=true:=by
 cases d with
 |none=>rw[show v= .none from h]; rfl
 |bool b=>rw[show v= .bool b from h]; rfl
 |int i=>obtain⟨t,rfl⟩:=h; rfl
 |str x=>obtain⟨t,rfl⟩:=h; rfl
 |list ds=>obtain⟨a,_,_,_,rfl,_⟩:=h; rfl
 |tup ds=>obtain⟨a,_,_,_,rfl,_⟩:=h; rfl
 |Bo a b=>obtain⟨r,_,_,_,rfl,_⟩:=h; rfl
 |raw u=>exact absurd rfl (hr u)
 |obj C fs=>obtain⟨a,_,_,_,rfl,_⟩:=h; rfl
theorem rv(X:cH W){Ca:Addr}{name:Str}{fs:List (Str×D)}{d:D}{attr:Option Value}(hg:Jt (KK W) Ca name=true)(hh:pj (KK W) Ca=true)(ha:findIn (KK W) (.ref Ca) name=some attr)(hn:noGet (KK W) attr=true)(hf:fs.lookup name=some d)(hr:autoParam (∀u,d≠ .raw u) Lq._auto_1):yf W (λv=>gn v name true) (.obj Ca fs) d:=λA f o s v r S hv Q E h=>by
 obtain⟨a,dx,es,n,rfl,I,hD⟩:=Den.inst S hv
 obtain⟨u,h1,h2⟩:=(hD.find (name:=name)).1 d hf
 exact get_value (X.sF S) I (rL hg).1 (xV hh ha hn h1) (handed h2 hr) (h _ f _ (.refl f) (S.tok _) h2)
theorem jG(X:cH W){Ca fn:Addr}{name:Str}{fs:List (Str×D)}(hg:Jt (KK W) Ca name=true)(hf:findIn (KK W) (.ref Ca) name=some (some (.ref fn)))(ht:isFn (KK W) (.ref fn)=true)(hl:fs.lookup name=aD):Meth W (.obj Ca fs) name (.ref fn):=λA f o s v pl S hv Q E h=>by
 obtain⟨a,dx,es,n,rfl,I,hD⟩:=Den.inst S hv
 have h1:=(hD.find (name:=name)).2.1 hl
 exact method_fn (X.sF S) I (rL hg).1 (rL hg).2 hf (beq_iff_eq.mp ht) (by show(lookIn name (dictOf es n)).map _=_; rw[lookIn_dict,h1]; rfl) h
theorem jV(K:CK C names){ob:Expr}{name:Str}{pos:Pos}{da d:D}(ho:VE W C ρ ob da)(hg:yf W (λv=>gn v name true) da d)
 (he:autoParam (eval (.Attribute ob name pos) C.env=(do
  let o <-eval ob C.env
  dE pos.atName
  let r <-holding [o] (gn o name true)
  A4 ob o r
  pure r)) fL._auto_1):VE W C ρ (.Attribute ob name pos) d:=ve (.attr K.ok ho.un hg he)
noncomputable def CU(raw:List Nat)(n nt:Int)(count:List Int)(trail:Int)(simple:Bool):D:= .obj 141 [("raw", .str (aS raw)),("n", .int n),("nt", .int nt),("norm", .tup [.tup (count.map .int), .int trail]),("is_simple", .bool simple)]
section
variable {raw:List Nat}{n nt trail:Int}{count:List Int}{simple:Bool}
theorem sH(X:cH W):yf W (λv=>gn v (J "norm") true) (CU raw n nt count trail simple) (.tup [.tup (count.map .int), .int trail]):=rv X (attr:=aD) (by kernel_rfl) (by kernel_rfl) (by kernel_rfl) rfl (by kernel_rfl)
theorem EX(X:cH W):yf W (λv=>gn v (J "nt") true) (CU raw n nt count trail simple) (.int nt):=rv X (attr:=aD) (by kernel_rfl) (by kernel_rfl) (by kernel_rfl) rfl (by kernel_rfl)
theorem Oi(X:cH W):yf W (λv=>gn v (J "n") true) (CU raw n nt count trail simple) (.int n):=rv X (attr:=aD) (by kernel_rfl) (by kernel_rfl) (by kernel_rfl) rfl (by kernel_rfl)
theorem Lz(X:cH W):yf W (λv=>gn v (J "raw") true) (CU raw n nt count trail simple) (.str (aS raw)):=rv X (attr:=aD) (by kernel_rfl) (by kernel_rfl) (by kernel_rfl) rfl (by kernel_rfl)
theorem v7(X:cH W):yf W (λv=>gn v (J "is_simple") true) (CU raw n nt count trail simple) (.bool simple):=rv X (attr:=aD) (by kernel_rfl) (by kernel_rfl) (by kernel_rfl) rfl (by kernel_rfl)
theorem Aw(X:cH W):Meth W (CU raw n nt count trail simple) (J "longest_run_of_spaces") (.ref 103):=jG X (by kernel_rfl) (by kernel_rfl) (by kernel_rfl) (by kernel_rfl)
theorem CV(X:cH W):Meth W (CU raw n nt count trail simple) (J "indent_level") (.ref 110):=jG X (by kernel_rfl) (by kernel_rfl) (by kernel_rfl) (by kernel_rfl)
end
end
noncomputable def oP(count:List Int)(trail:Int):Int:=max ((count.length:Int)-1) trail
noncomputable def yK(count:List Int)(ts:Nat):Int:=(bB ts (count.length-ts)).foldl (λ(il:Int) (i:Nat)=>il+((i:Int).fdiv ts)*count.getD i 0) 0
noncomputable def t9(count:List Int)(trail nt:Int)(ts:Nat):Int:=trail+ts*(yK count ts+nt)
section
variable {W:Wd}{C:Cx}{ρ a9:Ro}{names:List (Str×aC)}{Q:Out->Prop}{raw:List Nat}{n nt trail:Int}{count:List Int}{simple:Bool}
theorem ot:∀(n a:Nat),(uY (a:Int) n).map D.int=(bB a n).map λ(i:Nat)=>D.int i
 | 0,_=>rfl
 |n+1,a=>by
  rw[uY,sN,aO,aO]
  have:=ot n (a+1)
  push_cast at this
  rw[this]
theorem Xn(X:cH W){A:Around}(lv:Lv 1 A)(hc:count.length<=1000):iJ W A (.ref 103) [CU raw n nt count trail simple] (.int (oP count trail)):=by
 refine X.fn 103 (n:=0) (ps:=["self"]) (ρ:=[("self", .val (CU raw n nt count trail simple)),("count", .unset),("trailing", .unset)])
  (names:=[(J "self",ae),(J "count",ae),(J "trailing",ae),(J "max",ag),(J "len",ag)])
  lv ⟨_,rfl,rfl⟩ rfl (by kernel_rfl) rfl rfl (by kernel_rfl) rfl rfl rfl rfl rfl (by kernel_rfl) (by kernel_rfl) (Ao λa=>by kernel_rfl) ?_ (λC O lv hN sA=>?_)
 ·show kj [(_,_)] _ _
  exact qY
 ·have K:CK C _:=⟨O,lv.hand,hN⟩
  refine let1 (jV K (nm K) (sH X)) (iV K (cx K) (cx K)) ?_
  refine j6 (bS (gl K (ly X)) .builtin (ac (bin K (.eq (bS (gl K (jU X)) .builtin (a1 (nm K)) (yw (by simp; exact aN 0x3f6240085f495212a0201 tt hc))) rfl) num gG) (a1 (nm K))) (jR lv.hand)) ?_
  show D.int _=D.int _
  simp[oP]
inductive Oj(raw:List Nat)(n nt:Int)(count:List Int)(trail:Int)(simple:Bool)(ts:Nat)(xs:List D)(ρ:Ro):Prop
 |mk (is:List Nat) (il:Int) (b:Bd) (h1:xs=(is.map λ(i:Nat)=>D.int i)) (h2:(∀i∈is,i<count.length)) (h3:yK count ts=is.foldl (λ(il:Int) (i:Nat)=>il+((i:Int).fdiv ts)*count.getD i 0) il) (h4:ρ=([("self", .val (CU raw n nt count trail simple)),("tabsize", .val (.int ts)),("count", .val (.tup (count.map .int))),("trailing", .val (.int trail)),("il", .val (.int il)),("i",b)]:Ro)):Oj raw n nt count trail simple ts xs ρ
theorem Xo(X:cH W){A:Around}(lv:Lv 1 A)(hc:count.length<=1000){ts:Nat}(h1:0<ts)(h2:ts<=1000)(hcb:∀c∈count,c.natAbs<1000000)(ZM:(yK count ts+nt).natAbs<1000000):iJ W A (.ref 110) [CU raw n nt count trail simple, .int ts] (.int (t9 count trail nt ts)):=by
 refine X.fn 110 (n:=0) (ps:=["self","tabsize"]) (ρ:=[("self", .val (CU raw n nt count trail simple)),("tabsize", .val (.int ts)),("count", .unset),("trailing", .unset),("il", .unset),("i", .unset)])
  (names:=[(J "self",ae),(J "tabsize",ae),(J "count",ae),(J "trailing",ae),(J "il",ae),(J "i",ae),(J "range",ag),(J "len",ag)])
  lv ⟨_,rfl,rfl⟩ rfl (by kernel_rfl) rfl rfl (by kernel_rfl) rfl rfl rfl rfl rfl (by kernel_rfl) (by kernel_rfl) (tW λa b=>by kernel_rfl) ?_ (λC O lv hN sA=>?_)
 ·show kj [(_,_),(_,_)] _ _
  exact qY
 ·have K:CK C _:=⟨O,lv.hand,hN⟩
  refine let1 (jV K (nm K) (sH X)) (iV K (cx K) (cx K)) ?_
  refine let1 num (cx K) ?_
  have hr:(((count.map D.int).length:Int)-(ts:Int)).toNat=count.length-ts:=by simp
  refine mO (xs:=(bB ts (count.length-ts)).map λ(i:Nat)=>D.int i) K ?_ (Oj raw n nt count trail simple ts) ⟨bB ts (count.length-ts),0,_,rfl,?_,rfl,rfl⟩ ?_ ?_
  ·rw[<-ot,<-hr]
   exact jE K (bS (gl K (kr X)) .type (ac (nm K) (a1 (bS (gl K (jU X)) .builtin (a1 (nm K)) (yw (by simp; exact aN 0x3f6240085f495212a0201 tt hc))))) kJ) (mJ (by exact ew 291674669377 tt) (by exact ew 0x1fb120042fa4a9048101 tt h2) (by exact ew 291674669377 tt) (by simp; exact ew 0x1fb120042fa4a9048101 tt hc))
  ·intro i hi; have:=cR.mp hi; exact Ru this
  ·rintro ρ ⟨is,il,b,e1,e2,e3,rfl⟩
   cases is with
   |cons _ _=>exact nomatch e1
   |nil=>
    refine j6 (bin K (nm K) (bin K (nm K) (bin K (nm K) (jV K (nm K) (EX X)) cV) (tB ?_)) cV) ?_
    ·rw[e3] at ZM; exact ZM
    ·show D.int _=D.int _
     unfold t9; rw[e3]; rfl
  ·rintro x xs ρ ⟨is,il,b,e1,e2,e3,rfl⟩
   cases is with
   |nil=>exact nomatch e1
   |cons i is=>
    obtain⟨rfl,rfl⟩:x= .int i/\xs=(is.map λ(i:Nat)=>D.int i):=by cases e1; exact⟨rfl,rfl⟩
    have hi:=e2 i (.head _)
    have Xp:(count.map D.int)[i]? =some (.int (count.getD i 0)):=by
     rw[av,aj hi,ak,aj hi]; rfl
    refine⟨_,cx K,?_⟩
    refine let1 (bin K (nm K) (bin K (bin K (nm K) (nm K) (lK (by(first|lia|omega)) (by exact Rv h1 h2))) (dA (T:= "tuple") (da:= .tup (count.map .int)) (di:= .int i) K (nm K) (nm K) cu (fw Xp (by exact aX 0x28180423f6240085f495212a0601 tt hc hi))) (tB ?_)) cV) (cx K) (dh ⟨is,_,_,rfl,λj hj=>e2 j (.tail _ hj),e3,rfl⟩)
    refine hcb _ ?_
    rw[ak,aj hi]
    exact dg hi
end
structure iC where
 raw:List Nat
 n:Int
 nt:Int
 count:List Int
 trail:Int
 simple:Bool
noncomputable abbrev iC.D(w:iC):D:=CU w.raw w.n w.nt w.count w.trail w.simple
structure iC.Ok(w:iC):Prop where
 len:w.count.length<=100
 cs:∀c∈w.count,c.natAbs<1000000
 il:∀ts,0<ts->ts<=1000->(yK w.count ts+w.nt).natAbs<1000000
 tr:0<=w.trail
 Ik:w.trail<=100
noncomputable def iC.long(w:iC):Int:=oP w.count w.trail
noncomputable def iC.ind(w:iC)(ts:Nat):Int:=t9 w.count w.trail w.nt ts
theorem iC.Ok.long{w:iC}(h:w.Ok):0<=w.long/\w.long<=100:=by
 have h1:=h.len; have h2:=h.tr; have h3:=h.Ik
 unfold iC.long oP; exact Rw h1 h2 h3
noncomputable def sizesOf(a b:iC)(mj:Nat):List Nat:=bB mj ((max a.long b.long+2).toNat-mj)
noncomputable def mR(a b:iC)(ts:Nat):D:= .tup [.int ts, .int (a.ind ts), .int (b.ind ts)]
section
variable {W:Wd}{C:Cx}{ρ a9:Ro}{names:List (Str×aC)}{Q:Out->Prop}{a b:iC}
theorem oQ(X:cH W)(K:CK C names)(lv:Lv 1 C.A){w:iC}(hw:w.Ok){e:Expr}{p1 p2:Pos}(he:VE W C ρ e w.D)(hl:autoParam ((p1.endLine==p2.line)=true) vk._auto_1)(hb:autoParam (bx e (J "longest_run_of_spaces") C.env (eval e C.env)=eval e C.env) fL._auto_1):VE W C ρ (.Call (.Attribute e (J "longest_run_of_spaces") p1) [] [] p2) (.int w.long):=
 gg he (Aw X) (X.kept (by kernel_rfl)) a0 (Xn X lv (by have:=hw.len; exact aN 0x352400847ec4801 tt this)).un rfl (by decide) hl hb
theorem lN(X:cH W)(K:CK C names)(lv:Lv 1 C.A){w:iC}(hw:w.Ok){e Ol:Expr}{ts:Nat}{p1 p2:Pos}(h1:0<ts)(h2:ts<=1000)(he:VE W C ρ e w.D)(ht:VE W C ρ Ol (.int ts))(pd:autoParam (aI [Ol] C.env=(false,eval Ol C.env)::aI [] C.env) fL._auto_1)(hl:autoParam ((p1.endLine==p2.line)=true) vk._auto_1)(hb:autoParam (bx e (J "indent_level") C.env (eval e C.env)=eval e C.env) fL._auto_1)(hp:autoParam ((aI [Ol] C.env).all (λx=>!x.1)=true) fL._auto_1):
 VE W C ρ (.Call (.Attribute e (J "indent_level") p1) [Ol] [] p2) (.int (w.ind ts)):=
 gg he (CV X) (X.kept (by kernel_rfl)) (a1 ht pd) (Xo X lv (by have:=hw.len; exact aN 0x352400847ec4801 tt this) h1 h2 hw.cs (hw.il ts h1 h2)).un hp (by simp) hl hb
theorem Om(X:cH W){A:Around}(lv:Lv 1 A):iJ W A (.ref 117) [a.D,b.D] (.bool (decide (a.count=b.count/\a.trail=b.trail))):=by
 refine X.fn 117 (n:=0) (ps:=["self","other"]) (ρ:=[("self", .val a.D),("other", .val b.D)])
  (names:=[(J "self",ae),(J "other",ae)])
  lv ⟨_,rfl,rfl⟩ rfl (by kernel_rfl) rfl rfl (by kernel_rfl) rfl rfl rfl rfl rfl (by kernel_rfl) (by kernel_rfl) (tW λa b=>by kernel_rfl) ?_ (λC O lv hN sA=>?_)
 ·show kj [(_,_),(_,_)] _ _
  exact qY
 ·have K:CK C _:=⟨O,lv.hand,hN⟩
  refine j6 (cmp K (jV K (nm K) (sH X)) (jV K (nm K) (sH X)) (tC (n:=2) (b:=decide (a.count=b.count/\a.trail=b.trail)) ?_ ?_ (by decide))) rfl
  ·exact w0 (.tup (Zo λ_ _=> .int)) .int
  ·rw[decide_eq_true_iff]
   constructor
   ·rintro⟨h1,h2⟩; rw[h1,h2]
   ·intro h
    injection h with h
    injection h with h1 h2
    injection h2 with h2
    injection h2 with h2
    injection h1 with h1
    exact⟨DU (λx y e=>by injection e) |>.mp h1,h2⟩
theorem ua{eO:Expr}(X:cH W)(K:CK C names)(ha:a.Ok)(hb:b.Ok){k:Nat}(hk:k=1\/k=2){e1 e2:Expr}{p1 p2:Pos}(h1:VE W C ρ e1 (.int k))(h2:VE W C ρ e2 (.int (max a.long b.long+1+1)))(hg:(J "range",ag)∈names)(pd:autoParam (aI [e1,e2] C.env=(false,eval e1 C.env)::aI [e2] C.env) fL._auto_1)(LG:autoParam (aI [e2] C.env=(false,eval e2 C.env)::aI [] C.env) fL._auto_1)
 (hp:autoParam ((aI [e1,e2] C.env).all (λx=>!x.1)=true) fL._auto_1) (he:autoParam (eval (.Call (.Name (J "range") p1) [e1,e2] [] p2) C.env=(do fR p2 (<-eval (.Name (J "range") p1) C.env) [] (backTo p2 (aI [e1,e2] C.env)) (gp p2 (dG [] C.env)))) fL._auto_1):
 VI W C ρ eO (.Call (.Name (J "range") p1) [e1,e2] [] p2) ((sizesOf a b k).map λ(ts:Nat)=>D.int ts):=by
 have l1:=ha.long; have l2:=hb.long
 unfold sizesOf
 rw[<-ot,show(max a.long b.long+2).toNat-k=(max a.long b.long+1+1-(k:Int)).toNat by exact Rx l1 l2]
 exact jE K (bS (gl K (kr X) hg (by decide+kernel)) .type (ac h1 (a1 h2 LG) pd) kJ hp he) (mJ (by exact ew 291674669377 tt) (by exact Ry hk) (by exact Rz l1 l2) (by exact RA l1 l2))
theorem rx(ha:a.Ok)(hb:b.Ok){k:Nat}(hk:k=1\/k=2){ts:Nat}(h:ts∈sizesOf a b k):0<ts/\ts<=1000:=by
 have l1:=ha.long; have l2:=hb.long
 have:=cR.mp h
 exact RB hk l1 l2 this
noncomputable def pB(a b:iC):List Nat:=(sizesOf a b 1).filter λts=>decide (a.ind ts≠b.ind ts)
noncomputable def mm(a b:iC):List Nat:=(sizesOf a b 1).filter λts=>decide (b.ind ts<=a.ind ts)
inductive Oo(a b:iC)(q:Addr)(xs:List D)(ρ:Ro):Prop
 |mk (nK done:List Nat) (bt:Bd) (h1:xs=(nK.map λ(ts:Nat)=>D.int ts)) (h2:(∀ts∈nK,0<ts/\ts<=1000)) (h3:done.length+nK.length<=1000) (h4:pB a b=done++nK.filter (λts=>decide (a.ind ts≠b.ind ts))) (h5:ρ=([("self", .val a.D),("other", .val b.D),("n", .val (.int (max a.long b.long+1))),("a", .res true (eI q (done.map (mR a b)))),("ts",bt)]:Ro)):Oo a b q xs ρ
theorem Oq(X:cH W){A:Around}(lv:Lv 2 A)(ha:a.Ok)(hb:b.Ok):iJ W A (.ref 124) [a.D,b.D] (.list ((pB a b).map (mR a b))):=by
 refine X.fn 124 (n:=1) (ps:=["self","other"]) (ρ:=[("self", .val a.D),("other", .val b.D),("n", .unset),("a", .unset),("ts", .unset)])
  (names:=[(J "self",ae),(J "other",ae),(J "n",ae),(J "a",ae),(J "ts",ae),(J "max",ag),(J "range",ag)])
  lv ⟨_,rfl,rfl⟩ rfl (by kernel_rfl) rfl rfl (by kernel_rfl) rfl rfl rfl rfl rfl (by kernel_rfl) (by kernel_rfl) (tW λa b=>by kernel_rfl) ?_ (λC O lv hN sA=>?_)
 ·show kj [(_,_),(_,_)] _ _
  exact qY
 ·have K:CK C _:=⟨O,lv.hand,hN⟩
  have l1:=ha.long
  have l2:=hb.long
  refine let1 (bin K (bS (gl K (ly X)) .builtin (ac (oQ X K lv ha (nm K)) (a1 (oQ X K lv hb (nm K)))) (jR lv.hand)) num cV) (cx K) ?_
  refine Au K (sf a0) λq=>⟨_,kB,?_⟩
  refine mO K (ua X K ha hb (k:=1) (.inl rfl) num (bin K (nm K) num cV) ij) (Oo a b q) ⟨sizesOf a b 1,[],_,rfl,λts h=>rx ha hb (.inl rfl) h,?_,rfl,rfl⟩ ?_ ?_
  ·unfold sizesOf; simp; exact M5 l1 l2
  ·rintro ρ ⟨nK,done,bt,e1,e2,e3,e4,rfl⟩
   cases nK with
   |cons _ _=>exact nomatch e1
   |nil=>
    refine tX (x:= "a") (a:=q) (ds:=done.map (mR a b)) ij kB ?_
    refine j6 (nm K) ?_
    show D.list _=D.list _
    rw[e4]; simp
  ·rintro x xs ρ ⟨nK,done,bt,e1,e2,e3,e4,rfl⟩
   cases nK with
   |nil=>exact nomatch e1
   |cons ts nK=>
    obtain⟨rfl,rfl⟩:x= .int ts/\xs=(nK.map λ(ts:Nat)=>D.int ts):=by cases e1; exact⟨rfl,rfl⟩
    obtain⟨p1,p2⟩:=e2 ts (.head _)
    refine⟨_,cx K,?_⟩
    refine jw (b:=decide (a.ind ts≠b.ind ts)) (kO K (lN X K lv ha p1 p2 (nm K) (nm K)) (lN X K lv hb p1 p2 (nm K) (nm K)) (yu (n:=0) .int (by simp) (by decide))) (λh=>?_) λh=>?_
    ·refine EU (d:=mR a b ts) (ds:=done.map (mR a b)) K (tup (ac (nm K) (ac (lN X K lv ha p1 p2 (nm K) (nm K)) (a1 (lN X K lv hb p1 p2 (nm K) (nm K)))))) (by simp at e3 ⊢; exact aX 0x3f62540c010084308421084801 tt e3) ?_
     refine dh (dh ⟨nK,done++[ts], .val (.int ts),rfl,λt ht=>e2 t (.tail _ ht),by simp at e3 ⊢; exact aX 0x3f62540c0100847ec483404201 tt e3,?_,by simp⟩)
     rw[e4,eG,if_pos h]; simp
    ·refine dh (dh ⟨nK,done, .val (.int ts),rfl,λt ht=>e2 t (.tail _ ht),by simp at e3 ⊢; exact aX 0xfd895030040211fb1208201 tt e3,?_,rfl⟩)
     rw[e4,eG,if_neg (by rw[h]; simp)]
inductive Ot(a b:iC)(q:Addr)(xs:List D)(ρ:Ro):Prop
 |mk (nK done:List Nat) (bt:Bd) (h1:xs=(nK.map λ(ts:Nat)=>D.int ts)) (h2:(∀ts∈nK,0<ts/\ts<=1000)) (h3:done.length+nK.length<=1000) (h4:mm a b=done++nK.filter (λts=>decide (b.ind ts<=a.ind ts))) (h5:ρ=([("self", .val a.D),("other", .val b.D),("n", .val (.int (max a.long b.long+1))),("a", .res true (eI q (done.map (mR a b)))),("ts",bt)]:Ro)):Ot a b q xs ρ
theorem LH(X:cH W){A:Around}(lv:Lv 2 A)(ha:a.Ok)(hb:b.Ok):iJ W A (.ref 138) [a.D,b.D] (.list ((mm a b).map (mR a b))):=by
 refine X.fn 138 (n:=1) (ps:=["self","other"]) (ρ:=[("self", .val a.D),("other", .val b.D),("n", .unset),("a", .unset),("ts", .unset)])
  (names:=[(J "self",ae),(J "other",ae),(J "n",ae),(J "a",ae),(J "ts",ae),(J "max",ag),(J "range",ag)])
  lv ⟨_,rfl,rfl⟩ rfl (by kernel_rfl) rfl rfl (by kernel_rfl) rfl rfl rfl rfl rfl (by kernel_rfl) (by kernel_rfl) (tW λa b=>by kernel_rfl) ?_ (λC O lv hN sA=>?_)
 ·show kj [(_,_),(_,_)] _ _
  exact qY
 ·have K:CK C _:=⟨O,lv.hand,hN⟩
  have l1:=ha.long
  have l2:=hb.long
  refine let1 (bin K (bS (gl K (ly X)) .builtin (ac (oQ X K lv ha (nm K)) (a1 (oQ X K lv hb (nm K)))) (jR lv.hand)) num cV) (cx K) ?_
  refine Au K (sf a0) λq=>⟨_,kB,?_⟩
  refine mO K (ua X K ha hb (k:=1) (.inl rfl) num (bin K (nm K) num cV) ij) (Ot a b q) ⟨sizesOf a b 1,[],_,rfl,λts h=>rx ha hb (.inl rfl) h,?_,rfl,rfl⟩ ?_ ?_
  ·unfold sizesOf; simp; exact M5 l1 l2
  ·rintro ρ ⟨nK,done,bt,e1,e2,e3,e4,rfl⟩
   cases nK with
   |cons _ _=>exact nomatch e1
   |nil=>
    refine tX (x:= "a") (a:=q) (ds:=done.map (mR a b)) ij kB ?_
    refine j6 (nm K) ?_
    show D.list _=D.list _
    rw[e4]; simp
  ·rintro x xs ρ ⟨nK,done,bt,e1,e2,e3,e4,rfl⟩
   cases nK with
   |nil=>exact nomatch e1
   |cons ts nK=>
    obtain⟨rfl,rfl⟩:x= .int ts/\xs=(nK.map λ(ts:Nat)=>D.int ts):=by cases e1; exact⟨rfl,rfl⟩
    obtain⟨p1,p2⟩:=e2 ts (.head _)
    refine⟨_,cx K,?_⟩
    refine jw (b:=decide (b.ind ts<=a.ind ts)) (kO K (lN X K lv ha p1 p2 (nm K) (nm K)) (lN X K lv hb p1 p2 (nm K) (nm K)) vO) (λh=>?_) λh=>?_
    ·refine EU (d:=mR a b ts) (ds:=done.map (mR a b)) K (tup (ac (nm K) (ac (lN X K lv ha p1 p2 (nm K) (nm K)) (a1 (lN X K lv hb p1 p2 (nm K) (nm K)))))) (by simp at e3 ⊢; exact aX 0x3f62540c010084308421084801 tt e3) ?_
     refine dh (dh ⟨nK,done++[ts], .val (.int ts),rfl,λt ht=>e2 t (.tail _ ht),by simp at e3 ⊢; exact aX 0x3f62540c0100847ec483404201 tt e3,?_,by simp⟩)
     rw[e4,eG,if_pos h]; simp
    ·refine dh (dh ⟨nK,done, .val (.int ts),rfl,λt ht=>e2 t (.tail _ ht),by simp at e3 ⊢; exact aX 0xfd895030040211fb1208201 tt e3,?_,rfl⟩)
     rw[e4,eG,if_neg (by rw[h]; simp)]
noncomputable def eJ(a b:iC):Bool:=if b.n<=a.n then false else if a.simple&&b.simple then decide (a.nt<=b.nt) else(sizesOf a b 2).all λts=>decide (a.ind ts<b.ind ts)
inductive Ou(a b:iC)(xs:List D)(ρ:Ro):Prop
 |mk (nK:List Nat) (bt:Bd) (h1:xs=(nK.map λ(ts:Nat)=>D.int ts)) (h2:(∀ts∈nK,0<ts/\ts<=1000)) (h3:eJ a b=nK.all (λts=>decide (a.ind ts<b.ind ts))) (h4:ρ=([("self", .val a.D),("other", .val b.D),("n", .val (.int (max a.long b.long+1))),("ts",bt)]:Ro)):Ou a b xs ρ
theorem Ov(X:cH W){A:Around}(lv:Lv 2 A)(ha:a.Ok)(hb:b.Ok):iJ W A (.ref 131) [a.D,b.D] (.bool (eJ a b)):=by
 refine X.fn 131 (n:=1) (ps:=["self","other"]) (ρ:=[("self", .val a.D),("other", .val b.D),("n", .unset),("ts", .unset)])
  (names:=[(J "self",ae),(J "other",ae),(J "n",ae),(J "ts",ae),(J "max",ag),(J "range",ag)])
  lv ⟨_,rfl,rfl⟩ rfl (by kernel_rfl) rfl rfl (by kernel_rfl) rfl rfl rfl rfl rfl (by kernel_rfl) (by kernel_rfl) (tW λa b=>by kernel_rfl) ?_ (λC O lv hN sA=>?_)
 ·show kj [(_,_),(_,_)] _ _
  exact qY
 ·have K:CK C _:=⟨O,lv.hand,hN⟩
  have l1:=ha.long
  have l2:=hb.long
  refine jw (b:=decide (b.n<=a.n)) (kO K (jV K (nm K) (Oi X)) (jV K (nm K) (Oi X)) vO) (λh=>j6 JO ?_) λh=>dh ?_
  ·show D.bool _=D.bool _
   unfold eJ; rw[if_pos (of_decide_eq_true h)]
  have h0:eJ a b=if a.simple&&b.simple then decide (a.nt<=b.nt) else(sizesOf a b 2).all λts=>decide (a.ind ts<b.ind ts):=by
   unfold eJ; rw[if_neg (of_decide_eq_false h)]
  refine jw (b:=a.simple&&b.simple) (.eq (Ia (vn (Ar K (jV K (nm K) (v7 X)) gz) λ_=>vn (Ar K (jV K (nm K) (v7 X)) gz) λ_=>EP)) (by simp)) (λh=>j6 (cmp K (jV K (nm K) (EX X)) (jV K (nm K) (EX X)) JK) ?_) λh=>dh ?_
  ·show D.bool _=D.bool _
   rw[h0,if_pos h]
  have h1:eJ a b=(sizesOf a b 2).all λts=>decide (a.ind ts<b.ind ts):=by rw[h0,if_neg (by rw[h]; simp)]
  refine let1 (bin K (bS (gl K (ly X)) .builtin (ac (oQ X K lv ha (nm K)) (a1 (oQ X K lv hb (nm K)))) (jR lv.hand)) num cV) (cx K) ?_
  refine mO K (ua X K ha hb (k:=2) (.inr rfl) num (bin K (nm K) num cV) ij) (Ou a b) ⟨sizesOf a b 2,_,rfl,λts h=>rx ha hb (.inr rfl) h,h1,rfl⟩ ?_ ?_
  ·rintro ρ ⟨nK,bt,e1,e2,e4,rfl⟩
   cases nK with
   |cons _ _=>exact nomatch e1
   |nil=>exact j6 JO (by show D.bool _=D.bool _; rw[e4]; rfl)
  ·rintro x xs ρ ⟨nK,bt,e1,e2,e4,rfl⟩
   cases nK with
   |nil=>exact nomatch e1
   |cons ts nK=>
    obtain⟨rfl,rfl⟩:x= .int ts/\xs=(nK.map λ(ts:Nat)=>D.int ts):=by cases e1; exact⟨rfl,rfl⟩
    obtain⟨p1,p2⟩:=e2 ts (.head _)
    refine⟨_,cx K,?_⟩
    refine jw (b:=decide (b.ind ts<=a.ind ts)) (kO K (lN X K lv ha p1 p2 (nm K) (nm K)) (lN X K lv hb p1 p2 (nm K) (nm K)) vO) (λh=>j6 JO ?_) λh=>?_
    ·show D.bool _=D.bool _
     rw[e4,c9,decide_eq_false (by have:=of_decide_eq_true h; exact RC this)]; rfl
    ·refine dh (dh ⟨nK, .val (.int ts),rfl,λt ht=>e2 t (.tail _ ht),?_,rfl⟩)
     rw[e4,c9,decide_eq_true (by have:=of_decide_eq_false h; exact RD this)]; rfl
end
section
variable {W:Wd}{C:Cx}{ρ a9:Ro}{names:List (Str×aC)}{Q:Out->Prop}{f o:Fz}{s:Shared}
theorem EY{K:Frag}{A:Around}{x dx Ca:Addr}{es:List cz}{n:Nat}{name:Str}{v:Value}{E:Value->Shared->Prop}{Q:Unit->Shared->Prop}(X:K.In s.heap)(I:InstAt s.heap x (kc Ca dx) Ca (some (dictOf es n)))
 (hs:findIn K (.ref Ca) "__setattr__" =some (some (.builtin "object.__setattr__"))) (hp:DP K Ca=true) (ht:pY K Ca name=some aD) (hh:pj K Ca=true) (hl:es.any (·.refKey)=false)
 (hz:(putL name (du W.w.params name) (.str name (s.toks+1)) v es).length<=1000)
 (h:∀h',h'.get? dx=some (dictOf (putL name (du W.w.params name) (.str name (s.toks+1)) v es) (putN name es n))->ft dx s.heap h'->Q () {s with heap:=h',toks:=s.toks+2}):
 wpAny W.M A (setAttr (.ref x) name v) Q E s:=by
 refine set_plain X I hs (osa_open (s:={s with toks:=s.toks+1}) X I hp ht λb=>?_)
 obtain⟨cd,hc,G9⟩:=any_some hh
 have Dd:s.heap.get? dx=some (dictOf es n):=I.dict
 refine aa (ao (aa (aa (gJ I.at_ (aa (xU X hc _ _ _ _ (λ_ _ e=>e) ?_))))))
 rw[G9]
 refine ao (a:=some dx) (aa (ao (aa ?_)))
 unfold nsSet
 refine aa (aa (pf (ao (aa (pX (aa (gJ Dd ?_)))))))
 have D':(s.heap.update dx (Dw name (du W.w.params name) (.str name (s.toks+1)) v)).get? dx=some (dictOf (putL name (du W.w.params name) (.str name (s.toks+1)) v es) (putN name es n)):=by
  rw[bK _ Dd (by rw[mz]; rfl),mz]
 have c:(!es.toArray.any (·.key.isStr name)&&es.toArray.any (·.refKey))=false:=by
  rw[show es.toArray.any (·.refKey)=false by simpa using hl,pE]
 rw[show(dictOf es n).data= .dict es.toArray n from rfl]
 dsimp only
 rw[p7,c]
 refine xA Dd ?_
 refine aa (xC D' (xE (by rw[fe,bu]; exact aN 0xfd890021a06108421094001 tt hz)) ?_)
 exact ao (h _ D' (dR ..))
noncomputable def ry(name:Str)(d:D):List (Str×D)->List (Str×D)
 |[]=>[(name,d)]
 |(n,e)::r=>if n=name then(n,d)::r else(n,e)::ry name d r
theorem eY.put{name:Str}{hsh:Int}{t:Tok}{v:Value}{d:D}(hv:Den f d v):∀{fs:List (Str×D)} {es:List cz},eY f fs es->eY f (ry name d fs) (putL name hsh (.str name t) v es)
 |[],_,e=>by
  rw[show _=[] from e]
  exact⟨_,_,_,_,rfl,hv,rfl⟩
 |(n,d0)::fs,_,⟨h,t',v',r,e,x,y⟩=>by
  subst e
  unfold ry putL
  by_cases hn:n=name
  ·have hk:(⟨h, .str n t',v'⟩:cz).key.isStr name=true:=by simp[sM,hn]
   rw[if_pos hn,if_pos hk]
   exact⟨_,_,_,_,rfl,hv,y⟩
  ·have hk:(⟨h, .str n t',v'⟩:cz).key.isStr name=false:=by simpa [sM] using hn
   rw[if_neg hn,hk]
   exact⟨_,_,_,_,rfl,x,eY.put hv y⟩
theorem eY.len:∀{fs:List (Str×D)} {es:List cz},eY f fs es->es.length=fs.length
 |[],_,e=>by rw[show _=[] from e]; rfl
 |_::_,_,⟨_,_,_,_,e,_,y⟩=>by rw[e,aQ,aQ,eY.len y]
noncomputable def gX(x dx Ca:Addr)(fs:List (Str×D)):Res where
 v:= .ref x
 as:=[dx]
 P:=λf o=>f x=some (kc Ca dx)/\∃es n,o dx=some (dictOf es n)/\eY f fs es
 mono:=λf f' o o' h ho ⟨a,es,n,e,q⟩=>⟨h _ _ a,es,n,ho dx (.head _) _ e,q.mono h⟩
 there:=λf o ⟨_,_,_,e,_⟩ a ha=>by rcases aA.mp ha with rfl; exact⟨_,e⟩
theorem jO.attr(X:cH W)(O:C.Ok){self attr:Str}{x dx Ca:Addr}{fs:List (Str×D)}{d:D}{p1 pos:Pos}(hm:(self,Bd.res true (gX x dx Ca fs))∈ρ)(aU:Ro.Set self (.res true (gX x dx Ca (ry attr d fs))) ρ a9)
 (h1:(self==("__debug__" :Str))=false) (h2:(self==("__classdict__" :Str))=false)
 (hs:findIn (KK W) (.ref Ca) "__setattr__" =some (some (.builtin "object.__setattr__"))) (hp:DP (KK W) Ca=true) (ht:pY (KK W) Ca attr=some aD) (hh:pj (KK W) Ca=true) (hz:(ry attr d fs).length<=1000):
 jO W C ρ (.Attribute (.Name self p1) attr pos) d a9:=⟨⟨rh aU hm (λ_ h=>h),aU.keys⟩,λf o s v S H hd Q E h=>by
 rw[xG]
 refine aa (aL (eg.tw O hm h1 h2 f o s S H _ _ λu f1 s1 l1 S1 d1=>aa (aZ (aa (aL ?_)))))
 obtain rfl:u= .ref x:=d1
 obtain⟨a1,es,n,a2,a3⟩:(gX x dx Ca fs).P f1 o:=held hm f1 o (H.mono l1 (.refl o))
 have I:InstAt s1.heap x (kc Ca dx) Ca (some (dictOf es n)):=⟨S1.sub _ _ a1,rfl,rfl,S1.own _ _ a2⟩
 have EZ:=hd.mono l1
 refine EY (X.sF S1) I hs hp ht hh (a3.find (name:=attr)).2.2 (by rw[(eY.put EZ a3).len]; exact hz) λh' g1 g2=>?_
 have S2:=(S1.tok (s1.toks+2)).same a2 g2 g1
 refine A0 (h f1 _ _ (Left.change (o':=o.put dx _) H hm aU rfl (λ_ h=> .inl h) l1 S2 ⟨a1,_,_,Fz.aJ ..,eY.put EZ a3⟩ λb y e hb=>?_))
 rw[Fz.az (λq=>hb (by subst q; exact .head _))]; exact e⟩
noncomputable def E0(self:Str)(x dx Ca:Addr)(fs:List (Str×D)):Out->Prop
 | .next a9=>(self,Bd.res true (gX x dx Ca fs))∈a9
 |_=>False
theorem cH.make(X:cH W)(Ca a:Addr){A:Around}{n:Nat}{self:Str}{ps:List Str}{ds:List D}{fs:List (Str×D)}{ρ:Addr->Ro}{a9:Addr->Addr->Ro}{names:List (Str×aC)}{keys:List Str}(lv:Lv (n+2) A)
 (Xq:makesIn (KK W) Ca=true) (Ha:findIn (KK W) (.ref Ca) "__init__" =some (some (.ref a))) (Xr:typeIn (KK W) (.ref a)=some (.type "function"))
 (yD:∃ob,(KK W).lookup a=some ob/\ob.data= .func (cm (KK W) a)) (ip:(cm (KK W) a).body= .stmts (cj (KK W) a)) (lx:codeIn (KK W) (cm (KK W) a).code (cm (KK W) a).qualname=true) (n0:(cm (KK W) a).closure=[])
 (fx:(cm (KK W) a).scope.names=names) (j4:decide (names.map (·.1)).Nodup=true) (hk:(cm (KK W) a).scope.kind= .function) (hg:(cm (KK W) a).globals=bV) (hb:(cm (KK W) a).builtins=cP)
 (wZ:(cm (KK W) a).scope.isCoroutine=false) (n7:(cm (KK W) a).scope.isGenerator=false) (m9:decide (self::ps).Nodup=true)
 (Af:((self::ps).all λp=>names.lookup p==some .local||names.lookup p==some .cell)=true)
 (jP:∀vs:List Value,vs.length=(D.none::ds).length->eQ (cm (KK W) a) ⟨vs,[]⟩=pure ((self::ps).zip vs)) (hp:∀x,kj ((self::ps).zip (.raw (.ref x)::ds)) names (ρ x))
 (Ow:∀x,(ρ x).map (·.1)=keys) (Ox:(keys.all λn=>names.any λp=>p.1==n&&p.2 != .free&&p.2 != .cell)=true) (JU:∀x,(ρ x).all (λp=>match p.2 with| .res _ _=>false|_=>true)=true)
 (aU:∀x dx,Ro.Set self (.res true (gX x dx Ca [])) (ρ x) (a9 x dx)) (LI:∀x,(self,Bd.val (.raw (.ref x)))∈ρ x)
 (h:∀x dx,∀C:Cx,C.Ok->Lv n C.A->C.names=names->C.env.scope=(cm (KK W) a).scope->VS W C (a9 x dx) (cj (KK W) a) (E0 self x dx Ca fs)):iJ W A (.ref Ca) ds (.obj Ca fs):=by
 refine Ap λf o s vs S hd Q E hQ=>?_
 obtain⟨ob,h1,h2⟩:=yD
 have Y:=makes_of (M:=W.M) (X.sF S) Xq
 have S1:St W.B f (o.put s.heap.objs.size (dictOf [] 0)) {s with heap:=s.heap.push (dictOf [] 0)}:=S.gV (dictOf [] 0)
 have S2:=S1.ju (kc Ca s.heap.objs.size)
 have LJ:Lv (n+1) (A.under (.builtin "type.__call__" ⟨.ref Ca::vs,[]⟩)):=by
  have e:(A.under (.builtin "type.__call__" ⟨.ref Ca::vs,[]⟩)).units<=A.units+10:=by
   first
    |exact gx (n:=A.units) (k:=10)
    |exact cB (n:=1) (m:=10) (by simp[*]) A.units
    |exact cB (n:=2) (m:=10) (by(first|lia|omega)) A.units
    |exact cB (n:=3) (m:=10) (by(first|lia|omega)) A.units
  exact⟨by have:=lv.depth; show A.depth+1+4*(n+1)<=600; exact aX 0xab8954302441008455c4a818123404201 tt this,by have:=lv.units; exact cG 0x1bde12a8a0a886010f43000421bde12a0a0a88201 tt e this,lv.hand⟩
 have fB:(s.heap.push (dictOf [] 0)).objs.size=s.heap.objs.size+1:=by simp[Hn]
 refine fQ (make_core (init:= .ref a) Y (hF (X.sF S) Ha) (λself=>bind_fn (X.sF S) self Xr) (.inl (by exact rfl)) ?_)
 refine Bt (ps:=self::ps) (ds:= .raw (.ref (s.heap.objs.size+1))::ds) (X.sj _ _ h1) h2 (λh hB=>A9 (K:=KK W) (λb x e=>hB _ _ (X.sj _ _ e)) lx) ip n0 ?_ (λvs hv=>jP vs hv) (by rw[fx]; exact hp _) (of_decide_eq_true m9) (by rw[fx]; exact of_decide_eq_true j4) ?_ hk hg hb ?_ wZ n7 S2 ⟨_,_,rfl,rfl,hd.mono ?_⟩ ?_
 ·show A.depth+1<1000
  have:=lv.depth; exact aX 0xab895430244100847ec4a9404201 tt this
 ·intro p Lm
  rw[fx]
  have:=aT.mp Af p Lm
  rcases iO _ _▸this with e|e
  ·exact .inl (lookup_mem (by simpa using e))
  ·exact .inr (lookup_mem (by simpa using e))
 ·exact λenv=>(LJ.deeper env).rm
 ·exact Fz.bP S1.gQ
 ·intro env dr cU lo jf H sA hm
  have hx:f.put (s.heap.push (dictOf [] 0)).objs.size (kc Ca s.heap.objs.size) (s.heap.objs.size+1)=some (kc Ca s.heap.objs.size):=by rw[<-fB]; exact Fz.aJ ..
  have yL:dr s.heap.objs.size=some (dictOf [] 0):=lo _ _ (Fz.aJ ..)
  have Ok:=H.ok
  have nu:¬Uses ⟨env,(A.under (.builtin "type.__call__" ⟨.ref Ca::vs,[]⟩)).deeper env,(cm (KK W) a).scope.names⟩ (ρ (s.heap.objs.size+1)) s.heap.objs.size:=by
   intro hu
   rcases hu with(hu|⟨m,hu,E1,_⟩)|⟨m,u,r,hu,_⟩
   ·have:=hm _ (.inl hu); rw[Fz.aJ] at this; exact nomatch this
   ·rw[Ow] at hu
    obtain⟨⟨m',k⟩,u4,DL⟩:=Hm.mp (aT.mp Ox m hu)
    simp only[cq,beq_iff_eq,bne_iff_ne] at DL
    obtain⟨⟨e1,e2⟩,e3⟩:=DL
    subst e1
    have:=Ok.kinds _ _ (by rw[fx]; exact u4) e2
    rw[this] at E1
    rcases E1 with q|q
    ·exact e3 (cg q)
    ·exact e2 (cg q)
   ·have:=aT.mp (JU _) _ hu
    exact nomatch this
  have H':=H.adopt (aU (s.heap.objs.size+1) s.heap.objs.size) (LI _) ⟨hx,[],0,yL,rfl⟩ (λb hb=>by rcases aA.mp hb with rfl; exact nu)
  refine(h (s.heap.objs.size+1) s.heap.objs.size _ Ok (LJ.deeper env) fx sA).un _ _ _ jf H' _ _ λu fl s' hq ho=>?_
  cases u with
  |next bZ=>
   obtain⟨rfl,f',o',L⟩:=ho
   obtain⟨p1,es,nn,p2,p3⟩:(gX (s.heap.objs.size+1) s.heap.objs.size Ca fs).P f' o':=held hq f' o' L.env
   have SF:=L.st.freeze p2
   have hle:f'.le (f'.put s.heap.objs.size (dictOf es nn)):=Fz.bP (L.st.fu p2)
   have G5:o s.heap.objs.size=none:=S.eZ
   refine⟨rfl,hQ _ _ s' ((Fz.bP S1.gQ).trans (L.le.trans hle)) (SF.drop ?_) ⟨_,_,es,nn,rfl,hle _ _ p1,Fz.aJ ..,p3.mono hle⟩⟩
   intro b y e
   have hb:b≠s.heap.objs.size:=λq=>by subst q; exact iB G5 e
   have e1:dr b=some y:=lo _ _ (by rw[Fz.az hb]; exact e)
   have e2:o' b=some y:=L.step b y e1 λq=>by
    have qW:∀c,pq ⟨env,(A.under (.builtin "type.__call__" ⟨.ref Ca::vs,[]⟩)).deeper env,(cm (KK W) a).scope.names⟩ (ρ (s.heap.objs.size+1)) c->c=b->False:=λc hc e'=>by
     subst e'
     have:=hm _ hc
     rw[Fz.az hb,e] at this; exact nomatch this
    rcases q with q|⟨m,q1,q2,q3⟩|⟨m,r,q1,q2⟩
    ·exact qW b (.inl q) rfl
    ·exact qW b (.inr (.inl ⟨m,q1,(aU _ _).keys▸q2,q3⟩)) rfl
    ·rcases(aU _ _).mem H.nd q1 with⟨_,q⟩|⟨_,q⟩
     ·cases q; exact hb (aA.mp q2)
     ·have:=aT.mp (JU _) _ q
      exact nomatch this
   unfold Fz.del; rw[if_neg hb]; exact e2
  |ret _=>exact hq.elim
  |brk _=>exact hq.elim
  |cont _=>exact hq.elim
end
section
variable {W:Wd}{C:Cx}{ρ a9 bD bZ qv:Ro}{names:List (Str×aC)}{Q:Out->Prop}{f o:Fz}{s:Shared}
theorem Oy(X:cH W)(K:CK C names){self name:Str}{x dx Ca:Addr}{fs:List (Str×D)}{d:D}{attr:Option Value}{p1 pos:Pos}(hg:Jt (KK W) Ca name=true)(hh:pj (KK W) Ca=true)(ha:findIn (KK W) (.ref Ca) name=some attr)(hn:noGet (KK W) attr=true)(hf:fs.lookup name=some d)
 (hm:autoParam ((self,Bd.res true (gX x dx Ca fs))∈ρ) vm._auto_1) (h1:autoParam ((self==("__debug__" :Str))=false) sG._auto_1) (h2:autoParam ((self==("__classdict__" :Str))=false) sG._auto_1) (hr:autoParam (∀u,d≠ .raw u) Lq._auto_1)
 (he:autoParam (eval (.Attribute (.Name self p1) name pos) C.env=(do
  let o <-eval (.Name self p1) C.env
  dE pos.atName
  let r <-holding [o] (gn o name true)
  A4 (.Name self p1) o r
  pure r)) fL._auto_1):VE W C ρ (.Attribute (.Name self p1) name pos) d:=ve λf o s S H Q E h=>by
 refine Bl (eg.tw K.ok hm h1 h2 f o s S H _ _ λv f1 s1 l1 S1 d1=>?_) he
 obtain rfl:v= .ref x:=d1
 obtain⟨a1,es,n,a2,a3⟩:(gX x dx Ca fs).P f1 o:=held hm f1 o (H.mono l1 (.refl o))
 have I:InstAt s1.heap x (kc Ca dx) Ca (some (dictOf es n)):=⟨S1.sub _ _ a1,rfl,rfl,S1.own _ _ a2⟩
 obtain⟨u,h3,h4⟩:=(a3.find (name:=name)).1 d hf
 exact get_value (X.sF S1) I (rL hg).1 (xV hh ha hn h3) (handed h4 hr) (h u f1 _ l1 (S1.tok _) h4)
theorem E2(X:cH W){Ca:Addr}{mc v:Value}{name:Str}{d:D}(hr:readsIn (KK W) Ca mc=true)(e:findCls (KK W) (.ref Ca) mc name=some (.val v))(hh:A6 v=true)(hd:∀f,Den f d v):yf W (λv=>gn v name true) (.raw (.ref Ca)) d:=λA f o s u r S hv Q E h=>by
 obtain rfl:u= .ref Ca:=hv
 exact cls_value (X.sF S) hr e hh (h v f _ (.refl f) (S.tok _) (hd f))
theorem Oz(X:cH W)(K:CK C names){self attr:Str}{x dx Ca:Addr}{fs:List (Str×D)}{d:D}{p1 pos:Pos}
 (hs:findIn (KK W) (.ref Ca) "__setattr__" =some (some (.builtin "object.__setattr__"))) (hp:DP (KK W) Ca=true) (ht:pY (KK W) Ca attr=some aD) (hh:pj (KK W) Ca=true) (hz:(ry attr d fs).length<=1000)
 (hm:autoParam ((self,Bd.res true (gX x dx Ca fs))∈ρ) vm._auto_1) (aU:autoParam (Ro.Set self (.res true (gX x dx Ca (ry attr d fs))) ρ a9) H9._auto_1)
 (h1:autoParam ((self==("__debug__" :Str))=false) sG._auto_1) (h2:autoParam ((self==("__classdict__" :Str))=false) sG._auto_1):VT W C ρ (.Attribute (.Name self p1) attr pos) d a9:=vt (.attr X K.ok hm aU h1 h2 hs hp ht hh hz)
theorem E3{t1 t2 t3 e:Expr}{pos:Pos}{rest:List Stmt}{d:D}(he:VE W C ρ e d)(x1:VT W C ρ t1 d bD)(x2:VT W C bD t2 d bZ)(x3:VT W C bZ t3 d qv)(h:VS W C qv rest Q)(hs:autoParam (fI [t1,t2,t3] e pos.line C.env=pure false) fL._auto_1)(hw:autoParam (cS [t1,t2,t3] e C.env=pure aD) fL._auto_1)
 (ha:autoParam ((bk [t1,t2,t3] C.env).map (·.2)=[t1,t2,t3].map λt=>bE t C.env) fL._auto_1):VS W C ρ (.Assign [t1,t2,t3] e pos::rest) Q:=vs (.HM he.un (.cons x1.un (.cons x2.un (.one x3.un))) h.un hs hw ha)
theorem OA{ob i e:Expr}{a:Addr}{p pos:Pos}{rest:List Stmt}{d:D}{ds:List D}{x:Str}{k:Nat}(CL:VE W C ρ ob (.raw (.ref a)))(hi:VE W C ρ i (.int k))(he:VE W C ρ e d)(hm:(x,Bd.res true (o9 a ds))∈ρ)(hk:k<ds.length)(fB:ds.length<=16777216)
 (iq:VS W C a9 rest Q) (aU:autoParam (Ro.Set x (.res true (o9 a (ds.set k d))) ρ a9) H9._auto_1) (hs:autoParam (gj e (some (.Subscript ob i p)) pos.line C.env=pure false) fL._auto_1):VS W C ρ (.Assign [.Subscript ob i p] e pos::rest) Q:=vs (.WK CL.un hi.un he.un hm hk fB aU iq.un hs)
end
noncomputable def bump(c:List Int)(b:Nat):List Int:=(if c.length<=b then c++bf (b-c.length+1) 0 else c).set b ((if c.length<=b then c++bf (b-c.length+1) 0 else c).getD b 0+1)
structure Run where
 b:Nat
 n:Nat
 nt:Nat
 c:List Int
noncomputable def Run.go:List Nat->Run->Run
 |[],q=>q
 |x::r,q=>if x=32 then Run.go r ⟨q.b+1,q.n+1,q.nt,q.c⟩ else if x=9 then Run.go r ⟨0,q.n+1,q.nt+1,bump q.c q.b⟩ else q
noncomputable def Run.of(raw:List Nat):Run:=Run.go raw ⟨0,0,0,[]⟩
noncomputable def yM(raw:List Nat):iC:=⟨raw,(Run.of raw).n,(Run.of raw).nt,(Run.of raw).c,(Run.of raw).b,decide ((Run.of raw).c.length<=1)⟩
theorem yN(c:List Int)(b:Nat):(bump c b).length=max c.length (b+1):=by
 unfold bump
 rw[List.length_set]
 split
 ·rw[a8,bA]; exact RE ‹_›
 ·exact RF ‹_›
section
variable {W:Wd}{C:Cx}{ρ a9 bD bZ qv:Ro}{names:List (Str×aC)}{Q:Out->Prop}
theorem ku(X:cH W):cK W (J "Whitespace") (.ref 141):=X.glob (by kernel_rfl)
theorem wS(X:cH W):yf W (λv=>gn v (J "S") true) (.raw (.ref 141)) (.str (aS [32])):=E2 (mc:= .type "type") (v:= .str (J " ") _) X (by kernel_rfl) rfl rfl λf=>⟨_,rfl⟩
theorem wT(X:cH W):yf W (λv=>gn v (J "T") true) (.raw (.ref 141)) (.str (aS [9])):=E2 (mc:= .type "type") (v:= .str (J "\t") _) X (by kernel_rfl) rfl rfl λf=>⟨_,rfl⟩
theorem E4{ss:List Stmt}{x:Str}{a:Addr}{ds:List D}(hm:(x,Bd.res true (eI a ds))∈ρ)(aU:Ro.Set x (.res true (o9 a ds)) ρ a9)(h:VS W C a9 ss Q):VS W C ρ ss Q:=vs (.loose hm aU h.un)
theorem oy(name:Str)(d:D):∀fs:List (Str×D),(ry name d fs).length<=fs.length+1
 |[]=>by simp[ry]
 |(n,e)::r=>by
  unfold ry
  split
  ·simp
  ·have:=oy name d r
   simp only[aQ]; exact aX 0x503000434a0610a0201 tt this
theorem Ax(X:cH W)(K:CK C names){self attr:Str}{x dx Ca:Addr}{fs:List (Str×D)}{d:D}{p1 pos:Pos}
 (hm:autoParam ((self,Bd.res true (gX x dx Ca fs))∈ρ) vm._auto_1) (aU:autoParam (Ro.Set self (.res true (gX x dx Ca (ry attr d fs))) ρ a9) H9._auto_1)
 (h1:autoParam ((self==("__debug__" :Str))=false) sG._auto_1) (h2:autoParam ((self==("__classdict__" :Str))=false) sG._auto_1)
 (hs:autoParam (findIn (KK W) (.ref Ca) "__setattr__" =some (some (.builtin "object.__setattr__"))) H6._auto_1) (hp:autoParam (DP (KK W) Ca=true) H6._auto_1) (ht:autoParam (pY (KK W) Ca attr=some aD) H6._auto_1) (hh:autoParam (pj (KK W) Ca=true) H6._auto_1)
 (hz:autoParam (Nat.ble (fs.length+1) 1000=true) fL._auto_1):VT W C ρ (.Attribute (.Name self p1) attr pos) d a9:=Oz X K hs hp ht hh (aP (oy ..) (Ct hz)) hm aU h1 h2
theorem OB(K:CK C names){x y:Str}{kx ky:aC}{dx dy:D}(h1:Ro.Set y (.val dy) ρ bD)(h2:Ro.Set x (.val dx) bD bZ)(hx:(x,kx)∈names)(hy:(y,ky)∈names)(hkx:(kx== .local||kx== .cell)=true)(Ox:(ky== .local||ky== .cell)=true):n8 C ρ [y,x] [dy,dx] bZ:=
 .cons (K.eq▸hy) Ox h1 (.cons (K.eq▸hx) hkx h2 .nil)
theorem E5(n:Nat)(d:D):(rq n [d]).length=n:=by unfold rq; simp
theorem E6(n:Nat):rq n [.int 0]=(bf n (0:Int)).map D.int:=by unfold rq; induction n with
 |zero=>rfl
 |succ n ih=>rw[bM,ee,ih,bM,aO]; rfl
noncomputable def OC(K:Frag):List Stmt:=match(cj K 96).drop 4 with
 | .For _ _ [.If _ _ [.If _ b _ _] _] _ _::_=>b.drop 3
 |_=>[]
theorem BR(X:cH W){x dx:Addr}{raw:List Nat}{c:List Int}{b n nt:Nat}{a:Addr}{b9:Bd}(K:CK C [(J "self",ae),(J "ws",ae),(J "S",ae),(J "T",ae),(J "count",ae),(J "b",ae),(J "n",ae),(J "nt",ae),(J "ch",ae),(J "Whitespace",ag),(J "len",ag),(J "tuple",ag)])(hb:b<c.length)(hc:c.length<=1000000)
 (hQ:Q (.next [("self", .res true (gX x dx 141 [("raw", .str (aS raw))])),("ws", .val (.str (aS raw))),("S", .val (.str (aS [32]))),("T", .val (.str (aS [9]))),("count", .res true (o9 a ((c.set b (c.getD b 0+1)).map .int))),("b", .val (.int (0:Nat))),("n", .val (.int n)),("nt", .val (.int nt)),("ch",b9)])):
 VS W C [("self", .res true (gX x dx 141 [("raw", .str (aS raw))])),("ws", .val (.str (aS raw))),("S", .val (.str (aS [32]))),("T", .val (.str (aS [9]))),("count", .res true (o9 a (c.map .int))),("b", .val (.int b)),("n", .val (.int n)),("nt", .val (.int nt)),("ch",b9)] (OC (KK W)) Q:=by
 have Xp:(c.map D.int)[b]? =some (.int (c.getD b 0)):=by
  rw[av,aj hb,ak,aj hb]; rfl
 have aU:(c.set b (c.getD b 0+1)).map D.int=(c.map D.int).set b (.int (c.getD b 0+1)):=by rw[List.map_set]
 rw[aU] at hQ
 refine OA (x:= "count") (a:=a) (ds:=c.map D.int) (k:=b) (d:= .int (c.getD b 0+1)) (Lr K) (nm K) (bin K (yF K (di:= .int b) (λf o H=>held (x:=J "count") (w:=true) (r:=o9 a (c.map D.int)) ij f o H) (Lr K) (nm K) (tD Xp (by exact aX 0xfa4a90904210d010085f495212a0201 tt hb hc))) num cV) ij (by rw[ai]; exact hb) (by rw[ai]; exact aN 0x3e92a4240084308421084801 tt hc) ?_
 exact let1 (d:= .int ((0:Nat):Int)) num (cx K) (dh hQ)
noncomputable def OD(w:iC):List (Str×D):=[("raw", .str (aS w.raw)),("n", .int w.n),("nt", .int w.nt),("norm", .tup [.tup (w.count.map .int), .int w.trail]),("is_simple", .bool w.simple)]
theorem BS(X:cH W){x dx:Addr}{raw:List Nat}{q:Run}{a:Addr}{b9:Bd}(K:CK C [(J "self",ae),(J "ws",ae),(J "S",ae),(J "T",ae),(J "count",ae),(J "b",ae),(J "n",ae),(J "nt",ae),(J "ch",ae),(J "Whitespace",ag),(J "len",ag),(J "tuple",ag)])(e2:Run.of raw=Run.go [] q)(e4:q.c.length<=raw.length)(hl:raw.length<=1000):
 VS W C [("self", .res true (gX x dx 141 [("raw", .str (aS raw))])),("ws", .val (.str (aS raw))),("S", .val (.str (aS [32]))),("T", .val (.str (aS [9]))),("count", .res true (o9 a (q.c.map .int))),("b", .val (.int q.b)),("n", .val (.int q.n)),("nt", .val (.int q.nt)),("ch",b9)] ((cj (KK W) 96).drop 5) (E0 "self" x dx 141 (OD (yM raw))):=by
 have xS:Run.of raw=q:=e2
 have hlen:(q.c.map D.int).length<1000000:=by rw[ai]; exact aX 0x3f624108420085f495212a0201 tt e4 hl
 refine let1 (nm K) (Ax X K) ?_
 refine let1 (nm K) (Ax X K) ?_
 refine let1 (d:= .tup [.tup (q.c.map .int), .int q.b]) (tup (ac (rt (λf o H=>held (x:=J "count") (w:=true) (r:=o9 a (q.c.map D.int)) ij f o H) (gl K (Ie X)) .type (a1 (Lr K)) (Ai (by exact aN 0x3e92a4254040217d25484801 tt hlen))) (a1 (nm K)))) (Ax X K) ?_
 refine let1 (d:= .bool (decide (q.c.length<=1))) (.eq (cmp K (rt (λf o H=>held (x:=J "count") (w:=true) (r:=o9 a (q.c.map D.int)) ij f o H) (gl K (jU X)) .builtin (a1 (Lr K)) (ql hlen)) num JK) ?_) (Ax X K) ?_
 ·rw[ai]; congr 1; simp; exact RG
 ·refine dh ?_
  unfold E0 OD yM
  rw[xS]
  exact cw
inductive OE(raw:List Nat)(x dx:Addr)(xs:List D)(ρ:Ro):Prop
 |mk (r:List Nat) (q:Run) (a:Addr) (b9:Bd) (h1:xs=signs r) (h2:Run.of raw=Run.go r q) (h3:q.b+r.length<=raw.length) (h4:q.c.length<=raw.length) (h5:ρ=([("self", .res true (gX x dx 141 [("raw", .str (aS raw))])),("ws", .val (.str (aS raw))),("S", .val (.str (aS [32]))),("T", .val (.str (aS [9]))),("count", .res true (o9 a (q.c.map .int))),("b", .val (.int q.b)),("n", .val (.int q.n)),("nt", .val (.int q.nt)),("ch",b9)]:Ro)):OE raw x dx xs ρ
theorem OF(X:cH W){A:Around}(lv:Lv 3 A){raw:List Nat}(hr:raw.all (·<128)=true)(hl:raw.length<=1000):iJ W A (.ref 141) [.str (aS raw)] (yM raw).D:=by
 refine X.make 141 96 (n:=1) (self:= "self") (ps:=["ws"]) (ρ:=λx=>[("self", .val (.raw (.ref x))),("ws", .val (.str (aS raw))),("S", .unset),("T", .unset),("count", .unset),("b", .unset),("n", .unset),("nt", .unset),("ch", .unset)]) (a9:=λx dx=>[("self", .res true (gX x dx 141 [])),("ws", .val (.str (aS raw))),("S", .unset),("T", .unset),("count", .unset),("b", .unset),("n", .unset),("nt", .unset),("ch", .unset)])
  (names:=[(J "self",ae),(J "ws",ae),(J "S",ae),(J "T",ae),(J "count",ae),(J "b",ae),(J "n",ae),(J "nt",ae),(J "ch",ae),(J "Whitespace",ag),(J "len",ag),(J "tuple",ag)]) (keys:=["self","ws","S","T","count","b","n","nt","ch"])
  lv (by kernel_rfl) (by kernel_rfl) (by kernel_rfl) ⟨_,rfl,rfl⟩ rfl (by kernel_rfl) rfl rfl (by kernel_rfl) rfl rfl rfl rfl rfl (by kernel_rfl) (by kernel_rfl) (tW λa b=>by kernel_rfl) (λx=>?_) (λx=>rfl) (by kernel_rfl) (λx=>rfl) (λx dx=>kB) (λx=>ij) (λx dx C O lv hN sA=>?_)
 ·show kj [(_,_),(_,_)] _ _
  exact qY
 ·have K:CK C _:=⟨O,lv.hand,hN⟩
  refine let1 (nm K) (Ax X K) ?_
  refine N3 K (d1:= .str (aS [32])) (d2:= .str (aS [9])) (tup (ac (jV K (gl K (ku X)) (wS X)) (a1 (jV K (gl K (ku X)) (wT X))))) (OB K kB kB ij ij (by decide) (by decide)) ?_
  refine Au K (sf a0) λa=>⟨_,kB,?_⟩
  refine E4 (x:= "count") (a:=a) (ds:=[]) ij kB ?_
  refine E3 num (cx K) (cx K) (cx K) ?_
  refine mO K (jE K (Oy X K (attr:=aD) (d:= .str (aS raw)) (by kernel_rfl) (by kernel_rfl) (by kernel_rfl) rfl (by kernel_rfl)) (BD hr)) (OE raw x dx)
   ⟨raw,⟨0,0,0,[]⟩,a,_,rfl,rfl,by simp,by simp,rfl⟩ ?_ ?_
  ·rintro ρ ⟨r,q,a,b9,e1,e2,e3,e4,rfl⟩
   cases r with
   |cons _ _=>exact nomatch e1
   |nil=>exact BS X K e2 e4 hl
  ·rintro x xs ρ ⟨r,q,a,b9,e1,e2,e3,e4,rfl⟩
   cases r with
   |nil=>exact nomatch e1
   |cons y r=>
    obtain⟨rfl,rfl⟩:x= .str (aS [y])/\xs=signs r:=by cases e1; exact⟨rfl,rfl⟩
    refine⟨_,cx K,?_⟩
    refine jw (kO K (nm K) (nm K) tK) (λh=>?_) λh=>?_
    ·have hy:y=32:=by simpa using h
     refine let1 (d:= .int ((q.n+1:Nat):Int)) (.eq (bin K (nm K) num cV) rfl) (cx K) (let1 (d:= .int ((q.b+1:Nat):Int)) (.eq (bin K (nm K) num cV) rfl) (cx K) (dh ?_))
     refine dh ⟨r,⟨q.b+1,q.n+1,q.nt,q.c⟩,a,_,rfl,?_,?_,e4,rfl⟩
     ·rw[e2,Run.go,if_pos hy]
     ·simp only[aQ] at e3 ⊢; exact cG 0xa81802010883404201 tt e3
    ·have hy:y≠32:=by simpa using h
     refine jw (kO K (nm K) (nm K) tK) (λh9=>?_) λh9=>?_
     ·have Qr:y=9:=by simpa using h9
      refine let1 (d:= .int ((q.n+1:Nat):Int)) (.eq (bin K (nm K) num cV) rfl) (cx K) (let1 (d:= .int ((q.nt+1:Nat):Int)) (.eq (bin K (nm K) num cV) rfl) (cx K) ?_)
      have hlen:(q.c.map D.int).length<1000000:=by rw[ai]; exact aX 0x8423f6240085f495212a0601 tt hl e4
      have hI:∀f o,bc C ([("self", .res true (gX x dx 141 [("raw", .str (aS raw))])),("ws", .val (.str (aS raw))),("S", .val (.str (aS [32]))),("T", .val (.str (aS [9]))),("count", .res true (o9 a (q.c.map .int))),("b", .val (.int q.b)),("n", .val (.int (q.n+1:Nat))),("nt", .val (.int (q.nt+1:Nat))),("ch", .val (.str (aS [y])))]:Ro) f o->k9 f o a (q.c.map .int):=λf o H=>held (x:=J "count") (w:=true) (r:=o9 a (q.c.map D.int)) ij f o H
      refine jw (b:=decide (q.c.length<=q.b)) (VB.eq (kO K (nm K) (rt hI (gl K (jU X)) .builtin (a1 (Lr K)) (ql hlen)) vO) (by simp)) (λhb=>?_) λhb=>?_
      ·have ro:q.c.length<=q.b:=by simpa using hb
       refine Au (ds:=q.c.map D.int++rq (q.b-q.c.length+1) [.int 0]) K (Lu K hI (Lr K) (.eq (bin K (lst (a1 num)) (bin K (bin K (nm K) (rt hI (gl K (jU X)) .builtin (a1 (Lr K)) (ql hlen)) gG) num cV) (qt ?_ ?_ (by decide))) ?_) ?_) λa'=>⟨_,kB,?_⟩
       ·rw[ai]; exact je 0x20086004050c5be92a4141 tt ro
       ·rw[ai]; simp only[aQ] at e3; exact CC 0x2828060108fd8900211fb0980d0143161 tt hl e3
       ·congr 2; rw[ai]; exact RH ro
       ·simp only[aQ] at e3; rw[ai,E5]; exact M6 hl e3 ro
       ·have OG:q.c.map D.int++rq (q.b-q.c.length+1) [.int 0]=(q.c++bf (q.b-q.c.length+1) 0).map D.int:=by rw[E6]; simp
        rw[OG]
        refine E4 (x:= "count") (a:=a') ij kB (dh ?_)
        refine BR X K (c:=q.c++bf (q.b-q.c.length+1) 0) (b:=q.b) (n:=q.n+1) (nt:=q.nt+1) (b9:= .val (.str (aS [y]))) ?_ ?_ ?_
        ·rw[a8,bA]; exact RI ro
        ·simp only[aQ] at e3; rw[a8,bA]; exact M6 hl e3 ro
        ·refine dh (dh ?_)
         refine⟨r,⟨0,q.n+1,q.nt+1,bump q.c q.b⟩,a', .val (.str (aS [y])),rfl,?_,?_,?_,?_⟩
         ·rw[e2,Run.go,if_neg hy,if_pos Qr]
         ·simp only[aQ] at e3 ⊢; exact cG 0x2a0600804220ce01 tt e3
         ·simp only[aQ] at e3 ⊢; rw[yN]; exact RJ e4 e3
         ·unfold bump; rw[if_pos ro]
      ·have ro:¬q.c.length<=q.b:=by simpa using hb
       refine dh ?_
       refine BR X K (c:=q.c) (b:=q.b) (n:=q.n+1) (nt:=q.nt+1) (b9:= .val (.str (aS [y]))) (by exact RK ro) (by exact aX 0x2108fd8900217d25484821 tt hl e4) ?_
       refine dh (dh ?_)
       refine⟨r,⟨0,q.n+1,q.nt+1,bump q.c q.b⟩,a, .val (.str (aS [y])),rfl,?_,?_,?_,?_⟩
       ·rw[e2,Run.go,if_neg hy,if_pos Qr]
       ·simp only[aQ] at e3 ⊢; exact cG 0x2a0600804220ce01 tt e3
       ·simp only[aQ] at e3 ⊢; rw[yN]; exact RL e4 ro
       ·unfold bump; rw[if_neg ro]
     ·have Qr:y≠9:=by simpa using h9
      refine N4 ?_
      show VS W C _ _ _
      refine BS X K ?_ e4 hl
      rw[e2]; unfold Run.go; rw[if_neg hy,if_neg Qr]
end
section
variable {W:Wd}{C:Cx}{ρ a9 bD bZ:Ro}{names:List (Str×aC)}{Q:Out->Prop}{f o:Fz}{s:Shared}
theorem qy{d:D}(hd:d≠ .none)(hr:∀v,d≠ .raw v):lp W (cc .IsNot) d .none (.bool true):=λA f o s va vb r S ha hb Q E h=>by
 obtain rfl:vb= .none:=hb
 refine isnot_none_ne (λe=>?_) (h _ f s (.refl f) S rfl)
 subst e
 cases d with
 |none=>exact hd rfl
 |bool b=>cases(show d7= .bool b from ha)
 |int i=>obtain⟨t,e⟩:=ha; exact nomatch e
 |str x=>obtain⟨t,e⟩:=ha; exact nomatch e
 |list ds=>obtain⟨a,_,_,_,e,_⟩:=ha; exact nomatch e
 |tup ds=>obtain⟨a,_,_,_,e,_⟩:=ha; exact nomatch e
 |Bo a b=>obtain⟨r,_,_,_,e,_⟩:=ha; exact nomatch e
 |raw u=>exact hr u rfl
 |obj C fs=>obtain⟨a,_,_,_,e,_⟩:=ha; exact nomatch e
theorem Ay:lp W (cc .IsNot) .none .none (.bool false):=λA f o s va vb r S ha hb Q E h=>by
 obtain rfl:vb= .none:=hb
 obtain rfl:va= .none:=ha
 exact wpAny_isNot_self rfl (h _ f s (.refl f) S rfl)
theorem Il{T:String}:lp W (cc .Is) (.raw (.type T)) (.raw (.type T)) (.bool true):=λA f o s va vb r S ha hb Q E h=>by
 obtain rfl:vb= .type T:=hb
 obtain rfl:va= .type T:=ha
 exact wpAny_is_self rfl (h _ f s (.refl f) S rfl)
theorem ub{T:String}:lp W (cc .IsNot) (.raw (.type T)) (.raw (.type T)) (.bool false):=λA f o s va vb r S ha hb Q E h=>by
 obtain rfl:vb= .type T:=hb
 obtain rfl:va= .type T:=ha
 exact wpAny_isNot_self rfl (h _ f s (.refl f) S rfl)
theorem v8{A:Around}{d:D}{T:String}(hT:d.ty=some T)(hn:(lh T==lh "builtin_function_or_method")=false):l7 W A (.type "type") [d] (.raw (.type T)):=λf o s vs S hd Q E h=>by
 obtain⟨v,r,rfl,h1,h2⟩:=hd
 rw[show r=[] from h2]
 exact call_type_of (Nt S h1 hT) hn (h _ f s (.refl f) S rfl)
theorem CW{A:Around}{a:Addr}{ds:List D}:Ei W (λf o=>k9 f o a ds) A (.type "type") [.raw (.ref a)] (.raw (.type "list")):=λf o s vs S hI hd Q E h=>by
 obtain⟨v,r,rfl,h1,h2⟩:=hd
 rw[show r=[] from h2]
 exact call_type_of (BA f o s v S hI h1) (by decide) (h _ f s (.refl f) S rfl)
theorem E7:KS W .none false:=λA f o s v r S ha Q E h=>by
 obtain rfl:v= .none:=ha
 exact Jo rfl (h f s (.refl f) S)
theorem JV(K:CK C names){e:Expr}{pos:Pos}{rest:List Stmt}{d:D}(he:VE W C ρ e d)(h:VS W C ρ rest Q)(hs:autoParam (gj e aD pos.line C.env=pure false) fL._auto_1):VS W C ρ (.Expr e pos::rest) Q:=vs (.expr he.un h.un K.inter hs)
theorem Xs{t x y:Expr}{pos:Pos}{X:D->Res->Prop}{b:Bool}(ht:VB W C ρ t b)(hb:b=false)(hy:VX W C ρ y X):VX W C ρ (.IfExp t x y pos) X:=vx λf o s S H Q E h=>
 wpAny_IfExp (ht.un f o s S H _ _ λf1 s1 l1 S1=>by
  subst hb
  exact hy.un f1 o s1 S1 (H.mono l1 (.refl o)) _ _ λv d r f2 o2 s2 hx l2=>h v d r f2 o2 s2 hx (l1.trans l2))
noncomputable def E8(v:Value)(d:D):Res where
 v:=v
 as:=[]
 P:=λf _=>Den f d v
 mono:=λf f' o o' h _ x=>x.mono h
 there:=λ_ _ _ a ha=>by exact nomatch ha
theorem ZN(K:CK C names){n:Str}{w:Bool}{v:Value}{d:D}{pos:Pos}(hm:autoParam ((n,Bd.res w (E8 v d))∈ρ) vm._auto_1)(h1:autoParam ((n==("__debug__" :Str))=false) sG._auto_1)(h2:autoParam ((n==("__classdict__" :Str))=false) sG._auto_1):VE W C ρ (.Name n pos) d:=ve λf o s S H Q E h=>by
 obtain⟨vo,hv,e,hd⟩:=H.vars _ _ hm
 exact uP (sx K.ok S H hm hv e h2 (h _ f s (.refl f) S hd)) h1
theorem yO{P:Fz->Prop}{a:Addr}{ob:Obj}{fd:Bk}{body:List Stmt}{ps:List Str}{ds:List D}{ρ:Ro}{A:Around}{args:Args}{R:Result->Shared->Prop}(hB:W.B.f a=some ob)(yo:ob.data= .func fd)
 (sd:∀h:Heap,(∀a x,W.B.f a=some x->h.get? a=some x)->h.CodeRec fd.code fd.qualname) (ip:fd.body= .stmts body) (n0:fd.closure=[]) (Eh:A.depth<recursionLimit)
 (jP:∀(Q:List (Str×Value)->Shared->Prop) (E:Value->Shared->Prop),(∀vs f1 s1,f.le f1->St W.B f1 o s1->bQ f1 ds vs->P f1->Q (ps.zip vs) s1)->wpAny W.M A.in1 (eQ fd args) Q E s)
 (hp:kj (ps.zip ds) fd.scope.names ρ) (m9:ps.Nodup) (j4:(fd.scope.names.map (·.1)).Nodup)
 (Af:∀n∈ps,(n,ae)∈fd.scope.names\/(n,aq)∈fd.scope.names)
 (hk:fd.scope.kind= .function) (hg:fd.globals=bV) (hb:fd.builtins=cP) (DK:∀env,Rm (A.deeper env)) (wZ:fd.scope.isCoroutine=false) (n7:fd.scope.isGenerator=false)
 (S:St W.B f o s)
 (h:∀f1 env dr cU,P f1->f.le f1->o.le dr->St W.B f1 dr cU->bc ⟨env,A.deeper env,fd.scope.names⟩ ρ f1 dr->env.scope=fd.scope->env.code=fd.code/\env.frame=some env.locals->(∀b,pq ⟨env,A.deeper env,fd.scope.names⟩ ρ b->o b=none)->
  wpAny W.M (A.deeper env) (execs body env) (λfl s'=>R (.ok (.ret (match fl with| .ret v=>v|_=> .none))) s')
   (λe s'=>wpAny W.M (A.deeper env) (leaving env e) (λ_ xR=>R (.error e) xR) (λe' xR=>R (.error e') xR) s') cU):
 eC W.M A (.call (.ref a) args) R s:=by
 refine codeAny_call_function Eh (S.bT _ _ hB) yo wZ n7 ip (sd _ S.bT) (jP _ _ λvs f1 s1 l1 S1 hd Xu=>?_)
 rw[n0]
 refine wpAny_newFunctionEnv_cells hk (λx hx=>?_) λenv he s' x=>?_
 ·obtain⟨n,v⟩:=x
  have hn:n∈ps:=(qj ps vs).subset (fY hx)
  rcases Af n hn with h|h
  ·exact .inl (cJ j4 h)
  ·obtain⟨c,hc,_⟩:=fi (n:=s1.heap.objs.size+1) (acc:=[]) j4 h
   exact .inr ⟨cJ j4 h,by rw[hc]; rfl⟩
 ·have Xv:env=ke fd s1.heap.objs.size a:=he
  subst Xv
  obtain⟨dr,lo,jf,H,hm⟩:=enter S1 (A:=A) hd hp m9 j4 hk hg hb (DK _) x
  exact⟨(W.B.nolimit _ S1.bT).keeps x.toInCall.keep,codeAny_func (h f1 _ dr s' Xu l1 lo jf H rfl ⟨rfl,rfl⟩ hm)⟩
theorem cH.code{P:Fz->Prop}(X:cH W)(a:Addr){A:Around}{n:Nat}{ps:List Str}{ds:List D}{ρ:Ro}{names:List (Str×aC)}{args:Args}{R:Result->Shared->Prop}(lv:Lv (n+1) A)
 (yD:∃ob,(KK W).lookup a=some ob/\ob.data= .func (cm (KK W) a)) (ip:(cm (KK W) a).body= .stmts (cj (KK W) a)) (lx:codeIn (KK W) (cm (KK W) a).code (cm (KK W) a).qualname=true) (n0:(cm (KK W) a).closure=[])
 (fx:(cm (KK W) a).scope.names=names) (j4:decide (names.map (·.1)).Nodup=true) (hk:(cm (KK W) a).scope.kind= .function) (hg:(cm (KK W) a).globals=bV) (hb:(cm (KK W) a).builtins=cP)
 (wZ:(cm (KK W) a).scope.isCoroutine=false) (n7:(cm (KK W) a).scope.isGenerator=false) (m9:decide ps.Nodup=true)
 (Af:(ps.all λp=>names.lookup p==some .local||names.lookup p==some .cell)=true)
 (jP:∀(Q:List (Str×Value)->Shared->Prop) (E:Value->Shared->Prop),(∀vs f1 s1,f.le f1->St W.B f1 o s1->bQ f1 ds vs->P f1->Q (ps.zip vs) s1)->wpAny W.M A.in1 (eQ (cm (KK W) a) args) Q E s)
 (hp:kj (ps.zip ds) names ρ) (S:St W.B f o s)
 (h:∀f1 env dr cU,P f1->f.le f1->o.le dr->St W.B f1 dr cU->bc ⟨env,A.deeper env,names⟩ ρ f1 dr->Lv n (A.deeper env)->env.code=(cm (KK W) a).code/\env.frame=some env.locals->(∀b,pq ⟨env,A.deeper env,names⟩ ρ b->o b=none)->
  wpAny W.M (A.deeper env) (execs (cj (KK W) a) env) (λfl s'=>R (.ok (.ret (match fl with| .ret v=>v|_=> .none))) s')
   (λe s'=>wpAny W.M (A.deeper env) (leaving env e) (λ_ xR=>R (.error e) xR) (λe' xR=>R (.error e') xR) s') cU):eC W.M A (.call (.ref a) args) R s:=by
 obtain⟨ob,h1,h2⟩:=yD
 refine yO (X.sj _ _ h1) h2 (λh hB=>A9 (K:=KK W) (λb x e=>hB _ _ (X.sj _ _ e)) lx) ip n0 (by have:=lv.depth; show A.depth<1000; exact aX 0x2ae2540c091040211fb12a0201 tt this) jP (by rw[fx]; exact hp) (of_decide_eq_true m9) (by rw[fx]; exact of_decide_eq_true j4) (λp Lm=>?_) hk hg hb (λenv=>(lv.deeper env).rm) wZ n7 S λf1 env dr cU Xu l1 lo jf H _ sd hm=>?_
 ·rw[fx]
  have:=aT.mp Af p Lm
  rcases iO _ _▸this with e|e
  ·exact .inl (lookup_mem (by simpa using e))
  ·exact .inr (lookup_mem (by simpa using e))
 ·rw[fx] at H hm
  exact h f1 env dr cU Xu l1 lo jf H (lv.deeper env) sd hm
theorem ud{C:Cx}{ρ:Ro}{body:List Stmt}{d:D}{f o Im:Fz}{s:Shared}(h:VS W C ρ body (Ends d))(S:St W.B f o s)(H:bc C ρ f o)(lo:Im.le o)(hm:∀b,pq C ρ b->Im b=none){R:Result->Shared->Prop}{E:Value->Shared->Prop}
 (hR:∀v f' s',f.le f'->St W.B f' Im s'->Den f' d v->R (.ok (.ret v)) s'):wpAny W.M C.A (execs body C.env) (λfl s'=>R (.ok (.ret (match fl with| .ret v=>v|_=> .none))) s') E s:=by
 refine h.un f o s S H _ _ λu fl s' hq ho=>?_
 have back:∀o',qg C ρ o o'->Im.le o':=λo' st a y e=>st a y (lo _ _ e) λq=>by have:=hm a q; rw[e] at this; exact nomatch this
 cases u with
 |next a9=>
  obtain⟨rfl,f',o',L⟩:=ho
  obtain rfl:d= .none:=hq
  exact hR _ f' s' L.le (L.st.drop (back o' L.step)) rfl
 |ret d'=>
  obtain⟨v,f',o',rfl,G⟩:=ho
  obtain rfl:d'=d:=hq
  exact hR v f' s' G.le (G.st.drop (back o' G.step)) G.den
 |brk _=>exact hq.elim
 |cont _=>exact hq.elim
noncomputable def Io(W:Wd)(A:Around)(fv:Value)(ds:List D)(kn:List Str)(kd:List D)(d:D):Prop:=∀f o s vs ks,St W.B f o s->bQ f ds vs->bQ f kd ks->∀(Q:Value->Shared->Prop) (E:Value->Shared->Prop),
 (∀v f' s',f.le f'->St W.B f' o s'->Den f' d v->Q v s')->wpAny W.M A (call fv vs (kn.zip ks)) Q E s
@[irreducible] noncomputable def v9 (W:Wd) (A:Around) (fv:Value) (ds:List D) (kn:List Str) (kd:List D) (d:D):Prop:=Io W A fv ds kn kd d
theorem v9.un{A:Around}{fv:Value}{ds kd:List D}{kn:List Str}{d:D}(h:v9 W A fv ds kn kd d):Io W A fv ds kn kd d:=by unfold v9 at h; exact h
theorem OH{A:Around}{fv:Value}{ds kd:List D}{kn:List Str}{d:D}(h:Io W A fv ds kn kd d):v9 W A fv ds kn kd d:=by unfold v9; exact h
noncomputable def JW(W:Wd)(I:Fz->Fz->Prop)(d:D)(name:Str)(fv:Value):Prop:=∀A f o s v pl,St W.B f o s->I f o->Den f d v->∀(Q:Value×List Value->Shared->Prop) (E:Value->Shared->Prop),Q (fv,[v]) s->wpAny W.M A (xF v name pl) Q E s
theorem Meth.G7{d:D}{name:Str}{fv:Value}(h:Meth W d name fv):JW W (λ_ _=>True) d name fv:=λA f o s v pl S _=>h A f o s v pl S
theorem LK(K:CK C names){I:Fz->Fz->Prop}(hI:∀f o,bc C ρ f o->I f o){ob e kv:Expr}{name kn:Str}{apos pos LL:Pos}{fv:Value}{da d1 dk d:D}(ho:VE W C ρ ob da)(hm:JW W I da name fv)(hk:Kept W fv)(he:VE W C ρ e d1)(hkv:VE W C ρ kv dk)(hc:Io W C.A fv [da,d1] [kn] [dk] d)
 (pd:autoParam (aI [e] C.env=[(false,eval e C.env)]) fL._auto_1) (hl:autoParam ((apos.endLine==pos.line)=true) vk._auto_1) (hb:autoParam (bx ob name C.env (eval ob C.env)=eval ob C.env) fL._auto_1):VE W C ρ (.Call (.Attribute ob name apos) [e] [⟨some kn,kv,LL⟩] pos) d:=ve λf o s S H Q E h=>by
 show wpAny _ _ (do
  let ov <-bx ob name C.env (eval ob C.env)
  dE apos.atName
  eX ob name apos pos C.env ov ([e].length+1) (backTo pos (aI [e] C.env)) [(some kn,do let v <-eval kv C.env; dE pos; pure v)]) Q E s
 rw[hb]
 refine aa (ho.un f o s S H _ _ λv f1 s1 l1 S1 dv=>aa (aZ ?_))
 rw[pd]
 unfold eX rN
 have qh:eB ([e].length+1) (backTo pos [(false,eval e C.env)]) [(some kn,do let v <-eval kv C.env; dE pos; pure v)]=true:=rfl
 rw[qh]
 refine aa (aL (hm _ f1 o s1 v _ S1 (hI _ _ (H.mono l1 (.refl o))) dv _ _ ?_))
 unfold ji
 rw[hl]
 refine aa (ao ?_)
 refine d6 (P:=λh=>∀a x,W.B.f a=some x->h.get? a=some x) rfl hk ?_
 show wpAny _ _ (evalArgs fv true [(false,eval e C.env)] [(some kn,do let v <-eval kv C.env; dE pos; pure v)]) _ _ _
 refine evalArgs_kw rfl ?_
 have H1:=H.mono l1 (.refl o)
 refine dO (he.un f1 o s1 S1 H1 _ _ λv1 f2 s2 l2 S2 dv1=>d9 ?_)
 refine wpAny_evalAll_cons (aa (hkv.un f2 o s2 S2 (H1.mono l2 (.refl o)) _ _ λv2 f3 s3 l3 S3 dv2=>aa (aZ (ao (wpAny_evalAll_nil ?_)))))
 exact⟨S3.bT,hc f3 o s3 [v,v1] [v2] S3 (.cons ((dv.mono l2).mono l3) (.cons (dv1.mono l3) .nil)) (.cons dv2 .nil) _ _ λr f4 s4 l4 S4 d4=>h r f4 s4 (l1.trans (l2.trans (l3.trans l4))) S4 d4⟩
noncomputable def Az(W:Wd)(A:Around)(fv:Value)(ds:List D)(Y:Res->Prop):Prop:=∀f o s vs,St W.B f o s->bQ f ds vs->∀(Q:Value->Shared->Prop) (E:Value->Shared->Prop),
 (∀r f' o' s',Y r->f.le f'->o.le o'->St W.B f' o' s'->r.P f' o'->(∀a∈r.as,o a=none)->Q r.v s')->wpAny W.M A (call fv vs []) Q E s
@[irreducible] noncomputable def rW (W:Wd) (A:Around) (fv:Value) (ds:List D) (Y:Res->Prop):Prop:=Az W A fv ds Y
theorem rW.un{A:Around}{fv:Value}{ds:List D}{Y:Res->Prop}(h:rW W A fv ds Y):Az W A fv ds Y:=by unfold rW at h; exact h
theorem OI{A:Around}{fv:Value}{ds:List D}{Y:Res->Prop}(h:Az W A fv ds Y):rW W A fv ds Y:=by unfold rW; exact h
theorem Az.E8{A:Around}{fv:Value}{ds:List D}{d:D}(h:Az W A fv ds (λr=>∃v,r=E8 v d)):l7 W A fv ds d:=λf o s vs S hd Q E hQ=>
 h f o s vs S hd Q E λr f' o' s' ⟨v,e⟩ l lo S' hP _=>by subst e; exact hQ v f' s' l (S'.drop lo) hP
theorem OJ{func:Expr}{es:List Expr}{pos:Pos}{fv:Value}{ds:List D}{Y:Res->Prop}(hf:VE W C ρ func (.raw fv))(hk:Kept W fv)(ha:VA W C ρ es ds)(hc:Az W C.A fv ds Y)(hp:autoParam ((aI es C.env).all (λx=>!x.1)=true) fL._auto_1)
 (he:autoParam (eval (.Call func es [] pos) C.env=(do fR pos (<-eval func C.env) [] (backTo pos (aI es C.env)) (gp pos (dG [] C.env)))) fL._auto_1):VX W C ρ (.Call func es [] pos) (λd r=>d= .raw r.v/\Y r):=vx λf o s S H Q E h=>by
 rw[he]
 refine aa (hf.un f o s S H _ _ λv f1 s1 l1 S1 d1=>?_)
 obtain rfl:v=fv:=d1
 have jl:=cn pos es C.env hp
 refine d6 (P:=λh=>∀a x,W.B.f a=some x->h.get? a=some x) (by rw[jl]; rfl) hk (dj jl ?_)
 exact ha.un pos f1 o s1 S1 (H.mono l1 (.refl o)) _ _ λvs f2 s2 l2 S2 d2=>⟨S2.bT,hc f2 o s2 _ S2 d2 _ _ λr f3 o3 s3 hY l3 lo S3 hP hn=>h _ _ r f3 o3 s3 ⟨rfl,hY⟩ (l1.trans (l2.trans l3)) lo S3 rfl hP hn⟩
noncomputable def OK(self:Str)(x:Addr)(Y:Res->Prop):Out->Prop
 | .next a9=>∃r,(self,Bd.res true r)∈a9/\r.v= .ref x/\Y r
 |_=>False
theorem cH.JX(X:cH W)(Ca a:Addr){A:Around}{n:Nat}{self:Str}{ps:List Str}{ds dd:List D}{Y:Res->Prop}{ρ:Addr->Ro}{a9:Addr->Addr->Ro}{names:List (Str×aC)}{keys:List Str}(lv:Lv (n+2) A)
 (Xq:makesIn (KK W) Ca=true) (Ha:findIn (KK W) (.ref Ca) "__init__" =some (some (.ref a))) (Xr:typeIn (KK W) (.ref a)=some (.type "function"))
 (yD:∃ob,(KK W).lookup a=some ob/\ob.data= .func (cm (KK W) a)) (ip:(cm (KK W) a).body= .stmts (cj (KK W) a)) (lx:codeIn (KK W) (cm (KK W) a).code (cm (KK W) a).qualname=true) (n0:(cm (KK W) a).closure=[])
 (fx:(cm (KK W) a).scope.names=names) (j4:decide (names.map (·.1)).Nodup=true) (hk:(cm (KK W) a).scope.kind= .function) (hg:(cm (KK W) a).globals=bV) (hb:(cm (KK W) a).builtins=cP)
 (wZ:(cm (KK W) a).scope.isCoroutine=false) (n7:(cm (KK W) a).scope.isGenerator=false) (m9:decide (self::ps).Nodup=true)
 (Af:((self::ps).all λp=>names.lookup p==some .local||names.lookup p==some .cell)=true)
 (jP:∀(v:Value) (vs:List Value) (f:Fz) (s:Shared),(KK W).In s.heap->bQ f ds vs->∃us,bQ f dd us/\BindsTo s (cm (KK W) a) ⟨v::vs,[]⟩ ((self::ps).zip (v::(vs++us)))) (hp:∀x,kj ((self::ps).zip (.raw (.ref x)::(ds++dd))) names (ρ x))
 (Ow:∀x,(ρ x).map (·.1)=keys) (Ox:(keys.all λn=>names.any λp=>p.1==n&&p.2 != .free&&p.2 != .cell)=true) (JU:∀x,(ρ x).all (λp=>match p.2 with| .res _ _=>false|_=>true)=true)
 (aU:∀x dx,Ro.Set self (.res true (gX x dx Ca [])) (ρ x) (a9 x dx)) (LI:∀x,(self,Bd.val (.raw (.ref x)))∈ρ x)
 (h:∀x dx,∀C:Cx,C.Ok->Lv n C.A->C.names=names->VS W C (a9 x dx) (cj (KK W) a) (OK self x Y)):rW W A (.ref Ca) ds Y:=by
 refine OI λf o s vs S hd Q E hQ=>?_
 have YY:=makes_of (M:=W.M) (X.sF S) Xq
 have S1:St W.B f (o.put s.heap.objs.size (dictOf [] 0)) {s with heap:=s.heap.push (dictOf [] 0)}:=S.gV (dictOf [] 0)
 have S2:=S1.ju (kc Ca s.heap.objs.size)
 have LJ:Lv (n+1) (A.under (.builtin "type.__call__" ⟨.ref Ca::vs,[]⟩)):=by
  have e:(A.under (.builtin "type.__call__" ⟨.ref Ca::vs,[]⟩)).units<=A.units+10:=by
   first
    |exact gx (n:=A.units) (k:=10)
    |exact cB (n:=1) (m:=10) (by(first|lia|omega)) A.units
    |exact cB (n:=2) (m:=10) (by(first|lia|omega)) A.units
    |exact cB (n:=3) (m:=10) (by(first|lia|omega)) A.units
  exact⟨by have:=lv.depth; show A.depth+1+4*(n+1)<=600; exact aX 0xab8954302441008455c4a818123404201 tt this,by have:=lv.units; exact cG 0x1bde12a8a0a886010f43000421bde12a0a0a88201 tt e this,lv.hand⟩
 have fB:(s.heap.push (dictOf [] 0)).objs.size=s.heap.objs.size+1:=by simp[Hn]
 refine fQ (make_core (init:= .ref a) YY (hF (X.sF S) Ha) (λself=>bind_fn (X.sF S) self Xr) (.inl (by exact rfl)) ?_)
 have K9:f.put (s.heap.push (dictOf [] 0)).objs.size (kc Ca s.heap.objs.size) (s.heap.objs.size+1)=some (kc Ca s.heap.objs.size):=by rw[<-fB]; exact Fz.aJ ..
 have Xw:f.le (f.put (s.heap.push (dictOf [] 0)).objs.size (kc Ca s.heap.objs.size)):=Fz.bP S1.gQ
 refine X.code (P:=λ_=>True) a (ps:=self::ps) (ds:= .raw (.ref (s.heap.objs.size+1))::(ds++dd)) (ρ:=ρ (s.heap.objs.size+1)) LJ yD ip lx n0 fx j4 hk hg hb wZ n7 m9 Af (λQ E k=>?_) (hp _) S2 λf1 env dr cU _ l1 lo jf H mG _ hm=>?_
 ·obtain⟨us,hu,hb⟩:=jP (.ref (s.heap.objs.size+1)) vs _ _ (X.sF S2) (hd.mono Xw)
  exact hb _ _ _ _ (k _ _ _ (.refl _) S2 ⟨_,_,rfl,rfl,(hd.mono Xw).append hu⟩ trivial)
 ·have hx:=l1 _ _ K9
  have yL:dr s.heap.objs.size=some (dictOf [] 0):=lo _ _ (Fz.aJ ..)
  have Ok:=H.ok
  have BU:∀b,Uses ⟨env,(A.under (.builtin "type.__call__" ⟨.ref Ca::vs,[]⟩)).deeper env,names⟩ (ρ (s.heap.objs.size+1)) b->b=env.locals:=by
   intro b hu
   rcases hu with(hu|⟨m,hu,E1,_⟩)|⟨m,u,r,hu,_⟩
   ·exact hu
   ·rw[Ow] at hu
    obtain⟨⟨m',k⟩,u4,DL⟩:=Hm.mp (aT.mp Ox m hu)
    simp only[cq,beq_iff_eq,bne_iff_ne] at DL
    obtain⟨⟨e1,e2⟩,e3⟩:=DL
    subst e1
    have:=Ok.kinds _ _ u4 e2
    rw[this] at E1
    rcases E1 with q|q
    ·exact absurd (cg q) e3
    ·exact absurd (cg q) e2
   ·have:=aT.mp (JU _) _ hu
    exact nomatch this
  have nu:¬Uses ⟨env,(A.under (.builtin "type.__call__" ⟨.ref Ca::vs,[]⟩)).deeper env,names⟩ (ρ (s.heap.objs.size+1)) s.heap.objs.size:=λhu=>by
   have e:=BU _ hu
   have:=hm _ (.inl e); rw[Fz.aJ] at this; exact nomatch this
  have H':=H.adopt (aU (s.heap.objs.size+1) s.heap.objs.size) (LI _) ⟨hx,[],0,yL,rfl⟩ (λb hb=>by rcases aA.mp hb with rfl; exact nu)
  refine(h (s.heap.objs.size+1) s.heap.objs.size _ Ok mG rfl).un _ _ _ jf H' _ _ λu fl s' hq ho=>?_
  cases u with
  |next bZ=>
   obtain⟨rfl,f',o',L⟩:=ho
   obtain⟨r,hr,hv,hY⟩:=hq
   have hP:r.P f' o':=held hr f' o' L.env
   have G5:o s.heap.objs.size=none:=S.eZ
   have key:o.le o':=by
    intro b y e
    have hb:b≠s.heap.objs.size:=λq=>by subst q; exact iB G5 e
    have e1:dr b=some y:=lo _ _ (by rw[Fz.az hb]; exact e)
    refine L.step b y e1 λq=>?_
    have qW:∀c,pq ⟨env,(A.under (.builtin "type.__call__" ⟨.ref Ca::vs,[]⟩)).deeper env,names⟩ (ρ (s.heap.objs.size+1)) c->c=b->False:=λc hc e'=>by
     subst e'
     have:=hm _ hc
     rw[Fz.az hb,e] at this; exact nomatch this
    rcases q with q|⟨m,q1,q2,q3⟩|⟨m,r,q1,q2⟩
    ·exact qW b (.inl q) rfl
    ·exact qW b (.inr (.inl ⟨m,q1,(aU _ _).keys▸q2,q3⟩)) rfl
    ·rcases(aU _ _).mem H.nd q1 with⟨_,q⟩|⟨_,q⟩
     ·cases q; exact hb (aA.mp q2)
     ·have:=aT.mp (JU _) _ q
      exact nomatch this
   refine⟨rfl,?_⟩
   rw[<-hv]
   refine hQ r f' o' s' hY (Xw.trans (l1.trans L.le)) key L.st hP λb hb=>?_
   rcases L.uses b (.inr ⟨_,_,_,hr,hb⟩) with q|q
   ·rcases q with q|⟨m,u,r',q1,q2⟩
    ·have E1:=BU b (.inl ((Slots.set (aU _ _)).mp q))
     have:=hm b (.inl E1)
     refine none_of λy p=>?_
     have ro:b≠s.heap.objs.size:=λq=>by subst q; exact iB G5 p
     rw[Fz.az ro,p] at this; exact nomatch this
    ·rcases(aU _ _).mem H.nd q1 with⟨_,q⟩|⟨_,q⟩
     ·cases q
      rcases aA.mp q2 with rfl
      exact G5
     ·have:=aT.mp (JU _) _ q
      exact nomatch this
   ·refine none_of λy p=>?_
    have ro:b≠s.heap.objs.size:=λq=>by subst q; exact iB G5 p
    have:=lo b y (by rw[Fz.az ro,p])
    exact iB q this
  |ret _=>exact hq.elim
  |brk _=>exact hq.elim
  |cont _=>exact hq.elim
theorem fP.Xx{ss:List Stmt}{x:Str}{a dx Ca:Addr}{fs:List (Str×D)}(hm:(x,Bd.res true (gX a dx Ca fs))∈ρ)(aU:Ro.Set x (.res true (E8 (.ref a) (.obj Ca fs))) ρ a9)(h:fP W C a9 ss Q):fP W C ρ ss Q:=h.ghost λf o s S H=>by
 obtain⟨vo,hv,ev,e0,es,n,e1,e4⟩:=H.vars _ _ hm
 have lf:=Fz.bP (o:=dictOf es n) (S.fu e1)
 have slot:∀b,Slots C ρ b->b≠dx:=λb hs hb=>H.sep _ _ _ hm dx (.head _) (hb▸hs)
 have del:∀b y,o b=some y->b≠dx->o.del dx b=some y:=λb y e hb=>by unfold Fz.del; rw[if_neg hb]; exact e
 refine⟨f.put dx (dictOf es n),o.del dx,lf,S.freeze e1,⟨H.ok,?_,λn b hn=>?_,by rw[aU.keys]; exact H.nd,λn u q hn a' ha hs=>?_,λn n' u u' q q' h1 h2 ea a' ha hb=>?_⟩,λb y e hn=>del b y e λq=>hn (.inr (.inr ⟨_,_,hm,q▸ .head _⟩)),λa' h=> .inl ?_,λa' h=> .inl ?_⟩
 ·obtain⟨ob',es,ep,e,t,y1⟩:=H.ns; exact⟨ob',es,ep,del _ _ e (slot _ (.inl rfl)),t,y1⟩
 ·have var:∀vo,n∈ρ.map (·.1)->kF C o n vo->kF C (o.del dx) n vo:=λvo qk hv=>by
   rcases hv with⟨k,ob,es,ep,e1,e2,y1,y2⟩|⟨k,c,ob,e1,e2,e3⟩
   ·exact .inl ⟨k,ob,es,ep,del _ _ e1 (slot _ (.inl rfl)),e2,y1,y2⟩
   ·exact .inr ⟨k,c,ob,e1,del _ _ e2 (slot _ (.inr ⟨n,qk,k,e1⟩)),e3⟩
  rcases aU.mem H.nd hn with⟨rfl,rfl⟩|⟨ea,pK⟩
  ·exact⟨vo,var vo (fY hm) hv,ev,_,_,_,_,rfl,lf _ _ e0,Fz.aJ ..,e4.mono lf⟩
  ·obtain⟨vo,h1,h2⟩:=H.vars _ _ pK
   refine⟨vo,var vo (fY pK) h1,?_⟩
   cases b with
   |unset=>trivial
   |val d=>obtain⟨v,e,hd⟩:=h2; exact⟨v,e,hd.mono lf⟩
   |res u q=>exact⟨h2.1,q.mono _ _ _ _ lf (λb hb y e=>del b y e λhr=>H.two _ _ _ _ _ _ pK hm ea b hb (hr▸ .head _)) h2.2⟩
 ·rcases aU.mem H.nd hn with⟨_,e⟩|⟨_,pK⟩
  ·cases e; exact nomatch ha
  ·exact H.sep _ _ _ pK a' ha ((Slots.set aU).mp hs)
 ·rcases aU.mem H.nd h1 with⟨_,e⟩|⟨_,h1⟩
  ·cases e; exact nomatch ha
  ·rcases aU.mem H.nd h2 with⟨_,e⟩|⟨_,h2⟩
   ·cases e; exact nomatch hb
   ·exact H.two _ _ _ _ _ _ h1 h2 ea a' ha hb
 ·rcases h with h|⟨n,h1,h2,h3⟩|⟨n,r,h1,h2⟩
  ·exact .inl h
  ·exact .inr (.inl ⟨n,h1,aU.keys▸h2,h3⟩)
  ·rcases aU.mem H.nd h1 with⟨_,e⟩|⟨_,h1⟩
   ·cases e; exact nomatch h2
   ·exact .inr (.inr ⟨n,r,h1,h2⟩)
 ·refine Uses.of aU.keys (rh aU hm λ_ h=>by exact nomatch h) h
theorem JY{ss:List Stmt}{x:Str}{a dx Ca:Addr}{fs:List (Str×D)}(h:VS W C a9 ss Q)(hm:autoParam ((x,Bd.res true (gX a dx Ca fs))∈ρ) vm._auto_1)(aU:autoParam (Ro.Set x (.res true (E8 (.ref a) (.obj Ca fs))) ρ a9) H9._auto_1):VS W C ρ ss Q:=vs (.Xx hm aU h.un)
end
noncomputable def gv(b:Bool)(c:Nat):Bool:=(decide (32<=c)&&decide (c<127))||(!b&&decide (c=9))
noncomputable def clean(b:Bool)(x:List Nat):Bool:=x.all (gv b)
noncomputable def codeN:Array Nat:=#[14,10,4,1,1,22,0,31,16,127,0,13,7,22,0,31,16,127,0,1]
noncomputable def wc:Array Nat:=#[14,14,4,1,1,9,4294966783,0,0,2147483648,0,0,0,0,0,13,11,9,4294966783,0,0,2147483648,0,0,0,0,0,1]
theorem wd{b:Bool}{c:Nat}(h:gv b c=true):c<127:=by
 unfold gv at h
 simp only[iO,cq,decide_eq_true_eq] at h
 (first|lia|omega)
theorem Xy{c:Nat}(h:gv true c=true)(sn:Sre.Seen):∃Aj,qa codeN c codeN.size 5 true sn= .ok (false,Aj):=by
 have h':32<=c/\c<127:=by
  unfold gv at h
  simpa using h
 have e1:(decide (0<=c)&&decide (c<=31))=false:=by
  rw[Bool.and_eq_false_iff]; right; simp; exact aN 90706445789547009 tt h'.1
 have e2:(c==127)=false:=by simp; exact RM h'
 refine⟨((sn.add 22).add 16).add 0,?_⟩
 show(if(decide (0<=c)&&decide (c<=31))=true then r8 (true,sn.add 22) else(if(c==127)=true then r8 (true,(sn.add 22).add 16) else r8 (false,((sn.add 22).add 16).add 0)))=_
 rw[e1,e2]
 rfl
theorem Xz:∀c,c<127->gv false c=true->(wc.getD (5+(1+c / 32)) 0).testBit (c % 32)=false:=by decide+kernel
theorem XA{c:Nat}(h:gv false c=true)(sn:Sre.Seen):∃Aj,qa wc c wc.size 5 true sn= .ok (false,Aj):=by
 have e1:(decide (c<256)&&(wc.getD (5+(1+c / 32)) 0).testBit (c % 32))=false:=by rw[Xz c (wd h) h,pE]
 refine⟨(sn.add 9).add 0,?_⟩
 show(if(decide (c<256)&&(wc.getD (5+(1+c / 32)) 0).testBit (c % 32))=true then r8 (true,sn.add 9) else r8 (false,(sn.add 9).add 0))=_
 rw[e1]
 rfl
theorem yP{b:Bool}{x:List Nat}(h:clean b x=true){i:Nat}(hi:i<(aS x).cps.size):gv b ((aS x).cps.getD i 0)=true:=by
 have vP:i<x.length:=hi
 have:(aS x).cps.getD i 0=x[i]:=by
  show(⟨x⟩:Array Nat).getD i 0=_
  simp[Array.getD,vP]
 rw[this]
 exact aT.mp h _ (dg vP)
section
variable {W:Wd}{C:Cx}{ρ a9 bD bZ:Ro}{names:List (Str×aC)}{Q:Out->Prop}{f o:Fz}{s:Shared}
noncomputable def wg(b:Bool):Addr:=if b then 179 else 184
theorem Ip(X:cH W)(b:Bool):Meth W (.raw (.ref (wg b))) (J "search") (.builtin "re.Pattern.search"):=λA f o s v pl S hv Q E h=>by
 obtain rfl:v= .ref (wg b):=hv
 have key:∃ob,s.heap.get? (wg b)=some ob/\ob.cls= .type "re.Pattern" /\ob.dict=none:=by
  cases b with
  |true=>exact⟨_,S.bT _ _ (X.sj 179 _ rfl),rfl,rfl⟩
  |false=>exact⟨_,S.bT _ _ (X.sj 184 _ rfl),rfl,rfl⟩
 obtain⟨ob,h1,h2,h3⟩:=key
 exact nP ⟨ob,h1,h2⟩ vd kM tQ (λa e=>by cases e; exact⟨ob,h1,h3⟩) h
theorem AA(X:cH W){A:Around}(b:Bool){x:List Nat}(hx:clean b x=true)(hl:x.length<=1000000):l7 W A (.builtin "re.Pattern.search") [.raw (.ref (wg b)), .str (aS x)] .none:=λf o s vs S hd Q E h=>by
 obtain⟨v,r,rfl,h1,u,r',rfl,h2,h3⟩:=hd
 obtain rfl:v= .ref (wg b):=h1
 obtain⟨t,rfl⟩:=h2
 rw[show r'=[] from h3]
 have fin:=h .none f s (.refl f) S rfl
 cases b with
 |true=>exact rS (S.bT _ _ (X.sj 179 _ rfl)) rfl rfl rfl rfl rfl (S.bT _ _ (X.sj 178 _ rfl)) rfl (code:=codeN) (by kernel_rfl) (by kernel_rfl) (by kernel_rfl) (λi hi sn=>Xy (yP hx hi) sn) hl fin
 |false=>exact rS (S.bT _ _ (X.sj 184 _ rfl)) rfl rfl rfl rfl rfl (S.bT _ _ (X.sj 183 _ rfl)) rfl (code:=wc) (by kernel_rfl) (by kernel_rfl) (by kernel_rfl) (λi hi sn=>XA (yP hx hi) sn) hl fin
theorem CX(X:cH W):cK W (J "_name_disallowed_re") (.ref 179):=X.glob (by kernel_rfl)
theorem AB(X:cH W):cK W (J "_value_disallowed_re") (.ref 184):=X.glob (by kernel_rfl)
theorem cH.JZ(X:cH W)(a:Addr){A:Around}{n:Nat}{ps:List Str}{ds:List D}{d:D}{ρ:Ro}{names:List (Str×aC)}{vs:List Value}{kw:List (Str×Value)}{Q:Value->Shared->Prop}{E:Value->Shared->Prop}(lv:Lv (n+1) A)
 (yD:∃ob,(KK W).lookup a=some ob/\ob.data= .func (cm (KK W) a)) (ip:(cm (KK W) a).body= .stmts (cj (KK W) a)) (lx:codeIn (KK W) (cm (KK W) a).code (cm (KK W) a).qualname=true) (n0:(cm (KK W) a).closure=[])
 (fx:(cm (KK W) a).scope.names=names) (j4:decide (names.map (·.1)).Nodup=true) (hk:(cm (KK W) a).scope.kind= .function) (hg:(cm (KK W) a).globals=bV) (hb:(cm (KK W) a).builtins=cP)
 (wZ:(cm (KK W) a).scope.isCoroutine=false) (n7:(cm (KK W) a).scope.isGenerator=false) (m9:decide ps.Nodup=true)
 (Af:(ps.all λp=>names.lookup p==some .local||names.lookup p==some .cell)=true)
 (jP:∀(Q:List (Str×Value)->Shared->Prop) (E:Value->Shared->Prop),(∀vs f1 s1,f.le f1->St W.B f1 o s1->bQ f1 ds vs->Q (ps.zip vs) s1)->wpAny W.M A.in1 (eQ (cm (KK W) a) ⟨vs,kw⟩) Q E s)
 (hp:kj (ps.zip ds) names ρ) (S:St W.B f o s)
 (h:∀C:Cx,CK C names->Lv n C.A->VS W C ρ (cj (KK W) a) (Ends d)) (hQ:∀v f' s',f.le f'->St W.B f' o s'->Den f' d v->Q v s'):wpAny W.M A (call (.ref a) vs kw) Q E s:=by
 refine fQ (X.code (P:=λ_=>True) a lv yD ip lx n0 fx j4 hk hg hb wZ n7 m9 Af (λQ E k=>jP Q E λvs f1 s1 l1 S1 d1=>k vs f1 s1 l1 S1 d1 trivial) hp S λf1 env dr cU _ l1 lo jf H mG _ hm=>?_)
 exact ud (C:=⟨env,A.deeper env,names⟩) (h _ ⟨H.ok,mG.hand,rfl⟩ mG) jf H lo hm (R:=λr s'=>match r with| .ok (.ret v)=>Q v s'| .ok _=>False| .error e=>E e s') λv' f' s' l' S' d'=>hQ v' f' s' (l1.trans l') S' d'
theorem XB(X:cH W){A:Around}(lv:Lv 1 A){dS:D}{b:Bool}{x:List Nat}(hx:clean b x=true)(hl:x.length<=1000000):v9 W A (.ref 214) [dS, .str (aS x)] ["name"] [.bool b] (.str (aS x)):=OH λf o s vs ks S hd hk Q E h=>by
 obtain⟨v1,r,rfl,h1,v2,r',rfl,h2,h3⟩:=hd
 obtain rfl:r'=[]:=h3
 obtain⟨k1,r2,rfl,h4,h5⟩:=hk
 obtain rfl:r2=[]:=h5
 refine X.JZ 214 (d:= .str (aS x)) (ps:=["self","value","name"]) (ds:=[dS, .str (aS x), .bool b]) (ρ:=[("self", .val dS),("value", .val (.str (aS x))),("name", .val (.bool b)),("regex", .unset)])
  (names:=[(J "self",ae),(J "value",ae),(J "name",ae),(J "regex",ae),(J "type",ag),(J "str",ag),(J "_name_disallowed_re",ag),(J "_value_disallowed_re",ag),(J "ValueError",ag),(J "AssertionError",ag),(J "repr",ag)]) lv ⟨_,rfl,rfl⟩ rfl (by kernel_rfl) rfl rfl (by kernel_rfl) rfl rfl rfl rfl rfl (by kernel_rfl) (by kernel_rfl) (λQ E k=>?_) ?_ S (λC K mG=>?_) h
 ·have e:eQ (cm (KK W) 214) ⟨[v1,v2],[(J "name",k1)]⟩=pure [(J "self",v1),(J "value",v2),(J "name",k1)]:=by kernel_rfl
  show wpAny _ _ (eQ (cm (KK W) 214) ⟨[v1,v2],[(J "name",k1)]⟩) Q E s
  rw[e]
  exact ao (k [v1,v2,k1] f s (.refl f) S (.cons h1 (.cons h2 (.cons h4 .nil))))
 ·show kj [(_,_),(_,_),(_,_)] _ _
  exact qY
 ·refine jw (b:=true) (kO K (bS (gl K (Av X)) .type (a1 (nm K)) (v8 (T:= "str") rfl (by decide))) (gl K (EV X)) Il) (λ_=>?_) λe=>by exact nomatch e
  refine let1 (d:= .raw (.ref (wg b))) (vq (Ar K (nm K) gz) (λhb=> .eq (gl K (CX X)) (by subst hb; rfl)) λhb=> .eq (gl K (AB X)) (by subst hb; rfl)) (cx K) ?_
  refine jw (b:=false) (Ar K (gg (nm K) (Ip X b) .builtin (a1 (nm K)) (AA X b hx hl)) E7) (λe=>by exact nomatch e) λ_=>dh ?_
  exact j6 (nm K) rfl
end
noncomputable def rz(p:List Nat×List Nat):D:= .tup [.str (aS p.1), .str (aS p.2)]
noncomputable abbrev pL(ps:List (List Nat×List Nat)):D:= .obj 313 [("_headers", .list (ps.map rz))]
structure vr(p:List Nat×List Nat):Prop where
 name:clean true p.1=true
 val:clean false p.2=true
 Iq:p.1.length<=1000
 LM:p.2.length<=1000
theorem rX{b:Bool}{x:List Nat}(h:clean b x=true):x.all (·<128)=true:=by
 rw[aT]
 intro c hc
 have:=wd (aT.mp h c hc)
 simp; exact aN 0x1ff2a02010a212a0201 tt this
theorem wh{x:List Nat}(h:clean true x=true):clean true (x.map lo1)=true:=by
 unfold clean at*
 rw[List.all_map,aT]
 rw[aT] at h
 intro c hc
 have h1:=h c hc
 unfold gv at h1
 simp only[lF]
 have h2:32<=c/\c<127:=by simpa using h1
 have key:∀c,c<127->32<=c->gv true (lo1 c)=true:=by decide+kernel
 exact key c h2.2 h2.1
section
variable {W:Wd}{C:Cx}{ρ a9 bD bZ:Ro}{names:List (Str×aC)}{Q:Out->Prop}{f o:Fz}{s:Shared}
theorem Ir(X:cH W){d:D}:Meth W (.obj 313 [("_headers",d)]) (J "_convert_string_type") (.ref 214):=jG X (by kernel_rfl) (by kernel_rfl) (by kernel_rfl) (by kernel_rfl)
theorem oR(X:cH W)(K:CK C names)(lv:Lv 1 C.A){d:D}{b:Bool}{x:List Nat}{ob e:Expr}{k:Nat}{apos pos LL XC:Pos}(ho:VE W C ρ ob (.obj 313 [("_headers",d)]))(he:VE W C ρ e (.str (aS x)))(hx:clean b x=true)(hl:x.length<=1000)
 (pd:autoParam (aI [e] C.env=[(false,eval e C.env)]) fL._auto_1) (LN:autoParam ((apos.endLine==pos.line)=true) vk._auto_1) (hb:autoParam (bx ob (J "_convert_string_type") C.env (eval ob C.env)=eval ob C.env) fL._auto_1):
 VE W C ρ (.Call (.Attribute ob (J "_convert_string_type") apos) [e] [⟨some (J "name"), .Constant (.bool b) k XC,LL⟩] pos) (.str (aS x)):=
 LK K (I:=λ_ _=>True) (λ_ _ _=>trivial) ho (Ir X).G7 (X.kept (by kernel_rfl)) he JO (XB X lv hx (by exact aN 0xfd8900217d25484801 tt hl)).un pd LN hb
inductive OL(ps:List (List Nat×List Nat))(x:Addr)(xs:List D)(ρ:Ro):Prop
 |mk (r:List (List Nat×List Nat)) (b1 b2:Bd) (h1:xs=r.map rz) (h2:(∀p∈r,vr p)) (h3:ρ=([("self", .res true (E8 (.ref x) (pL ps))),("headers", .val (.list (ps.map rz))),("k",b1),("v",b2)]:Ro)):OL ps x xs ρ
theorem XD(X:cH W){A:Around}(lv:Lv 4 A){ps:List (List Nat×List Nat)}(m9:∀p∈ps,vr p):iJ W A (.ref 313) [.list (ps.map rz)] (pL ps):=by
 refine Ap (Az.E8 (rW.un (X.JX 313 207 (n:=2) (self:= "self") (ps:=["headers"]) (dd:=[]) (ρ:=λx=>[("self", .val (.raw (.ref x))),("headers", .val (.list (ps.map rz))),("k", .unset),("v", .unset)]) (a9:=λx dx=>[("self", .res true (gX x dx 313 [])),("headers", .val (.list (ps.map rz))),("k", .unset),("v", .unset)])
  (names:=[(J "self",ae),(J "headers",ae),(J "k",ae),(J "v",ae),(J "type",ag),(J "list",ag),(J "TypeError",ag),(J "__debug__",ag)]) (keys:=["self","headers","k","v"])
  lv (by kernel_rfl) (by kernel_rfl) (by kernel_rfl) ⟨_,rfl,rfl⟩ rfl (by kernel_rfl) rfl rfl (by kernel_rfl) rfl rfl rfl rfl rfl (by kernel_rfl) (by kernel_rfl) (λv vs f s X' hd=>?_) (λx=>?_) (λx=>rfl) (by kernel_rfl) (λx=>rfl) (λx dx=>kB) (λx=>ij) (λx dx C O lv hN=>?_))))
 ·obtain⟨v2,r,rfl,h1,h2⟩:=hd
  obtain rfl:r=[]:=h2
  refine⟨[], .nil,kp_binds X' λS=>?_⟩
  kernel_rfl
 ·show kj [(_,_),(_,_)] _ _
  exact qY
 ·have K:CK C _:=⟨O,lv.hand,hN⟩
  refine let1 (vq (b:=true) (kO K (nm K) Xf (qy (by intro h; exact nomatch h) (by intro v h; exact nomatch h))) (λ_=>nm K) (λe=>by exact nomatch e)) (cx K) ?_
  refine jw (b:=false) (kO K (bS (gl K (Av X)) .type (a1 (nm K)) (v8 (T:= "list") rfl (by decide))) (gl K (xb X)) ub) (λe=>by exact nomatch e) λ_=>dh ?_
  refine let1 (nm K) (Ax X K) ?_
  refine JY (x:= "self") (a:=x) (dx:=dx) (Ca:=313) (fs:=[("_headers", .list (ps.map rz))]) (a9:=[("self", .res true (E8 (.ref x) (pL ps))),("headers", .val (.list (ps.map rz))),("k", .unset),("v", .unset)]) ?_ (cw) kB
  refine jw (b:=true) (Ar K JO gz) (λ_=>?_) λe=>by exact nomatch e
  refine mO K (jE K (nm K) bp) (OL ps x) ⟨ps,_,_,rfl,m9,rfl⟩ ?_ ?_
  ·rintro ρ ⟨r,b1,b2,e1,e2,rfl⟩
   refine dh (dh ?_)
   exact⟨_,cw,rfl,_,rfl⟩
  ·rintro y xs ρ ⟨r,b1,b2,e1,e2,rfl⟩
   cases r with
   |nil=>exact nomatch e1
   |cons p r=>
    obtain⟨rfl,rfl⟩:y=rz p/\xs=r.map rz:=by cases e1; exact⟨rfl,rfl⟩
    have hp:=e2 p (.head _)
    refine⟨_,iV K (cx K) (cx K),?_⟩
    refine JV K (oR X K (lv.le (by simp[*])) (ZN K) (nm K) hp.name hp.Iq) (JV K (oR X K (lv.le (by(first|lia|omega))) (ZN K) (nm K) hp.val hp.LM) (dh ?_))
    exact⟨r,_,_,rfl,λq hq=>e2 q (.tail _ hq),rfl⟩
theorem yQ(X:cH W){d:D}(hr:autoParam (∀u,d≠ .raw u) Lq._auto_1):yf W (λv=>gn v (J "_headers") true) (.obj 313 [("_headers",d)]) d:=rv X (attr:=aD) (by kernel_rfl) (by kernel_rfl) (by kernel_rfl) rfl (by kernel_rfl) hr
noncomputable def getOf(ps:List (List Nat×List Nat))(x:List Nat):D:=match ps.find? λp=>decide (p.1.map lo1=x.map lo1) with
 |some p=> .str (aS p.2)
 |aD=> .none
theorem rA(K:CK C names){e:Expr}{apos pos:Pos}{x:List Nat}(he:VE W C ρ e (.str (aS x)))(hx:clean true x=true)(hl:x.length<=1000)(LN:autoParam ((apos.endLine==pos.line)=true) vk._auto_1)(hb:autoParam (bx e (J "lower") C.env (eval e C.env)=eval e C.env) fL._auto_1):
 VE W C ρ (.Call (.Attribute e (J "lower") apos) [] [] pos) (.str (aS (x.map lo1))):=
 gg he (ir PySem.F.slot_str_lower PySem.F.type_str_lower) .builtin a0 (CP (rX hx) hl) rfl (by decide) LN hb
inductive OM(ps:List (List Nat×List Nat))(x:List Nat)(xs:List D)(ρ:Ro):Prop
 |mk (r:List (List Nat×List Nat)) (b1 b2:Bd) (h1:xs=r.map rz) (h2:(∀p∈r,vr p)) (h3:getOf ps x=getOf r x) (h4:ρ=([("self", .val (pL ps)),("name", .val (.str (aS (x.map lo1)))),("default", .val .none),("k",b1),("v",b2)]:Ro)):OM ps x xs ρ
theorem XE(X:cH W){A:Around}(lv:Lv 2 A){ps:List (List Nat×List Nat)}(m9:∀p∈ps,vr p){x:List Nat}(hx:clean true x=true)(hl:x.length<=1000):iJ W A (.ref 260) [pL ps, .str (aS x)] (getOf ps x):=Ap λf o s vs S hd Q E h=>by
 obtain⟨v1,r,rfl,h1,v2,r',rfl,h2,h3⟩:=hd
 obtain rfl:r'=[]:=h3
 refine X.JZ 260 (d:=getOf ps x) (ps:=["self","name","default"]) (ds:=[pL ps, .str (aS x), .none]) (ρ:=[("self", .val (pL ps)),("name", .val (.str (aS x))),("default", .val .none),("k", .unset),("v", .unset)])
  (names:=[(J "self",ae),(J "name",ae),(J "default",ae),(J "k",ae),(J "v",ae)]) lv ⟨_,rfl,rfl⟩ rfl (by kernel_rfl) rfl rfl (by kernel_rfl) rfl rfl rfl rfl rfl (by kernel_rfl) (by kernel_rfl) (λQ E k=>?_) ?_ S (λC K mG=>?_) h
 ·exact kp_binds (K:=KK W) (binds:=[(J "self",v1),(J "name",v2),(J "default", .none)]) (X.sF S) (λS=>by kernel_rfl) _ _ _ _ (k [v1,v2, .none] f s (.refl f) S (.cons h1 (.cons h2 (.cons rfl .nil))))
 ·show kj [(_,_),(_,_),(_,_)] _ _
  exact qY
 ·refine let1 (oR X K (mG.le (by simp[*])) (nm K) (rA K (nm K) hx hl) (wh hx) (by simpa using hl)) (cx K) ?_
  refine mO K (jE K (jV K (nm K) (yQ X)) bp) (OM ps x) ⟨ps,_,_,rfl,m9,rfl,rfl⟩ ?_ ?_
  ·rintro ρ ⟨r,b1,b2,e1,e2,e3,rfl⟩
   cases r with
   |cons _ _=>exact nomatch e1
   |nil=>exact j6 (nm K) (by rw[e3]; rfl)
  ·rintro y xs ρ ⟨r,b1,b2,e1,e2,e3,rfl⟩
   cases r with
   |nil=>exact nomatch e1
   |cons p r=>
    obtain⟨rfl,rfl⟩:y=rz p/\xs=r.map rz:=by cases e1; exact⟨rfl,rfl⟩
    have hp:=e2 p (.head _)
    refine⟨_,iV K (cx K) (cx K),?_⟩
    refine jw (kO K (rA K (nm K) hp.name hp.Iq) (nm K) tK) (λh=>?_) λh=>dh (dh ?_)
    ·refine j6 (nm K) ?_
     show D.str _=_
     rw[e3]; unfold getOf; rw[iN,h]
    ·refine⟨r,_,_,rfl,λq hq=>e2 q (.tail _ hq),?_,rfl⟩
     rw[e3]; unfold getOf; rw[iN,h]
noncomputable def allOf(ps:List (List Nat×List Nat))(x:List Nat):List D:=(ps.filter λp=>decide (p.1.map lo1=x.map lo1)).map λp=> .str (aS p.2)
theorem ON(X:cH W){A:Around}(lv:Lv 2 A){ps:List (List Nat×List Nat)}(m9:∀p∈ps,vr p)(hn:ps.length<=1000){x:List Nat}(hx:clean true x=true)(hl:x.length<=1000):iJ W A (.ref 252) [pL ps, .str (aS x)] (.list (allOf ps x)):=by
 refine X.fn 252 (n:=1) (ps:=["self","name"]) (ρ:=[("self", .val (pL ps)),("name", .val (.str (aS x)))])
  (names:=[(J "self",ae),(J "name",aq)])
  lv ⟨_,rfl,rfl⟩ rfl (by kernel_rfl) rfl rfl (by kernel_rfl) rfl rfl rfl rfl rfl (by kernel_rfl) (by kernel_rfl) (tW λa b=>by kernel_rfl) ?_ (λC O lv hN sA=>?_)
 ·show kj [(_,_),(_,_)] _ _
  exact qY
 ·have K:CK C _:=⟨O,lv.hand,hN⟩
  refine let1 (oR X K (lv.le (by(first|lia|omega))) (nm K) (rA K (nm K) hx hl) (wh hx) (by simpa using hl)) (cx K) ?_
  refine j6 (dY (eW:=[(".0", .unset),("kv", .unset),("name", .val (.str (aS (x.map lo1))))]) K (jE K (jV K (nm K) (yQ X)) bp) (λC' K' e=>?_) kq ?_) rfl
  ·refine sm ps rz (λp=>decide (p.1.map lo1=x.map lo1)) (λp=> .str (aS p.2)) (λp=>[(".0", .unset),("kv", .val (rz p)),("name", .val (.str (aS (x.map lo1))))]) (λp hp=>cx K') (λp hp=>?_) (λp hp _=>?_) λp hp=>jS
   ·exact kO K' (rA K' (dA (T:= "tuple") (da:=rz p) (di:= .int (0:Nat)) K' (nm K') num cu (fw rfl (by simp[*]))) (m9 p hp).name (m9 p hp).Iq) (nm K') tK
   ·exact dA (T:= "tuple") (da:=rz p) (di:= .int (1:Nat)) K' (nm K') num cu (fw rfl (by(first|lia|omega)))
  ·unfold allOf
   rw[ai]
   exact aP (ba _ _) (by exact aN 0xfd8900210e2da84801 tt hn)
noncomputable def xd:Obj:={cls:= .type "dict",data:= .dict #[]}
noncomputable def yR(d:Addr):Res where
 v:= .ref d
 as:=[]
 P:=λf _=>f d=some xd
 mono:=λf f' o o' h _ x=>h _ _ x
 there:=λ_ _ _ a ha=>by exact nomatch ha
theorem AD{h:Heap}{d:Addr}(e:h.get? d=some xd):h.DictAt (strKind W.prog W.w) d [] 0:=
 ⟨xd,#[],e,⟨rfl,rfl,rfl⟩,rfl,λe he=>by simp at he,by constructor,Ky⟩
theorem LP{eO:Expr}{d it:Addr}{f:Fz}{ob:Obj}(hd:f d=some xd)(CL:ob={cls:= .type "dict_itemiterator",data:= .fields #[.none, .bool false, .ref d, .int 0 0, .int (0:Nat) 0, .int (0:Nat) 0, .none, .none]}):oZ W eO [] (one it ob) f (.ref it):=λA f' o s Q E hh r l1 wl S h=>by
 have hit:=S.own _ _ (wl _ _ (bW ..))
 subst CL
 refine wpAny_pyNext_items_end (knd:=strKind W.prog W.w) (d:=d) (i:=0) (ep:=0) (kvs:=[]) (ok:= .none) (ov:= .none) hh hit (AD (W:=W) (S.sub _ _ (l1 _ _ hd))) rfl λh' he=>?_
 exact h _ _ (S.ext (wl _ _ (bW ..)) he) (oY.del (by rw[bW]; simp))
theorem E9(K:CK C names){eO e:Expr}{apos pos:Pos}{x:Str}{w:Bool}{d:Addr}(he:VE W C ρ e (.raw (.ref d)))(hm:(x,Bd.res w (yR d))∈ρ)(OG:(d==sysModules)=false)
 (hl:autoParam ((apos.endLine==pos.line)=true) vk._auto_1) (hb:autoParam (bx e (J "items") C.env (eval e C.env)=eval e C.env) fL._auto_1):zZ W C ρ eO (.Call (.Attribute e (J "items") apos) [] [] pos) []:=λf o s S H Q E h=>by
 show wpAny _ _ (do
  let ov <-bx e (J "items") C.env (eval e C.env)
  dE apos.atName
  eX e (J "items") apos pos C.env ov 0 [] []) _ _ s
 rw[hb]
 refine aa (he.un f o s S H _ _ λv f1 s1 l1 S1 dv=>aa (aZ ?_))
 obtain rfl:v= .ref d:=dv
 have hd:f1 d=some xd:=held (r:=yR d) hm f1 o (H.mono l1 (.refl o))
 have hg:=S1.sub _ _ hd
 unfold eX rN
 rw[show eB 0 [] []=true from rfl]
 refine aa (aL (nP ⟨_,hg,rfl⟩ PySem.F.plainAttrs_dict wL PySem.F.type_dict_items (λa e=>by cases e; exact⟨_,hg,rfl⟩) ?_))
 unfold ji
 rw[hl]
 refine aa (ao ?_)
 refine d6 (P:=λh=>∀a x,W.B.f a=some x->h.get? a=some x) rfl (λh _=>⟨.machine, .inr (.inl rfl),x8⟩) (dj rfl (d9 ⟨S1.bT,?_⟩))
 refine call_meetsIn wL ⟨_,hg,rfl⟩ PySem.F.entry_dict_items (PySem.F.args_dict_items_1 _) (meets_dict_items (strKind W.prog W.w) d OG) ⟨⟨[],(AD (W:=W) hg).dictOf⟩,?_⟩
 have S2:=S1.ju {cls:= .type "dict_items",data:= .fields #[.ref d]}
 have l2:f1.le (f1.put s1.heap.objs.size {cls:= .type "dict_items",data:= .fields #[.ref d]}):=Fz.bP S1.gQ
 have hg2:=S2.sub _ _ (l2 _ _ hd)
 refine wpAny_pyIter_items (knd:=strKind W.prog W.w) (kvs:=[]) (ep:=0) ⟨_,S2.sub _ _ (Fz.aJ ..),rfl,rfl⟩ (AD (W:=W) hg2) ?_
 have S3:=S2.gV {cls:= .type "dict_itemiterator",data:= .fields #[.none, .bool false, .ref d, .int 0 0, .int (0:Nat) 0, .int (0:Nat) 0, .none, .none]}
 refine h _ (one _ _) _ _ _ (l1.trans l2) S3 (Fz.bP S2.eZ) (one_le (Fz.aJ ..)) (λa ha=>by rw[mH ha]; exact S2.eZ) (LP (l2 _ _ hd) rfl) ?_
 intro A' f' o' s' Q' E' l' wl S' hQ
 have hit:=S'.own _ _ (wl _ _ (bW ..))
 exact kcp_self hit hQ
theorem LQ(K:CK C names){eO e:Expr}{body rest:List Stmt}{pos:Pos}{a:Addr}(he:VE W C ρ e (.raw (.ref a)))(hI:∀f o,bc C ρ f o->k9 f o a [])(h:VS W C ρ rest Q)(hs:autoParam (∀x,bH e C.env x=pure x) MP._auto_1):VS W C ρ (.For eO e body [] pos::rest) Q:=
 vs (.cons λf o s S H P E hP=>wpAny_For (he.un f o s S H _ E λv f1 s1 l1 S1 d1=>by
  obtain rfl:v= .ref a:=d1
  have H1:=H.mono l1 (.refl o)
  obtain⟨vs,hl,hv⟩:=(hI f1 o H1).isList S1
  obtain rfl:vs=[]:=hv
  refine ik hl ?_
  have S2:=S1.gV {cls:= .type "list_iterator",data:= .fields #[.ref a, .int (0:Nat) 0]}
  refine gk ?_
  show wpAny _ _ ((zB eO (.ref s1.heap.objs.size) body [] C.env).onRaise (λx=>do iK x C.env; gi x)) _ _ _
  rw[rj]
  refine nM ?_
  simp only[zB]
  have ea:a≠s1.heap.objs.size:=by obtain⟨ob,hg,_⟩:=hl; exact bg (bJ hg)
  refine aa (aZ (aa (kY (qS K.hand (i:=0) (items:=#[]) ⟨_,S2.own _ _ (Fz.aJ ..),rfl,rfl⟩ (hl.push _) rfl λh' Xv=>?_))))
  have S3:St W.B f1 o {s1 with heap:=h'}:=by
   have:=S2.ext (Fz.aJ ..) Xv
   refine this.drop λb y e=>?_
   have hb:b≠s1.heap.objs.size:=λq=>by subst q; exact iB (S1.eZ ..) e
   unfold Fz.del; rw[if_neg hb,Fz.az hb]; exact e
  refine ao ⟨rfl,codeAny_block (jm ?_)⟩
  exact hP (.next ρ) _ _ h.un ⟨rfl,f1,o,l1,S3,H1, .refl o,λ_ h=> .inl h,λ_ h=> .inl h⟩) hs)
theorem fP.lend{ss:List Stmt}{x y:Str}{r1 r2 r:Res}(hx:(x,Bd.res true r1)∈ρ)(hy:(y,Bd.res true r2)∈ρ)(EB:x≠y)(h1:Ro.Set y .unset ρ bD)(h2:Ro.Set x (.res true r) bD bZ)(hv:r.v=r1.v)(has:∀a∈r.as,a∈r1.as\/a∈r2.as)
 (hP:∀f o,r1.P f o->r2.P f o->r.P f o) (h:fP W C bZ ss Q):fP W C ρ ss Q:=h.ghost λf o s S H=>by
 have nd1:(bD.map (·.1)).Nodup:=by rw[h1.keys]; exact H.nd
 have keys:bZ.map (·.1)=ρ.map (·.1):=h2.keys.trans h1.keys
 have back:∀n b,(n,b)∈bZ->(n=x/\b= .res true r)\/(n=y/\b= .unset)\/(n≠x/\n≠y/\(n,b)∈ρ):=λn b hm=>by
  rcases h2.mem nd1 hm with⟨e1,e2⟩|⟨n1,hm⟩
  ·exact .inl ⟨e1,e2⟩
  ·rcases h1.mem H.nd hm with⟨e1,e2⟩|⟨n2,hm⟩
   ·exact .inr (.inl ⟨e1,e2⟩)
   ·exact .inr (.inr ⟨n1,n2,hm⟩)
 have slots:∀a,Slots C bZ a->Slots C ρ a:=λa hs=>by
  rcases hs with e|⟨n,h1,h2,h3⟩
  ·exact .inl e
  ·exact .inr ⟨n,keys▸h1,h2,h3⟩
 obtain⟨vx,ax,ex,px⟩:=H.vars _ _ hx
 obtain⟨vy,ay,ey,py⟩:=H.vars _ _ hy
 refine⟨f,o, .refl f,S,⟨H.ok,H.ns,λn b hm=>?_,by rw[keys]; exact H.nd,λn u q hm a ha hs=>?_,λn n' u u' q q' p1 p2 ea a ha hb=>?_⟩, .refl o,λa hm=> .inl ?_,λa hu=> .inl ?_⟩
 ·rcases back n b hm with⟨rfl,rfl⟩|⟨rfl,rfl⟩|⟨_,_,hm⟩
  ·exact⟨vx,ax,by rw[hv]; exact ex,hP f o px py⟩
  ·exact⟨vy,ay,trivial⟩
  ·exact H.vars _ _ hm
 ·rcases back n _ hm with⟨rfl,e⟩|⟨rfl,e⟩|⟨_,_,hm⟩
  ·cases e
   rcases has a ha with q|q
   ·exact H.sep _ _ _ hx a q (slots a hs)
   ·exact H.sep _ _ _ hy a q (slots a hs)
  ·exact nomatch e
  ·exact H.sep _ _ _ hm a ha (slots a hs)
 ·rcases back n _ p1 with⟨rfl,e⟩|⟨rfl,e⟩|⟨n1,n2,m1⟩
  ·cases e
   rcases back n' _ p2 with⟨rfl,e⟩|⟨rfl,e⟩|⟨ZO,ZP,m2⟩
   ·exact ea rfl
   ·exact nomatch e
   ·rcases has a ha with q|q
    ·exact H.two _ _ _ _ _ _ hx m2 (Ne.symm ZO) a q hb
    ·exact H.two _ _ _ _ _ _ hy m2 (Ne.symm ZP) a q hb
  ·exact nomatch e
  ·rcases back n' _ p2 with⟨rfl,e⟩|⟨rfl,e⟩|⟨ZO,ZP,m2⟩
   ·cases e
    rcases has a hb with q|q
    ·exact H.two _ _ _ _ _ _ m1 hx n1 a ha q
    ·exact H.two _ _ _ _ _ _ m1 hy n2 a ha q
   ·exact nomatch e
   ·exact H.two _ _ _ _ _ _ m1 m2 ea a ha hb
 ·rcases hm with e|⟨n,h1,h2,h3⟩|⟨n,q,h1,h2⟩
  ·exact .inl e
  ·exact .inr (.inl ⟨n,h1,keys▸h2,h3⟩)
  ·rcases back n _ h1 with⟨rfl,e⟩|⟨rfl,e⟩|⟨_,_,hm⟩
   ·cases e
    rcases has a h2 with q|q
    ·exact .inr (.inr ⟨_,_,hx,q⟩)
    ·exact .inr (.inr ⟨_,_,hy,q⟩)
   ·exact nomatch e
   ·exact .inr (.inr ⟨_,_,hm,h2⟩)
 ·rcases hu with e|⟨n,u,q,h1,h2⟩
  ·exact .inl (slots a e)
  ·rcases back n _ h1 with⟨rfl,e⟩|⟨rfl,e⟩|⟨_,_,hm⟩
   ·cases e
    rcases has a h2 with q|q
    ·exact .inr ⟨_,_,_,hx,q⟩
    ·exact .inr ⟨_,_,_,hy,q⟩
   ·exact nomatch e
   ·exact .inr ⟨_,_,_,hm,h2⟩
noncomputable def jx(x l:Addr)(ps:List (List Nat×List Nat)):Res where
 v:= .ref x
 as:=[l]
 P:=λf o=>Den f (.obj 313 [("_headers", .raw (.ref l))]) (.ref x)/\LstIs f o l (ps.map rz)
 mono:=λf f' o o' h ho ⟨a,b⟩=>⟨a.mono h,(eI l (ps.map rz)).mono f f' o o' h ho b⟩
 there:=λf o ⟨_,b⟩ a ha=>(eI l (ps.map rz)).there f o b a ha
theorem OO(X:cH W){A:Around}(lv:Lv 4 A):rW W A (.ref 313) [] (λr=>∃x l,r=jx x l []):=by
 refine X.JX 313 207 (n:=2) (self:= "self") (ps:=["headers"]) (dd:=[.none]) (ρ:=λx=>[("self", .val (.raw (.ref x))),("headers", .val .none),("k", .unset),("v", .unset)]) (a9:=λx dx=>[("self", .res true (gX x dx 313 [])),("headers", .val .none),("k", .unset),("v", .unset)])
  (names:=[(J "self",ae),(J "headers",ae),(J "k",ae),(J "v",ae),(J "type",ag),(J "list",ag),(J "TypeError",ag),(J "__debug__",ag)]) (keys:=["self","headers","k","v"])
  lv (by kernel_rfl) (by kernel_rfl) (by kernel_rfl) ⟨_,rfl,rfl⟩ rfl (by kernel_rfl) rfl rfl (by kernel_rfl) rfl rfl rfl rfl rfl (by kernel_rfl) (by kernel_rfl) (λv vs f s X' hd=>?_) (λx=>?_) (λx=>rfl) (by kernel_rfl) (λx=>rfl) (λx dx=>kB) (λx=>ij) (λx dx C O lv hN=>?_)
 ·obtain rfl:vs=[]:=hd
  refine⟨[.none], .cons rfl .nil,kp_binds X' λS=>?_⟩
  kernel_rfl
 ·show kj [(_,_),(_,_)] _ _
  exact qY
 ·have K:CK C _:=⟨O,lv.hand,hN⟩
  refine Au K (Xs (kO K (nm K) Xf Ay) rfl (sf a0)) λl=>⟨_,kB,?_⟩
  refine jw (b:=false) (kO K (rt (λf o H=>(held (x:=J "headers") (w:=true) (r:=eI l []) ij f o H).G7) (gl K (Av X)) .type (a1 (JN K)) CW) (gl K (xb X)) ub) (λe=>by exact nomatch e) λ_=>dh ?_
  refine let1 (JN K) (Ax X K) ?_
  refine JY (x:= "self") (a:=x) (dx:=dx) (Ca:=313) (fs:=[("_headers", .raw (.ref l))]) (a9:=[("self", .res true (E8 (.ref x) (.obj 313 [("_headers", .raw (.ref l))]))),("headers", .res true (eI l [])),("k", .unset),("v", .unset)]) ?_ (cw) kB
  refine jw (b:=true) (Ar K JO gz) (λ_=>?_) λe=>by exact nomatch e
  refine LQ K (JN K) (λf o H=>(held (x:=J "headers") (w:=true) (r:=eI l []) ij f o H).G7) ?_
  refine vs (.lend (x:= "self") (y:= "headers") (r1:=E8 (.ref x) (.obj 313 [("_headers", .raw (.ref l))])) (r2:=eI l []) (r:=jx x l []) (bD:=[("self", .res true (E8 (.ref x) (.obj 313 [("_headers", .raw (.ref l))]))),("headers", .unset),("k", .unset),("v", .unset)]) (bZ:=[("self", .res true (jx x l [])),("headers", .unset),("k", .unset),("v", .unset)])
   ij ij (by decide+kernel) kB kB rfl (λa ha=> .inr ha) (λf o a b=>⟨a,b⟩) (VS.un (dh (dh ?_))))
  exact⟨_,cw,rfl,_,_,rfl⟩
noncomputable def OP(W:Wd)(A:Around)(fv:Value)(r:Res)(ds:List D)(r':Res):Prop:=∀f o s vs,St W.B f o s->r.P f o->bQ f ds vs->∀(Q:Value->Shared->Prop) (E:Value->Shared->Prop),
 (∀v f' o' s',f.le f'->St W.B f' o' s'->r'.P f' o'->(∀a y,o a=some y->a∉r.as->o' a=some y)->Q v s')->wpAny W.M A (call fv (r.v::vs) []) Q E s
theorem XF(K:CK C names){n:Str}{w:Bool}{r:Res}{d:D}{pos:Pos}(hm:(n,Bd.res w r)∈ρ)(hd:∀f o,r.P f o->Den f d r.v)(h1:autoParam ((n==("__debug__" :Str))=false) sG._auto_1)(h2:autoParam ((n==("__classdict__" :Str))=false) sG._auto_1):VE W C ρ (.Name n pos) d:=ve λf o s S H Q E h=>by
 obtain⟨vo,hv,e,hp⟩:=H.vars _ _ hm
 exact uP (sx K.ok S H hm hv e h2 (h _ f s (.refl f) S (hd f o hp))) h1
theorem LR(K:CK C names){ob:Expr}{name:Str}{es:List Expr}{apos pos OQ:Pos}{rest:List Stmt}{x:Str}{r r':Res}{fv:Value}{ds:List D}(CL:VE W C ρ ob (.raw r.v))(hm:(x,Bd.res true r)∈ρ)
 (OR:∀A f o s pl,St W.B f o s->r.P f o->∀(Q:Value×List Value->Shared->Prop) (E:Value->Shared->Prop),Q (fv,[r.v]) s->wpAny W.M A (xF r.v name pl) Q E s) (hk:Kept W fv) (ha:VA W C ρ es ds) (hc:OP W C.A fv r ds r')
 (aU:Ro.Set x (.res true r') ρ a9) (hv:r'.v=r.v) (has:r'.as=r.as) (iq:VS W C a9 rest Q)
 (hp:autoParam ((aI es C.env).all (λx=>!x.1)=true) fL._auto_1) (hn:autoParam (es.length+0<30) vk._auto_1) (hl:autoParam ((apos.endLine==pos.line)=true) vk._auto_1) (hb:autoParam (bx ob name C.env (eval ob C.env)=eval ob C.env) fL._auto_1)
 (hs:autoParam (gj (.Call (.Attribute ob name apos) es [] pos) aD OQ.line C.env=pure false) fL._auto_1):VS W C ρ (.Expr (.Call (.Attribute ob name apos) es [] pos) OQ::rest) Q:=
 vs (.cons λf o s S H P E hP=>rK (by
  show wpAny _ _ (do
   let ov <-bx ob name C.env (eval ob C.env)
   dE apos.atName
   eX ob name apos pos C.env ov (es.length+0) (backTo pos (aI es C.env)) []) _ _ s
  rw[hb]
  refine aa (CL.un f o s S H _ _ λv f1 s1 l1 S1 d1=>aa (aZ ?_))
  obtain rfl:v=r.v:=d1
  have H1:=H.mono l1 (.refl o)
  have qh:eB (es.length+0) (backTo pos (aI es C.env)) []=true:=by
   unfold eB
   have:=cn pos es C.env hp
   rw[mF] at this
   simp only[r7,kh,ni,if_true,lj,cq,aT,decide_eq_true_eq]
   exact⟨λx hx=>by simpa using this x hx,hn⟩
  unfold eX rN
  rw[qh]
  refine aa (aL (OR _ f1 o s1 _ S1 (held hm f1 o H1) _ _ ?_))
  unfold ji
  rw[hl]
  refine aa (ao ?_)
  have jl:=cn pos es C.env hp
  refine d6 (P:=λh=>∀a x,W.B.f a=some x->h.get? a=some x) (by rw[jl]; rfl) hk (dj jl ?_)
  exact ha.un pos f1 o s1 S1 H1 _ _ λus f2 s2 l2 S2 d2=>⟨S2.bT,hc f2 o s2 us S2 (held hm f2 o (H1.mono l2 (.refl o))) d2 _ _ λv f3 o3 s3 l3 S3 hP3 keep=>by
   have L:=Left.change H hm aU hv (λa ha=> .inl (has▸ha)) (l1.trans (l2.trans l3)) S3 hP3 keep
   exact hP (.next a9) _ _ iq.un ⟨rfl,f3,o3,L⟩⟩) K.inter hs)
theorem It(X:cH W){Ca:Addr}{name:Str}{fs:List (Str×D)}{d:D}{attr:Option Value}{u:Value}(hg:Jt (KK W) Ca name=true)(hh:pj (KK W) Ca=true)(ha:findIn (KK W) (.ref Ca) name=some attr)(hn:noGet (KK W) attr=true)(hf:fs.lookup name=some d)(hd:d= .raw u)(hu:A6 u=true):yf W (λv=>gn v name true) (.obj Ca fs) d:=λA f o s v r S hv Q E h=>by
 obtain⟨a,dx,es,n,rfl,I,hD⟩:=Den.inst S hv
 obtain⟨w,h1,h2⟩:=(hD.find (name:=name)).1 d hf
 have hw:A6 w=true:=by subst hd; rw[show w=u from h2]; exact hu
 exact get_value (X.sF S) I (rL hg).1 (xV hh ha hn h1) hw (h w f _ (.refl f) (S.tok _) h2)
theorem CY(X:cH W){l:Addr}:yf W (λv=>gn v (J "_headers") true) (.obj 313 [("_headers", .raw (.ref l))]) (.raw (.ref l)):=It X (attr:=aD) (by kernel_rfl) (by kernel_rfl) (by kernel_rfl) rfl (by kernel_rfl) rfl rfl
theorem LU(X:cH W){d:D}:Meth W (.obj 313 [("_headers",d)]) (J "add_header") (.ref 310):=jG X (by kernel_rfl) (by kernel_rfl) (by kernel_rfl) (by kernel_rfl)
noncomputable def OS(self:Str)(r:Res):Out->Prop
 | .next a9=>(self,Bd.res true r)∈a9
 |_=>False
theorem XG(X:cH W){A:Around}(lv:Lv 2 A){x l:Addr}{ps:List (List Nat×List Nat)}{tn tv:List Nat}(hp:vr (tn,tv))(hn:ps.length<=1000):OP W A (.ref 310) (jx x l ps) [.str (aS tn), .str (aS tv)] (jx x l (ps++[(tn,tv)])):=λf o s vs S hr hd Q E h=>by
 obtain⟨v1,r,rfl,h1,v2,r',rfl,h2,h3⟩:=hd
 obtain rfl:r'=[]:=h3
 refine fQ (X.code (P:=λf1=>f1 s.heap.objs.size=some xd) 310 (ps:=["self","_name","_value","_params"]) (ds:=[.raw (.ref x), .str (aS tn), .str (aS tv), .raw (.ref s.heap.objs.size)]) (ρ:=[("self", .val (.raw (.ref x))),("_name", .val (.str (aS tn))),("_value", .val (.str (aS tv))),("_params", .val (.raw (.ref s.heap.objs.size))),("parts", .unset),("k", .unset),("v", .unset)])
  (names:=[(J "self",ae),(J "_name",ae),(J "_value",ae),(J "_params",ae),(J "parts",ae),(J "k",ae),(J "v",ae),(J "_formatparam",ag)]) lv ⟨_,rfl,rfl⟩ rfl (by kernel_rfl) rfl rfl (by kernel_rfl) rfl rfl rfl rfl rfl (by kernel_rfl) (by kernel_rfl) (λQ E k=>?_) ?_ S λf1 env dr cU Lk l1 lo jf H mG _ hm=>?_)
 ·have e:eQ (cm (KK W) 310) ⟨[.ref x,v1,v2],[]⟩=(do let d <-alloc xd; pure [(J "self",kZ x),(J "_name",v1),(J "_value",v2),(J "_params", .ref d)]):=by kernel_rfl
  show wpAny _ _ (eQ (cm (KK W) 310) ⟨[.ref x,v1,v2],[]⟩) Q E s
  rw[e]
  have l0:f.le (f.put s.heap.objs.size xd):=Fz.bP S.gQ
  exact aa (Jp (ao (k [.ref x,v1,v2, .ref s.heap.objs.size] _ _ l0 (S.ju xd) (.cons rfl (.cons (h1.mono l0) (.cons (h2.mono l0) (.cons rfl .nil)))) (Fz.aJ ..))))
 ·show kj [(_,_),(_,_),(_,_),(_,_)] _ _
  exact qY
 ·have hx:dr l=o l:=by
   obtain⟨_,ob,us,n,e1,_⟩:=hr
   rw[e1]; exact lo _ _ e1
  have BU:∀b,Uses ⟨env,A.deeper env,[(J "self",ae),(J "_name",ae),(J "_value",ae),(J "_params",ae),(J "parts",ae),(J "k",ae),(J "v",ae),(J "_formatparam",ag)]⟩ [("self", .val (.raw (.ref x))),("_name", .val (.str (aS tn))),("_value", .val (.str (aS tv))),("_params", .val (.raw (.ref s.heap.objs.size))),("parts", .unset),("k", .unset),("v", .unset)] b->o b=aD:=by
   intro b hu
   rcases hu with(hu|⟨m,hu,E1,_⟩)|⟨m,u,r,hu,_⟩
   ·exact hm b (.inl hu)
   ·exfalso
    have key:∀m,m∈([("self",Bd.unset),("_name", .unset),("_value", .unset),("_params", .unset),("parts", .unset),("k", .unset),("v", .unset)]:Ro).map (·.1)->(m,ae)∈[(J "self",ae),(J "_name",ae),(J "_value",ae),(J "_params",ae),(J "parts",ae),(J "k",ae),(J "v",ae),(J "_formatparam",ag)]:=by
     intro m hm
     simp only[aO,zJ] at hm
     simp only[au,bo,or_false] at hm
     rcases hm with rfl|rfl|rfl|rfl|rfl|rfl|rfl<;>simp
    have e:=H.ok.kinds _ _ (key m hu) (by decide)
    rw[e] at E1
    rcases E1 with q|q<;>exact nomatch q
   ·exfalso
    simp only[au,bo,or_false,He,reduceCtorEq,and_false] at hu
  have XH:o l≠aD:=by
   obtain⟨_,ob,us,n,e1,_⟩:=hr
   rw[e1]; simp
  have H2:=H.adopt (x:= "self") (r:=jx x l ps) (a9:=[("self", .res true (jx x l ps)),("_name", .val (.str (aS tn))),("_value", .val (.str (aS tv))),("_params", .val (.raw (.ref s.heap.objs.size))),("parts", .unset),("k", .unset),("v", .unset)]) kB (cw)
   ((jx x l ps).mono _ _ _ _ l1 (λa _ y e=>lo a y e) hr) (λa ha hu=>by rcases aA.mp ha with rfl; exact XH (BU _ hu))
  have H3:=H2.adopt (x:= "_params") (r:=yR s.heap.objs.size) (a9:=[("self", .res true (jx x l ps)),("_name", .val (.str (aS tn))),("_value", .val (.str (aS tv))),("_params", .res true (yR s.heap.objs.size)),("parts", .unset),("k", .unset),("v", .unset)]) kB (.tail _ (.tail _ (.tail _ (.head _))))
   Lk (λa ha=>by exact nomatch ha)
  have K:CK ⟨env,A.deeper env,[(J "self",ae),(J "_name",ae),(J "_value",ae),(J "_params",ae),(J "parts",ae),(J "k",ae),(J "v",ae),(J "_formatparam",ag)]⟩ _:=⟨H.ok,mG.hand,rfl⟩
  have body:VS W ⟨env,A.deeper env,[(J "self",ae),(J "_name",ae),(J "_value",ae),(J "_params",ae),(J "parts",ae),(J "k",ae),(J "v",ae),(J "_formatparam",ag)]⟩ [("self", .res true (jx x l ps)),("_name", .val (.str (aS tn))),("_value", .val (.str (aS tv))),("_params", .res true (yR s.heap.objs.size)),("parts", .unset),("k", .unset),("v", .unset)] (cj (KK W) 310) (OS "self" (jx x l (ps++[(tn,tv)]))):=by
   refine Au K (sf a0) λa=>⟨_,kB,?_⟩
   refine jw (b:=true) (kO K (nm K) Xf (qy (by intro h; exact nomatch h) (by intro v h; exact nomatch h))) (λ_=>?_) λe=>by exact nomatch e
   refine let1 (oR X K (mG.le (by(first|lia|omega))) (XF K (r:=jx x l ps) ij λ_ _ h=>h.1) (nm K) hp.val hp.LM) (cx K) ?_
   refine EU (ds:=[]) (d:= .str (aS tv)) K (nm K) (by decide) (dh ?_)
   have OG:(s.heap.objs.size==sysModules)=false:=by
    have OT:(369:Nat)<s.heap.objs.size:=S.lt (.inl (S.base _ _ (X.sj 369 _ rfl)))
    simp only[beq_eq_false_iff_ne,ne_eq]
    intro e
    rw[e] at OT
    exact absurd OT (by decide)
   refine mO K (xs:=[]) (vi (E9 K (d:=s.heap.objs.size) (x:= "_params") (Qp K (r:=yR s.heap.objs.size) ij) ij OG)) (λxs ρ=>xs=[]/\ρ=([("self", .res true (jx x l ps)),("_name", .val (.str (aS tn))),("_value", .val (.str (aS tv))),("_params", .res true (yR s.heap.objs.size)),("parts", .res true (eI a [.str (aS tv)])),("k", .unset),("v", .unset)]:Ro)) ⟨rfl,rfl⟩ ?_ ?_
   ·rintro ρ ⟨_,rfl⟩
    refine tX (x:= "parts") (a:=a) (ds:=[.str (aS tv)]) ij kB ?_
    refine vs (.append (a:=l) (x:= "self") (r:=jx x l ps) (r':=jx x l (ps++[(tn,tv)])) (ds:=ps.map rz) (d:=rz (tn,tv)) (VE.un (jV K (XF K (r:=jx x l ps) ij λ_ _ h=>h.1) (CY X)))
     (VE.un (tup (ac (oR X K (mG.le (by(first|lia|omega))) (XF K (r:=jx x l ps) ij λ_ _ h=>h.1) (nm K) hp.name hp.Iq) (a1 (gg (st [59,32]) (ir gO gN) .builtin (a1 (nm K (d:= .list [.str (aS tv)]))) (qs (ts:=[tv]) (λt ht=>by rcases aA.mp ht with rfl; exact hp.LM) (by simp) (by decide)))))))
     ij (λf o h=>h.2) (by rw[ai]; exact aN 0x3f6240084308421084801 tt hn) (a9:=[("self", .res true (jx x l (ps++[(tn,tv)]))),("_name", .val (.str (aS tn))),("_value", .val (.str (aS tv))),("_params", .res true (yR s.heap.objs.size)),("parts", .val (.list [.str (aS tv)])),("k", .unset),("v", .unset)]) kB rfl rfl (.head _) (λf o o' h1 h2 h3=>⟨h1.1,by rw[fU]; exact h2⟩) (VS.un (dh ?_)) rfl rfl (by decide) K.inter rfl)
    exact cw
   ·rintro _ _ _ ⟨e,_⟩; exact nomatch e
  refine body.un f1 dr cU jf H3 _ _ λu fl s' hq ho=>?_
  cases u with
  |next bZ=>
   obtain⟨rfl,f',o',L⟩:=ho
   have hP:(jx x l (ps++[(tn,tv)])).P f' o':=held hq f' o' L.env
   refine h _ f' o' s' (l1.trans L.le) L.st hP λb y e hb=>L.step b y (lo _ _ e) λq=>?_
   rcases q with q|⟨m,q1,q2,q3⟩|⟨m,r,q1,q2⟩
   ·have:=hm b (.inl q); rw[e] at this; exact nomatch this
   ·have:=hm b (.inr (.inl ⟨m,q1,q2,q3⟩)); rw[e] at this; exact nomatch this
   ·simp only[au,bo,or_false,He,reduceCtorEq,and_false,Bd.res.injEq,true_and,false_or] at q1
    rcases q1 with⟨_,rfl⟩|⟨_,rfl⟩
    ·exact hb q2
    ·exact nomatch q2
  |ret _=>exact hq.elim
  |brk _=>exact hq.elim
  |cont _=>exact hq.elim
end
structure Row where
 low:Nat
 sg:Nat
 high:Nat
structure Row.Ok(r:Row):Prop where
 low:r.low∈[97,98,99,100,65,66,67,68]
 sg:r.sg∈[20,21,27]
 high:r.high∈[97,98,99,100,65,66,67,68]
noncomputable def eh(r:Row):D:= .list [.str (aS [r.low]), .int r.sg, .str (aS [r.high])]
noncomputable def fZ(r:Row):List (Nat×Nat):=if r.sg=20 then[(r.low,r.high)] else if r.sg=21 then[(r.high,r.low)] else[(r.low,r.high),(r.high,r.low)]
noncomputable def oz(r:Row)(p:Nat×Nat):List Nat×List Nat:=([p.1],(if r.sg=27 then[61,61] else[60])++[p.2])
noncomputable def iz(rows:List Row)(ks:List Bool):List Row:=((rows.zip ks).filter (·.2)).map (·.1)
noncomputable def pM(rows:List Row)(ks:List Bool):List (List Nat×List Nat):=(iz rows ks).flatMap λr=>(fZ r).map (oz r)
theorem wi:∀c∈([97,98,99,100,65,66,67,68]:List Nat),gv true c=true:=by decide
theorem LV{r:Row}(h:r.Ok){p:Nat×Nat}(hp:p∈fZ r):vr (oz r p):=by
 have key:p.1∈[97,98,99,100,65,66,67,68]/\p.2∈[97,98,99,100,65,66,67,68]:=by
  unfold fZ at hp
  split at hp
  ·rcases aA.mp hp with rfl; exact⟨h.low,h.high⟩
  ·split at hp
   ·rcases aA.mp hp with rfl; exact⟨h.high,h.low⟩
   ·rcases au.mp hp with rfl|hp
    ·exact⟨h.low,h.high⟩
    ·rcases aA.mp hp with rfl; exact⟨h.high,h.low⟩
 have h1:=wi _ key.1
 have h2:=wi _ key.2
 have zz:gv false p.2=true:=by
  unfold gv at h2 ⊢
  simp only[iO] at h2 ⊢
  rcases h2 with h2|h2
  ·exact .inl h2
  ·exact nomatch h2
 refine⟨?_,?_,by simp[oz],?_⟩
 ·show clean true [p.1]=true
  unfold clean; rw[c9,h1]; rfl
 ·show clean false ((if r.sg=27 then[61,61] else[60])++[p.2])=true
  unfold clean
  rw[oI,c9,zz]
  split<;>rfl
 ·show((if r.sg=27 then[61,61] else[60])++[p.2]).length<=1000
  split<;>simp
theorem wj{α β:Type}(g:α->D)(h:β->D):∀(xs:List α) (ys:List β),oo (xs.map g) (ys.map h)=(xs.zip ys).map λp=> .tup [g p.1,h p.2]
 |[],_=>by simp[oo]
 |_::_,[]=>by simp[oo]
 |x::xs,y::ys=>by rw[aO,aO,oo,wj g h xs ys]; rfl
section
variable {W:Wd}{C:Cx}{ρ a9 bD bZ:Ro}{names:List (Str×aC)}{Q:Out->Prop}{f o:Fz}{s:Shared}
theorem fP.Iu{ss:List Stmt}{x:Str}{a:Addr}{r:Res}{d:D}(hm:(x,Bd.res true r)∈ρ)(has:r.as=[a])(hd:∀f o ob,r.P f o->o a=some ob->f.le (f.put a ob)->Den (f.put a ob) d r.v)(aU:Ro.Set x (.val d) ρ a9)(h:fP W C a9 ss Q):fP W C ρ ss Q:=h.ghost λf o s S H=>by
 obtain⟨vo,hv,ev,hP⟩:=H.vars _ _ hm
 have ha:a∈r.as:=by rw[has]; exact .head _
 obtain⟨ob,e1⟩:=r.there _ _ hP a ha
 have lf:=Fz.bP (o:=ob) (S.fu e1)
 have slot:∀b,Slots C ρ b->b≠a:=λb hs hb=>H.sep _ _ _ hm a ha (hb▸hs)
 have del:∀b y,o b=some y->b≠a->o.del a b=some y:=λb y e hb=>by unfold Fz.del; rw[if_neg hb]; exact e
 refine⟨f.put a ob,o.del a,lf,S.freeze e1,⟨H.ok,?_,λn b hn=>?_,by rw[aU.keys]; exact H.nd,λn u q hn a' Hb hs=>?_,λn n' u u' q q' h1 h2 ea a' Hb hb=>?_⟩,λb y e hn=>del b y e λq=>hn (.inr (.inr ⟨_,_,hm,q▸ha⟩)),λa' h=> .inl ?_,λa' h=> .inl ?_⟩
 ·obtain⟨ob',es,ep,e,t,y1⟩:=H.ns; exact⟨ob',es,ep,del _ _ e (slot _ (.inl rfl)),t,y1⟩
 ·have var:∀vo,n∈ρ.map (·.1)->kF C o n vo->kF C (o.del a) n vo:=λvo qk hv=>by
   rcases hv with⟨k,ob,es,ep,e1,e2,y1,y2⟩|⟨k,c,ob,e1,e2,e3⟩
   ·exact .inl ⟨k,ob,es,ep,del _ _ e1 (slot _ (.inl rfl)),e2,y1,y2⟩
   ·exact .inr ⟨k,c,ob,e1,del _ _ e2 (slot _ (.inr ⟨n,qk,k,e1⟩)),e3⟩
  rcases aU.mem H.nd hn with⟨rfl,rfl⟩|⟨ea,pK⟩
  ·exact⟨vo,var vo (fY hm) hv,_,ev,hd f o ob hP e1 lf⟩
  ·obtain⟨vo,h1,h2⟩:=H.vars _ _ pK
   refine⟨vo,var vo (fY pK) h1,?_⟩
   cases b with
   |unset=>trivial
   |val d=>obtain⟨v,e,hd⟩:=h2; exact⟨v,e,hd.mono lf⟩
   |res u q=>exact⟨h2.1,q.mono _ _ _ _ lf (λb hb y e=>del b y e λhr=>H.two _ _ _ _ _ _ pK hm ea b hb (hr▸ha)) h2.2⟩
 ·rcases aU.mem H.nd hn with⟨_,e⟩|⟨_,pK⟩
  ·exact nomatch e
  ·exact H.sep _ _ _ pK a' Hb ((Slots.set aU).mp hs)
 ·rcases aU.mem H.nd h1 with⟨_,e⟩|⟨_,h1⟩
  ·exact nomatch e
  ·rcases aU.mem H.nd h2 with⟨_,e⟩|⟨_,h2⟩
   ·exact nomatch e
   ·exact H.two _ _ _ _ _ _ h1 h2 ea a' Hb hb
 ·exact oM aU H.nd a' h
 ·exact Uses.of aU.keys (jN aU) h
theorem Fb{ss:List Stmt}{x:Str}{a l:Addr}{ps:List (List Nat×List Nat)}(h:VS W C a9 ss Q)(hm:(x,Bd.res true (jx a l ps))∈ρ)(aU:Ro.Set x (.val (pL ps)) ρ a9):VS W C ρ ss Q:=
 vs (.Iu hm rfl (λf o ob hP e lf=>by
  obtain⟨⟨a',dx,es,n,e0,e1,e2,hh,t,v,r,e3,e4,e5⟩,ob',us,m,e6,e7,e8,e9⟩:=hP
  rw[e] at e6
  obtain rfl:ob=ob':=cg e6
  obtain rfl:v= .ref l:=e4
  exact⟨a',dx,es,n,e0,lf _ _ e1,lf _ _ e2,hh,t, .ref l,r,e3,⟨l,ob,us,m,rfl,Fz.aJ ..,e7,e8,e9.mono lf⟩,e5⟩) aU h.un)
theorem wk(X:cH W):cK W (J "Headers") (.ref 313):=X.glob (by kernel_rfl)
inductive OU(rows:List Row)(ks:List Bool)(x l:Addr)(xs:List D)(ρ:Ro):Prop
 |mk (r:List Row) (ps:List (List Nat×List Nat)) (b1 b2 b3 b4 b5:Bd) (h1:xs=r.map eh) (h2:(∀q∈r,q.Ok)) (h3:pM rows ks=ps++(r.flatMap λr=>(fZ r).map (oz r))) (h4:ρ=([("rows", .val (.list (rows.map eh))),("kept", .val (.list (ks.map .bool))),("table", .res true (jx x l ps)),("low",b1),("sign",b2),("high",b3),("one",b4),("other",b5)]:Ro)):OU rows ks x l xs ρ
inductive OV(rows:List Row)(ks:List Bool)(x l:Addr)(q:Row)(r:List Row)(xs:List D)(ρ:Ro):Prop
 |mk (es:List (Nat×Nat)) (uV:List (List Nat×List Nat)) (b4 b5:Bd) (h1:xs=(es.map λp=> .tup [.str (aS [p.1]), .str (aS [p.2])])) (h2:(∀p∈es,p∈fZ q)) (h3:pM rows ks=uV++(es.map (oz q)++(r.flatMap λr=>(fZ r).map (oz r)))) (h4:ρ=([("rows", .val (.list (rows.map eh))),("kept", .val (.list (ks.map .bool))),("table", .res true (jx x l uV)),("low", .val (.str (aS [q.low]))),("sign", .val (.int q.sg)),("high", .val (.str (aS [q.high]))),("one",b4),("other",b5)]:Ro)):OV rows ks x l q r xs ρ
theorem XI(X:cH W){A:Around}(lv:Lv 5 A){rows:List Row}{ks:List Bool}(hr:∀r∈rows,r.Ok)(hn:(pM rows ks).length<=1000)(hl:rows.length<=1000):iJ W A (.ref 349) [.list (rows.map eh), .list (ks.map .bool)] (pL (pM rows ks)):=by
 refine X.fn 349 (n:=4) (ps:=["rows","kept"]) (ρ:=[("rows", .val (.list (rows.map eh))),("kept", .val (.list (ks.map .bool))),("table", .unset),("low", .unset),("sign", .unset),("high", .unset),("one", .unset),("other", .unset)])
  (names:=[(J "rows",ae),(J "kept",ae),(J "table",ae),(J "low",ae),(J "sign",ae),(J "high",ae),(J "one",ae),(J "other",ae),(J "Headers",ag),(J "zip",ag)])
  lv ⟨_,rfl,rfl⟩ rfl (by kernel_rfl) rfl rfl (by kernel_rfl) rfl rfl rfl rfl rfl (by kernel_rfl) (by kernel_rfl) (tW λa b=>by kernel_rfl) ?_ (λC O lv hN sA=>?_)
 ·show kj [(_,_),(_,_)] _ _
  exact qY
 ·have K:CK C _:=⟨O,lv.hand,hN⟩
  refine Ic (OJ (gl K (wk X)) (X.kept (by kernel_rfl)) a0 (OO X (lv.le (by simp[*]))).un) ?_
  rintro d r ⟨rfl,x,l,rfl⟩
  refine⟨"table",[("rows", .val (.list (rows.map eh))),("kept", .val (.list (ks.map .bool))),("table", .val (.raw (.ref x))),("low", .unset),("sign", .unset),("high", .unset),("one", .unset),("other", .unset)],
   [("rows", .val (.list (rows.map eh))),("kept", .val (.list (ks.map .bool))),("table", .res true (jx x l [])),("low", .unset),("sign", .unset),("high", .unset),("one", .unset),("other", .unset)],cx K (d:= .raw (.ref x)), .tail _ (.tail _ (.head _)),kB,?_⟩
  refine mO (xs:=(iz rows ks).map eh) K (jE K (dY (eW:=[(".0", .unset),("row", .unset),("fits", .unset)]) K (N2 (gl K (JS X)) (ac (nm K) (a1 (nm K)))) (λC' K' e=>?_) kq ?_) bp) (OU rows ks x l) ⟨iz rows ks,[],_,_,_,_,_,rfl,?_,rfl,rfl⟩ ?_ ?_
  ·rw[wj,show(iz rows ks).map eh=((rows.zip ks).filter (·.2)).map (λp=>eh p.1) by unfold iz; rw[aM]; rfl]
   exact sm (rows.zip ks) (λp=> .tup [eh p.1, .bool p.2]) (·.2) (λp=>eh p.1) (λp=>[(".0", .unset),("row", .val (eh p.1)),("fits", .val (.bool p.2))]) (λp hp=>iV K' (cx K') (cx K')) (λp hp=>Ar K' (nm K') gz) (λp hp _=>nm K') λp hp=>jS
  ·unfold iz
   rw[ai,ai]
   refine aP (ba _ _) ?_
   rw[Jy]; exact RN hl
  ·intro q hq
   unfold iz at hq
   obtain⟨p,hp,rfl⟩:=aw.mp hq
   exact hr _ (kE (bw.mp hp).1).1
  ·rintro ρ ⟨r,ps,b1,b2,b3,b4,b5,e1,e2,e3,rfl⟩
   cases r with
   |cons _ _=>exact nomatch e1
   |nil=>
    refine Fb (x:= "table") (a:=x) (l:=l) (ps:=ps) ?_ ij kB
    refine j6 (nm K) ?_
    rw[e3]; simp[Ends]
  ·rintro y xs ρ ⟨r,ps,b1,b2,b3,b4,b5,e1,e2,e3,rfl⟩
   cases r with
   |nil=>exact nomatch e1
   |cons q r=>
    obtain⟨rfl,rfl⟩:y=eh q/\xs=r.map eh:=by cases e1; exact⟨rfl,rfl⟩
    have hq:=e2 q (.head _)
    refine⟨_,rU K (cx K) (cx K) (cx K) (.inr rfl),?_⟩
    refine mO (xs:=(fZ q).map λp=> .tup [.str (aS [p.1]), .str (aS [p.2])]) K (jE K (d:= .list ((fZ q).map λp=> .tup [.str (aS [p.1]), .str (aS [p.2])])) (BI (knd:=intKind W.prog W.w) (λi:Int=> .int i) (λk v f h=>by obtain⟨t,rfl⟩:=h; exact beq_self_eq_true k) (HT:=20) (HU:=21) (HV:=27) (κ:=(q.sg:Int)) num (lst (a1 (tup (ac (nm K) (a1 (nm K)))))) num (lst (a1 (tup (ac (nm K) (a1 (nm K)))))) num (lst (ac (tup (ac (nm K) (a1 (nm K)))) (a1 (tup (ac (nm K) (a1 (nm K))))))) (nm K) (λu1 u2 u3=>?_)) bp)
     (OV rows ks x l q r) ⟨fZ q,ps,_,_,rfl,λp hp=>hp,by rw[e3,GY],rfl⟩ ?_ ?_
    ·have h3:=hq.sg
     unfold fZ
     generalize q.sg=g at h3
     simp only[au,bo,or_false] at h3
     rcases h3 with rfl|rfl|rfl
     ·exact⟨u1,by kernel_rfl, .inl ⟨rfl,rfl⟩⟩
     ·exact⟨u2,by kernel_rfl, .inr (.inl ⟨rfl,rfl⟩)⟩
     ·exact⟨u3,by kernel_rfl, .inr (.inr ⟨rfl,rfl⟩)⟩
    ·rintro ρ ⟨es,uV,c4,c5,f1,f2,f3,rfl⟩
     cases es with
     |cons _ _=>exact nomatch f1
     |nil=>exact dh ⟨r,uV,_,_,_,_,_,rfl,λz hz=>e2 z (.tail _ hz),f3,rfl⟩
    ·rintro z zs ρ ⟨es,uV,c4,c5,f1,f2,f3,rfl⟩
     cases es with
     |nil=>exact nomatch f1
     |cons p es=>
      obtain⟨rfl,rfl⟩:z= .tup [.str (aS [p.1]), .str (aS [p.2])]/\zs=(es.map λp=> .tup [.str (aS [p.1]), .str (aS [p.2])]):=by cases f1; exact⟨rfl,rfl⟩
      refine⟨_,iV K (cx K) (cx K),?_⟩
      have hlen:uV.length<=1000:=by
       have:=congrArg i8 f3
       rw[a8] at this; exact cG 0x4180423f62400847ec4821 tt hn (ah this.symm)
      refine LR K (x:= "table") (r:=jx x l uV) (r':=jx x l (uV++[oz q p])) (fv:= .ref 310) (ds:=[.str (aS [p.1]), .str (aS ((if q.sg=27 then[61,61] else[60])++[p.2]))]) (Qp K (r:=jx x l uV) ij) ij (λA f o s pl S hP=>LU X A f o s _ pl S hP.1) (X.kept (by kernel_rfl))
       (ac (nm K) (a1 (bin K (vq (kO K (nm K) num hZ) (λh=> .eq (st [61,61]) ?_) λh=> .eq (st [60]) ?_) (nm K) (gR (by split<;>simp))))) (XG X (lv.le (by simp[*])) (LV hq (f2 p (.head _))) hlen) (a9:=[("rows", .val (.list (rows.map eh))),("kept", .val (.list (ks.map .bool))),("table", .res true (jx x l (uV++[oz q p]))),("low", .val (.str (aS [q.low]))),("sign", .val (.int q.sg)),("high", .val (.str (aS [q.high]))),("one", .val (.str (aS [p.1]))),("other", .val (.str (aS [p.2])))]) kB rfl rfl (dh ?_)
      ·have:q.sg=27:=by have:=of_decide_eq_true h; exact M7 this
       rw[if_pos this]
      ·have:¬q.sg=27:=by have:=of_decide_eq_false h; exact M8 this
       rw[if_neg this]
      ·exact⟨es,uV++[oz q p],_,_,rfl,λz hz=>f2 z (.tail _ hz),by rw[f3]; simp,rfl⟩
end
open PyProof.Rows.KTD (datumAt inKeys isSome_datumAt Here text_of_look in_text getMethod_text meets_get2)
noncomputable def gB:List Nat:=[97,98,99,100,65,66,67,68,60,61,62,59]
noncomputable def bU:List Nat:=[97,98,99,100,65,66,67,68]
noncomputable def rB:List (List Nat×Int):=[([33],54),([33,61],28),([37],24),([37,61],40),([38],19),([38,61],41),([40],7),([41],8),([42],16),([42,42],35),([42,42,61],46),([42,61],38),([43],14),([43,61],36),([44],12),([45],15),([45,61],37),([45,62],51),([46],23),([46,46,46],52),([47],17),([47,47],47),([47,47,61],48),([47,61],39),([58],11),([58,61],53),([59],13),([60],20),([60,60],33),([60,60,61],44),([60,61],29),([61],22),([61,61],27),([62],21),([62,61],30),([62,62],34),([62,62,61],45),([64],49),([64,61],50),([91],9),([93],10),([94],32),([94,61],43),([123],25),([124],18),([124,61],42),([125],26),([126],31)]
noncomputable def Fc:List (Str×Kv):=rB.map λp=>(aS p.1,oE (.int p.2))
noncomputable def tokOf(x:List Nat):Option Int:=rB.lookup x
theorem rC(x:List Nat):datumAt (aS x) Fc=(tokOf x).map λi=>oE (.int i):=by
 unfold Fc tokOf
 generalize rB=l
 induction l with
 |nil=>rfl
 |cons p l ih=>
  rw[aO,datumAt,eF,ih]
  by_cases h:x=p.1
  ·rw[if_pos (decide_eq_true (by rw[h]))]
   subst h
   simp
  ·rw[if_neg (by simpa using λe=>h (qo e)),show(x==p.1)=false by simpa using h]
theorem LW(x:List Nat):inKeys (aS x) Fc=(tokOf x).isSome:=by
 rw[<-isSome_datumAt,rC,Option.isSome_map]
section
variable {W:Wd}{C:Cx}{ρ a9 bD bZ:Ro}{names:List (Str×aC)}{Q:Out->Prop}{f o:Fz}{s:Shared}
theorem qz(X:cH W)(S:St W.B f o s):Here s.heap s.heap 153 Fc:=
 ⟨text_of_look (get:=λa=>Cv a (KK W)) (λa ob e=>S.bT _ _ (X.sj a ob e)) (by kernel_rfl),λ_ _ e=>e⟩
theorem J0(X:cH W):cK W (J "EXACT_TOKEN_TYPES") (.ref 153):=X.glob (by kernel_rfl)
theorem Fd(X:cH W){x:List Nat}:lp W (cc .In) (.str (aS x)) (.raw (.ref 153)) (.bool (tokOf x).isSome):=λA f o s va vb r S ha hb Q E h=>by
 obtain⟨t,rfl⟩:=ha
 obtain rfl:vb= .ref 153:=hb
 exact in_text (qz X S) (by rw[LW]; exact h _ f _ (.refl f) (S.tok _) rfl)
theorem Fe(X:cH W):Meth W (.raw (.ref 153)) (J "get") (.builtin "dict.get"):=λA f o s v pl S hv Q E h=>by
 obtain rfl:v= .ref 153:=hv
 exact getMethod_text (qz X S) h
theorem AE(X:cH W){A:Around}{x:List Nat}{i:Int}:l7 W A (.builtin "dict.get") [.raw (.ref 153), .str (aS x), .int i] (.int ((tokOf x).getD i)):=λf o s vs S hd Q E h=>by
 obtain⟨v1,r1,rfl,h1,v2,r2,rfl,h2,v3,r3,rfl,h3,h4⟩:=hd
 obtain rfl:r3=[]:=h4
 obtain rfl:v1= .ref 153:=h1
 obtain⟨t,rfl⟩:=h2
 refine call_meetsIn PySem.F.slot_dict_get (qz X S).typeIs PySem.F.entry_dict_get (PySem.F.args_dict_get_3 _ _ _) (meets_get2 (h₀:=s.heap) (D:=Fc)) ⟨qz X S,λd v hd hv=>?_,λhn=>?_⟩
 ·rw[rC] at hd
  cases e:tokOf x with
  |none=>rw[e] at hd; exact nomatch hd
  |some j=>
   rw[e] at hd
   cases hd
   have:∃t,v= .int j t:=by
    have hv':=hv s.heap
    cases hv'
    exact⟨_,rfl⟩
   obtain⟨t',rfl⟩:=this
   exact h _ f _ (.refl f) (S.tok _) (by rw[e]; exact⟨t',rfl⟩)
 ·rw[rC] at hn
  cases e:tokOf x with
  |some j=>rw[e] at hn; exact nomatch hn
  |none=>exact h _ f _ (.refl f) (S.tok _) (by rw[e]; exact h3)
end
noncomputable def bR(t:List Nat):Nat:=if(tokOf (t.take 3)).isSome then 3 else if(tokOf (t.take 2)).isSome then 2 else 1
noncomputable def jH(c:Nat):Int:=Txt.find (aS bU) (aS [c])
noncomputable def eK(t:List Nat):Int:=(tokOf (t.take (bR t))).getD (256+jH (t.headD 0))
noncomputable def itemOf(i:Int):D:=if i<256 then .int i else .str (aS [bU.getD (i-256).toNat 0])
noncomputable def dB:Nat->List Nat->List (List D)->List D->List (List D)
 | 0,_,dn,last=>dn++[last]
 |n+1,t,dn,last=>if t=[] then dn++[last] else if eK t=13 then dB n (t.drop (bR t)) (dn++[last]) [] else dB n (t.drop (bR t)) dn (last++[itemOf (eK t)])
noncomputable def readOf(t:List Nat):List (List D):=dB (t.length+1) t [] []
theorem AF:∀c∈gB,-1<=jH c/\jH c<8:=by
 have key:∀c∈gB,(decide (-1<=jH c)&&decide (jH c<8))=true:=by
  intro c hc
  simp only[gB,au,bo,or_false] at hc
  rcases hc with rfl|rfl|rfl|rfl|rfl|rfl|rfl|rfl|rfl|rfl|rfl|rfl<;>kernel_rfl
 intro c hc
 have:=key c hc
 simpa using this
theorem CZ:∀p∈rB,(7:Int)<=p.2/\p.2<256:=by decide
theorem yS{x:List Nat}{i:Int}(h:tokOf x=some i):7<=i/\i<256:=by
 unfold tokOf at h
 have key:∀(l:List (List Nat×Int)),l.lookup x=some i->(x,i)∈l:=by
  intro l
  induction l with
  |nil=>intro h; exact nomatch h
  |cons p l ih=>
   intro h
   rw[eF] at h
   cases e:x==p.1 with
   |true=>rw[e] at h; cases h; exact(by have:=eq_of_beq e; subst this; exact cw)
   |false=>rw[e] at h; exact .tail _ (ih h)
 exact CZ _ (key _ h)
theorem yT{t:List Nat}(ht:∀c∈t,c∈gB)(ea:t≠[]):7<=eK t/\eK t<264:=by
 unfold eK
 cases e:tokOf (t.take (bR t)) with
 |some i=>have:=yS e; exact⟨this.1,by show i<264; exact eH 0x18413002c220c30980161 tt this.2⟩
 |none=>
  have h:t.headD 0∈t:=by cases t with|nil=>exact absurd rfl ea|cons c r=>exact .head _
  have:=AF _ (ht _ h)
  show 7<=256+jH (t.headD 0)/\256+jH (t.headD 0)<264
  exact RO this
section
variable {W:Wd}{C:Cx}{ρ a9 bD bZ:Ro}{names:List (Str×aC)}{Q:Out->Prop}{f o:Fz}{s:Shared}
theorem LstIs.off{f o o':Fz}{a:Addr}{ds:List D}(h:LstIs f o a ds)(hk:∀y,o a=some y->o' a=some y):LstIs f o' a ds:=by
 obtain⟨ob,us,n,e1,r,y1,y2⟩:=h; exact⟨ob,us,n,hk _ e1,r,y1,y2⟩
noncomputable def gS(l m:Addr)(dn last:List D):Res where
 v:= .ref l
 as:=[l,m]
 P:=λf o=>l≠m/\LstIs f o l (dn++[.raw (.ref m)])/\LstIs f o m last
 mono:=λf f' o o' h ho ⟨a,b,c⟩=>⟨a,(b.off (ho _ (by simp))).mono h (.refl o'),(c.off (ho _ (by simp))).mono h (.refl o')⟩
 there:=λf o ⟨_,b,c⟩ a ha=>by
  rcases au.mp ha with rfl|ha
  ·exact(eI _ _).there f o b _ (.head _)
  ·rcases aA.mp ha with rfl
   exact(eI _ _).there f o c _ (.head _)
noncomputable def rD(l m m':Addr)(dn last:List D):Res where
 v:= .ref l
 as:=[l,m,m']
 P:=λf o=>l≠m/\l≠m'/\m≠m'/\LstIs f o l (dn++[.raw (.ref m)]++[.raw (.ref m')])/\LstIs f o m last/\LstIs f o m' []
 mono:=λf f' o o' h ho ⟨a,a2,a3,b,c,d⟩=>⟨a,a2,a3,(b.off (ho _ (by simp))).mono h (.refl o'),(c.off (ho _ (by simp))).mono h (.refl o'),(d.off (ho _ (by simp))).mono h (.refl o')⟩
 there:=λf o ⟨_,_,_,b,c,d⟩ a ha=>by
  rcases au.mp ha with rfl|ha
  ·exact(eI _ _).there f o b _ (.head _)
  ·rcases au.mp ha with rfl|ha
   ·exact(eI _ _).there f o c _ (.head _)
   ·rcases aA.mp ha with rfl
    exact(eI _ _).there f o d _ (.head _)
theorem fP.BV{ss:List Stmt}{x:Str}{a:Addr}{r r':Res}(hm:(x,Bd.res true r)∈ρ)(ha:a∈r.as)(hv:r'.v=r.v)(has:∀b∈r'.as,b∈r.as)(hd:∀f o ob,r.P f o->o a=some ob->f.le (f.put a ob)->r'.P (f.put a ob) (o.del a))(aU:Ro.Set x (.res true r') ρ a9)(h:fP W C a9 ss Q):fP W C ρ ss Q:=h.ghost λf o s S H=>by
 obtain⟨vo,hvv,ev,hP⟩:=H.vars _ _ hm
 obtain⟨ob,e1⟩:=r.there _ _ hP a ha
 have lf:=Fz.bP (o:=ob) (S.fu e1)
 have slot:∀b,Slots C ρ b->b≠a:=λb hs hb=>H.sep _ _ _ hm a ha (hb▸hs)
 have del:∀b y,o b=some y->b≠a->o.del a b=some y:=λb y e hb=>by unfold Fz.del; rw[if_neg hb]; exact e
 refine⟨f.put a ob,o.del a,lf,S.freeze e1,⟨H.ok,?_,λn b hn=>?_,by rw[aU.keys]; exact H.nd,λn u q hn a' Hb hs=>?_,λn n' u u' q q' h1 h2 ea a' Hb hb=>?_⟩,λb y e hn=>del b y e λq=>hn (.inr (.inr ⟨_,_,hm,q▸ha⟩)),λa' h=> .inl ?_,λa' h=> .inl ?_⟩
 ·obtain⟨ob',es,ep,e,t,y1⟩:=H.ns; exact⟨ob',es,ep,del _ _ e (slot _ (.inl rfl)),t,y1⟩
 ·have var:∀vo,n∈ρ.map (·.1)->kF C o n vo->kF C (o.del a) n vo:=λvo qk hv=>by
   rcases hv with⟨k,ob,es,ep,e1,e2,y1,y2⟩|⟨k,c,ob,e1,e2,e3⟩
   ·exact .inl ⟨k,ob,es,ep,del _ _ e1 (slot _ (.inl rfl)),e2,y1,y2⟩
   ·exact .inr ⟨k,c,ob,e1,del _ _ e2 (slot _ (.inr ⟨n,qk,k,e1⟩)),e3⟩
  rcases aU.mem H.nd hn with⟨rfl,rfl⟩|⟨ea,pK⟩
  ·exact⟨vo,var vo (fY hm) hvv,by rw[hv]; exact ev,hd f o ob hP e1 lf⟩
  ·obtain⟨vo,h1,h2⟩:=H.vars _ _ pK
   refine⟨vo,var vo (fY pK) h1,?_⟩
   cases b with
   |unset=>trivial
   |val d=>obtain⟨v,e,hd⟩:=h2; exact⟨v,e,hd.mono lf⟩
   |res u q=>exact⟨h2.1,q.mono _ _ _ _ lf (λb hb y e=>del b y e λhr=>H.two _ _ _ _ _ _ pK hm ea b hb (hr▸ha)) h2.2⟩
 ·rcases aU.mem H.nd hn with⟨_,e⟩|⟨_,pK⟩
  ·cases e; exact H.sep _ _ _ hm a' (has a' Hb) ((Slots.set aU).mp hs)
  ·exact H.sep _ _ _ pK a' Hb ((Slots.set aU).mp hs)
 ·rcases aU.mem H.nd h1 with⟨rfl,e⟩|⟨n1,h1⟩
  ·cases e
   rcases aU.mem H.nd h2 with⟨rfl,e⟩|⟨n2,h2⟩
   ·exact ea rfl
   ·exact H.two _ _ _ _ _ _ hm h2 ea a' (has a' Hb) hb
  ·rcases aU.mem H.nd h2 with⟨rfl,e⟩|⟨n2,h2⟩
   ·cases e; exact H.two _ _ _ _ _ _ h1 hm ea a' Hb (has a' hb)
   ·exact H.two _ _ _ _ _ _ h1 h2 ea a' Hb hb
 ·rcases h with e|⟨n,h1,h2,h3⟩|⟨n,q,h1,h2⟩
  ·exact .inl e
  ·exact .inr (.inl ⟨n,h1,aU.keys▸h2,h3⟩)
  ·rcases aU.mem H.nd h1 with⟨rfl,e⟩|⟨_,h1⟩
   ·cases e; exact .inr (.inr ⟨_,_,hm,has a' h2⟩)
   ·exact .inr (.inr ⟨_,_,h1,h2⟩)
 ·exact Uses.of aU.keys (rh aU hm has) h
theorem fP.Iv{ob e:Expr}{a:Addr}{p2 p3 pos:Pos}{rest:List Stmt}{X:D->Res->Prop}{ds:List D}{x:Str}{r:Res}(CL:eg W C ρ ob (.raw (.ref a)))(he:zy W C ρ e X)(hm:(x,Bd.res true r)∈ρ)(K7:∀f o,r.P f o->LstIs f o a ds)(fB:ds.length<=16777216)
 (ha:a∈r.as) (h:∀d q,X d q->∃r' a9,Ro.Set x (.res true r') ρ a9/\r'.v=r.v/\(∀b∈r'.as,b∈r.as\/b∈q.as)/\
  (∀f o o',r.P f o->q.P f o->(∀b∈r.as,b∉q.as)->LstIs f o' a (ds++[d])->(∀b y,o b=some y->b≠a->o' b=some y)->r'.P f o')/\fP W C a9 rest Q)
 (hb:bx ob "append" C.env (eval ob C.env)=eval ob C.env) (pd:aI [e] C.env=[(false,eval e C.env)]) (hl:(p2.endLine==p3.line)=true) (hi:interactive C.env=false)
 (hs:gj (.Call (.Attribute ob "append" p2) [e] [] p3) aD pos.line C.env=pure false):fP W C ρ (.Expr (.Call (.Attribute ob "append" p2) [e] [] p3) pos::rest) Q:=
 .cons λf o s S H P E WJ=>rK (rP CL hb (by rw[pd]; rfl) hl S H (λf' l=>K7 _ _ (held hm f' o (H.mono l (.refl o)))) λf1 s1 l1 S1=>by
  have Qf:r.P f1 o:=held hm f1 o (H.mono l1 (.refl o))
  rw[pd]
  refine dO (he f1 o s1 S1 (H.mono l1 (.refl o)) _ _ λv d q f2 o2 s2 hX l2 lo S2 d2 hq hn=>d9 ⟨S2.bT,?_⟩)
  obtain⟨r',a9,aU,hv,has,hP,iq⟩:=h d q hX
  have K8:r.P f2 o2:=r.mono _ _ _ _ (.refl f2) (λa _=>lo a) (held hm f2 o (H.mono (l1.trans l2) (.refl o)))
  have haq:∀b∈r.as,b∉q.as:=λb hb hbq=>by obtain⟨y,e⟩:=r.there _ _ Qf b hb; exact iB (hn b hbq) e
  refine wW S2 (K7 _ _ K8) d2 fB λo' s' S' l' k'=>WJ (.next a9) _ _ iq ⟨rfl,f2,o',?_⟩
  exact Left.change H hm aU hv (λb hb=>(has b hb).imp id (hn b)) (l1.trans l2) S' (hP _ _ _ K8 hq haq l' k') λb y e hb=>k' b y (lo _ _ e) λq=>hb (q▸ha)) hi hs
theorem OW{p1 p2:Pos}:VX W C ρ (.List [.List [] p1] p2) (λd r=>∃l m,d= .raw (.ref l)/\r=gS l m [] []):=vx λf o s S H Q E h=>by
 have he:aI [Expr.List [] p1] C.env=[(false,eval (Expr.List [] p1) C.env)]:=rfl
 refine List_ ?_
 rw[he]
 refine dO ((VX.un (sf a0)) f o s S H _ _ λv d r f1 o1 s1 hx l1 lo1 S1 dv hP hn=>d9 ?_)
 obtain⟨m,rfl,rfl⟩:=hx
 obtain rfl:v= .ref m:=dv
 refine vN S1 (ds:=[.raw (.ref m)]) (.cons rfl .nil) (by simp) λl o2 s2 G6 hl S2 L2=>?_
 have XJ:l≠m:=λe=>by
  obtain⟨y,hy⟩:=(eI m []).there f1 o1 hP m (.head _)
  subst e; exact iB hl hy
 refine h _ _ (gS l m [] []) f1 o2 s2 ⟨l,m,rfl,rfl⟩ l1 (lo1.trans G6) S2 rfl ⟨XJ,L2,(eI m []).mono _ _ _ _ (.refl f1) (λa _ y e=>G6 a y e) hP⟩ λb hb=>?_
 rcases au.mp hb with rfl|hb
 ·refine none_of λy q=>?_
  rw[lo1 _ _ q] at hl; exact nomatch hl
 ·exact hn b hb
theorem OX{test:Expr}{body rest:List Stmt}{pos:Pos}(I:Nat->Ro->Prop)(n:Nat)(h0:I n ρ)(h:∀n ρ,I n ρ->∃b,VB W C ρ test b/\(b=true->VS W C ρ body λ| .next a9=>∃m,n=m+1/\I m a9| .cont a9=>∃m,n=m+1/\I m a9|_=>False)/\(b=false->VS W C ρ rest Q)):VS W C ρ (.While test body [] pos::rest) Q:=by
 refine vs (.whl (n+1) ?_)
 have key:∀n ρ,I n ρ->CI W C test body (Ae W C rest Q) (n+1) ρ:=by
  intro n
  induction n with
  |zero=>
   intro ρ hI
   obtain⟨b,h1,h2,h3⟩:=h 0 ρ hI
   refine⟨b,h1.un,λhb=>(h2 hb).un.mono λout q=>?_,λhb=>(h3 hb).un⟩
   cases out with
   |next a9=>obtain⟨m,e,_⟩:=q; exact nomatch e
   |cont a9=>obtain⟨m,e,_⟩:=q; exact nomatch e
   |brk a9=>exact q.elim
   |ret d=>exact q.elim
  |succ n ih=>
   intro ρ hI
   obtain⟨b,h1,h2,h3⟩:=h (n+1) ρ hI
   refine⟨b,h1.un,λhb=>(h2 hb).un.mono λout q=>?_,λhb=>(h3 hb).un⟩
   cases out with
   |next a9=>obtain⟨m,e,hm⟩:=q; cases e; exact ih _ hm
   |cont a9=>obtain⟨m,e,hm⟩:=q; cases e; exact ih _ hm
   |brk a9=>exact q.elim
   |ret d=>exact q.elim
 exact key n ρ h0
theorem qA(X:cH W):cK W (J "ISTERMINAL") (.ref 162):=X.glob (by kernel_rfl)
theorem so(X:cH W):cK W (J "ISNONTERMINAL") (.ref 169):=X.glob (by kernel_rfl)
theorem LstIs.seal{f o:Fz}{l m:Addr}{ob:Obj}{dn rest last:List D}(hl:LstIs f o l (dn++[.raw (.ref m)]++rest))(hm:LstIs f o m last)(ho:o m=some ob)(lf:f.le (f.put m ob))(XJ:l≠m):LstIs (f.put m ob) (o.del m) l (dn++[.list last]++rest):=by
 obtain⟨obl,us,n,e1,e2,e3,e4⟩:=hl
 obtain⟨ob',ZQ,n',g1,g2,g3,g4⟩:=hm
 rw[ho] at g1
 obtain rfl:ob=ob':=cg g1
 refine⟨obl,us,n,by unfold Fz.del; rw[if_neg XJ]; exact e1,e2,e3,?_⟩
 obtain⟨XK,v3,rfl,Ni,h3⟩:=bQ.of_append e4
 obtain⟨v1,v2,rfl,h1,h2⟩:=bQ.of_append Ni
 obtain⟨v,r,rfl,hv,hr⟩:=h2
 obtain rfl:r=[]:=hr
 obtain rfl:v= .ref m:=hv
 exact((h1.mono lf).append (bQ.cons (d:= .list last) ⟨m,ob,ZQ,n',rfl,Fz.aJ ..,g2,g3,g4.mono lf⟩ .nil)).append (h3.mono lf)
theorem vu{t:List Nat}{a:Nat}(h:¬a<t.length):t.drop a=[]:=Cw.mpr (by exact RP h)
theorem vv(u:List Nat):0<bR u/\bR u<=3:=by
 unfold bR; split
 ·decide
 ·split<;>decide
noncomputable def readBody(K:Frag):List Stmt:=match(cj K 344).drop 1 with
 | .While _ b _ _::_=>b
 |_=>[]
inductive Iw(t:List Nat)(l:Addr)(n:Nat)(ρ:Ro):Prop
 |mk (a:Nat) (dn:List (List D)) (last:List D) (m:Addr) (b1 b2:Bd) (h1:t.length-a<=n) (h2:a+3*n<=5000) (h3:dn.length+last.length<=a) (h4:readOf t=dB (n+1) (t.drop a) dn last) (h5:ρ=([("text", .val (.str (aS t))),("rows", .res true (gS l m (dn.map .list) last)),("at", .val (.int a)),("size",b1),("symbol",b2)]:Ro)):Iw t l n ρ
theorem OY(X:cH W){A:Around}(lv:Lv 3 A){t:List Nat}(ht:∀c∈t,c∈gB)(hl:t.length<=1000):iJ W A (.ref 344) [.str (aS t)] (.list ((readOf t).map .list)):=by
 obtain⟨tk,ZR⟩:=tY X
 refine X.fn 344 (n:=2) (ps:=["text"]) (ρ:=[("text", .val (.str (aS t))),("rows", .unset),("at", .unset),("size", .unset),("symbol", .unset)])
  (names:=[(J "text",aq),(J "rows",ae),(J "at",aq),(J "size",ae),(J "symbol",ae),(J "len",ag),(J "max",ag),(J "EXACT_TOKEN_TYPES",ag),(J "NT_OFFSET",ag),(J "ISTERMINAL",ag),(J "ISNONTERMINAL",ag)])
  lv ⟨_,rfl,rfl⟩ rfl (by kernel_rfl) rfl rfl (by kernel_rfl) rfl rfl rfl rfl rfl (by kernel_rfl) (by kernel_rfl) (Ao λa=>by kernel_rfl) ?_ (λC O lv hN sA=>?_)
 ·show kj [(_,_)] _ _
  exact qY
 ·have K:CK C _:=⟨O,lv.hand,hN⟩
  have XM:=lv.le (m:=1) (by(first|lia|omega))
  refine Ic (ET OW num) ?_ rfl (jT K (.inr ij))
  rintro d r ⟨d1,rfl,l,m,rfl,rfl⟩
  refine⟨"rows",[("text", .val (.str (aS t))),("rows", .val (.raw (.ref l))),("at", .val (.int 0)),("size", .unset),("symbol", .unset)],[("text", .val (.str (aS t))),("rows", .res true (gS l m [] [])),("at", .val (.int 0)),("size", .unset),("symbol", .unset)],
   iV K (cx K) (cx K), .tail _ (.head _),kB,?_⟩
  refine OX (Iw t l) t.length
   ⟨0,[],[],m,_,_,by exact RQ,by exact aN 0x7ec480308678c48038ce01 tt hl,by simp,rfl,rfl⟩ ?_
  rintro n ρ ⟨a,dn,last,m,b1,b2,h1,h5,h4,h2,rfl⟩
  refine⟨decide (a<t.length), .eq (kO K (nm K) (bS (gl K (jU X)) .builtin (a1 (nm K)) (tE (by rw[eS]; exact aN 0x3f6240085f495212a0201 tt hl))) Bz) ?_,λhb=>?_,λhb=>?_⟩
  ·rw[eS]; simp
  ·have ha:a<t.length:=of_decide_eq_true hb
   obtain⟨u,hu⟩:∃u,u=t.drop a:=⟨_,rfl⟩
   have LX:u≠[]:=λe=>by
    have:=congrArg i8 (hu.symm.trans e)
    rw[sQ] at this; simp at this; exact RR ha this
   have OZ:∀c∈u,c∈gB:=λc hc=>ht c (Hl a t (hu▸hc))
   have fB:=vv u
   have ZS:=yT OZ LX
   have O0:t[a]? =some (u.headD 0):=by
    rw[hu]
    have:(t.drop a)[0]? =t[a]? :=by rw[DW]; rfl
    rw[<-this]
    cases e:t.drop a with
    |nil=>exact absurd (hu.trans e) LX
    |cons c r=>rfl
   refine let1 (d:= .int (bR u)) (.eq (bS (gl K (ly X)) .builtin (a1 (VE.eq (bin K (lst (a1 num)) (dY (eW:=[(".0", .unset),("k", .unset),("at", .val (.int a)),("text", .val (.str (aS t)))]) (out:=(([2,3]:List Nat).filter λk=>(tokOf (u.take k)).isSome).map λ(k:Nat)=>D.int k) K (jE K (tup (ac num (a1 num))) HD) (λC' K' e=>?_) kq ?_) (qp ?_)) (d':= .list ((1::(([2,3]:List Nat).filter λk=>(tokOf (u.take k)).isSome).map λ(k:Nat)=>(k:Int)).map D.int)) ?_)) (oh K.hand (by exact nofun))) ?_) (cx K) ?_
   ·refine sm ([2,3]:List Nat) (λ(k:Nat)=>D.int k) (λk=>(tokOf (u.take k)).isSome) (λ(k:Nat)=>D.int k) (λ(k:Nat)=>[(".0", .unset),("k", .val (.int k)),("at", .val (.int a)),("text", .val (.str (aS t)))]) (λk hk=>cx K') (λk hk=>?_) (λk hk _=>nm K') λk hk=>jS
    refine kO K' (VE.eq (BO (a:=a) (b:=a+k) (x:=t) (nm K') (p1 (nm K')) (p1 (VE.eq (bin K' (nm K') (nm K') cV) (by exact rfl))) (by exact aN 0xfd8900217d25484801 tt hl) (λ_ _=>rfl)) ?_) (gl K' (J0 X)) (Fd X)
    rw[hu,zG]
   ·rw[ai]; exact aP (ba _ _) (by decide)
   ·rw[ai]
    have:=ba (λk=>(tokOf (u.take k)).isSome) ([2,3]:List Nat)
    simp only[aQ,ff] at this ⊢; exact aN 0xa5270800217d254848149c201 tt this
   ·show D.list ([D.int 1]++_)=D.list (D.int 1::_)
    rw[aM]; rfl
   ·show D.int _=D.int _
    congr 1
    unfold bR
    rw[eG,eG,List.filter_nil]
    cases(tokOf (u.take 2)).isSome<;>cases(tokOf (u.take 3)).isSome<;>rfl
   ·refine let1 (d:= .int (eK u)) (VE.eq (gg (gl K (J0 X)) (Fe X) .builtin (ac (VE.eq (BO (a:=a) (b:=a+bR u) (x:=t) (nm K) (p1 (nm K)) (p1 (VE.eq (bin K (nm K) (nm K) cV) (by exact rfl))) (by exact aN 0xfd8900217d25484801 tt hl) (λ_ _=>rfl)) (d':= .str (aS (u.take (bR u)))) ?_)
     (a1 (bin K (ofRaw (d:= .int 256) (gl K ZR) λf=>⟨tk,rfl⟩) (gg (st bU) (ir PySem.F.slot_str_find PySem.F.type_str_find) .builtin (a1 (dA (T:= "str") (da:= .str (aS t)) (di:= .int a) K (nm K) (nm K) fK (iT O0 (by exact aN 0x3f6240085f495212a0201 tt hl)))) (Ex (i:=jH (u.headD 0)) rfl)) cV))) (AE X)) ?_) (cx K) ?_
    ·rw[hu,zG]
    ·rfl
    ·have hI:∀f o,bc C ([("text", .val (.str (aS t))),("rows", .res true (gS l m (dn.map .list) last)),("at", .val (.int a)),("size", .val (.int (bR u))),("symbol", .val (.int (eK u)))]:Ro) f o->(gS l m (dn.map .list) last).P f o:=λf o H=>held (x:=J "rows") (w:=true) (r:=gS l m (dn.map .list) last) ij f o H
     obtain⟨n,rfl⟩:∃k,n=k+1:=⟨n-1,by exact RS h1 ha⟩
     have BW:readOf t=if eK u=13 then dB (n+1) (t.drop (a+bR u)) (dn++[last]) [] else dB (n+1) (t.drop (a+bR u)) dn (last++[itemOf (eK u)]):=by
      rw[h2,<-hu,dB,if_neg LX,hu,KA]
     have ZT:∀{ρ:Ro} {O1:List (List D)} {yU:List D} {m':Addr},readOf t=dB (n+1) (t.drop (a+bR u)) O1 yU->O1.length+yU.length<=a+1->
      ρ=([("text", .val (.str (aS t))),("rows", .res true (gS l m' (O1.map .list) yU)),("at", .val (.int a)),("size", .val (.int (bR u))),("symbol", .val (.int (eK u)))]:Ro)->
      VS W C ρ ((readBody (KK W)).drop 3) λ| .next a9=>∃k,n+1=k+1/\Iw t l k a9| .cont a9=>∃k,n+1=k+1/\Iw t l k a9|_=>False:=by
      rintro ρ O1 yU m' g1 g2 rfl
      refine let1 (d:= .int ((a+bR u:Nat):Int)) (VE.eq (bin K (nm K) (nm K) cV) (by exact rfl)) (cx K) (dh ?_)
      exact⟨n,rfl,a+bR u,O1,yU,m',_,_,by exact RT ha fB h1,by exact cG 0x678c4a8280e2180436004219e31210e200c201 tt fB.2 h5,by exact hK 0x141c04180420a4e010807010601 tt fB.1 g2,g1,rfl⟩
     refine jw (kO K (nm K) num hZ) (λh=>?_) λh=>?_
     ·have JE:eK u=13:=of_decide_eq_true h
      rw[if_pos JE] at BW
      refine vs (.Iv (a:=l) (x:= "rows") (r:=gS l m (dn.map .list) last) (ds:=dn.map D.list++[.raw (.ref m)]) (X:=tm []) (VE.un (Qp K (r:=gS l m (dn.map .list) last) ij)) (VX.un (sf a0)) ij (λf o h=>h.2.1) (by simp; exact hK 0x5070084620c0211fb120042fffffffc821 tt hl h4 ha) (.head _) (λd q hq=>?_) rfl rfl (by decide) K.inter rfl)
      obtain⟨m',rfl,rfl⟩:=hq
      refine⟨rD l m m' (dn.map .list) last,[("text", .val (.str (aS t))),("rows", .res true (rD l m m' (dn.map .list) last)),("at", .val (.int a)),("size", .val (.int (bR u))),("symbol", .val (.int (eK u)))],kB,rfl,λb hb=>?_,λf o o' p1 p2 p3 p4 p5=>?_,?_⟩
      ·simp only[rD,gS,eI,au,bo,or_false] at hb ⊢; rcases hb with rfl|rfl|rfl<;>simp
      ·have O2:l≠m':=λe=>p3 l (by simp[gS]) (by simp[eI,e])
       have XN:m≠m':=λe=>p3 m (by simp[gS]) (by simp[eI,e])
       exact⟨p1.1,O2,XN,p4,p1.2.2.off λy e=>p5 _ _ e (Ne.symm p1.1),LstIs.off (f:=f) (o:=o) (ds:=[]) p2 λy e=>p5 _ _ e (Ne.symm O2)⟩
      ·refine VS.un (vs (.BV (a:=m) (x:= "rows") (r:=rD l m m' (dn.map .list) last) (r':=gS l m' ((dn++[last]).map .list) []) (a9:=[("text", .val (.str (aS t))),("rows", .res true (gS l m' ((dn++[last]).map .list) [])),("at", .val (.int a)),("size", .val (.int (bR u))),("symbol", .val (.int (eK u)))]) ij (by simp[rD]) rfl (λb hb=>?_) (λf o ob p e lf=>?_) kB (VS.un (dh ?_))))
       ·simp only[rD,gS,au,bo,or_false] at hb ⊢; rcases hb with rfl|rfl<;>simp
       ·obtain⟨q1,q2,q3,q4,q5,q6⟩:=p
        refine⟨q2,?_,?_⟩
        ·rw[fU]
         exact q4.seal q5 e lf q1
        ·refine LstIs.off (o:=o) (q6.mono lf (.refl o)) λy e=>?_
         unfold Fz.del; rw[if_neg (Ne.symm q3)]; exact e
       ·exact ZT BW (by simp; exact cG 2233920948225 tt h4) rfl
     ·have JE:¬eK u=13:=of_decide_eq_false h
      rw[if_neg JE] at BW
      have hsy':(eK u<256)=¬(256<=eK u):=by rw[i9]
      refine jw (b:=true) (kO K (bS (gl K (qA X)) (X.kept (by kernel_rfl)) (a1 (nm K)) (Oa X XM).un) (bS (gl K (so X)) (X.kept (by kernel_rfl)) (a1 (nm K)) (Xi X XM).un) (yu (n:=0) .bool ?_ (by simp[*]))) (λ_=>?_) λe=>by cases e
      ·simp only[true_iff,ne_eq,D.bool.injEq,decide_eq_decide]
       exact RU
      ·refine vs (.append (a:=m) (x:= "rows") (r:=gS l m (dn.map .list) last) (r':=gS l m (dn.map .list) (last++[itemOf (eK u)])) (ds:=last) (d:=itemOf (eK u))
        (VE.un (yF K (a:=l) (ds:=dn.map D.list++[.raw (.ref m)]) (di:= .int (-1)) (d:= .raw (.ref m)) (λf o H=>(hI f o H).2.1.G7) (Qp K (r:=gS l m (dn.map .list) last) ij) (neg K num w6) (vQ (k:=1) rfl (by(first|lia|omega)) (by simp) (by(first|lia|omega)) (by simp))))
        (VE.un (vq (Ar K (bS (gl K (qA X)) (X.kept (by kernel_rfl)) (a1 (nm K)) (Oa X XM).un) gz) (λh=> .eq (nm K) ?_) λh=> .eq (dA (T:= "str") (da:= .str (aS bU)) (di:= .int ((eK u-256).toNat:Nat)) K (st bU) (VE.eq (bin K (nm K) (ofRaw (d:= .int 256) (gl K ZR) λf=>⟨tk,rfl⟩) gG) ?_) fK (iT (c:=bU.getD (eK u-256).toNat 0) ?_ (by decide))) ?_))
        ij (λf o h=>h.2.2) (by exact hK 0xa0e0108c4180423f6240084308421084841 tt hl h4 ha) (a9:=[("text", .val (.str (aS t))),("rows", .res true (gS l m (dn.map .list) (last++[itemOf (eK u)]))),("at", .val (.int a)),("size", .val (.int (bR u))),("symbol", .val (.int (eK u)))]) kB rfl rfl (by simp[gS]) (λf o o' p1 p2 p3=>⟨p1.1,p1.2.1.off λy e=>p3 _ _ e p1.1,p2⟩) (VS.un (dh ?_)) rfl rfl (by decide) K.inter rfl)
       ·have h':eK u<256:=of_decide_eq_true h
        unfold itemOf; rw[if_pos h']
       ·have h':¬eK u<256:=of_decide_eq_false h
        congr 1; exact RV ZS h'
       ·have h':¬eK u<256:=of_decide_eq_false h
        have ki:(eK u-256).toNat<bU.length:=by show _<8; exact RW ZS h'
        rw[ak,aj ki]; rfl
       ·have h':¬eK u<256:=of_decide_eq_false h
        unfold itemOf; rw[if_neg h']
       ·refine dh ?_
        exact ZT BW (by simp; exact cG 0x820804341428180201 tt h4) rfl
  ·have ha:¬a<t.length:=of_decide_eq_false hb
   have LY:readOf t=dn++[last]:=by rw[h2,vu ha,dB,if_pos rfl]
   refine vs (.BV (a:=m) (x:= "rows") (r:=gS l m (dn.map .list) last) (r':=eI l ((dn++[last]).map .list)) (a9:=[("text", .val (.str (aS t))),("rows", .res true (eI l ((dn++[last]).map .list))),("at", .val (.int a)),("size",b1),("symbol",b2)]) ij (by simp[gS]) rfl (λb hb=>?_) (λf o ob p e lf=>?_) kB (VS.un ?_))
   ·simp only[gS,eI,au,bo,or_false] at hb ⊢; exact .inl hb
   ·obtain⟨q1,q2,q3⟩:=p
    have:=LstIs.seal (rest:=[]) (by rw[gT]; exact q2) q3 e lf q1
    rw[gT] at this
    show LstIs _ _ l ((dn++[last]).map D.list)
    rw[fU]; exact this
   ·refine tX (x:= "rows") (a:=l) (ds:=(dn++[last]).map .list) ij kB ?_
    refine j6 (nm K) ?_
    show D.list _=D.list _
    rw[LY]
end
structure Hd where
 a:Nat
 eq:Bool
 b:Nat
structure Hd.Ok(h:Hd):Prop where
 a:h.a∈bU
 b:h.b∈bU
noncomputable def Hd.txt(h:Hd):List Nat:=(if h.eq then[61,61] else[60])++[h.b]
noncomputable def Hd.pr(h:Hd):List Nat×List Nat:=([h.a],h.txt)
noncomputable def small:List Nat:=[97,98,99,100]
noncomputable def nextOf(hs:List Hd)(p:Nat×Bool):List (Nat×Bool):=(hs.filter λh=>decide (lo1 h.a=p.1)).map λh=>(lo1 h.b,p.2|| !h.eq)
noncomputable def j7(fs xs:List (Nat×Bool)):List (Nat×Bool):=xs.foldl (λfs x=>if x∈fs then fs else fs++[x]) fs
noncomputable def fM(hs:List Hd):Nat->Nat->List (Nat×Bool)->List (Nat×Bool)
 | 0,_,fs=>fs
 |n+1,i,fs=>match fs[i]? with
  |aD=>fs
  |some p=>fM hs n (i+1) (j7 fs (nextOf hs p))
noncomputable def iu(hs:List Hd)(c:Nat):List (Nat×Bool):=fM hs 8 0 [(c,false)]
theorem C0:∀c∈bU,lo1 c∈small:=by decide
theorem Ff:∀c∈small,gv true c=true/\(∀d∈bU,([d].map lo1=[up1 c].map lo1↔lo1 d=c))/\gv true (up1 c)=true:=by decide
theorem kz:∀c∈bU,gv true c=true/\gv false c=true:=by decide
theorem Hd.Ok.hd{h:Hd}(x:h.Ok):vr h.pr:=by
 refine⟨?_,?_,by simp[Hd.pr],?_⟩
 ·show clean true [h.a]=true
  unfold clean; rw[c9,(kz _ x.a).1]; rfl
 ·show clean false ((if h.eq then[61,61] else[60])++[h.b])=true
  unfold clean
  rw[oI,c9,(kz _ x.b).2]
  split<;>rfl
 ·show((if h.eq then[61,61] else[60])++[h.b]).length<=1000
  split<;>simp
theorem Fg{h:Hd}(x:h.Ok):readOf h.txt=[[.int (if h.eq then 27 else 20), .str (aS [h.b])]]:=by
 obtain⟨a,e,b⟩:=h
 have hb:=x.b
 simp only[bU,au,bo,or_false] at hb
 cases e<;>rcases hb with h|h|h|h|h|h|h|h<;>(subst h; kernel_rfl)
theorem ue{α:Type}[DecidableEq α]:∀(l m:List α),l.Nodup->(∀x∈l,x∈m)->l.length<=m.length
 |[],m,_,_=>fC _
 |x::l,m,hn,hs=>by
  rw[fS] at hn
  have hx:=hs x (.head _)
  have:=ue l (m.erase x) hn.2 λy hy=>(List.mem_erase_of_ne (λe=>hn.1 (by rw[<-e]; exact hy))).mpr (hs y (.tail _ hy))
  rw[List.length_erase_of_mem hx] at this
  have:0<m.length:=nX hx
  simp only[aQ]; exact RX ‹_› this
noncomputable def J1:List (Nat×Bool):=small.flatMap λc=>[(c,false),(c,true)]
theorem J2{fs:List (Nat×Bool)}(hn:fs.Nodup)(h:∀p∈fs,p.1∈small):fs.length<=8:=by
 refine ue fs J1 hn λp hp=>?_
 have:=h p hp
 unfold J1
 rw[sO]
 exact⟨p.1,this,by obtain⟨c,b⟩:=p; cases b<;>simp⟩
theorem Iy{p q:Nat×Bool}(h:lM p=lM q):p=q:=by
 obtain⟨a,b⟩:=p; obtain⟨c,d⟩:=q
 unfold lM at h
 injection h with h
 injection h with h1 h2
 injection h2 with h2 _
 injection h1 with h1
 injection h2 with h2
 have:=qo h1
 simp_all
theorem Iz{p:Nat×Bool}{fs:List (Nat×Bool)}:lM p∈fs.map lM↔p∈fs:=by
 constructor
 ·intro h
  obtain⟨q,hq,e⟩:=aw.mp h
  exact Iy e▸hq
 ·exact λh=>aw.mpr ⟨p,h,rfl⟩
theorem yV(p q:Nat×Bool):gf 1 (lM p) (lM q):=w0 .str .bool
section
variable {W:Wd}{C:Cx}{ρ a9 bD bZ:Ro}{names:List (Str×aC)}{Q:Out->Prop}{f o:Fz}{s:Shared}
theorem Fh(X:cH W):cK W (J "_law_read") (.ref 344):=X.glob (by kernel_rfl)
theorem wm(X:cH W){d:D}:Meth W (.obj 313 [("_headers",d)]) (J "get_all") (.ref 252):=jG X (by kernel_rfl) (by kernel_rfl) (by kernel_rfl) (by kernel_rfl)
theorem XO(K:CK C names){x y:Expr}{pos:Pos}{da db:D}{a:Bool}{d:D}(hx:VE W C ρ x da)(ha:KS W da a)(hy:a=false->VE W C ρ y db)(h1:a=true->d=da)(h2:a=false->d=db):VE W C ρ (.BoolOp .Or [x,y] pos) d:=ve (.or2 K.ok hx.un ha (λh=>(hy h).un) h1 h2)
inductive O3(hs:List Hd)(c:Nat)(l:Addr)(n:Nat)(ρ:Ro):Prop
 |mk (a:Nat) (fs:List (Nat×Bool)) (b1 b2:Bd) (h1:a+n=8) (h2:a<=fs.length) (h3:fs.Nodup) (h4:(∀p∈fs,p.1∈small)) (h5:iu hs c=fM hs n a fs) (h6:ρ=([("table", .val (pL (hs.map Hd.pr))),("name", .val (.str (aS [c]))),("found", .res true (eI l (fs.map lM))),("at", .val (.int a)),("steps",b1),("step",b2)]:Ro)):O3 hs c l n ρ
inductive O4(hs:List Hd)(c:Nat)(l:Addr)(fs:List (Nat×Bool))(p:Nat×Bool)(a:Nat)(xs:List D)(ρ:Ro):Prop
 |mk (r:List (Nat×Bool)) (gs:List (Nat×Bool)) (b2:Bd) (h1:xs=r.map lM) (h2:(∀q∈r,q.1∈small)) (h3:gs.Nodup) (h4:(∀q∈gs,q.1∈small)) (h5:a+1<=gs.length) (h6:j7 fs (nextOf hs p)=j7 gs r) (h7:ρ=([("table", .val (pL (hs.map Hd.pr))),("name", .val (.str (aS [c]))),("found", .res true (eI l (gs.map lM))),("at", .val (.int a)),("steps", .val (.list ((hs.filter λh=>decide (lo1 h.a=p.1)).map λh=>D.list [.int (if h.eq then 27 else 20), .str (aS [h.b])]))),("step",b2)]:Ro)):O4 hs c l fs p a xs ρ
theorem XQ(X:cH W){A:Around}(lv:Lv 5 A){hs:List Hd}{c:Nat}{out:List (Nat×Bool)}(IA:∀h∈hs,h.Ok)(hn:hs.length<=1000)(hc:c∈small)(ho:out.Perm (iu hs c))(O5:out.Pairwise λa b=>a.1<b.1)(h4:(iu hs c).length<=4)(h1:1<=(iu hs c).length):
 iJ W A (.ref 354) [pL (hs.map Hd.pr), .str (aS [c])] (.list (out.map lM)):=by
 have m9:∀p∈hs.map Hd.pr,vr p:=λp hp=>by obtain⟨h,hh,rfl⟩:=aw.mp hp; exact(IA h hh).hd
 refine X.fn 354 (n:=4) (ps:=["table","name"]) (ρ:=[("table", .val (pL (hs.map Hd.pr))),("name", .val (.str (aS [c]))),("found", .unset),("at", .unset),("steps", .unset),("step", .unset)])
  (names:=[(J "table",ae),(J "name",ae),(J "found",aq),(J "at",aq),(J "steps",ae),(J "step",ae),(J "len",ag),(J "sorted",ag)])
  lv ⟨_,rfl,rfl⟩ rfl (by kernel_rfl) rfl rfl (by kernel_rfl) rfl rfl rfl rfl rfl (by kernel_rfl) (by kernel_rfl) (tW λa b=>by kernel_rfl) ?_ (λC O lv hN sA=>?_)
 ·show kj [(_,_),(_,_)] _ _
  exact qY
 ·have K:CK C _:=⟨O,lv.hand,hN⟩
  refine Ic (ET (sf (ds:=[lM (c,false)]) (a1 (tup (ac (nm K) (a1 JO))))) num) ?_ rfl (jT K (.inl ij))
  rintro d r ⟨d1,rfl,l,rfl,rfl⟩
  refine⟨"found",[("table", .val (pL (hs.map Hd.pr))),("name", .val (.str (aS [c]))),("found", .val (.raw (.ref l))),("at", .val (.int 0)),("steps", .unset),("step", .unset)],[("table", .val (pL (hs.map Hd.pr))),("name", .val (.str (aS [c]))),("found", .res true (eI l [lM (c,false)])),("at", .val (.int 0)),("steps", .unset),("step", .unset)],
   iV K (cx K) (cx K), .tail _ (.tail _ (.head _)),kB,?_⟩
  refine OX (O3 hs c l) 8
   ⟨0,[(c,false)],_,_,rfl,by simp,by simp,λp hp=>by rcases aA.mp hp with rfl; exact hc,rfl,rfl⟩ ?_
  rintro n ρ ⟨a,fs,b1,b2,g1,g2,g3,g4,g5,rfl⟩
  have hI:∀f o,bc C ([("table", .val (pL (hs.map Hd.pr))),("name", .val (.str (aS [c]))),("found", .res true (eI l (fs.map lM))),("at", .val (.int a)),("steps",b1),("step",b2)]:Ro) f o->k9 f o l (fs.map lM):=λf o H=>(held (x:=J "found") (w:=true) (r:=eI l (fs.map lM)) ij f o H).G7
  have O6:=J2 g3 g4
  refine⟨decide (a<fs.length), .eq (kO K (nm K) (rt hI (gl K (jU X)) .builtin (a1 (JN K)) (ql (by rw[ai]; exact aN 0x360085f495212a0201 tt O6))) Bz) (by simp),λhb=>?_,λhb=>?_⟩
  ·have ha:a<fs.length:=of_decide_eq_true hb
   obtain⟨p,hp⟩:∃p,fs[a]? =some p:=⟨fs[a],aj ha⟩
   have Lm:p∈fs:=bI hp
   have XR:=g4 p Lm
   have XS:=Ff _ XR
   have C1:(fs.map lM)[a]? =some (lM p):=by rw[av,hp]; rfl
   obtain⟨n,rfl⟩:∃k,n=k+1:=⟨n-1,by exact RY g1 O6 ha⟩
   have g5':iu hs c=fM hs n (a+1) (j7 fs (nextOf hs p)):=by rw[g5,fM,hp]
   have KY:allOf (hs.map Hd.pr) [up1 p.1]=(hs.filter λh=>decide (lo1 h.a=p.1)).map λh=>D.str (aS h.txt):=by
    unfold allOf
    rw[List.filter_map,aM]
    have:(hs.filter ((λq:List Nat×List Nat=>decide (q.1.map lo1=[up1 p.1].map lo1))∘Hd.pr))=hs.filter λh=>decide (lo1 h.a=p.1):=by
     refine mC λh hh=>?_
     simp only[lF,decide_eq_decide]
     exact XS.2.1 _ (IA h hh).a
    rw[this]; rfl
   refine vZ (eW:=[(".0", .unset),("rest", .unset)]) (out:=(hs.filter λh=>decide (lo1 h.a=p.1)).map λh=>D.list [.int (if h.eq then 27 else 20), .str (aS [h.b])]) K
    (jE K (d:= .list (allOf (hs.map Hd.pr) [up1 p.1])) (gg (nm K) (wm X) (X.kept (by kernel_rfl)) (a1 (gg (dA (T:= "tuple") (da:=lM p) (di:= .int (0:Nat)) (d:= .str (aS [p.1])) K (yF K hI (JN K) (nm K) (tD C1 (by exact aX 0x3740c010085f495212a0201 tt (ah g1)))) num cu (fw rfl (by(first|lia|omega)))) (ir PySem.F.slot_str_upper PySem.F.type_str_upper) .builtin a0 (CQ (x:=[p.1]) ?_ (by simp)))) (ON X (lv.le (by(first|lia|omega))) m9 (by rw[ai]; assumption) (x:=[up1 p.1]) ?_ (by simp)).un) bp) (λC' K' e=>?_) kq ?_ kB ?_
   ·exact rX (b:=true) (by unfold clean; rw[c9,XS.1]; rfl)
   ·unfold clean; rw[c9,XS.2.2]; rfl
   ·rw[KY]
    refine gH (hs.filter λh=>decide (lo1 h.a=p.1)) (λh=> .str (aS h.txt)) (λh=>D.list [.int (if h.eq then 27 else 20), .str (aS [h.b])]) (λh=>[(".0", .unset),("rest", .val (.str (aS h.txt)))]) (λh hh=>?_) (λh hh=>?_) λh hh=>jS
    ·exact cx K'
    have Qs:=IA h (bw.mp hh).1
    refine dA (T:= "list") (da:= .list ((readOf h.txt).map .list)) (di:= .int (0:Nat)) K' (bS (gl K' (Fh X)) (X.kept (by kernel_rfl)) (a1 (nm K')) (OY X (by rw[e]; exact lv.le (by simp[*])) (λc hc=>?_) ?_).un) num aR (bY ?_ (by(first|lia|omega)))
    ·have hb:∀c∈bU,c∈gB:=by decide
     unfold Hd.txt at hc
     rcases bN.mp hc with hc|hc
     ·split at hc<;>simp only[au,bo,or_false,or_self] at hc<;>subst hc<;>decide
     ·rcases aA.mp hc with rfl; exact hb _ Qs.b
    ·unfold Hd.txt; split<;>simp
    ·rw[Fg Qs]; rfl
   ·rw[ai]; exact aP (ba _ _) (by exact aN 0xfd8900210e2da84801 tt hn)
   ·refine mO (xs:=(nextOf hs p).map lM) K (jE K (dY (eW:=[(".0", .unset),("sign", .unset),("other", .unset),("at", .val (.int a)),("found", .res false (eI l (fs.map lM)))]) (out:=(nextOf hs p).map lM) K (jE K (nm K) bp) (λC' K' e=>?_) kq ?_) bp)
     (O4 hs c l fs p a) ⟨nextOf hs p,fs,_,rfl,?_,g3,g4,by assumption,rfl,rfl⟩ ?_ ?_
    ·unfold nextOf
     rw[aM]
     refine gH (hs.filter λh=>decide (lo1 h.a=p.1)) (λh=>D.list [.int (if h.eq then 27 else 20), .str (aS [h.b])]) _ (λh=>[(".0", .unset),("sign", .val (.int (if h.eq then 27 else 20))),("other", .val (.str (aS [h.b]))),("at", .val (.int a)),("found", .res false (eI l (fs.map lM)))]) (λh hh=>?_) (λh hh=>?_) λh hh=>jS
     ·exact iV K' (cx K') (cx K') (.inr rfl)
     have Qs:=IA h (bw.mp hh).1
     have hI':∀f o,bc C' ([(".0", .unset),("sign", .val (.int (if h.eq then 27 else 20))),("other", .val (.str (aS [h.b]))),("at", .val (.int a)),("found", .res false (eI l (fs.map lM)))]:Ro) f o->k9 f o l (fs.map lM):=λf o H=>(held (x:=J "found") (w:=false) (r:=eI l (fs.map lM)) ij f o H).G7
     refine .eq (tup (ds:=[.str (aS ([h.b].map lo1)), .bool (p.2|| !h.eq)]) (ac (rA K' (nm K') ?_ (by simp)) (a1 (XO K' (da:= .bool p.2) (a:=p.2) (db:= .bool (decide ((if h.eq then(27:Int) else 20)=20))) (dA (T:= "tuple") (da:=lM p) (di:= .int (1:Nat)) K' (yF K' hI' (JN K') (nm K') (tD C1 (by exact aX 0x3740c010085f495212a0201 tt (ah g1)))) num cu (fw rfl (by(first|lia|omega)))) gz (λ_=>cmp K' (nm K') num hZ) ?_ ?_)))) rfl
     ·unfold clean; rw[c9,(kz _ Qs.b).1]; rfl
     ·intro q; rw[q]; rfl
     ·intro q; rw[q]; cases h.eq<;>rfl
    ·unfold nextOf; rw[ai,ai]; exact aP (ba _ _) (by exact aN 0xfd8900210e2da84801 tt hn)
    ·intro q hq
     unfold nextOf at hq
     obtain⟨h,hh,rfl⟩:=aw.mp hq
     exact C0 _ (IA h (bw.mp hh).1).b
    ·rintro ρ ⟨r,gs,b2,e1,e2,e3,e4,e5,e6,rfl⟩
     cases r with
     |cons _ _=>exact nomatch e1
     |nil=>
      refine let1 (d:= .int ((a+1:Nat):Int)) (VE.eq (bin K (nm K) num cV) (by exact rfl)) (cx K) (dh ?_)
      exact⟨n,rfl,a+1,gs,_,_,by exact RZ g1,e5,e3,e4,by rw[g5',e6]; rfl,rfl⟩
    ·rintro y xs ρ ⟨r,gs,b2,e1,e2,e3,e4,e5,e6,rfl⟩
     cases r with
     |nil=>exact nomatch e1
     |cons q r=>
      obtain⟨rfl,rfl⟩:y=lM q/\xs=r.map lM:=by cases e1; exact⟨rfl,rfl⟩
      refine⟨_,cx K,?_⟩
      have hI2:∀f o,bc C ([("table", .val (pL (hs.map Hd.pr))),("name", .val (.str (aS [c]))),("found", .res true (eI l (gs.map lM))),("at", .val (.int a)),("steps", .val (.list ((hs.filter λh=>decide (lo1 h.a=p.1)).map λh=>D.list [.int (if h.eq then 27 else 20), .str (aS [h.b])]))),("step", .val (lM q))]:Ro) f o->k9 f o l (gs.map lM):=λf o H=>(held (x:=J "found") (w:=true) (r:=eI l (gs.map lM)) ij f o H).G7
      refine jw (b:=decide (q∉gs)) (Xg K hI2 (nm K) (JN K) (CM (n:=1) (λd hd=>by obtain⟨z,_,rfl⟩:=aw.mp hd; exact yV z q) (by rw[Iz]; simp) (by simp[*]))) (λhq=>?_) λhq=>?_
      ·have J3:q∉gs:=of_decide_eq_true hq
       refine EU (d:=lM q) (ds:=gs.map lM) K (nm K) (by have:=J2 e3 e4; rw[ai]; exact aN 0x360084308421084801 tt this) (dh (dh ?_))
       refine⟨r,gs++[q],_,rfl,λz hz=>e2 z (.tail _ hz),?_,?_,by simp; exact aX 1787244348417 tt e5,?_,by rw[fU]; rfl⟩
       ·rw[GX]
        exact⟨e3,by simp,λz hz w hw=>by rcases aA.mp hw with rfl; exact λe=>J3 (e▸hz)⟩
       ·intro z hz
        rcases bN.mp hz with hz|hz
        ·exact e4 z hz
        ·rcases aA.mp hz with rfl; exact e2 _ (.head _)
       ·rw[e6]; unfold j7; rw[ei,if_neg J3]
      ·have J3:q∈gs:=by simpa using hq
       refine dh (dh ?_)
       refine⟨r,gs,_,rfl,λz hz=>e2 z (.tail _ hz),e3,e4,e5,?_,rfl⟩
       rw[e6]; unfold j7; rw[ei,if_pos J3]
  ·have ha:¬a<fs.length:=of_decide_eq_false hb
   have LY:iu hs c=fs:=by
    rw[g5]
    cases n with
    |zero=>rfl
    |succ n=>rw[fM,cf (by exact R0 g2 ha)]
   rw[LY] at ho h4 h1
   refine tX (x:= "found") (a:=l) (ds:=fs.map lM) ij kB ?_
   refine j6 (bS (gl K (yH X)) .builtin (a1 (nm K)) (yB h1 h4 ?_ ho O5)) rfl
   have:(out.map (·.1)).Nodup:=by
    rw[List.Nodup,r6]
    exact O5.imp fun{a b} h=>bg h
   exact(ho.map (·.1)).nodup_iff.mp this
end
noncomputable abbrev cA(l:List Nat):D:= .list (l.map λ(n:Nat)=>D.int n)
theorem iW(a b:Nat):(a:Int).fdiv b=((a / b:Nat):Int):=by rw[Int.fdiv_eq_ediv_of_nonneg _ (by exact ew 8673 tt)]; rfl
theorem jW(a b:Nat):(a:Int).fmod b=((a % b:Nat):Int):=by rw[Int.fmod_eq_emod_of_nonneg _ (by(first|lia|omega))]; rfl
theorem pO{α:Type}(l:List α)(a:Nat):∀n,a+n<=l.length->(((aB n).map (a+ ·)).filterMap (l[·]?))=(l.drop a).take n
 | 0,_=>by simp
 |n+1,h=>by
  rw[List.range_succ,fU,List.filterMap_append,pO l a n (by exact cG 0x2a06008042208201 tt h),List.take_succ]
  congr 1
  rw[DW,aO,zJ,qc,List.filterMap_nil,aj (by exact R4 h)]
  rfl
theorem oS(ds:List D)(u:Nat):qm ds (some (u:Int)) aD aD=ds.drop u:=by
 unfold qm
 have e:m6 (dF (some (u:Int)) aD aD ds.length).1 (dF (some (u:Int)) aD aD ds.length).2.1 (dF (some (u:Int)) aD aD ds.length).2.2=m6 ((min u ds.length:Nat):Int) (ds.length:Nat) 1:=by
  simp only[dF,DS,show(1:Int)>0 by decide,if_true]
  rw[if_neg (by exact R5)]
  congr 1; exact QV
 rw[e,A3,pO ds _ _ (by exact R6)]
 rcases fA u ds.length with h|h
 ·rw[kW h,df (by simp)]
 ·rw[iw h,gD (bL _),gD h]; simp
theorem oU(ds:List D)(u:Nat):qm ds aD (some (u:Int)) aD=ds.take u:=by
 unfold qm
 have e:m6 (dF aD (some (u:Int)) aD ds.length).1 (dF aD (some (u:Int)) aD ds.length).2.1 (dF aD (some (u:Int)) aD ds.length).2.2=m6 ((0:Nat):Int) ((min u ds.length:Nat):Int) 1:=by
  simp only[dF,DS,show(1:Int)>0 by decide,if_true]
  rw[if_neg (by(first|lia|omega))]
  congr 1; exact QV
 rw[e,A3,pO ds _ _ (by exact R7),wO,Nat.sub_zero]
 rcases fA u ds.length with h|h
 ·rw[kW h]
 ·rw[iw h,df (bL _),df h]
theorem IB{l:List Nat}{x:Nat}:D.int x∈(l.map λ(n:Nat)=>D.int n)↔x∈l:=by
 constructor
 ·intro h
  obtain⟨y,hy,e⟩:=aw.mp h
  injection e with e
  have:y=x:=by exact M9 e
  exact this▸hy
 ·exact λh=>aw.mpr ⟨x,h,rfl⟩
theorem IC{l:List Int}{x:Int}:D.int x∈l.map D.int↔x∈l:=by
 constructor
 ·intro h
  obtain⟨y,hy,e⟩:=aw.mp h
  injection e with e
  exact e▸hy
 ·exact λh=>aw.mpr ⟨x,h,rfl⟩
theorem rY(l:List Nat):(l.map λ(n:Nat)=>(n:Int)).map D.int=l.map λ(n:Nat)=>D.int n:=by rw[aM]; rfl
section
variable {W:Wd}{C:Cx}{ρ a9 bD bZ eW:Ro}{names:List (Str×aC)}{Q:Out->Prop}{f o:Fz}{s:Shared}
theorem wo{l:List Nat}{x:Nat}:lp W (cc .NotIn) (.int x) (cA l) (.bool (!l.contains x)):=yv (n:=0) (λd hd=>by obtain⟨y,_,rfl⟩:=aw.mp hd; exact .int) (by rw[IB]; simp) (by(first|lia|omega))
theorem C2{l:List Int}{x:Int}:lp W (cc .NotIn) (.int x) (.list (l.map D.int)) (.bool (!l.contains x)):=yv (n:=0) (λd hd=>by obtain⟨y,_,rfl⟩:=aw.mp hd; exact .int) (by rw[IC]; simp) (by(first|lia|omega))
theorem Fi{l:List Nat}:lp W (cc .Eq) (cA l) (.list []) (.bool l.isEmpty):=tC (n:=1) (.list Zp) (by cases l<;>simp) (by(first|lia|omega))
theorem LZ{l m:List Int}:lp W (cc .Eq) (.list (l.map D.int)) (.list (m.map D.int)) (.bool (decide (l=m))):=tC (n:=1) (jv _ _ _ _ λ_ _=> .int) (by
 rw[decide_eq_true_iff]
 constructor
 ·rintro rfl; rfl
 ·intro h
  injection h with h
  exact(DU (λa b e=>by injection e)).mp h) (by(first|lia|omega))
theorem xe(K:CK C names){e ex:Expr}{apos pos:Pos}{l:List Nat}{x:Nat}(hu:C.A.units<=6000)(he:VE W C ρ e (cA l))(hx:VE W C ρ ex (.int x))(hm:x∈l)(hs:l.length<=1000)
 (pd:autoParam (aI [ex] C.env=(false,eval ex C.env)::aI [] C.env) fL._auto_1) (hp:autoParam ((aI [ex] C.env).all (λx=>!x.1)=true) fL._auto_1) (hl:autoParam ((apos.endLine==pos.line)=true) vk._auto_1) (hb:autoParam (bx e (J "index") C.env (eval e C.env)=eval e C.env) fL._auto_1):
 VE W C ρ (.Call (.Attribute e (J "index") apos) [ex] [] pos) (.int (l.idxOf x:Nat)):=by
 have ki:l.idxOf x<l.length:=k8 hm
 refine gg he (vU mA wK) .builtin (a1 hx pd) (vX (n:=0) (λd hd=>by obtain⟨y,_,rfl⟩:=aw.mp hd; exact .int) ?_ (λm qW e=>?_) (by exact aN 0x6f784801087f484a9304201 tt hu) (by exact aX 0x28180423f6240085f495212a0601 tt hs ki)) hp (by simp) hl hb
 ·rw[av,aj ki,DV]; rfl
 ·rw[av,aj (by exact Na ki qW)] at e
  injection e with e
  injection e with e
  have e':l[m]=x:=by(first|lia|omega)
  have Fj:=zI (p:=(·==x)) (xs:=l) (i:=m) (by exact qW)
  simp[e'] at Fj
end
noncomputable def aK(r:Rel):List Nat:=(aB 4).filter λu=>!((r.getD u []).take u).contains 1
noncomputable def qB(r:Rel)(heads row:List Nat)(u:Nat):Bool:=!row.contains u&&(heads.filter λv=>decide (bF r v u=2)&& !row.contains v).isEmpty
noncomputable def qC(r:Rel)(heads:List Nat)(rows:List (List Nat)):List (List Nat):=(rows.map λrow=>(heads.filter (qB r heads row)).map λu=>row++[u]).flatten
noncomputable def lO(r:Rel)(heads:List Nat):Nat->List (List Nat)
 | 0=>[[]]
 |k+1=>qC r heads (lO r heads k)
noncomputable def rowsOf(r:Rel):List (List Nat):=lO r (aK r) (aK r).length
noncomputable def yW(r:Rel)(first:List Nat)(u v:Nat):Bool:=decide (bF r v u=2)||(decide (bF r u v+bF r v u=0)&&decide (first.idxOf u<first.idxOf v))
noncomputable def placeOf(r:Rel)(heads first:List Nat):List Nat:=heads.map λu=>(heads.filter (yW r first u)).length
noncomputable def wq(r:Rel)(heads first:List Nat):Bool:=decide (sortI ((placeOf r heads first).map λ(n:Nat)=>(n:Int))=(aB heads.length).map λ(n:Nat)=>(n:Int))
noncomputable def eL(r:Rel)(f:List Nat):List Nat:=(aB (aK r).length).map λk=>(aK r).getD ((placeOf r (aK r) f).idxOf k) 0
noncomputable def eT(r:Rel)(t:Nat):List Nat:=(rowsOf r).getD (t / 9 % (rowsOf r).length) []
noncomputable def fk(r:Rel)(f:List Nat)(t i:Nat):List Nat:=match(t / 3 % 3+i) % 3 with
 | 0=>f
 | 1=>eL r f
 |_=>eT r t
noncomputable def fN(r:Rel)(f:List Nat)(t:Nat):List (Nat×Nat×Nat):=r.map λrow=>((fk r f t 0).idxOf (row.idxOf 1),(fk r f t 1).idxOf (row.idxOf 1),(fk r f t 2).idxOf (row.idxOf 1))
noncomputable def dw(sp:List (Nat×Nat×Nat)):Int:=En (sp.map λq=>(q.2.1:Int)-q.2.2)
noncomputable def fy(sp:List (Nat×Nat×Nat)):Int:=tF (sp.map λq=>(q.2.1:Int)-q.2.2-dw sp-(q.1-q.2.1))
noncomputable def baseOf(sp:List (Nat×Nat×Nat)):Int:=tF (sp.map λq=>(q.1:Int)-q.2.1+fy sp-q.2.2)
noncomputable def countOf(sp:List (Nat×Nat×Nat))(q:Nat×Nat×Nat):Int×Int×Int:=((q.2.1:Int)-q.2.2-dw sp,(q.1:Int)-q.2.1+fy sp,(q.2.2:Int)+baseOf sp)
noncomputable def fz(c:Int×Int×Int):List Nat:=bf c.1.toNat 2++bf (c.2.1-c.1).toNat 1++bf (c.2.2-c.2.1).toNat 0
noncomputable def blanks(n:Nat):List Nat:=bf n 32
noncomputable def sI(t:Nat)(q:Nat×Nat×Nat):List Nat:=bf (q.1 / 2) 9++blanks ((q.1+1) / 2+t % 3)
noncomputable def uf(t u:Nat)(rn:List Nat):List Nat:=((rn.drop u++rn.take u).map λn=>blanks n++[9]).flatten++blanks (t % 3)
noncomputable def fg(r:Rel)(f:List Nat)(t:Nat):List (List Nat):=
 if(rowsOf r).length=1 then(fN r f t).map (sI t)
 else(aB 4).map λu=>uf t u (((fN r f t).map λq=>fz (countOf (fN r f t) q)).getD u [])
structure jI(r:Rel)(f:List Nat):Prop where
 wf:Wf r
 bound:∀k,k<=(aK r).length->(lO r (aK r) k).length<=1000
 len:∀k,k<=(aK r).length->∀row∈lO r (aK r) k,row.length<=10
 full:∀row∈rowsOf r,∀v∈aK r,v∈row
 find:(rowsOf r).find? (wq r (aK r))=some f
 place:∀k,k<(aK r).length->k∈placeOf r (aK r) f
 one:∀row∈r,(1:Int)∈row/\row.idxOf 1∈aK r
 XU:∀v∈aK r,v∈eL r f
theorem hV(n c:Nat):rep n [c]=bf n c:=by
 unfold rep
 induction n with
 |zero=>rfl
 |succ n ih=>rw[bM,ee,ih,bM]; rfl
theorem join_nil:∀ts:List (List Nat),cW [] ts=ts.flatten
 |[]=>rfl
 |[t]=>by simp[cW]
 |t::u::r=>by rw[cW,join_nil (u::r)]; simp
section
variable {W:Wd}{C:Cx}{ρ a9 bD bZ eW:Ro}{names:List (Str×aC)}{Q:Out->Prop}{f o:Fz}{s:Shared}
theorem ID(K:CK C names){e ex:Expr}{apos pos:Pos}{l:List Int}{x:Int}(hu:C.A.units<=6000)(he:VE W C ρ e (.list (l.map .int)))(hx:VE W C ρ ex (.int x))(hm:x∈l)(hs:l.length<=1000)
 (pd:autoParam (aI [ex] C.env=(false,eval ex C.env)::aI [] C.env) fL._auto_1) (hp:autoParam ((aI [ex] C.env).all (λx=>!x.1)=true) fL._auto_1) (hl:autoParam ((apos.endLine==pos.line)=true) vk._auto_1) (hb:autoParam (bx e (J "index") C.env (eval e C.env)=eval e C.env) fL._auto_1):
 VE W C ρ (.Call (.Attribute e (J "index") apos) [ex] [] pos) (.int (l.idxOf x:Nat)):=by
 have ki:l.idxOf x<l.length:=k8 hm
 refine gg he (vU mA wK) .builtin (a1 hx pd) (vX (n:=0) (λd hd=>by obtain⟨y,_,rfl⟩:=aw.mp hd; exact .int) ?_ (λm qW e=>?_) (by exact aN 0x6f784801087f484a9304201 tt hu) (by exact aX 0x28180423f6240085f495212a0601 tt hs ki)) hp (by simp) hl hb
 ·rw[av,aj ki,DV]; rfl
 ·rw[av,aj (by exact Na ki qW)] at e
  injection e with e
  injection e with e'
  have Fj:=zI (p:=(·==x)) (xs:=l) (i:=m) (by exact qW)
  simp[e'] at Fj
theorem O7(K:CK C names){x:Str}{p pos n9:Pos}{elt t1 i1 t2 i2:Expr}{f1 f2:List Expr}{scope:Scope}{rest:List Stmt}{xs out:List D}(hit:VI W C ρ t1 i1 xs)(hc:∀C',CK C' scope.names->C'.A=C.A->Clause W C' eW t1 f1 (te W C' ⟨t2,i2,f2,0⟩ elt) xs out)(hi:autoParam (nr names ρ scope.names eW) N1._auto_1)
 (hn:out.length<=100000) (aU:autoParam (Ro.Set x (.val (.list out)) ρ a9) H9._auto_1) (h:VS W C a9 rest Q) (hx:autoParam ((x,ae)∈names) vm._auto_1) (jl:autoParam ((p.line==n9.line)=true) vk._auto_1) (ES:autoParam ((scope.names.any λ(n,k)=>n==x&&(k== .local||k== .cell))=false) sG._auto_1) (j4:autoParam (decide (scope.names.map (·.1)).Nodup=true) H6._auto_1)
 (hs:autoParam (∀x,bH i1 C.env x=pure x) MP._auto_1) (JQ:autoParam (∀env x,bH i2 env x=pure x) CS._auto_1) (hk:autoParam (scope.kind= .function) fL._auto_1):VS W C ρ (.Assign [.Name x p] (.ListComp elt [⟨t1,i1,f1,0⟩,⟨t2,i2,f2,0⟩] scope n9) pos::rest) Q:=
 vs (.Bv K.ok hit.un hs hk (of_decide_eq_true j4) (K.eq▸hi) rfl (λcenv O=>JI O K.hand (JQ _) (hc _ ⟨O,K.hand,rfl⟩ rfl) hn) (K.eq▸hx) aU h.un (yG K hx jl ES))
noncomputable def hW(r:Rel)(t:Nat)(b3 b4 b5 b6 b7 b8 b9 mn j8 jg kN oV mS:Bd):Ro:=[("rel", .val (gA r)),("total", .val (.int t)),("heads",b3),("rows",b4),("turn",b5),("first",b6),("place",b7),("mate",b8),("third",b9),("spots",mn),("least",j8),("lift",jg),("base",kN),("counts",oV),("runs",mS)]
theorem qD{r:Rel}{u:Nat}(h:u∈aK r):u<4:=aW.mp (bw.mp h).1
theorem kC(r:Rel):(aK r).length<=4:=by
 have:=ba (λu=>!((r.getD u []).take u).contains 1) (aB 4)
 rw[ec] at this
 exact this
theorem BX{r:Rel}{fs:List Nat}(L:jI r fs)(t:Nat)(i:Nat):(fk r fs t i).length<=10/\∀v∈aK r,v∈fk r fs t i:=by
 have hf:fs∈rowsOf r:=md L.find
 have ea:rowsOf r≠[]:=λe=>by rw[e] at hf; exact nomatch hf
 have ht:eT r t∈rowsOf r:=by
  unfold eT
  have ki:t / 9 % (rowsOf r).length<(rowsOf r).length:=dQ _ (iA.mpr ea)
  rw[ak,aj ki]
  exact dg ki
 have JD:∀row∈rowsOf r,row.length<=10:=λrow h=>L.len _ (bL _) row h
 unfold fk
 split
 ·exact⟨JD _ hf,L.full _ hf⟩
 ·refine⟨?_,L.XU⟩
  unfold eL
  rw[ai,ec]
  have:=kC r; exact aN 24697172993 tt this
 ·exact⟨JD _ ht,L.full _ ht⟩
theorem IE(r:Rel)(fs:List Nat)(t:Nat):(([fs,eL r fs,eT r t,fs,eL r fs,eT r t]:List (List Nat)).drop (t / 3 % 3)).take 3=[fk r fs t 0,fk r fs t 1,fk r fs t 2]:=by
 unfold fk
 have h:t / 3 % 3<3:=dQ _ (by decide)
 generalize t / 3 % 3=k at h
 rcases Qi k h with rfl|rfl|rfl<;>rfl
noncomputable def J4(q:Nat×Nat×Nat):D:=cA [q.1,q.2.1,q.2.2]
theorem yX(X:cH W){r:Rel}{fs:List Nat}{t:Nat}(L:jI r fs)(K:CK C [(J "rel",aq),(J "total",aq),(J "heads",aq),(J "rows",ae),(J "turn",ae),(J "first",aq),(J "place",aq),(J "mate",aq),(J "third",aq),(J "spots",ae),(J "least",aq),(J "lift",aq),(J "base",aq),(J "counts",ae),(J "runs",aq),(J "range",ag),(J "sorted",ag),(J "list",ag),(J "len",ag),(J "min",ag),(J "max",ag)]){b5 mn j8 jg kN oV mS:Bd}
 (h:VS W C (hW r t (.val (cA (aK r))) (.val (.list ((rowsOf r).map cA))) b5 (.val (cA fs)) (.val (cA (placeOf r (aK r) fs))) (.val (cA (eL r fs))) (.val (cA (eT r t))) (.val (.list ((fN r fs t).map J4))) j8 jg kN oV mS) ((cj (KK W) 332).drop 5) Q):
 VS W C (hW r t (.val (cA (aK r))) (.val (.list ((rowsOf r).map cA))) b5 (.val (cA fs)) (.val (cA (placeOf r (aK r) fs))) (.val (cA (eL r fs))) (.val (cA (eT r t))) mn j8 jg kN oV mS) ((cj (KK W) 332).drop 4) Q:=by
 unfold hW at*
 have hu:C.A.units<=6000:=K.ok.room.units
 refine vZ (eW:=[(".0", .unset),("row", .unset),("first", .val (cA fs)),("mate", .val (cA (eL r fs))),("third", .val (cA (eT r t))),("total", .val (.int t))]) (out:=(fN r fs t).map J4) K (jE K (d:= .list (r.map ny)) (VE.eq (nm K (d:=gA r)) rfl) bp) (λC' K' e=>?_) kq ?_ kB h
 ·unfold fN
  rw[aM]
  refine gH r ny _ (λrow=>[(".0", .unset),("row", .val (ny row)),("first", .val (cA fs)),("mate", .val (cA (eL r fs))),("third", .val (cA (eT r t))),("total", .val (.int t))]) (λrow hr=>?_) (λrow hr=>?_) λrow hr=>jS
  ·exact cx K'
  ·have h1:=L.one row hr
   have J5:=L.wf.row row hr
   have E1:C'.A.units<=6000:=K'.ok.room.units
   refine .eq (dY (eW:=[(".0", .unset),("order", .unset),("row", .val (ny row))]) (out:=([fk r fs t 0,fk r fs t 1,fk r fs t 2]).map λod=>D.int (od.idxOf (row.idxOf 1):Nat)) K'
    (jE K' (d:= .list (([fk r fs t 0,fk r fs t 1,fk r fs t 2]).map cA)) (VE.eq (mM (mM (bin K' (lst (ac (nm K') (ac (nm K') (a1 (nm K'))))) num (qt (by decide) (by decide) (by simp))) w8 (p1 (i:=(t / 3 % 3:Nat)) (VE.eq (bin K' (bin K' (nm K') num (lK (by decide) (by decide))) num (lJ (by decide))) (show D.int _=D.int _ by rw[show(3:Int)=((3:Nat):Int) from rfl,iW,jW]))) p0 p0 (by decide) ?_ (λ_ _=>rfl)) w8 p0 (p1 (i:=(3:Nat)) num) p0 (by decide) ?_ (λ_ _=>rfl)) ?_) bp)
    (λJT fj e=>gH ([fk r fs t 0,fk r fs t 1,fk r fs t 2]) cA (λod=>D.int (od.idxOf (row.idxOf 1):Nat)) (λod=>[(".0", .unset),("order", .val (cA od)),("row", .val (ny row))]) (λod ho=>cx fj) (λod ho=>?_) λod ho=>jS) kq (by simp)) rfl
   ·simp[rq]
   ·rw[oS]; simp[rq]; exact aN 0xfa4a9094321 tt
   ·rw[oS,oU,<-IE]
    show D.list _=D.list _
    rw[x9,List.map_drop]
    rfl
   ·have hB:od.length<=10/\∀v∈aK r,v∈od:=by
     simp only[au,bo,or_false] at ho
     rcases ho with rfl|rfl|rfl<;>exact BX L t _
    refine xe fj fj.ok.room.units (nm fj) (ID fj fj.ok.room.units (VE.eq (nm fj (d:=ny row)) rfl) num h1.1 (by exact aN 809276124448769 tt (ah J5))) (hB.2 _ h1.2) (by(first|lia|omega))
 ·rw[ai]; unfold fN; rw[ai,L.wf.len]; decide
noncomputable def Fl(sp:List (Nat×Nat×Nat)):Prop:=∀q∈sp,q.1<=10/\q.2.1<=10/\q.2.2<=10
theorem AG{l:List Nat}{x:Nat}(h:l.length<=10):l.idxOf x<=10:=aP pD h
theorem Fm{r:Rel}{fs:List Nat}(L:jI r fs)(t:Nat):Fl (fN r fs t):=by
 intro q hq
 unfold fN at hq
 obtain⟨row,_,rfl⟩:=aw.mp hq
 exact⟨AG (BX L t 0).1,AG (BX L t 1).1,AG (BX L t 2).1⟩
theorem xf{sp:List (Nat×Nat×Nat)}(h:Fl sp)(ea:sp≠[]):-10<=dw sp/\dw sp<=10:=by
 have hm:=tG (l:=sp.map λq=>(q.2.1:Int)-q.2.2) (by simpa using ea)
 obtain⟨q,hq,e⟩:=aw.mp hm
 have:=h q hq
 unfold dw; rw[<-e]; exact R8 e this
theorem AH{sp:List (Nat×Nat×Nat)}(h:Fl sp)(ea:sp≠[]):-30<=fy sp/\fy sp<=30:=by
 have hm:=kI (l:=sp.map λq=>(q.2.1:Int)-q.2.2-dw sp-(q.1-q.2.1)) (by simpa using ea)
 obtain⟨q,hq,e⟩:=aw.mp hm
 have:=h q hq
 have:=xf h ea
 unfold fy; rw[<-e]; exact R9 e ‹_› this
theorem Fn{sp:List (Nat×Nat×Nat)}(h:Fl sp)(ea:sp≠[]):-50<=baseOf sp/\baseOf sp<=50:=by
 have hm:=kI (l:=sp.map λq=>(q.1:Int)-q.2.1+fy sp-q.2.2) (by simpa using ea)
 obtain⟨q,hq,e⟩:=aw.mp hm
 have:=h q hq
 have:=AH h ea
 unfold baseOf; rw[<-e]; exact Sa e ‹_› this
theorem BY{sp:List (Nat×Nat×Nat)}(h:Fl sp)(ea:sp≠[]){q:Nat×Nat×Nat}(hq:q∈sp):-100<=(countOf sp q).1/\(countOf sp q).1<=100/\-100<=(countOf sp q).2.1/\(countOf sp q).2.1<=100/\-100<=(countOf sp q).2.2/\(countOf sp q).2.2<=100:=by
 have:=h q hq
 have:=xf h ea
 have:=AH h ea
 have:=Fn h ea
 unfold countOf; dsimp only; exact Sb ‹_› ‹_› ‹_› this
noncomputable def ZU(c:Int×Int×Int):D:= .tup [.int c.1, .int c.2.1, .int c.2.2]
theorem ug(n:Nat)(d:D):rq n [d]=bf n d:=by
 unfold rq
 induction n with
 |zero=>rfl
 |succ n ih=>rw[bM,ee,ih,bM]; rfl
theorem Fo{c:Int×Int×Int}(h:-100<=c.1/\c.1<=100/\-100<=c.2.1/\c.2.1<=100/\-100<=c.2.2/\c.2.2<=100):(fz c).length<=500:=by
 unfold fz; simp only[a8,bA]; exact Sd h
theorem BZ{c:Int×Int×Int}:∀n∈fz c,n<=2:=by
 intro n hn
 unfold fz at hn
 simp only[bN,gC] at hn
 exact Se hn
theorem yY:∀(l:List Nat) (k:Nat),(∀n∈l,n<=2)->l.length<=k->((l.map λn=>blanks n++[9]).flatten).length<=3*k
 |[],k,_,_=>by simp
 |n::l,k,h,hk=>by
  have h1:=h n (.head _)
  have:=yY l (k-1) (λm hm=>h m (.tail _ hm)) (by simp only[aQ] at hk; exact Sf hk)
  simp only[aQ] at hk
  simp only[aO,ee,a8,blanks,bA,aQ,ff] at this ⊢
  exact Sh hk h1 this
theorem AI(X:cH W){r:Rel}{fs:List Nat}{t:Nat}(L:jI r fs)(K:CK C [(J "rel",aq),(J "total",aq),(J "heads",aq),(J "rows",ae),(J "turn",ae),(J "first",aq),(J "place",aq),(J "mate",aq),(J "third",aq),(J "spots",ae),(J "least",aq),(J "lift",aq),(J "base",aq),(J "counts",ae),(J "runs",aq),(J "range",ag),(J "sorted",ag),(J "list",ag),(J "len",ag),(J "min",ag),(J "max",ag)]){b5 j8 jg kN oV mS:Bd}:
 VS W C (hW r t (.val (cA (aK r))) (.val (.list ((rowsOf r).map cA))) b5 (.val (cA fs)) (.val (cA (placeOf r (aK r) fs))) (.val (cA (eL r fs))) (.val (cA (eT r t))) (.val (.list ((fN r fs t).map J4))) j8 jg kN oV mS) ((cj (KK W) 332).drop 5) (Ends (.list ((fg r fs t).map λl=> .str (aS l)))):=by
 have hB:=Fm L t
 have hlen:(fN r fs t).length=4:=by unfold fN; rw[ai,L.wf.len]
 have ea:fN r fs t≠[]:=λe=>by rw[e] at hlen; exact nomatch hlen
 have J5:(rowsOf r).length<=1000:=L.bound _ (bL _)
 unfold fg
 generalize fN r fs t=sp at hB hlen ea ⊢
 have lb:=xf hB ea
 have fb:=AH hB ea
 have bb:=Fn hB ea
 have O8:∀{C':Cx} {Fp:List (Str×aC)} {a9:Ro} (K':CK C' Fp) {e1 e2:Expr} {p:Pos},VE W C' a9 e1 (.int t)->VE W C' a9 e2 (.int (3:Nat))->VE W C' a9 (.BinOp e1 .Mod e2 p) (.int (t % 3:Nat)):=by
  intro C' Fp a9 K' e1 e2 p h1 h2
  exact .eq (bin K' h1 h2 (lJ (by decide))) (by rw[jW])
 have K3:t % 3<3:=dQ _ (by decide)
 unfold hW
 refine jw (b:=decide ((rowsOf r).length=1)) (.eq (kO K (bS (gl K (jU X)) .builtin (a1 (nm K)) (jQ (by rw[ai]; exact aN 0x3f6240085f495212a0201 tt J5))) num hZ) (by rw[ai,decide_eq_decide]; exact Si)) (λh=>?_) λh=>dh ?_
 ·have h':(rowsOf r).length=1:=of_decide_eq_true h
  rw[if_pos h']
  refine j6 (dY (eW:=[(".0", .unset),("q1", .unset),("q2", .unset),("q3", .unset),("total", .val (.int t))]) K (jE K (nm K) bp) (λC' K' e=>?_) kq ?_) rfl
  ·rw[aM]
   refine gH sp J4 _ (λq=>[(".0", .unset),("q1", .val (.int q.1)),("q2", .val (.int q.2.1)),("q3", .val (.int q.2.2)),("total", .val (.int t))]) (λq hq=>?_) (λq hq=>?_) λq hq=>jS
   ·exact rU K' (cx K') (cx K') (cx K') (.inr rfl)
   ·have J3:=hB q hq
    refine .eq (bin K' (bin K' (st [9]) (VE.eq (bin K' (nm K') (num (i:=(2:Nat))) (lK (by decide) (by simp[*]))) (by rw[iW])) (oN (n:=(q.1 / 2:Nat)) (by decide) (by exact Sj J3) (by exact ew 272589121 tt))) (bin K' (st [32]) (VE.eq (bin K' (bin K' (bin K' (nm K') (num (i:=(1:Nat))) cV) (num (i:=(2:Nat))) (lK (by(first|lia|omega)) (by(first|lia|omega)))) (O8 K' (nm K') num) cV) (d':= .int ((q.1+1) / 2+t % 3:Nat)) (by rw[<-Int.natCast_add,iW]; simp)) (oN (by decide) (by exact Sk K3 J3) (by exact je 1116964086081 tt))) (gR ?_)) ?_
    ·rw[hV,hV]; simp only[bA,hJ]; exact Sl K3 J3
    ·rw[hV,hV,hJ,hJ]; rfl
  ·rw[ai,ai,hlen]; decide
 ·have h':¬(rowsOf r).length=1:=of_decide_eq_false h
  rw[if_neg h']
  refine let1 (d:= .int (dw sp)) (bS (gl K (N8 X)) .builtin (a1 (dY (eW:=[(".0", .unset),("q1", .unset),("q2", .unset),("q3", .unset)]) (out:=(sp.map λq=>(q.2.1:Int)-q.2.2).map D.int) K (jE K (nm K) bp) (λC' K' e=>?_) kq ?_)) (Eo K.hand (by simpa using ea))) (cx K) ?_
  ·rw[aM]
   refine gH sp J4 _ (λq=>[(".0", .unset),("q1", .val (.int q.1)),("q2", .val (.int q.2.1)),("q3", .val (.int q.2.2))]) (λq hq=>?_) (λq hq=>?_) λq hq=>jS
   ·exact rU K' (cx K') (cx K') (cx K') (.inr rfl)
   ·exact bin K' (nm K') (nm K') gG
  ·simp[hlen]
  refine let1 (d:= .int (fy sp)) (bS (gl K (ly X)) .builtin (a1 (dY (eW:=[(".0", .unset),("q1", .unset),("q2", .unset),("q3", .unset),("least", .val (.int (dw sp)))]) (out:=(sp.map λq=>(q.2.1:Int)-q.2.2-dw sp-(q.1-q.2.1)).map D.int) K (jE K (nm K) bp) (λC' K' e=>?_) kq ?_)) (oh K.hand (by simpa using ea))) (cx K) ?_
  ·rw[aM]
   refine gH sp J4 _ (λq=>[(".0", .unset),("q1", .val (.int q.1)),("q2", .val (.int q.2.1)),("q3", .val (.int q.2.2)),("least", .val (.int (dw sp)))]) (λq hq=>?_) (λq hq=>?_) λq hq=>jS
   ·exact rU K' (cx K') (cx K') (cx K') (.inr rfl)
   ·exact bin K' (bin K' (bin K' (nm K') (nm K') gG) (nm K') gG) (bin K' (nm K') (nm K') gG) gG
  ·simp[hlen]
  refine let1 (d:= .int (baseOf sp)) (bS (gl K (ly X)) .builtin (a1 (dY (eW:=[(".0", .unset),("q1", .unset),("q2", .unset),("q3", .unset),("lift", .val (.int (fy sp)))]) (out:=(sp.map λq=>(q.1:Int)-q.2.1+fy sp-q.2.2).map D.int) K (jE K (nm K) bp) (λC' K' e=>?_) kq ?_)) (oh K.hand (by simpa using ea))) (cx K) ?_
  ·rw[aM]
   refine gH sp J4 _ (λq=>[(".0", .unset),("q1", .val (.int q.1)),("q2", .val (.int q.2.1)),("q3", .val (.int q.2.2)),("lift", .val (.int (fy sp)))]) (λq hq=>?_) (λq hq=>?_) λq hq=>jS
   ·exact rU K' (cx K') (cx K') (cx K') (.inr rfl)
   ·exact bin K' (bin K' (bin K' (nm K') (nm K') gG) (nm K') cV) (nm K') gG
  ·simp[hlen]
  refine vZ (eW:=[(".0", .unset),("q1", .unset),("q2", .unset),("q3", .unset),("base", .val (.int (baseOf sp))),("least", .val (.int (dw sp))),("lift", .val (.int (fy sp)))]) (out:=sp.map λq=>ZU (countOf sp q)) K (jE K (nm K) bp) (λC' K' e=>?_) kq ?_ kB ?_
  ·refine gH sp J4 _ (λq=>[(".0", .unset),("q1", .val (.int q.1)),("q2", .val (.int q.2.1)),("q3", .val (.int q.2.2)),("base", .val (.int (baseOf sp))),("least", .val (.int (dw sp))),("lift", .val (.int (fy sp)))]) (λq hq=>?_) (λq hq=>?_) λq hq=>jS
   ·exact rU K' (cx K') (cx K') (cx K') (.inr rfl)
   ·exact .eq (tup (ac (bin K' (bin K' (nm K') (nm K') gG) (nm K') gG) (ac (bin K' (bin K' (nm K') (nm K') gG) (nm K') cV) (a1 (bin K' (nm K') (nm K') cV))))) rfl
  ·simp[hlen]
  refine let1 (d:= .list ((sp.map λq=>fz (countOf sp q)).map cA)) (dY (eW:=[(".0", .unset),("twos", .unset),("ones", .unset),("tabs", .unset)]) K (jE K (nm K) bp) (λC' K' e=>?_) kq ?_) (cx K) ?_ (gW K ij)
  ·rw[aM]
   refine gH sp (λq=>ZU (countOf sp q)) _ (λq=>[(".0", .unset),("twos", .val (.int (countOf sp q).1)),("ones", .val (.int (countOf sp q).2.1)),("tabs", .val (.int (countOf sp q).2.2))]) (λq hq=>?_) (λq hq=>?_) λq hq=>jS
   ·exact rU K' (cx K') (cx K') (cx K') (.inl rfl)
   ·have hc:=BY hB ea hq
    refine .eq (bin K' (bin K' (bin K' (lst (a1 num)) (nm K') (qt (by exact eH 0x6a282203e92a4141 tt hc.1) (by exact eH 0x351200887ec2401 tt hc.2.1) (by decide))) (bin K' (lst (a1 num)) (bin K' (nm K') (nm K') gG) (qt (by exact dP 0x26a2822351200880163e92a4141 tt hc.2.1 hc.2.2.1) (by exact dP 0x3512108806a28221fb0900581 tt hc.1 hc.2.2.2.1) (by decide))) (qp ?_)) (bin K' (lst (a1 num)) (bin K' (nm K') (nm K') gG) (qt (by exact dP 0x26a2822351200880163e92a4141 tt hc.2.2.2.1 hc.2.2.2.2.1) (by exact dP 0x3512108806a28221fb0900581 tt hc.2.2.1 hc.2.2.2.2.2) (by decide))) (qp ?_)) ?_
    ·simp only[ug,bA]; exact Sm hc
    ·simp only[ug,bA,a8]; exact Sn hc
    ·simp only[ug]
     show D.list _=D.list _
     simp only[lF,fz,fU,List.map_replicate]
     rfl
  ·simp[hlen]
  ·refine j6 (dY (eW:=[(".0", .unset),("u", .unset),("runs", .val (.list ((sp.map λq=>fz (countOf sp q)).map cA))),("total", .val (.int t))]) (out:=(aB 4).map λu=>D.str (aS (uf t u ((sp.map λq=>fz (countOf sp q)).getD u [])))) K (t8 X K) (λC' K' e=>?_) kq (by simp)) (by rw[aM]; rfl)
   refine gH (aB 4) (λ(u:Nat)=>D.int u) _ (λu=>[(".0", .unset),("u", .val (.int u)),("runs", .val (.list ((sp.map λq=>fz (countOf sp q)).map cA))),("total", .val (.int t))]) (λu hu=>?_) (λu hu=>?_) λu hu=>jS
   ·exact cx K'
   ·have yJ:u<4:=aW.mp hu
    obtain⟨rn,ZV⟩:∃rn,rn=(sp.map λq=>fz (countOf sp q)).getD u []:=⟨_,rfl⟩
    have hlu:u<(sp.map λq=>fz (countOf sp q)).length:=by rw[ai,hlen]; exact yJ
    have ZW:(sp.map λq=>fz (countOf sp q))[u]? =some rn:=by rw[ZV,ak,aj hlu]; rfl
    have DK:rn∈sp.map λq=>fz (countOf sp q):=bI ZW
    obtain⟨q,hq,ZX⟩:=aw.mp DK
    have IF:rn.length<=500:=ZX▸Fo (BY hB ea hq)
    have MQ:∀n∈rn,n<=2:=ZX▸BZ
    have C1:((sp.map λq=>fz (countOf sp q)).map cA)[u]? =some (cA rn):=by rw[av,ZW]; rfl
    have yz:∀n∈rn.drop u++rn.take u,n<=2:=λn hn=>by
     rcases bN.mp hn with h|h
     ·exact MQ n (Hl _ _ h)
     ·exact MQ n (List.take_subset _ _ h)
    have Fq:(rn.drop u++rn.take u).length<=500:=by rw[a8,sQ,Hk]; exact So yJ IF
    have HL:=yY _ 500 yz Fq
    have O9:l7 W C'.A (.builtin "str.join") [.str (aS []), .list (((rn.drop u++rn.take u).map λn=>blanks n++[9]).map λl=>D.str (aS l))] (.str (aS (((rn.drop u++rn.take u).map λn=>blanks n++[9]).flatten))):=by
     rw[<-join_nil]
     refine qs (λt ht=>?_) (by rw[ai]; exact aN 0x1fd2400847ec4801 tt Fq) (by decide)
     obtain⟨n,hn,rfl⟩:=aw.mp ht
     have:=yz n hn
     simp only[blanks,a8,bA,aQ,ff]; exact aN 0x2a00847ec4a9380201 tt this
    refine .eq (bin K' (gg (st []) (ir gO gN) .builtin (a1 (dY (eW:=[(".0", .unset),("run", .unset)]) (out:=(((rn.drop u++rn.take u).map λn=>blanks n++[9]).map λl=>D.str (aS l))) K'
     (jE K' (d:=cA (rn.drop u++rn.take u)) (VE.eq (bin K' (mM (dA (T:= "list") (da:= .list ((sp.map λq=>fz (countOf sp q)).map cA)) (di:= .int u) K' (nm K') (nm K') aR (bY C1 (by exact aN 0xbd010085f495212a0201 tt yJ))) w8 (p1 (nm K')) p0 p0 (by decide) ?_ (λ_ _=>rfl)) (mM (dA (T:= "list") (da:= .list ((sp.map λq=>fz (countOf sp q)).map cA)) (di:= .int u) K' (nm K') (nm K') aR (bY C1 (by exact aN 0xbd010085f495212a0201 tt yJ))) w8 p0 (p1 (nm K')) p0 (by decide) ?_ (λ_ _=>rfl)) (qp ?_)) ?_) bp) (λJT fj Ly=>?_) kq ?_)) O9) (bin K' (st [32]) (O8 K' (nm K') num) (oN (by decide) (by exact ew 0x16a020108fd848101 tt K3) (by exact ew 272589121 tt))) (gR ?_)) ?_
    ·rw[ai]; exact aN 0x7f4900217d25484801 tt IF
    ·rw[ai]; exact aN 0x7f4900217d25484801 tt IF
    ·rw[oS,oU]; simp only[sQ,Hk,ai]; exact Sp IF
    ·rw[oS,oU]
     show D.list _=D.list _
     rw[fU,List.map_drop,x9]
    ·rw[aM]
     refine gH (rn.drop u++rn.take u) (λ(n:Nat)=>D.int n) _ (λn=>[(".0", .unset),("run", .val (.int n))]) (λn hn=>?_) (λn hn=>?_) λn hn=>jS
     ·exact cx fj
     ·have:=yz n hn
      refine .eq (bin fj (bin fj (st [32]) (nm fj) (oN (by decide) (by exact ew 0x540108fd848101 tt this) (by exact ew 272589121 tt))) (st [9]) (gR ?_)) ?_
      ·rw[hV,bA]; simp; exact aN 0xa80217d253fc801 tt this
      ·rw[hV,hJ]; rfl
    ·rw[ai,ai]; exact aN 0x7f4900210e2da84801 tt Fq
    ·rw[hV,bA]; exact Sq K3 HL
    ·rw[hV,hJ,<-ZV]; rfl
theorem L5{r:Rel}(w:Wf r){u:Nat}(hu:u<4):(r.map ny)[u]? =some (ny (r.getD u [])):=(w.at hu).1
theorem AJ(X:cH W){r:Rel}{fs:List Nat}{t:Nat}(L:jI r fs)(K:CK C [(J "rel",aq),(J "total",aq),(J "heads",aq),(J "rows",ae),(J "turn",ae),(J "first",aq),(J "place",aq),(J "mate",aq),(J "third",aq),(J "spots",ae),(J "least",aq),(J "lift",aq),(J "base",aq),(J "counts",ae),(J "runs",aq),(J "range",ag),(J "sorted",ag),(J "list",ag),(J "len",ag),(J "min",ag),(J "max",ag)]){b5 b8 b9 mn j8 jg kN oV mS:Bd}:
 VS W C (hW r t (.val (cA (aK r))) (.val (.list ((rowsOf r).map cA))) b5 (.val (cA fs)) (.val (cA (placeOf r (aK r) fs))) b8 b9 mn j8 jg kN oV mS) ((cj (KK W) 332).drop 3) (Ends (.list ((fg r fs t).map λl=> .str (aS l)))):=by
 have J5:(rowsOf r).length<=1000:=L.bound _ (bL _)
 have hf:fs∈rowsOf r:=md L.find
 have ea:rowsOf r≠[]:=λe=>by rw[e] at hf; exact nomatch hf
 have h0:0<(rowsOf r).length:=iA.mpr ea
 have ki:t / 9 % (rowsOf r).length<(rowsOf r).length:=dQ _ h0
 have hh:=kC r
 unfold hW
 refine let1 (tup (ac (dY (eW:=[(".0", .unset),("k", .unset),("heads", .val (cA (aK r))),("place", .val (cA (placeOf r (aK r) fs)))]) (out:=(eL r fs).map λ(n:Nat)=>D.int n) K
  (jE K (d:= .Bo 0 (aK r).length) (bS (gl K (kr X)) .type (a1 (VE.eq (bS (gl K (jU X)) .builtin (a1 (nm K)) (jQ (by rw[ai]; exact aN 0x2e0085f495212a0201 tt hh))) (by rw[ai]))) mI) (mJ (by decide) (by decide) (by exact ew 291674669377 tt) (by exact ew 0x170042fa4a9048101 tt hh))) (λC' K' e=>?_) kq ?_)
  (a1 (dA (T:= "list") (da:= .list ((rowsOf r).map cA)) (di:= .int (t / 9 % (rowsOf r).length:Nat)) (d:=cA (eT r t)) K (nm K) (VE.eq (bin K (bin K (nm K) (num (i:=(9:Nat))) (lK (by decide) (by decide))) (VE.eq (bS (gl K (jU X)) .builtin (a1 (nm K)) (jQ (by rw[ai]; exact aN 0x3f6240085f495212a0201 tt J5))) (d':= .int (rowsOf r).length) (by rw[ai])) (lJ (by exact Sr h0))) (by rw[iW,jW])) aR (bY ?_ (by exact aX 0x28180423f6240085f495212a0601 tt J5 ki)))))) (iV K (cx K) (cx K)) ?_ rfl (jT K (.inl ij))
 ·rw[show(((aK r).length:Int)-0).toNat=(aK r).length by rfl,mQ]
  unfold eL
  rw[aM]
  refine gH (aB (aK r).length) (λ(k:Nat)=>D.int k) _ (λk=>[(".0", .unset),("k", .val (.int k)),("heads", .val (cA (aK r))),("place", .val (cA (placeOf r (aK r) fs)))]) (λk hk=>?_) (λk hk=>?_) λk hk=>jS
  ·exact cx K'
  ·have oX:=L.place k (aW.mp hk)
   have jl:(placeOf r (aK r) fs).length=(aK r).length:=by unfold placeOf; rw[ai]
   have HR:(placeOf r (aK r) fs).idxOf k<(aK r).length:=jl▸k8 oX
   refine dA (T:= "list") (da:=cA (aK r)) (di:= .int ((placeOf r (aK r) fs).idxOf k:Nat)) K' (nm K') (xe K' K'.ok.room.units (nm K') (nm K') oX (by exact aX 0x1086e00847ec4821 tt hh (ah jl))) aR (bY ?_ (by exact aX 0x5030086e0085f495212a0601 tt hh HR))
   rw[av,aj HR]
   simp only[lF,ak,aj HR,Option.map_some,DR]
 ·rw[ai]; unfold eL; rw[ai,ec]; exact aN 0xb80210e2da84801 tt hh
 ·rw[av,aj ki]
  unfold eT
  rw[ak,aj ki]; rfl
 ·exact yX X L K (AI X L K)
theorem IG(K:CK C names){r:Rel}(w:Wf r){e eu:Expr}{p:Pos}{u:Nat}(he:VE W C ρ e (gA r))(hu:VE W C ρ eu (.int u))(h:u<4)(hs:autoParam (∀o i,subscripted eu false o i=operate [o,i] (dI o i)) CS._auto_1):VE W C ρ (.Subscript e eu p) (ny (r.getD u [])):=
 dA (T:= "list") (da:=gA r) (di:= .int u) K he hu aR (bY (L5 w h) (by exact aN 0xbd010085f495212a0201 tt h)) rfl hs
noncomputable abbrev Pa(l:List Nat):List D:=l.map λ(n:Nat)=>D.int n
theorem yZ(r:Rel){heads:List Nat}(rows:List (List Nat)):(qC r heads rows).length<=heads.length*rows.length:=by
 unfold qC
 induction rows with
 |nil=>simp
 |cons row rows ih=>
  rw[aO,ee,a8,ai,aQ,Nat.mul_succ]
  have:=ba (qB r heads row) heads
  exact hK 0xc410840108c3000a01 tt ih this
theorem y0(X:cH W){r:Rel}{fs:List Nat}{t:Nat}(L:jI r fs)(K:CK C [(J "rel",aq),(J "total",aq),(J "heads",aq),(J "rows",ae),(J "turn",ae),(J "first",aq),(J "place",aq),(J "mate",aq),(J "third",aq),(J "spots",ae),(J "least",aq),(J "lift",aq),(J "base",aq),(J "counts",ae),(J "runs",aq),(J "range",ag),(J "sorted",ag),(J "list",ag),(J "len",ag),(J "min",ag),(J "max",ag)]){b5 b6 b7 b8 b9 mn j8 jg kN oV mS:Bd}:
 VS W C (hW r t (.val (cA (aK r))) (.val (.list ((rowsOf r).map cA))) b5 b6 b7 b8 b9 mn j8 jg kN oV mS) ((cj (KK W) 332).drop 2) (Ends (.list ((fg r fs t).map λl=> .str (aS l)))):=by
 have hh:=kC r
 have w:=L.wf
 unfold hW
 refine mO K (jE K (nm K) bp) (λxs ρ=>∃(rs:List (List Nat)) (b6 b7:Bd),xs=rs.map cA/\(∀row∈rs,row∈rowsOf r)/\rs.find? (wq r (aK r))=some fs/\ρ=hW r t (.val (cA (aK r))) (.val (.list ((rowsOf r).map cA))) b5 b6 b7 b8 b9 mn j8 jg kN oV mS) ⟨rowsOf r,_,_,rfl,λ_ h=>h,L.find,rfl⟩ ?_ ?_
 ·rintro ρ ⟨rs,b6,b7,e1,e2,e3,rfl⟩
  cases rs with
  |cons _ _=>exact nomatch e1
  |nil=>exact nomatch e3
 ·rintro y xs ρ ⟨rs,b6,b7,e1,e2,e3,rfl⟩
  cases rs with
  |nil=>exact nomatch e1
  |cons first rs=>
   obtain⟨rfl,rfl⟩:y=cA first/\xs=rs.map cA:=by cases e1; exact⟨rfl,rfl⟩
   have ZY:=e2 first (.head _)
   have Pb:=L.full first ZY
   have Pc:=L.len _ (bL _) first ZY
   unfold hW
   refine⟨_,cx K,?_⟩
   refine let1 (d:=cA (placeOf r (aK r) first)) (VE.eq (dY (eW:=[(".0", .unset),("u", .unset),("first", .val (cA first)),("heads", .val (cA (aK r))),("rel", .val (gA r))]) (out:=(aK r).map λu=>D.int ((aK r).filter (yW r first u)).length) K (jE K (nm K) bp) (λC' K' e=>?_) kq ?_) ?_) (cx K) ?_ (gW K ij)
   ·refine gH (aK r) (λ(u:Nat)=>D.int u) _ (λu=>[(".0", .unset),("u", .val (.int u)),("first", .val (cA first)),("heads", .val (cA (aK r))),("rel", .val (gA r))]) (λu hu=>?_) (λu hu=>?_) λu hu=>jS
    ·exact cx K'
    ·have yJ:=qD hu
     refine .eq (bS (gl K' (jU X)) .builtin (a1 (dY (eW:=[(".0", .unset),("v", .unset),("first", .val (cA first)),("rel", .val (gA r)),("u", .val (.int u))]) (out:=((aK r).filter (yW r first u)).map λ(v:Nat)=>D.int v) K' (jE K' (nm K') bp) (λJT fj Ly=>?_) kq ?_)) (jQ ?_)) ?_
     ·refine sm (aK r) (λ(v:Nat)=>D.int v) (yW r first u) (λ(v:Nat)=>D.int v) (λv=>[(".0", .unset),("v", .val (.int v)),("first", .val (cA first)),("rel", .val (gA r)),("u", .val (.int u))]) (λv hv=>?_) (λv hv=>?_) (λv hv _=>?_) λv hv=>jS
      ·exact cx fj
      ·have Ij:=qD hv
       refine .eq (Ia (Ib (kO fj (ia fj w (nm fj) (nm fj) (nm fj) Ij yJ) num hZ) λ_=>Ib (Ia (vn (kO fj (bin fj (ia fj w (nm fj) (nm fj) (nm fj) yJ Ij) (ia fj w (nm fj) (nm fj) (nm fj) Ij yJ) cV) num hZ) λ_=>vn (kO fj (xe fj fj.ok.room.units (nm fj) (nm fj) (Pb v hv) (by exact aN 0x3a00847ec4801 tt Pc)) (xe fj fj.ok.room.units (nm fj) (nm fj) (Pb u hu) (by exact aN 0x3a00847ec4801 tt Pc)) El) λ_=>EP)) λ_=>Qq)) ?_
       unfold yW
       simp
      ·exact nm fj
     ·rw[ai]; exact aP (ba _ _) (by exact aN 0xb80210e2da84801 tt hh)
     ·rw[ai]; exact fH (ba _ _) (by exact aN 0x2e0085f495212a0201 tt hh)
     ·rw[ai]
   ·rw[ai]; exact aN 0xb80210e2da84801 tt hh
   ·unfold placeOf
    show D.list _=D.list _
    rw[aM]; rfl
   ·refine jw (b:=wq r (aK r) first) (VB.eq (kO K (VE.eq (bS (gl K (yH X)) .builtin (a1 (VE.eq (nm K (d:=cA (placeOf r (aK r) first))) (d':= .list (((placeOf r (aK r) first).map λ(n:Nat)=>(n:Int)).map D.int)) (by rw[rY]))) (yy ?_)) rfl)
     (VE.eq (bS (gl K (xb X)) .type (a1 (bS (gl K (kr X)) .type (a1 (VE.eq (bS (gl K (jU X)) .builtin (a1 (nm K)) (jQ (by rw[ai]; exact aN 0x2e0085f495212a0201 tt hh))) (d':= .int (aK r).length) (by rw[ai]))) mI)) (CN K.hand (by decide) (by decide) (by(first|lia|omega)) (by exact ew 0x170042fa4a9048101 tt hh))) (d':= .list (((aB (aK r).length).map λ(n:Nat)=>(n:Int)).map D.int)) ?_) LZ) rfl) (λhg=>?_) λhg=>?_
    ·unfold placeOf; rw[ai,ai]; exact aN 0x5c0109212a0201 tt hh
    ·rw[show(((aK r).length:Int)-0).toNat=(aK r).length by(first|lia|omega),mQ,rY]
    ·refine N4 ?_
     have:first=fs:=by rw[iN,hg] at e3; exact cg e3
     subst this
     exact AJ X L K
    ·refine dh (dh ?_)
     refine⟨rs,_,_,rfl,λrow h=>e2 row (.tail _ h),?_,rfl⟩
     rw[iN,hg] at e3; exact e3
theorem XW(X:cH W){A:Around}(lv:Lv 1 A){r:Rel}{fs:List Nat}{t:Nat}(L:jI r fs):iJ W A (.ref 332) [gA r, .int t] (.list ((fg r fs t).map λl=> .str (aS l))):=by
 have w:=L.wf
 have hh:=kC r
 refine X.fn 332 (n:=0) (ps:=["rel","total"]) (ρ:=[("rel", .val (gA r)),("total", .val (.int t)),("heads", .unset),("rows", .unset),("turn", .unset),("first", .unset),("place", .unset),("mate", .unset),("third", .unset),("spots", .unset),("least", .unset),("lift", .unset),("base", .unset),("counts", .unset),("runs", .unset)])
  (names:=[(J "rel",aq),(J "total",aq),(J "heads",aq),(J "rows",ae),(J "turn",ae),(J "first",aq),(J "place",aq),(J "mate",aq),(J "third",aq),(J "spots",ae),(J "least",aq),(J "lift",aq),(J "base",aq),(J "counts",ae),(J "runs",aq),(J "range",ag),(J "sorted",ag),(J "list",ag),(J "len",ag),(J "min",ag),(J "max",ag)])
  lv ⟨_,rfl,rfl⟩ rfl (by kernel_rfl) rfl rfl (by kernel_rfl) rfl rfl rfl rfl rfl (by kernel_rfl) (by kernel_rfl) (tW λa b=>by kernel_rfl) ?_ (λC O lv hN sA=>?_)
 ·show kj [(_,_),(_,_)] _ _
  exact qY
 ·have K:CK C _:=⟨O,lv.hand,hN⟩
  refine let1 (d:= .tup [cA (aK r), .list ((lO r (aK r) 0).map cA)]) (tup (ac (dY (eW:=[(".0", .unset),("u", .unset),("rel", .val (gA r))]) (out:=(aK r).map λ(u:Nat)=>D.int u) K (t8 X K) (λC' K' e=>?_) kq ?_) (a1 (lst (ds:=[cA []]) (a1 (lst a0)))))) (iV K (cx K) (cx K)) ?_ rfl (jT K (.inl ij))
  ·unfold aK
   refine sm (aB 4) (λ(u:Nat)=>D.int u) _ (λ(u:Nat)=>D.int u) (λu=>[(".0", .unset),("u", .val (.int u)),("rel", .val (gA r))]) (λu hu=>?_) (λu hu=>?_) (λu hu _=>?_) λu hu=>jS
   ·exact cx K'
   ·have yJ:=aW.mp hu
    refine kO K' num (VE.eq (mM (IG K' w (nm K') (nm K') yJ) w8 p0 (p1 (nm K')) p0 (by decide) ?_ (λ_ _=>rfl)) (d':= .list (((r.getD u []).take u).map D.int)) ?_) C2
    ·rw[ai,(w.at yJ).2]; decide
    ·rw[oU]; show D.list _=D.list _; rw[x9]
   ·exact nm K'
  ·rw[ai]; exact aN 0xb80210e2da84801 tt hh
  ·refine mO (xs:=(aK r).map λ(u:Nat)=>D.int u) K (jE K (nm K) bp) (λxs ρ=>∃(k:Nat) (b5:Bd),xs.length=k/\k<=(aK r).length/\(∀x∈xs,∃i,x=D.int i)/\ρ=hW r t (.val (cA (aK r))) (.val (.list ((lO r (aK r) ((aK r).length-k)).map cA))) b5 .unset .unset .unset .unset .unset .unset .unset .unset .unset .unset) ⟨(aK r).length,_,by rw[ai],bL _,λx hx=>by obtain⟨u,_,rfl⟩:=aw.mp hx; exact⟨_,rfl⟩,by rw[Nat.sub_self]; rfl⟩ ?_ ?_
   ·rintro ρ ⟨k,b5,e1,e2,e3,rfl⟩
    obtain rfl:k=0:=e1.symm
    exact y0 X L K
   ·rintro y xs ρ ⟨k,b5,e1,e2,e3,rfl⟩
    obtain⟨k,rfl⟩:∃j,k=j+1:=⟨xs.length,by rw[<-e1]; rfl⟩
    obtain⟨i,rfl⟩:=e3 y (.head _)
    have Qt:xs.length=k:=by simpa using e1
    have hk:(aK r).length-k=((aK r).length-(k+1))+1:=by exact Ss e2 e1 Qt
    obtain⟨rows,B0⟩:∃rows,rows=lO r (aK r) ((aK r).length-(k+1)):=⟨_,rfl⟩
    have Pd:∀row∈rows,row.length<=10:=by rw[B0]; exact L.len _ (by exact Nb e2 e1 Qt)
    have hbd:rows.length<=1000:=by rw[B0]; exact L.bound _ (by exact Nb e2 e1 Qt)
    rw[<-B0]
    unfold hW
    refine⟨_,cx K,?_⟩
    refine O7 (eW:=[(".0", .unset),("row", .unset),("u", .unset),("heads", .val (cA (aK r))),("rel", .val (gA r))]) (out:=(qC r (aK r) rows).map cA) K (jE K (nm K) bp) (λC' K' e=>?_) kq ?_ kB ?_
    ·unfold qC
     rw[Hj,aM]
     refine BQ rows cA _ (λrow=>[(".0", .unset),("row", .val (cA row)),("u", .unset),("heads", .val (cA (aK r))),("rel", .val (gA r))]) (λrow hr=>?_) (λrow hr=>?_) λrow hr=>jS
     ·exact cx K'
     ·have J5:=Pd row hr
      refine BP (ys:=Pa (aK r)) (jE K' (d:=cA (aK r)) (nm K') bp) ?_
      show Clause W C' _ _ _ _ ((aK r).map λ(u:Nat)=>D.int u) ((((aK r).filter (qB r (aK r) row)).map λu=>row++[u]).map cA)
      rw[aM]
      refine sm (aK r) (λ(u:Nat)=>D.int u) (qB r (aK r) row) _ (λu=>[(".0", .unset),("row", .val (cA row)),("u", .val (.int u)),("heads", .val (cA (aK r))),("rel", .val (gA r))]) (λu hu=>?_) (λu hu=>?_) (λu hu _=>?_) λu hu=>jS
      ·exact cx K'
      ·have yJ:=qD hu
       refine .eq (Ia (vn (kO K' (nm K') (nm K') wo) λ_=>vn (kO K' (VE.eq (dY (eW:=[(".0", .unset),("v", .unset),("rel", .val (gA r)),("row", .val (cA row)),("u", .val (.int u))]) (out:=((aK r).filter λv=>decide (bF r v u=2)&& !row.contains v).map λ(v:Nat)=>D.int v) K' (jE K' (nm K') bp) (λJT fj Ly=>?_) kq ?_) (d':=cA ((aK r).filter λv=>decide (bF r v u=2)&& !row.contains v)) rfl) (lst a0) Fi) λ_=>EP)) ?_
       ·refine sm (aK r) (λ(v:Nat)=>D.int v) (λv=>decide (bF r v u=2)&& !row.contains v) (λ(v:Nat)=>D.int v) (λv=>[(".0", .unset),("v", .val (.int v)),("rel", .val (gA r)),("row", .val (cA row)),("u", .val (.int u))]) (λv hv=>?_) (λv hv=>?_) (λv hv _=>?_) λv hv=>jS
        ·exact cx fj
        ·have Ij:=qD hv
         refine .eq (Ia (vn (kO fj (ia fj w (nm fj) (nm fj) (nm fj) Ij yJ) num hZ) λ_=>vn (kO fj (nm fj) (nm fj) wo) λ_=>EP)) (by simp)
        ·exact nm fj
       ·rw[ai]; exact aP (ba _ _) (by exact aN 0xb80210e2da84801 tt hh)
       ·unfold qB; simp
      ·refine .eq (bin K' (nm K') (lst (a1 (nm K'))) (qp ?_)) ?_
       ·simp; exact aN 0xe80217d253fc801 tt J5
       ·show D.list _=D.list _
        simp
    ·rw[ai]
     have:=yZ r (heads:=aK r) rows
     have:(aK r).length*rows.length<=4*1000:=p8 hh hbd
     exact Su ‹_› this
    ·refine dh ⟨k, .val (.int i),Qt,by exact aX 1787244348417 tt e2,λx hx=>e3 x (.tail _ hx),?_⟩
     rw[hk,lO,<-B0]
end
structure uh(W:Wd):Prop where
 tab:W.B.side 147
 tq:∀x,W.B.sq 147 x↔∃m:ME,x=m.obj
 gq:∀gs,W.B.gq gs↔AllBare gs
 bmod:∃x:Obj,W.B.f 4=some x/\x.cls= .type "module" /\x.dict=some cP/\x.data= .plain
section
variable {W:Wd}{f o:Fz}{s:Shared}
noncomputable def Wd.now(W:Wd)(s:Shared)(L:Addr)(hs:∀a x,W.B.f a=some x->s.heap.get? a=some x)(hL:W.B.f L=none):Wd where
 prog:=W.prog
 w:=W.w
 B:={
  f:=λb=>if b=L then none else s.heap.get? b
  side:=λ_=>False
  sq:=λ_ _=>True
  os:=s.os
  dq:=λd=>d=s.drawn
  gq:=λg=>g=s.gens
  nolimit:=λh k=>W.B.nolimit h λa x e=>k a x (by
   have h1:a≠L:=λq=>by subst q; rw[e] at hL; cases hL
   show(if a=L then none else s.heap.get? a)=some x
   rw[if_neg h1]; exact hs _ _ e)
  ftab:=λ_ h=>h.elim}
section
variable {hs:∀a x,W.B.f a=some x->s.heap.get? a=some x}{L:Addr}{hL:W.B.f L=none}
theorem J6{b:Addr}(h1:b≠L):(W.now s L hs hL).B.f b=s.heap.get? b:=if_neg h1
theorem xg(hf:∀a x,f a=some x->s.heap.get? a=some x)(h1:f L=none):f.le (W.now s L hs hL).B.f:=λa x e=>by
 have h1:a≠L:=λq=>by subst q; exact iB h1 e
 rw[J6 h1]; exact hf _ _ e
noncomputable def mT(L:Addr)(h:Heap):Fz:=λb=>if b=L then h.get? L else none
set_option tactic.hygienic true in
theorem Fs:St (W.now s L hs hL).B (W.now s L hs hL).B.f (mT L s.heap) s where
 sub:=λa x e=>by
  by_cases h:a=L
  ·exact iB (show(W.now s L hs hL).B.f a=none from if_pos h) e
  ·rw[show(W.now s L hs hL).B.f a=s.heap.get? a from if_neg h] at e; exact e
 own:=λa x e=>by
  unfold mT at e
  split at e
  ·rename_i h; subst h; exact e
  ·exact nomatch e
 apart:=λa x e=>by
  by_cases h:a=L
  ·subst h; exact iB (show(W.now s a hs hL).B.f a=none from if_pos rfl) e
  ·exact if_neg h
 base:= .refl _
 tab:=λ_ h=>h.elim
 fo:=λ_ h=>h.elim
 os:=⟨rfl,rfl⟩
 gens:=rfl
theorem B1(X:cH W):cH (W.now s L hs hL) where
 sj:=λa x e=>xg hs hL _ _ (X.sj a x e)
 Qo:=let⟨mb,h1,h2⟩:=X.Qo; ⟨mb,λh k=>h1 h λa x e=>k a x (xg hs hL _ _ e),h2⟩
theorem y3{f' o':Fz}{s':Shared}(S':St (W.now s L hs hL).B f' o' s'):∀b x,b≠L->s.heap.get? b=some x->s'.heap.get? b=some x:=λb x h1 e=>by
 exact S'.sub _ _ (S'.base _ _ ((J6 h1).trans e))
theorem y4{f' o':Fz}{s':Shared}(S':St (W.now s L hs hL).B f' o' s'):s'.os=s.os/\s'.drawn=s.drawn/\s'.gens=s.gens:=⟨S'.os.1,S'.os.2,S'.gens⟩
theorem IH{C:Cx}{ρ:Ro}(S:St W.B f o s)(H:bc C ρ f o)(hC:C.env.locals=L)(hv:∀n b,(n,b)∈ρ->(b= .unset\/∃d,b= .val d)/\C.env.kindOf n=some .local):bc C ρ (W.now s L hs hL).B.f (mT L s.heap):=by
 obtain⟨ob,es,ep,h1,h2,h3⟩:=H.ns
 have hl:mT L s.heap C.env.locals=some ob:=by rw[hC]; show(if L=L then _ else _)=_; rw[if_pos rfl,<-hC]; exact S.own _ _ h1
 have hle:f.le (W.now s L hs hL).B.f:=xg S.sub (by rw[<-hC]; exact S.fu h1)
 refine⟨H.ok,⟨ob,es,ep,hl,h2,h3⟩,λn b hm=>?_,H.nd,λn u r hm=>?_,λn n' u u' r r' hm=>?_⟩
 ·obtain⟨vo,hva,hh⟩:=H.vars n b hm
  obtain⟨hb,hk⟩:=hv n b hm
  refine⟨vo,?_,?_⟩
  ·rcases hva with⟨_,ob',pF,D7,e1,e2,e3,e4⟩|⟨oX,_⟩
   ·cases nJ h1 e1; exact .inl ⟨hk,ob,pF,D7,hl,e2,e3,e4⟩
   ·rw[hk] at oX; rcases oX with q|q<;>exact nomatch q
  ·rcases hb with rfl|⟨d,rfl⟩
   ·trivial
   ·exact let⟨v,e,x⟩:=hh; ⟨v,e,x.mono hle⟩
 ·obtain⟨hb,_⟩:=hv n _ hm; rcases hb with q|⟨_,q⟩<;>exact nomatch q
 ·obtain⟨hb,_⟩:=hv n _ hm; rcases hb with q|⟨_,q⟩<;>exact nomatch q
end
theorem St.more(S:St W.B f o s){s':Shared}(hk:∀b x,s.heap.get? b=some x->s'.heap.get? b=some x)(he:s'.os=s.os/\s'.drawn=s.drawn)(hg:W.B.gq s'.gens):St W.B f o s':=
 ⟨λa x e=>hk _ _ (S.sub a x e),λa x e=>hk _ _ (S.own a x e),S.apart,S.base,λc hc=>let⟨z,hz,hq⟩:=S.tab c hc; ⟨z,hk _ _ hz,hq⟩,S.fo,by rw[he.1,he.2]; exact S.os,hg⟩
theorem Ft(S:St W.B f o s){f' o':Fz}{s':Shared}(lf:f'.le f)(lb:W.B.f.le f')(lo:o'.le o)(hk:∀b x,(f' b=some x\/o' b=some x\/W.B.side b)->s.heap.get? b=some x->s'.heap.get? b=some x)(he:s'.os=s.os/\s'.drawn=s.drawn)(hg:W.B.gq s'.gens):St W.B f' o' s' where
 sub:=λa x e=>hk a x (.inl e) (S.sub _ _ (lf _ _ e))
 own:=λa x e=>hk a x (.inr (.inl e)) (S.own _ _ (lo _ _ e))
 apart:=λa x e=>by
  refine none_of λy q=>?_
  have:=S.apart _ _ (lf _ _ e); rw[lo _ _ q] at this; exact nomatch this
 base:=lb
 tab:=λc hc=>let⟨z,hz,hq⟩:=S.tab c hc; ⟨z,hk _ _ (.inr (.inr hc)) hz,hq⟩
 fo:=λc hc=>by
  constructor
  ·exact none_of λy q=>absurd hc (S.iG (.inl (lf _ _ q)))
  ·exact none_of λy q=>absurd hc (S.iG (.inr (lo _ _ q)))
 os:=by rw[he.1,he.2]; exact S.os
 gens:=hg
theorem Fu(X:cH W)(XT:uh W)(S:St W.B f o s){A:Around}{env:Env}{pos:Pos}{q:Str}{scope:Scope}{Q:Value->Shared->Prop}{E:Value->Shared->Prop}(hc:env.code= .ref 151)
 (h:∀v s',St W.B f o s'->s'.gens=s.gens->(∀b x,b≠147->s.heap.get? b=some x->s'.heap.get? b=some x)->Q v s'):wpAny W.M A (genexprCode env pos q scope) Q E s:=by
 obtain⟨x0,ht,K9⟩:=S.tab 147 XT.tab
 obtain⟨⟨ps,m9⟩,rfl⟩:=(XT.tq _).mp K9
 have hk:∃x vs file tf flags tg AK text tt,(KK W).lookup 151=some x/\x.data= .fields vs/\vs.getD 11 .none= .ref 147/\vs.getD 18 .none= .str file tf/\vs.getD 7 .none= .int flags tg/\vs.getD 9 .none= .bool AK/\vs.getD 10 .none= .int text tt:=
  ⟨_,_,_,_,_,_,_,_,_,rfl,rfl,rfl,rfl,rfl,rfl,rfl⟩
 obtain⟨x,vs,file,tf,flags,tg,AK,text,tt,hx,e1,e2,e3,e4,e5,e6⟩:=hk
 have lx:s.heap.IsCode 151 147 ps:=
  ⟨x,vs,file,tf,flags,tg,AK,text,tt,_,S.bT _ _ (X.sj _ _ hx),e1,e2,e3,e4,e5,e6,ht,rfl,m9,by decide⟩
 have XX:s.heap.TableAt 151 147 ps:=by
  have hk:∃x vs,(KK W).lookup 151=some x/\x.cls= .type "code" /\x.data= .fields vs/\vs[11]? =some (.ref 147):=⟨_,_,rfl,rfl,rfl,rfl⟩
  obtain⟨y,us,h1,h2,h3,h4⟩:=hk
  exact⟨⟨y,us,S.bT _ _ (X.sj _ _ h1),h2,h3,h4⟩,ht⟩
 have fin:∀(h':Heap) (tk:Tok) (m:ME),uS 147 s.heap h'->h'.get? 147=some m.obj->St W.B f o {s with heap:=h',toks:=tk}:=λh' tk m he hg=>by
  refine⟨λa y e=>he a y (λq=>?_) (S.sub a y e),λa y e=>he a y (λq=>?_) (S.own a y e),S.apart,S.base,λc hc=>?_,S.fo,S.os,S.gens⟩
  ·subst q; exact S.iG (.inl e) XT.tab
  ·subst q; exact S.iG (.inr e) XT.tab
  ·by_cases q:c=147
   ·subst q; exact⟨_,hg,(XT.tq _).mpr ⟨m,rfl⟩⟩
   ·obtain⟨z,hz,hq⟩:=S.tab c hc
    exact⟨z,he c z q hz,hq⟩
 cases hf:codeAmong pos ps.toList with
 |some c'=>exact wpAny_genexprCode_hit hc lx hf (h _ _ S rfl λ_ _ _ e=>e)
 |none=>
  refine wpAny_genexprCodeX hc lx XX hf λc' h' tk he _ _ NS _ ZZ _=>?_
  have htr:TriplesOk (ps++ #[rawInt pos.line,rawInt pos.col, .ref c']).toList:=by
   obtain⟨_,_,_,_,_,_,_,_,_,_,_,_,_,_,_,_,_,g1,g2,r,_⟩:=NS
   cases nJ ZZ.2 g1; cases g2; exact r
  exact h _ _ (fin h' tk ⟨_,htr⟩ he ZZ.2) rfl λb x hb e=>he b x hb e
theorem Fv(X:cH W)(XT:uh W)(S:St W.B f o s){A:Around}{Q:Addr->Shared->Prop}{E:Value->Shared->Prop}(h:Q cP s):wpAny W.M A (builtinsFor bV cP) Q E s:=by
 obtain⟨x,h1,h2,h3,h4⟩:=XT.bmod
 unfold builtinsFor
 have e:nsIn (KK W) bV "__builtins__" =some (some (.ref 4)):=by kernel_rfl
 refine aa ((looks_nsIn (X.sF S) e).here ?_)
 show wpAny _ A (if((4:Addr)==cP)=true then _ else _) Q E s
 rw[if_neg (by decide)]
 refine aa (A1 (S.bT _ _ h1) ?_)
 rw[h4,h3,h2]
 exact ao h
end
theorem pP{M:Model}{A:Around}{env:Env}{Q:Flow->Shared->Prop}{E:Value->Shared->Prop}{b:List Stmt}:∀{a:List Stmt} {s:Shared},
 wpAny M A (execs a env) (λfl s'=>match fl with| .next=>wpAny M A (execs b env) Q E s'|fl=>Q fl s') E s->wpAny M A (execs (a++b) env) Q E s:=by
 intro a s h
 have e:∀a:List Stmt,execs (a++b) env=(do match <-execs a env with| .next=>execs b env|fl=>pure fl):=by
  intro a
  induction a with
  |nil=>rfl
  |cons x r ih=>
   rw[jZ,execs_cons,execs_cons,bind_assoc]
   congr 1
   funext fl
   cases fl with
   |next=>exact ih
   |brk=>rfl
   |cont=>rfl
   |ret v=>rfl
 rw[e]
 refine aa (dC h (λfl s' h'=>?_) λ_ _ x=>x)
 cases fl with
 |next=>exact h'
 |brk=>exact ao h'
 |cont=>exact ao h'
 |ret v=>exact ao h'
section
variable {W:Wd}{C:Cx}{ρ a9:Ro}{names:List (Str×aC)}{f o:Fz}{s:Shared}
theorem C3{ob:Expr}{name:Str}{es:List Expr}{apos pos:Pos}{fv:Value}{da:D}{ds:List D}(ho:VE W C ρ ob da)(hm:Meth W da name fv)(hk:Kept W fv)(ha:VA W C ρ es ds)(S:St W.B f o s)(H:bc C ρ f o){Q:Value->Shared->Prop}{E:Value->Shared->Prop}
 (h:∀v vs f1 s1,f.le f1->St W.B f1 o s1->Den f1 da v->bQ f1 ds vs->wpAny W.M C.A (call fv (v::vs) []) Q E s1)
 (hp:autoParam ((aI es C.env).all (λx=>!x.1)=true) fL._auto_1) (hn:autoParam (es.length+0<30) vk._auto_1) (hl:autoParam ((apos.endLine==pos.line)=true) vk._auto_1) (hb:autoParam (bx ob name C.env (eval ob C.env)=eval ob C.env) fL._auto_1):
 wpAny W.M C.A (eval (.Call (.Attribute ob name apos) es [] pos) C.env) Q E s:=by
 show wpAny _ _ (do
  let ov <-bx ob name C.env (eval ob C.env)
  dE apos.atName
  eX ob name apos pos C.env ov (es.length+0) (backTo pos (aI es C.env)) []) _ _ s
 rw[hb]
 refine aa (ho.un f o s S H _ _ λv f1 s1 l1 S1 d1=>aa (aZ ?_))
 have qh:eB (es.length+0) (backTo pos (aI es C.env)) []=true:=by
  unfold eB
  have:=cn pos es C.env hp
  rw[mF] at this
  simp only[r7,kh,ni,if_true,lj,cq,aT,decide_eq_true_eq]
  exact⟨λx hx=>by simpa using this x hx,hn⟩
 unfold eX rN
 rw[qh]
 refine aa (aL (hm _ f1 o s1 v _ S1 d1 _ _ ?_))
 unfold ji
 rw[hl]
 refine aa (ao ?_)
 have jl:=cn pos es C.env hp
 refine d6 (P:=λh=>∀a x,W.B.f a=some x->h.get? a=some x) (by rw[jl]; rfl) hk (dj jl ?_)
 exact ha.un pos f1 o s1 S1 (H.mono l1 (.refl o)) _ _ λus f2 s2 l2 S2 d2=>⟨S2.bT,h v us f2 s2 (l1.trans l2) S2 (d1.mono l2) d2⟩
end
noncomputable def wD(p:Int×List D):D:= .tup (.int p.1::p.2)
noncomputable abbrev kP:List (Str×aC):=[(J ".0",ae),(J "tup",ae),(J "str",ag)]
section
variable {W:Wd}{f o:Fz}{s:Shared}
theorem II(X:cH W){A:Around}{cenv:Env}{p:Int×List D}{v:Value}{m:Str->Option Value}{p1 p2 p3 p4 p5:Pos}{E:Value->Shared->Prop}(hA:A.handled=none)(hr:Rm A)(sA:cenv.scope.kind= .function)(hn:cenv.scope.names=kP)(hg:cenv.globals=bV)(hb:cenv.builtins=cP)(hc:cenv.cells=[])
 (hs:∀a x,f a=some x->s.heap.get? a=some x) (hL:f cenv.locals=none) (hB:W.B.f.le f) (wR:s.heap.Ns cenv.locals m) (hm:m (J "tup")=some v) (hd:Den f (wD p) v) (hp:p.1.natAbs<1000000):
 wpAny W.M A (eval (.Call (.Name (J "str") p1) [.Subscript (.Name (J "tup") p2) (.Constant (.int 0) 0 p3) p4] [] p5) cenv) (λy s'=>(∃t,y= .str (aS (lL p.1)) t)/\Keeps s s') E s:=by
 have Z0:W.B.f cenv.locals=none:=by
  refine none_of λy q=>?_
  have:=hB _ _ q; exact iB hL this
 have Z1:∀a x,W.B.f a=some x->s.heap.get? a=some x:=λa x e=>hs _ _ (hB _ _ e)
 let W':=W.now s cenv.locals Z1 Z0
 have X':cH W':=B1 X
 have S':=Fs (W:=W) (hs:=Z1) (hL:=Z0)
 have kd:∀n k,(n,k)∈kP->cenv.kindOf n=some k:=λn k h=>by unfold Env.kindOf; rw[hn]; exact cJ (by decide+kernel) h
 have O:Cx.Ok ⟨cenv,A,kP⟩:=⟨sA,hg,hb,λn k h _=>kd n k h,λn h=> .inr (kd n _ h),λn n' c c' _ _ e _=>(by rw[show cenv.cells=[] from hc] at e; exact nomatch e),hr⟩
 have K:CK ⟨cenv,A,kP⟩ kP:=⟨O,hA,rfl⟩
 obtain⟨ob,es,ep,n1,n2,n3,n4⟩:=wR
 have hl:mT cenv.locals s.heap cenv.locals=some ob:=by unfold mT; rw[if_pos rfl]; exact n1
 have H:bc ⟨cenv,A,kP⟩ [(".0", .unset),("tup", .val (wD p))] W'.B.f (mT cenv.locals s.heap):=by
  refine⟨O,⟨ob,es,ep,hl,n2,n3⟩,λn b qW=>?_,by(show[J ".0",J "tup"].Nodup; decide+kernel),λn u r qW=>?_,λn n' u u' r r' qW=>?_⟩
  ·rcases au.mp qW with e|qW
   ·cases e; exact⟨_, .inl ⟨kd _ _ (.head _),ob,es,ep,hl,n2,n3,rfl⟩,trivial⟩
   rcases au.mp qW with e|qW
   ·cases e; exact⟨_, .inl ⟨kd _ _ (.tail _ (.head _)),ob,es,ep,hl,n2,n3,rfl⟩,v,(n4 _).trans hm,hd.mono (xg hs hL)⟩
   ·exact nomatch qW
  ·simp at qW
  ·simp at qW
 have hE:VE W' ⟨cenv,A,kP⟩ [(".0", .unset),("tup", .val (wD p))] (.Call (.Name (J "str") p1) [.Subscript (.Name (J "tup") p2) (.Constant (.int 0) 0 p3) p4] [] p5) (.str (aS (lL p.1))):=
  bS (gl K (EV X')) .type (a1 (dA (T:= "tuple") (di:= .int ((0:Nat):Int)) K (VE.eq (nm K (d:=wD p)) (d':= .tup (.int p.1::p.2)) rfl) num cu (fw rfl (by decide)))) (tM hp)
 refine hE.un _ _ s S' H _ _ λy f' s' l' S2 d2=>⟨d2,s'.heap,s'.toks,?_,λb x e=>?_⟩
 ·obtain⟨q1,q2,q3⟩:=y4 S2
  cases s'; simp only at q1 q2 q3; subst q1 q2 q3; rfl
 ·by_cases q:b=cenv.locals
  ·subst q; exact S2.own _ _ (by unfold mT; rw[if_pos rfl]; exact e)
  ·exact y3 S2 b x q e
end
noncomputable abbrev jJ:List (Str×aC):=[(J "w",ae),(J "firsts",ae),(J "prefix",ae),(J "len",ag)]
noncomputable def Pe(W:Wd)(i:Nat):Stmt:=(cj (KK W) 152).getD i (.Pass ⟨0,0,0,0⟩)
noncomputable def Fw(ws:List (Int×List D))(i:Nat)(y:Value):Prop:=∃p t,ws[i]? =some p/\y= .str (aS (lL p.1)) t
theorem rZ(n:Nat):passing (λ_=>true) n 0=aB n:=by unfold passing; simp
theorem IJ{ws:List (Int×List D)}{l:List (Str×Tok)}(h:ItemsOf (λj y=>∃i,(passing (λ_=>true) ws.length 0)[j]? =some i/\Fw ws i y) (pg l).toArray ws.length):l.map (·.1)=(ws.map λp=>lL p.1).map aS:=by
 obtain⟨h1,h2⟩:=h
 have hl:l.length=ws.length:=by simpa [pg] using h1
 refine nj (by simp[hl]) λi hi1 hi2=>?_
 have hi:i<l.length:=by simpa using hi1
 obtain⟨k,hk,p,t,hp,hy⟩:=h2 i (.str l[i].1 l[i].2) (by simp[pg,hi])
 rw[rZ] at hk
 have hki:k=i:=by simp[cQ (by exact Rg hl hi:i<ws.length)] at hk; exact hk.symm
 subst hki
 obtain⟨oX,e⟩:=cI.mp hp
 simp only[List.getElem_map]
 rw[e]
 injection hy
theorem IK{W:Wd}(X:cH W){A:Around}{env:Env}(K:CK ⟨env,A,jJ⟩ jJ)(lv:Lv 3 A){ws:List (Int×List D)}(hw:∀p∈ws,p.1.natAbs<1000000/\(lL p.1).length<=100)(hn:ws.length<=100){f o:Fz}{s5:Shared}
 (S5:St W.B f o s5) (H:bc ⟨env,A,jJ⟩ [("w", .val (.list (ws.map wD))),("firsts", .unset),("prefix", .unset)] f o) {a g Cg I:Nat} {fp:List Addr} (hG:GenAt W.prog W.w A.in4 a g Cg fp [I] (λ_=>true) ws.length (Fw ws) 0 s5)
 (haC:a≠Cg) (haf:a∉fp) (hIf:I∈fp) (XY:env.locals∉fp) (hLC:env.locals≠Cg) (hLa:env.locals≠a) (hcs:Jv∈fp) (Qu:Jv≠Cg) (hcw:Jv≠I) (fB:∀b∈a::Cg::fp,b<=a)
 {P:Flow->Shared->Prop} {E:Value->Shared->Prop} {pp:Pos}
 (hP:∀v s7,(∃t,v= .str (aS (wordsOf (ws.map (·.1)))) t)->(∀b x,b≠env.locals->b≠Cg->b≠I->s5.heap.get? b=some x->s7.heap.get? b=some x)->s7.os=s5.os->s7.drawn=s5.drawn->GenOnlyQ g s5.gens s7.gens->P (.ret v) s7):
 wpAny W.M A (assignAll (.ref a) ((bk [.Name (J "firsts") pp] env).map (·.2))) (λ_ s'=>wpAny W.M A (execs ([Pe W 1,Pe W 2]++[Pe W 3]) env) P E s') E s5:=by
 have Z2:W.B.f env.locals=none:=by
  obtain⟨ob,_,_,e,_⟩:=H.ns
  have:=S5.fu e
  refine none_of λy q=>?_
  rw[S5.base _ _ q] at this; exact nomatch this
 let W':=W.now s5 env.locals S5.bT Z2
 have X':cH W':=B1 X
 have S':St W'.B _ _ s5:=Fs (W:=W) (hs:=S5.bT) (hL:=Z2)
 have H':bc ⟨env,A,jJ⟩ [("w", .val (.list (ws.map wD))),("firsts", .unset),("prefix", .unset)] W'.B.f (mT env.locals s5.heap):=by
  refine IH S5 H rfl λn b hm=>?_
  rcases au.mp hm with e|hm
  ·cases e; exact⟨.inr ⟨_,rfl⟩,K.ok.kinds _ _ (.head _) (by decide)⟩
  rcases au.mp hm with e|hm
  ·cases e; exact⟨.inl rfl,K.ok.kinds _ _ (.tail _ (.head _)) (by decide)⟩
  rcases au.mp hm with e|hm
  ·cases e; exact⟨.inl rfl,K.ok.kinds _ _ (.tail _ (.tail _ (.head _))) (by decide)⟩
  ·exact nomatch hm
 let pre:List Nat:=nc++(if(ws.length:Int)>1 then[115] else[])
 have AL:pre.length<=12:=by show(nc++_).length<=12; split<;>simp[nc]
 have ip:VS W' ⟨env,A,jJ⟩ [("w", .val (.list (ws.map wD))),("firsts", .val (.raw (.ref a))),("prefix", .unset)] [Pe W 1,Pe W 2] (λout=>out= .next [("w", .val (.list (ws.map wD))),("firsts", .val (.raw (.ref a))),("prefix", .val (.str (aS pre)))]):=by
  refine let1 (st nc) (cx K) ?_
  refine jw (b:=decide (1<(ws.length:Int))) (kO K (bS (d:= .int ws.length) (gl K (jU X')) .builtin (a1 (nm K)) (by rw[show ws.length=(ws.map wD).length by simp]; exact jQ (by simp; exact aN 0x35240085f495212a0201 tt hn))) num El) (λe=>?_) λe=>?_
  ·have e1:(ws.length:Int)>1:=of_decide_eq_true e
   exact let1 (d:= .str (aS pre)) (VE.eq (bin K (nm K) (st [115]) (gR (by decide))) (by show D.str _=D.str (aS (nc++_)); rw[if_pos e1])) (cx K) (dh (dh rfl))
  ·have e1:¬(ws.length:Int)>1:=of_decide_eq_false e
   have e2:pre=nc:=by show nc++_=_; rw[if_neg e1,gT]
   rw[e2]
   exact dh (dh rfl)
 rw[BN]
 have XZ:VT W' ⟨env,A,jJ⟩ [("w", .val (.list (ws.map wD))),("firsts", .unset),("prefix", .unset)] (.Name (J "firsts") pp) (.raw (.ref a)) [("w", .val (.list (ws.map wD))),("firsts", .val (.raw (.ref a))),("prefix", .unset)]:=cx K
 refine XZ.un.2 _ _ s5 (.ref a) S' H' rfl _ _ λf6 o6 s6 L6=>?_
 refine pP (ip.un f6 o6 s6 L6.st L6.env _ _ λout fl s7 hq ho=>?_)
 subst hq
 obtain⟨rfl,f7,o7,L7⟩:=ho
 have L:=L6.trans L7
 refine gK (nO (Jq ?_))
 refine VE.un (bin K (d:= .str (aS (pre++[32]))) (nm K) (st [32]) (gR (by simp; exact aN 0xf80217d253fc801 tt AL))) f7 o7 s7 L.st L.env _ _ λva f8 s8 l8 S8 d8=>?_
 refine C3 (C:=⟨env,A,jJ⟩) (st [44,32]) (ir gO gN) .builtin (a1 (nm K (d:= .raw (.ref a)))) S8 (L.env.mono l8 (.refl _)) λv us f9 s9 l9 S9 dv dvs=>?_
 obtain⟨t0,rfl⟩:=dv
 obtain⟨u,r,rfl,hu,hr⟩:=dvs
 obtain rfl:u= .ref a:=hu
 obtain rfl:r=[]:=hr
 have kept:=y3 S9
 obtain⟨q1,q2,q3⟩:=y4 S9
 have ea:∀b∈a::Cg::fp,b≠env.locals:=λb hb q=>by
  rcases au.mp hb with e|hb
  ·exact hLa (q.symm.trans e)
  rcases au.mp hb with e|hb
  ·exact hLC (q.symm.trans e)
  ·exact XY (q▸hb)
 have Z3:GenAt W.prog W.w A.in4 a g Cg fp [I] (λ_=>true) ws.length (Fw ws) 0 s9:=by
  obtain⟨i1,i2,gs,i3,i4⟩:=hG
  refine⟨?_,W'.B.nolimit _ S9.bT,gs,by rw[q3]; exact i3,λxR hal=>i4 xR λb hb x e=>hal b hb x (kept b x (ea b (List.mem_cons_of_mem _ hb)) e)⟩
  obtain⟨ob,Z4,qn,e,r⟩:=i1
  exact⟨ob,Z4,qn,kept a ob (ea a (cw ..)) e,r⟩
 have hh:A.in4.handled=none:=K.hand
 have WS:=WalksS.genexpQ (prog:=W.prog) (w:=W.w) (A:=A.in4) hh a g Cg fp [I] (λ_=>true) ws.length (Fw ws) haC haf (λb hb=>by rw[aA.mp hb]; exact hIf) (by have:=lv.depth; show A.depth<1000; exact aN 0xab895891040211fb12a0201 tt this) hcs Qu (by simpa using hcw)
 have hlen:(passing (λ_=>true) ws.length 0).length=ws.length:=by rw[rZ,ec]
 rw[hlen] at WS
 refine SC.joinGen WS.in4_2 (λi s h=>h.1.typeIs) Z3 (λb hb=>?_) (cw ..) (λi v hv=>?_) (λs10 l hm hi=>?_) (by size_fits)
 ·obtain⟨ob,Z4,qn,e,r⟩:=Z3.1
  exact fH (fB b hb) (bJ e)
 ·obtain⟨k,hk,p,t,_,e⟩:=hv; exact⟨_,_,e⟩
 ·have hl:=IJ hi
  rw[hl]
  have hp:∀l:List (Int×List D),(∀p∈l,(lL p.1).length<=100)->(cW [44,32] (l.map λp=>lL p.1)).length<=102*l.length:=by
   intro l
   induction l with
   |nil=>intro _; simp[cW]
   |cons a l ih=>
    intro h
    have h1:=ih λn hn=>h n (.tail _ hn)
    have h2:=h a (.head _)
    cases l with
    |nil=>simp[cW]; exact aN 7478879206459393 tt h2
    |cons b l=>simp only[aO,cW,a8,aQ,ff] at h1 ⊢; exact cG 0x14140d688421352400869414206b4434a4e1004201 tt h2 h1
  have hj:=hp ws λp hp=>(hw p hp).2
  refine⟨Ew (λt ht=>?_) (by simp; exact aN 0x352400847ec4801 tt hn) (by decide),λt' k=>?_⟩
  ·obtain⟨p,hp,rfl⟩:=aw.mp ht
   have:=(hw p hp).2; exact aN 0x352400847ec4801 tt this
  ·obtain⟨t1,rfl⟩:=d8
   have ej:Txt.join (aS [44,32]) ((ws.map λp=>lL p.1).map aS)=aS (cW [44,32] (ws.map λp=>lL p.1)):=by
    show glued _ _=_
    rw[xW,sE]
   rw[ej]
   refine uW (λt2 k2=>?_) (by rw[bu,eS,eS,a8,Bi]; exact cG 0x1ad11043f08426a4806b043084210848540c201 tt hn AL hj)
   refine hP _ _ ⟨t2,?_⟩ (λb x h1 h2 h3 e=>hm.heap b x (by simp[h2,h3]) (kept b x h1 e)) (hm.os.trans q1) (hm.drawn.trans q2) (by rw[<-q3]; exact hm.gens)
   rw[sD]
   congr 2
   unfold wordsOf
   simp[pre,aM,Function.comp_def]
theorem X0{W:Wd}(X:cH W)(XT:uh W){A:Around}(lv:Lv 4 A){ws:List (Int×List D)}(hw:∀p∈ws,p.1.natAbs<1000000/\(lL p.1).length<=100)(hn:ws.length<=100):iJ W A (.ref 152) [.list (ws.map wD)] (.str (aS (wordsOf (ws.map (·.1))))):=Ap λf o s vs S hd Q E h=>by
 obtain⟨v1,r,rfl,h1,h2⟩:=hd
 obtain rfl:r=[]:=h2
 refine fQ (X.code (P:=λ_=>True) 152 (n:=3) (ps:=["w"]) (ds:=[.list (ws.map wD)]) (ρ:=[("w", .val (.list (ws.map wD))),("firsts", .unset),("prefix", .unset)]) (names:=jJ) lv ⟨_,rfl,rfl⟩ rfl (by kernel_rfl) rfl rfl (by kernel_rfl) rfl rfl rfl rfl rfl (by kernel_rfl) (by kernel_rfl) (λQ E k=>?_) ?_ S λf1 env dr cU _ l1 lo jf H mG sd hm=>?_)
 ·have e:eQ (cm (KK W) 152) ⟨[v1],[]⟩=pure [(J "w",v1)]:=by kernel_rfl
  show wpAny _ _ (eQ (cm (KK W) 152) ⟨[v1],[]⟩) Q E s
  rw[e]
  exact ao (k [v1] f s (.refl f) S (.cons h1 .nil) trivial)
 ·show kj [(_,_)] _ _
  exact qY
 ·have K:CK ⟨env,A.deeper env,jJ⟩ jJ:=⟨H.ok,mG.hand,rfl⟩
  refine gK (i0 (wpAny_GeneratorExp_make (cl:=[]) rfl rfl (by decide+kernel) rfl rfl (by have:=mG.depth; show(A.deeper env).depth<1000; exact aN 0xab895891040211fb12a0201 tt this) ?_ λx=>rfl) rfl rfl)
  obtain⟨wY,_,_,DM,_⟩:=H.ns
  have DM:dr env.locals=some wY:=DM
  have hLt:¬W.B.side env.locals:=jf.iG (.inr DM)
  have K5:o env.locals=none:=hm _ (.inl rfl)
  refine(nm K (d:= .list (ws.map wD))).un f1 dr cU jf H _ _ λv f2 s2 l2 S2 d2=>?_
  obtain⟨ax,ol,vs,nn,rfl,g1,g2,g3,g4⟩:=d2
  refine ik ⟨ol,S2.sub _ _ g1,g2.1,nn,g3⟩ ?_
  have S3:St W.B f2 dr {s2 with heap:=s2.heap.push {cls:= .type "list_iterator",data:= .fields #[.ref ax, .int 0 0]}}:=S2.more (λb x e=>aH _ e) ⟨rfl,rfl⟩ S2.gens
  refine⟨W.B.nolimit _ S3.bT,?_⟩
  refine Fu X XT S3 sd.1 λcode s4 S4 hg4 hk4=>?_
  have Z5:env.globals=bV:=H.ok.glob
  have hbn:env.builtins=cP:=H.ok.HB
  rw[Z5,hbn]
  refine Fv X XT S4 ?_
  intro h' pK JJ
  --K0 addresses
  have hIt:s2.heap.objs.size≠147:=gP (S2.jt XT.tab)
  have Z6:s4.heap.get? s2.heap.objs.size=some {cls:= .type "list_iterator",data:= .fields #[.ref ax, .int 0 0]}:=hk4 _ _ hIt (bC _ rfl)
  have Pf:s2.heap.objs.size<s4.heap.objs.size:=bJ Z6
  have Z7:env.locals≠s2.heap.objs.size:=bg (S2.lt (.inr DM))
  have Pg:env.locals<s4.heap.objs.size:=S4.lt (.inr DM)
  have Fx:h'.objs.size=s4.heap.objs.size+1:=by rw[JJ.1,cZ]
  have X1:ax≠s2.heap.objs.size:=bg (S2.lt (.inl g1))
  have f2L:f2 env.locals=none:=S2.fu DM
  have X2:f2 2≠none:=λq=>by
   have h:∃x,(KK W).lookup 2=some x:=⟨_,rfl⟩
   obtain⟨x,hx⟩:=h
   rw[S2.base _ _ (X.sj _ _ hx)] at q; exact nomatch q
  have AK:∀b,b<s4.heap.objs.size->b≠env.locals->b∈(aB s4.heap.objs.size).filter (λb=>decide (b≠env.locals)):=λb hb ea=>bw.mpr ⟨aW.mpr hb,by simpa using ea⟩
  have wu:∀b x,s4.heap.get? b=some x->h'.get? b=some x:=λb x e=>JJ.extBut b x (bg (bJ e)) (aH _ e)
  have hvs:(⟨vs⟩:Array Value).size=ws.length:=by rw[show(⟨vs⟩:Array Value).size=vs.length from rfl,g4.length,ai]
  have B2:∀b x,f2 b=some x->b≠env.locals:=λb x e q=>by subst q; exact iB f2L e
  have hh:(A.deeper env).in4.handled=none:=mG.hand
  refine IK X K mG hw hn (by exact S4.more (λb x e=>aH _ (wu b x e)) ⟨rfl,rfl⟩ ((XT.gq _).mpr (JA ((XT.gq _).mp S4.gens) rfl))) (H.mono l2 (.refl _)) (a:=h'.objs.size) (g:=s4.gens.size) (Cg:=s4.heap.objs.size) (I:=s2.heap.objs.size) (fp:=(aB s4.heap.objs.size).filter (λb=>decide (b≠env.locals))) ?_ ?_ ?_ ?_ ?_ ?_ ?_ ?_ ?_ ?_ ?_ λv s7 hv hk ho hdr hgq=>?_
  ·have hW0:∀A':Around,A'.handled=none->Walks W.prog W.w A' s2.heap.objs.size ((aB s4.heap.objs.size).filter (λb=>decide (b≠env.locals))) [s2.heap.objs.size] ws.length (λi v=>(⟨vs⟩:Array Value)[i]? =some v) (λi h=>h.IsListIter s2.heap.objs.size ax i/\h.IsList ax ⟨vs⟩):=λA' hA=>hvs▸(Walks.list hA s2.heap.objs.size ax X1 ⟨vs⟩).mono_fp λb hb=>by
    rcases au.mp hb with rfl|hb
    ·exact AK _ Pf (Ne.symm Z7)
    ·rw[aA.mp hb]; exact AK _ (S4.lt (.inl g1)) (B2 _ _ g1)
   refine GenAt.freshD (cenv:=genEnv _ [] s4.heap.objs.size code cP env) hh hW0 (λ_=>true) (Fw ws) ?_ ?_ ?_ ?_ ?_ ⟨_,_,_,bC _ rfl,rfl,rfl,rfl⟩ (xQ ..) ?_ (pK.push _) ?_
   ·rfl
   ·rfl
   ·rfl
   ·intro hm; exact iL _ (aW.mp (bw.mp hm).1)
   ·refine⟨λA' E' i v sU m₂ _ _ _ _ _ _ _=>wpAny_tests_nil ⟨rfl,sU.heap,sU.toks,rfl,λ_ _ e=>e⟩,λA' E' i v sU m₂ hA X3 hun hPv _ wR hmx Ph=>?_⟩
    have X4:vs[i]? =some v:=by simpa using hPv
    obtain⟨d,EZ,hd2⟩:=g4.get' X4
    rw[av] at EZ
    obtain⟨p,hp,rfl⟩:=fm.mp EZ
    have old:∀b x,b≠env.locals->b≠s2.heap.objs.size->s4.heap.get? b=some x->sU.heap.get? b=some x:=λb x h1 h2 e=>Ph b (AK _ (bJ e) h1) (by simpa using h2) x (aH _ (wu b x e))
    refine dC (II X (f:=f2) (p:=p) hA ⟨?_,?_⟩ rfl rfl Z5 rfl rfl (λb x e=>old b x (B2 _ _ e) (bg (S2.lt (.inl e))) (S4.sub _ _ e)) S4.gQ S4.base wR hmx hd2 (hw p (bI hp)).1) (λy s' hy=>⟨?_,hy.2⟩) λ_ _ e=>e
    ·have:=mG.depth; have h2:A'.depth<=(A.deeper env).depth+1:=X3; exact aX 0x501008422ae2562441008455c4821 tt this h2
    ·have:=mG.units; have h2:A'.units<=(A.deeper env).units+8:=hun; exact aX 0x1b04021086f784aca88201086f784821 tt this h2
    ·obtain⟨t,e⟩:=hy.1; exact⟨p,t,hp,e⟩
   ·refine⟨⟨_,aH _ (wu _ _ Z6),rfl,rfl⟩,ol,aH _ (wu _ _ (S4.sub _ _ g1)),g2.1,nn,g3⟩
   ·exact W.B.nolimit _ λb x e=>aH _ (wu _ _ (S4.bT _ _ e))
  ·rw[Fx]; exact Jx _
  ·intro hm; have:=aW.mp (bw.mp hm).1; exact lH 0x50300843404021 tt (ah Fx.symm) this
  ·exact AK _ Pf (Ne.symm Z7)
  ·intro hm; simpa using (bw.mp hm).2
  ·exact bg Pg
  ·exact bg (by rw[Fx]; exact jy Pg)
  ·cases q:f2 2 with
   |none=>exact absurd q X2
   |some x=>exact AK _ (S4.lt (.inl q)) (B2 _ _ q)
  ·cases q:f2 2 with
   |none=>exact absurd q X2
   |some x=>exact bg (S4.lt (.inl q))
  ·cases q:f2 2 with
   |none=>exact absurd q X2
   |some x=>exact bg (S2.lt (.inl q))
  ·intro b hb
   rcases au.mp hb with rfl|hb
   ·exact bL _
   rcases au.mp hb with rfl|hb
   ·exact aX 1787244348417 tt (ah Fx.symm)
   ·have:=aW.mp (bw.mp hb).1; exact cG 0x28280421a020108441 tt (ah Fx.symm) this
  ·show Q v s7
   refine h v f2 s7 (l1.trans l2) ?_ hv
   refine Ft S4 (.refl _) S4.base lo (λb x hb e=>?_) ⟨ho,hdr⟩ ((XT.gq _).mpr (hgq.bare (JA ((XT.gq _).mp S4.gens) rfl)))
   refine hk b x ?_ (bg (bJ e)) ?_ (aH _ (wu b x e))
   ·rcases hb with q|q|q
    ·exact B2 _ _ q
    ·exact λe2=>by rw[e2,K5] at q; exact nomatch q
    ·exact λe2=>hLt (e2▸q)
   ·rcases hb with q|q|q
    ·exact bg (S2.lt (.inl q))
    ·exact bg (S2.lt (.inr (lo _ _ q)))
    ·exact bg (S2.jt q)
noncomputable abbrev L8:List Value:=[.ref 76, .type "Exception", .type "BaseException", .type "object"]
theorem Fy(self:Value):refuseLoop self "__setattr__" L8=pure ():=by
 rw[show L8= .ref 76::[.type "Exception", .type "BaseException", .type "object"] from rfl,refuseLoop_ref]
 kernel_rfl
section
open PySem.Builtin.ObjectAttr PySem.Builtin.Getset_descriptor
variable {W:Wd}{f o:Fz}{s:Shared}
theorem B3(W:Wd):∃cd,clsIn (KK W) 76=some cd/\cd.mro=L8/\cd.hasDict=true:=⟨_,rfl,rfl,rfl⟩
theorem y5{A:Around}{R:Result->Shared->Prop}{x:Addr}{ox:Obj}{od:Option Obj}{name:Str}{tk:Tok}{v:Value}(X:(KK W).In s.heap)(I:InstAt s.heap x ox 76 od)(ht:pY (KK W) 76 name=some none)
 (h:∀b,wpAny W.M A.in1 (storeInOwnDict (.ref x) (.ref 76) (.str name tk) name v b)
  (λfin s'=>match fin with| .done f=>R (.ok f) s'| .again c'=>c'.quiet=true/\eC W.M A c' R s') (λe s'=>R (.error e) s') s):
 eC W.M A (.call (.builtin "object.__setattr__") ⟨[.ref x, .str name tk,v],[]⟩) R s:=by
 have SF:=PySem.F.store_object
 obtain⟨cd,hc,ho,_⟩:=B3 W
 have sub:Looks W.M s.heap (isInstance (.ref x) (.type "object")) true:=I.type.andThen (looks_mroIn X (by unfold mroIn; rw[hc,jL,ho]; rfl))
 refine rM SF.slot.plain SF.entry (@check_slot W.M _ _ s "object.__setattr__" "object" "__setattr__" (.ref x) [.str name tk,v] [] _ SF.kind SF.split sub (SF.args (.ref x) (.str name tk) v) ?_)
 obtain⟨attr,ha,hr⟩:=Option.bind_eq_some_iff.mp ht
 have hm:Looks W.M s.heap (mroOf (.ref 76)) cd.mro:=(xU X hc).andThen .now
 have L3:Looks W.M s.heap (storeTaker? attr) none:=by
  cases attr with
  |none=>cases hr; exact .now
  |some a=>
   obtain⟨b,hb,ro⟩:=fm.mp hr
   refine(looks_takesIn X hb).andThen ?_
   cases b with
   |true=>exact nomatch ro
   |false=>exact .now
 rw[osa_eq,refuse_eq]
 refine aa (aa (I.type.here (aa (hm.here ?_))))
 rw[ho,Fy]
 refine ao (aa (I.type.here (aa ((hF X ha).here (aa (L3.here ?_))))))
 exact h _
theorem Pj{A:Around}{x:Addr}{ox:Obj}{name:Str}{v:Value}{E:Value->Shared->Prop}{Q:Unit->Shared->Prop}(X:(KK W).In s.heap)(I:InstAt s.heap x ox 76 none)(hd:ox.dict=none){vs:Array Value}(Z8:ox.data= .fields vs)(hs:findIn (KK W) (.ref 76) "__setattr__" =some (some (.builtin "object.__setattr__")))(ht:pY (KK W) 76 name=some none)
 (h:∀h' tk,h'.get? s.heap.objs.size=some (dictOf [⟨du W.w.params name, .str name tk,v⟩] 1)->h'.get? x=some {ox with dict:=some s.heap.objs.size}->(∀b y,b≠x->s.heap.get? b=some y->h'.get? b=some y)->Q () {s with heap:=h',toks:=s.toks+2}):
 wpAny W.M A (setAttr (.ref x) name v) Q E s:=by
 refine set_plain X I hs (y5 (s:={s with toks:=s.toks+1}) X I ht λb=>?_)
 obtain⟨cd,hc,ho,G9⟩:=B3 W
 obtain⟨hx,K2,hn,Lk⟩:=I
 obtain⟨oc,odi,oda,osl⟩:=ox
 dsimp only at K2 hd Z8
 subst K2 hd Z8
 have Z9:x<s.heap.objs.size:=bJ hx
 refine aa (ao (aa (aa (gJ hx (aa (xU X hc _ _ _ _ (λ_ _ e=>e) ?_))))))
 rw[G9,if_neg (by decide)]
 dsimp only
 rw[if_neg (by decide)]
 have Qv:=aH {cls:= .type "dict",data:= .dict #[]} hx
 refine aa (Jp (aa (wpAny_update Qv ?_)))
 unfold dictMade
 refine aa (ao (ao (a:=some s.heap.objs.size) ?_))
 refine aa (ao (aa ?_))
 have Dd:((s.heap.push {cls:= .type "dict",data:= .dict #[]}).update x λo=>{o with dict:=some s.heap.objs.size}).get? s.heap.objs.size=some (dictOf [] 0):=by
  rw[ct _ _ (bg Z9)]; exact bC _ rfl
 have Dx:=bK (λo=>{o with dict:=some s.heap.objs.size}) Qv rfl
 unfold nsSet
 refine aa (aa (pf (ao (aa (pX (aa (gJ Dd ?_)))))))
 have D':=bK (Dw name (du W.w.params name) (.str name (s.toks+1)) v) Dd (by rw[mz]; rfl)
 rw[mz] at D'
 have c:(!([]:List cz).toArray.any (·.key.isStr name)&&([]:List cz).toArray.any (·.refKey))=false:=by simp
 rw[show(dictOf [] 0).data= .dict ([]:List cz).toArray 0 from rfl]
 dsimp only
 rw[p7,c]
 refine xA Dd ?_
 refine aa (xC D' (xE (by rw[fe,bu]; show 1<=_; simp[*])) ?_)
 refine ao (h _ (s.toks+1) D' ?_ λb y hb e=>?_)
 ·rw[ct _ _ (gP Z9)]; exact Dx
 ·have hbs:s.heap.objs.size≠b:=gP (bJ e)
  rw[ct _ _ hbs,ct _ _ (Ne.symm hb)]
  exact aH _ e
end
section
open PySem.Builtin.ObjectAttr PySem.Builtin.Getset_descriptor
variable {W:Wd}{f o:Fz}{s:Shared}
theorem Pk{A:Around}{x dx:Addr}{ox:Obj}{es:List cz}{n:Nat}{name:Str}{v:Value}{E:Value->Shared->Prop}{Q:Unit->Shared->Prop}(X:(KK W).In s.heap)(I:InstAt s.heap x ox 76 (some (dictOf es n)))(hd:ox.dict=some dx)(hs:findIn (KK W) (.ref 76) "__setattr__" =some (some (.builtin "object.__setattr__")))(ht:pY (KK W) 76 name=some none)
 (hl:es.any (·.refKey)=false) (hz:(putL name (du W.w.params name) (.str name (s.toks+1)) v es).length<=1000)
 (h:∀h',h'.get? dx=some (dictOf (putL name (du W.w.params name) (.str name (s.toks+1)) v es) (putN name es n))->ft dx s.heap h'->Q () {s with heap:=h',toks:=s.toks+2}):
 wpAny W.M A (setAttr (.ref x) name v) Q E s:=by
 refine set_plain X I hs (y5 (s:={s with toks:=s.toks+1}) X I ht λb=>?_)
 obtain⟨cd,hc,ho,G9⟩:=B3 W
 obtain⟨hx,K2,hn,Lk⟩:=I
 obtain⟨oc,odi,oda,osl⟩:=ox
 dsimp only at K2 hd Lk
 subst K2 hd
 have Dd:s.heap.get? dx=some (dictOf es n):=Lk
 refine aa (ao (aa (aa (gJ hx (aa (xU X hc _ _ _ _ (λ_ _ e=>e) ?_))))))
 rw[G9]
 refine ao (a:=some dx) (aa (ao (aa ?_)))
 unfold nsSet
 refine aa (aa (pf (ao (aa (pX (aa (gJ Dd ?_)))))))
 have D':(s.heap.update dx (Dw name (du W.w.params name) (.str name (s.toks+1)) v)).get? dx=some (dictOf (putL name (du W.w.params name) (.str name (s.toks+1)) v es) (putN name es n)):=by
  rw[bK _ Dd (by rw[mz]; rfl),mz]
 have c:(!es.toArray.any (·.key.isStr name)&&es.toArray.any (·.refKey))=false:=by
  rw[show es.toArray.any (·.refKey)=false by simpa using hl,pE]
 rw[show(dictOf es n).data= .dict es.toArray n from rfl]
 dsimp only
 rw[p7,c]
 refine xA Dd ?_
 refine aa (xC D' (xE (by rw[fe,bu]; exact aN 0xfd890021a06108421094001 tt hz)) ?_)
 exact ao (h _ D' (dR ..))
theorem X5{A:Around}{x:Addr}{ox:Obj}{od:Option Obj}{name:Str}{v:Value}{expr:Bool}{E:Value->Shared->Prop}{Q:Value->Shared->Prop}(X:(KK W).In s.heap)(I:InstAt s.heap x ox 76 od)(hf:findObj (KK W) 76 od name=some (.value v))(hh:A6 v=true)
 (h:Q v {s with toks:=s.toks+1}):wpAny W.M A (gn (.ref x) name expr) Q E s:=by
 obtain⟨hp,g,d,t,os⟩:=s
 have L0:=I.type (M:=W.M)
 have L1:=hF (M:=W.M) X (show findIn (KK W) (.ref 76) "__getattribute__" =some (some (.builtin "BaseException.__getattribute__")) by kernel_rfl)
 have L2:=hF (M:=W.M) X (show findIn (KK W) (.ref 76) "__getattr__" =some none by kernel_rfl)
 have L3:=looks_find (M:=W.M) X I hf
 unfold gn getAttrBy
 refine aa (pX (aL (aa (L0.at (aa (L1.at ?_))))))
 show wpAny _ _ (getAttrByItsOwn _ _ _ _ _ _) _ _ _
 unfold getAttrByItsOwn hookBefore
 rw[if_pos (show onTheHeap (.ref 76)=true from rfl)]
 refine aa (L2.at (aa (sL (aL ?_))))
 unfold callGetattribute
 rw[if_neg (by cases expr<;>decide)]
 unfold boundAndCalled
 have FG:=PySem.F.excAttr_ValueError.ga
 rw[FG.bind (.ref x)]
 refine aa (ao ?_)
 obtain⟨cd,hc,ho,_⟩:=B3 W
 have sub:Looks W.M hp (isInstance (.ref x) (.type "BaseException")) true:=I.type.andThen (looks_mroIn X (by unfold mroIn; rw[hc,jL,ho]; rfl))
 refine fQ (rM FG.plain PySem.F.entry_bexc_ga (@check_slot W.M _ _ ⟨hp,g,d,t+1,os⟩ "BaseException.__getattribute__" "BaseException" "__getattribute__" (.ref x) [.str name t] [] _ (by decide+kernel) (by decide+kernel) sub (PySem.F.args_bexc_ga (.ref x) (.str name t)) ?_))
 show wpAny _ _ (do
  let tp <-typeOf (.ref x)
  match <-find (.ref x) tp name with
  | .value v=>ret v
  | .bind g a=>bindTo g a (.ref x) tp
  | .missing=>_) _ _ _
 refine aa (L0.at (aa (L3.at ?_)))
 refine ao ?_
 show wpAny _ _ (handedOut v) _ _ _
 rw[handedOut_of hh]; exact ao h
end
noncomputable abbrev cC(t:Addr)(dd:Option Addr)(tb:Value):Obj:={cls:= .ref 76,dict:=dd,data:= .fields #[.ref t,tb, .none, .none, .bool false, .none]}
theorem xh(W:Wd):∃k0 k1 k2 k3 k5 IL sn sub ab col dd,(KK W).lookup 76=some (excClassObj "NannyNag" "NannyNag" 76 75 [.type "Exception"] [.type "Exception", .type "BaseException", .type "object"] IL sn sub ab col dd k0 k1 k2 k3 k5 "Exception.__new__"):=⟨_,_,_,_,_,_,_,_,_,_,_,rfl⟩
section
variable {W:Wd}{f o:Fz}{s:Shared}
theorem L9{A:Around}{R:Result->Shared->Prop}{rest:List Value}(X:(KK W).In s.heap)(hr:rest.length<=10)
 (hq:eC W.M (A.under (.builtin "type.__call__" ⟨.ref 76::rest,[]⟩)) (.call (.ref 52) ⟨.ref (s.heap.objs.size+1)::rest,[]⟩) (InitBack (s.heap.objs.size+1) R)
  {s with heap:=(s.heap.push {cls:= .type "tuple",data:= .seq rest.toArray}).push (cC s.heap.objs.size none .none)}):
 eC W.M A (.call (.ref 76) ⟨rest,[]⟩) R s:=by
 obtain⟨h,g,d,t,os⟩:=s
 have F:=PySem.F.excBase_Exception
 obtain⟨k0,k1,k2,k3,k5,IL,sn,sub,ab,col,dd,yD⟩:=xh W
 have hC:=X _ _ yD
 have hi:=hF (M:=W.M) X (show findIn (KK W) (.ref 76) "__init__" =some (some (.ref 52)) by kernel_rfl)
 have hb:=λself=>bind_fn (M:=W.M) X self (show typeIn (KK W) (.ref 52)=some (.type "function") by kernel_rfl)
 have iq:rest.length<=lg:=by rw[bu]; exact aN 0x3a0084308421084801 tt hr
 have f1:=tc_lookup
 have f2:=tc_bind (.ref 76)
 have hT:(⟨h,g,d,t,os⟩:Shared).TypeIs (.ref 76) "type":=⟨_,hC,rfl⟩
 refine gk ?_
 show wpAny _ _ (callAny (.ref 76) _) _ _ _
 repeat (any_goals (first|assumption|with_reducible refine kb hC ?_ |wp_step))
 refine⟨rfl,?_⟩
 refine codeAny_call_builtin_at (D1 _ (by decide+kernel)) entry_typeCall (wpAny_check_type_call_sub hC ?_)
 repeat (first|with_reducible refine kb hC ?_ |with_reducible refine wpAny_madeBy_exc hC ?_ |wp_step)
 refine codeAny_call_builtin_code (D1 _ F.quiet) (wpAny_check_new_sub F hC ?_)
 refine codeAny_exc_new_sub F hC ?_ iq
 show wpAny _ _ _ _ _ _
 have k:∀b o,h.get? b=some o->((h.push {cls:= .type "tuple",data:= .seq rest.toArray}).push (cC h.objs.size none .none)).get? b=some o:=λb o e=>aH _ (aH _ e)
 have J7:=k _ _ hC
 have IM:((h.push {cls:= .type "tuple",data:= .seq rest.toArray}).push (cC h.objs.size none .none)).get? (h.objs.size+1)=some (cC h.objs.size none .none):=by heap_get
 have Qu:(kZ 76::[.type "Exception", .type "BaseException", .type "object"]).contains (.ref 76)=true:=by simp
 unfold isInstance
 repeat (first|with_reducible refine kb IM ?_ |(with_reducible refine sr J7 ?_; rw[Qu])|wp_step)
 show wpAny _ _ (isSubtype (.ref 76) (.ref 76)) _ _ _
 refine sr J7 ?_
 rw[Qu]
 have t1:Looks W.M ((h.push {cls:= .type "tuple",data:= .seq rest.toArray}).push (cC h.objs.size none .none)) (typeOf (.ref (h.objs.size+1))) (.ref 76):=(Looks.ld IM).andThen .now
 have i1:=hi.keeps k
 have b1:=(hb (.ref (h.objs.size+1))).keeps k
 rw[if_neg (by decide)]
 refine aa (aL ?_)
 show wpAny _ _ (callSpecial? (.ref (h.objs.size+1)) "__init__" rest []) _ _ _
 refine aa (aa (t1.at (i1.at (aL (aa (b1.at (aa (fQ (codeAny_mono hq λr s' z=>?_)))))))))
 rcases r with e|(v|_|_|_)<;>first|exact z|exact z.elim|skip
 obtain⟨rfl,z⟩:=z
 exact ao (ao z)
end
section
variable {W:Wd}{C:Cx}{ρ:Ro}{names:List (Str×aC)}{f o:Fz}{s:Shared}
theorem Pl{h:Heap}{e t:Addr}{tb:Value}(he:h.get? e=some (cC t none tb)):uQ h e (cC t none tb) 76 none:=⟨he,rfl,rfl,trivial⟩
theorem FA{h:Heap}{e t dx:Addr}{tb:Value}{x:Obj}(he:h.get? e=some (cC t (some dx) tb))(hd:h.get? dx=some x):uQ h e (cC t (some dx) tb) 76 (some x):=⟨he,rfl,rfl,hd⟩
theorem Pm(X:cH W)(K:CK C names){self attr:Str}{p1 pos:Pos}{e t:Addr}{tb:Value}{d:D}{v:Value}{Q:Unit->Shared->Prop}{E:Value->Shared->Prop}(LI:(self,Bd.val (.raw (.ref e)))∈ρ)(h1:(self==("__debug__" :Str))=false)(h2:(self==("__classdict__" :Str))=false)
 (hs:findIn (KK W) (.ref 76) "__setattr__" =some (some (.builtin "object.__setattr__"))) (ht:pY (KK W) 76 attr=some none) (S:St W.B f o s) (H:bc C ρ f o) (he:o e=some (cC t none tb)) (hd:Den f d v)
 (h:∀f' dx es n s',f.le f'->o dx=none->dx≠e->St W.B f' ((o.put e (cC t (some dx) tb)).put dx (dictOf es n)) s'->eY f' [(attr,d)] es->Q () s'):wpAny W.M C.A (assign (.Attribute (.Name self p1) attr pos) C.env v) Q E s:=by
 rw[xG]
 refine aa (aL ((nm K LI h1 h2).un f o s S H _ _ λu f1 s1 l1 S1 d1=>aa (aZ (aa (aL ?_)))))
 obtain rfl:u= .ref e:=d1
 have Ma:=S1.own _ _ he
 refine Pj (X.sF S1) (Pl Ma) rfl rfl hs ht λh' tk g1 g2 g3=>?_
 refine A0 (h f1 s1.heap.objs.size [⟨du W.w.params attr, .str attr tk,v⟩] 1 _ l1 S1.eZ (gP (bJ Ma)) ?_ ⟨_,_,_,_,rfl,hd.mono l1,rfl⟩)
 have hf0:=S1.gQ
 have Mb:=S1.fu he
 have hde:s1.heap.objs.size≠e:=gP (bJ Ma)
 refine⟨λa x q=>g3 a x (λz=>by subst z; exact iB Mb q) (S1.sub a x q),λa x q=>?_,λa x q=>?_,S1.base,λc hc=>?_,λc hc=>⟨(S1.fo c hc).1,?_⟩,S1.os,S1.gens⟩
 ·by_cases z:a=s1.heap.objs.size
  ·subst z; cases nJ (Fz.aJ ..) q; exact g1
  ·rw[Fz.az z] at q
   by_cases z2:a=e
   ·subst z2; cases nJ (Fz.aJ ..) q; exact g2
   ·rw[Fz.az z2] at q; exact g3 a x z2 (S1.own a x q)
 ·have z:a≠s1.heap.objs.size:=λz=>by subst z; exact iB hf0 q
  have z2:a≠e:=λz=>by subst z; exact iB Mb q
  rw[Fz.az z,Fz.az z2]; exact S1.apart a x q
 ·obtain⟨m,hm,hq⟩:=S1.tab c hc
  exact⟨m,g3 _ _ (λz=>S1.iG (.inr he) (z▸hc)) hm,hq⟩
 ·have JL:c≠e:=λz=>S1.iG (.inr he) (z▸hc)
  rw[Fz.az (bg (S1.jt hc)),Fz.az JL]; exact(S1.fo c hc).2
theorem J8(X:cH W)(K:CK C names){self attr:Str}{p1 pos:Pos}{e t dx:Addr}{tb:Value}{d:D}{v:Value}{fs:List (Str×D)}{es:List cz}{n:Nat}{Q:Unit->Shared->Prop}{E:Value->Shared->Prop}(LI:(self,Bd.val (.raw (.ref e)))∈ρ)(h1:(self==("__debug__" :Str))=false)(h2:(self==("__classdict__" :Str))=false)
 (hs:findIn (KK W) (.ref 76) "__setattr__" =some (some (.builtin "object.__setattr__"))) (ht:pY (KK W) 76 attr=some none) (hz:(ry attr d fs).length<=1000) (S:St W.B f o s) (H:bc C ρ f o) (he:o e=some (cC t (some dx) tb)) (yL:o dx=some (dictOf es n)) (EE:eY f fs es) (hd:Den f d v)
 (h:∀f' es n s',f.le f'->St W.B f' (o.put dx (dictOf es n)) s'->eY f' (ry attr d fs) es->Q () s'):wpAny W.M C.A (assign (.Attribute (.Name self p1) attr pos) C.env v) Q E s:=by
 rw[xG]
 refine aa (aL ((nm K LI h1 h2).un f o s S H _ _ λu f1 s1 l1 S1 d1=>aa (aZ (aa (aL ?_)))))
 obtain rfl:u= .ref e:=d1
 have Mc:=EE.mono l1
 refine Pk (X.sF S1) (FA (S1.own _ _ he) (S1.own _ _ yL)) rfl hs ht (Mc.find (name:=attr)).2.2 (by rw[(eY.put (hd.mono l1) Mc).len]; exact hz) λh' g1 g2=>?_
 exact A0 (h f1 _ _ _ l1 ((S1.tok (s1.toks+2)).same yL g2 g1) (eY.put (hd.mono l1) Mc))
end
noncomputable abbrev iX:List (Str×aC):=[(J "self",ae),(J "lineno",ae),(J "msg",ae),(J "line",ae)]
noncomputable abbrev IP(d1 d2 d3:D):List (Str×D):=[(J "lineno",d1),(J "msg",d2),(J "line",d3)]
theorem ae3{a b c:Expr}{x y z:Str}{p1 p2 p3:Pos}{env:Env}:bk [.Attribute a x p1, .Attribute b y p2, .Attribute c z p3] env=[(false,bE (.Attribute a x p1) env),(false,bE (.Attribute b y p2) env),(false,bE (.Attribute c z p3) env)]:=rfl
theorem AM{a b c:Expr}{x y z:Str}{p1 p2 p3 tp vp q1 q2 q3:Pos}{k k2:Nat}{n1 n2 n3:Str}{env:Env}:cS [.Tuple [.Attribute a x p1, .Attribute b y p2, .Attribute c z p3] k tp] (.Tuple [.Name n1 q1, .Name n2 q2, .Name n3 q3] k2 vp) env=pure none:=by
 unfold cS
 exact qw λ_=>qw λ_=>if_pos rfl
section
variable {W:Wd}{f o:Fz}{s:Shared}
theorem IQ(X:cH W){A:Around}(lv:Lv 3 A)(S:St W.B f o s){d1 d2 d3:D}{vs:List Value}(hd:bQ f [d1,d2,d3] vs){Q:Value->Shared->Prop}{E:Value->Shared->Prop}
 (h:∀e t dx es n f' s',f.le f'->o e=none->f' e=none->St W.B f' (o.put e (cC t (some dx) .none)) s'->f' dx=some (dictOf es n)->eY f' (IP d1 d2 d3) es->Q (.ref e) s'):wpAny W.M A (call (.ref 76) vs []) Q E s:=by
 have Pn:=hd
 obtain⟨v1,r,rfl,h1,v2,r2,rfl,h2,v3,r3,rfl,h3,h4⟩:=hd
 obtain rfl:r3=[]:=h4
 have LJ:Lv 2 (A.under (.builtin "type.__call__" ⟨.ref 76::[v1,v2,v3],[]⟩)):=by
  have e:(A.under (.builtin "type.__call__" ⟨.ref 76::[v1,v2,v3],[]⟩)).units<=A.units+10:=by
   first
    |exact gx (n:=A.units) (k:=10)
    |exact cB (n:=1) (m:=10) (by(first|lia|omega)) A.units
    |exact cB (n:=2) (m:=10) (by(first|lia|omega)) A.units
    |exact cB (n:=3) (m:=10) (by(first|lia|omega)) A.units
  exact⟨by have:=lv.depth; show A.depth+1+4*2<=600; exact aN 0xab8958910402115712a923404201 tt this,by have:=lv.units; exact aX 0x1bde12b2a218043d0c001086f784aaa88201 tt e this,lv.hand⟩
 have S1:St W.B f o {s with heap:=s.heap.push {cls:= .type "tuple",data:= .seq [v1,v2,v3].toArray}}:=S.more (λb x e=>aH _ e) ⟨rfl,rfl⟩ S.gens
 have S2:=S1.gV (cC s.heap.objs.size none .none)
 have fB:(s.heap.push {cls:= .type "tuple",data:= .seq [v1,v2,v3].toArray}).objs.size=s.heap.objs.size+1:=cZ ..
 have Qw:o (s.heap.objs.size+1)=none:=fB▸S1.eZ
 have Mb:f (s.heap.objs.size+1)=none:=fB▸S1.gQ
 rw[show({s with heap:=s.heap.push {cls:= .type "tuple",data:= .seq [v1,v2,v3].toArray}}:Shared).heap.objs.size=s.heap.objs.size+1 from fB] at S2
 generalize hE:s.heap.objs.size+1=e at*
 refine fQ (L9 (X.sF S) (by simp) ?_)
 rw[hE]
 generalize A.under (.builtin "type.__call__" ⟨.ref 76::[v1,v2,v3],[]⟩)=A' at LJ ⊢
 refine X.code (P:=λ_=>True) 52 (n:=1) (ps:=["self","lineno","msg","line"]) (ds:=[.raw (.ref e),d1,d2,d3]) (ρ:=[("self", .val (.raw (.ref e))),("lineno", .val d1),("msg", .val d2),("line", .val d3)]) (names:=iX) LJ ⟨_,rfl,rfl⟩ rfl (by kernel_rfl) rfl rfl (by kernel_rfl) rfl rfl rfl rfl rfl (by kernel_rfl) (by kernel_rfl) (λQ E k=>?_) ?_ S2 λf1 env dr cU _ l1 lo jf H mG sd hm=>?_
 ·have eb:eQ (cm (KK W) 52) ⟨[.ref e,v1,v2,v3],[]⟩=pure [(J "self", .ref e),(J "lineno",v1),(J "msg",v2),(J "line",v3)]:=by kernel_rfl
  show wpAny _ _ (eQ (cm (KK W) 52) ⟨[.ref e,v1,v2,v3],[]⟩) Q E _
  rw[eb]
  exact ao (k [.ref e,v1,v2,v3] f _ (.refl f) S2 (.cons rfl Pn) trivial)
 ·show kj [(_,_),(_,_),(_,_),(_,_)] _ _
  exact qY
 ·have K:CK ⟨env,A'.deeper env,iX⟩ iX:=⟨H.ok,mG.hand,rfl⟩
  refine gK (i0 ((tup (ac (nm K) (ac (nm K) (a1 (nm K)))):VE W ⟨env,_,iX⟩ _ _ (.tup [d1,d2,d3])).un f1 dr cU jf H _ _ λv f2 s2 l2 S2 dv=>?_) rfl AM)
  rw[yE]
  have Ma:dr e=some (cC s.heap.objs.size none .none):=lo _ _ (Fz.aJ ..)
  have nU:∀a x,(o.put e (cC s.heap.objs.size none .none)) a=some x->∀b,b=a->¬Uses ⟨env,A'.deeper env,iX⟩ [("self", .val (.raw (.ref e))),("lineno", .val d1),("msg", .val d2),("line", .val d3)] b:=λa x hx b hb hu=>by
   subst hb
   rcases hu with hu|⟨n,u,r,hr,_⟩
   ·rcases hu with hu|⟨n,hn,hk,hl⟩
    ·exact iB (hm b (.inl hu)) hx
    ·have rk:∀n,n∈[J "self",J "lineno",J "msg",J "line"]->env.kindOf n=some .local:=λn hn=>by
      simp only[au,bo,or_false] at hn
      rcases hn with rfl|rfl|rfl|rfl
      ·exact K.ok.kinds _ _ (.head _) (by decide)
      ·exact K.ok.kinds _ _ (.tail _ (.head _)) (by decide)
      ·exact K.ok.kinds _ _ (.tail _ (.tail _ (.head _))) (by decide)
      ·exact K.ok.kinds _ _ (.tail _ (.tail _ (.tail _ (.head _)))) (by decide)
     have oX:env.kindOf n=some .cell\/env.kindOf n=some .free:=hk
     rw[rk n hn] at oX
     rcases oX with q|q<;>exact nomatch q
   ·simp at hr
  have nUe:=nU e _ (Fz.aJ ..) e rfl
  show wpAny _ _ (bE (.Tuple [_,_,_] _ _) env v) _ _ _
  rw[arm_assign_Tuple]
  refine aa (aZ ?_)
  unfold unpack
  rw[ae3]
  refine aa (aL (lI (C:=⟨env,A'.deeper env,iX⟩) mG.hand S2 (ds:=[d1,d2,d3]) (.inl rfl) dv rfl λus s3 S3 ds3=>?_))
  obtain⟨u1,r,rfl,du1,u2,r2,rfl,du2,u3,r3,rfl,du3,h4⟩:=ds3
  obtain rfl:r3=[]:=h4
  refine aa (aL (Pm (ρ:=[("self", .val (.raw (.ref e))),("lineno", .val d1),("msg", .val d2),("line", .val d3)]) X K (.head _) (by decide+kernel) (by decide+kernel) (by kernel_rfl) (by kernel_rfl) S3 (H.mono l2 (.refl _)) Ma du1 λf4 dx es4 n4 s4 l4 yL uk S4 X6=>?_))
  have H4:bc ⟨env,A'.deeper env,iX⟩ [("self", .val (.raw (.ref e))),("lineno", .val d1),("msg", .val d2),("line", .val d3)] f4 ((dr.put e (cC s.heap.objs.size (some dx) .none)).put dx (dictOf es4 n4)):=by
   have X7:¬Uses ⟨env,A'.deeper env,iX⟩ [("self", .val (.raw (.ref e))),("lineno", .val d1),("msg", .val d2),("line", .val d3)] dx:=λhu=>by
    obtain⟨x,hx⟩:=H.there hu
    exact iB yL hx
   exact((H.mono (l2.trans l4) (.refl _)).put nUe).put X7
  refine aa (aL (J8 (t:=s.heap.objs.size) (tb:= .none) (ρ:=[("self", .val (.raw (.ref e))),("lineno", .val d1),("msg", .val d2),("line", .val d3)]) X K (.head _) (by decide+kernel) (by decide+kernel) (by kernel_rfl) (by kernel_rfl) (aP (oy _ _ _) (by simp)) S4 H4 ?_ (Fz.aJ ..) X6 (du2.mono l4) λf5 es5 n5 s5 l5 S5 X8=>?_))
  ·rw[Fz.az (Ne.symm uk)]; exact Fz.aJ ..
  have H5:=H4.mono l5 (.refl _)
  have X7:¬Uses ⟨env,A'.deeper env,iX⟩ [("self", .val (.raw (.ref e))),("lineno", .val d1),("msg", .val d2),("line", .val d3)] dx:=λhu=>by
   obtain⟨x,hx⟩:=H.there hu
   exact iB yL hx
  refine aa (aL (J8 (t:=s.heap.objs.size) (tb:= .none) (ρ:=[("self", .val (.raw (.ref e))),("lineno", .val d1),("msg", .val d2),("line", .val d3)]) X K (.head _) (by decide+kernel) (by decide+kernel) (by kernel_rfl) (by kernel_rfl) (aP (oy _ _ _) (aP (kf (oy _ _ _)) (by simp))) S5 (H5.put X7) ?_ (Fz.aJ ..) X8 (du3.mono (l4.trans l5)) λf6 es6 n6 s6 l6 S6 X9=>?_))
  ·rw[Fz.az (Ne.symm uk),Fz.az (Ne.symm uk)]; exact Fz.aJ ..
  refine ao (jm ?_)
  refine⟨rfl,?_⟩
  have S7:=S6.freeze (Fz.aJ ..)
  show Q (.ref e) s6
  refine h e s.heap.objs.size dx es6 n6 _ s6 (((l1.trans l2).trans l4).trans ((l5.trans l6).trans (Fz.bP (S6.fu (Fz.aJ ..))))) Qw ?_ (S7.drop λa x hx=>?_) (Fz.aJ ..) (X9.mono (Fz.bP (S6.fu (Fz.aJ ..))))
  ·rw[Fz.az (Ne.symm uk)]
   refine S6.fu (x:=cC s.heap.objs.size (some dx) .none) ?_
   rw[Fz.az (Ne.symm uk),Fz.az (Ne.symm uk),Fz.az (Ne.symm uk)]; exact Fz.aJ ..
  ·by_cases z:a=e
   ·subst z
    cases nJ (Fz.aJ ..) hx
    unfold Fz.del
    rw[if_neg (Ne.symm uk),Fz.az (Ne.symm uk),Fz.az (Ne.symm uk),Fz.az (Ne.symm uk)]; exact Fz.aJ ..
   ·rw[Fz.az z] at hx
    have h1:dr a=some x:=lo _ _ (by rw[Fz.az z]; exact hx)
    have z2:a≠dx:=λq=>by rw[q,yL] at h1; exact nomatch h1
    unfold Fz.del
    rw[if_neg z2,Fz.az z2,Fz.az z2,Fz.az z2,Fz.az z]; exact h1
theorem xi(X:cH W)(a:Addr){attr:Str}{p1 p2 p3:Pos}{A:Around}{e t dx:Addr}{tb:Value}{es:List cz}{n:Nat}{fs:List (Str×D)}{d:D}{Q:Value->Shared->Prop}{E:Value->Shared->Prop}
 (yD:∃ob,(KK W).lookup a=some ob/\ob.data= .func (cm (KK W) a)) (ip:(cm (KK W) a).body= .stmts [.Return (some (.Attribute (.Name (J "self") p1) attr p2)) p3]) (lx:codeIn (KK W) (cm (KK W) a).code (cm (KK W) a).qualname=true) (n0:(cm (KK W) a).closure=[])
 (fx:(cm (KK W) a).scope.names=[(J "self",ae)]) (hk:(cm (KK W) a).scope.kind= .function) (hg:(cm (KK W) a).globals=bV) (hb:(cm (KK W) a).builtins=cP)
 (wZ:(cm (KK W) a).scope.isCoroutine=false) (n7:(cm (KK W) a).scope.isGenerator=false) (jP:∀v,eQ (cm (KK W) a) ⟨[v],[]⟩=pure [(J "self",v)])
 (C1:findIn (KK W) (.ref 76) attr=some none) (IF:A.depth<=590) (MQ:A.units<=5990) (S:St W.B f o s) (he:f e=some (cC t (some dx) tb)) (yL:f dx=some (dictOf es n)) (EE:eY f fs es) (hd:fs.lookup attr=some d) (JU:∀u,d≠ .raw u)
 (h:∀v f' s',f.le f'->St W.B f' o s'->Den f' d v->Q v s'):wpAny W.M A (call (.ref a) [.ref e]) Q E s:=by
 obtain⟨ob,k1,k2⟩:=yD
 have m9:decide ([J "self"]:List Str).Nodup=true:=by decide+kernel
 refine fQ (yO (P:=λ_=>True) (ps:=[J "self"]) (ds:=[.raw (.ref e)]) (ρ:=[(J "self", .val (.raw (.ref e)))]) (X.sj _ _ k1) k2 (λh hB=>A9 (K:=KK W) (λb x e=>hB _ _ (X.sj _ _ e)) lx) ip n0 (by show A.depth<1000; exact aN 0xa9e900211fb12a0201 tt IF) (λQ E k=>?_) ?_ (of_decide_eq_true m9) (by rw[fx]; exact of_decide_eq_true m9) ?_ hk hg hb (λenv=>⟨?_,?_⟩) wZ n7 S λf1 env dr cU _ l1 lo jf H sA sd hm=>?_)
 ·rw[jP]
  exact ao (k [.ref e] f s (.refl f) S (.cons rfl .nil) trivial)
 ·rw[fx]
  show kj [(_,_)] _ _
  exact qY
 ·intro m hm
  rw[fx]
  rw[aA.mp hm]
  exact .inl (.head _)
 ·show A.depth+1<=600; exact aN 0xa9e9002115712a0201 tt IF
 ·show A.units+3<=6000; exact aN 0x1bdad200421bde12b0201 tt MQ
 ·refine gK (nO (Bl (eg.name H.ok (n:=J "self") (d:= .raw (.ref e)) (.head _) (by decide+kernel) (by decide+kernel) f1 dr cU jf H _ _ λv f2 s2 l2 S2 d2=>?_) rfl))
  obtain rfl:v= .ref e:=d2
  have Qx:=l1.trans l2
  obtain⟨w,HG,hw2⟩:=((EE.mono Qx).find (name:=attr)).1 d hd
  refine X5 (X.sF S2) (FA (S2.sub _ _ (Qx _ _ he)) (S2.sub _ _ (Qx _ _ yL))) (xV (by kernel_rfl) C1 rfl HG) (handed hw2 JU) ?_
  exact h w f2 _ Qx ((S2.drop lo).tok _) hw2
end
theorem IS:Manifest.canonical "BaseException.__getattribute__" = "object.__getattribute__":=by decide+kernel
section
variable {W:Wd}{f o:Fz}{s:Shared}
theorem FC(X:cH W){fn:Addr}{name:Str}{A:Around}{e t dx:Addr}{tb:Value}{es:List cz}{n:Nat}{fs:List (Str×D)}{pl:Sem Bool}{Q:Value×List Value->Shared->Prop}{E:Value->Shared->Prop}
 (hf:findIn (KK W) (.ref 76) name=some (some (.ref fn))) (ht:isFn (KK W) (.ref fn)=true) (S:St W.B f o s) (he:f e=some (cC t (some dx) tb)) (yL:f dx=some (dictOf es n)) (EE:eY f fs es) (hl:fs.lookup name=none) (h:Q (.ref fn,[.ref e]) s):wpAny W.M A (xF (.ref e) name pl) Q E s:=by
 obtain⟨hp,g,d,t0,os⟩:=s
 have X':=X.sF S
 have I:uQ hp e (cC t (some dx) tb) 76 (some (dictOf es n)):=FA (S.sub _ _ he) (S.sub _ _ yL)
 have L0:=I.type (M:=W.M)
 have L1:=hF (M:=W.M) X' (show findIn (KK W) (.ref 76) "__getattribute__" =some (some (.builtin "BaseException.__getattribute__")) by kernel_rfl)
 have L2:=hF (M:=W.M) X' (show findIn (KK W) (.ref 76) "__getattr__" =some none by kernel_rfl)
 have L3:=hF (M:=W.M) X' hf
 have L4:=looks_typeIn (M:=W.M) X' (v:= .ref fn) (t:= .type "function") (beq_iff_eq.mp ht)
 have h1:=(EE.find (name:=name)).2.1 hl
 have Yb:=IS
 unfold xF specialOf
 refine aa (aa (L0.at (L1.at ?_)))
 dsimp only
 rw[Yb,if_neg (by decide)]
 refine aa (aa (L0.at (L2.at ?_)))
 refine aa (aa (L0.at (L3.at (aa (L4.at ?_)))))
 rw[if_neg (by decide+kernel)]
 refine aa (gJ I.at_ ?_)
 refine aa (aa (gJ (S.sub _ _ yL) ?_))
 rw[nsLook_of (show lookIn name (dictOf es n)=some none from h1)]
 refine ao ?_
 exact aa (mY (ao h))
end
section
open PySem.Heap
variable {M:Model}{A:Around}{s:Shared}
theorem FD{env:Env}{outer:List Env}{L e t dx:Addr}{Q:Unit->Shared->Prop}{E:Value->Shared->Prop}(FE:A.frames=some (env::outer))(hl:s.heap.FunFrames {} (env::outer))(hf:env.frame=some L)(he:s.heap.get? e=some (cC t (some dx) .none))
 (h:∀h' T,h'.get? e=some (cC t (some dx) (.ref T))->s.heap.get? T=none->T≠e->(∃oT ts,h'.get? T=some oT/\oT.data= .fields ts/\3<ts.size)->(∀b x,b≠e->b∉(env::outer).filterMap (·.frame)->s.heap.get? b=some x->h'.get? b=some x)->
  (∀b x,b≠e->s.heap.get? b=some x->∃sl,h'.get? b=some {x with slots:=sl})->Q () {s with heap:=h'}):
 wpAny M A (iK (.ref e) env) (λ_ s2=>wpAny M A (DO (.ref e) none) Q E s2) E s:=by
 have hd:(cC t (some dx) .none).data= .fields #[.ref t, .none, .none, .none, .bool false, .none]:=rfl
 unfold iK
 simp only[hf]
 refine aa (dD he hd (x:= .none) rfl ?_)
 rw[if_neg (by decide)]
 have Yc:e∉(env::outer).filterMap (·.frame):=λhm=>by
  obtain⟨_,o,ho,hnf⟩:=hl.mem hm
  rw[he] at ho; injection ho with ho; subst ho; exact hnf _ hd
 refine aa (wpAny_frameOf_fun FE hl hf λgd iQ=>?_)
 refine aa (wpAny_entryPlaceOf λpl jl=>?_)
 unfold EntryCells.newEntry newFields
 refine aa (nN ?_ (jl.sizeOk5 _ _ _ _ _))
 have J9:gd.get? e=some (cC t (some dx) .none):=(iQ.2.1 e Yc).trans he
 generalize hTo:({cls:= .type "traceback",dict:=none,data:= .fields ([d7, .ref L, .none,rawInt L, .none]++(if pl.isEmpty then bf 6 d7 else pl)).toArray}:Obj)=To
 have Qy:To.data= .fields ([d7, .ref L, .none,rawInt L, .none]++(if pl.isEmpty then bf 6 d7 else pl)).toArray:=by rw[<-hTo]
 have hTf:To.isFreed=false:=Cs Qy
 have Bq:=aH (h:=gd) To J9
 refine AZ Bq hd (by simp) ?_
 have Yd:gd.objs.size≠e:=gP (bJ J9)
 have Ka:=bK (qZ (·.setIfInBounds 1 (kZ gd.objs.size))) Bq rfl
 have Kb:=(ct (gd.push To) (qZ (·.setIfInBounds 1 (kZ gd.objs.size))) (Ne.symm Yd)).trans (bC gd hTf)
 unfold DO
 refine aa (dD Ka (x:= .ref gd.objs.size) rfl rfl ?_)
 rw[if_pos (show(kZ gd.objs.size != d7)=true from by simp)]
 refine AZ Kb Qy (by simp only[fe,a8,aQ,ff]<;>exact aN 0xa5294a4e1084210a5a01 tt) ?_
 have keep:∀b o,b≠e->gd.get? b=some o->(((gd.push To).update e (qZ (·.setIfInBounds 1 (kZ gd.objs.size)))).update gd.objs.size (qZ (·.setIfInBounds 3 ((none:Option Addr).elim d7 λf=>rawInt f)))).get? b=some o:=λb o hbe hb=>by
  have hbT:gd.objs.size≠b:=gP (bJ hb)
  rw[ct _ _ hbT,ct _ _ (Ne.symm hbe)]
  exact aH _ hb
 refine h _ gd.objs.size ?_ ?_ Yd ⟨_,_,bK _ Kb (Cs (GR Qy _)),GR Qy _,?_⟩ (λb x hb hn hx=>keep b x hb ((iQ.2.1 b hn).trans hx)) λb x hb hx=>?_
 ·rw[ct _ _ Yd]; exact Ka
 ·refine none_of λx q=>?_
  obtain⟨sl,hs⟩:=iQ.2.2 _ _ q
  exact absurd (bJ hs) (iL _)
 ·simp only[Array.size_setIfInBounds,fe,a8,aQ,ff]; (first|lia|omega)
 ·obtain⟨sl,hs⟩:=iQ.2.2 b x hx
  exact⟨sl,keep b _ hb hs⟩
end
section
variable {W:Wd}{f o:Fz}{s:Shared}
theorem x_raise{A:Around}{env:Env}{x:Sem Value}{Q:Flow->Shared->Prop}{E:Value->Shared->Prop}(hh:A.handled=none)
 (h:wpAny W.M A x (λv cU=>∃e t dx,v= .ref e/\(KK W).In cU.heap/\cU.heap.get? e=some (cC t (some dx) .none)/\E (.ref e) cU) E s):wpAny W.M A (raiseStmt env (some x) none) Q E s:=by
 unfold raiseStmt
 refine aa (dC h (λv cU gd=>?_) λ_ _ x=>x)
 obtain⟨e,t,dx,rfl,X,he,hE⟩:=gd
 obtain⟨k0,k1,k2,k3,k5,IL,sn,sub,ab,col,dd,yD⟩:=xh W
 have hC:=X _ _ yD
 have hcB:(kZ 76::[.type "Exception", .type "BaseException", .type "object"]).contains (.type "BaseException")=true:=by decide
 obtain⟨hp,g,d,tk,os⟩:=cU
 repeat (first|with_reducible refine kb he ?_ |with_reducible refine kb hC ?_ |(with_reducible refine sr hC ?_; rw[hcB])|wp_step)
 exact wpAny_raiseNew_none hh hE
theorem IT{A:Around}{env:Env}{c:Expr}{pos:Pos}{Q:Flow->Shared->Prop}{E:Value->Shared->Prop}(hh:A.handled=none)
 (h:wpAny W.M A (eval c env) (λv cU=>∃e t dx,v= .ref e/\(KK W).In cU.heap/\cU.heap.get? e=some (cC t (some dx) .none)/\E (.ref e) cU) E s):wpAny W.M A (exec (.Raise (some c) none pos) env) Q E s:=by
 rw[arm_exec_Raise]
 refine aa (aZ (x_raise hh ?_))
 exact aa (dC h (λv cU gd=>aa (aZ (ao gd))) λ_ _ x=>x)
theorem IU{A:Around}{e t dx:Addr}{tb:Value}{Q:Bool->Shared->Prop}{E:Value->Shared->Prop}(X:(KK W).In s.heap)(he:s.heap.get? e=some (cC t (some dx) tb))(h:Q true s):wpAny W.M A (excMatches (.ref e) (.ref 76)) Q E s:=by
 obtain⟨k0,k1,k2,k3,k5,IL,sn,sub,ab,col,dd,yD⟩:=xh W
 exact wpAny_excMatches_sub_self (X _ _ yD) he rfl (by decide) h
theorem FF{A:Around}{e t dx T:Addr}{oT:Obj}{ts:Array Value}{Q:Unit->Shared->Prop}{E:Value->Shared->Prop}(he:s.heap.get? e=some (cC t (some dx) (.ref T)))(hT:s.heap.get? T=some oT)(hd:oT.data= .fields ts)(hz:3<ts.size)
 (h:∀h',ft T s.heap h'->Q () {s with heap:=h'}):wpAny W.M A (DO (.ref e) none) Q E s:=by
 unfold DO
 refine aa (dD he (x:= .ref T) rfl rfl ?_)
 rw[if_pos (show(kZ T != d7)=true from by simp)]
 exact AZ hT hd hz (h _ (dR ..))
end
section
variable {W:Wd}{C:Cx}{ρ a9:Ro}{f o:Fz}{s:Shared}
theorem bc.FH(H:bc C ρ f o){ob ob':Obj}(p:o C.env.locals=some ob)(hd:ob'.data=ob.data):bc C ρ f (o.put C.env.locals ob'):=by
 obtain⟨ob1,es,ep,p1,zV,JG⟩:=H.ns
 cases nJ p p1
 refine⟨H.ok,⟨ob',es,ep,Fz.aJ ..,hd.trans zV,JG⟩,λx b hm=>?_,H.nd,H.sep,H.two⟩
 obtain⟨vo,hv,hh⟩:=H.vars x b hm
 refine⟨vo,?_,?_⟩
 ·rcases hv with⟨k,m8,yd,ye,e1,e2,e3,e4⟩|⟨k,c,m8,e1,e2,e3⟩
  ·cases nJ p e1
   exact .inl ⟨k,ob',yd,ye,Fz.aJ ..,hd.trans e2,e3,e4⟩
  ·have:c≠C.env.locals:=λe=>by subst e; cases nJ p e2; rw[zV] at e3; exact nomatch e3
   exact .inr ⟨k,c,m8,e1,by rw[Fz.az this]; exact e2,e3⟩
 ·cases b with
  |unset=>trivial
  |val d=>exact hh
  |res u r=>exact⟨hh.1,r.mono _ _ _ _ (.refl f) (λa ha y e=>by rw[Fz.az (λq=>H.sep x u r hm a ha (.inl q))]; exact e) hh.2⟩
theorem IV(O:C.Ok)(S:St W.B f o s)(H:bc C ρ f o){n:Str}{pos:Pos}(aU:Ro.Set n .unset ρ a9)(hk:C.env.kindOf n=some .local){Q:Unit->Shared->Prop}{E:Value->Shared->Prop}
 (h:∀ob' s',St W.B f (o.put C.env.locals ob') s'->bc C a9 f (o.put C.env.locals ob')->Q () s'):wpAny W.M C.A (do bindName C.env n .none; unbindBehindTheSuite C.env n pos) Q E s:=by
 obtain⟨ob,es,ep,p,zV,JG⟩:=H.ns
 have wR:s.heap.Ns C.env.locals (nsFind es):=⟨ob,es,ep,S.own _ _ p,zV,JG,λ_=>rfl⟩
 refine wpAny_nameGoes_keeps hk wR (by rw[O.kind]; rfl) λh' v hn hs=>?_
 obtain⟨ob',pF,D7,q,zW,zX,Qb⟩:=hn
 refine h ob' _ ((S.same p hs q).tok _) ⟨O,⟨ob',pF,D7,Fz.aJ ..,zW,zX⟩,λx b hm=>?_,by rw[aU.keys]; exact H.nd,λx u r hm a ha hs=>?_,λx y u u' r r' p q=>?_⟩
 ·rcases aU.mem H.nd hm with⟨rfl,rfl⟩|⟨hx,hm⟩
  ·exact⟨_, .inl ⟨hk,ob',pF,D7,Fz.aJ ..,zW,zX,rfl⟩,trivial⟩
  ·obtain⟨vo,hv,hh⟩:=H.vars x b hm
   refine⟨vo,?_,?_⟩
   ·rcases hv with⟨k,m8,yd,ye,e1,e2,e3,e4⟩|⟨k,c,m8,e1,e2,e3⟩
    ·cases nJ p e1
     rw[zV] at e2; cases e2
     exact .inl ⟨k,ob',pF,D7,Fz.aJ ..,zW,zX,((Qb _).trans (if_neg hx)).trans e4⟩
    ·have:c≠C.env.locals:=λe=>by subst e; cases nJ p e2; rw[zV] at e3; exact nomatch e3
     exact .inr ⟨k,c,m8,e1,by rw[Fz.az this]; exact e2,e3⟩
   ·cases b with
    |unset=>trivial
    |val d=>exact hh
    |res u r=>exact⟨hh.1,r.mono _ _ _ _ (.refl f) (λa ha y e=>by rw[Fz.az (λq=>H.sep x u r hm a ha (.inl q))]; exact e) hh.2⟩
 ·rcases aU.mem H.nd hm with⟨_,e⟩|⟨_,hm⟩
  ·exact nomatch e
  ·exact H.sep x u r hm a ha ((Slots.set aU).mp hs)
 ·rcases aU.mem H.nd p with⟨_,e⟩|⟨_,p⟩
  ·exact nomatch e
  ·rcases aU.mem H.nd q with⟨_,e⟩|⟨_,q⟩
   ·exact nomatch e
   ·exact H.two x y u u' r r' p q
end
structure Md(W:Wd)(outer:List Env):Prop where
 all:∀env∈outer,env.scope.kind≠ .module/\∃L,env.frame=some L/\W.B.side L
 sq:∀env∈outer,∀L,env.frame=some L->∀x,W.B.sq L x->(∀vs,x.data≠ .fields vs)/\∀sl,W.B.sq L {x with slots:=sl}
section
variable {W:Wd}{f o:Fz}{s:Shared}
theorem Md.Pp:∀{outer:List Env},Md W outer->St W.B f o s->s.heap.FunFrames {} outer
 |[],_,_=>trivial
 |env::r,F,S=>by
  obtain⟨h1,L,h2,h3⟩:=F.all env (.head _)
  obtain⟨x,hx,hq⟩:=S.tab L h3
  exact⟨h1,⟨L,x,h2,by simp[Heap.get?],hx,(F.sq env (.head _) L h2 x hq).1⟩,Md.Pp ⟨λe he=>F.all e (.tail _ he),λe he=>F.sq e (.tail _ he)⟩ S⟩
set_option tactic.hygienic true in
theorem IW{env:Env}{outer:List Env}{e t dx T:Addr}{wY:Obj}{h':Heap}(F:Md W outer)(S:St W.B f o s)(hf:env.frame=some env.locals)(he:o e=some (cC t (some dx) .none))(hL:o env.locals=some wY)(DM:e≠env.locals)
 (k1:h'.get? e=some (cC t (some dx) (.ref T))) (k2:s.heap.get? T=none) (k3:T≠e) (k4:∃oT ts,h'.get? T=some oT/\oT.data= .fields ts/\3<ts.size) (k5:∀b x,b≠e->b∉(env::outer).filterMap (·.frame)->s.heap.get? b=some x->h'.get? b=some x)
 (k6:∀b x,b≠e->s.heap.get? b=some x->∃sl,h'.get? b=some {x with slots:=sl}):
 ∃sl oT ts,oT.data= .fields ts/\3<ts.size/\f.le (f.put e (cC t (some dx) (.ref T)))/\o T=none/\
  St W.B (f.put e (cC t (some dx) (.ref T))) (((o.del e).put env.locals {wY with slots:=sl}).put T oT) {s with heap:=h'}:=by
 obtain⟨oT,ts,q1,q2,q3⟩:=k4
 obtain⟨sl,Xk⟩:=k6 _ _ (Ne.symm DM) (S.own _ _ hL)
 have Mb:=S.fu he
 have hfL:=S.fu hL
 have Pq:∀b,b∈(env::outer).filterMap (·.frame)->b=env.locals\/∃e'∈outer,e'.frame=some b:=λb hb=>by
  obtain⟨e',h1,h2⟩:=List.mem_filterMap.mp hb
  rcases au.mp h1 with rfl|h1
  ·cases nJ hf h2; exact .inl rfl
  ·exact .inr ⟨e',h1,h2⟩
 have Me:∀e'∈outer,∀b,e'.frame=some b->W.B.side b:=λe' h1 b h2=>by
  obtain⟨_,L,h3,h4⟩:=F.all e' h1
  cases nJ h2 h3; exact h4
 have oT0:o T=none:=by
  refine none_of λy q=>?_
  have:=S.own _ _ q; exact iB k2 this
 have fT0:f T=none:=by
  refine none_of λy q=>?_
  have:=S.sub _ _ q; exact iB k2 this
 have Kc:∀b x,(f b=some x\/o b=some x)->b≠env.locals->b∉(env::outer).filterMap (·.frame):=λb x hx ea hb=>by
  rcases Pq b hb with h|⟨e',h1,h2⟩
  ·exact ea h
  ·exact S.iG hx (Me e' h1 b h2)
 refine⟨sl,oT,ts,q2,q3,Fz.bP Mb,oT0,λa x q=>?_,λa x q=>?_,λa x q=>?_,S.base.trans (Fz.bP Mb),λc hc=>?_,λc hc=>⟨?_,?_⟩,S.os,S.gens⟩
 ·by_cases z:a=e
  ·subst z; cases nJ (Fz.aJ ..) q; exact k1
  ·rw[Fz.az z] at q
   exact k5 a x z (Kc a x (.inl q) λz2=>by subst z2; exact iB hfL q) (S.sub a x q)
 ·by_cases z:a=T
  ·subst z; cases nJ (Fz.aJ ..) q; exact q1
  ·rw[Fz.az z] at q
   by_cases z2:a=env.locals
   ·subst z2; cases nJ (Fz.aJ ..) q; exact Xk
   ·rw[Fz.az z2] at q
    unfold Fz.del at q
    split at q
    ·exact nomatch q
    ·rename_i z3
     exact k5 a x z3 (Kc a x (.inr q) z2) (S.own a x q)
 ·by_cases z:a=e
  ·subst z
   rw[Fz.az (Ne.symm k3),Fz.az DM]; unfold Fz.del; rw[if_pos rfl]
  ·rw[Fz.az z] at q
   have z1:a≠T:=λw=>by subst w; exact iB fT0 q
   have z2:a≠env.locals:=λw=>by subst w; exact iB hfL q
   rw[Fz.az z1,Fz.az z2]; unfold Fz.del; rw[if_neg z]; exact S.apart a x q
 ·obtain⟨x,hx,hq⟩:=S.tab c hc
  have JL:c≠e:=λw=>S.iG (.inr he) (w▸hc)
  by_cases hb:c∈(env::outer).filterMap (·.frame)
  ·rcases Pq c hb with w|⟨e',h1,h2⟩
   ·exact absurd (w▸hc) (S.iG (.inr hL))
   ·obtain⟨sl2,JQ⟩:=k6 c x JL hx
    exact⟨_,JQ,(F.sq e' h1 c h2 x hq).2 sl2⟩
  ·exact⟨x,k5 c x JL hb hx,hq⟩
 ·have JL:c≠e:=λw=>S.iG (.inr he) (w▸hc)
  rw[Fz.az JL]; exact(S.fo c hc).1
 ·have hcT:c≠T:=λw=>by obtain⟨x,hx,_⟩:=S.tab c hc; rw[w,k2] at hx; exact nomatch hx
  have hcL:c≠env.locals:=λw=>S.iG (.inr hL) (w▸hc)
  rw[Fz.az hcT,Fz.az hcL]; unfold Fz.del
  split
  ·rfl
  ·exact(S.fo c hc).2
end
noncomputable def C4(e:Addr)(fs:List (Str×D)):Res where
 v:= .ref e
 as:=[]
 P:=λf _=>∃t dx tb es n,f e=some (cC t (some dx) tb)/\f dx=some (dictOf es n)/\eY f fs es
 mono:=λf f' o o' h _ q=>by obtain⟨t,dx,tb,es,n,h1,h2,h3⟩:=q; exact⟨t,dx,tb,es,n,h _ _ h1,h _ _ h2,h3.mono h⟩
 there:=λ_ _ _ a ha=>by exact nomatch ha
section
variable {W:Wd}{C:Cx}{ρ a9 bD bZ:Ro}{f o f' o':Fz}{s s':Shared}
theorem Left.at{env:Env}{A A':Around}{names:List (Str×aC)}(O:Cx.Ok ⟨env,A',names⟩)(L:Left W ⟨env,A,names⟩ ρ a9 f o f' o' s'):Left W ⟨env,A',names⟩ ρ a9 f o f' o' s':=
 ⟨L.le,L.st,⟨O,L.env.ns,L.env.vars,L.env.nd,L.env.sep,L.env.two⟩,L.step,L.ri,L.uses⟩
theorem bc.at{env:Env}{A A':Around}{names:List (Str×aC)}(O:Cx.Ok ⟨env,A',names⟩)(H:bc ⟨env,A,names⟩ ρ f o):bc ⟨env,A',names⟩ ρ f o:=⟨O,H.ns,H.vars,H.nd,H.sep,H.two⟩
theorem Cx.Ok.mark{env:Env}{A:Around}{names:List (Str×aC)}{h:Option Value}(O:Cx.Ok ⟨env,A,names⟩):Cx.Ok ⟨env,A.mark h,names⟩:=⟨O.kind,O.glob,O.HB,O.kinds,O.frees,O.apart,⟨O.room.depth,O.room.units⟩⟩
theorem Left.unset(H:bc C ρ f o){n:Str}{ob':Obj}(aU:Ro.Set n .unset ρ a9)(S':St W.B f (o.put C.env.locals ob') s')(H':bc C a9 f (o.put C.env.locals ob')):Left W C ρ a9 f o f (o.put C.env.locals ob') s':=by
 refine⟨.refl f,S',H',λa x e hm=>?_,λa m=> .inl ?_,λa u=> .inl ?_⟩
 ·rw[Fz.az (λq=>hm (.inl q))]; exact e
 ·rcases m with m|⟨n,h1,h2,h3⟩|⟨x,r,hm,ha⟩
  ·exact .inl m
  ·exact .inr (.inl ⟨n,h1,aU.keys▸h2,h3⟩)
  ·rcases aU.mem H.nd hm with⟨_,e⟩|⟨_,hm⟩
   ·exact nomatch e
   ·exact .inr (.inr ⟨x,r,hm,ha⟩)
 ·rcases u with u|⟨x,w,r,hm,ha⟩
  ·exact .inl ((Slots.set aU).mp u)
  ·rcases aU.mem H.nd hm with⟨_,e⟩|⟨_,hm⟩
   ·exact nomatch e
   ·exact .inr ⟨x,w,r,hm,ha⟩
set_option tactic.hygienic true in
theorem IX{e:Addr}{x:Obj}(h:o e=none):(o.put e x).del e=o:=by
 funext b
 unfold Fz.del
 split
 ·rename_i q; subst q; exact h.symm
 ·rename_i q; exact Fz.az q
theorem um(X:cH W):cK W (J "NannyNag") (.ref 76):=X.glob (by kernel_rfl)
end
section
variable {W:Wd}
noncomputable def Raises(W:Wd)(C:Cx)(ρ:Ro)(body:List Stmt)(fs:List (Str×D)):Prop:=∀f o s,St W.B f o s->bc C ρ f o->∀(P:Flow->Shared->Prop) (E:Value->Shared->Prop),
 (∀e t dx es n f' s',f.le f'->o e=none->f' e=none->St W.B f' (o.put e (cC t (some dx) .none)) s'->f' dx=some (dictOf es n)->eY f' fs es->E (.ref e) s')->wpAny W.M C.A (execs body C.env) P E s
theorem IY(X:cH W){env:Env}{A:Around}{names:List (Str×aC)}{outer:List Env}(K:CK ⟨env,A,names⟩ names)(rk:env.frame=some env.locals)(FE:A.frames=some (env::outer))(F:Md W outer){ρ a9:Ro}{bD bZ:Bd->Ro}{nm:Str}{body hb rest:List Stmt}{qf:Stmt}{fs:List (Str×D)}{p qE pos:Pos}{Q:Out->Prop}
 (hk:(nm,ae)∈names) (hg:(J "NannyNag",ag)∈names) (aU:∀b,Ro.Set nm b ρ (bD b)) (Mf:∀b b',Ro.Set nm b' (bD b) (bD b')) (Ha:∀b,(nm,b)∈bD b) (Kd:∀b,Ro.Set nm .unset (bZ b) a9)
 (ip:Raises W ⟨env,A,names⟩ ρ body fs)
 (hh:∀e,VS W ⟨env,A.mark (some (.ref e)),names⟩ (bD (.res true (C4 e fs))) (qf::hb) (λout=>out= .next (bZ (.res true (C4 e fs)))))
 (iq:VS W ⟨env,A,names⟩ a9 rest Q):VS W ⟨env,A,names⟩ ρ (.Try body [.ExceptHandler (some (.Name (J "NannyNag") p)) (some nm) (qf::hb) qE] [] [] pos::rest) Q:=vs (.cons λf o s S H P E hP=>by
 rw[arm_exec_Try]
 refine aa (aZ ?_)
 refine Jn (ip f o s S H _ _ λe t dx es n f1 s1 l1 Qw Mb S1 yL EE=>?_)
 obtain⟨wY,Qe,WE,hL,hLd,hLk⟩:=id H.ns
 have hL:o env.locals=some wY:=hL
 have DM:e≠env.locals:=λq=>by rw[<-q,Qw] at hL; cases hL
 have hL1:(o.put e (cC t (some dx) .none)) env.locals=some wY:=by rw[Fz.az (Ne.symm DM)]; exact hL
 have Pr:env.scope.kind= .function:=K.ok.kind
 refine FD FE ⟨by rw[Pr]; decide,⟨env.locals,wY,rk,by simp[Heap.get?],S1.own _ _ hL1,λvs q=>by rw[hLd] at q; cases q⟩,F.Pp S1⟩ rk (S1.own _ _ (Fz.aJ ..)) λh' T k1 k2 k3 k4 k5 k6=>?_
 obtain⟨sl,oT,ts,t1,t2,l2,hoT,S2⟩:=IW F S1 rk (Fz.aJ ..) hL1 DM k1 k2 k3 k4 k5 k6
 rw[IX Qw] at S2
 have FI:o T=none:=by rw[Fz.az k3] at hoT; exact hoT
 have hTL:T≠env.locals:=λq=>by rw[q,hL] at FI; cases FI
 have O':Cx.Ok ⟨env,A.mark (some (.ref e)),names⟩:=K.ok.mark
 have H1:bc ⟨env,A,names⟩ ρ (f1.put e (cC t (some dx) (.ref T))) (o.put env.locals {wY with slots:=sl}):=(H.mono (l1.trans l2) (.refl _)).FH hL rfl
 have nUT:¬Uses ⟨env,A,names⟩ ρ T:=λhu=>by obtain⟨x,hx⟩:=H.there hu; exact iB FI hx
 have H2:bc ⟨env,A.mark (some (.ref e)),names⟩ ρ (f1.put e (cC t (some dx) (.ref T))) ((o.put env.locals {wY with slots:=sl}).put T oT):=(H1.put nUT).at O'
 refine wpAny_handleBy_cons (codeAny_handlers_test ?_) (by intro q; exact nomatch q)
 refine eg.glob (C:=⟨env,A.mark (some (.ref e)),names⟩) O' hg (um X) (by decide+kernel) _ _ _ S2 H2 _ _ λc f3 s3 l3 S3 d3=>?_
 obtain rfl:c= .ref 76:=d3
 have Ye:f3 e=some (cC t (some dx) (.ref T)):=l3 _ _ (Fz.aJ ..)
 have Yg:f3 dx=some (dictOf es n):=l3 _ _ (l2 _ _ yL)
 have Yh:eY f3 fs es:=(EE.mono l2).mono l3
 refine IU (X.sF S3) (S3.sub _ _ Ye) ?_
 refine codeAny_handlers_suite_as ?_
 have Yi:((o.put env.locals {wY with slots:=sl}).put T oT) T=some oT:=Fz.aJ ..
 refine FF (S3.sub _ _ Ye) (S3.own _ _ Yi) t1 t2 λh4 hs4=>?_
 have S4:=(S3.drop (o':=o.put env.locals {wY with slots:=sl}) λa x hx=>by
  have z:a≠T:=λq=>by rw[q,Fz.az hTL,FI] at hx; exact nomatch hx
  rw[Fz.az z]; exact hx).wX (S3.fu Yi) (by rw[Fz.az hTL]; exact FI) (S3.iG (.inr Yi)) hs4
 have H4:bc ⟨env,A,names⟩ ρ f3 (o.put env.locals {wY with slots:=sl}):=H1.mono l3 (.refl _)
 have LA:Left W ⟨env,A,names⟩ ρ ρ f o f3 (o.put env.locals {wY with slots:=sl}) {s3 with heap:=h4}:=⟨(l1.trans l2).trans l3,S4,H4,λa x ha hm=>by rw[Fz.az (λq=>hm (.inl q))]; exact ha,λ_ h=> .inl h,λ_ h=> .inl h⟩
 refine sv (C:=⟨env,A.mark (some (.ref e)),names⟩) O' S4 (H4.at O') hk (by decide) (aU (.val (.raw (.ref e)))) (d:= .raw (.ref e)) rfl λo5 s5 S5 H5 st5=>?_
 have LB:Left W ⟨env,A,names⟩ ρ (bD (.val (.raw (.ref e)))) f3 (o.put env.locals {wY with slots:=sl}) f3 o5 s5:=⟨.refl f3,S5,H5.at K.ok,st5,λa hm=> .inl (oM (aU _) H4.nd a hm),λa hu=> .inl (Uses.of (aU _).keys (jN (aU _)) hu)⟩
 have LC:=LB.adopt (r:=C4 e fs) (Mf _ _) (Ha _) ⟨t,dx, .ref T,es,n,Ye,Yg,Yh⟩ (λa ha=>by exact nomatch ha) (λa ha=>by exact nomatch ha)
 refine(hh e).un f3 o5 s5 S5 (LC.env.at O') _ _ λout fl s7 hq ho=>?_
 subst hq
 obtain⟨rfl,f7,o7,L7⟩:=ho
 have Qz:Left W ⟨env,A,names⟩ _ _ _ _ _ _ _:=L7.at K.ok
 refine IV (C:=⟨env,A,names⟩) K.ok Qz.st Qz.env (Kd _) (K.ok.kinds _ _ hk (by decide)) λob' s8 S8 H8=>?_
 have LD:=Left.unset Qz.env (Kd _) S8 H8
 exact hP (.next a9) _ _ iq.un ⟨rfl,_,_,LA.trans (LC.trans (Qz.trans LD))⟩)
end
section
variable {W:Wd}{C:Cx}{ρ a9:Ro}{names:List (Str×aC)}{f o:Fz}{s:Shared}
theorem FJ{func:Expr}{es:List Expr}{pos:Pos}{fv:Value}{ds:List D}(hf:VE W C ρ func (.raw fv))(hk:Kept W fv)(ha:VA W C ρ es ds)(S:St W.B f o s)(H:bc C ρ f o){Q:Value->Shared->Prop}{E:Value->Shared->Prop}
 (h:∀vs f1 s1,f.le f1->St W.B f1 o s1->bQ f1 ds vs->wpAny W.M C.A (call fv vs []) Q E s1)
 (hp:autoParam ((aI es C.env).all (λx=>!x.1)=true) fL._auto_1)
 (he:autoParam (eval (.Call func es [] pos) C.env=(do fR pos (<-eval func C.env) [] (backTo pos (aI es C.env)) (gp pos (dG [] C.env)))) fL._auto_1):wpAny W.M C.A (eval (.Call func es [] pos) C.env) Q E s:=by
 rw[he]
 refine aa (hf.un f o s S H _ _ λv f1 s1 l1 S1 d1=>?_)
 obtain rfl:v=fv:=d1
 have jl:=cn pos es C.env hp
 refine d6 (P:=λh=>∀a x,W.B.f a=some x->h.get? a=some x) (by rw[jl]; rfl) hk (dj jl ?_)
 exact ha.un pos f1 o s1 S1 (H.mono l1 (.refl o)) _ _ λus f2 s2 l2 S2 d2=>⟨S2.bT,h us f2 s2 (l1.trans l2) S2 d2⟩
theorem IZ(X:cH W)(K:CK C names)(lv:Lv 3 C.A){test e1 e2 e3:Expr}{d1 d2 d3:D}{orelse:List Stmt}{p FK Yj Yk:Pos}(hg:(J "NannyNag",ag)∈names)(ht:VB W C ρ test true)(ha:VA W C ρ [e1,e2,e3] [d1,d2,d3])
 (hp:autoParam ((aI [e1,e2,e3] C.env).all (λx=>!x.1)=true) fL._auto_1) (he:autoParam (eval (.Call (.Name (J "NannyNag") p) [e1,e2,e3] [] FK) C.env=(do fR FK (<-eval (.Name (J "NannyNag") p) C.env) [] (backTo FK (aI [e1,e2,e3] C.env)) (gp FK (dG [] C.env)))) fL._auto_1):
 Raises W C ρ [.If test [.Raise (some (.Call (.Name (J "NannyNag") p) [e1,e2,e3] [] FK)) none Yj] orelse Yk] (IP d1 d2 d3):=λf o s S H P E h=>by
 refine gK (wpAny_If (ht.un f o s S H _ _ λf1 s1 l1 S1=>?_))
 show wpAny _ _ (execs [_] C.env) _ _ s1
 refine gK (IT K.hand ?_)
 refine FJ (gl K (um X) hg) (X.kept (by kernel_rfl)) ha S1 (H.mono l1 (.refl o)) (λvs f2 s2 l2 S2 d2=>?_) hp he
 refine IQ X lv S2 d2 λe t dx es n f3 s3 l3 h1 h2 S3 h4 h5=>⟨e,t,dx,rfl,X.sF S3,S3.own _ _ (Fz.aJ ..),?_⟩
 exact h e t dx es n f3 s3 ((l1.trans l2).trans l3) h1 h2 S3 h4 h5
theorem uo(X:cH W)(O:C.Ok){nm yg attr:Str}{e fn:Addr}{fs:List (Str×D)}{d:D}{w:Bool}{p apos pos:Pos}(hm:(nm,Bd.res w (C4 e fs))∈ρ)(h1:(nm==("__debug__" :Str))=false)(h2:(nm==("__classdict__" :Str))=false)
 (hf:findIn (KK W) (.ref 76) yg=some (some (.ref fn))) (ht:isFn (KK W) (.ref fn)=true) (hl:fs.lookup yg=none) (hk:Kept W (.ref fn))
 (IM:∀{A:Around} {f o:Fz} {s:Shared} {t dx:Addr} {tb:Value} {es:List cz} {n:Nat} {Q:Value->Shared->Prop} {E:Value->Shared->Prop},A.depth<=590->A.units<=5990->St W.B f o s->f e=some (cC t (some dx) tb)->f dx=some (dictOf es n)->eY f fs es->
  (∀v f' s',f.le f'->St W.B f' o s'->Den f' d v->Q v s')->wpAny W.M A (call (.ref fn) [.ref e]) Q E s)
 (IF:C.A.depth<=590) (MQ:C.A.units<=5990) (LN:(apos.endLine==pos.line)=true) (hb:autoParam (bx (.Name nm p) yg C.env (eval (.Name nm p) C.env)=eval (.Name nm p) C.env) fL._auto_1):
 eg W C ρ (.Call (.Attribute (.Name nm p) yg apos) [] [] pos) d:=λf o s S H Q E h=>by
 show wpAny _ _ (do
  let ov <-bx (.Name nm p) yg C.env (eval (.Name nm p) C.env)
  dE apos.atName
  eX (.Name nm p) yg apos pos C.env ov (0+0) (backTo pos (aI [] C.env)) []) _ _ s
 rw[hb]
 refine aa (eg.tw O hm h1 h2 f o s S H _ _ λv f1 s1 l1 S1 d1=>aa (aZ ?_))
 obtain rfl:v= .ref e:=d1
 obtain⟨t,dx,tb,es,n,q1,q2,q3⟩:(C4 e fs).P f1 o:=held hm f1 o (H.mono l1 (.refl o))
 unfold eX rN
 rw[show eB (0+0) (backTo pos (aI [] C.env)) []=true from rfl]
 refine aa (aL (FC X hf ht S1 q1 q2 q3 hl ?_))
 unfold ji
 rw[LN]
 refine aa (ao ?_)
 have jl:=cn pos [] C.env rfl
 refine d6 (P:=λh=>∀a x,W.B.f a=some x->h.get? a=some x) (by rw[jl]; rfl) hk (dj jl ?_)
 exact(nq.nil (W:=W) (C:=C) (ρ:=ρ)) pos f1 o s1 S1 (H.mono l1 (.refl o)) _ _ λus f2 s2 l2 S2 d2=>⟨S2.bT,by
  obtain rfl:us=[]:=d2
  exact IM IF MQ S2 (l2 _ _ q1) (l2 _ _ q2) (q3.mono l2) λv f' s' l' S' d'=>h v f' s' ((l1.trans l2).trans l') S' d'⟩
end
section
variable {W:Wd}{ρ a9:Ro}
theorem C5(X:cH W){env:Env}{A:Around}{names:List (Str×aC)}(K:CK ⟨env,A,names⟩ names)(lv:Lv 3 A){e a:Addr}{ds:List D}{d1 d2 d3:D}{p1 p2 p3 p4 q1 q2 q3 r1 r2 r3 s1 s2 s3 pos:Pos}(hm:(J "nag",Bd.res true (C4 e (IP d1 d2 d3)))∈ρ)(hl:(J "nags",Bd.res true (eI a ds))∈ρ)(fB:ds.length<=16777216)
 (aU:Ro.Set (J "nags") (.res true (eI a (ds++[.tup [d1,d2,d3]]))) ρ a9) (n1:∀u,d1≠ .raw u) (n2:∀u,d2≠ .raw u) (n3:∀u,d3≠ .raw u) (e1:(p2.endLine==p3.line)=true) (e2:(q2.endLine==q3.line)=true) (e3:(r2.endLine==r3.line)=true) (e4:(s2.endLine==s3.line)=true):
 VS W ⟨env,A.mark (some (.ref e)),names⟩ ρ [.Expr (.Call (.Attribute (.Name (J "nags") p1) (J "append") p2) [.Tuple [.Call (.Attribute (.Name (J "nag") q1) (J "get_lineno") q2) [] [] q3, .Call (.Attribute (.Name (J "nag") r1) (J "get_msg") r2) [] [] r3, .Call (.Attribute (.Name (J "nag") s1) (J "get_line") s2) [] [] s3] 0 p4] [] p3) pos] (λout=>out= .next a9):=by
 have O':Cx.Ok ⟨env,A.mark (some (.ref e)),names⟩:=K.ok.mark
 have h1:A.depth<=590:=by have:=lv.depth; exact aN 0x2ae2562441008454f4801 tt this
 have h2:A.units<=5990:=by have:=lv.units; exact aN 0x6f784aca88201086f6b4801 tt this
 refine vs (.Bw O' (.tuple (.cons (d:=d1) (uo X O' (attr:=J "lineno") (fn:=59) hm (by decide+kernel) (by decide+kernel) (by kernel_rfl) (by kernel_rfl) (by kernel_rfl) (X.kept (by kernel_rfl)) (λa1 a2 a3 a4 a5 a6 a7=>?_) h1 h2 e2) (.cons (d:=d2) (uo X O' (attr:=J "msg") (fn:=66) hm (by decide+kernel) (by decide+kernel) (by kernel_rfl) (by kernel_rfl) (by kernel_rfl) (X.kept (by kernel_rfl)) (λa1 a2 a3 a4 a5 a6 a7=>?_) h1 h2 e3) (.cons (d:=d3) (uo X O' (attr:=J "line") (fn:=73) hm (by decide+kernel) (by decide+kernel) (by kernel_rfl) (by kernel_rfl) (by kernel_rfl) (X.kept (by kernel_rfl)) (λa1 a2 a3 a4 a5 a6 a7=>?_) h1 h2 e4) .nil rfl) rfl) rfl) (by simp)) hl fB aU (.nil rfl) (by decide+kernel) (by decide+kernel) rfl rfl e1 K.inter rfl)
 ·exact xi X 59 (attr:=J "lineno") ⟨_,rfl,rfl⟩ rfl (by kernel_rfl) rfl rfl rfl rfl rfl rfl rfl (λv=>by kernel_rfl) (by kernel_rfl) a1 a2 a3 a4 a5 a6 (by kernel_rfl) n1 a7
 ·exact xi X 66 (attr:=J "msg") ⟨_,rfl,rfl⟩ rfl (by kernel_rfl) rfl rfl rfl rfl rfl rfl rfl (λv=>by kernel_rfl) (by kernel_rfl) a1 a2 a3 a4 a5 a6 (by kernel_rfl) n2 a7
 ·exact xi X 73 (attr:=J "line") ⟨_,rfl,rfl⟩ rfl (by kernel_rfl) rfl rfl rfl rfl rfl rfl rfl (λv=>by kernel_rfl) (by kernel_rfl) a1 a2 a3 a4 a5 a6 (by kernel_rfl) n3 a7
end
section
variable {W:Wd}{C:Cx}{ρ a9:Ro}{names:List (Str×aC)}{Q:Out->Prop}
theorem Mg{body rest:List Stmt}{h₀:DI}{hs:List DI}{pos:Pos}(hb:VS W C ρ body (λout=>out= .next a9))(iq:VS W C a9 rest Q):VS W C ρ (.Try body (h₀::hs) [] [] pos::rest) Q:=vs (.cons λf o s S H P E hP=>by
 rw[arm_exec_Try]
 refine aa (aZ ?_)
 refine Jn (hb.un f o s S H _ _ λout fl s1 hq ho=>?_)
 subst hq
 obtain⟨rfl,f1,o1,L⟩:=ho
 exact jm (hP (.next a9) _ _ iq.un ⟨rfl,f1,o1,L⟩))
theorem Pu{t:Expr}{body:List Stmt}{pos:Pos}(ht:VB W C ρ t false):VS W C ρ [.If t body [] pos] (λout=>out= .next ρ):=jw ht (λh=>by exact nomatch h) λ_=>dh (dh rfl)
end
noncomputable def pairOf(r:Row):Nat×Nat:=if r.sg=21 then(r.high,r.low) else(r.low,r.high)
noncomputable def B4:List Nat:=[97,98,99,100]
noncomputable def vz(c:Nat):Nat:=(lo1 c)-97
theorem uq:∀c∈([97,98,99,100,65,66,67,68]:List Nat),vz c<4/\∃rest,occurrences (aS B4) (aS [lo1 c]) 0 (aS B4).length 1=vz c::rest:=by
 intro c hc
 simp only[au,bo,or_false] at hc
 rcases hc with rfl|rfl|rfl|rfl|rfl|rfl|rfl|rfl<;>exact⟨by decide+kernel,[],by kernel_rfl⟩
theorem FL{W:Wd}{A:Around}{c:Nat}(hc:c∈([97,98,99,100,65,66,67,68]:List Nat)):l7 W A (.builtin "str.index") [.str (aS B4), .str (aS [lo1 c])] (.int (vz c)):=λf o s vs S hd Q E h=>by
 obtain⟨v,r,rfl,⟨t,rfl⟩,v2,r2,rfl,⟨u,rfl⟩,rfl⟩:=hd
 obtain⟨_,rest,ho⟩:=uq c hc
 exact SC.index ho (h _ f _ (.refl f) (S.tok _) ⟨_,rfl⟩)
noncomputable abbrev oW:List (Str×aC):=[(J "parts",ae),(J "rows",ae),(J "whites",aq),(J "nags",ae),(J "place",ae),(J "row",ae),(J "low",ae),(J "high",ae),(J "witness",ae),(J "nag",ae),(J "enumerate",ag),(J "NannyNag",ag),(J "format_witnesses",ag)]
noncomputable def iY(ws:List iC)(c:Nat):iC:=ws.getD (vz c) ⟨[],0,0,[],0,true⟩
noncomputable def ur(ws:List iC)(r:Row):List Nat:=
 let a:=iY ws (pairOf r).1
 let b:=iY ws (pairOf r).2
 if r.sg=27 then pB a b else mm a b
noncomputable def y6(parts:List (List Nat))(ws:List iC)(k:Nat)(r:Row):List D:=if ur ws r=[] then[] else[.tup [.int k, .str (aS (wordsOf ((ur ws r).map jb))), .str (aS (parts.getD k []))]]
noncomputable def gY(parts:List (List Nat))(ws:List iC):Nat->List Row->List D
 |_,[]=>[]
 |k,r::rs=>y6 parts ws k r++gY parts ws (k+1) rs
section
variable {W:Wd}
theorem FN(X:cH W){w:iC}:Meth W w.D (J "not_equal_witness") (.ref 124):=jG X (by kernel_rfl) (by kernel_rfl) (by kernel_rfl) (by kernel_rfl)
theorem AN(X:cH W){w:iC}:Meth W w.D (J "not_less_witness") (.ref 138):=jG X (by kernel_rfl) (by kernel_rfl) (by kernel_rfl) (by kernel_rfl)
theorem y7(X:cH W):cK W (J "format_witnesses") (.ref 152):=X.glob (by kernel_rfl)
theorem mU:∀n:Nat,n<200->(lL (n:Int)).length<=100:=by decide+kernel
theorem y8{ds:List D}{b:Bool}(hb:b=true↔ds≠[]):lp W (cc .NotEq) (.list ds) (.list []) (.bool b):=yu (n:=1) (.list Zp) (by rw[hb]; simp) (by(first|lia|omega))
theorem B5(X:cH W)(XT:uh W){A:Around}(lv:Lv 4 A){ws:List (Int×List D)}{t:List Nat}(hw:∀p∈ws,p.1.natAbs<1000000/\(lL p.1).length<=100)(hn:ws.length<=100)(ht:t=wordsOf (ws.map (·.1))):l7 W A (.ref 152) [.list (ws.map wD)] (.str (aS t)):=ht▸(X0 X XT lv hw hn).un
theorem Yl(X:cH W)(XT:uh W){A:Around}(lv:Lv 6 A){outer:List Env}(FE:A.frames=some outer)(F:Md W outer){parts:List (List Nat)}{rows:List Row}{ws:List iC}(hr:∀r∈rows,r.Ok)(hw:∀w∈ws,w.Ok/\w.long<=50)(h4:ws.length=4)(hl:rows.length<=parts.length)(hn:parts.length<=100):
 iJ W A (.ref 364) [.list (parts.map λt=> .str (aS t)), .list (rows.map eh), .list (ws.map iC.D)] (.list (gY parts ws 0 rows)):=Ap λf o s vs S hd Q E h=>by
 have Pn:=hd
 obtain⟨v1,r,rfl,h1,v2,r2,rfl,h2,v3,r3,rfl,h3,h5⟩:=hd
 obtain rfl:r3=[]:=h5
 refine fQ (X.code (P:=λ_=>True) 364 (n:=5) (ps:=["parts","rows","whites"]) (ds:=[.list (parts.map λt=> .str (aS t)), .list (rows.map eh), .list (ws.map iC.D)])
  (ρ:=[("parts", .val (.list (parts.map λt=> .str (aS t)))),("rows", .val (.list (rows.map eh))),("whites", .val (.list (ws.map iC.D))),("nags", .unset),("place", .unset),("row", .unset),("low", .unset),("high", .unset),("witness", .unset),("nag", .unset)]) (names:=oW) lv ⟨_,rfl,rfl⟩ rfl (by kernel_rfl) rfl rfl (by kernel_rfl) rfl rfl rfl rfl rfl (by kernel_rfl) (by kernel_rfl) (λQ E k=>?_) ?_ S λf1 env dr cU _ l1 lo jf H mG sd hm=>?_)
 ·have e:eQ (cm (KK W) 364) ⟨[v1,v2,v3],[]⟩=pure [(J "parts",v1),(J "rows",v2),(J "whites",v3)]:=by kernel_rfl
  show wpAny _ _ (eQ (cm (KK W) 364) ⟨[v1,v2,v3],[]⟩) Q E s
  rw[e]
  exact ao (k [v1,v2,v3] f s (.refl f) S Pn trivial)
 ·show kj [(_,_),(_,_),(_,_)] _ _
  exact qY
 ·have K:CK ⟨env,A.deeper env,oW⟩ oW:=⟨H.ok,mG.hand,rfl⟩
  have Mh:=zN (env:=env) FE
  refine ud (C:=⟨env,A.deeper env,oW⟩) (d:= .list (gY parts ws 0 rows)) ?_ jf H lo hm (R:=λr s'=>match r with| .ok (.ret v)=>Q v s'| .ok _=>False| .error e=>E e s') λv' f' s' l' S' d'=>h v' f' s' (l1.trans l') S' d'
  refine Au K (sf a0) (λa=>⟨_,kB,?_⟩)
  let MR:List D->Bd->Bd->Bd->Bd->Bd->Bd->Ro:=λacc b1 b2 b3 b4 b5 b6=>[("parts", .val (.list (parts.map λt=> .str (aS t)))),("rows", .val (.list (rows.map eh))),("whites", .val (.list (ws.map iC.D))),("nags", .res true (eI a acc)),("place",b1),("row",b2),("low",b3),("high",b4),("witness",b5),("nag",b6)]
  refine mO K (As (gl K (oq X)) (nm K)) (λxs ρ=>∃k b1 b2 b3 b4 b5 acc,k<=rows.length/\acc.length<=k/\xs=numbered k ((rows.drop k).map eh)/\gY parts ws 0 rows=acc++gY parts ws k (rows.drop k)/\ρ=MR acc b1 b2 b3 b4 b5 .unset) ?_ ?_ ?_
  ·exact⟨0, .unset, .unset, .unset, .unset, .unset,[],fC _,bL _,rfl,rfl,rfl⟩
  ·rintro ρ ⟨k,b1,b2,b3,b4,b5,acc,hk,Ym,hx,ha,rfl⟩
   have Pw:rows.drop k=[]:=by
    cases q:rows.drop k with
    |nil=>rfl
    |cons r rs=>rw[q] at hx; exact nomatch hx
   rw[Pw] at ha
   refine tX (x:=J "nags") (a:=a) (ds:=acc) (a9:=[("parts", .val (.list (parts.map λt=> .str (aS t)))),("rows", .val (.list (rows.map eh))),("whites", .val (.list (ws.map iC.D))),("nags", .val (.list acc)),("place",b1),("row",b2),("low",b3),("high",b4),("witness",b5),("nag", .unset)]) (.tail _ (.tail _ (.tail _ (.head _)))) (.tail (.tail (.tail .head))) (j6 (nm K) ?_)
   show D.list acc=_
   rw[ha]; simp[gY]
  ·rintro x xs ρ ⟨k,b1,b2,b3,b4,b5,acc,hk,Ym,hx,ha,rfl⟩
   obtain⟨r,rs,EZ⟩:∃r rs,rows.drop k=r::rs:=by
    cases q:rows.drop k with
    |nil=>rw[q] at hx; exact nomatch hx
    |cons r rs=>exact⟨r,rs,rfl⟩
   rw[EZ] at hx ha
   have Qv:x= .tup [.int k,eh r]/\xs=numbered (k+1) (rs.map eh):=by
    rw[aO] at hx
    exact List.cons.inj hx
   obtain⟨rfl,rfl⟩:=Qv
   refine⟨[("parts", .val (.list (parts.map λt=> .str (aS t)))),("rows", .val (.list (rows.map eh))),("whites", .val (.list (ws.map iC.D))),("nags", .res true (eI a acc)),("place", .val (.int k)),("row", .val (eh r)),("low",b3),("high",b4),("witness",b5),("nag", .unset)],iV K (cx K) (cx K),?_⟩
   have DK:r∈rows:=Cu (EZ▸cw:r∈rows.drop k)
   have QA:=hr r DK
   have ki:k<rows.length:=by
    rcases fX k rows.length with h|h
    ·exact h
    ·rw[gD h] at EZ; exact nomatch EZ
   have Px:(pairOf r).1∈([97,98,99,100,65,66,67,68]:List Nat)/\(pairOf r).2∈([97,98,99,100,65,66,67,68]:List Nat):=by
    unfold pairOf; split
    ·exact⟨QA.high,QA.low⟩
    ·exact⟨QA.low,QA.high⟩
   obtain⟨c1,QB⟩:∃c,c=(pairOf r).1:=⟨_,rfl⟩
   obtain⟨c2,QC⟩:∃c,c=(pairOf r).2:=⟨_,rfl⟩
   rw[<-QB,<-QC] at Px
   have C1:∀c∈([97,98,99,100,65,66,67,68]:List Nat),ws[vz c]? =some (iY ws c):=λc hc=>by
    have h:=(uq c hc).1
    unfold iY
    rw[ak,aj (by exact Sv h4 h)]; rfl
   have hwm:∀c∈([97,98,99,100,65,66,67,68]:List Nat),iY ws c∈ws:=λc hc=>bI (C1 c hc)
   obtain⟨wa,td⟩:∃w,w=iY ws c1:=⟨_,rfl⟩
   obtain⟨wb,Yn⟩:∃w,w=iY ws c2:=⟨_,rfl⟩
   have QD:=hw _ (td▸hwm _ Px.1)
   have QE:=hw _ (Yn▸hwm _ Px.2)
   have I0:ur ws r=if r.sg=27 then pB wa wb else mm wa wb:=by unfold ur; rw[td,Yn,QB,QC]
   refine let1 (d:= .list [wa.D,wb.D]) (VE.eq (dY (eW:=[(".0", .unset),("name", .unset),("whites", .val (.list (ws.map iC.D)))]) (out:=([c1,c2]:List Nat).map λc=>(iY ws c).D) K
    (jE K (d:= .list (([c1,c2]:List Nat).map λc=> .str (aS [c]))) (VE.eq (mM (vq (b:=decide ((r.sg:Int)=21)) (d:= .list [.str (aS [c1]), .int r.sg, .str (aS [c2])]) (kO K (dA (T:= "list") (da:=eh r) (di:= .int (1:Nat)) K (nm K) num aR (bY rfl (by decide))) num hZ) (λh=> .eq (mM (nm K (d:=eh r)) w8 p0 p0 (p1 (neg K num w6)) (by decide) (by simp) (λ_ _=>rfl)) ?_) λh=> .eq (nm K (d:=eh r)) ?_) w8 p0 p0 (p1 (i:=2) num) (by decide) (by simp) (λ_ _=>rfl)) (by kernel_rfl)) bp)
    (λC' K' e=>gH ([c1,c2]:List Nat) (λc=> .str (aS [c])) (λc=>(iY ws c).D) (λc=>[(".0", .unset),("name", .val (.str (aS [c]))),("whites", .val (.list (ws.map iC.D)))]) (λc hc=>cx K') (λc hc=>?_) λc hc=>jS) kq (by simp)) (by rw[td,Yn]; rfl)) (iV K (cx K) (cx K) (.inr rfl)) ?_
   ·have h':r.sg=21:=by have:=of_decide_eq_true h; exact Sw this
    have e1:c1=r.high:=by rw[QB]; unfold pairOf; rw[if_pos h']
    have e2:c2=r.low:=by rw[QC]; unfold pairOf; rw[if_pos h']
    rw[e1,e2]; kernel_rfl
   ·have h':¬r.sg=21:=by have:=of_decide_eq_false h; exact Sx this
    have e1:c1=r.low:=by rw[QB]; unfold pairOf; rw[if_neg h']
    have e2:c2=r.high:=by rw[QC]; unfold pairOf; rw[if_neg h']
    rw[e1,e2]; rfl
   ·have QF:c∈([97,98,99,100,65,66,67,68]:List Nat):=by
     simp only[au,bo,or_false] at hc
     rcases hc with rfl|rfl
     ·exact Px.1
     ·exact Px.2
    refine dA (T:= "list") (da:= .list (ws.map iC.D)) (di:= .int (vz c:Nat)) K' (nm K') (gg (st B4) (ir PySem.F.slot_str_index PySem.F.type_str_index) .builtin (a1 (rA K' (nm K') ?_ (by simp))) (FL QF)) aR (bY ?_ ?_)
    ·unfold clean; rw[c9,(kz _ QF).1]; rfl
    ·rw[av,C1 c QF]; rfl
    ·have:=(uq c QF).1; exact aN 0xbd010085f495212a0201 tt this
   obtain⟨wit,Mi⟩:∃w,w=ur ws r:=⟨_,rfl⟩
   refine let1 (d:= .list (wit.map (mR wa wb))) (vq (b:=decide ((r.sg:Int)=27)) (kO K (dA (T:= "list") (da:=eh r) (di:= .int (1:Nat)) K (nm K) num aR (bY rfl (by decide))) num hZ)
    (λh=> .eq (gg (nm K) (FN X) (X.kept (by kernel_rfl)) (a1 (nm K)) (Oq X (mG.le (by simp[*])) QD.1 QE.1).un) ?_) λh=> .eq (gg (nm K) (AN X) (X.kept (by kernel_rfl)) (a1 (nm K)) (LH X (mG.le (by(first|lia|omega))) QD.1 QE.1).un) ?_) (cx K) ?_
   ·have h':r.sg=27:=by have:=of_decide_eq_true h; exact M7 this
    rw[Mi,I0,if_pos h']
   ·have h':¬r.sg=27:=by have:=of_decide_eq_false h; exact M8 this
    rw[Mi,I0,if_neg h']
   have Yo:∀t∈wit,t<200:=λt ht=>by
    have Ha:t∈sizesOf wa wb 1:=by
     rw[Mi,I0] at ht
     split at ht
     ·exact(bw.mp ht).1
     ·exact(bw.mp ht).1
    unfold sizesOf at Ha
    have:=cR.mp Ha
    have h1:=QD.2; have h2:=QE.2
    first|exact YV h1 h2 this|exact(YV h1 h2 this).2 |(first|lia|omega)
   have hwn:wit.length<=100:=by
    have hs:(sizesOf wa wb 1).length<=100:=by
     unfold sizesOf; rw[cY]
     have h1:=QD.2; have h2:=QE.2
     first|exact YU h1 h2|(first|lia|omega)
    rw[Mi,I0]
    split
    ·exact aP (ba _ _) hs
    ·exact aP (ba _ _) hs
   have Py:gY parts ws k (r::rs)=y6 parts ws k r++gY parts ws (k+1) rs:=rfl
   rw[Py] at ha
   have MS:rs=rows.drop (k+1):=by
    have:=congrArg List.tail EZ
    rw[List.tail_drop] at this
    exact this.symm
   by_cases tc:wit=[]
   ·refine Mg (Pu (kO K (nm K) (lst a0) (y8 (by rw[tc]; simp)))) (dh ?_)
    refine⟨k+1,_,_,_,_,_,acc,by assumption,by exact aX 1100639944705 tt Ym,by rw[MS],?_,rfl⟩
    have e:y6 parts ws k r=[]:=by unfold y6; rw[if_pos (Mi.symm.trans tc)]
    rw[ha,e,MS]; rfl
   ·have jl:k<parts.length:=by exact cG 0x2828042100421a0a01 tt hl ki
    have he:y6 parts ws k r=[.tup [.int k, .str (aS (wordsOf (wit.map jb))), .str (aS (parts.getD k []))]]:=by unfold y6; rw[if_neg (λq=>tc (Mi.trans q)),Mi]
    have Pz:acc.length<=16777216:=by exact cG 0x14140211042135240084308421084821 tt hn Ym jl
    have Nz:D.list (wit.map (mR wa wb))= .list ((wit.map λ(t:Nat)=>((t:Int),[D.int (wa.ind t), .int (wb.ind t)])).map wD):=by rw[aM]; rfl
    refine IY (fs:=IP (.int k) (.str (aS (wordsOf (wit.map jb)))) (.str (aS (parts.getD k [])))) (bD:=λb=>MR acc (.val (.int k)) (.val (eh r)) (.val wa.D) (.val wb.D) (.val (.list (wit.map (mR wa wb)))) b) (bZ:=λb=>MR (acc++[.tup [.int k, .str (aS (wordsOf (wit.map jb))), .str (aS (parts.getD k []))]]) (.val (.int k)) (.val (eh r)) (.val wa.D) (.val wb.D) (.val (.list (wit.map (mR wa wb)))) b)
     (a9:=MR (acc++[.tup [.int k, .str (aS (wordsOf (wit.map jb))), .str (aS (parts.getD k []))]]) (.val (.int k)) (.val (eh r)) (.val wa.D) (.val wb.D) (.val (.list (wit.map (mR wa wb)))) .unset) X K sd.2 Mh F ij ij (λb=>by show Ro.Set _ _ (MR _ _ _ _ _ _ _) (MR _ _ _ _ _ _ _); exact kB) (λb b'=>kB) (λb=>ij) (λb=>kB) ?_ (λe=>?_) (dh ?_)
    ·refine IZ X K (mG.le (by simp[*])) ij (kO K (nm K) (lst a0) (y8 (by simp[tc]))) (ac (nm K) (ac (bS (gl K (y7 X)) (X.kept (by kernel_rfl)) (a1 (VE.eq (nm K) Nz)) (B5 X XT (mG.le (by simp[*])) ?_ ?_ ?_)) (a1 (dA (T:= "list") (da:= .list (parts.map λt=> .str (aS t))) (di:= .int (k:Nat)) K (nm K) (nm K) aR (bY ?_ ?_)))))
     ·rintro p hp
      obtain⟨t,ht,rfl⟩:=aw.mp hp
      have:=Yo t ht
      exact⟨by show((t:Int)).natAbs<1000000; exact Sy this,mU t this⟩
     ·rw[ai]; exact hwn
     ·rw[aM]; rfl
     ·rw[av,aj jl,ak,aj jl]; rfl
     ·exact Sz hn jl
    ·exact C5 X K (mG.le (by(first|lia|omega))) ij ij Pz kB (λu h=>by cases h) (λu h=>by cases h) (λu h=>by cases h) (by decide) (by decide) (by decide) (by decide)
    ·refine⟨k+1,_,_,_,_,_,_,by assumption,by simp; assumption,by rw[MS],?_,rfl⟩
     rw[ha,he,MS]; simp
end
end
end
section
section
open PySem PySem.W PyProof.Rows PySem.SeqAt PySem.Builtin PySem.Builtin.Str
open PySem (wpAny_nextOf_list_item)
section
variable {prog:gr}{w:World}{A:Around}{E:Value->Shared->Prop}{s:Shared}
theorem Ke{it:Addr}{x left step:Int}{Q:Value->Shared->Prop}(hit:iF s.heap it x left step)(FO:0<left)
 (hQ:∀h',iF h' it (x+step) (left-1) step->ft it s.heap h'->Q (.int x s.toks) {s with heap:=h',toks:=s.toks+1}):wpAny (model prog w) A (bG (.ref it)) Q E s:=by
 have hT:s.TypeIs (.ref it) "range_iterator":=⟨_,hit,rfl⟩
 unfold bG
 refine aa (gM (name:=J "__next__") hT F.slot_range_iterator_next
  (m7 F.slot_range_iterator_next hT F.entry_range_iterator_next (F.args_range_iterator_next_1 _) (AutoRange.range_iterator___next___range_iterator_1 it x left step (by exact SA FO)) ⟨hit,?_⟩))
 exact ao (hQ _ (bK _ (bK _ hit rfl) rfl) ((dR ..).trans (dR ..)))
theorem Mj{it:Addr}{x left step:Int}{Q:Value->Shared->Prop}(hh:A.handled=none)(hit:iF s.heap it x left step)(FO:left<=0)
 (hE:∀h' e,(∀b o,s.heap.get? b=some o->h'.get? b=some o)->(∃o,h'.get? e=some o/\o.cls= .type "StopIteration")->E (.ref e) {s with heap:=h'}):wpAny (model prog w) A (bG (.ref it)) Q E s:=by
 have hT:s.TypeIs (.ref it) "range_iterator":=⟨_,hit,rfl⟩
 unfold bG
 refine aa (gM (name:=J "__next__") hT F.slot_range_iterator_next
  (kS F.slot_range_iterator_next hT F.entry_range_iterator_next ?_ (F.args_range_iterator_next_1 _)))
 show wpAny _ _ (field (.ref it) 0 >>= _) _ _ s
 refine aa (dD hit rfl (x:=rawInt x) rfl ?_)
 show wpAny _ _ (field (.ref it) 1 >>= _) _ _ s
 refine aa (dD hit rfl (x:=rawInt left) rfl ?_)
 show wpAny _ _ (field (.ref it) 2 >>= _) _ _ s
 refine aa (dD hit rfl (x:=rawInt step) rfl ?_)
 show wpAny _ _ (if left<=0 then _ else _) _ _ s
 rw[if_pos FO]
 refine aa (mY ?_)
 refine aa ?_
 show wpAny _ _ (newExc (.type "StopIteration") [] >>= _) _ _ _
 refine aa ?_
 simp only[newExc,newTuple]
 refine aa (nN ?_ (by size_fits))
 refine aa (m:=firstArgMember _ _) (Jo (a:=d7) (by first|rfl|(simp only[firstArgMember]; rfl)) ?_)
 refine nN ?_ (by size_fits)
 simp only[raiseNew]
 refine aa (wpAny_handled ?_)
 first|rw[show A.in1.handled=none from hh]|rw[hh]
 refine aa (ao (wpAny_throw ?_))
 exact hE _ _ (λb o e=>aH _ (aH _ e)) ⟨_,bC _ rfl,rfl⟩
structure Zs(h:Heap)(b l2 l3:Addr)(xs ys:Array Value)(k:Nat)(left:Int):Prop where
 r:iF h b ((k:Int)+1) left 1
 i2:h.IsListIter (b+1) l2 k
 i3:h.IsListIter (b+2) l3 k
 TI:h.get? (b+3)=some {cls:= .type "tuple",data:= .seq #[.ref b, .ref (b+1), .ref (b+2)]}
 TO:∃x y z,h.get? (b+4)=some {cls:= .type "tuple",data:= .seq #[x,y,z]}
 L2:h.IsList l2 xs
 L3:h.IsList l3 ys
noncomputable abbrev mV(b:Addr)(f0 fb:Value):Obj:={cls:= .type "zip",data:= .fields #[f0,fb, .bool false, .ref (b+3), .ref (b+4)]}
theorem ldA{a:Addr}{Q:Option Obj->Shared->Prop}(h:Q (s.heap.get? a) s):wpAny (model prog w) A (loadIfAlive a) Q E s:=λ Γ p hΓ=>by
 show Sem.wp _ _ (.loadIfAlive a _) _ _ _ _
 rw[Sem.wp_loadIfAlive]; exact h
theorem gy(b:Addr){i j:Nat}(h:i≠j):(b+i:Addr)≠b+j:=λe=>h (Nat.add_left_cancel e)
theorem lA{l b:Addr}(h:l<b)(i:Nat):l≠b+i:=bg (fG h (gx _ _))
noncomputable abbrev nA(x y z:Value):Obj:={cls:= .type "tuple",data:= .seq #[x,y,z]}
theorem y9{b T:Addr}{o:Obj}{fb:Value}(hz:s.heap.get? (b+5)=some (mV b (rawInt T) fb))(hT:s.heap.get? T=some o):wpAny (model prog w) A (cv (.ref (b+5))) (λa s'=>a=false/\∃gd Kf,s'={s with heap:=gd}/\gd.get? (b+5)=some (mV b (rawInt T) Kf)/\ft (b+5) s.heap gd) E s:=by
 unfold cv
 refine aa (dD hz rfl (x:=rawInt T) rfl ?_)
 refine aa (ldA ?_)
 show wpAny _ _ (if(s.heap.get? T).isNone then _ else _) _ _ _
 rw[hT]
 refine aa (dD hz rfl (x:=fb) rfl ?_)
 show wpAny _ _ (if(fb != Value.bool true)=true then _ else _) _ _ _
 refine wpAny_ite_split (λ_=>?_) λ_=>?_
 ·exact aa (mX hz (by simp) λh' HQ JJ=>ao ⟨rfl,h',_,rfl,HQ,JJ⟩)
 ·exact ao ⟨rfl,s.heap,fb,rfl,hz,⟨rfl,λ_ _=>rfl⟩⟩
theorem C6{b l2 l3 T:Addr}{o:Obj}{fb x y:Value}{xs ys:Array Value}{k:Nat}{left:Int}{Q:Value->Shared->Prop}(hz:s.heap.get? (b+5)=some (mV b (rawInt T) fb))(hT:s.heap.get? T=some o)(Z:Zs s.heap b l2 l3 xs ys k left)(hl:0<left)(hx:xs[k]? =some x)(hy:ys[k]? =some y)(h2:l2<b)(h3:l3<b)(Kg:b+5≠T)
 (hQ:∀h' tk t Kf,h'.get? (b+5)=some (mV b (rawInt T) Kf)->Zs h' b l2 l3 xs ys (k+1) (left-1)->h'.get? s.heap.objs.size=some (nA (.int ((k:Int)+1) t) x y)->h'.objs.size=s.heap.objs.size+1->(∀c o,c≠b->c≠b+1->c≠b+2->c≠b+5->s.heap.get? c=some o->h'.get? c=some o)->Q (.ref s.heap.objs.size) {s with heap:=h',toks:=tk}):
 wpAny (model prog w) A (Builtin.«zip.__next__» ⟨[.ref (b+5)],[]⟩) (λfin s'=>∃v,fin= .done (.ret v)/\Q v s') E s:=by
 show wpAny _ _ (field (.ref (b+5)) 2 >>= _) _ _ _
 refine aa (dD hz rfl (x:= .bool false) rfl ?_)
 show wpAny _ _ (field (.ref (b+5)) 3 >>= _) _ _ _
 refine aa (dD hz rfl (x:= .ref (b+3)) rfl ?_)
 refine aa (gI Z.TI rfl ?_)
 show wpAny _ _ (cv (.ref (b+5)) >>= _) _ _ _
 refine aa (dC (y9 hz hT) (λa s' hq=>?_) λ_ _ e=>e)
 ·obtain⟨rfl,gd,Kf,rfl,wx,iQ⟩:=hq
  have k1:∀c o,c≠b+5->s.heap.get? c=some o->gd.get? c=some o:=iQ.extBut
  simp only[cb,if_false,DX,iM,jr]
  have Zr:iF gd b ((k:Int)+1) left 1:=k1 _ _ (gy b (i:=0) (j:=5) (by decide)) Z.r
  refine aa (aa (aa (aL ?_)))
  show wpAny _ _ (bG (.ref b) >>= λx=>pure (some x)) _ _ _
  refine aa (Ke Zr hl λwU FP qi=>ao ?_)
  show wpAny _ _ (pure _) _ _ _
  refine ao ?_
  show wpAny _ _ (_ >>= _) _ _ _
  refine aa (aa (aL ?_))
  show wpAny _ _ (bG (.ref (b+1)) >>= λx=>pure (some x)) _ _ _
  have k2:∀c o,c≠b->c≠b+5->s.heap.get? c=some o->wU.get? c=some o:=λc o c1 c2 e=>qi.extBut _ _ c1 (k1 c o c2 e)
  have PA:∀l xs,l<b->s.heap.IsList l xs->wU.IsList l xs:=λl xs hl h=>h.at λo e=>k2 _ o (lA hl 0) (lA hl 5) e
  refine aa (gZ (Z.i2.at λo e=>k2 _ o (gy b (i:=1) (j:=0) (by decide)) (gy b (by decide)) e) (PA _ _ h2 Z.L2) hx λFQ PB qF=>ao ?_)
  show wpAny _ _ (pure _) _ _ _
  refine ao ?_
  show wpAny _ _ (_ >>= _) _ _ _
  refine aa (aa (aL ?_))
  show wpAny _ _ (bG (.ref (b+2)) >>= λx=>pure (some x)) _ _ _
  have k3:∀c o,c≠b->c≠b+1->c≠b+5->s.heap.get? c=some o->FQ.get? c=some o:=λc o c1 c2 c3 e=>qF.extBut _ _ c2 (k2 c o c1 c3 e)
  have Yp:∀l xs,l<b->s.heap.IsList l xs->FQ.IsList l xs:=λl xs hl h=>h.at λo e=>k3 _ o (lA hl 0) (lA hl 1) (lA hl 5) e
  refine aa (gZ (Z.i3.at λo e=>k3 _ o (gy b (i:=2) (j:=0) (by decide)) (gy b (by decide)) (gy b (by decide)) e) (Yp _ _ h3 Z.L3) hy λpQ PC oA=>ao ?_)
  show wpAny _ _ (pure _) _ _ _
  refine ao ?_
  show wpAny _ _ (pure _) _ _ _
  refine ao ?_
  show wpAny _ _ (newTuple _ >>= _) _ _ _
  have fB:pQ.objs.size=s.heap.objs.size:=by rw[oA.1,qF.1,qi.1,iQ.1]
  refine aa (ka (ao ⟨_,rfl,?_⟩) (by show(3:Nat)<=lg; rw[bu]; decide))
  show Q (.ref pQ.objs.size) _
  rw[fB]
  have k4:∀c o,c≠b->c≠b+1->c≠b+2->c≠b+5->s.heap.get? c=some o->pQ.get? c=some o:=λc o c1 c2 c3 c4 e=>oA.extBut _ _ c3 (k3 c o c1 c2 c4 e)
  have kp:∀c o,pQ.get? c=some o->(pQ.push (nA (.int ((k:Int)+1) s.toks) x y)).get? c=some o:=λc o e=>aH _ e
  obtain⟨tx,ty,tz,Yq⟩:=Z.TO
  refine hQ (pQ.push (nA (.int ((k:Int)+1) s.toks) x y)) _ s.toks Kf (kp _ _ (oA.extBut _ _ (gy b (by decide)) (qF.extBut _ _ (gy b (by decide)) (qi.extBut _ _ (gy b (i:=5) (j:=0) (by decide)) wx)))) ⟨?_,?_,?_,?_,?_,?_,?_⟩ ?_ ?_ λc o c1 c2 c3 c4 e=>kp _ _ (k4 c o c1 c2 c3 c4 e)
  ·have:=kp _ _ (oA.extBut _ _ (gy b (i:=0) (j:=2) (by decide)) (qF.extBut _ _ (gy b (i:=0) (j:=1) (by decide)) FP))
   show iF _ _ _ _ _
   rw[show(((k+1:Nat):Int)+1)=(k:Int)+1+1 by exact SD]; exact this
  ·exact(PB.extBut oA.extBut (gy b (by decide))).at λo e=>kp _ o e
  ·exact PC.at λo e=>kp _ o e
  ·exact kp _ _ (k4 _ _ (gy b (i:=3) (j:=0) (by decide)) (gy b (by decide)) (gy b (by decide)) (gy b (by decide)) Z.TI)
  ·exact⟨tx,ty,tz,kp _ _ (k4 _ _ (gy b (i:=4) (j:=0) (by decide)) (gy b (by decide)) (gy b (by decide)) (gy b (by decide)) Yq)⟩
  ·exact Z.L2.at λo e=>kp _ o (k4 _ o (lA h2 0) (lA h2 1) (lA h2 2) (lA h2 5) e)
  ·exact Z.L3.at λo e=>kp _ o (k4 _ o (lA h3 0) (lA h3 1) (lA h3 2) (lA h3 5) e)
  ·rw[<-fB]; exact bC _ rfl
  ·rw[cZ,fB]
theorem FR{b l2 l3 T:Addr}{o:Obj}{fb:Value}{xs ys:Array Value}{k:Nat}{left:Int}{Q:Fin->Shared->Prop}(hh:A.handled=none)(hz:s.heap.get? (b+5)=some (mV b (rawInt T) fb))(hT:s.heap.get? T=some o)(Z:Zs s.heap b l2 l3 xs ys k left)(hl:left<=0)
 (hE:∀h' e,(∀c o,c≠b+5->s.heap.get? c=some o->h'.get? c=some o)->(∃o,h'.get? e=some o/\o.cls= .type "StopIteration")->E (.ref e) {s with heap:=h'}):
 wpAny (model prog w) A (Builtin.«zip.__next__» ⟨[.ref (b+5)],[]⟩) Q E s:=by
 show wpAny _ _ (field (.ref (b+5)) 2 >>= _) _ _ _
 refine aa (dD hz rfl (x:= .bool false) rfl ?_)
 show wpAny _ _ (field (.ref (b+5)) 3 >>= _) _ _ _
 refine aa (dD hz rfl (x:= .ref (b+3)) rfl ?_)
 refine aa (gI Z.TI rfl ?_)
 show wpAny _ _ (cv (.ref (b+5)) >>= _) _ _ _
 refine aa (dC (y9 hz hT) (λa s' hq=>?_) λ_ _ e=>e)
 obtain⟨rfl,gd,Kf,rfl,wx,iQ⟩:=hq
 simp only[cb,if_false,DX,iM,jr]
 refine aa (aa (aa (aL ?_)))
 show wpAny _ _ (bG (.ref b) >>= λx=>pure (some x)) _ _ _
 exact aa (Mj hh (iQ.extBut _ _ (gy b (i:=0) (j:=5) (by decide)) Z.r) hl λh' e hk he=>hE h' e (λc o c1 q=>hk c o (iQ.extBut c o c1 q)) he)
theorem Mk{T:Addr}{a b c x:Value}{k:Nat}{Q:Unit->Shared->Prop}(hT:s.heap.get? T=some (nA a b c))
 (h:∀h',h'.get? T=some {cls:= .type "tuple",data:= .seq ((#[a,b,c]:Array Value).setIfInBounds k x)}->ft T s.heap h'->Q () {s with heap:=h'}):
 wpAny (model prog w) A (xD T (·.setIfInBounds k x)) Q E s:=by
 refine lT hT rfl (h _ ?_ (dR ..))
 rw[bK _ hT rfl]
 simp[c8]
theorem AO{b l2 l3:Addr}{x y:Value}{xs ys:Array Value}{left:Int}{Q:Value->Shared->Prop}(hz:s.heap.get? (b+5)=some (mV b .none (.bool false)))(Z:Zs s.heap b l2 l3 xs ys 0 left)(hl:0<left)(hx:xs[0]? =some x)(hy:ys[0]? =some y)(h2:l2<b)(h3:l3<b)
 (hQ:∀h' tk t,h'.get? (b+5)=some (mV b (rawInt s.heap.objs.size) (.bool false))->Zs h' b l2 l3 xs ys 1 (left-1)->h'.get? s.heap.objs.size=some (nA (.int 1 t) x y)->h'.objs.size=s.heap.objs.size+1->(∀c o,c≠b->c≠b+1->c≠b+2->c≠b+4->c≠b+5->s.heap.get? c=some o->h'.get? c=some o)->Q (.ref s.heap.objs.size) {s with heap:=h',toks:=tk}):
 wpAny (model prog w) A (Builtin.«zip.__next__» ⟨[.ref (b+5)],[]⟩) (λfin s'=>∃v,fin= .done (.ret v)/\Q v s') E s:=by
 show wpAny _ _ (field (.ref (b+5)) 2 >>= _) _ _ _
 refine aa (dD hz rfl (x:= .bool false) rfl ?_)
 show wpAny _ _ (field (.ref (b+5)) 3 >>= _) _ _ _
 refine aa (dD hz rfl (x:= .ref (b+3)) rfl ?_)
 refine aa (gI Z.TI rfl ?_)
 show wpAny _ _ (cv (.ref (b+5)) >>= _) _ _ _
 refine aa ?_
 unfold cv
 refine aa (dD hz rfl (x:= .none) rfl (ao ?_))
 simp only[if_true]
 refine aa (mY ?_)
 refine aa (dD hz rfl (x:= .ref (b+4)) rfl ?_)
 refine aa (mX hz (by simp) λgd wx iQ=>?_)
 replace wx:gd.get? (b+5)=some (mV b .ellipsis (.bool false)):=wx
 simp only[List.zipIdx_cons,List.zipIdx_nil,iM,jr]
 obtain⟨tx,ty,tz,Yq⟩:=Z.TO
 have k1:∀c o,c≠b+5->s.heap.get? c=some o->gd.get? c=some o:=iQ.extBut
 refine aa ?_
 refine aa (aa (kY ?_))
 show wpAny _ _ (bG (.ref b) >>= _) _ _ _
 refine aa (Ke (k1 _ _ (gy b (i:=0) (j:=5) (by decide)) Z.r) hl λwU FP qi=>ao ?_)
 have k2:∀c o,c≠b->c≠b+5->s.heap.get? c=some o->wU.get? c=some o:=λc o c1 c2 e=>qi.extBut _ _ c1 (k1 c o c2 e)
 have t2:wU.get? (b+4)=some (nA tx ty tz):=k2 _ _ (gy b (i:=4) (j:=0) (by decide)) (gy b (by decide)) Yq
 refine aa (gI t2 rfl ?_)
 refine aa (Mk t2 λFQ t3 qF=>?_)
 refine aa (xT (ao ?_))
 refine aa (aa (kY ?_))
 show wpAny _ _ (bG (.ref (b+1)) >>= _) _ _ _
 have k3:∀c o,c≠b->c≠b+4->c≠b+5->s.heap.get? c=some o->FQ.get? c=some o:=λc o c1 c2 c3 e=>qF.extBut _ _ c2 (k2 c o c1 c3 e)
 have Yp:∀l xs,l<b->s.heap.IsList l xs->FQ.IsList l xs:=λl xs hl h=>h.at λo e=>k3 _ o (lA hl 0) (lA hl 4) (lA hl 5) e
 refine aa (gZ (Z.i2.at λo e=>k3 _ o (gy b (i:=1) (j:=0) (by decide)) (gy b (by decide)) (gy b (by decide)) e) (Yp _ _ h2 Z.L2) hx λpQ PD oA=>ao ?_)
 have t4:pQ.get? (b+4)=some (nA _ ty tz):=oA.extBut _ _ (gy b (by decide)) t3
 refine aa (gI t4 rfl ?_)
 refine aa (Mk t4 λPE t5 za=>?_)
 refine aa (xT (ao ?_))
 refine aa (aa (kY ?_))
 show wpAny _ _ (bG (.ref (b+2)) >>= _) _ _ _
 have k5:∀c o,c≠b->c≠b+1->c≠b+4->c≠b+5->s.heap.get? c=some o->PE.get? c=some o:=λc o c1 c2 c3 c4 e=>za.extBut _ _ c3 (oA.extBut _ _ c2 (k3 c o c1 c3 c4 e))
 have up5:∀l xs,l<b->s.heap.IsList l xs->PE.IsList l xs:=λl xs hl h=>h.at λo e=>k5 _ o (lA hl 0) (lA hl 1) (lA hl 4) (lA hl 5) e
 refine aa (gZ (Z.i3.at λo e=>k5 _ o (gy b (i:=2) (j:=0) (by decide)) (gy b (by decide)) (gy b (by decide)) (gy b (by decide)) e) (up5 _ _ h3 Z.L3) hy λYr PF wy=>ao ?_)
 have t6:Yr.get? (b+4)=some (nA _ _ tz):=wy.extBut _ _ (gy b (by decide)) t5
 refine aa (gI t6 rfl ?_)
 refine aa (Mk t6 λuu t7 wz=>?_)
 refine aa (xT (ao (ao ?_)))
 refine aa (gI t7 rfl ?_)
 refine aa (ka ?_ (by show(3:Nat)<=lg; rw[bu]; decide))
 have fB:uu.objs.size=s.heap.objs.size:=by rw[wz.1,wy.1,za.1,oA.1,qF.1,qi.1,iQ.1]
 have Kh:uu.get? (b+5)=some (mV b .ellipsis (.bool false)):=wz.extBut _ _ (gy b (by decide)) (wy.extBut _ _ (gy b (by decide)) (za.extBut _ _ (gy b (by decide)) (oA.extBut _ _ (gy b (by decide)) (qF.extBut _ _ (gy b (by decide)) (qi.extBut _ _ (gy b (i:=5) (j:=0) (by decide)) wx)))))
 have k7:∀c o,c≠b->c≠b+1->c≠b+2->c≠b+4->c≠b+5->s.heap.get? c=some o->uu.get? c=some o:=λc o c1 c2 c3 c4 c5 e=>wz.extBut _ _ c4 (wy.extBut _ _ c3 (k5 c o c1 c2 c4 c5 e))
 show wpAny _ _ (lG (.ref (b+5)) (.ref uu.objs.size) >>= _) _ _ _
 refine aa ?_
 unfold lG
 have PG:(uu.push (nA (.int 1 s.toks) x y)).get? (b+5)=some (mV b .ellipsis (.bool false)):=aH _ Kh
 refine aa (mX PG (by simp) λYs FT FU=>?_)
 replace FT:Ys.get? (b+5)=some (mV b (rawInt uu.objs.size) (.bool false)):=FT
 refine mX FT (by simp) λha QG Yt=>?_
 replace QG:ha.get? (b+5)=some (mV b (rawInt uu.objs.size) (.bool false)):=QG
 have up:∀c o,c≠b+5->uu.get? c=some o->ha.get? c=some o:=λc o c1 e=>Yt.extBut _ _ c1 (FU.extBut _ _ c1 (aH _ e))
 have ki:b+5<uu.objs.size:=bJ Kh
 have hT:ha.get? uu.objs.size=some (nA (.int 1 s.toks) x y):=Yt.extBut _ _ (gP ki) (FU.extBut _ _ (gP ki) (bC _ rfl))
 rw[fB] at QG hT
 refine ao ⟨_,rfl,?_⟩
 show Q (.ref uu.objs.size) _
 rw[fB]
 refine hQ ha _ s.toks QG ⟨?_,?_,?_,?_,?_,?_,?_⟩ hT (by rw[Yt.1,FU.1,cZ,fB]) λc o c1 c2 c3 c4 c5 e=>up c o c5 (k7 c o c1 c2 c3 c4 c5 e)
 ·exact up _ _ (gy b (i:=0) (j:=5) (by decide)) (wz.extBut _ _ (gy b (i:=0) (j:=4) (by decide)) (wy.extBut _ _ (gy b (i:=0) (j:=2) (by decide)) (za.extBut _ _ (gy b (i:=0) (j:=4) (by decide)) (oA.extBut _ _ (gy b (i:=0) (j:=1) (by decide)) (qF.extBut _ _ (gy b (i:=0) (j:=4) (by decide)) FP)))))
 ·exact PD.at λo e=>up _ o (gy b (by decide)) (wz.extBut _ _ (gy b (by decide)) (wy.extBut _ _ (gy b (by decide)) (za.extBut _ _ (gy b (by decide)) e)))
 ·exact PF.at λo e=>up _ o (gy b (by decide)) (wz.extBut _ _ (gy b (by decide)) e)
 ·exact up _ _ (gy b (by decide)) (k7 _ _ (gy b (i:=3) (j:=0) (by decide)) (gy b (by decide)) (gy b (by decide)) (gy b (by decide)) (gy b (by decide)) Z.TI)
 ·exact⟨_,_,_,up _ _ (gy b (by decide)) t7⟩
 ·exact Z.L2.at λo e=>up _ o (lA h2 5) (k7 _ o (lA h2 0) (lA h2 1) (lA h2 2) (lA h2 4) (lA h2 5) e)
 ·exact Z.L3.at λo e=>up _ o (lA h3 5) (k7 _ o (lA h3 0) (lA h3 1) (lA h3 2) (lA h3 4) (lA h3 5) e)
end
theorem xj(a b c:Value):checkTypeCall "zip" ⟨[a,b,c],[]⟩=pure ():=by kernel_rfl
theorem zb(a b c:Value):checkBuiltinCall "zip.__new__" ⟨[.type "zip",a,b,c],[]⟩=pure ():=by kernel_rfl
theorem FV(a b c d:Value):argsOk "object.__init__" ⟨[a,b,c,d],[]⟩:=by
 unfold argsOk; rw[signature?_of (id:= "object.__init__") (n:=['_','_','t','i','n','i','_','_']) (o:=['t','c','e','j','b','o']) (by kernel_rfl) F.owner_object]; kernel_rfl
theorem I2:kT (.type "zip") "__len__" =pure none:=by rw[lU,ib]; kernel_rfl
theorem FW:kT (.type "zip") "__length_hint__" =pure none:=by rw[lU,ib]; kernel_rfl
theorem C7{prog:gr}{w:World}{A:Around}{E:Value->Shared->Prop}{s:Shared}{rest:List Value}{Q:Value×List Value->Shared->Prop}(h:Q (.type "zip",rest) s):wpAny (model prog w) A (SmallTypes.newClass "zip" ⟨.type "zip" ::rest,[]⟩) Q E s:=by
 have yz:=sub_zip
 obtain⟨hp,g,d,tk,os⟩:=s
 wp_walk
 exact h
theorem FX{prog:gr}{w:World}{A:Around}{s:Shared}{r l2 l3:Addr}{a b:Int}{t u v:Tok}{xs ys:Array Value}{R:Result->Shared->Prop}(hs:gU a b 1=true)(hR:IsRange s.heap r a b 1 t u v)(h2:s.heap.IsList l2 xs)(h3:s.heap.IsList l3 ys)
 (h:∀h',h'.get? (s.heap.objs.size+5)=some (mV s.heap.objs.size .none (.bool false))->iF h' s.heap.objs.size a (eE a b 1) 1->h'.IsListIter (s.heap.objs.size+1) l2 0->h'.IsListIter (s.heap.objs.size+2) l3 0->h'.get? (s.heap.objs.size+3)=some (nA (.ref s.heap.objs.size) (.ref (s.heap.objs.size+1)) (.ref (s.heap.objs.size+2)))->h'.get? (s.heap.objs.size+4)=some (nA .none .none .none)->
  h'.objs.size=s.heap.objs.size+6->(∀c o,s.heap.get? c=some o->h'.get? c=some o)->R (.ok (.ret (.ref (s.heap.objs.size+5)))) {s with heap:=h'}):
 wpAny (model prog w) A.in1 (Builtin.«zip.__new__» ⟨[.type "zip", .ref r, .ref l2, .ref l3],[]⟩) (λfin s'=>∃v,fin=Fin.done (Flow.ret v)/\R (.ok (.ret v)) s') (λe s'=>R (.error e) s') s:=by
 unfold Builtin.«zip.__new__»
 refine aa (C7 ?_)
 show wpAny _ _ (xX [.ref r, .ref l2, .ref l3] >>= _) _ _ _
 refine aa ?_
 unfold xX
 simp only[iM,jr]
 refine aa (aa (aa (aL (wpAny_pyIter_range hR hs (ao ?_)))))
 show wpAny _ _ (_ >>= _) _ _ _
 refine aa (aa (aL (ik (h2.push _) (ao ?_))))
 show wpAny _ _ (_ >>= _) _ _ _
 refine aa (aa (aL (ik ((h3.push _).push _) (ao ?_))))
 show wpAny _ _ (pure _) _ _ _
 refine ao (ao ?_)
 refine aa (ka ?_ (by show(3:Nat)<=lg; rw[bu]; decide))
 refine aa (ka ?_ (by show(3:Nat)<=lg; rw[bu]; decide))
 show wpAny _ _ (newObj (.type "zip") (.fields #[.none, .bool false, .bool false,_,_]) >>= _) _ _ _
 refine aa (nN ?_ (by size_fits))
 refine ao ?_
 simp only[cZ,List.push_toArray,oG,jZ,aO,zJ]
 have g:∀{h:Heap} {o:Obj} {c:Addr} {x:Obj},h.get? c=some x->(h.push o).get? c=some x:=λe=>aH _ e
 have z:∀{h:Heap} {o:Obj} {n:Nat},h.objs.size=n->o.isFreed=false->(h.push o).get? n=some o:=λe q=>e▸bC _ q
 refine⟨_,rfl,?_⟩
 refine h _ (z ?_ rfl) (g (g (g (g (g (bC _ rfl)))))) ⟨_,g (g (g (g (z ?_ rfl)))),rfl,rfl⟩ ⟨_,g (g (g (z ?_ rfl))),rfl,rfl⟩ (g (g (z ?_ rfl))) (g (z ?_ rfl)) ?_ λc o e=>g (g (g (g (g (g e)))))
 all_goals simp[cZ]
theorem C8{prog:gr}{w:World}{A:Around}{E:Value->Shared->Prop}{s:Shared}{r l2 l3:Addr}{a b:Int}{t u v:Tok}{xs ys:Array Value}{Q:Value->Shared->Prop}(hs:gU a b 1=true)(hR:IsRange s.heap r a b 1 t u v)(h2:s.heap.IsList l2 xs)(h3:s.heap.IsList l3 ys)
 (h:∀h',h'.get? (s.heap.objs.size+5)=some (mV s.heap.objs.size .none (.bool false))->iF h' s.heap.objs.size a (eE a b 1) 1->h'.IsListIter (s.heap.objs.size+1) l2 0->h'.IsListIter (s.heap.objs.size+2) l3 0->h'.get? (s.heap.objs.size+3)=some (nA (.ref s.heap.objs.size) (.ref (s.heap.objs.size+1)) (.ref (s.heap.objs.size+2)))->h'.get? (s.heap.objs.size+4)=some (nA .none .none .none)->
  h'.objs.size=s.heap.objs.size+6->(∀c o,s.heap.get? c=some o->h'.get? c=some o)->Q (.ref (s.heap.objs.size+5)) {s with heap:=h'}):wpAny (model prog w) A (call (.type "zip") [.ref r, .ref l2, .ref l3]) Q E s:=by
 refine callType_new (S:=λ_ R s=>IsRange s.heap r a b 1 t u v/\s.heap.IsList l2 xs/\s.heap.IsList l3 ys/\∀h',h'.get? (s.heap.objs.size+5)=some (mV s.heap.objs.size .none (.bool false))->iF h' s.heap.objs.size a (eE a b 1) 1->h'.IsListIter (s.heap.objs.size+1) l2 0->h'.IsListIter (s.heap.objs.size+2) l3 0->h'.get? (s.heap.objs.size+3)=some (nA (.ref s.heap.objs.size) (.ref (s.heap.objs.size+1)) (.ref (s.heap.objs.size+2)))->h'.get? (s.heap.objs.size+4)=some (nA .none .none .none)->
  h'.objs.size=s.heap.objs.size+6->(∀c o,s.heap.get? c=some o->h'.get? c=some o)->R (.ok (.ret (.ref (s.heap.objs.size+5)))) {s with heap:=h'}) F.called_zip (by decide) (xj _ _ _) (zb _ _ _) (λobj=>FV obj _ _ _) F.entry_zip_new
  (.of_wp λprog w A R s h=>FX hs h.1 h.2.1 h.2.2.1 h.2.2.2) ⟨hR,h2,h3,λh' g1 g2 g3 g4 g5 g6 g7 g8=>?_⟩
 show _/\_
 exact⟨⟨_,g1,rfl⟩,h h' g1 g2 g3 g4 g5 g6 g7 g8⟩
noncomputable def Yu(h:Heap)(b:Addr)(xs ys:Array Value)(acc:Array Value)(i:Nat):Prop:=acc.size=i/\∀j,j<i->∃(T:Addr) (t:Tok) (x y:Value),acc[j]? =some (.ref T)/\h.get? T=some (nA (.int ((j:Int)+1) t) x y)/\xs[j]? =some x/\ys[j]? =some y/\b+7<=T
noncomputable def Zst(h:Heap)(b:Addr):Nat->Prop
 | 0=>h.get? (b+5)=some (mV b .none (.bool false))
 |_+1=>∃(T:Addr) (fb:Value) (o:Obj),h.get? (b+5)=some (mV b (rawInt T) fb)/\h.get? T=some o/\b+7<=T
noncomputable abbrev I3(acc:Array Value)(c:Nat):Obj:={cls:= .type "list",dict:=none,data:= .seq acc c,slots:=#[]}
section
variable {prog:gr}{w:World}{A:Around}
theorem iZ{b T:Addr}(h:b+7<=T){i:Nat}(hi:i<7):T≠b+i:=λe=>absurd (Nat.add_le_add_iff_left.mp (e▸h)) (Nat.not_le.mpr hi)
theorem C9{R:Result->Shared->Prop}{b l2 l3:Addr}{xs ys:Array Value}{n:Nat}{h0:Heap}(hh:A.handled=none)(h2:l2<b)(h3:l3<b)(hx:n<=xs.size)(hy:n<=ys.size)(hn:n<=100000)(MT:0<n):
 ∀(k i:Nat) (s:Shared) (acc:Array Value) (c:Nat),n-i=k->i<=n->Zst s.heap b i->Zs s.heap b l2 l3 xs ys i ((n:Int)-i)->s.heap.get? (b+6)=some (I3 acc c)->Yu s.heap b xs ys acc i->(∀c o,c<b->h0.get? c=some o->s.heap.get? c=some o)->b+7<=s.heap.objs.size->
 (∀h' tk xk c',h'.get? (b+6)=some (I3 xk c')->Yu h' b xs ys xk n->(∀c o,c<b->h0.get? c=some o->h'.get? c=some o)->R (.ok (.ret .none)) {s with heap:=h',toks:=tk})->
 eC (model prog w) A (.builtin "list.extend.loop" ⟨[.ref (b+6), .ref (b+5), .none],[]⟩) R s:=by
 intro k
 induction k with
 |zero=>
  intro i s acc c hk hi hz Z hS hI Ph fB hR
  have Ha:i=n:=by exact SE hk hi
  subst Ha
  refine codeAny_builtin F.entry_extend_loop ?_
  rw[zM F.plain_extend_loop _]
  show wpAny _ A.in1 (pyNext (.ref (b+5)) >>= _) _ _ s
  obtain⟨m,rfl⟩:∃m,i=m+1:=⟨i-1,by exact SG hn MT⟩
  obtain⟨T,fb,o,hz,hT,Kg⟩:=hz
  have Ki:s.TypeIs (.ref (b+5)) "zip":=⟨_,hz,rfl⟩
  unfold pyNext
  refine aa (aa (sL (gM (name:=J "__next__") Ki F.slot_zip_next
   (kS F.slot_zip_next Ki F.entry_zip_next (FR hh hz hT Z (by exact ew 0x3e808228082181 tt) λh' e oX he=>?_) (F.args_zip_next_1 _)))))
  obtain⟨oe,ho,hc⟩:=he
  refine aa (wpAny_isInstance (T:= "StopIteration") (b:=true) ⟨oe,ho,hc⟩ isSubtype_stop ?_)
  refine ao ?_
  refine ao (hR h' _ acc c (oX _ _ (gy b (by decide)) hS) ⟨hI.1,λj hj=>?_⟩ λc o hc e=>oX c o (lA hc 5) (Ph c o hc e))
  obtain⟨T,t,x,y,a1,a2,a3,a4,a5⟩:=hI.2 j hj
  exact⟨T,t,x,y,a1,oX _ _ (iZ a5 (by decide)) a2,a3,a4,a5⟩
 |succ k ih=>
  intro i s acc c hk hi hz Z hS hI Ph fB hR
  have ki:i<n:=by exact SH hk hi
  obtain⟨x,Ml⟩:∃x,xs[i]? =some x:=⟨_,lZ (by exact Hy hx ki)⟩
  obtain⟨y,NM⟩:∃y,ys[i]? =some y:=⟨_,lZ (by exact Hy hy ki)⟩
  refine codeAny_builtin F.entry_extend_loop ?_
  rw[zM F.plain_extend_loop _]
  show wpAny _ A.in1 (pyNext (.ref (b+5)) >>= _) _ _ s
  have fin:∀h' tk t,Zst h' b (i+1)->Zs h' b l2 l3 xs ys (i+1) ((n:Int)-i-1)->h'.get? s.heap.objs.size=some (nA (.int ((i:Int)+1) t) x y)->h'.objs.size=s.heap.objs.size+1->(∀c o,c≠b->c≠b+1->c≠b+2->c≠b+4->c≠b+5->s.heap.get? c=some o->h'.get? c=some o)->
   wpAny (model prog w) A.in1 (xD (b+6) (·.push (.ref s.heap.objs.size)) >>= λ_=>again (.builtin "list.extend.loop" ⟨[.ref (b+6), .ref (b+5), .none],[]⟩)) (λfin s'=>match fin with| .done f=>R (.ok f) s'| .again c'=>c'.quiet=true/\eC (model prog w) A c' R s') (λe s'=>R (.error e) s') {s with heap:=h',toks:=tk}:=by
   intro h' tk t z1 z2 z3 z4 z5
   have hS':=z5 _ _ (gy b (i:=6) (j:=0) (by decide)) (gy b (by decide)) (gy b (by decide)) (gy b (by decide)) (gy b (by decide)) hS
   refine aa ?_
   have zA:∀c o,c≠b+6->h'.get? c=some o->(h'.update (b+6) (c8 (·.push (.ref s.heap.objs.size)))).get? c=some o:=λc o hc e=>(ct _ _ (Ne.symm hc)).trans e
   refine lT hS' rfl (ao ⟨plainId_quiet F.plain_extend_loop _,ih (i+1) _ (acc.push (.ref s.heap.objs.size)) _ (by exact SI hk ki) ki ?_ ⟨?_,?_,?_,?_,?_,?_,?_⟩ (bK _ hS' rfl) ⟨?_,λj hj=>?_⟩ ?_ ?_ ?_⟩) ?_ ?_
   ·obtain⟨T,fb,o,e1,e2,e3⟩:=z1
    exact⟨T,fb,o,zA _ _ (gy b (by decide)) e1,zA _ _ (iZ e3 (by decide)) e2,e3⟩
   ·have:=zA _ _ (gy b (i:=0) (j:=6) (by decide)) z2.r
    rw[show((n:Int)-((i+1:Nat):Int))=(n:Int)-i-1 by exact SJ]; exact this
   ·exact z2.i2.at λo e=>zA _ o (gy b (by decide)) e
   ·exact z2.i3.at λo e=>zA _ o (gy b (by decide)) e
   ·exact zA _ _ (gy b (by decide)) z2.TI
   ·obtain⟨p,q,r,e⟩:=z2.TO; exact⟨p,q,r,zA _ _ (gy b (by decide)) e⟩
   ·exact z2.L2.at λo e=>zA _ o (lA h2 6) e
   ·exact z2.L3.at λo e=>zA _ o (lA h3 6) e
   ·rw[Ho,hI.1]
   ·rcases fX j i with BJ|BJ
    ·obtain⟨T,t,x,y,a1,a2,a3,a4,a5⟩:=hI.2 j BJ
     refine⟨T,t,x,y,?_,zA _ _ (iZ a5 (by decide)) (z5 _ _ (iZ a5 (i:=0) (by decide)) (iZ a5 (by decide)) (iZ a5 (by decide)) (iZ a5 (by decide)) (iZ a5 (by decide)) a2),a3,a4,a5⟩
     rw[Array.getElem?_push_lt (by rw[hI.1]; exact BJ)]
     rw[lZ (by rw[hI.1]; exact BJ)] at a1
     exact a1
    ·obtain rfl:j=i:=by exact SK hj BJ
     refine⟨s.heap.objs.size,t,x,y,?_,zA _ _ (iZ fB (by decide)) z3,Ml,NM,fB⟩
     have:=hI.1
     subst this
     exact xQ
   ·exact λc o hc e=>zA c o (lA hc 6) (z5 c o (lA hc 0) (lA hc 1) (lA hc 2) (lA hc 4) (lA hc 5) (Ph c o hc e))
   ·show b+7<=(h'.update _ _).objs.size
    rw[(dR (a:=b+6) (h:=h') ..).1,z4]; exact Nat.le_succ_of_le fB
   ·exact λh'' Yv xk c' g1 g2 g3=>hR h'' Yv xk c' g1 g2 g3
   ·rw[hI.1,bu]; exact aX 0xa060108716d4240084308421084821 tt hn ki
   ·show(acc.push _).size<=lg+1; rw[Ho,hI.1,bu]; exact aX 0xa060108716d4240086818421084250a0601 tt hn ki
  cases i with
  |zero=>
   have Ki:s.TypeIs (.ref (b+5)) "zip":=⟨_,hz,rfl⟩
   unfold pyNext
   refine aa (aa (sL (gM (name:=J "__next__") Ki F.slot_zip_next
    (kS F.slot_zip_next Ki F.entry_zip_next (AO hz Z (by exact ew 0x293804334010c83d61 tt MT) Ml NM h2 h3 λh' tk t g1 g2 g3 g4 g5=>ao ?_) (F.args_zip_next_1 _)))))
   exact fin h' tk t ⟨_,_,_,g1,g3,fB⟩ g2 g3 g4 g5
  |succ i=>
   obtain⟨T,fb,o,hz,hT,Kg⟩:=hz
   have Ki:s.TypeIs (.ref (b+5)) "zip":=⟨_,hz,rfl⟩
   unfold pyNext
   refine aa (aa (sL (gM (name:=J "__next__") Ki F.slot_zip_next
    (kS F.slot_zip_next Ki F.entry_zip_next (C6 hz hT Z (by exact je 0x694042010d0104050c83d61 tt ki) Ml NM h2 h3 (Ne.symm (iZ Kg (by decide))) λh' tk t Kf g1 g2 g3 g4 g5=>ao ?_) (F.args_zip_next_1 _)))))
   exact fin h' tk t ⟨T,Kf,o,g1,g5 _ _ (iZ Kg (i:=0) (by decide)) (iZ Kg (by decide)) (iZ Kg (by decide)) (iZ Kg (by decide)) hT,Kg⟩ g2 g3 g4 λc o c1 c2 c3 _ c5 e=>g5 c o c1 c2 c3 c5 e
end
section
variable {prog:gr}{w:World}{A:Around}{E:Value->Shared->Prop}{s:Shared}
theorem AP{b:Addr}{f0 fb:Value}{Q:Bool->Shared->Prop}(hz:s.heap.get? (b+5)=some (mV b f0 fb))(h:Q true s):wpAny (model prog w) A (qV (.ref (b+5))) Q E s:=by
 unfold qV
 refine aa (zp ⟨_,hz,rfl⟩ I2 ?_)
 show wpAny _ _ (specialOf (.ref (b+5)) (J "__length_hint__") >>= _) _ _ _
 exact aa (zp ⟨_,hz,rfl⟩ FW (ao h))
theorem Dc{Q:Value->Shared->Prop}{b l2 l3:Addr}{xs ys:Array Value}{n:Nat}(hh:A.handled=none)(h2:l2<b)(h3:l3<b)(hx:n<=xs.size)(hy:n<=ys.size)(hn:n<=100000)(MT:0<n)
 (hz:s.heap.get? (b+5)=some (mV b .none (.bool false))) (Z:Zs s.heap b l2 l3 xs ys 0 n) (fB:s.heap.objs.size=b+6)
 (hQ:∀h' tk xk c',h'.get? (b+6)=some (I3 xk c')->Yu h' b xs ys xk n->(∀c o,c<b->s.heap.get? c=some o->h'.get? c=some o)->Q (.ref (b+6)) {s with heap:=h',toks:=tk}):
 wpAny (model prog w) A (call (.type "list") [.ref (b+5)]) Q E s:=by
 have key:∀(pQ:Heap) (Mm:Nat),pQ.get? (b+6)=some (I3 #[] Mm)->(∀c o,c≠b+6->s.heap.get? c=some o->pQ.get? c=some o)->pQ.objs.size=b+7->eC (model prog w) A.in1 (.builtin "list.extend.loop" ⟨[.ref (b+6), .ref (b+5), .none],[]⟩) (wants (λr sU=>r= .none/\Q (.ref (b+6)) sU) E) {s with heap:=pQ}:=by
  intro pQ Mm g1 all g2
  refine C9 (A:=A.in1) (h0:=s.heap) hh h2 h3 hx hy hn MT n 0 {s with heap:=pQ} #[] Mm rfl (fC _) ?_ ⟨?_,?_,?_,?_,?_,?_,?_⟩ g1 ⟨rfl,λj hj=>absurd hj (Kw _)⟩ (λc o hc e=>all c o (lA hc 6) e) (ah g2.symm) λh' tk' xk c' g1 g2 g3=>⟨rfl,hQ h' tk' xk c' g1 g2 g3⟩
  ·exact all _ _ (gy b (by decide)) hz
  ·rw[show((n:Int)-((0:Nat):Int))=n by rfl]; exact all _ _ (gy b (i:=0) (j:=6) (by decide)) Z.r
  ·exact Z.i2.at λo e=>all _ o (gy b (by decide)) e
  ·exact Z.i3.at λo e=>all _ o (gy b (by decide)) e
  ·exact all _ _ (gy b (by decide)) Z.TI
  ·obtain⟨p,q,r,e⟩:=Z.TO; exact⟨p,q,r,all _ _ (gy b (by decide)) e⟩
  ·exact Z.L2.at λo e=>all _ o (lA h2 6) e
  ·exact Z.L3.at λo e=>all _ o (lA h3 6) e
 refine callType_codes (Q₁:=λobj cU=>obj= .ref s.heap.objs.size/\cU={s with heap:=s.heap.push {cls:= .type "list",data:= .seq #[]}}) F.called_list (F.typeCall_list_1 _) F.entry_list_init
  (code_list_new _ ⟨rfl,rfl⟩) λobj cU gd=>?_
 obtain⟨rfl,rfl⟩:=gd
 have up:∀c o,s.heap.get? c=some o->(s.heap.push {cls:= .type "list",data:= .seq #[]}).get? c=some o:=λc o e=>aH _ e
 have hS:(s.heap.push {cls:= .type "list",data:= .seq #[]}).get? (b+6)=some {cls:= .type "list",data:= .seq #[]}:=fB▸bC _ rfl
 have hs1:(s.heap.push {cls:= .type "list",data:= .seq #[]}).objs.size=b+7:=by rw[cZ,fB]
 rw[fB]
 generalize s.heap.push {cls:= .type "list",data:= .seq #[]}=gd at up hS hs1
 refine⟨⟨_,hS,rfl⟩,F.args_list_init_2 _ _,?_⟩
 show wpAny _ _ (do let old <-sT (.ref (b+6)); Builtin.List.listUpdate (.ref (b+6)) (λ_=>#[]); letGo old.toList.reverse; jM (.ref (b+6)) (.ref (b+5)) .none) _ _ _
 refine aa ?_
 unfold sT
 refine aa (gI hS rfl (ao ?_))
 show wpAny _ _ (xD (b+6) (λ_=>#[]) >>= λ_=>letGo (#[]:Array Value).toList.reverse >>= λ_=>jM (.ref (b+6)) (.ref (b+5)) .none) _ _ _
 refine aa (lT hS rfl ?_)
 have zA:∀{h:Heap} {f} {c:Addr} {o},c≠b+6->h.get? c=some o->(h.update (b+6) f).get? c=some o:=λhc e=>(ct _ _ (Ne.symm hc)).trans e
 have ups:∀{h:Heap} {f},h.objs.size=b+7->(h.update (b+6) f).objs.size=b+7:=λe=>(dR ..).1.trans e
 have FY:=bK (c8 (λ_=>(#[]:Array Value))) hS rfl
 have JQ:=ups (f:=c8 (λ_=>(#[]:Array Value))) hs1
 have PA:∀c o,c≠b+6->s.heap.get? c=some o->(gd.update (b+6) (c8 (λ_=>(#[]:Array Value)))).get? c=some o:=λc o hc e=>zA hc (up _ _ e)
 generalize gd.update (b+6) (c8 (λ_=>(#[]:Array Value)))=h₂' at FY JQ PA
 refine aa (xT ?_)
 have FZ:=PA _ _ (gy b (i:=5) (j:=6) (by decide)) hz
 unfold jM
 refine aa (wpAny_typeOf (T:= "zip") ⟨_,FZ,rfl⟩ ?_)
 have h1:r9 (.ref (b+6)) (.ref (b+5))=false:=by simpa [r9] using gy b (i:=6) (j:=5) (by decide)
 have zz:(lh "zip" ==lh "list")=false:=by decide
 have Lc:(lh "zip" ==lh "tuple")=false:=by decide
 simp only[h1,zz,Lc,ya,cb,if_false]
 refine aa (xB FZ ?_)
 refine aa (aL (AP FZ ?_))
 refine wpAny_ite_split (λ_=>?_) λMK=>absurd rfl MK
 refine aa (mY ?_)
 refine aa ?_
 show wpAny _ _ (xD (b+6) (·.push .none) >>= λ_=>xD (b+6) (·.pop)) _ _ _
 refine aa (lT FY rfl ?_)
 have Kj:=bK (c8 (·.push d7)) FY rfl
 refine lT (hz:=by seq_fits) Kj rfl ?_
 have PH:=bK (c8 (·.pop)) Kj rfl
 exact ao ⟨plainId_quiet F.plain_extend_loop _,key _ _ PH (λc o hc e=>zA hc (zA hc (PA c o hc e))) (ups (ups JQ))⟩
end
section
variable {W:Wd}{C:Cx}{ρ:Ro}{names:List (Str×aC)}{f o:Fz}{s:Shared}
noncomputable def Fz.mj(f:Fz)(b:Addr)(h:Heap):Fz:=λa=>if Nat.ble b a then h.get? a else f a
theorem zc{b a:Addr}{h:Heap}(hb:b<=a):f.mj b h a=h.get? a:=by unfold Fz.mj; rw[if_pos (Nat.ble_eq.mpr hb)]
theorem uv{b a:Addr}{h:Heap}(hb:a<b):f.mj b h a=f a:=by
 unfold Fz.mj; rw[if_neg (λq=>absurd (Ct q) (Nat.not_le.mpr hb))]
theorem St.I4(S:St W.B f o s){h':Heap}{tk:Tok}(hk:∀c x,c<s.heap.objs.size->s.heap.get? c=some x->h'.get? c=some x):f.le (f.mj s.heap.objs.size h')/\St W.B (f.mj s.heap.objs.size h') o {s with heap:=h',toks:=tk}:=by
 have le:f.le (f.mj s.heap.objs.size h'):=λa x e=>(uv (S.lt (.inl e))).trans e
 have cs:∀a x,f.mj s.heap.objs.size h' a=some x->(s.heap.objs.size<=a/\h'.get? a=some x)\/(a<s.heap.objs.size/\f a=some x):=λa x e=>by
  rcases fX a s.heap.objs.size with h|h
  ·exact .inr ⟨h,(uv h).symm.trans e⟩
  ·exact .inl ⟨h,(zc h).symm.trans e⟩
 refine⟨le,λa x e=>?_,λa x e=>hk a x (S.lt (.inr e)) (S.own a x e),λa x e=>?_,S.base.trans le,λc hc=>let⟨z,hz,hq⟩:=S.tab c hc; ⟨z,hk c z (S.jt hc) hz,hq⟩,λc hc=>⟨(uv (S.jt hc)).trans (S.fo c hc).1,(S.fo c hc).2⟩,S.os,S.gens⟩
 ·rcases cs a x e with⟨_,h⟩|⟨h,e⟩
  ·exact h
  ·exact hk a x h (S.sub a x e)
 ·rcases cs a x e with⟨h,_⟩|⟨_,e⟩
  ·exact none_of λy q=>absurd (S.lt (.inr q)) (GU.mpr h)
  ·exact S.apart a x e
theorem De(K:CK C names){f1 f2 e1 e2 e3:Expr}{p1 p2:Pos}{xs ys:List D}{n:Nat}(Yw:VE W C ρ f1 (.raw (.type "list")))(MU:VE W C ρ f2 (.raw (.type "zip")))(ha:VA W C ρ [e1,e2,e3] [.Bo 1 ((n:Int)+1), .list xs, .list ys])(hx:n<=xs.length)(hy:n<=ys.length)(hn:n<=1000)(MT:0<n)
 (hp:autoParam ((aI [e1,e2,e3] C.env).all (λx=>!x.1)=true) fL._auto_1) (Ma:autoParam (eval (.Call f1 [.Call f2 [e1,e2,e3] [] p2] [] p1) C.env=(do fR p1 (<-eval f1 C.env) [] (backTo p1 (aI [.Call f2 [e1,e2,e3] [] p2] C.env)) (gp p1 (dG [] C.env)))) fL._auto_1)
 (he2:autoParam (eval (.Call f2 [e1,e2,e3] [] p2) C.env=(do fR p2 (<-eval f2 C.env) [] (backTo p2 (aI [e1,e2,e3] C.env)) (gp p2 (dG [] C.env)))) fL._auto_1) (pd:autoParam (aI [.Call f2 [e1,e2,e3] [] p2] C.env=[(false,eval (.Call f2 [e1,e2,e3] [] p2) C.env)]) fL._auto_1):
 VE W C ρ (.Call f1 [.Call f2 [e1,e2,e3] [] p2] [] p1) (.list ((aB n).map λ(i:Nat)=> .tup [.int ((i:Int)+1),xs.getD i .none,ys.getD i .none])):=ve λf o s S H Q E h=>by
 rw[Ma]
 refine aa (Yw.un f o s S H _ _ λv f1' s1 l1 S1 d1=>?_)
 obtain rfl:v= .type "list":=d1
 have jl:(backTo p1 (aI [Expr.Call f2 [e1,e2,e3] [] p2] C.env)).any (·.1)=false:=cn p1 _ C.env (by rw[pd]; rfl)
 refine d6 (P:=λh=>∀a x,W.B.f a=some x->h.get? a=some x) (by rw[jl]; rfl) (Kept.type (W:=W)) (dj jl ?_)
 rw[pd]
 refine dO ?_
 rw[he2]
 refine aa (MU.un f1' o s1 S1 (H.mono l1 (.refl o)) _ _ λv f2' s2 l2 S2 d2=>?_)
 obtain rfl:v= .type "zip":=d2
 have PI:=cn p2 [e1,e2,e3] C.env hp
 refine d6 (P:=λh=>∀a x,W.B.f a=some x->h.get? a=some x) (by rw[PI]; rfl) (Kept.type (W:=W)) (dj PI ?_)
 refine ha.un p2 f2' o s2 S2 (H.mono (l1.trans l2) (.refl o)) _ _ λvs f3 s3 l3 S3 d3=>⟨S3.bT,?_⟩
 obtain⟨v1,r1,rfl,⟨r,t,u,w,rfl,er⟩,v2,r2,rfl,⟨a2,o2,Yx,n2,rfl,q1,q2,q3,q4⟩,v3,r3,rfl,⟨a3,o3,Yy,n3,rfl,q5,q6,q7,q8⟩,q9⟩:=d3
 obtain rfl:r3=[]:=q9
 have Mn:gU 1 ((n:Int)+1) 1=true:=oj (by simp[*]) (by simp[*]) (by exact ew 0x40085be92a4141 tt) (by exact ew 0x7ec48010be92a413002161 tt hn)
 have MS:eE 1 ((n:Int)+1) 1=n:=by rw[kK rfl]; simp[*]
 refine C8 (xs:=⟨Yx⟩) (ys:=⟨Yy⟩) Mn (S3.sub _ _ er) ⟨o2,S3.sub _ _ q1,q2.1,n2,q3⟩ ⟨o3,S3.sub _ _ q5,q6.1,n3,q7⟩ λh' g1 g2 g3 g4 g5 g6 g7 g8=>?_
 rw[MS] at g2
 refine d9 ⟨λa x e=>g8 _ _ (S3.bT a x e),?_⟩
 refine Dc (l2:=a2) (l3:=a3) (xs:=⟨Yx⟩) (ys:=⟨Yy⟩) (n:=n) K.hand (S3.lt (.inl q1)) (S3.lt (.inl q5)) (by show n<=Yx.length; rw[q4.length]; exact hx) (by show n<=Yy.length; rw[q8.length]; exact hy) (by exact aN 0xfd8900210e2da84801 tt hn) MT g1 ⟨g2,g3,g4,g5,⟨_,_,_,g6⟩,⟨o2,g8 _ _ (S3.sub _ _ q1),q2.1,n2,q3⟩,⟨o3,g8 _ _ (S3.sub _ _ q5),q6.1,n3,q7⟩⟩ g7 λhh tk acc c k1 k2 k3=>?_
 obtain⟨lf,S4⟩:=S3.I4 (h':=hh) (tk:=tk) λc x hc e=>k3 c x hc (g8 _ _ e)
 have PJ:∀{a:Addr} {i:Nat} {x:Obj},s3.heap.objs.size+i<=a->hh.get? a=some x->f3.mj s3.heap.objs.size hh a=some x:=λhi e=>(zc (aP (gx _ _) hi)).trans e
 refine h _ _ _ (l1.trans (l2.trans (l3.trans lf))) S4 ⟨_,_,acc.toList,c,rfl,PJ (i:=6) (bL _) k1,⟨rfl,rfl,rfl⟩,by simp,?_⟩
 have key:∀(m j:Nat) (l:List Value),l.length=m->j+m=n->(∀i v,l[i]? =some v->acc[j+i]? =some v)->bQ (f3.mj s3.heap.objs.size hh) ((bB j m).map λ(i:Nat)=> .tup [.int ((i:Int)+1),xs.getD i .none,ys.getD i .none]) l:=by
  intro m
  induction m with
  |zero=>intro j l hl _ _; rw[i7.mp hl]; rfl
  |succ m ih=>
   intro j l hl hj hv
   cases l with
   |nil=>exact nomatch hl
   |cons v l=>
    obtain⟨T,t',x,y,a1,a2',a3',a4',a5⟩:=k2.2 j (by exact cG 0x2a060080422a0201 tt (ah hj))
    have:=hv 0 v rfl
    rw[lj,a1] at this
    obtain rfl: .ref T=v:=cg this
    obtain⟨d1,w4,xS⟩:=q4.get' (i:=j) (v:=x) (by simpa using a3')
    obtain⟨d2,w5,tA⟩:=q8.get' (i:=j) (v:=y) (by simpa using a4')
    refine⟨_,l,rfl,⟨T,_,_,0,rfl,PJ a5 a2',rfl,rfl, .cons ⟨t',rfl⟩ (.cons ?_ (.cons ?_ .nil))⟩,ih (j+1) l (by simpa using hl) (by exact Y6 hj) λi v hi=>?_⟩
    ·rw[ak,w4]; exact xS.mono lf
    ·rw[ak,w5]; exact tA.mono lf
    ·rw[GV,ra]; exact hv (i+1) v (by simpa using hi)
 have:=key n 0 acc.toList (by simpa using k2.1) (by exact SM) λi v hi=>by rw[fW]; simpa using hi
 rw[kk]; exact this
end
noncomputable def F0(y:Int):Ed:=⟨(y.fmod 4).toNat,((y.fdiv 16).fmod 3).toNat,((y.fdiv 4).fmod 4).toNat,y.fdiv 48⟩
noncomputable def pe(ns:List Int):List Ed:=(draws ns).map F0
noncomputable def rE(i:Nat):Nat:=bU.getD i 0
noncomputable def pR(e:Ed):Nat:=e.great.toNat % 2*4+e.low
noncomputable def jX(e:Ed):Nat:=e.great.toNat / 2*4+e.high
noncomputable def cp(e:Ed):List Nat:=rE (pR e)::(mi e.sg++[rE (jX e)])
noncomputable def ux(i:Nat):Nat:=if i=0 then 20 else if i=1 then 21 else 27
noncomputable def rowOf(e:Ed):Row:=⟨rE (pR e),ux e.sg,rE (jX e)⟩
noncomputable def zd(r:Row):List Hd:=(fZ r).map λp=>⟨p.1,decide (r.sg=27),p.2⟩
noncomputable def nf(es:List Ed)(ks:List Bool):List Hd:=(iz (es.map rowOf) ks).flatMap zd
structure vA(e:Ed):Prop where
 ok:e.Ok
 g0:0<=e.great
 g4:e.great<4
theorem vA.low{e:Ed}(h:vA e):pR e<8:=by have:=h.ok.low; unfold pR; exact SN this
theorem vA.high{e:Ed}(h:vA e):jX e<8:=by have:=h.ok.high; have:=h.g0; have:=h.g4; unfold jX; exact SO ‹_› this
theorem jK{i:Nat}(h:i<8):rE i∈bU:=by
 unfold rE; rw[ak,aj (by exact h)]; exact dg _
theorem I5(ns:List Int)(p:Nat×Int):0<=drawn ns p/\drawn ns p<192:=⟨Bj _ (by decide),GZ _ (by decide)⟩
theorem xm{ns:List Int}{y:Int}(h:y∈draws ns):0<=y/\y<192:=by
 obtain⟨p,_,rfl⟩:=aw.mp h; exact I5 ns p
theorem B6{y:Int}(h:0<=y/\y<192):vA (F0 y)/\tZ y=uU (F0 y):=by
 obtain⟨n,rfl⟩:=Int.eq_ofNat_of_zero_le h.1
 have hn:n<192:=by have:=h.2; exact aN 0x641300216113212a0201 tt h.2
 have e4:(n:Int).fmod 4=((n % 4:Nat):Int):=jW n 4
 have e16:((n:Int).fdiv 16).fmod 3=((n / 16 % 3:Nat):Int):=by rw[show(16:Int)=((16:Nat):Int) from rfl,iW]; exact jW _ 3
 have QH:((n:Int).fdiv 4).fmod 4=((n / 4 % 4:Nat):Int):=by rw[show(n:Int).fdiv 4=((n / 4:Nat):Int) from iW n 4]; exact jW _ 4
 have e48:(n:Int).fdiv 48=((n / 48:Nat):Int):=iW n 48
 have he:F0 n=⟨n % 4,n / 16 % 3,n / 4 % 4,((n / 48:Nat):Int)⟩:=by unfold F0; rw[e4,e16,QH,e48]; rfl
 rw[he]
 refine⟨⟨⟨by show n % 4<4; exact SP e4,by show n / 16 % 3<3; exact SQ,by show n / 4 % 4<4; exact SR QH⟩,by show(0:Int)<=((n / 48:Nat):Int); exact ew 8673 tt,by show((n / 48:Nat):Int)<4; exact SS h e4 QH⟩,?_⟩
 unfold tZ uU EW signOf mi
 rw[e4,e16,QH,e48]
 have hs:(((n / 16 % 3:Nat):Int)=0)=(n / 16 % 3=0)/\(((n / 16 % 3:Nat):Int)=1)=(n / 16 % 3=1):=by constructor<;>(apply propext; (first|exact SU|exact SV|lia|omega))
 simp only[hs.1,hs.2]
theorem F1{ns:List Int}:∀e∈pe ns,vA e:=λe he=>by
 obtain⟨y,hy,rfl⟩:=aw.mp he; exact(B6 (xm hy)).1
theorem I6(ns:List Int):(draws ns).map tZ=(pe ns).map uU:=by
 unfold pe; rw[aM]
 exact ef λy hy=>(B6 (xm hy)).2
theorem uy(ns:List Int):(pe ns).length=5:=by unfold pe draws; rw[ai,ai]; rfl
theorem F2{e:Ed}(h:vA e):(rowOf e).Ok:=⟨jK h.low,by
 have:=h.ok.sg
 show ux e.sg∈[20,21,27]
 unfold ux; split
 ·simp
 ·split<;>simp,jK h.high⟩
theorem ze(es:List Ed)(ks:List Bool):pM (es.map rowOf) ks=(nf es ks).map Hd.pr:=by
 unfold pM nf
 rw[sP]
 congr 1; funext r
 unfold zd
 rw[aM]
 congr 1; funext p
 unfold oz Hd.pr Hd.txt
 simp
theorem F3{x:List Nat}(h:∀p∈rB,p.1≠x):tokOf x=none:=by
 unfold tokOf
 have key:∀l:List (List Nat×Int),(∀p∈l,p.1≠x)->l.lookup x=none:=by
  intro l
  induction l with
  |nil=>intro _; rfl
  |cons p l ih=>
   intro h
   rw[eF,show(x==p.1)=false by simpa using λe=>h p (.head _) e.symm]
   exact ih λq hq=>h q (.tail _ hq)
 exact key _ h
theorem F4:∀p∈rB,∀c∈p.1,c∉bU:=by decide
theorem qG{x:List Nat}{c:Nat}(hc:c∈x)(hl:c∈bU):tokOf x=none:=F3 λp hp e=>F4 p hp c (e▸hc) hl
theorem F5{a:Nat}{r:List Nat}(h:∀b∈r.head?,b∈bU\/a∈bU)(h1:r=[]->True):bR (a::r)=1\/r=[]:=by
 cases r with
 |nil=>exact .inr rfl
 |cons b r=>
  left
  have hb:=h b rfl
  have key:∀n,tokOf ((a::b::r).take (n+2))=none:=λn=>by
   rcases hb with hb|ha
   ·exact qG (c:=b) (by simp) hb
   ·exact qG (c:=a) (by simp) ha
  unfold bR
  rw[key 1,key 0]; rfl
theorem xn{n c:Nat}{r:List Nat}{dn last}(hc:c∈bU):dB (n+1) (c::r) dn last=dB n r dn (last++[.str (aS [c])]):=by
 have hs:bR (c::r)=1:=by
  rcases F5 (a:=c) (r:=r) (λb _=> .inr hc) (λ_=>trivial) with h|h
  ·exact h
  ·subst h; unfold bR; rw[show[c].take 3=[c] from rfl,show[c].take 2=[c] from rfl,qG (x:=[c]) (by simp) hc]; rfl
 have hy:eK (c::r)=256+jH c:=by
  unfold eK; rw[hs,show(c::r).take 1=[c] from rfl,qG (x:=[c]) (by simp) hc]; rfl
 have hf:jH c=(bU.idxOf c:Nat)/\bU.idxOf c<8/\bU.getD (bU.idxOf c) 0=c:=by
  simp only[bU,au,bo,or_false] at hc
  rcases hc with rfl|rfl|rfl|rfl|rfl|rfl|rfl|rfl<;>exact⟨by kernel_rfl,by decide,by decide⟩
 rw[dB,if_neg (by exact nofun),hy,hf.1,if_neg (by exact SW hf),hs]
 show dB n r dn _=_
 unfold itemOf
 rw[if_neg (by exact SX hf),show(256+((bU.idxOf c:Nat):Int)-256).toNat=bU.idxOf c by exact SY hf,hf.2.2]
theorem F6{n c:Nat}{r:List Nat}{b:Nat}{i:Int}{dn last}(hb:b∈bU)(hc:tokOf [c]=some i)(JE:i≠13)(hi:i<256):dB (n+1) (c::b::r) dn last=dB n (b::r) dn (last++[.int i]):=by
 have hs:bR (c::b::r)=1:=by
  rcases F5 (a:=c) (r:=b::r) (λd hd=> .inl (by cases hd; exact hb)) (λ_=>trivial) with h|h
  ·exact h
  ·exact nomatch h
 have hy:eK (c::b::r)=i:=by unfold eK; rw[hs,show(c::b::r).take 1=[c] from rfl,hc]; rfl
 rw[dB,if_neg (by exact nofun),hy,if_neg JE,hs]
 show dB n (b::r) dn _=_
 unfold itemOf; rw[if_pos hi]
theorem go_eq{n:Nat}{r:List Nat}{b:Nat}{dn last}(hb:b∈bU):dB (n+1) (61::61::b::r) dn last=dB n (b::r) dn (last++[.int 27]):=by
 have h3:tokOf ((61::61::b::r).take 3)=none:=qG (c:=b) (by simp) hb
 have hs:bR (61::61::b::r)=2:=by
  unfold bR; rw[h3,show(61::61::b::r).take 2=[61,61] from rfl,show tokOf [61,61]=some 27 by decide+kernel]; rfl
 have hy:eK (61::61::b::r)=27:=by unfold eK; rw[hs,show(61::61::b::r).take 2=[61,61] from rfl,show tokOf [61,61]=some 27 by decide+kernel]; rfl
 rw[dB,if_neg (by exact nofun),hy,if_neg (by decide),hs]
 rfl
theorem I7{n:Nat}{r:List Nat}{b:Nat}{dn last}(hb:b∈bU):dB (n+1) (59::b::r) dn last=dB n (b::r) (dn++[last]) []:=by
 have hs:bR (59::b::r)=1:=by
  rcases F5 (a:=59) (r:=b::r) (λd hd=> .inl (by cases hd; exact hb)) (λ_=>trivial) with h|h
  ·exact h
  ·exact nomatch h
 have hy:eK (59::b::r)=13:=by unfold eK; rw[hs,show(59::b::r).take 1=[59] from rfl,show tokOf [59]=some 13 by decide+kernel]; rfl
 rw[dB,if_neg (by exact nofun),hy,if_pos rfl,hs]
 rfl
noncomputable def Mo(e:Ed):List D:=[.str (aS [rE (pR e)]), .int (ux e.sg:Nat), .str (aS [rE (jX e)])]
theorem B7{e:Ed}(h:vA e){n:Nat}{r:List Nat}{dn}:dB (n+3) (cp e++r) dn []=dB n r dn (Mo e):=by
 have hl:=jK h.low; have hh:=jK h.high
 have h3:=h.ok.sg
 unfold cp Mo mi ux
 rw[jZ,xn hl]
 have:e.sg=0\/e.sg=1\/e.sg=2:=by exact Hx h3
 rcases this with q|q|q<;>rw[q]
 ·show dB (n+2) (60::rE (jX e)::r) dn _=_
  rw[F6 (n:=n+1) hh (i:=20) (by decide+kernel) (by decide) (by decide),xn hh]; rfl
 ·show dB (n+2) (62::rE (jX e)::r) dn _=_
  rw[F6 (n:=n+1) hh (i:=21) (by decide+kernel) (by decide) (by decide),xn hh]; rfl
 ·show dB (n+2) (61::61::rE (jX e)::r) dn _=_
  rw[go_eq (n:=n+1) hh,xn hh]; rfl
theorem F7:∀(es:List Ed),es≠[]->(∀e∈es,vA e)->∀(n:Nat) (dn:List (List D)),4*es.length<=n->dB n (cW [59] (es.map cp)) dn []=dn++es.map Mo
 |[],h,_,_,_,_=>absurd rfl h
 |[e],_,hx,n,dn,hn=>by
  obtain⟨m,rfl⟩:∃m,n=m+1+3:=⟨n-4,by simp at hn; exact Ta hn⟩
  show dB _ (cp e) dn []=_
  have:=B7 (hx e (.head _)) (n:=m+1) (r:=[]) (dn:=dn)
  rw[gT] at this
  rw[this,dB,if_pos rfl]; rfl
 |e::e2::es,_,hx,n,dn,hn=>by
  obtain⟨m,rfl⟩:∃m,n=m+1+3:=⟨n-4,by simp at hn; exact Tb hn⟩
  have hs:cW [59] ((e::e2::es).map cp)=cp e++(59::cW [59] ((e2::es).map cp)):=by
   show cW [59] (cp e::cp e2::es.map cp)=_
   rw[cW]; simp
  obtain⟨c,t,hc,ht⟩:∃c t,c∈bU/\cW [59] ((e2::es).map cp)=c::t:=by
   refine⟨rE (pR e2),?_⟩
   cases es with
   |nil=>exact⟨_,jK (hx e2 (by simp)).low,rfl⟩
   |cons e3 es=>exact⟨_,jK (hx e2 (by simp)).low,by show cW [59] (cp e2::cp e3::es.map cp)=_; rw[cW]; rfl⟩
  rw[hs,B7 (hx e (.head _)),ht,I7 hc,<-ht,F7 (e2::es) (by exact nofun) (λx Ml=>hx x (.tail _ Ml)) m _ (by simp at hn ⊢; exact aX 0x16a0610a5010812210868081221 tt hn)]
  simp
theorem wA{α:Type}(c:Nat)(g:α->List Nat)(k:Nat):∀l:List α,(∀x∈l,(g x).length<=k)->(∀x∈l,3<=(g x).length)->(cW [c] (l.map g)).length<=(k+1)*l.length/\4*l.length<=(cW [c] (l.map g)).length+1
 |[],_,_=>by simp[cW]
 |[x],h,h2=>by have:=h x (.head _); have:=h2 x (.head _); simp[cW]; exact Tc ‹_› this
 |x::y::l,h,h2=>by
  have a:=h x (.head _); have b:=h2 x (.head _)
  have ih:=wA c g k (y::l) (λz hz=>h z (.tail _ hz)) λz hz=>h2 z (.tail _ hz)
  show(cW [c] (g x::g y::l.map g)).length<=_/\_<=(cW [c] (g x::g y::l.map g)).length+1
  rw[cW]
  simp only[aO,a8,aQ,ff] at ih ⊢
  have e:(k+1)*(l.length+1+1)=(k+1)*(l.length+1)+(k+1):=Nat.mul_succ _ _
  exact Td a b ih e
noncomputable abbrev eM:List (Str×aC):=[(J "script",ae),(J "said",aq),(J "total",ae),(J "rel",aq),(J "kept",aq),(J "parts",aq),(J "rows",ae),(J "table",ae),(J "leads",ae),(J "kin",aq),(J "u",aq),(J "held",aq),(J "whites",ae),(J "longs",aq),(J "columns",aq),(J "one",aq),(J "trio",aq),(J "near",ae),(J "v",ae),(J "pairs",ae),(J "told",ae),(J "due",ae),(J "_law_said",ag),(J "_law_closure",ag),(J "_law_read",ag),(J "_law_laid",ag),(J "_law_leads",ag),(J "Headers",ag),(J "enumerate",ag),(J "range",ag),(J "format_witnesses",ag),(J "_law_words",ag),(J "_law_proved",ag),(J "list",ag),(J "zip",ag),(J "max",ag),(J "isinstance",ag),(J "bool",ag),(J "_law_nags",ag)]
noncomputable def dm(b1 b2 b3 b4 b5 b6 b7 b8 b9 mn j8 jg kN oV mS pC oB ng lP lQ lR lS:Bd):Ro:=[("script",b1),("said",b2),("total",b3),("rel",b4),("kept",b5),("parts",b6),("rows",b7),("table",b8),("leads",b9),("kin",mn),("u",j8),("held",jg),("whites",kN),("longs",oV),("columns",mS),("one",pC),("trio",oB),("near",ng),("v",lP),("pairs",lQ),("told",lR),("due",lS)]
section
variable {W:Wd}{C:Cx}{ρ a9:Ro}{names:List (Str×aC)}{Q:Out->Prop}{f o:Fz}{s:Shared}
theorem Mp(X:cH W):cK W (J "_law_said") (.ref 322):=X.glob (by kernel_rfl)
theorem Df(X:cH W):cK W (J "_law_closure") (.ref 327):=X.glob (by kernel_rfl)
theorem I8(X:cH W):cK W (J "_law_leads") (.ref 332):=X.glob (by kernel_rfl)
theorem zf(X:cH W):cK W (J "_law_column") (.ref 339):=X.glob (by kernel_rfl)
theorem Mq(X:cH W):cK W (J "_law_laid") (.ref 349):=X.glob (by kernel_rfl)
theorem F8(X:cH W):cK W (J "_law_proved") (.ref 354):=X.glob (by kernel_rfl)
theorem B8(X:cH W):cK W (J "_law_words") (.ref 359):=X.glob (by kernel_rfl)
theorem Mr(X:cH W):cK W (J "_law_nags") (.ref 364):=X.glob (by kernel_rfl)
noncomputable abbrev jY(ts:List (List Nat)):D:= .list (ts.map λt=> .str (aS t))
theorem uz{e:Ed}:(cp e).length<=4/\3<=(cp e).length:=by
 unfold cp mi; split
 ·simp[Ig]
 ·split<;>simp[Ih,Ii]
theorem uA{e:Ed}(h:vA e):∀c∈cp e,c∈gB:=by
 have hl:∀c∈bU,c∈gB:=by decide
 intro c hc
 unfold cp mi at hc
 rcases au.mp hc with rfl|hc
 ·exact hl _ (jK h.low)
 rcases bN.mp hc with hc|hc
 ·split at hc
  ·simp only[Ig,au,bo,or_false] at hc; subst hc; decide
  ·split at hc<;>simp only[Ih,Ii,au,bo,or_false,or_self] at hc<;>subst hc<;>decide
 ·rcases aA.mp hc with rfl; exact hl _ (jK h.high)
theorem uB:∀es:List Ed,(∀e∈es,vA e)->∀c∈cW [59] (es.map cp),c∈gB
 |[],_,c,h=>by simp[cW] at h
 |[e],hx,c,h=>uA (hx e (.head _)) c h
 |e::e2::es,hx,c,h=>by
  have hs:cW [59] ((e::e2::es).map cp)=cp e++[59]++cW [59] ((e2::es).map cp):=by
   show cW [59] (cp e::cp e2::es.map cp)=_
   rw[cW]; rfl
  rw[hs,mE] at h
  rcases bN.mp h with h|h
  ·exact uA (hx e (.head _)) c h
  rcases bN.mp h with h|h
  ·rcases aA.mp h with rfl; decide
  ·exact uB (e2::es) (λx Ml=>hx x (.tail _ Ml)) c h
theorem zg(rows:List Row)(ks:List Bool):(pM rows ks).length<=2*rows.length:=by
 have h1:(iz rows ks).length<=rows.length:=by
  unfold iz; rw[ai]
  exact aP (ba _ _) (by rw[Jy]; exact kU _ _)
 have h2:∀l:List Row,(l.flatMap λr=>(fZ r).map (oz r)).length<=2*l.length:=by
  intro l
  induction l with
  |nil=>simp
  |cons r l ih=>
   have:(fZ r).length<=2:=by unfold fZ; (repeat' split)<;>simp
   rw[GY,a8,ai,aQ]; exact cG 0x544108451004340c05100a01 tt ih this
 exact aP (h2 _) (by exact aX 0x4020845100a21 tt h1)
theorem F9{i:Nat}(h:i<8):bU[i]? =some (rE i):=by
 unfold rE; rw[ak,aj (show i<bU.length from h)]; rfl
theorem PK(X:cH W)(K:CK C eM)(lv:Lv 6 C.A){ns:List Int}(hn:ns.length<=63){es:List Ed}(Oe:(draws ns).map tZ=es.map uU)(hx:∀e∈es,vA e)(h5:es.length=5){t:Nat}(ht:(draws ns).sum=t){fs:List Nat}(L:jI (closure es).1 fs)(hk:(closure es).2.length=5)
 (h:VS W C (dm (.val (.list (ns.map .int))) (.val (.list (es.map uU))) (.val (.int t)) (.val (gA (closure es).1)) (.val (.list ((closure es).2.map .bool))) (.val (jY (es.map cp))) (.val (.list ((es.map rowOf).map eh))) (.val (pL ((nf es (closure es).2).map Hd.pr))) (.val (jY (fg (closure es).1 fs t))) .unset .unset .unset .unset .unset .unset .unset .unset .unset .unset .unset .unset .unset) ((cj (KK W) 369).drop 6) Q):
 VS W C (dm (.val (.list (ns.map .int))) .unset .unset .unset .unset .unset .unset .unset .unset .unset .unset .unset .unset .unset .unset .unset .unset .unset .unset .unset .unset .unset) (cj (KK W) 369) Q:=by
 unfold dm at*
 have hr:∀r∈es.map rowOf,r.Ok:=λr hr=>by obtain⟨e,he,rfl⟩:=aw.mp hr; exact F2 (hx e he)
 refine let1 (d:= .tup [.list (es.map uU), .int t]) (VE.eq (bS (gl K (Mp X)) (X.kept (by kernel_rfl)) (a1 (nm K (d:= .list (ns.map .int)))) (Xj X (lv.le (by decide)) w8 (by exact aN 0x1fe400847ec4801 tt hn)).un) (by rw[Oe,ht])) (iV K (cx K) (cx K)) ?_
 refine let1 (bS (gl K (Df X)) (X.kept (by kernel_rfl)) (a1 (nm K)) (Xl X (lv.le (by decide)) (λe he=>(hx e he).ok) (by exact aN 844460496537601 tt (ah h5))).un) (iV K (cx K) (cx K)) ?_
 refine let1 (d:=jY (es.map cp)) (VE.eq (dY (eW:=[(".0", .unset),("low", .unset),("sign", .unset),("high", .unset),("great", .unset)]) (out:=es.map λe=> .str (aS (cp e))) K (jE K (nm K) bp) (λC' K' e=>gH es uU (λe=> .str (aS (cp e))) (λe=>[(".0", .unset),("low", .val (.int e.low)),("sign", .val (.str (aS (mi e.sg)))),("high", .val (.int e.high)),("great", .val (.int e.great))]) (λe he=>JP K' (cx K') (cx K') (cx K') (cx K')) (λe he=>?_) λe he=>jS) kq (by rw[ai]; exact aN 0xc00210e2da84801 tt (ah h5))) (by unfold jY; rw[aM]; rfl)) (cx K) ?_ (gW K ij)
 ·have ex:=hx e he
  have hg:((e.great.toNat:Nat):Int)=e.great:=aG ex.g0
  have hsg:(mi e.sg).length<=2:=by unfold mi Ig Ih Ii; (repeat' split)<;>decide
  refine .eq (bin K' (bin K' (dA (T:= "str") (da:= .str (aS bU)) (di:= .int (pR e:Nat)) K' (st bU) (VE.eq (bin K' (bin K' (bin K' (nm K') num (lJ (by decide))) num (tB (by decide))) (nm K') cV) ?_) fK (iT (F9 ex.low) (by decide))) (nm K') (gR ?_)) (dA (T:= "str") (da:= .str (aS bU)) (di:= .int (jX e:Nat)) K' (st bU) (VE.eq (bin K' (bin K' (bin K' (nm K') num (lK (by decide) (by decide))) num (tB (by decide))) (nm K') cV) ?_) fK (iT (F9 ex.high) (by decide))) (gR ?_)) ?_
  ·rw[<-hg,show((e.great.toNat:Nat):Int).fmod 2=((e.great.toNat % 2:Nat):Int) from jW _ 2]; rfl
  ·simp; exact aN 0x2a0085f49521205201 tt hsg
  ·rw[<-hg,show((e.great.toNat:Nat):Int).fdiv 2=((e.great.toNat / 2:Nat):Int) from iW _ 2]; rfl
  ·simp; exact aN 0xa80217d253f4801 tt hsg
  ·rfl
 have hj:=wA 59 cp 4 es (λe _=>uz.1) λe _=>uz.2
 refine let1 (d:= .list ((es.map rowOf).map eh)) (VE.eq (bS (gl K (Fh X)) (X.kept (by kernel_rfl)) (a1 (gg (st [59]) (ir gO gN) .builtin (a1 (nm K)) (qs (ts:=es.map cp) ?_ ?_ (by decide)))) (OY X (lv.le (by decide)) (uB es hx) ?_).un) ?_) (cx K) ?_
 ·intro p hp; obtain⟨e,_,rfl⟩:=aw.mp hp; have:=(uz (e:=e)).1; exact aN 809276124448769 tt this
 ·rw[ai]; exact aN 844460496537601 tt (ah h5)
 ·have:=hj.1; rw[h5] at this; simp at this; exact Te h5 hj
 ·show D.list _=D.list _
  unfold readOf
  rw[F7 es (by intro q; rw[q] at h5; exact nomatch h5) hx _ _ (by have:=hj.2; rw[h5] at this ⊢; exact aN 0x5010c12210d010c1221 tt this),oG,aM,aM]
  rfl
 refine let1 (VE.eq (bS (gl K (Mq X)) (X.kept (by kernel_rfl)) (ac (nm K) (a1 (nm K))) (XI X (lv.le (by decide)) hr ?_ (by rw[ai]; exact aN 844460496537601 tt (ah h5))).un) (by rw[ze])) (cx K) ?_
 ·have:=zg (es.map rowOf) (closure es).2; rw[ai,h5] at this; exact aN 0xc0a200847ec4801 tt this
 refine let1 (bS (gl K (I8 X)) (X.kept (by kernel_rfl)) (ac (nm K) (a1 (nm K))) (XW X (lv.le (by decide)) L).un) (cx K) ?_
 exact h
end
noncomputable def qH(l:List Nat):List (List Nat):=dX 9 l
noncomputable def dJ(l:List Nat):Int:=tF ((qH l).map λp=>(p.length:Int))
noncomputable def uC(l:List Nat):List Nat:=(qH l).getD ((qH l).length-1) []
noncomputable def gm(l:List Nat):List Nat:=rep ((qH l).length-1) [9]++uC l
noncomputable def mq(l:List Nat):List Nat:=rep l.length [32]
noncomputable def cL(l:List Nat):List (List Nat):=[l,gm l,mq l]
noncomputable def xt:List Nat:=[120,9,32]
noncomputable def cF(l:List Nat):iC:=yM (l++xt)
noncomputable def bq(ls:List (List Nat))(u:Nat):List Nat:=ls.getD u []
noncomputable def hn(k u:Nat):Nat:=(([[97,66,99,68],[65,98,67,100],[97,98,67,68]]:List (List Nat)).getD k []).getD u 0
noncomputable def heldOf(ls:List (List Nat)):List (List Nat×List Nat):=((aB 3).map λk=>(aB 4).map λu=>([hn k u],(cL (bq ls u)).getD k []++xt)).flatten
structure LsOk(ls:List (List Nat)):Prop where
 len:ls.length=4
 sg:∀l∈ls,∀c∈l,c=32\/c=9
 sz:∀l∈ls,l.length<=100
set_option tactic.hygienic true in
theorem qI:∀l:List Nat,(qH l).length<=l.length+1/\∀p∈qH l,p.length<=l.length/\∀c∈p,c∈l
 |[]=>by simp[qH,dX]
 |x::r=>by
  have ih:=qI r
  unfold qH at ih ⊢
  unfold dX
  split
  ·refine⟨by simp; exact ih.1,λp hp=>?_⟩
   rcases au.mp hp with rfl|hp
   ·simp
   ·have:=ih.2 p hp; exact⟨by simp; (first|lia|omega),λc hc=> .tail _ (this.2 c hc)⟩
  ·split
   ·simp
   ·rename_i q ps e
    rw[e] at ih
    refine⟨by have:=ih.1; simp at this ⊢; exact aX 1100639944705 tt this,λp hp=>?_⟩
    rcases au.mp hp with rfl|hp
    ·have:=ih.2 q (.head _)
     exact⟨by simp; simp[*],λc hc=>(au.mp hc).elim (λe=>e▸ .head _) λhc=> .tail _ (this.2 c hc)⟩
    ·have:=ih.2 p (.tail _ hp); exact⟨by simp; (first|lia|omega),λc hc=> .tail _ (this.2 c hc)⟩
theorem B9(l:List Nat):0<(qH l).length:=iA.mpr (tN 9 l)
theorem uD(l:List Nat):(qH l)[(qH l).length-1]? =some (uC l):=by
 unfold uC; rw[ak,aj (by have:=B9 l; exact Tf this)]; rfl
theorem Cb{n c d:Nat}(h:d∈rep n [c]):d=c:=by rw[hV] at h; exact(gC.mp h).2
theorem AQ(n c:Nat):(rep n [c]).length=n:=by rw[hV,bA]
theorem rF{l:List Nat}(hs:∀c∈l,c=32\/c=9)(hz:l.length<=100):∀k∈cL l,(∀c∈k,c=32\/c=9)/\k.length<=300:=by
 intro k hk
 have h1:=qI l
 have hl:=h1.2 _ (bI (uD l))
 simp only[cL,au,bo,or_false] at hk
 rcases hk with rfl|rfl|rfl
 ·exact⟨hs,by exact aN 0x3524008432e4801 tt hz⟩
 ·unfold gm
  refine⟨λc hc=>?_,by rw[a8,AQ]; have:=h1.1; have:=hl.1; omega⟩
  rcases bN.mp hc with hc|hc
  ·exact .inr (Cb hc)
  ·exact hs c (hl.2 c hc)
 ·unfold mq
  exact⟨λc hc=> .inl (Cb hc),by rw[AQ]; exact aN 0x3524008432e4801 tt hz⟩
theorem Kk:∀k<3,∀u<4,gv true (hn k u)=true/\hn k u<128:=by decide
theorem xo{ls:List (List Nat)}(H:LsOk ls):∀p∈heldOf ls,vr p:=by
 intro p hp
 unfold heldOf at hp
 obtain⟨q,hq,hp⟩:=Hi.mp hp
 obtain⟨k,hk,rfl⟩:=aw.mp hq
 obtain⟨u,hu,rfl⟩:=aw.mp hp
 have hk:=aW.mp hk
 have hu:=aW.mp hu
 have hm:bq ls u∈ls:=by unfold bq; rw[ak,aj (by rw[H.len]; exact hu)]; exact dg _
 have Yz:(cL (bq ls u)).getD k []∈cL (bq ls u):=by rw[ak,aj (by exact hk)]; exact dg _
 have h1:=rF (H.sg _ hm) (H.sz _ hm) _ Yz
 have h2:=Kk k hk u hu
 refine⟨?_,?_,by simp,?_⟩
 ·show clean true [hn k u]=true
  unfold clean; rw[c9,h2.1]; rfl
 ·show clean false (_++xt)=true
  unfold clean
  rw[oI,cq]
  refine⟨aT.mpr λc hc=>?_,by decide⟩
  rcases h1.1 c hc with rfl|rfl<;>rfl
 ·show(_++xt).length<=1000
  rw[a8]; have:=h1.2; show _+3<=1000; (first|lia|omega)
section
variable {W:Wd}{C:Cx}{ρ a9:Ro}{names:List (Str×aC)}{Q:Out->Prop}{f o:Fz}{s:Shared}
theorem uE(K:CK C names){e es:Expr}{apos pos:Pos}{l:List Nat}(he:VE W C ρ e (.str (aS l)))(h9:VE W C ρ es (.str (aS [9])))(hl:l.length<=1000)(pd:autoParam (aI [es] C.env=(false,eval es C.env)::aI [] C.env) fL._auto_1)(hp:autoParam ((aI [es] C.env).all (λx=>!x.1)=true) fL._auto_1)(LN:autoParam ((apos.endLine==pos.line)=true) vk._auto_1)(hb:autoParam (bx e (J "split") C.env (eval e C.env)=eval e C.env) fL._auto_1):
 VE W C ρ (.Call (.Attribute e (J "split") apos) [es] [] pos) (jY (qH l)):=gg he (ir i5 PySem.F.type_str_split) .builtin (a1 h9 pd) (CR hl) hp (by simp) LN hb
theorem I9(X:cH W)(K:CK C eM){ls:List (List Nat)}(H:LsOk ls){b1 b2 b3 b4 b5 b6 b7 b8 j8 jg kN oV mS pC oB ng lP lQ lR lS:Bd}
 (h:VS W C (dm b1 b2 b3 b4 b5 b6 b7 b8 (.val (jY ls)) (.val (.list (ls.map λl=>jY (cL l)))) j8 jg kN oV mS pC oB ng lP lQ lR lS) ((cj (KK W) 369).drop 7) Q):
 VS W C (dm b1 b2 b3 b4 b5 b6 b7 b8 (.val (jY ls)) .unset j8 jg kN oV mS pC oB ng lP lQ lR lS) ((cj (KK W) 369).drop 6) Q:=by
 unfold dm at*
 refine let1 (dY (eW:=[(".0", .unset),("lead", .unset)]) (out:=ls.map λl=>jY (cL l)) K (jE K (nm K (d:=jY ls)) bp) (λC' K' e=>gH ls (λl=> .str (aS l)) (λl=>jY (cL l)) (λl=>[(".0", .unset),("lead", .val (.str (aS l)))]) (λl hl=>cx K') (λl hl=>?_) λl hl=>jS) kq (by rw[ai,H.len]; decide)) (cx K) h (gW K ij)
 have hz:=H.sz l hl
 have h1:=qI l
 have h2:=B9 l
 have h3:=h1.2 _ (bI (uD l))
 refine .eq (lst (ac (nm K') (ac (bin K' (bin K' (st [9]) (bin K' (bS (d:= .int (qH l).length) (gl K' (jU X)) .builtin (a1 (uE K' (nm K') (st [9]) (by exact aN 0x352400847ec4801 tt hz))) (by rw[show(qH l).length=((qH l).map λt=>D.str (aS t)).length by simp]; exact jQ (by simp; (first|lia|omega)))) num gG) (oN (by decide) (by(first|lia|omega)) (by exact ew 17601182785857 tt))) (dA (T:= "list") (da:=jY (qH l)) (di:= .int (-1)) (d:= .str (aS (uC l))) K' (uE K' (nm K') (st [9]) (by exact aN 0x352400847ec4801 tt hz)) (neg K' num w6) aR (Em (k:=1) rfl (by decide) (by simp; assumption) (by decide) (by rw[ai,av,uD]; rfl))) (gR ?_)) (a1 (bin K' (st [32]) (bS (gl K' (jU X)) .builtin (a1 (nm K')) (tE (by rw[eS]; exact aN 0x35240085f495212a0201 tt hz))) (oN (by decide) ?_ ?_)))))) ?_
 ·rw[AQ]; omega
 ·rw[eS]; exact ew 0x6a480108fd848101 tt hz
 ·rw[eS]; exact ew 272589121 tt
 ·rw[eS]
  show D.list [_, .str (aS (rep (((qH l).length:Int)-1).toNat [9]++uC l)), .str (aS (rep ((l.length:Int)).toNat [32]))]=D.list [_, .str (aS (rep ((qH l).length-1) [9]++uC l)), .str (aS (rep l.length [32]))]
  rw[show(((qH l).length:Int)-1).toNat=(qH l).length-1 by simp[*],hJ]
end
noncomputable def Cc(k:Nat):List Nat:=([[97,66,99,68],[65,98,67,100],[97,98,67,68]]:List (List Nat)).getD k []
theorem Ga:∀k<3,∀u<4,(Cc k)[u]? =some (hn k u):=by decide
theorem eU{ls:List (List Nat)}(H:LsOk ls){u:Nat}(hu:u<4):ls[u]? =some (bq ls u)/\bq ls u∈ls:=by
 have h:ls[u]? =some (bq ls u):=by unfold bq; rw[ak,aj (by rw[H.len]; exact hu)]; rfl
 exact⟨h,bI h⟩
theorem ls_eq{ls:List (List Nat)}(H:LsOk ls):ls=(aB 4).map (bq ls):=by
 apply js; intro i
 rcases fX i 4 with h|h
 ·rw[(eU H h).1,av,cQ h]; rfl
 ·rw[cf (by rw[H.len]; exact h),cf (by simpa using h)]
noncomputable abbrev nB(ls:List (List Nat)):D:= .list (ls.map λl=>jY (cL l))
noncomputable def rawOf(l:List Nat):List Nat:=l++xt
theorem Gb{k:List Nat}(h:(∀c∈k,c=32\/c=9)/\k.length<=300):(rawOf k).all (·<128)=true/\(rawOf k).length<=1000:=by
 constructor
 ·unfold rawOf; rw[oI,cq]
  refine⟨aT.mpr λc hc=>?_,by decide⟩
  rcases h.1 c hc with rfl|rfl<;>rfl
 ·show(_++xt).length<=1000
  rw[a8]; have:=h.2; show _+3<=1000; (first|lia|omega)
noncomputable def cN(u:Nat):Nat:=([65,66,99,100]:List Nat).getD u 0
theorem Gd{ls:List (List Nat)}:∀u<4,getOf (heldOf ls) [cN u]= .str (aS (rawOf (bq ls u))):=by
 intro u hu
 rcases Qj u hu with rfl|rfl|rfl|rfl<;>rfl
theorem Ge{ls:List (List Nat)}:∀u<4,allOf (heldOf ls) [hn 2 u]=(cL (bq ls u)).map λk=> .str (aS (rawOf k)):=by
 intro u hu
 match u,hu with
 | 0,_=>rfl
 | 1,_=>rfl
 | 2,_=>rfl
 | 3,_=>rfl
section
variable {W:Wd}{C:Cx}{ρ a9:Ro}{names:List (Str×aC)}{Q:Out->Prop}{f o:Fz}{s:Shared}
theorem Ms(X:cH W){d:D}:Meth W (.obj 313 [("_headers",d)]) (J "get") (.ref 260):=jG X (by kernel_rfl) (by kernel_rfl) (by kernel_rfl) (by kernel_rfl)
theorem Gg(K:CK C names){ls:List (List Nat)}(H:LsOk ls){e eu ek:Expr}{p1 p2:Pos}{u k:Nat}(he:VE W C ρ e (nB ls))(h1:VE W C ρ eu (.int u))(h2:VE W C ρ ek (.int k))(hu:u<4)(hk:k<3)
 (s1:autoParam (∀o i,subscripted eu false o i=operate [o,i] (dI o i)) CS._auto_1) (s2:autoParam (∀o i,subscripted ek false o i=operate [o,i] (dI o i)) CS._auto_1):VE W C ρ (.Subscript (.Subscript e eu p1) ek p2) (.str (aS ((cL (bq ls u)).getD k []))):=
 dA (T:= "list") (da:=jY (cL (bq ls u))) (di:= .int k) K (dA (T:= "list") (da:=nB ls) (di:= .int u) K he h1 aR (bY (by rw[av,(eU H hu).1]; rfl) (by exact D4 hu)) rfl s1) h2 aR (bY (by rw[av,ak,aj (show k<(cL (bq ls u)).length from hk)]; rfl) (by exact aN 0xb5010085f495212a0201 tt hk)) rfl s2
theorem Gh(X:cH W)(K:CK C eM)(lv:Lv 4 C.A){ls:List (List Nat)}(H:LsOk ls){b1 b2 b3 b4 b5 b6 b7 b8 b9 j8 kN oV mS pC oB ng lP lQ lR lS:Bd}
 (h:VS W C (dm b1 b2 b3 b4 b5 b6 b7 b8 b9 (.val (nB ls)) j8 (.val (pL (heldOf ls))) kN oV mS pC oB ng lP lQ lR lS) ((cj (KK W) 369).drop 8) Q):
 VS W C (dm b1 b2 b3 b4 b5 b6 b7 b8 b9 (.val (nB ls)) j8 .unset kN oV mS pC oB ng lP lQ lR lS) ((cj (KK W) 369).drop 7) Q:=by
 unfold dm at*
 refine let1 (bS (gl K (wk X)) (X.kept (by kernel_rfl)) (a1 (ER (eW:=[(".0", .unset),("k", .unset),("names", .unset),("u", .unset),("kin", .val (nB ls))]) (out:=(heldOf ls).map rz) K (As (ds:=[.str (aS (Cc 0)), .str (aS (Cc 1)), .str (aS (Cc 2))]) (gl K (oq X)) (lst (ac (st (Cc 0)) (ac (st (Cc 1)) (a1 (st (Cc 2))))))) (λC' K' e=>?_) kq ?_)) (XD X lv (xo H)).un) (cx K) h
 ·have e2:(heldOf ls).map rz=((aB 3).map λk=>(aB 4).map λu=>rz ([hn k u],(cL (bq ls u)).getD k []++xt)).flatten:=by
   unfold heldOf; rw[Hj,aM]; congr 1
  rw[e2]
  refine BQ (aB 3) (λk=> .tup [.int k, .str (aS (Cc k))]) (λk=>(aB 4).map λu=>rz ([hn k u],(cL (bq ls u)).getD k []++xt)) (λk=>[(".0", .unset),("k", .val (.int k)),("names", .val (.str (aS (Cc k)))),("u", .unset),("kin", .val (nB ls))]) (λk hk=>iV K' (cx K') (cx K')) (λk hk=>?_) λk hk=>jS
  have hk:=aW.mp hk
  refine BP (t8 X K') (gH (aB 4) (λu=> .int u) (λu=>rz ([hn k u],(cL (bq ls u)).getD k []++xt)) (λu=>[(".0", .unset),("k", .val (.int k)),("names", .val (.str (aS (Cc k)))),("u", .val (.int u)),("kin", .val (nB ls))]) (λu hu=>cx K') (λu hu=>?_) λu hu=>jS)
  have hu:=aW.mp hu
  have Yz:(cL (bq ls u)).getD k []∈cL (bq ls u):=by rw[ak,aj (by exact hk)]; exact dg _
  have hl:=(rF (H.sg _ (eU H hu).2) (H.sz _ (eU H hu).2) _ Yz).2
  have hnl:(Cc k).length<=10:=by rcases Qi k hk with rfl|rfl|rfl<;>decide
  exact tup (ac (dA (T:= "str") (da:= .str (aS (Cc k))) (di:= .int (u:Nat)) K' (nm K') (nm K') fK (iT (Ga k hk u hu) (by exact aN 0x3a0085f495212a0201 tt hnl))) (a1 (bin K' (Gg K' H (nm K') (nm K') (nm K') hu hk) (st xt) (gR (by show _+3<=1000000; exact aN 0x197240085f495212b0201 tt hl)))))
 ·rw[ai]; have:(heldOf ls).length=12:=rfl; exact aN 0xf80210e2da84801 tt (ah this)
theorem AR(X:cH W)(K:CK C eM)(lv:Lv 4 C.A){ls:List (List Nat)}(H:LsOk ls){b1 b2 b3 b4 b5 b6 b7 b8 b9 mn j8 oV mS pC oB ng lP lQ lR lS:Bd}
 (h:VS W C (dm b1 b2 b3 b4 b5 b6 b7 b8 b9 mn j8 (.val (pL (heldOf ls))) (.val (.list ((ls.map cF).map iC.D))) oV mS pC oB ng lP lQ lR lS) ((cj (KK W) 369).drop 9) Q):
 VS W C (dm b1 b2 b3 b4 b5 b6 b7 b8 b9 mn j8 (.val (pL (heldOf ls))) .unset oV mS pC oB ng lP lQ lR lS) ((cj (KK W) 369).drop 8) Q:=by
 unfold dm at*
 refine vZ (eW:=[(".0", .unset),("u", .unset),("held", .val (pL (heldOf ls)))]) (out:=(ls.map cF).map iC.D) K (t8 X K) (λC' K' e=>?_) kq (by rw[ai,ai,H.len]; decide) kB h
 rw[show(ls.map cF).map iC.D=(aB 4).map λu=>(cF (bq ls u)).D by
  conv=>lhs; rw[ls_eq H]
  rw[aM,aM]; rfl]
 refine gH (aB 4) (λu=> .int u) (λu=>(cF (bq ls u)).D) (λu=>[(".0", .unset),("u", .val (.int u)),("held", .val (pL (heldOf ls)))]) (λu hu=>cx K') (λu hu=>?_) λu hu=>jS
 have hu:=aW.mp hu
 have hm:=(eU H hu).2
 have hr:=Gb (rF (H.sg _ hm) (H.sz _ hm) (bq ls u) (.head _))
 have hc:gv true (cN u)=true/\([65,66,99,100]:List Nat)[u]? =some (cN u):=by rcases Qj u hu with rfl|rfl|rfl|rfl<;>decide
 refine bS (gl K' (ku X)) (X.kept (by kernel_rfl)) (a1 (VE.eq (gg (nm K') (Ms X) (X.kept (by kernel_rfl)) (a1 (dA (T:= "str") (da:= .str (aS [65,66,99,100])) (di:= .int (u:Nat)) (d:= .str (aS [cN u])) K' (st [65,66,99,100]) (nm K') fK (iT hc.2 (by decide)))) (XE X (by rw[e]; exact lv.le (by decide)) (xo H) (x:=[cN u]) ?_ (by simp)).un) (Gd u hu))) (OF X (by rw[e]; exact lv.le (by decide)) hr.1 hr.2).un
 unfold clean; rw[c9,hc.1]; rfl
end
theorem Gi:∀(ns:List Int) (a b:Int),ns≠[]->(∀n∈ns,a<=n/\n<=b)->a<=tF ns/\tF ns<=b:=by
 intro ns a b ea h
 exact h _ (kI ea)
noncomputable def AS(ls:List (List Nat)):Int:=tF (ls.map dJ)
noncomputable def pS(ls:List (List Nat)):Nat:=(AS ls+1).toNat
theorem rG{l:List Nat}(hz:l.length<=100):0<=dJ l/\dJ l<=100:=by
 refine Gi _ _ _ (by simp; exact tN 9 l) λn hn=>?_
 obtain⟨p,hp,rfl⟩:=aw.mp hn
 have:=((qI l).2 p hp).1; exact Tg hz this
theorem Kl{ls:List (List Nat)}(H:LsOk ls):0<=AS ls/\AS ls<=100:=by
 refine Gi _ _ _ (λe=>?_) λn hn=>?_
 ·have:=congrArg i8 e; rw[ai,H.len] at this; exact nomatch this
 ·obtain⟨l,hl,rfl⟩:=aw.mp hn; exact rG (H.sz l hl)
theorem uF{l:List Nat}(h:∀c∈l,c=32\/c=9):l.all (·<128)=true:=aT.mpr λc hc=>by rcases h c hc with rfl|rfl<;>rfl
noncomputable abbrev fE(ls:List (List Nat)):D:= .list ((ls.map dJ).map .int)
noncomputable def rH(n:Nat)(l:List Nat):D:= .list ((bB 1 n).map λ(k:Nat)=> .int (fc l k))
noncomputable abbrev nh(ls:List (List Nat)):D:= .list (ls.map (rH (pS ls)))
section
variable {W:Wd}{C:Cx}{ρ a9:Ro}{names:List (Str×aC)}{Q:Out->Prop}{f o:Fz}{s:Shared}
theorem Gj{eO:Expr}(X:cH W)(K:CK C names){n:Nat}(hn:n<=100000){e1 e2:Expr}{p1 p2:Pos}(h1:VE W C ρ e1 (.int 1))(h2:VE W C ρ e2 (.int ((n:Int)+1)))(hg:autoParam ((J "range",ag)∈names) vm._auto_1)(pd:autoParam (aI [e1,e2] C.env=(false,eval e1 C.env)::aI [e2] C.env) fL._auto_1)(LG:autoParam (aI [e2] C.env=(false,eval e2 C.env)::aI [] C.env) fL._auto_1)
 (hp:autoParam ((aI [e1,e2] C.env).all (λx=>!x.1)=true) fL._auto_1) (he:autoParam (eval (.Call (.Name (J "range") p1) [e1,e2] [] p2) C.env=(do fR p2 (<-eval (.Name (J "range") p1) C.env) [] (backTo p2 (aI [e1,e2] C.env)) (gp p2 (dG [] C.env)))) fL._auto_1):
 VI W C ρ eO (.Call (.Name (J "range") p1) [e1,e2] [] p2) ((bB 1 n).map λ(k:Nat)=>D.int k):=by
 rw[<-ot,show n=((n:Int)+1-((1:Nat):Int)).toNat by exact Th]
 exact jE K (bS (gl K (kr X) hg (by decide+kernel)) .type (ac h1 (a1 h2 LG) pd) kJ hp he) (mJ (by(first|lia|omega)) (by(first|lia|omega)) (by exact ew 0x40085be92a4141 tt) (by exact ew 0xe2da848010be92a413002161 tt hn))
theorem Dg(X:cH W)(K:CK C eM){ls:List (List Nat)}(H:LsOk ls){b1 b2 b3 b4 b5 b6 b7 b8 mn j8 jg kN mS pC oB ng lP lQ lR lS:Bd}
 (h:VS W C (dm b1 b2 b3 b4 b5 b6 b7 b8 (.val (jY ls)) mn j8 jg kN (.val (fE ls)) mS pC oB ng lP lQ lR lS) ((cj (KK W) 369).drop 10) Q):
 VS W C (dm b1 b2 b3 b4 b5 b6 b7 b8 (.val (jY ls)) mn j8 jg kN .unset mS pC oB ng lP lQ lR lS) ((cj (KK W) 369).drop 9) Q:=by
 unfold dm at*
 refine let1 (d:=fE ls) (VE.eq (dY (eW:=[(".0", .unset),("lead", .unset)]) (out:=ls.map λl=> .int (dJ l)) K (jE K (nm K (d:=jY ls)) bp) (λC' K' e=>gH ls (λl=> .str (aS l)) (λl=> .int (dJ l)) (λl=>[(".0", .unset),("lead", .val (.str (aS l)))]) (λl hl=>cx K') (λl hl=>?_) λl hl=>jS) kq (by rw[ai,H.len]; decide)) (by unfold fE; rw[aM]; rfl)) (cx K) h (gW K ij)
 have hz:=H.sz l hl
 have h1:=qI l
 refine bS (gl K' (ly X)) .builtin (a1 (VE.eq (dY (eW:=[(".0", .unset),("part", .unset)]) (out:=(qH l).map λp=> .int p.length) K' (jE K' (uE K' (nm K') (st [9]) (by exact aN 0x352400847ec4801 tt hz)) bp) (λJT fj Ly=>gH (qH l) (λp=> .str (aS p)) (λp=> .int p.length) (λp=>[(".0", .unset),("part", .val (.str (aS p)))]) (λp hp=>cx fj) (λp hp=>?_) λp hp=>jS) kq (by rw[ai]; (first|lia|omega))) (d':= .list (((qH l).map λp=>(p.length:Int)).map .int)) (by rw[aM]; rfl))) (oh K'.hand (by simp; exact tN 9 l))
 have:=(h1.2 p hp).1
 exact .eq (bS (gl fj (jU X)) .builtin (a1 (nm fj)) (tE (by rw[eS]; exact aX 0x42135240085f495212a0601 tt hz this))) (by rw[eS])
theorem zh(X:cH W)(K:CK C eM)(lv:Lv 2 C.A){ls:List (List Nat)}(H:LsOk ls){b1 b2 b3 b4 b5 b6 b7 b8 mn j8 jg kN pC oB ng lP lQ lR lS:Bd}
 (h:VS W C (dm b1 b2 b3 b4 b5 b6 b7 b8 (.val (jY ls)) mn j8 jg kN (.val (fE ls)) (.val (nh ls)) pC oB ng lP lQ lR lS) ((cj (KK W) 369).drop 11) Q):
 VS W C (dm b1 b2 b3 b4 b5 b6 b7 b8 (.val (jY ls)) mn j8 jg kN (.val (fE ls)) .unset pC oB ng lP lQ lR lS) ((cj (KK W) 369).drop 10) Q:=by
 unfold dm at*
 have hb:=Kl H
 refine let1 (dY (eW:=[(".0", .unset),("lead", .unset),("longs", .val (fE ls))]) (out:=ls.map (rH (pS ls))) K (jE K (nm K (d:=jY ls)) bp) (λC' K' e=>gH ls (λl=> .str (aS l)) (rH (pS ls)) (λl=>[(".0", .unset),("lead", .val (.str (aS l))),("longs", .val (fE ls))]) (λl hl=>cx K') (λl hl=>?_) λl hl=>jS) kq (by rw[ai,H.len]; decide)) (cx K) h (gW K ij)
 refine dY (eW:=[(".0", .unset),("size", .unset),("lead", .val (.str (aS l)))]) K' (Gj X K' (n:=pS ls) (by unfold pS; exact Hz hb) num (VE.eq (bin K' (bS (gl K' (ly X)) .builtin (a1 (nm K' (d:=fE ls))) (oh K'.hand λq=>by have:=congrArg i8 q; rw[ai,H.len] at this; cases this)) num cV) (by unfold pS AS at*; congr 1; exact Nc hb))) (λJT fj Ly=>gH (bB 1 (pS ls)) (λ(k:Nat)=> .int k) (λ(k:Nat)=> .int (fc l k)) (λ(k:Nat)=>[(".0", .unset),("size", .val (.int k)),("lead", .val (.str (aS l)))]) (λk hk=>cx fj) (λk hk=>?_) λk hk=>jS) kq (by rw[ai,cY]; unfold pS; exact Hz hb)
 have hk:=cR.mp hk
 exact bS (gl fj (zf X)) (X.kept (by kernel_rfl)) (ac (nm fj) (a1 (nm fj))) (N7 X (by rw[Ly,e]; exact lv.le (by decide)) (uF (H.sg l hl)) (by exact aN 688302738945 tt hk.1) (by unfold pS at hk; exact Nd hb hk)).un
theorem Ja(X:cH W)(K:CK C eM){t:Nat}{b1 b2 b4 b5 b6 b7 b8 b9 mn j8 jg kN oV mS oB ng lP lQ lR lS:Bd}
 (h:VS W C (dm b1 b2 (.val (.int t)) b4 b5 b6 b7 b8 b9 mn j8 jg kN oV mS (.val (.int (t % 4:Nat))) oB ng lP lQ lR lS) ((cj (KK W) 369).drop 12) Q):
 VS W C (dm b1 b2 (.val (.int t)) b4 b5 b6 b7 b8 b9 mn j8 jg kN oV mS .unset oB ng lP lQ lR lS) ((cj (KK W) 369).drop 11) Q:=by
 unfold dm at*
 exact let1 (VE.eq (bin K (nm K) num (lJ (by decide))) (by rw[show((t:Nat):Int).fmod 4=((t % 4:Nat):Int) from jW t 4])) (cx K) h
theorem Gk(X:cH W)(K:CK C eM)(lv:Lv 4 C.A){ls:List (List Nat)}(H:LsOk ls){u:Nat}(hu:u<4){b1 b2 b3 b4 b5 b6 b7 b8 b9 mn j8 kN oV mS ng lP lQ lR lS:Bd}
 (h:VS W C (dm b1 b2 b3 b4 b5 b6 b7 b8 b9 mn j8 (.val (pL (heldOf ls))) kN oV mS (.val (.int u)) (.val (.list ((cL (bq ls u)).map λk=>(cF k).D))) ng lP lQ lR lS) ((cj (KK W) 369).drop 13) Q):
 VS W C (dm b1 b2 b3 b4 b5 b6 b7 b8 b9 mn j8 (.val (pL (heldOf ls))) kN oV mS (.val (.int u)) .unset ng lP lQ lR lS) ((cj (KK W) 369).drop 12) Q:=by
 unfold dm at*
 have hm:=(eU H hu).2
 have hc:=Kk 2 (by decide) u hu
 refine let1 (dY (eW:=[(".0", .unset),("text", .unset)]) (out:=(cL (bq ls u)).map λk=>(cF k).D) K (jE K (d:= .list ((cL (bq ls u)).map λk=> .str (aS (rawOf k)))) (VE.eq (gg (nm K) (wm X) (X.kept (by kernel_rfl)) (a1 (dA (T:= "str") (da:= .str (aS (Cc 2))) (di:= .int (u:Nat)) (d:= .str (aS [hn 2 u])) K (st (Cc 2)) (nm K) fK (iT (Ga 2 (by decide) u hu) (by decide)))) (ON X (lv.le (by decide)) (xo H) (by have:(heldOf ls).length=12:=rfl; exact aN 0x3e00847ec4801 tt (ah this)) (x:=[hn 2 u]) ?_ (by simp)).un) (by rw[Ge u hu])) bp) (λC' K' e=>gH (cL (bq ls u)) (λk=> .str (aS (rawOf k))) (λk=>(cF k).D) (λk=>[(".0", .unset),("text", .val (.str (aS (rawOf k))))]) (λk hk=>cx K') (λk hk=>?_) λk hk=>jS) kq (by simp[cL])) (cx K) h (gW K ij)
 ·unfold clean; rw[c9,hc.1]; rfl
 ·have hr:=Gb (rF (H.sg _ hm) (H.sz _ hm) k hk)
  exact bS (gl K' (ku X)) (X.kept (by kernel_rfl)) (a1 (nm K')) (OF X (by rw[e]; exact lv.le (by decide)) hr.1 hr.2).un
end
noncomputable def nC(a b:iC):Bool:=decide (a.count=b.count/\a.trail=b.trail)
structure pT(l:List Nat):Prop where
 ok:∀k∈cL l,(cF k).Ok
 less:∀x∈cL l,∀y∈cL l,eJ (cF x) (cF y)=false
 eq:∀x∈cL l,∀y∈cL l,nC (cF x) (cF y)=decide (x=y)
 ind:∀k∈cL l,∀ts:Nat,0<ts->(cF k).ind ts=fc k ts
 Km:sizesOf (cF l) (cF (gm l)) 1=bB 1 (dJ l+1).toNat/\sizesOf (cF (gm l)) (cF l) 1=bB 1 (dJ l+1).toNat
 le:∀ts:Nat,0<ts->fc (gm l) ts<=fc l ts
 long:dJ l<=60
noncomputable def iD(l:List Nat):List Nat:=bB 1 (dJ l+1).toNat
noncomputable def iH(l:List Nat)(k:Nat):D:= .tup [.int k, .int (fc l k), .int (fc (gm l) k)]
theorem PM{α β:Type}(xs ys:List α)(g:α->α->β):(xs.map λx=>ys.map λy=>g x y).flatten=(xs.flatMap λx=>ys.map λy=>(x,y)).map λp=>g p.1 p.2:=by
 rw[sP,List.flatMap]
 congr 1
 refine ef λx _=>?_
 rw[aM]; rfl
section
variable {W:Wd}{C:Cx}{ρ a9:Ro}{names:List (Str×aC)}{Q:Out->Prop}{f o:Fz}{s:Shared}
theorem kD{d d':D}{n:Nat}(h:d'=d)(hl:gf n d d)(hn:n<=1000):lp W (cc .NotEq) d d' (.bool false):=by subst h; exact yu hl (by simp) hn
theorem Cd(X:cH W){w:iC}:Meth W w.D (J "less") (.ref 131):=jG X (by kernel_rfl) (by kernel_rfl) (by kernel_rfl) (by kernel_rfl)
theorem zi(X:cH W){w:iC}:Meth W w.D (J "equal") (.ref 117):=jG X (by kernel_rfl) (by kernel_rfl) (by kernel_rfl) (by kernel_rfl)
theorem Jb{x y:List Nat}:lp W (cc .Eq) (.str (aS x)) (.str (aS y)) (.bool (decide (x=y))):=tC (n:=0) .str (by rw[decide_eq_true_iff]; exact⟨λe=>by rw[e],λe=>by injection e with e; exact qo e⟩) (by decide)
noncomputable abbrev lB(l:List Nat):D:= .list ((cL l).map λk=>(cF k).D)
theorem xp(K:CK C names){ls:List (List Nat)}(H:LsOk ls){e eu:Expr}{p1:Pos}{u:Nat}{l:List Nat}(hl:bq ls u=l)(he:VE W C ρ e (nB ls))(h1:VE W C ρ eu (.int u))(hu:u<4)(s1:autoParam (∀o i,subscripted eu false o i=operate [o,i] (dI o i)) CS._auto_1):VE W C ρ (.Subscript e eu p1) (jY (cL l)):=
 dA (T:= "list") (da:=nB ls) (di:= .int u) K he h1 aR (bY (by rw[av,(eU H hu).1,hl]; rfl) (by exact D4 hu)) rfl s1
theorem Dh(X:cH W)(K:CK C eM)(lv:Lv 4 C.A){ls:List (List Nat)}(H:LsOk ls){u:Nat}(hu:u<4)(T:pT (bq ls u)){b1 b2 b3 b4 b5 b6 b7 b8 b9 j8 jg kN oV mS ng lP lQ lR lS:Bd}
 (h:VS W C (dm b1 b2 b3 b4 b5 b6 b7 b8 b9 (.val (nB ls)) j8 jg kN oV mS (.val (.int u)) (.val (lB (bq ls u))) ng lP lQ lR lS) ((cj (KK W) 369).drop 14) Q):
 VS W C (dm b1 b2 b3 b4 b5 b6 b7 b8 b9 (.val (nB ls)) j8 jg kN oV mS (.val (.int u)) (.val (lB (bq ls u))) ng lP lQ lR lS) ((cj (KK W) 369).drop 13) Q:=by
 unfold dm at*
 have hm:=(eU H hu).2
 have hk:=rF (H.sg _ hm) (H.sz _ hm)
 generalize hl:bq ls u=l at*
 refine jw (b:=false) (VB.eq (Ia (Ib (a:=false) (kO K (dY (eW:=[(".0", .unset),("x", .unset)]) (out:=(cL l).map λk=> .str (aS (rawOf k))) K (jE K (nm K (d:=lB l)) bp) (λC' K' e=>gH (cL l) (λk=>(cF k).D) (λk=> .str (aS (rawOf k))) (λk=>[(".0", .unset),("x", .val (cF k).D)]) (λk hk=>cx K') (λk hk=> .eq (jV K' (nm K' (d:=(cF k).D)) (Lz X)) rfl) λk hk=>jS) kq (by simp[cL]))
  (dY (eW:=[(".0", .unset),("lead", .unset)]) (out:=(cL l).map λk=> .str (aS (rawOf k))) K (jE K (xp K H hl (nm K) (nm K) hu) bp) (λC' K' e=>gH (cL l) (λk=> .str (aS k)) (λk=> .str (aS (rawOf k))) (λk=>[(".0", .unset),("lead", .val (.str (aS k)))]) (λk hk=>cx K') (λk hm=>bin K' (nm K') (st xt) (gR (by have:=(hk k hm).2; show _+3<=_; exact aN 0x197240085f495212b0201 tt this))) λk hk=>jS) kq (by simp[cL])) (kD rfl (jv (n:=0) _ _ _ _ λ_ _=> .str) (by decide)))
  λ_=>Ib (a:=false) (kO K (ER (eW:=[(".0", .unset),("x", .unset),("y", .unset),("trio", .val (lB l))]) (out:=((cL l).map λx=>(cL l).map λy=> .tup [.bool (eJ (cF x) (cF y)), .bool (nC (cF x) (cF y))]).flatten) K (jE K (nm K (d:=lB l)) bp) (λC' K' e=>BQ (cL l) (λk=>(cF k).D) (λx=>(cL l).map λy=> .tup [.bool (eJ (cF x) (cF y)), .bool (nC (cF x) (cF y))]) (λk=>[(".0", .unset),("x", .val (cF k).D),("y", .unset),("trio", .val (lB l))]) (λk hk=>cx K') (λx hx=>BP (jE K' (nm K' (d:=lB l)) bp) (gH (cL l) (λk=>(cF k).D) (λy=> .tup [.bool (eJ (cF x) (cF y)), .bool (nC (cF x) (cF y))]) (λk=>[(".0", .unset),("x", .val (cF x).D),("y", .val (cF k).D),("trio", .val (lB l))]) (λk hk=>cx K') (λy hy=>?_) λk hk=>jS)) λk hk=>jS) kq (by simp[cL]))
   (ER (eW:=[(".0", .unset),("x", .unset),("y", .unset),("kin", .val (nB ls)),("one", .val (.int u))]) (out:=((cL l).map λx=>(cL l).map λy=> .tup [.bool false, .bool (decide (x=y))]).flatten) K (jE K (xp K H hl (nm K) (nm K) hu) bp) (λC' K' e=>BQ (cL l) (λk=> .str (aS k)) (λx=>(cL l).map λy=> .tup [.bool false, .bool (decide (x=y))]) (λk=>[(".0", .unset),("x", .val (.str (aS k))),("y", .unset),("kin", .val (nB ls)),("one", .val (.int u))]) (λk hk=>cx K') (λx hx=>BP (jE K' (xp K' H hl (nm K') (nm K') hu) bp) (gH (cL l) (λk=> .str (aS k)) (λy=> .tup [.bool false, .bool (decide (x=y))]) (λk=>[(".0", .unset),("x", .val (.str (aS x))),("y", .val (.str (aS k))),("kin", .val (nB ls)),("one", .val (.int u))]) (λk hk=>cx K') (λy hy=>tup (ac JO (a1 (cmp K' (nm K') (nm K') Jb)))) λk hk=>jS)) λk hk=>jS) kq (by simp[cL]))
   (kD (n:=2) ?_ ?_ (by decide))) λ_=>Qq)) rfl) (λe=>by exact nomatch e) λ_=>dh h
 ·exact tup (ac (gg (nm K') (Cd X) (X.kept (by kernel_rfl)) (a1 (nm K')) (Ov X (by rw[e]; exact lv.le (by decide)) (T.ok x hx) (T.ok y hy)).un) (a1 (gg (nm K') (zi X) (X.kept (by kernel_rfl)) (a1 (nm K')) (Om X (by rw[e]; exact lv.le (by decide))).un)))
 ·congr 2
  refine ef λx hx=>ef λy hy=>?_
  rw[T.less x hx y hy,T.eq x hx y hy]
 ·rw[PM]; exact jv _ _ _ _ λ_ _=>w0 .bool .bool
theorem Gl(X:cH W)(K:CK C eM)(lv:Lv 4 C.A){ls:List (List Nat)}(H:LsOk ls){u:Nat}(hu:u<4)(T:pT (bq ls u)){b1 b2 b3 b4 b5 b6 b7 b8 b9 j8 jg kN oB lP lQ lR lS:Bd}
 (h:VS W C (dm b1 b2 b3 b4 b5 b6 b7 b8 b9 (.val (nB ls)) j8 jg kN (.val (fE ls)) (.val (nh ls)) (.val (.int u)) oB (.val (.list ((iD (bq ls u)).map (iH (bq ls u))))) lP lQ lR lS) ((cj (KK W) 369).drop 15) Q):
 VS W C (dm b1 b2 b3 b4 b5 b6 b7 b8 b9 (.val (nB ls)) j8 jg kN (.val (fE ls)) (.val (nh ls)) (.val (.int u)) oB .unset lP lQ lR lS) ((cj (KK W) 369).drop 14) Q:=by
 unfold dm at*
 have hm:=eU H hu
 have hk:=rF (H.sg _ hm.2) (H.sz _ hm.2) (gm (bq ls u)) (.tail _ (.head _))
 have hb:=rG (H.sz _ hm.2)
 have YA:dJ (bq ls u)<=AS ls:=lr (aw.mpr ⟨_,hm.2,rfl⟩)
 refine vZ (eW:=[(".0", .unset),("size", .unset),("columns", .val (nh ls)),("kin", .val (nB ls)),("one", .val (.int u))]) (out:=(iD (bq ls u)).map (iH (bq ls u))) K (Gj X K (n:=(dJ (bq ls u)+1).toNat) (by exact Hz hb) num (VE.eq (bin K (dA (T:= "list") (da:=fE ls) (di:= .int (u:Nat)) (d:= .int (dJ (bq ls u))) K (nm K) (nm K) aR (bY (by rw[av,av,hm.1]; rfl) (by exact D4 hu))) num cV) (by congr 1; exact Nc hb))) (λC' K' e=>gH (iD (bq ls u)) (λ(k:Nat)=> .int k) (iH (bq ls u)) (λ(k:Nat)=>[(".0", .unset),("size", .val (.int k)),("columns", .val (nh ls)),("kin", .val (nB ls)),("one", .val (.int u))]) (λk hk=>cx K') (λk oX=>?_) λk hk=>jS) kq (by rw[ai]; unfold iD; rw[cY]; exact Hz hb) kB h
 have u4:=cR.mp oX
 refine tup (ac (nm K') (ac (dA (T:= "list") (da:=rH (pS ls) (bq ls u)) (di:= .int (k-1:Nat)) K' (dA (T:= "list") (da:=nh ls) (di:= .int (u:Nat)) K' (nm K') (nm K') aR (bY (by rw[av,hm.1]; rfl) (by exact D4 hu))) (VE.eq (bin K' (nm K') num gG) (by congr 1; exact Ti u4)) aR (bY ?_ (by exact Tj hb u4))) (a1 (bS (gl K' (zf X)) (X.kept (by kernel_rfl)) (ac (Gg K' H (k:=1) (nm K') (nm K') num hu (by decide)) (a1 (nm K'))) (N7 X (by rw[e]; exact lv.le (by decide)) (uF hk.1) (by exact aN 688302738945 tt u4.1) (by exact Nd hb u4)).un))))
 rw[av,km (by unfold pS; exact Tn hb YA u4)]
 show some (D.int (fc (bq ls u) ((1+1*(k-1):Nat):Int)))=_
 rw[show 1+1*(k-1)=k by exact Tp u4]
noncomputable def Jc(l:List Nat):List Nat:=(iD l).filter λk=>decide (fc l k≠fc (gm l) k)
noncomputable def lC(l:List Nat):List Nat:=(iD l).filter λk=>decide (fc l k=fc (gm l) k)
theorem qJ{l:List Nat}{k:Nat}(h:k∈iD l)(hl:dJ l<=60):0<k/\k<200:=by
 have:=cR.mp h; exact Tq hl this
theorem Gm{l:List Nat}(T:pT l):(pB (cF l) (cF (gm l))).map (mR (cF l) (cF (gm l)))=(Jc l).map (iH l):=by
 have hi:=λts h=>T.ind l (.head _) ts h
 have hj:=λts h=>T.ind (gm l) (.tail _ (.head _)) ts h
 unfold pB Jc
 rw[T.Km.1]
 refine(congrArg (List.map _) (mC (q:=λ(k:Nat)=>decide (fc l k≠fc (gm l) k)) λk hk=>?_)).trans (ef λk hk=>?_)
 ·have hk:=qJ hk T.long
  rw[hi k hk.1,hj k hk.1]
 have hk:=qJ (bw.mp hk).1 T.long
 unfold mR iH
 rw[hi k hk.1,hj k hk.1]
theorem Mt{l:List Nat}(T:pT l):mm (cF (gm l)) (cF l)=lC l:=by
 unfold mm lC
 rw[T.Km.2]
 refine mC λk hk=>?_
 have hk:=qJ hk T.long
 rw[T.ind l (.head _) k hk.1,T.ind (gm l) (.tail _ (.head _)) k hk.1,decide_eq_decide]
 have:=T.le k hk.1
 exact Tr this
theorem Di(X:cH W)(XT:uh W)(K:CK C eM)(lv:Lv 5 C.A){l:List Nat}(T:pT l){b1 b2 b3 b4 b5 b6 b7 b8 b9 mn j8 jg kN oV mS pC lP lQ lR lS:Bd}
 (h:VS W C (dm b1 b2 b3 b4 b5 b6 b7 b8 b9 mn j8 jg kN oV mS pC (.val (lB l)) (.val (.list ((iD l).map (iH l)))) lP lQ lR lS) ((cj (KK W) 369).drop 16) Q):
 VS W C (dm b1 b2 b3 b4 b5 b6 b7 b8 b9 mn j8 jg kN oV mS pC (.val (lB l)) (.val (.list ((iD l).map (iH l)))) lP lQ lR lS) ((cj (KK W) 369).drop 15) Q:=by
 unfold dm at*
 have h0:cF l∈([cF l,cF (gm l),cF (mq l)]:List iC):= .head _
 have o0:=T.ok l (.head _)
 have o1:=T.ok (gm l) (.tail _ (.head _))
 have hlen:(iD l).length<=61:=by unfold iD; rw[cY]; have:=T.long; exact Ts this
 have Yw:(Jc l).length<=61:=aP (ba _ _) hlen
 have MU:(lC l).length<=61:=aP (ba _ _) hlen
 have Nz:((lC l).map (mR (cF (gm l)) (cF l)))=((lC l).map λ(t:Nat)=>((t:Int),[D.int ((cF (gm l)).ind t), .int ((cF l).ind t)])).map wD:=by rw[aM]; rfl
 have hsm:∀t∈lC l,0<t/\t<200:=λt ht=>qJ (bw.mp ht).1 T.long
 refine jw (b:=false) (VB.eq (Ia (Ib (a:=false) (kO K (gg (dA (T:= "list") (da:=lB l) (di:= .int (0:Nat)) (d:=(cF l).D) K (nm K) num aR (bY rfl (by decide))) (FN X) (X.kept (by kernel_rfl)) (a1 (dA (T:= "list") (da:=lB l) (di:= .int (1:Nat)) (d:=(cF (gm l)).D) K (nm K) num aR (bY rfl (by decide)))) (Oq X (lv.le (by decide)) o0 o1).un)
  (dY (eW:=[(".0", .unset),("pair", .unset)]) (out:=(Jc l).map (iH l)) K (jE K (nm K (d:= .list ((iD l).map (iH l)))) bp) (λC' K' e=>sm (iD l) (iH l) (λk=>decide (fc l k≠fc (gm l) k)) (iH l) (λk=>[(".0", .unset),("pair", .val (iH l k))]) (λk hk=>cx K') (λk hk=>kO K' (dA (T:= "tuple") (da:=iH l k) (di:= .int (1:Nat)) K' (nm K') num cu (fw rfl (by decide))) (dA (T:= "tuple") (da:=iH l k) (di:= .int (2:Nat)) K' (nm K') num cu (fw rfl (by decide))) (yu (n:=0) .int (by simp) (by decide))) (λk hk _=>nm K') λk hk=>jS) kq (by rw[ai]; exact aN 0x7d900210e2da84801 tt Yw))
  (kD (n:=2) (congrArg D.list (Gm T).symm) ?_ (by decide)))
  λ_=>Ib (a:=false) (kO K (bS (gl K (y7 X)) (X.kept (by kernel_rfl)) (a1 (VE.eq (gg (dA (T:= "list") (da:=lB l) (di:= .int (1:Nat)) (d:=(cF (gm l)).D) K (nm K) num aR (bY rfl (by decide))) (AN X) (X.kept (by kernel_rfl)) (a1 (dA (T:= "list") (da:=lB l) (di:= .int (0:Nat)) (d:=(cF l).D) K (nm K) num aR (bY rfl (by decide)))) (LH X (lv.le (by decide)) o1 o0).un) (by rw[Mt T,Nz]))) (B5 X XT (t:=wordsOf ((lC l).map jb)) (lv.le (by decide)) ?_ (by rw[ai]; exact aN 0xfb200426a4801 tt MU) (by rw[aM]; rfl)))
   (bS (gl K (B8 X)) (X.kept (by kernel_rfl)) (a1 (dY (eW:=[(".0", .unset),("pair", .unset)]) (out:=(lC l).map λ(k:Nat)=>D.int k) K (jE K (nm K (d:= .list ((iD l).map (iH l)))) bp) (λC' K' e=>sm (iD l) (iH l) (λk=>decide (fc l k=fc (gm l) k)) (λ(k:Nat)=>D.int k) (λk=>[(".0", .unset),("pair", .val (iH l k))]) (λk hk=>cx K') (λk hk=>kO K' (dA (T:= "tuple") (da:=iH l k) (di:= .int (1:Nat)) K' (nm K') num cu (fw rfl (by decide))) (dA (T:= "tuple") (da:=iH l k) (di:= .int (2:Nat)) K' (nm K') num cu (fw rfl (by decide))) hZ) (λk hk _=>dA (T:= "tuple") (da:=iH l k) (di:= .int (0:Nat)) K' (nm K') num cu (fw rfl (by decide))) λk hk=>jS) kq (by rw[ai]; exact aN 0x7d900210e2da84801 tt MU))) (Ob X (d:= .list ((lC l).map λ(k:Nat)=>D.int k)) (ns:=(lC l).map jb) (lv.le (by decide)) ?_ ?_ ?_ (by rw[ai]; exact aN 0xfb200426a4801 tt MU)).un)
   (kD (n:=0) rfl .str (by decide))) λ_=>Qq)) rfl) (λe=>by exact nomatch e) λ_=>dh h
 ·rw[Gm T]; exact jv _ _ _ _ λ_ _=>w3 .int .int .int
 ·rintro p hp
  obtain⟨t,ht,rfl⟩:=aw.mp hp
  have:=hsm t ht
  exact⟨by show((t:Int)).natAbs<1000000; exact Nf this,mU t this.2⟩
 ·intro A
  rw[ai,show(lC l).length=((lC l).map λ(k:Nat)=>D.int k).length by rw[ai]]
  exact jQ (by rw[ai]; exact aN 0x1f640085f495212a0201 tt MU)
 ·rw[show((lC l).map jb).map D.int=(lC l).map λ(k:Nat)=>D.int k by rw[aM]; rfl]; exact bp
 ·intro n hn
  obtain⟨t,ht,rfl⟩:=aw.mp hn
  have:=hsm t ht
  exact⟨by show((t:Int)).natAbs<1000000; exact Nf this,mU t this.2⟩
end
noncomputable def nL(v:Nat):Nat:=97+v
noncomputable def kQ(r:Rel)(u:Nat):List (Nat×Bool):=((aB 4).filter λv=>bF r u v != 0).map λv=>(nL v,decide (bF r u v=2))
structure AU(ls:List (List Nat))(r:Rel)(hs:List Hd):Prop where
 wf:Wf r
 ok:∀l∈ls,(cF l).Ok
 ind:∀l∈ls,∀ts:Nat,0<ts->(cF l).ind ts=fc l ts
 long:∀l∈ls,(cF l).long=dJ l
 less:∀u<4,∀v<4,eJ (cF (bq ls u)) (cF (bq ls v))=decide (bF r u v=2)
 eq:∀u<4,∀v<4,nC (cF (bq ls u)) (cF (bq ls v))=decide (bF r u v=1)
 IA:∀h∈hs,h.Ok
 hlen:hs.length<=1000
 perm:∀u<4,(kQ r u).Perm (iu hs (nL u))
 PN:∀u<4,(iu hs (nL u)).length<=4/\1<=(iu hs (nL u)).length
noncomputable def pairD(a b:List Nat)(k:Nat):D:= .tup [.int k, .int (fc a k), .int (fc b k)]
noncomputable def mw(a b:List Nat):List Nat:=bB 1 (max (dJ a) (dJ b)+1).toNat
theorem AV:∀u<4,([97,98,99,100]:List Nat)[u]? =some (nL u)/\nL u∈small:=by decide
theorem uG(r:Rel)(u:Nat):(kQ r u).Pairwise λa b=>a.1<b.1:=by
 unfold kQ
 rw[r6]
 have h:(aB 4).Pairwise (·< ·):=List.pairwise_lt_range
 exact(h.filter _).imp fun{a b} h=>qT h 97
theorem Dj{a b:List Nat}{n N:Nat}(h:n<=N):((aB n).map λ(i:Nat)=>D.tup [.int ((i:Int)+1),((bB 1 N).map λ(k:Nat)=>D.int (fc a k)).getD i .none,((bB 1 N).map λ(k:Nat)=>D.int (fc b k)).getD i .none])=(bB 1 n).map (pairD a b):=by
 apply js; intro i
 rw[av,av]
 rcases fX i n with hi|hi
 ·have g:∀c:List Nat,((bB 1 N).map λ(k:Nat)=>D.int (fc c k)).getD i .none= .int (fc c ((1+i:Nat):Int)):=λc=>by
   rw[ak,av,km (by exact Hy h hi),Dy]; rfl
  rw[cQ hi,km hi,Dy]
  refine congrArg some (congrArg D.tup ?_)
  rw[<-g a,<-g b,show(((1+i:Nat):Int))=(i:Int)+1 by exact Tt]
 ·rw[cf (by simpa using hi),cf (by simpa using hi)]; rfl
theorem zj{a b:List Nat}(ha:(cF a).long=dJ a)(hb:(cF b).long=dJ b):sizesOf (cF a) (cF b) 1=mw a b:=by
 unfold sizesOf mw; rw[ha,hb]; congr 1; exact Ng
noncomputable def Mu(a b:List Nat):List Nat:=(mw a b).filter λk=>decide (fc b k<=fc a k)
noncomputable abbrev wB(r:Rel)(u v:Nat)(a b:List Nat):D:= .list [.bool (decide (bF r u v=2)), .bool (decide (bF r u v=1)), .list ((Mu a b).map (pairD a b))]
theorem Dk{r:Rel}{u v:Nat}{a b:List Nat}:gf 3 (wB r u v a b) (wB r u v a b):=HO .bool .bool (jv (n:=1) _ _ (pairD a b) (pairD a b) λ_ _=>w3 (n:=0) .int .int .int)
section
variable {W:Wd}{C:Cx}{ρ a9:Ro}{names:List (Str×aC)}{Q:Out->Prop}{f o:Fz}{s:Shared}
theorem uH{A:Around}{b:Bool}:l7 W A (.builtin "isinstance") [.bool b, .raw (.type "bool")] (.bool true):=λf o s vs S hd Q E h=>by
 obtain⟨v,r,rfl,hv,v2,r2,rfl,hv2,rfl⟩:=hd
 obtain rfl:v= .bool b:=hv
 obtain rfl:v2= .type "bool":=hv2
 exact PySem.IsiPair.bool_bool (h _ f _ (.refl f) S rfl)
inductive Kn(ls:List (List Nat))(r:Rel)(hs:List Hd)(b1 b2 b3 b5 b6 b7 b9 mn jg pC oB ng:Bd)(xs:List D)(ρ:Ro):Prop
 |mk (us:List Nat) (j8 lP lQ lR lS:Bd) (h1:xs=us.map (λ(i:Nat)=>D.int i)) (h2:(∀u∈us,u<4)) (h3:ρ=dm b1 b2 b3 (.val (gA r)) b5 b6 b7 (.val (pL (hs.map Hd.pr))) b9 mn j8 jg (.val (.list ((ls.map cF).map iC.D))) (.val (fE ls)) (.val (nh ls)) pC oB ng lP lQ lR lS):Kn ls r hs b1 b2 b3 b5 b6 b7 b9 mn jg pC oB ng xs ρ
inductive Ko(ls:List (List Nat))(r:Rel)(hs:List Hd)(u:Nat)(b1 b2 b3 b5 b6 b7 b9 mn jg pC oB ng:Bd)(xs:List D)(ρ:Ro):Prop
 |mk (us:List Nat) (lP lQ lR lS:Bd) (h1:xs=us.map (λ(i:Nat)=>D.int i)) (h2:(∀u∈us,u<4)) (h3:ρ=dm b1 b2 b3 (.val (gA r)) b5 b6 b7 (.val (pL (hs.map Hd.pr))) b9 mn (.val (.int u)) jg (.val (.list ((ls.map cF).map iC.D))) (.val (fE ls)) (.val (nh ls)) pC oB ng lP lQ lR lS):Ko ls r hs u b1 b2 b3 b5 b6 b7 b9 mn jg pC oB ng xs ρ
theorem Gp(X:cH W)(K:CK C eM)(lv:Lv 6 C.A){ls:List (List Nat)}{r:Rel}{hs:List Hd}(H:LsOk ls)(P:AU ls r hs){b1 b2 b3 b5 b6 b7 b9 mn jg pC oB ng:Bd}
 (h:∀j8 lP lQ lR lS,VS W C (dm b1 b2 b3 (.val (gA r)) b5 b6 b7 (.val (pL (hs.map Hd.pr))) b9 mn j8 jg (.val (.list ((ls.map cF).map iC.D))) (.val (fE ls)) (.val (nh ls)) pC oB ng lP lQ lR lS) ((cj (KK W) 369).drop 17) Q) (c11 c19 c20 c21 c22:Bd):
 VS W C (dm b1 b2 b3 (.val (gA r)) b5 b6 b7 (.val (pL (hs.map Hd.pr))) b9 mn c11 jg (.val (.list ((ls.map cF).map iC.D))) (.val (fE ls)) (.val (nh ls)) pC oB ng c19 c20 c21 c22) ((cj (KK W) 369).drop 16) Q:=by
 unfold dm at*
 have hm:=fun{u} (hu:u<4)=>eU H (u:=u) hu
 refine mO K (t8 X K) (Kn ls r hs b1 b2 b3 b5 b6 b7 b9 mn jg pC oB ng) ⟨aB 4,_,_,_,_,_,rfl,λu hu=>aW.mp hu,rfl⟩ ?_ ?_
 ·rintro ρ ⟨us,j8,lP,lQ,lR,lS,-,-,rfl⟩
  exact h _ _ _ _ _
 rintro x xs ρ ⟨us,j8,lP,lQ,lR,lS,e1,e2,rfl⟩
 cases us with
 |nil=>exact nomatch e1
 |cons u us=>
 obtain⟨rfl,rfl⟩:x=D.int u/\xs=us.map λ(i:Nat)=>D.int i:=by cases e1; exact⟨rfl,rfl⟩
 have hu:=e2 u (.head _)
 unfold dm
 refine⟨_,cx K,?_⟩
 refine jw (b:=false) (kO K (bS (gl K (F8 X)) (X.kept (by kernel_rfl)) (ac (nm K) (a1 (dA (T:= "str") (da:= .str (aS [97,98,99,100])) (di:= .int (u:Nat)) (d:= .str (aS [nL u])) K (st [97,98,99,100]) (nm K) fK (iT (AV u hu).1 (by decide))))) (XQ X (lv.le (by decide)) (out:=kQ r u) P.IA P.hlen (AV u hu).2 (P.perm u hu) (uG r u) (P.PN u hu).1 (P.PN u hu).2).un)
  (dY (eW:=[(".0", .unset),("v", .unset),("rel", .val (gA r)),("u", .val (.int u))]) (out:=((aB 4).filter λv=>bF r u v != 0).map λv=>lM (nL v,decide (bF r u v=2))) K (t8 X K) (λC' K' e=>sm (aB 4) (λv=> .int v) (λv=>bF r u v != 0) (λv=>lM (nL v,decide (bF r u v=2))) (λv=>[(".0", .unset),("v", .val (.int v)),("rel", .val (gA r)),("u", .val (.int u))]) (λv hv=>cx K') (λv hv=>Mine.Ar K' (ia K' P.wf (nm K') (nm K') (nm K') hu (aW.mp hv)) w7) (λv hv _=>tup (ac (dA (T:= "str") (da:= .str (aS [97,98,99,100])) (di:= .int (v:Nat)) (d:= .str (aS [nL v])) K' (st [97,98,99,100]) (nm K') fK (iT (AV v (aW.mp hv)).1 (by decide))) (a1 (cmp K' (ia K' P.wf (nm K') (nm K') (nm K') hu (aW.mp hv)) num hZ)))) λv hv=>jS) kq (by rw[ai]; exact aP (ba _ _) (by decide)))
  (kD (n:=2) (by unfold kQ; rw[aM]; rfl) (jv _ _ _ _ λp q=>yV p q) (by decide))) (λe=>by exact nomatch e) λ_=>dh ?_
 refine mO K (t8 X K) (Ko ls r hs u b1 b2 b3 b5 b6 b7 b9 mn jg pC oB ng) ⟨aB 4,_,_,_,_,rfl,λu hu=>aW.mp hu,rfl⟩ ?_ ?_
 ·rintro ρ ⟨ZQ,lP,lQ,lR,lS,-,-,rfl⟩
  exact dh ⟨us,_,_,_,_,_,rfl,λv hv=>e2 v (.tail _ hv),rfl⟩
 rintro x xs ρ ⟨vs,lP,lQ,lR,lS,e3,e4,rfl⟩
 cases vs with
 |nil=>exact nomatch e3
 |cons v vs=>
 obtain⟨rfl,rfl⟩:x=D.int v/\xs=vs.map λ(i:Nat)=>D.int i:=by cases e3; exact⟨rfl,rfl⟩
 have hv:=e4 v (.head _)
 unfold dm
 refine⟨_,cx K,?_⟩
 have mu:=hm hu; have mv:=hm hv
 have hlen:(bq ls u).length<=100/\(bq ls v).length<=100:=⟨H.sz _ mu.2,H.sz _ mv.2⟩
 have lu:=rG hlen.1; have lw:=rG hlen.2
 have tu:dJ (bq ls u)<=AS ls:=lr (aw.mpr ⟨_,mu.2,rfl⟩)
 have tv:dJ (bq ls v)<=AS ls:=lr (aw.mpr ⟨_,mv.2,rfl⟩)
 have tb:=Kl H
 have less:=P.less u hu v hv; have eq:=P.eq u hu v hv
 have ou:=P.ok _ mu.2; have ov:=P.ok _ mv.2
 have ind:=λk h=>(⟨P.ind _ mu.2 k h,P.ind _ mv.2 k h⟩:_/\_)
 have szs:=zj (P.long _ mu.2) (P.long _ mv.2)
 have YB:∀(w:Nat),w<4->((ls.map dJ).map D.int)[w]? =some (D.int (dJ (bq ls w))):=λw hw=>by rw[av,av,(hm hw).1]; rfl
 have YC:∀(w:Nat),w<4->(ls.map (rH (pS ls)))[w]? =some (rH (pS ls) (bq ls w)):=λw hw=>by rw[av,(hm hw).1]; rfl
 have YD:∀(w:Nat),w<4->((ls.map cF).map iC.D)[w]? =some (cF (bq ls w)).D:=λw hw=>by rw[av,av,(hm hw).1]; rfl
 have ul:=YB u hu; have vl:=YB v hv; have uc:=YC u hu; have vc:=YC v hv; have uw:=YD u hu; have YE:=YD v hv
 clear YB YC YD
 generalize ha:bq ls u=a at*
 generalize hb:bq ls v=b at*
 have hN:(max (dJ a) (dJ b)+1).toNat<=pS ls:=by unfold pS; exact Tu tb tu tv
 refine let1 (d:= .list ((mw a b).map (pairD a b))) (VE.eq (De (n:=(max (dJ a) (dJ b)+1).toNat) K (gl K (xb X)) (gl K (JS X)) (ac (bS (gl K (kr X)) .type (ac num (a1 (VE.eq (bin K (bS (gl K (ly X)) .builtin (ac (dA (T:= "list") (da:=fE ls) (di:= .int (u:Nat)) K (nm K) (nm K) aR (bY ul (by exact aN 0xbd010085f495212a0201 tt hu))) (a1 (dA (T:= "list") (da:=fE ls) (di:= .int (v:Nat)) K (nm K) (nm K) aR (bY vl (by exact aN 0xbd010085f495212a0201 tt hv))))) (jR K.hand)) num cV) (by congr 1; exact Tv lu lw)))) kJ) (ac (dA (T:= "list") (da:=nh ls) (di:= .int (u:Nat)) K (nm K) (nm K) aR (bY uc (by exact aN 0xbd010085f495212a0201 tt hu))) (a1 (dA (T:= "list") (da:=nh ls) (di:= .int (v:Nat)) K (nm K) (nm K) aR (bY vc (by exact aN 0xbd010085f495212a0201 tt hv)))))) (by rw[ai,cY]; exact hN) (by rw[ai,cY]; exact hN) (by exact Tw lu lw) (by exact Tx lu lw)) (by rw[Dj hN]; rfl)) (cx K) ?_
 refine let1 (d:=wB r u v a b) (lst (ac (VE.eq (gg (dA (T:= "list") (da:= .list ((ls.map cF).map iC.D)) (di:= .int (u:Nat)) K (nm K) (nm K) aR (bY uw (by exact aN 0xbd010085f495212a0201 tt hu))) (Cd X) (X.kept (by kernel_rfl)) (a1 (dA (T:= "list") (da:= .list ((ls.map cF).map iC.D)) (di:= .int (v:Nat)) K (nm K) (nm K) aR (bY YE (by exact aN 0xbd010085f495212a0201 tt hv)))) (Ov X (lv.le (by decide)) ou ov).un) (by rw[less])) (ac (VE.eq (gg (dA (T:= "list") (da:= .list ((ls.map cF).map iC.D)) (di:= .int (u:Nat)) K (nm K) (nm K) aR (bY uw (by exact aN 0xbd010085f495212a0201 tt hu))) (zi X) (X.kept (by kernel_rfl)) (a1 (dA (T:= "list") (da:= .list ((ls.map cF).map iC.D)) (di:= .int (v:Nat)) K (nm K) (nm K) aR (bY YE (by exact aN 0xbd010085f495212a0201 tt hv)))) (Om X (lv.le (by decide))).un) (by rw[<-eq]; rfl))
  (a1 (VE.eq (gg (dA (T:= "list") (da:= .list ((ls.map cF).map iC.D)) (di:= .int (u:Nat)) K (nm K) (nm K) aR (bY uw (by exact aN 0xbd010085f495212a0201 tt hu))) (AN X) (X.kept (by kernel_rfl)) (a1 (dA (T:= "list") (da:= .list ((ls.map cF).map iC.D)) (di:= .int (v:Nat)) K (nm K) (nm K) aR (bY YE (by exact aN 0xbd010085f495212a0201 tt hv)))) (LH X (lv.le (by decide)) ou ov).un) ?_))))) (cx K) ?_
 ·unfold mm Mu
  rw[szs]
  refine congrArg D.list ((congrArg (List.map _) (mC λk hk=>?_)).trans (ef λk hk=>?_))
  ·have hk:=(cR.mp hk).1
   rw[(ind k hk).1,(ind k hk).2]
  ·have hk:=(cR.mp (bw.mp hk).1).1
   unfold mR pairD
   rw[(ind k hk).1,(ind k hk).2]
 refine let1 (d:=wB r u v a b) (lst (ac (cmp K (ia K P.wf (nm K) (nm K) (nm K) hu hv) num hZ) (ac (cmp K (ia K P.wf (nm K) (nm K) (nm K) hu hv) num hZ) (a1 (dY (eW:=[(".0", .unset),("pair", .unset)]) (out:=(Mu a b).map (pairD a b)) K (jE K (nm K) bp) (λC' K' e=>sm (mw a b) (pairD a b) (λk=>decide (fc b k<=fc a k)) (pairD a b) (λk=>[(".0", .unset),("pair", .val (pairD a b k))]) (λk hk=>cx K') (λk hk=>kO K' (dA (T:= "tuple") (da:=pairD a b k) (di:= .int (1:Nat)) K' (nm K') num cu (fw rfl (by decide))) (dA (T:= "tuple") (da:=pairD a b k) (di:= .int (2:Nat)) K' (nm K') num cu (fw rfl (by decide))) vO) (λk hk _=>nm K') λk hk=>jS) kq (by rw[ai]; refine aP (ba _ _) ?_; unfold mw; rw[cY]; exact Tz lu lw)))))) (cx K) ?_
 refine jw (b:=false) (VB.eq (Ia (Ib (a:=false) (kO K (nm K (d:=wB r u v a b)) (nm K (d:=wB r u v a b)) (kD (n:=3) rfl Dk (by decide)))
  λ_=>Ib (Ls (Mine.Ar K (bS (gl K (qx X)) .builtin (ac (dA (T:= "list") (di:= .int (0:Nat)) K (nm K) num aR (bY rfl (by simp[*]))) (a1 (gl K (g_bool X)))) uH) gz))
  λ_=>Ib (Ls (Mine.Ar K (bS (gl K (qx X)) .builtin (ac (dA (T:= "list") (di:= .int (1:Nat)) K (nm K) num aR (bY rfl (by simp[*]))) (a1 (gl K (g_bool X)))) uH) gz)) λ_=>Qq)) rfl) (λe=>by exact nomatch e) λ_=>dh (dh ?_)
 exact⟨vs,_,_,_,_,rfl,λw hw=>e4 w (.tail _ hw),rfl⟩
end
noncomputable def Wd.out(W:Wd)(L:Addr)(ob:Obj)(hL:W.B.f L=none):Wd where
 prog:=W.prog
 w:=W.w
 B:={f:=W.B.f,side:=λa=>W.B.side a\/a=L,sq:=λa x=>if a=L then ∃sl,x={ob with slots:=sl} else W.B.sq a x,os:=W.B.os,dq:=W.B.dq,gq:=W.B.gq,nolimit:=W.B.nolimit,ftab:=λa h=>h.elim (W.B.ftab a) λe=>e▸hL}
noncomputable def jh(es:List Ed)(k:Nat):Ed:=es.getD k ⟨0,0,0,0⟩
noncomputable def gh(ls:List (List Nat))(e:Ed):Nat:=(max (dJ (bq ls e.low)) (dJ (bq ls e.high))+1).toNat
noncomputable def Dm(es:List Ed)(ls:List (List Nat))(k:Nat):D:= .tup [.int k, .str (aS (wordsOf ((bB 1 (gh ls (jh es k))).map jb))), .str (aS (cp (jh es k)))]
noncomputable def Ce(es:List Ed)(ks:List Bool)(ls:List (List Nat)):List D:=((aB 5).filter λk=>!(ks.getD k false)).map (Dm es ls)
structure AW(es:List Ed)(ks:List Bool)(ls:List (List Nat)):Prop where
 eq:gY (es.map cp) (ls.map cF) 0 (es.map rowOf)=Ce es ks ls
 ok:∀l∈ls,(cF l).Ok/\(cF l).long<=50
 short:∀l∈ls,dJ l<=60
section
variable {W:Wd}{C:Cx}{ρ a9:Ro}{names:List (Str×aC)}{Q:Out->Prop}{f o:Fz}{s:Shared}
theorem St.out(S:St W.B f o s){L:Addr}{ob:Obj}(hB:W.B.f L=none)(h:o L=some ob):St (W.out L ob hB).B f (o.del L) s:=by
 have hn:∀c,W.B.side c->c≠L:=λc hc q=>S.iG (.inr h) (q▸hc)
 refine⟨S.sub,λa x e=>?_,λa x e=>?_,S.base,λc hc=>?_,λc hc=>⟨?_,?_⟩,S.os,S.gens⟩
 ·unfold Fz.del at e
  split at e
  ·exact nomatch e
  ·exact S.own a x e
 ·unfold Fz.del; split
  ·rfl
  ·exact S.apart a x e
 ·rcases hc with hc|rfl
  ·obtain⟨x,h1,h2⟩:=S.tab c hc
   exact⟨x,h1,show(if c=L then _ else _) by rw[if_neg (hn c hc)]; exact h2⟩
  ·exact⟨ob,S.own _ _ h,show(if c=c then _ else _) by rw[if_pos rfl]; exact⟨ob.slots,rfl⟩⟩
 ·rcases hc with hc|rfl
  ·exact(S.fo c hc).1
  ·exact S.fu h
 ·unfold Fz.del; split
  ·rfl
  ·rcases hc with hc|hc
   ·exact(S.fo c hc).2
   ·contradiction
theorem St.into{L:Addr}{ob:Obj}{hB:W.B.f L=none}(S:St (W.out L ob hB).B f (o.del L) s)(hs:¬W.B.side L):∃sl,St W.B f (o.put L {ob with slots:=sl}) s:=by
 obtain⟨x,h1,h2⟩:=S.tab L (.inr rfl)
 have h2:if L=L then ∃sl,x={ob with slots:=sl} else W.B.sq L x:=h2
 rw[if_pos rfl] at h2
 obtain⟨sl,rfl⟩:=h2
 have hn:∀c,W.B.side c->c≠L:=λc hc q=>hs (q▸hc)
 have od:∀a,a≠L->o.del L a=o a:=λa h=>by unfold Fz.del; rw[if_neg h]
 refine⟨sl,S.sub,λa y e=>?_,λa y e=>?_,S.base,λc hc=>?_,λc hc=>⟨(S.fo c (.inl hc)).1,?_⟩,S.os,S.gens⟩
 ·by_cases q:a=L
  ·subst q; cases nJ (Fz.aJ ..) e; exact h1
  ·rw[Fz.az q] at e; exact S.own a y ((od a q).trans e)
 ·have q:a≠L:=λq=>by subst q; have:=(S.fo a (.inr rfl)).1; rw[e] at this; exact nomatch this
  rw[Fz.az q,<-od a q]; exact S.apart a y e
 ·obtain⟨y,e1,e2⟩:=S.tab c (.inl hc)
  have e2:if c=L then ∃sl,y={ob with slots:=sl} else W.B.sq c y:=e2
  rw[if_neg (hn c hc)] at e2
  exact⟨y,e1,e2⟩
 ·rw[Fz.az (hn c hc),<-od c (hn c hc)]; exact(S.fo c (.inl hc)).2
theorem Jd(X:cH W)(XT:uh W)(K:CK C names)(FE:C.A.frames=some [C.env])(rk:C.env.frame=some C.env.locals){func r:Expr}{es:List Expr}{p1 p2 p3:Pos}{fv:Value}{ds:List D}{d db:D}{b:Bool}{rest:List Stmt}(hf:VE W C ρ func (.raw fv))(hk:Kept W fv)(ha:VA W C ρ es ds)(hc:∀W':Wd,cH W'->uh W'->Md W' [C.env]->l7 W' C.A fv ds d)(hb:VE W C ρ r db)(ho:lp W (cc .Eq) d db (.bool b))(h:Q (.ret (.bool b)))
 (hp:autoParam ((aI es C.env).all (λx=>!x.1)=true) fL._auto_1) (he:autoParam (eval (.Call func es [] p1) C.env=(do fR p1 (<-eval func C.env) [] (backTo p1 (aI es C.env)) (gp p1 (dG [] C.env)))) fL._auto_1) (hm:autoParam (jk .Eq r=false) fL._auto_1):VS W C ρ (.Return (some (.Compare (.Call func es [] p1) [.Eq] [r] p2)) p3::rest) Q:=vs (.cons λf o s S H P E hP=>nO (by
 obtain⟨ob,ens,ep,hL,zV,JG⟩:=H.ns
 have O:=K.ok
 refine wpAny_Compare1 ?_ hm
 rw[he]
 refine aa (hf.un f o s S H _ _ λv f1 s1 l1 S1 d1=>?_)
 obtain rfl:v=fv:=d1
 have jl:=cn p1 es C.env hp
 refine d6 (P:=λh=>∀a x,W.B.f a=some x->h.get? a=some x) (by rw[jl]; rfl) hk (dj jl ?_)
 refine ha.un p1 f1 o s1 S1 (H.mono l1 (.refl o)) _ _ λvs f2 s2 l2 S2 d2=>⟨S2.bT,?_⟩
 have hB:W.B.f C.env.locals=none:=by
  refine none_of λx q=>?_
  have:=S.fu hL; rw[S.base _ _ q] at this; exact nomatch this
 have Kq:¬W.B.side C.env.locals:=S.iG (.inr hL)
 have Gq:¬(147:Addr)=C.env.locals:=λq=>Kq (q▸XT.tab)
 refine hc (W.out C.env.locals ob hB) ⟨X.sj,X.Qo⟩ ⟨.inl XT.tab,λx=>?_,XT.gq,XT.bmod⟩ ⟨λenv he=>?_,λenv he L hl x hx=>?_⟩ f2 (o.del C.env.locals) s2 vs (S2.out hB hL) d2 _ _ λv f3 s3 l3 S3 d3=>?_
 ·show(if(147:Addr)=C.env.locals then _ else _)↔_
  rw[if_neg Gq]; exact XT.tq x
 ·obtain rfl:=aA.mp he
  exact⟨by rw[O.kind]; decide,_,rk, .inr rfl⟩
 ·obtain rfl:=aA.mp he
  cases nJ rk hl
  have hx:if C.env.locals=C.env.locals then ∃sl,x={ob with slots:=sl} else W.B.sq C.env.locals x:=hx
  rw[if_pos rfl] at hx
  obtain⟨sl,rfl⟩:=hx
  refine⟨λvs q=>?_,λWQ=>show(if C.env.locals=C.env.locals then _ else _) by rw[if_pos rfl]; exact⟨WQ,rfl⟩⟩
  rw[show({ob with slots:=sl}:Obj).data=ob.data from rfl,zV] at q; exact nomatch q
 ·obtain⟨sl,S4⟩:=S3.into Kq
  have H4:=((H.mono (l1.trans (l2.trans l3)) (.refl o)).FH (ob':={ob with slots:=sl}) hL rfl)
  refine hb.un f3 _ s3 S4 H4 _ _ λvb f4 s4 l4 S5 d4=>?_
  refine ho _ f4 _ s4 v vb O.room S5 (d3.mono l4) d4 _ _ λv5 f5 s5 l5 S6 d5=>?_
  refine hP (.ret (.bool b)) _ _ h ⟨v5,f5,_,rfl,l1.trans (l2.trans (l3.trans (l4.trans l5))),S6,λa x e hm=>?_,d5⟩
  rw[Fz.az λq=>hm (.inl q)]; exact e))
theorem it5{eO:Expr}(X:cH W)(K:CK C names){p1 p2 p3:Pos}{k:Nat}(hm:autoParam ((J "range",ag)∈names) vm._auto_1):VI W C ρ eO (.Call (.Name (J "range") p1) [.Constant (.int 5) k p2] [] p3) ((aB 5).map λ(i:Nat)=>D.int i):=by
 rw[<-mQ]
 exact jE K (bS (gl K (kr X) hm (by decide+kernel)) .type (a1 num) mI) (mJ (by decide) (by decide) (by decide) (by decide))
theorem Kr(K:CK C names){ls:List (List Nat)}(H:LsOk ls){es:List Ed}{el ed ek ej:Expr}{p1 p2 p3:Pos}{k j w:Nat}{e:Ed}(hk5:k<1000)(hj5:j<1000)(hw:w<4)(h1:es[k]? =some e)(h2:([.int e.low, .str (aS (mi e.sg)), .int e.high, .int e.great]:List D)[j]? =some (.int w))(hl:VE W C ρ el (fE ls))(hs:VE W C ρ ed (.list (es.map uU)))(hk:VE W C ρ ek (.int k))(hj:VE W C ρ ej (.int j))
 (s1:autoParam (∀o i,subscripted ek false o i=operate [o,i] (dI o i)) CS._auto_1) (s2:autoParam (∀o i,subscripted ej false o i=operate [o,i] (dI o i)) CS._auto_1):VE W C ρ (.Subscript el (.Subscript (.Subscript ed ek p1) ej p2) p3) (.int (dJ (bq ls w))):=
 dA (T:= "list") (da:=fE ls) (di:= .int w) K hl (dA (T:= "tuple") (da:=uU e) (di:= .int j) (d:= .int w) K (dA (T:= "list") (da:= .list (es.map uU)) (di:= .int k) K hs hk aR (bY (by rw[av,h1]; rfl) (by exact TA hk5)) rfl s1) hj cu (fw h2 (by exact aN 0xfd895010085f495212a0201 tt hj5)) rfl s2) aR (bY (by rw[av,av,(eU H hw).1]; rfl) (by exact D4 hw))
theorem Gr(X:cH W)(XT:uh W)(K:CK C eM)(lv:Lv 6 C.A)(FE:C.A.frames=some [C.env])(rk:C.env.frame=some C.env.locals){es:List Ed}{ks:List Bool}{ls:List (List Nat)}(H:LsOk ls)(hx:∀e∈es,vA e)(h5:es.length=5)(hk:ks.length=5)(N:AW es ks ls){b1 b3 b4 b8 b9 mn j8 jg mS pC oB ng lP lQ lR lS:Bd}(h:Q (.ret (.bool true))):
 VS W C (dm b1 (.val (.list (es.map uU))) b3 b4 (.val (.list (ks.map .bool))) (.val (jY (es.map cp))) (.val (.list ((es.map rowOf).map eh))) b8 b9 mn j8 jg (.val (.list ((ls.map cF).map iC.D))) (.val (fE ls)) mS pC oB ng lP lQ lR lS) ((cj (KK W) 369).drop 17) Q:=by
 unfold dm
 have C1:∀k<5,es[k]? =some (jh es k)/\jh es k∈es/\ks[k]? =some (ks.getD k false):=λk h=>by
  have he:es[k]? =some (jh es k):=by unfold jh; rw[ak,aj (by exact HA h5 h)]; rfl
  exact⟨he,bI he,by rw[ak,aj (by exact HA hk h)]; rfl⟩
 refine Jd X XT K FE rk (gl K (Mr X)) (X.kept (by kernel_rfl)) (ac (nm K (d:=jY (es.map cp))) (ac (nm K (d:= .list ((es.map rowOf).map eh))) (a1 (nm K (d:= .list ((ls.map cF).map iC.D)))))) (λW' X' XT' F'=>(Yl X' XT' lv FE F' (parts:=es.map cp) (rows:=es.map rowOf) (ws:=ls.map cF) ?_ ?_ ?_ ?_ ?_).un)
  (dY (eW:=[(".0", .unset),("k", .unset),("kept", .val (.list (ks.map .bool))),("longs", .val (fE ls)),("parts", .val (jY (es.map cp))),("said", .val (.list (es.map uU)))]) (out:=Ce es ks ls) K (it5 X K) (λC' K' e=>sm (aB 5) (λ(k:Nat)=> .int k) (λk=>!(ks.getD k false)) (Dm es ls) (λk=>[(".0", .unset),("k", .val (.int k)),("kept", .val (.list (ks.map .bool))),("longs", .val (fE ls)),("parts", .val (jY (es.map cp))),("said", .val (.list (es.map uU)))]) (λk hk=>cx K') (λk hk=>?_) (λk hk _=>?_) λk hk=>jS) kq (by unfold Ce; rw[ai]; exact aP (ba _ _) (by decide)))
  (tC (n:=2) (b:=true) ?_ ?_ (by decide)) h
 ·intro r hr; obtain⟨e,he,rfl⟩:=aw.mp hr; exact F2 (hx e he)
 ·intro w hw; obtain⟨l,hl,rfl⟩:=aw.mp hw; exact N.ok l hl
 ·rw[ai,H.len]
 ·rw[ai,ai]; exact bL _
 ·rw[ai,h5]; decide
 ·have hk:=aW.mp hk
  exact Ls (Mine.Ar K' (dA (T:= "list") (da:= .list (ks.map .bool)) (di:= .int (k:Nat)) K' (nm K') (nm K') aR (bY (by rw[av,(C1 k hk).2.2]; rfl) (by exact Nh hk))) gz)
 ·have hk:=aW.mp hk
  obtain⟨he,hm,-⟩:=C1 k hk
  have ex:=(hx _ hm).ok
  have ml:=eU H ex.low; have mh:=eU H ex.high
  have bl:=rG (H.sz _ ml.2); have bh:=rG (H.sz _ mh.2); have sl:=N.short _ ml.2; have sh:=N.short _ mh.2
  have DN:gh ls (jh es k)<=61/\((gh ls (jh es k):Nat):Int)=max (dJ (bq ls (jh es k).low)) (dJ (bq ls (jh es k).high))+1:=by unfold gh; exact TB bl bh sl sh
  unfold Dm
  refine tup (ac (nm K') (ac (bS (gl K' (B8 X)) (X.kept (by kernel_rfl)) (a1 (d:= .Bo 1 (((gh ls (jh es k):Nat):Int)+1)) (bS (gl K' (kr X)) .type (ac num (a1 (VE.eq (bin K' (bS (gl K' (ly X)) .builtin (ac (Kr K' H (j:=0) (by exact aN 0x314040211fb12a0201 tt hk) (by decide) ex.low he rfl (nm K') (nm K') (nm K') num) (a1 (Kr K' H (j:=2) (by exact aN 0x314040211fb12a0201 tt hk) (by decide) ex.high he rfl (nm K') (nm K') (nm K') num))) (jR K'.hand)) num cV) (by rw[DN.2]; congr 1; exact TC)))) kJ)) (Ob X (ns:=(bB 1 (gh ls (jh es k))).map jb) (by rw[e]; exact lv.le (by decide)) ?_ ?_ ?_ ?_).un) (a1 (dA (T:= "list") (da:=jY (es.map cp)) (di:= .int (k:Nat)) K' (nm K') (nm K') aR (bY (by rw[av,av,he]; rfl) (by exact Nh hk))))))
  ·intro A
   have:=Es (W:=W) (A:=A) (a:=1) (b:=((gh ls (jh es k):Nat):Int)+1) (by exact ew 0x40085be92a4141 tt) (by exact ew 0x3ec8010be92a413002161 tt DN.1) (by decide) (by decide)
   rw[ai,cY]
   rw[show((((gh ls (jh es k):Nat):Int)+1-1).toNat:Int)=((gh ls (jh es k):Nat):Int) by exact TF] at this
   exact this
  ·have:=mJ (W:=W) (a:=1) (b:=((gh ls (jh es k):Nat):Int)+1) (by decide) (by decide) (by exact ew 0x40085be92a4141 tt) (by exact ew 0x3ec8010be92a413002161 tt DN.1)
   rw[show(((gh ls (jh es k):Nat):Int)+1-1).toNat=gh ls (jh es k) by exact TG,show(1:Int)=((1:Nat):Int) from rfl,ot] at this
   rw[aM]; exact this
  ·intro n hn
   obtain⟨t,ht,rfl⟩:=aw.mp hn
   have:=cR.mp ht
   exact⟨by show((t:Int)).natAbs<1000000; exact TH DN this,mU t (by exact aX 0xa428180423ec8010b312a0601 tt DN.1 this.2)⟩
  ·rw[ai,cY]; have:=DN.1; exact aN 0xfb200426a4801 tt DN.1
 ·rw[N.eq]; exact jv (n:=1) _ _ _ _ λ_ _=>w3 (n:=0) (by constructor) (by constructor) (by constructor)
 ·rw[N.eq]; simp
end
noncomputable def qK(ns:List Int):Nat:=(draws ns).sum.toNat
structure Gs(ns:List Int)(fs:List Nat):Prop where
 tot:(draws ns).sum=qK ns
 keep:(closure (pe ns)).2.length=5
 PO:jI (closure (pe ns)).1 fs
 ls:LsOk (fg (closure (pe ns)).1 fs (qK ns))
 Mv:pT (bq (fg (closure (pe ns)).1 fs (qK ns)) (qK ns % 4))
 loop:AU (fg (closure (pe ns)).1 fs (qK ns)) (closure (pe ns)).1 (nf (pe ns) (closure (pe ns)).2)
 YF:AW (pe ns) (closure (pe ns)).2 (fg (closure (pe ns)).1 fs (qK ns))
section
variable {W:Wd}
theorem YG(X:cH W)(XT:uh W){A:Around}(lv:Lv 7 A)(FE:A.frames=some []){ns:List Int}{fs:List Nat}(hn:ns.length<=63)(L:Gs ns fs):
 iJ W A (.ref 369) [.list (ns.map .int)] (.bool true):=Ap λf o s vs S hd Q E h=>by
 have Pn:=hd
 obtain⟨v1,r,rfl,h1,h5⟩:=hd
 obtain rfl:r=[]:=h5
 refine fQ (X.code (P:=λ_=>True) 369 (n:=6) (ps:=["script"]) (ds:=[.list (ns.map .int)])
  (ρ:=dm (.val (.list (ns.map .int))) .unset .unset .unset .unset .unset .unset .unset .unset .unset .unset .unset .unset .unset .unset .unset .unset .unset .unset .unset .unset .unset) (names:=eM) lv ⟨_,rfl,rfl⟩ rfl (by kernel_rfl) rfl rfl (by kernel_rfl) rfl rfl rfl rfl rfl (by kernel_rfl) (by kernel_rfl) (λQ E k=>?_) ?_ S λf1 env dr cU _ l1 lo jf H mG sd hm=>?_)
 ·have e:eQ (cm (KK W) 369) ⟨[v1],[]⟩=pure [(J "script",v1)]:=by kernel_rfl
  show wpAny _ _ (eQ (cm (KK W) 369) ⟨[v1],[]⟩) Q E s
  rw[e]
  exact ao (k [v1] f s (.refl f) S Pn trivial)
 ·unfold dm
  show kj [(_,_)] _ _
  exact qY
 ·have K:CK ⟨env,A.deeper env,eM⟩ eM:=⟨H.ok,mG.hand,rfl⟩
  have Mh:=zN (env:=env) FE
  refine ud (C:=⟨env,A.deeper env,eM⟩) (d:= .bool true) ?_ jf H lo hm (R:=λr s'=>match r with| .ok (.ret v)=>Q v s'| .ok _=>False| .error e=>E e s') λv' f' s' l' S' d'=>h v' f' s' (l1.trans l') S' d'
  have hu:qK ns % 4<4:=dQ _ (by decide)
  exact PK X K (mG.le (by decide)) hn (I6 ns) F1 (uy ns) L.tot L.PO L.keep <| I9 X K L.ls <| Gh X K (mG.le (by decide)) L.ls <| AR X K (mG.le (by decide)) L.ls <| Dg X K L.ls <| zh X K (mG.le (by decide)) L.ls <|
   Ja X K <| Gk X K (mG.le (by decide)) L.ls hu <| Dh X K (mG.le (by decide)) L.ls hu L.Mv <| Gl X K (mG.le (by decide)) L.ls hu L.Mv <| Di X XT K (mG.le (by decide)) L.Mv <|
   Gp (Q:=Ends (.bool true)) X K mG L.ls L.loop (λ_ _ _ _ _=>Gr X XT K mG Mh sd.2 L.ls F1 (uy ns) L.keep L.YF rfl) _ _ _ _ _
end
theorem PQ:∀P,(HK P).lookup 147=aD:=λP=>by kernel_rfl
theorem PR{P:Params}{h:Heap}(x:(HX P).In h):(HK P).In h/\h.get? 147=some ⟨.none,aD, .fields #[],#[]⟩:=by
 refine⟨λa o e=>x a o ?_,x 147 _ (by kernel_rfl)⟩
 unfold HX
 rw[rb,e]; rfl
set_option tactic.hygienic true in
theorem Ci{K:Frag}{h:Heap}(x:K.In h){ns:Addr}{m:Str->Option Value}(hn:h.Ns ns m){name:Str}{v:Value}(e:nsIn K ns name=some (some v)):m name=some v:=by
 obtain⟨o,es,ep,ho,hd,-,hf⟩:=hn
 rw[<-hf]
 unfold nsIn at e
 split at e
 ·rename_i c d pF n sl hl
  have:=x _ _ hl
  cases nJ ho this
  cases hd
  split at e
  ·rename_i q
   cases e
   unfold nsFind findBy
   rw[<-Array.find?_toList,q]; rfl
  ·split at e<;>exact nomatch e
 ·exact nomatch e
theorem Dn{f:Fz}{vs:List Value}{ns:List Int}(h:IntsAre vs ns):bQ f (ns.map .int) vs:=BH h
noncomputable def wd0(P:gr)(w:World)(s:Shared)(hn:s.heap.NoLimit):Wd where
 prog:=P
 w:=w
 B:={
  f:=λb=>if b=147 then aD else s.heap.get? b
  side:=λa=>a=147
  sq:=λ_ x=>∃m:ME,x=m.obj
  os:=s.os
  dq:=λ_=>True
  gq:=AllBare
  nolimit:=λh k=>hn.at λo e=>k _ _ (show(if Jv=147 then _ else _)=_ by rw[if_neg (by decide)]; exact e)
  ftab:=λa h=>by show(if a=147 then _ else _)=_; rw[if_pos h]}
set_option tactic.hygienic true in
theorem Je(law:∀ns:List Int,ns.length<=63->∃fs,Gs ns fs):fV.Holds:=hd λw mK cU mg mb G Y fa o pm cd doc dV kV ho G9 sd hD hg PS args vals as AL YH hrd Yo hlo=>by
 have KX:=PR (kIn_of Y)
 have T:=G.T
 clear G9 sd hD
 wrow_args AL YH hrd Yo hlo
 rename_i ns _ _ _ _ _ _ _ la vs _ hL _ w1 _ hI _ hlen _
 have w1:Well w.params cU.heap (.ref la) (.list (ofPys (ns.map PyData.int))):=w1
 have hn:ns.length<=63:=by exact TJ hlen
 obtain⟨fs,LO⟩:=law ns hn
 obtain⟨K1,Gq⟩:=KX
 have PT:∀{a o},(HK w.params).lookup a=some o->a≠147:=λe q=>by subst q; rw[PQ] at e; exact nomatch e
 let W:=wd0 Qn.prog w cU T.nolimit
 have AK:∀a o,a≠147->cU.heap.get? a=some o->W.B.f a=some o:=λa o h e=>by show(if a=147 then _ else _)=_; rw[if_neg h]; exact e
 have ofF:∀a o,W.B.f a=some o->cU.heap.get? a=some o:=λa o e=>by
  have e:(if a=147 then aD else cU.heap.get? a)=some o:=e
  split at e
  ·exact nomatch e
  ·exact e
 have X:cH W:=⟨λa o e=>AK a o (PT e) (K1 a o e),mb,λh k=>let⟨o,es,ep,h1,h2⟩:=T.b; ⟨o,es,ep,k _ _ (AK _ _ (by decide) h1),h2⟩,T.builtins⟩
 have b4:∃x:Obj,W.B.f 4=some x/\x.cls= .type "module" /\x.dict=some cP/\x.data= .plain:=by
  obtain⟨bm,ob,h1,h2,h3,h4,h5,h6⟩:=T.bmain
  have:=Ci K1 T.g (show nsIn (HK w.params) bV (J "__builtins__")=some (some (.ref 4)) by kernel_rfl)
  rw[show(("__builtins__" :Str))=J "__builtins__" from rfl,this] at h1
  cases h1
  exact⟨ob,AK 4 _ (by decide) h3,h4,h5,h6⟩
 have XT:uh W:=⟨rfl,λx=>Iff.rfl,λgs=>Iff.rfl,b4⟩
 have S:St W.B W.B.f (λ_=>aD) cU:=⟨ofF,λa x e=>(by exact nomatch e),λa x _=>rfl,Fz.le.refl _,λa ha=>⟨_,ha▸Gq,⟨⟨#[],trivial⟩,rfl⟩⟩,λa ha=>⟨W.B.ftab a ha,rfl⟩,⟨rfl,trivial⟩,by rw[PS]; exact .empty⟩
 have JF:fa=369:=by
  have:=Ci K1 T.g (show nsIn (HK w.params) bV (J "law")=some (some (.ref 369)) by kernel_rfl)
  rw[show D0.name=J "law" by kernel_rfl,this] at hg
  cases hg; rfl
 subst JF
 ·refine(YG X XT (A:=callerA) ⟨by decide,by decide,rfl⟩ rfl hn LO).un W.B.f (λ_=>aD) cU [.ref la] S ?_ _ _ λv f' s' l' S' d'=>?_
  ·cases w1 with
   |list h1 h2=>
    obtain⟨ob,e1,e2,k,e3⟩:=hL
    cases nJ h1 e1
    injection e3 with e4 e5
    have e4:_=vs:=congrArg zw e4
    refine .cons ⟨la,_,vs,0,rfl,AK la _ (λq=>?_) h1,⟨rfl,rfl,rfl⟩,by rw[<-e4],Dn hI⟩ .nil
    subst q; cases nJ Gq h1
  ·obtain rfl:v= .bool true:=d'
   have keep:∀b x,b≠147->cU.heap.get? b=some x->s'.heap.get? b=some x:=λb x hb e=>S'.bT _ _ (AK b x hb e)
   refine⟨.inl ⟨_, .bool true,[],rfl,λ_=>rfl, .bool _,?_,λ_=>⟨Ky,λa ha=>by cases ha⟩⟩,⟨λb x e=>?_,λb x e=>?_⟩,S'.os.1,S'.gens⟩
   ·exact postW_of (by wrow_shape) (by wtm_val) (by w_fin)
   ·by_cases hb:b=147
    ·subst hb
     cases nJ Gq e
     obtain⟨x,h1,m,rfl⟩:=S'.tab 147 rfl
     have hc:∃x vs,(HK w.params).lookup 151=some x/\x.cls= .type "code" /\x.data= .fields vs/\vs[11]? =some (.ref 147):=⟨_,_,rfl,rfl,rfl,rfl⟩
     obtain⟨x,ws,c1,c2,c3,c4⟩:=hc
     exact .inr (.inl ⟨⟨151,x,ws,K1 _ _ c1,c2,c3,c4⟩,rfl,#[],m.1,rfl,by rw[h1]; unfold ME.obj; simp⟩)
    ·exact .inl (keep b x hb e)
   ·by_cases hb:b=147
    ·subst hb; obtain⟨x,h1,_⟩:=S'.tab 147 rfl; exact⟨x,h1⟩
    ·exact⟨x,keep b x hb e⟩
structure TT(r:Rel):Prop where
 wf:Wf r
 e:∀u<4,∀v<4,0<=bF r u v/\bF r u v<=2
 d:∀u<4,bF r u u=1
 tr:∀u<4,∀v<4,∀w<4,bF r u v≠0->bF r v w≠0->bF r u v<=bF r u w/\bF r v w<=bF r u w
theorem uI(g:Nat->Nat->Int){u v:Nat}(hu:u<4)(hv:v<4):bF ((aB 4).map λu=>(aB 4).map λv=>g u v) u v=g u v:=by
 unfold bF
 have h1:((aB 4).map λu=>(aB 4).map λv=>g u v).getD u []=(aB 4).map λv=>g u v:=by rw[ak,av,cQ hu]; rfl
 rw[h1,ak,av,cQ hv]; rfl
theorem Dp{r:Rel}{x y:Nat}{eP:Int}{u v:Nat}(hu:u<4)(hv:v<4):bF (c0 r x y eP) u v=mP r x y eP u v:=uI _ hu hv
theorem g0:∀u<4,∀v<4,bF xc u v=if(u:Int)=v then 1 else 0:=λu hu v hv=>uI (λ(u v:Nat)=>if(u:Int)=v then 1 else 0) hu hv
theorem tt0:TT xc:=by
 refine⟨yI _,λu hu v hv=>?_,λu hu=>?_,λu hu v hv w hw=>?_⟩
 ·rw[g0 u hu v hv]; split<;>decide
 ·rw[g0 u hu u hu,if_pos rfl]
 ·rw[g0 u hu v hv,g0 v hv w hw,g0 u hu w hw]; (repeat' split)<;>(first|decide|lia|omega)
set_option tactic.hygienic true in
theorem qL{r:Rel}(P:TT r){a b:Nat}(ha:a<4)(hb:b<4){c:Int}(hc:c=1\/c=2):∀u<4,∀v<4,(bF r u a≠0/\bF r b v≠0/\bF r u v<=bF (c0 r a b c) u v/\bF r u a<=bF (c0 r a b c) u v/\bF r b v<=bF (c0 r a b c) u v/\c<=bF (c0 r a b c) u v/\bF (c0 r a b c) u v<=2/\
 (bF (c0 r a b c) u v=2->bF r u v=2\/bF r u a=2\/bF r b v=2\/c=2))\/((bF r u a=0\/bF r b v=0)/\bF (c0 r a b c) u v=bF r u v):=λu hu v hv=>by
 rw[Dp hu hv]; unfold mP
 have e1:=P.e u hu v hv; have e2:=P.e u hu a ha; have e3:=P.e b hb v hv
 split
 ·rename_i h
  exact .inl ⟨h.1,h.2,by exact TK,by exact TL e1 e2 e3,by exact TM,by exact TN,by exact TP hc e1 e2 e3 h,by exact TQ e1 e2 e3⟩
 ·exact .inr ⟨by exact TR ‹_›,by exact TS e1⟩
theorem xq{r:Rel}(P:TT r){a b:Nat}(ha:a<4)(hb:b<4){c:Int}(hc:c=1\/c=2)(h:bF r b a=0\/(bF r b a=1/\c=1)):TT (c0 r a b c):=by
 have G:=qL P ha hb hc
 refine⟨yI _,λu hu v hv=>?_,λu hu=>?_,λu hu v hv w hw=>?_⟩
 ·have:=P.e u hu v hv; rcases G u hu v hv with q|⟨_,q⟩<;>(first|exact TU this q|exact TV this q|lia|omega)
 ·have d1:=P.d u hu; have d2:=P.tr b hb u hu a ha; have d3:=P.e b hb u hu
  rcases G u hu u hu with q|⟨_,q⟩<;>first|exact QR h d1 d2 d3 q|exact q.trans d1|(first|exact TX h ‹_› ‹_› this q|exact TY this q|lia|omega)
 ·have t1:=P.tr u hu v hv w hw; have t2:=P.tr u hu v hv a ha; have t3:=P.tr b hb v hv w hw; have t4:=P.tr b hb v hv a ha
  have e1:=P.e u hu v hv; have e2:=P.e v hv w hw; have e3:=P.e u hu w hw
  have G1:=G u hu v hv; have G2:=G v hv w hw; have G3:=G u hu w hw
  generalize bF (c0 r a b c) u v=R1 at*; generalize bF (c0 r a b c) v w=R2 at*; generalize bF (c0 r a b c) u w=R3 at*
  clear G
  rcases G1 with⟨h1,h2,q1,q2,q3,q4,q5,q6⟩|⟨h1,q⟩<;>rcases G2 with⟨k1,k2,p1,p2,p3,p4,p5,p6⟩|⟨k1,p⟩<;>rcases G3 with⟨l1,l2,o1,o2,o3,o4,o5,o6⟩|⟨l1,o1⟩<;>(first|exact TZ hc h t2 t3 t4 h2 q2 q4 q5 q6 k1 p3 p5 p6 o2 o3 o4|exact T3 h1 k2 l1|exact T4 t1 t3 e2 e3 h2 q5 q6 p o1 o2 o3 o4 o5|exact T5 t3 e2 h1 h2 p l1|exact T6 t1 t2 e1 q k1 p5 p6 o1 o2 o3 o4 o5|exact T7 t2 e1 q k1 k2 l1|exact T8 t1 q p o1|exact T9 t1 q p o1|lia|omega)
inductive Reach(K:Nat->Nat->Bool->Prop):Nat->Nat->Bool->Prop
 |refl (u):Reach K u u false
 |snoc {u v w f g}:Reach K u v f->K v w g->Reach K u w (f||g)
theorem Reach.trans{K:Nat->Nat->Bool->Prop}{u v:Nat}{f:Bool}(x:Reach K u v f):∀{w:Nat} {g:Bool},Reach K v w g->Reach K u w (f||g):=by
 intro w g y
 induction y with
 |refl=>rw[ya]; exact x
 |snoc _ k ih=>rw[<-Bool.or_assoc]; exact ih.snoc k
theorem Reach.mono{K L:Nat->Nat->Bool->Prop}(h:∀a b f,K a b f->L a b f){u v:Nat}{f:Bool}(x:Reach K u v f):Reach L u v f:=by
 induction x with
 |refl=>exact .refl _
 |snoc _ k ih=>exact ih.snoc (h _ _ _ k)
noncomputable def Sound(r:Rel)(K:Nat->Nat->Bool->Prop):Prop:=∀u<4,∀v<4,bF r u v≠0->Reach K u v (decide (bF r u v=2))
theorem step_sound{r:Rel}(P:TT r){a b:Nat}(ha:a<4)(hb:b<4){c:Int}(hc:c=1\/c=2){K:Nat->Nat->Bool->Prop}(S:Sound r K)(hk:K a b (decide (c=2))):Sound (c0 r a b c) K:=λu hu v hv h=>by
 rcases qL P ha hb hc u hu v hv with⟨h1,h2,q1,q2,q3,q4,q5,q6⟩|⟨_,q⟩
 ·by_cases z:bF r u v=bF (c0 r a b c) u v
  ·rw[<-z] at h ⊢; exact S u hu v hv h
  ·have w:=((S u hu a ha h1).snoc hk).trans (S b hb v hv h2)
   have e:(decide (bF r u a=2)||decide (c=2)||decide (bF r b v=2))=decide (bF (c0 r a b c) u v=2):=by
    rw[<-KG,<-KG,decide_eq_decide]
    constructor
    ·intro _; exact Ua q2 q3 q4 q5 a_1
    ·intro k; have:=q6 k; exact Ub q2 q3 q4 z k this
   rw[e] at w; exact w
 ·rw[q] at h ⊢; exact S u hu v hv h
structure Inv(r:Rel)(K:Nat->Nat->Bool->Prop):Prop where
 tt:TT r
 sound:Sound r K
 QI:∀a b f,K a b f->a<4/\b<4/\(if f then(2:Int) else 1)<=bF r a b
 sym:∀a b,K a b false->K b a false
set_option tactic.hygienic true in
theorem Inv.along{r:Rel}{K:Nat->Nat->Bool->Prop}(I:Inv r K){u v:Nat}{f:Bool}(x:Reach K u v f)(hu:u<4):v<4/\(if f then(2:Int) else 1)<=bF r u v:=by
 induction x with
 |refl=>exact⟨hu,by rw[I.tt.d _ hu]; decide⟩
 |snoc _ k ih=>
  have h1:=ih; have h2:=I.QI _ _ _ k
  refine⟨h2.2.1,?_⟩
  have t:=I.tt.tr _ hu _ h1.1 _ h2.2.1
  rename_i f g _
  cases f<;>cases g<;>simp at h1 h2 ⊢<;>(first|exact Uc t h1 h2|exact Ud t h1 h2|exact Ue t ih h1 h2|exact Ug t h1 h2|lia|omega)
theorem Reach.back{K:Nat->Nat->Bool->Prop}(sym:∀a b,K a b false->K b a false){u v:Nat}{f:Bool}(x:Reach K u v f):f=false->Reach K v u false:=by
 induction x with
 |refl=>intro _; exact .refl _
 |snoc _ k ih=>
  intro h
  rw[Bool.or_eq_false_iff] at h
  obtain⟨rfl,rfl⟩:=h
  exact((Reach.refl _).snoc (sym _ _ k)).trans (ih rfl)
theorem Inv.as{r:Rel}{K:Nat->Nat->Bool->Prop}(I:Inv r K){u v:Nat}(hu:u<4)(hv:v<4):(bF r u v=2->bF r v u=0)/\(bF r u v=1->bF r v u=1):=by
 have d:=I.tt.d u hu; have t:=I.tt.tr u hu v hv u hu; have e:=I.tt.e v hv u hu
 refine⟨λh=>by exact Uh d t h,λh=>?_⟩
 have w:=I.sound u hu v hv (by exact Ui h)
 rw[h] at w
 have:=(I.along (w.back I.sym rfl) hv).2
 simp at this
 exact Uj d t e h this
theorem Inv.reach{r:Rel}{K:Nat->Nat->Bool->Prop}(I:Inv r K){u v:Nat}{f:Bool}(hu:u<4):Reach K u v f↔v<4/\bF r u v≠0/\f=decide (bF r u v=2):=by
 refine⟨λw=>?_,λ⟨h1,h2,h3⟩=>h3▸I.sound u hu v h1 h2⟩
 obtain⟨hv,hb⟩:=I.along w hu
 refine⟨hv,by cases f<;>simp at hb<;>(first|exact Uk hb|exact Ul hb|lia|omega),?_⟩
 have e:=I.tt.e u hu v hv
 cases f with
 |true=>simp at hb; exact(decide_eq_true (by exact Nj e hb)).symm
 |false=>
  have h1:=(I.along (w.back I.sym rfl) hv).2
  simp at h1
  have:=(I.as hu hv).1
  exact(decide_eq_false (by exact Um h1 this)).symm
noncomputable def QJ(r r':Rel):Prop:=∀u<4,∀v<4,bF r u v<=bF r' u v
theorem xr{r:Rel}(P:TT r){a b:Nat}(ha:a<4)(hb:b<4){c:Int}(hc:c=1\/c=2):QJ r (c0 r a b c)/\c<=bF (c0 r a b c) a b:=by
 refine⟨λu hu v hv=>?_,?_⟩
 ·rcases qL P ha hb hc u hu v hv with q|⟨_,q⟩<;>(first|exact Un q|exact Uo q|lia|omega)
 ·have:=P.d a ha; have:=P.d b hb
  rcases qL P ha hb hc a ha b hb with q|⟨_,q⟩<;>(first|exact Up q|exact Uq ‹_› this left|lia|omega)
theorem Sound.mono{r:Rel}{K L:Nat->Nat->Bool->Prop}(h:∀a b f,K a b f->L a b f)(S:Sound r K):Sound r L:=λu hu v hv q=>(S u hu v hv q).mono h
noncomputable def Jf(K:Nat->Nat->Bool->Prop)(a b:Nat)(c:Int):Nat->Nat->Bool->Prop:=λx y f=>K x y f\/((x=a/\y=b)\/(c=1/\x=b/\y=a))/\f=decide (c=2)
theorem zk{r:Rel}{K:Nat->Nat->Bool->Prop}(I:Inv r K){a b:Nat}(ha:a<4)(hb:b<4){c:Int}(hc:c=1\/c=2)(hk:eA r a b c=true):
 Inv ((pairsOf a b c).foldl (λr p=>c0 r p.1 p.2 c) r) (Jf K a b c)/\QJ r ((pairsOf a b c).foldl (λr p=>c0 r p.1 p.2 c) r):=by
 have hm:∀x y f,K x y f->Jf K a b c x y f:=λx y f h=> .inl h
 have S:=I.sound.mono hm
 have h1:Jf K a b c a b (decide (c=2)):= .inr ⟨.inl ⟨rfl,rfl⟩,rfl⟩
 have eab:=I.tt.e a ha b hb; have eba:=I.tt.e b hb a ha
 rcases hc with rfl|rfl
 ·have hk:max (bF r a b) (bF r b a)<2:=by simpa [eA] using hk
  have hc:(1:Int)=1\/(1:Int)=2:= .inl rfl
  have T1:=xq I.tt ha hb hc (by(first|lia|omega))
  have c1:=qL I.tt ha hb hc a ha b hb
  have d1:=I.tt.d a ha; have d2:=I.tt.d b hb
  have L1:=xr I.tt ha hb hc
  have T2:=xq T1 hb ha hc (by rcases c1 with q|⟨_,q⟩<;>(first|lia|omega))
  have L2:=xr T1 hb ha hc
  have le:QJ r (c0 (c0 r a b 1) b a 1):=λu hu v hv=>bX (L1.1 u hu v hv) (L2.1 u hu v hv)
  have S2:=step_sound T1 hb ha hc (step_sound I.tt ha hb hc S h1) (.inr ⟨.inr ⟨rfl,rfl,rfl⟩,rfl⟩)
  refine⟨⟨T2,S2,λx y f h=>?_,λx y h=>?_⟩,le⟩
  ·rcases h with h|⟨⟨rfl,rfl⟩|⟨_,rfl,rfl⟩,rfl⟩
   ·have:=I.QI x y f h; exact⟨this.1,this.2.1,bX this.2.2 (le x this.1 y this.2.1)⟩
   ·exact⟨ha,hb,bX L1.2 (L2.1 _ ha _ hb)⟩
   ·exact⟨hb,ha,L2.2⟩
  ·rcases h with h|⟨⟨rfl,rfl⟩|⟨_,rfl,rfl⟩,h⟩
   ·exact .inl (I.sym _ _ h)
   ·exact .inr ⟨.inr ⟨rfl,rfl,rfl⟩,rfl⟩
   ·exact .inr ⟨.inl ⟨rfl,rfl⟩,rfl⟩
 ·have hk:bF r b a=0:=by simpa [eA] using hk
  have hc:(2:Int)=1\/(2:Int)=2:= .inr rfl
  have L1:=xr I.tt ha hb hc
  refine⟨⟨xq I.tt ha hb hc (.inl hk),step_sound I.tt ha hb hc S h1,λx y f h=>?_,λx y h=>?_⟩,L1.1⟩
  ·rcases h with h|⟨⟨rfl,rfl⟩|⟨h,_⟩,rfl⟩
   ·have:=I.QI x y f h; exact⟨this.1,this.2.1,bX this.2.2 (L1.1 x this.1 y this.2.1)⟩
   ·exact⟨ha,hb,L1.2⟩
   ·exact nomatch h
  ·rcases h with h|⟨_,h⟩
   ·exact .inl (I.sym _ _ h)
   ·exact nomatch h
noncomputable def Kp(ps:List (Ed×Bool)):Nat->Nat->Bool->Prop:=λa b f=>∃p∈ps,p.2=true/\((a=p.1.ends.1/\b=p.1.ends.2.1)\/(p.1.ends.2.2=1/\a=p.1.ends.2.1/\b=p.1.ends.1))/\f=decide (p.1.ends.2.2=2)
noncomputable def kA(r:Rel)(e:Ed):Prop:=if e.ends.2.2=2 then bF r e.ends.2.1 e.ends.1≠0 else bF r e.ends.1 e.ends.2.1=2\/bF r e.ends.2.1 e.ends.1=2
structure vB(es:List Ed)(r:Rel)(ks:List Bool):Prop where
 len:ks.length=es.length
 inv:Inv r (Kp (es.zip ks))
 YI:∀p∈es.zip ks,p.2=false->kA r p.1
theorem qM{e:Ed}(h:e.Ok):e.ends.1<4/\e.ends.2.1<4/\(e.ends.2.2=1\/e.ends.2.2=2):=by
 have:=h.low; have:=h.high
 unfold Ed.ends
 split
 ·exact⟨h.low,h.high, .inr rfl⟩
 ·split
  ·exact⟨h.high,h.low, .inr rfl⟩
  ·exact⟨h.low,h.high, .inl rfl⟩
theorem kA.mono{r r':Rel}{e:Ed}(h:e.Ok)(T:TT r)(T':TT r')(le:QJ r r')(b:kA r e):kA r' e:=by
 obtain⟨h1,h2,_⟩:=qM h
 unfold kA at*
 have a1:=le _ h1 _ h2; have a2:=le _ h2 _ h1
 have e1:=T'.e _ h1 _ h2; have e2:=T'.e _ h2 _ h1; have e3:=T.e _ h2 _ h1
 split at b
 ·rw[if_pos (by assumption)]; exact Ur a2 e3 b
 ·rw[if_neg (by assumption)]; exact Us a1 a2 e1 e2 b
theorem Inv.congr{r:Rel}{K L:Nat->Nat->Bool->Prop}(I:Inv r K)(h:∀a b f,K a b f↔L a b f):Inv r L:=by
 have:K=L:=by funext a b f; exact propext (h a b f)
 exact this▸I
theorem vB.step{es:List Ed}{r:Rel}{ks:List Bool}(I:vB es r ks)(Oe:∀e∈es,e.Ok){e:Ed}(h:e.Ok):vB (es++[e]) (rV r e) (ks++[eA r e.ends.1 e.ends.2.1 e.ends.2.2]):=by
 obtain⟨h1,h2,h3⟩:=qM h
 have hz:(es++[e]).zip (ks++[eA r e.ends.1 e.ends.2.1 e.ends.2.2])=es.zip ks++[(e,eA r e.ends.1 e.ends.2.1 e.ends.2.2)]:=by rw[List.zip_append I.len.symm]; rfl
 have hb:∀p∈es.zip ks,p.1.Ok:=λp hp=>Oe _ (kE hp).1
 refine⟨by simp[I.len],?_,?_⟩
 ·rw[hz]
  unfold rV
  cases hk:eA r e.ends.1 e.ends.2.1 e.ends.2.2 with
  |true=>
   rw[if_pos rfl]
   refine(zk I.inv h1 h2 h3 hk).1.congr λa b f=>?_
   unfold Jf Kp
   constructor
   ·rintro(⟨p,hp,q⟩|⟨q1,q2⟩)
    ·exact⟨p,kl _ hp,q⟩
    ·exact⟨_,Bh _ (.head _),rfl,q1,q2⟩
   ·rintro⟨p,hp,q0,q1,q2⟩
    rcases bN.mp hp with hp|hp
    ·exact .inl ⟨p,hp,q0,q1,q2⟩
    ·obtain rfl:=aA.mp hp; exact .inr ⟨q1,q2⟩
  |false=>
   rw[if_neg (by decide)]
   refine I.inv.congr λa b f=>?_
   unfold Kp
   constructor
   ·rintro⟨p,hp,q⟩; exact⟨p,kl _ hp,q⟩
   ·rintro⟨p,hp,q0,q⟩
    rcases bN.mp hp with hp|hp
    ·exact⟨p,hp,q0,q⟩
    ·obtain rfl:=aA.mp hp; exact nomatch q0
 ·rw[hz]
  intro p hp hq
  unfold rV
  cases hk:eA r e.ends.1 e.ends.2.1 e.ends.2.2 with
  |true=>
   rw[if_pos rfl]
   have K:=zk I.inv h1 h2 h3 hk
   rw[hk] at hp
   rcases bN.mp hp with hp|hp
   ·exact(I.YI p hp hq).mono (hb p hp) I.inv.tt K.1.tt K.2
   ·obtain rfl:=aA.mp hp; exact nomatch hq
  |false=>
   rw[if_neg (by decide)]
   rw[hk] at hp
   rcases bN.mp hp with hp|hp
   ·exact I.YI p hp hq
   ·obtain rfl:=aA.mp hp
    show kA r e
    unfold kA
    unfold eA at hk
    have e1:=I.inv.tt.e _ h1 _ h2; have e2:=I.inv.tt.e _ h2 _ h1
    split at hk
    ·rw[if_pos (by assumption)]; simpa using hk
    ·rw[if_neg (by assumption)]; simp at hk; exact Ut e1 e2 hk
set_option tactic.hygienic true in
theorem PU:vB [] xc []:=by
 refine⟨rfl,⟨tt0,λu hu v hv h=>?_,λa b f h=>?_,λa b h=>?_⟩,λp hp=>by cases hp⟩
 ·rw[g0 u hu v hv] at h ⊢
  split at h
  ·rename_i q
   have:u=v:=by exact M9 q
   subst this
   rw[if_pos rfl]
   exact .refl _
  ·exact absurd rfl h
 ·obtain⟨p,hp,_⟩:=h; exact nomatch hp
 ·obtain⟨p,hp,_⟩:=h; exact nomatch hp
theorem wC:∀(pF es:List Ed) (r:Rel) (ks:List Bool),vB es r ks->(∀e∈es,e.Ok)->(∀e∈pF,e.Ok)->vB (es++pF) (pF.foldl ru (r,ks)).1 (pF.foldl ru (r,ks)).2
 |[],es,r,ks,I,_,_=>by rw[gT]; exact I
 |e::pF,es,r,ks,I,h,h'=>by
  have:=wC pF (es++[e]) _ _ (I.step h (h' e (.head _))) (λx hx=>by
   rcases bN.mp hx with hx|hx
   ·exact h x hx
   ·obtain rfl:=aA.mp hx; exact h' _ (.head _)) λx hx=>h' x (.tail _ hx)
  rw[mE] at this
  exact this
theorem zl{es:List Ed}(h:∀e∈es,e.Ok):vB es (closure es).1 (closure es).2:=wC es [] xc [] PU (λ_ hx=>by exact nomatch hx) h
theorem xu:∀i<8,lo1 (rE i)=nL (i % 4):=by decide+kernel
theorem mW{a b:Nat}(h:nL a=nL b):a=b:=by unfold nL at h; exact Uu h
noncomputable def uJ(h:Hd):Nat×Nat×Bool:=(lo1 h.a,lo1 h.b,!h.eq)
theorem xv{e:Ed}(x:vA e):(zd (rowOf e)).map uJ=if e.ends.2.2=2 then[(nL e.ends.1,nL e.ends.2.1,true)] else[(nL e.ends.1,nL e.ends.2.1,false),(nL e.ends.2.1,nL e.ends.1,false)]:=by
 have hl:=x.ok.low; have hh:=x.ok.high; have h3:=x.ok.sg
 have l1:lo1 (rE (pR e))=nL e.low:=by rw[xu _ x.low]; congr 1; unfold pR; exact Uv hl
 have l2:lo1 (rE (jX e))=nL e.high:=by rw[xu _ x.high]; congr 1; unfold jX; exact Uw hh
 unfold zd fZ rowOf ux Ed.ends uJ
 have:e.sg=0\/e.sg=1\/e.sg=2:=by exact Hx h3
 rcases this with q|q|q<;>simp[q,l1,l2]
set_option tactic.hygienic true in
theorem Cj{es:List Ed}{ks:List Bool}(hx:∀e∈es,vA e){a b:Nat}{f:Bool}:(nL a,nL b,f)∈(nf es ks).map uJ↔Kp (es.zip ks) a b f:=by
 unfold nf iz
 rw[sP,sO,List.zip_map_left]
 unfold Kp
 constructor
 ·rintro⟨r,hr,hm⟩
  obtain⟨p,hp,rfl⟩:=aw.mp hr
  obtain⟨h1,h2⟩:=bw.mp hp
  obtain⟨q,hq,rfl⟩:=aw.mp h1
  have x:=hx _ (kE hq).1
  refine⟨q,hq,h2,?_⟩
  rw[show(Prod.map rowOf _root_.id q).1=rowOf q.1 from rfl,xv x] at hm
  split at hm
  ·rename_i h
   rcases aA.mp hm with e
   injection e with e1 e; injection e with e2 e3
   exact⟨.inl ⟨mW e1,mW e2⟩,by rw[e3,h]; rfl⟩
  ·rename_i h
   have h':=(qM x.ok).2.2.resolve_right h
   rcases au.mp hm with e|hm
   ·injection e with e1 e; injection e with e2 e3
    exact⟨.inl ⟨mW e1,mW e2⟩,by rw[e3,h']; rfl⟩
   ·rcases aA.mp hm with e
    injection e with e1 e; injection e with e2 e3
    exact⟨.inr ⟨h',mW e1,mW e2⟩,by rw[e3,h']; rfl⟩
 ·rintro⟨q,hq,h2,h3,rfl⟩
  have x:=hx _ (kE hq).1
  refine⟨rowOf q.1,aw.mpr ⟨Prod.map rowOf _root_.id q,bw.mpr ⟨aw.mpr ⟨q,hq,rfl⟩,h2⟩,rfl⟩,?_⟩
  rw[xv x]
  rcases h3 with⟨rfl,rfl⟩|⟨h',rfl,rfl⟩
  ·rcases(qM x.ok).2.2 with h'|h'
   ·rw[h']; simp
   ·rw[h']; simp
  ·rw[h']; simp
theorem wF{es:List Ed}{ks:List Bool}(hx:∀e∈es,vA e):∀h∈nf es ks,h.Ok/\∃b,lo1 h.b=nL b:=by
 intro h hh
 unfold nf iz at hh
 obtain⟨r,hr,hm⟩:=sO.mp hh
 obtain⟨p,hp,rfl⟩:=aw.mp hr
 obtain⟨h1,h2⟩:=bw.mp hp
 obtain⟨e,he,q⟩:=aw.mp (kE h1).1
 have x:=hx e he
 rw[<-q] at hm
 have IA:h.Ok:=by
  have l1:=jK x.low; have l2:=jK x.high
  unfold zd fZ rowOf at hm
  obtain⟨p,hp,rfl⟩:=aw.mp hm
  (repeat' split at hp)<;>simp at hp<;>(rcases hp with rfl|rfl)<;>exact⟨by assumption,by assumption⟩
 refine⟨IA,?_⟩
 have:=DA (f:=uJ) hm
 rw[xv x] at this
 split at this<;>simp[uJ] at this
 ·exact⟨_,this.2.1⟩
 ·rcases this with h|h<;>exact⟨_,h.2.1⟩
set_option tactic.hygienic true in
theorem kR:∀(xs fs:List (Nat×Bool)) (y:Nat×Bool),y∈j7 fs xs↔y∈fs\/y∈xs
 |[],fs,y=>by simp[j7]
 |x::xs,fs,y=>by
  have ih:=kR xs (if x∈fs then fs else fs++[x]) y
  show y∈j7 (if x∈fs then fs else fs++[x]) xs↔_
  rw[ih]
  split
  ·rename_i h
   constructor
   ·rintro(h1|h1)
    ·exact .inl h1
    ·exact .inr (.tail _ h1)
   ·rintro(h1|h1)
    ·exact .inl h1
    ·rcases au.mp h1 with rfl|h1
     ·exact .inl h
     ·exact .inr h1
  ·rw[bN,aA,au,or_assoc]
set_option tactic.hygienic true in
theorem qN:∀(xs fs:List (Nat×Bool)),fs.Nodup->(j7 fs xs).Nodup
 |[],fs,h=>h
 |x::xs,fs,h=>by
  refine qN xs (if x∈fs then fs else fs++[x]) ?_
  split
  ·exact h
  ·rename_i hx
   refine GX.mpr ⟨h,by simp,λa ha b hb e=>?_⟩
   rcases aA.mp hb with rfl
   exact hx (e▸ha)
theorem uK:∀(xs fs:List (Nat×Bool)),fs<+:j7 fs xs
 |[],fs=>Hh _
 |x::xs,fs=>by
  refine List.IsPrefix.trans ?_ (uK xs (if x∈fs then fs else fs++[x]))
  split
  ·exact Hh _
  ·exact List.prefix_append _ _
set_option tactic.hygienic true in
theorem zm(hs:List Hd)(G:List (Nat×Bool))(hG:∀p∈G,∀q∈nextOf hs p,q∈G):∀(n i:Nat) (fs:List (Nat×Bool)),G.length<n+i->fs.Nodup->(∀p∈fs,p∈G)->(∀j<i,∀p,fs[j]? =some p->∀q∈nextOf hs p,q∈fs)->
 (fM hs n i fs).Nodup/\(∀p∈fM hs n i fs,p∈G)/\(∀p∈fs,p∈fM hs n i fs)/\∀p∈fM hs n i fs,∀q∈nextOf hs p,q∈fM hs n i fs
 | 0,i,fs,hn,h1,h2,h3=>by
  have hl:=ue fs G h1 h2
  have hz:fM hs 0 i fs=fs:=by unfold fM; rfl
  rw[hz]
  refine⟨h1,h2,λp h=>h,λp hp q hq=>?_⟩
  obtain⟨j,hj,e⟩:=qb hp
  exact h3 j (by exact Ux hn hl hj) p (by rw[aj hj,e]) q hq
 |n+1,i,fs,hn,h1,h2,h3=>by
  unfold fM
  split
  ·rename_i hi
   have hi:=me.mp hi
   refine⟨h1,h2,λp h=>h,λp hp q hq=>?_⟩
   obtain⟨j,hj,e⟩:=qb hp
   exact h3 j (by exact Hy hi hj) p (by rw[aj hj,e]) q hq
  ·rename_i p hp
   have hm:=bI hp
   have AL:=uK (nextOf hs p) fs
   have:=zm hs G hG n (i+1) (j7 fs (nextOf hs p)) (by exact cG 0xa81842808043414030a0201 tt hn) (qN _ _ h1) (λq hq=>by
    rcases(kR _ _ _).mp hq with hq|hq
    ·exact h2 q hq
    ·exact hG p (h2 p hm) q hq) (λj hj q hq y hy=>by
    by_cases z:j<i
    ·have Ld:j<fs.length:=by have:=(cI.mp hp).1; exact Uy z this
     obtain⟨tl,e⟩:=AL
     rw[<-e,xO Ld] at hq
     exact(kR _ _ _).mpr (.inl (h3 j z q hq y hy))
    ·have:j=i:=by exact Uz hj z
     subst this
     have Ld:=(cI.mp hp).1
     obtain⟨tl,e⟩:=AL
     rw[<-e,xO Ld,hp] at hq
     cases hq
     exact(kR _ _ _).mpr (.inr hy))
   exact⟨this.1,this.2.1,λq hq=>this.2.2.1 q ((kR _ _ _).mpr (.inl hq)),this.2.2.2⟩
theorem qO{r:Rel}{u v:Nat}{f:Bool}:(nL v,f)∈kQ r u↔v<4/\bF r u v≠0/\f=decide (bF r u v=2):=by
 unfold kQ
 rw[aw]
 constructor
 ·rintro⟨w,hw,e⟩
  injection e with e1 e2
  obtain rfl:=mW e1
  obtain⟨h1,h2⟩:=bw.mp hw
  exact⟨aW.mp h1,by simpa using h2,e2.symm⟩
 ·rintro⟨h1,h2,rfl⟩
  exact⟨v,bw.mpr ⟨aW.mpr h1,by simpa using h2⟩,rfl⟩
theorem Dq(r:Rel)(u:Nat):(kQ r u).Nodup:=(uG r u).imp fun{a b} h e=>by rw[e] at h; exact iL _ h
theorem Ck(r:Rel)(u:Nat):(kQ r u).length<=4:=by unfold kQ; rw[ai]; exact aP (ba _ _) (by decide)
theorem Gu{es:List Ed}{ks:List Bool}{r:Rel}(hx:∀e∈es,vA e)(I:Inv r (Kp (es.zip ks))){u:Nat}(hu:u<4):(kQ r u).Perm (iu (nf es ks) (nL u)):=by
 have PV:∀p∈kQ r u,∃v,p.1=nL v:=λp hp=>by unfold kQ at hp; obtain⟨v,_,rfl⟩:=aw.mp hp; exact⟨v,rfl⟩
 have nx:∀{v:Nat} {f:Bool} {w:Nat} {g:Bool},Kp (es.zip ks) v w g->(nL w,f||g)∈nextOf (nf es ks) (nL v,f):=fun{v f w g} h=>by
  obtain⟨d,hd,e⟩:=aw.mp ((Cj hx).mpr h)
  unfold uJ at e
  injection e with e1 e; injection e with e2 e3
  unfold nextOf
  exact aw.mpr ⟨d,bw.mpr ⟨hd,decide_eq_true e1⟩,by rw[e2,<-e3]⟩
 have st:(nL u,false)∈kQ r u:=qO.mpr ((I.reach hu).mp (.refl u))
 have F:=zm (nf es ks) (kQ r u) (λp hp q hq=>by
  obtain⟨v,hv⟩:=PV p hp
  obtain⟨c,f⟩:=p
  obtain rfl:c=nL v:=hv
  unfold nextOf at hq
  obtain⟨d,hd,rfl⟩:=aw.mp hq
  obtain⟨h1,h2⟩:=bw.mp hd
  have h2:=of_decide_eq_true h2
  obtain⟨w,hw⟩:=(wF hx d h1).2
  have k:Kp (es.zip ks) v w (!d.eq):=(Cj hx).mp (aw.mpr ⟨d,h1,by unfold uJ; rw[h2,hw]⟩)
  rw[hw]
  exact qO.mpr ((I.reach hu).mp (((I.reach hu).mpr (qO.mp hp)).snoc k))) 8 0 [(nL u,false)] (by have:=Ck r u; exact aN 0x5c010cf70a0201 tt this) (by simp) (λp hp=>by rcases aA.mp hp with rfl; exact st) (λj hj=>absurd hj (Kw _))
 refine(List.perm_ext_iff_of_nodup (Dq r u) F.1).mpr λp=>⟨λhp=>?_,λhp=>F.2.1 p hp⟩
 obtain⟨v,hv⟩:=PV p hp
 obtain⟨c,f⟩:=p
 obtain rfl:c=nL v:=hv
 have w:=(I.reach hu).mpr (qO.mp hp)
 clear hp
 induction w with
 |refl=>exact F.2.2.1 _ (.head _)
 |snoc _ k ih=>exact F.2.2.2 _ ih _ (nx k)
noncomputable def j9(r:Rel)(u:Nat):Nat:=(r.getD u []).idxOf 1
noncomputable def Gv(r:Rel)(f:List Nat):Prop:=(∀k<5,(lO r (aK r) k).length<=1000/\∀row∈lO r (aK r) k,row.length<=4)/\
 (∀row∈rowsOf r,∀v∈aK r,v∈row)/\(∀k<(aK r).length,k∈placeOf r (aK r) f)/\(∀row∈r,(1:Int)∈row/\row.idxOf 1∈aK r)/\(∀v∈aK r,v∈eL r f)
noncomputable def Gw(r:Rel)(f:List Nat)(u v:Nat):Prop:=bF r u v=2->(∀row∈rowsOf r,row.idxOf (j9 r u)<row.idxOf (j9 r v))/\(eL r f).idxOf (j9 r u)<(eL r f).idxOf (j9 r v)
noncomputable def Gx(r:Rel)(f:List Nat)(u v:Nat):Prop:=bF r u v≠2->¬(f.idxOf (j9 r u)<f.idxOf (j9 r v)/\(eL r f).idxOf (j9 r u)<(eL r f).idxOf (j9 r v))
noncomputable def Gy(r:Rel)(f:List Nat)(u v:Nat):Prop:=(bF r u v=1->j9 r u=j9 r v)/\(bF r u v≠1->f.idxOf (j9 r u)≠f.idxOf (j9 r v))
noncomputable def dGA(r:Rel)(f:List Nat):Decidable (Gv r f):=by unfold Gv; infer_instance
noncomputable def dPA(r:Rel)(f:List Nat)(u v:Nat):Decidable (Gw r f u v):=by unfold Gw; infer_instance
noncomputable def dPB(r:Rel)(f:List Nat)(u v:Nat):Decidable (Gx r f u v):=by unfold Gx; infer_instance
noncomputable def dPC(r:Rel)(f:List Nat)(u v:Nat):Decidable (Gy r f u v):=by unfold Gy; infer_instance
noncomputable def Good(r:Rel)(f:List Nat):Prop:=Gv r f/\(∀u<4,∀v<4,Gw r f u v/\Gx r f u v/\Gy r f u v)/\((rowsOf r).length=1->eL r f=f)
noncomputable def Ks(r:Rel)(f:List Nat):Decidable (Good r f):=by
 haveI:=dGA r f
 haveI:=λu v=>dPA r f u v
 haveI:=λu v=>dPB r f u v
 haveI:=λu v=>dPC r f u v
 unfold Good; infer_instance
noncomputable def MV(u v:Nat):Nat:=3*u+(if v<u then v else v-1)
noncomputable def xw(bs:List Bool)(u v:Nat):Bool:=u==v||bs.getD (MV u v) false
noncomputable def Mw(bs:List Bool):Rel:=(aB 4).map λu=>(aB 4).map λv=>if xw bs u v then(if xw bs v u then 1 else 2) else 0
noncomputable def YJ(bs:List Bool):Bool:=(aB 4).all λu=>(aB 4).all λv=>!xw bs u v||(aB 4).all λw=>!xw bs v w||xw bs u w
noncomputable def GA(r:Rel):Bool:=match(rowsOf r).find? (wq r (aK r)) with
 |none=>false
 |some f=>@decide (Good r f) (Ks r f)
noncomputable def GB:Nat->List (List Bool)
 | 0=>[[]]
 |n+1=>(GB n).map (false:: ·)++(GB n).map (true:: ·)
theorem uL:∀l:List Bool,l∈GB l.length
 |[]=> .head _
 |false::l=>kl _ (aw.mpr ⟨l,uL l,rfl⟩)
 |true::l=>Bh _ (aw.mpr ⟨l,uL l,rfl⟩)
theorem GC:(GB 12).all (λbs=>!YJ bs||GA (Mw bs))=true:=by decide+kernel
noncomputable def jB(i:Nat):Nat:=if i % 3<i / 3 then i % 3 else i % 3+1
noncomputable def vC(r:Rel):List Bool:=(aB 12).map λi=>decide (bF r (i / 3) (jB i)≠0)
theorem PW:∀u<4,∀v<4,u≠v->MV u v<12/\MV u v / 3=u/\jB (MV u v)=v:=by decide+kernel
theorem qP{r:Rel}(T:TT r){u v:Nat}(hu:u<4)(hv:v<4):xw (vC r) u v=decide (bF r u v≠0):=by
 unfold xw
 by_cases h:u=v
 ·subst h; rw[beq_self_eq_true,Bool.true_or,T.d u hu]; rfl
 ·rw[beq_eq_false_iff_ne.mpr h,Bool.false_or]
  obtain⟨h1,h2,h3⟩:=PW u hu v hv h
  unfold vC
  rw[ak,av,cQ h1]
  show decide (bF r (MV u v / 3) (jB (MV u v))≠0)=_
  rw[h2,h3]
theorem Jg{r s:Rel}(hr:Wf r)(hs:Wf s)(h:∀u<4,∀v<4,bF r u v=bF s u v):r=s:=by
 apply nj (hr.len.trans hs.len.symm)
 intro u h1 h2
 have l1:=hr.row _ (dg h1); have l2:=hs.row _ (dg h2)
 apply nj (l1.trans l2.symm)
 intro v h3 h4
 have hu:u<4:=hr.len▸h1
 have hv:v<4:=l1▸h3
 have:=h u hu v hv
 unfold bF at this
 have a1:sR r u []=r[u]:=by rw[ak,aj h1]; rfl
 have a2:sR s u []=s[u]:=by rw[ak,aj h2]; rfl
 rw[a1,a2] at this
 have b1:sR r[u] v 0=r[u][v]:=by rw[ak,aj h3]; rfl
 have b2:sR s[u] v 0=s[u][v]:=by rw[ak,aj h4]; rfl
 rw[b1,b2] at this
 exact this
theorem dec_enc{r:Rel}{K:Nat->Nat->Bool->Prop}(I:Inv r K):r=Mw (vC r):=by
 refine Jg I.tt.wf (yI _) λu hu v hv=>?_
 unfold Mw
 rw[uI (λu v=>if xw (vC r) u v then(if xw (vC r) v u then 1 else 2) else 0) hu hv,qP I.tt hu hv,qP I.tt hv hu]
 have e:=I.tt.e u hu v hv; have a1:=I.as hu hv; have a2:=I.as hv hu; have e2:=I.tt.e v hv u hu
 by_cases h:bF r u v=0
 ·simp[h]
 ·by_cases k:bF r v u=0
  ·simp[h,k]; exact UA e a1 h k
  ·simp[h,k]; exact UB e a1 h k
theorem Mx{r:Rel}(T:TT r):YJ (vC r)=true:=by
 unfold YJ
 refine aT.mpr λu hu=>aT.mpr λv hv=>?_
 have hu:=aW.mp hu; have hv:=aW.mp hv
 rw[qP T hu hv]
 by_cases h:bF r u v=0
 ·simp[h]
 ·rw[decide_eq_true h]
  refine aT.mpr λw hw=>?_
  have hw:=aW.mp hw
  rw[qP T hv hw,qP T hu hw]
  by_cases k:bF r v w=0
  ·simp[k]
  ·have:=T.tr u hu v hv w hw h k; have e:=T.e u hu v hv
   rw[decide_eq_true k,decide_eq_true (by exact UC h k this e)]; rfl
theorem GD{r:Rel}{K:Nat->Nat->Bool->Prop}(I:Inv r K):∃f,(rowsOf r).find? (wq r (aK r))=some f/\Good r f:=by
 have hm:vC r∈GB 12:=by have:=uL (vC r); rwa [show(vC r).length=12 by unfold vC; rw[ai,ec]] at this
 have:=aT.mp GC _ hm
 rw[Mx I.tt,<-dec_enc I] at this
 have this:GA r=true:=this
 unfold GA at this
 split at this
 ·exact nomatch this
 ·exact⟨_,by assumption,@of_decide_eq_true _ (Ks r _) this⟩
theorem AX{r:Rel}{f:List Nat}(w:Wf r)(hf:(rowsOf r).find? (wq r (aK r))=some f)(G:Good r f):jI r f:=by
 obtain⟨⟨h1,h2,h3,h4,h5⟩,-⟩:=G
 have hl:=kC r
 exact⟨w,λk hk=>(h1 k (by exact aX 0x843700438a0601 tt hl hk)).1,λk hk row hr=>aP ((h1 k (by exact aX 0x843700438a0601 tt hl hk)).2 row hr) (by decide),h2,hf,h3,h4,h5⟩
noncomputable def txt(rs:List Nat)(tr:Nat):List Nat:=(rs.map λn=>blanks n++[9]).flatten++blanks tr
noncomputable def cl(z o w:Nat):List Int:=if 0<w then[(z:Int),o,w] else if 0<o then[(z:Int),o] else if 0<z then[(z:Int)] else[]
theorem qQ(n:Nat)(rs:List Nat)(tr:Nat):txt (n::rs) tr=blanks n++9::txt rs tr:=by
 unfold txt; rw[aO,ee]; simp
theorem r4(n:Nat):blanks (n+1)=32::blanks n:=rfl
theorem Jh(z o w:Nat):bump (cl z o w) 0=cl (z+1) o w/\bump (cl z o w) 1=cl z (o+1) w/\bump (cl z o w) 2=cl z o (w+1):=by
 unfold cl
 by_cases hw:0<w
 ·simp[bump,hw]
 ·by_cases ho:0<o
  ·have:w=0:=by exact yc hw
   subst this
   simp[bump,ho,bf]
  ·by_cases hz:0<z
   ·have:w=0:=by exact yc hw
    subst this
    have:o=0:=by exact yc ho
    subst this
    simp[bump,hz,bf]
   ·have:w=0:=by exact yc hw
    subst this
    have:o=0:=by exact yc ho
    subst this
    have:z=0:=by exact yc hz
    subst this
    simp[bump,bf]
theorem GF:∀(rs:List Nat) (z o w:Nat),(∀r∈rs,r<=2)->rs.foldl bump (cl z o w)=cl (z+rs.count 0) (o+rs.count 1) (w+rs.count 2)
 |[],z,o,w,_=>rfl
 |r::rs,z,o,w,h=>by
  have hr:=h r (.head _)
  have ih:=λz o w=>GF rs z o w λx hx=>h x (.tail _ hx)
  obtain⟨b0,b1,b2⟩:=Jh z o w
  have:r=0\/r=1\/r=2:=by exact KR hr
  rw[ei]
  rcases this with rfl|rfl|rfl
  ·rw[b0,ih]; simp[oH]; congr 1; exact D5
  ·rw[b1,ih]; simp[oH]; congr 1; exact D5
  ·rw[b2,ih]; simp[oH]; congr 1; exact D5
theorem uM(g:Nat->Nat):∀(rs:List Nat),(∀r∈rs,r<=2)->(rs.map g).sum=rs.count 0*g 0+rs.count 1*g 1+rs.count 2*g 2
 |[],_=>by simp
 |r::rs,h=>by
  have hr:=h r (.head _)
  have ih:=uM g rs λx hx=>h x (.tail _ hx)
  have:r=0\/r=1\/r=2:=by exact KR hr
  rw[aO,kg,ih]
  rcases this with rfl|rfl|rfl<;>simp[oH,Nat.add_mul]<;>(first|exact UD|exact UE|lia|omega)
theorem xx:∀rs:List Nat,(rs.map λ_=>1).sum=rs.length
 |[]=>rfl
 |_::rs=>by rw[aO,kg,xx rs,aQ]; exact UG
theorem rI:∀(n:Nat) (l:List Nat) (q:Run),Run.go (blanks n++l) q=Run.go l ⟨q.b+n,q.n+n,q.nt,q.c⟩
 | 0,l,q=>rfl
 |n+1,l,q=>by
  rw[r4,jZ,Run.go,if_pos rfl,rI n]
  congr 1
  congr 1<;>(show _+1+n=_+(n+1); exact D5)
theorem GG:∀(rs:List Nat) (tr:Nat) (q:Run),q.b=0->Run.go (txt rs tr++xt) q=⟨tr,q.n+(rs.map (·+1)).sum+tr,q.nt+rs.length,rs.foldl bump q.c⟩
 |[],tr,q,h=>by
  show Run.go (blanks tr++xt) q=_
  rw[rI]
  show(⟨q.b+tr,q.n+tr,q.nt,q.c⟩:Run)=_
  rw[h,fW]; rfl
 |r::rs,tr,q,h=>by
  rw[qQ,mE,rI,jZ,Run.go,if_neg (by decide),if_pos rfl,GG rs tr _ rfl]
  show(⟨tr,q.n+r+1+(rs.map (·+1)).sum+tr,q.nt+1+rs.length,rs.foldl bump (bump q.c (q.b+r))⟩:Run)=⟨tr,q.n+((r+1)+(rs.map (·+1)).sum)+tr,q.nt+(rs.length+1),rs.foldl bump (bump q.c r)⟩
  rw[h,fW]
  congr 1<;>(first|exact UH|exact D5|lia|omega)
theorem sJ:∀(rs:List Nat) (tr:Nat),(txt rs tr).length=(rs.map (·+1)).sum+tr
 |[],tr=>by show(blanks tr).length=_; unfold blanks; rw[bA]; simp
 |r::rs,tr=>by rw[qQ,a8,aQ,sJ rs tr,aO,kg]; unfold blanks; rw[bA]; exact UI
theorem pU(ts:Int):∀(n:Nat) (c:Int),(blanks n).foldl (jF ts) c=c+n
 | 0,c=>by simp[blanks]
 |n+1,c=>by rw[r4,ei,pU ts n]; unfold jF; rw[if_pos rfl]; exact UJ
theorem Cm{ts:Nat}(pV:0<ts):∀(rs:List Nat) (tr k:Nat),(txt rs tr).foldl (jF (ts:Int)) ((ts*k:Nat):Int)=((ts*(k+(rs.map λr=>r / ts+1).sum)+tr:Nat):Int)
 |[],tr,k=>by show(blanks tr).foldl _ _=_; rw[pU]; simp
 |r::rs,tr,k=>by
  rw[qQ,List.foldl_append,pU,ei]
  have:jF (ts:Int) (((ts*k:Nat):Int)+(r:Int)) 9=((ts*(k+(r / ts+1)):Nat):Int):=by
   unfold jF
   rw[if_neg (by decide),show((ts*k:Nat):Int)+(r:Int)=((ts*k+r:Nat):Int) from rfl,iW,Nat.mul_add_div pV,show((k+r / ts:Nat):Int)+1=((k+(r / ts+1):Nat):Int) from rfl,<-Int.natCast_mul,dM]
  rw[this,Cm pV rs tr,aO,kg,ra]
theorem uN:∀(n:Nat) (l:List Nat),qH (blanks n++9::l)=blanks n::qH l
 | 0,l=>by show dX 9 (9::l)=_; rw[dX,if_pos rfl]; rfl
 |n+1,l=>by
  show dX 9 (32::(blanks n++9::l))=_
  rw[dX,if_neg (by decide)]
  have:=uN n l
  unfold qH at this
  rw[this]; rfl
theorem Co:∀n:Nat,qH (blanks n)=[blanks n]
 | 0=>rfl
 |n+1=>by
  show dX 9 (32::blanks n)=_
  rw[dX,if_neg (by decide)]
  have:=Co n
  unfold qH at this
  rw[this]; rfl
theorem xy:∀(rs:List Nat) (tr:Nat),qH (txt rs tr)=rs.map blanks++[blanks tr]
 |[],tr=>Co tr
 |r::rs,tr=>by rw[qQ,uN,xy rs tr]; rfl
noncomputable def Is(l:List Nat)(z o w tr:Nat):Prop:=∃rs:List Nat,(∀r∈rs,r<=2)/\l=txt rs tr/\rs.count 0=z/\rs.count 1=o/\rs.count 2=w
noncomputable def inD(z o w tr ts:Nat):Nat:=tr+ts*(z+o*(1 / ts+1)+w*(2 / ts+1))
noncomputable def mr(z o w:Nat):Nat:=if 0<w then 2 else if 0<o then 1 else 0
theorem AY(z o w:Nat):(cl z o w).length=if 0<z+o+w then mr z o w+1 else 0:=by
 unfold cl mr
 split
 ·rw[if_pos (by exact UK ‹_›)]; rfl
 ·split
  ·rw[if_pos (by exact UL ‹_› ‹_›)]; rfl
  ·split
   ·rw[if_pos (by exact UM ‹_› ‹_› ‹_›)]; rfl
   ·rw[if_neg (by exact UN ‹_› ‹_› ‹_›)]; rfl
theorem Is.len{l:List Nat}{z o w tr:Nat}(h:Is l z o w tr):l.length=z+2*o+3*w+tr:=by
 obtain⟨rs,h1,rfl,rfl,rfl,rfl⟩:=h
 rw[sJ,uM _ rs h1]; (first|lia|omega)
theorem Is.w{l:List Nat}{z o w tr:Nat}(h:Is l z o w tr):cF l=⟨l++xt,((z+2*o+3*w+tr:Nat):Int),((z+o+w:Nat):Int),cl z o w,(tr:Int),decide ((cl z o w).length<=1)⟩:=by
 have hl:=h.len
 obtain⟨rs,h1,rfl,rfl,rfl,rfl⟩:=h
 have hlen:rs.length=rs.count 0+rs.count 1+rs.count 2:=by
  have:=uM (λ_=>1) rs h1
  rw[xx] at this
  exact Nk this
 have hg:=GG rs tr ⟨0,0,0,[]⟩ rfl
 have hc:=GF rs 0 0 0 h1
 rw[show cl 0 0 0=[] from rfl,fW,fW,fW] at hc
 unfold cF yM Run.of
 rw[hg]
 dsimp only
 rw[hc,hlen,fW,fW,<-sJ,hl]
theorem Kt{ts:Nat}(pV:0<ts)(z o w:Nat):yK (cl z o w) ts=((o*(1 / ts)+w*(2 / ts):Nat):Int):=by
 have h3:ts=1\/ts=2\/3<=ts:=by exact Nl pV
 have hd:3<=ts->1 / ts=0/\2 / ts=0:=λh=>⟨nH (by exact aN 758095958531 tt h),nH (by assumption)⟩
 unfold yK cl
 by_cases hw:0<w
 ·rw[if_pos hw]
  rcases h3 with rfl|rfl|h
  ·simp[bB,Int.fdiv]; exact UO
  ·simp[Int.fdiv]
  ·rw[(hd h).1,(hd h).2]; simp[show 3-ts=0 by exact UP h]
 ·have:w=0:=by exact yc hw
  subst this
  rw[if_neg hw]
  by_cases ho:0<o
  ·rw[if_pos ho]
   rcases h3 with rfl|rfl|h
   ·simp[Int.fdiv]
   ·simp
   ·rw[(hd h).1]; simp[show 2-ts=0 by exact UQ h]
  ·have:o=0:=by exact yc ho
   subst this
   rw[if_neg ho]
   split<;>simp[show 1-ts=0 by exact UR pV]
theorem Is.ind{l:List Nat}{z o w tr:Nat}(h:Is l z o w tr){ts:Nat}(pV:0<ts):(cF l).ind ts=(inD z o w tr ts:Nat)/\fc l ts=(inD z o w tr ts:Nat):=by
 constructor
 ·rw[h.w]
  show(tr:Int)+ts*(yK (cl z o w) ts+((z+o+w:Nat):Int))=_
  rw[Kt pV]
  unfold inD
  rw[show z+o*(1 / ts+1)+w*(2 / ts+1)=o*(1 / ts)+w*(2 / ts)+(z+o+w) by rw[Nat.mul_add,Nat.mul_add]; exact US]
  push_cast; rfl
 ·obtain⟨rs,h1,rfl,rfl,rfl,rfl⟩:=h
  have:=Cm pV rs tr 0
  rw[Nat.mul_zero,fW,uM _ rs h1] at this
  unfold fc
  rw[show(0:Int)=((0:Nat):Int) from rfl,this]
  unfold inD
  simp; exact UT
theorem Is.long{l:List Nat}{z o w tr:Nat}(h:Is l z o w tr):dJ l=(max (mr z o w) tr:Nat)/\(cF l).long=dJ l:=by
 have Ku:dJ l=(max (mr z o w) tr:Nat):=by
  obtain⟨rs,h1,rfl,rfl,rfl,rfl⟩:=h
  unfold dJ
  rw[xy,fU,aM]
  have hf:((λp:List Nat=>(p.length:Int))∘blanks)=λn:Nat=>(n:Int):=by funext n; show((blanks n).length:Int)=n; unfold blanks; rw[bA]
  rw[hf,show[blanks tr].map (λp:List Nat=>(p.length:Int))=[(tr:Int)] by unfold blanks; simp]
  have hb:∀n∈rs.map (λn:Nat=>(n:Int))++[(tr:Int)],n<=((max (mr (rs.count 0) (rs.count 1) (rs.count 2)) tr:Nat):Int):=by
   intro n hn
   rcases bN.mp hn with hn|hn
   ·obtain⟨r,hr,rfl⟩:=aw.mp hn
    have:=h1 r hr
    have hp:=rd.mpr hr
    have:r<=mr (rs.count 0) (rs.count 1) (rs.count 2):=by
     have:r=0\/r=1\/r=2:=by exact KR this
     unfold mr
     rcases this with rfl|rfl|rfl
     ·exact fC _
     ·split
      ·assumption
      ·first
       |exact bL _
       |(rw[if_pos hp]; exact bL _)
     ·rw[if_pos hp]; exact bL _
    exact UU this
   ·rcases aA.mp hn with rfl; exact UW
  have qk:((max (mr (rs.count 0) (rs.count 1) (rs.count 2)) tr:Nat):Int)∈rs.map (λn:Nat=>(n:Int))++[(tr:Int)]\/((max (mr (rs.count 0) (rs.count 1) (rs.count 2)) tr:Nat):Int)<=tr:=by
   by_cases hm:mr (rs.count 0) (rs.count 1) (rs.count 2)<=tr
   ·right; exact UX hm
   ·left
    rw[kX (by exact UY hm)]
    refine kl _ (aw.mpr ⟨_,?_,rfl⟩)
    unfold mr at hm ⊢
    by_cases hw:0<rs.count 2
    ·rw[if_pos hw]; exact rd.mp hw
    ·rw[if_neg hw] at hm ⊢
     by_cases ho:0<rs.count 1
     ·rw[if_pos ho]; exact rd.mp ho
     ·rw[if_neg ho] at hm; (first|lia|omega)
  have h3:=kI (l:=rs.map (λn:Nat=>(n:Int))++[(tr:Int)]) (by simp)
  have h4:=hb _ h3
  have h5:(tr:Int)<=tF (rs.map (λn:Nat=>(n:Int))++[(tr:Int)]):=lr (by simp)
  rcases qk with hm|hm
  ·have:=lr hm; exact UZ h4 this
  ·exact U0 h4 h5 hm
 refine⟨Ku,?_⟩
 rw[Ku,h.w]
 show max (((cl z o w).length:Int)-1) (tr:Int)=_
 rw[AY]
 split
 ·exact U1
 ·have:mr z o w=0:=by unfold mr; rw[if_neg (by exact U2 ‹_›),if_neg (by exact U3 ‹_›)]
  exact U4 this
theorem my(z o w:Nat):decide ((cl z o w).length<=1)=decide (o=0/\w=0):=by
 rw[decide_eq_decide,AY]
 unfold mr
 (repeat' split)<;>(first|exact U5 ‹_› |exact U6 ‹_› |exact U7 ‹_› ‹_› |lia|omega)
theorem My{z o w z' o' w':Nat}(h:cl z o w=cl z' o' w'):z=z'/\o=o'/\w=w':=by
 unfold cl at h
 (repeat' split at h)<;>simp at h<;>(first|exact U8 h|exact U9 ‹_› ‹_› h|exact Va ‹_› ‹_› ‹_› ‹_› h|exact Vb ‹_› ‹_› ‹_› ‹_› ‹_› ‹_› |lia|omega)
theorem PX{z o w:Nat}(hz:z<=1000)(ho:o<=1000)(hw:w<=1000):∀c∈cl z o w,c.natAbs<1000000:=by
 unfold cl
 intro c hc
 (repeat' split at hc)<;>simp at hc<;>first|(subst hc; exact MD hz)|(rcases hc with rfl|rfl; exact MD hz; exact MD ho)|(rcases hc with rfl|rfl|rfl; exact MD hz; exact MD ho; exact MD hw)|(first|omega|exact Vc hz ho ‹_› hc|lia|omega)
theorem PY(ts:Nat):1 / ts<=1/\2 / ts<=2:=⟨Kx _ _,Kx _ _⟩
theorem Is.ok{l:List Nat}{z o w tr:Nat}(h:Is l z o w tr)(hb:z+o+w<=100)(ht:tr<=100):(cF l).Ok:=by
 rw[h.w]
 refine⟨?_,PX (by exact cG 0x35242082100847ec4801 tt hb) (by exact cG 0x35242082100847ec4821 tt hb) (by exact cG 0x35242082100847ec4841 tt hb),λts h1 h2=>?_,lY _,by show((tr:Nat):Int)<=100; exact ew 0x35240084d448101 tt ht⟩
 ·show(cl z o w).length<=100
  rw[AY]; unfold mr; (repeat' split)<;>(first|(simp[*]; done)|decide|lia|omega)
 ·show(yK (cl z o w) ts+((z+o+w:Nat):Int)).natAbs<1000000
  rw[Kt h1]
  have d:=PY ts
  have m1:o*(1 / ts)<=o*1:=iE _ d.1
  have m2:w*(2 / ts)<=w*2:=iE _ d.2
  exact Vd hb m1 m2
theorem PZ(z o w tr:Nat):inD z o w tr 1=z+2*o+3*w+tr:=by unfold inD; simp; exact Ve
theorem GH(z o w tr:Nat):inD z o w tr 2=tr+2*(z+o+2*w):=by unfold inD; simp; exact Vf
theorem GI(z o w tr:Nat){ts:Nat}(h:3<=ts):inD z o w tr ts=tr+ts*(z+o+w):=by
 unfold inD; rw[nH (by exact aN 758095958531 tt h),nH (by assumption)]; simp
set_option tactic.hygienic true in
theorem Dr{a b:List Nat}{z o w z' o' w' tr:Nat}(ha:Is a z o w tr)(hb:Is b z' o' w' tr)(ht:tr<=2):
 eJ (cF a) (cF b)=decide (z+2*o+3*w<z'+2*o'+3*w'/\z+o+2*w<z'+o'+2*w'/\z+o+w<z'+o'+w'):=by
 have la:=ha.long; have lb:=hb.long
 have i2:=(ha.ind (ts:=2) (by decide)).1; have j2:=(hb.ind (ts:=2) (by decide)).1
 have i3:=(ha.ind (ts:=3) (by decide)).1; have j3:=(hb.ind (ts:=3) (by decide)).1
 rw[GH] at i2 j2; rw[GI _ _ _ _ (bL 3)] at i3 j3
 unfold eJ sizesOf
 rw[la.2,lb.2,la.1,lb.1]
 have na:(cF a).n=((z+2*o+3*w+tr:Nat):Int):=by rw[ha.w]
 have nb:(cF b).n=((z'+2*o'+3*w'+tr:Nat):Int):=by rw[hb.w]
 have ta:(cF a).nt=((z+o+w:Nat):Int):=by rw[ha.w]
 have tb:(cF b).nt=((z'+o'+w':Nat):Int):=by rw[hb.w]
 have sa:(cF a).simple=decide (o=0/\w=0):=by rw[ha.w]; exact my z o w
 have sb:(cF b).simple=decide (o'=0/\w'=0):=by rw[hb.w]; exact my z' o' w'
 rw[na,nb,ta,tb,sa,sb]
 have hm:mr z o w<=2/\mr z' o' w'<=2/\(mr z o w<=1->w=0)/\(mr z' o' w'<=1->w'=0):=by unfold mr; refine⟨?_,?_,?_,?_⟩<;>(repeat' split)<;>(first|(simp[*]; done)|lia|omega)
 have hz:¬(o=0/\w=0)->1<=mr z o w:=by unfold mr; (repeat' split)<;>(first|(simp[*]; done)|lia|omega)
 have HQ:¬(o'=0/\w'=0)->1<=mr z' o' w':=by unfold mr; (repeat' split)<;>(first|lia|omega)
 generalize mr z o w=m at*; generalize mr z' o' w'=m' at*
 clear la lb na nb ta tb sa sb ha hb
 obtain⟨m1,m2,m3,m4⟩:=hm
 split
 ·rename_i h; clear i2 j2 i3 j3 hz HQ m3 m4 m1 m2; exact(decide_eq_false (by exact Vg h)).symm
 ·split
  ·rename_i h1 h
   rw[cq,decide_eq_true_iff,decide_eq_true_iff] at h
   obtain⟨⟨rfl,rfl⟩,rfl,rfl⟩:=h
   clear i2 j2 i3 j3 hz HQ m3 m4 m1 m2
   rw[decide_eq_decide]; exact Vh h1
  ·rename_i h1 h
   rw[cq,decide_eq_true_iff,decide_eq_true_iff] at h
   have hM:max (max m tr) (max m' tr)=1\/max (max m tr) (max m' tr)=2:=by
    have:1<=m\/1<=m':=by
     by_cases q:o=0/\w=0
     ·exact .inr (HQ λq'=>h ⟨q,q'⟩)
     ·exact .inl (hz q)
    first|exact QS (this.elim (λh=>aP h (aP (de _ _) (de _ _))) λh=>aP h (aP (de _ _) (eN _ _))) (i6.mpr ⟨i6.mpr ⟨m1,ht⟩,i6.mpr ⟨m2,ht⟩⟩)|(first|lia|omega)
   have hr:(max ((max m tr:Nat):Int) ((max m' tr:Nat):Int)+2).toNat-2=max (max m tr) (max m' tr):=by clear h h1 i2 j2 i3 j3 hz HQ m3 m4 hM; exact Vi ht m1 m2
   rw[hr]
   clear h hz HQ hr
   rcases hM with hM|hM<;>rw[hM]
   ·show(decide ((cF a).ind 2<(cF b).ind 2)&&true)=_
    obtain rfl:w=0:=m3 (by exact Vj ht i2 j2 i3 j3 m1 m2 hM)
    obtain rfl:w'=0:=m4 (by exact Vk ht m2 hM)
    clear m3 m4 m1 m2 hM i3 j3 ht
    rw[kh,decide_eq_decide,i2,j2]; clear i2 j2; exact Vl h1
   ·show(decide ((cF a).ind 2<(cF b).ind 2)&&(decide ((cF a).ind 3<(cF b).ind 3)&&true))=_
    clear m3 m4 m1 m2 hM ht
    rw[kh,<-Bool.decide_and,decide_eq_decide,i2,j2,i3,j3]; clear i2 j2 i3 j3; exact Vm h1
theorem wG{a b:List Nat}{z z' tr Ik:Nat}(ha:Is a z 0 0 tr)(hb:Is b z' 0 0 Ik):eJ (cF a) (cF b)=decide (z+tr<z'+Ik/\z<=z'):=by
 unfold eJ
 have sa:(cF a).simple=true:=by rw[ha.w]; exact(my z 0 0).trans rfl
 have sb:(cF b).simple=true:=by rw[hb.w]; exact(my z' 0 0).trans rfl
 rw[show(cF a).n=((z+tr:Nat):Int) by rw[ha.w]; rfl,show(cF b).n=((z'+Ik:Nat):Int) by rw[hb.w]; rfl,show(cF a).nt=((z:Nat):Int) by rw[ha.w]; rfl,show(cF b).nt=((z':Nat):Int) by rw[hb.w]; rfl,sa,sb]
 split
 ·exact(decide_eq_false (by exact Vn ‹_›)).symm
 ·rw[if_pos (by decide),decide_eq_decide]; exact Vo ‹_›
theorem Cp{a b:List Nat}{z o w tr z' o' w' Ik:Nat}(ha:Is a z o w tr)(hb:Is b z' o' w' Ik):nC (cF a) (cF b)=decide (z=z'/\o=o'/\w=w'/\tr=Ik):=by
 unfold nC
 rw[decide_eq_decide,ha.w,hb.w]
 constructor
 ·rintro⟨h1,h2⟩
  have:=My h1
  have h2:((tr:Nat):Int)=((Ik:Nat):Int):=h2
  exact Vp this h2
 ·rintro⟨rfl,rfl,rfl,rfl⟩; exact⟨rfl,rfl⟩
theorem rJ{a b:iC}(h:b.n<=a.n):eJ a b=false:=by unfold eJ; rw[if_pos h]
theorem Is.kin{l:List Nat}{z o w tr:Nat}(h:Is l z o w tr):Is (gm l) (z+o+w) 0 0 tr/\Is (mq l) 0 0 0 l.length/\(o=0/\w=0->l=gm l)/\(z=0/\o=0/\w=0->l=mq l):=by
 have hl:=h.len
 obtain⟨rs,h1,rfl,rfl,rfl,rfl⟩:=h
 have hlen:rs.length=rs.count 0+rs.count 1+rs.count 2:=by
  have:=uM (λ_=>1) rs h1
  rw[xx] at this
  exact Nk this
 have YK:∀n,rep n [9]++blanks tr=txt (bf n 0) tr:=λn=>by
  rw[hV]
  unfold txt
  congr 1
  induction n with
  |zero=>rfl
  |succ n ih=>rw[bM,ih]; rfl
 have u4:gm (txt rs tr)=txt (bf rs.length 0) tr:=by
  unfold gm uC
  rw[xy,a8,ai,Bi,Nat.add_sub_cancel,<-YK]
  congr 1
  rw[ak,List.getElem?_append_right (by rw[ai]; exact bL _),ai,Nat.sub_self]; rfl
 have DL:mq (txt rs tr)=txt [] (txt rs tr).length:=by
  unfold mq; rw[hV]; rfl
 refine⟨⟨_,λr hr=>by rw[(gC.mp hr).2]; decide,u4,by rw[xP,hlen],by rw[eV]; rfl,by rw[eV]; rfl⟩,⟨[],λr hr=>(by exact nomatch hr),DL,rfl,rfl,rfl⟩,λ⟨h2,h3⟩=>?_,λ⟨h2,h3,h4⟩=>?_⟩
 ·rw[u4]
  congr 1
  refine List.eq_replicate_iff.mpr ⟨rfl,λr hr=>?_⟩
  have:=h1 r hr
  have n1:r≠1:=λq=>by subst q; exact absurd hr (DZ.mp h2)
  have n2:r≠2:=λq=>by subst q; exact absurd hr (DZ.mp h3)
  exact Vq this n1 n2
 ·have:rs=[]:=i7.mp (by exact Vr hlen ‹_›)
  subst this
  unfold mq; rw[hV]
  have:(txt [] tr).length=tr:=by rw[sJ]; simp
  rw[this]; rfl
theorem GJ{z o w tr ts:Nat}:inD (z+o+w) 0 0 tr ts<=inD z o w tr ts:=by
 unfold inD
 refine cB (iE _ ?_) _
 have h1:o<=o*(1 / ts+1):=zF _ (Nat.succ_pos _)
 have h2:w<=w*(2 / ts+1):=zF _ (Nat.succ_pos _)
 rw[Ba,Ba]; exact wQ 0xc410840108c24842731009084201 tt h1 h2
theorem Ji{l:List Nat}{z o w tr:Nat}(h:Is l z o w tr)(hb:z+2*o+3*w<=60)(ht:tr<=5):pT l:=by
 obtain⟨k1,k2,e1,e2⟩:=h.kin
 have hl:=h.len
 rw[hl] at k2
 have la:=h.long; have lb:=k1.long
 have hm:mr z o w<=2/\mr (z+o+w) 0 0=0/\(mr z o w=0↔o=0/\w=0):=by unfold mr; refine⟨?_,?_,?_⟩<;>(repeat' split)<;>(first|rfl|lia|omega)
 have hk:∀k,k∈cL l->k=l\/k=gm l\/k=mq l:=λk hk=>by simpa [cL] using hk
 have nl:(cF l).n=((z+2*o+3*w+tr:Nat):Int):=by rw[h.w]
 have n1:(cF (gm l)).n=((z+o+w+tr:Nat):Int):=by rw[k1.w]; rfl
 have n2:(cF (mq l)).n=((z+2*o+3*w+tr:Nat):Int):=by rw[k2.w]; simp
 refine⟨λk oX=>?_,λx hx y hy=>?_,λx hx y hy=>?_,λk oX ts pV=>?_,?_,λts pV=>?_,?_⟩
 ·rcases hk k oX with rfl|rfl|rfl
  ·exact h.ok (by exact cG 0xf9210e211441080426a484104201 tt hb) (by exact aN 26389393328129 tt ht)
  ·exact k1.ok (by exact cG 0xf9210e211441080426a4a731041084201 tt hb) (by exact aN 26389393328129 tt ht)
  ·exact k2.ok (by simp[*]) (by exact hK 0x1818423e4843884510420109a921887108a2084201 tt hb ht)
 ·--gm is less than none of them
  have c1:eJ (cF (gm l)) (cF l)=false:=by
   by_cases hz:o=0/\w=0
   ·exact rJ (by rw[nl,n1]; exact CC 0x130883300423080508410308e201445084101 tt (ah hz.1) (ah hz.2))
   ·unfold eJ
    rw[if_neg (by rw[nl,n1]; (first|lia|omega)),show(cF l).simple=false by rw[h.w]; exact(my z o w).trans (decide_eq_false hz),pE,if_neg (by decide)]
    refine G0.mpr λq=>?_
    unfold sizesOf at q
    rw[la.2,lb.2,la.1,lb.1] at q
    have:=aT.mp q (max (mr z o w) tr+1) (cR.mpr (by exact Vs hm hz))
    have hM:2<=max (mr z o w) tr+1:=by exact Vt hm hz
    rw[(k1.ind (by exact aN 21492289025 tt)).1,(h.ind (by exact aN 21492289025 tt)).1,decide_eq_true_iff] at this
    rcases fX (max (mr z o w) tr+1) 3 with h3|h3
    ·rw[show max (mr z o w) tr+1=2 by exact Vu la hM h3,GH,GH] at this
     have:w=0:=by
      have:mr z o w<=1:=by exact Vv hm hM h3
      unfold mr at this; split at this<;>(first|exact Vw this ‹_› |lia|omega)
     exact Vx ‹_› this
    ·rw[GI _ _ _ _ h3,GI _ _ _ _ h3] at this
     have e:z+o+w+0+0=z+o+w:=rfl
     rw[e] at this; exact lH 0x82088041042c22 tt this
  have c2:eJ (cF (gm l)) (cF (mq l))=false:=by rw[wG k1 k2]; exact decide_eq_false (by exact Vy hl nl n1 n2)
  have c3:eJ (cF (mq l)) (cF (gm l))=false:=rJ (by rw[n1,n2]; exact CC 0x310e2114410841031041084101 tt)
  have c4:eJ (cF l) (cF (gm l))=false:=rJ (by rw[n1,nl]; exact CC 0x310e2114410841031041084101 tt)
  have c5:eJ (cF l) (cF (mq l))=false:=rJ (by rw[n2,nl]; exact CC 0x310e21144108410310e211441084101 tt)
  have c6:eJ (cF (mq l)) (cF l)=false:=rJ (by rw[n2,nl]; exact CC 0x310e21144108410310e211441084101 tt)
  have c7:∀a,eJ a a=false:=λa=>rJ (jc _)
  rcases hk x hx with rfl|rfl|rfl<;>rcases hk y hy with rfl|rfl|rfl<;>first|exact c7 _|assumption
 ·have sy:∀a b,nC a b=nC b a:=λa b=>by unfold nC; rw[decide_eq_decide]; constructor<;>(rintro⟨h1,h2⟩; exact⟨h1.symm,h2.symm⟩)
  have ds:∀a b:List Nat,decide (a=b)=decide (b=a):=λa b=>by rw[decide_eq_decide]; exact⟨Eq.symm,Eq.symm⟩
  have c1:nC (cF l) (cF (gm l))=decide (l=gm l):=by
   by_cases q:l=gm l
   ·rw[<-q]; simp[nC]
   ·rw[Cp h k1,decide_eq_false q]; exact decide_eq_false λ⟨_,q1,q2,_⟩=>q (e1 ⟨q1,q2⟩)
  have c2:nC (cF l) (cF (mq l))=decide (l=mq l):=by
   by_cases q:l=mq l
   ·rw[<-q]; simp[nC]
   ·rw[Cp h k2,decide_eq_false q]; exact decide_eq_false λ⟨q0,q1,q2,_⟩=>q (e2 ⟨q0,q1,q2⟩)
  have c3:nC (cF (gm l)) (cF (mq l))=decide (gm l=mq l):=by
   by_cases q:gm l=mq l
   ·rw[<-q]; simp[nC]
   ·rw[Cp k1 k2,decide_eq_false q]
    exact decide_eq_false λ⟨q0,_,_,_⟩=>q ((e1 ⟨by(first|lia|omega),by(first|lia|omega)⟩).symm.trans (e2 ⟨by(first|lia|omega),by(first|lia|omega),by(first|lia|omega)⟩))
  have c7:∀a,nC (cF a) (cF a)=decide (a=a):=λa=>by simp[nC]
  rcases hk x hx with rfl|rfl|rfl<;>rcases hk y hy with rfl|rfl|rfl<;>first|exact c7 _|assumption|(rw[sy,ds]; assumption)
 ·rcases hk k oX with rfl|rfl|rfl
  ·rw[(h.ind pV).1,(h.ind pV).2]
  ·rw[(k1.ind pV).1,(k1.ind pV).2]
  ·rw[(k2.ind pV).1,(k2.ind pV).2]
 ·unfold sizesOf
  rw[la.2,lb.2,la.1,lb.1]
  constructor<;>(congr 1; (first|exact Vz ht hl la lb hm nl n1 n2|exact VC ht hl la lb hm nl n1 n2|lia|omega))
 ·rw[(h.ind pV).2,(k1.ind pV).2]
  exact oJ.mpr GJ
 ·rw[la.1]; exact VD ht hl la lb hm nl n1 n2
noncomputable def gu(r:Rel)(f:List Nat)(t u:Nat):Nat×Nat×Nat:=((fk r f t 0).idxOf (j9 r u),(fk r f t 1).idxOf (j9 r u),(fk r f t 2).idxOf (j9 r u))
theorem zo{r:Rel}(w:Wf r)(f:List Nat)(t:Nat):fN r f t=(aB 4).map (gu r f t):=by
 unfold fN
 apply js
 intro u
 rw[av,av]
 rcases fX u 4 with h|h
 ·rw[cQ h,aj (by rw[w.len]; exact h)]
  have:r.getD u []=r[u]'(by rw[w.len]; exact h):=by rw[ak,aj (by rw[w.len]; exact h)]; rfl
  show some _=some (gu r f t u)
  unfold gu j9
  rw[this]
 ·rw[cf (by rw[w.len]; exact h),cf (by simpa using h)]; rfl
theorem wH(r:Rel)(f:List Nat)(t:Nat):(fk r f t 0=f/\fk r f t 1=eL r f/\fk r f t 2=eT r t)\/(fk r f t 0=eL r f/\fk r f t 1=eT r t/\fk r f t 2=f)\/(fk r f t 0=eT r t/\fk r f t 1=f/\fk r f t 2=eL r f):=by
 have h:t / 3 % 3=0\/t / 3 % 3=1\/t / 3 % 3=2:=by exact VF
 unfold fk
 rcases h with h|h|h<;>rw[h]
 ·exact .inl ⟨rfl,rfl,rfl⟩
 ·exact .inr (.inl ⟨rfl,rfl,rfl⟩)
 ·exact .inr (.inr ⟨rfl,rfl,rfl⟩)
structure Mz(r:Rel)(q:Nat->Nat×Nat×Nat):Prop where
 b:∀u<4,(q u).1<=4/\(q u).2.1<=4/\(q u).2.2<=4
 lt:∀u<4,∀v<4,bF r u v=2↔(q u).1<(q v).1/\(q u).2.1<(q v).2.1/\(q u).2.2<(q v).2.2
 eq:∀u<4,∀v<4,bF r u v=1↔(q u).1=(q v).1/\(q u).2.1=(q v).2.1/\(q u).2.2=(q v).2.2
theorem wI{r:Rel}{f:List Nat}(hf:f∈rowsOf r)(t:Nat):eT r t∈rowsOf r:=by
 have hl:=nX hf
 unfold eT
 rw[ak,aj (dQ _ hl)]
 exact dg _
theorem Cq{r:Rel}{f:List Nat}(hf:f∈rowsOf r)(G:Good r f)(t:Nat):Mz r (gu r f t):=by
 obtain⟨⟨h1,-⟩,h2,-⟩:=G
 have hl:=kC r
 have ht:=wI hf t
 have bd:∀row∈rowsOf r,∀x,row.idxOf x<=4:=λrow hr x=>aP pD ((h1 (aK r).length (by exact aN 25289900556801 tt hl)).2 row hr)
 have bm:∀x,(eL r f).idxOf x<=4:=λx=>aP pD (by unfold eL; rw[ai,ec]; exact hl)
 have oc:=wH r f t
 refine⟨λu hu=>?_,λu hu v hv=>?_,λu hu v hv=>?_⟩
 ·have b1:=bd f hf (j9 r u); have b2:=bd _ ht (j9 r u); have b3:=bm (j9 r u)
  unfold gu
  rcases oc with⟨e0,e1,e2⟩|⟨e0,e1,e2⟩|⟨e0,e1,e2⟩<;>rw[e0,e1,e2]
  ·exact⟨b1,b3,b2⟩
  ·exact⟨b3,b2,b1⟩
  ·exact⟨b2,b1,b3⟩
 ·obtain⟨pa,pb,pc⟩:=h2 u hu v hv
  have key:bF r u v=2↔f.idxOf (j9 r u)<f.idxOf (j9 r v)/\(eL r f).idxOf (j9 r u)<(eL r f).idxOf (j9 r v)/\(eT r t).idxOf (j9 r u)<(eT r t).idxOf (j9 r v):=by
   constructor
   ·intro h; have:=pa h; exact⟨this.1 f hf,this.2,this.1 _ ht⟩
   ·rintro⟨a,b,c⟩; exact sS λh=>pb h ⟨a,b⟩
  rw[key]
  unfold gu
  rcases oc with⟨e0,e1,e2⟩|⟨e0,e1,e2⟩|⟨e0,e1,e2⟩<;>rw[e0,e1,e2]
  ·exact⟨λ⟨a,b,c⟩=>⟨b,c,a⟩,λ⟨b,c,a⟩=>⟨a,b,c⟩⟩
  ·exact⟨λ⟨a,b,c⟩=>⟨c,a,b⟩,λ⟨c,a,b⟩=>⟨a,b,c⟩⟩
 ·obtain⟨pa,pb,pc⟩:=h2 u hu v hv
  constructor
  ·intro h
   have:=pc.1 h
   unfold gu; rw[this]; exact⟨rfl,rfl,rfl⟩
  ·intro h
   refine sS λk=>pc.2 k ?_
   unfold gu at h
   rcases oc with⟨e0,e1,e2⟩|⟨e0,e1,e2⟩|⟨e0,e1,e2⟩<;>rw[e0,e1,e2] at h
   ·exact h.1
   ·exact h.2.2
   ·exact h.2.1
structure LF(r:Rel)(ls:List (List Nat)):Prop where
 len:ls.length=4
 is:∃z o w tr:Nat->Nat,(∀u<4,Is (bq ls u) (z u) (o u) (w u) (tr u)/\z u+2*o u+3*w u<=60/\tr u<=5)/\
  (∀u<4,∀v<4,bF r u v=2->∀ts,0<ts->inD (z u) (o u) (w u) (tr u) ts<inD (z v) (o v) (w v) (tr v) ts)/\
  (∀u<4,∀v<4,bF r u v=1↔z u=z v/\o u=o v/\w u=w v/\tr u=tr v)/\
  (∀u<4,∀v<4,eJ (cF (bq ls u)) (cF (bq ls v))=decide (bF r u v=2))
theorem wJ(g:Nat->List Nat){u:Nat}(hu:u<4):bq ((aB 4).map g) u=g u:=by
 unfold bq; rw[ak,av,cQ hu]; rfl
theorem MA{z o w z' o' w' tr:Nat}(h1:z+2*o+3*w<z'+2*o'+3*w')(h2:z+o+2*w<z'+o'+2*w')(h3:z+o+w<z'+o'+w'){ts:Nat}(pV:0<ts):inD z o w tr ts<inD z' o' w' tr ts:=by
 have:ts=1\/ts=2\/3<=ts:=by exact Nl pV
 rcases this with rfl|rfl|h
 ·rw[PZ,PZ]; exact yb 0x147120a23842821c422882108042628e24144708428610e211441084201 tt h1
 ·rw[GH,GH]; exact yb 0x145120e10a08510821080825144838405134282144208405134201 tt h2
 ·rw[GI _ _ _ _ h,GI _ _ _ _ h]
  exact qT (xM h3 pV) _
theorem GK{r:Rel}{f:List Nat}{t:Nat}(w:Wf r)(hf:f∈rowsOf r)(G:Good r f)(h1:(rowsOf r).length=1):LF r (fg r f t):=by
 have S:=Cq hf G t
 have hm:=G.2.2 h1
 have ht:eT r t=f:=by
  obtain⟨x,hx⟩:=jq.mp h1
  have a:=wI hf t
  rw[hx] at a hf
  rw[aA.mp a,aA.mp hf]
 have hq:∀u,gu r f t u=((gu r f t u).1,(gu r f t u).1,(gu r f t u).1):=λu=>by
  unfold gu
  rcases wH r f t with⟨e0,e1,e2⟩|⟨e0,e1,e2⟩|⟨e0,e1,e2⟩<;>rw[e0,e1,e2,hm,ht]
 have hl:fg r f t=(aB 4).map λu=>sI t (gu r f t u):=by
  unfold fg; rw[if_pos h1,zo w,aM]; rfl
 rw[hl]
 have q4:∀u<4,(gu r f t u).1<=4:=λu hu=>(S.b u hu).1
 have lt:∀u<4,∀v<4,bF r u v=2↔(gu r f t u).1<(gu r f t v).1:=λu hu v hv=>by rw[S.lt u hu v hv,hq u,hq v]; exact⟨λh=>h.1,λh=>⟨h,h,h⟩⟩
 have eq:∀u<4,∀v<4,bF r u v=1↔(gu r f t u).1=(gu r f t v).1:=λu hu v hv=>by rw[S.eq u hu v hv,hq u,hq v]; exact⟨λh=>h.1,λh=>⟨h,h,h⟩⟩
 generalize hA:(λu=>(gu r f t u).1)=A at*
 have Jj:∀u,(gu r f t u).1=A u:=λu=>congrFun hA u
 have is:∀u<4,Is (bq ((aB 4).map λu=>sI t (gu r f t u)) u) (A u / 2) 0 0 ((A u+1) / 2+t % 3):=λu hu=>by
  rw[wJ _ hu]
  refine⟨bf (A u / 2) 0,λr hr=>by rw[(gC.mp hr).2]; decide,?_,by rw[xP],by rw[eV]; rfl,by rw[eV]; rfl⟩
  unfold sI txt
  rw[Jj]
  congr 1
  generalize A u / 2=n
  induction n with
  |zero=>rfl
  |succ n ih=>rw[bM,ih]; rfl
 refine⟨by rw[ai,ec],λu=>A u / 2,λ_=>0,λ_=>0,λu=>(A u+1) / 2+t % 3,λu hu=>⟨is u hu,?_,?_⟩,λu hu v hv h ts pV=>?_,λu hu v hv=>?_,λu hu v hv=>?_⟩
 ·have:=q4 u hu; rw[Jj] at this; dsimp only; exact VG this
 ·have:=q4 u hu; rw[Jj] at this; dsimp only; exact VH this
 ·have:=(lt u hu v hv).mp h
  rw[Jj,Jj] at this
  unfold inD
  simp only[Ba,lj]
  have m:=iE ts (show A u / 2<=A v / 2 by exact VJ this)
  rcases fX ((A u+1) / 2) ((A v+1) / 2) with h|h
  ·exact wQ 0xe82804210042120e10a008284201 tt m h
  ·have:=xM (show A u / 2<A v / 2 by exact VK this h) pV
   exact VL ‹_› h this
 ·rw[eq u hu v hv,Jj,Jj]; constructor
  ·intro h; dsimp only; rw[h]; exact⟨rfl,rfl,rfl,rfl⟩
  ·rintro⟨a,-,-,b⟩; dsimp only at a b; exact VM a b
 ·rw[wG (is u hu) (is v hv),decide_eq_decide,lt u hu v hv,Jj,Jj]; exact VN
theorem pW(c:Int×Int×Int)(u:Nat):∀k,((fz c).drop u++(fz c).take u).count k=(fz c).count k:=λk=>by
 rw[mD,Bf,<-mD,List.take_append_drop]
theorem Jk{r:Rel}{f:List Nat}{t:Nat}(w:Wf r)(hf:f∈rowsOf r)(G:Good r f)(h1:(rowsOf r).length≠1):LF r (fg r f t):=by
 have S:=Cq hf G t
 generalize DN:fN r f t=sp at*
 have hq:sp=(aB 4).map (gu r f t):=DN▸zo w f t
 have qk:∀u<4,gu r f t u∈sp:=λu hu=>by rw[hq]; exact aw.mpr ⟨u,aW.mpr hu,rfl⟩
 have ea:sp≠[]:=by rw[hq]; simp
 have hb:∀q∈sp,q.1<=4/\q.2.1<=4/\q.2.2<=4:=λq h=>by rw[hq] at h; obtain⟨u,hu,rfl⟩:=aw.mp h; exact S.b u (aW.mp hu)
 --K0 three Wz all counts share
 have P0:∀q∈sp,dw sp<=(q.2.1:Int)-q.2.2:=λq h=>BB (aw.mpr ⟨q,h,rfl⟩)
 have P1:∀q∈sp,(q.2.1:Int)-q.2.2-dw sp-(q.1-q.2.1)<=fy sp:=λq h=>lr (aw.mpr ⟨q,h,rfl⟩)
 have YL:∀q∈sp,(q.1:Int)-q.2.1+fy sp-q.2.2<=baseOf sp:=λq h=>lr (aw.mpr ⟨q,h,rfl⟩)
 have in1:∃q∈sp,dw sp=(q.2.1:Int)-q.2.2:=by have:=tG (l:=sp.map λq=>(q.2.1:Int)-q.2.2) (by simpa using ea); obtain⟨q,h,e⟩:=aw.mp this; exact⟨q,h,e.symm⟩
 have YM:∃q∈sp,fy sp=(q.2.1:Int)-q.2.2-dw sp-(q.1-q.2.1):=by have:=kI (l:=sp.map λq=>(q.2.1:Int)-q.2.2-dw sp-(q.1-q.2.1)) (by simpa using ea); obtain⟨q,h,e⟩:=aw.mp this; exact⟨q,h,e.symm⟩
 have YN:∃q∈sp,baseOf sp=(q.1:Int)-q.2.1+fy sp-q.2.2:=by have:=kI (l:=sp.map λq=>(q.1:Int)-q.2.1+fy sp-q.2.2) (by simpa using ea); obtain⟨q,h,e⟩:=aw.mp this; exact⟨q,h,e.symm⟩
 have hl:fg r f t=(aB 4).map λu=>uf t u (fz (countOf sp (gu r f t u))):=by
  unfold fg; rw[if_neg h1,DN]
  refine ef λu hu=>?_
  rw[ak,av,hq,av,cQ (aW.mp hu)]; rfl
 have b1:-4<=dw sp/\dw sp<=4:=by obtain⟨q,h,e⟩:=in1; first|exact bb1 e (hb q h)|(have:=hb q h; omega)
 have b2:-8<=fy sp/\fy sp<=16:=by obtain⟨q,h,e⟩:=YM; first|exact bb2 e (hb q h) b1 (P0 q h)|(have:=hb q h; have:=P0 q h; (first|lia|omega))
 have b3:-20<=baseOf sp/\baseOf sp<=20:=by obtain⟨q,h,e⟩:=YN; first|exact bb3 e (hb q h) b2 (P1 q h)|(have:=hb q h; have:=P1 q h; (first|lia|omega))
 generalize hA:gu r f t=A at*
 let W:=λu=>(countOf sp (A u)).1.toNat
 let O:=λu=>((countOf sp (A u)).2.1-(countOf sp (A u)).1).toNat
 let Z:=λu=>((countOf sp (A u)).2.2-(countOf sp (A u)).2.1).toNat
 --K0 counts,told by K0 places
 have hc:∀u<4,((W u:Nat):Int)=((A u).2.1:Int)-(A u).2.2-dw sp/\((W u+O u:Nat):Int)=((A u).1:Int)-(A u).2.1+fy sp/\((W u+O u+Z u:Nat):Int)=((A u).2.2:Int)+baseOf sp:=λu hu=>by
  have m:=qk u hu
  have l1:=P0 _ m; have l2:=P1 _ m; have l3:=YL _ m
  show(((((A u).2.1:Int)-(A u).2.2-dw sp).toNat:Nat):Int)=_/\(((((A u).2.1:Int)-(A u).2.2-dw sp).toNat+(((A u).1:Int)-(A u).2.1+fy sp-(((A u).2.1:Int)-(A u).2.2-dw sp)).toNat:Nat):Int)=_/\
   (((((A u).2.1:Int)-(A u).2.2-dw sp).toNat+(((A u).1:Int)-(A u).2.1+fy sp-(((A u).2.1:Int)-(A u).2.2-dw sp)).toNat+(((A u).2.2:Int)+baseOf sp-(((A u).1:Int)-(A u).2.1+fy sp)).toNat:Nat):Int)=_
  clear in1 YM YN P0 P1 YL hb
  refine⟨?_,?_,?_⟩<;>(first|exact VO l1|exact VQ l1 l2|exact VR l1 l2 l3|lia|omega)
 have is:∀u<4,Is (bq (fg r f t) u) (Z u) (O u) (W u) (t % 3):=λu hu=>by
  rw[hl,wJ _ hu]
  have cr:∀k,(fz (countOf sp (A u))).count k=(if k=2 then W u else 0)+(if k=1 then O u else 0)+(if k=0 then Z u else 0):=λk=>by
   unfold fz
   rw[mD,mD,eV,eV,eV]
   simp only[beq_iff_eq,eq_comm (b:=k)]; rfl
  refine⟨_,λx hx=>?_,rfl,by rw[pW,cr]; simp,by rw[pW,cr]; simp,by rw[pW,cr]; simp⟩
  refine BZ (c:=countOf sp (A u)) x ?_
  rcases bN.mp hx with h|h
  ·exact Cu h
  ·exact List.mem_of_mem_take h
 clear_value W O Z
 clear in1 YM YN P0 P1 YL qk hq ea hl
 refine⟨by unfold fg; rw[if_neg h1,ai,ec],Z,O,W,λ_=>t % 3,λu hu=>⟨is u hu,?_,?_⟩,λu hu v hv h ts pV=>?_,λu hu v hv=>?_,λu hu v hv=>?_⟩
 ·have:=hc u hu; have:=S.b u hu; clear is hc hb S; exact VU b1 b3 ‹_› this
 ·show t % 3<=5; exact VV
 ·have e:=(S.lt u hu v hv).mp h; have c1:=hc u hu; have c2:=hc v hv
  clear is hc hb S b1 b2 b3
  exact MA (by exact VW e c1 c2) (by exact VY e c1 c2) (by exact VZ e c1 c2) pV
 ·rw[S.eq u hu v hv]
  have c1:=hc u hu; have c2:=hc v hv
  clear is hc hb S b1 b2 b3
  constructor
  ·rintro⟨a,b,c⟩; refine⟨?_,?_,?_,rfl⟩<;>(first|exact V0 c1 c2 a b c|exact V1 c1 c2 a b c|exact V2 c1 c2 a b c|lia|omega)
  ·rintro⟨a,b,c,-⟩; refine⟨?_,?_,?_⟩<;>(first|exact V3 c1 c2 a b c|exact V4 c1 c2 a b c|exact V5 c1 c2 a b c|lia|omega)
 ·rw[Dr (is u hu) (is v hv) (by exact V6),decide_eq_decide,S.lt u hu v hv]
  have c1:=hc u hu; have c2:=hc v hv
  clear is hc hb S b1 b2 b3
  constructor
  ·rintro⟨a,b,c⟩; refine⟨?_,?_,?_⟩<;>(first|exact V7 c1 c2 a|exact V8 c1 c2 b|exact V9 c1 c2 c|lia|omega)
  ·rintro⟨a,b,c⟩; refine⟨?_,?_,?_⟩<;>(first|exact Wa c1 c2 a|exact Wb c1 c2 b|exact Wc c1 c2 c|lia|omega)
theorem P2{r:Rel}{f:List Nat}{t:Nat}(w:Wf r)(hf:f∈rowsOf r)(G:Good r f):LF r (fg r f t):=by
 by_cases h:(rowsOf r).length=1
 ·exact GK w hf G h
 ·exact Jk w hf G h
theorem qR{ls:List (List Nat)}(h:ls.length=4){l:List Nat}(hl:l∈ls):∃u<4,l=bq ls u:=by
 obtain⟨u,hu,rfl⟩:=qb hl
 refine⟨u,h▸hu,?_⟩
 unfold bq; rw[ak,aj hu]; rfl
theorem MB(rs:List Nat)(tr:Nat):∀c∈txt rs tr,c=32\/c=9:=by
 intro c hc
 unfold txt blanks at hc
 rcases bN.mp hc with hc|hc
 ·obtain⟨x,hx,hc⟩:=Hi.mp hc
  obtain⟨n,_,rfl⟩:=aw.mp hx
  rcases bN.mp hc with hc|hc
  ·exact .inl (gC.mp hc).2
  ·exact .inr (aA.mp hc)
 ·exact .inl (gC.mp hc).2
theorem LF.ok{r:Rel}{ls:List (List Nat)}(F:LF r ls):LsOk ls:=by
 obtain⟨z,o,w,tr,h,-⟩:=F.is
 refine⟨F.len,λl hl=>?_,λl hl=>?_⟩
 ·obtain⟨u,hu,rfl⟩:=qR F.len hl
  obtain⟨rs,_,e,_⟩:=(h u hu).1
  rw[e]; exact MB rs _
 ·obtain⟨u,hu,rfl⟩:=qR F.len hl
  have:=h u hu
  rw[this.1.len]; (first|lia|omega)
theorem Jl{es:List Ed}{ks:List Bool}{r:Rel}{ls:List (List Nat)}(hx:∀e∈es,vA e)(h5:es.length=5)(I:Inv r (Kp (es.zip ks)))(F:LF r ls):AU ls r (nf es ks):=by
 obtain⟨z,o,w,tr,h,h2,h3,h4⟩:=F.is
 have hp:=λu hu=>Gu (ks:=ks) hx I (u:=u) hu
 have at_:∀l∈ls,∃u<4,l=bq ls u:=λl hl=>qR F.len hl
 refine⟨I.tt.wf,λl hl=>?_,λl hl ts pV=>?_,λl hl=>?_,h4,λu hu v hv=>?_,λd hd=>(wF hx d hd).1,?_,hp,λu hu=>?_⟩
 ·obtain⟨u,hu,rfl⟩:=at_ l hl; have:=h u hu; exact this.1.ok (by(first|lia|omega)) (by(first|lia|omega))
 ·obtain⟨u,hu,rfl⟩:=at_ l hl; have:=(h u hu).1.ind pV; rw[this.1,this.2]
 ·obtain⟨u,hu,rfl⟩:=at_ l hl; exact(h u hu).1.long.2
 ·rw[Cp (h u hu).1 (h v hv).1,decide_eq_decide]; exact(h3 u hu v hv).symm
 ·have:=zg (es.map rowOf) ks
  rw[ze,ai,ai,h5] at this; exact aN 0xc0a200847ec4801 tt this
 ·rw[<-(hp u hu).length_eq]
  exact⟨Ck r u,nX (qO.mpr ((I.reach hu).mp (.refl u)))⟩
theorem GL{es:List Ed}{ks:List Bool}{r:Rel}{ls:List (List Nat)}(hx:∀e∈es,vA e)(C:vB es r ks)(F:LF r ls){k:Nat}(hk:k<es.length):y6 (es.map cp) (ls.map cF) k (rowOf (jh es k))=if ks.getD k false then[] else[Dm es ls k]:=by
 obtain⟨z,o,w,tr,h,h2,h3,-⟩:=F.is
 have I:=C.inv
 have he:es[k]? =some (jh es k):=by unfold jh; rw[ak,aj hk]; rfl
 have Ow:ks[k]? =some (ks.getD k false):=by rw[ak,aj (by rw[C.len]; exact hk)]; rfl
 have hz:(jh es k,ks.getD k false)∈es.zip ks:=bI (List.getElem?_zip_eq_some.mpr ⟨he,Ow⟩)
 have P4:(es.map cp).getD k []=cp (jh es k):=by rw[ak,av,he]; rfl
 have x:=hx _ (bI he)
 unfold y6 Dm
 rw[P4]
 generalize jh es k=e at*
 generalize ks.getD k false=b at*
 obtain⟨e1,e2,e3⟩:=qM x.ok
 have l1:vz (rE (pR e))=e.low:=by unfold vz; rw[xu _ x.low]; unfold nL; have:=x.ok.low; unfold pR; exact We this
 have l2:vz (rE (jX e))=e.high:=by unfold vz; rw[xu _ x.high]; unfold nL; have:=x.ok.high; unfold jX; exact Wg this
 have wa:∀u<4,(ls.map cF).getD u ⟨[],0,0,[],0,true⟩=cF (bq ls u):=λu hu=>by
  rw[ak,av,(eU F.ok hu).1]; rfl
 --K0 two of K0 row
 have hw:ur (ls.map cF) (rowOf e)=if e.ends.2.2=1 then pB (cF (bq ls e.ends.1)) (cF (bq ls e.ends.2.1)) else mm (cF (bq ls e.ends.1)) (cF (bq ls e.ends.2.1)):=by
  have hs:=x.ok.sg
  have:e.sg=0\/e.sg=1\/e.sg=2:=by exact Hx hs
  have a1:iY (ls.map cF) (rE (pR e))=cF (bq ls e.low):=by unfold iY; rw[l1]; exact wa _ x.ok.low
  have a2:iY (ls.map cF) (rE (jX e))=cF (bq ls e.high):=by unfold iY; rw[l2]; exact wa _ x.ok.high
  unfold ur pairOf rowOf ux Ed.ends
  rcases this with q|q|q<;>rw[q]
  ·show mm (iY _ (rE (pR e))) (iY _ (rE (jX e)))=mm _ _
   rw[a1,a2]; rfl
  ·show mm (iY _ (rE (jX e))) (iY _ (rE (pR e)))=mm _ _
   rw[a1,a2]; rfl
  ·show pB (iY _ (rE (pR e))) (iY _ (rE (jX e)))=pB _ _
   rw[a1,a2]; rfl
 have fB:sizesOf (cF (bq ls e.ends.1)) (cF (bq ls e.ends.2.1)) 1=bB 1 (gh ls e):=by
  have a1:=(h _ e1).1.long; have a2:=(h _ e2).1.long
  unfold sizesOf gh
  rw[a1.2,a2.2]
  have:max (dJ (bq ls e.ends.1)) (dJ (bq ls e.ends.2.1))=max (dJ (bq ls e.low)) (dJ (bq ls e.high)):=by
   unfold Ed.ends; split
   ·rfl
   ·split
    ·exact Int.max_comm _ _
    ·rfl
  rw[this]; congr 1; exact Ng
 have DN:bB 1 (gh ls e)≠[]:=by
  have a1:=(h _ x.ok.low).1.long.1
  unfold gh; rw[a1]
  intro q
  have:=congrArg i8 q
  rw[cY] at this
  simp at this; exact Wh this
 have i1:=λts pV=>((h _ e1).1.ind (ts:=ts) pV).1
 have i2:=λts pV=>((h _ e2).1.ind (ts:=ts) pV).1
 have qE:∀ts∈bB 1 (gh ls e),0<ts:=λts ht=>(cR.mp ht).1
 have P5:=h2 _ e1 _ e2; have P6:=h2 _ e2 _ e1; have YO:=h3 _ e1 _ e2; have YQ:=h3 _ e2 _ e1
 have XK:=I.tt.e _ e1 _ e2; have v21:=I.tt.e _ e2 _ e1; have YR:=I.as e1 e2
 rw[hw]
 unfold pB mm
 rw[fB]
 have key:(if e.ends.2.2=1 then(bB 1 (gh ls e)).filter λts=>decide ((cF (bq ls e.ends.1)).ind ts≠(cF (bq ls e.ends.2.1)).ind ts) else(bB 1 (gh ls e)).filter λts=>decide ((cF (bq ls e.ends.2.1)).ind ts<=(cF (bq ls e.ends.1)).ind ts))=if b then[] else bB 1 (gh ls e):=by
  cases b with
  |true=>
   have bd:∀a b f,((a=e.ends.1/\b=e.ends.2.1)\/(e.ends.2.2=1/\a=e.ends.2.1/\b=e.ends.1))/\f=decide (e.ends.2.2=2)->(if f then(2:Int) else 1)<=bF r a b:=λa b f q=>(I.QI a b f ⟨_,hz,rfl,q⟩).2.2
   have b1:=bd _ _ _ ⟨.inl ⟨rfl,rfl⟩,rfl⟩
   rw[if_pos rfl]
   rcases e3 with q|q
   ·have b2:=bd _ _ _ ⟨.inr ⟨q,rfl,rfl⟩,rfl⟩
    rw[q] at b1 b2
    rw[if_pos q]
    refine zK.mpr λts ht=>?_
    have b1:(1:Int)<=_:=b1; have b2:(1:Int)<=_:=b2
    obtain⟨z1,o1,w1,t1⟩:=YO.mp (by exact Wi XK v21 YR ‹_› b1 b2)
    rw[i1 ts (qE ts ht),i2 ts (qE ts ht),z1,o1,w1,t1]; simp
   ·rw[q] at b1
    rw[if_neg (by rw[q]; decide)]
    refine zK.mpr λts ht=>?_
    have b1:(2:Int)<=_:=b1
    have:=P5 (by exact Nj XK b1) ts (qE ts ht)
    rw[i1 ts (qE ts ht),i2 ts (qE ts ht)]; simp; exact aX 0x68080421a0201 tt this
  |false=>
   have bl:kA r e:=C.YI _ hz rfl
   unfold kA at bl
   rw[if_neg (show ¬false=true by decide)]
   rcases e3 with q|q
   ·rw[if_pos q]
    rw[if_neg (by rw[q]; decide)] at bl
    refine DB.mpr λts ht=>decide_eq_true ?_
    rw[i1 ts (qE ts ht),i2 ts (qE ts ht)]
    rcases bl with bl|bl
    ·have:=P5 bl ts (qE ts ht); exact Wj this
    ·have:=P6 bl ts (qE ts ht); exact Wl this
   ·rw[if_neg (by rw[q]; decide)]
    rw[if_pos q] at bl
    refine DB.mpr λts ht=>decide_eq_true ?_
    rw[i1 ts (qE ts ht),i2 ts (qE ts ht)]
    have:bF r e.ends.2.1 e.ends.1=1\/bF r e.ends.2.1 e.ends.1=2:=by exact Wm v21 bl
    rcases this with bl|bl
    ·obtain⟨z1,o1,w1,t1⟩:=YQ.mp bl
     rw[z1,o1,w1,t1]; exact jc _
    ·have:=P6 bl ts (qE ts ht); exact je 0x6808042140101 tt this
 rw[key]
 cases b with
 |true=>rfl
 |false=>rw[if_neg (show ¬false=true by decide),if_neg DN,if_neg (show ¬false=true by decide)]
theorem Cr{es:List Ed}{ks:List Bool}{r:Rel}{ls:List (List Nat)}(hx:∀e∈es,vA e)(C:vB es r ks)(F:LF r ls):∀n k,k+n<=es.length->gY (es.map cp) (ls.map cF) k ((bB k n).map λi=>rowOf (jh es i))=((bB k n).filter λk=>!(ks.getD k false)).map (Dm es ls)
 | 0,k,_=>rfl
 |n+1,k,h=>by
  rw[sN,aO,gY,Cr hx C F n (k+1) (by exact cG 0xa81802010883404201 tt h),GL hx C F (by exact cG 0x2a060080422a0201 tt h),eG]
  cases ks.getD k false<;>rfl
theorem Jm{es:List Ed}{ks:List Bool}{r:Rel}{ls:List (List Nat)}(hx:∀e∈es,vA e)(h5:es.length=5)(C:vB es r ks)(F:LF r ls):AW es ks ls:=by
 obtain⟨z,o,w,tr,h,-⟩:=F.is
 have hm:∀u,mr (z u) (o u) (w u)<=2:=λu=>by unfold mr; (repeat' split)<;>(first|lia|omega)
 refine⟨?_,λl hl=>?_,λl hl=>?_⟩
 ·have:=Cr hx C F 5 0 (by exact aN 825741823489 tt (ah h5.symm))
  unfold Ce
  rw[kk,<-this]
  congr 1
  apply js; intro i
  rw[av,av]
  rcases fX i 5 with hi|hi
  ·rw[km hi,fW,Dy]
   have:jh es i=es[i]:=by unfold jh; rw[ak,aj (by exact HA h5 hi)]; rfl
   rw[aj (by exact HA h5 hi)]
   show some _=some (rowOf (jh es i))
   rw[this]
  ·rw[cf (by exact Wn h5 hi),cf (by simpa using hi)]; rfl
 ·obtain⟨u,hu,rfl⟩:=qR F.len hl
  have a:=h u hu; have l:=a.1.long; have:=hm u
  refine⟨a.1.ok (by(first|lia|omega)) (by(first|lia|omega)),?_⟩
  rw[l.2,l.1]; (first|lia|omega)
 ·obtain⟨u,hu,rfl⟩:=qR F.len hl
  have a:=h u hu; have l:=a.1.long; have:=hm u
  rw[l.1]; (first|lia|omega)
theorem uO:∀l:List Int,(∀y∈l,0<=y)->0<=l.sum
 |[],_=>by decide
 |x::l,h=>by rw[kg]; have:=uO l λy hy=>h y (.tail _ hy); have:=h x (.head _); exact Wo ‹_› this
theorem MC(ns:List Int):∃fs,Gs ns fs:=by
 have C:=zl λe he=>(F1 (ns:=ns) e he).ok
 obtain⟨f,hf,G⟩:=GD C.inv
 have hm:=md hf
 have F:=P2 (t:=qK ns) C.inv.tt.wf hm G
 obtain⟨z,o,w,tr,h,-⟩:=F.is
 have hu:qK ns % 4<4:=dQ _ (by decide)
 exact⟨f,(aG (uO _ λy hy=>(xm hy).1)).symm,C.len.trans (uy ns),AX C.inv.tt.wf hf G,F.ok,Ji (h _ hu).1 (h _ hu).2.1 (h _ hu).2.2,Jl F1 (uy ns) C.inv F,Jm F1 (uy ns) C F⟩
theorem holds:fV.Holds:=Je λns _=>MC ns
end
end
end Mine
theorem PySem.Challenge.cw_rs0233_01_holds : PySem.Challenge.rw_rs0233_01.Holds :=
 Mine.holds
