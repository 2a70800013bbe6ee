import PyProof.Rows.All
import Wide.All
import OpenK.AllK
import Wide.FinOn
import PySem.Challenge.RW_rs0233_01
open And renaming intro->zS
open Array renaming length_toList->fi,getElem?_eq_getElem->me,getElem?_push_size->xS,toList->zy,toList_inj->G7,size_push->Hr
open Bool renaming false_eq_true->cb,and_eq_true->cq,and_eq_true_iff->c0,false_ne_true->gF,or_eq_true->iP,and_true->kj,eq_iff_iff->oN,and_false->pG,or_false->yc,eq_false_iff->G6,decide_or->KL
open Classical renaming byContradiction->cE
open Decidable renaming byContradiction->sU
open Except renaming ok->sd
open ForInStep renaming yield->fE
open Function renaming comp->lI
open Int renaming le_of_eq->af,le_antisymm->aE,toNat_of_nonneg->aG,le_max_right->br,self_le_toNat->bz,le_max_left->bO,le_trans->bX,lt_or_gt_of_ne->cy,max_le->cD,le_total->cT,max_eq_right->dW,max_eq_left->et,toNat_le->eS,toNat_of_nonpos->ft,toNat_natCast->hK,not_lt->ig,le_of_lt_add_one->ij,not_le->ja,natAbs_natCast->jb,ofNat->jc,le_refl->jd,zero_sub->jA,sub_le_sub->jC,add_zero->jD,mul_comm->lr,natCast_nonneg->md,min_le_right->nL,ofNat_le->oM,zero_add->sx,add_assoc->zx,toNat->zP,fmod_nonneg_of_pos->Bn,mul_add->DK,add_le_add_right->DL,fmod_lt_of_pos->G5,min_eq_right->JD,min_le_left->KI,min_eq_left->KJ
open List renaming length_map->ai,getElem?_eq_getElem->aj,getD_eq_getElem?_getD->ak,mem_cons->au,getElem?_map->av,mem_map->aw,mem_singleton->aA,range->aB,map_map->aM,map_cons->aO,length_cons->aQ,all_eq_true->aT,mem_range->aW,length_append->a8,length_filter_le->ba,replicate->bf,not_mem_nil->bo,mem_filter->bw,length_replicate->bA,range'->bB,mem_of_getElem?->bI,replicate_succ->bM,mem_append->bN,getElem?_eq_none->cf,mem_cons_self->cw,getElem?_eq_some_iff->cI,getElem?_range->cQ,mem_range'_1->cR,length_range'->cY,all_cons->de,take_of_length_le->dg,getElem_mem->dh,length_range->ec,flatten_cons->ee,map_congr_left->ef,foldl_cons->ei,lookup_cons->eG,filter_cons->eH,count_replicate->eW,size_toArray->ff,length_nil->fg,nodup_cons->fU,map_append->fV,filterMap_cons_none->gd,mem_replicate->gD,drop_of_length_le->gE,append_nil->gU,length_pos_iff->iB,filterMap_cons_some->iJ,forIn_cons->iN,find?_cons->iO,length_eq_zero_iff->i8,length->i9,length_eq_one_iff->jr,forIn_nil->js,ext_getElem?->jt,cons_append->j1,sum_cons->ki,range_eq_range'->km,mem_append_left->ko,getElem?_range'->kq,of_mem_zip->kG,all_append->kH,idxOf_lt_length_of_mem->lh,pairwise_cons->lH,mem_of_find?_eq_some->mi,getElem?_eq_none_iff->mj,filter_congr->mF,count_append->mG,append_assoc->mH,any_eq_false->mI,isEmpty_nil->nq,ext_getElem->nr,length_pos_of_mem->n0,nil_append->oJ,count_cons->oK,idxOf_le_length->pF,getElem_of_mem->qd,filterMap_cons->qe,any_cons->qW,lookup_append->rf,count_pos_iff->rg,pairwise_map->r8,all_nil->r9,range'_succ->sP,mem_flatMap->sQ,map_flatMap->sR,length_drop->sS,getD->sT,drop_zero->wR,getElem?_append_left->xQ,count_replicate_self->xR,map_take->yb,getElem?_cons_zero->zw,toArray->zK,not_of_lt_findIdx->zL,map_nil->zM,filter_eq_nil_iff->zN,all_map->zO,mem_iff_getElem?->Bk,mem_append_right->Bl,length_singleton->Bm,mem_of_mem_drop->CB,lookup->CC,drop_eq_nil_iff->CD,mem_map_of_mem->DG,filter_eq_self->DH,eraseDups_cons->DI,map_inj_right->DZ,getElem_idxOf->D1,getElem?_drop->D2,forIn_toArray->D3,foldl->D4,count_eq_zero->D5,reverse_cons->GZ,nodup_append->G0,flatMap_cons->G4,prefix_refl->Hk,mem_flatten->Hl,map_flatten->Hm,length_take->Hn,drop_subset->Ho,any_eq_true->Hp,length_zip->JC,nodup_nil->KD,filterMap->KG,drop_drop->KH
open List.Perm renaming cons->DJ
open Max renaming max->aF
open Min renaming min->iz
open Nat renaming le_of_eq->ah,le_antisymm->ar,le_trans->aP,sub_add_cancel->aV,le_of_not_lt->aY,ne_of_lt->bg,lt_or_gt_of_ne->bj,le_refl->bL,add_le_add_left->cB,le_max_left->df,mul_comm->dO,mod_lt->dR,le_max_right->eO,le_total->fB,zero_le->fD,mul_div_le->fG,lt_of_lt_of_le->fH,lt_of_le_of_lt->fI,sub_eq_zero_of_le->fK,zero_add->fX,lt_or_ge->fY,lt_of_not_le->gx,le_add_right->gy,ne_of_gt->gQ,add_le_add->ie,min_le_right->iw,min_eq_right->ix,max_eq_right->iy,mul_le_mul_left->iF,lt_irrefl->iM,max_le->i7,lt_succ_of_lt->jz,succ_le_succ->kh,min_le_left->kY,min_eq_left->kZ,max_eq_left->k8,add_zero->lq,sub_le->l7,div_eq_of_lt->nK,beq->oI,mul_le_mul->qa,add_lt_add_left->qV,add_assoc->rd,lt_succ_self->uT,mul_lt_mul_of_pos_left->xP,le_mul_of_pos_right->zI,add_sub_cancel_left->zJ,zero_mul->Bf,rec->Bg,le_of_lt->Bh,blt->Bi,add_comm->Bj,le_of_ble_eq_true->CA,one_mul->DE,div_le_div_right->DF,lt_mul_div_succ->DY,pos_of_ne_zero->GW,not_lt->GX,add_right_comm->GY,le_of_lt_succ->Hi,add_div_right->Hj,succ_ne_self->JB,not_lt_zero->KA,div_le_self->KC
open Option renaming none->aD,ne_none_iff_exists'->cX,map_eq_some_iff->fo,bind_some->jM,getD_some->DW,getD_none->DX
open Option.some renaming inj->cg,injEq->x9
open PUnit renaming unit->DB
open Prod.mk renaming injEq->Hh
open PyProof.Rows renaming add_str->uY,wpAny_releaseD->A4,tail_any->A6,Attribute_any_->Bp,listUpdate_at->Dz,seqEpoch_at->Jw
open PyProof.Rows.AllBare renaming push->JE
open PyProof.Rows.KTD renaming Dat->Kz
open PyProof.Rows.KTD.Dat renaming flat->oH
open PySem renaming wpAny_bind->aa,wpAny_pure->ao,NameKind->aC,starEach->aI,wpAny_holding->aL,wpAny_standAt->aZ,assignEach->bk,sizeLine_eq->bu,attributeBase->bx,assign->bE,foldedSetIterable->bH,mainGlobals->bV,compareOp->cc,DictEntry->cz,builtinsNs->cP,swappedStores->cS,Builtin->dA,wpAny_mono->dD,wpAny_field->dE,standAt->dF,sliceBounds->dG,keywordEach->dI,getItem->dJ,Comprehension->dU,methodCallForm->eC,codeAny->eD,cellsFrom->eE,bindArgs->eR,methodCall->eY,swapsWithSole->fJ,wpAny_call->fR,callWith->fS,theTreesLotGoes->gj,swapsWith->gk,codeAny_of_tree->gm,getAttr->gp,backToKw->gr,Program->gu,wpAny_seqItems->gJ,wpAny_loadPart->gK,wpAny_execs_cons->gM,wpAny_callSpecial?_slot->gN,wpAny_nextOf_list_item->hF,builtinLookup_eq_fast->ic,wpAny_pyIter_list->ip,IsRangeIter->iG,noteFrame->iL,wpAny_Assign_stores->i5,methodCallPos->jj,binaryOp->jk,behindInMarks->jl,wpAny_execs_nil->jn,letOwnedTupleGo->jo,wpAny_newTuple->kc,wpAny_loadPart_at->ke,callEnvC->kg,wpAny_call_entry->kW,typeLookup->kX,wpAny_onRaise->k9,sizeLine->ll,wpAny_updateSeq->lW,typeLookup_type->lX,wpAny_setField_rec->m6,wpAny_rule->m7,typeIs_str->m8,sliceRange->m9,call_meets->nc,wpAny_noted->nP,wpAny_newObj_type->nQ,wpAny_Return_some->nR,getMethod_builtin->nS,wpAny_newList->oG,wpAny_askSetting->pj,strValues->pn,compStart->pv,wpAny_mkText->p7,aRefKeyMayBeTheName_at->p9,wpAny_pyNext_list_end->qU,wpAny_Expr_any->rM,codeAny_call_builtin->rO,calleeOf->rP,wpAny_isSubtype_exc->sv,wpAny_attempt->sN,wpAny_Name->uR,wpAny_truthy_bool->vG,wpAny_updatePart->xC,wpAny_pyIter_zip->xD,wpAny_lookBehind->xE,updateSeq->xF,pastItsLine_dict->xG,getMethod->xH,assign_Attribute->xI,wpAny_letGo->xV,wpAny_specialOf->zr,importedModules->zt,forTurn->zE,UnaryOp->zG,wpAny_setField->A3,wpAny_load->A5,sliceRange_one->A7,letTemporaryGo->A8,evalPairs_cons->Bb,compTurn->Bc,FuncData->Bo,nums_intItems->Dy,assignInOrder->DA,ExceptHandler->DN,setFlight->DT,typeIs_bool->DV,wpAny_pyNext_list_item->GQ,wpAny_getItem_list_neg->GR,codeAny_compStart_list->GU,wpAny_isTrue_Compare1->Hg,wpAny_tryStmt_except->Jr,wpAny_of_eq->Js,wpAny_alloc->Jt,wpAny_BinOp->Ju,unpackItems->Jv,numAt_eq->Jy,cStatics->Jz
open PySem.Around renaming under_of_weight->nv,under_plainId->zQ,frames_deeper->zR
open PySem.Builtin.List renaming listExtendWith->jN,listLengthHint->qX,listSameRef->sf,listItems->sV
open PySem.Builtin.Range renaming rangeSize->eF,small->gV,rangeFitsLong->qf
open PySem.Builtin.SmallTypes renaming nextOf->bG,ownedTupleIsFree->cv,ownedTupleHandOut->lJ,iterAll->x4
open PySem.Builtin.Str renaming strSliceIndices->lY,tooLong->GS
open PySem.Calls renaming spliced_cons->dP,spliced_nil->d9,call_len_list->CE
open PySem.Challenge renaming rw_rs0233_01->fW
open PySem.Code renaming quiet_builtin->D6
open PySem.F renaming type_str_join->gO,slot_str_join->gP,slot_str_split->i6,args_str_split_2->lZ,slot_list_index->mD,entry_str_split->mE,type_list_index->wM,slot_dict_items->wN,args_list_add_2->wO,args_int_rmul_2->wQ,slot_bool_rmul->xJ,entry_list_add->xK,entry_int_rmul->xM,args_str_mul_2->xO,slot_list_add->x5,slot_int_rmul->x7,entry_str_mul->x8,slot_str_mul->zv
open PySem.Heap renaming get?_push_of_some->aH,get?_push_size->bC,lt_size->bJ,get?_update_self->bK,get?_update_other->ct,size_push->cZ,SameBut->fu,get?_push_ne->hJ,size_update->j4,ExtBut->uU,get?_update_ne->DM,push->Hq
open PySem.Heap.SameBut renaming update->dT
open PySem.NameKind renaming «local»->ae,globalImplicit->ag,cell->aq,free->cM
open PySem.Obj renaming mapSeq->c9,mapFields->rb,isFreed_of_fields->Cy,putName->DC,data_mapFields->GV
open PySem.PyData renaming keyHash->dw
open PySem.ScopeKind renaming isAnnotationScope->r7
open PySem.Sre renaming inSet->qc,forSearch->zu,M->zH
open PySem.Sre.M renaming admitted->JA
open PySem.Str renaming ofString->J
open PySem.StrLaws renaming glued_eq_join->xY
open PySem.Txt renaming split->qb
open PySem.Value renaming none->d7,ref->lg,type->lp,isStr->sO
open PySem.W renaming callWith_of->d6,looks_findIn->hH,SharedT->jq,instObj->kf,putName_dict->mC,hasDictIn->pq,takerIn->p8,plainGet_of->rN,InstAt->uS,looks_clsIn->xW,findObj_own->xX,absHeap->zF,kas_sort->A9,handedIn->Ba,codeRec_of->Be,plainOver->DU,plainGet->Jx
open PySem.W.Fast renaming te14364793385576792824->nG,te14289696077712309145->nH,te11892475500146522536->nI,te10156331382660048174->nJ,te8920871248978507458->nV,te6613529449190102663->nW,te5923862056798008813->nX,te4187177175401517315->nY,te1435165496053646825->nZ
open PySem.W.Looks renaming now->ya
open PySem PySem.W PyProof.Rows
set_option Elab.async false
set_option compiler.extract_closed false
set_option maxHeartbeats 0
set_option genSizeOf false
set_option tactic.hygienic false
set_option maxRecDepth 100000
set_option linter.unusedVariables false
namespace Mine
section
section
set_option genSizeOf false
set_option genInjectivity false
inductive Nx|v(i:Nat)|n(k:Nat)|a(x y:Nx)|m(k:Nat)(x:Nx)
inductive Zx|c(x:Nx)|v(i:Nat)|n(k:Int)|a(x y:Zx)|s(x y:Zx)|m(k:Int)(x:Zx)
inductive Hs|e|n(k:Nat)(x y:Nx)(r:Hs)|z(k:Nat)(x y:Zx)(r:Hs)
structure Po where
 k:Int
 n:List Int
 z:List Int
end
noncomputable def Nx.N(c:List Nat)(x:Nx):Nat:=Nx.rec (λi=>c.getD i 0) (λk=>k) (λ_ _ x y=>x+y) (λk _ x=>k*x) x
noncomputable def Zx.Z(c:List Nat)(d:List Int)(x:Zx):Int:=Zx.rec (λx=>(x.N c:Int)) (λi=>d.getD i 0) (λk=>k) (λ_ _ x y=>x+y) (λ_ _ x y=>x-y) (λk _ x=>k*x) x
noncomputable def un(i:Nat):List Int:=Bg [1] (λ_ r=>0::r) i
noncomputable def pa(p:List Int):List Int->List Int:=List.rec (λq=>q) (λx p r q=>List.casesOn q (x::p) λy q=>(x+y)::r q) p
noncomputable def dot(p:List Int):List Int->Int:=List.rec (λ_=>0) (λx _ r c=>List.casesOn c 0 λy c=>x*y+r c) p
noncomputable def Po.a(x y:Po):Po:=⟨x.k+y.k,pa x.n y.n,pa x.z y.z⟩
noncomputable def Po.m(k:Int)(x:Po):Po:=⟨k*x.k,x.n.map (k* ·),x.z.map (k* ·)⟩
noncomputable def Po.s(x y:Po):Po:=x.a (.m (-1) y)
noncomputable def Po.ev(c:List Nat)(d:List Int)(x:Po):Int:=x.k+dot x.n (c.map Nat.cast)+dot x.z d
noncomputable def Nx.p(x:Nx):Po:=Nx.rec (λi=>⟨0,un i,[]⟩) (λk=>⟨k,[],[]⟩) (λ_ _ x y=>x.a y) (λk _ x=>x.m k) x
noncomputable def Zx.p(x:Zx):Po:=Zx.rec Nx.p (λi=>⟨0,[],un i⟩) (λk=>⟨k,[],[]⟩) (λ_ _ x y=>x.a y) (λ_ _ x y=>x.s y) (λk _ x=>x.m k) x
noncomputable def Hs.p(x:Hs):Po:=Hs.rec ⟨0,[],[]⟩ (λk x y _ r=>((y.p.s x.p).m k).a r) (λk x y _ r=>((y.p.s x.p).m k).a r) x
noncomputable def Hs.D(c:List Nat)(d:List Int)(P:Prop)(x:Hs):Prop:=Hs.rec P (λ_ x y _ r=>x.N c<=y.N c->r) (λ_ x y _ r=>x.Z c d<=y.Z c d->r) x
noncomputable def Po.ok(k:Nat)(x:Po):Bool:=decide (x.k+1<=k)&&x.n.all (λi=>decide (i<=0))&&x.z.all (λi=>decide (i=0))
theorem a4(a b c d:Int):(a+b)+(c+d)=(a+c)+(b+d):=by rw[zx,zx,Int.add_left_comm b]
theorem Qq(c:List Int):dot [] c=0:=rfl
theorem zT:∀(c:List Int) (i:Nat),dot (un i) c=c.getD i 0
 |[],0=>rfl
 |[],_+1=>rfl
 |x::c,0=>show 1*x+0=x from(jD _).trans (Int.one_mul x)
 |x::c,i+1=>show 0*x+dot (un i) c=_ from(congrArg (·+dot (un i) c) (Int.zero_mul x)).trans ((sx _).trans (zT c i))
theorem vH:∀(c:List Nat) (i:Nat),(c.map (Nat.cast:Nat->Int)).getD i 0=((c.getD i 0:Nat):Int)
 |[],_=>rfl
 |x::c,0=>rfl
 |x::c,i+1=>vH c i
theorem zU:∀(p q c:List Int),dot (pa p q) c=dot p c+dot q c
 |[],q,c=>(sx _).symm
 |x::p,[],c=>(jD _).symm
 |x::p,y::q,[]=>rfl
 |x::p,y::q,z::c=>show(x+y)*z+dot (pa p q) c=(x*z+dot p c)+(y*z+dot q c) by rw[zU p q c,Int.add_mul,a4]
theorem zV(k:Int):∀(p c:List Int),dot (p.map (k* ·)) c=k*dot p c
 |[],c=>(Int.mul_zero k).symm
 |x::p,[]=>(Int.mul_zero k).symm
 |x::p,y::c=>show k*x*y+dot (p.map (k* ·)) c=k*(x*y+dot p c) by rw[zV k p c,DK,Int.mul_assoc]
theorem CF(c:List Nat)(d:List Int)(x y:Po):(x.a y).ev c d=x.ev c d+y.ev c d:=by
 show x.k+y.k+dot (pa x.n y.n) _+dot (pa x.z y.z) d=x.k+dot x.n _+dot x.z d+(y.k+dot y.n _+dot y.z d); rw[zU,zU,a4 x.k,a4]
theorem D7(c:List Nat)(d:List Int)(k:Int)(x:Po):(x.m k).ev c d=k*x.ev c d:=by
 show k*x.k+dot (x.n.map (k* ·)) _+dot (x.z.map (k* ·)) d=k*(x.k+dot x.n _+dot x.z d); rw[zV,zV,DK,DK]
theorem KN(c:List Nat)(d:List Int)(x y:Po):(x.s y).ev c d=x.ev c d-y.ev c d:=by
 rw[Po.s,CF,D7,Int.neg_mul,Int.one_mul]; rfl
theorem Ht(c:List Nat)(d:List Int)(k:Int):Po.ev c d ⟨k,[],[]⟩=k:=(jD _).trans (jD _)
theorem D8(c:List Nat)(d:List Int)(x:Nx):x.p.ev c d=x.N c:=by
 induction x with
 |v i=>exact(jD _).trans ((sx _).trans ((zT _ i).trans (vH c i)))
 |n k=>exact Ht c d k
 |a x y hx hy=>exact(CF c d x.p y.p).trans (hx▸hy▸rfl)
 |m k x hx=>exact(D7 c d k x.p).trans (hx▸rfl)
theorem Hu(c:List Nat)(d:List Int)(x:Zx):x.p.ev c d=x.Z c d:=by
 induction x with
 |c x=>exact D8 c d x
 |v i=>exact(sx _).trans (zT _ i)
 |n k=>exact Ht c d k
 |a x y hx hy=>exact(CF c d x.p y.p).trans (hx▸hy▸rfl)
 |s x y hx hy=>exact(KN c d x.p y.p).trans (hx▸hy▸rfl)
 |m k x hx=>exact(D7 c d k x.p).trans (hx▸rfl)
theorem Bq:∀(c:List Nat) (p:List Int),p.all (λi=>decide (i<=0))=true->dot p (c.map Nat.cast)<=0
 |_,[],_=>jd _
 |[],_::_,_=>jd _
 |x::c,y::p,h=>have h:=c0.mp h
  Int.add_le_add (Int.mul_nonpos_of_nonpos_of_nonneg (of_decide_eq_true h.1) (md x)) (Bq c p h.2)
theorem Br:∀(c p:List Int),p.all (λi=>decide (i=0))=true->dot p c=0
 |_,[],_=>rfl
 |[],_::_,_=>rfl
 |x::c,y::p,h=>have h:=c0.mp h
  show y*x+dot p c=0 by rw[of_decide_eq_true h.1,Br c p h.2,Int.zero_mul]; rfl
theorem KO{c:List Nat}{d:List Int}{P:Prop}(r:Hs):(0<=r.p.ev c d->P)->r.D c d P:=by
 have key:∀(k:Nat) (x y r:Po),x.ev c d<=y.ev c d->0<=r.ev c d->0<=(((y.s x).m k).a r).ev c d:=λk x y r g q=>by
  rw[CF,D7,KN]
  exact Int.add_nonneg (Int.mul_nonneg (md k) (Int.sub_nonneg_of_le g)) q
 induction r with
 |e=>exact λh=>h (af (Ht c d 0).symm)
 |n k x y r ih=>exact λh g=>ih λq=>h (key k x.p y.p r.p (by rw[D8,D8]; exact oM.mpr g) q)
 |z k x y r ih=>exact λh g=>ih λq=>h (key k x.p y.p r.p (by rw[Hu,Hu]; exact g) q)
theorem JF{c:List Nat}{d:List Int}{k:Nat}{x:Po}(h:x.ok k=true):x.ev c d<k:=by
 have h:=c0.mp h
 have h1:=c0.mp h.1
 have h2:x.k<k:=of_decide_eq_true h1.1
 show x.k+dot x.n _+dot x.z d<k
 rw[Br d _ h.2,jD,<-jD (k:Int)]
 exact Int.add_lt_add_of_lt_of_le h2 (Bq c _ h1.2)
theorem Zc{c:List Nat}{d:List Int}{k:Nat}{x y:Po}{r:Hs}(h:((((x.s y).m k).a r.p).ok k)=true)(g:0<=r.p.ev c d):x.ev c d<=y.ev c d:=by
 have h:=JF (c:=c) (d:=d) h
 rw[CF,D7,KN] at h
 have h2:(k:Int)*(x.ev c d-y.ev c d)<k*1:=by rw[Int.mul_one]; exact Int.lt_of_le_of_lt (Int.le_add_of_nonneg_right g) h
 exact Int.le_of_sub_nonpos (ij (Int.lt_of_mul_lt_mul_left h2 (md k)))
noncomputable def dK(f:Nat):Nat->Nat×Nat:=Bg (λw=>(0,w)) (λ_ ih w=>bif Bi (w % 32) 16 then(w % 32,w / 32) else(w % 32-16+16*(ih (w / 32)).1,(ih (w / 32)).2)) f
noncomputable def pN(x:Nx×Nat)(g:Nat->Nx×Nat):Nx×Nat:=(x.1.a (g x.2).1,(g x.2).2)
noncomputable def mN(k:Nat×Nat)(g:Nat->Nx×Nat):Nx×Nat:=(.m k.1 (g k.2).1,(g k.2).2)
noncomputable def dN(f:Nat):Nat->Nx×Nat:=Bg (λw=>(.n 0,w)) (λ_ ih w=>
 bif Bi (w % 32) 16 then(.v (w % 32),w / 32) else bif Bi 18 (w % 32) then(.n (w % 32-19),w / 32) else bif oI (w % 32) 16 then pN (ih (w / 32)) ih else
 bif oI (w % 32) 17 then mN (dK 20 (w / 32)) ih else(.n (dK 20 (w / 32)).1,(dK 20 (w / 32)).2)) f
noncomputable def pZ(b:Bool)(x:Zx×Nat)(g:Nat->Zx×Nat):Zx×Nat:=(bif b then x.1.a (g x.2).1 else x.1.s (g x.2).1,(g x.2).2)
noncomputable def mZ(k:Nat×Nat)(g:Nat->Zx×Nat):Zx×Nat:=(.m k.1 (g k.2).1,(g k.2).2)
noncomputable def dZ(f:Nat):Nat->Zx×Nat:=Bg (λw=>(.n 0,w)) (λ_ ih w=>
 bif Bi (w % 32) 8 then(.v (w % 32),w / 32) else bif Bi 14 (w % 32) then(.n (w % 32-15:Nat),w / 32) else bif oI (w % 32) 8 then(.c (dN 20 (w / 32)).1,(dN 20 (w / 32)).2) else
 bif oI (w % 32) 11 then pZ true (ih (w / 32)) ih else bif oI (w % 32) 12 then pZ false (ih (w / 32)) ih else bif oI (w % 32) 13 then mZ (dK 20 (w / 32)) ih else
 bif oI (w % 32) 9 then(.n (dK 20 (w / 32)).1,(dK 20 (w / 32)).2) else(.n (-(dK 20 (w / 32)).1),(dK 20 (w / 32)).2)) f
noncomputable def xN(k:Nat)(x:Nx×Nat)(g:Nat->Hs):Hs:= .n k x.1 (dN 20 x.2).1 (g (dN 20 x.2).2)
noncomputable def xZ(k:Nat)(x:Zx×Nat)(g:Nat->Hs):Hs:= .z k x.1 (dZ 20 x.2).1 (g (dZ 20 x.2).2)
noncomputable def dH(f:Nat):Nat->Hs:=Bg (λ_=> .e) (λ_ ih w=>
 bif oI w 0 then .e else bif oI (w % 32) 1 then xN (dK 20 (w / 32)).1 (dN 20 (dK 20 (w / 32)).2) ih else xZ (dK 20 (w / 32)).1 (dZ 20 (dK 20 (w / 32)).2) ih) f
theorem tt:true=true:=rfl
theorem ln_(c:List Nat)(d:List Int)(k:Nat)(x y:Nx)(r:Hs)(h:((((x.p.s y.p).m k).a r.p).ok k)=true):r.D c d (x.N c<=y.N c):=
 KO r λg=>by have:=Zc (c:=c) (d:=d) h g; rw[D8,D8] at this; exact oM.mp this
theorem lz_(c:List Nat)(d:List Int)(k:Nat)(x y:Zx)(r:Hs)(h:((((x.p.s y.p).m k).a r.p).ok k)=true):r.D c d (x.Z c d<=y.Z c d):=
 KO r λg=>by have:=Zc (c:=c) (d:=d) h g; rw[Hu,Hu] at this; exact this
theorem lf_(c:List Nat)(d:List Int)(r:Hs)(h:((r.p.a ⟨1,[],[]⟩).ok 1)=true):r.D c d False:=KO r λg=>by
 have:=JF (c:=c) (d:=d) h
 rw[CF,Ht] at this
 exact Int.lt_irrefl _ (Int.lt_of_lt_of_le this (Int.le_add_of_nonneg_left g))
noncomputable def kn(w:Nat):Nat:=(dK 20 w).1
noncomputable def n1(w:Nat):Nx×Nat:=dN 20 (dK 20 w).2
noncomputable def n2(w:Nat):Nx×Nat:=dN 20 (n1 w).2
noncomputable def z1(w:Nat):Zx×Nat:=dZ 20 (dK 20 w).2
noncomputable def Qr(w:Nat):Zx×Nat:=dZ 20 (z1 w).2
noncomputable def Cn(w:Nat):Bool:=((((n1 w).1.p.s (n2 w).1.p).m (kn w)).a (dH 20 (n2 w).2).p).ok (kn w)
noncomputable def Cz(w:Nat):Bool:=((((z1 w).1.p.s (Qr w).1.p).m (kn w)).a (dH 20 (Qr w).2).p).ok (kn w)
noncomputable def Cf(w:Nat):Bool:=((dH 20 w).p.a ⟨1,[],[]⟩).ok 1
noncomputable def Gn(c:List Nat)(d:List Int)(w:Nat):Prop:=(dH 20 (n2 w).2).D c d ((n1 w).1.N c<=(n2 w).1.N c)
noncomputable def Gz(c:List Nat)(d:List Int)(w:Nat):Prop:=(dH 20 (Qr w).2).D c d ((z1 w).1.Z c d<=(Qr w).1.Z c d)
noncomputable def Gf(c:List Nat)(d:List Int)(w:Nat):Prop:=(dH 20 w).D c d False
theorem ln(c:List Nat)(d:List Int)(w:Nat)(h:Cn w=true):Gn c d w:=ln_ c d _ _ _ _ h
theorem lz(c:List Nat)(d:List Int)(w:Nat)(h:Cz w=true):Gz c d w:=lz_ c d _ _ _ _ h
theorem lf(c:List Nat)(d:List Int)(w:Nat)(h:Cf w=true):Gf c d w:=lf_ c d _ h
theorem uV(x y:Nat):x<=x-y+y:=Nat.le_add_of_sub_le (bL _)
theorem Hv(w:Nat)(h:Cf w=true):Gf [] [] w:=lf _ _ w h
theorem je{u:Int}(w:Nat)(h:Cf w=true):Gf [] [u] w:=lf _ _ w h
theorem zW{u v:Int}(w:Nat)(h:Cf w=true):Gf [] [u,v] w:=lf _ _ w h
theorem gG{a:Nat}(w:Nat)(h:Cf w=true):Gf [a] [] w:=lf _ _ w h
theorem KP{a:Nat}{u:Int}(w:Nat)(h:Cf w=true):Gf [a] [u] w:=lf _ _ w h
theorem lK{a b:Nat}(w:Nat)(h:Cf w=true):Gf [a,b] [] w:=lf _ _ w h
theorem zX{a b c:Nat}(w:Nat)(h:Cf w=true):Gf [a,b,c] [] w:=lf _ _ w h
theorem KQ{a b c d:Nat}(w:Nat)(h:Cf w=true):Gf [a,b,c,d] [] w:=lf _ _ w h
theorem Q4{a b c d e f g:Nat}(w:Nat)(h:Cf w=true):Gf [a,b,c,d,e,f,g] [] w:=lf _ _ w h
theorem Q5(w:Nat)(h:Cn w=true):Gn [] [] w:=ln _ _ w h
theorem aN{a:Nat}(w:Nat)(h:Cn w=true):Gn [a] [] w:=ln _ _ w h
theorem Hw{a:Nat}{u:Int}(w:Nat)(h:Cn w=true):Gn [a] [u] w:=ln _ _ w h
theorem zY{a:Nat}{u v:Int}(w:Nat)(h:Cn w=true):Gn [a] [u,v] w:=ln _ _ w h
theorem vJ{a b c d e f g i j k:Nat}{u v:Int}(w:Nat)(h:Cn w=true):Gn [a,b,c,d,e,f,g,i,j,k] [u,v] w:=ln _ _ w h
theorem JG{a b c d e f g i j k l m:Nat}{u v:Int}(w:Nat)(h:Cn w=true):Gn [a,b,c,d,e,f,g,i,j,k,l,m] [u,v] w:=ln _ _ w h
theorem aX{a b:Nat}(w:Nat)(h:Cn w=true):Gn [a,b] [] w:=ln _ _ w h
theorem Nh{a b:Nat}{u:Int}(w:Nat)(h:Cn w=true):Gn [a,b] [u] w:=ln _ _ w h
theorem cG{a b c:Nat}(w:Nat)(h:Cn w=true):Gn [a,b,c] [] w:=ln _ _ w h
theorem Q6{a b c:Nat}{u:Int}(w:Nat)(h:Cn w=true):Gn [a,b,c] [u] w:=ln _ _ w h
theorem hO{a b c d:Nat}(w:Nat)(h:Cn w=true):Gn [a,b,c,d] [] w:=ln _ _ w h
theorem Q7{a b c d:Nat}{u v:Int}(w:Nat)(h:Cn w=true):Gn [a,b,c,d] [u,v] w:=ln _ _ w h
theorem wU{a b c d e:Nat}(w:Nat)(h:Cn w=true):Gn [a,b,c,d,e] [] w:=ln _ _ w h
theorem KR{a b c d e:Nat}{u v:Int}(w:Nat)(h:Cn w=true):Gn [a,b,c,d,e] [u,v] w:=ln _ _ w h
theorem KS{a b c d e f:Nat}(w:Nat)(h:Cn w=true):Gn [a,b,c,d,e,f] [] w:=ln _ _ w h
theorem Ni{a b c d e f:Nat}{u:Int}(w:Nat)(h:Cn w=true):Gn [a,b,c,d,e,f] [u] w:=ln _ _ w h
theorem yd{a b c d e f g:Nat}(w:Nat)(h:Cn w=true):Gn [a,b,c,d,e,f,g] [] w:=ln _ _ w h
theorem Hx{a b c d e f g i:Nat}{u:Int}(w:Nat)(h:Cn w=true):Gn [a,b,c,d,e,f,g,i] [u] w:=ln _ _ w h
theorem eI{u:Int}(w:Nat)(h:Cz w=true):Gz [] [u] w:=lz _ _ w h
theorem dQ{u v:Int}(w:Nat)(h:Cz w=true):Gz [] [u,v] w:=lz _ _ w h
theorem ew{a:Nat}(w:Nat)(h:Cz w=true):Gz [a] [] w:=lz _ _ w h
theorem j5{a:Nat}{u:Int}(w:Nat)(h:Cz w=true):Gz [a] [u] w:=lz _ _ w h
theorem Nj{a:Nat}{u v:Int}(w:Nat)(h:Cz w=true):Gz [a] [u,v] w:=lz _ _ w h
theorem jf{a b:Nat}(w:Nat)(h:Cz w=true):Gz [a,b] [] w:=lz _ _ w h
theorem qg{a b:Nat}{u:Int}(w:Nat)(h:Cz w=true):Gz [a,b] [u] w:=lz _ _ w h
theorem Hy{a b:Nat}{u v:Int}(w:Nat)(h:Cz w=true):Gz [a,b] [u,v] w:=lz _ _ w h
theorem KU{a b c:Nat}(w:Nat)(h:Cz w=true):Gz [a,b,c] [] w:=lz _ _ w h
theorem CG{a b c:Nat}{u:Int}(w:Nat)(h:Cz w=true):Gz [a,b,c] [u] w:=lz _ _ w h
theorem Nk{a b c:Nat}{u v:Int}(w:Nat)(h:Cz w=true):Gz [a,b,c] [u,v] w:=lz _ _ w h
theorem CH{a b c d:Nat}(w:Nat)(h:Cz w=true):Gz [a,b,c,d] [] w:=lz _ _ w h
theorem Q8{a b c d e:Nat}(w:Nat)(h:Cz w=true):Gz [a,b,c,d,e] [] w:=lz _ _ w h
theorem Nl{a b c d e:Nat}{u v:Int}(w:Nat)(h:Cz w=true):Gz [a,b,c,d,e] [u,v] w:=lz _ _ w h
theorem Nm{a b c d e f g:Nat}(w:Nat)(h:Cz w=true):Gz [a,b,c,d,e,f,g] [] w:=lz _ _ w h
theorem Qs{a b:Int}(h:a<=b)(n:a≠b):a<b:=Int.lt_iff_le_and_ne.mpr ⟨h,n⟩
theorem z2{u v w:Int}(h:u<=2)(h0:0<=v)(b:v≠0)(m:v<=w)(k:u=2->2<=w):u<=w:=(Decidable.em (u=2)).elim (λe=>bX (af e) (k e)) λn=>bX (ij (Qs h n)) (bX (Qs h0 (Ne.symm b)) m)
theorem mx(p q:Nat):aF (p:Int) (q:Int)=((aF p q:Nat):Int):=by
 rcases fB p q with h|h
 ·rw[iy h,dW (oM.mpr h)]
 ·rw[k8 h,et (oM.mpr h)]
theorem Zd(p q:Nat):(aF (p:Int) (q:Int)+2).toNat-2=aF p q:=by rw[mx]; rfl
theorem mx1{p q:Nat}(h:q<=p):(aF (p:Int) (q:Int)+2).toNat-1=((p:Int)+1).toNat:=by rw[mx,k8 h]; rfl
theorem Q9{p q:Nat}(h:p<=q):(aF (p:Int) (q:Int)+2).toNat-1=((q:Int)+1).toNat:=by rw[mx,iy h]; rfl
theorem hf:∀a:Nat,a / 2+(a+1) / 2=a
 | 0=>rfl
 | 1=>rfl
 |a+2=>by
  rw[Hj a (by decide:0<2),show a+2+1=a+1+2 from rfl,Hj (a+1) (by decide:0<2)]
  exact(Nat.add_add_add_comm (a / 2) 1 ((a+1) / 2) 1).trans (congrArg (·+2) (hf a))
theorem Ra(u v:Int):aF u v=u\/aF u v=v:=(cT u v).elim (λh=> .inr (dW h)) λh=> .inl (et h)
theorem Rb{u v w x y z:Int}(h1:v=0\/v=1/\w=1)(h2:x=1)(h3:y≠0->z≠0->y<=v/\z<=v)(h4:0<=y/\y<=2)(h5:z≠0/\y≠0/\x<=u/\z<=u/\y<=u/\w<=u/\u<=2/\(u=2->x=2\/z=2\/y=2\/w=2)):u=1:=have k:=h3 h5.2.1 h5.1; have e:v=1/\w=1:=h1.elim (λe=>absurd (aE (e▸k.1) h4.1) h5.2.1) id; have n2:∀{t:Int},t<=1->t≠2:=λh e=>absurd (e▸h) (by decide); have r:=h5.2.2; aE (ij (Qs r.2.2.2.2.1 λq=>(r.2.2.2.2.2 q).elim (n2 (h2▸jd 1)) λq=>q.elim (n2 (e.1▸k.2)) λq=>q.elim (n2 (e.1▸k.1)) (n2 (e.2▸jd 1)))) (h2▸r.1)
theorem Rc{n:Nat}(h1:1<=n)(h2:n<=2):n=1\/n=2:=(fY n 2).elim (λh=> .inl (ar (Hi h) h1)) λh=> .inr (ar h2 h)
theorem MW{a:Nat}(h:a<=1000):((a:Int)).natAbs<1000000:=fI (show(a:Int).natAbs<=1000 from h) (by decide)
theorem bb1{a b c:Nat}{u:Int}(h1:u=(↑b:Int)-(↑c:Int))(h2:a<=4/\b<=4/\c<=4):-4<=u/\u<=4:=⟨(lz [b,c] [u] 0xb8421005004302201141 tt (af h1.symm) h2.2.2),(lz [b,c] [u] 0x5c01085004300114c01 tt (af h1) h2.2.1)⟩
theorem bb2{a b c:Nat}{u v:Int}(h1:v=(↑b:Int)-(↑c:Int)-u-((↑a:Int)-(↑b:Int)))(h2:a<=4/\b<=4/\c<=4)(h3:-4<=u/\u<=4)(h4:u<=(↑b:Int)-(↑c:Int)):-8<=v/\v<=16:=⟨(lz [b,c,a] [u,v] 0xa00860022b882108102430014010c630220a141 tt (af h1.symm) h2.1 h4),(lz [b,c,a] [v,u] 0x914115c0208102430214010c6300117c01 tt (af h1) h2.2.1 h3.1)⟩
theorem bb3{a b c:Nat}{u v w:Int}(h1:w=(↑a:Int)-(↑b:Int)+v-(↑c:Int))(h2:a<=4/\b<=4/\c<=4)(h3:-8<=v/\v<=16)(h4:(↑b:Int)-(↑c:Int)-u-((↑a:Int)-(↑b:Int))<=v):-20<=w/\w<=20:=⟨(lz [a,b,c] [v,w] 0x10a08ae2086e108422400280218b604410d141 tt (af h1.symm) h2.2.1 h2.2.2 h3.1),(lz [a,b,c] [w,v] 0x3e108ae008448085004316c00441a2401 tt (af h1) h2.1 h3.2)⟩
theorem Ze{u v:Int}(h1:u<=50)(h2:v<=50):(aF u v+2).toNat-1<=100:=aP (l7 _ _) (aP (eS (n:=52).mpr (DL (cD.mpr ⟨h1,h2⟩) 2)) (by decide))
theorem Zf{u v:Int}{t:Nat}(h1:u<=50)(h2:v<=50)(h:1<=t/\t<1+((aF u v+2).toNat-1)):0<t/\t<200:=⟨h.1,fH h.2 (aP (cB (Ze h1 h2) 1) (by decide))⟩
section
variable {a b c d e f g i j k l m n o p q r s t:Nat}{u v w x y z u1 v1 w1 x1 y1 z1:Int}
theorem q2:(↑(a+1):Int)-1=(↑a:Int):=(aE (ew 292729397633 tt) (ew 18279926464769 tt))
theorem q3(h1:a+(c+1)<=b):a<b:=(cG 0x2a060080422a0201 tt h1)
theorem q4(h1:a+(b+1)<=c):a+1+b<=c:=(cG 0xa81802010883404201 tt h1)
theorem q5:a+(b+1)=a+1+b:=(ar (aX 0x6808428180201 tt) (aX 0x50300403404201 tt))
theorem q6:0+a<=a:=(aN 19969 tt)
theorem q21(h1:a<b)(h2:b<=16777216)(h3:c=b):(↑a:Int)<2 ^ 63:=(qg 0x110842108421084210841211061084210904210d0100841002161 tt h1 h2 (af rfl))
theorem q23(h1:c=a)(h2:¬b<c):a<=b:=(cG 0x8210840108801 tt (ah h1.symm) (aY h2))
theorem q24(h1:a+(b+1)<9000):a+1+b<9000:=(aX 0xa72c4a940c010804229cb12a068084201 tt h1)
theorem q25(h1:a+(b+1)<9000):a<9900:=(aX 0xa72c4a940c01080422b6b92a0201 tt h1)
theorem q26(h1:c=d)(h2:e=a)(h3:c=e)(h4:¬b<c):a<=b:=(hO 0xc41088210840108c01 tt (ah h2.symm) (ah h3.symm) (aY h4))
theorem q27(h1:b=d)(h2:c=e)(h3:b=c)(h4:a<b):a<min b c:=(Nat.le_min.mpr ⟨(aX 0x68080421a0201 tt h4),(cG 0x2828042100421a0a01 tt (ah h3) h4)⟩)
theorem q28(h1:u≠0):u.natAbs≠0:=by simp[*]
theorem Rd(h1:a<1000000):(↑a:Int)<2 ^ 63:=(j5 0x442108421084210842104844fa4a90950100841002161 tt h1 (af rfl))
theorem Zg(h1:u=-(↑a:Int))(h2:0<a)(h3:a<1000000):u<0:=(Nj 0x87b02110293804210044f80161 tt (af h1) h2 (af (jA _).symm))
theorem Zh(h1:u=-(↑b:Int))(h2:b<=c)(h3:a=c):-(↑a:Int)<=u:=(lz [b,c,a] [(-((b:Nat):Int)),u,(-((a:Nat):Int))] 0x243d820880043d8110821084010840110441 tt (af h1.symm) h2 (ah h3.symm) (af (jA ((b:Nat):Int))) (af (jA ((a:Nat):Int)).symm))
theorem Zi(h1:u=-(↑a:Int))(h2:0<a)(h3:a<1000000):-2 ^ 63<=u:=(lz [a] [(-((a:Nat):Int)),u,(-((2:Int) ^ 63))] 0x88421084210842108420a10440021ec089f495212a02010840110441 tt (af h1.symm) h3 (af (jA ((a:Nat):Int))) (af rfl))
theorem Zj(h1:u=-(↑c:Int))(h2:c<=b)(h3:a=b):(u+(↑a:Int)).toNat=b-c:=(ar (KR 0x200b2202210e01084487b021104010840110c81 tt (af h1) (ah h3) (af (jA _).symm) (uV _ _) (af (aG (Nk 0x21ec088410842008420088480ade1 tt (af h1.symm) h2 (ah h3.symm) (af (jA _)))))) (KR 0x890084680a02b0880243d81104010840110c81 tt (af h1.symm) (ah h3.symm) (af (jA _)) (bz _) (ah (aV (aX 1074824193 tt h2)))))
theorem q39:-2 ^ 63<=(↑a:Int):=by simp[*]
theorem q40(h1:a<1000000):¬(↑a:Int)<0:=(λg1=>(gG 16643271714 tt g1))
theorem Rf(h1:b<1000000)(h2:a=b):(↑a:Int)<2 ^ 63:=(qg 0x44210842108421084210484400842fa4a9095010084100a161 tt h1 (ah h2) (af rfl))
theorem q43(h1:a<1000000):¬(↑a:Int)>=2 ^ 63:=(λg1=>(KP 0x2210842108421084210824220200113e92a425404021 tt h1 g1 (af rfl)))
theorem q44(h1:max u w<=v):u<=v:=(lz [] [(max u w),v,u] 71538050139201 tt h1 (bO u w))
theorem q45(h1:max w u<=v):u<=v:=(lz [] [(max w u),v,u] 71538050139201 tt h1 (br w u))
theorem q46(h1:u<=min v w):u<=v:=(lz [] [u,(min v w),v] 0x8211040110801 tt h1 (KI v w))
theorem q47(h1:u<=min w v):u<=v:=(lz [] [u,(min w v),v] 0x8211040110801 tt h1 (nL w v))
theorem q48(h1:u>v):u=max v u:=(aE (dQ 1074856961 tt (br _ _)) (cD.mpr ⟨(dQ 1649637655553 tt h1),(eI 1 tt)⟩))
theorem q49(h1:¬v>u):u=max u v:=(aE (dQ 1074856961 tt (bO _ _)) (cD.mpr ⟨(eI 1 tt),(dQ 1074856961 tt (ig.mp h1))⟩))
theorem Zk(h1:0<b)(h2:a<=b-1):a<b:=(cG 0xa818042100422a0201 tt h2 (ah (aV (aN 708133814913 tt h1))))
theorem Zl(h1:0<b)(h2:a<b):a<=b-1:=(cG 0x505008421a020108801 tt h2 (uV _ _))
theorem Rg:aF 0 (iz (↑a:Int) (↑b:Int))=(↑(iz a b):Int):=(aE (cD.mpr ⟨(ew 8673 tt),((cT ((a:Nat):Int) ((b:Nat):Int)).elim (λg1=>(qg 0x100420400220a001 tt (KI _ _) (ah (kZ (aX 1374659085313 tt g1)).symm))) λg2=>(qg 0x100420400220a001 tt (nL _ _) (ah (ix (aX 1374659085313 tt g2)).symm)))⟩) ((fB a b).elim (λg3=>(Hy 0xa022080220802108101 tt (kY _ _) (br _ _) (af (KJ (jf 1100620235009 tt g3)).symm))) λg4=>(Hy 0xa022080220802108101 tt (iw _ _) (br _ _) (af (JD (jf 1100620235009 tt g4)).symm))))
theorem q54(h1:a<=b):a<=b-c+c:=(hO 0xc50084210042314001 tt h1 (uV _ _))
theorem q55(h1:iz c b-iz a b=b)(h2:b>0):iz a b=0:=(ar (hO 0x21860108041084010cc61 tt (ah h1.symm) (iw _ _) (ah (aV (hO 0xc21080410840108c41 tt (ah h1.symm) (iw _ _) (l7 _ _))))) (aN 609 tt))
theorem q57(h1:u<1):u.toNat=0:=(ar (aN 20402195457 tt (ah (ft (eI 18142312086529 tt h1)))) (aN 609 tt))
theorem q58(h1:u<=1000)(h2:-1000<=u):-9223372036854775808<=u/\u<9223372036854775808:=⟨(eI 0x3f61411011084210842108421084141 tt h2),(eI 0x1fb09004488421084210842108420980161 tt h1)⟩
theorem q59(h1:u<=1000)(h2:-1000<=u)(h3:¬u<1):0<u:=(eI 550897204577 tt (ig.mp h3))
theorem q60(h1:u<=1000)(h2:-1000<=u)(h3:¬u<1):1000*u<=2 ^ 63-1:=(dQ 0x28842108421084210842090887ec2403f60500b003f61a1 tt h1 (af rfl))
theorem q61(h1:a<=1000)(h2:(2 ^ 63-1) / u>=1000):¬(↑a:Int)>(2 ^ 63-1) / u:=(λg1=>(KP 0x4400b08803f612110fd890021 tt h1 h2 g1))
theorem Zm(h1:u<=1000):u.toNat<=1000:=by simp[*]
theorem q63(h1:a*u.toNat<=1000*1000):a*u.toNat<=2 ^ 24:=by lia
theorem q66(h1:a=(u-v).toNat)(h2:v<u):u-v-1+1=(↑a:Int):=(aE (Hy 0x4040c08820084288402063161 tt (ah h1.symm) (bz _)) (Hy 0x10302808820086100818c58101 tt (ah h1) (af (aG (dQ 0x600584400b1e1 tt h2)))))
theorem q67(h1:a=(u-v).toNat)(h2:¬v<u):0=(↑a:Int):=(aE (ew 8673 tt) (jf 0x984210802178101 tt (ah h1) (ah (ft (dQ 1100668240257 tt (ig.mp h2))))))
theorem q68(h1:-3000000<=u)(h2:u<=3000000):-9223372036854775808<=u/\u<9223372036854775808:=⟨(eI 0x17796e41411011084210842108421084141 tt h1),(eI 0xbbcb7209004488421084210842108420980161 tt h2)⟩
theorem q72(h1:-1000000<=v)(h2:v<=1000000)(h3:-1000000<=u)(h4:u<=1000000):(↑(u-v).toNat:Int)<=3000000:=((cT (0:Int) (u-v)).elim (λg1=>(Nj 0x2c020227d25482421101f49520a0885de5b9048101 tt h1 h4 (af (aG (dQ 0x40c78441031e1 tt g1))))) λg2=>(ew 0x2600845de5b9048101 tt (ah (ft (dQ 0x3c206044f08181 tt g2)))))
theorem q75(h1:-1000000<=u)(h2:u<=1000000)(h3:-1000000<=v)(h4:v<=1000000):(↑(u-v).toNat:Int)<2 ^ 63:=((cT (0:Int) (u-v)).elim (λg1=>(lz [(((u-v):Int).toNat)] [u,v,((2:Int) ^ 63)] 0x40c0202212210842108421084210824220be92a414113e92a41200885002161 tt h2 h3 (af rfl) (af (aG (lz [] [u,v] 0x40c78441031e1 tt g1))))) λg2=>(lz [(((u-v):Int).toNat)] [((2:Int) ^ 63)] 0x26008408842108421084210842090881002161 tt (af rfl) (ah (ft (lz [] [u,v] 0x3c206044f08181 tt g2)))))
theorem q76(h1:-1000000<=v)(h2:u<=1000000):(u-v).toNat<=2 ^ 24:=aP (eS (n:=2000000).mpr (jC h2 h1)) (by decide)
theorem q77:u+((↑a:Int)+1)*1=u+1+(↑a:Int)*1:=(aE (lz [a] [((((a:Nat):Int)+(1:Int))*(1:Int)),(((a:Nat):Int)*(1:Int)),u] 0x10202d08a0042c2d004418096b00961 tt (af (lr (((a:Nat):Int)+(1:Int)) 1)) (af (lr 1 ((a:Nat):Int)))) (lz [a] [(((a:Nat):Int)*(1:Int)),((((a:Nat):Int)+(1:Int))*(1:Int)),u] 0x18010b0b4220202d0044112c1012d61 tt (af (lr ((a:Nat):Int) 1)) (af (lr 1 (((a:Nat):Int)+(1:Int))))))
theorem Zn(h1:a<b)(h2:a=b+1):False:=(lK 0x50300843404021 tt h1 (ah h2.symm))
theorem Zo(h1:a<b)(h2:a=b):False:=(lK 1134999650337 tt h1 (ah h2.symm))
theorem Zp(h1:a+(b+1)=c):a+1+b=c:=(ar (cG 0xa81802010883404201 tt (ah h1)) (cG 0x50500c00108a8184001 tt (ah h1.symm)))
theorem Rh(h1:b<a):¬(a<=b/\b<a+5):=(λg1=>(lK 1134999650337 tt h1 g1.1))
theorem q85(h1:a+2=a+4):False:=(gG 722115510305 tt (ah h1.symm))
theorem q86(h1:a+3=a+4):False:=(gG 756475248673 tt (ah h1.symm))
theorem q87(h1:a+2=a):False:=(gG 22036513 tt (ah h1))
theorem q88(h1:a+1=a+4):False:=(gG 687755771937 tt (ah h1.symm))
theorem q89(h1:a+2=a+1):False:=(gG 687753674785 tt (ah h1))
theorem q90(h1:a+3=a+1):False:=(gG 687754723361 tt (ah h1))
theorem q91(h1:a=a+1):False:=(gG 20987937 tt (ah h1.symm))
theorem Zq(h1:a<b)(h2:a=b+4):False:=(lK 0x5c300843404021 tt h1 (ah h2.symm))
theorem Ri(h1:d<=1000)(h2:a<=1000*d)(h3:b*c<=1000*10):¬a+b*c>16777216:=(λg1=>(zX 0x106140c210842128043d1fb11104201fb1108423f62401fb01 tt h1 h2 h3 g1))
theorem Rj(h1:a<=1000):¬a>16777216:=(λg1=>(gG 0x50308421084a0108fd890021 tt h1 g1))
theorem Rk(h1:a<1000000):(↑a:Int)<2 ^ 63-1:=(j5 0x1108421084210842108412113e92a4254040218019002161 tt h1 (af rfl))
theorem Rl(h1:-1000000<=u)(h2:u<=1000):-9223372036854775808<=u/\u<9223372036854775808:=⟨(eI 0x3e92a41411011084210842108421084141 tt h1),(eI 0x1fb09004488421084210842108420980161 tt h2)⟩
theorem Rn(h1:a*u.toNat<=2 ^ 24):¬a*u.toNat>(2 ^ 63-1) / 8:=by lia
theorem Rp(h1:¬v<=u):u<=v:=(dQ 1649637655553 tt (ja.mp h1))
theorem Rq(h1:w>v)(h2:u>w):u=aF (aF v w) u:=(aE (lz [] [u,(max (max v w) u)] 1074856961 tt (br (max v w) u)) (cD.mpr ⟨(cD.mpr ⟨(lz [] [v,w,u] 0xa01584418016110801 tt h1 h2),(lz [] [w,u] 1649637655553 tt h2)⟩),(lz [] [u] 1 tt)⟩))
theorem Rr(h1:u>v)(h2:¬w>u):u=aF (aF v u) w:=(aE (lz [] [u,(max v u),(max (max v u) w)] 0x8211040110801 tt (br v u) (bO (max v u) w)) (cD.mpr ⟨(cD.mpr ⟨(lz [] [v,u] 1649637655553 tt h1),(lz [] [u] 1 tt)⟩),(lz [] [w,u] 1074856961 tt (ig.mp h2))⟩))
theorem Rt(h1:¬w>v)(h2:u>v):u=aF (aF v w) u:=(aE (lz [] [u,(max (max v w) u)] 1074856961 tt (br (max v w) u)) (cD.mpr ⟨(cD.mpr ⟨(lz [] [v,u] 1649637655553 tt h2),(lz [] [w,v,u] 0x2805611040110801 tt (ig.mp h1) h2)⟩),(lz [] [u] 1 tt)⟩))
theorem Ru(h1:¬v>u)(h2:¬w>u):u=aF (aF u v) w:=(aE (lz [] [u,(max u v),(max (max u v) w)] 0x8211040110801 tt (bO u v) (bO (max u v) w)) (cD.mpr ⟨(cD.mpr ⟨(lz [] [u] 1 tt),(lz [] [v,u] 1074856961 tt (ig.mp h1))⟩),(lz [] [w,u] 1074856961 tt (ig.mp h2))⟩))
theorem Rv(h1:¬a>=b):a<b:=(aX 0x68080421a0201 tt (gx h1))
theorem Rw(h1:a<c)(h2:c<b)(h3:b<a):a<b:=(cG 0x2a06010868080422a0201 tt h1 h2)
theorem Rx(h1:a<b):a<=b\/c<a:=(.inl (aX 1787244348417 tt h1))
theorem Ry(h1:a<b):a<=b\/b<c:=(.inl (aX 1787244348417 tt h1))
theorem Rz(h1:b<a)(h2:c<b)(h3:a<c):a<b\/b<c:=(.inl (cG 0xa0a010868080421a0a01 tt h2 h3))
theorem RA(h1:a<b)(h2:c<b):((a<=b\/c<=a)\/b<c)/\((b<a\/a<c)\/c<=b):=⟨(.inl (.inl (aX 1787244348417 tt h1))),(.inr (aX 1787244348417 tt h2))⟩
theorem RB(h1:2<=a)(h2:a<=4):a=2\/a=3\/a=4:=(cE λg6=>((bj (λe_=>g6 (.inl e_))).elim (λg7=>(gG 760879260914721 tt h1 g7)) λg8=>((bj (λe_=>g6 (.inr (.inl e_)))).elim (λg9=>(gG 0xb501008414ac021 tt g8 g9)) λDO=>((bj (λe_=>g6 (.inr (.inr e_)))).elim (λCI=>(gG 0xbd01008414b4021 tt DO CI)) λHz=>(gG 22797721763873 tt h2 Hz)))))
theorem RC(h1:1<=a)(h2:a<=4)(h3:b=a)(h4:¬b<2):2<=a:=(aX 740006760056481 tt (ah h3) (aY h4))
theorem RD(h1:c=b)(h2:a<c):a<b:=(cG 0x2828042100421a0a01 tt (ah h1) h2)
theorem Nn(h1:c=a)(h2:¬b<a):a<=b:=(aX 1074824193 tt (aY h2))
theorem RE(h1:a<b)(h2:b<a):¬a<b:=(λg1=>(lK 0x50300843404021 tt h2 g1))
theorem RF(h1:0<a)(h2:a<1000):(↑a:Int)≠0:=(λg1=>(gG 0x3c08088149c021 tt h1 (af g1)))
theorem Np(h1:0<a)(h2:a<1000):(↑a:Int).natAbs<1000000:=(aX 0x2108fd895010085f495212a0601 tt h2 (ah (jb _)))
theorem RG(h1:b<=100)(h2:a<=102*b):13+a<=1000000:=(aX 0x35a21084d4900d60be92a42416ca01 tt h1 h2)
theorem RH(h1:b<=100)(h2:a<=102*b):12+a<=1000000:=(aX 0x1ad108426a4806b05f4952120fe01 tt h1 h2)
theorem RI:0<=aF 0 (iz u (↑a:Int)):=(eI 504431073 tt (bO _ _))
theorem RJ:aF 0 (iz u (↑a:Int))<=(↑a:Int):=(cD.mpr ⟨(ew 8673 tt),(j5 274913566721 tt (nL _ _))⟩)
theorem RK:aF (-1) (iz u ((↑a:Int)-1))<=(↑a:Int)-1:=(cD.mpr ⟨(ew 17188652353 tt),(j5 0x100218008a0043001 tt (nL _ _))⟩)
theorem RL:-1<=aF (-1) (iz u ((↑a:Int)-1)):=(eI 45132809537 tt (bO _ _))
theorem RM(h1:0<=u)(h2:u<3):u=(↑u.toNat:Int):=(aE (j5 274913566721 tt (bz _)) (j5 8625586433 tt (af (aG (eI 504431073 tt h1)))))
theorem RN(h1:0<=u)(h2:u<3):u.toNat<3:=(Hw 0x10114a0058456a0201 tt h2 (af (aG (eI 504431073 tt h1))))
theorem D9(h1:a<4):a<1000000:=(aN 0xbd010085f495212a0201 tt h1)
theorem HA(h1:a<3):a=0\/a=1\/a=2:=(cE λg6=>((bj (λe_=>g6 (.inl e_))).elim (λg7=>(gG 658522145 tt g7)) λg8=>((bj (λe_=>g6 (.inr (.inl e_)))).elim (λg9=>(gG 0xa5010084149c021 tt g8 g9)) λDO=>((bj (λe_=>g6 (.inr (.inr e_)))).elim (λCI=>(gG 0xad01008414a4021 tt DO CI)) λHz=>(gG 0x52b0086d404021 tt h1 Hz)))))
theorem RO(h1:c<=a/\a<c+(b-c)):a<b:=((fB c b).elim (λg1=>(hO 0xc22804220c28080423a0201 tt h1.2 (ah (aV (aX 1074824193 tt g1))))) λg2=>(zX 0x98821102140c02108021 tt h1.1 h1.2 (ah (fK (aX 1074824193 tt g2)))).elim)
theorem RP(h1:0<a)(h2:a<=1000):(↑a:Int).natAbs<1000000:=(aX 0x8423f6240085f495212a0601 tt h2 (ah (jb _)))
theorem RQ(h1:a<=100)(h2:0<=u)(h3:u<=100):0<=aF ((↑a:Int)-1) u/\aF ((↑a:Int)-1) u<=100:=⟨(dQ 0x401101e1105e1 tt h2 (br _ _)),(cD.mpr ⟨(ew 0xd4900213513002181 tt h1),(eI 7468983635289089 tt h3)⟩)⟩
theorem RR(h1:0<=u/\u<=100)(h2:0<=v/\v<=100):(aF u v+2).toNat-a=(aF u v+1+1-(↑a:Int)).toNat:=((congrArg (λx:Int=>(x-a).toNat) (zx _ 1 1)).trans (Int.toNat_sub' _ a)).symm
theorem RS(h1:a=1\/a=2):(↑a:Int)<=1000000:=(h1.elim (λg1=>(ew 0x140042fa4a9048101 tt (ah g1))) λg2=>(ew 0x150042fa4a9048101 tt (ah g2)))
theorem RT(h1:0<=u/\u<=100)(h2:0<=v/\v<=100):-1000000<=aF u v+1+1:=(dQ 0x802203c228402b5be92a4141 tt h1.1 (bO _ _))
theorem RU(h1:0<=u/\u<=100)(h2:0<=v/\v<=100):aF u v+1+1<=1000000:=((cT u v).elim (λg1=>(dQ 0x1088d4480227d254826100ad61 tt h2.2 (af (dW (dQ 1074856961 tt g1))))) λg2=>(dQ 0x1088d4480227d254826100ad61 tt h1.2 (af (et (dQ 1074856961 tt g2)))))
theorem RV(h1:b=1\/b=2)(h2:0<=u/\u<=100)(h3:0<=v/\v<=100)(h4:b<=a/\a<b+((aF u v+2).toNat-b)):0<a/\a<=1000:=have k:0<b/\b<=2:=h1.elim (λe=>by subst e; decide) (λe=>by subst e; decide); ⟨fH k.1 h4.1,Bh (fH h4.2 (aP (ie k.2 (aP (l7 _ _) (eS (n:=102).mpr (DL (cD.mpr ⟨h2.2,h3.2⟩) 2)))) (by decide)))⟩
theorem Nq(h1:0<=u/\u<=100)(h2:0<=v/\v<=100):aF u v+2<=1001:=((cT u v).elim (λg1=>(dQ 0x1088d4480221fb2988561 tt h2.2 (af (dW (dQ 1074856961 tt g1))))) λg2=>(dQ 0x1088d4480221fb2988561 tt h1.2 (af (et (dQ 1074856961 tt g2)))))
theorem RW(h1:v<=u):¬u<v:=(λg1=>(zW 17638392627234 tt h1 g1))
theorem RX(h1:¬v<=u):u<v:=(dQ 0x6005844180161 tt (ja.mp h1))
theorem RY(h1:a<=b):a+(b-a+1)=aF a (b+1):=(ar (hO 0x6280421a02010868280e01 tt (eO _ _) (ah (aV (aX 1074824193 tt h1)))) (i7.mpr ⟨(aX 21525184513 tt),(cG 0x830004340c050a0201 tt (uV _ _))⟩))
theorem RZ(h1:¬a<=b):a=aF a (b+1):=(ar (aX 1074824193 tt (df _ _)) (i7.mpr ⟨(aN 1 tt),(aX 0x68080421a0201 tt (gx h1))⟩))
theorem R0:(↑a:Int)<=1↔a<=1:=⟨λg1=>(aN 550025383937 tt g1),λg2=>(ew 687229894913 tt g2)⟩
theorem R4(h1:b<=a):((↑a:Int)-(↑b:Int)+1).toNat=a-b+1:=(ar (hO 0x2024010c58d0110830004340c061 tt (uV _ _) (af (aG (jf 0x1004300202862de1 tt h1)))) (hO 0x11c021122014010c58442a0e01 tt (bz _) (ah (aV (aX 1074824193 tt h1)))))
theorem Nr(h1:c<=1000)(h2:b+(d+1)<=c)(h3:a<=b):a+(b-a+1)<=1000000:=(wU 0x48108461082828060208fd8900417d25484a8480e01 tt h1 h2 h3 (l7 _ _))
theorem R5(h1:b<=a):a<b+(a-b+1):=(cG 0x830004340c050a0201 tt (uV _ _))
theorem R6(h1:a<=c)(h2:b+(d+1)<=c):aF a (b+1)<=c:=(i7.mpr ⟨(aX 1074824193 tt h1),(cG 0x2a060080422a0201 tt h2)⟩)
theorem R7(h1:¬b<=a):a<b:=(aX 0x68080421a0201 tt (gx h1))
theorem R8(h1:a<=c)(h2:¬a<=b):aF a (b+1)<=c:=(i7.mpr ⟨(aX 1074824193 tt h1),(cG 0x2828042100421a0a01 tt h1 (gx h2))⟩)
theorem R9(h1:32<=a/\a<127):¬a=127:=(λg1=>(gG 0x7fc8213fe5404021 tt h1.2 (ah g1.symm)))
theorem Sa(h1:a<=1000):iz a b<=100000:=(aX 0x2108fd8900210e2da84821 tt h1 (kY _ _))
theorem Nt(h1:(↑a:Int)=27):a=27:=(ar (aN 0xed2040441dc801 tt (af h1)) (aN 9072380819336769 tt (af h1.symm)))
theorem Nu(h1:¬(↑a:Int)=27):¬a=27:=(λg1=>((cy h1).elim (λg2=>(gG 0x7698010b08801dc821 tt (ah g1.symm) g2)) λg3=>(gG 0x1100ed2b0883b90021 tt (ah g1) g3)))
theorem Sb(h1:-1<=u/\u<8):7<=256+u/\256+u<264:=⟨(eI 0xa822006104aec1 tt h1.1),(eI 0x5e005844186130006104ad61 tt h1.2)⟩
theorem Sd(h1:¬b<a):a<=b:=(aX 1074824193 tt (aY h1))
theorem Se:a-0<=a:=by simp[*]
theorem Sf(h1:a<b)(h2:b-a=0):False:=(zX 0xa01086620843404021 tt h1 (ah h2) (uV _ _))
theorem Sh(h1:b-c<=a)(h2:c<b):a=a-1+1:=(ar (aX 0x5030004340c001 tt (uV _ _)) (aX 0x68080421a0201 tt (ah (aV (hO 0x81018423a0a010840108681 tt h1 h2 (uV _ _))))))
theorem Si(h1:b<a)(h2:0<c/\c<=3)(h3:a-b<=d+1):a-(b+c)<=d:=((fB (b+c) a).elim (λg1=>(KS 0x301205804240c0610d05008420a4e01088a1 tt h2.1 h3 (uV _ _) (ah (aV (cG 0x8208042208201 tt g1))))) λg2=>(aX 20402177025 tt (ah (fK (cG 0x830004220c001 tt g2)))))
theorem Sj:¬(u<256↔256<=u):=by omega
theorem Sk(h1:7<=u/\u<264)(h2:¬u<256):u-256=(↑(u-256).toNat:Int):=(aE (j5 0x10184120604404061048181 tt (bz _)) (j5 0x61048180404418412060101 tt (af (aG (eI 0x30824220c209031e1 tt (ig.mp h2))))))
theorem Sl(h1:7<=u/\u<264)(h2:¬u<256):(u-256).toNat<8:=(Hw 0xc2090300808830c26005845ba0201 tt h1.2 (af (aG (eI 0x30824220c209031e1 tt (ig.mp h2)))))
theorem Sm(h1:a<=b-1)(h2:0<b):a+1<=b:=(cG 0xa818042100422a0201 tt h1 (ah (aV (aN 708133814913 tt h2))))
theorem Sn(h1:b+a=8)(h2:c<=8)(h3:b<c):a=a-1+1:=(ar (aX 0x5030004340c001 tt (uV _ _)) (aX 0x68080421a0201 tt (ah (aV (cG 0xa808043b104210436108681 tt (ah h1.symm) h2 h3)))))
theorem So(h1:a+(b+1)=8):a+1+b=8:=(ar (aX 0x6e81802010ec3404201 tt (ah h1)) (aX 0x5030043610868084361 tt (ah h1.symm)))
theorem Sp(h1:b<=a)(h2:¬b<a):a<=b:=(aX 1074824193 tt (aY h2))
theorem Sq(h1:a+(b+1)<=c):a+b<c:=(cG 0xa818020108a8104201 tt h1)
theorem Sr:¬(↑a:Int)<0:=(λg1=>(gG 16643271714 tt g1))
theorem Ss:iz a b+(b-iz a b)<=b:=(cG 0x8208042200601 tt (ah (aV (aX 1074824193 tt (iw _ _)))))
theorem Su:0+(iz a b-0)<=b:=(cG 73219778936917505 tt (iw _ _) (l7 _ _))
theorem Nv(h1:(↑a:Int)=(↑b:Int)):a=b:=(ar (aX 1374659085313 tt (af h1)) (aX 1374659085313 tt (af h1.symm)))
theorem Nw(h1:c<b)(h2:a<c):a<b:=(cG 0xa0a010868080421a0a01 tt h1 h2)
theorem Sv(h1:(↑a:Int)-(↑b:Int)=u)(h2:c<=10/\a<=10/\b<=10):-10<=(↑a:Int)-(↑b:Int)/\(↑a:Int)-(↑b:Int)<=10:=⟨(jf 0xe80210202862941 tt h2.2.2),(jf 0x74010e42802181 tt h2.2.1)⟩
theorem Sw(h1:(↑a:Int)-(↑b:Int)-u-((↑c:Int)-(↑a:Int))=v)(h2:c<=10/\a<=10/\b<=10)(h3:-10<=u/\u<=10):-30<=(↑a:Int)-(↑b:Int)-u-((↑c:Int)-(↑a:Int))/\(↑a:Int)-(↑b:Int)-u-((↑c:Int)-(↑a:Int))<=30:=⟨(CG 0x190045d0843d004224010c005024318c0f941 tt h2.1 h2.2.2 h3.2),(CG 0xa5045d00821f2408121800a00863181 tt h2.2.1 h3.1)⟩
theorem Sx(h1:(↑a:Int)-(↑b:Int)+u-(↑c:Int)=v)(h2:a<=10/\b<=10/\c<=10)(h3:-30<=u/\u<=30):-50<=(↑a:Int)-(↑b:Int)+u-(↑c:Int)/\(↑a:Int)-(↑b:Int)+u-(↑c:Int)<=50:=⟨(CG 0x7ca08ba1087a008428001024316c1c941 tt h2.2.1 h2.2.2 h3.1),(CG 0xf92008ba008472489000a00862d81 tt h2.1 h3.2)⟩
theorem Sy(h1:c<=10/\a<=10/\b<=10)(h2:-10<=u/\u<=10)(h3:-30<=v/\v<=30)(h4:-50<=w/\w<=50):-100<=(↑a:Int)-(↑b:Int)-u/\(↑a:Int)-(↑b:Int)-u<=100/\-100<=(↑c:Int)-(↑a:Int)+v/\(↑c:Int)-(↑a:Int)+v<=100/\-100<=(↑b:Int)+w/\(↑b:Int)+w<=100:=⟨(qg 0x640117401080080a18c35141 tt h1.2.2 h2.2),⟨(qg 0x29411740109a890050043181 tt h1.2.1 h2.1),⟨(qg 0xf94117401080080a18b35141 tt h1.2.1 h3.1),⟨(qg 0x1f24011740109a890050043161 tt h1.1 h3.2),⟨(j5 0x3928220010b35141 tt h4.1),(j5 0x7248022e80213512002161 tt h1.2.2 h4.2)⟩⟩⟩⟩⟩
theorem Sz(h1:-100<=u/\u<=100/\-100<=v/\v<=100/\-100<=w/\w<=100):u.toNat+(v-u).toNat+(w-v).toNat<=500:=have t:=h1.2.1; have t2:=h1.2.2.2.1; have t3:=h1.2.2.2.2.2; aP (ie (ie (eS.mpr t) (eS (n:=200).mpr (jC t2 h1.1))) (eS (n:=200).mpr (jC t3 h1.2.2.1))) (by decide)
theorem SA(h1:(u.toNat≠0/\a=2\/(v-u).toNat≠0/\a=1)\/(w-v).toNat≠0/\a=0):a<=2:=(h1.elim (λg1=>(g1.elim (λg3=>(aN 22549681153 tt (ah g3.2))) λg4=>(aN 21475939329 tt (ah g4.2)))) λg2=>(aN 20402197505 tt (ah g2.2)))
theorem SD(h1:a+1<=b):a<=b-1:=(cG 0x505008421a020108801 tt h1 (uV _ _))
theorem SE(h1:d+1<=c)(h2:a<=2)(h3:b<=3*(c-1)):a+(0+1)+b<=3*c:=(hO 0xe8280c221c4210d40108c710d27004201 tt h2 h3 (ah (aV (aX 1787244349057 tt h1))))
theorem SG:(↑a:Int)=1↔a=1:=⟨λg1=>(ar (aN 550025383937 tt (af g1)) (aN 9127920257 tt (af g1.symm))),λg2=>(aE (ew 687229894913 tt (ah g2)) (ew 21509448193 tt (ah g2.symm)))⟩
theorem SH(h1:a<=10/\b<=10/\c<=10):(↑(a / 2):Int)<=1000:=(jf 0x8a210f40108fd848502 tt h1.1 (fG _ 2))
theorem SI(h1:b % 3<3)(h2:a<=10/\c<=10/\d<=10):(↑((a+1) / 2+b % 3):Int)<=1000:=(KU 0x503010a210f4210da8080823f612014102 tt h1 h2.1 (fG _ 2))
theorem SJ(h1:b % 3<3)(h2:a<=10/\c<=10/\d<=10):a / 2+((a+1) / 2+b % 3)<=1000000:=(hO 0xa02031442100851086d40c041e80417d2548482380a02 tt h2.1 (dR _ (by decide:0<3)) (fG _ 2) (fG _ 2))
theorem SK(h1:-100<=u/\u<=100/\-100<=v/\v<=100/\-100<=w/\w<=100):u.toNat+(v-u).toNat<=1000000:=aP (ie (eS.mpr h1.2.1) (eS (n:=200).mpr (jC h1.2.2.2.1 h1.1))) (by decide)
theorem SM(h1:-100<=u/\u<=100/\-100<=v/\v<=100/\-100<=w/\w<=100):u.toNat+(v-u).toNat+(w-v).toNat<=1000000:=have t:=h1.2.1; have t2:=h1.2.2.2.1; have t3:=h1.2.2.2.2.2; aP (ie (ie (eS.mpr t) (eS (n:=200).mpr (jC t2 h1.1))) (eS (n:=200).mpr (jC t3 h1.2.2.1))) (by decide)
theorem SN(h1:b<4)(h2:a<=500):a-b+iz b a<=500:=((fB b a).elim (λg1=>(hO 0x10e0108821087f4900210fe9208e01 tt h2 (kY _ _) (ah (aV (aX 1074824193 tt g1))))) λg2=>(cG 0x26208401086f4040210fe9208a01 tt h1 (kY _ _) (ah (fK (aX 1074824193 tt g2)))))
theorem SO(h1:a<=500):a-b+iz b a<=1000000:=(cG 0x1042008421fd240105f49521210601 tt h1 (l7 _ _) (iw _ _))
theorem SP(h1:b % 3<3)(h2:a<=3*500):a+(↑(b % 3):Int).toNat<=1000000:=(cG 0x50240456a0601087f490e20085f49521210201 tt h2 (dR _ (by decide:0<3)) (af (aG (ew 8673 tt))))
theorem SQ(h1:0<a):(↑a:Int)≠0:=by lia
theorem SR(h1:b+1<=a)(h2:c=b+1)(h3:d=b):a-b=a-(b+1)+1:=(ar (hO 0x438043414030004340c061 tt (uV _ _) (ah (aV (aX 1787244348417 tt h1)))) (hO 0x28280e010883000421a0e01 tt (uV _ _) (ah (aV (aX 0x68080421a0201 tt h1)))))
theorem Ny(h1:b+1<=a)(h2:c=b+1)(h3:d=b):a-(b+1)<=a:=(aX 1074824193 tt (l7 _ _))
theorem SS(h1:a<=b*c)(h2:b*c<=4*1000):a<=100000:=(aX 0x3f624488421080210e2da84801 tt h1 h2)
theorem SU(h1:b=4)(h2:a<4):a<b:=(aX 0x5e8180420b8420a0601 tt (ah h1.symm) h2)
theorem SV(h1:(↑a:Int)=21):a=21:=(ar (aN 0xd52040441ac801 tt (af h1)) (aN 9065783749563969 tt (af h1.symm)))
theorem SW(h1:¬(↑a:Int)=21):¬a=21:=(λg1=>((cy h1).elim (λg2=>(gG 0x6a98010b08801ac821 tt (ah g1.symm) g2)) λg3=>(gG 0x1100d52b0883590021 tt (ah g1) g3)))
theorem HB(h1:c<=b)(h2:a<c):a<b:=(cG 0x2828042100421a0a01 tt h1 h2)
theorem SX(h1:a<200):(↑a:Int).natAbs<1000000:=(aX 0x10859895010085f495212a0601 tt h1 (ah (jb _)))
theorem SY(h1:b<=100)(h2:a<b):a<1000000:=(aX 0x140c02135240085f495212a0601 tt h1 h2)
theorem Ta(h1:0<u):¬u<=0:=(λg1=>(je 527802105834530 tt h1 g1))
theorem Tb:(↑(a+1):Int)+1=(↑a:Int)+1+1:=by simp[*]
theorem Tc(h1:b-a=0)(h2:a<=b):a=b:=(ar (aX 1074824193 tt h2) (cG 0x2040210cc0108821 tt (ah h1) (uV _ _)))
theorem Td(h1:a<=100000)(h2:0<a):a=a-1+1:=(ar (aX 0x5030004340c001 tt (uV _ _)) (aX 0x68080421a0201 tt (ah (aV (aN 708133814913 tt h2)))))
theorem Te(h1:b-a=c+1)(h2:a<=b):a<b:=(hO 0x3106010868080423a0a01 tt (ah h1.symm) (ah (aV (aX 1074824193 tt h2))))
theorem Tf(h1:a-b=c+1)(h2:b<a):a-(b+1)=c:=(ar (wU 0xa838120108c10104340c00108481 tt (ah h1) (uV _ _) (ah (aV (aX 0x68080421a0201 tt h2)))) (wU 0x881804342407010421a020108c01 tt (ah h1.symm) (uV _ _) (ah (aV (aX 1787244348417 tt h2)))))
theorem Tg:(↑a:Int)-(↑(b+1):Int)=(↑a:Int)-(↑b:Int)-1:=(aE (jf 0x40280218ca060802181 tt) (jf 0x50304010c8050043181 tt))
theorem Th(h1:a<b+1)(h2:a>=b):a=b:=(ar (aX 0x5030a020108401 tt h1) (aX 1074824193 tt h2))
theorem Ti:0+a=a:=(ar (aN 19969 tt) (aN 638977 tt))
theorem Tj(h1:a<4):u.toNat % 2*4+a<8:=(cG 0x1244410d68181037a02010ee8014201 tt h1 (dR _ (by decide:0<2)) (ah (dO _ 4)))
theorem Tn(h1:a<4)(h2:u<4):u.toNat / 2*4+a<8:=fH (qV h1 _) (Nat.add_le_add_right (Nat.mul_le_mul_right 4 (DF (c:=2) (eS (n:=3).mpr (ij (show u<3+1 from h2))))) 4)
theorem Tp(h1:u=(↑(a % 4):Int)):a % 4<4:=(aN 0x5e8080437a0201 tt (dR _ (by decide:0<4)))
theorem Tq:a / 16 % 3<3:=(aN 0x5a8080436a0201 tt (dR _ (by decide:0<3)))
theorem Tr(h1:u=(↑(a / 4 % 4):Int)):a / 4 % 4<4:=(aN 0x5e8080437a0201 tt (dR _ (by decide:0<4)))
theorem Ts(h1:0<=(↑a:Int)/\(↑a:Int)<192)(h2:u=(↑(a % 4):Int))(h3:v=(↑(a / 4 % 4):Int)):(↑(a / 48):Int)<4:=(jf 0x2384421641300216114e0142c70 tt h1.2 (fG _ 48))
theorem Tt:(↑(a / 16 % 3):Int)=0↔a / 16 % 3=0:=⟨λg1=>(ar (aN 515665644545 tt (af g1)) (aN 609 tt)),λg2=>(aE (ew 652870123777 tt (ah g2)) (ew 8673 tt))⟩
theorem Tu:(↑(a / 16 % 3):Int)=1↔a / 16 % 3=1:=⟨λg1=>(ar (aN 550025383937 tt (af g1)) (aN 9127920257 tt (af g1.symm))),λg2=>(aE (ew 687229894913 tt (ah g2)) (ew 21509448193 tt (ah g2.symm)))⟩
theorem Tv(h1:u=(↑a:Int)/\a<8/\b=c):¬256+(↑a:Int)=13:=(λg1=>(gG 985438924090402 tt (af g1)))
theorem Tw(h1:u=(↑a:Int)/\a<8/\b=c):¬256+(↑a:Int)<256:=(λg1=>(gG 0x6104c0080c2095ac22 tt g1))
theorem Tx(h1:u=(↑a:Int)/\a<8/\b=c):(256+(↑a:Int)-256).toNat=a:=(ar (aX 0x610485018412b6010110401 tt (af (aG (ew 0x30824080c2095b1e1 tt)))) (aX 0x50184120406104ad8110401 tt (bz _)))
theorem Tz(h1:4<=a):a=a-4+1+3:=(ar (aX 0x170c0010da8184001 tt (uV _ _)) (aX 0x1b8201086d404201 tt (ah (aV (aN 772834017 tt h1)))))
theorem TA(h1:4*(b+1+1)<=a):a=a-4+1+3:=(ar (aX 0x170c0010da8184001 tt (uV _ _)) (aX 0x1b8201086d404201 tt (ah (aV (aX 0x1a501081221086e2 tt h1)))))
theorem TB(h1:a<=b)(h2:3<=a):a<=b+1/\3<=a:=⟨(aX 1100639944705 tt h1),(aN 739279553 tt h2)⟩
theorem TC(h1:a<=c)(h2:3<=a)(h3:b<=(c+1)*(d+1)/\4*(d+1)<=b+1)(h4:(c+1)*(d+1+1)=(c+1)*(d+1)+(c+1)):a+(0+1)+b<=(c+1)*(d+1+1)/\4*(d+1+1)<=a+(0+1)+b+1:=⟨(wU 0x4a06038042310421004241527004201 tt h1 h3.1 (ah h4.symm)),(cG 0x5050a060488420b04341527004210a503081221 tt h2 h3.2)⟩
theorem TF(h1:b=5)(h2:a<=(4+1)*b/\4*b<=a+1):a<=1000:=by lia
theorem TG(h1:0<a):a-1<a:=(aX 0x68080421a0201 tt (ah (aV (aN 708133814913 tt h1))))
theorem TH(h1:b<=100)(h2:a<=b):0<=(↑a:Int)/\(↑a:Int)<=100:=⟨(ew 8673 tt),(jf 0x42135240084d448501 tt h1 h2)⟩
theorem TJ:a=((↑a:Int)+1-(↑1:Int)).toNat:=by simp[*]
theorem HC(h1:0<=u/\u<=100):(u+1).toNat<=100000:=(Hw 0x1002c08088d4480220e2da84801 tt h1.2 (af (aG (eI 516553715169 tt h1.1))))
theorem Nz(h1:0<=u/\u<=100):u+2=(↑(u+1).toNat:Int)+1:=(aE (j5 0x11002c228010b88161 tt (bz _)) (j5 0x400b020228817002161 tt (af (aG (eI 516553715169 tt h1.1)))))
theorem NA(h1:0<=u/\u<=100)(h2:1<=a/\a<1+(u+1).toNat):a<1000:=(Nh 0x1002c280883485010084d4480221fb12a0201 tt h1.2 h2.2 (af (aG (eI 516553715169 tt h1.1))))
theorem TK(h1:1<=a/\a<1+(u+1).toNat):(↑a:Int)-1=(↑(a-1):Int):=(aE (jf 0x140c0010851002181 tt (uV _ _)) (jf 0x1a02010c02860101 tt (ah (aV (aN 672170625 tt h1.1)))))
theorem TL(h1:0<=u/\u<=100)(h2:1<=a/\a<1+(u+1).toNat):a-1<1000000:=(Q6 0xa0a010c00b0a0220d2140402135120089f495212a0a01 tt h1.2 h2.2 (af (aG (eI 516553715169 tt h1.1))) (ah (aV (aN 672170625 tt h2.1))))
theorem TM(h1:0<=v/\v<=100)(h2:v<=u)(h3:1<=a/\a<1+(v+1).toNat):a-1<(u+1).toNat:=(Q7 0xa0e010c00b0a0221220158441a42808042100442a0e01 tt h2 h3.2 (bz _) (af (aG (eI 516553715169 tt h1.1))) (ah (aV (aN 672170625 tt h3.1))))
theorem TN(h1:1<=a/\a<1+(u+1).toNat):1+1*(a-1)=a:=(ar (aX 0x1a0201084018d201 tt (ah (aV (aN 672170625 tt h1.1)))) (aX 0x140c00108431a4001 tt (uV _ _)))
theorem TP(h1:u<=60)(h2:1<=a/\a<1+(u+1).toNat):0<a/\a<200:=⟨(aN 688302738945 tt h2.1),((cT (0:Int) (u+(1:Int))).elim (λg1=>(Nh 0x8016140441a428080423e240113312a0201 tt h1 h2.2 (af (aG (eI 0x400b7845002de1 tt g1))))) λg2=>(aX 0x4c2108690a02010b312a0201 tt h2.2 (ah (ft (eI 0x3e005844f80161 tt g2)))))⟩
theorem TQ(h1:v<=u):u<=v↔u=v:=⟨λg1=>(aE (dQ 1074856961 tt g1) (dQ 1074856961 tt h1)),λg2=>(dQ 1074856961 tt (af g2))⟩
theorem TR(h1:u<=60):(u+1).toNat<=61:=((cT (0:Int) (u+(1:Int))).elim (λg1=>(Hw 0x2005810110f8900443ec801 tt h1 (af (aG (eI 0x400b7845002de1 tt g1))))) λg2=>(aN 20891832338433 tt (ah (ft (eI 0x3e005844f80161 tt g2)))))
theorem NB(h1:0<a/\a<200):(↑a:Int).natAbs<1000000:=(aX 0x10859895010085f495212a0601 tt h1.2 (ah (jb _)))
theorem TS:(↑(1+a):Int)=(↑a:Int)+1:=(aE (ew 17601145749761 tt) (ew 704659857761 tt))
theorem NC:(aF u v+2).toNat-1=(aF u v+1).toNat:=(Int.toNat_sub' _ 1).symm.trans (congrArg zP (Int.add_sub_assoc _ 2 1))
theorem TU(h1:0<=w/\w<=100)(h2:u<=w)(h3:v<=w):(aF u v+1).toNat<=(w+1).toNat:=((cT (0:Int) ((max u v)+(1:Int))).elim (λg1=>((cT u v).elim (λg3=>(ln [(((w+(1:Int)):Int).toNat),((((max u v)+(1:Int)):Int).toNat)] [v,w,(max u v)] 0x1012c280880208808805611040110021 tt h3 (bz (w+(1:Int))) (af (dW (lz [] [u,v] 1074856961 tt g3))) (af (aG (lz [] [(max u v)] 0x400b7845002de1 tt g1))))) λg4=>(ln [(((w+(1:Int)):Int).toNat),((((max u v)+(1:Int)):Int).toNat)] [u,w,(max u v)] 0x1012c280880208808805611040110021 tt h2 (bz (w+(1:Int))) (af (et (lz [] [v,u] 1074856961 tt g4))) (af (aG (lz [] [(max u v)] 0x400b7845002de1 tt g1)))))) λg2=>(ln [((((max u v)+(1:Int)):Int).toNat),(((w+(1:Int)):Int).toNat)] [] 20402177025 tt (ah (ft (lz [] [(max u v)] 0x3e005844f80161 tt g2)))))
theorem TV(h1:0<=u/\u<=100)(h2:0<=v/\v<=100):aF u v+2=(↑(aF u v+1).toNat:Int)+1:=(aE (j5 0x11002c228010b88161 tt (bz _)) (j5 0x400b020228817002161 tt (af (aG (dQ 0x100440784500ade1 tt h1.1 (bO _ _))))))
theorem TX(h1:0<=u/\u<=100)(h2:0<=v/\v<=100):(aF u v+1).toNat<=1000:=((cT u v).elim (λg1=>(zY 0x402b0202200422351200887ec4801 tt h2.2 (af (dW (dQ 1074856961 tt g1))) (af (aG (dQ 0x100440784500ade1 tt h2.1 (br _ _)))))) λg2=>(zY 0x402b0202200422351200887ec4801 tt h1.2 (af (et (dQ 1074856961 tt g2))) (af (aG (dQ 0x100440784500ade1 tt h2.1 (br _ _))))))
theorem TY(h1:0<=u/\u<=100)(h2:0<=v/\v<=100):0<(aF u v+1).toNat:=(zY 0x2201584410044078440a4e01 tt h2.1 (br _ _) (bz _))
theorem TZ(h1:0<=u/\u<=100)(h2:0<=v/\v<=100):(aF u v+1).toNat<=100000:=((cT u v).elim (λg1=>(zY 0x100ac0808801088d4480220e2da84801 tt h2.2 (af (dW (dQ 1074856961 tt g1))) (af (aG (dQ 0x100440784500ade1 tt h2.1 (br _ _)))))) λg2=>(zY 0x100ac0808801088d4480220e2da84801 tt h1.2 (af (et (dQ 1074856961 tt g2))) (af (aG (dQ 0x100440784500ade1 tt h2.1 (br _ _))))))
theorem T3(h1:a<1000):a<1000000:=(aN 0xfd895010085f495212a0201 tt h1)
theorem HD(h1:b=5)(h2:a<5):a<b:=(aX 0x628180420c0420a0601 tt (ah h1.symm) h2)
theorem ND(h1:a<5):a<1000000:=(aN 0xc5010085f495212a0201 tt h1)
theorem T4(h1:0<=u/\u<=100)(h2:0<=v/\v<=100)(h3:u<=60)(h4:v<=60):(aF u v+1).toNat<=61/\(↑(aF u v+1).toNat:Int)=aF u v+1:=⟨((cT u v).elim (λg1=>(zY 0x201581011002110f8900443ec801 tt h4 (af (dW (dQ 1074856961 tt g1))) (af (aG (dQ 0x100440784500ade1 tt h1.1 (bO _ _)))))) λg2=>(zY 0x201581011002110f8900443ec801 tt h3 (af (et (dQ 1074856961 tt g2))) (af (aG (dQ 0x100440784500ade1 tt h2.1 (br _ _)))))),(aE (j5 0x1002c0808a0058101 tt (af (aG (dQ 0x100440784500ade1 tt h1.1 (bO _ _))))) (j5 0x4400b0880880161 tt (bz _)))⟩
theorem T5:aF u v+2=aF u v+1+1:=(aE (eI 18142323048801 tt) (eI 18704062492001 tt))
theorem T6:(↑((↑a:Int)+1-1).toNat:Int)=(↑a:Int):=by simp[*]
theorem T7:((↑a:Int)+1-1).toNat=a:=by simp[*]
theorem T8(h1:b<=61/\(↑b:Int)=aF u v+1)(h2:1<=a/\a<1+b):(↑a:Int).natAbs<1000000:=(cG 0x8821052140c0211f640085f495212a0a01 tt h1.1 h2.2 (ah (jb _)))
theorem T9(h1:¬(↑63:Int)<(↑a:Int)):a<=63:=(aN 0x3fc90040443fc801 tt (ig.mp h1))
theorem Ua:u<=aF u (aF (aF v w) x):=(dQ 1074856961 tt (bO _ _))
theorem Ub(h1:0<=v/\v<=2)(h2:0<=u/\u<=2)(h3:0<=x/\x<=2):u<=aF v (aF (aF u w) x):=(lz [] [u,(max u w),(max (max u w) x),(max v (max (max u w) x))] 0xc41108211040110c01 tt (bO u w) (bO (max u w) x) (br v (max (max u w) x)))
theorem Uc:u<=aF v (aF (aF w x) u):=(lz [] [u,(max (max w x) u),(max v (max (max w x) u))] 0x8211040110801 tt (br (max w x) u) (br v (max (max w x) u)))
theorem Ud:u<=aF v (aF (aF w u) x):=(lz [] [u,(max w u),(max (max w u) x),(max v (max (max w u) x))] 0xc41108211040110c01 tt (br w u) (bO (max w u) x) (br v (max (max w u) x)))
theorem Ue(h1:w=1\/w=2)(h2:0<=u/\u<=2)(h3:0<=v/\v<=2)(h4:0<=x/\x<=2)(h5:v≠0/\x≠0):aF u (aF (aF v w) x)<=2:=(cD.mpr ⟨(eI 18254742529 tt h2.2),(cD.mpr ⟨(cD.mpr ⟨(eI 18254742529 tt h3.2),(h1.elim (λg1=>(eI 17181000705 tt (af g1))) λg2=>(eI 18254742529 tt (af g2)))⟩),(eI 18254742529 tt h4.2)⟩)⟩)
theorem Ug(h1:0<=u/\u<=2)(h2:0<=v/\v<=2)(h3:0<=x/\x<=2):aF u (aF (aF v w) x)=2->u=2\/v=2\/x=2\/w=2:=λe=>(Ra u _).elim (λq=> .inl (q.symm.trans e)) λq=>have e:=q.symm.trans e; (Ra _ x).elim (λq=>have e:=q.symm.trans e; (Ra v w).elim (λq=> .inr (.inl (q.symm.trans e))) λq=> .inr (.inr (.inr (q.symm.trans e)))) λq=> .inr (.inr (.inl (q.symm.trans e)))
theorem Uh(h1:¬(u≠0/\v≠0)):u=0\/v=0:=by lia
theorem Ui(h1:0<=u/\u<=2):aF u 0=u:=(aE (cD.mpr ⟨(eI 1 tt),(eI 504431073 tt h1.1)⟩) (dQ 1074856961 tt (bO _ _)))
theorem Uj(h1:0<=v/\v<=2)(h2:w≠0/\x≠0/\v<=u/\w<=u/\x<=u/\y<=u/\u<=2/\(u=2->v=2\/w=2\/x=2\/y=2)):0<=u/\u<=2:=⟨(dQ 0x401101e1105e1 tt h1.1 h2.2.2.1),(eI 18254742529 tt h2.2.2.2.2.2.2.1)⟩
theorem Uk(h1:0<=v/\v<=2)(h2:u=v):0<=u/\u<=2:=⟨(dQ 0x401101e1105e1 tt h1.1 (af h2.symm)),(dQ 36370857935905 tt h1.2 (af h2))⟩
theorem Ul(h1:v=0\/v=1/\w=1)(h2:x=1)(h3:y≠0->z≠0->y<=v/\z<=v)(h4:0<=y/\y<=2)(h5:z≠0/\y≠0/\x<=u/\z<=u/\y<=u/\w<=u/\u<=2/\(u=2->x=2\/z=2\/y=2\/w=2)):u=1:=have k:=h3 h5.2.1 h5.1; have e:v=1/\w=1:=h1.elim (λe=>absurd (aE (e▸k.1) h4.1) h5.2.1) id; have n2:∀{t:Int},t<=1->t≠2:=λh e=>absurd (e▸h) (by decide); have r:=h5.2.2; aE (ij (Qs r.2.2.2.2.1 λq=>(r.2.2.2.2.2 q).elim (n2 (h2▸jd 1)) λq=>q.elim (n2 (e.1▸k.2)) λq=>q.elim (n2 (e.1▸k.1)) (n2 (e.2▸jd 1)))) (h2▸r.1)
theorem Um(h1:v=1)(h2:u=v):u=1:=by simp[*]
theorem Un(h1:x=1\/x=2)(h2:y=0\/y=1/\x=1)(h3:z≠0->u1≠0->z<=v1/\u1<=v1)(h4:w1≠0->x1≠0->w1<=y1/\x1<=y1)(h5:w1≠0->u1≠0->w1<=y/\u1<=y)(h6:w1≠0)(h7:v1<=u)(h8:x<=u)(h9:u<=2)(JH:u=2->z=2\/v1=2\/w1=2\/x=2)(KV:u1≠0)(NF:y1<=v)(JI:v<=2)(h14:v=2->x1=2\/u1=2\/y1=2\/x=2)(Zt:v1<=w)(Zu:y1<=w)(Qt:x<=w):u≠0->v≠0->u<=w/\v<=w:=have k:=h5 h6 KV; have y1':y<=1:=h2.elim (λe=>e▸(by decide:(0:Int)<=1)) (λe=>af e.1); have Zv:1<=x:=h1.elim (λe=>af e.symm) (λe=>e▸(by decide:(1:Int)<=2)); have n2:∀{t:Int},t<=y->t≠2:=λh e=>absurd (bX (af e.symm) (bX h y1')) (by decide:¬(2:Int)<=1); have p0:=bX (by decide:(0:Int)<=1) Zv; have p1:x≠0:=λe=>absurd (e▸Zv) (by decide:¬(1:Int)<=0); λa b=>⟨z2 h9 p0 p1 Qt λe=>(JH e).elim (λq=>q▸bX (h3 (q▸by decide) KV).1 Zt) λq=>q.elim (λq=>q▸Zt) λq=>q.elim (λq=>absurd q (n2 k.1)) λq=>q▸Qt,z2 JI p0 p1 Qt λe=>(h14 e).elim (λq=>q▸bX (h4 h6 (q▸by decide)).2 Zu) λq=>q.elim (λq=>absurd q (n2 k.2)) λq=>q.elim (λq=>q▸Zu) λq=>q▸Qt⟩
theorem Uo(h1:x≠0)(h2:y≠0)(h3:x=0\/y=0):u≠0->v≠0->u<=w/\v<=w:=by simp_all
theorem Up(h1:x≠0->y≠0->x<=z/\y<=z)(h2:u1≠0->y≠0->u1<=v1/\y<=v1)(h3:0<=y/\y<=2)(h4:0<=z/\z<=2)(h5:u1≠0)(h6:u<=2)(h7:u=2->x=2\/w1=2\/u1=2\/x1=2)(h8:v=y)(h9:z<=w)(JH:w1<=w)(KV:v1<=w)(NF:x1<=w)(JI:w<=2):u≠0->v≠0->u<=w/\v<=w:=λa b=>have b:=h8▸b; have k:=h2 h5 b; have m:=bX k.2 KV; ⟨z2 h6 h3.1 b m λe=>(h7 e).elim (λq=>q▸bX (h1 (q▸by decide) b).1 h9) λq=>q.elim (λq=>q▸JH) λq=>q.elim (λq=>q▸bX k.1 KV) λq=>q▸NF,h8▸m⟩
theorem Uq(h1:x≠0->y≠0->x<=z/\y<=z)(h2:0<=y/\y<=2)(h3:u1≠0)(h4:x≠0)(h5:v=y)(h6:u1=0\/z=0):u≠0->v≠0->u<=w/\v<=w:=λa b=>absurd (aE (h6.elim (λe=>absurd e h3) λe=>e▸(h1 h4 (h5▸b)).2) h2.1) (h5▸b)
theorem Ur(h1:x≠0->y≠0->x<=z/\y<=z)(h2:x≠0->u1≠0->x<=v1/\u1<=v1)(h3:0<=x/\x<=2)(h4:u=x)(h5:u1≠0)(h6:v<=2)(h7:v=2->y=2\/u1=2\/w1=2\/x1=2)(h8:z<=w)(h9:v1<=w)(JH:w1<=w)(KV:x1<=w)(NF:w<=2):u≠0->v≠0->u<=w/\v<=w:=λa b=>have a:=h4▸a; have k:=h2 a h5; have m:=bX k.1 h9; ⟨h4▸m,z2 h6 h3.1 a m λe=>(h7 e).elim (λq=>q▸bX (h1 a (q▸by decide)).2 h8) λq=>q.elim (λq=>q▸bX k.2 h9) λq=>q.elim (λq=>q▸JH) λq=>q▸KV⟩
theorem Us(h1:x≠0->y≠0->x<=z/\y<=z)(h2:0<=x/\x<=2)(h3:u=x)(h4:y≠0)(h5:u1≠0)(h6:z=0\/u1=0):u≠0->v≠0->u<=w/\v<=w:=λa b=>absurd (aE (h6.elim (λe=>e▸(h1 (h3▸a) h4).1) λe=>absurd e h5) h2.1) (h3▸a)
theorem Ut(h1:x≠0->y≠0->x<=z/\y<=z)(h2:u=x)(h3:v=y)(h4:z<=w):u≠0->v≠0->u<=w/\v<=w:=λa b=>have k:=h1 (h2▸a) (h3▸b); ⟨h2▸bX k.1 h4,h3▸bX k.2 h4⟩
theorem Uu(h1:x≠0->y≠0->x<=z/\y<=z)(h2:u=x)(h3:v=y)(h4:w=z):u≠0->v≠0->u<=w/\v<=w:=by simp_all
theorem Uv(h1:v<=u)(h2:w<=u)(h3:x<=u)(h4:u<=2)(h5:(v=2\/x=2)\/w=2):u=2:=(aE (eI 18254742529 tt h4) (h5.elim (λg1=>(g1.elim (λg3=>(dQ 599303631472161 tt h1 (af g3.symm))) λg4=>(dQ 599303631472161 tt h3 (af g4.symm)))) λg2=>(dQ 599303631472161 tt h2 (af g2.symm))))
theorem Uw(h1:u<=x)(h2:w<=x)(h3:v<=x)(h4:¬y=x)(h5:x=2)(h6:y=2\/u=2\/w=2\/v=2):(u=2\/v=2)\/w=2:=by lia
theorem Ux(h1:v≠0->w≠0->v<=u/\w<=u)(h2:a<4/\1<=v)(h3:a<4/\b<4/\1<=w):1<=u:=(dQ 0x4011020110601 tt h2.2 ((h1 (λg1=>(je 515431743522 tt h2.2 (af g1)))) (λg2=>(je 515431743522 tt h3.2.2 (af g2)))).1)
theorem Uy(h1:v≠0->w≠0->v<=u/\w<=u)(h2:a<4/\1<=v)(h3:a<4/\b<4/\2<=w):2<=u:=(dQ 0x4011022110621 tt h3.2.2 ((h1 (λg1=>(je 515431743522 tt h2.2 (af g1)))) (λg2=>(je 515431744546 tt h3.2.2 (af g2)))).2)
theorem Uz(h1:v≠0->w≠0->v<=u/\w<=u)(h2:a<4/\x<=v)(h3:a<4/\2<=v)(h4:a<4/\b<4/\1<=w):2<=u:=(dQ 0x4011022110621 tt h3.2 ((h1 (λg1=>(je 515431744546 tt h3.2 (af g1)))) (λg2=>(je 515431743522 tt h4.2.2 (af g2)))).1)
theorem UA(h1:v≠0->w≠0->v<=u/\w<=u)(h2:a<4/\2<=v)(h3:a<4/\b<4/\2<=w):2<=u:=(dQ 0x4011022110621 tt h2.2 ((h1 (λg1=>(je 515431744546 tt h2.2 (af g1)))) (λg2=>(je 515431744546 tt h3.2.2 (af g2)))).1)
theorem UB(h1:v=1)(h2:w≠0->u≠0->w<=v/\u<=v)(h3:w=2):u=0:=by simp_all
theorem UC(h1:u=1):u≠0:=(λg1=>(je 515431743522 tt (af h1.symm) (af g1)))
theorem UD(h1:v=1)(h2:w≠0->u≠0->w<=v/\u<=v)(h3:0<=u/\u<=2)(h4:w=1)(h5:1<=u):u=1:=(aE (dQ 36369784193057 tt (af h1) ((h2 (λg1=>(je 515431743522 tt (af h4.symm) (af g1)))) (λg2=>(je 515431743522 tt h5 (af g2)))).2) (eI 537985537 tt h5))
theorem UE(h1:1<=u):u≠0:=(λg1=>(je 515431743522 tt h1 (af g1)))
theorem UG(h1:2<=u):u≠0:=(λg1=>(je 515431744546 tt h1 (af g1)))
theorem NG(h1:0<=u/\u<=2)(h2:2<=u):u=2:=(aE (eI 18254742529 tt h1.2) (eI 571540001 tt h2))
theorem UH(h1:1<=v)(h2:u=2->v=0):¬u=2:=(λg1=>(je 515431743522 tt h1 (af (h2 (aE (eI 18254742529 tt (af g1)) (eI 571540001 tt (af g1.symm)))))))
theorem UI(h1:w≠0/\x≠0/\u<=v/\w<=v/\x<=v/\y<=v/\v<=2/\(v=2->u=2\/w=2\/x=2\/y=2)):u<=v:=(dQ 1074856961 tt h1.2.2.1)
theorem UJ(h1:v=u):u<=v:=(dQ 1074856961 tt (af h1.symm))
theorem UK(h1:w≠0/\x≠0/\y<=v/\w<=v/\x<=v/\u<=v/\v<=2/\(v=2->y=2\/w=2\/x=2\/u=2)):u<=v:=(dQ 1074856961 tt h1.2.2.2.2.2.1)
theorem UL(h1:w=1)(h2:x=1)(h3:w=0\/x=0):u<=v:=(h3.elim (λg1=>(je 515431743522 tt (af h1.symm) (af g1)).elim) λg2=>(je 515431743522 tt (af h2.symm) (af g2)).elim)
theorem UM(h1:v<=u)(h2:0<=v/\v<=2)(h3:v≠0):u≠0:=(λg1=>((cy h3).elim (λg2=>(je 545369614203938 tt h2.1 g2)) λg3=>(zW 0x107ac227842208022 tt h1 (af g1) g3)))
theorem UN(h1:w<=u)(h2:x<=v)(h3:0<=u/\u<=2)(h4:0<=v/\v<=2)(h5:w=2\/x=2):u=2\/v=2:=(cE λg5=>(h5.elim (λg6=>((cy (λe_=>g5 (.inl e_))).elim (λg8=>(zW 0x2300ac220442208022 tt h1 (af g6.symm) g8)) λg9=>(je 18188148965410 tt h3.2 g9))) λg7=>((cy (λe_=>g5 (.inl e_))).elim (λDO=>((cy (λe_=>g5 (.inr e_))).elim (λHz=>(zW 0x2300ac220442208022 tt h2 (af g7.symm) Hz)) λg13=>(je 18188148965410 tt h4.2 g13))) λCI=>(je 18188148965410 tt h3.2 CI))))
theorem UO(h1:0<=u/\u<=2)(h2:0<=v/\v<=2)(h3:2<=aF u v):u=2\/v=2:=(cE λg5=>((cy (λe_=>g5 (.inl e_))).elim (λg6=>((cy (λe_=>g5 (.inr e_))).elim (λg8=>((cT u v).elim (λDO=>(zW 0x2008a300ac2204422 tt h3 g8 (af (dW (dQ 1074856961 tt DO))))) λCI=>(zW 0x2008a300ac2204422 tt h3 g6 (af (et (dQ 1074856961 tt CI)))))) λg9=>(je 18188148965410 tt h2.2 g9))) λg7=>(je 18188148965410 tt h1.2 g7)))
theorem UP(h1:97+a=97+b):a=b:=(ar (aX 0x4d1940068ca0108401 tt (ah h1)) (aX 0x4d1940068ca0108401 tt (ah h1.symm)))
theorem UQ(h1:a<4):(u.toNat % 2*4+a) % 4=a:=by simp[*]
theorem UR(h1:a<4):(u.toNat / 2*4+a) % 4=a:=by simp[*]
theorem US(h1:c<0+b)(h2:d<=c)(h3:a<d):a<b:=(hO 0xa8380420104219c28080421a0e01 tt h1 h2 h3)
theorem UT(h1:a<c)(h2:c<b):a<b:=(cG 0x2a06010868080422a0201 tt h1 h2)
theorem UU(h1:a<b+1)(h2:¬a<b):a=b:=(ar (aX 0x5030a020108401 tt h1) (aX 1074824193 tt (aY h2)))
theorem UW(h1:0<=u/\u<=2)(h2:(u=2->v=0)/\(u=1->v=1))(h3:¬u=0)(h4:v=0):u=2:=by lia
theorem UX(h1:0<=u/\u<=2)(h2:(u=2->v=0)/\(u=1->v=1))(h3:¬u=0)(h4:¬v=0):u=1:=by lia
theorem UY(h1:¬v=0)(h2:¬w=0)(h3:v<=u/\w<=u)(h4:0<=v/\v<=2):u≠0:=(λg1=>((cy h1).elim (λg2=>(je 545369614203938 tt h4.1 g2)) λg3=>(zW 0x107ac227842208022 tt h3.1 (af g1) g3)))
theorem ye(h1:¬0<a):a=0:=(ar (aN 20402195457 tt (aY h1)) (aN 609 tt))
theorem KW(h1:a<=2):a=0\/a=1\/a=2:=(cE λg6=>((bj (λe_=>g6 (.inl e_))).elim (λg7=>(gG 658522145 tt g7)) λg8=>((bj (λe_=>g6 (.inr (.inl e_)))).elim (λg9=>(gG 0xa5010084149c021 tt g8 g9)) λDO=>((bj (λe_=>g6 (.inr (.inr e_)))).elim (λCI=>(gG 0xad01008414a4021 tt DO CI)) λHz=>(gG 22729002221601 tt h1 Hz)))))
theorem Ea:a+1+b=a+(b+1):=(ar (aX 0x50300403404201 tt) (aX 0x6808428180201 tt))
theorem UZ:a+(b*a+c*d+e*f)=b*a+a+c*d+e*f:=(ar (hO 0xc400c2101883080201 tt) (hO 0xc40840301882084201 tt))
theorem U0:a+(b*c+d*e+f*a)=b*c+d*e+(f*a+a):=(ar (hO 0x70106101883080201 tt) (hO 0x8208407018a0104201 tt))
theorem U1:1+a=a+1:=(ar (aN 21491634689 tt) (aN 688521729 tt))
theorem U2:a+b+1+c+d=a+(b+1+c)+d:=(ar (hO 0xc540c20084062a041084201 tt) (hO 0xc540821084062a061004201 tt))
theorem U3:a+(b+c+1)=a+1+b+c:=(ar (cG 0x83404210a083080201 tt) (cG 0x5041840101068084201 tt))
theorem U4:u+1+(↑a:Int)=u+(↑(a+1):Int):=(aE (j5 0x14041005811002d61 tt) (j5 0x4400b5d01040161 tt))
theorem U5(h1:0<c):0<a+b+c:=(cG 0x2938042010610a4e01 tt h1)
theorem U6(h1:¬0<c)(h2:0<b):0<a+b+c:=(cG 0x2938042200610a4e01 tt h2)
theorem U7(h1:¬0<c)(h2:¬0<b)(h3:0<a):0<a+b+c:=(cG 0x2938042208210a4e01 tt h3)
theorem U8(h1:¬0<c)(h2:¬0<b)(h3:¬0<a):¬0<a+b+c:=(λg1=>(zX 0x1142149c021988219842198021 tt (aY h1) (aY h2) (aY h3) g1))
theorem NH(h1:a=b*1+c*1+d*1):a=b+c+d:=by simp[*]
theorem NI(h1:0<a):a=1\/a=2\/3<=a:=(cE λg4=>((bj (λe_=>g4 (.inl e_))).elim (λg5=>(gG 0xa5010084149c021 tt h1 g5)) λg6=>((bj (λe_=>g4 (.inr (.inl e_)))).elim (λg7=>(gG 0xad01008414a4021 tt g6 g7)) λg8=>(gG 0x52b0086d404021 tt (gx (λe_=>g4 (.inr (.inr e_)))) g8))))
theorem U9:2*(↑a:Int)=(↑a:Int)*2:=(aE (j5 9091898157566369 tt (af (lr 2 _))) (j5 0x409a00880813401 tt (af (lr _ 2))))
theorem Va(h1:3<=a):3-a=0:=(ar (aN 20402195457 tt (ah (fK (aN 739279553 tt h1)))) (aN 609 tt))
theorem Vb(h1:3<=a):2-a=0:=(ar (aN 20402195457 tt (ah (fK (aN 740328099 tt h1)))) (aN 609 tt))
theorem Vc(h1:0<a):1-a=0:=(ar (aN 20402195457 tt (ah (fK (aN 708133814913 tt h1)))) (aN 609 tt))
theorem Vd:a+(b*(1 / c)+b*1)+(d*(2 / c)+d*1)=b*(1 / c)+d*(2 / c)+(a+b+d):=(ar (yd 0xc31104210c40108c24840c584046800b024201 tt (ah (dO _ 1)) (ah (dO _ 1))) (yd 0xc41884210062108cb009206840403420524201 tt (ah (dO 1 _)) (ah (dO 1 _))))
theorem Ve:(↑a:Int)*((↑b:Int)+(↑c:Int)*(1 / (↑a:Int)+1)+(↑d:Int)*(2 / (↑a:Int)+1))+(↑e:Int)=(↑e:Int)+(↑a:Int)*((↑b:Int)+(↑c:Int)*(1 / (↑a:Int)+1)+(↑d:Int)*(2 / (↑a:Int)+1)):=(aE (j5 8959295841 tt) (j5 275247014241 tt))
theorem Vf(h1:a<=b):(↑a:Int)<=(↑(aF b c):Int):=(KU 0x2084210042240101 tt h1 (df _ _))
theorem Vg:(↑a:Int)<=(↑(aF b a):Int):=(jf 1100620235009 tt (eO _ _))
theorem Vh(h1:a<=b):(↑(aF a b):Int)<=(↑b:Int):=(jf 1100620235009 tt (ah (iy (aX 1074824193 tt h1))))
theorem Vi(h1:¬b<=a):a<=b:=(aX 1787244348417 tt (gx h1))
theorem Vj(h1:u<=(↑(aF a b):Int))(h2:(↑(aF a b):Int)<=u):u=(↑(aF a b):Int):=(aE (j5 274913566721 tt h1) (j5 8625586433 tt h2))
theorem Vk(h1:u<=(↑(aF a b):Int))(h2:(↑b:Int)<=u)(h3:(↑(aF a b):Int)<=(↑b:Int)):u=(↑(aF a b):Int):=(aE (j5 274913566721 tt h1) (qg 0x101404400202200501 tt h2 h3))
theorem Vl:aF ((↑(a+1):Int)-1) (↑b:Int)=(↑(aF a b):Int):=(aE (cD.mpr ⟨(jf 0x1004214428082181 tt (df _ _)),(jf 1100620235009 tt (eO _ _))⟩) ((fB a b).elim (λg1=>(qg 0x84200202200501 tt (br _ _) (ah (iy (aX 1074824193 tt g1))))) λg2=>(qg 0x8420850104302200501 tt (bO _ _) (ah (k8 (aX 1074824193 tt g2))))))
theorem Vm(h1:¬0<b+c+a):¬0<a:=(λg1=>(zX 0x549c0219882084021 tt (aY h1) g1))
theorem Vn(h1:¬0<b+a+c):¬0<a:=(λg1=>(zX 0x349c0219882084021 tt (aY h1) g1))
theorem Vo(h1:b=0):aF ((↑0:Int)-1) (↑a:Int)=(↑(aF b a):Int):=(aE (cD.mpr ⟨(ew 285843841 tt),(jf 1100620235009 tt (eO _ _))⟩) (qg 0x84200202200501 tt (br _ _) (ah (iy (aX 20402177025 tt (ah h1))))))
theorem Vp(h1:0<b):2+1<=1↔a=0/\b=0:=⟨λg1=>⟨(ar (Hv 692764705 tt g1).elim (aN 609 tt)),(ar (Hv 692764705 tt g1).elim (aN 609 tt))⟩,λg2=>(aN 0x4c020829380834a5601 tt h1 (ah g2.2))⟩
theorem Vq(h1:0<a):1+1<=1↔a=0/\b=0:=⟨λg1=>⟨(ar (Hv 692731937 tt g1).elim (aN 609 tt)),(ar (Hv 692731937 tt g1).elim (aN 609 tt))⟩,λg2=>(aN 0x4c010829380434a5201 tt h1 (ah g2.1))⟩
theorem Vr(h1:¬0<b)(h2:¬0<a):0+1<=1↔a=0/\b=0:=⟨λg1=>⟨(ar (aN 20402195457 tt (aY h2)) (aN 609 tt)),(ar (aN 20402195457 tt (aY h1)) (aN 609 tt))⟩,λg2=>(Q5 21646849 tt)⟩
theorem Vs(h1:(↑a:Int)=(↑b:Int)/\(↑c:Int)=(↑d:Int)/\(↑e:Int)=(↑f:Int)):a=b/\c=d/\e=f:=⟨(ar (aX 1374659085313 tt (af h1.1)) (aX 1374659085313 tt (af h1.1.symm))),⟨(ar (aX 1374659085313 tt (af h1.2.1)) (aX 1374659085313 tt (af h1.2.1.symm))),(ar (aX 1374659085313 tt (af h1.2.2)) (aX 1374659085313 tt (af h1.2.2.symm)))⟩⟩
theorem Vt(h1:¬0<e)(h2:¬0<f)(h3:(↑a:Int)=(↑b:Int)/\(↑c:Int)=(↑d:Int)):a=b/\c=d/\e=f:=⟨(ar (aX 1374659085313 tt (af h3.1)) (aX 1374659085313 tt (af h3.1.symm))),⟨(ar (aX 1374659085313 tt (af h3.2)) (aX 1374659085313 tt (af h3.2.symm))),(ar (aX 20402177025 tt (aY h1)) (aX 20402177025 tt (aY h2)))⟩⟩
theorem Vu(h1:¬0<e)(h2:¬0<c)(h3:¬0<f)(h4:¬0<d)(h5:(↑a:Int)=(↑b:Int)):a=b/\c=d/\e=f:=⟨(ar (aX 1374659085313 tt (af h5)) (aX 1374659085313 tt (af h5.symm))),⟨(ar (aX 20402177025 tt (aY h2)) (aX 20402177025 tt (aY h4))),(ar (aX 20402177025 tt (aY h1)) (aX 20402177025 tt (aY h3)))⟩⟩
theorem Vv(h1:¬0<e)(h2:¬0<c)(h3:¬0<a)(h4:¬0<f)(h5:¬0<d)(h6:¬0<b):a=b/\c=d/\e=f:=⟨(ar (aX 20402177025 tt (aY h3)) (aX 20402177025 tt (aY h6))),⟨(ar (aX 20402177025 tt (aY h2)) (aX 20402177025 tt (aY h5))),(ar (aX 20402177025 tt (aY h1)) (aX 20402177025 tt (aY h4)))⟩⟩
theorem Vw(h1:a<=1000)(h2:b<=1000)(h3:0<b)(h4:u=(↑a:Int)\/u=(↑b:Int)):u.natAbs<1000000:=h4.elim (λe=>by subst e; exact fI h1 (by decide)) λe=>by subst e; exact fI h2 (by decide)
theorem Vx(h1:d+a+c<=100)(h2:a*(1 / b)<=a*1)(h3:c*(2 / b)<=c*2):((↑(a*(1 / b)+c*(2 / b)):Int)+(↑(d+a+c):Int)).natAbs<1000000:=(show a*(1 / b)+c*(2 / b)+(d+a+c)<1000000 from(ln [d,a,c,(a*(1 / b)),(a*1),(c*(2 / b)),(c*2)] [] 0x10a2608421890213142120c213524208210185f495212a0820840a384201 tt h1 h2 h3 (ah (dO a 1)) (ah (dO c 2))))
theorem Vy:a+(b+c*2+d*3)=b+2*c+3*d+a:=(ar (KS 0xc71104211440109063884512c210100b081201 tt (ah (dO _ 2)) (ah (dO _ 3))) (KS 0xc438842100a2108c24840b02887100a2484201 tt (ah (dO 2 _)) (ah (dO 3 _))))
theorem Vz:2*(a+b+c*2)=2*(a+b+2*c):=(ar (hO 0x45100821144628405100c5080a21 tt (ah (dO _ 2))) (hO 0x4028882118a101440288c5080a21 tt (ah (dO 2 _))))
theorem VC(h1:(↑(d+2*e+3*f+g):Int)<=(↑(a+2*b+3*c+g):Int)):¬(a+2*b+3*c<d+2*e+3*f/\a+b+2*c<d+e+2*f/\a+b+c<d+e+f):=(λg1=>(Q4 0x10e2114410850c38945124210084661c4a289210820621c4228821082022 tt h1 g1.1))
theorem VD(h1:¬(↑(b+2*0+3*0+c):Int)<=(↑(a+2*0+3*0+c):Int)):(↑(a+0+0):Int)<=(↑(b+0+0):Int)↔a+2*0+3*0<b+2*0+3*0/\a+0+2*0<b+0+2*0/\a+0+0<b+0+0:=⟨λg1=>⟨(cG 0x198e3314450841100cc7198a2084208584531c66288a10a4c7198a2084201 tt (ja.mp h1)),⟨(cG 0x198e3314450841100cc7198a20842085845314662842931466084201 tt (ja.mp h1)),(cG 0x198e3314450841100cc7198a20842085845398a10a4e6084201 tt (ja.mp h1))⟩⟩,λg2=>(jf 0x4e618429398210804339861044e6084101 tt g2.2.2)⟩
theorem VF(h1:b<=2)(h2:a<=2)(h3:c<=2):(aF (↑(aF a b):Int) (↑(aF c b):Int)+2).toNat-2=aF (aF a b) (aF c b):=Zd _ _
theorem VG(h1:b<=2)(h2:u=(↑(b+2*(c+d+2*e)):Int))(h3:v=(↑(b+2*(f+g+2*i)):Int))(h4:w=(↑(b+3*(c+d+e)):Int))(h5:x=(↑(b+3*(f+g+i)):Int))(h6:a<=2)(h7:j<=2)(h8:aF (aF a b) (aF j b)=1):a<=1:=(cG 0x41088210d0010d021 tt (ah h8) (df _ _) (df _ _))
theorem VH(h1:b<=2)(h2:a<=2)(h3:aF (aF c b) (aF a b)=1):a<=1:=(cG 0x41088210d0010d021 tt (ah h3) (df _ _) (eO _ _))
theorem VJ(h1:¬(↑(d+2*e+3*0+a):Int)<=(↑(b+2*c+3*0+a):Int)):(↑(a+2*(b+c+2*0)):Int)<(↑(a+2*(d+e+2*0)):Int)↔b+2*c+3*0<d+2*e+3*0/\b+c+2*0<d+e+2*0/\b+c+0<d+e+0:=⟨λg1=>⟨(wU 0x298e24144708411014c7108a2084208584531c48288e10a4c7108a2084201 tt (ja.mp h1)),⟨(wU 0x1314483840510411098a220c202882085845314483842931444184202 tt g1),(wU 0x1314483840510411098a220c202882085845320e10a4c4184202 tt g1)⟩⟩,λg2=>(Q8 0x1318a10a4c20842020cc5118a1014490442628841080a2482161 tt g2.2.2)⟩
theorem VK(h1:¬(↑(e+2*f+3*g+a):Int)<=(↑(b+2*c+3*d+a):Int)):(↑(a+2*(b+c+2*d)):Int)<(↑(a+2*(e+f+2*g)):Int)/\(↑(a+3*(b+c+d)):Int)<(↑(a+3*(e+f+g)):Int)↔b+2*c+3*d<e+2*f+3*g/\b+c+2*d<e+f+2*g/\b+c+d<e+f+g:=⟨λg1=>⟨(yd 0x330e2514490841101887108a2084208584461c4a289210a087108a2084201 tt (ja.mp h1)),⟨(yd 0x6144a4840510411018a220c2028820858446144a4842831444184202 tt g1.1),(yd 0x6292101c410440620c203882085844629210a0c4184203 tt g1.2)⟩⟩,λg2=>⟨(Nm 0x5144838428214420842020945120e10144d0440428841080a2682161 tt g2.2.1),(Nm 0x520e10a0820842030948384071341101041080e2682161 tt g2.2.2)⟩⟩
theorem VL(h1:(↑(c+d):Int)<=(↑(a+b):Int)):¬(a+b<c+d/\a<=c):=(λg1=>(KQ 0x821418a10084628202082022 tt h1 g1.1))
theorem VM(h1:¬(↑(b+d):Int)<=(↑(a+c):Int)):(↑a:Int)<=(↑b:Int)↔a+c<b+d/\a<=b:=⟨λg1=>⟨(hO 0x31411008208584431428104201 tt (ja.mp h1)),(aX 1374659085313 tt g1)⟩,λg2=>(jf 1100620235009 tt g2.2)⟩
theorem VN(h1:a=b/\c=d/\e=f)(h2:(↑g:Int)=(↑i:Int)):a=b/\c=d/\e=f/\g=i:=⟨(ar (aX 1074824193 tt (ah h1.1)) (aX 1074824193 tt (ah h1.1.symm))),⟨(ar (aX 1074824193 tt (ah h1.2.1)) (aX 1074824193 tt (ah h1.2.1.symm))),⟨(ar (aX 1074824193 tt (ah h1.2.2)) (aX 1074824193 tt (ah h1.2.2.symm))),(ar (aX 1374659085313 tt (af h2)) (aX 1374659085313 tt (af h2.symm)))⟩⟩⟩
theorem VO(h1:a<=2)(h2:a≠1)(h3:a≠2):a=0:=(ar ((bj h2).elim (λg1=>(aN 22677965294593 tt g1)) λg2=>((bj h3).elim (λg3=>(aN 0x568080820a52010cc01 tt g2 g3)) λg4=>(aN 0xa56020d4030cc01 tt h1 g4))) (aN 609 tt))
theorem VQ(h1:a=b+c+d)(h2:b=0/\c=0/\d=0):a=0:=(ar (hO 0x4c610cc410cc2108c41840010cc01 tt (ah h1) (ah h2.1) (ah h2.2.1) (ah h2.2.2)) (aN 609 tt))
theorem VR(h1:a<=2/\c=0/\(a=0↔d=0/\e=0))(h2:¬(d=0/\e=0)):2<=aF a b+1/\aF a b+1<2+((aF (↑(aF c b):Int) (↑(aF a b):Int)+2).toNat-2):=have k:=kh (aP (GW λe=>h2 (h1.2.2.mp e)) (df a b)); ⟨k,by rw[Zd,Bj 2]; exact fH (uT _) (kh (kh (eO _ _)))⟩
theorem VU(h1:a<=2/\c=0/\(a=0↔d=0/\e=0))(h2:¬(d=0/\e=0)):2<=aF a b+1:=kh (aP (GW λe=>h2 (h1.2.2.mp e)) (df a b))
theorem VV(h1:u=(↑(aF a b):Int)/\v=u)(h2:2<=aF a b+1)(h3:aF a b+1<3):aF a b+1=2:=(ar (aN 0x16a501080435a0201 tt h3) (aN 0x5010a8434042a1 tt h2))
theorem VW(h1:a<=2/\b=0/\(a=0↔c=0/\d=0))(h2:2<=aF a e+1)(h3:aF a e+1<3):a<=1:=(aX 0x210da94042010d021 tt h3 (df _ _))
theorem VY(h1:(↑(b+2*(c+d+a+0+2*0)):Int)<(↑(b+2*(c+d+2*a)):Int))(h2:¬0<a):a=0:=(ar (aN 20402195457 tt (aY h2)) (aN 609 tt))
theorem VZ(h1:(↑(a+2*(b+c+d+0+2*0)):Int)<(↑(a+2*(b+c+2*d)):Int))(h2:d=0):False:=(KQ 0x98c4118a220c2028820884c5198c41842101441042c22 tt h1 (ah h2))
theorem V0(h1:e=a+2*b+3*c+d)(h2:u=(↑(a+2*b+3*c+d):Int))(h3:v=(↑(a+b+c+d):Int))(h4:w=(↑(a+2*b+3*c+d):Int)):¬(a+b+c+d<0+(a+2*b+3*c+d)/\a+b+c<=0):=(λg1=>(KQ 0x98820840411887108a2084213850620821084021 tt g1.1 g1.2))
theorem V1(h1:b<=5)(h2:d=e+2*f+3*g+b)(h3:u=(↑(aF a b):Int)/\v=u)(h4:w=(↑(aF c b):Int)/\x=w)(h5:a<=2/\c=0/\(a=0↔f=0/\g=0))(h6:y=(↑(e+2*f+3*g+b):Int))(h7:z=(↑(e+f+g+b):Int))(h8:u1=(↑(e+2*f+3*g+b):Int)):(aF (↑(aF a b):Int) (↑(aF c b):Int)+2).toNat-1=((↑(aF a b):Int)+1).toNat:=mx1 (i7.mpr ⟨h5.2.1▸fD _,eO a b⟩)
theorem V2(h1:b<=5)(h2:d=e+2*f+3*g+b)(h3:u=(↑(aF c b):Int)/\v=u)(h4:w=(↑(aF a b):Int)/\x=w)(h5:c<=2/\a=0/\(c=0↔f=0/\g=0))(h6:y=(↑(e+2*f+3*g+b):Int))(h7:z=(↑(e+f+g+b):Int))(h8:u1=(↑(e+2*f+3*g+b):Int)):(aF (↑(aF a b):Int) (↑(aF c b):Int)+2).toNat-1=((↑(aF c b):Int)+1).toNat:=Q9 (i7.mpr ⟨h5.2.1▸fD _,eO c b⟩)
theorem V3(h1:b<=5)(h2:c=d+2*e+3*f+b)(h3:u=(↑(aF a b):Int)/\v=u)(h4:w=(↑(aF g b):Int)/\x=w)(h5:a<=2/\g=0/\(a=0↔e=0/\f=0))(h6:y=(↑(d+2*e+3*f+b):Int))(h7:z=(↑(d+e+f+b):Int))(h8:u1=(↑(d+2*e+3*f+b):Int)):(↑(aF a b):Int)<=60:=((fB a b).elim (λg1=>(jf 0x1087000847c48501 tt h1 (ah (iy (aX 1074824193 tt g1))))) λg2=>(jf 0x1086a00847c48501 tt h5.1 (ah (k8 (aX 1074824193 tt g2)))))
theorem V4:a / 3 % 3=0\/a / 3 % 3=1\/a / 3 % 3=2:=(cE λg6=>((bj (λe_=>g6 (.inl e_))).elim (λg7=>(gG 658522145 tt g7)) λg8=>((bj (λe_=>g6 (.inr (.inl e_)))).elim (λg9=>(gG 0xa5010084149c021 tt g8 g9)) λDO=>((bj (λe_=>g6 (.inr (.inr e_)))).elim (λCI=>(gG 0xad01008414a4021 tt DO CI)) λHz=>(gG 0xb501008414ac021 tt Hz (dR _ (by decide:0<3)))))))
theorem V5(h1:a<=4):a / 2+2*0+3*0<=60:=(aX 0x228843700423e4a638cc510c202 tt h1 (fG _ 2))
theorem V6(h1:a<=4):(a+1) / 2+b % 3<=5:=(cG 0x5a828083404022884370043810602 tt h1 (fG _ 2) (dR _ (by decide:0<3)))
theorem V7(h1:a<b):a / 2<=b / 2:=(hO 0x141c051a06010804288421a020108c42 tt h1 (fG _ 2) (DY _ (by decide:0<2)))
theorem V8(h1:a<b)(h2:(a+1) / 2>=(b+1) / 2):a / 2<b / 2:=gx λh=>Nat.not_le_of_lt h1 (aP (ah (hf b).symm) (aP (ie h h2) (ah (hf a))))
theorem V9(h1:a<d)(h2:(a+1) / 2>=(d+1) / 2)(h3:c*(a / 2)<c*(d / 2)):(a+1) / 2+b % 3+c*(a / 2)<(d+1) / 2+b % 3+c*(d / 2):=(yd 0x14040a28843424051a503080423a0a02086808042331210a08c584202 tt h1 h3 (DY _ (by decide:0<2)) (fG _ 2))
theorem Wa(h1:a / 2=b / 2)(h2:(a+1) / 2+c % 3=(b+1) / 2+c % 3):a=b:=by rw[<-hf a,h1,Nat.add_right_cancel h2,hf]
theorem Wb:a / 2+((a+1) / 2+b % 3)<c / 2+((c+1) / 2+b % 3)/\a / 2<=c / 2↔a<c:=by rw[<-rd,<-rd,hf,hf]; exact⟨λh=>Nat.lt_of_add_lt_add_right h.1,λh=>⟨Nat.add_lt_add_right h _,DF (Bh h)⟩⟩
theorem Wc(h1:u<=(↑a:Int)-(↑b:Int)):(↑((↑a:Int)-(↑b:Int)-u).toNat:Int)=(↑a:Int)-(↑b:Int)-u:=(aE (CG 0x1202863008088024050c60101 tt (af (aG (qg 0x14010c004400a008631e1 tt h1)))) (CG 0x2400280218c088480050043181 tt (bz _)))
theorem We(h1:u<=(↑a:Int)-(↑b:Int))(h2:(↑a:Int)-(↑b:Int)-u-((↑c:Int)-(↑a:Int))<=v):(↑(((↑a:Int)-(↑b:Int)-u).toNat+((↑c:Int)-(↑a:Int)+v-((↑a:Int)-(↑b:Int)-u)).toNat):Int)=(↑c:Int)-(↑a:Int)+v:=(aE (Nl 0x24050c604282218b60d01100480a18c02022085044316304101 tt (af (aG (qg 0x14010c004400a008631e1 tt h1))) (af (aG (Nk 0x102048600280218c604400a008630204090c5b1e1 tt h2)))) (Nl 0x8800500431810206862d81109000a0086302220a080810343161 tt (bz _) (bz _)))
theorem Wg(h1:u<=(↑a:Int)-(↑b:Int))(h2:(↑a:Int)-(↑b:Int)-u-((↑c:Int)-(↑a:Int))<=v)(h3:(↑c:Int)-(↑a:Int)+v-(↑b:Int)<=w):(↑(((↑a:Int)-(↑b:Int)-u).toNat+((↑c:Int)-(↑a:Int)+v-((↑a:Int)-(↑b:Int)-u)).toNat+((↑b:Int)+w-((↑c:Int)-(↑a:Int)+v)).toNat):Int)=(↑b:Int)+w:=(aE (lz [((((((a:Nat):Int)-((b:Nat):Int))-u):Int).toNat),a,b,(((((((c:Nat):Int)-((a:Nat):Int))+v)-((((a:Nat):Int)-((b:Nat):Int))-u)):Int).toNat),c,((((((b:Nat):Int)+w)-((((c:Nat):Int)-((a:Nat):Int))+v)):Int).toNat)] [u,v,w] 0x10a08862c4242d854044012028630214110c5b068088024050c60101108485946084101 tt (af (aG (lz [a,b] [u] 0x14010c004400a008631e1 tt h1))) (af (aG (lz [a,b,c] [u,v] 0x102048600280218c604400a008630204090c5b1e1 tt h2))) (af (aG (lz [c,a,b] [v,w] 0x448005004316c088014010c584485b1e1 tt h3)))) (lz [a,b,((((((a:Nat):Int)-((b:Nat):Int))-u):Int).toNat),c,(((((((c:Nat):Int)-((a:Nat):Int))+v)-((((a:Nat):Int)-((b:Nat):Int))-u)):Int).toNat),((((((b:Nat):Int)+w)-((((c:Nat):Int)-((a:Nat):Int))+v)):Int).toNat)] [u,v,w] 0x5404081a18b1050b60444400280218c081034316c08848005004318111482841020a161 tt (bz ((((a:Nat):Int)-((b:Nat):Int))-u)) (bz (((((c:Nat):Int)-((a:Nat):Int))+v)-((((a:Nat):Int)-((b:Nat):Int))-u))) (bz ((((b:Nat):Int)+w)-((((c:Nat):Int)-((a:Nat):Int))+v)))))
theorem Wh(h1:-4<=u/\u<=4)(h2:-20<=v/\v<=20)(h3:(↑c:Int)=(↑d:Int)-(↑e:Int)-u/\(↑(c+b):Int)=(↑f:Int)-(↑d:Int)+w/\(↑(c+b+a):Int)=(↑e:Int)+v)(h4:f<=4/\d<=4/\e<=4):a+2*b+3*c<=60:=(KR 0x5c410dc21084485906084102100480a18c020220d1211080450443e480388c5124201 tt h1.1 h2.2 (af h3.1) (af h3.2.2) h4.2.1 h4.2.2)
theorem Wi:a % 3<=5:=(aN 24876988555265 tt (dR _ (by decide:0<3)))
theorem Wj(h1:g<i/\j<k/\l<m)(h2:(↑c:Int)=(↑j:Int)-(↑l:Int)-u/\(↑(c+b):Int)=(↑g:Int)-(↑j:Int)+v/\(↑(c+b+a):Int)=(↑l:Int)+w)(h3:(↑f:Int)=(↑k:Int)-(↑m:Int)-u/\(↑(f+e):Int)=(↑i:Int)-(↑k:Int)+v/\(↑(f+e+d):Int)=(↑m:Int)+w):a+2*b+3*c<d+2*e+3*f:=(ln [g,i,c,j,l,b,a,k,m,f,e,d] [u,v,w] 0x2d49841024216112930404e80a18b08928021074318110888598a284101104680218b28a080880440d0c6090110680804291c5428ae10a087128a2684201 tt h1.1 (af h2.1) (af h2.2.1) (af h2.2.2) (af h3.1.symm) (af h3.2.1.symm) (af h3.2.2.symm))
theorem Wl(h1:g<i/\j<k/\l<m)(h2:(↑c:Int)=(↑j:Int)-(↑l:Int)-u/\(↑(c+b):Int)=(↑g:Int)-(↑j:Int)+v/\(↑(c+b+a):Int)=(↑l:Int)+w)(h3:(↑f:Int)=(↑k:Int)-(↑m:Int)-u/\(↑(f+e):Int)=(↑i:Int)-(↑k:Int)+v/\(↑(f+e+d):Int)=(↑m:Int)+w):a+b+2*c<d+e+2*f:=(ln [j,k,c,l,b,a,m,f,e,d] [u,w] 0x941e10404c858447400c80a18c0882342ca414208088034010c60901106808042714509842821448584201 tt h1.2.1 (af h2.1) (af h2.2.2) (af h3.1.symm) (af h3.2.2.symm))
theorem Wm(h1:g<i/\j<k/\l<m)(h2:(↑c:Int)=(↑j:Int)-(↑l:Int)-u/\(↑(c+b):Int)=(↑g:Int)-(↑j:Int)+v/\(↑(c+b+a):Int)=(↑l:Int)+w)(h3:(↑f:Int)=(↑k:Int)-(↑m:Int)-u/\(↑(f+e):Int)=(↑i:Int)-(↑k:Int)+v/\(↑(f+e+d):Int)=(↑m:Int)+w):a+b+c<d+e+f:=(ln [l,m,c,b,a,f,e,d] [w] 0x1cc5841000a161100085906284101106808042531e10a086484201 tt h1.2.2 (af h2.2.2) (af h3.2.2.symm))
theorem Wn(h1:(↑c:Int)=(↑d:Int)-(↑e:Int)-u/\(↑(c+f):Int)=(↑g:Int)-(↑d:Int)+v/\(↑(c+f+a):Int)=(↑e:Int)+w)(h2:(↑i:Int)=(↑j:Int)-(↑k:Int)-u/\(↑(i+l):Int)=(↑m:Int)-(↑j:Int)+v/\(↑(i+l+b):Int)=(↑k:Int)+w)(h3:g=m)(h4:d=j)(h5:e=k):a=b:=(ar (JG 0xa28429084204042b39a1040548584404a10862ce6820220950b20c508202218a08005004316112c81 tt (af h1.2.1.symm) (af h1.2.2) (af h2.2.1) (af h2.2.2.symm) (ah h3.symm) (ah h4) (ah h5)) (JG 0x45842338426104215a16a4a21040449441003a0c862c22284108202442c2200d02431610410111541 tt (af h1.2.1) (af h1.2.2.symm) (af h2.2.1.symm) (af h2.2.2) (ah h3) (ah h4.symm) (ah h5.symm)))
theorem Wo(h1:(↑c:Int)=(↑d:Int)-(↑e:Int)-u/\(↑(c+a):Int)=(↑f:Int)-(↑d:Int)+v/\(↑(c+a+g):Int)=(↑e:Int)+w)(h2:(↑i:Int)=(↑j:Int)-(↑k:Int)-u/\(↑(i+b):Int)=(↑l:Int)-(↑j:Int)+v/\(↑(i+b+m):Int)=(↑k:Int)+w)(h3:f=l)(h4:d=j)(h5:e=k):a=b:=(ar (vJ 0x1c21080c20a0810a4b0404c84218b088074190c61501104082218b18a0808848005004318112461 tt (af h1.1.symm) (af h1.2.1) (af h2.1) (af h2.2.1.symm) (ah h3) (ah h4.symm) (ah h5)) (vJ 0x8c10942208d21084a84a18b41e08088e8019054318111010404281a18b088024050c6010111101 tt (af h1.1) (af h1.2.1.symm) (af h2.1.symm) (af h2.2.1) (ah h3.symm) (ah h4) (ah h5.symm)))
theorem Wq(h1:(↑a:Int)=(↑c:Int)-(↑d:Int)-u/\(↑(a+e):Int)=(↑f:Int)-(↑c:Int)+v/\(↑(a+e+g):Int)=(↑d:Int)+w)(h2:(↑b:Int)=(↑i:Int)-(↑j:Int)-u/\(↑(b+k):Int)=(↑l:Int)-(↑i:Int)+v/\(↑(b+k+m):Int)=(↑j:Int)+w)(h3:f=l)(h4:c=i)(h5:d=j):a=b:=(ar (Ni 0x22042308425400881a18c088024050c6010111401 tt (af h1.1) (af h2.1.symm) (ah h4) (ah h5.symm)) (Ni 0x508420204202a0886306808848005004318110861 tt (af h1.1.symm) (af h2.1) (ah h4.symm) (ah h5)))
theorem Wr(h1:(↑c:Int)=(↑d:Int)-(↑e:Int)-u/\(↑(c+f):Int)=(↑a:Int)-(↑d:Int)+v/\(↑(c+f+g):Int)=(↑e:Int)+w)(h2:(↑i:Int)=(↑j:Int)-(↑k:Int)-u/\(↑(i+l):Int)=(↑b:Int)-(↑j:Int)+v/\(↑(i+l+m):Int)=(↑k:Int)+w)(h3:g=m)(h4:f=l)(h5:c=i):a=b:=(ar (ln [d,e,c,a,f,g,i,j,k,l,b,m] [u,v,w] 0x18430a4820aca1089085ad2684101104e85218b49a080880841d0c6190111482841020a16111050404081a18b08848005004318112861 tt (af h1.1.symm) (af h1.2.1.symm) (af h1.2.2.symm) (af h2.1) (af h2.2.1) (af h2.2.2) (ah h3) (ah h4) (ah h5)) (ln [c,d,e,f,a,g,j,k,i,b,l,m] [u,v,w] 0x10308d42095610ad48841023a16112910404c84a18b0890801d0643181108485946084101104282218b18208088024050c6010111121 tt (af h1.1) (af h1.2.1) (af h1.2.2) (af h2.1.symm) (af h2.2.1.symm) (af h2.2.2.symm) (ah h3.symm) (ah h4.symm) (ah h5.symm)))
theorem Ws(h1:(↑c:Int)=(↑a:Int)-(↑d:Int)-u/\(↑(c+e):Int)=(↑f:Int)-(↑a:Int)+v/\(↑(c+e+g):Int)=(↑d:Int)+w)(h2:(↑i:Int)=(↑b:Int)-(↑j:Int)-u/\(↑(i+k):Int)=(↑l:Int)-(↑b:Int)+v/\(↑(i+k+m):Int)=(↑j:Int)+w)(h3:g=m)(h4:e=k)(h5:c=i):a=b:=(ar (vJ 0x51082818429204213a16941610404403a0c8630a808883142080850b08848005004318111801 tt (af h1.1.symm) (af h1.2.2.symm) (af h2.1) (af h2.2.2) (ah h3) (ah h4) (ah h5)) (vJ 0x38823404244842941e10404c858447400c82a18c0882242c8304208088024050c60101104a1 tt (af h1.1) (af h1.2.2) (af h2.1.symm) (af h2.2.2.symm) (ah h3.symm) (ah h4.symm) (ah h5.symm)))
theorem Wt(h1:(↑c:Int)=(↑d:Int)-(↑a:Int)-u/\(↑(c+e):Int)=(↑f:Int)-(↑d:Int)+v/\(↑(c+e+g):Int)=(↑a:Int)+w)(h2:(↑i:Int)=(↑j:Int)-(↑b:Int)-u/\(↑(i+k):Int)=(↑l:Int)-(↑j:Int)+v/\(↑(i+k+m):Int)=(↑b:Int)+w)(h3:g=m)(h4:e=k)(h5:c=i):a=b:=(ar (Hx 0x10210944109861080e8598a48410110c41841000216111c01 tt (af h1.2.2.symm) (af h2.2.2) (ah h3) (ah h4) (ah h5)) (Hx 0xa1084c1088e109cc5841002216110068588208410110c81 tt (af h1.2.2) (af h2.2.2.symm) (ah h3.symm) (ah h4.symm) (ah h5.symm)))
theorem Wu:a % 3<=2:=(aN 24876988552193 tt (dR _ (by decide:0<3)))
theorem Wv(h1:(↑c:Int)=(↑d:Int)-(↑e:Int)-u/\(↑(c+f):Int)=(↑a:Int)-(↑d:Int)+v/\(↑(c+f+g):Int)=(↑e:Int)+w)(h2:(↑i:Int)=(↑j:Int)-(↑k:Int)-u/\(↑(i+l):Int)=(↑b:Int)-(↑j:Int)+v/\(↑(i+l+m):Int)=(↑k:Int)+w)(h3:g+2*f+3*c<m+2*l+3*i):a<b:=(ln [d,e,c,a,f,g,i,j,k,l,b,m] [u,v,w] 0x187148a2b842821c48289610804224216b49a10404413a14862d268202202107431864044520a104082858444141010206862c22120014010c6044aa0e01 tt (af h1.1.symm) (af h1.2.1.symm) (af h1.2.2.symm) (af h2.1) (af h2.2.1) (af h2.2.2) h3)
theorem Ww(h1:(↑c:Int)=(↑a:Int)-(↑d:Int)-u/\(↑(c+e):Int)=(↑f:Int)-(↑a:Int)+v/\(↑(c+e+g):Int)=(↑d:Int)+w)(h2:(↑i:Int)=(↑b:Int)-(↑j:Int)-u/\(↑(i+k):Int)=(↑l:Int)-(↑b:Int)+v/\(↑(i+k+m):Int)=(↑j:Int)+w)(h3:g+e+2*c<m+k+2*i):a<b:=(vJ 0x514509842821446484201084e85a50584101100e83218c2a02220c508202142c22120014010c60446a0201 tt (af h1.1.symm) (af h1.2.2.symm) (af h2.1) (af h2.2.2) h3)
theorem Wx(h1:(↑c:Int)=(↑d:Int)-(↑a:Int)-u/\(↑(c+e):Int)=(↑f:Int)-(↑d:Int)+v/\(↑(c+e+g):Int)=(↑a:Int)+w)(h2:(↑i:Int)=(↑j:Int)-(↑b:Int)-u/\(↑(i+k):Int)=(↑l:Int)-(↑j:Int)+v/\(↑(i+k+m):Int)=(↑b:Int)+w)(h3:g+e+c<m+k+i):a<b:=(Hx 0x10a68428110e10804203a1662921040443106104000858447a0201 tt (af h1.2.2.symm) (af h2.2.2) h3)
theorem Wy(h1:(↑c:Int)=(↑g:Int)-(↑i:Int)-u/\(↑(c+b):Int)=(↑j:Int)-(↑g:Int)+v/\(↑(c+b+a):Int)=(↑i:Int)+w)(h2:(↑f:Int)=(↑k:Int)-(↑l:Int)-u/\(↑(f+e):Int)=(↑m:Int)-(↑k:Int)+v/\(↑(f+e+d):Int)=(↑l:Int)+w)(h3:j<m):a+2*b+3*c<d+2*e+3*f:=(ln [c,g,i,b,j,a,k,l,f,m,e,d] [u,v,w] 0x26848042b52210408e85844a441013212862c22420074190c604421216518210404410a08862c60820220090143180404481c5428ae10a007118a2584201 tt (af h1.1) (af h1.2.1) (af h1.2.2) (af h2.1.symm) (af h2.2.1.symm) (af h2.2.2.symm) h3)
theorem Wz(h1:(↑c:Int)=(↑g:Int)-(↑i:Int)-u/\(↑(c+b):Int)=(↑j:Int)-(↑g:Int)+v/\(↑(c+b+a):Int)=(↑i:Int)+w)(h2:(↑f:Int)=(↑k:Int)-(↑l:Int)-u/\(↑(f+e):Int)=(↑m:Int)-(↑k:Int)+v/\(↑(f+e+d):Int)=(↑l:Int)+w)(h3:g<k):a+b+2*c<d+e+2*f:=(vJ 0x5a06010a507841013216111d00320a8630220890b20c108202200901431804044714509842801446484201 tt (af h1.1) (af h1.2.2) (af h2.1.symm) (af h2.2.2.symm) h3)
theorem WA(h1:(↑c:Int)=(↑g:Int)-(↑i:Int)-u/\(↑(c+b):Int)=(↑j:Int)-(↑g:Int)+v/\(↑(c+b+a):Int)=(↑i:Int)+w)(h2:(↑f:Int)=(↑k:Int)-(↑l:Int)-u/\(↑(f+e):Int)=(↑m:Int)-(↑k:Int)+v/\(↑(f+e+d):Int)=(↑l:Int)+w)(h3:i<l):a+b+c<d+e+f:=(Hx 0x1283804273161040088584401a162082104044531e10a002284201 tt (af h1.2.2) (af h2.2.2.symm) h3)
theorem WB(h1:a<4):97+(u.toNat % 2*4+a) % 4-97=a:=by simp[*]
theorem WC(h1:a<4):97+(u.toNat / 2*4+a) % 4-97=a:=by simp[*]
theorem WD(h1:aF (↑(aF a b):Int) u+1<=0):False:=(KP 8833120349218 tt h1 (bO _ _))
theorem WE(h1:0<=u/\u<=2)(h2:0<=v/\v<=2)(h3:(u=2->v=0)/\(u=1->v=1))(h4:w<=v)(h5:1<=u)(h6:1<=v):u=1:=by lia
theorem WG(h1:a<b):(↑a:Int)≠(↑b:Int):=(λg1=>(lK 9051216281616417 tt h1 (af g1.symm)))
theorem WH(h1:b<a):(↑a:Int)≠(↑b:Int):=(λg1=>(lK 9051216281616417 tt h1 (af g1)))
theorem WI(h1:0<=u/\u<=2)(h2:u≠0):u=1\/u=2:=(cE λg5=>((cy h2).elim (λg6=>(je 545369614203938 tt h1.1 g6)) λg7=>((cy (λe_=>g5 (.inl e_))).elim (λg8=>(je 0x8400b088107ac22 tt g7 g8)) λg9=>((cy (λe_=>g5 (.inr e_))).elim (λDO=>(je 0x8c00b0881082c22 tt g9 DO)) λCI=>(je 18188148965410 tt h1.2 CI)))))
theorem WJ(h1:a=5)(h2:b>=5):a<=b:=(aX 0x7010e00108401 tt (ah h1) h2)
theorem WK(h1:0<=v)(h2:0<=u):0<=u+v:=(dQ 0x178440784400ade1 tt h1 h2)
end
theorem iC{α:Type}{x:Option α}{y:α}{P:Prop}(h:x=none)(e:x=some y):P:=(Option.some_ne_none _ (e.symm.trans h)).elim
theorem nM{α:Type}{x:Option α}{y z:α}(h:x=some y)(e:x=some z):y=z:=cg (h.symm.trans e)
theorem sn{α:Type}{x:Option α}{y:α}(h:x=some y):x≠none:=λe=>iC e h
theorem none_of{α:Type}{x:Option α}(h:∀y,x=some y->False):x=none:=match x,h with
 |none,_=>rfl
 |some y,h=>(h y rfl).elim
section
open PySem PySem.W PyProof.Rows
noncomputable abbrev Fz:=Addr->Option Obj
noncomputable def Fz.le(f g:Fz):Prop:=∀a o,f a=some o->g a=some o
noncomputable def Fz.put(f:Fz)(a:Addr)(o:Obj):Fz:=λb=>if b=a then some o else f b
noncomputable def Fz.del(f:Fz)(a:Addr):Fz:=λb=>if b=a then none else f b
theorem Fz.le.refl(f:Fz):f.le f:=λ_ _ e=>e
theorem Fz.le.trans{f g h:Fz}(x:f.le g)(y:g.le h):f.le h:=λa o e=>y a o (x a o e)
theorem Fz.aJ(f:Fz)(a:Addr)(o:Obj):f.put a o a=some o:=by simp[Fz.put]
theorem Fz.az{f:Fz}{a b:Addr}{o:Obj}(h:b≠a):f.put a o b=f b:=by simp[Fz.put,h]
theorem Fz.bP{f:Fz}{a:Addr}{o:Obj}(h:f a=none):f.le (f.put a o):=λb o' e=>by
 by_cases hb:b=a
 ·subst hb; exact iC h e
 ·rw[Fz.az hb]; exact e
inductive D where
 |none
 |bool (b:Bool)
 |int (i:Int)
 |str (x:Str)
 |list (ds:List D)
 |tup (ds:List D)
 |Bs (a b:Int)
 |raw (v:Value)
 |obj (C:Addr) (fs:List (Str×D))
 deriving Inhabited
noncomputable def PL(o:Obj):Prop:=o.cls= .type "list" /\o.dict=none/\o.slots=#[]
inductive WL(f:Fz)(K:Obj->Prop)(P:List Value->Prop)(v:Value):Prop
 |mk (a:Addr) (o:Obj) (vs:List Value) (n:Nat) (h1:v= .ref a) (h2:f a=some o) (h3:K o) (h4:o.data= .seq ⟨vs⟩ n) (h5:P vs):WL f K P v
inductive Zw(f:Fz)(a b:Int)(v:Value):Prop
 |mk (r:Addr) (t u w:Tok) (h1:v= .ref r) (h2:f r=some {cls:= .type "range",data:= .fields #[.int a t, .int b u, .int 1 w]}):Zw f a b v
inductive Zy(f:Fz)(C:Addr)(P:List cz->Prop)(v:Value):Prop
 |mk (a dx:Addr) (es:List cz) (n:Nat) (h1:v= .ref a) (h2:f a=some (kf C dx)) (h3:f dx=some (dictOf es n)) (h4:P es):Zy f C P v
inductive Zz(P:Value->Prop)(Q:List Value->Prop)(vs:List Value):Prop
 |mk (v:Value) (r:List Value) (h1:vs=v::r) (h2:P v) (h3:Q r):Zz P Q vs
inductive ZA(n:Str)(P:Value->Prop)(Q:List cz->Prop)(es:List cz):Prop
 |mk (h:Int) (t:Tok) (v:Value) (r:List cz) (h1:es=⟨h, .str n t,v⟩::r) (h2:P v) (h3:Q r):ZA n P Q es
mutual
noncomputable def Den(f:Fz):D->Value->Prop
 | .none,v=>v= .none
 | .bool b,v=>v= .bool b
 | .int i,v=>∃t,v= .int i t
 | .str x,v=>∃t,v= .str x t
 | .list ds,v=>WL f PL (bQ f ds) v
 | .tup ds,v=>WL f (λo=>o.cls= .type "tuple") (bQ f ds) v
 | .Bs a b,v=>Zw f a b v
 | .raw u,v=>v=u
 | .obj C fs,v=>Zy f C (eZ f fs) v
noncomputable def bQ(f:Fz):List D->List Value->Prop
 |[],vs=>vs=[]
 |d::ds,vs=>Zz (Den f d) (bQ f ds) vs
noncomputable def eZ(f:Fz):List (Str×D)->List cz->Prop
 |[],es=>es=[]
 |(n,d)::fs,es=>ZA n (Den f d) (eZ f fs) es
end
mutual
theorem Den.mono{f g:Fz}(h:f.le g):∀{d:D} {v:Value},Den f d v->Den g d v
 | .none,_,e=>e
 | .bool _,_,e=>e
 | .int _,_,e=>e
 | .str _,_,e=>e
 | .Bs _ _,_,⟨r,t,u,w,e,x⟩=>⟨r,t,u,w,e,h _ _ x⟩
 | .raw _,_,e=>e
 | .list _,_,⟨a,o,vs,n,e,x,c,y,z⟩=>⟨a,o,vs,n,e,h _ _ x,c,y,bQ.mono h z⟩
 | .tup _,_,⟨a,o,vs,n,e,x,c,y,z⟩=>⟨a,o,vs,n,e,h _ _ x,c,y,bQ.mono h z⟩
 | .obj _ _,_,⟨a,dx,es,n,e,x,y,z⟩=>⟨a,dx,es,n,e,h _ _ x,h _ _ y,eZ.mono h z⟩
theorem bQ.mono{f g:Fz}(h:f.le g):∀{ds:List D} {vs:List Value},bQ f ds vs->bQ g ds vs
 |[],_,e=>e
 |_::_,_,⟨v,r,e,x,y⟩=>⟨v,r,e,Den.mono h x,bQ.mono h y⟩
theorem eZ.mono{f g:Fz}(h:f.le g):∀{fs:List (Str×D)} {es:List cz},eZ f fs es->eZ g fs es
 |[],_,e=>e
 |(_,_)::_,_,⟨a,t,v,r,e,x,y⟩=>⟨a,t,v,r,e,Den.mono h x,eZ.mono h y⟩
end
theorem bQ.length{f:Fz}:∀{ds:List D} {vs:List Value},bQ f ds vs->vs.length=ds.length
 |[],_,e=>by rw[show _=[] from e]; rfl
 |_::_,_,⟨v,r,e,_,y⟩=>by rw[e,aQ,aQ,bQ.length y]
theorem bQ.nil{f:Fz}:bQ f [] []:=rfl
theorem bQ.cons{f:Fz}{d:D}{ds:List D}{v:Value}{vs:List Value}(x:Den f d v)(y:bQ f ds vs):bQ f (d::ds) (v::vs):=⟨v,vs,rfl,x,y⟩
theorem bQ.get{f:Fz}:∀{ds:List D} {vs:List Value},bQ f ds vs->∀{i:Nat} {d:D},ds[i]? =some d->∃v,vs[i]? =some v/\Den f d v
 |[],_,_,i,_,e=>by simp at e
 |_::_,_,⟨v,r,e,x,y⟩,0,d,q=>by subst e; simp at q; subst q; exact⟨v,rfl,x⟩
 |_::_,_,⟨v,r,e,x,y⟩,i+1,d,q=>by subst e; simp at q; simpa using bQ.get y q
theorem bQ.append{f:Fz}:∀{ds es:List D} {vs us:List Value},bQ f ds vs->bQ f es us->bQ f (ds++es) (vs++us)
 |[],_,_,_,e,y=>by rw[show _=[] from e]; exact y
 |_::_,_,_,_,⟨v,r,e,x,z⟩,y=>by subst e; exact⟨v,r++_,rfl,x,bQ.append z y⟩
theorem bQ.snoc{f:Fz}{ds:List D}{vs:List Value}{d:D}{v:Value}(x:bQ f ds vs)(y:Den f d v):bQ f (ds++[d]) (vs++[v]):=x.append (.cons y .nil)
theorem bQ.get'{f:Fz}:∀{ds:List D} {vs:List Value},bQ f ds vs->∀{i:Nat} {v:Value},vs[i]? =some v->∃d,ds[i]? =some d/\Den f d v
 |[],_,e,i,_,q=>by rw[show _=[] from e] at q; simp at q
 |_::_,_,⟨v,r,e,x,y⟩,0,w,q=>by subst e; simp at q; subst q; exact⟨_,rfl,x⟩
 |_::_,_,⟨v,r,e,x,y⟩,i+1,w,q=>by subst e; simp at q; simpa using bQ.get' y q
theorem bQ.reverse{f:Fz}:∀{ds:List D} {vs:List Value},bQ f ds vs->bQ f ds.reverse vs.reverse
 |[],_,e=>by rw[show _=[] from e]; rfl
 |_::_,_,⟨v,r,e,x,y⟩=>by subst e; rw[GZ,GZ]; exact y.reverse.snoc x
theorem bQ.of_append{f:Fz}:∀{ds es:List D} {vs:List Value},bQ f (ds++es) vs->∃v1 v2,vs=v1++v2/\bQ f ds v1/\bQ f es v2
 |[],_,vs,h=>⟨[],vs,rfl,rfl,h⟩
 |_::_,_,_,⟨v,r,e,x,y⟩=>by
  obtain⟨a,b,e',p,q⟩:=bQ.of_append y
  exact⟨v::a,b,by rw[e,e']; rfl,⟨v,a,rfl,x,p⟩,q⟩
structure Base where
 f:Fz
 side:Addr->Prop
 sq:Addr->Obj->Prop
 os:OsState
 dq:Drawn->Prop
 gq:Array GenState->Prop
 nolimit:∀h:Heap,(∀a x,f a=some x->h.get? a=some x)->h.NoLimit
 ftab:∀a,side a->f a=none
noncomputable def MX:Type:={m:Array Value // TriplesOk m.toList}
noncomputable def MX.obj(m:MX):Obj:={cls:= .none,data:= .fields m.1}
variable (B:Base)
structure St(f o:Fz)(s:Shared):Prop where
 sub:∀a x,f a=some x->s.heap.get? a=some x
 own:∀a x,o a=some x->s.heap.get? a=some x
 apart:∀a x,f a=some x->o a=none
 base:B.f.le f
 tab:∀a,B.side a->∃x,s.heap.get? a=some x/\B.sq a x
 fq:∀a,B.side a->f a=none/\o a=none
 os:s.os=B.os/\B.dq s.drawn
 gens:B.gq s.gens
section
variable {B}{f o f' o':Fz}{s:Shared}
theorem St.tok(S:St B f o s)(t:Tok):St B f o {s with toks:=t}:=⟨S.sub,S.own,S.apart,S.base,S.tab,S.fq,S.os,S.gens⟩
theorem St.lt(S:St B f o s){a:Addr}{x:Obj}(h:f a=some x\/o a=some x):a<s.heap.objs.size:=by
 rcases h with h|h
 ·exact bJ (S.sub _ _ h)
 ·exact bJ (S.own _ _ h)
theorem St.gR(S:St B f o s):f s.heap.objs.size=none:=by
 exact none_of λx h=>absurd (S.lt (.inl h)) (iM _)
theorem St.fc(S:St B f o s):o s.heap.objs.size=none:=by
 exact none_of λx h=>absurd (S.lt (.inr h)) (iM _)
theorem St.fw(S:St B f o s){a:Addr}{x:Obj}(h:o a=some x):f a=none:=by
 refine none_of λy q=>?_
 exact iC (S.apart _ _ q) h
theorem St.ju(S:St B f o s){a:Addr}(ha:B.side a):a<s.heap.objs.size:=let⟨_,h,_⟩:=S.tab a ha; bJ h
theorem St.iH(S:St B f o s){a:Addr}{x:Obj}(h:f a=some x\/o a=some x):¬B.side a:=λha=>by
 rcases h with h|h
 ·exact iC ((S.fq a ha).1) h
 ·exact iC ((S.fq a ha).2) h
theorem St.jv(S:St B f o s)(x:Obj)(hx:x.isFreed=false:=by rfl):St B (f.put s.heap.objs.size x) o {s with heap:=s.heap.push x}:=by
 refine⟨λa y e=>?_,λa y e=>aH _ (S.own a y e),λa y e=>?_,S.base.trans (Fz.bP S.gR),λc hc=>let⟨z,hz,hq⟩:=S.tab c hc; ⟨z,aH _ hz,hq⟩,?_,S.os,S.gens⟩
 ·by_cases h:a=s.heap.objs.size
  ·subst h; cases nM (Fz.aJ ..) e; exact bC _ hx
  ·rw[Fz.az h] at e; exact aH _ (S.sub a y e)
 ·by_cases h:a=s.heap.objs.size
  ·subst h; exact S.fc
  ·rw[Fz.az h] at e; exact S.apart a y e
 ·exact λc hc=>⟨by rw[Fz.az (bg (S.ju hc))]; exact(S.fq c hc).1,(S.fq c hc).2⟩
theorem St.gW(S:St B f o s)(x:Obj)(hx:x.isFreed=false:=by rfl):St B f (o.put s.heap.objs.size x) {s with heap:=s.heap.push x}:=by
 refine⟨λa y e=>aH _ (S.sub a y e),λa y e=>?_,λa y e=>?_,S.base,λc hc=>let⟨z,hz,hq⟩:=S.tab c hc; ⟨z,aH _ hz,hq⟩,?_,S.os,S.gens⟩
 ·by_cases h:a=s.heap.objs.size
  ·subst h; cases nM (Fz.aJ ..) e; exact bC _ hx
  ·rw[Fz.az h] at e; exact aH _ (S.own a y e)
 ·have h:a≠s.heap.objs.size:=bg (S.lt (.inl e))
  rw[Fz.az h]; exact S.apart a y e
 ·exact λc hc=>⟨(S.fq c hc).1,by rw[Fz.az (bg (S.ju hc))]; exact(S.fq c hc).2⟩
theorem St.same(S:St B f o s){a:Addr}{x x':Obj}{h':Heap}(ha:o a=some x)(hs:fu a s.heap h')(hx:h'.get? a=some x'):St B f (o.put a x') {s with heap:=h'}:=by
 have JJ:=S.fw ha
 refine⟨λb y e=>?_,λb y e=>?_,λb y e=>?_,S.base,?_,?_,S.os,S.gens⟩
 ·have hb:b≠a:=λh=>by subst h; exact iC JJ e
  exact(hs.2 b hb).trans (S.sub b y e)
 ·by_cases hb:b=a
  ·subst hb; cases nM (Fz.aJ ..) e; exact hx
  ·rw[Fz.az hb] at e; exact(hs.2 b hb).trans (S.own b y e)
 ·have hb:b≠a:=λh=>by subst h; exact iC JJ e
  rw[Fz.az hb]; exact S.apart b y e
 ·exact λc hc=>let⟨z,hz,hq⟩:=S.tab c hc; ⟨z,(hs.2 _ λq=>S.iH (.inr ha) (q▸hc)).trans hz,hq⟩
 ·intro c hc
  have hb:c≠a:=λq=>S.iH (.inr ha) (q▸hc)
  exact⟨(S.fq c hc).1,by rw[Fz.az hb]; exact(S.fq c hc).2⟩
theorem St.drop(S:St B f o s)(h:o'.le o):St B f o' s:=
 ⟨S.sub,λa x e=>S.own a x (h a x e),λa x e=>by cases q:o' a with|none=>rfl|some y=>(have:=h a y q; exact iC (S.apart a x e) this),S.base,S.tab,
  λc hc=>⟨(S.fq c hc).1,by cases q:o' c with|none=>rfl|some y=>exact absurd (h _ _ q) (by rw[(S.fq c hc).2]; simp)⟩,S.os,S.gens⟩
set_option tactic.hygienic true in
theorem St.freeze(S:St B f o s){a:Addr}{x:Obj}(ha:o a=some x):St B (f.put a x) (o.del a) s:=by
 have JJ:=S.fw ha
 refine⟨λb y e=>?_,λb y e=>?_,λb y e=>?_,S.base.trans (Fz.bP JJ),S.tab,?_,S.os,S.gens⟩
 ·by_cases hb:b=a
  ·subst hb; cases nM (Fz.aJ ..) e; exact S.own _ _ ha
  ·rw[Fz.az hb] at e; exact S.sub b y e
 ·unfold Fz.del at e; split at e
  ·exact nomatch e
  ·exact S.own b y e
 ·unfold Fz.del
  split
  ·rfl
  ·rename_i hb
   rw[Fz.az hb] at e; exact S.apart b y e
 ·intro c hc
  have hb:c≠a:=λq=>S.iH (.inr ha) (q▸hc)
  exact⟨by rw[Fz.az hb]; exact(S.fq c hc).1,by simp only[Fz.del,hb,if_false]; exact(S.fq c hc).2⟩
end
structure Wd where
 prog:gu
 w:World
 B:Base
noncomputable abbrev Wd.M(W:Wd):Model:=model W.prog W.w
structure Rm(A:Around):Prop where
 depth:A.depth<=600
 units:A.units<=6000
structure Res where
 v:Value
 as:List Addr
 P:Fz->Fz->Prop
 mono:∀f f' o o',f.le f'->(∀a∈as,∀x,o a=some x->o' a=some x)->P f o->P f' o'
 there:∀f o,P f o->∀a∈as,∃x,o a=some x
inductive Bd where
 |unset
 |val (d:D)
 |res (own:Bool) (r:Res)
noncomputable abbrev Ro:=List (Str×Bd)
structure Cx where
 env:Env
 A:Around
 names:List (Str×aC)
structure Cx.Ok(C:Cx):Prop where
 kind:C.env.scope.kind= .function
 glob:C.env.globals=bV
 HE:C.env.builtins=cP
 kinds:∀n k,(n,k)∈C.names->k≠ .free->C.env.kindOf n=some k
 frees:∀n,(n,cM)∈C.names->C.env.kindOf n=some .cell\/C.env.kindOf n=some .free
 apart:∀n n' c c',C.env.kindOf n=some .cell\/C.env.kindOf n=some .free->C.env.kindOf n'=some .cell\/C.env.kindOf n'=some .free->
  C.env.cells.lookup n=some c->C.env.cells.lookup n'=some c'->n≠n'->c≠c'
 room:Rm C.A
theorem fZ{α:Type}{n:Str}{k:α}{l:List (Str×α)}(h:(n,k)∈l):n∈l.map (·.1):=aw.mpr ⟨_,h,rfl⟩
theorem cJ{α:Type}:∀{l:List (Str×α)},(l.map (·.1)).Nodup->∀{n:Str} {k:α},(n,k)∈l->l.lookup n=some k
 |(x,y)::l,h,n,k,hm=>by
  rw[aO,fU] at h
  rw[eG]
  rcases au.mp hm with e|NJ
  ·cases e; simp
  ·have:n≠x:=λe=>h.1 (e▸fZ NJ)
   rw[show(n==x)=false from beq_eq_false_iff_ne.mpr this]
   exact cJ h.2 NJ
inductive LstIs(f o:Fz)(a:Addr)(ds:List D):Prop
 |mk (ob:Obj) (vs:List Value) (n:Nat) (h1:o a=some ob) (h2:PL ob) (h3:ob.data= .seq ⟨vs⟩ n) (h4:bQ f ds vs):LstIs f o a ds
inductive NK(E:Env)(o:Fz)(n:Str)(vo:Option Value):Prop
 |mk (h1:E.kindOf n=some .local) (ob:Obj) (es:Array cz) (ep:Nat) (h2:o E.locals=some ob) (h3:ob.data= .dict es ep) (h4:StrKeys es) (h5:nsFind es n=vo):NK E o n vo
inductive NL(E:Env)(o:Fz)(n:Str)(vo:Option Value):Prop
 |mk (h1:E.kindOf n=some .cell\/E.kindOf n=some .free) (c:Addr) (ob:Obj) (h2:E.cells.lookup n=some c) (h3:o c=some ob) (h4:ob.data= .cell vo):NL E o n vo
inductive NM(E:Env)(o:Fz):Prop
 |mk (ob:Obj) (es:Array cz) (ep:Nat) (h1:o E.locals=some ob) (h2:ob.data= .dict es ep) (h3:StrKeys es):NM E o
noncomputable def kI(C:Cx)(o:Fz)(n:Str)(vo:Option Value):Prop:=
 NK C.env o n vo\/NL C.env o n vo
noncomputable def Holds(f o:Fz):Bd->Option Value->Prop
 | .unset,_=>True
 | .val d,vo=>∃v,vo=some v/\Den f d v
 | .res _ r,vo=>vo=some r.v/\r.P f o
noncomputable def Slots(C:Cx)(ρ:Ro)(a:Addr):Prop:=a=C.env.locals\/∃n,n∈ρ.map (·.1)/\(C.env.kindOf n=some .cell\/C.env.kindOf n=some .free)/\C.env.cells.lookup n=some a
structure bc(C:Cx)(ρ:Ro)(f o:Fz):Prop where
 ok:C.Ok
 ns:NM C.env o
 vars:∀n b,(n,b)∈ρ->∃vo,kI C o n vo/\Holds f o b vo
 nd:(ρ.map (·.1)).Nodup
 sep:∀n u r,(n,Bd.res u r)∈ρ->∀a∈r.as,¬Slots C ρ a
 two:∀n n' u u' r r',(n,Bd.res u r)∈ρ->(n',Bd.res u' r')∈ρ->n≠n'->∀a∈r.as,a∉r'.as
section
variable {C:Cx}{ρ:Ro}{f o f' o':Fz}
theorem LstIs.mono(h:f.le f')(ho:o.le o'){a:Addr}{ds:List D}(x:LstIs f o a ds):LstIs f' o' a ds:=let⟨ob,vs,n,p,q,r,t⟩:=x; ⟨ob,vs,n,ho _ _ p,q,r,t.mono h⟩
theorem Holds.mono(h:f.le f')(ho:o.le o'){b:Bd}{vo:Option Value}(x:Holds f o b vo):Holds f' o' b vo:=by
 cases b with
 |unset=>trivial
 |val d=>obtain⟨v,e,y⟩:=x; exact⟨v,e,y.mono h⟩
 |res _ r=>exact⟨x.1,r.mono _ _ _ _ h (λa _=>ho a) x.2⟩
theorem kI.mono(ho:o.le o'){n:Str}{vo:Option Value}(x:kI C o n vo):kI C o' n vo:=by
 rcases x with⟨k,ob,es,ep,a,r,y1,y2⟩|⟨k,c,ob,l,a,r⟩
 ·exact .inl ⟨k,ob,es,ep,ho _ _ a,r,y1,y2⟩
 ·exact .inr ⟨k,c,ob,l,ho _ _ a,r⟩
theorem bc.mono(h:f.le f')(ho:o.le o')(x:bc C ρ f o):bc C ρ f' o':=
 ⟨x.ok,let⟨ob,es,ep,p,r,y1⟩:=x.ns; ⟨ob,es,ep,ho _ _ p,r,y1⟩,λn b hm=>let⟨vo,a,c⟩:=x.vars n b hm; ⟨vo,a.mono ho,c.mono h ho⟩,x.nd,x.sep,x.two⟩
end
inductive Ro.Set(n:Str)(b:Bd):Ro->Ro->Prop
 |head {qh ρ}:Ro.Set n b ((n,qh)::ρ) ((n,b)::ρ)
 |tail {p ρ a9}:Ro.Set n b ρ a9->Ro.Set n b (p::ρ) (p::a9)
theorem Ro.Set.keys{n:Str}{b:Bd}{ρ a9:Ro}(h:Ro.Set n b ρ a9):a9.map (·.1)=ρ.map (·.1):=by
 induction h with
 |head=>rfl
 |tail _ ih=>exact congrArg (List.cons _) ih
theorem Ro.Set.t4{n:Str}{b:Bd}{p q r t:Str×Bd}{ρ a9:Ro}(h:Ro.Set n b ρ a9):Ro.Set n b (p::q::r::t::ρ) (p::q::r::t::a9):= .tail (.tail (.tail (.tail h)))
theorem Ro.Set.t1{n:Str}{b qh:Bd}{p:Str×Bd}{ρ:Ro}:Ro.Set n b (p::(n,qh)::ρ) (p::(n,b)::ρ):= .tail .head
theorem Ro.Set.t2{n:Str}{b qh:Bd}{p q:Str×Bd}{ρ:Ro}:Ro.Set n b (p::q::(n,qh)::ρ) (p::q::(n,b)::ρ):= .tail (.tail .head)
theorem Ro.Set.t3{n:Str}{b qh:Bd}{p q r:Str×Bd}{ρ:Ro}:Ro.Set n b (p::q::r::(n,qh)::ρ) (p::q::r::(n,b)::ρ):= .tail (.tail (.tail .head))
theorem ZC{α:Type}{a p:α}{l:List α}:a∈p::a::l:= .tail _ (.head _)
theorem ZD{α:Type}{a p q:α}{l:List α}:a∈p::q::a::l:= .tail _ ZC
theorem me3{α:Type}{a p q r:α}{l:List α}:a∈p::q::r::a::l:= .tail _ ZD
theorem me4{α:Type}{a p q r s:α}{l:List α}(h:a∈l):a∈p::q::r::s::l:= .tail _ (.tail _ (.tail _ (.tail _ h)))
theorem Ro.Set.here{n:Str}{b:Bd}{ρ a9:Ro}(h:Ro.Set n b ρ a9):n∈ρ.map (·.1):=by
 induction h with
 |head=>exact .head _
 |tail _ ih=>exact .tail _ ih
theorem Ro.Set.mem{n:Str}{b:Bd}{ρ a9:Ro}(h:Ro.Set n b ρ a9):(ρ.map (·.1)).Nodup->∀{x:Str} {y:Bd},(x,y)∈a9->(x=n/\y=b)\/(x≠n/\(x,y)∈ρ):=by
 induction h with
 |head=>
  intro hn x y hm
  rcases au.mp hm with e|h2
  ·cases e; exact .inl ⟨rfl,rfl⟩
  ·exact .inr ⟨λe=>(fU.mp hn).1 (e▸fZ h2), .tail _ h2⟩
 |tail h ih=>
  intro hn x y hm
  have hn:=fU.mp hn
  rcases au.mp hm with e|h2
  ·subst e; exact .inr ⟨λe=>hn.1 (e.symm▸h.here), .head _⟩
  ·exact(ih hn.2 h2).imp id λq=>⟨q.1, .tail _ q.2⟩
noncomputable def pz(C:Cx)(ρ:Ro)(a:Addr):Prop:=a=C.env.locals\/(∃n,(n,aq)∈C.names/\n∈ρ.map (·.1)/\C.env.cells.lookup n=some a)\/∃n r,(n,Bd.res true r)∈ρ/\a∈r.as
noncomputable def Uses(C:Cx)(ρ:Ro)(a:Addr):Prop:=Slots C ρ a\/∃n u r,(n,Bd.res u r)∈ρ/\a∈r.as
theorem pz.uses{C:Cx}(O:C.Ok){ρ:Ro}{a:Addr}(h:pz C ρ a):Uses C ρ a:=by
 rcases h with h|⟨n,h1,h2,h3⟩|⟨n,r,h,h'⟩
 ·exact .inl (.inl h)
 ·exact .inl (.inr ⟨n,h2, .inl (O.kinds _ _ h1 (by decide)),h3⟩)
 ·exact .inr ⟨n,true,r,h,h'⟩
theorem bc.slot{C:Cx}{ρ:Ro}{f o:Fz}(H:bc C ρ f o){a:Addr}(h:Slots C ρ a):∃x,o a=some x:=by
 rcases h with rfl|⟨n,h1,h2,h3⟩
 ·obtain⟨ob,_,_,h,_⟩:=H.ns; exact⟨ob,h⟩
 ·obtain⟨⟨x,b⟩,hm,e⟩:=aw.mp h1
  dsimp only at e; subst e
  obtain⟨vo,hv,_⟩:=H.vars _ _ hm
  rcases hv with⟨k,_⟩|⟨_,c,ob,e1,e2,_⟩
  ·exfalso; rcases h2 with h2|h2<;>rw[h2] at k<;>exact nomatch k
  ·cases nM h3 e1; exact⟨ob,e2⟩
theorem bc.there{C:Cx}{ρ:Ro}{f o:Fz}(H:bc C ρ f o){a:Addr}(h:Uses C ρ a):∃x,o a=some x:=by
 rcases h with h|⟨n,u,r,h,h'⟩
 ·exact H.slot h
 ·obtain⟨vo,_,hh⟩:=H.vars _ _ h
  exact r.there _ _ hh.2 a h'
theorem bc.off{C:Cx}{ρ:Ro}{f o o':Fz}(H:bc C ρ f o)(h:∀a y,o a=some y->Uses C ρ a->o' a=some y):bc C ρ f o':=by
 refine⟨H.ok,?_,λn b hm=>?_,H.nd,H.sep,H.two⟩
 ·obtain⟨ob,es,ep,e,r,y1⟩:=H.ns; exact⟨ob,es,ep,h _ _ e (.inl (.inl rfl)),r,y1⟩
 ·obtain⟨vo,hv,hh⟩:=H.vars n b hm
  refine⟨vo,?_,?_⟩
  ·rcases hv with⟨k,ob,es,ep,e1,r,y1,y2⟩|⟨k,c,ob,e1,e2,r⟩
   ·exact .inl ⟨k,ob,es,ep,h _ _ e1 (.inl (.inl rfl)),r,y1,y2⟩
   ·exact .inr ⟨k,c,ob,e1,h _ _ e2 (.inl (.inr ⟨n,aw.mpr ⟨(n,b),hm,rfl⟩,k,e1⟩)),r⟩
  ·cases b with
   |unset=>trivial
   |val d=>exact hh
   |res u r=>exact⟨hh.1,r.mono _ _ _ _ (.refl f) (λa ha x e=>h a x e (.inr ⟨n,u,r,hm,ha⟩)) hh.2⟩
theorem Slots.set{C:Cx}{n:Str}{b:Bd}{ρ a9:Ro}(h:Ro.Set n b ρ a9){a:Addr}:Slots C a9 a↔Slots C ρ a:=by unfold Slots; rw[h.keys]
noncomputable def qi(C:Cx)(ρ:Ro)(o o':Fz):Prop:=∀a x,o a=some x->¬pz C ρ a->o' a=some x
theorem qi.refl{C:Cx}{ρ:Ro}(o:Fz):qi C ρ o o:=λ_ _ e _=>e
section
variable {W:Wd}{C:Cx}{ρ a9:Ro}{f o:Fz}{s:Shared}
theorem Eb(O:C.Ok)(S:St W.B f o s)(H:bc C ρ f o){n:Str}{d:D}{v:Value}(aU:Ro.Set n (.val d) ρ a9)(hd:Den f d v){Q:Unit->Shared->Prop}{E:Value->Shared->Prop}
 (hk:C.env.kindOf n=some .local)
 (h:∀o' s',St W.B f o' s'->bc C a9 f o'->qi C ρ o o'->Q () s'):wpAny W.M C.A (storeName C.env n v) Q E s:=by
 obtain⟨ob,es,ep,p,zZ,JK⟩:=H.ns
 have wV:s.heap.Ns C.env.locals (nsFind es):=⟨ob,es,ep,S.own _ _ p,zZ,JK,λ_=>rfl⟩
 refine wpAny_storeName_local hk wV (λh' hn hs=>?_) (by rw[O.kind]; rfl)
 obtain⟨ob',pH,Ec,q,z0,z8,Qu⟩:=hn
 refine h _ _ ((S.same p hs q).tok _) ⟨O,⟨ob',pH,Ec,Fz.aJ ..,z0,z8⟩,λx b hm=>?_,by rw[aU.keys]; exact H.nd,λx u r hm a ha hs=>?_,λx y u u' r r' p q=>?_⟩ λa x e hm=>?_
 ·rcases aU.mem H.nd hm with⟨rfl,rfl⟩|⟨hx,hm⟩
  ·exact⟨some v, .inl ⟨hk,ob',pH,Ec,Fz.aJ ..,z0,z8,(Qu _).trans (if_pos rfl)⟩,v,rfl,hd⟩
  ·obtain⟨vo,hv,hh⟩:=H.vars x b hm
   refine⟨vo,?_,?_⟩
   ·rcases hv with⟨k,nf,yf,yg,e1,e2,e3,e4⟩|⟨k,c,nf,e1,e2,e3⟩
    ·cases nM p e1
     rw[zZ] at e2; cases e2
     exact .inl ⟨k,ob',pH,Ec,Fz.aJ ..,z0,z8,((Qu _).trans (if_neg hx)).trans e4⟩
    ·have:c≠C.env.locals:=λe=>by subst e; cases nM p e2; rw[zZ] at e3; exact nomatch e3
     exact .inr ⟨k,c,nf,e1,by rw[Fz.az this]; exact e2,e3⟩
   ·cases b with
    |unset=>trivial
    |val d=>exact hh
    |res u r=>exact⟨hh.1,r.mono _ _ _ _ (.refl f) (λa ha y e=>by rw[Fz.az (λq=>H.sep x u r hm a ha (.inl q))]; exact e) hh.2⟩
 ·rcases aU.mem H.nd hm with⟨_,e⟩|⟨_,hm⟩
  ·exact nomatch e
  ·exact H.sep x u r hm a ha ((Slots.set aU).mp hs)
 ·rcases aU.mem H.nd p with⟨_,e⟩|⟨_,p⟩
  ·exact nomatch e
  ·rcases aU.mem H.nd q with⟨_,e⟩|⟨_,q⟩
   ·exact nomatch e
   ·exact H.two x y u u' r r' p q
 ·have:a≠C.env.locals:=λe=>hm (.inl e)
  rw[Fz.az this]; exact e
theorem HF(O:C.Ok)(S:St W.B f o s)(H:bc C ρ f o){n:Str}{d:D}{v:Value}(aU:Ro.Set n (.val d) ρ a9)(hd:Den f d v){Q:Unit->Shared->Prop}{E:Value->Shared->Prop}
 (ZE:(n,aq)∈C.names)
 (h:∀o' s',St W.B f o' s'->bc C a9 f o'->qi C ρ o o'->Q () s'):wpAny W.M C.A (storeName C.env n v) Q E s:=by
 have hk:=O.kinds _ _ ZE (by decide)
 obtain⟨qh,NN⟩:∃qh,(n,qh)∈ρ:=by
  have:=aU.here
  obtain⟨⟨x,b⟩,hm,e⟩:=aw.mp this
  exact⟨b,by subst e; exact hm⟩
 obtain⟨vo,hv,_⟩:=H.vars n qh NN
 rcases hv with⟨k,_⟩|⟨_,c,oc,hl,hc,si⟩
 ·cases nM hk k
 obtain⟨ob,es,ep,p,zZ,JK⟩:=H.ns
 refine wpAny_storeName_cell O.kind hk hl ⟨oc,S.own _ _ hc,si⟩ λh' hn hs=>?_
 obtain⟨oc',q,WM⟩:=hn
 have ZF:C.env.locals≠c:=λe=>by subst e; cases nM p hc; rw[zZ] at si; exact nomatch si
 refine h _ _ (S.same hc hs q) ⟨O,⟨ob,es,ep,by rw[Fz.az ZF]; exact p,zZ,JK⟩,λx b hm=>?_,by rw[aU.keys]; exact H.nd,λx u r hm a ha hs=>?_,λx y u u' r r' p q=>?_⟩ λa x e hm=>?_
 ·rcases aU.mem H.nd hm with⟨rfl,rfl⟩|⟨hx,hm⟩
  ·exact⟨some v, .inr ⟨.inl hk,c,oc',hl,Fz.aJ ..,WM⟩,v,rfl,hd⟩
  ·obtain⟨vo,hv,hh⟩:=H.vars x b hm
   refine⟨vo,?_,?_⟩
   ·rcases hv with⟨k,nf,yf,yg,e1,e2,e3,e4⟩|⟨k,c',nf,e1,e2,e3⟩
    ·exact .inl ⟨k,nf,yf,yg,by rw[Fz.az ZF]; exact e1,e2,e3,e4⟩
    ·have:c'≠c:=O.apart x n c' c k (.inl hk) e1 hl hx
     exact .inr ⟨k,c',nf,e1,by rw[Fz.az this]; exact e2,e3⟩
   ·cases b with
    |unset=>trivial
    |val d=>exact hh
    |res u r=>exact⟨hh.1,r.mono _ _ _ _ (.refl f) (λa ha y e=>by rw[Fz.az (λq=>H.sep x u r hm a ha (.inr ⟨n,aU.here, .inl hk,by rw[q]; exact hl⟩))]; exact e) hh.2⟩
 ·rcases aU.mem H.nd hm with⟨_,e⟩|⟨_,hm⟩
  ·exact nomatch e
  ·exact H.sep x u r hm a ha ((Slots.set aU).mp hs)
 ·rcases aU.mem H.nd p with⟨_,e⟩|⟨_,p⟩
  ·exact nomatch e
  ·rcases aU.mem H.nd q with⟨_,e⟩|⟨_,q⟩
   ·exact nomatch e
   ·exact H.two x y u u' r r' p q
 ·have:a≠c:=λe=>hm (.inr (.inl ⟨n,ZE,aU.here,e▸hl⟩))
  rw[Fz.az this]; exact e
theorem sA(O:C.Ok)(S:St W.B f o s)(H:bc C ρ f o){n:Str}{k:aC}{d:D}{v:Value}(hk:(n,k)∈C.names)(oZ:(k== .local||k== .cell)=true)
 (aU:Ro.Set n (.val d) ρ a9) (hd:Den f d v) {Q:Unit->Shared->Prop} {E:Value->Shared->Prop}
 (h:∀o' s',St W.B f o' s'->bc C a9 f o'->qi C ρ o o'->Q () s'):wpAny W.M C.A (storeName C.env n v) Q E s:=by
 cases k<;>first|cases oZ; done|skip
 ·exact Eb O S H aU hd (O.kinds _ _ hk (by decide)) h
 ·exact HF O S H aU hd hk h
noncomputable def eg(W:Wd)(C:Cx)(ρ:Ro)(e:Expr)(d:D):Prop:=∀f o s,St W.B f o s->bc C ρ f o->∀(Q:Value->Shared->Prop) (E:Value->Shared->Prop),
 (∀v f' s',f.le f'->St W.B f' o s'->Den f' d v->Q v s')->wpAny W.M C.A (eval e C.env) Q E s
noncomputable def vK(W:Wd)(C:Cx)(ρ:Ro)(e:Expr)(b:Bool):Prop:=∀f o s,St W.B f o s->bc C ρ f o->∀(Q:Bool->Shared->Prop) (E:Value->Shared->Prop),
 (∀f' s',f.le f'->St W.B f' o s'->Q b s')->wpAny W.M C.A (isTrue e C.env (eval e C.env)) Q E s
theorem sC(O:C.Ok)(S:St W.B f o s)(H:bc C ρ f o){n:Str}{b:Bd}{vo:Option Value}(_hm:(n,b)∈ρ)(hv:kI C o n vo){v:Value}(e:vo=some v){Q:Value->Shared->Prop}{E:Value->Shared->Prop}
 (si:(n==("__classdict__" :Str))=false) (h:Q v s):wpAny W.M C.A (loadName C.env n) Q E s:=by
 subst e
 rcases hv with⟨k,ob,es,ep,e1,e2,e3,e4⟩|⟨k,c,ob,e1,e2,e3⟩
 ·exact wpAny_loadName_local O.kind k ⟨ob,es,ep,S.own _ _ e1,e2,e3,λ_=>rfl⟩ e4 h
 ·rcases k with k|k
  ·exact wpAny_loadName_cell O.kind k e1 ⟨ob,S.own _ _ e2,e3⟩ h
  ·exact wpAny_loadName_free O.kind k e1 ⟨ob,S.own _ _ e2,e3⟩ h si
theorem eg.name(O:C.Ok){n:Str}{d:D}{pos:Pos}(hm:(n,Bd.val d)∈ρ)(h1:(n==("__debug__" :Str))=false)(h2:(n==("__classdict__" :Str))=false):eg W C ρ (.Name n pos) d:=λf o s S H Q E h=>by
 obtain⟨vo,hv,v,e,hd⟩:=H.vars _ _ hm
 exact uR (sC O S H hm hv e h2 (h v f s (.refl f) S hd)) h1
noncomputable def eJ(a:Addr)(ds:List D):Res where
 v:= .ref a
 as:=[a]
 P:=λf o=>LstIs f o a ds
 mono:=λf f' o o' h ho ⟨ob,vs,n,e,p,q,r⟩=>⟨ob,vs,n,ho a (.head _) _ e,p,q,r.mono h⟩
 there:=λf o ⟨ob,_,_,e,_,_,_⟩ x hx=>by rcases aA.mp hx with rfl; exact⟨ob,e⟩
theorem eg.int{i:Int}{k:Nat}{pos:Pos}:eg W C ρ (.Constant (.int i) k pos) (.int i):=λf _ s S _ _ _ h=>
 wpAny_Constant_int (h _ f _ (.refl f) (S.tok _) ⟨_,rfl⟩)
theorem eg.str{x:Str}{k:Nat}{pos:Pos}:eg W C ρ (.Constant (.str x) k pos) (.str x):=λf _ s S _ _ _ h=>
 p7 (h _ f _ (.refl f) (S.tok _) ⟨_,rfl⟩)
theorem eg.bool{b:Bool}{k:Nat}{pos:Pos}:eg W C ρ (.Constant (.bool b) k pos) (.bool b):=λf _ s S _ _ _ h=>
 ao (h _ f _ (.refl f) S rfl)
theorem eg.none{k:Nat}{pos:Pos}:eg W C ρ (.Constant .none k pos) .none:=λf _ s S _ _ _ h=>
 ao (h _ f _ (.refl f) S rfl)
noncomputable def lx(W:Wd)(t:Value->Value->Sem Value)(da db d:D):Prop:=∀A f o s va vb,Rm A->St W.B f o s->Den f da va->Den f db vb->∀(Q:Value->Shared->Prop) (E:Value->Shared->Prop),
 (∀v f' s',f.le f'->St W.B f' o s'->Den f' d v->Q v s')->wpAny W.M A (t va vb) Q E s
noncomputable def yh(W:Wd)(t:Value->Sem Value)(da d:D):Prop:=∀A f o s va,Rm A->St W.B f o s->Den f da va->∀(Q:Value->Shared->Prop) (E:Value->Shared->Prop),
 (∀v f' s',f.le f'->St W.B f' o s'->Den f' d v->Q v s')->wpAny W.M A (t va) Q E s
noncomputable def KY(W:Wd)(d:D)(b:Bool):Prop:=∀A f o s v,Rm A->St W.B f o s->Den f d v->∀(Q:Bool->Shared->Prop) (E:Value->Shared->Prop),(∀f' s',f.le f'->St W.B f' o s'->Q b s')->wpAny W.M A (truthy v) Q E s
theorem eg.bin(O:C.Ok){l r:Expr}{op:Operator}{pos:Pos}{da db d:D}(ha:eg W C ρ l da)(hb:eg W C ρ r db)(ho:lx W (jk op) da db d):eg W C ρ (.BinOp l op r pos) d:=λf o s S H Q E h=>
 Ju (ha f o s S H _ _ λva f1 s1 l1 S1 d1=>hb f1 o s1 S1 (H.mono l1 (.refl o)) _ _ λvb f2 s2 l2 S2 d2=>
  ho _ f2 o s2 va vb O.room S2 (d1.mono l2) d2 _ _ λv f3 s3 l3 S3 d3=>h v f3 s3 (l1.trans (l2.trans l3)) S3 d3)
theorem eg.cmp(O:C.Ok){l r:Expr}{op:CmpOp}{pos:Pos}{da db d:D}(ha:eg W C ρ l da)(hb:eg W C ρ r db)(ho:lx W (cc op) da db d)(hm:jl op r=false):eg W C ρ (.Compare l [op] [r] pos) d:=λf o s S H Q E h=>
 wpAny_Compare1 (ha f o s S H _ _ λva f1 s1 l1 S1 d1=>hb f1 o s1 S1 (H.mono l1 (.refl o)) _ _ λvb f2 s2 l2 S2 d2=>
  ho _ f2 o s2 va vb O.room S2 (d1.mono l2) d2 _ _ λv f3 s3 l3 S3 d3=>h v f3 s3 (l1.trans (l2.trans l3)) S3 d3) hm
theorem vK.cmp(O:C.Ok){l r:Expr}{op:CmpOp}{pos:Pos}{da db:D}{b:Bool}(ha:eg W C ρ l da)(hb:eg W C ρ r db)(ho:lx W (cc op) da db (.bool b))(hm:jl op r=false):vK W C ρ (.Compare l [op] [r] pos) b:=λf o s S H Q E h=>
 Hg (ha f o s S H _ _ λva f1 s1 l1 S1 d1=>hb f1 o s1 S1 (H.mono l1 (.refl o)) _ _ λvb f2 s2 l2 S2 d2=>
  ho _ f2 o s2 va vb O.room S2 (d1.mono l2) d2 _ _ λv f3 s3 l3 S3 d3=>by
   obtain rfl:v= .bool b:=d3
   exact vG (h f3 s3 (l1.trans (l2.trans l3)) S3)) hm
noncomputable def cK(W:Wd)(n:Str)(v:Value):Prop:=∀f o s,St W.B f o s->∀A env (Q:Value->Shared->Prop) (E:Value->Shared->Prop),env.globals=bV->env.builtins=cP->Q v s->wpAny W.M A (loadGlobal env n) Q E s
theorem eg.glob(O:C.Ok){n:Str}{v:Value}{pos:Pos}(hm:(n,ag)∈C.names)(g:cK W n v)(h1:(n==("__debug__" :Str))=false):eg W C ρ (.Name n pos) (.raw v):=λf o s S H Q E h=>by
 refine uR ?_ h1
 rw[loadName_read O.kind (O.kinds _ _ hm (by decide))]
 exact g f o s S _ _ _ _ O.glob O.HE (h v f s (.refl f) S rfl)
theorem vK.val(O:C.Ok){e:Expr}{d:D}{b:Bool}(x:eg W C ρ e d)(t:KY W d b)(he:isTrue e C.env (eval e C.env)=(do let v <-eval e C.env; dF e.pos; holding [v] (truthy v))):vK W C ρ e b:=λf o s S H Q E h=>
 wpAny_isTrue_value (x f o s S H _ _ λv f1 s1 l1 S1 d1=>t _ f1 o s1 v O.room S1 d1 _ _ λf2 s2 l2 S2=>h f2 s2 (l1.trans l2) S2) he
theorem vK.not{e:Expr}{b:Bool}{pos:Pos}(x:vK W C ρ e b):vK W C ρ (.UnaryOp .Not e pos) (!b):=λf o s S H Q E h=>
 wpAny_isTrue_Not (x f o s S H _ _ λf1 s1 l1 S1=>h f1 s1 l1 S1)
noncomputable def ly(W:Wd)(C:Cx)(ρ:Ro)(op:BoolOp)(es:List Expr)(b:Bool):Prop:=∀f o s,St W.B f o s->bc C ρ f o->∀(Q:Bool->Shared->Prop) (E:Value->Shared->Prop),
 (∀f' s',f.le f'->St W.B f' o s'->Q b s')->wpAny W.M C.A (allTrue op es C.env) Q E s
theorem vK.KZ{op:BoolOp}{es:List Expr}{b:Bool}{pos:Pos}(x:ly W C ρ op es b):vK W C ρ (.BoolOp op es pos) b:=λf o s S H Q E h=>wpAny_isTrue_BoolOp (x f o s S H _ _ h)
theorem ly.and_nil:ly W C ρ .And [] true:=λf o s S H Q E h=>wpAny_allTrue_And_nil (h f s (.refl f) S)
theorem ly.or_nil:ly W C ρ .Or [] false:=λf o s S H Q E h=>wpAny_allTrue_Or_nil (h f s (.refl f) S)
theorem ly.and_cons{e:Expr}{es:List Expr}{a b:Bool}(x:vK W C ρ e a)(y:a=true->ly W C ρ .And es b):ly W C ρ .And (e::es) (a&&b):=λf o s S H Q E h=>
 wpAny_allTrue_And_cons (x f o s S H _ _ λf1 s1 l1 S1=>by
  cases a with
  |true=>exact y rfl f1 o s1 S1 (H.mono l1 (.refl o)) _ _ λf2 s2 l2 S2=>h f2 s2 (l1.trans l2) S2
  |false=>exact h f1 s1 l1 S1)
theorem ly.or_cons{e:Expr}{es:List Expr}{a b:Bool}(x:vK W C ρ e a)(y:a=false->ly W C ρ .Or es b):ly W C ρ .Or (e::es) (a||b):=λf o s S H Q E h=>
 wpAny_allTrue_Or_cons (x f o s S H _ _ λf1 s1 l1 S1=>by
  cases a with
  |true=>exact h f1 s1 l1 S1
  |false=>exact y rfl f1 o s1 S1 (H.mono l1 (.refl o)) _ _ λf2 s2 l2 S2=>h f2 s2 (l1.trans l2) S2)
theorem eg.ite{t x y:Expr}{pos:Pos}{b:Bool}{d:D}(ht:vK W C ρ t b)(hx:b=true->eg W C ρ x d)(hy:b=false->eg W C ρ y d):eg W C ρ (.IfExp t x y pos) d:=λf o s S H Q E h=>
 wpAny_IfExp (ht f o s S H _ _ λf1 s1 l1 S1=>by
  cases b with
  |true=>exact hx rfl f1 o s1 S1 (H.mono l1 (.refl o)) _ _ λv f2 s2 l2 S2 d2=>h v f2 s2 (l1.trans l2) S2 d2
  |false=>exact hy rfl f1 o s1 S1 (H.mono l1 (.refl o)) _ _ λv f2 s2 l2 S2 d2=>h v f2 s2 (l1.trans l2) S2 d2)
theorem eg.un(O:C.Ok){op:zG}{x:Expr}{pos:Pos}{da d:D}(hx:eg W C ρ x da)(ho:yh W (unaryOp op) da d):eg W C ρ (.UnaryOp op x pos) d:=λf o s S H Q E h=>
 wpAny_UnaryOp (hx f o s S H _ _ λv f1 s1 l1 S1 d1=>ho _ f1 o s1 v O.room S1 d1 _ _ λv f2 s2 l2 S2 d2=>h v f2 s2 (l1.trans l2) S2 d2)
theorem eg.or2(O:C.Ok){x y:Expr}{pos:Pos}{da db:D}{a:Bool}(hx:eg W C ρ x da)(ha:KY W da a)(hy:a=false->eg W C ρ y db){d:D}(h1:a=true->d=da)(h2:a=false->d=db):eg W C ρ (.BoolOp .Or [x,y] pos) d:=λf o s S H Q E h=>by
 show wpAny _ _ (boolOp pos .Or [eval x C.env,eval y C.env]) Q E s
 unfold boolOp
 refine aa (hx f o s S H _ _ λv f1 s1 l1 S1 d1=>aa (aZ (aa (aL (ha _ f1 o s1 v O.room S1 d1 _ _ λf2 s2 l2 S2=>?_)))))
 cases a with
 |true=>exact ao (h v f2 s2 (l1.trans l2) S2 (h1 rfl▸d1.mono l2))
 |false=>
  show wpAny _ _ (boolOp pos .Or [eval y C.env]) Q E s2
  unfold boolOp
  exact hy rfl f2 o s2 S2 (H.mono (l1.trans l2) (.refl o)) _ _ λv f3 s3 l3 S3 d3=>h v f3 s3 ((l1.trans l2).trans l3) S3 (h2 rfl▸d3)
noncomputable def ny(W:Wd)(C:Cx)(ρ:Ro)(es:List Expr)(ds:List D):Prop:=∀pos f o s,St W.B f o s->bc C ρ f o->∀(Q:List Value->Shared->Prop) (E:Value->Shared->Prop),
 (∀vs f' s',f.le f'->St W.B f' o s'->bQ f' ds vs->Q vs s')->wpAny W.M C.A (spliced (backTo pos (aI es C.env))) Q E s
theorem ny.nil:ny W C ρ [] []:=λpos f o s S H Q E h=>d9 (h [] f s (.refl f) S rfl)
theorem ny.cons{e:Expr}{es:List Expr}{d:D}{ds:List D}(x:eg W C ρ e d)(y:ny W C ρ es ds)(he:aI (e::es) C.env=(false,eval e C.env)::aI es C.env):ny W C ρ (e::es) (d::ds):=λpos f o s S H Q E h=>by
 rw[he]
 show wpAny _ _ (spliced ((false,eval e C.env)::backTo pos (aI es C.env))) Q E s
 exact dP (x f o s S H _ _ λv f1 s1 l1 S1 d1=>y pos f1 o s1 S1 (H.mono l1 (.refl o)) _ _ λvs f2 s2 l2 S2 d2=>h _ f2 s2 (l1.trans l2) S2 (.cons (d1.mono l2) d2))
theorem pI(S:St W.B f o s){A:Around}{ds:List D}{vs:List Value}(hd:bQ f ds vs)(fC:ds.length<=16777216){Q:Value->Shared->Prop}{E:Value->Shared->Prop}
 (h:∀v f' s',f.le f'->St W.B f' o s'->Den f' (.tup ds) v->Q v s'):wpAny W.M A (newTuple vs) Q E s:=by
 refine kc (h _ _ _ (Fz.bP S.gR) (S.jv _) ⟨_,_,vs,0,rfl,Fz.aJ ..,rfl,rfl,hd.mono (Fz.bP S.gR)⟩) ?_
 rw[bu,hd.length]; exact fC
theorem CJ(S:St W.B f o s){A:Around}{ds:List D}{vs:List Value}(hd:bQ f ds vs)(fC:ds.length<=16777216){Q:Value->Shared->Prop}{E:Value->Shared->Prop}
 (h:∀v f' s',f.le f'->St W.B f' o s'->Den f' (.list ds) v->Q v s'):wpAny W.M A (newList vs) Q E s:=by
 refine oG (h _ _ _ (Fz.bP S.gR) (S.jv _) ⟨_,_,vs,0,rfl,Fz.aJ ..,⟨rfl,rfl,rfl⟩,rfl,hd.mono (Fz.bP S.gR)⟩) ?_
 rw[bu,hd.length]; exact fC
theorem eg.tuple{es:List Expr}{k:Nat}{pos:Pos}{ds:List D}(x:ny W C ρ es ds)(fC:ds.length<=16777216):eg W C ρ (.Tuple es k pos) (.tup ds):=λf o s S H Q E h=>
 Tuple_ (x pos f o s S H _ _ λvs f1 s1 l1 S1 d1=>pI S1 d1 fC λv f2 s2 l2 S2 d2=>h v f2 s2 (l1.trans l2) S2 d2)
theorem eg.list{es:List Expr}{pos:Pos}{ds:List D}(x:ny W C ρ es ds)(fC:ds.length<=16777216):eg W C ρ (.List es pos) (.list ds):=λf o s S H Q E h=>
 List_ (x pos f o s S H _ _ λvs f1 s1 l1 S1 d1=>CJ S1 d1 fC λv f2 s2 l2 S2 d2=>h v f2 s2 (l1.trans l2) S2 d2)
noncomputable def Kept(W:Wd)(fv:Value):Prop:=∀h:Heap,(∀a x,W.B.f a=some x->h.get? a=some x)->∃k,(k=Keeper.frame\/k=Keeper.machine\/k=Keeper.boundFrame)/\Looks W.M h (keeperOf fv) k
theorem Kept.builtin{id:String}:Kept W (.builtin id):=λh _=>⟨.machine, .inr (.inl rfl),ya⟩
theorem Kept.type{id:String}:Kept W (.type id):=λh _=>⟨.machine, .inr (.inl rfl),ya⟩
noncomputable def mf(W:Wd)(A:Around)(fv:Value)(ds:List D)(d:D):Prop:=∀f o s vs,St W.B f o s->bQ f ds vs->∀(Q:Value->Shared->Prop) (E:Value->Shared->Prop),
 (∀v f' s',f.le f'->St W.B f' o s'->Den f' d v->Q v s')->wpAny W.M A (call fv vs []) Q E s
theorem St.bT(S:St W.B f o s):∀a x,W.B.f a=some x->s.heap.get? a=some x:=λa x e=>S.sub a x (S.base a x e)
theorem cn(pos:Pos):∀(es:List Expr) (env:Env),(aI es env).all (λx=>!x.1)=true->(backTo pos (aI es env)).any (·.1)=false:=λes env h=>by
 unfold backTo
 rw[List.any_map]
 generalize aI es env=l at h
 induction l with
 |nil=>rfl
 |cons x l ih=>
  rw[de,cq] at h
  rw[qW,ih h.2]
  simp only[lI,yc]
  simpa using h.1
theorem dm{M:Model}{A:Around}{E:Value->Shared->Prop}{s:Shared}{f:Value}{args:List (Bool×Sem Value)}{Q:Args->Shared->Prop}(hp:args.any (·.1)=false)
 (h:wpAny M A (spliced args) (λvs s'=>Q ⟨vs,[]⟩ s') E s):wpAny M A (evalArgs f true args []) Q E s:=by
 cases args with
 |nil=>
  unfold evalArgs
  show wpAny M A (spliced [] >>= _) Q E s
  refine aa (dD h (λvs s' h'=>?_) λ_ _ x=>x)
  exact aL (aa (ao (aa (ao (ao h')))))
 |cons x r=>
  obtain⟨b,t⟩:=x
  obtain rfl:b=false:=by cases b with|false=>rfl|true=>exact nomatch hp
  exact Calls.evalArgs_plain h
theorem rQ(hk:Kept W fv){pos pos':Pos}{first:List Value}{es:List Expr}{ds d1s:List D}{d:D}(ha:ny W C ρ es ds)(hp:(aI es C.env).all (λx=>!x.1)=true)
 (S:St W.B f o s) (H:bc C ρ f o) (hf:bQ f d1s first) (hc:mf W C.A fv (d1s++ds) d) {Q:Value->Shared->Prop} {E:Value->Shared->Prop}
 (h:∀v f' s',f.le f'->St W.B f' o s'->Den f' d v->Q v s'):wpAny W.M C.A (fS pos fv first (backTo pos' (aI es C.env)) []) Q E s:=by
 have jm:=cn pos' es C.env hp
 refine d6 (P:=λh=>∀a x,W.B.f a=some x->h.get? a=some x) (by rw[jm]; rfl) hk (dm jm ?_)
 exact ha pos' f o s S H _ _ λvs f1 s1 l1 S1 d1=>⟨S1.bT,hc f1 o s1 _ S1 ((hf.mono l1).append d1) _ _ λv f2 s2 l2 S2 d2=>h v f2 s2 (l1.trans l2) S2 d2⟩
theorem eg.call{func:Expr}{es:List Expr}{pos:Pos}{fv:Value}{ds:List D}{d:D}(hf:eg W C ρ func (.raw fv))(hk:Kept W fv)(ha:ny W C ρ es ds)(hp:(aI es C.env).all (λx=>!x.1)=true)(hc:mf W C.A fv ds d)
 (he:eval (.Call func es [] pos) C.env=(do fS pos (<-eval func C.env) [] (backTo pos (aI es C.env)) (gr pos (dI [] C.env)))):eg W C ρ (.Call func es [] pos) d:=λf o s S H Q E h=>by
 rw[he]
 refine aa (hf f o s S H _ _ λv f1 s1 l1 S1 d1=>?_)
 obtain rfl:v=fv:=d1
 exact rQ hk ha hp S1 (H.mono l1 (.refl o)) (d1s:=[]) rfl hc λv f2 s2 l2 S2 d2=>h v f2 s2 (l1.trans l2) S2 d2
noncomputable def Meth(W:Wd)(d:D)(name:Str)(fv:Value):Prop:=∀A f o s v pl,St W.B f o s->Den f d v->∀(Q:Value×List Value->Shared->Prop) (E:Value->Shared->Prop),Q (fv,[v]) s->wpAny W.M A (xH v name pl) Q E s
theorem uZ{da d:D}{name:Str}{fv v:Value}{n:Nat}{ob:Expr}(hm:Meth W da name fv)(hk:Kept W fv){apos pos pos':Pos}{es:List Expr}{ds:List D}(ha:ny W C ρ es ds)(hp:(aI es C.env).all (λx=>!x.1)=true)
 (S:St W.B f o s) (H:bc C ρ f o) (hv:Den f da v) (hc:mf W C.A fv (da::ds) d) {Q:Value->Shared->Prop} {E:Value->Shared->Prop} (hn:n<30) (hl:(apos.endLine==pos.line)=true)
 (h:∀v f' s',f.le f'->St W.B f' o s'->Den f' d v->Q v s'):wpAny W.M C.A (eY ob name apos pos C.env v n (backTo pos' (aI es C.env)) []) Q E s:=by
 have qj:eC n (backTo pos' (aI es C.env)) []=true:=by
  unfold eC
  have:=cn pos' es C.env hp
  rw[mI] at this
  simp only[r9,kj,nq,if_true,lq,cq,aT,decide_eq_true_eq]
  exact⟨λx hx=>by simpa using this x hx,hn⟩
 unfold eY rP
 rw[qj]
 refine aa (aL (hm _ f o s v _ S hv _ _ ?_))
 unfold jj
 rw[hl]
 refine aa (ao ?_)
 exact rQ hk ha hp S H (d1s:=[da]) (.cons hv .nil) hc h
theorem eg.yi{ob:Expr}{name:Str}{es:List Expr}{apos pos:Pos}{fv:Value}{da d:D}{ds:List D}(ho:eg W C ρ ob da)(hm:Meth W da name fv)(hk:Kept W fv)(ha:ny W C ρ es ds)(hp:(aI es C.env).all (λx=>!x.1)=true)
 (hc:mf W C.A fv (da::ds) d) (hn:es.length+0<30) (hl:(apos.endLine==pos.line)=true) (hb:bx ob name C.env (eval ob C.env)=eval ob C.env):eg W C ρ (.Call (.Attribute ob name apos) es [] pos) d:=λf o s S H Q E h=>by
 show wpAny _ _ (do
  let ov <-bx ob name C.env (eval ob C.env)
  dF apos.atName
  eY ob name apos pos C.env ov (es.length+0) (backTo pos (aI es C.env)) []) Q E s
 rw[hb]
 exact aa (ho f o s S H _ _ λv f1 s1 l1 S1 d1=>aa (aZ (uZ hm hk ha hp S1 (H.mono l1 (.refl o)) d1 hc hn hl λv f2 s2 l2 S2 d2=>h v f2 s2 (l1.trans l2) S2 d2)))
theorem eg.attr(O:C.Ok){ob:Expr}{name:Str}{pos:Pos}{da d:D}(ho:eg W C ρ ob da)(hg:yh W (λv=>gp v name true) da d)
 (he:eval (.Attribute ob name pos) C.env=(do
  let o <-eval ob C.env
  dF pos.atName
  let r <-holding [o] (gp o name true)
  A8 ob o r
  pure r)):eg W C ρ (.Attribute ob name pos) d:=λf o s S H Q E h=>
 Bp (ho f o s S H _ _ λv f1 s1 l1 S1 d1=>hg _ f1 o s1 v O.room S1 d1 _ _ λv f2 s2 l2 S2 d2=>h v f2 s2 (l1.trans l2) S2 d2) he
noncomputable def D.ty:D->Option String
 | .none=>some "NoneType"
 | .bool _=>some "bool"
 | .int _=>some "int"
 | .str _=>some "str"
 | .list _=>some "list"
 | .tup _=>some "tuple"
 | .Bs _ _=>some "range"
 |_=>aD
theorem NO(S:St W.B f o s){d:D}{v:Value}(h:Den f d v){T:String}(e:d.ty=some T):s.TypeIs v T:=by
 cases d with
 |none=>cases e; rw[show v= .none from h]; rfl
 |bool b=>cases e; rw[show v= .bool b from h]; rfl
 |int i=>cases e; obtain⟨t,rfl⟩:=h; rfl
 |str x=>cases e; obtain⟨t,rfl⟩:=h; rfl
 |list ds=>cases e; obtain⟨a,ob,vs,n,rfl,x,y,_⟩:=h; exact⟨ob,S.sub _ _ x,y.1⟩
 |tup ds=>cases e; obtain⟨a,ob,vs,n,rfl,x,y,_⟩:=h; exact⟨ob,S.sub _ _ x,y⟩
 |Bs a b=>cases e; obtain⟨r,t,u,w,rfl,x⟩:=h; exact⟨_,S.sub _ _ x,rfl⟩
 |raw v=>exact nomatch e
 |obj C fs=>exact nomatch e
theorem n7(value slice:Expr)(pos:Pos)(env:Env):eval (.Subscript value slice pos) env=(do
 let o <-eval value env
 let i <-holding [o] (eval slice env)
 dF pos
 subscriptTail value slice o i):=rfl
theorem eg.sub(O:C.Ok){value slice:Expr}{pos:Pos}{da di d:D}{T id:String}(hv:eg W C ρ value da)(hi:eg W C ρ slice di)(hT:da.ty=some T)(hl:kX (.type T) "__getitem__" =pure (some (.builtin id)))
 (ho:lx W dJ da di d) (hs:∀o i,subscripted slice false o i=operate [o,i] (dJ o i)):eg W C ρ (.Subscript value slice pos) d:=λf o s S H Q E h=>by
 rw[n7]
 exact aa (hv f o s S H _ _ λv f1 s1 l1 S1 d1=>aa (aL (hi f1 o s1 S1 (H.mono l1 (.refl o)) _ _ λi f2 s2 l2 S2 d2=>aa (aZ
  (A6 (NO S2 (d1.mono l2) hT) hl (ho _ f2 o s2 v i O.room S2 (d1.mono l2) d2 _ _ λr f3 s3 l3 S3 d3=>h r f3 s3 (l1.trans (l2.trans l3)) S3 d3) (hs v i))))))
noncomputable def zz(W:Wd)(C:Cx)(ρ:Ro)(e:Option Expr)(x:Option Int):Prop:=∀f o s,St W.B f o s->bc C ρ f o->∀(Q:Value->Shared->Prop) (E:Value->Shared->Prop),
 (∀v f' s',f.le f'->St W.B f' o s'->(match x with|some i=>∃t,v= .int i t|aD=>v= .none)->Q v s')->wpAny W.M C.A (evalPart e C.env) Q E s
theorem zz.none:zz W C ρ aD aD:=λf o s S H Q E h=>ao (h _ f s (.refl f) S rfl)
theorem zz.some{e:Expr}{i:Int}(x:eg W C ρ e (.int i)):zz W C ρ (some e) (some i):=λf o s S H Q E h=>x f o s S H _ _ λv f1 s1 l1 S1 d1=>h v f1 s1 l1 S1 d1
end
noncomputable def o8(w o o':Fz):Prop:=∀a y,o a=some y->w a=none->o' a=some y
section
variable {W:Wd}{C:Cx}{ρ a9:Ro}{f o:Fz}{s:Shared}
set_option tactic.hygienic true in
theorem St.ext(S:St W.B f o s){a:Addr}{x:Obj}{h':Heap}(ha:o a=some x)(hs:uU a s.heap h'):St W.B f (o.del a) {s with heap:=h'}:=by
 have JJ:=S.fw ha
 have hb:∀c,W.B.side c->c≠a:=λc hc q=>S.iH (.inr ha) (q▸hc)
 refine⟨λb y e=>hs b y (λh=>by subst h; exact iC JJ e) (S.sub b y e),λb y e=>?_,λb y e=>?_,S.base,?_,λc hc=>⟨(S.fq c hc).1,?_⟩,S.os,S.gens⟩
 ·unfold Fz.del at e; split at e
  ·exact nomatch e
  ·rename_i h; exact hs b y h (S.own b y e)
 ·unfold Fz.del; split
  ·rfl
  ·exact S.apart b y e
 ·exact λc hc=>let⟨z,hz,hq⟩:=S.tab c hc; ⟨z,hs _ _ (hb c hc) hz,hq⟩
 ·unfold Fz.del; rw[if_neg (hb c hc)]; exact(S.fq c hc).2
theorem o8.del{w o:Fz}{a:Addr}(h:w a≠none):o8 w o (o.del a):=λb y e hb=>by
 unfold Fz.del; rw[if_neg (λq=>h (by subst q; exact hb))]; exact e
theorem o8.put{w o:Fz}{a:Addr}{x:Obj}(h:w a≠none):o8 w o (o.put a x):=λb y e hb=>by
 rw[Fz.az (λq=>h (by subst q; exact hb))]; exact e
noncomputable def o9(W:Wd)(eP:Expr):List D->Fz->Fz->Value->Prop
 |[],w,f,it=>∀(A:Around) f' o s (Q:Option Value->Shared->Prop) E,A.handled=none->Rm A->f.le f'->w.le o->St W.B f' o s->(∀o' s',St W.B f' o' s'->o8 w o o'->Q none s')->wpAny W.M A (pyNext it) Q E s
 |x::xs,w,f,it=>∀(A:Around) f' o s (Q:Value->Shared->Prop) E,A.handled=none->Rm A->f.le f'->w.le o->St W.B f' o s->
  (∀v Qv o' s' w',f'.le Qv->St W.B Qv o' s'->o8 w o o'->w'.le o'->(∀a,w' a≠none->w a≠none\/o a=none)->Den Qv x v->o9 W eP xs w' Qv it->Q v s')->
  wpAny W.M A (pyNext it) (λr s1=>∃v,r=some v/\wpAny W.M A (jo eP it v) (λ_=>Q v) E s1) E s
theorem o9.mono{eP:Expr}{f g:Fz}(h:f.le g):∀{xs:List D} {w:Fz} {it:Value},o9 W eP xs w f it->o9 W eP xs w g it
 |[],_,_,x=>λA f' o s Q E hh r l=>x A f' o s Q E hh r (h.trans l)
 |_::_,_,_,x=>λA f' o s Q E hh r l=>x A f' o s Q E hh r (h.trans l)
noncomputable def one(a:Addr)(x:Obj):Fz:=λb=>if b=a then some x else none
theorem bW(a:Addr)(x:Obj):one a x a=some x:=by simp[one]
set_option tactic.hygienic true in
theorem one_le{a:Addr}{x:Obj}{o:Fz}(h:o a=some x):(one a x).le o:=λb y e=>by
 unfold one at e; split at e
 ·rename_i hb; cases e; subst hb; exact h
 ·exact nomatch e
theorem mK{a b:Addr}{x:Obj}(h:one a x b≠none):b=a:=by
 unfold one at h; split at h
 ·assumption
 ·exact absurd rfl h
theorem CL{M:Model}{A:Around}{E:Value->Shared->Prop}{s:Shared}{T:String}{Q:Unit->Shared->Prop}{dt:Data}{L:List String}{p:Array Value->Bool}{g:Array Value->Sem Unit}(hn:L.contains T=false)(h:Q () s):
 wpAny M A (match lp T,dt with
  | .type n, .fields vs=>if L.contains n&&p vs then g vs else pure ()
  |_,_=>pure ()) Q E s:=by
 cases dt<;>first|exact ao h|(dsimp only; rw[hn]; exact ao h)
theorem iQ{M:Model}{A:Around}{E:Value->Shared->Prop}{s:Shared}{eP:Expr}{i:Addr}{ob:Obj}{T:String}{v:Value}{Q:Unit->Shared->Prop}(hi:s.heap.get? i=some ob)(hT:ob.cls= .type T)
 (hn:(["enumerate","zip","dict_itemiterator","dict_reverseitemiterator","odict_iterator","itertools.zip_longest","itertools.pairwise"].contains T)=false) (h:Q () s):wpAny M A (jo eP (.ref i) v) Q E s:=by
 have key:wpAny M A (jo (.Tuple [] 0 default) (.ref i) v) Q E s:=by
  cases v
  case ref=>
   refine aa (A5 hi ?_)
   rw[hT]
   exact CL hn h
  all_goals exact ao h
 cases eP
 case Tuple=>exact key
 case List=>exact key
 all_goals exact ao h
theorem drop_cons{α:Type}{l:List α}{i:Nat}{x:α}{r:List α}(h:l.drop i=x::r):l[i]? =some x/\l.drop (i+1)=r:=by
 have h1:(l.drop i)[0]? =some x:=by rw[h]; rfl
 refine⟨by simpa using h1,?_⟩
 rw[<-KH,h]; rfl
theorem drop_nil{α:Type}{l:List α}{i:Nat}(h:l.drop i=[]):l[i]? =none:=by
 rw[mj]; exact CD.mp h
theorem Bt{eP:Expr}{l it:Addr}{ol:Obj}{vs:List Value}{n:Nat}:∀{xs:List D} {i:Nat} {f:Fz} {ob:Obj},f l=some ol->ol.cls= .type "list" ->ol.data= .seq ⟨vs⟩ n->bQ f xs (vs.drop i)->
 ob.cls= .type "list_iterator" ->ob.data= .fields #[.ref l, .int i 0]->o9 W eP xs (one it ob) f (.ref it)
 |[],i,f,ob,h1,h2,h3,h4,h5,h6=>λA f' o s Q E hh r l1 wl S h=>by
  have hit:=S.own _ _ (wl _ _ (bW ..))
  refine qU hh ⟨_,hit,h5,h6⟩ ⟨ol,S.sub _ _ (l1 _ _ h1),h2,n,h3⟩ (by simpa using drop_nil h4) λh' he=>?_
  exact h _ _ (S.ext (wl _ _ (bW ..)) he) (o8.del (by rw[bW]; simp))
 |x::xs,i,f,ob,h1,h2,h3,h4,h5,h6=>λA f' o s Q E hh r l1 wl S h=>by
  obtain⟨v,rest,e,hv,hr⟩:=h4
  obtain⟨e1,e2⟩:=drop_cons e
  have Ee:=wl _ _ (bW it _)
  refine GQ ⟨_,S.own _ _ Ee,h5,h6⟩ ⟨ol,S.sub _ _ (l1 _ _ h1),h2,n,h3⟩ (x:=v) (by simpa using e1) λh' yj hs=>?_
  obtain⟨ob',g1,g2,g3⟩:=yj
  refine⟨v,rfl,iQ g1 g2 (by decide) ?_⟩
  refine h v f' _ _ _ (.refl f') (S.same Ee hs g1) (o8.put (by rw[bW]; simp)) (one_le (Fz.aJ ..)) (λa ha=>?_) (hv.mono l1) (Bt (l1 _ _ h1) h2 h3 (e2▸hr.mono l1) g2 g3)
  rw[mK ha,bW]; exact .inl (by exact nofun)
theorem Ef{eP:Expr}{l it:Addr}{ol:Obj}{vs:List Value}{n:Nat}:∀{xs:List D} {i:Nat} {f:Fz} {ob:Obj},f l=some ol->ol.cls= .type "tuple" ->ol.data= .seq ⟨vs⟩ n->bQ f xs (vs.drop i)->
 ob.cls= .type "tuple_iterator" ->ob.data= .fields #[.ref l, .int i 0]->o9 W eP xs (one it ob) f (.ref it)
 |[],i,f,ob,h1,h2,h3,h4,h5,h6=>λA f' o s Q E hh r l1 wl S h=>by
  have hit:=S.own _ _ (wl _ _ (bW ..))
  refine wpAny_pyNext_tuple_end hh ⟨_,hit,h5,h6⟩ ⟨ol,S.sub _ _ (l1 _ _ h1),h2,n,h3⟩ (by simpa using drop_nil h4) λh' he=>?_
  exact h _ _ (S.ext (wl _ _ (bW ..)) he) (o8.del (by rw[bW]; simp))
 |x::xs,i,f,ob,h1,h2,h3,h4,h5,h6=>λA f' o s Q E hh r l1 wl S h=>by
  obtain⟨v,rest,e,hv,hr⟩:=h4
  obtain⟨e1,e2⟩:=drop_cons e
  have Ee:=wl _ _ (bW it _)
  refine wpAny_pyNext_tuple_item ⟨_,S.own _ _ Ee,h5,h6⟩ ⟨ol,S.sub _ _ (l1 _ _ h1),h2,n,h3⟩ (x:=v) (by simpa using e1) λh' yj hs=>?_
  obtain⟨ob',g1,g2,g3⟩:=yj
  refine⟨v,rfl,iQ g1 g2 (by decide) ?_⟩
  refine h v f' _ _ _ (.refl f') (S.same Ee hs g1) (o8.put (by rw[bW]; simp)) (one_le (Fz.aJ ..)) (λa ha=>?_) (hv.mono l1) (Ef (l1 _ _ h1) h2 h3 (e2▸hr.mono l1) g2 g3)
  rw[mK ha,bW]; exact .inl (by exact nofun)
noncomputable def u0(a:Int):Nat->List Int
 | 0=>[]
 |n+1=>a::u0 (a+1) n
theorem yk{eP:Expr}{it:Addr}:∀{n:Nat} {x:Int} {f:Fz},o9 W eP ((u0 x n).map .int) (one it {cls:= .type "range_iterator",dict:=none,data:= .fields #[rawInt x,rawInt n,rawInt 1],slots:=#[]}) f (.ref it)
 | 0,x,f=>λA f' o s Q E hh r l1 wl S h=>by
  have hit:=S.own _ _ (wl _ _ (bW ..))
  refine wpAny_pyNext_range_end hh hit (by simp[*]) λh' he=>?_
  exact h _ _ (S.ext (wl _ _ (bW ..)) he) (o8.del (by rw[bW]; simp))
 |n+1,x,f=>λA f' o s Q E hh r l1 wl S h=>by
  have Ee:=wl _ _ (bW it _)
  refine wpAny_pyNext_range_item (S.own _ _ Ee) (by exact ew 687740566881 tt) λh' yj hs=>?_
  refine⟨_,rfl,iQ yj rfl (by decide) ?_⟩
  refine h _ f' _ _ _ (.refl f') ((S.same Ee hs yj).tok _) (o8.put (by rw[bW]; simp)) (one_le (Fz.aJ ..)) (λa ha=>?_) ⟨_,rfl⟩ ?_
  ·rw[mK ha,bW]; exact .inl (by exact nofun)
  ·have:((n+1:Nat):Int)-1=(n:Int):=by exact q2
   rw[this]; exact yk
noncomputable def rh(W:Wd)(w f:Fz)(it:Value):Prop:=∀A f' o s (Q:Value->Shared->Prop) E,f.le f'->w.le o->St W.B f' o s->Q it s->wpAny W.M A (pyIter it) Q E s
theorem CM{it l:Addr}{ob:Obj}{i:Nat}{f:Fz}(h5:ob.cls= .type "list_iterator")(h6:ob.data= .fields #[.ref l, .int i 0]):rh W (one it ob) f (.ref it):=λA f' o s Q E l1 wl S h=>
 wpAny_pyIter_listiter ⟨ob,S.own _ _ (wl _ _ (bW ..)),h5,h6⟩ h
theorem Eg{it l:Addr}{ob:Obj}{i:Nat}{f:Fz}(h5:ob.cls= .type "tuple_iterator")(h6:ob.data= .fields #[.ref l, .int i 0]):rh W (one it ob) f (.ref it):=λA f' o s Q E l1 wl S h=>
 wpAny_pyIter_tupleiter ⟨ob,S.own _ _ (wl _ _ (bW ..)),h5,h6⟩ h
theorem z9{it:Addr}{x l c:Int}{f:Fz}:rh W (one it {cls:= .type "range_iterator",dict:=none,data:= .fields #[rawInt x,rawInt l,rawInt c],slots:=#[]}) f (.ref it):=λA f' o s Q E l1 wl S h=>
 wpAny_pyIter_rangeiter (S.own _ _ (wl _ _ (bW ..))) h
noncomputable def K0(W:Wd)(d:D)(xs:List D):Prop:=∀eP A f o s v,Rm A->St W.B f o s->Den f d v->∀(Q:Value->Shared->Prop) (E:Value->Shared->Prop),
 (∀it w f' o' s',f.le f'->St W.B f' o' s'->o.le o'->w.le o'->(∀a,w a≠none->o a=none)->o9 W eP xs w f' it->rh W w f' it->Q it s')->wpAny W.M A (pyIter v) Q E s
theorem bp{ds:List D}:K0 W (.list ds) ds:=λeP A f o s v r S hd Q E h=>by
 obtain⟨l,ol,vs,n,rfl,h1,h2,h3,h4⟩:=hd
 refine ip ⟨ol,S.sub _ _ h1,h2.1,n,h3⟩ ?_
 refine h _ (one s.heap.objs.size _) f _ _ (.refl f) (S.gW _) (Fz.bP S.fc) (one_le (Fz.aJ ..)) (λa ha=>by rw[mK ha]; exact S.fc) (Bt (i:=0) h1 h2.1 h3 h4 rfl rfl) (CM (i:=0) rfl rfl)
theorem HG{ds:List D}:K0 W (.tup ds) ds:=λeP A f o s v r S hd Q E h=>by
 obtain⟨l,ol,vs,n,rfl,h1,h2,h3,h4⟩:=hd
 refine wpAny_pyIter_tuple ⟨ol,S.sub _ _ h1,h2,n,h3⟩ ?_
 refine h _ (one s.heap.objs.size _) f _ _ (.refl f) (S.gW _) (Fz.bP S.fc) (one_le (Fz.aJ ..)) (λa ha=>by rw[mK ha]; exact S.fc) (Ef (i:=0) h1 h2 h3 h4 rfl rfl) (Eg (i:=0) rfl rfl)
noncomputable def Aa(W:Wd)(C:Cx)(ρ:Ro)(eP e:Expr)(xs:List D):Prop:=∀f o s,St W.B f o s->bc C ρ f o->∀(Q:Value->Shared->Prop) (E:Value->Shared->Prop),
 (∀it w f' o' s',f.le f'->St W.B f' o' s'->o.le o'->w.le o'->(∀a,w a≠none->o a=none)->o9 W eP xs w f' it->rh W w f' it->Q it s')->wpAny W.M C.A (eval e C.env) (λx s1=>wpAny W.M C.A (pyIter x) Q E s1) E s
theorem Aa.val(O:C.Ok){eP e:Expr}{d:D}{xs:List D}(x:eg W C ρ e d)(i:K0 W d xs):Aa W C ρ eP e xs:=λf o s S H Q E h=>
 x f o s S H _ _ λv f1 s1 l1 S1 d1=>i _ _ f1 o s1 v O.room S1 d1 _ _ λit w f2 o2 s2 l2 S2 a b c d e=>h it w f2 o2 s2 (l1.trans l2) S2 a b c d e
end
section
variable {prog:gu}{w:World}{A:Around}{E:Value->Shared->Prop}{s:Shared}
theorem vL{it t:Addr}{items:Array Value}(ea:t≠it):∀(n i:Nat) (s:Shared) (Q:List Value->Shared->Prop),s.heap.IsListIter it t i->s.heap.IsList t items->i+n<=items.size->
 (∀h',h'.IsListIter it t (i+n)->fu it s.heap h'->Q ((items.toList.drop i).take n) {s with heap:=h'})->wpAny (model prog w) A (draw (.ref it) n) Q E s
 | 0,i,s,Q,hit,_,_,hQ=>ao (by simpa using hQ s.heap hit (Heap.SameBut.refl ..))
 |n+1,i,s,Q,hit,ht,hle,hQ=>by
  have kk:i<items.size:=by exact cG 0x2a060080422a0201 tt hle
  show wpAny _ _ (pyNext (.ref it) >>= _) Q E s
  refine aa (GQ hit ht (x:=items[i]) (by simp[kk]) λgf Ab iR=>?_)
  refine aa (aL (vL ea n (i+1) _ _ Ab (ht.extBut iR.extBut ea) (by exact cG 0xa81802010883404201 tt hle) λwW K2 qk=>ao ?_))
  have hd:items.toList.drop i=items[i]::items.toList.drop (i+1):=by simp[List.drop_eq_getElem_cons,kk]
  have:=hQ wW (by rw[show i+(n+1)=i+1+n by exact q5]; exact K2) (iR.trans qk)
  rw[hd,List.take_succ_cons] at this
  exact this
theorem ri{t:Addr}{items:Array Value}{Q:List Value->Shared->Prop}(hh:A.handled=none)(ht:s.heap.IsList t items)
 (hQ:∀h',uU s.heap.objs.size s.heap h'->Q items.toList {s with heap:=h'}):wpAny (model prog w) A (Jv (.ref t) items.size none) Q E s:=by
 have kk:t≠s.heap.objs.size:=by obtain⟨o,ho,_⟩:=ht; exact bg (bJ ho)
 unfold Jv
 refine aa ?_
 unfold notIterableAtAll
 refine aa (zr ht.typeIs slot_list_iter.lookup ?_)
 refine ao ?_
 simp only[cb,if_false]
 refine aa (aL (ip ht ?_))
 refine aa (aL (vL kk items.size 0 _ _ ⟨_,bC _ rfl,rfl,rfl⟩ (ht.push _) (by exact aN 19969 tt) λgf Ab iR=>?_))
 have K3:List.take items.size (List.drop 0 items.toList)=items.toList:=by
  rw[wR]; exact dg (by simp)
 rw[K3]
 rw[if_neg (by simp)]
 have NP:gf.IsList t items:=(ht.push _).extBut iR.extBut kk
 refine aa (aL (qU hh Ab NP (by simp) λwW Bu=>?_))
 simp only[Option.isSome_none,cb,if_false]
 exact ao (hQ wW λb o hb e=>Bu b o hb (iR.extBut b o hb (aH _ e)))
end
section
variable {W:Wd}{C:Cx}{ρ a9:Ro}{f o:Fz}{s:Shared}
theorem St.Eh(S:St W.B f o s){h':Heap}(hs:uU s.heap.objs.size s.heap h'):St W.B f o {s with heap:=h'}:=
 ⟨λa x e=>hs a x (bg (S.lt (.inl e))) (S.sub a x e),λa x e=>hs a x (bg (S.lt (.inr e))) (S.own a x e),S.apart,S.base,λc hc=>let⟨z,hz,hq⟩:=S.tab c hc; ⟨z,hs _ _ (bg (S.ju hc)) hz,hq⟩,S.fq,S.os,S.gens⟩
theorem lL(hh:C.A.handled=none)(S:St W.B f o s){d:D}{ds:List D}{v:Value}(hd:d= .tup ds\/d= .list ds)(hv:Den f d v){n:Nat}(hn:n=ds.length){Q:List Value->Shared->Prop}{E:Value->Shared->Prop}
 (h:∀vs s',St W.B f o s'->bQ f ds vs->Q vs s'):wpAny W.M C.A (Jv v n none) Q E s:=by
 rcases hd with rfl|rfl
 ·obtain⟨a,ob,vs,m,rfl,h1,h2,h3,h4⟩:=hv
  have e:n=(⟨vs⟩:Array Value).size:=by rw[hn]; exact h4.length.symm
  rw[e]
  exact wpAny_unpackItems_tuple hh ⟨ob,S.sub _ _ h1,h2,m,h3⟩ λh' he=>h _ _ (S.Eh he) h4
 ·obtain⟨a,ob,vs,m,rfl,h1,h2,h3,h4⟩:=hv
  have e:n=(⟨vs⟩:Array Value).size:=by rw[hn]; exact h4.length.symm
  rw[e]
  exact ri hh ⟨ob,S.sub _ _ h1,h2.1,m,h3⟩ λh' he=>h _ _ (S.Eh he) h4
noncomputable def kJ(a9 ρ:Ro):Prop:=∀n u r,(n,Bd.res u r)∈a9->∃n' u' r',(n',Bd.res u' r')∈ρ/\∀a∈r.as,a∈r'.as
theorem kJ.refl(ρ:Ro):kJ ρ ρ:=λn u r h=>⟨n,u,r,h,λ_ h=>h⟩
theorem kJ.trans{a b c:Ro}(x:kJ a b)(y:kJ b c):kJ a c:=λn u r h=>let⟨n',u',r',h',k⟩:=x n u r h; let⟨n2,u2,r2,h2,k2⟩:=y n' u' r' h'; ⟨n2,u2,r2,h2,λa ha=>k2 a (k a ha)⟩
theorem jO{n:Str}{d:D}{ρ a9:Ro}(h:Ro.Set n (.val d) ρ a9):kJ a9 ρ:=by
 induction h with
 |head=>
  intro n u r h
  rcases au.mp h with e|h
  ·exact nomatch e
  ·exact⟨n,u,r, .tail _ h,λ_ h=>h⟩
 |tail _ ih=>
  intro n u r h
  rcases au.mp h with e|h
  ·exact⟨n,u,r,e▸ .head _,λ_ h=>h⟩
  ·obtain⟨n',u',r',h',k⟩:=ih n u r h; exact⟨n',u',r', .tail _ h',k⟩
theorem rj:∀{n:Str} {r0 r':Res} {ρ a9:Ro},Ro.Set n (.res true r') ρ a9->(n,Bd.res true r0)∈ρ->(∀a∈r'.as,a∈r0.as)->kJ a9 ρ:=fun{n r0 r' ρ a9} h hm hs m u r hr=>by
 have key:∀{ρ a9:Ro},Ro.Set n (.res true r') ρ a9->(m,Bd.res u r)∈a9->Bd.res u r=Bd.res true r'\/(m,Bd.res u r)∈ρ:=by
  intro ρ a9 h
  induction h with
  |head=>
   intro hr; rcases au.mp hr with e|hr
   ·cases e; exact .inl rfl
   ·exact .inr (.tail _ hr)
  |tail _ ih=>
   intro hr; rcases au.mp hr with e|hr
   ·exact .inr (e▸ .head _)
   ·exact(ih hr).imp id (.tail _)
 rcases key h hr with e|hr
 ·cases e; exact⟨n,true,r0,hm,hs⟩
 ·exact⟨m,u,r,hr,λ_ h=>h⟩
theorem Uses.of{C:Cx}{ρ a9:Ro}(hk:a9.map (·.1)=ρ.map (·.1))(hl:kJ a9 ρ){a:Addr}(h:Uses C a9 a):Uses C ρ a:=by
 rcases h with h|⟨n,u,r,h,ha⟩
 ·exact .inl (by unfold Slots at h ⊢; rw[<-hk]; exact h)
 ·obtain⟨n',u',r',h',k⟩:=hl n u r h; exact .inr ⟨n',u',r',h',k a ha⟩
structure Left(W:Wd)(C:Cx)(ρ a9:Ro)(f o f' o':Fz)(s':Shared):Prop where
 le:f.le f'
 st:St W.B f' o' s'
 env:bc C a9 f' o'
 step:qi C ρ o o'
 rk:∀a,pz C a9 a->pz C ρ a\/o a=none
 uses:∀a,Uses C a9 a->Uses C ρ a\/o a=none
theorem Left.refl(S:St W.B f o s)(H:bc C ρ f o):Left W C ρ ρ f o f o s:=⟨.refl f,S,H, .refl o,λ_ h=> .inl h,λ_ h=> .inl h⟩
theorem Left.trans{bD bZ:Ro}{wX du NQ NR:Fz}{cU sW:Shared}(x:Left W C ρ bD f o wX du cU)(y:Left W C bD bZ wX du NQ NR sW):Left W C ρ bZ f o NQ NR sW:=by
 refine⟨x.le.trans y.le,y.st,y.env,λa z e hm=>y.step a z (x.step a z e hm) λh=>?_,λa h=>?_,λa h=>?_⟩
 ·rcases x.rk a h with h|h
  ·exact hm h
  ·exact iC h e
 ·rcases y.rk a h with h|h
  ·exact x.rk a h
  ·by_cases hm:pz C ρ a
   ·exact .inl hm
   ·cases q:o a with
    |none=>exact .inr rfl
    |some z=>rw[x.step a z q hm] at h; exact nomatch h
 ·rcases y.uses a h with h|h
  ·exact x.uses a h
  ·by_cases hm:pz C ρ a
   ·exact .inl (hm.uses x.env.ok)
   ·cases q:o a with
    |none=>exact .inr rfl
    |some z=>rw[x.step a z q hm] at h; exact nomatch h
theorem oO{n:Str}{d:D}(aU:Ro.Set n (.val d) ρ a9)(nd:(ρ.map (·.1)).Nodup)(a:Addr)(h:pz C a9 a):pz C ρ a:=by
 rcases h with h|h|⟨x,r,hm,ha⟩
 ·exact .inl h
 ·obtain⟨n,h1,h2,h3⟩:=h; exact .inr (.inl ⟨n,h1,aU.keys▸h2,h3⟩)
 ·rcases aU.mem nd hm with⟨_,e⟩|⟨_,hm⟩
  ·exact nomatch e
  ·exact .inr (.inr ⟨x,r,hm,ha⟩)
noncomputable def jP(W:Wd)(C:Cx)(ρ:Ro)(t:Expr)(d:D)(a9:Ro):Prop:=(kJ a9 ρ/\a9.map (·.1)=ρ.map (·.1))/\∀f o s v,St W.B f o s->bc C ρ f o->Den f d v->∀(Q:Unit->Shared->Prop) (E:Value->Shared->Prop),
 (∀f' o' s',Left W C ρ a9 f o f' o' s'->Q () s')->wpAny W.M C.A (assign t C.env v) Q E s
theorem jP.name(O:C.Ok){n:Str}{k:aC}{d:D}{pos:Pos}(hk:(n,k)∈C.names)(oZ:(k== .local||k== .cell)=true)(aU:Ro.Set n (.val d) ρ a9):jP W C ρ (.Name n pos) d a9:=⟨⟨jO aU,aU.keys⟩,λf o s v S H hd Q E h=>
 wpAny_assign_Name (sA O S H hk oZ aU hd λo' s' S' H' os=>h f o' s' ⟨.refl f,S',H',os,λa hm=> .inl (oO aU H.nd a hm),λa hu=> .inl (Uses.of aU.keys (jO aU) hu)⟩)⟩
inductive jE(W:Wd)(C:Cx):Ro->List Expr->List D->Ro->Prop
 |nil {ρ:Ro}:jE W C ρ [] [] ρ
 |cons {ρ bD bZ:Ro} {t:Expr} {ts:List Expr} {d:D} {ds:List D}:jP W C ρ t d bD->jE W C bD ts ds bZ->bk (t::ts) C.env=(false,assign t C.env)::bk ts C.env->jE W C ρ (t::ts) (d::ds) bZ
theorem jE.length{ts:List Expr}{ds:List D}(x:jE W C ρ ts ds a9):(bk ts C.env).length=ds.length/\(bk ts C.env).findIdx? (·.1)=none:=by
 induction x with
 |nil=>exact⟨rfl,rfl⟩
 |cons _ _ e ih=>rw[e]; exact⟨by simp[ih.1],by simp[List.findIdx?_cons,ih.2]⟩
theorem jE.run{ts:List Expr}{ds:List D}(x:jE W C ρ ts ds a9):∀{f o s} {vs:List Value},St W.B f o s->bc C ρ f o->bQ f ds vs->∀(Q:Unit->Shared->Prop) (E:Value->Shared->Prop),
 (∀f' o' s',Left W C ρ a9 f o f' o' s'->Q () s')->wpAny W.M C.A (DA ((bk ts C.env).map (·.2)) vs) Q E s:=by
 induction x with
 |nil=>intro f o s vs S H hd Q E h; rw[show vs=[] from hd]; exact ao (h f o s (.refl S H))
 |cons t _ e ih=>
  intro f o s vs S H hd Q E h
  obtain⟨v,r,rfl,h1,h2⟩:=hd
  rw[e]
  show wpAny _ _ (do holding r (assign _ C.env v); DA ((bk _ C.env).map (·.2)) r) Q E s
  exact aa (aL (t.2 f o s v S H h1 _ _ λf1 o1 s1 L1=>ih L1.st L1.env (h2.mono L1.le) _ _ λf2 o2 s2 L2=>h f2 o2 s2 (L1.trans L2)))
theorem jE.WN{ts:List Expr}{ds:List D}(x:jE W C ρ ts ds a9):kJ a9 ρ/\a9.map (·.1)=ρ.map (·.1):=by
 induction x with
 |nil=>exact⟨.refl _,rfl⟩
 |cons t _ e ih=>exact⟨ih.1.trans t.1.1,ih.2.trans t.1.2⟩
theorem jP.tuple(hh:C.A.handled=none){ts:List Expr}{k:Nat}{pos:Pos}{d:D}{ds:List D}(hd:d= .tup ds\/d= .list ds)(x:jE W C ρ ts ds a9):jP W C ρ (.Tuple ts k pos) d a9:=⟨x.WN,λf o s v S H hv Q E h=>by
 rw[arm_assign_Tuple]
 refine aa (aZ ?_)
 unfold unpack
 rw[x.length.1,x.length.2]
 exact aa (aL (lL hh S hd hv rfl λvs s1 S1 d1=>x.run S1 H d1 _ _ h))⟩
noncomputable def yl(W:Wd)(C:Cx)(ρ:Ro)(es:List Expr)(b:Bool):Prop:=∀f o s,St W.B f o s->bc C ρ f o->∀(Q:Bool->Shared->Prop) (E:Value->Shared->Prop),(∀f' s',f.le f'->St W.B f' o s'->Q b s')->
 wpAny W.M C.A (forIn es true λc r=>if r=true then do let ok <-isTrue c C.env (eval c C.env); pure (fE ok) else pure (fE r)) Q E s
theorem yl.nil:yl W C ρ [] true:=λf o s S H Q E h=>wpAny_tests_nil (h f s (.refl f) S)
theorem yl.one{e:Expr}{b:Bool}(x:vK W C ρ e b):yl W C ρ [e] b:=λf o s S H Q E h=>wpAny_tests_one (x f o s S H _ _ h)
inductive pd:Ro->Ro->Prop
 |nil:pd [] []
 |same {p:Str×Bd} {ρ a9:Ro}:pd ρ a9->pd (p::ρ) (p::a9)
 |drop {n:Str} {b:Bd} {ρ a9:Ro}:pd ρ a9->pd ((n,b)::ρ) ((n, .unset)::a9)
theorem pd.keys{ρ a9:Ro}(h:pd ρ a9):a9.map (·.1)=ρ.map (·.1):=by
 induction h with
 |nil=>rfl
 |same _ ih=>rw[aO,aO,ih]
 |drop _ ih=>rw[aO,aO,ih]
theorem pd.mem{ρ a9:Ro}(h:pd ρ a9):∀{n:Str} {b:Bd},(n,b)∈a9->(n,b)∈ρ\/(b= .unset/\∃b',(n,b')∈ρ):=by
 induction h with
 |nil=>intro n b hm; exact nomatch hm
 |same _ ih=>
  intro n b hm
  rcases au.mp hm with e|hm
  ·rw[e]; exact .inl (.head _)
  ·rcases ih hm with h|⟨h,b',h'⟩
   ·exact .inl (.tail _ h)
   ·exact .inr ⟨h,b', .tail _ h'⟩
 |drop _ ih=>
  intro n b hm
  rcases au.mp hm with e|hm
  ·cases e; exact .inr ⟨rfl,_, .head _⟩
  ·rcases ih hm with h|⟨h,b',h'⟩
   ·exact .inl (.tail _ h)
   ·exact .inr ⟨h,b', .tail _ h'⟩
theorem bc.weak(H:bc C ρ f o)(h:pd ρ a9):bc C a9 f o:=by
 refine⟨H.ok,H.ns,λn b hm=>?_,by rw[h.keys]; exact H.nd,λn u r hm a ha hs=>?_,λn n' u u' r r' p q=>?_⟩
 ·rcases h.mem hm with hm|⟨rfl,b',hm⟩
  ·exact H.vars n b hm
  ·obtain⟨vo,hv,_⟩:=H.vars n b' hm; exact⟨vo,hv,trivial⟩
 ·rcases h.mem hm with hm|⟨e,_⟩
  ·exact H.sep n u r hm a ha (by unfold Slots at hs ⊢; rw[<-h.keys]; exact hs)
  ·exact nomatch e
 ·rcases h.mem p with p|⟨e,_⟩
  ·rcases h.mem q with q|⟨e,_⟩
   ·exact H.two n n' u u' r r' p q
   ·exact nomatch e
  ·exact nomatch e
end
noncomputable def Bd.MY:Bd->Bd
 | .res _ r=> .res false r
 |b=>b
inductive nA(outer:List (Str×aC))(ρ:Ro):List (Str×aC)->Ro->Prop
 |nil:nA outer ρ [] []
 |loc {n:Str} {ns:List (Str×aC)} {eX:Ro}:nA outer ρ ns eX->nA outer ρ ((n, .local)::ns) ((n, .unset)::eX)
 |WO {n:Str} {ns:List (Str×aC)} {eX:Ro}:nA outer ρ ns eX->nA outer ρ ((n, .cell)::ns) ((n, .unset)::eX)
 |MZ {n:Str} {ns:List (Str×aC)} {eX:Ro}:nA outer ρ ns eX->nA outer ρ ((n, .globalImplicit)::ns) eX
 |HH {n:Str} {k:aC} {b:Bd} {ns:List (Str×aC)} {eX:Ro}:(n,k)∈outer->(k== .cell||k== .free)=true->(n,b)∈ρ->nA outer ρ ns eX->nA outer ρ ((n, .free)::ns) ((n,b.MY)::eX)
theorem nA.mem{outer:List (Str×aC)}{ρ:Ro}{ns:List (Str×aC)}{eX:Ro}(h:nA outer ρ ns eX):∀{n:Str} {b:Bd},(n,b)∈eX->
 (b= .unset/\((n,ae)∈ns\/(n,aq)∈ns))\/((n,cM)∈ns/\∃k b',(n,k)∈outer/\(k= .cell\/k= .free)/\(n,b')∈ρ/\b=b'.MY):=by
 induction h with
 |nil=>intro n b hm; exact nomatch hm
 |loc _ ih=>
  intro n b hm
  rcases au.mp hm with e|hm
  ·cases e; exact .inl ⟨rfl, .inl (.head _)⟩
  ·rcases ih hm with⟨e,h⟩|⟨a,r⟩
   ·exact .inl ⟨e,h.imp (.tail _) (.tail _)⟩
   ·exact .inr ⟨.tail _ a,r⟩
 |WO _ ih=>
  intro n b hm
  rcases au.mp hm with e|hm
  ·cases e; exact .inl ⟨rfl, .inr (.head _)⟩
  ·rcases ih hm with⟨e,h⟩|⟨a,r⟩
   ·exact .inl ⟨e,h.imp (.tail _) (.tail _)⟩
   ·exact .inr ⟨.tail _ a,r⟩
 |MZ _ ih=>
  intro n b hm
  rcases ih hm with⟨e,h⟩|⟨a,r⟩
  ·exact .inl ⟨e,h.imp (.tail _) (.tail _)⟩
  ·exact .inr ⟨.tail _ a,r⟩
 |HH h1 h2 h3 _ ih=>
  intro n b hm
  rcases au.mp hm with e|hm
  ·cases e
   exact .inr ⟨.head _,_,_,h1,by simpa using h2,h3,rfl⟩
  ·rcases ih hm with⟨e,h⟩|⟨a,r⟩
   ·exact .inl ⟨e,h.imp (.tail _) (.tail _)⟩
   ·exact .inr ⟨.tail _ a,r⟩
theorem nA.keys{outer:List (Str×aC)}{ρ:Ro}{ns:List (Str×aC)}{eX:Ro}(h:nA outer ρ ns eX):(eX.map (·.1)).Sublist (ns.map (·.1)):=by
 induction h with
 |nil=>exact .slnil
 |loc _ ih=>exact ih.cons_cons _
 |WO _ ih=>exact ih.cons_cons _
 |MZ _ ih=>exact ih.cons _
 |HH _ _ _ _ ih=>exact ih.cons_cons _
theorem nA.free{outer:List (Str×aC)}{ρ:Ro}{ns:List (Str×aC)}{eX:Ro}(h:nA outer ρ ns eX):∀{n:Str},(n,cM)∈ns->∃k b,(n,k)∈outer/\(k= .cell\/k= .free)/\(n,b)∈ρ:=by
 induction h with
 |nil=>intro n hm; exact nomatch hm
 |loc _ ih=>intro n hm; rcases au.mp hm with e|hm<;>first|exact ih hm|cases e
 |WO _ ih=>intro n hm; rcases au.mp hm with e|hm<;>first|exact ih hm|cases e
 |MZ _ ih=>intro n hm; rcases au.mp hm with e|hm<;>first|exact ih hm|cases e
 |HH h1 h2 h3 _ ih=>
  intro n hm
  rcases au.mp hm with e|hm
  ·cases e; exact⟨_,_,h1,by simpa using h2,h3⟩
  ·exact ih hm
theorem lookup_mem{α:Type}{n:Str}{k:α}:∀{l:List (Str×α)},l.lookup n=some k->(n,k)∈l:=λh=>mem_of_lookup h
theorem sX(c:Str->aC->Bool)(n:Str):∀l:List (Str×aC),CC n (l.map λ(n,k)=>if c n k then(n,aq) else(n,k))=(l.lookup n).map λk=>if c n k then aq else k
 |[]=>rfl
 |(x,k)::l=>by
  have e:(if c x k then(x,aq) else(x,k))=(x,if c x k then aq else k):=by cases c x k<;>rfl
  show CC n ((if c x k then(x,aq) else(x,k))::_)=_
  rw[e,eG,eG]
  cases h:n==x with
  |false=>exact sX c n l
  |true=>cases beq_iff_eq.mp h; rfl
theorem sY{env:Env}{scope:Scope}{n:Str}{k:aC}(h:scope.names.lookup n=some k):
 (relabel scope env).names.lookup n=some (if(k== .free&&env.scope.kind== .function&&env.kindOf n==some .cell) then .cell else k):=
 (sX (λn k=>k== .free&&env.scope.kind== .function&&env.kindOf n==some .cell) n scope.names).trans (by rw[h]; rfl)
theorem n8{env:Env}{scope:Scope}{n:Str}{k:aC}(h:(relabel scope env).names.lookup n=some k):∃k',scope.names.lookup n=some k'/\(k=k'\/(k'= .free/\k= .cell)):=by
 obtain⟨k',q,e⟩:=fo.mp ((sX (λn k=>k== .free&&env.scope.kind== .function&&env.kindOf n==some .cell) n scope.names).symm.trans h)
 refine⟨k',q,?_⟩
 by_cases hc:(k'== .free&&env.scope.kind== .function&&env.kindOf n==some .cell)=true
 ·exact .inr ⟨beq_iff_eq.mp (c0.mp (c0.mp hc).1).1,e.symm.trans (if_pos hc)⟩
 ·exact .inl (e.symm.trans (if_neg hc))
noncomputable def kK(env:Env):List (Str×aC)->List (Str×Addr)->List (Str×Addr)
 |[],acc=>acc
 |(n,k)::r,acc=>kK env r (if k== .free then(n,(env.cells.lookup n).getD 0)::acc else acc)
theorem sZ{env:Env}(g:Str×aC->List (Str×Addr)->Sem (ForInStep (List (Str×Addr))))
 (hg:∀n k cs,g (n,k) cs=if k== .free then(do let a <-cellOf env n; pure (.yield ((n,a)::cs))) else pure (.yield cs)):
 ∀(names:List (Str×aC)) (acc:List (Str×Addr)),(∀n,(n,cM)∈names->∃c,env.cells.lookup n=some c)->forIn names acc g=pure (kK env names acc)
 |[],acc,_=>rfl
 |(n,k)::r,acc,h=>by
  rw[iN,hg]
  unfold kK
  cases hk:k==cM with
  |false=>
   simp only[cb,if_false,pure_bind]
   exact sZ g hg r acc λx hx=>h x (.tail _ hx)
  |true=>
   obtain rfl:k= .free:=by simpa using hk
   obtain⟨c,hc⟩:=h n (.head _)
   have:cellOf env n=pure c:=by unfold cellOf; rw[hc]
   simp only[if_true,this,pure_bind,hc,DW]
   exact sZ g hg r _ λx hx=>h x (.tail _ hx)
theorem u4{env:Env}{scope:Scope}(h:∀n,(n,cM)∈scope.names->∃c,env.cells.lookup n=some c):closureFor scope env=pure (kK env scope.names []):=by
 unfold closureFor
 dsimp only
 rw[sZ (env:=env) _ (λn k cs=>by cases hk:k==cM<;>simp[hk]) scope.names [] h]
 rfl
theorem tc{env:Env}{n:Str}:∀{names:List (Str×aC)} {acc:List (Str×Addr)},(n,cM)∉names->(kK env names acc).lookup n=acc.lookup n
 |[],_,_=>rfl
 |(x,k)::r,acc,h=>by
  unfold kK
  rw[tc λhm=>h (.tail _ hm)]
  cases hk:k==cM with
  |false=>rfl
  |true=>
   obtain rfl:k= .free:=by simpa using hk
   have:n≠x:=λe=>h (e▸ .head _)
   rw[if_pos rfl,eG,show(n==x)=false from beq_eq_false_iff_ne.mpr this]
theorem vM{env:Env}{n:Str}:∀{names:List (Str×aC)} {acc:List (Str×Addr)},(names.map (·.1)).Nodup->(n,cM)∈names->(kK env names acc).lookup n=some ((env.cells.lookup n).getD 0)
 |(x,k)::r,acc,hn,h=>by
  rw[aO,fU] at hn
  unfold kK
  rcases au.mp h with e|hm
  ·cases e
   rw[tc λhm=>hn.1 (fZ hm)]
   simp
  ·exact vM hn.2 hm
theorem hU(acc:List (Str×Addr)):∀(names:List (Str×aC)) (n:Nat) (b:List (Str×Addr)),eE n names (b++acc)=eE n names b++acc
 |[],_,_=>rfl
 |(x,k)::r,n,b=>by
  unfold eE
  cases hk:k==aq with
  |true=>simp only[if_true]; exact hU acc r (n+1) ((x,n)::b)
  |false=>simp only[cb,if_false]; exact hU acc r n b
theorem iS{x:Str}:∀{names:List (Str×aC)} {n:Nat} {acc:List (Str×Addr)},(x,aq)∉names->(eE n names acc).lookup x=acc.lookup x
 |[],_,_,_=>rfl
 |(y,k)::r,n,acc,h=>by
  unfold eE
  cases hk:k==aq with
  |false=>simp only[cb,if_false]; exact iS λhm=>h (.tail _ hm)
  |true=>
   obtain rfl:k= .cell:=by simpa using hk
   simp only[if_true]
   rw[iS λhm=>h (.tail _ hm),eG,show(x==y)=false from beq_eq_false_iff_ne.mpr λe=>h (e▸ .head _)]
theorem fj{x:Str}:∀{names:List (Str×aC)} {n:Nat} {acc:List (Str×Addr)},(names.map (·.1)).Nodup->(x,aq)∈names->∃c,(eE n names acc).lookup x=some c/\n<=c
 |(y,k)::r,n,acc,hn,h=>by
  rw[aO,fU] at hn
  unfold eE
  rcases au.mp h with e|hm
  ·cases e
   simp only[beq_self_eq_true,if_true]
   rw[iS λhm=>hn.1 (fZ hm)]
   exact⟨n,by simp,bL _⟩
  ·cases hk:k==aq with
   |false=>simp only[cb,if_false]; exact fj hn.2 hm
   |true=>
    simp only[if_true]
    obtain⟨c,h1,h2⟩:=fj (n:=n+1) (acc:=(y,n)::acc) hn.2 hm
    exact⟨c,h1,by exact aX 1787244348417 tt h2⟩
theorem hV{x:Str}{c:Addr}:∀{names:List (Str×aC)} {n:Nat} {acc:List (Str×Addr)},(∀p∈acc,n<=p.2\/p∈acc)->(x,c)∈eE n names acc->n<=c\/(x,c)∈acc
 |[],_,_,_,h=> .inr h
 |(y,k)::r,n,acc,h0,h=>by
  unfold eE at h
  cases hk:k==aq with
  |false=>rw[hk] at h; exact hV (λp hp=> .inr hp) h
  |true=>
   rw[hk] at h
   rcases hV (n:=n+1) (λp hp=> .inr hp) h with h|h
   ·exact .inl (by exact aX 1787244348417 tt h)
   ·rcases au.mp h with e|h
    ·cases e; exact .inl (bL _)
    ·exact .inr h
section
variable {W:Wd}{C:Cx}{ρ a9:Ro}{f o:Fz}{s:Shared}
theorem St.cells:∀(names:List (Str×aC)) {o:Fz} {s:Shared},St W.B f o s->∃o',o.le o'/\St W.B f o' {s with heap:=pushCells s.heap names}/\
 (∀acc x c,(x,c)∈eE s.heap.objs.size names acc->(x,c)∈acc\/(o' c=some {cls:= .type "cell",data:= .cell none}/\o c=none))
 |[],o,s,S=>⟨o, .refl o,S,λacc x c h=> .inl h⟩
 |(y,k)::r,o,s,S=>by
  unfold pushCells eE
  cases hk:k==aq with
  |false=>simp only[cb,if_false]; exact St.cells r S
  |true=>
   simp only[if_true]
   have S1:=S.gW {cls:= .type "cell",data:= .cell none}
   obtain⟨o',h1,h2,h3⟩:=St.cells r S1
   refine⟨o',(Fz.bP S.fc).trans h1,h2,λacc x c h=>?_⟩
   rw[show({s with heap:=s.heap.push {cls:= .type "cell",data:= .cell none}}:Shared).heap.objs.size=s.heap.objs.size+1 from cZ ..] at h3
   rcases h3 _ x c h with h|⟨h,g⟩
   ·rcases au.mp h with e|h
    ·cases e; exact .inr ⟨h1 _ _ (Fz.aJ ..),S.fc⟩
    ·exact .inl h
   ·refine .inr ⟨h,?_⟩
    have:c≠s.heap.objs.size:=λe=>by rw[e,Fz.aJ] at g; exact nomatch g
    rwa [Fz.az this] at g
theorem HI{b:Bd}{r:Res}(h:Bd.res true r=b.MY):False:=by
 cases b<;>first|exact Bd.noConfusion h|exact Bool.noConfusion (Bd.res.inj h).1
theorem Holds.MY{b:Bd}{vo:Option Value}(h:Holds f o b vo):Holds f o b.MY vo:=by cases b<;>exact h
theorem pJ(O:C.Ok)(H:bc C ρ f o){n:Str}{k:aC}{b:Bd}(h1:(n,k)∈C.names)(h2:k= .cell\/k= .free)(h3:(n,b)∈ρ):
 (C.env.kindOf n=some .cell\/C.env.kindOf n=some .free)/\∃c ob vo,C.env.cells.lookup n=some c/\o c=some ob/\ob.data= .cell vo/\Holds f o b vo:=by
 have hk:C.env.kindOf n=some .cell\/C.env.kindOf n=some .free:=by
  rcases h2 with rfl|rfl
  ·exact .inl (O.kinds _ _ h1 (by decide))
  ·exact O.frees _ h1
 obtain⟨vo,hv,hh⟩:=H.vars _ _ h3
 rcases hv with⟨k',_⟩|⟨_,c,ob,e1,e2,e3⟩
 ·exfalso; rcases hk with hk|hk<;>rw[hk] at k'<;>exact nomatch k'
 ·exact⟨hk,c,ob,vo,e1,e2,e3,hh⟩
noncomputable def td(C:Cx)(scope:Scope)(cenv:Env):Cx:=⟨{cenv with scope:=relabel scope C.env},C.A,scope.names⟩
theorem Ei(O:C.Ok)(S:St W.B f o s)(H:bc C ρ f o){scope:Scope}{eX:Ro}(hk:scope.kind= .function)(j6:(scope.names.map (·.1)).Nodup)(hi:nA C.names ρ scope.names eX){Q:Env->Shared->Prop}{E:Value->Shared->Prop}
 (h:∀cenv o1 s1,(td C scope cenv).Ok->o.le o1->St W.B f o1 s1->bc (td C scope cenv) eX f o1->(∀a,pz (td C scope cenv) eX a->o a=none)->(∀a,Uses (td C scope cenv) eX a->Uses C ρ a\/@LE.le Nat _ s.heap.objs.size a)->Q cenv s1):
 wpAny W.M C.A (newFunctionEnv scope C.env.globals (kK C.env scope.names []) [] C.env.qual none .none (some C.env)) Q E s:=by
 simp only[newFunctionEnv,Option.isSome_some,if_true]
 refine aa (Jt ?_)
 refine aa (wpAny_layCells _ (λname kind cells=>by cases hkc:kind==aq<;>simp) _ _ _ _ ?_)
 rw[js]
 refine aa (ao (ao ?_))
 rw[show({s with heap:=s.heap.push {cls:= .type "dict",data:= .dict #[]}}:Shared).heap.objs.size=s.heap.objs.size+1 from cZ ..]
 have S1:=S.gW {cls:= .type "dict",data:= .dict #[]}
 obtain⟨o2,l2,S2,hc⟩:=St.cells scope.names S1
 rw[show({s with heap:=s.heap.push {cls:= .type "dict",data:= .dict #[]}}:Shared).heap.objs.size=s.heap.objs.size+1 from cZ ..] at hc
 have lo:o.le o2:=(Fz.bP S.fc).trans l2
 have hL:o2 s.heap.objs.size=some {cls:= .type "dict",data:= .dict #[]}:=l2 _ _ (Fz.aJ ..)
 --Qw
 have own:∀n,(n,aq)∈scope.names->∃c,(eE (s.heap.objs.size+1) scope.names (kK C.env scope.names [])).lookup n=some c/\s.heap.objs.size+1<=c/\o2 c=some {cls:= .type "cell",data:= .cell none}/\o c=none:=by
  intro n hn
  obtain⟨c,h1,h2⟩:=fj (n:=s.heap.objs.size+1) (acc:=kK C.env scope.names []) j6 hn
  have e:=hU (kK C.env scope.names []) scope.names (s.heap.objs.size+1) []
  rw[oJ] at e
  have hm:(n,c)∈eE (s.heap.objs.size+1) scope.names []:=by
   rw[e,rf] at h1
   cases q:(eE (s.heap.objs.size+1) scope.names []).lookup n with
   |some c'=>rw[q] at h1; cases h1; exact lookup_mem q
   |none=>
    obtain⟨c',h',_⟩:=fj (n:=s.heap.objs.size+1) (acc:=[]) j6 hn
    rw[q] at h'; exact nomatch h'
  rcases hc [] n c hm with h|⟨h,g⟩
  ·exact nomatch h
  ·refine⟨c,h1,h2,h,?_⟩
   refine none_of λy q=>?_
   have:=(Fz.bP (o:=⟨.type "dict",none, .dict #[],#[]⟩) S.fc) _ _ q; exact iC g this
 have HH:∀n,(n,cM)∈scope.names->∀c,C.env.cells.lookup n=some c->(eE (s.heap.objs.size+1) scope.names (kK C.env scope.names [])).lookup n=some c:=by
  intro n hn c hc
  have G8:(n,aq)∉scope.names:=λhm=>by
   have h1:=cJ j6 hn
   cases nM (cJ j6 hm) h1
  rw[iS G8,vM j6 hn,hc]; rfl
 have kd:∀n k,(n,k)∈scope.names->(relabel scope C.env).names.lookup n=some (if(k== .free&&C.env.scope.kind== .function&&C.env.kindOf n==some .cell) then .cell else k):=λn k hm=>sY (cJ j6 hm)
 have ZG:∀n,(n,cM)∈scope.names->(relabel scope C.env).names.lookup n=some .cell\/(relabel scope C.env).names.lookup n=some .free:=by
  intro n hn
  rw[kd n _ hn]
  split
  ·exact .inl rfl
  ·exact .inr rfl
 have WQ:∀n k,(n,k)∈scope.names->k≠ .free->(relabel scope C.env).names.lookup n=some k:=by
  intro n k hn hk
  rw[kd n _ hn,if_neg]
  simp[hk]
 --distinct cells
 have dist:∀n c,((relabel scope C.env).names.lookup n=some .cell\/(relabel scope C.env).names.lookup n=some .free)->(eE (s.heap.objs.size+1) scope.names (kK C.env scope.names [])).lookup n=some c->
  ((n,aq)∈scope.names/\(n,c)∈eE (s.heap.objs.size+1) scope.names [])\/((n,cM)∈scope.names/\C.env.cells.lookup n=some c/\@LT.lt Nat _ c s.heap.objs.size/\(C.env.kindOf n=some .cell\/C.env.kindOf n=some .free)):=by
  intro n c hk hl
  have oZ:(n,aq)∈scope.names\/(n,cM)∈scope.names:=by
   rcases hk with hk|hk
   ·obtain⟨k',h1,h2⟩:=n8 hk
    rcases h2 with rfl|⟨rfl,_⟩
    ·exact .inl (lookup_mem h1)
    ·exact .inr (lookup_mem h1)
   ·obtain⟨k',h1,h2⟩:=n8 hk
    rcases h2 with rfl|⟨_,h⟩
    ·exact .inr (lookup_mem h1)
    ·exact nomatch h
  rcases oZ with hm|hm
  ·left
   refine⟨hm,?_⟩
   have e:=hU (kK C.env scope.names []) scope.names (s.heap.objs.size+1) []
   rw[oJ] at e
   rw[e,rf] at hl
   obtain⟨c',h',_⟩:=fj (n:=s.heap.objs.size+1) (acc:=[]) j6 hm
   rw[h'] at hl; cases hl; exact lookup_mem h'
  ·right
   obtain⟨k,b,h1,h2,h3⟩:=hi.free hm
   obtain⟨hk,c',ob,vo,e1,e2,_,_⟩:=pJ O H h1 h2 h3
   have:=HH n hm c' e1
   cases nM this hl
   exact⟨hm,e1,S.lt (.inr e2),hk⟩
 refine h _ o2 _ ?ok lo S2 ⟨?ok,⟨_,#[],0,hL,rfl,λ_ he=>by simp at he⟩,?_,j6.sublist hi.keys,?_,?_⟩ ?_ ?_
 case ok=>
  refine⟨hk,O.glob,O.HE,WQ,ZG,?_,O.room⟩
  intro n n' c c' h1 h2 e1 e2 ea e
  subst e
  rcases dist n c h1 e1 with⟨hm,m1⟩|⟨hm,x1,y1,z1⟩
  ·rcases dist n' c h2 e2 with⟨qY,m2⟩|⟨qY,x2,y2,z2⟩
   ·exact ea (name_of_addr (cellsFrom_ok scope.names (s.heap.push {cls:= .type "dict",data:= .dict #[]}) 0 [] ⟨λ_ _ hm=>(nomatch hm),List.Pairwise.nil⟩ (fD _)).apart (by rw[cZ]; exact m1) (by rw[cZ]; exact m2))
   ·rcases hV (λp hp=> .inr hp) m1 with h|h
    ·exact lK 0x50300843404021 tt y2 h
    ·exact nomatch h
  ·rcases dist n' c h2 e2 with⟨qY,m2⟩|⟨qY,x2,y2,z2⟩
   ·rcases hV (λp hp=> .inr hp) m2 with h|h
    ·exact lK 0x50300843404021 tt y1 h
    ·exact nomatch h
   ·exact O.apart n n' c c z1 z2 x1 x2 ea rfl
 ·intro n b hm
  rcases hi.mem hm with⟨rfl,hm|hm⟩|⟨NJ,k,b',h1,h2,h3,rfl⟩
  ·exact⟨none, .inl ⟨WQ n _ hm (by decide),_,#[],0,hL,rfl,λ_ he=>by simp at he,rfl⟩,trivial⟩
  ·obtain⟨c,h1,h2,h3,h4⟩:=own n hm
   exact⟨none, .inr ⟨.inl (WQ n _ hm (by decide)),c,_,h1,h3,rfl⟩,trivial⟩
  ·obtain⟨hk,c,ob,vo,e1,e2,e3,e4⟩:=pJ O H h1 h2 h3
   exact⟨vo, .inr ⟨ZG n NJ,c,ob,HH n NJ c e1,lo _ _ e2,e3⟩,e4.MY.mono (.refl f) lo⟩
 ·intro n u r hm a ha hs
  obtain⟨u',h3⟩:∃u',(n,Bd.res u' r)∈ρ:=by
   rcases hi.mem hm with⟨e,_⟩|⟨_,k,b',_,_,h3,e⟩
   ·exact nomatch e
   ·cases b'<;>cases e
    exact⟨_,h3⟩
  obtain⟨vo,_,hh⟩:=H.vars _ _ h3
  obtain⟨y,hy⟩:=r.there _ _ hh.2 a ha
  have kk:@LT.lt Nat _ a s.heap.objs.size:=S.lt (.inr hy)
  rcases hs with rfl|⟨m,h1,h2,h4⟩
  ·exact absurd kk (iM _)
  ·rcases dist m a h2 h4 with⟨qY,m1⟩|⟨qY,x1,y1,z1⟩
   ·rcases hV (λp hp=> .inr hp) m1 with h|h
    ·exact lK 0x50300843404021 tt kk h
    ·exact nomatch h
   ·obtain⟨k,b,_,_,h5⟩:=hi.free qY
    exact H.sep n u' r h3 a ha (.inr ⟨m,aw.mpr ⟨_,h5,rfl⟩,z1,x1⟩)
 ·intro n n' u u' r r' p q ea
  have find:∀n u r,(n,Bd.res u r)∈eX->∃u',(n,Bd.res u' r)∈ρ:=by
   intro n u r p
   rcases hi.mem p with⟨e,_⟩|⟨_,k,b',_,_,h3,e⟩
   ·exact nomatch e
   ·cases b'<;>cases e
    exact⟨_,h3⟩
  obtain⟨_,p'⟩:=find _ _ _ p
  obtain⟨_,q'⟩:=find _ _ _ q
  exact H.two n n' _ _ r r' p' q' ea
 ·intro a hm
  rcases hm with rfl|⟨n,hn,_,hl⟩|⟨n,r,hm,ha⟩
  ·exact S.fc
  ·obtain⟨c,h1,h2,h3,h4⟩:=own n hn
   have:some c=some a:=h1.symm.trans hl
   cases this; exact h4
  ·rcases hi.mem hm with⟨e,_⟩|⟨_,k,b',_,_,h3,e⟩
   ·exact nomatch e
   ·exact(HI e).elim
 ·intro a hm
  rcases hm with(rfl|⟨n,h1,h2,h3⟩)|⟨n,u,r,hm,ha⟩
  ·exact .inr (bL _)
  ·rcases dist n a h2 h3 with⟨hm,m1⟩|⟨hm,x1,y1,z1⟩
   ·rcases hV (λp hp=> .inr hp) m1 with h|h
    ·exact .inr (Nat.le_of_succ_le h)
    ·exact nomatch h
   ·obtain⟨k,b,h1,h2,h3⟩:=hi.free hm
    exact .inl (.inl (.inr ⟨n,aw.mpr ⟨_,h3,rfl⟩,z1,x1⟩))
  ·rcases hi.mem hm with⟨e,_⟩|⟨_,k,b',_,_,h3,e⟩
   ·exact nomatch e
   ·cases b'<;>cases e
    exact .inl (.inr ⟨n,_,_,h3,ha⟩)
end
theorem ym(elt t1 i1 t2 i2:Expr)(Ac Ad:List Expr)(scope:Scope)(pos:Pos)(it acc:Value)(env:Env):
 Bc (.ListComp elt [⟨t1,i1,Ac,0⟩,⟨t2,i2,Ad,0⟩] scope pos) 0 it acc env=(do
  dF i1.pos
  match <-pyNext it with
  |none=>pure (.done .next)
  |some v=>
   jo t1 it v
   assign t1 env v
   let mut ok:=true
   for c in Ac do
    if ok then ok <-isTrue c env (eval c env)
   if ok then
    let x <-eval i2 env
    dF i2.pos
    let x <-bH i2 env x
    let _ <-runOwn (.compStart (.ListComp elt [⟨t1,i1,Ac,0⟩,⟨t2,i2,Ad,0⟩] scope pos) 1 (<-holding [x] (pyIter x)) acc env) env
   again (.compLoop (.ListComp elt [⟨t1,i1,Ac,0⟩,⟨t2,i2,Ad,0⟩] scope pos) 0 it acc env)):=by rfl
theorem yn(elt t1 i1 t2 i2:Expr)(Ac Ad:List Expr)(scope:Scope)(pos:Pos)(it acc:Value)(env:Env):
 Bc (.ListComp elt [⟨t1,i1,Ac,0⟩,⟨t2,i2,Ad,0⟩] scope pos) 1 it acc env=(do
  dF i2.pos
  match <-pyNext it with
  |none=>pure (.done .next)
  |some v=>
   jo t2 it v
   assign t2 env v
   let mut ok:=true
   for c in Ad do
    if ok then ok <-isTrue c env (eval c env)
   if ok then
    (do let _ <-call (.builtin "list.append") [acc,<-eval elt env])
   again (.compLoop (.ListComp elt [⟨t1,i1,Ac,0⟩,⟨t2,i2,Ad,0⟩] scope pos) 1 it acc env)):=by rfl
section
variable {W:Wd}{C:Cx}{ρ a9:Ro}{f o:Fz}{s:Shared}
theorem LstIs.plain(S:St W.B f o s){a:Addr}{ds:List D}(h:LstIs f o a ds):∃vs n,o a=some {cls:= .type "list",data:= .seq ⟨vs⟩ n}/\bQ f ds vs:=by
 obtain⟨⟨c,d,dt,sl⟩,vs,n,h1,⟨h2,h3,h4⟩,h5,h6⟩:=h
 dsimp only at h2 h3 h4 h5
 subst h2 h3 h4 h5
 exact⟨vs,n,h1,h6⟩
theorem wY{A:Around}{a:Addr}{ds:List D}{d:D}{v:Value}(S:St W.B f o s)(l:LstIs f o a ds)(hd:Den f d v)(fC:ds.length<=16777216){Q:Value->Shared->Prop}{E:Value->Shared->Prop}
 (h:∀o' s',St W.B f o' s'->LstIs f o' a (ds++[d])->(∀b y,o b=some y->b≠a->o' b=some y)->Q .none s'):wpAny W.M A (call (.builtin "list.append") [.ref a,v]) Q E s:=by
 obtain⟨vs,n,h1,h2⟩:=l.plain S
 refine wpAny_list_append_plain ⟨n,S.own _ _ h1⟩ (λh' WR hs=>?_) (by rw[bu]; show vs.length<=_; rw[h2.length]; exact fC)
 obtain⟨n',g⟩:=WR
 exact h _ _ (S.same h1 hs g) ⟨_,vs++[v],n',Fz.aJ ..,⟨rfl,rfl,rfl⟩,by simp,h2.snoc hd⟩ λb y e hb=>by rw[Fz.az hb]; exact e
theorem bc.put(H:bc C ρ f o){a:Addr}{x':Obj}(hc:¬Uses C ρ a):bc C ρ f (o.put a x'):=
 H.off λb y e hu=>by rw[Fz.az (λq=>hc (by subst q; exact hu))]; exact e
noncomputable def CN(W:Wd)(C:Cx)(Dl:Addr)(ρ:Ro)(t:Sem Unit)(ds:List D):Prop:=∀f o s acc,St W.B f o s->bc C ρ f o->LstIs f o Dl acc->acc.length+ds.length<=100000->¬Uses C ρ Dl->∀(Q:Unit->Shared->Prop) (E:Value->Shared->Prop),
 (∀f' o' s',f.le f'->St W.B f' o' s'->bc C ρ f' o'->LstIs f' o' Dl (acc++ds)->(∀a y,o a=some y->¬pz C ρ a->a≠Dl->o' a=some y)->Q () s')->wpAny W.M C.A t Q E s
theorem CN.elt{e:Expr}{d:D}{Dl:Addr}(x:eg W C ρ e d):CN W C Dl ρ (do let _ <-call (.builtin "list.append") [.ref Dl,<-eval e C.env]) [d]:=λf o s acc S H hl hn hm Q E h=>by
 refine aa (x f o s S H _ _ λv f1 s1 l1 S1 d1=>?_)
 refine aa (wY (S:=S1) (l:=hl.mono l1 (.refl o)) d1 (by simp only[aQ,fg] at hn; exact aN 0x716d42549c010084308421084801 tt hn) λo' s' a1 a2 a3=>?_)
 exact ao (h f1 _ _ l1 a1 ((H.mono l1 (.refl o)).off λb y e hu=>a3 b y e λq=>hm (q▸hu)) a2 λa y e _ ha=>a3 a y e ha)
inductive Clause(W:Wd)(C:Cx)(ρ:Ro)(eP:Expr)(ifs:List Expr)(P:Ro->List D->Prop):List D->List D->Prop
 |nil:Clause W C ρ eP ifs P [] []
 |cons {x:D} {xs ds out:List D} {mm:Ro} {b:Bool}:jP W C ρ eP x mm->yl W C mm ifs b->(b=true->P mm ds)->(b=false->ds=[])->pd mm ρ->Clause W C ρ eP ifs P xs out->Clause W C ρ eP ifs P (x::xs) (ds++out)
theorem pK(O:C.Ok){Dl:Addr}{it:Value}{eP:Expr}{ifs:List Expr}{p:Pos}{t:Sem Unit}{c:Code}{P:Ro->List D->Prop}(hh:C.A.handled=none)(DP:Rm C.A)(hq:c.quiet=true)(hu:C.A.under c=C.A)
 (hP:∀mm ds,P mm ds->CN W C Dl mm t ds)
 (NS:W.M.den c=(do
  dF p
  match <-pyNext it with
  |none=>pure (.done .next)
  |some v=>
   jo eP it v
   assign eP C.env v
   let ok <-forIn ifs true λc r=>if r=true then do let ok <-isTrue c C.env (eval c C.env); pure (fE ok) else pure (fE r)
   if ok then t
   again c:Sem Fin).onRaise λx=>do iL x C.env; gj x)
 {xs out:List D} (hc:Clause W C ρ eP ifs P xs out):∀{w f o:Fz} {s:Shared} {acc:List D},St W.B f o s->bc C ρ f o->o9 W eP xs w f it->w.le o->LstIs f o Dl acc->acc.length+out.length<=100000->¬Uses C ρ Dl->
  (∀a,w a≠none->¬Uses C ρ a/\a≠Dl)->∀(R:Result->Shared->Prop),
  (∀f' o' s',f.le f'->St W.B f' o' s'->bc C ρ f' o'->LstIs f' o' Dl (acc++out)->(∀a y,o a=some y->¬pz C ρ a->a≠Dl->w a=none->o' a=some y)->R (.ok .next) s')->eD W.M C.A c R s:=by
 induction hc with
 |nil=>
  intro w f o s acc S H I hw hl hn hm hd R h
  refine gm ?_
  rw[hu,NS]
  refine nP (aa (aZ (aa (I C.A f o s _ _ hh DP (.refl f) hw S λo' s' S' off=>?_))))
  have te:∀a,Uses C ρ a->w a=none:=λa hu=>by
   exact none_of λy q=>absurd hu (hd a (by exact sn q)).1
  refine ao (h f o' s' (.refl f) S' (H.off λa y e hu=>off a y e (te a hu)) ?_ λa y e h1 h2 h3=>off a y e h3)
  obtain⟨ob,vs,n,e1,r,y1,y2⟩:=hl
  rw[gU]
  refine⟨ob,vs,n,off _ _ e1 ?_,r,y1,y2⟩
  exact none_of λy q=>absurd rfl (hd Dl (by exact sn q)).2
 | @cons x xs ds out mm b h1 h2 h3 h4 h5 _ ih=>
  intro w f o s acc S H I hw hl hn hm hd R h
  have te:∀a,Uses C ρ a->w a=none:=λa hu=>by
   exact none_of λy q=>absurd hu (hd a (by exact sn q)).1
  have NT:w Dl=none:=by
   exact none_of λy q=>absurd rfl (hd Dl (by exact sn q)).2
  have NU:∀a,pz C ρ a->Uses C ρ a:=λa hm=>hm.uses O
  have hux:∀a,Uses C mm a->Uses C ρ a:=λa hu=>Uses.of h1.1.2 h1.1.1 hu
  refine gm ?_
  rw[hu,NS]
  refine nP (aa (aZ (aa (dD (I C.A f o s (λv s1=>wpAny W.M C.A (do
   assign eP C.env v
   let ok <-forIn ifs true λc r=>if r=true then do let ok <-isTrue c C.env (eval c C.env); pure (fE ok) else pure (fE r)
   if ok then t
   again c:Sem Fin) (λfin s'=>match fin with| .done f=>R (.ok f) s'| .again c'=>c'.quiet=true/\eD W.M C.A c' R s') (notedBy W.M C.A C.env λe s'=>R (.error e) s') s1)
   _ hh DP (.refl f) hw S λv f1 o1 s1 w1 l1 S1 off HJ Ae hv I1=>?_) (λr s1 hr=>?_) λ_ _ e=>e))))
  ·have H1:bc C ρ f1 o1:=(H.mono l1 (.refl o)).off λa y e hu=>off a y e (te a hu)
   have NV:LstIs f1 o1 Dl acc:=by
    obtain⟨ob,vs,n,e1,e2,e3,e4⟩:=hl
    exact⟨ob,vs,n,off _ _ e1 NT,e2,e3,e4.mono l1⟩
   have M0:∀a,w1 a≠none->¬Uses C ρ a/\a≠Dl:=λa ha=>by
    rcases Ae a ha with q|q
    ·exact hd a q
    ·refine⟨λhu=>?_,λe=>?_⟩
     ·obtain⟨y,hy⟩:=H.there hu; exact iC q hy
     ·obtain⟨ob,vs,n,e1,_⟩:=hl; subst e; exact iC q e1
   refine aa (h1.2 f1 o1 s1 v S1 H1 hv _ _ λf2 o2 s2 L2=>aa (h2 f2 o2 s2 L2.st L2.env _ _ λf3 s3 l3 S3=>?_))
   have M1:LstIs f3 o2 Dl acc:=by
    obtain⟨ob,vs,n,e1,e2,e3,e4⟩:=NV
    exact⟨ob,vs,n,L2.step _ _ e1 λK4=>hm (NU _ K4),e2,e3,e4.mono (L2.le.trans l3)⟩
   --behind K5 NW
   have fin:∀f4 o4 s4,f3.le f4->St W.B f4 o4 s4->bc C ρ f4 o4->LstIs f4 o4 Dl (acc++ds)->(∀a y,o2 a=some y->¬pz C mm a->a≠Dl->o4 a=some y)->eD W.M C.A c R s4:=by
    intro f4 o4 s4 l4 S4 H4 NX keep
    have ZH:f1.le f4:=L2.le.trans (l3.trans l4)
    have ZI:∀a y,o1 a=some y->¬pz C ρ a->a≠Dl->o4 a=some y:=λa y e K4 ea=>by
     have e2:=L2.step a y e K4
     refine keep a y e2 (λhx=>?_) ea
     rcases L2.rk a hx with q|q
     ·exact K4 q
     ·exact iC q e
    refine ih (w:=w1) S4 H4 (I1.mono ZH) (λa y e=>ZI a y (HJ _ _ e) (λq=>(M0 a (by exact sn e)).1 (NU a q)) (M0 a (by exact sn e)).2) NX ?_ hm M0 R λf' o' s' l5 S5 H5 hl5 NY=>?_
    ·simp only[a8] at hn ⊢; exact cG 0x1c5b5090830040210e2da8484104201 tt hn
    ·refine h f' o' s' (l1.trans (ZH.trans l5)) S5 H5 (by rw[<-mH]; exact hl5) λa y e K4 ea th=>?_
     refine NY a y (ZI a y (off a y e th) K4 ea) K4 ea ?_
     refine none_of λz q=>?_
     rcases Ae a (by exact sn q) with q|q
     ·exact absurd th q
     ·exact iC q e
   cases b with
   |true=>
    refine aa (hP _ _ (h3 rfl) f3 o2 s3 acc S3 (L2.env.mono l3 (.refl o2)) M1 ?_ (λhu=>hm (hux _ hu)) _ _ λf4 o4 s4 l4 S4 H4 NX keep=>ao ⟨hq,fin f4 o4 s4 l4 S4 (H4.weak h5) NX keep⟩)
    simp only[a8] at hn; exact cG 0x716d42420c01008438b6a1208201 tt hn
   |false=>
    obtain rfl:=h4 rfl
    exact ao ⟨hq,fin f3 o2 s3 (.refl f3) S3 ((L2.env.mono l3 (.refl o2)).weak h5) (by rw[gU]; exact M1) λa y e _ _=>e⟩
  ·obtain⟨v,rfl,hv⟩:=hr
   exact aa hv
end
section
variable {W:Wd}{C:Cx}{ρ a9 eX:Ro}{f o:Fz}{s:Shared}
theorem St.wZ(S:St W.B f o s){a:Addr}{h':Heap}(hf:f a=none)(ho:o a=none)(ht:¬W.B.side a)(hs:fu a s.heap h'):St W.B f o {s with heap:=h'}:=
 ⟨λb x e=>(hs.2 b (λq=>by subst q; exact iC hf e)).trans (S.sub b x e),λb x e=>(hs.2 b (λq=>by subst q; exact iC ho e)).trans (S.own b x e),S.apart,S.base,
  λc hc=>let⟨z,hz,hq⟩:=S.tab c hc; ⟨z,(hs.2 _ (λq=>ht (q▸hc))).trans hz,hq⟩,S.fq,S.os,S.gens⟩
noncomputable def Runs(W:Wd)(C:Cx)(ρ:Ro)(eP e:Expr)(xs out:List D):Prop:=∀Dl it w f o s,St W.B f o s->bc C ρ f o->o9 W eP xs w f it->rh W w f it->w.le o->LstIs f o Dl []->¬Uses C ρ Dl->(∀a,w a≠none->¬Uses C ρ a/\a≠Dl)->∀(R:Result->Shared->Prop),
 (∀f' o' s',f.le f'->St W.B f' o' s'->bc C ρ f' o'->LstIs f' o' Dl out->(∀a y,o a=some y->¬pz C ρ a->a≠Dl->w a=none->o' a=some y)->R (.ok .next) s')->eD W.M C.A (.compStart e 0 it (.ref Dl) C.env) R s
theorem yo(O:C.Ok)(S:St W.B f o s)(H:bc C ρ f o){elt:Expr}{g:dU}{gs:List dU}{scope:Scope}{p pos:Pos}{xs out:List D}(hit:Aa W C ρ g.target g.iter xs)(hs:∀x,bH g.iter C.env x=pure x)
 (hk:scope.kind= .function) (j6:(scope.names.map (·.1)).Nodup) (hi:nA C.names ρ scope.names eX)
 (hr:∀cenv,(td C scope cenv).Ok->Runs W (td C scope cenv) eX g.target (.ListComp elt (g::gs) scope pos) xs out)
 {use:Option (Value->Sem Unit)} {Q:Value->Shared->Prop} {E:Value->Shared->Prop}
 (h:∀(v:Value) (f' o':Fz) (s':Shared) (L:Addr),f.le f'->o.le o'->St W.B f' o' s'->Den f' (.list out) v->f' L=none->o L=none->¬W.B.side L->(∃ob es ep,o' L=some ob/\ob.data= .dict es ep/\StrKeys es)->
  match use with
  |none=>∀h',fu L s'.heap h'->Q v {s' with heap:=h'}
  |some u=>wpAny W.M C.A (u v) (λ_ xT=>(∃m,xT.heap.Ns L m)/\∀h',fu L xT.heap h'->Q .none {xT with heap:=h'}) E s'):
 wpAny W.M C.A (comprehension (.ListComp elt (g::gs) scope pos) scope C.env p (newList []) false (firstIter (g::gs) C.env) use) Q E s:=by
 have K6:∀n,(n,cM)∈scope.names->∃c,C.env.cells.lookup n=some c:=λn hn=>by
  obtain⟨k,b,h1,h2,h3⟩:=hi.free hn
  obtain⟨_,c,_,_,e,_⟩:=pJ O H h1 h2 h3
  exact⟨c,e⟩
 refine wpAny_comprehension_free (g:=g) (gs:=gs) rfl hs (u4 K6) hk (λx hx hl=>by obtain⟨n,k⟩:=x; dsimp only at hl; subst hl; exact cJ j6 hx) ?_
 rw[show firstIter (g::gs) C.env=eval g.iter C.env by obtain⟨_,_,_,_⟩:=g; rfl]
 refine hit f o s S H _ _ λit w f1 o1 s1 l1 S1 lo1 HJ te I1 Is1=>?_
 refine oG ?_ (by rw[bu]; exact fD _)
 have S2:=S1.gW {cls:= .type "list",data:= .seq ([]:List Value).toArray}
 have G9:o1.le (o1.put s1.heap.objs.size {cls:= .type "list",data:= .seq ([]:List Value).toArray}):=Fz.bP S1.fc
 refine Ei O S2 (H.mono l1 (lo1.trans G9)) hk j6 hi λcenv o3 s3 O' l3 S3 H3 K7 hu3=>?_
 have oD:o s1.heap.objs.size=none:=by
  refine none_of λy q=>?_
  have:=lo1 _ _ q; exact iC (S1.fc ..) this
 have fC:(s1.heap.push {cls:= .type "list",data:= .seq ([]:List Value).toArray}).objs.size=s1.heap.objs.size+1:=cZ ..
 have lD:LstIs f1 o3 s1.heap.objs.size []:=⟨_,[],0,l3 _ _ (Fz.aJ ..),⟨rfl,rfl,rfl⟩,rfl,rfl⟩
 have Ej:∀a,o a=none->@LT.lt Nat _ a (s1.heap.objs.size+1)->¬Uses (td C scope cenv) eX a:=λa ha kk hu=>by
  rcases hu3 a hu with q|q
  ·obtain⟨y,hy⟩:=H.there q; exact iC ha hy
  ·rw[fC] at q; exact lK 0x140c021a061404021 tt kk q
 refine hr cenv O' _ it w f1 o3 s3 S3 H3 I1 Is1 (HJ.trans (G9.trans l3)) lD (Ej _ oD (uT _)) (λa ha=>?_) _ λf4 o4 s4 l4 S4 H4 NX keep=>?_
 ·cases q:w a with
  |none=>exact absurd q ha
  |some y=>
   have kk:a<s1.heap.objs.size:=S1.lt (.inr (HJ _ _ q))
   exact⟨Ej a (te a ha) (jz kk),bg kk⟩
 ·obtain⟨ob,vs,n,e1,e2,e3,e4⟩:=NX
  obtain⟨oL,es,ep,g1,g2,g3⟩:=H4.ns
  have ZJ:cenv.locals≠s1.heap.objs.size:=λq=>by
   have HL:o4 cenv.locals=some oL:=g1
   rw[q,e1] at HL; cases HL; rw[e3] at g2; exact nomatch g2
  have oL0:o cenv.locals=none:=by
   have:=K7 cenv.locals (.inl rfl)
   refine none_of λy q=>?_
   have q':=G9 _ _ (lo1 _ _ q); rw[this] at q'; exact nomatch q'
  have lo4:o.le (o4.del s1.heap.objs.size):=λa y e=>by
   have e1:=lo1 _ _ e
   have ea:a≠s1.heap.objs.size:=λq=>by subst q; exact iC oD e
   unfold Fz.del
   rw[if_neg ea]
   refine keep a y (l3 _ _ (G9 _ _ e1)) (λq=>?_) ea ?_
   ·have:=K7 a q; rw[G9 _ _ e1] at this; exact nomatch this
   ·refine none_of λz q=>?_
    have:=te a (by exact sn q); rw[e] at this; exact nomatch this
  have S5:=S4.freeze e1
  have WT:Den (f4.put s1.heap.objs.size ob) (.list out) (.ref s1.heap.objs.size):=⟨_,ob,vs,n,rfl,Fz.aJ ..,e2,e3,e4.mono (Fz.bP (S4.fw e1))⟩
  have tL:¬W.B.side cenv.locals:=S4.iH (.inr g1)
  have z:=h _ _ _ s4 cenv.locals (l1.trans (l4.trans (Fz.bP (S4.fw e1)))) lo4 S5 WT (by rw[Fz.az ZJ]; exact S4.fw g1) oL0 tL ⟨oL,es,ep,by unfold Fz.del; rw[if_neg ZJ]; exact g1,g2,g3⟩
  have nsL:s4.heap.Ns cenv.locals (nsFind es):=⟨oL,es,ep,S4.own _ _ g1,g2,g3,λ_=>rfl⟩
  cases use with
  |none=>exact⟨_,nsL,z⟩
  |some u=>exact dD z (λ_ xT y=>let⟨⟨m,hm⟩,y2⟩:=y; ⟨m,hm,y2⟩) λ_ _ e=>e
theorem eg.comp(O:C.Ok){elt:Expr}{g:dU}{gs:List dU}{scope:Scope}{pos:Pos}{xs out:List D}(hit:Aa W C ρ g.target g.iter xs)(hs:∀x,bH g.iter C.env x=pure x)
 (hk:scope.kind= .function) (j6:(scope.names.map (·.1)).Nodup) (hi:nA C.names ρ scope.names eX) (ha:firstAsync (g::gs)=false)
 (hr:∀cenv,(td C scope cenv).Ok->Runs W (td C scope cenv) eX g.target (.ListComp elt (g::gs) scope pos) xs out):eg W C ρ (.ListComp elt (g::gs) scope pos) (.list out):=λf o s S H Q E h=>by
 rw[eval_ListComp,ha]
 refine yo O S H hit hs hk j6 hi hr (use:=aD) λv f' o' s' L l1 lo S' hd h1 h2 h3 _=>?_
 dsimp only
 exact λh' hs=>h v f' _ l1 ((S'.drop lo).wZ h1 h2 h3 hs) hd
noncomputable def Af(W:Wd)(C:Cx)(elt:Expr)(ρ:Ro)(ds:List D):Prop:=∃d,ds=[d]/\eg W C ρ elt d
noncomputable def ti(W:Wd)(C:Cx)(g:dU)(elt:Expr)(ρ:Ro)(ds:List D):Prop:=∃ys,Aa W C ρ g.target g.iter ys/\Clause W C ρ g.target g.ifs (Af W C elt) ys ds
theorem pL{e:Expr}{sc:Scope}{p:Pos}{gs:List dU}{n:Nat}{it acc:Value}{env:Env}(A:Around):A.under (.compLoop (.ListComp e gs sc p) n it acc env)=A:=nv rfl
theorem JL(O:C.Ok)(hh:C.A.handled=none){elt eP iter:Expr}{ifs:List Expr}{scope:Scope}{pos:Pos}{xs out:List D}(hc:Clause W C ρ eP ifs (Af W C elt) xs out)(hn:out.length<=100000):Runs W C ρ eP (.ListComp elt [⟨eP,iter,ifs,0⟩] scope pos) xs out:=λDl it w f o s S H I Is hw hl hm hd R h=>by
 have loop:eD W.M C.A (.compLoop (.ListComp elt [⟨eP,iter,ifs,0⟩] scope pos) 0 it (.ref Dl) C.env) R s:=by
  refine pK O (t:=do let _ <-call (.builtin "list.append") [.ref Dl,<-eval elt C.env]) (p:=iter.pos) hh O.room rfl (pL _) (λmm ds hp=>?_) ?_ hc S H I hw hl (by simpa using hn) hm hd R h
  ·obtain⟨d,rfl,x⟩:=hp; exact CN.elt x
  ·show(Bc (.ListComp elt [⟨eP,iter,ifs,0⟩] scope pos) 0 it (.ref Dl) C.env).onRaise (λx=>do iL x C.env; gj x)=_
   rw[compTurn_list]; rfl
 exact GU loop (Is C.A f o s _ _ (.refl f) hw S loop)
theorem Ag{A:Around}{R:Result->Shared->Prop}{elt t1 i1 t2 i2:Expr}{f1 f2:List Expr}{scope:Scope}{pos:Pos}{it acc:Value}{env:Env}
 (h0:eD W.M A (.compLoop (.ListComp elt [⟨t1,i1,f1,0⟩,⟨t2,i2,f2,0⟩] scope pos) 1 it acc env) R s)
 (h:wpAny W.M A (pyIter it) (λWU s'=>eD W.M A (.compLoop (.ListComp elt [⟨t1,i1,f1,0⟩,⟨t2,i2,f2,0⟩] scope pos) 1 WU acc env) R s') (notedBy W.M A env λx s'=>R (.error x) s') s):
 eD W.M A (.compStart (.ListComp elt [⟨t1,i1,f1,0⟩,⟨t2,i2,f2,0⟩] scope pos) 1 it acc env) R s:=by
 refine gm ?_
 show wpAny _ _ ((pv (.ListComp elt [⟨t1,i1,f1,0⟩,⟨t2,i2,f2,0⟩] scope pos) 1 it acc env).onRaise (λx=>do iL x env; dF theWindowsPlace)) _ _ s
 refine wpAny_notedAt ?_
 unfold pv
 show wpAny _ _ (ask >>= _) _ _ s
 refine aa (pj (wpAny_ite ?_))
 split
 ·first
   |exact aa (ao (ao (zS rfl h0)))
   |exact ao (zS rfl h0)
 ·first
   |exact aa (m7 (aa (aZ (aa (dD h (λWU s' h'=>ao (zS rfl h')) λ_ _ x=>x)))))
   |(refine aa (m7 ?_); show wpAny _ _ (dF i2.pos >>= _) _ _ s; exact aa (aZ (aa (dD h (λWU s' h'=>ao (zS rfl h')) λ_ _ x=>x))))
theorem mark_none(A:Around):A.mark none=A:=by
 obtain⟨h,d,f,g,u⟩:=A
 cases h<;>rfl
theorem NZ(O:C.Ok)(hh:C.A.handled=none){elt t1 i1 t2 i2:Expr}{q1 q2:List Expr}{scope:Scope}{pos:Pos}{ds:List D}{Dl:Addr}(hs:∀x,bH i2 C.env x=pure x)(hp:ti W C ⟨t2,i2,q2,0⟩ elt ρ ds):
 CN W C Dl ρ (do
  let x <-eval i2 C.env
  dF i2.pos
  let x <-bH i2 C.env x
  let _ <-runOwn (.compStart (.ListComp elt [⟨t1,i1,q1,0⟩,⟨t2,i2,q2,0⟩] scope pos) 1 (<-holding [x] (pyIter x)) (.ref Dl) C.env) C.env) ds:=λf o s acc S H hl hn hm Q E h=>by
 obtain⟨ys,hi,hc⟩:=hp
 refine aa (dD (hi f o s S H _ _ λit w f1 o1 s1 l1 S1 lo hw te I Is=>?_) (λx s1 h1=>aa (aZ (aa (Js (hs x) (aa (aL h1)))))) λ_ _ e=>e)
 have NV:LstIs f1 o1 Dl acc:=hl.mono l1 lo
 have hd:∀a,w a≠none->¬Uses C ρ a/\a≠Dl:=λa ha=>by
  refine⟨λhu=>?_,λe=>?_⟩
  ·obtain⟨y,hy⟩:=H.there hu; exact iC (te a ha) hy
  ·obtain⟨ob,vs,n,e1,_⟩:=hl; subst e; exact iC (te a ha) e1
 refine aa (wpAny_runOwn ?_)
 rw[mark_none]
 have loop:eD W.M C.A (.compLoop (.ListComp elt [⟨t1,i1,q1,0⟩,⟨t2,i2,q2,0⟩] scope pos) 1 it (.ref Dl) C.env) (λr s'=>match r with| .ok f=>wpAny W.M C.A (pure ()) Q E s'| .error e=>cameBackBy W.M C.A C.env E e s') s1:=by
  refine pK O (t:=do let _ <-call (.builtin "list.append") [.ref Dl,<-eval elt C.env]) (p:=i2.pos) hh O.room rfl (pL _) (λmm ds hp=>?_) ?_ hc S1 (H.mono l1 lo) I hw NV hn hm hd _ λf' o' s' l2 S2 H2 M1 keep=>?_
  ·obtain⟨d,rfl,x⟩:=hp; exact CN.elt x
  ·show(Bc (.ListComp elt [⟨t1,i1,q1,0⟩,⟨t2,i2,q2,0⟩] scope pos) 1 it (.ref Dl) C.env).onRaise (λx=>do iL x C.env; gj x)=_
   rw[yn]
  ·refine ao (h f' o' s' (l1.trans l2) S2 H2 M1 λa y e h1 h2=>keep a y (lo _ _ e) h1 h2 ?_)
   refine none_of λz q=>?_
   have:=te a (by exact sn q); rw[e] at this; exact nomatch this
 exact Ag loop (Is C.A f1 o1 s1 _ _ (.refl f1) hw S1 loop)
theorem JM(O:C.Ok)(hh:C.A.handled=none){elt t1 i1 t2 i2:Expr}{f1 f2:List Expr}{scope:Scope}{pos:Pos}{xs out:List D}(hs:∀x,bH i2 C.env x=pure x)
 (hc:Clause W C ρ t1 f1 (ti W C ⟨t2,i2,f2,0⟩ elt) xs out) (hn:out.length<=100000):Runs W C ρ t1 (.ListComp elt [⟨t1,i1,f1,0⟩,⟨t2,i2,f2,0⟩] scope pos) xs out:=λDl it w f o s S H I Is hw hl hm hd R h=>by
 have loop:eD W.M C.A (.compLoop (.ListComp elt [⟨t1,i1,f1,0⟩,⟨t2,i2,f2,0⟩] scope pos) 0 it (.ref Dl) C.env) R s:=by
  refine pK O (t:=do
   let x <-eval i2 C.env
   dF i2.pos
   let x <-bH i2 C.env x
   let _ <-runOwn (.compStart (.ListComp elt [⟨t1,i1,f1,0⟩,⟨t2,i2,f2,0⟩] scope pos) 1 (<-holding [x] (pyIter x)) (.ref Dl) C.env) C.env) (p:=i1.pos) hh O.room rfl (pL _) (λmm ds hp=>NZ O hh hs hp) ?_ hc S H I hw hl (by simpa using hn) hm hd R h
  show(Bc (.ListComp elt [⟨t1,i1,f1,0⟩,⟨t2,i2,f2,0⟩] scope pos) 0 it (.ref Dl) C.env).onRaise (λx=>do iL x C.env; gj x)=_
  rw[ym]
  simp only[bind_assoc,pure_bind]
 exact GU loop (Is C.A f o s _ _ (.refl f) hw S loop)
end
inductive Out where
 |next (ρ:Ro)
 |brk (ρ:Ro)
 |cont (ρ:Ro)
 |ret (d:D)
structure Ah(W:Wd)(C:Cx)(ρ:Ro)(f o:Fz)(d:D)(v:Value)(f' o':Fz)(s':Shared):Prop where
 le:f.le f'
 st:St W.B f' o' s'
 step:qi C ρ o o'
 den:Den f' d v
noncomputable def pA(W:Wd)(C:Cx)(ρ:Ro)(f o:Fz)(fl:Flow)(s':Shared):Out->Prop
 | .next a9=>fl= .next/\∃f' o',Left W C ρ a9 f o f' o' s'
 | .brk a9=>fl= .brk/\∃f' o',Left W C ρ a9 f o f' o' s'
 | .cont a9=>fl= .cont/\∃f' o',Left W C ρ a9 f o f' o' s'
 | .ret d=>∃v f' o',fl= .ret v/\Ah W C ρ f o d v f' o' s'
noncomputable def fQ(W:Wd)(C:Cx)(ρ:Ro)(ss:List Stmt)(Q:Out->Prop):Prop:=∀f o s,St W.B f o s->bc C ρ f o->∀(P:Flow->Shared->Prop) (E:Value->Shared->Prop),
 (∀out fl s',Q out->pA W C ρ f o fl s' out->P fl s')->wpAny W.M C.A (execs ss C.env) P E s
section
variable {W:Wd}{C:Cx}{ρ a9 bD:Ro}{f o wX du:Fz}{s cU:Shared}{Q:Out->Prop}
theorem Ah.after{d:D}{v:Value}{f' o':Fz}{s':Shared}(x:Left W C ρ bD f o wX du cU)(y:Ah W C bD wX du d v f' o' s'):Ah W C ρ f o d v f' o' s':=
 ⟨x.le.trans y.le,y.st,λa z e hm=>y.step a z (x.step a z e hm) λh=>by
  (rcases x.rk a h with h|h
   ·exact hm h
   ·exact iC h e),y.den⟩
theorem pA.after{fl:Flow}{s':Shared}(x:Left W C ρ bD f o wX du cU){u:Out}(h:pA W C bD wX du fl s' u):pA W C ρ f o fl s' u:=by
 cases u with
 |ret d=>obtain⟨v,f',o',e,y⟩:=h; exact⟨v,f',o',e,Ah.after x y⟩
 |_=>obtain⟨e,f',o',y⟩:=h; exact⟨e,f',o',x.trans y⟩
theorem fQ.after{ss:List Stmt}(x:Left W C ρ bD f o wX du cU)(h:fQ W C bD ss Q){P:Flow->Shared->Prop}{E:Value->Shared->Prop}(hP:∀out fl s',Q out->pA W C ρ f o fl s' out->P fl s'):wpAny W.M C.A (execs ss C.env) P E cU:=
 h wX du cU x.st x.env P E λout fl s' hq ho=>hP out fl s' hq (pA.after x ho)
theorem fQ.nil(h:Q (.next ρ)):fQ W C ρ [] Q:=λf o s S H P E hP=>jn (hP _ _ _ h ⟨rfl,f,o, .refl S H⟩)
theorem fQ.mono{ss:List Stmt}{Q':Out->Prop}(h:fQ W C ρ ss Q)(hq:∀out,Q out->Q' out):fQ W C ρ ss Q':=λf o s S H P E hP=>h f o s S H P E λout fl s' q=>hP out fl s' (hq _ q)
theorem fQ.ghost{ss:List Stmt}(h:fQ W C a9 ss Q)(g:∀f o s,St W.B f o s->bc C ρ f o->∃f' o',Left W C ρ a9 f o f' o' s):fQ W C ρ ss Q:=λf o s S H P E hP=>
 let⟨_,_,L⟩:=g f o s S H; fQ.after L h hP
noncomputable def Ai(W:Wd)(C:Cx)(rest:List Stmt)(Q:Out->Prop):Out->Prop
 | .next a9=>fQ W C a9 rest Q
 |out=>Q out
noncomputable def WV(W:Wd)(C:Cx)(ρ:Ro)(st:Stmt)(Q:Out->Prop):Prop:=∀f o s,St W.B f o s->bc C ρ f o->∀(P:Flow->Shared->Prop) (E:Value->Shared->Prop),
 (∀out fl s',Q out->pA W C ρ f o fl s' out->P fl s')->wpAny W.M C.A (exec st C.env) P E s
theorem fQ.cons{st:Stmt}{rest:List Stmt}(h:WV W C ρ st (Ai W C rest Q)):fQ W C ρ (st::rest) Q:=λf o s S H P E hP=>
 gM (h f o s S H _ _ λout fl s' hq ho=>by
  cases out with
  |next a9=>obtain⟨rfl,f',o',L⟩:=ho; exact fQ.after L hq hP
  |brk a9=>obtain⟨rfl,r⟩:=ho; exact hP _ _ _ hq ⟨rfl,r⟩
  |cont a9=>obtain⟨rfl,r⟩:=ho; exact hP _ _ _ hq ⟨rfl,r⟩
  |ret d=>obtain⟨v,f',o',rfl,r⟩:=ho; exact hP _ _ _ hq ⟨v,f',o',rfl,r⟩)
theorem fQ.assign{t e:Expr}{pos:Pos}{rest:List Stmt}{d:D}(he:eg W C ρ e d)(ht:jP W C ρ t d a9)(h:fQ W C a9 rest Q)(hs:fJ [t] e pos.line C.env=pure false)(hw:cS [t] e C.env=pure none)
 (ha:(bk [t] C.env).map (·.2)=[assign t C.env]):fQ W C ρ (.Assign [t] e pos::rest) Q:=
 .cons λf o s S H P E hP=>i5 (he f o s S H _ _ λv f1 s1 l1 S1 d1=>by
  rw[ha]
  have L1:Left W C ρ ρ f o f1 o s1:=⟨l1,S1,H.mono l1 (.refl o), .refl o,λ_ h=> .inl h,λ_ h=> .inl h⟩
  exact ht.2 f1 o s1 v S1 (H.mono l1 (.refl o)) d1 _ _ λf2 o2 s2 L2=>hP (.next a9) _ _ h ⟨rfl,f2,o2,L1.trans L2⟩) hs hw
theorem fQ.ret{e:Expr}{pos:Pos}{rest:List Stmt}{d:D}(he:eg W C ρ e d)(h:Q (.ret d)):fQ W C ρ (.Return (some e) pos::rest) Q:=
 .cons λf o s S H P E hP=>nR (he f o s S H _ _ λv f1 s1 l1 S1 d1=>hP (.ret d) _ _ h ⟨v,f1,o,rfl,l1,S1, .refl o,d1⟩)
theorem fQ.brk{pos:Pos}{rest:List Stmt}(h:Q (.brk ρ)):fQ W C ρ (.Break pos::rest) Q:=
 .cons λf o s S H P E hP=>wpAny_Break (hP (.brk ρ) _ _ h ⟨rfl,f,o, .refl S H⟩)
theorem fQ.expr{e:Expr}{pos:Pos}{rest:List Stmt}{d:D}(he:eg W C ρ e d)(h:fQ W C ρ rest Q)(hi:interactive C.env=false)(hs:gk e none pos.line C.env=pure false):fQ W C ρ (.Expr e pos::rest) Q:=
 .cons λf o s S H P E hP=>rM (he f o s S H _ _ λv f1 s1 l1 S1 d1=>hP (.next ρ) _ _ h ⟨rfl,f1,o,l1,S1,H.mono l1 (.refl o), .refl o,λ_ h=> .inl h,λ_ h=> .inl h⟩) hi hs
theorem fQ.ite{t:Expr}{body orelse rest:List Stmt}{pos:Pos}{b:Bool}(ht:vK W C ρ t b)(hx:b=true->fQ W C ρ body (Ai W C rest Q))(hy:b=false->fQ W C ρ orelse (Ai W C rest Q)):fQ W C ρ (.If t body orelse pos::rest) Q:=
 .cons λf o s S H P E hP=>wpAny_If (ht f o s S H _ _ λf1 s1 l1 S1=>by
  have L1:Left W C ρ ρ f o f1 o s1:=⟨l1,S1,H.mono l1 (.refl o), .refl o,λ_ h=> .inl h,λ_ h=> .inl h⟩
  cases b with
  |true=>exact fQ.after L1 (hx rfl) hP
  |false=>exact fQ.after L1 (hy rfl) hP)
noncomputable def u5(W:Wd)(C:Cx)(eP:Expr)(body:List Stmt)(K:Out->Prop):List D->Ro->Prop
 |[],ρ=>K (.next ρ)
 |x::xs,ρ=>∃mm,jP W C ρ eP x mm/\fQ W C mm body fun
  | .next a9=>u5 W C eP body K xs a9
  | .cont a9=>u5 W C eP body K xs a9
  | .brk a9=>K (.next a9)
  | .ret d=>K (.ret d)
theorem u5.of{eP:Expr}{body:List Stmt}{K:Out->Prop}(I:List D->Ro->Prop)(h0:∀ρ,I [] ρ->K (.next ρ))(h1:∀x xs ρ,I (x::xs) ρ->∃mm,jP W C ρ eP x mm/\fQ W C mm body fun
 | .next a9=>I xs a9
 | .cont a9=>I xs a9
 | .brk a9=>K (.next a9)
 | .ret d=>K (.ret d)):∀xs ρ,I xs ρ->u5 W C eP body K xs ρ
 |[],ρ,h=>h0 ρ h
 |x::xs,ρ,h=>let⟨mm,a,b⟩:=h1 x xs ρ h; ⟨mm,a,b.mono λout q=>by
  cases out with
  |next a9=>exact u5.of I h0 h1 xs a9 q
  |cont a9=>exact u5.of I h0 h1 xs a9 q
  |brk a9=>exact q
  |ret d=>exact q⟩
theorem rl{eP:Expr}{it:Value}{b e:List Stmt}{env:Env}(A:Around):A.under (.forLoop eP it b e env)=A:=nv rfl
theorem HM(O:C.Ok){it:Value}{eP:Expr}{body:List Stmt}{K:Out->Prop}(hh:C.A.handled=none):∀(xs:List D) {ρ:Ro} {w f o:Fz} {s:Shared},u5 W C eP body K xs ρ->St W.B f o s->bc C ρ f o->o9 W eP xs w f it->w.le o->
 (∀a,w a≠none->¬Uses C ρ a)->∀(R:Result->Shared->Prop),
 (∀fl s' a9 f' o',K (.next a9)->fl= .next->f.le f'->St W.B f' o' s'->bc C a9 f' o'->(∀a y,o a=some y->¬pz C ρ a->w a=none->o' a=some y)->(∀a,pz C a9 a->pz C ρ a\/o a=none\/w a≠none)->(∀a,Uses C a9 a->Uses C ρ a\/o a=none\/w a≠none)->R (.ok fl) s')->
 (∀fl s' d v f' o',K (.ret d)->fl= .ret v->f.le f'->St W.B f' o' s'->(∀a y,o a=some y->¬pz C ρ a->w a=none->o' a=some y)->Den f' d v->R (.ok fl) s')->eD W.M C.A (.forLoop eP it body [] C.env) R s:=by
 intro xs
 induction xs with
 |nil=>
  intro ρ w f o s hL S H I hw hd R h1 h2
  have te:∀a,Uses C ρ a->w a=none:=λa hu=>by
   exact none_of λy q=>absurd hu (hd a (by exact sn q))
  refine gm ?_
  show wpAny _ _ ((zE eP it body [] C.env).onRaise (λx=>do iL x C.env; gj x)) _ _ s
  rw[rl]
  refine nP ?_
  simp only[zE]
  refine aa (aZ (aa (k9 (I C.A f o s _ _ hh O.room (.refl f) hw S λo' s' S' off=>?_))))
  refine ao ⟨rfl,codeAny_block (jn ?_)⟩
  exact h1 _ _ ρ f o' hL rfl (.refl f) S' (H.off λa y e hu=>off a y e (te a hu)) (λa y e _ th=>off a y e th) (λa h=> .inl h) (λa h=> .inl h)
 |cons x xs ih=>
  intro ρ w f o s hL S H I hw hd R h1 h2
  obtain⟨mm,ha,hb⟩:=hL
  have te:∀a,Uses C ρ a->w a=none:=λa hu=>by
   exact none_of λy q=>absurd hu (hd a (by exact sn q))
  have NU:∀a,pz C ρ a->Uses C ρ a:=λa hm=>hm.uses O
  refine gm ?_
  show wpAny _ _ ((zE eP it body [] C.env).onRaise (λx=>do iL x C.env; gj x)) _ _ s
  rw[rl]
  refine nP ?_
  simp only[zE]
  refine aa (aZ (aa (k9 (dD (I C.A f o s (λv s1=>wpAny W.M C.A (do
   assign eP C.env v
   match <-execs body C.env with
   | .next| .cont=>again (.forLoop eP it body [] C.env)
   | .brk=>pure (.done .next)
   | .ret v=>pure (.done (.ret v)):Sem Fin) (λfin s'=>match fin with| .done f=>R (.ok f) s'| .again c'=>c'.quiet=true/\eD W.M C.A c' R s') (notedBy W.M C.A C.env λe s'=>R (.error e) s') s1)
   (λ_ _=>False) hh O.room (.refl f) hw S λv f1 o1 s1 w1 l1 S1 off HJ Ae hv I1=>?_) (λr s1 hr=>?_) λ_ _ e=>e.elim))))
  ·have H1:bc C ρ f1 o1:=(H.mono l1 (.refl o)).off λa y e hu=>off a y e (te a hu)
   have M0:∀a,w1 a≠none->¬Uses C ρ a:=λa ha hu=>by
    rcases Ae a ha with q|q
    ·exact hd a q hu
    ·obtain⟨y,hy⟩:=H.there hu; exact iC q hy
   refine aa (ha.2 f1 o1 s1 v S1 H1 hv _ _ λf2 o2 s2 L2=>aa (hb f2 o2 s2 L2.st L2.env _ _ λu fl s3 hq ho=>?_))
   --what stays,up to here
   have HN:∀{a9:Ro} {f3 o3:Fz},Left W C ρ a9 f1 o1 f3 o3 s3->∀a y,o a=some y->¬pz C ρ a->w a=none->(o3 a=some y/\¬pz C a9 a/\w1 a=none):=λtj a y e hm th=>by
    have e1:=off a y e th
    refine⟨tj.step a y e1 hm,λq=>?_,?_⟩
    ·rcases tj.rk a q with q|q
     ·exact hm q
     ·exact iC q e1
    ·refine none_of λz q=>?_
     rcases Ae a (by exact sn q) with q|q
     ·exact absurd th q
     ·exact iC q e
   --an address WW is new behind K5 step is new ahead of it
   have Bv:∀a,o1 a=none->o a=none\/w a≠none:=λa q=>by
    cases p:o a with
    |none=>exact .inl rfl
    |some y=>exact .inr λth=>by rw[off a y p th] at q; exact nomatch q
   have Ek:∀{a9:Ro} {f3 o3:Fz},Left W C ρ a9 f1 o1 f3 o3 s3->∀a,o3 a=none->pz C ρ a\/o a=none\/w a≠none:=λL a q=>by
    by_cases hm:pz C ρ a
    ·exact .inl hm
    ·cases p:o a with
     |none=>exact .inr (.inl rfl)
     |some y=>exact .inr (.inr λth=>by rw[(HN L a y p hm th).1] at q; exact nomatch q)
   have again:∀a9,u5 W C eP body K xs a9->(∃f' o',Left W C mm a9 f2 o2 f' o' s3)->eD W.M C.A (.forLoop eP it body [] C.env) R s3:=by
    rintro a9 WX ⟨f3,o3,L3⟩
    have tj:=L2.trans L3
    have hd3:∀a,w1 a≠none->¬Uses C a9 a:=λa ha hu=>by
     rcases tj.uses a hu with q|q
     ·exact M0 a ha q
     ·obtain⟨z,hz⟩:∃z,w1 a=some z:=cX.mp ha
      rw[HJ _ _ hz] at q; exact nomatch q
    refine ih WX tj.st tj.env (I1.mono tj.le) (λa y e=>tj.step a y (HJ _ _ e) λq=>M0 a (by exact sn e) (NU a q)) hd3 R (λfl s' WY f' o' hk HO l' S' H' k' m' u'=>?_) λfl s' d v f' o' hk HO l' S' k' d'=>?_
    ·refine h1 fl s' WY f' o' hk HO (l1.trans (tj.le.trans l')) S' H' (λa y e hm th=>let⟨x1,x2,x3⟩:=HN tj a y e hm th; k' a y x1 x2 x3) (λa q=>?_) λa q=>?_
     ·rcases m' a q with q|q|q
      ·exact(tj.rk a q).imp id (Bv a)
      ·exact Ek tj a q
      ·exact .inr ((Ae a q).symm)
     ·rcases u' a q with q|q|q
      ·exact(tj.uses a q).imp id (Bv a)
      ·exact(Ek tj a q).imp (NU a) id
      ·exact .inr ((Ae a q).symm)
    ·exact h2 fl s' d v f' o' hk HO (l1.trans (tj.le.trans l')) S' (λa y e hm th=>let⟨x1,x2,x3⟩:=HN tj a y e hm th; k' a y x1 x2 x3) d'
   cases u with
   |next a9=>obtain⟨rfl,r⟩:=ho; exact ao ⟨rfl,again a9 hq r⟩
   |cont a9=>obtain⟨rfl,r⟩:=ho; exact ao ⟨rfl,again a9 hq r⟩
   |brk a9=>
    obtain⟨rfl,f3,o3,L3⟩:=ho
    have tj:=L2.trans L3
    refine ao (h1 _ _ a9 f3 o3 hq rfl (l1.trans tj.le) tj.st tj.env (λa y e hm th=>(HN tj a y e hm th).1) (λa q=>(tj.rk a q).imp id (Bv a)) λa q=>(tj.uses a q).imp id (Bv a))
   |ret d=>
    obtain⟨v',f3,o3,rfl,G⟩:=ho
    have G1:=Ah.after L2 G
    refine ao (h2 _ _ d v' f3 o3 hq rfl (l1.trans G1.le) G1.st (λa y e hm th=>G1.step a y (off a y e th) hm) G1.den)
  ·obtain⟨v,rfl,hv⟩:=hr
   exact aa (dD hv (λ_ _ q=>q) λ_ _ e=>e.elim)
theorem fQ.WZ{eP e:Expr}{body rest:List Stmt}{pos:Pos}{xs:List D}(O:C.Ok)(hh:C.A.handled=none)(he:Aa W C ρ eP e xs)(hs:∀x,bH e C.env x=pure x)
 (h:u5 W C eP body (Ai W C rest Q) xs ρ):fQ W C ρ (.For eP e body [] pos::rest) Q:=
 .cons λf o s S H P E hP=>wpAny_For (dD (he f o s S H _ E λit w f1 o1 s1 l1 S1 lo hw te I _=>by
  have dis:∀a,w a≠none->¬Uses C ρ a:=λa ha hu=>by
   obtain⟨y,hy⟩:=H.there hu; exact iC (te a ha) hy
  have wn:∀a y,o a=some y->w a=none:=λa y e=>by
   refine none_of λz q=>?_
   have:=te a (by exact sn q); rw[e] at this; exact nomatch this
  have nw:∀a,o1 a=none\/w a≠none->o a=none:=λa q=>by
   rcases q with q|q
   ·refine none_of λy p=>?_
    rw[lo _ _ p] at q; exact nomatch q
   ·exact te a q
  refine HM O hh xs h S1 (H.mono l1 lo) I hw dis _ (λfl s' a9 f' o' hk HO l' S' H' k' m' u'=>?_) λfl s' d v f' o' hk HO l' S' k' d'=>?_
  ·subst HO
   exact hP (.next a9) _ _ hk ⟨rfl,f',o',l1.trans l',S',H',λa y e hm=>k' a y (lo _ _ e) hm (wn a y e),λa q=>(m' a q).imp id (nw a),λa q=>(u' a q).imp id (nw a)⟩
  ·exact hP (.ret d) _ _ hk ⟨v,f',o',HO,l1.trans l',S',λa y e hm=>k' a y (lo _ _ e) hm (wn a y e),d'⟩) (λ_ _ x=>x) λ_ _ x=>x) hs
noncomputable def CO(W:Wd)(C:Cx)(test:Expr)(body:List Stmt)(K:Out->Prop):Nat->Ro->Prop
 | 0,_=>False
 |n+1,ρ=>∃b,vK W C ρ test b/\(b=true->fQ W C ρ body fun
  | .next a9=>CO W C test body K n a9
  | .cont a9=>CO W C test body K n a9
  | .brk a9=>K (.next a9)
  | .ret d=>K (.ret d))/\(b=false->K (.next ρ))
theorem yp{t:Expr}{b e:List Stmt}{env:Env}(A:Around):A.under (.whileLoop t b e env)=A:=nv rfl
theorem CP{test:Expr}{body:List Stmt}{K:Out->Prop}:∀(n:Nat) {ρ:Ro} {f o:Fz} {s:Shared},CO W C test body K n ρ->St W.B f o s->bc C ρ f o->∀(R:Result->Shared->Prop),
 (∀u fl s',K u->pA W C ρ f o fl s' u->R (.ok fl) s')->eD W.M C.A (.whileLoop test body [] C.env) R s:=by
 intro n
 induction n with
 |zero=>intro ρ f o s h; exact h.elim
 |succ n ih=>
  intro ρ f o s hL S H R h
  obtain⟨b,hb,ht,hf⟩:=hL
  refine gm ?_
  show wpAny _ _ ((whileTurn test body [] C.env).onRaise (λx=>do iL x C.env; gj x)) _ _ s
  rw[yp]
  refine nP ?_
  simp only[whileTurn]
  refine aa (hb f o s S H _ _ λf1 s1 l1 S1=>?_)
  have L1:Left W C ρ ρ f o f1 o s1:=⟨l1,S1,H.mono l1 (.refl o), .refl o,λ_ h=> .inl h,λ_ h=> .inl h⟩
  cases b with
  |false=>
   simp only[cb,if_false]
   exact aa (jn (ao (h _ _ _ (hf rfl) ⟨rfl,f1,o,L1⟩)))
  |true=>
   simp only[if_true]
   refine aa (ht rfl f1 o s1 S1 L1.env _ _ λu fl s3 hq ho=>?_)
   have again:∀a9,CO W C test body K n a9->(∃f' o',Left W C ρ a9 f1 o f' o' s3)->eD W.M C.A (.whileLoop test body [] C.env) R s3:=by
    rintro a9 WX ⟨f3,o3,L3⟩
    exact ih WX L3.st L3.env R λu fl s' hk hx=>h u fl s' hk (pA.after L1 (pA.after L3 hx))
   cases u with
   |next a9=>obtain⟨rfl,r⟩:=ho; exact ao ⟨rfl,again a9 hq r⟩
   |cont a9=>obtain⟨rfl,r⟩:=ho; exact ao ⟨rfl,again a9 hq r⟩
   |brk a9=>obtain⟨rfl,f3,o3,L3⟩:=ho; exact ao (h _ _ _ hq ⟨rfl,f3,o3,L1.trans L3⟩)
   |ret d=>obtain⟨v,f3,o3,rfl,G⟩:=ho; exact ao (h _ _ _ hq ⟨v,f3,o3,rfl,Ah.after L1 G⟩)
theorem fQ.whl{test:Expr}{body rest:List Stmt}{pos:Pos}(n:Nat)(h:CO W C test body (Ai W C rest Q) n ρ):fQ W C ρ (.While test body [] pos::rest) Q:=
 .cons λf o s S H P E hP=>wpAny_While (by
  exact CP n h S H _ λu fl s' hk hx=>hP u fl s' hk hx)
end
structure Lv(n:Nat)(A:Around):Prop where
 depth:A.depth+4*n<=600
 units:A.units+10*n<=6000
 hand:A.handled=none
theorem Lv.rm{n:Nat}{A:Around}(h:Lv n A):Rm A:=⟨by have:=h.depth; exact aX 0x2ae2412441008455c4801 tt this,by have:=h.units; exact aX 0x6f78482a88201086f784801 tt this⟩
theorem Lv.le{n m:Nat}{A:Around}(h:Lv n A)(hm:m<=n):Lv m A:=⟨by have:=h.depth; exact cG 0x2ae241244500842020455c480488a01 tt hm this,by have:=h.units; exact cG 0x6f78482a88a010840a086f78480a88a01 tt hm this,h.hand⟩
theorem Lv.deeper{n:Nat}{A:Around}(h:Lv (n+1) A)(env:Env):Lv n (A.deeper env):=⟨by have:=h.depth; show A.depth+1+4*n<=600; exact aX 0x2ae2540c09104021157120923404201 tt this,by have:=h.units; show A.units+3+10*n<=6000; exact aX 0x6f784a8182a2080421bde120aa3604201 tt this,h.hand⟩
inductive kl(bs:List (Str×D)):List (Str×aC)->Ro->Prop
 |nil:kl bs [] []
 |par {n:Str} {k:aC} {d:D} {ns:List (Str×aC)} {ρ:Ro}:(n,d)∈bs->(k== .local||k== .cell)=true->kl bs ns ρ->kl bs ((n,k)::ns) ((n, .val d)::ρ)
 |loc {n:Str} {k:aC} {ns:List (Str×aC)} {ρ:Ro}:(k== .local||k== .cell)=true->kl bs ns ρ->kl bs ((n,k)::ns) ((n, .unset)::ρ)
 |MZ {n:Str} {ns:List (Str×aC)} {ρ:Ro}:kl bs ns ρ->kl bs ((n, .globalImplicit)::ns) ρ
theorem kl.mem{bs:List (Str×D)}{ns:List (Str×aC)}{ρ:Ro}(h:kl bs ns ρ):∀{n:Str} {b:Bd},(n,b)∈ρ->(∃k,(n,k)∈ns/\(k= .local\/k= .cell))/\(b= .unset\/∃d,b= .val d/\(n,d)∈bs):=by
 induction h with
 |nil=>intro n b hm; exact nomatch hm
 |par h1 h2 _ ih=>
  intro n b hm
  rcases au.mp hm with e|hm
  ·cases e; exact⟨⟨_, .head _,by simpa using h2⟩, .inr ⟨_,rfl,h1⟩⟩
  ·obtain⟨⟨k,h,h'⟩,r⟩:=ih hm; exact⟨⟨k, .tail _ h,h'⟩,r⟩
 |loc h2 _ ih=>
  intro n b hm
  rcases au.mp hm with e|hm
  ·cases e; exact⟨⟨_, .head _,by simpa using h2⟩, .inl rfl⟩
  ·obtain⟨⟨k,h,h'⟩,r⟩:=ih hm; exact⟨⟨k, .tail _ h,h'⟩,r⟩
 |MZ _ ih=>
  intro n b hm
  obtain⟨⟨k,h,h'⟩,r⟩:=ih hm; exact⟨⟨k, .tail _ h,h'⟩,r⟩
theorem kl.keys{bs:List (Str×D)}{ns:List (Str×aC)}{ρ:Ro}(h:kl bs ns ρ):(ρ.map (·.1)).Sublist (ns.map (·.1)):=by
 induction h with
 |nil=>exact .slnil
 |par _ _ _ ih=>exact ih.cons_cons _
 |loc _ _ ih=>exact ih.cons_cons _
 |MZ _ ih=>exact ih.cons _
theorem tm{kd:Str->Option aC}{n:Str}:∀{bs:List (Str×Value)} {m:Str->Option Value},n∉bs.map (·.1)->bindL kd bs m n=m n
 |[],_,_=>rfl
 |(x,v)::r,m,h=>by
  rw[aO,au,not_or] at h
  unfold bindL
  rw[tm h.2]
  split
  ·exact if_neg h.1
  ·rfl
theorem vN{kd:Str->Option aC}{n:Str}{v:Value}(hk:kd n=some .local):∀{bs:List (Str×Value)} {m:Str->Option Value},(bs.map (·.1)).Nodup->(n,v)∈bs->bindL kd bs m n=some v
 |(x,u)::r,m,hn,h=>by
  rw[aO,fU] at hn
  unfold bindL
  rcases au.mp h with e|h
  ·cases e; rw[tm hn.1,if_pos hk]; exact if_pos rfl
  ·exact vN hk hn.2 h
theorem tw{kd:Str->Option aC}{n:Str}:∀{bs:List (Str×Value)} {m:Str->Option Value},n∉bs.map (·.1)->bindC kd bs m n=m n
 |[],_,_=>rfl
 |(x,v)::r,m,h=>by
  rw[aO,au,not_or] at h
  unfold bindC
  rw[tw h.2]
  split
  ·rfl
  ·exact if_neg h.1
theorem vO{kd:Str->Option aC}{n:Str}{v:Value}(hk:kd n=some .cell):∀{bs:List (Str×Value)} {m:Str->Option Value},(bs.map (·.1)).Nodup->(n,v)∈bs->bindC kd bs m n=some v
 |(x,u)::r,m,hn,h=>by
  rw[aO,fU] at hn
  unfold bindC
  rcases au.mp h with e|h
  ·cases e; rw[tw hn.1,if_neg (by rw[hk]; decide)]; exact if_pos rfl
  ·exact vO hk hn.2 h
theorem Bw{f:Fz}:∀{ps:List Str} {ds:List D} {vs:List Value},bQ f ds vs->∀{n:Str} {d:D},(n,d)∈ps.zip ds->∃v,(n,v)∈ps.zip vs/\Den f d v
 |[],_,_,_,_,_,h=>by simp at h
 |_::_,[],_,_,_,_,h=>by simp at h
 |p::ps,e::ds,_,⟨v,r,q,x,y⟩,n,d,h=>by
  subst q
  rw[List.zip_cons_cons] at h ⊢
  rcases au.mp h with q|h
  ·cases q; exact⟨v, .head _,x⟩
  ·obtain⟨u,a,b⟩:=Bw y h; exact⟨u, .tail _ a,b⟩
theorem ql{α:Type}:∀(ps:List Str) (vs:List α),((ps.zip vs).map (·.1)).Sublist ps
 |[],_=> .slnil
 |_::_,[]=>List.nil_sublist _
 |p::ps,v::vs=>(ql ps vs).cons_cons p
section
variable {W:Wd}{C:Cx}{ρ a9:Ro}{f o:Fz}{s:Shared}
noncomputable def Ends(d:D):Out->Prop
 | .ret d'=>d'=d
 | .next _=>d= .none
 |_=>False
theorem enter(S:St W.B f o s){fd:Bo}{a:Addr}{A:Around}{ds:List D}{vs:List Value}{ps:List Str}(hd:bQ f ds vs){ρ:Ro}(hp:kl (ps.zip ds) fd.scope.names ρ)(ng:ps.Nodup)
 (j6:(fd.scope.names.map (·.1)).Nodup) (hk:fd.scope.kind= .function) (hg:fd.globals=bV) (hb:fd.builtins=cP) (DP:Rm (A.deeper (kg fd s.heap.objs.size a))) {cU:Shared}
 (x:InCallC s (kg fd s.heap.objs.size a).locals (bindL (kg fd s.heap.objs.size a).kindOf (ps.zip vs) λ_=>none) (kg fd s.heap.objs.size a).cells (bindC (kg fd s.heap.objs.size a).kindOf (ps.zip vs) λ_=>none) cU):
 ∃du,o.le du/\St W.B f du cU/\bc ⟨kg fd s.heap.objs.size a,A.deeper (kg fd s.heap.objs.size a),fd.scope.names⟩ ρ f du/\∀b,pz ⟨kg fd s.heap.objs.size a,A.deeper (kg fd s.heap.objs.size a),fd.scope.names⟩ ρ b->o b=none:=by
 classical
 obtain⟨⟨⟨gf,tk,rfl⟩,ns,keep,fresh⟩,cell,apart,above⟩:=x
 generalize hE:kg fd s.heap.objs.size a=env at*
 have ro:env.locals=s.heap.objs.size:=by subst hE; rfl
 have K8:env.cells=eE (s.heap.objs.size+1) fd.scope.names []:=by subst hE; rfl
 have El:env.scope=fd.scope:=by subst hE; rfl
 have kd:∀n k,(n,k)∈fd.scope.names->env.kindOf n=some k:=λn k h=>by unfold Env.kindOf; rw[El]; exact cJ j6 h
 have W0:∀n c,(n,c)∈env.cells->s.heap.objs.size<c:=λn c h=>ro▸above n c h
 let du:Fz:=λb=>if b=env.locals\/∃n,(n,b)∈env.cells then gf.get? b else o b
 have big:∀b,(b=env.locals\/∃n,(n,b)∈env.cells)->@LE.le Nat _ s.heap.objs.size b:=λb h=>by
  rcases h with h|⟨n,h⟩
  ·rw[h,ro]; exact bL _
  ·exact Bh (W0 n b h)
 have small:∀b,b<s.heap.objs.size->du b=o b:=λb h=>if_neg λq=>absurd h (GX.mpr (big b q))
 have o0:∀b,@LE.le Nat _ s.heap.objs.size b->o b=none:=λb h=>by
  exact none_of λy q=>absurd (S.lt (.inr q)) (GX.mpr h)
 have lo:o.le du:=λb y e=>by rw[small b (S.lt (.inr e))]; exact e
 obtain⟨w0,Qx,W2,gL,dL,kL,mL⟩:=ns
 have K9:du env.locals=some w0:=(if_pos (.inl rfl)).trans gL
 have jg:St W.B f du {s with heap:=gf,toks:=tk}:=by
  refine⟨λb y e=>keep _ _ (S.sub b y e),λb y e=>?_,λb y e=>?_,S.base,?_,λc hc=>⟨(S.fq c hc).1,?_⟩,S.os,S.gens⟩
  ·by_cases q:b=env.locals\/∃n,(n,b)∈env.cells
   ·rw[show du b=_ from if_pos q] at e; exact e
   ·rw[show du b=_ from if_neg q] at e; exact keep _ _ (S.own b y e)
  ·rw[small b (S.lt (.inl e))]; exact S.apart b y e
  ·exact λc hc=>let⟨z,hz,hq⟩:=S.tab c hc; ⟨z,keep _ _ hz,hq⟩
  ·rw[small _ (S.ju hc)]; exact(S.fq c hc).2
 have ck:∀n,(n,aq)∈fd.scope.names->∃c,env.cells.lookup n=some c:=λn hn=>by
  rw[K8]; obtain⟨c,h,_⟩:=fj (n:=s.heap.objs.size+1) (acc:=[]) j6 hn; exact⟨c,h⟩
 refine⟨du,lo,jg,⟨⟨by rw[El]; exact hk,by subst hE; exact hg,by subst hE; exact hb,λn k h _=>kd n k h,?_,?_,DP⟩,⟨w0,Qx,W2,K9,dL,kL⟩,λn b hm=>?_,j6.sublist hp.keys,λn u r hm=>?_,λn n' u u' r r' hm=>?_⟩,λb hm=>?_⟩
 ·exact λn hm=> .inr (kd n _ hm)
 ·intro n n' c c' _ _ e1 e2 ea e
  subst e
  exact ea (name_of_addr apart (lookup_mem e1) (lookup_mem e2))
 ·obtain⟨⟨k,u6,DQ⟩,hb⟩:=hp.mem hm
  have key:∀d,(n,d)∈ps.zip ds->∃v,(n,v)∈ps.zip vs/\Den f d v:=λd h=>Bw hd h
  have nz:((ps.zip vs).map (·.1)).Nodup:=ng.sublist (ql _ _)
  rcases DQ with rfl|rfl
  ·refine⟨nsFind Qx n, .inl ⟨kd n _ u6,w0,Qx,W2,K9,dL,kL,rfl⟩,?_⟩
   rcases hb with rfl|⟨d,rfl,h⟩
   ·trivial
   ·obtain⟨v,h1,h2⟩:=key d h
    exact⟨v,by rw[mL]; exact vN (kd n _ u6) nz h1,h2⟩
  ·obtain⟨c,hc⟩:=ck n u6
   obtain⟨oc,gc,dc⟩:=cell n c hc
   refine⟨_, .inr ⟨.inl (kd n _ u6),c,oc,hc,(if_pos (.inr ⟨n,lookup_mem hc⟩)).trans gc,dc⟩,?_⟩
   rcases hb with rfl|⟨d,rfl,h⟩
   ·trivial
   ·obtain⟨v,h1,h2⟩:=key d h
    exact⟨v,vO (kd n _ u6) nz h1,h2⟩
 ·obtain⟨_,e|⟨d,e,_⟩⟩:=hp.mem hm<;>exact nomatch e
 ·obtain⟨_,e|⟨d,e,_⟩⟩:=hp.mem hm<;>exact nomatch e
 ·rcases hm with h|⟨n,h1,h2,h3⟩|⟨n,r,hm,_⟩
  ·exact o0 b (by rw[h]; exact big _ (.inl rfl))
  ·exact o0 b (big _ (.inr ⟨n,lookup_mem h3⟩))
  ·obtain⟨_,e|⟨d,e,_⟩⟩:=hp.mem hm<;>exact nomatch e
theorem Bx{a:Addr}{ob:Obj}{fd:Bo}{body:List Stmt}{ps:List Str}{ds:List D}{ρ:Ro}{A:Around}(hB:W.B.f a=some ob)(yq:ob.data= .func fd)
 (si:∀h:Heap,(∀a x,W.B.f a=some x->h.get? a=some x)->h.CodeRec fd.code fd.qualname) (iq:fd.body= .stmts body) (n9:fd.closure=[]) (Em:A.depth<recursionLimit)
 (jQ:∀vs:List Value,vs.length=ds.length->eR fd ⟨vs,[]⟩=pure (ps.zip vs)) (hp:kl (ps.zip ds) fd.scope.names ρ) (ng:ps.Nodup) (j6:(fd.scope.names.map (·.1)).Nodup)
 (Aj:∀n∈ps,(n,ae)∈fd.scope.names\/(n,aq)∈fd.scope.names)
 (hk:fd.scope.kind= .function) (hg:fd.globals=bV) (hb:fd.builtins=cP) (DP:∀env,Rm (A.deeper env)) (w3:fd.scope.isCoroutine=false) (og:fd.scope.isGenerator=false)
 (S:St W.B f o s) {vs:List Value} (hd:bQ f ds vs)
 (h:∀env du cU,o.le du->St W.B f du cU->bc ⟨env,A.deeper env,fd.scope.names⟩ ρ f du->env.scope=fd.scope->(∀b,pz ⟨env,A.deeper env,fd.scope.names⟩ ρ b->o b=none)->
  wpAny W.M (A.deeper env) (execs body env) (λfl s'=>R (.ok (.ret (match fl with| .ret v=>v|_=> .none))) s')
   (λe s'=>wpAny W.M (A.deeper env) (leaving env e) (λ_ xT=>R (.error e) xT) (λe' xT=>R (.error e') xT) s') cU):
 eD W.M A (.call (.ref a) ⟨vs,[]⟩) R s:=by
 refine codeAny_call_cells Em (S.bT _ _ hB) yq (W.B.nolimit _ S.bT) (si _ S.bT) iq (jQ vs hd.length) n9 (λx hx=>?_) (λcU x=>?_) w3 og hk
 ·obtain⟨n,v⟩:=x
  have hn:n∈ps:=(ql ps vs).subset (fZ hx)
  rcases Aj n hn with h|h
  ·exact .inl (cJ j6 h)
  ·obtain⟨c,hc,_⟩:=fj (n:=s.heap.objs.size+1) (acc:=[]) j6 h
   exact .inr ⟨cJ j6 h,by rw[hc]; rfl⟩
 ·obtain⟨du,lo,jg,H,hm⟩:=enter S (A:=A) hd hp ng j6 hk hg hb (DP _) x
  exact h _ du cU lo jg H rfl hm
theorem La{a:Addr}{ob:Obj}{fd:Bo}{body:List Stmt}{ps:List Str}{ds:List D}{d:D}{ρ:Ro}{A:Around}{n:Nat}(hB:W.B.f a=some ob)(yq:ob.data= .func fd)
 (si:∀h:Heap,(∀a x,W.B.f a=some x->h.get? a=some x)->h.CodeRec fd.code fd.qualname) (iq:fd.body= .stmts body) (n9:fd.closure=[])
 (jQ:∀vs:List Value,vs.length=ds.length->eR fd ⟨vs,[]⟩=pure (ps.zip vs)) (hp:kl (ps.zip ds) fd.scope.names ρ) (ng:ps.Nodup) (j6:(fd.scope.names.map (·.1)).Nodup)
 (Aj:∀n∈ps,(n,ae)∈fd.scope.names\/(n,aq)∈fd.scope.names)
 (hk:fd.scope.kind= .function) (hg:fd.globals=bV) (hb:fd.builtins=cP) (w3:fd.scope.isCoroutine=false) (og:fd.scope.isGenerator=false) (lv:Lv (n+1) A)
 (h:∀C:Cx,C.Ok->Lv n C.A->C.names=fd.scope.names->C.env.scope=fd.scope->fQ W C ρ body (Ends d)):mf W A (.ref a) ds d:=λf o s vs S hd Q E hQ=>by
 refine fR (Bx (f:=f) (o:=o) hB yq si iq n9 (by have:=lv.depth; show A.depth<1000; exact aX 0x2ae2540c091040211fb12a0201 tt this) jQ hp ng j6 Aj hk hg hb (λenv=>(lv.deeper env).rm) w3 og S hd λenv du cU lo jg H sD hm=>?_)
 refine h _ H.ok (lv.deeper env) rfl sD f du cU jg H _ _ λu fl s' hq ho=>?_
 have back:∀o',qi ⟨env,A.deeper env,fd.scope.names⟩ ρ du o'->o.le o':=λo' st a y e=>st a y (lo _ _ e) λq=>by have:=hm a q; rw[e] at this; exact nomatch this
 cases u with
 |next a9=>
  obtain⟨rfl,f',o',L⟩:=ho
  obtain rfl:d= .none:=hq
  exact hQ _ f' s' L.le (L.st.drop (back o' L.step)) rfl
 |ret d'=>
  obtain⟨v,f',o',rfl,G⟩:=ho
  obtain rfl:d'=d:=hq
  exact hQ v f' s' G.le (G.st.drop (back o' G.step)) G.den
 |brk _=>exact hq.elim
 |cont _=>exact hq.elim
end
section
variable {W:Wd}{C:Cx}{ρ a9 bD bZ:Ro}{f o f' o':Fz}{s s':Shared}{Q:Out->Prop}
theorem bc.adopt(H:bc C ρ f o){x:Str}{r:Res}(aU:Ro.Set x (.res true r) ρ a9)(hv:(x,Bd.val (.raw r.v))∈ρ)(hP:r.P f o)(hn:∀a∈r.as,¬Uses C ρ a):bc C a9 f o:=by
 refine⟨H.ok,H.ns,λn b hm=>?_,by rw[aU.keys]; exact H.nd,λn u r' hm a ha hs=>?_,λn n' u u' r1 r2 p q ea a ha hb=>?_⟩
 ·rcases aU.mem H.nd hm with⟨rfl,rfl⟩|⟨_,hm⟩
  ·obtain⟨vo,h1,v,e,hd⟩:=H.vars _ _ hv
   obtain rfl:v=r.v:=hd
   exact⟨vo,h1,e,hP⟩
  ·exact H.vars n b hm
 ·rcases aU.mem H.nd hm with⟨_,e⟩|⟨_,hm⟩
  ·cases e; exact hn a ha (.inl ((Slots.set aU).mp hs))
  ·exact H.sep n u r' hm a ha ((Slots.set aU).mp hs)
 ·rcases aU.mem H.nd p with⟨e1,e⟩|⟨_,p⟩
  ·cases e
   rcases aU.mem H.nd q with⟨e2,_⟩|⟨_,q⟩
   ·exact ea (e1.trans e2.symm)
   ·exact hn a ha (.inr ⟨_,_,_,q,hb⟩)
  ·rcases aU.mem H.nd q with⟨_,e⟩|⟨_,q⟩
   ·cases e; exact hn a hb (.inr ⟨_,_,_,p,ha⟩)
   ·exact H.two n n' u u' r1 r2 p q ea a ha hb
theorem Left.adopt(L:Left W C ρ bD f o f' o' s'){x:Str}{r:Res}(aU:Ro.Set x (.res true r) bD bZ)(hv:(x,Bd.val (.raw r.v))∈bD)(hP:r.P f' o')(hn:∀a∈r.as,¬Uses C bD a)(hw:∀a∈r.as,o a=none):Left W C ρ bZ f o f' o' s':=by
 refine⟨L.le,L.st,L.env.adopt aU hv hP hn,L.step,λa m=>?_,λa u=>?_⟩
 ·rcases m with m|⟨n,h1,h2,h3⟩|⟨n,r',hm,ha⟩
  ·exact L.rk a (.inl m)
  ·exact L.rk a (.inr (.inl ⟨n,h1,aU.keys▸h2,h3⟩))
  ·rcases aU.mem L.env.nd hm with⟨_,e⟩|⟨_,hm⟩
   ·cases e; exact .inr (hw a ha)
   ·exact L.rk a (.inr (.inr ⟨n,r',hm,ha⟩))
 ·rcases u with u|⟨n,u,r',hm,ha⟩
  ·exact L.uses a (.inl ((Slots.set aU).mp u))
  ·rcases aU.mem L.env.nd hm with⟨_,e⟩|⟨_,hm⟩
   ·cases e; exact .inr (hw a ha)
   ·exact L.uses a (.inr ⟨n,u,r',hm,ha⟩)
noncomputable def zA(W:Wd)(C:Cx)(ρ:Ro)(e:Expr)(X:D->Res->Prop):Prop:=∀f o s,St W.B f o s->bc C ρ f o->∀(Q:Value->Shared->Prop) (E:Value->Shared->Prop),
 (∀v d r f' o' s',X d r->f.le f'->o.le o'->St W.B f' o' s'->Den f' d v->r.P f' o'->(∀a∈r.as,o a=none)->Q v s')->wpAny W.M C.A (eval e C.env) Q E s
noncomputable def tA(ds:List D)(d:D)(r:Res):Prop:=∃a,d= .raw (.ref a)/\r=eJ a ds
theorem vP(S:St W.B f o s){A:Around}{ds:List D}{vs:List Value}(hd:bQ f ds vs)(fC:ds.length<=16777216){Q:Value->Shared->Prop}{E:Value->Shared->Prop}
 (h:∀a o' s',o.le o'->o a=none->St W.B f o' s'->LstIs f o' a ds->Q (.ref a) s'):wpAny W.M A (newList vs) Q E s:=by
 refine oG (h s.heap.objs.size _ _ (Fz.bP S.fc) S.fc (S.gW _) ⟨_,vs,0,Fz.aJ ..,⟨rfl,rfl,rfl⟩,rfl,hd⟩) ?_
 rw[bu,hd.length]; exact fC
theorem zA.list{es:List Expr}{pos:Pos}{ds:List D}(x:ny W C ρ es ds)(fC:ds.length<=16777216):zA W C ρ (.List es pos) (tA ds):=λf o s S H Q E h=>
 List_ (x pos f o s S H _ _ λvs f1 s1 l1 S1 d1=>vP S1 d1 fC λa o' s' lo hn S' l=>h _ _ _ f1 o' s' ⟨a,rfl,rfl⟩ l1 lo S' rfl l λb hb=>by rcases aA.mp hb with rfl; exact hn)
theorem yr{M:Model}{A:Around}{pos:Pos}{env:Env}{e1 e2:Expr}{E:Value->Shared->Prop}{Q:List Value->Shared->Prop}(he:aI [e1,e2] env=[(false,eval e1 env),(false,eval e2 env)])
 (h:wpAny M A (eval e1 env) (λa s1=>wpAny M A (eval e2 env) (λb s2=>Q [a,b] s2) E s1) E s):wpAny M A (spliced (backTo pos (aI [e1,e2] env))) Q E s:=by
 rw[he]
 exact dP (dD h (λa s1 h1=>dP (dD h1 (λb s2 h2=>d9 h2) λ_ _ x=>x)) λ_ _ x=>x)
theorem zA.N0{e1 e2:Expr}{k:Nat}{pos:Pos}{d1:D}{X:D->Res->Prop}(x:eg W C ρ e1 d1)(y:zA W C ρ e2 X)(he:aI [e1,e2] C.env=[(false,eval e1 C.env),(false,eval e2 C.env)]):
 zA W C ρ (.Tuple [e1,e2] k pos) (λd r=>∃d2,d= .tup [d1,d2]/\X d2 r):=λf o s S H Q E h=>
 Tuple_ (yr he (x f o s S H _ _ λv1 f1 s1 l1 S1 h1=>y f1 o s1 S1 (H.mono l1 (.refl o)) _ _ λv2 d2 r f2 o2 s2 hX l2 lo S2 h2 hP hn=>
  pI S2 (ds:=[d1,d2]) (.cons (h1.mono l2) (.cons h2 .nil)) (by simp) λv f3 s3 l3 S3 h3=>h v _ r f3 o2 s3 ⟨d2,rfl,hX⟩ (l1.trans (l2.trans l3)) lo S3 h3 (r.mono _ _ _ _ l3 (λ_ _ _ e=>e) hP) hn))
theorem zA.N1{e1 e2:Expr}{k:Nat}{pos:Pos}{d2:D}{X:D->Res->Prop}(x:zA W C ρ e1 X)(y:eg W C ρ e2 d2)(he:aI [e1,e2] C.env=[(false,eval e1 C.env),(false,eval e2 C.env)]):
 zA W C ρ (.Tuple [e1,e2] k pos) (λd r=>∃d1,d= .tup [d1,d2]/\X d1 r):=λf o s S H Q E h=>
 Tuple_ (yr he (x f o s S H _ _ λv1 d1 r f1 o1 s1 hX l1 lo S1 h1 hP hn=>y f1 o1 s1 S1 (H.mono l1 lo) _ _ λv2 f2 s2 l2 S2 h2=>
  pI S2 (ds:=[d1,d2]) (.cons (h1.mono l2) (.cons h2 .nil)) (by simp) λv f3 s3 l3 S3 h3=>h v _ r f3 o1 s3 ⟨d1,rfl,hX⟩ (l1.trans (l2.trans l3)) lo S3 h3 (r.mono _ _ _ _ (l2.trans l3) (λ_ _ _ e=>e) hP) hn))
theorem Left.given{f1 o1 f2 o2:Fz}{s2:Shared}(H:bc C ρ f o)(S1:St W.B f1 o1 s)(l1:f.le f1)(lo:o.le o1){x:Str}{r:Res}(hP:r.P f1 o1)(hn:∀a∈r.as,o a=none)(L2:Left W C ρ bD f1 o1 f2 o2 s2)
 (hv:(x,Bd.val (.raw r.v))∈bD) (aU:Ro.Set x (.res true r) bD bZ):Left W C ρ bZ f o f2 o2 s2:=by
 have L1:Left W C ρ ρ f o f1 o1 s:=⟨l1,S1,H.mono l1 lo,λa y e _=>lo a y e,λ_ h=> .inl h,λ_ h=> .inl h⟩
 have nu:∀a∈r.as,¬Uses C ρ a:=λa ha hu=>by
  obtain⟨y,e⟩:=H.there hu; exact iC (hn a ha) e
 have hP2:r.P f2 o2:=r.mono _ _ _ _ L2.le (λa ha y e=>L2.step a y e λm=>nu a ha (m.uses H.ok)) hP
 refine(L1.trans L2).adopt aU hv hP2 (λa ha hu=>?_) hn
 rcases L2.uses a hu with q|q
 ·exact nu a ha q
 ·obtain⟨y,e⟩:=r.there _ _ hP a ha; exact iC q e
theorem fQ.By{t e:Expr}{pos:Pos}{rest:List Stmt}{X:D->Res->Prop}(he:zA W C ρ e X)
 (h:∀d r,X d r->∃x bD bZ,jP W C ρ t d bD/\(x,Bd.val (.raw r.v))∈bD/\Ro.Set x (.res true r) bD bZ/\fQ W C bZ rest Q) (hs:fJ [t] e pos.line C.env=pure false) (hw:cS [t] e C.env=pure none)
 (ha:(bk [t] C.env).map (·.2)=[bE t C.env]):fQ W C ρ (.Assign [t] e pos::rest) Q:=
 .cons λf o s S H P E hP=>i5 (he f o s S H _ _ λv d r f1 o1 s1 hX l1 lo S1 d1 hr hn=>by
  rw[ha]
  obtain⟨x,bD,bZ,ht,hv,aU,ir⟩:=h d r hX
  exact ht.2 f1 o1 s1 v S1 (H.mono l1 lo) d1 _ _ λf2 o2 s2 L2=>hP (.next bZ) _ _ ir ⟨rfl,f2,o2,Left.given H S1 l1 lo hr hn L2 hv aU⟩) hs hw
theorem Ro.Set.via{n:Str}{b:Bd}(b':Bd){ρ a9:Ro}(h:Ro.Set n b ρ a9):∃bD,Ro.Set n b' ρ bD/\(n,b')∈bD/\Ro.Set n b bD a9:=by
 induction h with
 |head=>exact⟨_, .head, .head _, .head⟩
 |tail _ ih=>obtain⟨_,a,m,c⟩:=ih; exact⟨_, .tail a, .tail _ m, .tail c⟩
theorem fQ.sj(O:C.Ok){x:Str}{k:aC}{e:Expr}{p pos:Pos}{rest:List Stmt}{ds:List D}(he:zA W C ρ e (tA ds))(hk:(x,k)∈C.names)(oZ:(k== .local||k== .cell)=true)
 (h:∀a,∃a9,Ro.Set x (.res true (eJ a ds)) ρ a9/\fQ W C a9 rest Q) (hs:fJ [.Name x p] e pos.line C.env=pure false) (hw:cS [.Name x p] e C.env=pure none)
 (ha:(bk [.Name x p] C.env).map (·.2)=[bE (.Name x p) C.env]):fQ W C ρ (.Assign [.Name x p] e pos::rest) Q:=
 .By he (λd r ⟨a,e1,e2⟩=>by
  subst e1 e2
  obtain⟨a9,aU,hr⟩:=h a
  obtain⟨bD,s1,m,s2⟩:=aU.via (.val (.raw (.ref a)))
  exact⟨x,bD,a9, .name O hk oZ s1,m,s2,hr⟩) hs hw ha
inductive rp(W:Wd)(C:Cx)(d:D):Ro->List Expr->Ro->Prop
 |one {ρ bD:Ro} {t:Expr}:jP W C ρ t d bD->rp W C d ρ [t] bD
 |cons {ρ bD bZ:Ro} {t t':Expr} {ts:List Expr}:jP W C ρ t d bD->rp W C d bD (t'::ts) bZ->rp W C d ρ (t::t'::ts) bZ
theorem rp.run{d:D}{ts:List Expr}(x:rp W C d ρ ts a9):∀{f o s} {v:Value},St W.B f o s->bc C ρ f o->Den f d v->∀(Q:Unit->Shared->Prop) (E:Value->Shared->Prop),
 (∀f' o' s',Left W C ρ a9 f o f' o' s'->Q () s')->wpAny W.M C.A (assignAll v (ts.map λt=>bE t C.env)) Q E s:=by
 induction x with
 |one ht=>intro f o s v S H hd Q E h; exact ht.2 f o s v S H hd _ _ h
 |cons ht hr ih=>
  intro f o s v S H hd Q E h
  exact aa (aL (ht.2 f o s v S H hd _ _ λf1 o1 s1 L1=>ih L1.st L1.env (hd.mono L1.le) _ _ λf2 o2 s2 L2=>h f2 o2 s2 (L1.trans L2)))
theorem fQ.HP{ts:List Expr}{e:Expr}{pos:Pos}{rest:List Stmt}{d:D}(he:eg W C ρ e d)(ht:rp W C d ρ ts a9)(h:fQ W C a9 rest Q)(hs:fJ ts e pos.line C.env=pure false)(hw:cS ts e C.env=pure none)
 (ha:(bk ts C.env).map (·.2)=ts.map λt=>bE t C.env):fQ W C ρ (.Assign ts e pos::rest) Q:=
 .cons λf o s S H P E hP=>i5 (he f o s S H _ _ λv f1 s1 l1 S1 d1=>by
  rw[ha]
  have L1:Left W C ρ ρ f o f1 o s1:=⟨l1,S1,H.mono l1 (.refl o), .refl o,λ_ h=> .inl h,λ_ h=> .inl h⟩
  exact ht.run S1 (H.mono l1 (.refl o)) d1 _ _ λf2 o2 s2 L2=>hP (.next a9) _ _ h ⟨rfl,f2,o2,L1.trans L2⟩) hs hw
inductive oh(C:Cx):Ro->List Str->List D->Ro->Prop
 |nil {ρ:Ro}:oh C ρ [] [] ρ
 |cons {ρ bD bZ:Ro} {n:Str} {k:aC} {ns:List Str} {d:D} {ds:List D}:(n,k)∈C.names->(k== .local||k== .cell)=true->Ro.Set n (.val d) ρ bD->oh C bD ns ds bZ->oh C ρ (n::ns) (d::ds) bZ
theorem oh.run(O:C.Ok){ns:List Str}{ds:List D}(x:oh C ρ ns ds a9):∀{f o s} {vs:List Value},St W.B f o s->bc C ρ f o->bQ f ds vs->∀(Q:Unit->Shared->Prop) (E:Value->Shared->Prop),
 (∀f' o' s',Left W C ρ a9 f o f' o' s'->Q () s')->wpAny W.M C.A (DA (ns.map λn=>bindName C.env n) vs) Q E s:=by
 induction x with
 |nil=>intro f o s vs S H hd Q E h; rw[show vs=[] from hd]; exact ao (h f o s (.refl S H))
 |cons hk oZ aU _ ih=>
  intro f o s vs S H hd Q E h
  obtain⟨v,r,rfl,h1,h2⟩:=hd
  refine aa (aL (bindName_ (sA O S H hk oZ aU h1 λo1 s1 S1 H1 os=>?_)))
  have L1:Left W C _ _ f o f o1 s1:=⟨.refl f,S1,H1,os,λa hm=> .inl (oO aU H.nd a hm),λa hu=> .inl (Uses.of aU.keys (jO aU) hu)⟩
  exact ih S1 H1 h2 _ _ λf2 o2 s2 L2=>h f2 o2 s2 (L1.trans L2)
theorem fQ.HQ(O:C.Ok)(hh:C.A.handled=none){ts:List Expr}{k:Nat}{p pos:Pos}{e:Expr}{rest:List Stmt}{names:List Str}{ds:List D}(he:eg W C ρ e (.tup ds))(hn:names.length=ds.length)(hm:oh C ρ names.reverse ds.reverse a9)(h:fQ W C a9 rest Q)
 (hs:fJ [.Tuple ts k p] e pos.line C.env=pure false) (hw:cS [.Tuple ts k p] e C.env=pure (some names)):fQ W C ρ (.Assign [.Tuple ts k p] e pos::rest) Q:=
 .cons λf o s S H P E hP=>Assign_Tuple_swapped (he f o s S H _ _ λv f1 s1 l1 S1 d1=>lL hh S1 (.inl rfl) d1 hn λvs s2 S2 d2=>by
  have L1:Left W C ρ ρ f o f1 o s2:=⟨l1,S2,H.mono l1 (.refl o), .refl o,λ_ h=> .inl h,λ_ h=> .inl h⟩
  exact hm.run O S2 L1.env d2.reverse _ _ λf3 o3 s3 L3=>hP (.next a9) _ _ h ⟨rfl,f3,o3,L1.trans L3⟩) hs hw
theorem fQ.Bz(O:C.Ok){x:Str}{p pos oj:Pos}{elt:Expr}{g:dU}{gs:List dU}{scope:Scope}{rest:List Stmt}{xs out:List D}{eX:Ro}(hit:Aa W C ρ g.target g.iter xs)(hsi:∀x,bH g.iter C.env x=pure x)
 (hk:scope.kind= .function) (j6:(scope.names.map (·.1)).Nodup) (hi:nA C.names ρ scope.names eX) (ha:firstAsync (g::gs)=false)
 (hr:∀cenv,(td C scope cenv).Ok->Runs W (td C scope cenv) eX g.target (.ListComp elt (g::gs) scope oj) xs out) (hx:(x,ae)∈C.names) (aU:Ro.Set x (.val (.list out)) ρ a9) (h:fQ W C a9 rest Q)
 (hs:gk (.ListComp elt (g::gs) scope oj) (some (.Name x p)) pos.line C.env=pure true):fQ W C ρ (.Assign [.Name x p] (.ListComp elt (g::gs) scope oj) pos::rest) Q:=
 .cons λf o s S H P E hP=>by
  rw[exec_Assign_Name_used _ _ _ _ hs,arm_evalThenUse_ListComp,ha]
  refine aa (aZ (aa (aa ?_)))
  refine yo O S H hit hsi hk j6 hi hr (use:=some (bE (.Name x p) C.env)) λv f' o' s' L l1 lo S' hd h1 h2 h3 hL=>?_
  dsimp only
  refine wpAny_assign_Name (sA O S' (H.mono l1 lo) hx rfl aU hd λo2 s2 S2 H2 os=>?_)
  have L2:Left W C ρ a9 f o f' o2 s2:=⟨l1,S2,H2,λa y e hm=>os a y (lo _ _ e) hm,λa hm=> .inl (oO aU H.nd a hm),λa hu=> .inl (Uses.of aU.keys (jO aU) hu)⟩
  have ZK:¬Uses C ρ L:=λhu=>by obtain⟨y,e⟩:=H.there hu; exact iC h2 e
  obtain⟨ob,es,ep,g1,g2,g3⟩:=hL
  have HL:=os _ _ g1 λm=>ZK (m.uses O)
  refine⟨⟨_,ob,es,ep,S2.own _ _ HL,g2,g3,λ_=>rfl⟩,λh' hsb=>ao (ao ?_)⟩
  have G9:(o2.del L).le o2:=λb y e=>by unfold Fz.del at e; split at e<;>first|cases e; done|exact e
  have H3:bc C a9 f' (o2.del L):=H2.off λb y e hu=>by
   unfold Fz.del; rw[if_neg]; exact e
   intro q; subst q; exact ZK (Uses.of aU.keys (jO aU) hu)
  refine hP (.next a9) _ _ h ⟨rfl,f',o2.del L,l1,(S2.drop G9).wZ h1 (by unfold Fz.del; exact if_pos rfl) h3 hsb,H3,λa y e hm=>?_,L2.rk,L2.uses⟩
  unfold Fz.del
  rw[if_neg (λq=>by subst q; exact iC h2 e)]
  exact L2.step a y e hm
theorem Left.change(H:bc C ρ f o){x:Str}{r r':Res}(hm:(x,Bd.res true r)∈ρ)(aU:Ro.Set x (.res true r') ρ a9)(hv:r'.v=r.v)(has:∀a∈r'.as,a∈r.as\/o a=none)(hle:f.le f')(S':St W.B f' o' s')(hP:r'.P f' o')
 (hk:∀b y,o b=some y->b∉r.as->o' b=some y):Left W C ρ a9 f o f' o' s':=by
 have slot:∀a,Slots C ρ a->a∉r.as:=λa hs ha=>H.sep _ _ _ hm a ha hs
 have key:bc C a9 f' o':=by
  refine⟨H.ok,?_,λn b hn=>?_,by rw[aU.keys]; exact H.nd,λn u q hn a ha hs=>?_,λn n' u u' q q' h1 h2 ea a ha hb=>?_⟩
  ·obtain⟨ob,es,ep,e,t,y1⟩:=H.ns
   exact⟨ob,es,ep,hk _ _ e (slot _ (.inl rfl)),t,y1⟩
  ·have var:∀vo,(n,b)∈a9->n∈ρ.map (·.1)->kI C o n vo->kI C o' n vo:=λvo _ qm hv=>by
    rcases hv with⟨k,ob,es,ep,e1,e2,y1,y2⟩|⟨k,c,ob,e1,e2,e3⟩
    ·exact .inl ⟨k,ob,es,ep,hk _ _ e1 (slot _ (.inl rfl)),e2,y1,y2⟩
    ·exact .inr ⟨k,c,ob,e1,hk _ _ e2 (slot _ (.inr ⟨n,qm,k,e1⟩)),e3⟩
   rcases aU.mem H.nd hn with⟨rfl,rfl⟩|⟨ea,pM⟩
   ·obtain⟨vo,h1,e,_⟩:=H.vars _ _ hm
    exact⟨vo,var vo hn (fZ hm) h1,by rw[hv]; exact e,hP⟩
   ·obtain⟨vo,h1,h2⟩:=H.vars _ _ pM
    refine⟨vo,var vo hn (fZ pM) h1,?_⟩
    cases b with
    |unset=>trivial
    |val d=>obtain⟨v,e,hd⟩:=h2; exact⟨v,e,hd.mono hle⟩
    |res u q=>exact⟨h2.1,q.mono _ _ _ _ hle (λa ha y e=>hk a y e λhr=>H.two _ _ _ _ _ _ pM hm ea a ha hr) h2.2⟩
  ·rcases aU.mem H.nd hn with⟨_,e⟩|⟨_,pM⟩
   ·cases e
    rcases has a ha with h|h
    ·exact slot a ((Slots.set aU).mp hs) h
    ·obtain⟨y,e⟩:=H.slot ((Slots.set aU).mp hs); exact iC h e
   ·exact H.sep _ _ _ pM a ha ((Slots.set aU).mp hs)
  ·have aux:∀n' u' q',(n',Bd.res u' q')∈ρ->n'≠x->∀a∈r'.as,a∉q'.as:=λn' u' q' h ea a ha hb=>by
    rcases has a ha with h'|h'
    ·exact H.two _ _ _ _ _ _ h hm ea a hb h'
    ·obtain⟨y,e⟩:=H.there (.inr ⟨_,_,_,h,hb⟩); exact iC h' e
   rcases aU.mem H.nd h1 with⟨e1,e⟩|⟨_,h1⟩
   ·cases e
    rcases aU.mem H.nd h2 with⟨e2,_⟩|⟨W3,h2⟩
    ·exact ea (e1.trans e2.symm)
    ·exact aux _ _ _ h2 W3 a ha hb
   ·rcases aU.mem H.nd h2 with⟨_,e⟩|⟨_,h2⟩
    ·cases e; exact aux _ _ _ h1 (by assumption) a hb ha
    ·exact H.two _ _ _ _ _ _ h1 h2 ea a ha hb
 refine⟨hle,S',key,λa y e hn=>hk a y e λha=>hn (.inr (.inr ⟨_,_,hm,ha⟩)),λa h=>?_,λa h=>?_⟩
 ·rcases h with h|⟨n,h1,h2,h3⟩|⟨n,q,hn,ha⟩
  ·exact .inl (.inl h)
  ·exact .inl (.inr (.inl ⟨n,h1,aU.keys▸h2,h3⟩))
  ·rcases aU.mem H.nd hn with⟨_,e⟩|⟨_,hn⟩
   ·cases e; exact(has a ha).imp (λh=> .inr (.inr ⟨_,_,hm,h⟩)) id
   ·exact .inl (.inr (.inr ⟨_,_,hn,ha⟩))
 ·rcases h with h|⟨n,u,q,hn,ha⟩
  ·exact .inl (.inl ((Slots.set aU).mp h))
  ·rcases aU.mem H.nd hn with⟨_,e⟩|⟨_,hn⟩
   ·cases e; exact(has a ha).imp (λh=> .inr ⟨_,_,_,hm,h⟩) id
   ·exact .inl (.inr ⟨_,_,_,hn,ha⟩)
theorem eg.tB(O:C.Ok){n:Str}{w:Bool}{r:Res}{pos:Pos}(hm:(n,Bd.res w r)∈ρ)(h1:(n==("__debug__" :Str))=false)(h2:(n==("__classdict__" :Str))=false):eg W C ρ (.Name n pos) (.raw r.v):=λf o s S H Q E h=>by
 obtain⟨vo,hv,e,hd⟩:=H.vars _ _ hm
 exact uR (sC O S H hm hv e h2 (h _ f s (.refl f) S rfl)) h1
inductive lj(f o:Fz)(a:Addr)(ds:List D):Prop
 |mk (ob:Obj) (vs:List Value) (n:Nat) (h1:o a=some ob) (h2:ob.cls= .type "list") (h3:ob.data= .seq ⟨vs⟩ n) (h4:bQ f ds vs):lj f o a ds
theorem LstIs.Ha{a:Addr}{ds:List D}(h:LstIs f o a ds):lj f o a ds:=let⟨ob,vs,n,e,p,q,r⟩:=h; ⟨ob,vs,n,e,p.1,q,r⟩
theorem lj.isList(S:St W.B f o s){a:Addr}{ds:List D}(h:lj f o a ds):∃vs,s.heap.IsList a ⟨vs⟩/\bQ f ds vs:=let⟨ob,vs,n,e,p,q,r⟩:=h; ⟨vs,⟨ob,S.own _ _ e,p,n,q⟩,r⟩
noncomputable def pe(a:Addr)(ds:List D):Res where
 v:= .ref a
 as:=[a]
 P:=λf o=>lj f o a ds
 mono:=λf f' o o' h ho ⟨ob,vs,n,e,p,q,r⟩=>⟨ob,vs,n,ho a (.head _) _ e,p,q,r.mono h⟩
 there:=λf o ⟨ob,_,_,e,_,_,_⟩ x hx=>by rcases aA.mp hx with rfl; exact⟨ob,e⟩
theorem held{x:Str}{w:Bool}{r:Res}(hm:(x,Bd.res w r)∈ρ):∀f o,bc C ρ f o->r.P f o:=λf o H=>let⟨_,_,h⟩:=H.vars _ _ hm; h.2
noncomputable def Ak(W:Wd)(I:Fz->Fz->Prop)(t:Value->Value->Sem Value)(da db d:D):Prop:=∀A f o s va vb,Rm A->St W.B f o s->I f o->Den f da va->Den f db vb->∀(Q:Value->Shared->Prop) (E:Value->Shared->Prop),
 (∀v f' s',f.le f'->St W.B f' o s'->Den f' d v->Q v s')->wpAny W.M A (t va vb) Q E s
noncomputable def En(W:Wd)(I:Fz->Fz->Prop)(A:Around)(fv:Value)(ds:List D)(d:D):Prop:=∀f o s vs,St W.B f o s->I f o->bQ f ds vs->∀(Q:Value->Shared->Prop) (E:Value->Shared->Prop),
 (∀v f' s',f.le f'->St W.B f' o s'->Den f' d v->Q v s')->wpAny W.M A (call fv vs []) Q E s
theorem vK.W4(O:C.Ok){I:Fz->Fz->Prop}(hI:∀f o,bc C ρ f o->I f o){l r:Expr}{op:CmpOp}{pos:Pos}{da db:D}{b:Bool}(ha:eg W C ρ l da)(hb:eg W C ρ r db)(ho:Ak W I (cc op) da db (.bool b))(hm:jl op r=false):vK W C ρ (.Compare l [op] [r] pos) b:=λf o s S H Q E h=>
 Hg (ha f o s S H _ _ λva f1 s1 l1 S1 d1=>hb f1 o s1 S1 (H.mono l1 (.refl o)) _ _ λvb f2 s2 l2 S2 d2=>
  ho _ f2 o s2 va vb O.room S2 (hI _ _ (H.mono (l1.trans l2) (.refl o))) (d1.mono l2) d2 _ _ λv f3 s3 l3 S3 d3=>by
   obtain rfl:v= .bool b:=d3
   exact vG (h f3 s3 (l1.trans (l2.trans l3)) S3)) hm
theorem eg.W5(O:C.Ok){I:Fz->Fz->Prop}(hI:∀f o,bc C ρ f o->I f o){value slice:Expr}{pos:Pos}{da di d:D}{T id:String}(hv:eg W C ρ value da)(hi:eg W C ρ slice di)(hT:∀f o s v,St W.B f o s->I f o->Den f da v->s.TypeIs v T)(hl:kX (.type T) "__getitem__" =pure (some (.builtin id)))
 (ho:Ak W I dJ da di d) (hs:∀o i,subscripted slice false o i=operate [o,i] (dJ o i)):eg W C ρ (.Subscript value slice pos) d:=λf o s S H Q E h=>by
 rw[n7]
 exact aa (hv f o s S H _ _ λv f1 s1 l1 S1 d1=>aa (aL (hi f1 o s1 S1 (H.mono l1 (.refl o)) _ _ λi f2 s2 l2 S2 d2=>aa (aZ
  (A6 (hT _ _ _ _ S2 (hI _ _ (H.mono (l1.trans l2) (.refl o))) (d1.mono l2)) hl (ho _ f2 o s2 v i O.room S2 (hI _ _ (H.mono (l1.trans l2) (.refl o))) (d1.mono l2) d2 _ _ λr f3 s3 l3 S3 d3=>h r f3 s3 (l1.trans (l2.trans l3)) S3 d3) (hs v i))))))
theorem eg.N2{I:Fz->Fz->Prop}(hI:∀f o,bc C ρ f o->I f o){func:Expr}{es:List Expr}{pos:Pos}{fv:Value}{ds:List D}{d:D}(hf:eg W C ρ func (.raw fv))(hk:Kept W fv)(ha:ny W C ρ es ds)(hp:(aI es C.env).all (λx=>!x.1)=true)(hc:En W I C.A fv ds d)
 (he:eval (.Call func es [] pos) C.env=(do fS pos (<-eval func C.env) [] (backTo pos (aI es C.env)) (gr pos (dI [] C.env)))):eg W C ρ (.Call func es [] pos) d:=λf o s S H Q E h=>by
 rw[he]
 refine aa (hf f o s S H _ _ λv f1 s1 l1 S1 d1=>?_)
 obtain rfl:v=fv:=d1
 have jm:=cn pos es C.env hp
 refine d6 (P:=λh=>∀a x,W.B.f a=some x->h.get? a=some x) (by rw[jm]; rfl) hk (dm jm ?_)
 exact ha pos f1 o s1 S1 (H.mono l1 (.refl o)) _ _ λvs f2 s2 l2 S2 d2=>⟨S2.bT,hc f2 o s2 _ S2 (hI _ _ (H.mono (l1.trans l2) (.refl o))) d2 _ _ λv f3 s3 l3 S3 d3=>h v f3 s3 (l1.trans (l2.trans l3)) S3 d3⟩
theorem rR{ob e:Expr}{a:Addr}{p2 p3:Pos}(CQ:eg W C ρ ob (.raw (.ref a)))(hb:bx ob "append" C.env (eval ob C.env)=eval ob C.env)(hp:(aI [e] C.env).all (λx=>!x.1)=true)(hl:(p2.endLine==p3.line)=true)
 (S:St W.B f o s) (H:bc C ρ f o) {ds:List D} (Lb:∀f',f.le f'->LstIs f' o a ds) {Q:Value->Shared->Prop} {E:Value->Shared->Prop}
 (h:∀f1 s1,f.le f1->St W.B f1 o s1->wpAny W.M C.A (spliced (backTo p3 (aI [e] C.env))) (λvs s2=>(∀a x,W.B.f a=some x->s2.heap.get? a=some x)/\wpAny W.M C.A (call (.builtin "list.append") (.ref a::vs)) Q E s2) E s1):
 wpAny W.M C.A (eval (.Call (.Attribute ob "append" p2) [e] [] p3) C.env) Q E s:=by
 show wpAny _ _ (do
  let ov <-bx ob "append" C.env (eval ob C.env)
  dF p2.atName
  eY ob "append" p2 p3 C.env ov (1+0) (backTo p3 (aI [e] C.env)) []) Q E s
 rw[hb]
 refine aa (CQ f o s S H _ _ λv f1 s1 l1 S1 d1=>aa (aZ ?_))
 obtain rfl:v= .ref a:=d1
 have qj:eC (1+0) (backTo p3 (aI [e] C.env)) []=true:=by
  unfold eC
  have:=cn p3 [e] C.env hp
  rw[mI] at this
  simp only[r9,kj,nq,if_true,lq,cq,aT,decide_eq_true_eq]
  exact⟨λx hx=>by simpa using this x hx,by decide⟩
 obtain⟨ob',vs,n,h1,h2,h3,h4⟩:=Lb f1 l1
 unfold eY rP
 rw[qj]
 refine aa (aL (Calls.getMethod_list_append (S1.own _ _ h1) h2.1 h2.2.1 ?_))
 unfold jj
 rw[hl]
 refine aa (ao ?_)
 have jm:=cn p3 [e] C.env hp
 exact d6 (P:=λh=>∀a x,W.B.f a=some x->h.get? a=some x) (by rw[jm]; rfl) Kept.builtin (dm jm (h f1 s1 l1 S1))
theorem fQ.append{ob e:Expr}{a:Addr}{p2 p3 pos:Pos}{rest:List Stmt}{d:D}{ds:List D}{x:Str}{r r':Res}(CQ:eg W C ρ ob (.raw (.ref a)))(he:eg W C ρ e d)(hm:(x,Bd.res true r)∈ρ)(Lb:∀f o,r.P f o->LstIs f o a ds)(fC:ds.length<=16777216)
 (aU:Ro.Set x (.res true r') ρ a9) (hv:r'.v=r.v) (has:r'.as=r.as) (ha:a∈r.as) (hP:∀f o o',r.P f o->LstIs f o' a (ds++[d])->(∀b y,o b=some y->b≠a->o' b=some y)->r'.P f o') (ir:fQ W C a9 rest Q)
 (hb:bx ob "append" C.env (eval ob C.env)=eval ob C.env) (pf:aI [e] C.env=[(false,eval e C.env)]) (hl:(p2.endLine==p3.line)=true) (hi:interactive C.env=false)
 (hs:gk (.Call (.Attribute ob "append" p2) [e] [] p3) none pos.line C.env=pure false):fQ W C ρ (.Expr (.Call (.Attribute ob "append" p2) [e] [] p3) pos::rest) Q:=
 .cons λf o s S H P E W6=>rM (rR CQ hb (by rw[pf]; rfl) hl S H (λf' l=>Lb _ _ (held hm f' o (H.mono l (.refl o)))) λf1 s1 l1 S1=>by
  have Qy:r.P f1 o:=held hm f1 o (H.mono l1 (.refl o))
  rw[pf]
  refine dP (he f1 o s1 S1 (H.mono l1 (.refl o)) _ _ λv f2 s2 l2 S2 d2=>d9 ⟨S2.bT,?_⟩)
  have Lc:r.P f2 o:=held hm f2 o (H.mono (l1.trans l2) (.refl o))
  refine wY S2 (Lb _ _ Lc) d2 fC λo' s' S' l' k'=>W6 (.next a9) _ _ ir ⟨rfl,f2,o',?_⟩
  exact Left.change H hm aU hv (λb hb=> .inl (has▸hb)) (l1.trans l2) S' (hP _ _ _ Lc l' k') λb y e hb=>k' b y e λq=>hb (q▸ha)) hi hs
theorem fQ.BA(O:C.Ok){e:Expr}{a:Addr}{p1 p2 p3 pos:Pos}{rest:List Stmt}{d:D}{ds:List D}{x:Str}(he:eg W C ρ e d)(hm:(x,Bd.res true (eJ a ds))∈ρ)(fC:ds.length<=16777216)
 (aU:Ro.Set x (.res true (eJ a (ds++[d]))) ρ a9) (ir:fQ W C a9 rest Q) (h1:(x==("__debug__" :Str))=false) (h2:(x==("__classdict__" :Str))=false)
 (hb:bx (.Name x p1) "append" C.env (eval (.Name x p1) C.env)=eval (.Name x p1) C.env) (pf:aI [e] C.env=[(false,eval e C.env)]) (hl:(p2.endLine==p3.line)=true) (hi:interactive C.env=false)
 (hs:gk (.Call (.Attribute (.Name x p1) "append" p2) [e] [] p3) none pos.line C.env=pure false):fQ W C ρ (.Expr (.Call (.Attribute (.Name x p1) "append" p2) [e] [] p3) pos::rest) Q:=
 .append (.tB O hm h1 h2) he hm (λ_ _ h=>h) fC aU rfl rfl (.head _) (λ_ _ _ _ h _=>h) ir hb pf hl hi hs
theorem bQ.set:∀{ds:List D} {vs:List Value} {k:Nat} {d:D} {v:Value},bQ f ds vs->Den f d v->bQ f (ds.set k d) (vs.set k v)
 |[],_,_,_,_,e,_=>by rw[show _=[] from e]; rfl
 |_::_,_,0,_,_,⟨u,r,e,x,y⟩,h=>by subst e; exact⟨_,_,rfl,h,y⟩
 |_::_,_,k+1,_,_,⟨u,r,e,x,y⟩,h=>by subst e; exact⟨_,_,rfl,x,y.set h⟩
theorem fQ.W7{ob i e:Expr}{a:Addr}{p pos:Pos}{rest:List Stmt}{d:D}{ds:List D}{x:Str}{k:Nat}(CQ:eg W C ρ ob (.raw (.ref a)))(hi:eg W C ρ i (.int k))(he:eg W C ρ e d)(hm:(x,Bd.res true (pe a ds))∈ρ)(hk:k<ds.length)(fC:ds.length<=16777216)
 (aU:Ro.Set x (.res true (pe a (ds.set k d))) ρ a9) (ir:fQ W C a9 rest Q) (hs:gk e (some (.Subscript ob i p)) pos.line C.env=pure false):fQ W C ρ (.Assign [.Subscript ob i p] e pos::rest) Q:=
 .cons λf o s S H P E hP=>wpAny_Assign_Subscript (he f o s S H _ _ λv f1 s1 l1 S1 d1=>CQ f1 o s1 S1 (H.mono l1 (.refl o)) _ _ λvo f2 s2 l2 S2 d2=>hi f2 o s2 S2 (H.mono (l1.trans l2) (.refl o)) _ _ λvi f3 s3 l3 S3 d3=>by
  obtain rfl:vo= .ref a:=d2
  obtain⟨t,rfl⟩:=d3
  obtain⟨ob',vs,n,e1,e2,e3,e4⟩:lj f3 o a ds:=held hm f3 o (H.mono (l1.trans (l2.trans l3)) (.refl o))
  have hlen:=e4.length
  refine wpAny_setItem_list ⟨ob',S3.own _ _ e1,e2,n,e3⟩ (by exact ew 8673 tt) (by exact q21 hk fC hlen) (by show(k:Int)<(vs.length:Nat); exact KU 0x208421a02010891002161 tt hk (ah hlen.symm)) λh' WR JN=>?_
  obtain⟨ob2,g1,g2,n2,g3⟩:=WR
  refine hP (.next a9) _ _ ir ⟨rfl,f3,_,Left.change H hm aU rfl (λb hb=> .inl hb) (l1.trans (l2.trans l3)) (S3.same e1 JN g1) ⟨ob2,vs.set k v,n2,Fz.aJ ..,g2,?_,e4.set (d1.mono (l2.trans l3))⟩ λb y e hb=>?_⟩
  ·rw[g3]; congr 1; simp
  ·rw[Fz.az (λq=>hb (by subst q; exact .head _))]; exact e) hs
theorem fQ.done{ss:List Stmt}{x:Str}{a:Addr}{ds:List D}(hm:(x,Bd.res true (eJ a ds))∈ρ)(aU:Ro.Set x (.val (.list ds)) ρ a9)(h:fQ W C a9 ss Q):fQ W C ρ ss Q:=h.ghost λf o s S H=>by
 obtain⟨vo,hv,ev,ob,vs,n,e1,e2,e3,e4⟩:=H.vars _ _ hm
 have lf:=Fz.bP (o:=ob) (S.fw e1)
 have slot:∀b,Slots C ρ b->b≠a:=λb hs hb=>H.sep _ _ _ hm a (.head _) (hb▸hs)
 have del:∀b y,o b=some y->b≠a->o.del a b=some y:=λb y e hb=>by unfold Fz.del; rw[if_neg hb]; exact e
 refine⟨f.put a ob,o.del a,lf,S.freeze e1,⟨H.ok,?_,λn b hn=>?_,by rw[aU.keys]; exact H.nd,λn u q hn a' ha hs=>?_,λn n' u u' q q' h1 h2 ea a' ha hb=>?_⟩,λb y e hn=>del b y e λq=>hn (.inr (.inr ⟨_,_,hm,q▸ .head _⟩)),λa' h=> .inl ?_,λa' h=> .inl ?_⟩
 ·obtain⟨ob',es,ep,e,t,y1⟩:=H.ns; exact⟨ob',es,ep,del _ _ e (slot _ (.inl rfl)),t,y1⟩
 ·have var:∀vo,n∈ρ.map (·.1)->kI C o n vo->kI C (o.del a) n vo:=λvo qm hv=>by
   rcases hv with⟨k,ob,es,ep,e1,e2,y1,y2⟩|⟨k,c,ob,e1,e2,e3⟩
   ·exact .inl ⟨k,ob,es,ep,del _ _ e1 (slot _ (.inl rfl)),e2,y1,y2⟩
   ·exact .inr ⟨k,c,ob,e1,del _ _ e2 (slot _ (.inr ⟨n,qm,k,e1⟩)),e3⟩
  rcases aU.mem H.nd hn with⟨rfl,rfl⟩|⟨ea,pM⟩
  ·exact⟨vo,var vo (fZ hm) hv,_,ev,a,ob,vs,_,rfl,Fz.aJ ..,e2,e3,e4.mono lf⟩
  ·obtain⟨vo,h1,h2⟩:=H.vars _ _ pM
   refine⟨vo,var vo (fZ pM) h1,?_⟩
   cases b with
   |unset=>trivial
   |val d=>obtain⟨v,e,hd⟩:=h2; exact⟨v,e,hd.mono lf⟩
   |res u q=>exact⟨h2.1,q.mono _ _ _ _ lf (λb hb y e=>del b y e λhr=>H.two _ _ _ _ _ _ pM hm ea b hb (hr▸ .head _)) h2.2⟩
 ·rcases aU.mem H.nd hn with⟨_,e⟩|⟨_,pM⟩
  ·exact nomatch e
  ·exact H.sep _ _ _ pM a' ha ((Slots.set aU).mp hs)
 ·rcases aU.mem H.nd h1 with⟨_,e⟩|⟨_,h1⟩
  ·exact nomatch e
  ·rcases aU.mem H.nd h2 with⟨_,e⟩|⟨_,h2⟩
   ·exact nomatch e
   ·exact H.two _ _ _ _ _ _ h1 h2 ea a' ha hb
 ·exact oO aU H.nd a' h
 ·exact Uses.of aU.keys (jO aU) h
theorem fQ.loose{ss:List Stmt}{x:Str}{a:Addr}{ds:List D}(hm:(x,Bd.res true (eJ a ds))∈ρ)(aU:Ro.Set x (.res true (pe a ds)) ρ a9)(h:fQ W C a9 ss Q):fQ W C ρ ss Q:=h.ghost λf o s S H=>
 ⟨f,o,Left.change H hm aU rfl (λ_ h=> .inl h) (.refl f) S (held hm f o H).Ha λ_ _ e _=>e⟩
end
end
section
open PySem PySem.W PyProof.Rows PySem.SeqAt
inductive gg:Nat->D->D->Prop
 |none {n}:gg n .none .none
 |bool {n a b}:gg n (.bool a) (.bool b)
 |int {n a b}:gg n (.int a) (.int b)
 |str {n a b}:gg n (.str a) (.str b)
 |list {n xs ys} (h:∀(i:Nat) (x y:D),xs[i]? =some x->ys[i]? =some y->gg n x y):gg (n+1) (.list xs) (.list ys)
 |tup {n xs ys} (h:∀(i:Nat) (x y:D),xs[i]? =some x->ys[i]? =some y->gg n x y):gg (n+1) (.tup xs) (.tup ys)
def yt(n:Nat)(xs ys:List D):Prop:=∀(i:Nat) (x y:D),xs[i]? =some x->ys[i]? =some y->gg n x y
theorem W8{n:Nat}{ys:List D}:yt n [] ys:=λi x y h=>nomatch h
theorem lk{n:Nat}{a b:D}{xs ys:List D}(h:gg n a b)(t:yt n xs ys):yt n (a::xs) (b::ys):=λi x y hx hy=>
 Nat.casesOn (motive:=λi=>(a::xs)[i]? =some x->(b::ys)[i]? =some y->gg n x y) i (λhx hy=>cg hx▸cg hy▸h) (λi hx hy=>t i x y hx hy) hx hy
theorem ZL{α β:Type}{n:Nat}{xs:List α}{ys:List β}{g:α->D}{h:β->D}(hl:∀a b,gg n (g a) (h b)):yt n (xs.map g) (ys.map h):=λi x y hx hy=>by
 rw[av] at hx hy
 obtain⟨a,_,rfl⟩:=fo.mp hx
 obtain⟨b,_,rfl⟩:=fo.mp hy
 exact hl a b
theorem ZM{n:Nat}{xs:List D}:yt n xs []:=λi x y _ h=>nomatch h
theorem jw{α β:Type}{n:Nat}(xs:List α)(ys:List β)(g:α->D)(h:β->D)(hl:∀a b,gg n (g a) (h b)):gg (n+1) (.list (xs.map g)) (.list (ys.map h)):= .list (ZL hl)
theorem w4{n:Nat}{a b c d:D}(h1:gg n a c)(h2:gg n b d):gg (n+1) (.tup [a,b]) (.tup [c,d]):= .tup (lk h1 (lk h2 W8))
theorem w5{n:Nat}{a b c d e g:D}(h1:gg n a d)(h2:gg n b e)(h3:gg n c g):gg (n+1) (.tup [a,b,c]) (.tup [d,e,g]):= .tup (lk h1 (lk h2 (lk h3 W8)))
theorem HR{n:Nat}{a b c d e g:D}(h1:gg n a d)(h2:gg n b e)(h3:gg n c g):gg (n+1) (.list [a,b,c]) (.list [d,e,g]):= .list (lk h1 (lk h2 (lk h3 W8)))
section
variable {W:Wd}{C:Cx}{ρ a9:Ro}{f o:Fz}{s:Shared}
theorem yu{a b:Bool}{p:Prop}(h1:a=true↔p)(h2:b=true↔p):a=b:=by
 rw[oN,h1,h2]
section
open Classical
theorem N3{α:Type}{xs ys:List α}(hl:xs.length=ys.length)(h:∀(i:Nat) (x y:α),xs[i]? =some x->ys[i]? =some y->x=y):xs=ys:=
 nr hl λi h1 h2=>h i _ _ (aj h1) (aj h2)
theorem HS{a:Addr}{ob ob':Obj}{vs u7:List Value}{m m':Nat}(e1:f a=some ob)(e2:f a=some ob')(h1:ob.data= .seq ⟨vs⟩ m)(h2:ob'.data= .seq ⟨u7⟩ m'):vs=u7:=by
 cases cg (e1.symm.trans e2); exact congrArg zy (Data.seq.inj (h1.symm.trans h2)).1
theorem bQ.one{xs ys:List D}{vs:List Value}(h1:bQ f xs vs)(h2:bQ f ys vs)(h:∀(i:Nat) (x y:D),xs[i]? =some x->ys[i]? =some y->∀{v},Den f x v->Den f y v->x=y):xs=ys:=
 N3 (h1.length.symm.trans h2.length) λi x y hx hy=>by
  obtain⟨v,g1,k1⟩:=h1.get hx
  obtain⟨v',g2,k2⟩:=h2.get hy
  cases cg (g1.symm.trans g2); exact h i x y hx hy k1 k2
theorem gg.inj{n:Nat}{x y:D}(hl:gg n x y):∀{v:Value},Den f x v->Den f y v->x=y:=by
 induction hl with
 |none=>intro v hx hy; rfl
 |bool=>intro v hx hy; exact congrArg D.bool (Value.bool.inj (hx.symm.trans hy))
 |int=>intro v hx hy; obtain⟨t,rfl⟩:=hx; obtain⟨u,e⟩:=hy; exact congrArg D.int (Value.int.inj e).1
 |str=>intro v hx hy; obtain⟨t,rfl⟩:=hx; obtain⟨u,e⟩:=hy; exact congrArg D.str (Value.str.inj e).1
 |list h ih|tup h ih=>
  intro v hx hy
  obtain⟨a,ob,vs,m,rfl,e1,e2,e3,e4⟩:=hx
  obtain⟨a',ob',u7,m',e0,w6,xU,w7,tC⟩:=hy
  cases Value.ref.inj e0
  cases HS e1 w6 e3 w7
  exact congrArg _ (bQ.one e4 tC λi x y hx hy=>ih i x y hx hy)
theorem sE{n:Nat}{xs ys:List D}(h1:xs.length=n)(h2:ys.length=n):((aB n).all λj=>decide (xs[j]? =ys[j]?))=true↔xs=ys:=by
 rw[aT]
 refine⟨λh=>N3 (h1.trans h2.symm) λi x y hx hy=>?_,λe i _=>decide_eq_true (congrArg (·[i]?) e)⟩
 have:=of_decide_eq_true (h i (aW.mpr (h1▸(cI.mp hx).1)))
 exact cg (hx.symm.trans (this.trans hy))
theorem yv{n m:Nat}{xs ys:List D}(h1:xs.length=n)(h2:ys.length=m):((aB (min n m)).all (λj=>decide (xs[j]? =ys[j]?))&&n==m)=true↔xs=ys:=by
 rw[cq,beq_iff_eq]
 constructor
 ·rintro⟨h,rfl⟩; rw[Nat.min_self] at h; exact(sE h1 h2).mp h
 ·intro e; obtain rfl:n=m:=h1.symm.trans ((congrArg i9 e).trans h2); rw[Nat.min_self]; exact⟨(sE h1 h2).mpr e,rfl⟩
theorem iT{a b:Bool}{p:Prop}(h1:a=true↔p)(h2:b=true↔p):a=b:=oN.mpr (h1.trans h2.symm)
theorem bool_no{b:Bool}{p:Prop}(h:b=true↔p)(n:¬p):b=false:=G6.mpr λe=>n (h.mp e)
theorem Qz{a n:Nat}(h:a+(n+1)<9000):a+1+n<9000:=fI (ah (GY a 1 n)) h
theorem M3{a n:Nat}(h:a+n<9000):a<cLine:=fH (fI (gy _ _) h) (by decide)
theorem BB{A:Around}{xs ys:List D}{vs u7:List Value}(e:bQ f xs vs)(e':bQ f ys u7)(h:∀(i:Nat) (x y:D),xs[i]? =some x->ys[i]? =some y->∀{v w:Value} {b:Bool},Den f x v->Den f y w->(b=true↔x=y)->EqAt A s v w b):
 ∀j (h1:j<(⟨vs⟩:Array Value).size) (h2:j<(⟨u7⟩:Array Value).size),EqAt A s ((⟨vs⟩:Array Value)[j]) ((⟨u7⟩:Array Value)[j]) (decide (xs[j]? =ys[j]?)):=λj h1 h2=>by
 obtain⟨x,hx,dx⟩:=e.get' (aj h1)
 obtain⟨y,hy,dy⟩:=e'.get' (aj h2)
 exact h j x y hx hy dx dy (by rw[decide_eq_true_iff,hx,hy]; exact⟨cg,congrArg _⟩)
theorem Eo{A:Around}{n:Nat}{x y:D}{a a':Addr}{b:Bool}(hl:gg n x y)(hx:Den f x (.ref a))(hy:Den f y (.ref a'))(hb:b=true↔x=y)(k:RcAt A s (.ref a) (.ref a') b):RcAt A s (.ref a) (.ref a') b/\EqAt A s (.ref a) (.ref a') b:=by
 refine⟨k,?_⟩
 by_cases ha:a=a'
 ·subst ha
  obtain rfl:b=true:=hb.mpr (hl.inj hx hy)
  exact .same _
 ·exact .of_refs ha k
theorem BC{n:Nat}{x y:D}(hl:gg n x y):∀{v w:Value} {A:Around} {b:Bool},Den f x v->Den f y w->(b=true↔x=y)->St W.B f o s->A.units+n<9000->RcAt A s v w b/\EqAt A s v w b:=by
 induction hl with
 |none=>intro v w A b hx hy hb S hu; subst hx; subst hy; obtain rfl:b=true:=hb.mpr rfl; exact⟨.none_none, .same _⟩
 | @bool n p q=>intro v w A b hx hy hb S hu; subst hx; subst hy; cases iT (a:=p==q) ((beq_iff_eq).trans ⟨congrArg _,D.bool.inj⟩) hb; exact⟨.bool_bool _ _, .bool_bool _ _⟩
 | @int n p q=>intro v w A b hx hy hb S hu; obtain⟨t,rfl⟩:=hx; obtain⟨u,rfl⟩:=hy; cases iT (a:=p==q) ((beq_iff_eq).trans ⟨congrArg _,D.int.inj⟩) hb; exact⟨.int_int _ _ _ _, .int_int _ _ _ _⟩
 | @str n p q=>intro v w A b hx hy hb S hu; obtain⟨t,rfl⟩:=hx; obtain⟨u,rfl⟩:=hy; cases iT (a:=p==q) ((beq_iff_eq).trans ⟨congrArg _,D.str.inj⟩) hb; exact⟨.str_str _ _ _ _, .str_str _ _ _ _⟩
 |list h ih=>
  intro v w A b hx hy hb S hu
  have hl:=gg.list h
  have Ld:=hx
  have W9:=hy
  obtain⟨a,ob,vs,m,rfl,e1,e2,e3,e4⟩:=hx
  obtain⟨a',ob',u7,m',rfl,w6,xU,w7,tC⟩:=hy
  refine Eo hl Ld W9 hb ?_
  by_cases hlen:vs.length=u7.length
  ·cases iT ((sE e4.length.symm (tC.length.symm.trans hlen.symm)).trans ⟨congrArg _,D.list.inj⟩) hb
   exact RcAt.lists (A:=A) ⟨ob,S.sub _ _ e1,e2.1,m,e3⟩ ⟨ob',S.sub _ _ w6,xU.1,m',w7⟩ hlen (M3 hu) (BB e4 tC λi x y hx hy=>λdx dy hb=>(ih i x y hx hy dx dy hb S (Qz hu)).2)
  ·cases bool_no hb λe=>hlen (e4.length.trans ((congrArg i9 (D.list.inj e)).trans tC.length.symm))
   exact RcAt.lists_lengths (A:=A) ⟨ob,S.sub _ _ e1,e2.1,m,e3⟩ ⟨ob',S.sub _ _ w6,xU.1,m',w7⟩ (bne_iff_ne.mpr hlen) (M3 hu)
 |tup h ih=>
  intro v w A b hx hy hb S hu
  have hl:=gg.tup h
  have Ld:=hx
  have W9:=hy
  obtain⟨a,ob,vs,m,rfl,e1,e2,e3,e4⟩:=hx
  obtain⟨a',ob',u7,m',rfl,w6,xU,w7,tC⟩:=hy
  refine Eo hl Ld W9 hb ?_
  cases iT ((yv e4.length.symm tC.length.symm).trans ⟨congrArg _,D.tup.inj⟩) hb
  exact RcAt.tuples (A:=A) ⟨ob,S.sub _ _ e1,e2,m,e3⟩ ⟨ob',S.sub _ _ w6,xU,m',w7⟩ (M3 hu) (BB e4 tC λi x y hx hy=>λdx dy hb=>(ih i x y hx hy dx dy hb S (Qz hu)).2)
theorem N4{n:Nat}{x y:D}{v w:Value}{A:Around}{b:Bool}(hl:gg n x y)(hx:Den f x v)(hy:Den f y w)(hb:b=true↔x=y)(S:St W.B f o s)(hu:A.units+n<9000):RcNeAt A s v w (!b):=by
 cases hl with
 |none=>subst hx; subst hy; obtain rfl:b=true:=hb.mpr rfl; exact .none_none
 | @bool _ p q=>subst hx; subst hy; cases iT (a:=p==q) ((beq_iff_eq).trans ⟨congrArg _,D.bool.inj⟩) hb; exact .bool_bool _ _
 | @int _ p q=>obtain⟨t,rfl⟩:=hx; obtain⟨u,rfl⟩:=hy; cases iT (a:=p==q) ((beq_iff_eq).trans ⟨congrArg _,D.int.inj⟩) hb; exact .int_int _ _ _ _
 | @str _ p q=>obtain⟨t,rfl⟩:=hx; obtain⟨u,rfl⟩:=hy; cases iT (a:=p==q) ((beq_iff_eq).trans ⟨congrArg _,D.str.inj⟩) hb; exact .str_str _ _ _ _
 |list h=>
  obtain⟨a,ob,vs,m,rfl,e1,e2,e3,e4⟩:=hx
  obtain⟨a',ob',u7,m',rfl,w6,xU,w7,tC⟩:=hy
  by_cases hlen:vs.length=u7.length
  ·cases iT ((sE e4.length.symm (tC.length.symm.trans hlen.symm)).trans ⟨congrArg _,D.list.inj⟩) hb
   exact RcNeAt.lists (A:=A) ⟨ob,S.sub _ _ e1,e2.1,m,e3⟩ ⟨ob',S.sub _ _ w6,xU.1,m',w7⟩ hlen (M3 hu) (BB e4 tC λi x y hx hy=>λdx dy hb=>(BC (h i x y hx hy) dx dy hb S (Qz hu)).2)
  ·cases bool_no hb λe=>hlen (e4.length.trans ((congrArg i9 (D.list.inj e)).trans tC.length.symm))
   exact RcNeAt.lists_lengths (A:=A) ⟨ob,S.sub _ _ e1,e2.1,m,e3⟩ ⟨ob',S.sub _ _ w6,xU.1,m',w7⟩ (bne_iff_ne.mpr hlen) (M3 hu)
 |tup h=>
  obtain⟨a,ob,vs,m,rfl,e1,e2,e3,e4⟩:=hx
  obtain⟨a',ob',u7,m',rfl,w6,xU,w7,tC⟩:=hy
  cases iT ((yv e4.length.symm tC.length.symm).trans ⟨congrArg _,D.tup.inj⟩) hb
  exact RcNeAt.tuples (A:=A) ⟨ob,S.sub _ _ e1,e2,m,e3⟩ ⟨ob',S.sub _ _ w6,xU,m',w7⟩ (M3 hu) (BB e4 tC λi x y hx hy=>λdx dy hb=>(BC (h i x y hx hy) dx dy hb S (Qz hu)).2)
theorem yw{n:Nat}{x y:D}{b:Bool}(hl:gg n x y)(hb:b=true↔x≠y)(hn:n<=1000):lx W (cc .NotEq) x y (.bool b):=λA f o s va vb r S ha rq Q E h=>by
 have k:=N4 (A:=A) (b:=decide (x=y)) hl ha rq decide_eq_true_iff S (by have:=r.units; exact aX 0x37bc2410847ec480108a72c4a800c201 tt hn this)
 rw[<-decide_not,iT (b:=b) decide_eq_true_iff hb] at k
 exact k W.prog W.w E Q (h _ f _ (.refl f) S rfl)
end
theorem St.grow(S:St W.B f o s){h':Heap}{tk:Tok}(hk:∀b x,s.heap.get? b=some x->h'.get? b=some x):St W.B f o {s with heap:=h',toks:=tk}:=
 ⟨λa x e=>hk _ _ (S.sub a x e),λa x e=>hk _ _ (S.own a x e),S.apart,S.base,λc hc=>let⟨z,hz,hq⟩:=S.tab c hc; ⟨z,hk _ _ hz,hq⟩,S.fq,S.os,S.gens⟩
theorem St.Ep(S:St W.B f o s){h':Heap}{tk:Tok}{a:Addr}{x:Obj}(hk:∀b x,s.heap.get? b=some x->h'.get? b=some x)(ha:s.heap.get? a=none)(hx:h'.get? a=some x):
 f.le (f.put a x)/\St W.B (f.put a x) o {s with heap:=h',toks:=tk}:=by
 have fa:f a=none:=by
  refine none_of λy q=>?_
  have:=S.sub _ _ q; exact iC ha this
 have oa:o a=none:=by
  refine none_of λy q=>?_
  have:=S.own _ _ q; exact iC ha this
 have ta:∀c,W.B.side c->c≠a:=λc hc e=>by obtain⟨z,hz,_⟩:=S.tab c hc; rw[e,ha] at hz; exact nomatch hz
 refine⟨Fz.bP fa,λb y e=>?_,λb y e=>hk _ _ (S.own b y e),λb y e=>?_,S.base.trans (Fz.bP fa),λc hc=>let⟨z,hz,hq⟩:=S.tab c hc; ⟨z,hk _ _ hz,hq⟩,λc hc=>⟨?_,(S.fq c hc).2⟩,S.os,S.gens⟩
 ·by_cases hb:b=a
  ·subst hb; cases nM (Fz.aJ ..) e; exact hx
  ·rw[Fz.az hb] at e; exact hk _ _ (S.sub b y e)
 ·by_cases hb:b=a
  ·subst hb; exact oa
  ·rw[Fz.az hb] at e; exact S.apart b y e
 ·rw[Fz.az (ta c hc)]; exact(S.fq c hc).1
theorem cV{a b:Int}:lx W (jk .Add) (.int a) (.int b) (.int (a+b)):=λA f o s va vb r S ha hb Q E h=>by
 obtain⟨t,rfl⟩:=ha; obtain⟨u,rfl⟩:=hb; exact PyProof.Rows.add_int (h _ f _ (.refl f) (S.tok _) ⟨_,rfl⟩)
theorem gH{a b:Int}:lx W (jk .Sub) (.int a) (.int b) (.int (a-b)):=λA f o s va vb r S ha hb Q E h=>by
 obtain⟨t,rfl⟩:=ha; obtain⟨u,rfl⟩:=hb; exact PyProof.Rows.sub_int' (h _ f _ (.refl f) (S.tok _) ⟨_,rfl⟩)
set_option tactic.hygienic true in
theorem tD{a b:Int}(rq:b.natAbs<1000000):lx W (jk .Mult) (.int a) (.int b) (.int (a*b)):=λA f o s va vb r S ha hb Q E h=>by
 obtain⟨t,rfl⟩:=ha; obtain⟨u,rfl⟩:=hb; exact PyProof.Rows.mul_int (h _ f _ (.refl f) (S.tok _) ⟨_,rfl⟩) (.of_right (by
  unfold Builtin.Int.intBits
  split
  ·simp[*]
  ·rename_i hz; have HT:b≠0:=by simpa using hz
   have:=(Nat.log2_lt (n:=b.natAbs) (k:=40) (by exact q28 HT)).mpr (by(first|lia|omega)); exact aN 0xb12a020109212a0201 tt this))
theorem lM{a b:Int}(Xa:b≠0):lx W (jk .Mod) (.int a) (.int b) (.int (a.fmod b)):=λA f o s va vb r S ha hb Q E h=>by
 obtain⟨t,rfl⟩:=ha; obtain⟨u,rfl⟩:=hb; exact PyProof.Rows.mod_int' Xa (h _ f _ (.refl f) (S.tok _) ⟨_,rfl⟩)
theorem lN{a b:Int}(Xa:b≠0)(rq:b.natAbs<1000000):lx W (jk .FloorDiv) (.int a) (.int b) (.int (a.fdiv b)):=λA f o s va vb r S ha hb Q E h=>by
 obtain⟨t,rfl⟩:=ha; obtain⟨u,rfl⟩:=hb; exact PyProof.Rows.floordiv_int Xa (h _ f _ (.refl f) (S.tok _) ⟨_,rfl⟩) (.inl (PyProof.noPylong_small (by exact aN 0x7d25484a80804248421084212a0201 tt rq)))
theorem w8{a:Int}:yh W (unaryOp .USub) (.int a) (.int (-a)):=λA f o s va r S ha Q E h=>by
 obtain⟨t,rfl⟩:=ha; exact P.neg_int (h _ f _ (.refl f) (S.tok _) ⟨_,rfl⟩)
theorem BD{a b:Int}:lx W (cc .Lt) (.int a) (.int b) (.bool (decide (a<b))):=λA f o s va vb r S ha hb Q E h=>by
 obtain⟨t,rfl⟩:=ha; obtain⟨u,rfl⟩:=hb; exact P.lt_int (h _ f _ (.refl f) S rfl)
theorem JO{a b:Int}:lx W (cc .LtE) (.int a) (.int b) (.bool (decide (a<=b))):=λA f o s va vb r S ha hb Q E h=>by
 obtain⟨t,rfl⟩:=ha; obtain⟨u,rfl⟩:=hb; exact P.le_int (h _ f _ (.refl f) S rfl)
theorem Er{a b:Int}:lx W (cc .Gt) (.int a) (.int b) (.bool (decide (b<a))):=λA f o s va vb r S ha hb Q E h=>by
 obtain⟨t,rfl⟩:=ha; obtain⟨u,rfl⟩:=hb; exact P.gt_int (h _ f _ (.refl f) S rfl)
theorem vQ{a b:Int}:lx W (cc .GtE) (.int a) (.int b) (.bool (decide (b<=a))):=λA f o s va vb r S ha hb Q E h=>by
 obtain⟨t,rfl⟩:=ha; obtain⟨u,rfl⟩:=hb; exact P.ge_int (h _ f _ (.refl f) S rfl)
theorem w9{a:Int}:KY W (.int a) (a != 0):=λA f o s v r S ha Q E h=>by
 obtain⟨t,rfl⟩:=ha; exact P.truthy_int (h f s (.refl f) S)
theorem gA{b:Bool}:KY W (.bool b) b:=λA f o s v r S ha Q E h=>by
 obtain rfl:v= .bool b:=ha; exact vG (h f s (.refl f) S)
theorem tE{n:Nat}{x y:D}{b:Bool}(hl:gg n x y)(hb:b=true↔x=y)(hn:n<=1000):lx W (cc .Eq) x y (.bool b):=λA f o s va vb r S ha rq Q E h=>
 (BC (A:=A) hl ha rq hb S (by have:=r.units; exact aX 0x37bc2410847ec480108a72c4a800c201 tt hn this)).1 W.prog W.w E Q (h _ f _ (.refl f) S rfl)
open Classical in
theorem among{n:Nat}{x:D}{ds:List D}{vs:List Value}{v:Value}{A:Around}(hl:∀d∈ds,gg n d x)(hd:bQ f ds vs)(hx:Den f x v)(S:St W.B f o s)(hu:A.units+n<8999):
 (∀y,y∈(⟨vs⟩:Array Value)->EqAt A.in1 s y v (decide (Den f x y)))/\((⟨vs⟩:Array Value).any λy=>decide (Den f x y))=decide (x∈ds):=by
 have key:∀d y,d∈ds->Den f d y->(Den f x y↔d=x):=λd y hm h=>⟨λh'=>(hl d hm).inj h h',λe=>e▸h⟩
 refine⟨λy hy=>?_,?_⟩
 ·have N5:y∈vs:=by simpa using hy
  obtain⟨i,hi⟩:=Bk.mp N5
  obtain⟨d,h1,h2⟩:=hd.get' hi
  have hm:=bI h1
  exact(BC (hl d hm) h2 hx (by rw[decide_eq_true_iff]; exact key d y hm h2) S (by show A.units+1+n<9000; exact aX 0x29caf2a0410804229cb12a068084201 tt hu)).2
 ·rw[oN,Array.any_eq_true,decide_eq_true_iff]
  constructor
  ·rintro⟨i,hi,h⟩
   rw[decide_eq_true_iff] at h
   have vT:i<vs.length:=hi
   obtain⟨d,h1,h2⟩:=hd.get' (aj vT)
   have hm:=bI h1
   rw[<-(key d _ hm h2).mp h]; exact hm
  ·intro hm
   obtain⟨i,hi⟩:=Bk.mp hm
   obtain⟨y,h1,h2⟩:=hd.get hi
   obtain⟨h3,h4⟩:=cI.mp h1
   exact⟨i,h3,by rw[decide_eq_true_iff]; show Den f x (vs[i]); rw[h4]; exact h2⟩
open Classical in
open Classical in
theorem yx{n:Nat}{x:D}{ds:List D}{b:Bool}(hl:∀d∈ds,gg n d x)(hb:b=true↔x∉ds)(hn:n<=1000):lx W (cc .NotIn) x (.list ds) (.bool b):=λA f o s va vb r S ha rq Q E h=>by
 obtain⟨a,ob,vs,m,rfl,e1,e2,e3,e4⟩:=rq
 obtain⟨h1,h2⟩:=among (A:=A) hl e4 ha S (by have:=r.units; exact aX 0x37bc2410847ec480108a72bca800c201 tt hn this)
 refine notIn_listAt _ ⟨ob,S.sub _ _ e1,e2.1,m,e3⟩ h1 ?_
 rw[h2,yu (a:=!decide (x∈ds)) (by simp) hb]
 exact h _ f _ (.refl f) S rfl
open Classical in
theorem CR{n:Nat}{x:D}{a:Addr}{ds:List D}{b:Bool}(hl:∀d∈ds,gg n d x)(hb:b=true↔x∉ds)(hn:n<=1000):Ak W (λf o=>lj f o a ds) (cc .NotIn) x (.raw (.ref a)) (.bool b):=λA f o s va vb r S hI ha rq Q E h=>by
 obtain rfl:vb= .ref a:=rq
 obtain⟨vs,e1,e4⟩:=hI.isList S
 obtain⟨h1,h2⟩:=among (A:=A) hl e4 ha S (by have:=r.units; exact aX 0x37bc2410847ec480108a72bca800c201 tt hn this)
 refine notIn_listAt _ e1 h1 ?_
 rw[h2,yu (a:=!decide (x∈ds)) (by simp) hb]
 exact h _ f _ (.refl f) S rfl
theorem aR:kX (.type "list") "__getitem__" =pure (some (.builtin "list.__getitem__")):=slot_list_getitem.lookup
theorem cu:kX (.type "tuple") "__getitem__" =pure (some (.builtin "tuple.__getitem__")):=PySem.F.slot_tuple_getitem.lookup
theorem bY{ds:List D}{i:Nat}{d:D}(hi:ds[i]? =some d)(hs:i<1000000):lx W dJ (.list ds) (.int i) d:=λA f o s va vb r S ha hb Q E h=>by
 obtain⟨t,rfl⟩:=hb
 obtain⟨a,ob,vs,m,rfl,e1,e2,e3,e4⟩:=ha
 obtain⟨v,h1,h2⟩:=e4.get hi
 exact wpAny_getItem_list (items:=⟨vs⟩) ⟨ob,S.sub _ _ e1,e2.1,m,e3⟩ (by(first|lia|omega)) (by exact Rd hs) (by simpa using h1) (h v f s (.refl f) S h2)
theorem Es{ds:List D}{i:Int}{k:Nat}{d:D}(hk:i=-(k:Int))(h0:0<k)(N6:k<=ds.length)(hs:k<1000000)(hi:ds[ds.length-k]? =some d):lx W dJ (.list ds) (.int i) d:=λA f o s va vb r S ha hb Q E h=>by
 obtain⟨t,rfl⟩:=hb
 obtain⟨a,ob,vs,m,rfl,e1,e2,e3,e4⟩:=ha
 obtain⟨v,h1,h2⟩:=e4.get hi
 have hl:(⟨vs⟩:Array Value).size=ds.length:=e4.length
 refine GR (items:=⟨vs⟩) ⟨ob,S.sub _ _ e1,e2.1,m,e3⟩ (by exact Zg hk h0 hs) (by exact Zh hk N6 hl) (by exact Zi hk h0 hs) ?_ (h v f s (.refl f) S h2)
 rw[show(i+((⟨vs⟩:Array Value).size:Int)).toNat=ds.length-k by exact Zj hk N6 hl]
 simpa using h1
theorem tF{a:Addr}{ds:List D}{i:Nat}{d:D}(hi:ds[i]? =some d)(hs:i<1000000):Ak W (λf o=>lj f o a ds) dJ (.raw (.ref a)) (.int i) d:=λA f o s va vb r S hI ha hb Q E h=>by
 obtain⟨t,rfl⟩:=hb
 obtain rfl:va= .ref a:=ha
 obtain⟨vs,e1,e4⟩:=hI.isList S
 obtain⟨v,h1,h2⟩:=e4.get hi
 exact wpAny_getItem_list (items:=⟨vs⟩) e1 (by(first|lia|omega)) (by exact Rd hs) (by simpa using h1) (h v f s (.refl f) S h2)
theorem vU{a:Addr}{ds:List D}{i:Int}{k:Nat}{d:D}(hk:i=-(k:Int))(h0:0<k)(N6:k<=ds.length)(hs:k<1000000)(hi:ds[ds.length-k]? =some d):Ak W (λf o=>lj f o a ds) dJ (.raw (.ref a)) (.int i) d:=λA f o s va vb r S hI ha hb Q E h=>by
 obtain⟨t,rfl⟩:=hb
 obtain rfl:va= .ref a:=ha
 obtain⟨vs,e1,e4⟩:=hI.isList S
 obtain⟨v,h1,h2⟩:=e4.get hi
 have hl:(⟨vs⟩:Array Value).size=ds.length:=e4.length
 refine GR (items:=⟨vs⟩) e1 (by exact Zg hk h0 hs) (by exact Zh hk N6 hl) (by exact Zi hk h0 hs) ?_ (h v f s (.refl f) S h2)
 rw[show(i+((⟨vs⟩:Array Value).size:Int)).toNat=ds.length-k by exact Zj hk N6 hl]
 simpa using h1
theorem fx{ds:List D}{i:Nat}{d:D}(hi:ds[i]? =some d)(hs:i<1000000):lx W dJ (.tup ds) (.int i) d:=λA f o s va vb r S ha hb Q E h=>by
 obtain⟨t,rfl⟩:=hb
 obtain⟨a,ob,vs,m,rfl,e1,e2,e3,e4⟩:=ha
 obtain⟨v,h1,h2⟩:=e4.get hi
 have hl:vs.length=ds.length:=e4.length
 have HU:=(cI.mp hi).1
 refine PyProof.Rows.getItem_tuple (items:=⟨vs⟩) (j:=i) ⟨ob,S.sub _ _ e1,e2,m,e3⟩ (by exact q39) (by exact Rd hs) ?_ (by simpa using h1) (h v f s (.refl f) S h2)
 have h3:(⟨vs⟩:Array Value).size=ds.length:=hl
 rw[h3]
 unfold seqIndex?
 have h4:¬((i:Int)<0):=by exact q40 hs
 have h5:(i:Int)<(ds.length:Int):=by exact jf 0x1a02010851002161 tt HU
 simp[h4,h5,HU]
theorem BE{a:Addr}{ds:List D}:∀(f o:Fz) s v,St W.B f o s->lj f o a ds->Den f (.raw (.ref a)) v->s.TypeIs v "list":=λf o s v S h hv=>by
 obtain rfl:v= .ref a:=hv
 obtain⟨vs,h1,_⟩:=h.isList S
 exact h1.typeIs
theorem jR{A:Around}{ds:List D}(hs:ds.length<1000000):mf W A (.builtin "len") [.list ds] (.int ds.length):=λf o s vs S hd Q E h=>by
 obtain⟨v,r,rfl,⟨a,ob,vs,m,rfl,e1,e2,e3,e4⟩,rfl⟩:=hd
 have hl:(⟨vs⟩:Array Value).size=ds.length:=e4.length
 refine CE (items:=⟨vs⟩) ⟨ob,S.sub _ _ e1,e2.1,m,e3⟩ (by exact Rf hs hl) ?_
 rw[hl]; exact h _ f _ (.refl f) (S.tok _) ⟨_,rfl⟩
theorem qo{A:Around}{a:Addr}{ds:List D}(hs:ds.length<1000000):En W (λf o=>lj f o a ds) A (.builtin "len") [.raw (.ref a)] (.int ds.length):=λf o s vs S hI hd Q E h=>by
 obtain⟨v,r,rfl,hv,rfl⟩:=hd
 obtain rfl:v= .ref a:=hv
 obtain⟨vs,e1,e4⟩:=hI.isList S
 have hl:(⟨vs⟩:Array Value).size=ds.length:=e4.length
 refine CE (items:=⟨vs⟩) e1 (by exact Rf hs hl) ?_
 rw[hl]; exact h _ f _ (.refl f) (S.tok _) ⟨_,rfl⟩
theorem yy{A:Around}{ds:List D}(hs:ds.length<1000000):mf W A (.builtin "len") [.tup ds] (.int ds.length):=λf o s vs S hd Q E h=>by
 obtain⟨v,r,rfl,⟨a,ob,vs,m,rfl,e1,e2,e3,e4⟩,rfl⟩:=hd
 have hl:(⟨vs⟩:Array Value).size=ds.length:=e4.length
 refine PyProof.Rows.len_tuple (items:=⟨vs⟩) ⟨ob,S.sub _ _ e1,e2,m,e3⟩ (by exact Rf hs hl) ?_
 rw[hl]; exact h _ f _ (.refl f) (S.tok _) ⟨_,rfl⟩
theorem tG{A:Around}{x:Str}(hs:x.length<1000000):mf W A (.builtin "len") [.str x] (.int x.length):=λf o s vs S hd Q E h=>by
 obtain⟨v,r,rfl,⟨t,rfl⟩,rfl⟩:=hd
 exact P.len_str (by exact q43 hs) (h _ f _ (.refl f) (S.tok _) ⟨_,rfl⟩)
theorem oo:∀{ns:List Int} {vs:List Value},bQ f (ns.map .int) vs->IntsAre vs ns
 |[],_,e=>by rw[show _=[] from e]; exact .nil
 |n::ns,_,⟨v,r,e,⟨t,ht⟩,h⟩=>by subst e; subst ht; exact .cons n t (oo h)
noncomputable def tH:List Int->Int
 |[]=>0
 |a::l=>l.foldl max a
noncomputable def Et:List Int->Int
 |[]=>0
 |a::l=>l.foldl min a
theorem foldl_max(l:List Int):∀a,(l.foldl max a=a\/l.foldl max a∈l)/\a<=l.foldl max a/\∀b∈l,b<=l.foldl max a:=by
 induction l with
 |nil=>intro a; simp
 |cons x l ih=>
  intro a
  obtain⟨h1,h2,h3⟩:=ih (max a x)
  rw[ei]
  refine⟨?_,by exact q44 h2,λb hb=>?_⟩
  ·rcases h1 with h1|h1
   ·rw[h1]
    rcases cT a x with h|h
    ·right; rw[dW h]; exact .head _
    ·left; rw[et h]
   ·exact .inr (.tail _ h1)
  ·rcases au.mp hb with rfl|hb
   ·exact q45 h2
   ·exact h3 b hb
theorem foldl_min(l:List Int):∀a,(l.foldl min a=a\/l.foldl min a∈l)/\l.foldl min a<=a/\∀b∈l,l.foldl min a<=b:=by
 induction l with
 |nil=>intro a; simp
 |cons x l ih=>
  intro a
  obtain⟨h1,h2,h3⟩:=ih (min a x)
  rw[ei]
  refine⟨?_,by exact q46 h2,λb hb=>?_⟩
  ·rcases h1 with h1|h1
   ·rw[h1]
    rcases cT a x with h|h
    ·left; rw[KJ h]
    ·right; rw[JD h]; exact .head _
   ·exact .inr (.tail _ h1)
  ·rcases au.mp hb with rfl|hb
   ·exact q47 h2
   ·exact h3 b hb
theorem kM{l:List Int}(h:l≠[]):tH l∈l:=by
 cases l with
 |nil=>exact absurd rfl h
 |cons a l=>
  rcases(foldl_max l a).1 with e|e
  ·rw[show tH (a::l)=a from e]; exact .head _
  ·exact .tail _ e
theorem lA{l:List Int}{a:Int}(h:a∈l):a<=tH l:=by
 cases l with
 |nil=>exact nomatch h
 |cons x l=>
  rcases au.mp h with rfl|h
  ·exact(foldl_max l a).2.1
  ·exact(foldl_max l x).2.2 a h
theorem tI{l:List Int}(h:l≠[]):Et l∈l:=by
 cases l with
 |nil=>exact absurd rfl h
 |cons a l=>
  rcases(foldl_min l a).1 with e|e
  ·rw[show Et (a::l)=a from e]; exact .head _
  ·exact .tail _ e
theorem BF{l:List Int}{a:Int}(h:a∈l):Et l<=a:=by
 cases l with
 |nil=>exact nomatch h
 |cons x l=>
  rcases au.mp h with rfl|h
  ·exact(foldl_min l a).2.1
  ·exact(foldl_min l x).2.2 a h
theorem jS{A:Around}{a b:Int}(hh:A.handled=none):mf W A (.builtin "max") [.int a, .int b] (.int (max a b)):=λf o s vs S hd Q E h=>by
 obtain⟨v,r,rfl,⟨t,rfl⟩,v2,r2,rfl,⟨u,rfl⟩,rfl⟩:=hd
 refine max_two_ints hh λh' tk hk=>h _ f _ (.refl f) (S.grow hk) ?_
 split
 ·exact⟨u,by congr 1; exact q48 ‹_›⟩
 ·exact⟨t,by congr 1; exact q49 ‹_›⟩
theorem oq{A:Around}{ns:List Int}(hh:A.handled=none)(ea:ns≠[]):mf W A (.builtin "max") [.list (ns.map .int)] (.int (tH ns)):=λf o s vs S hd Q E h=>by
 obtain⟨v,r,rfl,⟨a,ob,vs,m,rfl,e1,e2,e3,e4⟩,rfl⟩:=hd
 have hi:=oo e4
 obtain⟨xs,e⟩:=hi.allInts.items
 have wV:ns=xs.toList.map (·.1):=by rw[<-hi.numsOf,<-Dy,<-e]
 have h3:0<ns.length:=iB.mpr ea
 have fC:0<xs.size:=by rw[wV,ai,fi] at h3; exact h3
 have hl:s.heap.IsList a ⟨vs⟩:=⟨ob,S.sub _ _ e1,e2.1,m,e3⟩
 rw[show(⟨vs⟩:Array Value)=intItems xs from e] at hl
 refine max_intList hh hl fC λv h' tk hv hk=>?_
 obtain⟨t,rfl⟩:=intItems_at hv
 obtain⟨h1,h2⟩:=argBest_gt (numAt xs) (xs.size-1)
 refine h _ f _ (.refl f) (S.grow hk) ⟨t,?_⟩
 congr 1
 apply aE
 ·refine lA ?_
  rw[wV,Jy]; exact getD_mem (by rw[ai,fi]; exact Zk fC h1)
 ·have hm:=kM ea
  rw[wV] at hm
  obtain⟨j,hj,e⟩:=mem_getD hm
  rw[ai,fi] at hj
  rw[wV,<-e,<-Jy]; exact h2 j (by exact Zl fC hj)
theorem Eu{A:Around}{ns:List Int}(hh:A.handled=none)(ea:ns≠[]):mf W A (.builtin "min") [.list (ns.map .int)] (.int (Et ns)):=λf o s vs S hd Q E h=>by
 obtain⟨v,r,rfl,⟨a,ob,vs,m,rfl,e1,e2,e3,e4⟩,rfl⟩:=hd
 have hi:=oo e4
 obtain⟨xs,e⟩:=hi.allInts.items
 have wV:ns=xs.toList.map (·.1):=by rw[<-hi.numsOf,<-Dy,<-e]
 have h3:0<ns.length:=iB.mpr ea
 have fC:0<xs.size:=by rw[wV,ai,fi] at h3; exact h3
 have hl:s.heap.IsList a ⟨vs⟩:=⟨ob,S.sub _ _ e1,e2.1,m,e3⟩
 rw[show(⟨vs⟩:Array Value)=intItems xs from e] at hl
 refine min_intList hh hl fC λv h' tk hv hk=>?_
 obtain⟨t,rfl⟩:=intItems_at hv
 obtain⟨h1,h2⟩:=argBest_lt (numAt xs) (xs.size-1)
 refine h _ f _ (.refl f) (S.grow hk) ⟨t,?_⟩
 congr 1
 apply aE
 ·have hm:=tI ea
  rw[wV] at hm
  obtain⟨j,hj,e⟩:=mem_getD hm
  rw[ai,fi] at hj
  rw[wV,<-e,<-Jy]; exact h2 j (by exact Zl fC hj)
 ·refine BF ?_
  rw[wV,Jy]; exact getD_mem (by rw[ai,fi]; exact Zk fC h1)
theorem BG{A:Around}{ns:List Int}(hh:A.handled=none):mf W A (.builtin "sum") [.list (ns.map .int)] (.int ns.sum):=λf o s vs S hd Q E h=>by
 obtain⟨v,r,rfl,⟨a,ob,vs,m,rfl,e1,e2,e3,e4⟩,rfl⟩:=hd
 have hi:=oo e4
 obtain⟨xs,e⟩:=hi.allInts.items
 have wV:ns=xs.toList.map (·.1):=by rw[<-hi.numsOf,<-Dy,<-e]
 have hl:s.heap.IsList a ⟨vs⟩:=⟨ob,S.sub _ _ e1,e2.1,m,e3⟩
 rw[show(⟨vs⟩:Array Value)=intItems xs from e] at hl
 refine sum_intListG hh hl λh' tk t' hk=>?_
 refine h _ f _ (.refl f) (S.grow hk) ⟨t',?_⟩
 rw[preSum_eq,dg (by simp),wV]
end
end
section
open PySem PySem.W PyProof.Rows PySem.SeqAt PySem.Builtin PySem.Builtin.Str
section
variable {W:Wd}{C:Cx}{ρ a9:Ro}{f o:Fz}{s:Shared}
noncomputable def qp(ds:List D)(lo hi st:Option Int):List D:=((m9 (dG lo hi st ds.length).1 (dG lo hi st ds.length).2.1 (dG lo hi st ds.length).2.2).filterMap (ds[·]?))
theorem bQ.pick{ds:List D}{vs:List Value}(h:bQ f ds vs):∀idx:List Nat,bQ f (idx.filterMap (ds[·]?)) (idx.filterMap (vs[·]?))
 |[]=>rfl
 |i::r=>by
  rw[qe,qe]
  cases hd:ds[i]? with
  |none=>
   have:vs[i]? =none:=by
    rw[mj] at hd ⊢; rw[h.length]; exact hd
   rw[this]; exact bQ.pick h r
  |some d=>
   obtain⟨v,h1,h2⟩:=h.get hd
   rw[h1]; exact⟨v,_,rfl,h2,bQ.pick h r⟩
noncomputable def tJ(v:Value)(x:Option Int):Prop:=match x with|some i=>∃t,v= .int i t|aD=>v= .none
theorem tJ.is{v:Value}{x:Option Int}(h:tJ v x):IsPart v x:=by
 cases x with
 |none=>rw[show v= .none from h]; exact .none
 |some i=>obtain⟨t,rfl⟩:=h; exact .int i t
noncomputable def HV(W:Wd)(da:D)(ds:List D):Prop:=∀f o s v,St W.B f o s->Den f da v->∃a vs,v= .ref a/\s.heap.IsList a ⟨vs⟩/\bQ f ds vs
theorem xa{ds:List D}:HV W (.list ds) ds:=λf o s v S ⟨a,ob,vs,n,e,e1,e2,e3,e4⟩=>⟨a,vs,e,⟨ob,S.sub _ _ e1,e2.1,n,e3⟩,e4⟩
theorem tK(S:St W.B f o s)(H:bc C ρ f o){lo hi st:Option Expr}{l h t:Option Int}{p:Pos}(pl:zz W C ρ lo l)(ph:zz W C ρ hi h)(ps:zz W C ρ st t){Q:Value->Shared->Prop}{E:Value->Shared->Prop}
 (hQ:∀vl vh vt f' s',f.le f'->St W.B f' o s'->tJ vl l->tJ vh h->tJ vt t->Q (.ref s'.heap.objs.size) {s' with heap:=s'.heap.push {cls:= .type "slice",data:= .fields #[vl,vh,vt]}}):
 wpAny W.M C.A (eval (.Slice lo hi st p) C.env) Q E s:=
 wpAny_Slice (pl f o s S H _ _ λvl f1 s1 l1 S1 h1=>ph f1 o s1 S1 (H.mono l1 (.refl o)) _ _ λvh f2 s2 l2 S2 h2=>ps f2 o s2 S2 (H.mono (l1.trans l2) (.refl o)) _ _ λvt f3 s3 l3 S3 h3=>hQ vl vh vt f3 s3 (l1.trans (l2.trans l3)) S3 h1 h2 h3)
theorem eg.slice{value:Expr}{lo hi st:Option Expr}{l h t:Option Int}{p pos:Pos}{da:D}{ds:List D}{ops:Value->Value->List Value}(hv:eg W C ρ value da)(hL:HV W da ds)(pl:zz W C ρ lo l)(ph:zz W C ρ hi h)(ps:zz W C ρ st t)(h0:t≠some 0)(fC:ds.length<=1000000)
 (hs:∀o i,subscripted (.Slice lo hi st p) false o i=operate (ops o i) (dJ o i)):eg W C ρ (.Subscript value (.Slice lo hi st p) pos) (.list (qp ds l h t)):=λf o s S H Q E hQ=>by
 rw[n7]
 refine aa (hv f o s S H _ _ λv f1 s1 l1 S1 d1=>aa (aL (tK S1 (H.mono l1 (.refl o)) pl ph ps λvl vh vt f2 s2 l2 S2 h1 h2 h3=>aa (aZ ?_))))
 obtain⟨a,vs,rfl,g1,g2⟩:=hL _ _ _ _ S2 (d1.mono l2)
 have S3:=S2.gW {cls:= .type "slice",data:= .fields #[vl,vh,vt]}
 have Xb:(⟨vs⟩:Array Value).size<=ll:=by rw[bu]; show vs.length<=_; rw[g2.length]; exact aN 0x3e92a4240084308421084801 tt fC
 refine A6 (g1.push _).typeIs aR (wpAny_getItem_list_slice (g1.push _) (Heap.IsSliceOf.new ..) h1.is h2.is h3.is h0 ?_ Xb) (hs _ _)
 have S4:=(S3.drop (o':=o) (Fz.bP S2.fc)).jv {cls:= .type "list",data:= .seq (slicePick ⟨vs⟩ l h t)}
 have lf:=Fz.bP (o:={cls:= .type "list",data:= .seq (slicePick ⟨vs⟩ l h t)}) (S3.drop (o':=o) (Fz.bP S2.fc)).gR
 refine hQ _ _ _ (l1.trans (l2.trans lf)) S4 ⟨_,_,_,0,rfl,Fz.aJ ..,⟨rfl,rfl,rfl⟩,rfl,?_⟩
 have e:(⟨vs⟩:Array Value).size=ds.length:=g2.length
 have e2:(λi:Nat=>(⟨vs⟩:Array Value)[i]?)=λi:Nat=>vs[i]? :=by funext i; simp
 unfold qp
 rw[e,e2]
 exact(g2.pick _).mono lf
noncomputable def aS(l:List Nat):Str:=⟨⟨l⟩⟩
theorem qq{a b:List Nat}(h:aS a=aS b):a=b:=by injection h with h; injection h
theorem eT(l:List Nat):(aS l).length=l.length:=rfl
theorem sF(a b:List Nat):aS a++aS b=aS (a++b):=by
 show(⟨(⟨a⟩:Array Nat)++ ⟨b⟩⟩:Str)=_
 simp[aS]
set_option tactic.hygienic true in
theorem Ew(l:List Nat)(a b:Nat):Txt.slice (aS l) (some a) (some b)=aS ((l.drop a).take (b-a)):=by
 have hi:lY (some (a:Int)) (some (b:Int)) 1 l.length=(aB (min b l.length-min a l.length)).map (min a l.length+ ·):=by
  have:lY (some (a:Int)) (some (b:Int)) 1 l.length=m9 ((min a l.length:Nat):Int) ((min b l.length:Nat):Int) 1:=by
   unfold lY
   simp only[show(1:Int)>0 by decide,if_true]
   rw[if_neg (by(first|lia|omega)),if_neg (by(first|lia|omega))]
   congr 1<;>exact Rg
  rw[this,A7]
 have hp:=pick_run (⟨l⟩:Array Nat) (min a l.length) (min b l.length-min a l.length)
 have key:(l.drop (min a l.length)).take (min b l.length-min a l.length)=(l.drop a).take (b-a):=by
  rcases fB a l.length with ha|ha
  ·rw[kZ ha]
   rcases fB b l.length with hb|hb
   ·rw[kZ hb]
   ·rw[ix hb,dg (by simp),dg (by simp; exact q54 hb)]
  ·rw[ix ha,gE (bL _),gE ha]; simp
 unfold Txt.slice
 split
 ·rename_i hc
  have hl:(lY (some (a:Int)) (some (b:Int)) 1 l.length).length=l.length:=by simpa [eT] using hc
  rw[hi] at hl
  simp only[ai,ec] at hl
  rw[<-key]
  unfold aS
  rw[hl,dg (by simp)]
  rcases Nat.eq_zero_or_pos l.length with h0|h0
  ·have:l=[]:=i8.mp h0
   subst this; simp
  ·have:min a l.length=0:=by exact q55 hl h0
   rw[this,wR]
 ·show(⟨((lY (some (a:Int)) (some (b:Int)) 1 l.length).filterMap ((⟨l⟩:Array Nat)[·]?)).toArray⟩:Str)=_
  rw[hi,hp,key]; rfl
theorem eg.Le{value:Expr}{lo hi:Option Expr}{a b:Nat}{p pos:Pos}{x:List Nat}{ops:Value->Value->List Value}(hv:eg W C ρ value (.str (aS x)))(pl:zz W C ρ lo (some a))(ph:zz W C ρ hi (some b))(fC:x.length<=1000000)
 (hs:∀o i,subscripted (.Slice lo hi aD p) false o i=operate (ops o i) (dJ o i)):eg W C ρ (.Subscript value (.Slice lo hi aD p) pos) (.str (aS ((x.drop a).take (b-a)))):=λf o s S H Q E hQ=>by
 rw[n7]
 refine aa (hv f o s S H _ _ λv f1 s1 l1 S1 d1=>aa (aL (tK S1 (H.mono l1 (.refl o)) pl ph zz.none λvl vh vt f2 s2 l2 S2 h1 h2 h3=>aa (aZ ?_))))
 obtain⟨t,rfl⟩:=d1
 obtain⟨i,rfl⟩:=h1
 obtain⟨j,rfl⟩:=h2
 obtain rfl:vt= .none:=h3
 have S3:=(S2.gW {cls:= .type "slice",data:= .fields #[.int a i, .int b j, .none]}).drop (o':=o) (Fz.bP S2.fc)
 have key:=SBH.sliceItem_ss (prog:=W.prog) (w:=W.w) (A:=C.A) (E:=E) (P:=λh'=>∀c y,s2.heap.get? c=some y->h'.get? c=some y) (s:=s2) (x:=aS x) (t:=t) (i:=a) (j:=b) (ui:=i) (uj:=j) (Q:=Q)
  (λh ob hk c y e=>aH _ (hk c y e)) (λ_ _ e=>e) (λh' t' k hk=>hQ _ f2 _ (l1.trans l2) (S2.grow hk) ⟨t',by rw[Ew]⟩) (by rw[bu,eT]; exact aN 0x3e92a4240084308421084801 tt fC)
 obtain⟨T,id,k1,k2,k3⟩:=key
 exact A6 k2 k1 k3 (hs _ _)
theorem gS{x y:List Nat}(hs:x.length+y.length<=1000000):lx W (jk .Add) (.str (aS x)) (.str (aS y)) (.str (aS (x++y))):=λA f o s va vb r S ha hb Q E h=>by
 obtain⟨t,rfl⟩:=ha; obtain⟨u,rfl⟩:=hb
 exact uY (λt' k=>h _ f _ (.refl f) (S.tok _) ⟨t',by rw[sF]⟩) (by rw[bu,eT,eT]; exact aX 0x3e92a4241040210c2108421208201 tt hs)
noncomputable def rep(n:Nat)(x:List Nat):List Nat:=(bf n x).flatten
theorem tM(x:List Nat):∀(n:Nat) (a:Array Nat),((bf n (⟨x⟩:Array Nat)).foldl (·++ ·) a).toList=a.toList++rep n x
 | 0,a=>by simp[rep]
 |n+1,a=>by
  rw[bM,ei,tM x n]
  simp[rep,bM]
set_option tactic.hygienic true in
theorem Lf(x:List Nat)(n:Int):Txt.mul (aS x) n=aS (rep n.toNat x):=by
 unfold Txt.mul
 split
 ·have:n.toNat=0:=by exact q57 ‹_›
  rw[this]; rfl
 ·split
  ·rename_i h1 h2
   rcases iP _ _▸h2 with h|h
   ·have:n=1:=by simpa using h
    subst this; simp[rep]
   ·have:x=[]:=by simpa [eT] using h
    subst this; unfold rep; simp[aS]
  ·unfold aS
   congr 1
   apply G7.mp
   rw[tM]; simp
theorem N7(x:List Nat)(n:Int)(h1:x.length<=1000)(h2:n<=1000)(h3:-1000<=n):MulOk (aS x) n:=by
 refine⟨by simp; exact q58 h2 h3,λa b=>?_,λa b=>?_⟩
 ·have h4:(2 ^ 63-1) / n>=1000:=by
   rw[ge_iff_le,Int.le_ediv_iff_mul_le (by exact q59 h2 h3 a)]; exact q60 h2 h3 a
  show ¬((x.length:Int)>_); exact q61 h1 h4
 ·show GS (x.length*n.toNat)=false
  unfold GS
  have:x.length*n.toNat<=1000*1000:=qa h1 (by exact Zm h2)
  simp; unfold ll; exact q63 this
theorem oP{x:List Nat}{n:Int}(h1:x.length<=1000)(h2:n<=1000)(h3:-1000<=n):lx W (jk .Mult) (.str (aS x)) (.int n) (.str (aS (rep n.toNat x))):=λA f o s va vb r S ha hb Q E h=>by
 obtain⟨t,rfl⟩:=ha; obtain⟨u,rfl⟩:=hb
 exact SB.mul (N7 x n h1 h2 h3) λt' k=>h _ f _ (.refl f) (S.tok _) ⟨t',by rw[Lf]⟩
theorem iU{x:List Nat}{i:Nat}{c:Nat}(hi:x[i]? =some c)(hs:x.length<1000000):lx W dJ (.str (aS x)) (.int i) (.str (aS [c])):=λA f o s va vb r S ha hb Q E h=>by
 obtain⟨t,rfl⟩:=ha; obtain⟨u,rfl⟩:=hb
 have HU:=(cI.mp hi).1
 refine P.getItem_str (c:=c) (by simp; exact jf 0x2818042fa4a909501008510842108421084210841300a161 tt hs HU) ?_ (h _ f _ (.refl f) (S.tok _) ⟨_,rfl⟩)
 have h4:¬((i:Int)<0):=by(first|lia|omega)
 have:seqIndex? (i:Int) (aS x).length=some i:=by
  unfold seqIndex?
  simp[h4,eT,HU]
 rw[this]
 show(⟨x⟩:Array Nat)[i]? =some c
 simpa using hi
theorem fL:kX (.type "str") "__getitem__" =pure (some (.builtin "str.__getitem__")):=PySem.F.slot_str_getitem.lookup
theorem tN{x y:List Nat}:lx W (cc .Eq) (.str (aS x)) (.str (aS y)) (.bool (decide (x=y))):=tE (n:=0) .str (by rw[decide_eq_true_iff]; exact⟨λe=>by rw[e],λe=>qq (by injection e)⟩) (by simp[*])
theorem ia{x y:Int}:lx W (cc .Eq) (.int x) (.int y) (.bool (decide (x=y))):=tE (n:=0) .int (by rw[decide_eq_true_iff]; exact⟨λe=>by rw[e],λe=>by injection e⟩) (by(first|lia|omega))
theorem qr{xs ys:List D}(hs:xs.length+ys.length<=1000000):lx W (jk .Add) (.list xs) (.list ys) (.list (xs++ys)):=λA f o s va vb r S ha hb Q E h=>by
 obtain⟨a,ob,vs,m,rfl,e1,e2,e3,e4⟩:=ha
 obtain⟨a',ob',u7,m',rfl,w6,xU,w7,tC⟩:=hb
 obtain⟨c,d,dt,sl⟩:=ob
 obtain⟨c',d',dt',Xc⟩:=ob'
 obtain⟨h1,h2,h3⟩:=e2
 obtain⟨N8,zB,Lg⟩:=xU
 dsimp only at h1 h2 h3 N8 zB Lg e3 w7
 subst h1 h2 h3 N8 zB Lg e3 w7
 have l1:=e4.length
 have l2:=tC.length
 refine concat_meets ⟨_,S.sub _ _ e1,rfl⟩ ⟨_,S.sub _ _ w6,rfl⟩ noFill_list_add seq_list_add x5 xK (wO _ _)
  (list_addW a a' ⟨vs⟩ ⟨u7⟩ m m' aD aD #[] #[] (by rw[bu]; show vs.length+u7.length<=_; exact hO 0x461080410be92a4241040210c2108421218a01 tt hs (ah l1) (ah l2))) ⟨S.sub _ _ e1,S.sub _ _ w6,?_⟩
 exact h _ _ _ (Fz.bP S.gR) (S.jv _) ⟨_,_,vs++u7,0,rfl,Fz.aJ ..,⟨rfl,rfl,rfl⟩,by simp,(e4.append tC).mono (Fz.bP S.gR)⟩
theorem St.upd(S:St W.B f o s){h':Heap}{tk:Tok}{o':Fz}(T:Addr->Prop)(hk:∀b x,¬T b->s.heap.get? b=some x->h'.get? b=some x)(ht:∀b,T b->o b≠none)
 (Xd:∀b x,o' b=some x->(T b/\h'.get? b=some x)\/(¬T b/\o b=some x)):St W.B f o' {s with heap:=h',toks:=tk}:=by
 have tn:∀c,W.B.side c->¬T c:=λc hc t=>ht _ t (S.fq c hc).2
 have fn:∀a x,f a=some x->¬T a:=λa x e t=>ht _ t (S.apart a x e)
 refine⟨λa x e=>hk _ _ (fn a x e) (S.sub a x e),λa x e=>?_,λa x e=>?_,S.base,?_,λc hc=>⟨(S.fq c hc).1,?_⟩,S.os,S.gens⟩
 ·rcases Xd a x e with⟨_,h⟩|⟨h1,h2⟩
  ·exact h
  ·exact hk _ _ h1 (S.own a x h2)
 ·refine none_of λy q=>?_
  rcases Xd a y q with⟨h,_⟩|⟨_,h⟩
  ·exact absurd h (fn a x e)
  ·exact iC (S.apart a x e) h
 ·exact λc hc=>let⟨z,hz,hq⟩:=S.tab c hc; ⟨z,hk _ _ (tn c hc) hz,hq⟩
 ·refine none_of λy q=>?_
  rcases Xd _ y q with⟨h,_⟩|⟨_,h⟩
  ·exact absurd h (tn c hc)
  ·exact iC ((S.fq c hc).2) h
noncomputable def signs(x:List Nat):List D:=x.map λc=> .str (aS [c])
theorem Ex{eP:Expr}{it:Addr}{x:List Nat}{t:Tok}:∀{xs:List Nat} {i:Nat} {f:Fz} {ob:Obj},x.drop i=xs->ob.cls= .type "str_ascii_iterator" ->ob.data= .fields #[.str (aS x) t, .int i 0]->o9 W eP (signs xs) (one it ob) f (.ref it)
 |[],i,f,ob,h4,h5,h6=>λA f' o s Q E hh r l1 wl S h=>by
  have hit:=S.own _ _ (wl _ _ (bW ..))
  refine wpAny_pyNext_ascii_end hh ⟨_,hit,h5,h6⟩ (by show(⟨x⟩:Array Nat)[i]? =none; simpa using drop_nil h4) λh' he=>?_
  exact h _ _ (S.ext (wl _ _ (bW ..)) he) (o8.del (by rw[bW]; simp))
 |c::xs,i,f,ob,h4,h5,h6=>λA f' o s Q E hh r l1 wl S h=>by
  obtain⟨e1,e2⟩:=drop_cons h4
  have Ee:=wl _ _ (bW it _)
  refine wpAny_pyNext_ascii_item ⟨_,S.own _ _ Ee,h5,h6⟩ (c:=c) (by show(⟨x⟩:Array Nat)[i]? =some c; simpa using e1) λh' yj hs=>?_
  obtain⟨ob',g1,g2,g3⟩:=yj
  refine⟨_,rfl,iQ g1 g2 (by decide) ?_⟩
  refine h _ f' _ _ _ (.refl f') ((S.same Ee hs g1).tok _) (o8.put (by rw[bW]; simp)) (one_le (Fz.aJ ..)) (λa ha=>?_) ⟨_,rfl⟩ (Ex e2 g2 g3)
  rw[mK ha,bW]; exact .inl (by exact nofun)
theorem BH{x:List Nat}(hx:x.all (·<128)=true):K0 W (.str (aS x)) (signs x):=λeP A f o s v r S hd Q E h=>by
 obtain⟨t,rfl⟩:=hd
 refine wpAny_pyIter_ascii (by show(⟨x⟩:Array Nat).all (·<128)=true; simpa using hx) ?_
 exact h _ (one s.heap.objs.size _) f _ _ (.refl f) (S.gW _) (Fz.bP S.fc) (one_le (Fz.aJ ..)) (λa ha=>by rw[mK ha]; exact S.fc) (Ex (x:=x) (i:=0) rfl rfl rfl)
  λA f' o s Q E l1 wl S h=>wpAny_pyIter_striter_ascii (i:=0) ⟨_,S.own _ _ (wl _ _ (bW ..)),rfl,rfl⟩ h
theorem mM{A:Around}{n:Int}:mf W A (.type "range") [.int n] (.Bs 0 n):=λf o s vs S hd Q E h=>by
 obtain⟨v,r,rfl,⟨t,rfl⟩,rfl⟩:=hd
 exact call_range_1 (h _ _ _ (Fz.bP S.gR) ((S.jv _).tok _) ⟨_,_,_,_,rfl,Fz.aJ ..⟩)
theorem kN{A:Around}{a b:Int}:mf W A (.type "range") [.int a, .int b] (.Bs a b):=λf o s vs S hd Q E h=>by
 obtain⟨v,r,rfl,⟨t,rfl⟩,v2,r2,rfl,⟨u,rfl⟩,rfl⟩:=hd
 exact call_range_2 (h _ _ _ (Fz.bP S.gR) ((S.jv _).tok _) ⟨_,_,_,_,rfl,Fz.aJ ..⟩)
theorem kO{a b:Int}{n:Nat}(h:n=(b-a).toNat):eF a b 1=(n:Int):=by
 unfold eF
 rw[if_pos (show(1:Int)>0 by decide)]
 by_cases M4:a<b
 ·rw[if_pos M4,Int.ediv_one]; exact q66 h M4
 ·rw[if_neg M4]; exact q67 h M4
theorem ot{a b:Int}(h1:-1000000<=a)(h2:a<=1000000)(h3:-1000000<=b)(h4:b<=1000000):gV a b 1=true:=by
 have hf:∀x:Int,-3000000<=x->x<=3000000->qf x=true:=λx g1 g2=>by
  unfold qf
  simp; exact q68 g1 g2
 unfold gV
 rw[kO rfl,hf a (by exact eI 0xfa4a905044017796e4141 tt h1) (by exact eI 0x1f49520900442ef2dc82401 tt h2),hf b (by exact eI 0xfa4a905044017796e4141 tt h3) (by exact eI 0x1f49520900442ef2dc82401 tt h4),hf 1 (by simp[*]) (by simp[*]),hf _ (by exact ew 8896914538817 tt) (by exact q72 h1 h2 h3 h4),if_pos (show(1:Int)>0 by decide),hf (b+(1-1)) (by exact eI 0xfa4a90504508300b17796e4141 tt h3) (by exact eI 0x1f49520900442ef2dc8261060161 tt h4)]
 simp
theorem mO{a b:Int}(h1:-1000000<=a)(h2:a<=1000000)(h3:-1000000<=b)(h4:b<=1000000):K0 W (.Bs a b) ((u0 a (b-a).toNat).map .int):=λeP A f o s v r S hd Q E h=>by
 obtain⟨x,t,u,w,rfl,e⟩:=hd
 refine wpAny_pyIter_range (S.sub _ _ e) (ot h1 h2 h3 h4) ?_
 rw[kO rfl]
 exact h _ (one s.heap.objs.size _) f _ _ (.refl f) (S.gW _) (Fz.bP S.fc) (one_le (Fz.aJ ..)) (λa ha=>by rw[mK ha]; exact S.fc) yk z9
theorem Ey{A:Around}{a b:Int}(h3:-1000000<=b)(h4:b<=1000000)(h1:-1000000<=a)(h2:a<=1000000):mf W A (.builtin "len") [.Bs a b] (.int (b-a).toNat):=λf o s vs S hd Q E h=>by
 obtain⟨v,r,rfl,⟨x,t,u,w,rfl,e⟩,rfl⟩:=hd
 exact call_len_range (S.sub _ _ e) (kO rfl) (by exact q75 h3 h4 h1 h2) (h _ f _ (.refl f) (S.tok _) ⟨_,rfl⟩)
theorem CS{A:Around}{a b:Int}(hh:A.handled=none)(h1:-1000000<=a)(h2:a<=1000000)(h3:-1000000<=b)(h4:b<=1000000):mf W A (.type "list") [.Bs a b] (.list ((u0 a (b-a).toNat).map .int)):=λf o s vs S hd Q E h=>by
 obtain⟨v,r,rfl,⟨x,t,u,w,rfl,e⟩,rfl⟩:=hd
 refine call_list_range hh (S.sub _ _ e) (ot h1 h2 h3 h4) (kO rfl) (by exact q76 h1 h4) λh' tk acc c hk hS hi=>?_
 have hn:s.heap.get? s.heap.objs.size=none:=by
  exact none_of λy q=>absurd (bJ q) (iM _)
 obtain⟨lf,S'⟩:=S.Ep (tk:=tk) hk hn hS
 refine h _ _ _ lf S' ⟨_,_,acc.toList,c,rfl,Fz.aJ ..,⟨rfl,rfl,rfl⟩,by simp,?_⟩
 obtain⟨g1,g2⟩:=hi
 have key:∀(n:Nat) (a:Int) (l:List Value),l.length=n->(∀(i:Nat) v,l[i]? =some v->∃t,v=Value.int (a+i*1) t)->bQ (f.put s.heap.objs.size {cls:= .type "list",dict:=aD,data:= .seq acc c,slots:=#[]}) ((u0 a n).map D.int) l:=by
  intro n
  induction n with
  |zero=>intro a l hl _; rw[i8.mp hl]; rfl
  |succ n ih=>
   intro a l hl hv
   cases l with
   |nil=>exact nomatch hl
   |cons v l=>
    obtain⟨t,e⟩:=hv 0 v rfl
    refine⟨v,l,rfl,⟨t,by rw[e]; congr 1; simp⟩,ih (a+1) l (by simpa using hl) λi v hi=>?_⟩
    obtain⟨t,e⟩:=hv (i+1) v (by simpa using hi)
    exact⟨t,by rw[e]; congr 1; push_cast; exact q77⟩
 exact key _ _ _ (by simpa using g1) λi v hi=>g2 i v (by simpa using hi)
theorem St.ltN(S:St W.B f o s){a:Addr}{x:Obj}(h:f a=some x\/o a=some x):@LT.lt Nat _ a s.heap.objs.size:=S.lt h
noncomputable def numbered:Nat->List D->List D
 |_,[]=>[]
 |i,x::xs=> .tup [.int i,x]::numbered (i+1) xs
noncomputable def two(a:Addr)(x:Obj)(b:Addr)(y:Obj):Fz:=λc=>if c=a then some x else if c=b then some y else none
theorem qs(a:Addr)(x:Obj)(b:Addr)(y:Obj):two a x b y a=some x:=by simp[two]
theorem qt{a b:Addr}(x y:Obj)(h:b≠a):two a x b y b=some y:=by simp[two,h]
theorem Ez{a b c:Addr}{x y:Obj}(h:two a x b y c≠none):c=a\/c=b:=by
 unfold two at h; split at h
 ·exact .inl (by assumption)
 ·split at h
  ·exact .inr (by assumption)
  ·exact absurd rfl h
set_option tactic.hygienic true in
theorem EA{a b:Addr}{x y:Obj}{o:Fz}(h1:o a=some x)(h2:o b=some y):(two a x b y).le o:=λc z e=>by
 unfold two at e; split at e
 ·rename_i h; cases e; subst h; exact h1
 ·split at e
  ·rename_i h; cases e; subst h; exact h2
  ·exact nomatch e
noncomputable def j7(it:Addr)(i:Int)(old:Value):Obj:={cls:= .type "enumerate",dict:=aD,data:= .fields #[.none, .bool false, .ref it,rawInt i, .none,old],slots:=#[]}
set_option tactic.hygienic true in
theorem BI{elts:List Expr}{k:Nat}{pos:Pos}{l e it:Addr}{ol:Obj}{vs:List Value}{n:Nat}(ea:e≠it):∀{xs:List D} {i:Nat} {f:Fz} {ob:Obj} {old:Value},f l=some ol->ol.cls= .type "list" ->ol.data= .seq ⟨vs⟩ n->bQ f xs (vs.drop i)->
 ob.cls= .type "list_iterator" ->ob.data= .fields #[.ref l, .int i 0]->o9 W (.Tuple elts k pos) (numbered i xs) (two e (j7 it i old) it ob) f (.ref e)
 |[],i,f,ob,old,h1,h2,h3,h4,h5,h6=>λA f' o s Q E hh r l1 wl S h=>by
  have w1:=wl _ _ (qs e (j7 it i old) it ob)
  have w2:=wl _ _ (qt (j7 it i old) ob ea.symm)
  have he:=S.own _ _ w1
  have hit:=S.own _ _ w2
  refine wpAny_pyNext_enum_end hh he ⟨_,hit,h5,h6⟩ ⟨ol,S.sub _ _ (l1 _ _ h1),h2,n,h3⟩ (by simpa using drop_nil h4) λh' hx=>?_
  exact h _ _ (S.ext w2 hx) (o8.del (by exact sn (qt _ _ ea.symm)))
 |x::xs,i,f,ob,old,h1,h2,h3,h4,h5,h6=>λA f' o s Q E hh r l1 wl S h=>by
  obtain⟨v,rest,e0,hv,hr⟩:=h4
  obtain⟨e1,e2⟩:=drop_cons e0
  have w1:=wl _ _ (qs e (j7 it i old) it ob)
  have w2:=wl _ _ (qt (j7 it i old) ob ea.symm)
  refine wpAny_pyNext_enum_item (S.own _ _ w1) ⟨_,S.own _ _ w2,h5,h6⟩ ⟨ol,S.sub _ _ (l1 _ _ h1),h2,n,h3⟩ (x:=v) (by simpa using e1) ea λh' g1 g2 g3 g4 g5=>?_
  refine⟨_,rfl,wpAny_letOwnedTupleGo_enum g1 λzB k1 k2=>?_⟩
  obtain⟨ob',q1,q2,q3⟩:=g2
  have Xe:zB.get? it=some ob':=k2.extBut _ _ ea.symm q1
  have nT:s.heap.objs.size≠e:=λ(q:@Eq Nat _ _)=>by have:=S.ltN (.inr w1); exact lK 22041806798881 tt (ah q) this
  have QA:=k2.extBut _ _ nT g3
  have S1:St W.B f' (λc=>if c=e then some (j7 it ((i:Int)+1) v) else if c=it then some ob' else o c) {s with heap:=zB,toks:=s.toks+1}:=by
   refine S.upd (λc=>c=e\/c=it) (λb y hb hy=>k2.extBut _ _ (λq=>hb (.inl q)) (g5 b y (λq=>hb (.inl q)) (λq=>hb (.inr q)) hy)) (λb hb=>?_) λb y hy=>?_
   ·rcases hb with rfl|rfl
    ·rw[w1]; simp
    ·rw[w2]; simp
   ·split at hy
    ·rename_i hb; cases hy; subst hb; exact .inl ⟨.inl rfl,k1⟩
    ·split at hy
     ·rename_i hb; cases hy; subst hb; exact .inl ⟨.inr rfl,Xe⟩
     ·rename_i n1 n2; exact .inr ⟨λq=>q.elim n1 n2,hy⟩
  have fT:f' s.heap.objs.size=none:=S.gR
  have nTi:s.heap.objs.size≠it:=λ(q:@Eq Nat _ _)=>by have:=S.ltN (.inr w2); exact lK 22041806798881 tt (ah q) this
  have oT:(λc=>if c=e then some (j7 it ((i:Int)+1) v) else if c=it then some ob' else o c) s.heap.objs.size=none:=by
   show(if s.heap.objs.size=e then _ else _)=_
   rw[if_neg nT,if_neg nTi]; exact S.fc
  have S2:St W.B (f'.put s.heap.objs.size {cls:= .type "tuple",data:= .seq #[.int i s.toks,v]}) (λc=>if c=e then some (j7 it ((i:Int)+1) v) else if c=it then some ob' else o c) {s with heap:=zB,toks:=s.toks+1}:=by
   refine⟨λb y hy=>?_,S1.own,λb y hy=>?_,S1.base.trans (Fz.bP fT),S1.tab,λc hc=>⟨?_,(S1.fq c hc).2⟩,S1.os,S1.gens⟩
   ·by_cases hb:b=s.heap.objs.size
    ·subst hb; cases nM (Fz.aJ ..) hy; exact QA
    ·rw[Fz.az hb] at hy; exact S1.sub b y hy
   ·by_cases hb:b=s.heap.objs.size
    ·subst hb; exact oT
    ·rw[Fz.az hb] at hy; exact S1.apart b y hy
   ·rw[Fz.az (bg (S.ju hc))]; exact(S.fq c hc).1
  have lf:=Fz.bP (o:={cls:= .type "tuple",data:= .seq #[.int i s.toks,v]}) fT
  refine h _ _ _ _ (two e (j7 it ((i:Int)+1) v) it ob') lf S2 (λb y hy hw=>?_) (EA (if_pos rfl) ?_) (λa ha=>?_) ⟨_,_,[.int i s.toks,v],0,rfl,Fz.aJ ..,rfl,rfl,⟨_,_,rfl,⟨_,rfl⟩,_,_,rfl,hv.mono (l1.trans lf),rfl⟩⟩ ?_
  ·have n1:b≠e:=λq=>by subst q; rw[qs] at hw; exact nomatch hw
   have n2:b≠it:=λq=>by subst q; rw[qt _ _ ea.symm] at hw; exact nomatch hw
   show(if b=e then _ else _)=_
   rw[if_neg n1,if_neg n2]; exact hy
  ·show(if it=e then _ else _)=_
   rw[if_neg ea.symm,if_pos rfl]
  ·rcases Ez ha with rfl|rfl
   ·left; rw[qs]; simp
   ·left; rw[qt _ _ ea.symm]; simp
  ·have:=BI (elts:=elts) (k:=k) (pos:=pos) (e:=e) (it:=it) ea (i:=i+1) (f:=f'.put s.heap.objs.size {cls:= .type "tuple",data:= .seq #[.int i s.toks,v]}) (ob:=ob') (old:=v) ((l1.trans lf) _ _ h1) h2 h3 (e2▸hr.mono (l1.trans lf)) q2 q3
   exact this
set_option tactic.hygienic true in
theorem Aa.enum{elts:List Expr}{k:Nat}{tp:Pos}{func e:Expr}{pos:Pos}{ds:List D}(hf:eg W C ρ func (.raw (.type "enumerate")))(he:eg W C ρ e (.list ds))(pf:aI [e] C.env=[(false,eval e C.env)])
 (hc:eval (.Call func [e] [] pos) C.env=(do fS pos (<-eval func C.env) [] (backTo pos (aI [e] C.env)) (gr pos (dI [] C.env)))):Aa W C ρ (.Tuple elts k tp) (.Call func [e] [] pos) (numbered 0 ds):=λf o s S H Q E h=>by
 rw[hc]
 refine aa (hf f o s S H _ _ λv f1 s1 l1 S1 d1=>?_)
 obtain rfl:v= .type "enumerate":=d1
 have jm:=cn pos [e] C.env (by rw[pf]; rfl)
 refine d6 (P:=λh=>∀a x,W.B.f a=some x->h.get? a=some x) (by rw[jm]; rfl) Kept.type (dm jm ?_)
 rw[pf]
 refine dP (he f1 o s1 S1 (H.mono l1 (.refl o)) _ _ λv f2 s2 l2 S2 d2=>d9 ⟨S2.bT,?_⟩)
 obtain⟨a,ob,vs,m,rfl,e1,e2,e3,e4⟩:=d2
 refine call_enumerate_list (items:=⟨vs⟩) ⟨ob,S2.sub _ _ e1,e2.1,m,e3⟩ λh' g1 g2 g3 g4=>wpAny_pyIter_enum g1 ?_
 obtain⟨oi,q1,q2,q3⟩:=g2
 have new:∀c:Addr,@LE.le Nat _ s2.heap.objs.size c->o c=none:=λc hc=>by
  refine none_of λy q=>?_
  have:=S2.ltN (.inr q); (first|lia|omega)
 have newf:∀c:Addr,@LE.le Nat _ s2.heap.objs.size c->f2 c=none:=λc hc=>by
  refine none_of λy q=>?_
  have:=S2.ltN (.inl q); (first|lia|omega)
 have tl:∀c,W.B.side c->@LT.lt Nat _ c s2.heap.objs.size:=λc hc=>S2.ju hc
 let o':Fz:=λc=>if c=s2.heap.objs.size+1 then some (j7 s2.heap.objs.size 0 .none) else if c=s2.heap.objs.size then some oi else o c
 have S3:St W.B f2 o' {s2 with heap:=h'}:=by
  have S0:=S2.grow (tk:=s2.toks) g4
  refine⟨S0.sub,λb y hy=>?_,λb y hy=>?_,S0.base,S0.tab,λc hc=>⟨(S0.fq c hc).1,?_⟩,S0.os,S0.gens⟩
  ·dsimp only[o'] at hy
   split at hy
   ·rename_i hb; cases hy; subst hb; exact g1
   ·split at hy
    ·rename_i hb; cases hy; subst hb; exact q1
    ·exact S0.own b y hy
  ·have:=S2.ltN (.inl hy)
   dsimp only[o']
   rw[if_neg (by show ¬(@Eq Nat b _); intro q; exact lK 0x50300843404021 tt this (ah q.symm)),if_neg (by show ¬(@Eq Nat b _); intro q; exact lK 1134999650337 tt this (ah q.symm))]; exact S0.apart b y hy
  ·dsimp only[o']
   have:=tl c hc
   rw[if_neg (by show ¬(@Eq Nat c _); intro q; exact lK 0x50300843404021 tt this (ah q.symm)),if_neg (by show ¬(@Eq Nat c _); intro q; exact lK 1134999650337 tt this (ah q.symm))]; exact(S0.fq c hc).2
 have lo:o.le o':=λb y hy=>by
  have:=S2.ltN (.inr hy)
  dsimp only[o']
  rw[if_neg (by show ¬(@Eq Nat b _); intro q; exact lK 0x50300843404021 tt this (ah q.symm)),if_neg (by show ¬(@Eq Nat b _); intro q; exact lK 1134999650337 tt this (ah q.symm))]; exact hy
 have ea:s2.heap.objs.size+1≠s2.heap.objs.size:=JB _
 have Xf:(two (s2.heap.objs.size+1) (j7 s2.heap.objs.size 0 .none) s2.heap.objs.size oi).le o':=EA (if_pos rfl) (by dsimp only[o']; rw[if_neg ea.symm,if_pos rfl])
 refine h _ (two (s2.heap.objs.size+1) (j7 s2.heap.objs.size 0 .none) s2.heap.objs.size oi) f2 o' _ (l1.trans l2) S3 lo Xf (λa ha=>?_) (BI ea (i:=0) e1 e2.1 e3 e4 q2 q3) λA f3 o3 s3 Q E l3 wl S h=>wpAny_pyIter_enum (S.own _ _ (wl _ _ (qs ..))) h
 rcases Ez ha with rfl|rfl
 ·exact new _ (Nat.le_succ _)
 ·exact new _ (bL _)
noncomputable def CT(w:Fz)(h:Heap):Fz:=λa=>if w a=none then none else h.get? a
theorem BJ{w:Fz}{h:Heap}{a:Addr}{x:Obj}(e:CT w h a=some x):w a≠none/\h.get? a=some x:=by
 unfold CT at e; split at e
 ·exact nomatch e
 ·exact⟨by assumption,e⟩
noncomputable def over(w:Fz)(h:Heap)(o:Fz):Fz:=λa=>if w a=none then o a else h.get? a
theorem vV{elts:List Expr}{k:Nat}{pos:Pos}{I:Addr}{fp wr:List Addr}{n:Nat}{Pt:Nat->Array Value->Prop}{Sg:Nat->Heap->Prop}{Mid:Nat->Addr->Heap->Prop}(Wk:∀A:Around,A.handled=none->WalksT W.prog W.w A I fp wr n Pt Sg Mid)(ZN:∀i h,Sg i h->∀b∈fp,∃x,h.get? b=some x)(ds:Nat->List D):
 ∀(m i:Nat) {w f:Fz},i+m=n->(∀b∈fp,w b≠none\/f b≠none)->(∀b∈wr,w b≠none)->(∀h:Heap,(∀a x,w a=some x->h.get? a=some x)->(∀a x,f a=some x->h.get? a=some x)->Sg i h)->(∀j vals,Pt j ⟨vals⟩->bQ f (ds j) vals)->
  o9 W (.Tuple elts k pos) ((bB i m).map λj=> .tup (ds j)) w f (.ref I)
 | 0,i,w,f,hn,Xg,N9,hS,hP=>λA f' o s Q E hh r l1 wl S h=>by
  obtain rfl:i=n:=hn
  have st:=hS s.heap (λa x e=>S.own _ _ (wl _ _ e)) λa x e=>S.sub _ _ (l1 _ _ e)
  refine(Wk A hh).done s _ _ st λh' tk hk=>?_
  let o':Fz:=λa=>if w a=none then o a else none
  have ow:∀a,w a≠none->o a≠none:=λa ha=>by
   obtain⟨x,e⟩:=cX.mp ha; rw[wl _ _ e]; simp
  refine h o' _ (S.upd (λa=>w a≠none) (λb x hb e=>hk b x (λhm=>hb (N9 b hm)) e) ow λb x e=>?_) λa y e hw=>?_
  ·dsimp only[o'] at e; split at e
   ·exact .inr ⟨by simpa,e⟩
   ·exact nomatch e
  ·dsimp only[o']; rw[if_pos hw]; exact e
 |m+1,i,w,f,hn,Xg,N9,hS,hP=>λA f' o s Q E hh r l1 wl S h=>by
  have st:=hS s.heap (λa x e=>S.own _ _ (wl _ _ e)) λa x e=>S.sub _ _ (l1 _ _ e)
  have ow:∀a,w a≠none->o a≠none:=λa ha=>by
   obtain⟨x,e⟩:=cX.mp ha; rw[wl _ _ e]; simp
  refine(Wk A hh).item i s _ _ (by exact cG 0x2a060080422a0201 tt (ah hn)) st λT vals h1 ZO hPt hT Xh Oa u6=>⟨_,rfl,?_⟩
  refine(Wk A hh).go elts k pos i T _ _ _ Oa λh2 ZP DQ=>?_
  obtain⟨vals⟩:=vals
  have hd:=hP i vals hPt
  obtain⟨ob,q1,q2,c,q3⟩:=Xh
  have Xe:h2.get? T=some ob:=DQ T ob ((Wk A hh).apart i T _ Oa) q1
  have hT':@LE.le Nat _ s.heap.objs.size T:=hT
  have hk:∀b x,b∉wr->s.heap.get? b=some x->h2.get? b=some x:=λb x hb e=>DQ b x hb (u6 b x hb e)
  have fT:f' T=none:=by
   refine none_of λy q=>?_
   have:=S.ltN (.inl q); (first|lia|omega)
  have oT:o T=none:=by
   refine none_of λy q=>?_
   have:=S.ltN (.inr q); (first|lia|omega)
  have wT:w T=none:=by
   refine none_of λy q=>?_
   rw[wl _ _ q] at oT; cases oT
  have tl:∀c,W.B.side c->@LT.lt Nat _ c s.heap.objs.size:=λc hc=>S.ju hc
  have S1:St W.B f' (over w h2 o) {s with heap:=h2,toks:=ZO}:=by
   refine S.upd (λa=>w a≠none) (λb x hb e=>hk b x (λhm=>hb (N9 b hm)) e) ow λb x e=>?_
   unfold over at e; split at e
   ·exact .inr ⟨by simpa,e⟩
   ·exact .inl ⟨by assumption,e⟩
  have oT':over w h2 o T=none:=by unfold over; rw[if_pos wT]; exact oT
  have S2:St W.B (f'.put T ob) (over w h2 o) {s with heap:=h2,toks:=ZO}:=by
   refine⟨λb y hy=>?_,S1.own,λb y hy=>?_,S1.base.trans (Fz.bP fT),S1.tab,λc hc=>⟨?_,(S1.fq c hc).2⟩,S1.os,S1.gens⟩
   ·by_cases hb:b=T
    ·subst hb; cases nM (Fz.aJ ..) hy; exact Xe
    ·rw[Fz.az hb] at hy; exact S1.sub b y hy
   ·by_cases hb:b=T
    ·subst hb; exact oT'
    ·rw[Fz.az hb] at hy; exact S1.apart b y hy
   ·have tl':=tl c hc
    rw[Fz.az (λq=>by have q':@Eq Nat c T:=q; exact zX 0x41084141402108021 tt hT tl' (ah q'.symm))]; exact(S.fq c hc).1
  have lf:=Fz.bP (o:=ob) fT
  refine h _ _ _ _ (CT w h2) lf S2 (λa y e hw=>?_) (λa x e=>?_) (λa ha=>?_) ⟨T,ob,vals,c,rfl,Fz.aJ ..,q2,q3,hd.mono (l1.trans lf)⟩ ?_
  ·unfold over; rw[if_pos hw]; exact e
  ·obtain⟨g1,g2⟩:=BJ e; unfold over; rw[if_neg g1]; exact g2
  ·left
   obtain⟨x,e⟩:=cX.mp ha
   exact(BJ e).1
  ·have keep:∀b,w b≠none->∃x,h2.get? b=some x:=λb hb=>by
    by_cases hm:b∈fp
    ·exact ZN _ _ ZP b hm
    ·obtain⟨x,e⟩:=cX.mp (ow b hb)
     exact⟨x,hk b x (λq=>hm ((Wk A hh).sub b q)) (S.own _ _ e)⟩
   refine vV Wk ZN ds m (i+1) (by exact Zp hn) (λb hb=>?_) (λb hb=>?_) (λh3 hw3 hf3=>?_) (λj vals hj=>(hP j vals hj).mono (l1.trans lf))
   ·rcases Xg b hb with q|q
    ·left; obtain⟨x,e⟩:=keep b q; unfold CT; rw[if_neg q,e]; simp
    ·right; obtain⟨x,e⟩:=cX.mp q; rw[(l1.trans lf) _ _ e]; simp
   ·obtain⟨x,e⟩:=keep b (N9 b hb); unfold CT; rw[if_neg (N9 b hb),e]; simp
   ·refine(Wk A hh).frame (i+1) h2 h3 ZP λb hb x e=>?_
    rcases Xg b hb with q|q
    ·exact hw3 b x (by unfold CT; rw[if_neg q]; exact e)
    ·obtain⟨y,e'⟩:=cX.mp q
     have:=S2.sub b y ((l1.trans lf) _ _ e')
     have hx:=this.symm.trans e
     injection hx with hx
     subst hx
     exact hf3 b _ ((l1.trans lf) _ _ e')
noncomputable def oy:List D->List D->List D
 |x::xs,y::ys=> .tup [x,y]::oy xs ys
 |_,_=>[]
theorem yz:∀(xs ys:List D),oy xs ys=(aB (min xs.length ys.length)).map λj=> .tup [xs.getD j .none,ys.getD j .none]
 |[],_=>by simp[oy]
 |_::_,[]=>by simp[oy]
 |x::xs,y::ys=>by
  rw[oy,yz xs ys,aQ,aQ,Nat.add_min_add_right,List.range_succ_eq_map,aO,aM]
  rfl
set_option tactic.hygienic true in
theorem Aa.zip{elts:List Expr}{k:Nat}{tp:Pos}{func e1 e2:Expr}{pos:Pos}{xs ys:List D}(hf:eg W C ρ func (.raw (.type "zip")))(he:ny W C ρ [e1,e2] [.list xs, .list ys])(hp:(aI [e1,e2] C.env).all (λx=>!x.1)=true)
 (hc:eval (.Call func [e1,e2] [] pos) C.env=(do fS pos (<-eval func C.env) [] (backTo pos (aI [e1,e2] C.env)) (gr pos (dI [] C.env)))):Aa W C ρ (.Tuple elts k tp) (.Call func [e1,e2] [] pos) (oy xs ys):=λf o s S H Q E h=>by
 rw[hc]
 refine aa (hf f o s S H _ _ λv f1 s1 l1 S1 d1=>?_)
 obtain rfl:v= .type "zip":=d1
 have jm:=cn pos [e1,e2] C.env hp
 refine d6 (P:=λh=>∀a x,W.B.f a=some x->h.get? a=some x) (by rw[jm]; rfl) Kept.type (dm jm ?_)
 refine he pos f1 o s1 S1 (H.mono l1 (.refl o)) _ _ λvs f2 s2 l2 S2 d2=>⟨S2.bT,?_⟩
 obtain⟨v1,r1,rfl,⟨a,ob,ZQ,m,rfl,g1,g2,g3,g4⟩,v2,r2,rfl,⟨a',ob',ZR,m',rfl,HL,ZS,QA,ZT⟩,rfl⟩:=d2
 have n1:=g4.length
 have n2:=ZT.length
 have NV:s2.heap.IsList a ⟨ZQ⟩:=⟨ob,S2.sub _ _ g1,g2.1,m,g3⟩
 have M1:s2.heap.IsList a' ⟨ZR⟩:=⟨ob',S2.sub _ _ HL,ZS.1,m',QA⟩
 refine call_zip_2 NV M1 λh' z1 z2 z3 z4 z5 z6 z7=>xD z1 ?_
 have la:@LT.lt Nat _ a s2.heap.objs.size:=S2.lt (.inl g1)
 have Xi:@LT.lt Nat _ a' s2.heap.objs.size:=S2.lt (.inl HL)
 have tl:∀c,W.B.side c->@LT.lt Nat _ c s2.heap.objs.size:=λc hc=>S2.ju hc
 let w:Fz:=λc=>if @LE.le Nat _ s2.heap.objs.size c/\@LT.lt Nat _ c (s2.heap.objs.size+5) then h'.get? c else none
 let o':Fz:=λc=>if @LE.le Nat _ s2.heap.objs.size c/\@LT.lt Nat _ c (s2.heap.objs.size+5) then h'.get? c else o c
 have S3:St W.B f2 o' {s2 with heap:=h'}:=by
  have S0:=S2.grow (tk:=s2.toks) z7
  refine⟨S0.sub,λb y hy=>?_,λb y hy=>?_,S0.base,S0.tab,λc hc=>⟨(S0.fq c hc).1,?_⟩,S0.os,S0.gens⟩
  ·dsimp only[o'] at hy; split at hy
   ·exact hy
   ·exact S0.own b y hy
  ·have:=S2.ltN (.inl hy)
   dsimp only[o']; rw[if_neg (by exact Rh this)]; exact S0.apart b y hy
  ·have:=tl c hc
   dsimp only[o']; rw[if_neg (by exact Rh this)]; exact(S0.fq c hc).2
 have lo:o.le o':=λb y hy=>by
  have:=S2.ltN (.inr hy)
  dsimp only[o']; rw[if_neg (by exact Rh this)]; exact hy
 have Xf:w.le o':=λb y hy=>by
  dsimp only[w] at hy; split at hy
  ·rename_i hb; dsimp only[o']; rw[if_pos hb]; exact hy
  ·exact nomatch hy
 have Al:∀(c:Addr) x,@LE.le Nat _ s2.heap.objs.size c->@LT.lt Nat _ c (s2.heap.objs.size+5)->h'.get? c=some x->w c=some x:=λc x q1 q2 e=>by
  dsimp only[w]; rw[if_pos ⟨q1,q2⟩]; exact e
 obtain⟨oi1,p1,p2,p3⟩:=z4
 obtain⟨oi2,r1,r2,r3⟩:=z5
 have DD:ZipApart (s2.heap.objs.size+4) (s2.heap.objs.size+2) (s2.heap.objs.size+3) s2.heap.objs.size (s2.heap.objs.size+1) a a':=by
  constructor<;>(intro q; have q':@Eq Nat _ _:=q; (first|exact q85 q'|exact q86 q'|exact q87 q'|exact q88 q'|exact q89 q'|exact q90 q'|exact q91 q'|exact Zq la q'|exact Zo la q'|exact Zn la q'|exact Zq Xi q'|exact Zo Xi q'|exact Zn Xi q'|lia|omega))
 have key:=vV (W:=W) (elts:=elts) (k:=k) (pos:=tp) (λA hh=>WalksT.zip2 (prog:=W.prog) (w:=W.w) (A:=A) hh _ _ _ _ _ a a' DD ⟨ZQ⟩ ⟨ZR⟩) (λi h hs b hb=>by
  obtain⟨q1,q2,⟨_,_,q3⟩,⟨_,q4,_⟩,⟨_,q5,_⟩,⟨_,q6,_⟩,⟨_,q7,_⟩⟩:=hs
  simp only[au,bo,or_false] at hb
  rcases hb with rfl|rfl|rfl|rfl|rfl|rfl|rfl
  ·exact⟨_,q1⟩
  ·exact⟨_,q2⟩
  ·exact⟨_,q3⟩
  ·exact⟨_,q4⟩
  ·exact⟨_,q5⟩
  ·exact⟨_,q6⟩
  ·exact⟨_,q7⟩) (λj=>[xs.getD j .none,ys.getD j .none]) (min xs.length ys.length) 0 (w:=w) (f:=f2) (by simp[n1,n2]) (λb hb=>?_) (λb hb=>?_) (λh3 q1 q2=>?_) (λj vals hj=>?_)
 ·rw[<-km,<-yz] at key
  refine h _ w f2 o' _ (l1.trans l2) S3 lo Xf (λc hc=>?_) key λA f3 o3 s3 Q E l3 wl S h=>xD (S.own _ _ (wl _ _ (Al _ _ (gy _ _) (uT _) z1))) h
  dsimp only[w] at hc
  split at hc
  ·rename_i hb
   refine none_of λy q=>?_
   have:=S2.ltN (.inr q); (first|lia|omega)
  ·exact absurd rfl hc
 ·simp only[au,bo,or_false] at hb
  rcases hb with rfl|rfl|rfl|rfl|rfl|rfl|rfl
  ·left; rw[Al _ _ (by exact aN 24133633 tt) (by exact aN 26406154158593 tt) z1]; simp
  ·left; rw[Al _ _ (by exact aN 22036481 tt) (by exact aN 26406152061441 tt) z2]; simp
  ·left; rw[Al _ _ (by exact aN 23085057 tt) (by exact aN 26406153110017 tt) z3]; simp
  ·left; rw[Al _ _ (bL _) (by exact aN 25787236865 tt) p1]; simp
  ·left; rw[Al _ _ (by exact aN 20987905 tt) (by exact aN 26406151012865 tt) r1]; simp
  ·right; rw[g1]; simp
  ·right; rw[HL]; simp
 ·simp only[au,bo,or_false] at hb
  rcases hb with rfl|rfl|rfl|rfl
  ·rw[Al _ _ (by(first|lia|omega)) (by(first|lia|omega)) z1]; simp
  ·rw[Al _ _ (by(first|lia|omega)) (by(first|lia|omega)) z3]; simp
  ·rw[Al _ _ (bL _) (by(first|lia|omega)) p1]; simp
  ·rw[Al _ _ (by(first|lia|omega)) (by(first|lia|omega)) r1]; simp
 ·exact⟨q1 _ _ (Al _ _ (by(first|lia|omega)) (by(first|lia|omega)) z1),q1 _ _ (Al _ _ (by(first|lia|omega)) (by(first|lia|omega)) z2),⟨_,_,q1 _ _ (Al _ _ (by(first|lia|omega)) (by(first|lia|omega)) z3)⟩,⟨_,q1 _ _ (Al _ _ (bL _) (by(first|lia|omega)) p1),p2,p3⟩,⟨_,q1 _ _ (Al _ _ (by(first|lia|omega)) (by(first|lia|omega)) r1),r2,r3⟩,
   ⟨ob,q2 _ _ g1,g2.1,m,g3⟩,⟨ob',q2 _ _ HL,ZS.1,m',QA⟩⟩
 ·obtain⟨x,y,hx,hy,e⟩:=hj
  obtain⟨d,e1,d1⟩:=g4.get' (i:=j) (by simpa using hx)
  obtain⟨d',e2,d2⟩:=ZT.get' (i:=j) (by simpa using hy)
  injection e with e
  subst e
  rw[ak,ak,e1,e2]
  exact .cons d1 (.cons d2 .nil)
theorem iu{x:Str}{name:Str}{id:String}(slot:Slot "str" name id)(Xj:typeOf (.builtin id)=pure (.type "method_descriptor")):Meth W (.str x) name (.builtin id):=λA f o s v pl S hv Q E h=>by
 obtain⟨t,rfl⟩:=hv
 exact nS (m8 _ _ _) PySem.F.plainAttrs_str slot Xj (λa e=>by exact nomatch e) h
theorem vW{ds:List D}{name:Str}{id:String}(slot:Slot "list" name id)(Xj:typeOf (.builtin id)=pure (.type "method_descriptor")):Meth W (.list ds) name (.builtin id):=λA f o s v pl S hv Q E h=>by
 obtain⟨a,ob,vs,m,rfl,e1,e2,e3,e4⟩:=hv
 exact nS ⟨ob,S.sub _ _ e1,e2.1⟩ PySem.F.plainAttrs_list slot Xj (λa e=>by cases e; exact⟨ob,S.sub _ _ e1,e2.2.1⟩) h
theorem vX:∀{ts:List (List Nat)} {vs:List Value},bQ f (ts.map λt=>D.str (aS t)) vs->∃l:List (Str×Tok),vs=pn l/\l.map (·.1)=ts.map aS
 |[],_,e=>⟨[],by rw[show _=[] from e]; rfl,rfl⟩
 |t::ts,_,⟨v,r,e,⟨u,hu⟩,h⟩=>by
  obtain⟨l,h1,h2⟩:=vX h
  exact⟨(aS t,u)::l,by rw[e,hu,h1]; rfl,by rw[aO,aO,h2]⟩
theorem vY:∀{l:List (Str×Tok)} {ts:List (List Nat)},l.map (·.1)=ts.map aS->bQ f (ts.map λt=>D.str (aS t)) (pn l)
 |[],[],_=>rfl
 |[],_::_,e=>by exact nomatch e
 |_::_,[],e=>by exact nomatch e
 |(x,t)::l,y::ts,e=>by
  rw[aO,aO] at e
  injection e with e1 e2
  exact⟨_,_,rfl,⟨t,by rw[<-e1]⟩,vY e2⟩
noncomputable def cW(sep:List Nat):List (List Nat)->List Nat
 |[]=>[]
 |[x]=>x
 |x::y::r=>x++sep++cW sep (y::r)
theorem sG(sep:List Nat):∀ts:List (List Nat),Str.join (aS sep) (ts.map aS)=aS (cW sep ts)
 |[]=>rfl
 |[x]=>rfl
 |x::y::r=>by
  show aS x++aS sep++Str.join (aS sep) ((y::r).map aS)=_
  rw[sG sep (y::r),sF,sF]; rfl
theorem EB{sep:List Nat}:∀{ts:List (List Nat)},(∀t∈ts,t.length<=1000)->ts.length<=1000->sep.length<=10->JoinOk (aS sep) (ts.map aS)=true:=by
 intro ts h1 h2 h3
 unfold JoinOk
 rw[Bool.not_eq_true',StrLaws.joinTotal]
 have key:∀ts:List (List Nat),(∀t∈ts,t.length<=1000)->((ts.map aS).map (·.length)).sum<=1000*ts.length:=by
  intro ts
  induction ts with
  |nil=>intro _; simp
  |cons t ts ih=>
   intro h
   have a:=ih λt ht=>h t (.tail _ ht)
   have b:=h t (.head _)
   simp only[aO,ki,aQ]
   rw[show(aS t).length=t.length from rfl]
   exact cG 0x7ec48410847ec44010d0301fb1100a01 tt a b
 have a:=key ts h1
 unfold GS
 rw[decide_eq_false_iff_not,bu]
 have b:(ts.map aS).length*(aS sep).length<=1000*10:=qa (by rw[ai]; exact h2) h3
 have c:1000*ts.length<=1000*1000:=iF _ h2
 exact Ri h2 a b
theorem qu{A:Around}{sep:List Nat}{ts:List (List Nat)}(h1:∀t∈ts,t.length<=1000)(h2:ts.length<=1000)(h3:sep.length<=10):mf W A (.builtin "str.join") [.str (aS sep), .list (ts.map λt=> .str (aS t))] (.str (aS (cW sep ts))):=λf o s vs S hd Q E h=>by
 obtain⟨v,r,rfl,⟨t,rfl⟩,v2,r2,rfl,⟨a,ob,vs,m,rfl,e1,e2,e3,e4⟩,rfl⟩:=hd
 obtain⟨l,rfl,hl⟩:=vX e4
 refine SC.join (l:=l) (texts:=ts.map aS) ⟨ob,S.sub _ _ e1,e2.1,m,e3⟩ hl (EB h1 h2 h3) λt' k=>h _ f _ (.refl f) (S.tok _) ⟨t',?_⟩
 show Value.str (glued _ _) t'=_
 rw[xY,sG]
noncomputable def lO(a:Int):List Nat:=(J (toString a)).cps.toList
theorem tO{A:Around}{a:Int}(ha:a.natAbs<1000000):mf W A (.type "str") [.int a] (.str (aS (lO a))):=λf o s vs S hd Q E h=>by
 obtain⟨v,r,rfl,⟨t,rfl⟩,rfl⟩:=hd
 refine P.str_of_int ?_ (h _ f _ (.refl f) (S.tok _) ⟨_,rfl⟩)
 by_cases h0:a.natAbs=0
 ·rw[h0]; decide
 ·have:=(Nat.log2_lt (n:=a.natAbs) (k:=1000) h0).mpr (Nat.lt_trans ha (by decide+kernel)); exact aN 0x3f6254040213e212a0201 tt this
theorem BK{n:Nat}(h:n<=1000):GS n=false:=by
 unfold GS; rw[decide_eq_false_iff_not,bu]; exact Rj h
theorem CU{A:Around}{x:List Nat}(hx:x.all (·<128)=true)(hl:x.length<=1000):mf W A (.builtin "str.lower") [.str (aS x)] (.str (aS (x.map lo1))):=λf o s vs S hd Q E h=>by
 obtain⟨v,r,rfl,⟨t,rfl⟩,rfl⟩:=hd
 have e:Txt.lower (aS x)=aS (x.map lo1):=by
  rw[lower_ascii (x:=aS x) λc hc=>by
   have Ob:c∈x:=hc
   have:=aT.mp hx c Ob; simpa using this]
  unfold aS; simp
 refine SC.lower (by rw[e,eT,ai]; exact BK hl) ?_
 rw[e]; exact h _ f _ (.refl f) (S.tok _) ⟨_,rfl⟩
theorem CV{A:Around}{x:List Nat}(hx:x.all (·<128)=true)(hl:x.length<=1000):mf W A (.builtin "str.upper") [.str (aS x)] (.str (aS (x.map up1))):=λf o s vs S hd Q E h=>by
 obtain⟨v,r,rfl,⟨t,rfl⟩,rfl⟩:=hd
 have e:Txt.upper (aS x)=aS (x.map up1):=by
  rw[upper_ascii (x:=aS x) λc hc=>by
   have Ob:c∈x:=hc
   have:=aT.mp hx c Ob; simpa using this]
  unfold aS; simp
 refine SC.upper (by rw[e,eT,ai]; exact BK hl) ?_
 rw[e]; exact h _ f _ (.refl f) (S.tok _) ⟨_,rfl⟩
theorem EC{A:Around}{x y:List Nat}{i:Int}(e:Txt.find (aS x) (aS y)=i):mf W A (.builtin "str.find") [.str (aS x), .str (aS y)] (.int i):=λf o s vs S hd Q E h=>by
 obtain⟨v,r,rfl,⟨t,rfl⟩,v2,r2,rfl,⟨u,rfl⟩,rfl⟩:=hd
 refine SC.find ?_
 rw[e]; exact h _ f _ (.refl f) (S.tok _) ⟨_,rfl⟩
noncomputable def dX(c:Nat):List Nat->List (List Nat)
 |[]=>[[]]
 |x::r=>if x=c then[]::dX c r else match dX c r with
  |[]=>[[x]]
  |p::ps=>(x::p)::ps
theorem tP(c:Nat):∀l,dX c l≠[]
 |[]=>by simp[dX]
 |x::r=>by
  unfold dX; split
  ·simp
  ·split<;>simp
theorem tQ(c:Nat):∀(l:List Nat) (ps:List (List Nat)),ps≠[]->(∀p∈ps,c∉p)->cW [c] ps=l->ps=dX c l
 |[],ps,h0,h1,h2=>by
  match ps with
  |[]=>exact absurd rfl h0
  |[p]=>have:p=[]:=h2; rw[this]; rfl
  |p::q::r=>simp[cW] at h2
 |x::l,ps,h0,h1,h2=>by
  match ps with
  |[]=>exact absurd rfl h0
  |[]::[]=>simp[cW] at h2
  |[]::q::r=>
   have e:c::cW [c] (q::r)=x::l:=by simpa [cW] using h2
   injection e with e1 e2
   have ih:=tQ c l (q::r) (by exact nofun) (λp hp=>h1 p (.tail _ hp)) e2
   unfold dX
   rw[if_pos e1.symm,<-ih]
  |(y::p)::r=>
   have hy:y=x/\cW [c] (p::r)=l:=by
    cases r with
    |nil=>simp[cW] at h2; exact h2
    |cons q r=>simp[cW] at h2; exact⟨h2.1,by simpa [cW] using h2.2⟩
   obtain⟨rfl,e2⟩:=hy
   have hyc:y≠c:=λe=>h1 _ (.head _) (e▸ .head _)
   have ih:=tQ c l (p::r) (by exact nofun) (λq hq=>by
    rcases au.mp hq with rfl|hq
    ·exact λh=>h1 _ (.head _) (.tail _ h)
    ·exact h1 q (.tail _ hq)) e2
   unfold dX
   rw[if_neg hyc,<-ih]
theorem ED(l:List Nat)(c:Nat):qb (aS l) (aS [c])=(dX c l).map aS:=by
 have h1:=StrLaws.join_split (aS l) (aS [c])
 have h2:=StrLaws.split_free (aS l) c
 have h3:=split_pos (aS l) (aS [c])
 obtain⟨ps,ng⟩:∃ps:List (List Nat),qb (aS l) (aS [c])=ps.map aS:=⟨(qb (aS l) (aS [c])).map λx=>x.cps.toList,by
  rw[aM]
  symm
  apply List.map_id''
  intro x; rfl⟩
 have zB:∀p∈(qb (aS l) (aS [c])),c∉p.cps.toList:=h2
 rw[ng] at h1 zB h3 ⊢
 rw[sG] at h1
 rw[tQ c l ps (λe=>by rw[e] at h3; simp at h3) (λp hp=>zB (aS p) (DG hp)) (qq h1)]
theorem CW{A:Around}{x:List Nat}{c:Nat}(hl:x.length<=1000):mf W A (.builtin "str.split") [.str (aS x), .str (aS [c])] (.list ((dX c x).map λt=> .str (aS t))):=λf o s vs S hd Q E h=>by
 obtain⟨v,r,rfl,⟨t,rfl⟩,v2,r2,rfl,⟨u,rfl⟩,rfl⟩:=hd
 have key:∀(l:List (Str×Tok)) tk,l.map (·.1)=qb (aS x) (aS [c])->Q (.ref s.heap.objs.size) {s with toks:=tk,heap:=s.heap.push {cls:= .type "list",data:= .seq (pn l).toArray}}:=λl tk hl=>by
  rw[ED] at hl
  exact h _ _ _ (Fz.bP S.gR) ((S.jv _).tok _) ⟨_,_,pn l,0,rfl,Fz.aJ ..,⟨rfl,rfl,rfl⟩,rfl,vY hl⟩
 have hlen:=split_le (aS x) (aS [c])
 have hy:((aS [c]).length==0)=false:=rfl
 have hx:(aS x).length<=ll:=by rw[bu,eT]; exact aN 0x3f6240084308421084801 tt hl
 cases h1:(decide ((aS x).length<(aS [c]).length)||decide (strKind (aS x)<strKind (aS [c])))
 ·cases hf:(occurrences (aS x) (aS [c]) 0 (aS x).length ((aS x).length+1)).isEmpty
  ·have e:qb (aS x) (aS [c])=partsBetween (aS x) (occurrences (aS x) (aS [c]) 0 (aS x).length ((aS x).length+1)) (aS [c]).length:=
    (if_neg (ne_true_of_eq_false h1)).trans (if_neg (ne_true_of_eq_false hf))
   refine nc i6 (m8 _ _ _) mE (lZ _ _) (meets_str_split_sep (aS x) (aS [c]) t u h1 hy hf hx (by rw[<-e,bu]; rw[eT] at hlen; exact aX 0x541008423f6240084308421084821 tt hl hlen)) ?_
   rw[strsFrom_eq]
   exact key _ _ ((numbered_texts _ _).trans e.symm)
  ·refine nc i6 (m8 _ _ _) mE (lZ _ _) (meets_str_split_not_found (aS x) (aS [c]) t u h1 hy hf) ?_
   exact key [(aS x,t)] s.toks ((if_neg (ne_true_of_eq_false h1)).trans (if_pos hf)).symm
 ·refine nc i6 (m8 _ _ _) mE (lZ _ _) (meets_str_split_cannot_occur (aS x) (aS [c]) t u h1) ?_
  exact key [(aS x,t)] s.toks (if_pos h1).symm
open Classical in
theorem vZ{A:Around}{n:Nat}{x:D}{ds:List D}{j:Nat}(hl:∀d∈ds,gg n d x)(hj:ds[j]? =some x)(G8:∀m,m<j->ds[m]?≠some x)(hu:A.units+n<8000)(hs:j<1000000):mf W A (.builtin "list.index") [.list ds,x] (.int j):=λf o s vs S hd Q E h=>by
 obtain⟨v,r,rfl,⟨a,ob,vs,m,rfl,e1,e2,e3,e4⟩,v2,r2,rfl,hx,rfl⟩:=hd
 obtain⟨c,d,dt,sl⟩:=ob
 obtain⟨h1,h2,h3⟩:=e2
 dsimp only at h1 h2 h3 e3
 subst h1 h2 h3 e3
 obtain⟨k1,k2⟩:=among (A:=A) hl e4 hx S (by exact aX 0x7f484a810420108a72bca8104201 tt hu)
 have len:=e4.length
 obtain⟨vj,g1,g2⟩:=e4.get hj
 have Lh:=(cI.mp g1)
 refine nc mD ⟨_,S.sub _ _ e1,rfl⟩ PySem.F.entry_list_index (PySem.F.args_list_index_2 _ _)
  (list_indexAt a ⟨vs⟩ m aD #[] v2 (λy=>decide (Den f x y)) j Lh.1 (by exact Rk hs) ?_ λi hi rr=>?_) ⟨S.sub _ _ e1,k1,h _ f _ (.refl f) (S.tok _) ⟨_,rfl⟩⟩
 ·rw[decide_eq_true_iff]; show Den f x (vs[j]'Lh.1); rw[Lh.2]; exact g2
 ·rw[decide_eq_false_iff_not]; intro q
  have vT:i<vs.length:=hi
  obtain⟨di,p1,p2⟩:=e4.get' (aj vT)
  have:=(hl di (bI p1)).inj p2 q
  exact G8 i rr (this▸p1)
end
theorem u9(b:Bool)(x:Str)(u:Tok):Gives (Builtin.«int.__rmul__» ⟨[.bool b, .str x u],[]⟩) (.val (Value.notImplemented)):=
 .of_wp λM A E s Q h=>by obtain⟨hp,g,d,tk,os⟩:=s; wp_walk; exact⟨_,rfl,h⟩
theorem xb(x:Str)(t:Tok):Gives («str.__mul__» ⟨[.str x t, .bool true],[]⟩) (.val (.str x t)):=
 .of_wp λM A E s Q h=>by obtain⟨hp,g,d,tk,os⟩:=s; wp_walk; exact⟨_,rfl,h⟩
theorem vd(x:Str)(t:Tok):Gives («str.__mul__» ⟨[.str x t, .bool false],[]⟩) (.str Str.empty):=
 .of_wp λM A E s Q h=>by obtain⟨hp,g,d,tk,os⟩:=s; wp_walk; exact⟨_,rfl,h.2⟩
section
variable {W:Wd}{C:Cx}{ρ a9:Ro}{f o:Fz}{s:Shared}
theorem EE{x:List Nat}{b:Bool}:lx W (jk .Mult) (.str (aS x)) (.bool b) (.str (aS (if b then x else[]))):=λA f o s va vb r S ha hb Q E h=>by
 obtain⟨t,rfl⟩:=ha
 obtain rfl:vb= .bool b:=hb
 refine wpAny_binaryOp_repeat (T:= "str") (U:= "bool") (by decide) (λs'=>m8 s' _ t) (λs'=>DV s' b) noFill_str_mul PySem.F.fills_bool_mul xJ repeat_str PySem.F.slot_bool_index.lookup
  (call_gives xJ (DV s b) xM (wQ _ _) (u9 b _ t) ⟨rfl,?_⟩)
 cases b with
 |true=>exact call_gives zv (m8 s _ t) x8 (xO _ _) (xb _ t) (h _ f _ (.refl f) S ⟨t,rfl⟩)
 |false=>exact call_gives zv (m8 s _ t) x8 (xO _ _) (vd _ t) ⟨by decide,h _ f _ (.refl f) (S.tok _) ⟨_,rfl⟩⟩
noncomputable def rt(n:Nat)(x:List D):List D:=(bf n x).flatten
theorem rS(x:List Value):∀(n:Nat) (a:Array Value),(D4 (λx1 x2=>x1++x2) a (bf n (⟨x⟩:Array Value))).toList=a.toList++(bf n x).flatten
 | 0,a=>by simp
 |n+1,a=>by
  rw[bM,ei,rS x n]
  simp[bM]
theorem bQ.rep{ds:List D}{vs:List Value}(h:bQ f ds vs):∀n,bQ f (rt n ds) (bf n vs).flatten
 | 0=>rfl
 |n+1=>by
  unfold rt
  rw[bM,bM,ee,ee]
  exact h.append (bQ.rep h n)
theorem qv{ds:List D}{x:Int}(h1:-1000000<=x)(h2:x<=1000)(h3:ds.length<=1000):lx W (jk .Mult) (.list ds) (.int x) (.list (rt x.toNat ds)):=λA f o s va vb r S ha hb Q E h=>by
 obtain⟨a,ob,vs,m,rfl,e1,e2,e3,e4⟩:=ha
 obtain⟨u,rfl⟩:=hb
 obtain⟨c,d,dt,sl⟩:=ob
 obtain⟨g1,g2,g3⟩:=e2
 dsimp only at g1 g2 g3 e3
 subst g1 g2 g3 e3
 have hl:=S.sub _ _ e1
 have len:=e4.length
 have fC:(⟨vs⟩:Array Value).size*x.toNat<=2 ^ 24:=aP (qa (show vs.length<=1000 by exact aX 0x8423f62400847ec4821 tt h3 (ah len)) (show x.toNat<=1000 by exact Zm h2)) (by decide)
 refine wpAny_binaryOp_repeat_ref (T:= "list") (U:= "int") (by decide) ⟨_,hl,rfl⟩ (λs'=>typeIs_int s' x u) noFill_list_mul PySem.F.fills_int_mul x7 repeat_list PySem.F.slot_int_index.lookup
  (nc x7 (typeIs_int s x u) xM (wQ _ _) (int___rmul___int_list x u a ⟨vs⟩ m)
   ⟨hl,rfl,⟨_,hl,rfl⟩,nc PySem.F.slot_list_mul ⟨_,hl,rfl⟩ PySem.F.entry_list_mul (PySem.F.args_list_mul_2 _ _)
    (AutoListH.list___mul___list_int_3 a ⟨vs⟩ m x u (by simp[Builtin.List.listFitsIndex]; exact Rl h1 h2) (by exact Rn fC) (by simp[Builtin.List.listTooLong,ll] at fC ⊢; assumption)) ⟨hl,?_⟩⟩)
 refine h _ _ _ (Fz.bP S.gR) (S.jv _) ⟨_,_,(bf x.toNat vs).flatten,0,rfl,Fz.aJ ..,⟨rfl,rfl,rfl⟩,?_,(e4.rep _).mono (Fz.bP S.gR)⟩
 have key:D4 (λx1 x2=>x1++x2) #[] (bf (if(⟨vs⟩:Array Value).isEmpty=true then 0 else x.toNat) (⟨vs⟩:Array Value))=⟨(bf x.toNat vs).flatten⟩:=by
  apply G7.mp
  rw[rS]
  by_cases he:vs=[]
  ·subst he; simp
  ·rw[if_neg (by simpa using he)]; simp
 show Data.seq (D4 _ _ _) 0=_
 rw[key]
theorem Am{A:Around}{a:Addr}{ds:List D}(hs:ds.length<=1000000):En W (λf o=>lj f o a ds) A (.type "tuple") [.raw (.ref a)] (.tup ds):=λf o s vs S hI hd Q E h=>by
 obtain⟨v,r,rfl,hv,rfl⟩:=hd
 obtain rfl:v= .ref a:=hv
 obtain⟨vs,e1,e4⟩:=hI.isList S
 have hl:=e4.length
 refine call_tuple_list (items:=⟨vs⟩) e1 (λh' hk=>?_) (by rw[bu]; show vs.length<=_; exact aX 0x210be92a4240084308421084821 tt hs (ah hl))
 have S1:=S.grow (tk:=s.toks) hk
 exact h _ _ _ (Fz.bP S1.gR) (S1.jv _) ⟨_,_,vs,0,rfl,Fz.aJ ..,rfl,rfl,e4.mono (Fz.bP S1.gR)⟩
theorem EF{A:Around}{b:Bool}:mf W A (.type "int") [.bool b] (.int (if b then 1 else 0)):=λf o s vs S hd Q E h=>by
 obtain⟨v,r,rfl,hv,rfl⟩:=hd
 obtain rfl:v= .bool b:=hv
 exact call_int_bool (h _ f _ (.refl f) (S.tok _) ⟨_,rfl⟩)
noncomputable def insI(x:Int):List Int->List Int
 |[]=>[x]
 |y::r=>if x<=y then x::y::r else y::insI x r
noncomputable def sortI:List Int->List Int
 |[]=>[]
 |x::r=>insI x (sortI r)
theorem insI_perm(x:Int):∀l,(insI x l).Perm (x::l)
 |[]=> .refl _
 |y::r=>by
  unfold insI; split
  ·exact .refl _
  ·exact(DJ y (insI_perm x r)).trans (List.Perm.swap x y r)
theorem sortI_perm:∀l,(sortI l).Perm l
 |[]=> .refl _
 |x::r=>(insI_perm x _).trans (DJ x (sortI_perm r))
set_option tactic.hygienic true in
theorem rT(x:Int):∀l,l.Pairwise (·<= ·)->(insI x l).Pairwise (·<= ·)
 |[],_=>by simp[insI]
 |y::r,h=>by
  rw[lH] at h
  unfold insI; split
  ·rename_i EG
   rw[lH]
   refine⟨λz hz=>?_,by rw[lH]; exact h⟩
   rcases au.mp hz with rfl|hz
   ·exact EG
   ·exact bX EG (h.1 z hz)
  ·rename_i EG
   rw[lH]
   refine⟨λz hz=>?_,rT x r h.2⟩
   rcases au.mp ((insI_perm x r).mem_iff.mp hz) with rfl|hz
   ·exact Rp EG
   ·exact h.1 z hz
theorem qw:∀l,(sortI l).Pairwise (·<= ·)
 |[]=> .nil
 |x::r=>rT x _ (qw r)
theorem vf{a b:List Int}(hp:a.Perm b)(h1:a.Pairwise (·<= ·))(h2:b.Pairwise (·<= ·)):a=b:=hp.eq_of_pairwise (λx y _ _=>aE) h1 h2
theorem BL{vs:List Value}{ns:List Int}(h:IntsAre vs ns):bQ f (ns.map .int) vs:=by
 induction h with
 |nil=>rfl
 |cons n t _ ih=>exact⟨_,_,rfl,⟨t,rfl⟩,ih⟩
theorem yA{A:Around}{ns:List Int}(hs:ns.length<64):mf W A (.builtin "sorted") [.list (ns.map .int)] (.list ((sortI ns).map .int)):=λf o s vs S hd Q E h=>by
 obtain⟨v,r,rfl,⟨a,ob,vs,m,rfl,e1,e2,e3,e4⟩,rfl⟩:=hd
 have hl:=e4.length
 have hi:=oo e4
 refine sorted_ints (vs:=vs) ⟨ob,S.sub _ _ e1,e2.1,m,e3⟩ hi (by rw[hl,ai]; exact hs) λout ns' a1 a2 a3=>?_
 obtain⟨e,he⟩:=sortedAll_at s.heap vs out
 have hn:s.heap.get? (s.heap.objs.size+1)=none:=by
  refine none_of λy q=>?_
  have q':@LT.lt Nat _ (s.heap.objs.size+1) s.heap.objs.size:=bJ q; (first|lia|omega)
 obtain⟨lf,S'⟩:=S.Ep (tk:=s.toks) (λ_ _=>sortedAll_old) hn he
 have en:ns'=sortI ns:=vf (a2.trans (sortI_perm ns).symm) a3 (qw ns)
 subst en
 exact h _ _ _ lf S' ⟨_,_,out.toList,e,rfl,Fz.aJ ..,⟨rfl,rfl,rfl⟩,rfl,(BL a1)⟩
theorem zA.Xk(O:C.Ok){l r:Expr}{pos:Pos}{a:Addr}{xs ys:List D}(hI:∀f o,bc C ρ f o->lj f o a xs)(ha:eg W C ρ l (.raw (.ref a)))(hb:eg W C ρ r (.list ys))(hs:xs.length+ys.length<=1000000):zA W C ρ (.BinOp l .Add r pos) (tA (xs++ys)):=λf o s S H Q E h=>
 Ju (ha f o s S H _ _ λva f1 s1 l1 S1 d1=>hb f1 o s1 S1 (H.mono l1 (.refl o)) _ _ λvb f2 s2 l2 S2 d2=>by
  obtain rfl:va= .ref a:=d1
  obtain⟨ob,vs,m,e1,e2,e3,e4⟩:=hI _ _ (H.mono (l1.trans l2) (.refl o))
  obtain⟨a',ob',u7,m',rfl,w6,xU,w7,tC⟩:=d2
  obtain⟨c,d,dt,sl⟩:=ob
  obtain⟨c',d',dt',Xc⟩:=ob'
  obtain⟨N8,zB,Lg⟩:=xU
  dsimp only at e2 N8 zB Lg e3 w7
  subst e2 N8 zB Lg e3 w7
  have l1':=e4.length
  have l2':=tC.length
  refine concat_meets ⟨_,S2.own _ _ e1,rfl⟩ ⟨_,S2.sub _ _ w6,rfl⟩ noFill_list_add seq_list_add x5 xK (wO _ _)
   (list_addW a a' ⟨vs⟩ ⟨u7⟩ m m' d aD sl #[] (by rw[bu]; show vs.length+u7.length<=_; exact hO 0x461080410be92a4241040210c2108421218a01 tt hs (ah l1') (ah l2'))) ⟨S2.own _ _ e1,S2.sub _ _ w6,?_⟩
  refine h _ _ _ f2 _ _ ⟨s2.heap.objs.size,rfl,rfl⟩ (l1.trans l2) (Fz.bP S2.fc) (S2.gW _) rfl ⟨_,vs++u7,0,Fz.aJ ..,⟨rfl,rfl,rfl⟩,by simp,e4.append tC⟩ λb hb=>?_
  rcases aA.mp hb with rfl
  exact S2.fc)
theorem EH{A:Around}{a b c:Int}(hh:A.handled=none):mf W A (.builtin "max") [.int a, .int b, .int c] (.int (max (max a b) c)):=λf o s vs S hd Q E h=>by
 obtain⟨v,r,rfl,⟨t,rfl⟩,v2,r2,rfl,⟨u,rfl⟩,v3,r3,rfl,⟨x,rfl⟩,rfl⟩:=hd
 refine max_three_ints hh λh' tk hk=>h _ f _ (.refl f) (S.grow hk) ?_
 split
 ·split
  ·exact⟨x,by congr 1; exact Rq ‹_› ‹_›⟩
  ·exact⟨u,by congr 1; exact Rr ‹_› ‹_›⟩
 ·split
  ·exact⟨x,by congr 1; exact Rt ‹_› ‹_›⟩
  ·exact⟨t,by congr 1; exact Ru ‹_› ‹_›⟩
theorem Li(k1 k2 k3 v1 v2 v3:Expr)(env:Env)(dp:Pos):(evalEachOpt [some k1,some k2,some k3] env).zip ((evalEach [v1,v2,v3] env).map λv=>do let x <-v; dF dp; pure x)=
 [(eval k1 env,do let x <-eval v1 env; dF dp; pure x),(eval k2 env,do let x <-eval v2 env; dF dp; pure x),(eval k3 env,do let x <-eval v3 env; dF dp; pure x)].map λp=>(some p.1,p.2):=rfl
theorem eg.BM{K:Type}[DecidableEq K]{knd:KeyKind W.prog W.w K}(enc:K->D)(M5:∀k v f,Den f (enc k) v->knd.is k v=true){k1 k2 k3 v1 v2 v3 slice:Expr}{dp pos:Pos}{HW HY HZ κ:K}{d1 d2 d3 d:D}
 (e1:eg W C ρ k1 (enc HW)) (x1:eg W C ρ v1 d1) (e2:eg W C ρ k2 (enc HY)) (x2:eg W C ρ v2 d2) (e3:eg W C ρ k3 (enc HZ)) (x3:eg W C ρ v3 d3) (hs:eg W C ρ slice (enc κ))
 (hd:∀u1 u2 u3:Value,∃u,valueAt (merged [] [(HW,u1),(HY,u2),(HZ,u3)]) κ=some u/\((u=u1/\d=d1)\/(u=u2/\d=d2)\/(u=u3/\d=d3)))
 (yB:∀o i,subscripted slice false o i=operate [o,i] (dJ o i)):eg W C ρ (.Subscript (.Dict [some k1,some k2,some k3] [v1,v2,v3] dp) slice pos) d:=λf o s S H Q E h=>by
 rw[n7]
 refine aa (wpAny_Dict_pairs (knd:=knd) (Li k1 k2 k3 v1 v2 v3 C.env dp) (by exact nofun) (by simp) ?_)
 have S0:=S.gW {cls:= .type "dict",data:= .dict #[]}
 have lo0:=Fz.bP (o:={cls:= .type "dict",data:= .dict #[]}) S.fc
 have H0:=H.mono (.refl f) lo0
 refine Bb (e1 f _ _ S0 H0 _ _ λa1 f1 s1 l1 S1 h1=>aa (x1 f1 _ s1 S1 (H0.mono l1 (.refl _)) _ _ λb1 f2 s2 l2 S2 g1=>aa (aZ (ao ?_))))
 refine Bb (e2 f2 _ s2 S2 (H0.mono (l1.trans l2) (.refl _)) _ _ λa2 f3 s3 l3 S3 h2=>aa (x2 f3 _ s3 S3 (H0.mono (l1.trans (l2.trans l3)) (.refl _)) _ _ λb2 f4 s4 l4 S4 g2=>aa (aZ (ao ?_))))
 have Xl:=l1.trans (l2.trans (l3.trans l4))
 refine Bb (e3 f4 _ s4 S4 (H0.mono Xl (.refl _)) _ _ λa3 f5 s5 l5 S5 h3=>aa (x3 f5 _ s5 S5 (H0.mono (Xl.trans l5) (.refl _)) _ _ λb3 f6 s6 l6 S6 g3=>aa (aZ (ao (evalPairs_nil ?_)))))
 have ZU:=Xl.trans (l5.trans l6)
 have hD:=S6.own _ _ (Fz.aJ o s.heap.objs.size {cls:= .type "dict",data:= .dict #[]})
 have hE:(s.heap.push {cls:= .type "dict",data:= .dict #[]}).DictOf knd s.heap.objs.size []:=⟨_,_,_,bC _ rfl,⟨rfl,rfl,rfl⟩,rfl,(λ_ h=>by simp at h), .nil, .nil⟩
 obtain⟨oe,es,ep,q1,q2⟩:=hE
 refine⟨[(HW,b1),(HY,b2),(HZ,b3)],⟨M5 _ _ _ h1,rfl,M5 _ _ _ h2,rfl,M5 _ _ _ h3,rfl,trivial⟩,⟨oe,es,ep,?_,q2⟩,λh' hm JN=>?_⟩
 ·rw[hD,<-q1]; exact(bC _ rfl).symm
 ·obtain⟨od,pH,Ec,p1,p2⟩:=hm
  have S7:=(S6.same (Fz.aJ ..) JN p1).tok (s6.toks+3)
  have ZV:o.le ((o.put s.heap.objs.size {cls:= .type "dict",data:= .dict #[]}).put s.heap.objs.size od):=λb y e=>by
   have hb:b≠s.heap.objs.size:=λq=>by subst q; exact iC (S.fc ..) e
   rw[Fz.az hb,Fz.az hb]; exact e
  refine aa (aL (hs f6 _ _ S7 (H.mono ZU ZV) _ _ λi f8 s8 l8 S8 hi=>aa (aZ ?_)))
  have p1':=S8.own _ _ (Fz.aJ (o.put s.heap.objs.size {cls:= .type "dict",data:= .dict #[]}) s.heap.objs.size od)
  have ZW:s8.heap.DictOf knd s.heap.objs.size (merged [] [(HW,b1),(HY,b2),(HZ,b3)]):=⟨od,pH,Ec,p1',p2⟩
  obtain⟨u,hu,hw⟩:=hd b1 b2 b3
  refine A6 ZW.mapOf.typeIs slot_dict_getitem.lookup (wpAny_getItem_of (M5 _ _ _ hi) ZW.mapOf hu ?_) (yB _ _)
  refine h u f8 _ (ZU.trans l8) ((S8.drop ZV).tok _) ?_
  rcases hw with⟨rfl,rfl⟩|⟨rfl,rfl⟩|⟨rfl,rfl⟩
  ·exact g1.mono (l3.trans (l4.trans (l5.trans (l6.trans l8))))
  ·exact g2.mono (l5.trans (l6.trans l8))
  ·exact g3.mono l8
end
end
section
open PySem PySem.W PyProof.Rows PySem.SeqAt PySem.Builtin PySem.Builtin.Re
theorem kP:Slot "re.Pattern" "search" "re.Pattern.search":=
 .of (owner:= "re.Pattern") (n:= "search") (by rw[lX,ic]; kernel_rfl) (by decide+kernel) (by decide+kernel) (by decide+kernel)
  (by first|exact .inl (by decide+kernel)|exact .inr (by decide+kernel)) (by rw[isSubtype_type]; kernel_rfl)
theorem sk:entryFor table "re.Pattern.search" =some Builtin.«re.Pattern.search»:=entryFor_of_fast (by kernel_rfl)
theorem tR(a b:Value):argsOk "re.Pattern.search" ⟨[a,b],[]⟩:=by unfold argsOk; kernel_rfl
theorem tS:typeOf (.builtin "re.Pattern.search")=pure (.type "method_descriptor"):=by show builtinType _=_; rw[builtinType_eq_fast]; kernel_rfl
theorem vg:PlainAttrs "re.Pattern":=⟨⟨"object.__getattribute__",by rw[lX,ic]; kernel_rfl,by decide+kernel⟩,by rw[lX,ic]; kernel_rfl⟩
theorem EI(v:Value):reNamed "re.Pattern.search" "search" ["string","pos","endpos"] 1 [v] []=pure [some v,none,none]:=by rfl
theorem pB(m:zH)(aU:∀i,i<m.lim->∀sn,∃An,qc m.code (m.text.getD i 0) m.code.size 5 true sn= .ok (false,An)):∀(fuel s:Nat) (sn:Sre.Seen),∃An,JA m fuel s sn= .ok (none,An)
 | 0,s,sn=>⟨sn,rfl⟩
 |fuel+1,s,sn=>by
  unfold JA
  by_cases h:s>=m.lim
  ·rw[if_pos h]; exact⟨sn,rfl⟩
  ·rw[if_neg h]
   obtain⟨An,e⟩:=aU s (by exact Rv h) sn
   rw[e]
   exact pB m aU fuel (s+1) An
theorem xc{prog:gu}{w:World}{A:Around}{s:Shared}{m:zH}{E:Value->Shared->Prop}{Q:zH->Shared->Prop}(n:Nat)(h:(m.runFor reTurnSteps).outcome=some .failed)(hQ:∀m',m'.outcome=some .failed->Q m' s):wpAny (model prog w) A (reDrive (n+1) m) Q E s:=by
 unfold reDrive
 dsimp only
 rw[if_pos (by rw[h]; rfl)]
 exact ao (hQ _ h)
theorem ru{prog:gu}{w:World}{A:Around}{s:Shared}{m:zH}{E:Value->Shared->Prop}{Q:PUnit->Shared->Prop}(hQ:Q ⟨⟩ s):∀l:List Nat,wpAny (model prog w) A (forIn l DB λi (_:PUnit)=>if m.seen.has i=true then(do rule (Sre.names.getD i ""); pure (fE DB)) else pure (fE DB)) Q E s
 |[]=>by rw[js]; exact ao hQ
 |i::l=>by
  rw[iN]
  split
  ·exact aa (aa (m7 (ao (ru hQ l))))
  ·exact aa (ao (ru hQ l))
theorem Ao{prog:gu}{w:World}{A:Around}{s:Shared}{m:zH}{E:Value->Shared->Prop}{Q:Option zH->Shared->Prop}(h:(m.runFor reTurnSteps).outcome=some .failed)(hQ:Q none s):wpAny (model prog w) A (reRunToEnd m) Q E s:=by
 unfold reRunToEnd
 rw[show(2:Nat) ^ 64=18446744073709551615+1 from rfl]
 refine aa (xc _ h λm' hm=>?_)
 refine aa (ru ?_ _)
 rw[hm]
 exact ao hQ
theorem tT:∀m:zH,m.outcome=none->m.frames=[]->((m.say false).runFor 4).outcome=some .failed:=by
 rintro⟨c,t,l,st,ls,wt,ma,pc,po,ha,om,mk,lm,li,lo,sm,fr,we,an,se,ou⟩ h1 h2
 dsimp only at h1 h2
 subst h1 h2
 rfl
theorem tU(m:zH)(hc:Sre.ops[m.code.getD 0 0]? =some .INFO)(h2:m.code.getD 2 0=4)
 (aU:∀i,i<m.lim->∀sn,∃An,qc m.code (m.text.getD i 0) m.code.size 5 true sn= .ok (false,An)) (ho:m.outcome=none) (hf:m.frames=[]) (x:Nat) (b:Bool):((m.attemptFrom x b).runFor 4).outcome=some .failed:=by
 unfold Sre.M.attemptFrom
 have hh:m.hasFirstSet=true:=by unfold Sre.M.hasFirstSet; rw[hc,h2]; rfl
 rw[hh,if_neg (by decide)]
 obtain⟨q,e'⟩:=pB m aU (m.lim+1-x) x m.seen
 rw[e']
 exact tT _ ho hf
theorem yC(code text:Array Nat)(hc:Sre.ops[code.getD 0 0]? =some .INFO)(h2:code.getD 2 0=4)
 (aU:∀i,i<text.size->∀sn,∃An,qc code (text.getD i 0) code.size 5 true sn= .ok (false,An)):((zu code text 0 0 text.size false).runFor reTurnSteps).outcome=some .failed:=by
 unfold zu
 dsimp only
 split
 ·exact tT _ rfl rfl
 ·exact tU _ hc h2 aU rfl rfl _ _
theorem rU{prog:gu}{w:World}{A:Around}{s:Shared}{E:Value->Shared->Prop}{Q:Value->Shared->Prop}{p c:Addr}{op oc:Obj}{fs xs:Array Value}{n:Nat}{x:Str}{t:Tok}{code:Array Nat}
 (hp:s.heap.get? p=some op) (Xm:op.cls= .type "re.Pattern") (EJ:op.data= .fields fs) (hk:reRawNat (fs.getD 6 .none)=0) (hg:reRawNat (fs.getD 2 .none)=0) (hcv:fs.getD 5 .none= .ref c)
 (w3:s.heap.get? c=some oc) (si:oc.data= .seq xs n) (JP:(xs.map reRawOf).map (·.toNat)=code)
 (hc:Sre.ops[code.getD 0 0]? =some .INFO) (h2:code.getD 2 0=4)
 (aU:∀i,i<x.cps.size->∀sn,∃An,qc code (x.cps.getD i 0) code.size 5 true sn= .ok (false,An))
 (hx:x.cps.size<=1000000) (hQ:Q .none s):wpAny (model prog w) A (call (.builtin "re.Pattern.search") [.ref p, .str x t]) Q E s:=by
 subst JP
 refine fR (rO kP.plain sk (kP.check _ _ _ _ _ _ _ _ ⟨op,hp,Xm⟩ (tR _ _) ?_))
 show wpAny _ A.in1 (reTarget "re.Pattern.search" "search" ⟨[.ref p, .str x t],[]⟩ >>= λt=>reAnswer t (zu t.code t.text t.groups t.pos t.lim false)) _ _ s
 refine aa ?_
 unfold reTarget
 dsimp only
 rw[EI]
 refine aa (ao ?_)
 dsimp only
 refine aa (ao (aa (ao ?_)))
 refine aa (m:=fieldsOf (.ref p)) ?_
 unfold fieldsOf
 refine aa (A5 hp ?_)
 rw[EJ]
 refine ao ?_
 refine aa (m:=reTextOf (.str x t)) ?_
 unfold reTextOf
 refine aa (m:=asStr? (.str x t)) (ao (ao ?_))
 dsimp only
 rw[hk]
 rw[if_neg (by decide),if_neg (by decide)]
 refine aa (m:=reNoCollectionInside (.str x t) 0) ?_
 unfold reNoCollectionInside
 rw[if_neg (by decide)]
 refine ao ?_
 refine aa (m:=reRawItems (fs.getD 5 .none)) ?_
 unfold reRawItems
 rw[hcv]
 refine aa (m:=seqItems? (.ref c)) ?_
 unfold seqItems?
 refine aa (A5 w3 ?_)
 rw[si]
 refine ao (ao (ao ?_))
 dsimp only
 rw[hg]
 have e1:min (zP 0) x.cps.size=0:=Nat.zero_min _
 have e2:min (zP (2 ^ 63-1)) x.cps.size=x.cps.size:=ix (by
  have:zP (2 ^ 63-1)=9223372036854775807:=by decide
  (first|lia|omega))
 rw[e1,e2]
 unfold reAnswer
 dsimp only
 refine aa (Ao (yC _ _ hc h2 aU) ?_)
 exact ao hQ
end
section
open PySem PySem.W PyProof.Rows PySem.SeqAt PySem.Builtin
noncomputable def iV{α:Type}(n:Nat)(lt:Nat->Nat->Bool):KasT α->Option α
 | .ret a=>some a
 | .ask i j k=>if i<n/\j<n/\i≠j then iV n lt (k (lt i j)) else none
set_option tactic.hygienic true in
theorem pC{α:Type}{n:Nat}{lt lt':Nat->Nat->Bool}(h:∀i j,i<n->j<n->i≠j->lt i j=lt' i j):∀t:KasT α,iV n lt t=iV n lt' t
 | .ret a=>rfl
 | .ask i j k=>by
  unfold iV
  split
  ·rename_i rr
   rw[h i j rr.1 rr.2.1 rr.2.2]
   exact pC h _
  ·rfl
set_option tactic.hygienic true in
theorem tV{α:Type}{n:Nat}{lt:Nat->Nat->Bool}{cmp:Nat->Nat->(Bool->Shared->Prop)->Shared->Prop}{s:Shared}(hc:∀i j C,i<n->j<n->i≠j->C (lt i j) s->cmp i j C s){Q:α->Shared->Prop}:∀(t:KasT α) {a:α},iV n lt t=some a->Q a s->t.kasWp cmp Q s
 | .ret b,a,e,h=>by cases e; exact h
 | .ask i j k,a,e,h=>by
  unfold iV at e
  split at e
  ·rename_i rr
   exact hc i j _ rr.1 rr.2.1 rr.2.2 (tV hc _ e h)
  ·exact nomatch e
noncomputable def Xn(EK H6 M6 jh kQ M7:Bool)(i j:Nat):Bool:=
 match i,j with
 | 0,1=>EK| 1,0=>!EK| 0,2=>H6| 2,0=>!H6| 0,3=>M6| 3,0=>!M6
 | 1,2=>jh| 2,1=>!jh| 1,3=>kQ| 3,1=>!kQ| 2,3=>M7| 3,2=>!M7
 |_,_=>false
noncomputable def Lj(a b c:Bool):Bool:=(!(a&&b)||c)&&(a||b|| !c)
noncomputable def oQ(n:Nat)(lt:Nat->Nat->Bool):Bool:=match iV n lt (A9 n) with
 |some p=>p.toList.isPerm (aB n)&&decide (p.toList.Pairwise λi j=>lt i j=true)&&decide (p.size=n)
 |none=>false
theorem Lk:∀EK H6 M6 jh kQ M7:Bool,(Lj EK jh H6&&Lj EK kQ M6&&Lj H6 M7 M6&&Lj jh M7 kQ)=true->oQ 4 (Xn EK H6 M6 jh kQ M7)=true:=by decide+kernel
theorem Ll:∀EK H6 jh:Bool,Lj EK jh H6=true->oQ 3 (Xn EK H6 false jh false false)=true:=by decide+kernel
theorem Lm:∀EK:Bool,oQ 2 (Xn EK false false false false false)=true:=by decide+kernel
theorem tW{a b c:Nat}(h1:a≠b)(h2:b≠c)(h3:a≠c):Lj (decide (a<b)) (decide (b<c)) (decide (a<c))=true:=by
 unfold Lj
 rcases bj h1 with x|x<;>rcases bj h2 with y|y<;>rcases bj h3 with z|z<;>simp_all<;>(first|exact Rw x y z|exact Rx y|exact Ry x|exact Rz x y z|exact RA x z|lia|omega)
theorem vk{n:Nat}{lt lt':Nat->Nat->Bool}(h:∀i j,i<n->j<n->i≠j->lt i j=lt' i j)(hs:oQ n lt'=true):∃p:Array Nat,iV n lt (A9 n)=some p/\p.toList.Perm (aB n)/\p.size=n/\p.toList.Pairwise λi j=>lt' i j=true:=by
 unfold oQ at hs
 rw[pC h]
 cases e:iV n lt' (A9 n) with
 |none=>rw[e] at hs; exact nomatch hs
 |some p=>
  rw[e] at hs
  simp only[cq,decide_eq_true_eq,List.isPerm_iff] at hs
  exact⟨p,rfl,hs.1.1,hs.2,hs.1.2⟩
theorem ZX:∀i,i<2->i=0\/i=1:=by decide
theorem QB:∀i,i<3->i=0\/i=1\/i=2:=by decide
theorem QC:∀i,i<4->i=0\/i=1\/i=2\/i=3:=by decide
theorem Ap{n:Nat}(h2:2<=n)(h4:n<=4)(key:Nat->Nat)(hd:∀i j,i<n->j<n->i≠j->key i≠key j):∃p:Array Nat,iV n (λi j=>decide (key i<key j)) (A9 n)=some p/\p.toList.Perm (aB n)/\p.size=n/\p.toList.Pairwise λi j=>key i<key j:=by
 have flip:∀i j,i<n->j<n->i≠j->decide (key j<key i)= !decide (key i<key j):=λi j hi hj rr=>by
  have:=hd i j hi hj rr
  rcases bj this with x|x<;>simp[x]<;>exact aX 1787244348417 tt x
 have fin:∀lt':Nat->Nat->Bool,(∀i j,i<n->j<n->i≠j->decide (key i<key j)=lt' i j)->oQ n lt'=true->∃p:Array Nat,iV n (λi j=>decide (key i<key j)) (A9 n)=some p/\p.toList.Perm (aB n)/\p.size=n/\p.toList.Pairwise λi j=>key i<key j:=by
  intro lt' h hs
  obtain⟨p,e,hp,hz,hw⟩:=vk (lt:=λi j=>decide (key i<key j)) h hs
  refine⟨p,e,hp,hz,?_⟩
  have j6:p.toList.Nodup:=hp.nodup_iff.mpr List.nodup_range
  refine(hw.and j6).imp_of_mem fun{i j} hi hj rr=>?_
  have vT:=aW.mp (hp.subset hi)
  have BN:=aW.mp (hp.subset hj)
  have:=h i j vT BN rr.2
  rw[rr.1] at this
  exact of_decide_eq_true this
 have hn:n=2\/n=3\/n=4:=by exact RB h2 h4
 rcases hn with rfl|rfl|rfl
 ·exact fin _ (λi j hi hj rr=>by rcases ZX i hi with rfl|rfl<;>rcases ZX j hj with rfl|rfl<;>first|rfl|exact absurd rfl rr|exact flip _ _ (by decide) (by decide) (by decide)) (Lm (decide (key 0<key 1)))
 ·exact fin _ (λi j hi hj rr=>by rcases QB i hi with rfl|rfl|rfl<;>rcases QB j hj with rfl|rfl|rfl<;>first|rfl|exact absurd rfl rr|exact flip _ _ (by decide) (by decide) (by decide)) (Ll (decide (key 0<key 1)) (decide (key 0<key 2)) (decide (key 1<key 2)) (tW (hd 0 1 (by decide) (by decide) (by decide)) (hd 1 2 (by decide) (by decide) (by decide)) (hd 0 2 (by decide) (by decide) (by decide))))
 ·refine fin _ (λi j hi hj rr=>by rcases QC i hi with rfl|rfl|rfl|rfl<;>rcases QC j hj with rfl|rfl|rfl|rfl<;>first|rfl|exact absurd rfl rr|exact flip _ _ (by decide) (by decide) (by decide)) (Lk (decide (key 0<key 1)) (decide (key 0<key 2)) (decide (key 0<key 3)) (decide (key 1<key 2)) (decide (key 1<key 3)) (decide (key 2<key 3)) ?_)
  rw[tW (hd 0 1 (by decide) (by decide) (by decide)) (hd 1 2 (by decide) (by decide) (by decide)) (hd 0 2 (by decide) (by decide) (by decide)),tW (hd 0 1 (by decide) (by decide) (by decide)) (hd 1 3 (by decide) (by decide) (by decide)) (hd 0 3 (by decide) (by decide) (by decide)),tW (hd 0 2 (by decide) (by decide) (by decide)) (hd 2 3 (by decide) (by decide) (by decide)) (hd 0 3 (by decide) (by decide) (by decide)),tW (hd 1 2 (by decide) (by decide) (by decide)) (hd 2 3 (by decide) (by decide) (by decide)) (hd 1 3 (by decide) (by decide) (by decide))]
  rfl
section
variable {prog:gu}{w:World}{A:Around}{E:Value->Shared->Prop}{s:Shared}
inductive EL(h:Heap)(vs:List Value)(keys:List Nat)(i:Nat):Prop
 |mk (a:Addr) (o:Obj) (xs:Array Value) (n:Nat) (t:Tok) (e1:vs[i]? =some (.ref a)) (e2:h.get? a=some o) (e3:o.cls= .type "tuple") (r:o.data= .seq xs n/\xs.size=2/\xs.toList[0]? =some (.str ⟨#[keys.getD i 0]⟩ t)):EL h vs keys i
noncomputable def kr(h:Heap)(vs:List Value)(keys:List Nat):Prop:=∀i,i<vs.length->EL h vs keys i
theorem kr.keep{h h':Heap}{vs:List Value}{keys:List Nat}(x:kr h vs keys)(k:∀b o,h.get? b=some o->h'.get? b=some o):kr h' vs keys:=λi hi=>by
 obtain⟨a,o,xs,n,t,e1,e2,e3,r⟩:=x i hi; exact⟨a,o,xs,n,t,e1,k _ _ e2,e3,r⟩
theorem Ln{vs:List Value}{keys:List Nat}{i j:Nat}{Q:Bool->Shared->Prop}(x:kr s.heap vs keys)(hi:i<vs.length)(hj:j<vs.length)(ea:keys.getD i 0≠keys.getD j 0)(h:Q (decide (keys.getD i 0<keys.getD j 0)) s):
 wpAny (model prog w) A (keyLt' (tuples' true) (vs.getD i d7) (vs.getD j d7)) Q E s:=by
 obtain⟨a,o,xs,n,t,e1,e2,e3,e4,e5,e6⟩:=x i hi
 obtain⟨a',o',xs',n',t',g1,g2,g3,g4,g5,g6⟩:=x j hj
 rw[ak,e1,ak,g1]
 refine kat_lt e2 e4 g2 g4 ?_
 obtain⟨xl⟩:=xs
 obtain⟨xl'⟩:=xs'
 cases xl with
 |nil=>simp at e6
 |cons p r=>
  cases xl' with
  |nil=>simp at g6
  |cons q r'=>
   simp only[zw,x9] at e6 g6
   subst e6 g6
   refine kat_cons (eqBool_str ?_)
   have hf:((⟨#[keys.getD i 0]⟩:Str)== ⟨#[keys.getD j 0]⟩)=false:=by
    simp only[beq_eq_false_iff_ne,ne_eq]
    intro e
    injection e with e
    have:=congrArg zy e
    simp only[List.cons.injEq,and_true] at this
    exact ea this
   rw[hf]
   refine kat_no ?_
   show wpAny _ _ (oneLt' true _ _) _ _ _
   refine oneLt_str ?_
   have:decide ((⟨#[keys.getD i 0]⟩:Str).cps.toList<(⟨#[keys.getD j 0]⟩:Str).cps.toList)=decide (keys.getD i 0<keys.getD j 0):=by
    rw[decide_eq_decide]
    show[keys.getD i 0]<[keys.getD j 0]↔_
    rw[List.cons_lt_cons_iff]
    simp
   rw[this]
   exact h
theorem EM{vs:List Value}{keys:List Nat}{Q:SortKind->Shared->Prop}(x:kr s.heap vs keys)(ea:0<vs.length)(h:Q (tuples' true) s):wpAny (model prog w) A (keyKind' vs.toArray) Q E s:=by
 obtain⟨fs,EJ⟩:∃fs:List Value,KatTups s.heap vs fs/\fs.length=vs.length/\∀v∈fs,∃y t,v=Value.str y t:=by
  clear h ea
  induction vs generalizing keys with
  |nil=>exact⟨[],trivial,rfl,λv hv=>by cases hv⟩
  |cons v vs ih=>
   obtain⟨a,o,xs,n,t,e1,e2,e3,e4,e5,e6⟩:=x 0 (by simp)
   obtain⟨fs,h1,h2,h3⟩:=ih (keys:=keys.drop 1) (λi hi=>by
    obtain⟨a,o,xs,n,t,e1,e2,e3,e4,e5,e6⟩:=x (i+1) (by simp; assumption)
    refine⟨a,o,xs,n,t,by simpa using e1,e2,e3,e4,e5,?_⟩
    rw[e6]
    simp[ak,Bj])
   simp only[zw,x9] at e1
   subst e1
   refine⟨.str ⟨#[keys.getD 0 0]⟩ t::fs,⟨⟨a,o,xs,n,rfl,e2,e3,e4,?_⟩,h1⟩,by simp[h2],λv hv=>?_⟩
   ·rw[<-e6]; simp
   ·rcases au.mp hv with rfl|hv
    ·exact⟨_,_,rfl⟩
    ·exact h3 v hv
 obtain⟨h1,h2,h3⟩:=EJ
 refine kat_kind (T:= .type "str") h1 (by rw[h2]; exact ea) (λv hv=>?_) (by decide) h
 obtain⟨y,t,rfl⟩:=h3 v hv
 exact ya
theorem vm{a:Addr}{vs:List Value}{keys:List Nat}{n:Nat}{P:PySem.Fin->Shared->Prop}(ho:s.heap.get? a=some (seqObj "list" vs.toArray n))(x:kr s.heap vs keys)(QD:1<=vs.length)(Hb:vs.length<=4)
 (hd:∀i j,i<vs.length->j<vs.length->i≠j->keys.getD i 0≠keys.getD j 0)
 (h:∀p:List Nat,p.Perm (aB vs.length)->(p.Pairwise λi j=>keys.getD i 0<keys.getD j 0)->P (.done (.ret .none)) {s with heap:=sortedHeap s.heap a vs (zK (p.map λi=>vs.getD i d7))}):
 wpAny (model prog w) A (Builtin.«list.sort» ⟨[.ref a],[]⟩) P E s:=by
 rw[list_sort_plain]
 have ha:a<s.heap.objs.size:=bJ ho
 refine aa (listItems_at ho rfl ?_)
 refine aa (Dz ho rfl ?_ (by rw[ff,bu]; exact aN 0x2e0084308421084801 tt Hb) (fD _))
 obtain⟨e1,ZY⟩:∃e1,(s.heap.update a (c9 λ_=>#[])).get? a=some (seqObj "list" #[] e1):=⟨_,get?_update_seq ho (λ_=>#[])⟩
 refine aa (Jw ZY rfl ?_)
 refine aa (kc ?_ (by show vs.length<=_; rw[bu]; exact aN 0x2e0084308421084801 tt Hb))
 refine aa (oG ?_ (fD _))
 refine aL ?_
 have QE:(((s.heap.update a (c9 λ_=>#[])).push (seqObj "tuple" vs.toArray 0)).push (seqObj "list" #[] 0)).get? a=some (seqObj "list" #[] e1):=by
  rw[hJ _ _ _ (by rw[size_push',j4]; exact bg (jz ha)),hJ _ _ _ (by rw[j4]; exact bg ha)]
  exact ZY
 have x6:kr (((s.heap.update a (c9 λ_=>#[])).push (seqObj "tuple" vs.toArray 0)).push (seqObj "list" #[] 0)) vs keys:=λi hi=>by
  obtain⟨b,o,xs,n,t,e1,e2,e3,r⟩:=x i hi
  refine⟨b,o,xs,n,t,e1,?_,e3,r⟩
  have hba:b≠a:=λe=>by subst e; cases nM ho e2; exact absurd e3 (by simp)
  have kk:b<s.heap.objs.size:=bJ e2
  rw[hJ _ _ _ (by rw[size_push',j4]; exact bg (jz kk)),hJ _ _ _ (by rw[j4]; exact bg kk),DM _ _ _ _ hba]
  exact e2
 show wpAny (model prog w) A _ P E {s with heap:=((s.heap.update a (c9 λ_=>#[])).push (seqObj "tuple" vs.toArray 0)).push (seqObj "list" #[] 0)}
 dsimp only
 have fC:vs.toArray.size=vs.length:=by simp
 by_cases h2:vs.toArray.size<2
 ·rw[if_pos h2,if_pos h2]
  refine aa (ao ?_)
  rw[StateT.run_pure]
  refine aa (ao ?_)
  dsimp only
  obtain⟨v,rfl⟩:∃v,vs=[v]:=by
   rw[ff] at h2; exact jr.mp (ar (Hi h2) QD)
  have ez:Array.map (λx=>x.snd) (arrOf (SortSt.mk' general' (([v]:List Value).toArray.zip ([v]:List Value).toArray) #[] 7 none))=#[v]:=by
   show Array.map (λx:Value×Value=>x.snd) (#[v].zip #[v])=_
   simp
  rw[ez]
  refine aa (Jw QE rfl ?_)
  refine aa (Dz QE rfl ?_ (fD _) (by rw[bu]; show(1:Nat)<=_; simp[*]))
  simp only[bne_self_eq_false,cb,if_false]
  have:=h [0] (List.Perm.refl _) (List.pairwise_singleton ..)
  exact ao this
 ·rw[if_neg h2,if_neg h2]
  have ZZ:2<=vs.length:=by exact RC QD Hb fC h2
  obtain⟨p,Qy,Lc,hp3,hp4⟩:=Ap ZZ Hb (λi=>keys.getD i 0) hd
  refine aa (EM x6 (by assumption) ?_)
  refine aa (dD (kat_run (Q:=λQF s'=>s'={s with heap:=((s.heap.update a (c9 λ_=>#[])).push (seqObj "tuple" vs.toArray 0)).push (seqObj "list" #[] 0)}/\arrOf QF=p.map (kas_item (vs.toArray.zip vs.toArray))/\failedOf QF=none) (G:=λp' s'=>p'=p/\s'={s with heap:=((s.heap.update a (c9 λ_=>#[])).push (seqObj "tuple" vs.toArray 0)).push (seqObj "list" #[] 0)})
   rfl ZZ (by exact aN 0x5c0109212a0201 tt Hb) (λp' QF s' a1 a2 a3 a4=>⟨a4.2,a4.1▸a2,a3⟩) (tV (n:=vs.length) (λi j C hi hj rr hc=>Ln x6 hi hj (hd i j hi hj rr) hc) _ Qy ⟨rfl,rfl⟩)) ?_ λ_ _ e=>e)
  rintro⟨⟨⟩,QF⟩ s' ⟨rfl,har,hf⟩
  dsimp only
  have Xo:=kat_snds rfl har
  rw[Xo]
  refine aa (Jw QE rfl ?_)
  refine aa (Dz QE rfl ?_ (fD _) (by rw[ff,ai,fi,hp3,bu]; exact aN 0xb8021a06108421094001 tt Hb))
  rw[hf]
  simp only[bne_self_eq_false,cb,if_false]
  exact ao (h p.toList Lc hp4)
theorem Aq{l:Addr}{vs:List Value}{keys:List Nat}{Q:Value->Shared->Prop}(hl:s.heap.IsList l vs.toArray)(x:kr s.heap vs keys)(QD:1<=vs.length)(Hb:vs.length<=4)
 (hd:∀i j,i<vs.length->j<vs.length->i≠j->keys.getD i 0≠keys.getD j 0)
 (h:∀p:List Nat,p.Perm (aB vs.length)->(p.Pairwise λi j=>keys.getD i 0<keys.getD j 0)->Q (.ref (s.heap.objs.size+1)) {s with heap:=sortedAll s.heap vs (zK (p.map λi=>vs.getD i d7))}):
 wpAny (model prog w) A (call (.builtin "sorted") [.ref l]) Q E s:=by
 refine Calls.call_function_entry kind_sorted plain_sorted entry_sorted (args_sorted1 _) ?_
 unfold Builtin.«sorted»
 refine aa (m:=checkCount "sorted" 1 1 _) (ao ?_)
 refine aa (collect_list hl ?_ (by rw[bu]; exact aN 0x2e0084308421084801 tt Hb))
 refine aa (oG ?_ (by rw[bu]; show vs.length<=_; exact aN 0x2e0084308421084801 tt Hb))
 have fC:((s.heap.push (seqObj "list" #[] 0)).update s.heap.objs.size (c9 (·++vs.toArray))).objs.size=s.heap.objs.size+1:=by
  rw[j4,size_push']
 have K9:(((s.heap.push (seqObj "list" #[] 0)).update s.heap.objs.size (c9 (·++vs.toArray))).push (seqObj "list" vs.toArray 0)).get? (s.heap.objs.size+1)=some (seqObj "list" vs.toArray 0):=by
  rw[<-fC]; exact bC _ rfl
 have keep:∀b o,s.heap.get? b=some o->(((s.heap.push (seqObj "list" #[] 0)).update s.heap.objs.size (c9 (·++vs.toArray))).push (seqObj "list" vs.toArray 0)).get? b=some o:=λb o q=>by
  have kk:b<s.heap.objs.size:=bJ q
  rw[hJ _ _ _ (by rw[fC]; exact bg (jz kk)),DM _ _ _ _ (bg kk),hJ _ _ _ (bg kk)]
  exact q
 show wpAny _ _ _ _ _ {s with heap:=((s.heap.push (seqObj "list" #[] 0)).update s.heap.objs.size (c9 (·++vs.toArray))).push (seqObj "list" vs.toArray 0)}
 rw[fC]
 refine aa (aL (kW slot_list_sort ⟨_,K9,rfl⟩ entry_list_sort (vm (s:={s with heap:=((s.heap.push (seqObj "list" #[] 0)).update s.heap.objs.size (c9 (·++vs.toArray))).push (seqObj "list" vs.toArray 0)}) K9 (x.keep keep) QD Hb hd λp a1 a2=>⟨_,rfl,?_⟩) (args_list_sort _)))
 exact ao ⟨_,rfl,h p a1 a2⟩
end
noncomputable def lP(p:Nat×Bool):D:= .tup [.str (aS [p.1]), .bool p.2]
section
variable {W:Wd}{f o:Fz}{s:Shared}
theorem bQ.JQ{f:Fz}{ds:List D}{vs:List Value}(h:bQ f ds vs):∀p:List Nat,(∀i∈p,i<ds.length)->bQ f (p.map λi=>ds.getD i .none) (p.map λi=>vs.getD i d7)
 |[],_=>rfl
 |i::p,hp=>by
  have hi:=hp i (.head _)
  obtain⟨v,e,hv⟩:=h.get (i:=i) (d:=ds[i]) (aj hi)
  refine⟨_,_,rfl,?_,bQ.JQ h p λj hj=>hp j (.tail _ hj)⟩
  dsimp only
  rw[ak,ak,e,aj hi]
  exact hv
theorem yD{A:Around}{ds out:List (Nat×Bool)}(h1:1<=ds.length)(h4:ds.length<=4)(hd:(ds.map (·.1)).Nodup)(hp:out.Perm ds)(hs:out.Pairwise λa b=>a.1<b.1):mf W A (.builtin "sorted") [.list (ds.map lP)] (.list (out.map lP)):=λf o s vs S Lo Q E h=>by
 obtain⟨v,r,rfl,⟨a,ob,us,m,rfl,e1,e2,e3,e4⟩,e5⟩:=Lo
 obtain rfl:r=[]:=e5
 have hlen:us.length=ds.length:=by rw[e4.length,ai]
 have hx:kr s.heap us (ds.map (·.1)):=λi hi=>by
  have vT:i<ds.length:=hlen▸hi
  obtain⟨v,g1,g2⟩:=e4.get (i:=i) (d:=lP ds[i]) (by rw[av,aj vT]; rfl)
  obtain⟨b,ob',ws,n',rfl,k1,k2,k3,k4⟩:=g2
  obtain⟨w1,r1,rfl,⟨t,rfl⟩,w2,r2,rfl,hb,hr⟩:=k4
  obtain rfl:r2=[]:=hr
  refine⟨b,ob',_,n',t,g1,S.sub _ _ k1,k2,k3,rfl,?_⟩
  have:(ds.map (·.1)).getD i 0=(ds[i]).1:=by rw[ak,av,aj vT]; rfl
  rw[this]; rfl
 have Oc:∀i j,i<us.length->j<us.length->i≠j->(ds.map (·.1)).getD i 0≠(ds.map (·.1)).getD j 0:=λi j hi hj rr e=>by
  have vT:i<(ds.map (·.1)).length:=by rw[ai,<-hlen]; exact hi
  have BN:j<(ds.map (·.1)).length:=by rw[ai,<-hlen]; exact hj
  rw[ak,ak,aj vT,aj BN] at e
  have Hc:=List.pairwise_iff_getElem.mp hd
  rcases bj rr with q|q
  ·exact Hc i j vT BN q (by simpa using e)
  ·exact Hc j i BN vT q (by simpa using e.symm)
 refine Aq (vs:=us) ⟨ob,S.sub _ _ e1,e2.1,m,e3⟩ hx (by exact aX 0x4010828108681 tt h1 (ah hlen.symm)) (by exact aX 36342940621857 tt h4 (ah hlen)) Oc λp a1 a2=>?_
 obtain⟨e,he⟩:=sortedAll_at s.heap us (zK (p.map λi=>us.getD i d7))
 have hn:s.heap.get? (s.heap.objs.size+1)=none:=by
  refine none_of λy q=>?_
  have q':@LT.lt Nat _ (s.heap.objs.size+1) s.heap.objs.size:=bJ q; (first|lia|omega)
 obtain⟨lf,S'⟩:=S.Ep (tk:=s.toks) (λ_ _=>sortedAll_old) hn he
 have jm:∀i∈p,i<ds.length:=λi hi=>by have:=aW.mp (a1.subset hi); exact cG 0x2828042100421a0a01 tt (ah hlen) this
 have en:p.map (λi=>ds.getD i (0,false))=out:=by
  have q1:(p.map λi=>ds.getD i (0,false)).Perm ds:=by
   have:=a1.map λi=>ds.getD i (0,false)
   rw[hlen] at this
   have e:(aB ds.length).map (λi=>ds.getD i (0,false))=ds:=by
    apply jt
    intro k
    rw[av]
    by_cases hk:k<ds.length
    ·rw[cQ hk,aj hk]
     simp[ak,hk]
    ·rw[cf (by simp; exact Nn hlen hk),cf (by exact Nn hlen hk)]; rfl
   rw[e] at this; exact this
  refine(q1.trans hp.symm).eq_of_pairwise (le:=λa b=>a.1<b.1) (λx y _ _ h1 h2=>absurd h1 (by exact RE h1 h2)) ?_ hs
  rw[r8]
  refine a2.imp_of_mem fun{i j} hi hj rr=>?_
  have vT:=jm i hi
  have BN:=jm j hj
  rw[ak,ak,av,av,aj vT,aj BN] at rr
  rw[ak,ak,aj vT,aj BN]
  exact rr
 have hD:out.map lP=p.map λi=>(ds.map lP).getD i .none:=by
  rw[<-en,aM]
  refine ef λi hi=>?_
  have vT:=jm i hi
  simp[ak,vT]
 refine h _ _ _ lf S' ⟨_,_,_,e,rfl,Fz.aJ ..,⟨rfl,rfl,rfl⟩,rfl,?_⟩
 rw[hD]
 exact(bQ.JQ (e4.mono lf) p λi hi=>by rw[ai]; exact jm i hi)
end
end
end
section
set_option tactic.hygienic true
noncomputable section
noncomputable abbrev pw:gu:=PySem.Challenge.pw_rs0233_01
noncomputable def Xp{α:Type}(d:α):List α->Nat->α
 |[],_=>d
 |a::_,0=>a
 |_::l,n+1=>Xp d l n
noncomputable def nB(i:Nat):Stmt:=Xp (.Pass default) pw.main.body i
noncomputable def qZ(i j:Nat):Stmt:=match nB i with
 | .ClassDef _ _ _ body _ _ _ _ _ _ _=>Xp (.Pass default) body j
 |s=>s
noncomputable abbrev vS(x:Str)(t:Nat):Value:= .str x t
noncomputable abbrev vI(i:Int):Value:= .int i 0
noncomputable abbrev vR(a:Addr):Value:= .ref a
noncomputable abbrev vE(P:Params)(k:Str)(t:Nat)(v:Value):cz:=⟨dw P k, .str k t,v⟩
noncomputable def fO(st:Stmt)(q:Str)(dV pm:Value)(cd:Addr):Obj:=match st with
 | .FunctionDef name args body _ _ _ scope _ _ _=>{cls:= .type "function",data:= .func {name:=name,qualname:=q,params:=args,body:= .stmts body,scope:=scope,globals:=3,closure:=[],defaults:=dV,kwdefaults:= .none,pyModule:=pm,code:= .ref cd}}
 |_=>default
noncomputable def cO(n:Str)(t:Nat)(q:Str)(t2 t3:Nat)(vs:List Value)(t4:Nat):Obj:={cls:= .type "code",data:= .fields (.str n t:: .str q t2:: .str "/claim/cut.py" t3::(vs++[.str "/claim/cut.py" t4])).toArray}
noncomputable def HK(P:Params):Frag:=[
(2,{cls:= .none,data:= .dict #[vE P "\x69mport.loaded._sre" 183 (.bool true),vE P "class._frozen_importlib.BuiltinImporter" 185 (vR 14),vE P "watched.\x69mport" 206 (vR 18),vE P "class._frozen_importlib.ModuleSpec" 216 (vR 22),vE P "sys.modules.booked-epoch" 245 (vI 3),vE P "\x69mport.later-laid._sre" 270 (.bool true),vE P "watched.library" 272 (vR 27),vE P "watched.library-objects" 0 (vS "\x0c" 0),vE P "watched.library-deep._sre" 273 (vS "\x04\x00\x00\x0b\x04\x00\x00\x0b\x04\x00\x00\x03\x04\x00\x00\x0b\x08\x04dict\x02" 0),vE P "type.__subclasses__.Exception.0" 341 (vI 76),vE P "type.__subclasses__.Exception.n" 342 (vI 1)] 11}),
 (3,{cls:= .type "dict",data:= .dict #[vE P "__name__" 165 (vS "law_rs0233_01" 934),vE P "__doc__" 166 .none,vE P "__package__" 167 .none,vE P "__loader__" 168 (.builtin "__main__.__loader__#opaque"),vE P "__spec__" 169 .none,vE P "__annotations__" 170 (vR 6),vE P "__builtins__" 171 (vR 4),vE P "__file__" 173 (vS "/claim/cut.py" 172),vE P "__cached__" 174 .none,vE P "_sre" 275 (vR 12),vE P "_wall" 288 (vR 38),vE P "NannyNag" 344 (vR 76),vE P "Whitespace" 450 (vR 141),vE P "format_witnesses" 459 (vR 152),vE P "LPAR" 463 (.int 7 462),vE P "RPAR" 465 (.int 8 464),vE P "LSQB" 467 (.int 9 466),vE P "RSQB" 469 (.int 10 468),vE P "COLON" 471 (.int 11 470),vE P "COMMA" 473 (.int 12 472),vE P "SEMI" 475 (.int 13 474),vE P "PLUS" 477 (.int 14 476),vE P "MINUS" 479 (.int 15 478),vE P "STAR" 481 (.int 16 480),vE P "SLASH" 483 (.int 17 482),vE P "VBAR" 485 (.int 18 484),vE P "AMPER" 487 (.int 19 486),vE P "LESS" 489 (.int 20 488),vE P "GREATER" 491 (.int 21 490),vE P "EQUAL" 493 (.int 22 492),vE P "DOT" 495 (.int 23 494),vE P "PERCENT" 497 (.int 24 496),vE P "LBRACE" 499 (.int 25 498),vE P "RBRACE" 501 (.int 26 500),vE P "EQEQUAL" 503 (.int 27 502),vE P "NOTEQUAL" 505 (.int 28 504),vE P "LESSEQUAL" 507 (.int 29 506),vE P "GREATEREQUAL" 509 (.int 30 508),vE P "TILDE" 511 (.int 31 510),vE P "CIRCUMFLEX" 513 (.int 32 512),vE P "LEFTSHIFT" 515 (.int 33 514),vE P "RIGHTSHIFT" 517 (.int 34 516),vE P "DOUBLESTAR" 519 (.int 35 518),vE P "PLUSEQUAL" 521 (.int 36 520),vE P "MINEQUAL" 523 (.int 37 522),vE P "STAREQUAL" 525 (.int 38 524),vE P "SLASHEQUAL" 527 (.int 39 526),vE P "PERCENTEQUAL" 529 (.int 40 528),vE P "AMPEREQUAL" 531 (.int 41 530),vE P "VBAREQUAL" 533 (.int 42 532),vE P "CIRCUMFLEXEQUAL" 535 (.int 43 534),vE P "LEFTSHIFTEQUAL" 537 (.int 44 536),vE P "RIGHTSHIFTEQUAL" 539 (.int 45 538),vE P "DOUBLESTAREQUAL" 541 (.int 46 540),vE P "DOUBLESLASH" 543 (.int 47 542),vE P "DOUBLESLASHEQUAL" 545 (.int 48 544),vE P "AT" 547 (.int 49 546),vE P "ATEQUAL" 549 (.int 50 548),vE P "RARROW" 551 (.int 51 550),vE P "ELLIPSIS" 553 (.int 52 552),vE P "COLONEQUAL" 555 (.int 53 554),vE P "EXCLAMATION" 557 (.int 54 556),vE P "NT_OFFSET" 559 (.int 256 558),vE P "EXACT_TOKEN_TYPES" 656 (vR 153),vE P "ISTERMINAL" 663 (vR 162),vE P "ISNONTERMINAL" 670 (vR 169),vE P "tspecials" 706 (vR 174),vE P "_name_disallowed_re" 732 (vR 179),vE P "_value_disallowed_re" 766 (vR 184),vE P "_formatparam" 776 (vR 192),vE P "Headers" 933 (vR 313),vE P "_law_said" 941 (vR 322),vE P "_law_closure" 947 (vR 327),vE P "_law_leads" 953 (vR 332),vE P "_law_column" 963 (vR 339),vE P "_law_read" 969 (vR 344),vE P "_law_laid" 975 (vR 349),vE P "_law_proved" 981 (vR 354),vE P "_law_words" 987 (vR 359),vE P "_law_nags" 993 (vR 364),vE P "law" 999 (vR 369)] 81}),
 (37,cO "_wall" 282 "_wall" 283 284 [vI 2,vI 1,vI 0,vI 0,vI 3,vR 32, .bool true,vI 276,vR 33, .none,vR 34,vR 35,vR 36,vI 286,vI 2] 287),
 (38,fO (nB 1) "_wall" (.none) (vS "__main__" 164) 37),
 (51,cO "__init__" 303 "NannyNag.__init__" 304 305 [vI 8,vI 4,vI 0,vI 0,vI 3,vR 46, .bool true,vI 276,vR 47, .none,vR 48,vR 49,vR 50,vI 310,vI 8] 311),
 (52,fO (qZ 3 0) "NannyNag.__init__" (.none) (vS "cpy313.tabnanny" 289) 51),
 (58,cO "get_lineno" 313 "NannyNag.get_lineno" 314 315 [vI 11,vI 1,vI 0,vI 0,vI 3,vR 53, .bool true,vI 276,vR 54, .none,vR 55,vR 56,vR 57,vI 317,vI 11] 318),
 (59,fO (qZ 3 1) "NannyNag.get_lineno" (.none) (vS "cpy313.tabnanny" 289) 58),
 (65,cO "get_msg" 320 "NannyNag.get_msg" 321 322 [vI 14,vI 1,vI 0,vI 0,vI 3,vR 60, .bool true,vI 276,vR 61, .none,vR 62,vR 63,vR 64,vI 324,vI 14] 325),
 (66,fO (qZ 3 2) "NannyNag.get_msg" (.none) (vS "cpy313.tabnanny" 289) 65),
 (72,cO "get_line" 327 "NannyNag.get_line" 328 329 [vI 17,vI 1,vI 0,vI 0,vI 3,vR 67, .bool true,vI 276,vR 68, .none,vR 69,vR 70,vR 71,vI 331,vI 17] 332),
 (73,fO (qZ 3 3) "NannyNag.get_line" (.none) (vS "cpy313.tabnanny" 289) 72),
 (75,{cls:= .type "dict",data:= .dict #[vE P "__module__" 298 (vS "cpy313.tabnanny" 289),vE P "__firstlineno__" 302 (.int 6 301),vE P "__init__" 312 (vR 52),vE P "get_lineno" 319 (vR 59),vE P "get_msg" 326 (vR 66),vE P "get_line" 333 (vR 73),vE P "__static_attributes__" 337 (vR 74),vE P "__weakref__" 339 (vR 77),vE P "__doc__" 340 .none] 3}),
 (76,{cls:= .type "type",data:= .cls {name:=J "NannyNag",bases:=[.type "Exception"],mro:=[vR 76, .type "Exception", .type "BaseException", .type "object"],ns:=75,qualname:=J "NannyNag"},slots:=#[some (vR 39),none,some (vS "NannyNag" 291),some (vS "NannyNag" 299),some (.builtin "Exception.__new__"),some (.bool true)]}),
 (77,{cls:= .type "getset_descriptor",data:= .fields #[vS "__weakref__" 338,vR 76, .builtin "ExceptionGroup.__weakref__", .none]}),
 (95,cO "__init__" 362 "Whitespace.__init__" 363 364 [vI 22,vI 2,vI 0,vI 0,vI 3,vR 90, .bool true,vI 276,vR 91, .none,vR 92,vR 93,vR 94,vI 374,vI 22] 375),
 (96,fO (qZ 4 1) "Whitespace.__init__" (.none) (vS "cpy313.tabnanny" 289) 95),
 (102,cO "longest_run_of_spaces" 377 "Whitespace.longest_run_of_spaces" 378 379 [vI 45,vI 1,vI 0,vI 0,vI 3,vR 97, .bool true,vI 276,vR 98, .none,vR 99,vR 100,vR 101,vI 383,vI 45] 384),
 (103,fO (qZ 4 2) "Whitespace.longest_run_of_spaces" (.none) (vS "cpy313.tabnanny" 289) 102),
 (109,cO "indent_level" 386 "Whitespace.indent_level" 387 388 [vI 49,vI 2,vI 0,vI 0,vI 3,vR 104, .bool true,vI 276,vR 105, .none,vR 106,vR 107,vR 108,vI 395,vI 49] 396),
 (110,fO (qZ 4 3) "Whitespace.indent_level" (.none) (vS "cpy313.tabnanny" 289) 109),
 (116,cO "equal" 398 "Whitespace.equal" 399 400 [vI 56,vI 2,vI 0,vI 0,vI 3,vR 111, .bool true,vI 276,vR 112, .none,vR 113,vR 114,vR 115,vI 403,vI 56] 404),
 (117,fO (qZ 4 4) "Whitespace.equal" (.none) (vS "cpy313.tabnanny" 289) 116),
 (123,cO "not_equal_witness" 406 "Whitespace.not_equal_witness" 407 408 [vI 59,vI 2,vI 0,vI 0,vI 3,vR 118, .bool true,vI 276,vR 119, .none,vR 120,vR 121,vR 122,vI 414,vI 59] 415),
 (124,fO (qZ 4 5) "Whitespace.not_equal_witness" (.none) (vS "cpy313.tabnanny" 289) 123),
 (130,cO "less" 417 "Whitespace.less" 418 419 [vI 67,vI 2,vI 0,vI 0,vI 3,vR 125, .bool true,vI 276,vR 126, .none,vR 127,vR 128,vR 129,vI 424,vI 67] 425),
 (131,fO (qZ 4 6) "Whitespace.less" (.none) (vS "cpy313.tabnanny" 289) 130),
 (137,cO "not_less_witness" 427 "Whitespace.not_less_witness" 428 429 [vI 78,vI 2,vI 0,vI 0,vI 3,vR 132, .bool true,vI 276,vR 133, .none,vR 134,vR 135,vR 136,vI 435,vI 78] 436),
 (138,fO (qZ 4 7) "Whitespace.not_less_witness" (.none) (vS "cpy313.tabnanny" 289) 137),
 (140,{cls:= .type "dict",data:= .dict #[vE P "__module__" 352 (vS "cpy313.tabnanny" 289),vE P "__firstlineno__" 356 (.int 19 355),vE P "S" 360 (vS " " 358),vE P "T" 361 (vS "\t" 359),vE P "__init__" 376 (vR 96),vE P "longest_run_of_spaces" 385 (vR 103),vE P "indent_level" 397 (vR 110),vE P "equal" 405 (vR 117),vE P "not_equal_witness" 416 (vR 124),vE P "less" 426 (vR 131),vE P "not_less_witness" 437 (vR 138),vE P "__static_attributes__" 443 (vR 139),vE P "__dict__" 445 (vR 142),vE P "__weakref__" 447 (vR 143),vE P "__doc__" 448 .none] 4}),
 (141,{cls:= .type "type",data:= .cls {name:=J "Whitespace",bases:=[.type "object"],mro:=[vR 141, .type "object"],ns:=140,qualname:=J "Whitespace"},slots:=#[none,none,some (vS "Whitespace" 345),some (vS "Whitespace" 353),some (.builtin "object.__new__"),some (.bool true)]}),
 (142,{cls:= .type "getset_descriptor",data:= .fields #[vS "__dict__" 444,vR 141, .builtin "function.__dict__", .builtin "function.__dict__#set"]}),
 (143,{cls:= .type "getset_descriptor",data:= .fields #[vS "__weakref__" 446,vR 141, .builtin "ExceptionGroup.__weakref__", .none]}),
 (151,cO "format_witnesses" 451 "format_witnesses" 452 453 [vI 85,vI 1,vI 0,vI 0,vI 3,vR 146, .bool true,vI 276,vR 147, .none,vR 148,vR 149,vR 150,vI 457,vI 85] 458),
 (152,fO (nB 5) "format_witnesses" (.none) (vS "cpy313.tabnanny" 289) 151),
 (153,{cls:= .type "dict",data:= .dict #[vE P "!" 560 (.int 54 556),vE P "!=" 562 (.int 28 504),vE P "%" 564 (.int 24 496),vE P "%=" 566 (.int 40 528),vE P "&" 568 (.int 19 486),vE P "&=" 570 (.int 41 530),vE P "(" 572 (.int 7 462),vE P ")" 574 (.int 8 464),vE P "*" 576 (.int 16 480),vE P "**" 578 (.int 35 518),vE P "**=" 580 (.int 46 540),vE P "*=" 582 (.int 38 524),vE P "+" 584 (.int 14 476),vE P "+=" 586 (.int 36 520),vE P "," 588 (.int 12 472),vE P "-" 590 (.int 15 478),vE P "-=" 592 (.int 37 522),vE P "->" 594 (.int 51 550),vE P "." 596 (.int 23 494),vE P "..." 598 (.int 52 552),vE P "/" 600 (.int 17 482),vE P "//" 602 (.int 47 542),vE P "//=" 604 (.int 48 544),vE P "/=" 606 (.int 39 526),vE P ":" 608 (.int 11 470),vE P ":=" 610 (.int 53 554),vE P ";" 612 (.int 13 474),vE P "<" 614 (.int 20 488),vE P "<<" 616 (.int 33 514),vE P "<<=" 618 (.int 44 536),vE P "<=" 620 (.int 29 506),vE P "=" 622 (.int 22 492),vE P "==" 624 (.int 27 502),vE P ">" 626 (.int 21 490),vE P ">=" 628 (.int 30 508),vE P ">>" 629 (.int 34 516),vE P ">>=" 630 (.int 45 538),vE P "@" 631 (.int 49 546),vE P "@=" 632 (.int 50 548),vE P "[" 633 (.int 9 466),vE P "]" 634 (.int 10 468),vE P "^" 635 (.int 32 512),vE P "^=" 636 (.int 43 534),vE P "{" 637 (.int 25 498),vE P "|" 638 (.int 18 484),vE P "|=" 639 (.int 42 532),vE P "}" 640 (.int 26 500),vE P "~" 641 (.int 31 510)] 48}),
 (161,cO "ISTERMINAL" 657 "ISTERMINAL" 658 659 [vI 142,vI 1,vI 0,vI 0,vI 3,vR 156, .bool true,vI 276,vR 157, .none,vR 158,vR 159,vR 160,vI 661,vI 142] 662),
 (162,fO (nB 57) "ISTERMINAL" (.none) (vS "cpy313.token" 460) 161),
 (168,cO "ISNONTERMINAL" 664 "ISNONTERMINAL" 665 666 [vI 144,vI 1,vI 0,vI 0,vI 3,vR 163, .bool true,vI 276,vR 164, .none,vR 165,vR 166,vR 167,vI 668,vI 144] 669),
 (169,fO (nB 58) "ISNONTERMINAL" (.none) (vS "cpy313.token" 460) 168),
 (174,{cls:= .type "re.Pattern",data:= .fields #[vS "[ \\(\\)<>@,;:\\\\\"/\\[\\]\\?=]" 674, .int 32 705,vI 0, .none, .none,vR 173,vI 0]}),
 (178,{cls:= .type "tuple",data:= .seq #[vI 14,vI 10,vI 4,vI 1,vI 1,vI 22,vI 0,vI 31,vI 16,vI 127,vI 0,vI 13,vI 7,vI 22,vI 0,vI 31,vI 16,vI 127,vI 0,vI 1]}),
 (179,{cls:= .type "re.Pattern",data:= .fields #[vS "[\\x00-\\x1F\\x7F]" 708, .int 32 731,vI 0, .none, .none,vR 178,vI 0]}),
 (183,{cls:= .type "tuple",data:= .seq #[vI 14,vI 14,vI 4,vI 1,vI 1,vI 9,vI 4294966783,vI 0,vI 0,vI 2147483648,vI 0,vI 0,vI 0,vI 0,vI 0,vI 13,vI 11,vI 9,vI 4294966783,vI 0,vI 0,vI 2147483648,vI 0,vI 0,vI 0,vI 0,vI 0,vI 1]}),
 (184,{cls:= .type "re.Pattern",data:= .fields #[vS "[\\x00-\\x08\\x0A-\\x1F\\x7F]" 734, .int 32 765,vI 0, .none, .none,vR 183,vI 0]}),
 (185,{cls:= .type "tuple",data:= .seq #[.none, .int 1 767]}),
 (191,cO "_formatparam" 768 "_formatparam" 769 770 [vI 150,vI 3,vI 0,vI 0,vI 3,vR 186, .bool true,vI 276,vR 187, .none,vR 188,vR 189,vR 190,vI 774,vI 150] 775),
 (192,fO (nB 63) "_formatparam" (vR 185) (vS "cpy313.wsgiref.headers" 671) 191),
 (200,{cls:= .type "tuple",data:= .seq #[.none]}),
 (206,cO "__init__" 789 "Headers.__init__" 790 791 [vI 161,vI 2,vI 0,vI 0,vI 3,vR 201, .bool true,vI 276,vR 202, .none,vR 203,vR 204,vR 205,vI 796,vI 161] 797),
 (207,fO (qZ 64 0) "Headers.__init__" (vR 200) (vS "cpy313.wsgiref.headers" 671) 206),
 (213,cO "_convert_string_type" 799 "Headers._convert_string_type" 800 801 [vI 171,vI 2,vI 0,vI 1,vI 3,vR 208, .bool true,vI 276,vR 209, .none,vR 210,vR 211,vR 212,vI 806,vI 171] 807),
 (214,fO (qZ 64 1) "Headers._convert_string_type" (.none) (vS "cpy313.wsgiref.headers" 671) 213),
 (220,cO "__len__" 809 "Headers.__len__" 810 811 [vI 179,vI 1,vI 0,vI 0,vI 3,vR 215, .bool true,vI 276,vR 216, .none,vR 217,vR 218,vR 219,vI 813,vI 179] 814),
 (221,fO (qZ 64 2) "Headers.__len__" (.none) (vS "cpy313.wsgiref.headers" 671) 220),
 (227,cO "__setitem__" 816 "Headers.__setitem__" 817 818 [vI 182,vI 3,vI 0,vI 0,vI 3,vR 222, .bool true,vI 276,vR 223, .none,vR 224,vR 225,vR 226,vI 822,vI 182] 823),
 (228,fO (qZ 64 3) "Headers.__setitem__" (.none) (vS "cpy313.wsgiref.headers" 671) 227),
 (232,cO "__delitem__" 825 "Headers.__delitem__" 826 827 [vI 186,vI 2,vI 0,vI 0,vI 3,vR 229, .bool true,vI 276,vR 230, .none, .none, .none,vR 231,vI 828,vI 186] 829),
 (233,fO (qZ 64 4) "Headers.__delitem__" (.none) (vS "cpy313.wsgiref.headers" 671) 232),
 (239,cO "__getitem__" 831 "Headers.__getitem__" 832 833 [vI 190,vI 2,vI 0,vI 0,vI 3,vR 234, .bool true,vI 276,vR 235, .none,vR 236,vR 237,vR 238,vI 836,vI 190] 837),
 (240,fO (qZ 64 5) "Headers.__getitem__" (.none) (vS "cpy313.wsgiref.headers" 671) 239),
 (246,cO "__contains__" 839 "Headers.__contains__" 840 841 [vI 193,vI 2,vI 0,vI 0,vI 3,vR 241, .bool true,vI 276,vR 242, .none,vR 243,vR 244,vR 245,vI 844,vI 193] 845),
 (247,fO (qZ 64 6) "Headers.__contains__" (.none) (vS "cpy313.wsgiref.headers" 671) 246),
 (251,cO "get_all" 847 "Headers.get_all" 848 849 [vI 196,vI 2,vI 0,vI 0,vI 3,vR 248, .bool true,vI 276,vR 249, .none, .none, .none,vR 250,vI 850,vI 196] 851),
 (252,fO (qZ 64 7) "Headers.get_all" (.none) (vS "cpy313.wsgiref.headers" 671) 251),
 (253,{cls:= .type "tuple",data:= .seq #[.none]}),
 (259,cO "get" 853 "Headers.get" 854 855 [vI 200,vI 3,vI 0,vI 0,vI 3,vR 254, .bool true,vI 276,vR 255, .none,vR 256,vR 257,vR 258,vI 861,vI 200] 862),
 (260,fO (qZ 64 8) "Headers.get" (vR 253) (vS "cpy313.wsgiref.headers" 671) 259),
 (264,cO "keys" 864 "Headers.keys" 865 866 [vI 207,vI 1,vI 0,vI 0,vI 3,vR 261, .bool true,vI 276,vR 262, .none, .none, .none,vR 263,vI 867,vI 207] 868),
 (265,fO (qZ 64 9) "Headers.keys" (.none) (vS "cpy313.wsgiref.headers" 671) 264),
 (269,cO "values" 870 "Headers.values" 871 872 [vI 210,vI 1,vI 0,vI 0,vI 3,vR 266, .bool true,vI 276,vR 267, .none, .none, .none,vR 268,vI 873,vI 210] 874),
 (270,fO (qZ 64 10) "Headers.values" (.none) (vS "cpy313.wsgiref.headers" 671) 269),
 (276,cO "items" 876 "Headers.items" 877 878 [vI 213,vI 1,vI 0,vI 0,vI 3,vR 271, .bool true,vI 276,vR 272, .none,vR 273,vR 274,vR 275,vI 880,vI 213] 881),
 (277,fO (qZ 64 11) "Headers.items" (.none) (vS "cpy313.wsgiref.headers" 671) 276),
 (283,cO "__repr__" 883 "Headers.__repr__" 884 885 [vI 216,vI 1,vI 0,vI 0,vI 3,vR 278, .bool true,vI 276,vR 279, .none,vR 280,vR 281,vR 282,vI 887,vI 216] 888),
 (284,fO (qZ 64 12) "Headers.__repr__" (.none) (vS "cpy313.wsgiref.headers" 671) 283),
 (288,cO "__str__" 890 "Headers.__str__" 891 892 [vI 219,vI 1,vI 0,vI 0,vI 3,vR 285, .bool true,vI 276,vR 286, .none, .none, .none,vR 287,vI 893,vI 219] 894),
 (289,fO (qZ 64 13) "Headers.__str__" (.none) (vS "cpy313.wsgiref.headers" 671) 288),
 (295,cO "__bytes__" 896 "Headers.__bytes__" 897 898 [vI 222,vI 1,vI 0,vI 0,vI 3,vR 290, .bool true,vI 276,vR 291, .none,vR 292,vR 293,vR 294,vI 900,vI 222] 901),
 (296,fO (qZ 64 14) "Headers.__bytes__" (.none) (vS "cpy313.wsgiref.headers" 671) 295),
 (302,cO "setdefault" 903 "Headers.setdefault" 904 905 [vI 225,vI 3,vI 0,vI 0,vI 3,vR 297, .bool true,vI 276,vR 298, .none,vR 299,vR 300,vR 301,vI 909,vI 225] 910),
 (303,fO (qZ 64 15) "Headers.setdefault" (.none) (vS "cpy313.wsgiref.headers" 671) 302),
 (309,cO "add_header" 912 "Headers.add_header" 913 914 [vI 228,vI 3,vI 0,vI 0,vI 11,vR 304, .bool true,vI 276,vR 305, .none,vR 306,vR 307,vR 308,vI 922,vI 228] 923),
 (310,fO (qZ 64 16) "Headers.add_header" (.none) (vS "cpy313.wsgiref.headers" 671) 309),
 (312,{cls:= .type "dict",data:= .dict #[vE P "__module__" 784 (vS "cpy313.wsgiref.headers" 671),vE P "__firstlineno__" 788 (.int 159 787),vE P "__init__" 798 (vR 207),vE P "_convert_string_type" 808 (vR 214),vE P "__len__" 815 (vR 221),vE P "__setitem__" 824 (vR 228),vE P "__delitem__" 830 (vR 233),vE P "__getitem__" 838 (vR 240),vE P "__contains__" 846 (vR 247),vE P "get_all" 852 (vR 252),vE P "get" 863 (vR 260),vE P "keys" 869 (vR 265),vE P "values" 875 (vR 270),vE P "items" 882 (vR 277),vE P "__repr__" 889 (vR 284),vE P "__str__" 895 (vR 289),vE P "__bytes__" 902 (vR 296),vE P "setdefault" 911 (vR 303),vE P "add_header" 924 (vR 310),vE P "__static_attributes__" 926 (vR 311),vE P "__dict__" 928 (vR 314),vE P "__weakref__" 930 (vR 315),vE P "__doc__" 931 .none] 4}),
 (313,{cls:= .type "type",data:= .cls {name:=J "Headers",bases:=[.type "object"],mro:=[vR 313, .type "object"],ns:=312,qualname:=J "Headers"},slots:=#[none,none,some (vS "Headers" 777),some (vS "Headers" 785),some (.builtin "object.__new__"),some (.bool true)]}),
 (314,{cls:= .type "getset_descriptor",data:= .fields #[vS "__dict__" 927,vR 313, .builtin "function.__dict__", .builtin "function.__dict__#set"]}),
 (315,{cls:= .type "getset_descriptor",data:= .fields #[vS "__weakref__" 929,vR 313, .builtin "ExceptionGroup.__weakref__", .none]}),
 (321,cO "_law_said" 936 "_law_said" 937 938 [vI 242,vI 1,vI 0,vI 0,vI 3,vR 318, .bool true,vI 276,vR 319, .none, .none, .none,vR 320,vI 939,vI 242] 940),
 (322,fO (nB 66) "_law_said" (.none) (vS "law_rs0233_01" 934) 321),
 (326,cO "_law_closure" 942 "_law_closure" 943 944 [vI 245,vI 1,vI 0,vI 0,vI 3,vR 323, .bool true,vI 276,vR 324, .none, .none, .none,vR 325,vI 945,vI 245] 946),
 (327,fO (nB 67) "_law_closure" (.none) (vS "law_rs0233_01" 934) 326),
 (331,cO "_law_leads" 948 "_law_leads" 949 950 [vI 253,vI 2,vI 0,vI 0,vI 3,vR 328, .bool true,vI 276,vR 329, .none, .none, .none,vR 330,vI 951,vI 253] 952),
 (332,fO (nB 68) "_law_leads" (.none) (vS "law_rs0233_01" 934) 331),
 (338,cO "_law_column" 954 "_law_column" 955 956 [vI 271,vI 2,vI 0,vI 0,vI 3,vR 333, .bool true,vI 276,vR 334, .none,vR 335,vR 336,vR 337,vI 961,vI 271] 962),
 (339,fO (nB 69) "_law_column" (.none) (vS "law_rs0233_01" 934) 338),
 (343,cO "_law_read" 964 "_law_read" 965 966 [vI 276,vI 1,vI 0,vI 0,vI 3,vR 340, .bool true,vI 276,vR 341, .none, .none, .none,vR 342,vI 967,vI 276] 968),
 (344,fO (nB 70) "_law_read" (.none) (vS "law_rs0233_01" 934) 343),
 (348,cO "_law_laid" 970 "_law_laid" 971 972 [vI 287,vI 2,vI 0,vI 0,vI 3,vR 345, .bool true,vI 276,vR 346, .none, .none, .none,vR 347,vI 973,vI 287] 974),
 (349,fO (nB 71) "_law_laid" (.none) (vS "law_rs0233_01" 934) 348),
 (353,cO "_law_proved" 976 "_law_proved" 977 978 [vI 293,vI 2,vI 0,vI 0,vI 3,vR 350, .bool true,vI 276,vR 351, .none, .none, .none,vR 352,vI 979,vI 293] 980),
 (354,fO (nB 72) "_law_proved" (.none) (vS "law_rs0233_01" 934) 353),
 (358,cO "_law_words" 982 "_law_words" 983 984 [vI 302,vI 1,vI 0,vI 0,vI 3,vR 355, .bool true,vI 276,vR 356, .none, .none, .none,vR 357,vI 985,vI 302] 986),
 (359,fO (nB 73) "_law_words" (.none) (vS "law_rs0233_01" 934) 358),
 (363,cO "_law_nags" 988 "_law_nags" 989 990 [vI 304,vI 3,vI 0,vI 0,vI 3,vR 360, .bool true,vI 276,vR 361, .none, .none, .none,vR 362,vI 991,vI 304] 992),
 (364,fO (nB 74) "_law_nags" (.none) (vS "law_rs0233_01" 934) 363),
 (368,cO "law" 994 "law" 995 996 [vI 315,vI 1,vI 0,vI 0,vI 3,vR 365, .bool true,vI 276,vR 366, .none, .none, .none,vR 367,vI 997,vI 315] 998),
 (369,fO (nB 75) "law" (.none) (vS "law_rs0233_01" 934) 368)]
noncomputable def Xq:List Addr:=[2,3,37,38,51,52,58,59,65,66,72,73,75,76,77,95,96,102,103,109,110,116,117,123,124,130,131,137,138,140,141,142,143,151,152,153,161,162,168,169,174,178,179,183,184,185,191,192,200,206,207,213,214,220,221,227,228,232,233,239,240,246,247,251,252,253,259,260,264,265,269,270,276,277,283,284,288,289,295,296,302,303,309,310,312,313,314,315,321,322,326,327,331,332,338,339,343,344,348,349,353,354,358,359,363,364,368,369]
end
noncomputable def BO:List Obj->BT->Nat->Option (BT×Nat)
 |[],t,n=>some (t,n)
 |o::os,t,n=>match((t.ins n o).get n).isSome with
  |true=>BO os (t.ins n o) (n+1)
  |false=>none
theorem yE(life:Life):∀(os:List Obj) (t:BT) (n:Nat) (t':BT) (n':Nat),BO os t n=some (t',n')->zF t' n' life=⟨(zF t n life).objs++os.toArray,life⟩
 |[],t,n,t',n',h=>by cases h; simp[zF]
 |o::os,t,n,t',n',h=>by
  unfold BO at h
  cases e:((t.ins n o).get n).isSome with
  |false=>rw[e] at h; cases h
  |true=>
   rw[e] at h
   rw[yE life os _ _ _ _ h,absHeap_ins e]
   show(⟨(Hq _ o).objs++_,_⟩:Heap)=_
   congr 1
   show(zF t n life).objs.push o++os.toArray=_
   simp
noncomputable def toT(s:Shared):Option jq:=match BO s.heap.objs.toList .nil 0 with
 |some (t,n)=>some ⟨t,n,s.heap.life,s.gens,s.drawn,s.toks,s.os⟩
 |none=>none
theorem EN{s:Shared}{a:jq}(h:toT s=some a):a.abs=s:=by
 unfold toT at h
 split at h
 ·rename_i t n e
  cases h
  have:=yE s.heap.life _ _ _ _ _ e
  show(⟨zF t n s.heap.life,_,_,_,_⟩:Shared)=s
  rw[this]
  obtain⟨⟨⟨l⟩,life⟩,g,d,k,o⟩:=s
  simp[zF,BT.list]
 ·cases h
noncomputable abbrev Z0:=jq->Thread->Option (jq×Thread)
noncomputable def EO(Od:Z0)(ok Z1:Thread->Bool):Nat->jq->Thread->Option jq
 | 0,_,_=>none
 |n+1,s,t=>match Z1 t with
  |true=>some s
  |false=>match ok t with
   |false=>none
   |true=>match Od s t with
    |some (s',t')=>EO Od ok Z1 n s' t'
    |none=>none
theorem BP{tb:String->Option Builtin}{p:gu}{w:World}{Ar:Nat}{ann:Option Value}:∀{n:Nat} {s r:jq} {t:Thread},EO (stepT (denote tb) p w) (stepOk Ar ann) through n s t=some r->topRun tb p w Ar ann n s.abs t=some r.abs
 | 0,_,_,_,h=>by cases h
 |n+1,s,r,t,h=>by
  unfold EO at h
  unfold topRun
  cases he:through t with
  |true=>rw[he] at h; cases h; rfl
  |false=>
   rw[he] at h
   cases hk:stepOk Ar ann t with
   |false=>rw[hk] at h; cases h
   |true=>
    rw[hk] at h
    cases hs:stepT (denote tb) p w s t with
    |none=>rw[hs] at h; cases h
    |some r=>obtain⟨sW,Xr⟩:=r; rw[hs] at h; rw[stepT_spec hs]; exact BP h
noncomputable def EP(Od:Z0):Nat->jq->Thread->Option jq
 | 0,_,_=>none
 |n+1,s,t=>match t.atExitBegin with
  |some []=>some s
  |some (_::_)=>none
  |none=>match Od s t with
   |some (s',t')=>EP Od n s' t'
   |none=>none
theorem BQ{tb:String->Option Builtin}{p:gu}{w:World}:∀{n:Nat} {s r:jq} {t:Thread},EP (stepT (denote tb) p w) n s t=some r->importEnds tb p w n s.abs t=some r.abs
 | 0,_,_,_,h=>by cases h
 |n+1,s,r,t,h=>by
  unfold EP at h
  unfold importEnds
  cases he:t.atExitBegin with
  |some l=>
   rw[he] at h
   cases l with
   |nil=>cases h; rfl
   |cons _ _=>cases h
  |none=>
   rw[he] at h
   cases hs:stepT (denote tb) p w s t with
   |none=>rw[hs] at h; cases h
   |some r=>obtain⟨sW,Xr⟩:=r; rw[hs] at h; rw[stepT_spec hs]; exact BQ h
noncomputable def Lp(imp:jq->Thread->Option jq)(fence:Shared->Option Shared)(asl:Shared->Bool)(top:Nat->Option Value->jq->Thread->Option jq)(ann:Heap->Option Value)(good:Shared->Shared->Bool)(st:Shared×Thread)(t1:Thread):Option Shared:=
 match toT st.1 with
 |none=>none
 |some a=>match imp a st.2 with
  |none=>none
  |some b=>match fence b.abs with
   |none=>none
   |some mP=>match asl mP with
    |false=>none
    |true=>match toT mP with
     |none=>none
     |some c=>match top mP.heap.objs.size (ann mP.heap) c t1 with
      |none=>none
      |some d=>match good mP d.abs with
       |true=>some d.abs
       |false=>none
theorem H7{tb:String->Option Builtin}{p:gu}{w:World}{N:Nat}{s:Shared}
 (h:Lp (EP (stepT (denote tb) (opening p) w) N) (fenceModules? p) (λmP=>mP.heap.isNs bV&&mP.gens.size==0) (λAr ann=>EO (stepT (denote tb) p w) (stepOk Ar ann) through N) (λh=>h.nsMap bV "__annotations__")
  (λmP cU=>staticsOk (zt p.main.body) mP.heap cU.heap&&namesBound p cU.heap&&gensDone cU&&laidKept mP.heap cU.heap) (start (opening p)) (topStub p)=some s):openEnds tb p w N=some s:=by
 unfold Lp at h
 split at h
 ·cases h
 rename_i a ha
 split at h
 ·cases h
 rename_i b hb
 split at h
 ·cases h
 rename_i mP Oe
 split at h
 ·cases h
 rename_i Of
 split at h
 ·cases h
 rename_i c hc
 split at h
 ·cases h
 rename_i d hd
 split at h
 ·rename_i hg
  cases h
  have h1:=BQ hb
  rw[EN ha] at h1
  have h2:=BP hd
  rw[EN hc] at h2
  dsimp only at Of hg h2
  unfold openEnds fencedOpening topFrom
  rw[h1,jM,Oe,jM,Of]
  dsimp only
  rw[h2,jM,hg]
 ·cases h
noncomputable section
noncomputable abbrev QG:RowW:=fW.row.toRowW
noncomputable def vw:gu:={pw with main:={pw.main with body:=[nB 0,nB 75]}}
noncomputable def LS:List Str:=(["_wall","NannyNag","Whitespace","format_witnesses","LPAR","RPAR","LSQB","RSQB","COLON","COMMA","SEMI","PLUS","MINUS","STAR","SLASH","VBAR","AMPER","LESS","GREATER","EQUAL","DOT","PERCENT","LBRACE","RBRACE","EQEQUAL","NOTEQUAL","LESSEQUAL","GREATEREQUAL","TILDE","CIRCUMFLEX","LEFTSHIFT","RIGHTSHIFT","DOUBLESTAR","PLUSEQUAL","MINEQUAL","STAREQUAL","SLASHEQUAL","PERCENTEQUAL","AMPEREQUAL","VBAREQUAL","CIRCUMFLEXEQUAL","LEFTSHIFTEQUAL","RIGHTSHIFTEQUAL","DOUBLESTAREQUAL","DOUBLESLASH","DOUBLESLASHEQUAL","AT","ATEQUAL","RARROW","ELLIPSIS","COLONEQUAL","EXCLAMATION","NT_OFFSET","EXACT_TOKEN_TYPES","ISTERMINAL","ISNONTERMINAL","tspecials","_name_disallowed_re","_value_disallowed_re","_formatparam","Headers","_law_said","_law_closure","_law_leads","_law_column","_law_read","_law_laid","_law_proved","_law_words","_law_nags"]:List String).map J
noncomputable def HX(P:Params):Frag:=HK P++[(147,⟨.none,none, .fields #[],#[]⟩)]
noncomputable def Og:List Addr:=Xq++[147]
noncomputable abbrev rV:Hook:=kHook HX Og (λ_=>by kernel_rfl)
noncomputable abbrev Xs(s:Shared):Bool:=xlAt vw [] s&&recOk (RowW.records QG) s
noncomputable def tX(w:World):Prop:=(Lp (EP (stepT (denote treeTable) (opening pw) w) 8000) (fenceModules? pw) (λmP=>mP.heap.isNs bV&&mP.gens.size==0) (λAr ann=>EO (stepT (denote treeTable) pw w) (stepOk Ar ann) through 8000) (λh=>h.nsMap bV "__annotations__")
 (λmP cU=>staticsOk (zt pw.main.body) mP.heap cU.heap&&namesBound pw cU.heap&&gensDone cU&&laidKept mP.heap cU.heap) (start (opening pw)) (topStub pw)).map (λs=>(openSeen vw LS (zt pw.main.body) Xs true s,Og.map s.heap.get?))=some (openGood vw LS,(HX w.params).map λp=>some p.2)
set_option maxHeartbeats 0 in
theorem Oh(w:World):tX (w.withFollow "special-get-raises" false):=by
 unfold tX
 rw[nY,nX,nJ,nI,nG,nH,nW,nV,nZ]
 kernel_rfl
set_option maxHeartbeats 0 in
theorem Oi(w:World):tX (w.withFollow "special-get-raises" true):=by
 unfold tX
 rw[nY,nX,nJ,nI,nG,nH,nW,nV,nZ]
 kernel_rfl
theorem Oj:LeftO QG.prog vw LS Xs rV.obs rV.val 8000:=λw=>by
 have h:tX w:=byRow2 "special-get-raises" (P:=tX) Oh Oi w
 unfold tX at h
 obtain⟨s,h1,h2⟩:=fo.mp h
 have h3:=H7 h1
 show(openEnds treeTable pw w 8000).map _=_
 rw[h3]
 exact congrArg some h2
noncomputable def D0:DefRec:=((defOf vw (J "law")).get (by kernel_rfl)).1
theorem hd(walk:WalkO vw LS (XL vw []) rV.says QG D0 [] λf vs=>PySem.call f vs):fW.Holds:=by
 refine holds_law ?_ λXu=>?_
 ·rw[PySem.W.Fast.te9446332074065402090]; kernel_rfl
 refine holds_open (q:=vw) (loose:=LS) (Xt:=Xs) (XP:=XL vw []) (Yf:=rV.obs) (Ya:=rV.val) (YP:=rV.says) (N:=8000) Oj rV.of rV.keeps (λs e=>xl_of s (c0.mp e).1) XL.keeps (by kernel_rfl) (by kernel_rfl) (by kernel_rfl) (λs e=>recFacts_of (c0.mp e).2) rfl Xu (by decide+kernel) ⟨rfl,rfl,rfl,rfl,rfl,by decide+kernel⟩ ?_ walk
 w_witness2
end
end
section
section
open PySem PySem.W PyProof.Rows PySem.SeqAt PySem.Builtin PySem.Builtin.Str
theorem As{P:List Value->Prop}(h:∀a,P [a])(vs:List Value)(hv:vs.length=1):P vs:=by
 obtain⟨a,rfl⟩:=jr.mp hv; exact h a
theorem tY{P:List Value->Prop}(h:∀a b,P [a,b])(vs:List Value)(hv:vs.length=2):P vs:=by
 match vs with
 |a::v=>obtain⟨b,rfl⟩:=jr.mp (Nat.succ.inj hv); exact h a b
noncomputable abbrev KK(W:Wd):Frag:=HK W.w.params
noncomputable def cm(K:Frag)(a:Addr):Bo:=match K.lookup a with
 |some ⟨_,_, .func fd,_⟩=>fd
 |_=>default
noncomputable def cj(K:Frag)(a:Addr):List Stmt:=match(cm K a).body with
 | .stmts b=>b
 |_=>[]
structure cH(W:Wd):Prop where
 sm:∀a o,(KK W).lookup a=some o->W.B.f a=some o
 QH:∃mb,(∀h:Heap,(∀a x,W.B.f a=some x->h.get? a=some x)->h.Ns cP mb)/\∀x:Str,x≠ "__name__" ->mb x=bootBuiltins x
section
variable {W:Wd}{C:Cx}{ρ a9:Ro}{f o:Fz}{s:Shared}{Q:Out->Prop}
theorem cH.sH(X:cH W)(S:St W.B f o s):(KK W).In s.heap:=λa ob e=>S.bT _ _ (X.sm a ob e)
theorem cH.glob(X:cH W){n:Str}{v:Value}(e:nsIn (KK W) bV n=some (some v)):cK W n v:=λf o s S A env Q E hg hb h=>by
 unfold loadGlobal
 rw[hg]
 exact aa ((looks_nsIn (X.sH S) e).here (ao h))
theorem cH.bin(X:cH W){n:Str}{v:Value}(e:nsIn (KK W) bV n=some aD)(hn:(n==("__name__" :Str))=false)(hv:bootBuiltins n=some v):cK W n v:=λf o s S A env Q E hg hb h=>by
 obtain⟨mb,h1,h2⟩:=X.QH
 unfold loadGlobal
 rw[hg,hb]
 refine aa ((looks_nsIn (X.sH S) e).here (aa (wpAny_nsGet (h1 _ S.bT) ?_)))
 rw[h2 n (λq=>by rw[q] at hn; simp at hn),hv]; exact ao h
@[irreducible] noncomputable def VE (W:Wd) (C:Cx) (ρ:Ro) (e:Expr) (d:D):Prop:=eg W C ρ e d
@[irreducible] noncomputable def VB (W:Wd) (C:Cx) (ρ:Ro) (e:Expr) (b:Bool):Prop:=vK W C ρ e b
@[irreducible] noncomputable def VS (W:Wd) (C:Cx) (ρ:Ro) (ss:List Stmt) (Q:Out->Prop):Prop:=fQ W C ρ ss Q
@[irreducible] noncomputable def VI (W:Wd) (C:Cx) (ρ:Ro) (t e:Expr) (xs:List D):Prop:=Aa W C ρ t e xs
@[irreducible] noncomputable def VA (W:Wd) (C:Cx) (ρ:Ro) (es:List Expr) (ds:List D):Prop:=ny W C ρ es ds
@[irreducible] noncomputable def VX (W:Wd) (C:Cx) (ρ:Ro) (e:Expr) (X:D->Res->Prop):Prop:=zA W C ρ e X
@[irreducible] noncomputable def VT (W:Wd) (C:Cx) (ρ:Ro) (t:Expr) (d:D) (a9:Ro):Prop:=jP W C ρ t d a9
@[irreducible] noncomputable def so (W:Wd) (C:Cx) (ρ:Ro) (op:BoolOp) (es:List Expr) (b:Bool):Prop:=ly W C ρ op es b
@[irreducible] noncomputable def VP (W:Wd) (C:Cx) (ρ:Ro) (e:Option Expr) (x:Option Int):Prop:=zz W C ρ e x
@[irreducible] noncomputable def iK (W:Wd) (A:Around) (fv:Value) (ds:List D) (d:D):Prop:=mf W A fv ds d
theorem ve{e:Expr}{d:D}(h:eg W C ρ e d):VE W C ρ e d:=by unfold VE; exact h
theorem VE.un{e:Expr}{d:D}(h:VE W C ρ e d):eg W C ρ e d:=by unfold VE at h; exact h
theorem vb{e:Expr}{d:Bool}(h:vK W C ρ e d):VB W C ρ e d:=by unfold VB; exact h
theorem VB.un{e:Expr}{d:Bool}(h:VB W C ρ e d):vK W C ρ e d:=by unfold VB at h; exact h
theorem vs{e:List Stmt}{d:Out->Prop}(h:fQ W C ρ e d):VS W C ρ e d:=by unfold VS; exact h
theorem VS.un{e:List Stmt}{d:Out->Prop}(h:VS W C ρ e d):fQ W C ρ e d:=by unfold VS at h; exact h
theorem vi{t e:Expr}{d:List D}(h:Aa W C ρ t e d):VI W C ρ t e d:=by unfold VI; exact h
theorem VI.un{t e:Expr}{d:List D}(h:VI W C ρ t e d):Aa W C ρ t e d:=by unfold VI at h; exact h
theorem va{e:List Expr}{d:List D}(h:ny W C ρ e d):VA W C ρ e d:=by unfold VA; exact h
theorem VA.un{e:List Expr}{d:List D}(h:VA W C ρ e d):ny W C ρ e d:=by unfold VA at h; exact h
theorem vx{e:Expr}{d:D->Res->Prop}(h:zA W C ρ e d):VX W C ρ e d:=by unfold VX; exact h
theorem VX.un{e:Expr}{d:D->Res->Prop}(h:VX W C ρ e d):zA W C ρ e d:=by unfold VX at h; exact h
theorem vt{e:Expr}{d:D}(h:jP W C ρ e d a9):VT W C ρ e d a9:=by unfold VT; exact h
theorem VT.un{e:Expr}{d:D}(h:VT W C ρ e d a9):jP W C ρ e d a9:=by unfold VT at h; exact h
theorem H9{op:BoolOp}{e:List Expr}{d:Bool}(h:ly W C ρ op e d):so W C ρ op e d:=by unfold so; exact h
theorem so.un{op:BoolOp}{e:List Expr}{d:Bool}(h:so W C ρ op e d):ly W C ρ op e d:=by unfold so at h; exact h
theorem vp{e:Option Expr}{d:Option Int}(h:zz W C ρ e d):VP W C ρ e d:=by unfold VP; exact h
theorem VP.un{e:Option Expr}{d:Option Int}(h:VP W C ρ e d):zz W C ρ e d:=by unfold VP at h; exact h
theorem Au{A:Around}{fv:Value}{ds:List D}{d:D}(h:mf W A fv ds d):iK W A fv ds d:=by unfold iK; exact h
theorem iK.un{A:Around}{fv:Value}{ds:List D}{d:D}(h:iK W A fv ds d):mf W A fv ds d:=by unfold iK at h; exact h
theorem cH.fn(X:cH W)(a:Addr){A:Around}{n:Nat}{ps:List Str}{ds:List D}{d:D}{ρ:Ro}{names:List (Str×aC)}(lv:Lv (n+1) A)
 (yF:∃ob,(KK W).lookup a=some ob/\ob.data= .func (cm (KK W) a)) (iq:(cm (KK W) a).body= .stmts (cj (KK W) a)) (lB:codeIn (KK W) (cm (KK W) a).code (cm (KK W) a).qualname=true) (n9:(cm (KK W) a).closure=[])
 (fy:(cm (KK W) a).scope.names=names) (j6:decide (names.map (·.1)).Nodup=true) (hk:(cm (KK W) a).scope.kind= .function) (hg:(cm (KK W) a).globals=bV) (hb:(cm (KK W) a).builtins=cP)
 (w3:(cm (KK W) a).scope.isCoroutine=false) (og:(cm (KK W) a).scope.isGenerator=false) (ng:decide ps.Nodup=true)
 (Aj:(ps.all λp=>names.lookup p==some .local||names.lookup p==some .cell)=true)
 (jQ:∀vs:List Value,vs.length=ds.length->eR (cm (KK W) a) ⟨vs,[]⟩=pure (ps.zip vs)) (hp:kl (ps.zip ds) names ρ)
 (h:∀C:Cx,C.Ok->Lv n C.A->C.names=names->C.env.scope=(cm (KK W) a).scope->VS W C ρ (cj (KK W) a) (Ends d)):iK W A (.ref a) ds d:=by
 refine Au ?_
 obtain⟨ob,h1,h2⟩:=yF
 refine La (X.sm _ _ h1) h2 (λh hB=>Be (K:=KK W) (λb x e=>hB _ _ (X.sm _ _ e)) lB) iq n9 jQ (by rw[fy]; exact hp) (of_decide_eq_true ng) (by rw[fy]; exact of_decide_eq_true j6) (λp Lq=>?_) hk hg hb w3 og lv λC O l hn hs=>(h C O l (hn.trans fy) hs).un
 rw[fy]
 have:=aT.mp Aj p Lq
 rcases iP _ _▸this with e|e
 ·exact .inl (lookup_mem (by simpa using e))
 ·exact .inr (lookup_mem (by simpa using e))
end
theorem BR(n:Str)(p:Pos)(env:Env):(bk [.Name n p] env).map (·.2)=[bE (.Name n p) env]:=rfl
theorem yG(ts:List Expr)(k:Nat)(p:Pos)(env:Env):(bk [.Tuple ts k p] env).map (·.2)=[bE (.Tuple ts k p) env]:=rfl
theorem ER(n:Str)(p:Pos)(ts:List Expr)(env:Env):bk (.Name n p::ts) env=(false,bE (.Name n p) env)::bk ts env:=rfl
theorem M8(es:List Expr)(k:Nat)(p:Pos)(ts:List Expr)(env:Env):bk (.Tuple es k p::ts) env=(false,bE (.Tuple es k p) env)::bk ts env:=rfl
theorem fM(h:True:=by first|exact tt|rfl):True:=h
theorem sI(h:True:=by decide+kernel):True:=h
theorem vn(h:True:=by decide):True:=h
theorem vq(h:True:=by with_reducible repeat first|apply cw|apply ZC|apply ZD|apply me3|apply me4):True:=h
theorem Ia(h:True:=by kernel_rfl):True:=h
theorem Ib(h:True:=by first|apply ER|rfl):True:=h
theorem CX(h:True:=by intro _ _; rfl):True:=h
theorem Ic(h:True:=by with_reducible repeat first|apply Ro.Set.head|apply Ro.Set.t1|apply Ro.Set.t2|apply Ro.Set.t3|apply Ro.Set.t4):True:=h
theorem M9(h:True:=by intro _; rfl):True:=h
theorem Ol(h:True:=by with_reducible repeat' first|decide|exact ik|constructor|apply nA.Xv|apply nA.Xw|apply nA.Xx):True:=h
theorem Xy(h:True:=by with_reducible repeat' first|decide|exact ik|constructor):True:=h
theorem Xz(h:True:=by with_reducible repeat constructor):True:=h
theorem Lr(h:True:=by simp):True:=h
theorem Ls(h:True:=by exact .inl rfl):True:=h
theorem Lu(h:True:=by first|apply BR|apply yG|rfl):True:=h
theorem Lw(h:True:=by intro _ h; exact nomatch h):True:=h
theorem ik{α:Type}{a:α}{l:List α}(h:autoParam (a∈l) vq._auto_1):a∈l:=h
theorem kD{n:Str}{b:Bd}{ρ a9:Ro}(h:autoParam (Ro.Set n b ρ a9) Ic._auto_1):Ro.Set n b ρ a9:=h
theorem ra{bs:List (Str×D)}{ns:List (Str×aC)}{ρ:Ro}(h:autoParam (kl bs ns ρ) Xy._auto_1):kl bs ns ρ:=h
theorem ku{outer:List (Str×aC)}{ρ:Ro}{ns:List (Str×aC)}{eX:Ro}(h:autoParam (nA outer ρ ns eX) Ol._auto_1):nA outer ρ ns eX:=h
theorem jT{ρ a9:Ro}(h:autoParam (pd ρ a9) Xz._auto_1):pd ρ a9:=h
section
variable {W:Wd}{C:Cx}{ρ a9 eX bD bZ qx ES:Ro}{f o:Fz}{s:Shared}{Q:Out->Prop}
structure CK(C:Cx)(names:List (Str×aC)):Prop where
 ok:C.Ok
 hand:C.A.handled=none
 eq:C.names=names
variable {names:List (Str×aC)}
theorem nA.Xv{outer:List (Str×aC)}{n:Str}{k:aC}{d:D}{ns:List (Str×aC)}(h1:(n,k)∈outer)(h2:(k== .cell||k== .free)=true)(h3:(n,Bd.val d)∈ρ)(h:nA outer ρ ns eX):nA outer ρ ((n, .free)::ns) ((n, .val d)::eX):= .HH h1 h2 h3 h
theorem nA.Xw{outer:List (Str×aC)}{n:Str}{k:aC}{u:Bool}{r:Res}{ns:List (Str×aC)}(h1:(n,k)∈outer)(h2:(k== .cell||k== .free)=true)(h3:(n,Bd.res u r)∈ρ)(h:nA outer ρ ns eX):nA outer ρ ((n, .free)::ns) ((n, .res false r)::eX):= .HH h1 h2 h3 h
theorem nA.Xx{outer:List (Str×aC)}{n:Str}{k:aC}{ns:List (Str×aC)}(h1:(n,k)∈outer)(h2:(k== .cell||k== .free)=true)(h3:(n,Bd.unset)∈ρ)(h:nA outer ρ ns eX):nA outer ρ ((n, .free)::ns) ((n, .unset)::eX):= .HH h1 h2 h3 h
theorem qy{α:Type}{c:Prop}[Decidable c]{a b:α}(h:¬c->b=a):(if c then a else b)=a:=by
 by_cases k:c
 ·rw[if_pos k]
 ·rw[if_neg k]; exact h k
theorem ET{α:Type}{F:Expr->Option α}{a b:Expr}(h:F a=aD\/F b=aD):((KG F [a,b]).length != 2)=true:=by
 rcases h with h|h
 ·rw[gd h]; cases e:F b
  ·rw[gd e]; rfl
  ·rw[iJ e]; rfl
 ·cases e:F a
  ·rw[gd e,gd h]; rfl
  ·rw[iJ e,gd h]; rfl
theorem jU(K:CK C names){x y:Str}{p q tp vp:Pos}{k k2:Nat}{e1 e2:Expr}(hx:(x,aq)∈names\/(y,aq)∈names):
 cS [.Tuple [.Name x p, .Name y q] k tp] (.Tuple [e1,e2] k2 vp) C.env=pure aD:=by
 have hc:∀z:Str,(z,aq)∈names->(C.env.kindOf z==some ae)=false:=λz hz=>by
  rw[K.ok.kinds _ _ (K.eq▸hz) (by decide)]; rfl
 have EG:(C.env.kindOf x==some ae)=false\/(C.env.kindOf y==some ae)=false:=hx.imp (hc x) (hc y)
 unfold cS
 dsimp only
 refine qy λ_=>qy λ_=>if_pos (Bool.or_eq_true_iff.mpr (.inl (ET (EG.imp (λh=>if_neg ?_) λh=>if_neg ?_))))
 ·rw[h]; exact gF
 ·rw[h]; exact gF
theorem EU{α:Type}{F:Expr->Option α}{a b:Expr}{x y:α}(h1:F a=some x)(h2:F b=some y):KG F [a,b]=[x,y]:=by
 rw[iJ h1,iJ h2]; rfl
theorem Av(K:CK C names){x y:Str}{p q tp vp:Pos}{k k2:Nat}{e1 e2:Expr}(hx:(x,ae)∈names)(hy:(y,ae)∈names)(hl:(q.line==p.line)=true)(EG:(x==y)=false)
 (hs:([e1,e2].any λx=>swappedStores.match_5 (λ_=>Bool) x (λ_ _=>true) λ_=>false)=false) (hf:[e1,e2].all (foldedForSure 8)=false) (ha:[e1,e2].all (constantsAlone 8)=false):
 cS [.Tuple [.Name x p, .Name y q] k tp] (.Tuple [e1,e2] k2 vp) C.env=pure (some [x,y]):=by
 have hc:∀z:Str,(z,ae)∈names->(C.env.kindOf z==some ae)=true:=λz hz=>by
  rw[K.ok.kinds _ _ (K.eq▸hz) (by decide)]; rfl
 have h2:C.env.blockKind= .function:=by simp[Env.blockKind,K.ok.kind,r7]
 have he:([x,y]:List Str).eraseDups=[x,y]:=by
  rw[DI,List.filter_cons_of_pos (by rw[BEq.comm,EG]; rfl),DI]; rfl
 unfold cS
 dsimp only
 rw[EU (x:=x) (y:=y) (if_pos (by rw[hc x hx]; exact beq_self_eq_true _)) (if_pos (by rw[hc y hy]; exact hl)),he,hf,h2]
 refine(if_neg gF).trans ((if_neg λh=>gF (hs.symm.trans h)).trans ((if_neg gF).trans ((if_neg gF).trans ?_)))
 rw[ha]; rfl
theorem CK.inter(K:CK C names):interactive C.env=false:=by
 unfold interactive; rw[K.ok.kind]; rfl
theorem nm(K:CK C names){n:Str}{d:D}{pos:Pos}(hm:autoParam ((n,Bd.val d)∈ρ) vq._auto_1)(h1:autoParam ((n==("__debug__" :Str))=false) sI._auto_1)(h2:autoParam ((n==("__classdict__" :Str))=false) sI._auto_1):VE W C ρ (.Name n pos) d:=ve (.name K.ok hm h1 h2)
theorem QI(K:CK C names){n:Str}{w:Bool}{r:Res}{pos:Pos}(hm:autoParam ((n,Bd.res w r)∈ρ) vq._auto_1)(h1:autoParam ((n==("__debug__" :Str))=false) sI._auto_1)(h2:autoParam ((n==("__classdict__" :Str))=false) sI._auto_1):VE W C ρ (.Name n pos) (.raw r.v):=ve (.tB K.ok hm h1 h2)
theorem JR(K:CK C names){n:Str}{w:Bool}{a:Addr}{ds:List D}{pos:Pos}(hm:autoParam ((n,Bd.res w (eJ a ds))∈ρ) vq._auto_1)(h1:autoParam ((n==("__debug__" :Str))=false) sI._auto_1)(h2:autoParam ((n==("__classdict__" :Str))=false) sI._auto_1):VE W C ρ (.Name n pos) (.raw (.ref a)):=ve (.tB K.ok hm h1 h2)
theorem Lx(K:CK C names){n:Str}{w:Bool}{a:Addr}{ds:List D}{pos:Pos}(hm:autoParam ((n,Bd.res w (pe a ds))∈ρ) vq._auto_1)(h1:autoParam ((n==("__debug__" :Str))=false) sI._auto_1)(h2:autoParam ((n==("__classdict__" :Str))=false) sI._auto_1):VE W C ρ (.Name n pos) (.raw (.ref a)):=ve (.tB K.ok hm h1 h2)
theorem gl(K:CK C names){n:Str}{v:Value}{pos:Pos}(g:cK W n v)(hm:autoParam ((n,ag)∈names) vq._auto_1)(h1:autoParam ((n==("__debug__" :Str))=false) sI._auto_1):VE W C ρ (.Name n pos) (.raw v):=ve (.glob K.ok (K.eq▸hm) g h1)
theorem ofRaw{e:Expr}{v:Value}{d:D}(x:VE W C ρ e (.raw v))(h:∀f,Den f d v):VE W C ρ e d:=ve λf o s S H Q E k=>x.un f o s S H Q E λu f' s' l S' hd=>k u f' s' l S' (by rw[show u=v from hd]; exact h f')
theorem st(l:List Nat){x:Str}{k:Nat}{pos:Pos}(h:autoParam (x=aS l) Ia._auto_1):VE W C ρ (.Constant (.str x) k pos) (.str (aS l)):=ve (h▸ .str)
theorem num{i:Int}{k:Nat}{pos:Pos}:VE W C ρ (.Constant (.int i) k pos) (.int i):=ve .int
theorem JS{b:Bool}{k:Nat}{pos:Pos}:VE W C ρ (.Constant (.bool b) k pos) (.bool b):=ve .bool
theorem XA{k:Nat}{pos:Pos}:VE W C ρ (.Constant .none k pos) .none:=ve .none
theorem VE.eq{e:Expr}{d d':D}(x:VE W C ρ e d)(h:d=d'):VE W C ρ e d':=h▸x
theorem VB.eq{e:Expr}{d d':Bool}(x:VB W C ρ e d)(h:d=d'):VB W C ρ e d':=h▸x
theorem bin(K:CK C names){l r:Expr}{op:Operator}{pos:Pos}{da db d:D}(ha:VE W C ρ l da)(hb:VE W C ρ r db)(ho:lx W (jk op) da db d):VE W C ρ (.BinOp l op r pos) d:=ve (.bin K.ok ha.un hb.un ho)
theorem neg(K:CK C names){x:Expr}{op:zG}{pos:Pos}{da d:D}(ha:VE W C ρ x da)(ho:yh W (unaryOp op) da d):VE W C ρ (.UnaryOp op x pos) d:=ve (.un K.ok ha.un ho)
theorem cmp(K:CK C names){l r:Expr}{op:CmpOp}{pos:Pos}{da db d:D}(ha:VE W C ρ l da)(hb:VE W C ρ r db)(ho:lx W (cc op) da db d)(hm:autoParam (jl op r=false) fM._auto_1):VE W C ρ (.Compare l [op] [r] pos) d:=ve (.cmp K.ok ha.un hb.un ho hm)
theorem kR(K:CK C names){l r:Expr}{op:CmpOp}{pos:Pos}{da db:D}{b:Bool}(ha:VE W C ρ l da)(hb:VE W C ρ r db)(ho:lx W (cc op) da db (.bool b))(hm:autoParam (jl op r=false) fM._auto_1):VB W C ρ (.Compare l [op] [r] pos) b:=vb (.cmp K.ok ha.un hb.un ho hm)
theorem XB(K:CK C names){I:Fz->Fz->Prop}(hI:∀f o,bc C ρ f o->I f o){l r:Expr}{op:CmpOp}{pos:Pos}{da db:D}{b:Bool}(ha:VE W C ρ l da)(hb:VE W C ρ r db)(ho:Ak W I (cc op) da db (.bool b))(hm:autoParam (jl op r=false) fM._auto_1):VB W C ρ (.Compare l [op] [r] pos) b:=vb (.W4 K.ok hI ha.un hb.un ho hm)
theorem Aw(K:CK C names){e:Expr}{d:D}{b:Bool}(x:VE W C ρ e d)(t:KY W d b)(he:autoParam (isTrue e C.env (eval e C.env)=(do let v <-eval e C.env; dF e.pos; holding [v] (truthy v))) fM._auto_1):VB W C ρ e b:=vb (.val K.ok x.un t he)
theorem Ly{e:Expr}{b:Bool}{pos:Pos}(x:VB W C ρ e b):VB W C ρ (.UnaryOp .Not e pos) (!b):=vb (.not x.un)
theorem Ie{op:BoolOp}{es:List Expr}{b:Bool}{pos:Pos}(x:so W C ρ op es b):VB W C ρ (.BoolOp op es pos) b:=vb (.KZ x.un)
theorem EV:so W C ρ .And [] true:=H9 .and_nil
theorem QJ:so W C ρ .Or [] false:=H9 .or_nil
theorem vr{e:Expr}{es:List Expr}{a b:Bool}(x:VB W C ρ e a)(y:a=true->so W C ρ .And es b):so W C ρ .And (e::es) (a&&b):=H9 (.and_cons x.un λh=>(y h).un)
theorem Ig{e:Expr}{es:List Expr}{a b:Bool}(x:VB W C ρ e a)(y:a=false->so W C ρ .Or es b):so W C ρ .Or (e::es) (a||b):=H9 (.or_cons x.un λh=>(y h).un)
theorem vu{t x y:Expr}{pos:Pos}{b:Bool}{d:D}(ht:VB W C ρ t b)(hx:b=true->VE W C ρ x d)(hy:b=false->VE W C ρ y d):VE W C ρ (.IfExp t x y pos) d:=ve (.ite ht.un (λh=>(hx h).un) λh=>(hy h).un)
theorem a0:VA W C ρ [] []:=va .nil
theorem a1{e:Expr}{d:D}(x:VE W C ρ e d)(he:autoParam (aI [e] C.env=(false,eval e C.env)::aI [] C.env) fM._auto_1):VA W C ρ [e] [d]:=va (.cons x.un .nil he)
theorem ac{e:Expr}{d:D}{es:List Expr}{ds:List D}(x:VE W C ρ e d)(y:VA W C ρ es ds)(he:autoParam (aI (e::es) C.env=(false,eval e C.env)::aI es C.env) fM._auto_1):VA W C ρ (e::es) (d::ds):=va (.cons x.un y.un he)
theorem bS{func:Expr}{es:List Expr}{pos:Pos}{fv:Value}{ds:List D}{d:D}(hf:VE W C ρ func (.raw fv))(hk:Kept W fv)(ha:VA W C ρ es ds)(hc:mf W C.A fv ds d)(hp:autoParam ((aI es C.env).all (λx=>!x.1)=true) fM._auto_1)
 (he:autoParam (eval (.Call func es [] pos) C.env=(do fS pos (<-eval func C.env) [] (backTo pos (aI es C.env)) (gr pos (dI [] C.env)))) fM._auto_1):VE W C ρ (.Call func es [] pos) d:=ve (.call hf.un hk ha.un hp hc he)
theorem rv{I:Fz->Fz->Prop}(hI:∀f o,bc C ρ f o->I f o){func:Expr}{es:List Expr}{pos:Pos}{fv:Value}{ds:List D}{d:D}(hf:VE W C ρ func (.raw fv))(hk:Kept W fv)(ha:VA W C ρ es ds)(hc:En W I C.A fv ds d)(hp:autoParam ((aI es C.env).all (λx=>!x.1)=true) fM._auto_1)
 (he:autoParam (eval (.Call func es [] pos) C.env=(do fS pos (<-eval func C.env) [] (backTo pos (aI es C.env)) (gr pos (dI [] C.env)))) fM._auto_1):VE W C ρ (.Call func es [] pos) d:=ve (.N2 hI hf.un hk ha.un hp hc he)
theorem gh{ob:Expr}{name:Str}{es:List Expr}{apos pos:Pos}{fv:Value}{da d:D}{ds:List D}(ho:VE W C ρ ob da)(hm:Meth W da name fv)(hk:Kept W fv)(ha:VA W C ρ es ds)(hc:mf W C.A fv (da::ds) d)
 (hp:autoParam ((aI es C.env).all (λx=>!x.1)=true) fM._auto_1) (hn:autoParam (es.length+0<30) vn._auto_1) (hl:autoParam ((apos.endLine==pos.line)=true) vn._auto_1) (hb:autoParam (bx ob name C.env (eval ob C.env)=eval ob C.env) fM._auto_1):VE W C ρ (.Call (.Attribute ob name apos) es [] pos) d:=ve (.yi ho.un hm hk ha.un hp hc hn hl hb)
theorem dB(K:CK C names){value slice:Expr}{pos:Pos}{da di d:D}{T id:String}(hv:VE W C ρ value da)(hi:VE W C ρ slice di)(hl:kX (.type T) "__getitem__" =pure (some (.builtin id)))(ho:lx W dJ da di d)(hT:autoParam (da.ty=some T) fM._auto_1)
 (hs:autoParam (∀o i,subscripted slice false o i=operate [o,i] (dJ o i)) CX._auto_1):VE W C ρ (.Subscript value slice pos) d:=ve (.sub K.ok hv.un hi.un hT hl ho hs)
theorem yH(K:CK C names){value slice:Expr}{pos:Pos}{a:Addr}{ds:List D}{di d:D}(hI:∀f o,bc C ρ f o->lj f o a ds)(hv:VE W C ρ value (.raw (.ref a)))(hi:VE W C ρ slice di)(ho:Ak W (λf o=>lj f o a ds) dJ (.raw (.ref a)) di d)
 (hs:autoParam (∀o i,subscripted slice false o i=operate [o,i] (dJ o i)) CX._auto_1):VE W C ρ (.Subscript value slice pos) d:=ve (.W5 K.ok hI hv.un hi.un BE aR ho hs)
theorem p0:VP W C ρ aD aD:=vp .none
theorem p1{e:Expr}{i:Int}(x:VE W C ρ e (.int i)):VP W C ρ (some e) (some i):=vp (.some x.un)
theorem mQ{value:Expr}{lo hi st:Option Expr}{l h t:Option Int}{p pos:Pos}{da:D}{ds:List D}{ops:Value->Value->List Value}(hv:VE W C ρ value da)(hL:HV W da ds)(pl:VP W C ρ lo l)(ph:VP W C ρ hi h)(ps:VP W C ρ st t)(h0:t≠some 0)(fC:ds.length<=1000000)
 (hs:∀o i,subscripted (.Slice lo hi st p) false o i=operate (ops o i) (dJ o i)):VE W C ρ (.Subscript value (.Slice lo hi st p) pos) (.list (qp ds l h t)):=ve (.slice hv.un hL pl.un ph.un ps.un h0 fC hs)
theorem BS{value:Expr}{lo hi:Option Expr}{a b:Nat}{p pos:Pos}{x:List Nat}{ops:Value->Value->List Value}(hv:VE W C ρ value (.str (aS x)))(pl:VP W C ρ lo (some a))(ph:VP W C ρ hi (some b))(fC:x.length<=1000000)
 (hs:∀o i,subscripted (.Slice lo hi aD p) false o i=operate (ops o i) (dJ o i)):VE W C ρ (.Subscript value (.Slice lo hi aD p) pos) (.str (aS ((x.drop a).take (b-a)))):=ve (.Le hv.un pl.un ph.un fC hs)
theorem BM{K:Type}[DecidableEq K]{knd:KeyKind W.prog W.w K}(enc:K->D)(M5:∀k v f,Den f (enc k) v->knd.is k v=true){k1 k2 k3 v1 v2 v3 slice:Expr}{dp pos:Pos}{HW HY HZ κ:K}{d1 d2 d3 d:D}
 (e1:VE W C ρ k1 (enc HW)) (x1:VE W C ρ v1 d1) (e2:VE W C ρ k2 (enc HY)) (x2:VE W C ρ v2 d2) (e3:VE W C ρ k3 (enc HZ)) (x3:VE W C ρ v3 d3) (hs:VE W C ρ slice (enc κ))
 (hd:∀u1 u2 u3:Value,∃u,valueAt (merged [] [(HW,u1),(HY,u2),(HZ,u3)]) κ=some u/\((u=u1/\d=d1)\/(u=u2/\d=d2)\/(u=u3/\d=d3)))
 (yB:autoParam (∀o i,subscripted slice false o i=operate [o,i] (dJ o i)) CX._auto_1):VE W C ρ (.Subscript (.Dict [some k1,some k2,some k3] [v1,v2,v3] dp) slice pos) d:=ve (.BM enc M5 e1.un x1.un e2.un x2.un e3.un x3.un hs.un hd yB)
theorem lst{es:List Expr}{pos:Pos}{ds:List D}(x:VA W C ρ es ds)(fC:autoParam (ds.length<=16777216) Lr._auto_1):VE W C ρ (.List es pos) (.list ds):=ve (.list x.un fC)
theorem tup{es:List Expr}{k:Nat}{pos:Pos}{ds:List D}(x:VA W C ρ es ds)(fC:autoParam (ds.length<=16777216) Lr._auto_1):VE W C ρ (.Tuple es k pos) (.tup ds):=ve (.tuple x.un fC)
theorem jF(K:CK C names){eP e:Expr}{d:D}{xs:List D}(x:VE W C ρ e d)(i:K0 W d xs):VI W C ρ eP e xs:=vi (.val K.ok x.un i)
theorem Ax{elts:List Expr}{k:Nat}{tp:Pos}{func e:Expr}{pos:Pos}{ds:List D}(hf:VE W C ρ func (.raw (.type "enumerate")))(he:VE W C ρ e (.list ds))(pf:autoParam (aI [e] C.env=[(false,eval e C.env)]) fM._auto_1)
 (hc:autoParam (eval (.Call func [e] [] pos) C.env=(do fS pos (<-eval func C.env) [] (backTo pos (aI [e] C.env)) (gr pos (dI [] C.env)))) fM._auto_1):VI W C ρ (.Tuple elts k tp) (.Call func [e] [] pos) (numbered 0 ds):=vi (.enum hf.un he.un pf hc)
theorem Om{elts:List Expr}{k:Nat}{tp:Pos}{func e1 e2:Expr}{pos:Pos}{xs ys:List D}(hf:VE W C ρ func (.raw (.type "zip")))(he:VA W C ρ [e1,e2] [.list xs, .list ys])(hp:autoParam ((aI [e1,e2] C.env).all (λx=>!x.1)=true) fM._auto_1)
 (hc:autoParam (eval (.Call func [e1,e2] [] pos) C.env=(do fS pos (<-eval func C.env) [] (backTo pos (aI [e1,e2] C.env)) (gr pos (dI [] C.env)))) fM._auto_1):VI W C ρ (.Tuple elts k tp) (.Call func [e1,e2] [] pos) (oy xs ys):=vi (.zip hf.un he.un hp hc)
theorem cx(K:CK C names){n:Str}{k:aC}{d:D}{pos:Pos}(aU:autoParam (Ro.Set n (.val d) ρ a9) Ic._auto_1)(hk:autoParam ((n,k)∈names) vq._auto_1)(oZ:autoParam ((k== .local||k== .cell)=true) vn._auto_1):VT W C ρ (.Name n pos) d a9:=vt (.name K.ok (K.eq▸hk) oZ aU)
theorem iW(K:CK C names){t1 t2:Expr}{k:Nat}{p:Pos}{d:D}{d1 d2:D}(h1:VT W C ρ t1 d1 bD)(h2:VT W C bD t2 d2 bZ)(hd:autoParam (d= .tup [d1,d2]\/d= .list [d1,d2]) Ls._auto_1)(e1:autoParam (bk [t1,t2] C.env=(false,bE t1 C.env)::bk [t2] C.env) Ib._auto_1)(e2:autoParam (bk [t2] C.env=(false,bE t2 C.env)::bk [] C.env) Ib._auto_1):VT W C ρ (.Tuple [t1,t2] k p) d bZ:=
 vt (.tuple K.hand hd (.cons h1.un (.cons h2.un .nil e2) e1))
theorem rW(K:CK C names){t1 t2 t3:Expr}{k:Nat}{p:Pos}{d:D}{d1 d2 d3:D}(h1:VT W C ρ t1 d1 bD)(h2:VT W C bD t2 d2 bZ)(h3:VT W C bZ t3 d3 qx)(hd:autoParam (d= .tup [d1,d2,d3]\/d= .list [d1,d2,d3]) Ls._auto_1)(e1:autoParam (bk [t1,t2,t3] C.env=(false,bE t1 C.env)::bk [t2,t3] C.env) Ib._auto_1)(e2:autoParam (bk [t2,t3] C.env=(false,bE t2 C.env)::bk [t3] C.env) Ib._auto_1)(e3:autoParam (bk [t3] C.env=(false,bE t3 C.env)::bk [] C.env) Ib._auto_1):VT W C ρ (.Tuple [t1,t2,t3] k p) d qx:=
 vt (.tuple K.hand hd (.cons h1.un (.cons h2.un (.cons h3.un .nil e3) e2) e1))
theorem JT(K:CK C names){t1 t2 t3 t4:Expr}{k:Nat}{p:Pos}{d:D}{d1 d2 d3 d4:D}(h1:VT W C ρ t1 d1 bD)(h2:VT W C bD t2 d2 bZ)(h3:VT W C bZ t3 d3 qx)(h4:VT W C qx t4 d4 ES)(hd:autoParam (d= .tup [d1,d2,d3,d4]\/d= .list [d1,d2,d3,d4]) Ls._auto_1)(e1:autoParam (bk [t1,t2,t3,t4] C.env=(false,bE t1 C.env)::bk [t2,t3,t4] C.env) Ib._auto_1)(e2:autoParam (bk [t2,t3,t4] C.env=(false,bE t2 C.env)::bk [t3,t4] C.env) Ib._auto_1)(e3:autoParam (bk [t3,t4] C.env=(false,bE t3 C.env)::bk [t4] C.env) Ib._auto_1)(e4:autoParam (bk [t4] C.env=(false,bE t4 C.env)::bk [] C.env) Ib._auto_1):VT W C ρ (.Tuple [t1,t2,t3,t4] k p) d ES:=
 vt (.tuple K.hand hd (.cons h1.un (.cons h2.un (.cons h3.un (.cons h4.un .nil e4) e3) e2) e1))
theorem BU{g:dU}{elt:Expr}{ys ds:List D}(h:VI W C ρ g.target g.iter ys)(c:Clause W C ρ g.target g.ifs (Af W C elt) ys ds):ti W C g elt ρ ds:=⟨ys,h.un,c⟩
theorem dY(K:CK C names){elt eP iter:Expr}{ifs:List Expr}{scope:Scope}{pos:Pos}{xs out:List D}(hit:VI W C ρ eP iter xs)(hc:∀C',CK C' scope.names->C'.A=C.A->Clause W C' eX eP ifs (Af W C' elt) xs out)(hi:autoParam (nA names ρ scope.names eX) Ol._auto_1)
 (hn:out.length<=100000) (j6:autoParam (decide (scope.names.map (·.1)).Nodup=true) Ia._auto_1) (hs:autoParam (∀x,bH iter C.env x=pure x) M9._auto_1) (hk:autoParam (scope.kind= .function) fM._auto_1):VE W C ρ (.ListComp elt [⟨eP,iter,ifs,0⟩] scope pos) (.list out):=
 ve (.comp K.ok hit.un hs hk (of_decide_eq_true j6) (K.eq▸hi) rfl λcenv O=>JL O K.hand (hc _ ⟨O,K.hand,rfl⟩ rfl) hn)
theorem EW(K:CK C names){elt t1 i1 t2 i2:Expr}{f1 f2:List Expr}{scope:Scope}{pos:Pos}{xs out:List D}(hit:VI W C ρ t1 i1 xs)(hc:∀C',CK C' scope.names->C'.A=C.A->Clause W C' eX t1 f1 (ti W C' ⟨t2,i2,f2,0⟩ elt) xs out)(hi:autoParam (nA names ρ scope.names eX) Ol._auto_1)
 (hn:out.length<=100000) (j6:autoParam (decide (scope.names.map (·.1)).Nodup=true) Ia._auto_1) (hs:autoParam (∀x,bH i1 C.env x=pure x) M9._auto_1) (JU:autoParam (∀env x,bH i2 env x=pure x) CX._auto_1) (hk:autoParam (scope.kind= .function) fM._auto_1):VE W C ρ (.ListComp elt [⟨t1,i1,f1,0⟩,⟨t2,i2,f2,0⟩] scope pos) (.list out):=
 ve (.comp K.ok hit.un hs hk (of_decide_eq_true j6) (K.eq▸hi) rfl λcenv O=>JM O K.hand (JU _) (hc _ ⟨O,K.hand,rfl⟩ rfl) hn)
theorem yI(K:CK C names){x:Str}{p oj:Pos}{elt:Expr}{gs:List dU}{scope:Scope}{line:Nat}(hx:(x,ae)∈names)(jm:(p.line==oj.line)=true)(EX:(scope.names.any λ(n,k)=>n==x&&(k== .local||k== .cell))=false):
 gk (.ListComp elt gs scope oj) (some (.Name x p)) line C.env=pure true:=by
 unfold gk
 have h1:C.env.kindOf x=some .local:=K.ok.kinds _ _ (K.eq▸hx) (by decide)
 have h2:C.env.blockKind= .function:=by simp[Env.blockKind,K.ok.kind,r7]
 simp only[h1,h2]
 show pure _=pure true
 rw[EX]
 have h3:(p.line==(Expr.ListComp elt gs scope oj).pos.line)=true:=jm
 rw[h3]; rfl
theorem CY(K:CK C names){x:Str}{p oj:Pos}{elt:Expr}{gs:List dU}{scope:Scope}{line:Nat}(hx:(x,aq)∈names):
 gk (.ListComp elt gs scope oj) (some (.Name x p)) line C.env=pure false:=by
 unfold gk
 have h1:C.env.kindOf x=some .cell:=K.ok.kinds _ _ (K.eq▸hx) (by decide)
 simp only[h1]
 have h2:((some aq:Option aC)==some .local)=false:=by decide
 show pure _=pure false
 rw[h2]; simp
theorem gX(K:CK C names){x:Str}{p oj:Pos}{elt:Expr}{gs:List dU}{scope:Scope}{line:Nat}(hx:(x,aq)∈names):
 fJ [.Name x p] (.ListComp elt gs scope oj) line C.env=pure false:=CY (line:=line) K hx
theorem gI{α:Type}{eP elt:Expr}(xs:List α)(item:α->D)(out:α->D)(mm:α->Ro)(h1:∀a∈xs,VT W C ρ eP (item a) (mm a))(h2:∀a∈xs,VE W C (mm a) elt (out a))(h3:∀a∈xs,pd (mm a) ρ):Clause W C ρ eP [] (Af W C elt) (xs.map item) (xs.map out):=by
 induction xs with
 |nil=>exact .nil
 |cons a xs ih=>
  exact .cons (ds:=[out a]) (b:=true) (h1 a (.head _)).un .nil (λ_=>⟨_,rfl,(h2 a (.head _)).un⟩) (λe=>by exact nomatch e) (h3 a (.head _)) (ih (λb hb=>h1 b (.tail _ hb)) (λb hb=>h2 b (.tail _ hb)) λb hb=>h3 b (.tail _ hb))
theorem sr{α:Type}{eP elt t:Expr}(xs:List α)(item:α->D)(p:α->Bool)(out:α->D)(mm:α->Ro)(h1:∀a∈xs,VT W C ρ eP (item a) (mm a))(ht:∀a∈xs,VB W C (mm a) t (p a))(h2:∀a∈xs,p a=true->VE W C (mm a) elt (out a))(h3:∀a∈xs,pd (mm a) ρ):
 Clause W C ρ eP [t] (Af W C elt) (xs.map item) ((xs.filter p).map out):=by
 induction xs with
 |nil=>exact .nil
 |cons a xs ih=>
  have r:=ih (λb hb=>h1 b (.tail _ hb)) (λb hb=>ht b (.tail _ hb)) (λb hb=>h2 b (.tail _ hb)) λb hb=>h3 b (.tail _ hb)
  cases hp:p a with
  |true=>
   rw[eH,if_pos hp]
   exact .cons (ds:=[out a]) (h1 a (.head _)).un (.one (ht a (.head _)).un) (λ_=>⟨_,rfl,(h2 a (.head _) hp).un⟩) (λe=>by rw[hp] at e; exact nomatch e) (h3 a (.head _)) r
  |false=>
   rw[eH,if_neg (by rw[hp]; simp)]
   exact .cons (ds:=[]) (h1 a (.head _)).un (.one (ht a (.head _)).un) (λe=>by rw[hp] at e; exact nomatch e) (λ_=>rfl) (h3 a (.head _)) r
theorem BV{α:Type}{eP:Expr}{g:dU}{elt:Expr}(xs:List α)(item:α->D)(out:α->List D)(mm:α->Ro)(h1:∀a∈xs,VT W C ρ eP (item a) (mm a))(h2:∀a∈xs,ti W C g elt (mm a) (out a))(h3:∀a∈xs,pd (mm a) ρ):Clause W C ρ eP [] (ti W C g elt) (xs.map item) ((xs.map out).flatten):=by
 induction xs with
 |nil=>exact .nil
 |cons a xs ih=>
  rw[aO,aO,ee]
  exact .cons (ds:=out a) (b:=true) (h1 a (.head _)).un .nil (λ_=>h2 a (.head _)) (λe=>by exact nomatch e) (h3 a (.head _)) (ih (λb hb=>h1 b (.tail _ hb)) (λb hb=>h2 b (.tail _ hb)) λb hb=>h3 b (.tail _ hb))
theorem sj{es:List Expr}{pos:Pos}{ds:List D}(x:VA W C ρ es ds)(fC:autoParam (ds.length<=16777216) Lr._auto_1):VX W C ρ (.List es pos) (tA ds):=vx (.list x.un fC)
theorem XC{e1 e2:Expr}{k:Nat}{pos:Pos}{d1:D}{X:D->Res->Prop}(x:VE W C ρ e1 d1)(y:VX W C ρ e2 X)(he:autoParam (aI [e1,e2] C.env=[(false,eval e1 C.env),(false,eval e2 C.env)]) fM._auto_1):VX W C ρ (.Tuple [e1,e2] k pos) (λd r=>∃d2,d= .tup [d1,d2]/\X d2 r):=vx (.N0 x.un y.un he)
theorem EY{e1 e2:Expr}{k:Nat}{pos:Pos}{d2:D}{X:D->Res->Prop}(x:VX W C ρ e1 X)(y:VE W C ρ e2 d2)(he:autoParam (aI [e1,e2] C.env=[(false,eval e1 C.env),(false,eval e2 C.env)]) fM._auto_1):VX W C ρ (.Tuple [e1,e2] k pos) (λd r=>∃d1,d= .tup [d1,d2]/\X d1 r):=vx (.N1 x.un y.un he)
theorem Lz(K:CK C names){l r:Expr}{pos:Pos}{a:Addr}{xs ys:List D}(hI:∀f o,bc C ρ f o->lj f o a xs)(ha:VE W C ρ l (.raw (.ref a)))(hb:VE W C ρ r (.list ys))(hs:xs.length+ys.length<=1000000):VX W C ρ (.BinOp l .Add r pos) (tA (xs++ys)):=vx (.Xk K.ok hI ha.un hb.un hs)
noncomputable def v7(W:Wd)(C:Cx)(rest:List Stmt)(Q:Out->Prop):Out->Prop
 | .next a9=>VS W C a9 rest Q
 |out=>Q out
theorem v7.un{rest:List Stmt}:∀out,v7 W C rest Q out->Ai W C rest Q out
 | .next _,h=>VS.un h
 | .brk _,h=>h
 | .cont _,h=>h
 | .ret _,h=>h
theorem dj(h:Q (.next ρ)):VS W C ρ [] Q:=vs (.nil h)
theorem let1{t e:Expr}{pos:Pos}{rest:List Stmt}{d:D}(he:VE W C ρ e d)(ht:VT W C ρ t d a9)(h:VS W C a9 rest Q)(hs:autoParam (fJ [t] e pos.line C.env=pure false) fM._auto_1)(hw:autoParam (cS [t] e C.env=pure aD) fM._auto_1)
 (ha:autoParam ((bk [t] C.env).map (·.2)=[bE t C.env]) Lu._auto_1):VS W C ρ (.Assign [t] e pos::rest) Q:=vs (.assign he.un ht.un h.un hs hw ha)
theorem Ih{t e:Expr}{pos:Pos}{rest:List Stmt}{X:D->Res->Prop}(he:VX W C ρ e X)
 (h:∀d r,X d r->∃x bD bZ,VT W C ρ t d bD/\(x,Bd.val (.raw r.v))∈bD/\Ro.Set x (.res true r) bD bZ/\VS W C bZ rest Q) (hs:autoParam (fJ [t] e pos.line C.env=pure false) fM._auto_1) (hw:autoParam (cS [t] e C.env=pure aD) fM._auto_1)
 (ha:autoParam ((bk [t] C.env).map (·.2)=[bE t C.env]) Lu._auto_1):VS W C ρ (.Assign [t] e pos::rest) Q:=
 vs (.By he.un (λd r hx=>by obtain⟨x,bD,bZ,a,b,c,k⟩:=h d r hx; exact⟨x,bD,bZ,a.un,b,c,k.un⟩) hs hw ha)
theorem Ay(K:CK C names){x:Str}{k:aC}{e:Expr}{p pos:Pos}{rest:List Stmt}{ds:List D}(he:VX W C ρ e (tA ds))(h:∀a,∃a9,Ro.Set x (.res true (eJ a ds)) ρ a9/\VS W C a9 rest Q)(hk:autoParam ((x,k)∈names) vq._auto_1)(oZ:autoParam ((k== .local||k== .cell)=true) vn._auto_1)
 (hs:autoParam (fJ [.Name x p] e pos.line C.env=pure false) fM._auto_1) (hw:autoParam (cS [.Name x p] e C.env=pure aD) fM._auto_1) (ha:autoParam ((bk [.Name x p] C.env).map (·.2)=[bE (.Name x p) C.env]) Lu._auto_1):VS W C ρ (.Assign [.Name x p] e pos::rest) Q:=
 vs (.sj K.ok he.un (K.eq▸hk) oZ (λa=>let⟨a9,b,c⟩:=h a; ⟨a9,b,c.un⟩) hs hw ha)
theorem Oo(K:CK C names){x y:Str}{p q tp vp pos:Pos}{k k2:Nat}{e1 e2:Expr}{rest:List Stmt}{d1 d2:D}(he:VE W C ρ (.Tuple [e1,e2] k2 vp) (.tup [d1,d2]))(hm:oh C ρ [y,x] [d2,d1] a9)(h:VS W C a9 rest Q)(hx:autoParam ((x,ae)∈names) vq._auto_1)(hy:autoParam ((y,ae)∈names) vq._auto_1)
 (hl:autoParam ((q.line==p.line)=true) vn._auto_1) (EG:autoParam ((x==y)=false) sI._auto_1) (hs:autoParam (([e1,e2].any λx=>swappedStores.match_5 (λ_=>Bool) x (λ_ _=>true) λ_=>false)=false) fM._auto_1) (hf:autoParam ([e1,e2].all (foldedForSure 8)=false) fM._auto_1) (ha:autoParam ([e1,e2].all (constantsAlone 8)=false) fM._auto_1):VS W C ρ (.Assign [.Tuple [.Name x p, .Name y q] k tp] (.Tuple [e1,e2] k2 vp) pos::rest) Q:=
 vs (.HQ (names:=[x,y]) (ds:=[d1,d2]) K.ok K.hand he.un rfl hm h.un rfl (Av K hx hy hl EG hs hf ha))
theorem v8(K:CK C names){x:Str}{p pos oj:Pos}{elt eP iter:Expr}{ifs:List Expr}{scope:Scope}{rest:List Stmt}{xs out:List D}(hit:VI W C ρ eP iter xs)(hc:∀C',CK C' scope.names->C'.A=C.A->Clause W C' eX eP ifs (Af W C' elt) xs out)(hi:autoParam (nA names ρ scope.names eX) Ol._auto_1)
 (hn:out.length<=100000) (aU:autoParam (Ro.Set x (.val (.list out)) ρ a9) Ic._auto_1) (h:VS W C a9 rest Q) (hx:autoParam ((x,ae)∈names) vq._auto_1) (jm:autoParam ((p.line==oj.line)=true) vn._auto_1) (EX:autoParam ((scope.names.any λ(n,k)=>n==x&&(k== .local||k== .cell))=false) sI._auto_1) (j6:autoParam (decide (scope.names.map (·.1)).Nodup=true) Ia._auto_1)
 (hs:autoParam (∀x,bH iter C.env x=pure x) M9._auto_1) (hk:autoParam (scope.kind= .function) fM._auto_1):VS W C ρ (.Assign [.Name x p] (.ListComp elt [⟨eP,iter,ifs,0⟩] scope oj) pos::rest) Q:=
 vs (.Bz K.ok hit.un hs hk (of_decide_eq_true j6) (K.eq▸hi) rfl (λcenv O=>JL O K.hand (hc _ ⟨O,K.hand,rfl⟩ rfl) hn) (K.eq▸hx) aU h.un (yI K hx jm EX))
theorem j8{e:Expr}{pos:Pos}{rest:List Stmt}{d:D}(he:VE W C ρ e d)(h:Q (.ret d)):VS W C ρ (.Return (some e) pos::rest) Q:=vs (.ret he.un h)
theorem Oq{pos:Pos}{rest:List Stmt}(h:Q (.brk ρ)):VS W C ρ (.Break pos::rest) Q:=vs (.brk h)
theorem jx{t:Expr}{body orelse rest:List Stmt}{pos:Pos}{b:Bool}(ht:VB W C ρ t b)(hx:b=true->VS W C ρ body (v7 W C rest Q))(hy:b=false->VS W C ρ orelse (v7 W C rest Q)):VS W C ρ (.If t body orelse pos::rest) Q:=
 vs (.ite ht.un (λh=>((hx h).un).mono v7.un) λh=>((hy h).un).mono v7.un)
noncomputable def Ot(W:Wd)(C:Cx)(rest:List Stmt)(Q:Out->Prop)(I:List D->Ro->Prop)(xs:List D):Out->Prop
 | .next a9=>I xs a9
 | .cont a9=>I xs a9
 | .brk a9=>VS W C a9 rest Q
 | .ret d=>Q (.ret d)
theorem mR(K:CK C names){eP e:Expr}{body rest:List Stmt}{pos:Pos}{xs:List D}(he:VI W C ρ eP e xs)(I:List D->Ro->Prop)(hI:I xs ρ)(h0:∀ρ,I [] ρ->VS W C ρ rest Q)(h1:∀x xs ρ,I (x::xs) ρ->∃mm,VT W C ρ eP x mm/\VS W C mm body (Ot W C rest Q I xs))(hs:autoParam (∀x,bH e C.env x=pure x) M9._auto_1):VS W C ρ (.For eP e body [] pos::rest) Q:=
 vs (.WZ K.ok K.hand he.un hs (u5.of I (λρ h=>(h0 ρ h).un) (λx xs ρ h=>let⟨mm,a,b⟩:=h1 x xs ρ h; ⟨mm,a.un,b.un.mono λout q=>by
  cases out with
  |next a9=>exact q
  |cont a9=>exact q
  |brk a9=>exact VS.un q
  |ret d=>exact q⟩) xs ρ hI))
theorem EZ(K:CK C names){e:Expr}{a:Addr}{p1 p2 p3 pos:Pos}{rest:List Stmt}{d:D}{ds:List D}{x:Str}(he:VE W C ρ e d)(fC:ds.length<=16777216)(ir:VS W C a9 rest Q)(hm:autoParam ((x,Bd.res true (eJ a ds))∈ρ) vq._auto_1)(aU:autoParam (Ro.Set x (.res true (eJ a (ds++[d]))) ρ a9) Ic._auto_1)(h1:autoParam ((x==("__debug__" :Str))=false) sI._auto_1)(h2:autoParam ((x==("__classdict__" :Str))=false) sI._auto_1)
 (hb:autoParam (bx (.Name x p1) (J "append") C.env (eval (.Name x p1) C.env)=eval (.Name x p1) C.env) fM._auto_1) (pf:autoParam (aI [e] C.env=[(false,eval e C.env)]) fM._auto_1) (hl:autoParam ((p2.endLine==p3.line)=true) vn._auto_1)
 (hs:autoParam (gk (.Call (.Attribute (.Name x p1) (J "append") p2) [e] [] p3) aD pos.line C.env=pure false) fM._auto_1):VS W C ρ (.Expr (.Call (.Attribute (.Name x p1) (J "append") p2) [e] [] p3) pos::rest) Q:=
 vs (.BA K.ok he.un hm fC aU ir.un h1 h2 hb pf hl K.inter hs)
theorem tZ{ss:List Stmt}{x:Str}{a:Addr}{ds:List D}(hm:(x,Bd.res true (eJ a ds))∈ρ)(aU:Ro.Set x (.val (.list ds)) ρ a9)(h:VS W C a9 ss Q):VS W C ρ ss Q:=vs (.done hm aU h.un)
end
noncomputable def jG(size:Int)(c:Int)(x:Nat):Int:=if x=32 then c+1 else(c.fdiv size+1)*size
noncomputable def fe(l:List Nat)(size:Int):Int:=l.foldl (jG size) 0
inductive Ou(l:List Nat)(size:Nat)(xs:List D)(ρ:Ro):Prop
 |mk (r:List Nat) (c:Int) (b:Bd) (h1:xs=signs r) (h2:fe l size=r.foldl (jG size) c) (h3:ρ=[(J "lead", .val (.str (aS l))),(J "size", .val (.int size)),(J "column", .val (.int c)),(J "sign",b)]):Ou l size xs ρ
theorem Ov{W:Wd}(X:cH W){A:Around}(lv:Lv 1 A){l:List Nat}{size:Nat}(h1:l.all (·<128)=true)(h2:0<size)(h3:size<1000):iK W A (.ref 339) [.str (aS l), .int size] (.int (fe l size)):=by
 refine X.fn 339 (n:=0) (ps:=["lead","size"]) (ρ:=[("lead", .val (.str (aS l))),("size", .val (.int size)),("column", .unset),("sign", .unset)])
  (names:=[(J "lead", .local),(J "size", .local),(J "column", .local),(J "sign", .local)]) lv ⟨_,rfl,rfl⟩ rfl (by kernel_rfl) rfl rfl (by kernel_rfl) rfl rfl rfl rfl rfl (by kernel_rfl) (by kernel_rfl) (tY λa b=>by kernel_rfl) ?_ (λC O lv hN sD=>?_)
 ·show kl [(_,_),(_,_)] _ _
  exact ra
 ·have K:CK C _:=⟨O,lv.hand,hN⟩
  refine let1 num (cx K) ?_
  refine mR K (jF K (nm K) (BH h1)) (Ou l size) ⟨l,0,_,rfl,rfl,rfl⟩ ?_ ?_
  ·rintro ρ ⟨r,c,b,e1,e2,rfl⟩
   cases r with
   |cons x r=>exact nomatch e1
   |nil=>exact j8 (nm K) (by show D.int c=_; rw[e2]; rfl)
  ·rintro x xs ρ ⟨r,c,b,e1,e2,rfl⟩
   cases r with
   |nil=>exact nomatch e1
   |cons y r=>
    obtain⟨rfl,rfl⟩:x= .str (aS [y])/\xs=signs r:=by cases e1; exact⟨rfl,rfl⟩
    refine⟨_,cx K,?_⟩
    refine let1 (vu (d:= .int (jG size c y)) (kR K (nm K) (st [32]) tN) (λh=> .eq (bin K (nm K) num cV) ?_) λh=> .eq (bin K (bin K (bin K (nm K) (nm K) (lN (by exact RF h2 h3) (by exact Np h2 h3))) num cV) (nm K) (tD (by exact Np h2 h3))) ?_) (cx K) (dj ⟨r,_,_,rfl,e2,rfl⟩)
    ·have:y=32:=by simpa using h
     unfold jG; rw[if_pos this]
    ·have:y≠32:=by simpa using h
     unfold jG; rw[if_neg this]
section
variable {W:Wd}
theorem jV(X:cH W):cK W (J "len") (.builtin "len"):=X.bin (by kernel_rfl) (by decide+kernel) (by kernel_rfl)
theorem lC(X:cH W):cK W (J "max") (.builtin "max"):=X.bin (by kernel_rfl) (by decide+kernel) (by kernel_rfl)
theorem Ow(X:cH W):cK W (J "min") (.builtin "min"):=X.bin (by kernel_rfl) (by decide+kernel) (by kernel_rfl)
theorem JV(X:cH W):cK W (J "sum") (.builtin "sum"):=X.bin (by kernel_rfl) (by decide+kernel) (by kernel_rfl)
theorem yJ(X:cH W):cK W (J "sorted") (.builtin "sorted"):=X.bin (by kernel_rfl) (by decide+kernel) (by kernel_rfl)
theorem qz(X:cH W):cK W (J "isinstance") (.builtin "isinstance"):=X.bin (by kernel_rfl) (by decide+kernel) (by kernel_rfl)
theorem E0(X:cH W):cK W (J "str") (.type "str"):=X.bin (by kernel_rfl) (by decide+kernel) (by kernel_rfl)
theorem Ox(X:cH W):cK W (J "int") (.type "int"):=X.bin (by kernel_rfl) (by decide+kernel) (by kernel_rfl)
theorem g_bool(X:cH W):cK W (J "bool") (.type "bool"):=X.bin (by kernel_rfl) (by decide+kernel) (by kernel_rfl)
theorem xd(X:cH W):cK W (J "list") (.type "list"):=X.bin (by kernel_rfl) (by decide+kernel) (by kernel_rfl)
theorem Ii(X:cH W):cK W (J "tuple") (.type "tuple"):=X.bin (by kernel_rfl) (by decide+kernel) (by kernel_rfl)
theorem Az(X:cH W):cK W (J "type") (.type "type"):=X.bin (by kernel_rfl) (by decide+kernel) (by kernel_rfl)
theorem kz(X:cH W):cK W (J "range") (.type "range"):=X.bin (by kernel_rfl) (by decide+kernel) (by kernel_rfl)
theorem oz(X:cH W):cK W (J "enumerate") (.type "enumerate"):=X.bin (by kernel_rfl) (by decide+kernel) (by kernel_rfl)
theorem JW(X:cH W):cK W (J "zip") (.type "zip"):=X.bin (by kernel_rfl) (by decide+kernel) (by kernel_rfl)
theorem t8(X:cH W):∃t,cK W (J "NT_OFFSET") (.int 256 t):=⟨_,X.glob (v:= .int 256 _) rfl⟩
theorem Oy(X:cH W){A:Around}(lv:Lv 1 A){i:Int}:iK W A (.ref 162) [.int i] (.bool (decide (i<256))):=by
 obtain⟨t,g⟩:=t8 X
 refine X.fn 162 (n:=0) (ps:=["x"]) (ρ:=[("x", .val (.int i))]) (names:=[(J "x", .local),(J "NT_OFFSET", .globalImplicit)]) lv ⟨_,rfl,rfl⟩ rfl (by kernel_rfl) rfl rfl (by kernel_rfl) rfl rfl rfl rfl rfl (by kernel_rfl) (by kernel_rfl) (As λa=>by kernel_rfl) ?_ (λC O lv hN sD=>?_)
 ·show kl [(_,_)] _ _
  exact ra
 ·have K:CK C _:=⟨O,lv.hand,hN⟩
  exact j8 (cmp K (nm K) (ofRaw (d:= .int 256) (gl K g) λf=>⟨t,rfl⟩) BD) rfl
theorem XD(X:cH W){A:Around}(lv:Lv 1 A){i:Int}:iK W A (.ref 169) [.int i] (.bool (decide (256<=i))):=by
 obtain⟨t,g⟩:=t8 X
 refine X.fn 169 (n:=0) (ps:=["x"]) (ρ:=[("x", .val (.int i))]) (names:=[(J "x", .local),(J "NT_OFFSET", .globalImplicit)]) lv ⟨_,rfl,rfl⟩ rfl (by kernel_rfl) rfl rfl (by kernel_rfl) rfl rfl rfl rfl rfl (by kernel_rfl) (by kernel_rfl) (As λa=>by kernel_rfl) ?_ (λC O lv hN sD=>?_)
 ·show kl [(_,_)] _ _
  exact ra
 ·have K:CK C _:=⟨O,lv.hand,hN⟩
  exact j8 (cmp K (nm K) (ofRaw (d:= .int 256) (gl K g) λf=>⟨t,rfl⟩) vQ) rfl
noncomputable def nh:List Nat:=[97,116,32,116,97,98,32,115,105,122,101]
noncomputable def wordsOf(ns:List Int):List Nat:=nh++(if(ns.length:Int)>1 then[115] else[])++[32]++cW [44,32] (ns.map lO)
theorem Oz(X:cH W){A:Around}(lv:Lv 1 A){d:D}{ns:List Int}(hlen:∀A,mf W A (.builtin "len") [d] (.int ns.length))(hit:K0 W d (ns.map .int))(hs:∀n∈ns,n.natAbs<1000000/\(lO n).length<=100)(hn:ns.length<=100):iK W A (.ref 359) [d] (.str (aS (wordsOf ns))):=by
 refine X.fn 359 (n:=0) (ps:=["sizes"]) (ρ:=[("sizes", .val d)]) (names:=[(J "sizes", .local),(J "len", .globalImplicit)]) lv ⟨_,rfl,rfl⟩ rfl (by kernel_rfl) rfl rfl (by kernel_rfl) rfl rfl rfl rfl rfl (by kernel_rfl) (by kernel_rfl) (As λa=>by kernel_rfl) ?_ (λC O lv hN sD=>?_)
 ·show kl [(_,_)] _ _
  exact ra
 ·have K:CK C _:=⟨O,lv.hand,hN⟩
  have hp:∀l:List Int,(∀n∈l,(lO n).length<=100)->(cW [44,32] (l.map lO)).length<=102*l.length:=by
   intro l
   induction l with
   |nil=>intro _; simp[cW]
   |cons a l ih=>
    intro h
    have h1:=ih λn hn=>h n (.tail _ hn)
    have h2:=h a (.head _)
    cases l with
    |nil=>simp[cW]; exact aN 7478879206459393 tt h2
    |cons b l=>simp only[aO,cW,a8,aQ,fg] at h1 ⊢; exact cG 0x14140d688421352400869414206b4434a4e1004201 tt h2 h1
  have hj:=hp ns λn hn=>(hs n hn).2
  have key:(ns.map λn=>D.str (aS (lO n)))=((ns.map lO).map λt=>D.str (aS t)):=by rw[aM]; rfl
  refine j8 (bin K (bin K (bin K (st nh) (bin K (st [115]) (cmp K (bS (gl K (jV X)) .builtin (a1 (nm K)) (hlen _)) num Er) EE) (gS ?_)) (st [32]) (gS ?_))
   (gh (d:= .str (aS (cW [44,32] (ns.map lO)))) (st [44,32]) (iu gP gO) .builtin (a1 (dY (eX:=[(".0", .unset),("size", .unset)]) K (jF K (nm K) hit) (λC' K' e=>gI ns .int (λn=> .str (aS (lO n))) (λn=>[(".0", .unset),("size", .val (.int n))]) (λn hn=>cx K') (λn hn=>bS (gl K' (E0 X)) .type (a1 (nm K')) (tO (hs n hn).1)) λn hn=>?_) ku ?_)) ?_) (gS ?_)) ?_
  ·split<;>simp[nh]
  ·split<;>simp[nh]
  ·exact jT
  ·simp; exact aN 0xd4900210e2da84801 tt hn
  ·rw[key]
   refine qu (λt ht=>?_) (by simp; exact aN 0x352400847ec4801 tt hn) (by decide)
   obtain⟨n,hn,rfl⟩:=aw.mp ht
   have:=(hs n hn).2; exact aN 0x352400847ec4801 tt this
  ·split<;>(simp[nh]<;>(first|exact RG hn hj|exact RH hn hj|lia|omega))
  ·show D.str _=D.str _
   congr 1
   unfold wordsOf
   by_cases h:(ns.length:Int)>1<;>simp[h]
end
section
variable {W:Wd}{C:Cx}{ρ a9 bD bZ qx ES:Ro}{names:List (Str×aC)}
noncomputable def pk{α:Type}(l:List α)(lo hi st:Option Int):List α:=((m9 (dG lo hi st l.length).1 (dG lo hi st l.length).2.1 (dG lo hi st l.length).2.2).filterMap (l[·]?))
theorem LG{α:Type}(g:α->D)(l:List α)(lo hi st:Option Int):qp (l.map g) lo hi st=(pk l lo hi st).map g:=by
 unfold qp pk
 rw[ai,List.map_filterMap]
 congr 1
 funext i
 simp
theorem LH{α:Type}(l:List α)(lo hi st:Option Int):(pk l lo hi st).length<=l.length:=by
 unfold pk
 refine aP (List.length_filterMap_le _ _) ?_
 apply sliceRange_length_le
 ·intro hc
  simp only[dG] at hc ⊢
  simp only[hc,if_true]
  constructor
  ·cases lo with
   |none=>simp
   |some i=>dsimp only; exact RI
  ·cases hi with
   |none=>simp
   |some i=>dsimp only; exact RJ
 ·intro hc
  simp only[dG] at hc ⊢
  simp only[hc,if_false]
  constructor
  ·cases lo with
   |none=>simp
   |some i=>dsimp only; exact RK
  ·cases hi with
   |none=>simp
   |some i=>dsimp only; exact RL
noncomputable def bases:List (Nat×Int):=[(0,100),(1,94),(2,114),(3,1),(4,179)]
noncomputable def drawn(ns:List Int)(p:Nat×Int):Int:=(p.2+((pk ns (some p.1) (some 60) (some 5)).map λx=>x.fmod 192).sum).fmod 192
noncomputable def draws(ns:List Int):List Int:=bases.map (drawn ns)
noncomputable def Ij:List Nat:=[60]
noncomputable def Ik:List Nat:=[62]
noncomputable def Il:List Nat:=[61,61]
noncomputable def signOf(i:Int):List Nat:=if i=0 then Ij else if i=1 then Ik else Il
noncomputable def E1(y:Int):D:= .str (aS (signOf ((y.fdiv 16).fmod 3)))
noncomputable def t9(y:Int):D:= .tup [.int (y.fmod 4),E1 y, .int ((y.fdiv 4).fmod 4), .int (y.fdiv 48)]
theorem XE(X:cH W){A:Around}(lv:Lv 1 A){d:D}{ns:List Int}(hL:HV W d (ns.map .int))(hn:ns.length<=1000):iK W A (.ref 322) [d] (.tup [.list ((draws ns).map t9), .int (draws ns).sum]):=by
 refine X.fn 322 (n:=0) (ps:=["script"]) (ρ:=[("script", .val d),("draws", .unset)]) (names:=[(J "script", .cell),(J "draws", .local),(J "enumerate", .globalImplicit),(J "sum", .globalImplicit)]) lv ⟨_,rfl,rfl⟩ rfl (by kernel_rfl) rfl rfl (by kernel_rfl) rfl rfl rfl rfl rfl (by kernel_rfl) (by kernel_rfl) (As λa=>by kernel_rfl) ?_ (λC O lv hN sD=>?_)
 ·show kl [(_,_)] _ _
  exact ra
 ·have K:CK C _:=⟨O,lv.hand,hN⟩
  have hb:∀p∈bases,p.1<5:=by decide
  refine v8 (eX:=[(".0", .unset),("k", .unset),("base", .unset),("script", .val d)]) (out:=(draws ns).map .int) K
   (Ax (ds:=[.int 100, .int 94, .int 114, .int 1, .int 179]) (gl K (oz X)) (lst (ac num (ac num (ac num (ac num (ac num a0)))))))
   (λC' K' e=>?_) ku (by simp[draws,bases]) kD ?_
  ·refine gI bases (λp=> .tup [.int p.1, .int p.2]) (λp=> .int (drawn ns p)) (λp=>[(".0", .unset),("k", .val (.int p.1)),("base", .val (.int p.2)),("script", .val d)]) (λp hp=>iW K' (cx K') (cx K')) (λp hp=>?_) (λp hp=>jT)
   have XF:=LG .int ns (some p.1) (some 60) (some 5)
   refine bin K' (bin K' (nm K') (bS (d:= .int ((pk ns (some p.1) (some 60) (some 5)).map λx=>x.fmod 192).sum) (gl K' (JV X)) .builtin (a1 (dY (eX:=[(".0", .unset),("x", .unset)]) (out:=(((pk ns (some p.1) (some 60) (some 5)).map λx=>x.fmod 192)).map .int) K'
    (jF K' (mQ (nm K') hL (p1 (nm K')) (p1 num) (p1 num) (by decide) (by simp; exact aN 0xfd8900217d25484801 tt hn) (λ_ _=>rfl)) (by rw[XF]; exact bp))
    (λJX fk e'=>?_) ku ?_)) (BG K'.hand)) cV) num (lM (by decide))
   ·rw[aM]
    exact gI (pk ns (some p.1) (some 60) (some 5)) .int (λx=> .int (x.fmod 192)) (λx=>[(".0", .unset),("x", .val (.int x))]) (λx hx=>cx fk) (λx hx=>bin fk (nm fk) num (lM (by decide))) (λx hx=>jT)
   ·have:=LH ns (some (p.1:Int)) (some 60) (some 5)
    simp; exact aX 0x2108fd8900210e2da84821 tt hn this
  ·refine j8 (tup (ac (dY (eX:=[(".0", .unset),("y", .unset)]) (out:=(draws ns).map t9) K (jF K (nm K) bp) (λC' K' e=>?_) ku (by simp[draws,bases])) (a1 (bS (gl K (JV X)) .builtin (a1 (nm K)) (BG lv.hand))))) rfl
   refine gI (draws ns) .int t9 (λy=>[(".0", .unset),("y", .val (.int y))]) (λx hx=>cx K') (λy hy=>?_) (λx hx=>jT)
   refine tup (ac (bin K' (nm K') num (lM (by decide))) (ac ?_ (ac (bin K' (bin K' (nm K') num (lN (by decide) (by decide))) num (lM (by decide))) (a1 (bin K' (nm K') num (lN (by decide) (by decide)))))))
   have hk:∃i:Nat,(y.fdiv 16).fmod 3=i/\i<3:=by
    have h1:=Bn (y.fdiv 16) (b:=3) (by decide)
    have h2:=G5 (y.fdiv 16) (b:=3) (by decide)
    exact⟨((y.fdiv 16).fmod 3).toNat,by exact RM h1 h2,by exact RN h1 h2⟩
   obtain⟨i,hi,Z2⟩:=hk
   refine dB (T:= "tuple") (da:= .tup [.str (aS Ij), .str (aS Ik), .str (aS Il)]) (di:= .int i) K' (tup (ac (st Ij) (ac (st Ik) (a1 (st Il))))) (.eq (bin K' (bin K' (nm K') num (lN (by decide) (by decide))) num (lM (by decide))) (by rw[hi])) cu (fx ?_ (by exact aN 0xb5010085f495212a0201 tt Z2))
   unfold E1 signOf
   rw[hi]
   match i,Z2 with
   | 0,_=>rfl
   | 1,_=>rfl
   | 2,_=>rfl
end
noncomputable abbrev Rel:=List (List Int)
noncomputable def bF(r:Rel)(u v:Nat):Int:=(r.getD u []).getD v 0
noncomputable def xe:Rel:=(aB 4).map λ(u:Nat)=>(aB 4).map λ(v:Nat)=>if(u:Int)=v then 1 else 0
noncomputable def mS(r:Rel)(x y:Nat)(eQ:Int)(u v:Nat):Int:=max (bF r u v) (if bF r u x≠0/\bF r y v≠0 then max (max (bF r u x) eQ) (bF r y v) else 0)
noncomputable def c8(r:Rel)(x y:Nat)(eQ:Int):Rel:=(aB 4).map λu=>(aB 4).map λv=>mS r x y eQ u v
noncomputable def nC(row:List Int):D:= .list (row.map .int)
noncomputable def gB(r:Rel):D:= .list (r.map nC)
structure Wf(r:Rel):Prop where
 len:r.length=4
 row:∀w∈r,w.length=4
theorem yK(g:Nat->Nat->Int):Wf ((aB 4).map λu=>(aB 4).map λv=>g u v):=⟨rfl,λw hw=>by
 obtain⟨u,_,rfl⟩:=aw.mp hw; simp⟩
structure Ed where
 low:Nat
 sg:Nat
 high:Nat
 great:Int
 deriving DecidableEq
noncomputable def mn(i:Nat):List Nat:=if i=0 then Ij else if i=1 then Ik else Il
noncomputable def uW(e:Ed):D:= .tup [.int e.low, .str (aS (mn e.sg)), .int e.high, .int e.great]
structure Ed.Ok(e:Ed):Prop where
 low:e.low<4
 sg:e.sg<3
 high:e.high<4
noncomputable def Ed.ends(e:Ed):Nat×Nat×Int:=if e.sg=0 then(e.low,e.high,2) else if e.sg=1 then(e.high,e.low,2) else(e.low,e.high,1)
noncomputable def eA(r:Rel)(a b:Nat)(eQ:Int):Bool:=if eQ=2 then decide (bF r b a=0) else decide (max (bF r a b) (bF r b a)<2)
noncomputable def pairsOf(a b:Nat)(eQ:Int):List (Nat×Nat):=if eQ=2 then[(a,b)] else[(a,b),(b,a)]
noncomputable def rX(r:Rel)(e:Ed):Rel:=if eA r e.ends.1 e.ends.2.1 e.ends.2.2 then(pairsOf e.ends.1 e.ends.2.1 e.ends.2.2).foldl (λr p=>c8 r p.1 p.2 e.ends.2.2) r else r
noncomputable def rx(q:Rel×List Bool)(e:Ed):Rel×List Bool:=(rX q.1 e,q.2++[eA q.1 e.ends.1 e.ends.2.1 e.ends.2.2])
noncomputable def closure(es:List Ed):Rel×List Bool:=es.foldl rx (xe,[])
section
variable {W:Wd}{C:Cx}{ρ a9:Ro}{names:List (Str×aC)}{Q:Out->Prop}
theorem Wf.at{r:Rel}(w:Wf r){u:Nat}(hu:u<4):(r.map nC)[u]? =some (nC (r.getD u []))/\(r.getD u []).length=4:=by
 have h:u<r.length:=by rw[w.len]; exact hu
 rw[av,aj h,ak,aj h]
 exact⟨rfl,w.row _ (dh h)⟩
theorem ib(K:CK C names){r:Rel}(w:Wf r){e eu ev:Expr}{p1 p2:Pos}{u v:Nat}(he:VE W C ρ e (gB r))(eu':VE W C ρ eu (.int u))(ev':VE W C ρ ev (.int v))(hu:u<4)(hv:v<4)
 (h1:autoParam (∀o i,subscripted eu false o i=operate [o,i] (dJ o i)) CX._auto_1) (h2:autoParam (∀o i,subscripted ev false o i=operate [o,i] (dJ o i)) CX._auto_1):VE W C ρ (.Subscript (.Subscript e eu p1) ev p2) (.int (bF r u v)):=by
 obtain⟨a,b⟩:=w.at hu
 refine dB (T:= "list") (da:=nC (r.getD u [])) (di:= .int v) K (dB (T:= "list") (da:=gB r) (di:= .int u) K he eu' aR (bY a (by exact aN 0xbd010085f495212a0201 tt hu)) rfl h1) ev' aR (bY ?_ (by exact aN 0xbd010085f495212a0201 tt hv)) rfl h2
 unfold bF
 generalize sT r u []=row at b
 have h:v<row.length:=by rw[b]; exact hv
 rw[av,aj h,ak,aj h]; rfl
theorem mT(n:Nat):(u0 0 n).map D.int=(aB n).map λ(i:Nat)=>D.int i:=by
 have key:∀(n a:Nat),u0 (a:Int) n=(bB a n).map λi:Nat=>(i:Int):=by
  intro n
  induction n with
  |zero=>intro a; rfl
  |succ n ih=>intro a; rw[u0,sP,aO]; have:=ih (a+1); push_cast at this; rw[this]
 have:=key n 0
 rw[show((0:Nat):Int)=0 from rfl] at this
 rw[this,aM,km]; rfl
theorem ua{eP:Expr}(X:cH W)(K:CK C names){p1 p2 p3:Pos}{k:Nat}(hm:autoParam ((J "range",ag)∈names) vq._auto_1):VI W C ρ eP (.Call (.Name (J "range") p1) [.Constant (.int 4) k p2] [] p3) ((aB 4).map λ(i:Nat)=>D.int i):=by
 rw[<-mT]
 exact jF K (bS (gl K (kz X) hm (by decide+kernel)) .type (a1 num) mM) (mO (by decide) (by decide) (by decide) (by decide))
inductive OA(es:List Ed)(a:Addr)(xs:List D)(ρ:Ro):Prop
 |mk (pH:List Ed) (r:Rel) (ks:List Bool) (b1 b2 b3 b4 b5 b6 b7 b8 b9:Bd) (h1:xs=pH.map uW) (h2:Wf r) (h3:(∀e∈pH,e.Ok)) (h4:ks.length+pH.length<=1000) (h5:closure es=pH.foldl rx (r,ks)) (h6:ρ=([("said", .val (.list (es.map uW))),("rel", .val (gB r)),("kept", .res true (eJ a (ks.map .bool))),("low",b1),("sign",b2),("high",b3),("great",b4),("a",b5),("b",b6),("bond",b7),("x",b8),("y",b9)]:Ro)):OA es a xs ρ
inductive OB(es:List Ed)(e:Ed)(r:Rel)(ks:List Bool)(na nb:Nat)(eQ:Int)(a:Addr)(xs:List D)(ρ:Ro):Prop
 |mk (uX:List (Nat×Nat)) (r':Rel) (b8 b9:Bd) (h1:xs=(uX.map λp=> .tup [.int p.1, .int p.2])) (h2:Wf r') (h3:(∀p∈uX,p.1<4/\p.2<4)) (h4:rX r e=uX.foldl (λr p=>c8 r p.1 p.2 eQ) r') (h5:ρ=([("said", .val (.list (es.map uW))),("rel", .val (gB r')),("kept", .res true (eJ a (ks.map .bool++[.bool (eA r na nb eQ)]))),("low", .val (.int e.low)),("sign", .val (.str (aS (mn e.sg)))),("high", .val (.int e.high)),("great", .val (.int e.great)),("a", .val (.int na)),("b", .val (.int nb)),("bond", .val (.int eQ)),("x",b8),("y",b9)]:Ro)):OB es e r ks na nb eQ a xs ρ
theorem XG(X:cH W){A:Around}(lv:Lv 1 A){es:List Ed}(OC:∀e∈es,e.Ok)(hlen:es.length<=1000):iK W A (.ref 327) [.list (es.map uW)] (.tup [gB (closure es).1, .list ((closure es).2.map .bool)]):=by
 refine X.fn 327 (n:=0) (ps:=["said"]) (ρ:=[("said", .val (.list (es.map uW))),("rel", .unset),("kept", .unset),("low", .unset),("sign", .unset),("high", .unset),("great", .unset),("a", .unset),("b", .unset),("bond", .unset),("x", .unset),("y", .unset)])
  (names:=[(J "said",ae),(J "rel",aq),(J "kept",ae),(J "low",ae),(J "sign",ae),(J "high",ae),(J "great",ae),(J "a",ae),(J "b",ae),(J "bond",aq),(J "x",aq),(J "y",aq),(J "range",ag),(J "max",ag)])
  lv ⟨_,rfl,rfl⟩ rfl (by kernel_rfl) rfl rfl (by kernel_rfl) rfl rfl rfl rfl rfl (by kernel_rfl) (by kernel_rfl) (As λa=>by kernel_rfl) ?_ (λC O lv hN sD=>?_)
 ·show kl [(_,_)] _ _
  exact ra
 ·have K:CK C _:=⟨O,lv.hand,hN⟩
  refine Ih (XC (d1:=gB xe) ?_ (sj a0)) ?_ rfl (jU K (.inl ik))
  ·refine dY (eX:=[(".0", .unset),("u", .unset)]) K (ua X K) (λC' K' e'=>gI (aB 4) (λu=> .int u) (λu=>nC ((aB 4).map λ(v:Nat)=>if(u:Int)=v then 1 else 0)) (λu=>[(".0", .unset),("u", .val (.int u))]) (λu hu=>cx K') (λu hu=>?_) λu hu=>jT) ku (by decide)
   refine .eq (dY (eX:=[(".0", .unset),("v", .unset),("u", .val (.int u))]) (out:=(aB 4).map λ(v:Nat)=>D.int (if(u:Int)=v then 1 else 0)) K' (ua X K') (λJX fk LI=>gI (aB 4) (λv=> .int v) (λ(v:Nat)=>D.int (if(u:Int)=v then 1 else 0)) (λv=>[(".0", .unset),("v", .val (.int v)),("u", .val (.int u))]) (λv hv=>cx fk) (λv hv=>?_) λv hv=>jT) ku (by simp)) (by unfold nC; rw[aM]; rfl)
   refine .eq (bS (gl fk (Ox X)) .type (a1 (cmp fk (nm fk) (nm fk) ia)) EF) (by simp)
  ·rintro d r ⟨d2,rfl,a,rfl,rfl⟩
   refine⟨"kept",[("said", .val (.list (es.map uW))),("rel", .val (gB xe)),("kept", .val (.raw (.ref a))),("low", .unset),("sign", .unset),("high", .unset),("great", .unset),("a", .unset),("b", .unset),("bond", .unset),("x", .unset),("y", .unset)],
    [("said", .val (.list (es.map uW))),("rel", .val (gB xe)),("kept", .res true (eJ a [])),("low", .unset),("sign", .unset),("high", .unset),("great", .unset),("a", .unset),("b", .unset),("bond", .unset),("x", .unset),("y", .unset)],iW K (cx K) (cx K), .tail _ (.tail _ (.head _)),kD,?_⟩
   refine mR K (jF K (nm K) bp) (OA es a)
    ⟨es,xe,[],_,_,_,_,_,_,_,_,_,rfl,yK _,OC,by simpa using hlen,rfl,rfl⟩ ?_ ?_
   ·rintro ρ ⟨pH,r,ks,b1,b2,b3,b4,b5,b6,b7,b8,b9,e1,w,e2,e4,e3,rfl⟩
    cases pH with
    |cons _ _=>exact nomatch e1
    |nil=>
     refine tZ (x:= "kept") (a:=a) (ds:=ks.map .bool) ik kD ?_
     refine j8 (tup (ac (nm K) (a1 (nm K)))) ?_
     show D.tup _=D.tup _
     rw[e3]; rfl
   ·rintro x xs ρ ⟨pH,r,ks,b1,b2,b3,b4,b5,b6,b7,b8,b9,e1,w,e2,e4,e3,rfl⟩
    cases pH with
    |nil=>exact nomatch e1
    |cons e pH=>
     obtain⟨rfl,rfl⟩:x=uW e/\xs=pH.map uW:=by cases e1; exact⟨rfl,rfl⟩
     have eo:=e2 e (.head _)
     refine⟨_,JT K (cx K) (cx K) (cx K) (cx K),?_⟩
     have OD:∃a b eQ,e.ends=(a,b,eQ)/\a<4/\b<4/\(eQ=1\/eQ=2):=by
      unfold Ed.ends
      split
      ·exact⟨_,_,_,rfl,eo.low,eo.high, .inr rfl⟩
      ·split
       ·exact⟨_,_,_,rfl,eo.high,eo.low, .inr rfl⟩
       ·exact⟨_,_,_,rfl,eo.low,eo.high, .inl rfl⟩
     obtain⟨na,nb,eQ,he,ha,hb,OE⟩:=OD
     refine let1 (d:= .tup [.int na, .int nb, .int eQ]) (BM (knd:=strKind W.prog W.w) (λl:Str=> .str l) (λk v f h=>by obtain⟨t,rfl⟩:=h; exact beq_self_eq_true k) (HW:=aS Ij) (HY:=aS Ik) (HZ:=aS Il) (κ:=aS (mn e.sg)) (st Ij) (tup (ac (nm K) (ac (nm K) (a1 num)))) (st Ik) (tup (ac (nm K) (ac (nm K) (a1 num)))) (st Il) (tup (ac (nm K) (ac (nm K) (a1 num)))) (nm K) (λu1 u2 u3=>?_)) (rW K (cx K) (cx K) (cx K)) ?_
     ·have hs3:e.sg=0\/e.sg=1\/e.sg=2:=by have:=eo.sg; exact HA this
      unfold Ed.ends at he
      rcases hs3 with h0|h0|h0<;>rw[h0] at he ⊢<;>injection he with p1 p2<;>injection p2 with p2 p3<;>subst p1 p2 p3
      ·exact⟨u1,by kernel_rfl, .inl ⟨rfl,rfl⟩⟩
      ·exact⟨u2,by kernel_rfl, .inr (.inl ⟨rfl,rfl⟩)⟩
      ·exact⟨u3,by kernel_rfl, .inr (.inr ⟨rfl,rfl⟩)⟩
     ·have hk:rx (r,ks) e=(rX r e,ks++[eA r na nb eQ]):=by unfold rx; rw[he]
      refine EZ (d:= .bool (eA r na nb eQ)) (ds:=ks.map .bool) K (vu (kR K (nm K) num ia) (λh=> .eq (cmp K (ib K w (nm K) (nm K) (nm K) hb ha) num ia) ?_) λh=> .eq (cmp K (bS (gl K (lC X)) .builtin (ac (ib K w (nm K) (nm K) (nm K) ha hb) (a1 (ib K w (nm K) (nm K) (nm K) hb ha))) (jS lv.hand)) num BD) ?_) ?_ ?_
      ·have:eQ=2:=by simpa using h
       unfold eA; rw[if_pos this]
      ·have:eQ≠2:=by simpa using h
       unfold eA; rw[if_neg this]
      ·simp at e4 ⊢; exact aX 0x3f62540c010084308421084801 tt e4
      ·have hkb:(ks++[eA r na nb eQ]).map D.bool=ks.map D.bool++[.bool (eA r na nb eQ)]:=by simp
       have fin:∀ps:List (Nat×Nat),ps=(if eA r na nb eQ then pairsOf na nb eQ else[])->(∀p∈ps,p.1<4/\p.2<4):=by
        rintro ps rfl p hp
        split at hp
        ·unfold pairsOf at hp
         split at hp<;>simp at hp
         ·subst hp; exact⟨ha,hb⟩
         ·rcases hp with rfl|rfl
          ·exact⟨ha,hb⟩
          ·exact⟨hb,ha⟩
        ·exact nomatch hp
       obtain⟨ps,ng⟩:∃ps,ps=(if eA r na nb eQ then pairsOf na nb eQ else[]):=⟨_,rfl⟩
       have XH:rX r e=ps.foldl (λr p=>c8 r p.1 p.2 eQ) r:=by
        unfold rX; rw[he,ng]
        dsimp only
        split<;>rfl
       refine mR (xs:=ps.map λp=> .tup [.int p.1, .int p.2]) K (jF K ?_ bp) (OB es e r ks na nb eQ a)
        ⟨ps,r,_,_,rfl,w,fin ps ng,XH,rfl⟩ ?_ ?_
       ·have OF:(ks.map D.bool++[D.bool (eA r na nb eQ)])[(ks.map D.bool++[D.bool (eA r na nb eQ)]).length-1]? =some (D.bool (eA r na nb eQ)):=by simp
        refine vu (Aw K (yH K (a:=a) (ds:=ks.map D.bool++[D.bool (eA r na nb eQ)]) (di:= .int (-1)) (d:= .bool (eA r na nb eQ)) (λf o H=>(held (x:=J "kept") (w:=true) (r:=eJ a (ks.map D.bool++[D.bool (eA r na nb eQ)])) ik f o H).Ha) (JR K) (neg K num w8) (vU (k:=1) rfl (by decide) (by simp) (by simp[*]) OF)) gA) (λh=> .eq (mQ (ops:=λo i=>[i,o]) (lst (ac (tup (ac (nm K) (a1 (nm K)))) (a1 (tup (ac (nm K) (a1 (nm K))))))) xa p0 (p1 (bin K num (nm K) gH)) p0 (by exact nofun) (by simp) (λ_ _=>rfl)) ?_) λh=> .eq (lst a0) ?_
        ·rw[ng,if_pos h]; unfold pairsOf
         rcases OE with rfl|rfl<;>rfl
        ·rw[ng,if_neg (by rw[h]; simp)]; rfl
       ·rintro ρ ⟨uX,r',Z3,Z4,f1,w',f2,f3,rfl⟩
        cases uX with
        |cons _ _=>exact nomatch f1
        |nil=>
         refine dj ⟨pH,r',ks++[eA r na nb eQ], .val (.int e.low), .val (.str (aS (mn e.sg))), .val (.int e.high), .val (.int e.great), .val (.int na), .val (.int nb), .val (.int eQ),Z3,Z4,rfl,w',λe he=>e2 e (.tail _ he),?_,?_,?_⟩
         ·simp at e4 ⊢; exact aX 0x3f62540c0100847ec483404201 tt e4
         ·rw[e3,ei,hk,f3]; rfl
         ·rw[hkb]
       ·rintro x xs ρ ⟨uX,r',Z3,Z4,f1,w',f2,f3,rfl⟩
        cases uX with
        |nil=>exact nomatch f1
        |cons p uX=>
         obtain⟨rfl,rfl⟩:x= .tup [.int p.1, .int p.2]/\xs=(uX.map λp=> .tup [.int p.1, .int p.2]):=by cases f1; exact⟨rfl,rfl⟩
         obtain⟨q1,q2⟩:=f2 p (.head _)
         refine⟨_,iW K (cx K) (cx K),?_⟩
         refine let1 (d:=gB (c8 r' p.1 p.2 eQ)) ?_ (cx K) (dj ⟨uX,c8 r' p.1 p.2 eQ,_,_,rfl,yK _,λp hp=>f2 p (.tail _ hp),f3,rfl⟩) (gX K ik)
         refine .eq (dY (eX:=[(".0", .unset),("u", .unset),("bond", .val (.int eQ)),("rel", .val (gB r')),("x", .val (.int p.1)),("y", .val (.int p.2))]) (out:=(aB 4).map λ(u:Nat)=>nC ((aB 4).map λ(v:Nat)=>mS r' p.1 p.2 eQ u v)) K (ua X K) (λC' K' e'=>gI (aB 4) (λu=> .int u) (λu=>nC ((aB 4).map λ(v:Nat)=>mS r' p.1 p.2 eQ u v))
          (λu=>[(".0", .unset),("u", .val (.int u)),("bond", .val (.int eQ)),("rel", .val (gB r')),("x", .val (.int p.1)),("y", .val (.int p.2))]) (λu hu=>cx K') (λu hu=>?_) λu hu=>jT) ku (by simp)) (by unfold gB c8; rw[aM]; rfl)
         have yL:u<4:=aW.mp hu
         refine .eq (dY (eX:=[(".0", .unset),("v", .unset),("bond", .val (.int eQ)),("rel", .val (gB r')),("u", .val (.int u)),("x", .val (.int p.1)),("y", .val (.int p.2))]) (out:=(aB 4).map λ(v:Nat)=>D.int (mS r' p.1 p.2 eQ u v)) K' (ua X K') (λJX fk LI=>gI (aB 4) (λv=> .int v) (λ(v:Nat)=>D.int (mS r' p.1 p.2 eQ u v))
          (λv=>[(".0", .unset),("v", .val (.int v)),("bond", .val (.int eQ)),("rel", .val (gB r')),("u", .val (.int u)),("x", .val (.int p.1)),("y", .val (.int p.2))]) (λv hv=>cx fk) (λv hv=>?_) λv hv=>jT) ku (by simp)) (by unfold nC; rw[aM]; rfl)
         have Im:v<4:=aW.mp hv
         refine bS (gl fk (lC X)) .builtin (ac (ib fk w' (nm fk) (nm fk) (nm fk) yL Im) (a1 (vu (b:=decide (bF r' u p.1≠0/\bF r' p.2 v≠0)) (d:= .int (if bF r' u p.1≠0/\bF r' p.2 v≠0 then max (max (bF r' u p.1) eQ) (bF r' p.2 v) else 0))
          (.eq (Ie (vr (Aw fk (ib fk w' (nm fk) (nm fk) (nm fk) yL q1) w9) λ_=>vr (Aw fk (ib fk w' (nm fk) (nm fk) (nm fk) q2 Im) w9) λ_=>EV)) ?_) (λh=> .eq (bS (gl fk (lC X)) .builtin (ac (ib fk w' (nm fk) (nm fk) (nm fk) yL q1) (ac (nm fk) (a1 (ib fk w' (nm fk) (nm fk) (nm fk) q2 Im)))) (EH fk.hand)) ?_) λh=> .eq num ?_))) (jS fk.hand)
         ·rw[oN]; simp
         ·rw[if_pos (of_decide_eq_true h)]
         ·rw[if_neg (of_decide_eq_false h)]
end
section
variable {W:Wd}{C:Cx}{ρ a9:Ro}{names:List (Str×aC)}{Q:Out->Prop}{f o:Fz}{s:Shared}
theorem cH.kept(X:cH W){v:Value}(e:keepIn (KK W) v=true):Kept W v:=λh hB=>keeps_K e h λa ob q=>hB _ _ (X.sm a ob q)
theorem eZ.find{name:Str}:∀{fs:List (Str×D)} {es:List cz},eZ f fs es->(∀d,fs.lookup name=some d->∃v,getL name es=some (some v)/\Den f d v)/\(fs.lookup name=aD->getL name es=some aD)/\es.any (·.refKey)=false
 |[],_,e=>by
  rw[show _=[] from e]
  exact⟨λd h=>by simp at h,λ_=>rfl,rfl⟩
 |(n,d0)::fs,_,⟨h,t,v,r,e,x,y⟩=>by
  obtain⟨i1,i2,i3⟩:=eZ.find (name:=name) y
  subst e
  rw[eG]
  by_cases hn:name=n
  ·subst hn
   have hk:(⟨h, .str name t,v⟩:cz).key.isStr name=true:=by simp[sO]
   have hg:getL name (⟨h, .str name t,v⟩::r)=some (some v):=by unfold getL; rw[iO,hk]
   refine⟨λd hd=>?_,λhd=>?_,?_⟩
   ·simp at hd; subst hd; exact⟨v,hg,x⟩
   ·simp at hd
   ·rw[qW,i3]; rfl
  ·have hk:(⟨h, .str n t,v⟩:cz).key.isStr name=false:=by simp[sO]; exact λq=>hn q.symm
   have hb:(name==n)=false:=by simpa using hn
   have hg:getL name (⟨h, .str n t,v⟩::r)=getL name r:=by
    unfold getL; rw[iO,hk,qW]; rfl
   rw[hb,hg]
   exact⟨i1,i2,by rw[qW,i3]; rfl⟩
theorem Den.inst{Ca:Addr}{fs:List (Str×D)}{v:Value}(S:St W.B f o s)(h:Den f (.obj Ca fs) v):∃a dx es n,v= .ref a/\InstAt s.heap a (kf Ca dx) Ca (some (dictOf es n))/\eZ f fs es:=
 let⟨a,dx,es,n,e,h1,h2,h3⟩:=h
 ⟨a,dx,es,n,e,⟨S.sub _ _ h1,rfl,rfl,S.sub _ _ h2⟩,h3⟩
theorem handed{d:D}{v:Value}(h:Den f d v)(hr:∀u,d≠ .raw u):Ba v=true:=by
 cases d with
 |none=>rw[show v= .none from h]; rfl
 |bool b=>rw[show v= .bool b from h]; rfl
 |int i=>obtain⟨t,rfl⟩:=h; rfl
 |str x=>obtain⟨t,rfl⟩:=h; rfl
 |list ds=>obtain⟨a,_,_,_,rfl,_⟩:=h; rfl
 |tup ds=>obtain⟨a,_,_,_,rfl,_⟩:=h; rfl
 |Bs a b=>obtain⟨r,_,_,_,rfl,_⟩:=h; rfl
 |raw u=>exact absurd rfl (hr u)
 |obj C fs=>obtain⟨a,_,_,_,rfl,_⟩:=h; rfl
theorem ry(X:cH W){Ca:Addr}{name:Str}{fs:List (Str×D)}{d:D}{attr:Option Value}(hg:Jx (KK W) Ca name=true)(hh:pq (KK W) Ca=true)(ha:findIn (KK W) (.ref Ca) name=some attr)(hn:noGet (KK W) attr=true)(hf:fs.lookup name=some d)(hr:autoParam (∀u,d≠ .raw u) Lw._auto_1):yh W (λv=>gp v name true) (.obj Ca fs) d:=λA f o s v r S hv Q E h=>by
 obtain⟨a,dx,es,n,rfl,I,hD⟩:=Den.inst S hv
 obtain⟨u,h1,h2⟩:=(hD.find (name:=name)).1 d hf
 exact get_value (X.sH S) I (rN hg).1 (xX hh ha hn h1) (handed h2 hr) (h _ f _ (.refl f) (S.tok _) h2)
theorem jH(X:cH W){Ca fn:Addr}{name:Str}{fs:List (Str×D)}(hg:Jx (KK W) Ca name=true)(hf:findIn (KK W) (.ref Ca) name=some (some (.ref fn)))(ht:isFn (KK W) (.ref fn)=true)(hl:fs.lookup name=aD):Meth W (.obj Ca fs) name (.ref fn):=λA f o s v pl S hv Q E h=>by
 obtain⟨a,dx,es,n,rfl,I,hD⟩:=Den.inst S hv
 have h1:=(hD.find (name:=name)).2.1 hl
 exact method_fn (X.sH S) I (rN hg).1 (rN hg).2 hf (beq_iff_eq.mp ht) (by show(lookIn name (dictOf es n)).map _=_; rw[lookIn_dict,h1]; rfl) h
theorem jW(K:CK C names){ob:Expr}{name:Str}{pos:Pos}{da d:D}(ho:VE W C ρ ob da)(hg:yh W (λv=>gp v name true) da d)
 (he:autoParam (eval (.Attribute ob name pos) C.env=(do
  let o <-eval ob C.env
  dF pos.atName
  let r <-holding [o] (gp o name true)
  A8 ob o r
  pure r)) fM._auto_1):VE W C ρ (.Attribute ob name pos) d:=ve (.attr K.ok ho.un hg he)
noncomputable def CZ(raw:List Nat)(n nt:Int)(count:List Int)(trail:Int)(simple:Bool):D:= .obj 141 [("raw", .str (aS raw)),("n", .int n),("nt", .int nt),("norm", .tup [.tup (count.map .int), .int trail]),("is_simple", .bool simple)]
section
variable {raw:List Nat}{n nt trail:Int}{count:List Int}{simple:Bool}
theorem sJ(X:cH W):yh W (λv=>gp v (J "norm") true) (CZ raw n nt count trail simple) (.tup [.tup (count.map .int), .int trail]):=ry X (attr:=aD) (by kernel_rfl) (by kernel_rfl) (by kernel_rfl) rfl (by kernel_rfl)
theorem E2(X:cH W):yh W (λv=>gp v (J "nt") true) (CZ raw n nt count trail simple) (.int nt):=ry X (attr:=aD) (by kernel_rfl) (by kernel_rfl) (by kernel_rfl) rfl (by kernel_rfl)
theorem OG(X:cH W):yh W (λv=>gp v (J "n") true) (CZ raw n nt count trail simple) (.int n):=ry X (attr:=aD) (by kernel_rfl) (by kernel_rfl) (by kernel_rfl) rfl (by kernel_rfl)
theorem LJ(X:cH W):yh W (λv=>gp v (J "raw") true) (CZ raw n nt count trail simple) (.str (aS raw)):=ry X (attr:=aD) (by kernel_rfl) (by kernel_rfl) (by kernel_rfl) rfl (by kernel_rfl)
theorem v9(X:cH W):yh W (λv=>gp v (J "is_simple") true) (CZ raw n nt count trail simple) (.bool simple):=ry X (attr:=aD) (by kernel_rfl) (by kernel_rfl) (by kernel_rfl) rfl (by kernel_rfl)
theorem AA(X:cH W):Meth W (CZ raw n nt count trail simple) (J "longest_run_of_spaces") (.ref 103):=jH X (by kernel_rfl) (by kernel_rfl) (by kernel_rfl) (by kernel_rfl)
theorem C0(X:cH W):Meth W (CZ raw n nt count trail simple) (J "indent_level") (.ref 110):=jH X (by kernel_rfl) (by kernel_rfl) (by kernel_rfl) (by kernel_rfl)
end
end
noncomputable def oR(count:List Int)(trail:Int):Int:=max ((count.length:Int)-1) trail
noncomputable def yM(count:List Int)(ts:Nat):Int:=(bB ts (count.length-ts)).foldl (λ(il:Int) (i:Nat)=>il+((i:Int).fdiv ts)*count.getD i 0) 0
noncomputable def ub(count:List Int)(trail nt:Int)(ts:Nat):Int:=trail+ts*(yM count ts+nt)
section
variable {W:Wd}{C:Cx}{ρ a9:Ro}{names:List (Str×aC)}{Q:Out->Prop}{raw:List Nat}{n nt trail:Int}{count:List Int}{simple:Bool}
theorem oA:∀(n a:Nat),(u0 (a:Int) n).map D.int=(bB a n).map λ(i:Nat)=>D.int i
 | 0,_=>rfl
 |n+1,a=>by
  rw[u0,sP,aO,aO]
  have:=oA n (a+1)
  push_cast at this
  rw[this]
theorem XI(X:cH W){A:Around}(lv:Lv 1 A)(hc:count.length<=1000):iK W A (.ref 103) [CZ raw n nt count trail simple] (.int (oR count trail)):=by
 refine X.fn 103 (n:=0) (ps:=["self"]) (ρ:=[("self", .val (CZ raw n nt count trail simple)),("count", .unset),("trailing", .unset)])
  (names:=[(J "self",ae),(J "count",ae),(J "trailing",ae),(J "max",ag),(J "len",ag)])
  lv ⟨_,rfl,rfl⟩ rfl (by kernel_rfl) rfl rfl (by kernel_rfl) rfl rfl rfl rfl rfl (by kernel_rfl) (by kernel_rfl) (As λa=>by kernel_rfl) ?_ (λC O lv hN sD=>?_)
 ·show kl [(_,_)] _ _
  exact ra
 ·have K:CK C _:=⟨O,lv.hand,hN⟩
  refine let1 (jW K (nm K) (sJ X)) (iW K (cx K) (cx K)) ?_
  refine j8 (bS (gl K (lC X)) .builtin (ac (bin K (.eq (bS (gl K (jV X)) .builtin (a1 (nm K)) (yy (by simp; exact aN 0x3f6240085f495212a0201 tt hc))) rfl) num gH) (a1 (nm K))) (jS lv.hand)) ?_
  show D.int _=D.int _
  simp[oR]
inductive OH(raw:List Nat)(n nt:Int)(count:List Int)(trail:Int)(simple:Bool)(ts:Nat)(xs:List D)(ρ:Ro):Prop
 |mk (is:List Nat) (il:Int) (b:Bd) (h1:xs=(is.map λ(i:Nat)=>D.int i)) (h2:(∀i∈is,i<count.length)) (h3:yM count ts=is.foldl (λ(il:Int) (i:Nat)=>il+((i:Int).fdiv ts)*count.getD i 0) il) (h4:ρ=([("self", .val (CZ raw n nt count trail simple)),("tabsize", .val (.int ts)),("count", .val (.tup (count.map .int))),("trailing", .val (.int trail)),("il", .val (.int il)),("i",b)]:Ro)):OH raw n nt count trail simple ts xs ρ
theorem XJ(X:cH W){A:Around}(lv:Lv 1 A)(hc:count.length<=1000){ts:Nat}(h1:0<ts)(h2:ts<=1000)(hcb:∀c∈count,c.natAbs<1000000)(Z5:(yM count ts+nt).natAbs<1000000):iK W A (.ref 110) [CZ raw n nt count trail simple, .int ts] (.int (ub count trail nt ts)):=by
 refine X.fn 110 (n:=0) (ps:=["self","tabsize"]) (ρ:=[("self", .val (CZ raw n nt count trail simple)),("tabsize", .val (.int ts)),("count", .unset),("trailing", .unset),("il", .unset),("i", .unset)])
  (names:=[(J "self",ae),(J "tabsize",ae),(J "count",ae),(J "trailing",ae),(J "il",ae),(J "i",ae),(J "range",ag),(J "len",ag)])
  lv ⟨_,rfl,rfl⟩ rfl (by kernel_rfl) rfl rfl (by kernel_rfl) rfl rfl rfl rfl rfl (by kernel_rfl) (by kernel_rfl) (tY λa b=>by kernel_rfl) ?_ (λC O lv hN sD=>?_)
 ·show kl [(_,_),(_,_)] _ _
  exact ra
 ·have K:CK C _:=⟨O,lv.hand,hN⟩
  refine let1 (jW K (nm K) (sJ X)) (iW K (cx K) (cx K)) ?_
  refine let1 num (cx K) ?_
  have hr:(((count.map D.int).length:Int)-(ts:Int)).toNat=count.length-ts:=by simp
  refine mR (xs:=(bB ts (count.length-ts)).map λ(i:Nat)=>D.int i) K ?_ (OH raw n nt count trail simple ts) ⟨bB ts (count.length-ts),0,_,rfl,?_,rfl,rfl⟩ ?_ ?_
  ·rw[<-oA,<-hr]
   exact jF K (bS (gl K (kz X)) .type (ac (nm K) (a1 (bS (gl K (jV X)) .builtin (a1 (nm K)) (yy (by simp; exact aN 0x3f6240085f495212a0201 tt hc))))) kN) (mO (by exact ew 291674669377 tt) (by exact ew 0x1fb120042fa4a9048101 tt h2) (by exact ew 291674669377 tt) (by simp; exact ew 0x1fb120042fa4a9048101 tt hc))
  ·intro i hi; have:=cR.mp hi; exact RO this
  ·rintro ρ ⟨is,il,b,e1,e2,e3,rfl⟩
   cases is with
   |cons _ _=>exact nomatch e1
   |nil=>
    refine j8 (bin K (nm K) (bin K (nm K) (bin K (nm K) (jW K (nm K) (E2 X)) cV) (tD ?_)) cV) ?_
    ·rw[e3] at Z5; exact Z5
    ·show D.int _=D.int _
     unfold ub; rw[e3]; rfl
  ·rintro x xs ρ ⟨is,il,b,e1,e2,e3,rfl⟩
   cases is with
   |nil=>exact nomatch e1
   |cons i is=>
    obtain⟨rfl,rfl⟩:x= .int i/\xs=(is.map λ(i:Nat)=>D.int i):=by cases e1; exact⟨rfl,rfl⟩
    have hi:=e2 i (.head _)
    have XK:(count.map D.int)[i]? =some (.int (count.getD i 0)):=by
     rw[av,aj hi,ak,aj hi]; rfl
    refine⟨_,cx K,?_⟩
    refine let1 (bin K (nm K) (bin K (bin K (nm K) (nm K) (lN (by(first|lia|omega)) (by exact RP h1 h2))) (dB (T:= "tuple") (da:= .tup (count.map .int)) (di:= .int i) K (nm K) (nm K) cu (fx XK (by exact aX 0x28180423f6240085f495212a0601 tt hc hi))) (tD ?_)) cV) (cx K) (dj ⟨is,_,_,rfl,λj hj=>e2 j (.tail _ hj),e3,rfl⟩)
    refine hcb _ ?_
    rw[ak,aj hi]
    exact dh hi
end
structure iD where
 raw:List Nat
 n:Int
 nt:Int
 count:List Int
 trail:Int
 simple:Bool
noncomputable abbrev iD.D(w:iD):D:=CZ w.raw w.n w.nt w.count w.trail w.simple
structure iD.Ok(w:iD):Prop where
 len:w.count.length<=100
 cs:∀c∈w.count,c.natAbs<1000000
 il:∀ts,0<ts->ts<=1000->(yM w.count ts+w.nt).natAbs<1000000
 tr:0<=w.trail
 Io:w.trail<=100
noncomputable def iD.long(w:iD):Int:=oR w.count w.trail
noncomputable def iD.ind(w:iD)(ts:Nat):Int:=ub w.count w.trail w.nt ts
theorem iD.Ok.long{w:iD}(h:w.Ok):0<=w.long/\w.long<=100:=by
 have h1:=h.len; have h2:=h.tr; have h3:=h.Io
 unfold iD.long oR; exact RQ h1 h2 h3
noncomputable def sizesOf(a b:iD)(mq:Nat):List Nat:=bB mq ((max a.long b.long+2).toNat-mq)
noncomputable def mU(a b:iD)(ts:Nat):D:= .tup [.int ts, .int (a.ind ts), .int (b.ind ts)]
section
variable {W:Wd}{C:Cx}{ρ a9:Ro}{names:List (Str×aC)}{Q:Out->Prop}{a b:iD}
theorem oS(X:cH W)(K:CK C names)(lv:Lv 1 C.A){w:iD}(hw:w.Ok){e:Expr}{p1 p2:Pos}(he:VE W C ρ e w.D)(hl:autoParam ((p1.endLine==p2.line)=true) vn._auto_1)(hb:autoParam (bx e (J "longest_run_of_spaces") C.env (eval e C.env)=eval e C.env) fM._auto_1):VE W C ρ (.Call (.Attribute e (J "longest_run_of_spaces") p1) [] [] p2) (.int w.long):=
 gh he (AA X) (X.kept (by kernel_rfl)) a0 (XI X lv (by have:=hw.len; exact aN 0x352400847ec4801 tt this)).un rfl (by decide) hl hb
theorem lQ(X:cH W)(K:CK C names)(lv:Lv 1 C.A){w:iD}(hw:w.Ok){e OI:Expr}{ts:Nat}{p1 p2:Pos}(h1:0<ts)(h2:ts<=1000)(he:VE W C ρ e w.D)(ht:VE W C ρ OI (.int ts))(pf:autoParam (aI [OI] C.env=(false,eval OI C.env)::aI [] C.env) fM._auto_1)(hl:autoParam ((p1.endLine==p2.line)=true) vn._auto_1)(hb:autoParam (bx e (J "indent_level") C.env (eval e C.env)=eval e C.env) fM._auto_1)(hp:autoParam ((aI [OI] C.env).all (λx=>!x.1)=true) fM._auto_1):
 VE W C ρ (.Call (.Attribute e (J "indent_level") p1) [OI] [] p2) (.int (w.ind ts)):=
 gh he (C0 X) (X.kept (by kernel_rfl)) (a1 ht pf) (XJ X lv (by have:=hw.len; exact aN 0x352400847ec4801 tt this) h1 h2 hw.cs (hw.il ts h1 h2)).un hp (by simp) hl hb
theorem OJ(X:cH W){A:Around}(lv:Lv 1 A):iK W A (.ref 117) [a.D,b.D] (.bool (decide (a.count=b.count/\a.trail=b.trail))):=by
 refine X.fn 117 (n:=0) (ps:=["self","other"]) (ρ:=[("self", .val a.D),("other", .val b.D)])
  (names:=[(J "self",ae),(J "other",ae)])
  lv ⟨_,rfl,rfl⟩ rfl (by kernel_rfl) rfl rfl (by kernel_rfl) rfl rfl rfl rfl rfl (by kernel_rfl) (by kernel_rfl) (tY λa b=>by kernel_rfl) ?_ (λC O lv hN sD=>?_)
 ·show kl [(_,_),(_,_)] _ _
  exact ra
 ·have K:CK C _:=⟨O,lv.hand,hN⟩
  refine j8 (cmp K (jW K (nm K) (sJ X)) (jW K (nm K) (sJ X)) (tE (n:=2) (b:=decide (a.count=b.count/\a.trail=b.trail)) ?_ ?_ (by decide))) rfl
  ·exact w4 (.tup (ZL λ_ _=> .int)) .int
  ·rw[decide_eq_true_iff]
   constructor
   ·rintro⟨h1,h2⟩; rw[h1,h2]
   ·intro h
    injection h with h
    injection h with h1 h2
    injection h2 with h2
    injection h2 with h2
    injection h1 with h1
    exact⟨DZ (λx y e=>by injection e) |>.mp h1,h2⟩
theorem ud{eP:Expr}(X:cH W)(K:CK C names)(ha:a.Ok)(hb:b.Ok){k:Nat}(hk:k=1\/k=2){e1 e2:Expr}{p1 p2:Pos}(h1:VE W C ρ e1 (.int k))(h2:VE W C ρ e2 (.int (max a.long b.long+1+1)))(hg:(J "range",ag)∈names)(pf:autoParam (aI [e1,e2] C.env=(false,eval e1 C.env)::aI [e2] C.env) fM._auto_1)(LK:autoParam (aI [e2] C.env=(false,eval e2 C.env)::aI [] C.env) fM._auto_1)
 (hp:autoParam ((aI [e1,e2] C.env).all (λx=>!x.1)=true) fM._auto_1) (he:autoParam (eval (.Call (.Name (J "range") p1) [e1,e2] [] p2) C.env=(do fS p2 (<-eval (.Name (J "range") p1) C.env) [] (backTo p2 (aI [e1,e2] C.env)) (gr p2 (dI [] C.env)))) fM._auto_1):
 VI W C ρ eP (.Call (.Name (J "range") p1) [e1,e2] [] p2) ((sizesOf a b k).map λ(ts:Nat)=>D.int ts):=by
 have l1:=ha.long; have l2:=hb.long
 unfold sizesOf
 rw[<-oA,show(max a.long b.long+2).toNat-k=(max a.long b.long+1+1-(k:Int)).toNat by exact RR l1 l2]
 exact jF K (bS (gl K (kz X) hg (by decide+kernel)) .type (ac h1 (a1 h2 LK) pf) kN hp he) (mO (by exact ew 291674669377 tt) (by exact RS hk) (by exact RT l1 l2) (by exact RU l1 l2))
theorem rz(ha:a.Ok)(hb:b.Ok){k:Nat}(hk:k=1\/k=2){ts:Nat}(h:ts∈sizesOf a b k):0<ts/\ts<=1000:=by
 have l1:=ha.long; have l2:=hb.long
 have:=cR.mp h
 exact RV hk l1 l2 this
noncomputable def pD(a b:iD):List Nat:=(sizesOf a b 1).filter λts=>decide (a.ind ts≠b.ind ts)
noncomputable def mw(a b:iD):List Nat:=(sizesOf a b 1).filter λts=>decide (b.ind ts<=a.ind ts)
inductive OK(a b:iD)(q:Addr)(xs:List D)(ρ:Ro):Prop
 |mk (nN done:List Nat) (bt:Bd) (h1:xs=(nN.map λ(ts:Nat)=>D.int ts)) (h2:(∀ts∈nN,0<ts/\ts<=1000)) (h3:done.length+nN.length<=1000) (h4:pD a b=done++nN.filter (λts=>decide (a.ind ts≠b.ind ts))) (h5:ρ=([("self", .val a.D),("other", .val b.D),("n", .val (.int (max a.long b.long+1))),("a", .res true (eJ q (done.map (mU a b)))),("ts",bt)]:Ro)):OK a b q xs ρ
theorem OL(X:cH W){A:Around}(lv:Lv 2 A)(ha:a.Ok)(hb:b.Ok):iK W A (.ref 124) [a.D,b.D] (.list ((pD a b).map (mU a b))):=by
 refine X.fn 124 (n:=1) (ps:=["self","other"]) (ρ:=[("self", .val a.D),("other", .val b.D),("n", .unset),("a", .unset),("ts", .unset)])
  (names:=[(J "self",ae),(J "other",ae),(J "n",ae),(J "a",ae),(J "ts",ae),(J "max",ag),(J "range",ag)])
  lv ⟨_,rfl,rfl⟩ rfl (by kernel_rfl) rfl rfl (by kernel_rfl) rfl rfl rfl rfl rfl (by kernel_rfl) (by kernel_rfl) (tY λa b=>by kernel_rfl) ?_ (λC O lv hN sD=>?_)
 ·show kl [(_,_),(_,_)] _ _
  exact ra
 ·have K:CK C _:=⟨O,lv.hand,hN⟩
  have l1:=ha.long
  have l2:=hb.long
  refine let1 (bin K (bS (gl K (lC X)) .builtin (ac (oS X K lv ha (nm K)) (a1 (oS X K lv hb (nm K)))) (jS lv.hand)) num cV) (cx K) ?_
  refine Ay K (sj a0) λq=>⟨_,kD,?_⟩
  refine mR K (ud X K ha hb (k:=1) (.inl rfl) num (bin K (nm K) num cV) ik) (OK a b q) ⟨sizesOf a b 1,[],_,rfl,λts h=>rz ha hb (.inl rfl) h,?_,rfl,rfl⟩ ?_ ?_
  ·unfold sizesOf; simp; exact Nq l1 l2
  ·rintro ρ ⟨nN,done,bt,e1,e2,e3,e4,rfl⟩
   cases nN with
   |cons _ _=>exact nomatch e1
   |nil=>
    refine tZ (x:= "a") (a:=q) (ds:=done.map (mU a b)) ik kD ?_
    refine j8 (nm K) ?_
    show D.list _=D.list _
    rw[e4]; simp
  ·rintro x xs ρ ⟨nN,done,bt,e1,e2,e3,e4,rfl⟩
   cases nN with
   |nil=>exact nomatch e1
   |cons ts nN=>
    obtain⟨rfl,rfl⟩:x= .int ts/\xs=(nN.map λ(ts:Nat)=>D.int ts):=by cases e1; exact⟨rfl,rfl⟩
    obtain⟨p1,p2⟩:=e2 ts (.head _)
    refine⟨_,cx K,?_⟩
    refine jx (b:=decide (a.ind ts≠b.ind ts)) (kR K (lQ X K lv ha p1 p2 (nm K) (nm K)) (lQ X K lv hb p1 p2 (nm K) (nm K)) (yw (n:=0) .int (by simp) (by decide))) (λh=>?_) λh=>?_
    ·refine EZ (d:=mU a b ts) (ds:=done.map (mU a b)) K (tup (ac (nm K) (ac (lQ X K lv ha p1 p2 (nm K) (nm K)) (a1 (lQ X K lv hb p1 p2 (nm K) (nm K)))))) (by simp at e3 ⊢; exact aX 0x3f62540c010084308421084801 tt e3) ?_
     refine dj (dj ⟨nN,done++[ts], .val (.int ts),rfl,λt ht=>e2 t (.tail _ ht),by simp at e3 ⊢; exact aX 0x3f62540c0100847ec483404201 tt e3,?_,by simp⟩)
     rw[e4,eH,if_pos h]; simp
    ·refine dj (dj ⟨nN,done, .val (.int ts),rfl,λt ht=>e2 t (.tail _ ht),by simp at e3 ⊢; exact aX 0xfd895030040211fb1208201 tt e3,?_,rfl⟩)
     rw[e4,eH,if_neg (by rw[h]; simp)]
inductive OM(a b:iD)(q:Addr)(xs:List D)(ρ:Ro):Prop
 |mk (nN done:List Nat) (bt:Bd) (h1:xs=(nN.map λ(ts:Nat)=>D.int ts)) (h2:(∀ts∈nN,0<ts/\ts<=1000)) (h3:done.length+nN.length<=1000) (h4:mw a b=done++nN.filter (λts=>decide (b.ind ts<=a.ind ts))) (h5:ρ=([("self", .val a.D),("other", .val b.D),("n", .val (.int (max a.long b.long+1))),("a", .res true (eJ q (done.map (mU a b)))),("ts",bt)]:Ro)):OM a b q xs ρ
theorem LL(X:cH W){A:Around}(lv:Lv 2 A)(ha:a.Ok)(hb:b.Ok):iK W A (.ref 138) [a.D,b.D] (.list ((mw a b).map (mU a b))):=by
 refine X.fn 138 (n:=1) (ps:=["self","other"]) (ρ:=[("self", .val a.D),("other", .val b.D),("n", .unset),("a", .unset),("ts", .unset)])
  (names:=[(J "self",ae),(J "other",ae),(J "n",ae),(J "a",ae),(J "ts",ae),(J "max",ag),(J "range",ag)])
  lv ⟨_,rfl,rfl⟩ rfl (by kernel_rfl) rfl rfl (by kernel_rfl) rfl rfl rfl rfl rfl (by kernel_rfl) (by kernel_rfl) (tY λa b=>by kernel_rfl) ?_ (λC O lv hN sD=>?_)
 ·show kl [(_,_),(_,_)] _ _
  exact ra
 ·have K:CK C _:=⟨O,lv.hand,hN⟩
  have l1:=ha.long
  have l2:=hb.long
  refine let1 (bin K (bS (gl K (lC X)) .builtin (ac (oS X K lv ha (nm K)) (a1 (oS X K lv hb (nm K)))) (jS lv.hand)) num cV) (cx K) ?_
  refine Ay K (sj a0) λq=>⟨_,kD,?_⟩
  refine mR K (ud X K ha hb (k:=1) (.inl rfl) num (bin K (nm K) num cV) ik) (OM a b q) ⟨sizesOf a b 1,[],_,rfl,λts h=>rz ha hb (.inl rfl) h,?_,rfl,rfl⟩ ?_ ?_
  ·unfold sizesOf; simp; exact Nq l1 l2
  ·rintro ρ ⟨nN,done,bt,e1,e2,e3,e4,rfl⟩
   cases nN with
   |cons _ _=>exact nomatch e1
   |nil=>
    refine tZ (x:= "a") (a:=q) (ds:=done.map (mU a b)) ik kD ?_
    refine j8 (nm K) ?_
    show D.list _=D.list _
    rw[e4]; simp
  ·rintro x xs ρ ⟨nN,done,bt,e1,e2,e3,e4,rfl⟩
   cases nN with
   |nil=>exact nomatch e1
   |cons ts nN=>
    obtain⟨rfl,rfl⟩:x= .int ts/\xs=(nN.map λ(ts:Nat)=>D.int ts):=by cases e1; exact⟨rfl,rfl⟩
    obtain⟨p1,p2⟩:=e2 ts (.head _)
    refine⟨_,cx K,?_⟩
    refine jx (b:=decide (b.ind ts<=a.ind ts)) (kR K (lQ X K lv ha p1 p2 (nm K) (nm K)) (lQ X K lv hb p1 p2 (nm K) (nm K)) vQ) (λh=>?_) λh=>?_
    ·refine EZ (d:=mU a b ts) (ds:=done.map (mU a b)) K (tup (ac (nm K) (ac (lQ X K lv ha p1 p2 (nm K) (nm K)) (a1 (lQ X K lv hb p1 p2 (nm K) (nm K)))))) (by simp at e3 ⊢; exact aX 0x3f62540c010084308421084801 tt e3) ?_
     refine dj (dj ⟨nN,done++[ts], .val (.int ts),rfl,λt ht=>e2 t (.tail _ ht),by simp at e3 ⊢; exact aX 0x3f62540c0100847ec483404201 tt e3,?_,by simp⟩)
     rw[e4,eH,if_pos h]; simp
    ·refine dj (dj ⟨nN,done, .val (.int ts),rfl,λt ht=>e2 t (.tail _ ht),by simp at e3 ⊢; exact aX 0xfd895030040211fb1208201 tt e3,?_,rfl⟩)
     rw[e4,eH,if_neg (by rw[h]; simp)]
noncomputable def eK(a b:iD):Bool:=if b.n<=a.n then false else if a.simple&&b.simple then decide (a.nt<=b.nt) else(sizesOf a b 2).all λts=>decide (a.ind ts<b.ind ts)
inductive ON(a b:iD)(xs:List D)(ρ:Ro):Prop
 |mk (nN:List Nat) (bt:Bd) (h1:xs=(nN.map λ(ts:Nat)=>D.int ts)) (h2:(∀ts∈nN,0<ts/\ts<=1000)) (h3:eK a b=nN.all (λts=>decide (a.ind ts<b.ind ts))) (h4:ρ=([("self", .val a.D),("other", .val b.D),("n", .val (.int (max a.long b.long+1))),("ts",bt)]:Ro)):ON a b xs ρ
theorem OO(X:cH W){A:Around}(lv:Lv 2 A)(ha:a.Ok)(hb:b.Ok):iK W A (.ref 131) [a.D,b.D] (.bool (eK a b)):=by
 refine X.fn 131 (n:=1) (ps:=["self","other"]) (ρ:=[("self", .val a.D),("other", .val b.D),("n", .unset),("ts", .unset)])
  (names:=[(J "self",ae),(J "other",ae),(J "n",ae),(J "ts",ae),(J "max",ag),(J "range",ag)])
  lv ⟨_,rfl,rfl⟩ rfl (by kernel_rfl) rfl rfl (by kernel_rfl) rfl rfl rfl rfl rfl (by kernel_rfl) (by kernel_rfl) (tY λa b=>by kernel_rfl) ?_ (λC O lv hN sD=>?_)
 ·show kl [(_,_),(_,_)] _ _
  exact ra
 ·have K:CK C _:=⟨O,lv.hand,hN⟩
  have l1:=ha.long
  have l2:=hb.long
  refine jx (b:=decide (b.n<=a.n)) (kR K (jW K (nm K) (OG X)) (jW K (nm K) (OG X)) vQ) (λh=>j8 JS ?_) λh=>dj ?_
  ·show D.bool _=D.bool _
   unfold eK; rw[if_pos (of_decide_eq_true h)]
  have h0:eK a b=if a.simple&&b.simple then decide (a.nt<=b.nt) else(sizesOf a b 2).all λts=>decide (a.ind ts<b.ind ts):=by
   unfold eK; rw[if_neg (of_decide_eq_false h)]
  refine jx (b:=a.simple&&b.simple) (.eq (Ie (vr (Aw K (jW K (nm K) (v9 X)) gA) λ_=>vr (Aw K (jW K (nm K) (v9 X)) gA) λ_=>EV)) (by simp)) (λh=>j8 (cmp K (jW K (nm K) (E2 X)) (jW K (nm K) (E2 X)) JO) ?_) λh=>dj ?_
  ·show D.bool _=D.bool _
   rw[h0,if_pos h]
  have h1:eK a b=(sizesOf a b 2).all λts=>decide (a.ind ts<b.ind ts):=by rw[h0,if_neg (by rw[h]; simp)]
  refine let1 (bin K (bS (gl K (lC X)) .builtin (ac (oS X K lv ha (nm K)) (a1 (oS X K lv hb (nm K)))) (jS lv.hand)) num cV) (cx K) ?_
  refine mR K (ud X K ha hb (k:=2) (.inr rfl) num (bin K (nm K) num cV) ik) (ON a b) ⟨sizesOf a b 2,_,rfl,λts h=>rz ha hb (.inr rfl) h,h1,rfl⟩ ?_ ?_
  ·rintro ρ ⟨nN,bt,e1,e2,e4,rfl⟩
   cases nN with
   |cons _ _=>exact nomatch e1
   |nil=>exact j8 JS (by show D.bool _=D.bool _; rw[e4]; rfl)
  ·rintro x xs ρ ⟨nN,bt,e1,e2,e4,rfl⟩
   cases nN with
   |nil=>exact nomatch e1
   |cons ts nN=>
    obtain⟨rfl,rfl⟩:x= .int ts/\xs=(nN.map λ(ts:Nat)=>D.int ts):=by cases e1; exact⟨rfl,rfl⟩
    obtain⟨p1,p2⟩:=e2 ts (.head _)
    refine⟨_,cx K,?_⟩
    refine jx (b:=decide (b.ind ts<=a.ind ts)) (kR K (lQ X K lv ha p1 p2 (nm K) (nm K)) (lQ X K lv hb p1 p2 (nm K) (nm K)) vQ) (λh=>j8 JS ?_) λh=>?_
    ·show D.bool _=D.bool _
     rw[e4,de,decide_eq_false (by have:=of_decide_eq_true h; exact RW this)]; rfl
    ·refine dj (dj ⟨nN, .val (.int ts),rfl,λt ht=>e2 t (.tail _ ht),?_,rfl⟩)
     rw[e4,de,decide_eq_true (by have:=of_decide_eq_false h; exact RX this)]; rfl
end
section
variable {W:Wd}{C:Cx}{ρ a9:Ro}{names:List (Str×aC)}{Q:Out->Prop}{f o:Fz}{s:Shared}
theorem E3{K:Frag}{A:Around}{x dx Ca:Addr}{es:List cz}{n:Nat}{name:Str}{v:Value}{E:Value->Shared->Prop}{Q:Unit->Shared->Prop}(X:K.In s.heap)(I:InstAt s.heap x (kf Ca dx) Ca (some (dictOf es n)))
 (hs:findIn K (.ref Ca) "__setattr__" =some (some (.builtin "object.__setattr__"))) (hp:DU K Ca=true) (ht:p8 K Ca name=some aD) (hh:pq K Ca=true) (hl:es.any (·.refKey)=false)
 (hz:(putL name (dw W.w.params name) (.str name (s.toks+1)) v es).length<=1000)
 (h:∀h',h'.get? dx=some (dictOf (putL name (dw W.w.params name) (.str name (s.toks+1)) v es) (putN name es n))->fu dx s.heap h'->Q () {s with heap:=h',toks:=s.toks+2}):
 wpAny W.M A (setAttr (.ref x) name v) Q E s:=by
 refine set_plain X I hs (osa_open (s:={s with toks:=s.toks+1}) X I hp ht λb=>?_)
 obtain⟨cd,hc,Hc⟩:=any_some hh
 have Dd:s.heap.get? dx=some (dictOf es n):=I.dict
 refine aa (ao (aa (aa (gK I.at_ (aa (xW X hc _ _ _ _ (λ_ _ e=>e) ?_))))))
 rw[Hc]
 refine ao (a:=some dx) (aa (ao (aa ?_)))
 unfold nsSet
 refine aa (aa (pj (ao (aa (p7 (aa (gK Dd ?_)))))))
 have D':(s.heap.update dx (DC name (dw W.w.params name) (.str name (s.toks+1)) v)).get? dx=some (dictOf (putL name (dw W.w.params name) (.str name (s.toks+1)) v es) (putN name es n)):=by
  rw[bK _ Dd (by rw[mC]; rfl),mC]
 have c:(!es.toArray.any (·.key.isStr name)&&es.toArray.any (·.refKey))=false:=by
  rw[show es.toArray.any (·.refKey)=false by simpa using hl,pG]
 rw[show(dictOf es n).data= .dict es.toArray n from rfl]
 dsimp only
 rw[p9,c]
 refine xC Dd ?_
 refine aa (xE D' (xG (by rw[ff,bu]; exact aN 0xfd890021a06108421094001 tt hz)) ?_)
 exact ao (h _ D' (dT ..))
noncomputable def rA(name:Str)(d:D):List (Str×D)->List (Str×D)
 |[]=>[(name,d)]
 |(n,e)::r=>if n=name then(n,d)::r else(n,e)::rA name d r
theorem eZ.put{name:Str}{hsh:Int}{t:Tok}{v:Value}{d:D}(hv:Den f d v):∀{fs:List (Str×D)} {es:List cz},eZ f fs es->eZ f (rA name d fs) (putL name hsh (.str name t) v es)
 |[],_,e=>by
  rw[show _=[] from e]
  exact⟨_,_,_,_,rfl,hv,rfl⟩
 |(n,d0)::fs,_,⟨h,t',v',r,e,x,y⟩=>by
  subst e
  unfold rA putL
  by_cases hn:n=name
  ·have hk:(⟨h, .str n t',v'⟩:cz).key.isStr name=true:=by simp[sO,hn]
   rw[if_pos hn,if_pos hk]
   exact⟨_,_,_,_,rfl,hv,y⟩
  ·have hk:(⟨h, .str n t',v'⟩:cz).key.isStr name=false:=by simpa [sO] using hn
   rw[if_neg hn,hk]
   exact⟨_,_,_,_,rfl,x,eZ.put hv y⟩
theorem eZ.len:∀{fs:List (Str×D)} {es:List cz},eZ f fs es->es.length=fs.length
 |[],_,e=>by rw[show _=[] from e]; rfl
 |_::_,_,⟨_,_,_,_,e,_,y⟩=>by rw[e,aQ,aQ,eZ.len y]
noncomputable def gY(x dx Ca:Addr)(fs:List (Str×D)):Res where
 v:= .ref x
 as:=[dx]
 P:=λf o=>f x=some (kf Ca dx)/\∃es n,o dx=some (dictOf es n)/\eZ f fs es
 mono:=λf f' o o' h ho ⟨a,es,n,e,q⟩=>⟨h _ _ a,es,n,ho dx (.head _) _ e,q.mono h⟩
 there:=λf o ⟨_,_,_,e,_⟩ a ha=>by rcases aA.mp ha with rfl; exact⟨_,e⟩
theorem jP.attr(X:cH W)(O:C.Ok){self attr:Str}{x dx Ca:Addr}{fs:List (Str×D)}{d:D}{p1 pos:Pos}(hm:(self,Bd.res true (gY x dx Ca fs))∈ρ)(aU:Ro.Set self (.res true (gY x dx Ca (rA attr d fs))) ρ a9)
 (h1:(self==("__debug__" :Str))=false) (h2:(self==("__classdict__" :Str))=false)
 (hs:findIn (KK W) (.ref Ca) "__setattr__" =some (some (.builtin "object.__setattr__"))) (hp:DU (KK W) Ca=true) (ht:p8 (KK W) Ca attr=some aD) (hh:pq (KK W) Ca=true) (hz:(rA attr d fs).length<=1000):
 jP W C ρ (.Attribute (.Name self p1) attr pos) d a9:=⟨⟨rj aU hm (λ_ h=>h),aU.keys⟩,λf o s v S H hd Q E h=>by
 rw[xI]
 refine aa (aL (eg.tB O hm h1 h2 f o s S H _ _ λu f1 s1 l1 S1 d1=>aa (aZ (aa (aL ?_)))))
 obtain rfl:u= .ref x:=d1
 obtain⟨a1,es,n,a2,a3⟩:(gY x dx Ca fs).P f1 o:=held hm f1 o (H.mono l1 (.refl o))
 have I:InstAt s1.heap x (kf Ca dx) Ca (some (dictOf es n)):=⟨S1.sub _ _ a1,rfl,rfl,S1.own _ _ a2⟩
 have E4:=hd.mono l1
 refine E3 (X.sH S1) I hs hp ht hh (a3.find (name:=attr)).2.2 (by rw[(eZ.put E4 a3).len]; exact hz) λh' g1 g2=>?_
 have S2:=(S1.tok (s1.toks+2)).same a2 g2 g1
 refine A4 (h f1 _ _ (Left.change (o':=o.put dx _) H hm aU rfl (λ_ h=> .inl h) l1 S2 ⟨a1,_,_,Fz.aJ ..,eZ.put E4 a3⟩ λb y e hb=>?_))
 rw[Fz.az (λq=>hb (by subst q; exact .head _))]; exact e⟩
noncomputable def E5(self:Str)(x dx Ca:Addr)(fs:List (Str×D)):Out->Prop
 | .next a9=>(self,Bd.res true (gY x dx Ca fs))∈a9
 |_=>False
theorem cH.make(X:cH W)(Ca a:Addr){A:Around}{n:Nat}{self:Str}{ps:List Str}{ds:List D}{fs:List (Str×D)}{ρ:Addr->Ro}{a9:Addr->Addr->Ro}{names:List (Str×aC)}{keys:List Str}(lv:Lv (n+2) A)
 (XM:makesIn (KK W) Ca=true) (He:findIn (KK W) (.ref Ca) "__init__" =some (some (.ref a))) (XN:typeIn (KK W) (.ref a)=some (.type "function"))
 (yF:∃ob,(KK W).lookup a=some ob/\ob.data= .func (cm (KK W) a)) (iq:(cm (KK W) a).body= .stmts (cj (KK W) a)) (lB:codeIn (KK W) (cm (KK W) a).code (cm (KK W) a).qualname=true) (n9:(cm (KK W) a).closure=[])
 (fy:(cm (KK W) a).scope.names=names) (j6:decide (names.map (·.1)).Nodup=true) (hk:(cm (KK W) a).scope.kind= .function) (hg:(cm (KK W) a).globals=bV) (hb:(cm (KK W) a).builtins=cP)
 (w3:(cm (KK W) a).scope.isCoroutine=false) (og:(cm (KK W) a).scope.isGenerator=false) (ng:decide (self::ps).Nodup=true)
 (Aj:((self::ps).all λp=>names.lookup p==some .local||names.lookup p==some .cell)=true)
 (jQ:∀vs:List Value,vs.length=(D.none::ds).length->eR (cm (KK W) a) ⟨vs,[]⟩=pure ((self::ps).zip vs)) (hp:∀x,kl ((self::ps).zip (.raw (.ref x)::ds)) names (ρ x))
 (OP:∀x,(ρ x).map (·.1)=keys) (OQ:(keys.all λn=>names.any λp=>p.1==n&&p.2 != .free&&p.2 != .cell)=true) (JY:∀x,(ρ x).all (λp=>match p.2 with| .res _ _=>false|_=>true)=true)
 (aU:∀x dx,Ro.Set self (.res true (gY x dx Ca [])) (ρ x) (a9 x dx)) (LM:∀x,(self,Bd.val (.raw (.ref x)))∈ρ x)
 (h:∀x dx,∀C:Cx,C.Ok->Lv n C.A->C.names=names->C.env.scope=(cm (KK W) a).scope->VS W C (a9 x dx) (cj (KK W) a) (E5 self x dx Ca fs)):iK W A (.ref Ca) ds (.obj Ca fs):=by
 refine Au λf o s vs S hd Q E hQ=>?_
 obtain⟨ob,h1,h2⟩:=yF
 have Y:=makes_of (M:=W.M) (X.sH S) XM
 have S1:St W.B f (o.put s.heap.objs.size (dictOf [] 0)) {s with heap:=s.heap.push (dictOf [] 0)}:=S.gW (dictOf [] 0)
 have S2:=S1.jv (kf Ca s.heap.objs.size)
 have LN:Lv (n+1) (A.under (.builtin "type.__call__" ⟨.ref Ca::vs,[]⟩)):=by
  have e:(A.under (.builtin "type.__call__" ⟨.ref Ca::vs,[]⟩)).units<=A.units+10:=by
   first
    |exact gy (n:=A.units) (k:=10)
    |exact cB (n:=1) (m:=10) (by simp[*]) A.units
    |exact cB (n:=2) (m:=10) (by(first|lia|omega)) A.units
    |exact cB (n:=3) (m:=10) (by(first|lia|omega)) A.units
  exact⟨by have:=lv.depth; show A.depth+1+4*(n+1)<=600; exact aX 0xab8954302441008455c4a818123404201 tt this,by have:=lv.units; exact cG 0x1bde12a8a0a886010f43000421bde12a0a0a88201 tt e this,lv.hand⟩
 have fC:(s.heap.push (dictOf [] 0)).objs.size=s.heap.objs.size+1:=by simp[Hq]
 refine fR (make_core (init:= .ref a) Y (hH (X.sH S) He) (λself=>bind_fn (X.sH S) self XN) (.inl (by exact rfl)) ?_)
 refine Bx (ps:=self::ps) (ds:= .raw (.ref (s.heap.objs.size+1))::ds) (X.sm _ _ h1) h2 (λh hB=>Be (K:=KK W) (λb x e=>hB _ _ (X.sm _ _ e)) lB) iq n9 ?_ (λvs hv=>jQ vs hv) (by rw[fy]; exact hp _) (of_decide_eq_true ng) (by rw[fy]; exact of_decide_eq_true j6) ?_ hk hg hb ?_ w3 og S2 ⟨_,_,rfl,rfl,hd.mono ?_⟩ ?_
 ·show A.depth+1<1000
  have:=lv.depth; exact aX 0xab895430244100847ec4a9404201 tt this
 ·intro p Lq
  rw[fy]
  have:=aT.mp Aj p Lq
  rcases iP _ _▸this with e|e
  ·exact .inl (lookup_mem (by simpa using e))
  ·exact .inr (lookup_mem (by simpa using e))
 ·exact λenv=>(LN.deeper env).rm
 ·exact Fz.bP S1.gR
 ·intro env du cU lo jg H sD hm
  have hx:f.put (s.heap.push (dictOf [] 0)).objs.size (kf Ca s.heap.objs.size) (s.heap.objs.size+1)=some (kf Ca s.heap.objs.size):=by rw[<-fC]; exact Fz.aJ ..
  have yN:du s.heap.objs.size=some (dictOf [] 0):=lo _ _ (Fz.aJ ..)
  have Ok:=H.ok
  have nu:¬Uses ⟨env,(A.under (.builtin "type.__call__" ⟨.ref Ca::vs,[]⟩)).deeper env,(cm (KK W) a).scope.names⟩ (ρ (s.heap.objs.size+1)) s.heap.objs.size:=by
   intro hu
   rcases hu with(hu|⟨m,hu,E6,_⟩)|⟨m,u,r,hu,_⟩
   ·have:=hm _ (.inl hu); rw[Fz.aJ] at this; exact nomatch this
   ·rw[OP] at hu
    obtain⟨⟨m',k⟩,u6,DQ⟩:=Hp.mp (aT.mp OQ m hu)
    simp only[cq,beq_iff_eq,bne_iff_ne] at DQ
    obtain⟨⟨e1,e2⟩,e3⟩:=DQ
    subst e1
    have:=Ok.kinds _ _ (by rw[fy]; exact u6) e2
    rw[this] at E6
    rcases E6 with q|q
    ·exact e3 (cg q)
    ·exact e2 (cg q)
   ·have:=aT.mp (JY _) _ hu
    exact nomatch this
  have H':=H.adopt (aU (s.heap.objs.size+1) s.heap.objs.size) (LM _) ⟨hx,[],0,yN,rfl⟩ (λb hb=>by rcases aA.mp hb with rfl; exact nu)
  refine(h (s.heap.objs.size+1) s.heap.objs.size _ Ok (LN.deeper env) fy sD).un _ _ _ jg H' _ _ λu fl s' hq ho=>?_
  cases u with
  |next bZ=>
   obtain⟨rfl,f',o',L⟩:=ho
   obtain⟨p1,es,nn,p2,p3⟩:(gY (s.heap.objs.size+1) s.heap.objs.size Ca fs).P f' o':=held hq f' o' L.env
   have SF:=L.st.freeze p2
   have hle:f'.le (f'.put s.heap.objs.size (dictOf es nn)):=Fz.bP (L.st.fw p2)
   have G8:o s.heap.objs.size=none:=S.fc
   refine⟨rfl,hQ _ _ s' ((Fz.bP S1.gR).trans (L.le.trans hle)) (SF.drop ?_) ⟨_,_,es,nn,rfl,hle _ _ p1,Fz.aJ ..,p3.mono hle⟩⟩
   intro b y e
   have hb:b≠s.heap.objs.size:=λq=>by subst q; exact iC G8 e
   have e1:du b=some y:=lo _ _ (by rw[Fz.az hb]; exact e)
   have e2:o' b=some y:=L.step b y e1 λq=>by
    have qY:∀c,pz ⟨env,(A.under (.builtin "type.__call__" ⟨.ref Ca::vs,[]⟩)).deeper env,(cm (KK W) a).scope.names⟩ (ρ (s.heap.objs.size+1)) c->c=b->False:=λc hc e'=>by
     subst e'
     have:=hm _ hc
     rw[Fz.az hb,e] at this; exact nomatch this
    rcases q with q|⟨m,q1,q2,q3⟩|⟨m,r,q1,q2⟩
    ·exact qY b (.inl q) rfl
    ·exact qY b (.inr (.inl ⟨m,q1,(aU _ _).keys▸q2,q3⟩)) rfl
    ·rcases(aU _ _).mem H.nd q1 with⟨_,q⟩|⟨_,q⟩
     ·cases q; exact hb (aA.mp q2)
     ·have:=aT.mp (JY _) _ q
      exact nomatch this
   unfold Fz.del; rw[if_neg hb]; exact e2
  |ret _=>exact hq.elim
  |brk _=>exact hq.elim
  |cont _=>exact hq.elim
end
section
variable {W:Wd}{C:Cx}{ρ a9 bD bZ qx:Ro}{names:List (Str×aC)}{Q:Out->Prop}{f o:Fz}{s:Shared}
theorem OR(X:cH W)(K:CK C names){self name:Str}{x dx Ca:Addr}{fs:List (Str×D)}{d:D}{attr:Option Value}{p1 pos:Pos}(hg:Jx (KK W) Ca name=true)(hh:pq (KK W) Ca=true)(ha:findIn (KK W) (.ref Ca) name=some attr)(hn:noGet (KK W) attr=true)(hf:fs.lookup name=some d)
 (hm:autoParam ((self,Bd.res true (gY x dx Ca fs))∈ρ) vq._auto_1) (h1:autoParam ((self==("__debug__" :Str))=false) sI._auto_1) (h2:autoParam ((self==("__classdict__" :Str))=false) sI._auto_1) (hr:autoParam (∀u,d≠ .raw u) Lw._auto_1)
 (he:autoParam (eval (.Attribute (.Name self p1) name pos) C.env=(do
  let o <-eval (.Name self p1) C.env
  dF pos.atName
  let r <-holding [o] (gp o name true)
  A8 (.Name self p1) o r
  pure r)) fM._auto_1):VE W C ρ (.Attribute (.Name self p1) name pos) d:=ve λf o s S H Q E h=>by
 refine Bp (eg.tB K.ok hm h1 h2 f o s S H _ _ λv f1 s1 l1 S1 d1=>?_) he
 obtain rfl:v= .ref x:=d1
 obtain⟨a1,es,n,a2,a3⟩:(gY x dx Ca fs).P f1 o:=held hm f1 o (H.mono l1 (.refl o))
 have I:InstAt s1.heap x (kf Ca dx) Ca (some (dictOf es n)):=⟨S1.sub _ _ a1,rfl,rfl,S1.own _ _ a2⟩
 obtain⟨u,h3,h4⟩:=(a3.find (name:=name)).1 d hf
 exact get_value (X.sH S1) I (rN hg).1 (xX hh ha hn h3) (handed h4 hr) (h u f1 _ l1 (S1.tok _) h4)
theorem E7(X:cH W){Ca:Addr}{mc v:Value}{name:Str}{d:D}(hr:readsIn (KK W) Ca mc=true)(e:findCls (KK W) (.ref Ca) mc name=some (.val v))(hh:Ba v=true)(hd:∀f,Den f d v):yh W (λv=>gp v name true) (.raw (.ref Ca)) d:=λA f o s u r S hv Q E h=>by
 obtain rfl:u= .ref Ca:=hv
 exact cls_value (X.sH S) hr e hh (h v f _ (.refl f) (S.tok _) (hd f))
theorem OS(X:cH W)(K:CK C names){self attr:Str}{x dx Ca:Addr}{fs:List (Str×D)}{d:D}{p1 pos:Pos}
 (hs:findIn (KK W) (.ref Ca) "__setattr__" =some (some (.builtin "object.__setattr__"))) (hp:DU (KK W) Ca=true) (ht:p8 (KK W) Ca attr=some aD) (hh:pq (KK W) Ca=true) (hz:(rA attr d fs).length<=1000)
 (hm:autoParam ((self,Bd.res true (gY x dx Ca fs))∈ρ) vq._auto_1) (aU:autoParam (Ro.Set self (.res true (gY x dx Ca (rA attr d fs))) ρ a9) Ic._auto_1)
 (h1:autoParam ((self==("__debug__" :Str))=false) sI._auto_1) (h2:autoParam ((self==("__classdict__" :Str))=false) sI._auto_1):VT W C ρ (.Attribute (.Name self p1) attr pos) d a9:=vt (.attr X K.ok hm aU h1 h2 hs hp ht hh hz)
theorem E8{t1 t2 t3 e:Expr}{pos:Pos}{rest:List Stmt}{d:D}(he:VE W C ρ e d)(x1:VT W C ρ t1 d bD)(x2:VT W C bD t2 d bZ)(x3:VT W C bZ t3 d qx)(h:VS W C qx rest Q)(hs:autoParam (fJ [t1,t2,t3] e pos.line C.env=pure false) fM._auto_1)(hw:autoParam (cS [t1,t2,t3] e C.env=pure aD) fM._auto_1)
 (ha:autoParam ((bk [t1,t2,t3] C.env).map (·.2)=[t1,t2,t3].map λt=>bE t C.env) fM._auto_1):VS W C ρ (.Assign [t1,t2,t3] e pos::rest) Q:=vs (.HP he.un (.cons x1.un (.cons x2.un (.one x3.un))) h.un hs hw ha)
theorem OT{ob i e:Expr}{a:Addr}{p pos:Pos}{rest:List Stmt}{d:D}{ds:List D}{x:Str}{k:Nat}(CQ:VE W C ρ ob (.raw (.ref a)))(hi:VE W C ρ i (.int k))(he:VE W C ρ e d)(hm:(x,Bd.res true (pe a ds))∈ρ)(hk:k<ds.length)(fC:ds.length<=16777216)
 (ir:VS W C a9 rest Q) (aU:autoParam (Ro.Set x (.res true (pe a (ds.set k d))) ρ a9) Ic._auto_1) (hs:autoParam (gk e (some (.Subscript ob i p)) pos.line C.env=pure false) fM._auto_1):VS W C ρ (.Assign [.Subscript ob i p] e pos::rest) Q:=vs (.W7 CQ.un hi.un he.un hm hk fC aU ir.un hs)
end
noncomputable def bump(c:List Int)(b:Nat):List Int:=(if c.length<=b then c++bf (b-c.length+1) 0 else c).set b ((if c.length<=b then c++bf (b-c.length+1) 0 else c).getD b 0+1)
structure Run where
 b:Nat
 n:Nat
 nt:Nat
 c:List Int
noncomputable def Run.go:List Nat->Run->Run
 |[],q=>q
 |x::r,q=>if x=32 then Run.go r ⟨q.b+1,q.n+1,q.nt,q.c⟩ else if x=9 then Run.go r ⟨0,q.n+1,q.nt+1,bump q.c q.b⟩ else q
noncomputable def Run.of(raw:List Nat):Run:=Run.go raw ⟨0,0,0,[]⟩
noncomputable def yO(raw:List Nat):iD:=⟨raw,(Run.of raw).n,(Run.of raw).nt,(Run.of raw).c,(Run.of raw).b,decide ((Run.of raw).c.length<=1)⟩
theorem yP(c:List Int)(b:Nat):(bump c b).length=max c.length (b+1):=by
 unfold bump
 rw[List.length_set]
 split
 ·rw[a8,bA]; exact RY ‹_›
 ·exact RZ ‹_›
section
variable {W:Wd}{C:Cx}{ρ a9 bD bZ qx:Ro}{names:List (Str×aC)}{Q:Out->Prop}
theorem kA(X:cH W):cK W (J "Whitespace") (.ref 141):=X.glob (by kernel_rfl)
theorem wS(X:cH W):yh W (λv=>gp v (J "S") true) (.raw (.ref 141)) (.str (aS [32])):=E7 (mc:= .type "type") (v:= .str (J " ") _) X (by kernel_rfl) rfl rfl λf=>⟨_,rfl⟩
theorem wT(X:cH W):yh W (λv=>gp v (J "T") true) (.raw (.ref 141)) (.str (aS [9])):=E7 (mc:= .type "type") (v:= .str (J "\t") _) X (by kernel_rfl) rfl rfl λf=>⟨_,rfl⟩
theorem E9{ss:List Stmt}{x:Str}{a:Addr}{ds:List D}(hm:(x,Bd.res true (eJ a ds))∈ρ)(aU:Ro.Set x (.res true (pe a ds)) ρ a9)(h:VS W C a9 ss Q):VS W C ρ ss Q:=vs (.loose hm aU h.un)
theorem oB(name:Str)(d:D):∀fs:List (Str×D),(rA name d fs).length<=fs.length+1
 |[]=>by simp[rA]
 |(n,e)::r=>by
  unfold rA
  split
  ·simp
  ·have:=oB name d r
   simp only[aQ]; exact aX 0x503000434a0610a0201 tt this
theorem AB(X:cH W)(K:CK C names){self attr:Str}{x dx Ca:Addr}{fs:List (Str×D)}{d:D}{p1 pos:Pos}
 (hm:autoParam ((self,Bd.res true (gY x dx Ca fs))∈ρ) vq._auto_1) (aU:autoParam (Ro.Set self (.res true (gY x dx Ca (rA attr d fs))) ρ a9) Ic._auto_1)
 (h1:autoParam ((self==("__debug__" :Str))=false) sI._auto_1) (h2:autoParam ((self==("__classdict__" :Str))=false) sI._auto_1)
 (hs:autoParam (findIn (KK W) (.ref Ca) "__setattr__" =some (some (.builtin "object.__setattr__"))) Ia._auto_1) (hp:autoParam (DU (KK W) Ca=true) Ia._auto_1) (ht:autoParam (p8 (KK W) Ca attr=some aD) Ia._auto_1) (hh:autoParam (pq (KK W) Ca=true) Ia._auto_1)
 (hz:autoParam (Nat.ble (fs.length+1) 1000=true) fM._auto_1):VT W C ρ (.Attribute (.Name self p1) attr pos) d a9:=OS X K hs hp ht hh (aP (oB ..) (CA hz)) hm aU h1 h2
theorem OU(K:CK C names){x y:Str}{kx ky:aC}{dx dy:D}(h1:Ro.Set y (.val dy) ρ bD)(h2:Ro.Set x (.val dx) bD bZ)(hx:(x,kx)∈names)(hy:(y,ky)∈names)(hkx:(kx== .local||kx== .cell)=true)(OQ:(ky== .local||ky== .cell)=true):oh C ρ [y,x] [dy,dx] bZ:=
 .cons (K.eq▸hy) OQ h1 (.cons (K.eq▸hx) hkx h2 .nil)
theorem Fb(n:Nat)(d:D):(rt n [d]).length=n:=by unfold rt; simp
theorem Fc(n:Nat):rt n [.int 0]=(bf n (0:Int)).map D.int:=by unfold rt; induction n with
 |zero=>rfl
 |succ n ih=>rw[bM,ee,ih,bM,aO]; rfl
noncomputable def OV(K:Frag):List Stmt:=match(cj K 96).drop 4 with
 | .For _ _ [.If _ _ [.If _ b _ _] _] _ _::_=>b.drop 3
 |_=>[]
theorem BW(X:cH W){x dx:Addr}{raw:List Nat}{c:List Int}{b n nt:Nat}{a:Addr}{b9:Bd}(K:CK C [(J "self",ae),(J "ws",ae),(J "S",ae),(J "T",ae),(J "count",ae),(J "b",ae),(J "n",ae),(J "nt",ae),(J "ch",ae),(J "Whitespace",ag),(J "len",ag),(J "tuple",ag)])(hb:b<c.length)(hc:c.length<=1000000)
 (hQ:Q (.next [("self", .res true (gY x dx 141 [("raw", .str (aS raw))])),("ws", .val (.str (aS raw))),("S", .val (.str (aS [32]))),("T", .val (.str (aS [9]))),("count", .res true (pe a ((c.set b (c.getD b 0+1)).map .int))),("b", .val (.int (0:Nat))),("n", .val (.int n)),("nt", .val (.int nt)),("ch",b9)])):
 VS W C [("self", .res true (gY x dx 141 [("raw", .str (aS raw))])),("ws", .val (.str (aS raw))),("S", .val (.str (aS [32]))),("T", .val (.str (aS [9]))),("count", .res true (pe a (c.map .int))),("b", .val (.int b)),("n", .val (.int n)),("nt", .val (.int nt)),("ch",b9)] (OV (KK W)) Q:=by
 have XK:(c.map D.int)[b]? =some (.int (c.getD b 0)):=by
  rw[av,aj hb,ak,aj hb]; rfl
 have aU:(c.set b (c.getD b 0+1)).map D.int=(c.map D.int).set b (.int (c.getD b 0+1)):=by rw[List.map_set]
 rw[aU] at hQ
 refine OT (x:= "count") (a:=a) (ds:=c.map D.int) (k:=b) (d:= .int (c.getD b 0+1)) (Lx K) (nm K) (bin K (yH K (di:= .int b) (λf o H=>held (x:=J "count") (w:=true) (r:=pe a (c.map D.int)) ik f o H) (Lx K) (nm K) (tF XK (by exact aX 0xfa4a90904210d010085f495212a0201 tt hb hc))) num cV) ik (by rw[ai]; exact hb) (by rw[ai]; exact aN 0x3e92a4240084308421084801 tt hc) ?_
 exact let1 (d:= .int ((0:Nat):Int)) num (cx K) (dj hQ)
noncomputable def OW(w:iD):List (Str×D):=[("raw", .str (aS w.raw)),("n", .int w.n),("nt", .int w.nt),("norm", .tup [.tup (w.count.map .int), .int w.trail]),("is_simple", .bool w.simple)]
theorem BX(X:cH W){x dx:Addr}{raw:List Nat}{q:Run}{a:Addr}{b9:Bd}(K:CK C [(J "self",ae),(J "ws",ae),(J "S",ae),(J "T",ae),(J "count",ae),(J "b",ae),(J "n",ae),(J "nt",ae),(J "ch",ae),(J "Whitespace",ag),(J "len",ag),(J "tuple",ag)])(e2:Run.of raw=Run.go [] q)(e4:q.c.length<=raw.length)(hl:raw.length<=1000):
 VS W C [("self", .res true (gY x dx 141 [("raw", .str (aS raw))])),("ws", .val (.str (aS raw))),("S", .val (.str (aS [32]))),("T", .val (.str (aS [9]))),("count", .res true (pe a (q.c.map .int))),("b", .val (.int q.b)),("n", .val (.int q.n)),("nt", .val (.int q.nt)),("ch",b9)] ((cj (KK W) 96).drop 5) (E5 "self" x dx 141 (OW (yO raw))):=by
 have xU:Run.of raw=q:=e2
 have hlen:(q.c.map D.int).length<1000000:=by rw[ai]; exact aX 0x3f624108420085f495212a0201 tt e4 hl
 refine let1 (nm K) (AB X K) ?_
 refine let1 (nm K) (AB X K) ?_
 refine let1 (d:= .tup [.tup (q.c.map .int), .int q.b]) (tup (ac (rv (λf o H=>held (x:=J "count") (w:=true) (r:=pe a (q.c.map D.int)) ik f o H) (gl K (Ii X)) .type (a1 (Lx K)) (Am (by exact aN 0x3e92a4254040217d25484801 tt hlen))) (a1 (nm K)))) (AB X K) ?_
 refine let1 (d:= .bool (decide (q.c.length<=1))) (.eq (cmp K (rv (λf o H=>held (x:=J "count") (w:=true) (r:=pe a (q.c.map D.int)) ik f o H) (gl K (jV X)) .builtin (a1 (Lx K)) (qo hlen)) num JO) ?_) (AB X K) ?_
 ·rw[ai]; congr 1; simp; exact R0
 ·refine dj ?_
  unfold E5 OW yO
  rw[xU]
  exact cw
inductive OX(raw:List Nat)(x dx:Addr)(xs:List D)(ρ:Ro):Prop
 |mk (r:List Nat) (q:Run) (a:Addr) (b9:Bd) (h1:xs=signs r) (h2:Run.of raw=Run.go r q) (h3:q.b+r.length<=raw.length) (h4:q.c.length<=raw.length) (h5:ρ=([("self", .res true (gY x dx 141 [("raw", .str (aS raw))])),("ws", .val (.str (aS raw))),("S", .val (.str (aS [32]))),("T", .val (.str (aS [9]))),("count", .res true (pe a (q.c.map .int))),("b", .val (.int q.b)),("n", .val (.int q.n)),("nt", .val (.int q.nt)),("ch",b9)]:Ro)):OX raw x dx xs ρ
theorem OY(X:cH W){A:Around}(lv:Lv 3 A){raw:List Nat}(hr:raw.all (·<128)=true)(hl:raw.length<=1000):iK W A (.ref 141) [.str (aS raw)] (yO raw).D:=by
 refine X.make 141 96 (n:=1) (self:= "self") (ps:=["ws"]) (ρ:=λx=>[("self", .val (.raw (.ref x))),("ws", .val (.str (aS raw))),("S", .unset),("T", .unset),("count", .unset),("b", .unset),("n", .unset),("nt", .unset),("ch", .unset)]) (a9:=λx dx=>[("self", .res true (gY x dx 141 [])),("ws", .val (.str (aS raw))),("S", .unset),("T", .unset),("count", .unset),("b", .unset),("n", .unset),("nt", .unset),("ch", .unset)])
  (names:=[(J "self",ae),(J "ws",ae),(J "S",ae),(J "T",ae),(J "count",ae),(J "b",ae),(J "n",ae),(J "nt",ae),(J "ch",ae),(J "Whitespace",ag),(J "len",ag),(J "tuple",ag)]) (keys:=["self","ws","S","T","count","b","n","nt","ch"])
  lv (by kernel_rfl) (by kernel_rfl) (by kernel_rfl) ⟨_,rfl,rfl⟩ rfl (by kernel_rfl) rfl rfl (by kernel_rfl) rfl rfl rfl rfl rfl (by kernel_rfl) (by kernel_rfl) (tY λa b=>by kernel_rfl) (λx=>?_) (λx=>rfl) (by kernel_rfl) (λx=>rfl) (λx dx=>kD) (λx=>ik) (λx dx C O lv hN sD=>?_)
 ·show kl [(_,_),(_,_)] _ _
  exact ra
 ·have K:CK C _:=⟨O,lv.hand,hN⟩
  refine let1 (nm K) (AB X K) ?_
  refine Oo K (d1:= .str (aS [32])) (d2:= .str (aS [9])) (tup (ac (jW K (gl K (kA X)) (wS X)) (a1 (jW K (gl K (kA X)) (wT X))))) (OU K kD kD ik ik (by decide) (by decide)) ?_
  refine Ay K (sj a0) λa=>⟨_,kD,?_⟩
  refine E9 (x:= "count") (a:=a) (ds:=[]) ik kD ?_
  refine E8 num (cx K) (cx K) (cx K) ?_
  refine mR K (jF K (OR X K (attr:=aD) (d:= .str (aS raw)) (by kernel_rfl) (by kernel_rfl) (by kernel_rfl) rfl (by kernel_rfl)) (BH hr)) (OX raw x dx)
   ⟨raw,⟨0,0,0,[]⟩,a,_,rfl,rfl,by simp,by simp,rfl⟩ ?_ ?_
  ·rintro ρ ⟨r,q,a,b9,e1,e2,e3,e4,rfl⟩
   cases r with
   |cons _ _=>exact nomatch e1
   |nil=>exact BX X K e2 e4 hl
  ·rintro x xs ρ ⟨r,q,a,b9,e1,e2,e3,e4,rfl⟩
   cases r with
   |nil=>exact nomatch e1
   |cons y r=>
    obtain⟨rfl,rfl⟩:x= .str (aS [y])/\xs=signs r:=by cases e1; exact⟨rfl,rfl⟩
    refine⟨_,cx K,?_⟩
    refine jx (kR K (nm K) (nm K) tN) (λh=>?_) λh=>?_
    ·have hy:y=32:=by simpa using h
     refine let1 (d:= .int ((q.n+1:Nat):Int)) (.eq (bin K (nm K) num cV) rfl) (cx K) (let1 (d:= .int ((q.b+1:Nat):Int)) (.eq (bin K (nm K) num cV) rfl) (cx K) (dj ?_))
     refine dj ⟨r,⟨q.b+1,q.n+1,q.nt,q.c⟩,a,_,rfl,?_,?_,e4,rfl⟩
     ·rw[e2,Run.go,if_pos hy]
     ·simp only[aQ] at e3 ⊢; exact cG 0xa81802010883404201 tt e3
    ·have hy:y≠32:=by simpa using h
     refine jx (kR K (nm K) (nm K) tN) (λh9=>?_) λh9=>?_
     ·have QK:y=9:=by simpa using h9
      refine let1 (d:= .int ((q.n+1:Nat):Int)) (.eq (bin K (nm K) num cV) rfl) (cx K) (let1 (d:= .int ((q.nt+1:Nat):Int)) (.eq (bin K (nm K) num cV) rfl) (cx K) ?_)
      have hlen:(q.c.map D.int).length<1000000:=by rw[ai]; exact aX 0x8423f6240085f495212a0601 tt hl e4
      have hI:∀f o,bc C ([("self", .res true (gY x dx 141 [("raw", .str (aS raw))])),("ws", .val (.str (aS raw))),("S", .val (.str (aS [32]))),("T", .val (.str (aS [9]))),("count", .res true (pe a (q.c.map .int))),("b", .val (.int q.b)),("n", .val (.int (q.n+1:Nat))),("nt", .val (.int (q.nt+1:Nat))),("ch", .val (.str (aS [y])))]:Ro) f o->lj f o a (q.c.map .int):=λf o H=>held (x:=J "count") (w:=true) (r:=pe a (q.c.map D.int)) ik f o H
      refine jx (b:=decide (q.c.length<=q.b)) (VB.eq (kR K (nm K) (rv hI (gl K (jV X)) .builtin (a1 (Lx K)) (qo hlen)) vQ) (by simp)) (λhb=>?_) λhb=>?_
      ·have rq:q.c.length<=q.b:=by simpa using hb
       refine Ay (ds:=q.c.map D.int++rt (q.b-q.c.length+1) [.int 0]) K (Lz K hI (Lx K) (.eq (bin K (lst (a1 num)) (bin K (bin K (nm K) (rv hI (gl K (jV X)) .builtin (a1 (Lx K)) (qo hlen)) gH) num cV) (qv ?_ ?_ (by decide))) ?_) ?_) λa'=>⟨_,kD,?_⟩
       ·rw[ai]; exact jf 0x20086004050c5be92a4141 tt rq
       ·rw[ai]; simp only[aQ] at e3; exact CH 0x2828060108fd8900211fb0980d0143161 tt hl e3
       ·congr 2; rw[ai]; exact R4 rq
       ·simp only[aQ] at e3; rw[ai,Fb]; exact Nr hl e3 rq
       ·have OZ:q.c.map D.int++rt (q.b-q.c.length+1) [.int 0]=(q.c++bf (q.b-q.c.length+1) 0).map D.int:=by rw[Fc]; simp
        rw[OZ]
        refine E9 (x:= "count") (a:=a') ik kD (dj ?_)
        refine BW X K (c:=q.c++bf (q.b-q.c.length+1) 0) (b:=q.b) (n:=q.n+1) (nt:=q.nt+1) (b9:= .val (.str (aS [y]))) ?_ ?_ ?_
        ·rw[a8,bA]; exact R5 rq
        ·simp only[aQ] at e3; rw[a8,bA]; exact Nr hl e3 rq
        ·refine dj (dj ?_)
         refine⟨r,⟨0,q.n+1,q.nt+1,bump q.c q.b⟩,a', .val (.str (aS [y])),rfl,?_,?_,?_,?_⟩
         ·rw[e2,Run.go,if_neg hy,if_pos QK]
         ·simp only[aQ] at e3 ⊢; exact cG 0x2a0600804220ce01 tt e3
         ·simp only[aQ] at e3 ⊢; rw[yP]; exact R6 e4 e3
         ·unfold bump; rw[if_pos rq]
      ·have rq:¬q.c.length<=q.b:=by simpa using hb
       refine dj ?_
       refine BW X K (c:=q.c) (b:=q.b) (n:=q.n+1) (nt:=q.nt+1) (b9:= .val (.str (aS [y]))) (by exact R7 rq) (by exact aX 0x2108fd8900217d25484821 tt hl e4) ?_
       refine dj (dj ?_)
       refine⟨r,⟨0,q.n+1,q.nt+1,bump q.c q.b⟩,a, .val (.str (aS [y])),rfl,?_,?_,?_,?_⟩
       ·rw[e2,Run.go,if_neg hy,if_pos QK]
       ·simp only[aQ] at e3 ⊢; exact cG 0x2a0600804220ce01 tt e3
       ·simp only[aQ] at e3 ⊢; rw[yP]; exact R8 e4 rq
       ·unfold bump; rw[if_neg rq]
     ·have QK:y≠9:=by simpa using h9
      refine Oq ?_
      show VS W C _ _ _
      refine BX X K ?_ e4 hl
      rw[e2]; unfold Run.go; rw[if_neg hy,if_neg QK]
end
section
variable {W:Wd}{C:Cx}{ρ a9 bD bZ:Ro}{names:List (Str×aC)}{Q:Out->Prop}{f o:Fz}{s:Shared}
theorem qA{d:D}(hd:d≠ .none)(hr:∀v,d≠ .raw v):lx W (cc .IsNot) d .none (.bool true):=λA f o s va vb r S ha hb Q E h=>by
 obtain rfl:vb= .none:=hb
 refine isnot_none_ne (λe=>?_) (h _ f s (.refl f) S rfl)
 subst e
 cases d with
 |none=>exact hd rfl
 |bool b=>cases(show d7= .bool b from ha)
 |int i=>obtain⟨t,e⟩:=ha; exact nomatch e
 |str x=>obtain⟨t,e⟩:=ha; exact nomatch e
 |list ds=>obtain⟨a,_,_,_,e,_⟩:=ha; exact nomatch e
 |tup ds=>obtain⟨a,_,_,_,e,_⟩:=ha; exact nomatch e
 |Bs a b=>obtain⟨r,_,_,_,e,_⟩:=ha; exact nomatch e
 |raw u=>exact hr u rfl
 |obj C fs=>obtain⟨a,_,_,_,e,_⟩:=ha; exact nomatch e
theorem AD:lx W (cc .IsNot) .none .none (.bool false):=λA f o s va vb r S ha hb Q E h=>by
 obtain rfl:vb= .none:=hb
 obtain rfl:va= .none:=ha
 exact wpAny_isNot_self rfl (h _ f s (.refl f) S rfl)
theorem Ip{T:String}:lx W (cc .Is) (.raw (.type T)) (.raw (.type T)) (.bool true):=λA f o s va vb r S ha hb Q E h=>by
 obtain rfl:vb= .type T:=hb
 obtain rfl:va= .type T:=ha
 exact wpAny_is_self rfl (h _ f s (.refl f) S rfl)
theorem ue{T:String}:lx W (cc .IsNot) (.raw (.type T)) (.raw (.type T)) (.bool false):=λA f o s va vb r S ha hb Q E h=>by
 obtain rfl:vb= .type T:=hb
 obtain rfl:va= .type T:=ha
 exact wpAny_isNot_self rfl (h _ f s (.refl f) S rfl)
theorem wc{A:Around}{d:D}{T:String}(hT:d.ty=some T)(hn:(lp T==lp "builtin_function_or_method")=false):mf W A (.type "type") [d] (.raw (.type T)):=λf o s vs S hd Q E h=>by
 obtain⟨v,r,rfl,h1,h2⟩:=hd
 rw[show r=[] from h2]
 exact call_type_of (NO S h1 hT) hn (h _ f s (.refl f) S rfl)
theorem C1{A:Around}{a:Addr}{ds:List D}:En W (λf o=>lj f o a ds) A (.type "type") [.raw (.ref a)] (.raw (.type "list")):=λf o s vs S hI hd Q E h=>by
 obtain⟨v,r,rfl,h1,h2⟩:=hd
 rw[show r=[] from h2]
 exact call_type_of (BE f o s v S hI h1) (by decide) (h _ f s (.refl f) S rfl)
theorem Fd:KY W .none false:=λA f o s v r S ha Q E h=>by
 obtain rfl:v= .none:=ha
 exact Js rfl (h f s (.refl f) S)
theorem JZ(K:CK C names){e:Expr}{pos:Pos}{rest:List Stmt}{d:D}(he:VE W C ρ e d)(h:VS W C ρ rest Q)(hs:autoParam (gk e aD pos.line C.env=pure false) fM._auto_1):VS W C ρ (.Expr e pos::rest) Q:=vs (.expr he.un h.un K.inter hs)
theorem XO{t x y:Expr}{pos:Pos}{X:D->Res->Prop}{b:Bool}(ht:VB W C ρ t b)(hb:b=false)(hy:VX W C ρ y X):VX W C ρ (.IfExp t x y pos) X:=vx λf o s S H Q E h=>
 wpAny_IfExp (ht.un f o s S H _ _ λf1 s1 l1 S1=>by
  subst hb
  exact hy.un f1 o s1 S1 (H.mono l1 (.refl o)) _ _ λv d r f2 o2 s2 hx l2=>h v d r f2 o2 s2 hx (l1.trans l2))
noncomputable def Fe(v:Value)(d:D):Res where
 v:=v
 as:=[]
 P:=λf _=>Den f d v
 mono:=λf f' o o' h _ x=>x.mono h
 there:=λ_ _ _ a ha=>by exact nomatch ha
theorem Z6(K:CK C names){n:Str}{w:Bool}{v:Value}{d:D}{pos:Pos}(hm:autoParam ((n,Bd.res w (Fe v d))∈ρ) vq._auto_1)(h1:autoParam ((n==("__debug__" :Str))=false) sI._auto_1)(h2:autoParam ((n==("__classdict__" :Str))=false) sI._auto_1):VE W C ρ (.Name n pos) d:=ve λf o s S H Q E h=>by
 obtain⟨vo,hv,e,hd⟩:=H.vars _ _ hm
 exact uR (sC K.ok S H hm hv e h2 (h _ f s (.refl f) S hd)) h1
theorem yQ{P:Fz->Prop}{a:Addr}{ob:Obj}{fd:Bo}{body:List Stmt}{ps:List Str}{ds:List D}{ρ:Ro}{A:Around}{args:Args}{R:Result->Shared->Prop}(hB:W.B.f a=some ob)(yq:ob.data= .func fd)
 (si:∀h:Heap,(∀a x,W.B.f a=some x->h.get? a=some x)->h.CodeRec fd.code fd.qualname) (iq:fd.body= .stmts body) (n9:fd.closure=[]) (Em:A.depth<recursionLimit)
 (jQ:∀(Q:List (Str×Value)->Shared->Prop) (E:Value->Shared->Prop),(∀vs f1 s1,f.le f1->St W.B f1 o s1->bQ f1 ds vs->P f1->Q (ps.zip vs) s1)->wpAny W.M A.in1 (eR fd args) Q E s)
 (hp:kl (ps.zip ds) fd.scope.names ρ) (ng:ps.Nodup) (j6:(fd.scope.names.map (·.1)).Nodup)
 (Aj:∀n∈ps,(n,ae)∈fd.scope.names\/(n,aq)∈fd.scope.names)
 (hk:fd.scope.kind= .function) (hg:fd.globals=bV) (hb:fd.builtins=cP) (DP:∀env,Rm (A.deeper env)) (w3:fd.scope.isCoroutine=false) (og:fd.scope.isGenerator=false)
 (S:St W.B f o s)
 (h:∀f1 env du cU,P f1->f.le f1->o.le du->St W.B f1 du cU->bc ⟨env,A.deeper env,fd.scope.names⟩ ρ f1 du->env.scope=fd.scope->env.code=fd.code/\env.frame=some env.locals->(∀b,pz ⟨env,A.deeper env,fd.scope.names⟩ ρ b->o b=none)->
  wpAny W.M (A.deeper env) (execs body env) (λfl s'=>R (.ok (.ret (match fl with| .ret v=>v|_=> .none))) s')
   (λe s'=>wpAny W.M (A.deeper env) (leaving env e) (λ_ xT=>R (.error e) xT) (λe' xT=>R (.error e') xT) s') cU):
 eD W.M A (.call (.ref a) args) R s:=by
 refine codeAny_call_function Em (S.bT _ _ hB) yq w3 og iq (si _ S.bT) (jQ _ _ λvs f1 s1 l1 S1 hd XQ=>?_)
 rw[n9]
 refine wpAny_newFunctionEnv_cells hk (λx hx=>?_) λenv he s' x=>?_
 ·obtain⟨n,v⟩:=x
  have hn:n∈ps:=(ql ps vs).subset (fZ hx)
  rcases Aj n hn with h|h
  ·exact .inl (cJ j6 h)
  ·obtain⟨c,hc,_⟩:=fj (n:=s1.heap.objs.size+1) (acc:=[]) j6 h
   exact .inr ⟨cJ j6 h,by rw[hc]; rfl⟩
 ·have XR:env=kg fd s1.heap.objs.size a:=he
  subst XR
  obtain⟨du,lo,jg,H,hm⟩:=enter S1 (A:=A) hd hp ng j6 hk hg hb (DP _) x
  exact⟨(W.B.nolimit _ S1.bT).keeps x.toInCall.keep,codeAny_func (h f1 _ du s' XQ l1 lo jg H rfl ⟨rfl,rfl⟩ hm)⟩
theorem cH.code{P:Fz->Prop}(X:cH W)(a:Addr){A:Around}{n:Nat}{ps:List Str}{ds:List D}{ρ:Ro}{names:List (Str×aC)}{args:Args}{R:Result->Shared->Prop}(lv:Lv (n+1) A)
 (yF:∃ob,(KK W).lookup a=some ob/\ob.data= .func (cm (KK W) a)) (iq:(cm (KK W) a).body= .stmts (cj (KK W) a)) (lB:codeIn (KK W) (cm (KK W) a).code (cm (KK W) a).qualname=true) (n9:(cm (KK W) a).closure=[])
 (fy:(cm (KK W) a).scope.names=names) (j6:decide (names.map (·.1)).Nodup=true) (hk:(cm (KK W) a).scope.kind= .function) (hg:(cm (KK W) a).globals=bV) (hb:(cm (KK W) a).builtins=cP)
 (w3:(cm (KK W) a).scope.isCoroutine=false) (og:(cm (KK W) a).scope.isGenerator=false) (ng:decide ps.Nodup=true)
 (Aj:(ps.all λp=>names.lookup p==some .local||names.lookup p==some .cell)=true)
 (jQ:∀(Q:List (Str×Value)->Shared->Prop) (E:Value->Shared->Prop),(∀vs f1 s1,f.le f1->St W.B f1 o s1->bQ f1 ds vs->P f1->Q (ps.zip vs) s1)->wpAny W.M A.in1 (eR (cm (KK W) a) args) Q E s)
 (hp:kl (ps.zip ds) names ρ) (S:St W.B f o s)
 (h:∀f1 env du cU,P f1->f.le f1->o.le du->St W.B f1 du cU->bc ⟨env,A.deeper env,names⟩ ρ f1 du->Lv n (A.deeper env)->env.code=(cm (KK W) a).code/\env.frame=some env.locals->(∀b,pz ⟨env,A.deeper env,names⟩ ρ b->o b=none)->
  wpAny W.M (A.deeper env) (execs (cj (KK W) a) env) (λfl s'=>R (.ok (.ret (match fl with| .ret v=>v|_=> .none))) s')
   (λe s'=>wpAny W.M (A.deeper env) (leaving env e) (λ_ xT=>R (.error e) xT) (λe' xT=>R (.error e') xT) s') cU):eD W.M A (.call (.ref a) args) R s:=by
 obtain⟨ob,h1,h2⟩:=yF
 refine yQ (X.sm _ _ h1) h2 (λh hB=>Be (K:=KK W) (λb x e=>hB _ _ (X.sm _ _ e)) lB) iq n9 (by have:=lv.depth; show A.depth<1000; exact aX 0x2ae2540c091040211fb12a0201 tt this) jQ (by rw[fy]; exact hp) (of_decide_eq_true ng) (by rw[fy]; exact of_decide_eq_true j6) (λp Lq=>?_) hk hg hb (λenv=>(lv.deeper env).rm) w3 og S λf1 env du cU XQ l1 lo jg H _ si hm=>?_
 ·rw[fy]
  have:=aT.mp Aj p Lq
  rcases iP _ _▸this with e|e
  ·exact .inl (lookup_mem (by simpa using e))
  ·exact .inr (lookup_mem (by simpa using e))
 ·rw[fy] at H hm
  exact h f1 env du cU XQ l1 lo jg H (lv.deeper env) si hm
theorem uf{C:Cx}{ρ:Ro}{body:List Stmt}{d:D}{f o Iq:Fz}{s:Shared}(h:VS W C ρ body (Ends d))(S:St W.B f o s)(H:bc C ρ f o)(lo:Iq.le o)(hm:∀b,pz C ρ b->Iq b=none){R:Result->Shared->Prop}{E:Value->Shared->Prop}
 (hR:∀v f' s',f.le f'->St W.B f' Iq s'->Den f' d v->R (.ok (.ret v)) s'):wpAny W.M C.A (execs body C.env) (λfl s'=>R (.ok (.ret (match fl with| .ret v=>v|_=> .none))) s') E s:=by
 refine h.un f o s S H _ _ λu fl s' hq ho=>?_
 have back:∀o',qi C ρ o o'->Iq.le o':=λo' st a y e=>st a y (lo _ _ e) λq=>by have:=hm a q; rw[e] at this; exact nomatch this
 cases u with
 |next a9=>
  obtain⟨rfl,f',o',L⟩:=ho
  obtain rfl:d= .none:=hq
  exact hR _ f' s' L.le (L.st.drop (back o' L.step)) rfl
 |ret d'=>
  obtain⟨v,f',o',rfl,G⟩:=ho
  obtain rfl:d'=d:=hq
  exact hR v f' s' G.le (G.st.drop (back o' G.step)) G.den
 |brk _=>exact hq.elim
 |cont _=>exact hq.elim
noncomputable def Ir(W:Wd)(A:Around)(fv:Value)(ds:List D)(kn:List Str)(kd:List D)(d:D):Prop:=∀f o s vs ks,St W.B f o s->bQ f ds vs->bQ f kd ks->∀(Q:Value->Shared->Prop) (E:Value->Shared->Prop),
 (∀v f' s',f.le f'->St W.B f' o s'->Den f' d v->Q v s')->wpAny W.M A (call fv vs (kn.zip ks)) Q E s
@[irreducible] noncomputable def wd (W:Wd) (A:Around) (fv:Value) (ds:List D) (kn:List Str) (kd:List D) (d:D):Prop:=Ir W A fv ds kn kd d
theorem wd.un{A:Around}{fv:Value}{ds kd:List D}{kn:List Str}{d:D}(h:wd W A fv ds kn kd d):Ir W A fv ds kn kd d:=by unfold wd at h; exact h
theorem O0{A:Around}{fv:Value}{ds kd:List D}{kn:List Str}{d:D}(h:Ir W A fv ds kn kd d):wd W A fv ds kn kd d:=by unfold wd; exact h
noncomputable def J0(W:Wd)(I:Fz->Fz->Prop)(d:D)(name:Str)(fv:Value):Prop:=∀A f o s v pl,St W.B f o s->I f o->Den f d v->∀(Q:Value×List Value->Shared->Prop) (E:Value->Shared->Prop),Q (fv,[v]) s->wpAny W.M A (xH v name pl) Q E s
theorem Meth.Ha{d:D}{name:Str}{fv:Value}(h:Meth W d name fv):J0 W (λ_ _=>True) d name fv:=λA f o s v pl S _=>h A f o s v pl S
theorem LP(K:CK C names){I:Fz->Fz->Prop}(hI:∀f o,bc C ρ f o->I f o){ob e kv:Expr}{name kn:Str}{apos pos LQ:Pos}{fv:Value}{da d1 dk d:D}(ho:VE W C ρ ob da)(hm:J0 W I da name fv)(hk:Kept W fv)(he:VE W C ρ e d1)(hkv:VE W C ρ kv dk)(hc:Ir W C.A fv [da,d1] [kn] [dk] d)
 (pf:autoParam (aI [e] C.env=[(false,eval e C.env)]) fM._auto_1) (hl:autoParam ((apos.endLine==pos.line)=true) vn._auto_1) (hb:autoParam (bx ob name C.env (eval ob C.env)=eval ob C.env) fM._auto_1):VE W C ρ (.Call (.Attribute ob name apos) [e] [⟨some kn,kv,LQ⟩] pos) d:=ve λf o s S H Q E h=>by
 show wpAny _ _ (do
  let ov <-bx ob name C.env (eval ob C.env)
  dF apos.atName
  eY ob name apos pos C.env ov ([e].length+1) (backTo pos (aI [e] C.env)) [(some kn,do let v <-eval kv C.env; dF pos; pure v)]) Q E s
 rw[hb]
 refine aa (ho.un f o s S H _ _ λv f1 s1 l1 S1 dv=>aa (aZ ?_))
 rw[pf]
 unfold eY rP
 have qj:eC ([e].length+1) (backTo pos [(false,eval e C.env)]) [(some kn,do let v <-eval kv C.env; dF pos; pure v)]=true:=rfl
 rw[qj]
 refine aa (aL (hm _ f1 o s1 v _ S1 (hI _ _ (H.mono l1 (.refl o))) dv _ _ ?_))
 unfold jj
 rw[hl]
 refine aa (ao ?_)
 refine d6 (P:=λh=>∀a x,W.B.f a=some x->h.get? a=some x) rfl hk ?_
 show wpAny _ _ (evalArgs fv true [(false,eval e C.env)] [(some kn,do let v <-eval kv C.env; dF pos; pure v)]) _ _ _
 refine evalArgs_kw rfl ?_
 have H1:=H.mono l1 (.refl o)
 refine dP (he.un f1 o s1 S1 H1 _ _ λv1 f2 s2 l2 S2 dv1=>d9 ?_)
 refine wpAny_evalAll_cons (aa (hkv.un f2 o s2 S2 (H1.mono l2 (.refl o)) _ _ λv2 f3 s3 l3 S3 dv2=>aa (aZ (ao (wpAny_evalAll_nil ?_)))))
 exact⟨S3.bT,hc f3 o s3 [v,v1] [v2] S3 (.cons ((dv.mono l2).mono l3) (.cons (dv1.mono l3) .nil)) (.cons dv2 .nil) _ _ λr f4 s4 l4 S4 d4=>h r f4 s4 (l1.trans (l2.trans (l3.trans l4))) S4 d4⟩
noncomputable def AE(W:Wd)(A:Around)(fv:Value)(ds:List D)(Y:Res->Prop):Prop:=∀f o s vs,St W.B f o s->bQ f ds vs->∀(Q:Value->Shared->Prop) (E:Value->Shared->Prop),
 (∀r f' o' s',Y r->f.le f'->o.le o'->St W.B f' o' s'->r.P f' o'->(∀a∈r.as,o a=none)->Q r.v s')->wpAny W.M A (call fv vs []) Q E s
@[irreducible] noncomputable def rY (W:Wd) (A:Around) (fv:Value) (ds:List D) (Y:Res->Prop):Prop:=AE W A fv ds Y
theorem rY.un{A:Around}{fv:Value}{ds:List D}{Y:Res->Prop}(h:rY W A fv ds Y):AE W A fv ds Y:=by unfold rY at h; exact h
theorem O1{A:Around}{fv:Value}{ds:List D}{Y:Res->Prop}(h:AE W A fv ds Y):rY W A fv ds Y:=by unfold rY; exact h
theorem AE.Fe{A:Around}{fv:Value}{ds:List D}{d:D}(h:AE W A fv ds (λr=>∃v,r=Fe v d)):mf W A fv ds d:=λf o s vs S hd Q E hQ=>
 h f o s vs S hd Q E λr f' o' s' ⟨v,e⟩ l lo S' hP _=>by subst e; exact hQ v f' s' l (S'.drop lo) hP
theorem O2{func:Expr}{es:List Expr}{pos:Pos}{fv:Value}{ds:List D}{Y:Res->Prop}(hf:VE W C ρ func (.raw fv))(hk:Kept W fv)(ha:VA W C ρ es ds)(hc:AE W C.A fv ds Y)(hp:autoParam ((aI es C.env).all (λx=>!x.1)=true) fM._auto_1)
 (he:autoParam (eval (.Call func es [] pos) C.env=(do fS pos (<-eval func C.env) [] (backTo pos (aI es C.env)) (gr pos (dI [] C.env)))) fM._auto_1):VX W C ρ (.Call func es [] pos) (λd r=>d= .raw r.v/\Y r):=vx λf o s S H Q E h=>by
 rw[he]
 refine aa (hf.un f o s S H _ _ λv f1 s1 l1 S1 d1=>?_)
 obtain rfl:v=fv:=d1
 have jm:=cn pos es C.env hp
 refine d6 (P:=λh=>∀a x,W.B.f a=some x->h.get? a=some x) (by rw[jm]; rfl) hk (dm jm ?_)
 exact ha.un pos f1 o s1 S1 (H.mono l1 (.refl o)) _ _ λvs f2 s2 l2 S2 d2=>⟨S2.bT,hc f2 o s2 _ S2 d2 _ _ λr f3 o3 s3 hY l3 lo S3 hP hn=>h _ _ r f3 o3 s3 ⟨rfl,hY⟩ (l1.trans (l2.trans l3)) lo S3 rfl hP hn⟩
noncomputable def O3(self:Str)(x:Addr)(Y:Res->Prop):Out->Prop
 | .next a9=>∃r,(self,Bd.res true r)∈a9/\r.v= .ref x/\Y r
 |_=>False
theorem cH.J1(X:cH W)(Ca a:Addr){A:Around}{n:Nat}{self:Str}{ps:List Str}{ds dd:List D}{Y:Res->Prop}{ρ:Addr->Ro}{a9:Addr->Addr->Ro}{names:List (Str×aC)}{keys:List Str}(lv:Lv (n+2) A)
 (XM:makesIn (KK W) Ca=true) (He:findIn (KK W) (.ref Ca) "__init__" =some (some (.ref a))) (XN:typeIn (KK W) (.ref a)=some (.type "function"))
 (yF:∃ob,(KK W).lookup a=some ob/\ob.data= .func (cm (KK W) a)) (iq:(cm (KK W) a).body= .stmts (cj (KK W) a)) (lB:codeIn (KK W) (cm (KK W) a).code (cm (KK W) a).qualname=true) (n9:(cm (KK W) a).closure=[])
 (fy:(cm (KK W) a).scope.names=names) (j6:decide (names.map (·.1)).Nodup=true) (hk:(cm (KK W) a).scope.kind= .function) (hg:(cm (KK W) a).globals=bV) (hb:(cm (KK W) a).builtins=cP)
 (w3:(cm (KK W) a).scope.isCoroutine=false) (og:(cm (KK W) a).scope.isGenerator=false) (ng:decide (self::ps).Nodup=true)
 (Aj:((self::ps).all λp=>names.lookup p==some .local||names.lookup p==some .cell)=true)
 (jQ:∀(v:Value) (vs:List Value) (f:Fz) (s:Shared),(KK W).In s.heap->bQ f ds vs->∃us,bQ f dd us/\BindsTo s (cm (KK W) a) ⟨v::vs,[]⟩ ((self::ps).zip (v::(vs++us)))) (hp:∀x,kl ((self::ps).zip (.raw (.ref x)::(ds++dd))) names (ρ x))
 (OP:∀x,(ρ x).map (·.1)=keys) (OQ:(keys.all λn=>names.any λp=>p.1==n&&p.2 != .free&&p.2 != .cell)=true) (JY:∀x,(ρ x).all (λp=>match p.2 with| .res _ _=>false|_=>true)=true)
 (aU:∀x dx,Ro.Set self (.res true (gY x dx Ca [])) (ρ x) (a9 x dx)) (LM:∀x,(self,Bd.val (.raw (.ref x)))∈ρ x)
 (h:∀x dx,∀C:Cx,C.Ok->Lv n C.A->C.names=names->VS W C (a9 x dx) (cj (KK W) a) (O3 self x Y)):rY W A (.ref Ca) ds Y:=by
 refine O1 λf o s vs S hd Q E hQ=>?_
 have YY:=makes_of (M:=W.M) (X.sH S) XM
 have S1:St W.B f (o.put s.heap.objs.size (dictOf [] 0)) {s with heap:=s.heap.push (dictOf [] 0)}:=S.gW (dictOf [] 0)
 have S2:=S1.jv (kf Ca s.heap.objs.size)
 have LN:Lv (n+1) (A.under (.builtin "type.__call__" ⟨.ref Ca::vs,[]⟩)):=by
  have e:(A.under (.builtin "type.__call__" ⟨.ref Ca::vs,[]⟩)).units<=A.units+10:=by
   first
    |exact gy (n:=A.units) (k:=10)
    |exact cB (n:=1) (m:=10) (by(first|lia|omega)) A.units
    |exact cB (n:=2) (m:=10) (by(first|lia|omega)) A.units
    |exact cB (n:=3) (m:=10) (by(first|lia|omega)) A.units
  exact⟨by have:=lv.depth; show A.depth+1+4*(n+1)<=600; exact aX 0xab8954302441008455c4a818123404201 tt this,by have:=lv.units; exact cG 0x1bde12a8a0a886010f43000421bde12a0a0a88201 tt e this,lv.hand⟩
 have fC:(s.heap.push (dictOf [] 0)).objs.size=s.heap.objs.size+1:=by simp[Hq]
 refine fR (make_core (init:= .ref a) YY (hH (X.sH S) He) (λself=>bind_fn (X.sH S) self XN) (.inl (by exact rfl)) ?_)
 have Ld:f.put (s.heap.push (dictOf [] 0)).objs.size (kf Ca s.heap.objs.size) (s.heap.objs.size+1)=some (kf Ca s.heap.objs.size):=by rw[<-fC]; exact Fz.aJ ..
 have XS:f.le (f.put (s.heap.push (dictOf [] 0)).objs.size (kf Ca s.heap.objs.size)):=Fz.bP S1.gR
 refine X.code (P:=λ_=>True) a (ps:=self::ps) (ds:= .raw (.ref (s.heap.objs.size+1))::(ds++dd)) (ρ:=ρ (s.heap.objs.size+1)) LN yF iq lB n9 fy j6 hk hg hb w3 og ng Aj (λQ E k=>?_) (hp _) S2 λf1 env du cU _ l1 lo jg H mJ _ hm=>?_
 ·obtain⟨us,hu,hb⟩:=jQ (.ref (s.heap.objs.size+1)) vs _ _ (X.sH S2) (hd.mono XS)
  exact hb _ _ _ _ (k _ _ _ (.refl _) S2 ⟨_,_,rfl,rfl,(hd.mono XS).append hu⟩ trivial)
 ·have hx:=l1 _ _ Ld
  have yN:du s.heap.objs.size=some (dictOf [] 0):=lo _ _ (Fz.aJ ..)
  have Ok:=H.ok
  have BY:∀b,Uses ⟨env,(A.under (.builtin "type.__call__" ⟨.ref Ca::vs,[]⟩)).deeper env,names⟩ (ρ (s.heap.objs.size+1)) b->b=env.locals:=by
   intro b hu
   rcases hu with(hu|⟨m,hu,E6,_⟩)|⟨m,u,r,hu,_⟩
   ·exact hu
   ·rw[OP] at hu
    obtain⟨⟨m',k⟩,u6,DQ⟩:=Hp.mp (aT.mp OQ m hu)
    simp only[cq,beq_iff_eq,bne_iff_ne] at DQ
    obtain⟨⟨e1,e2⟩,e3⟩:=DQ
    subst e1
    have:=Ok.kinds _ _ u6 e2
    rw[this] at E6
    rcases E6 with q|q
    ·exact absurd (cg q) e3
    ·exact absurd (cg q) e2
   ·have:=aT.mp (JY _) _ hu
    exact nomatch this
  have nu:¬Uses ⟨env,(A.under (.builtin "type.__call__" ⟨.ref Ca::vs,[]⟩)).deeper env,names⟩ (ρ (s.heap.objs.size+1)) s.heap.objs.size:=λhu=>by
   have e:=BY _ hu
   have:=hm _ (.inl e); rw[Fz.aJ] at this; exact nomatch this
  have H':=H.adopt (aU (s.heap.objs.size+1) s.heap.objs.size) (LM _) ⟨hx,[],0,yN,rfl⟩ (λb hb=>by rcases aA.mp hb with rfl; exact nu)
  refine(h (s.heap.objs.size+1) s.heap.objs.size _ Ok mJ rfl).un _ _ _ jg H' _ _ λu fl s' hq ho=>?_
  cases u with
  |next bZ=>
   obtain⟨rfl,f',o',L⟩:=ho
   obtain⟨r,hr,hv,hY⟩:=hq
   have hP:r.P f' o':=held hr f' o' L.env
   have G8:o s.heap.objs.size=none:=S.fc
   have key:o.le o':=by
    intro b y e
    have hb:b≠s.heap.objs.size:=λq=>by subst q; exact iC G8 e
    have e1:du b=some y:=lo _ _ (by rw[Fz.az hb]; exact e)
    refine L.step b y e1 λq=>?_
    have qY:∀c,pz ⟨env,(A.under (.builtin "type.__call__" ⟨.ref Ca::vs,[]⟩)).deeper env,names⟩ (ρ (s.heap.objs.size+1)) c->c=b->False:=λc hc e'=>by
     subst e'
     have:=hm _ hc
     rw[Fz.az hb,e] at this; exact nomatch this
    rcases q with q|⟨m,q1,q2,q3⟩|⟨m,r,q1,q2⟩
    ·exact qY b (.inl q) rfl
    ·exact qY b (.inr (.inl ⟨m,q1,(aU _ _).keys▸q2,q3⟩)) rfl
    ·rcases(aU _ _).mem H.nd q1 with⟨_,q⟩|⟨_,q⟩
     ·cases q; exact hb (aA.mp q2)
     ·have:=aT.mp (JY _) _ q
      exact nomatch this
   refine⟨rfl,?_⟩
   rw[<-hv]
   refine hQ r f' o' s' hY (XS.trans (l1.trans L.le)) key L.st hP λb hb=>?_
   rcases L.uses b (.inr ⟨_,_,_,hr,hb⟩) with q|q
   ·rcases q with q|⟨m,u,r',q1,q2⟩
    ·have E6:=BY b (.inl ((Slots.set (aU _ _)).mp q))
     have:=hm b (.inl E6)
     refine none_of λy p=>?_
     have rq:b≠s.heap.objs.size:=λq=>by subst q; exact iC G8 p
     rw[Fz.az rq,p] at this; exact nomatch this
    ·rcases(aU _ _).mem H.nd q1 with⟨_,q⟩|⟨_,q⟩
     ·cases q
      rcases aA.mp q2 with rfl
      exact G8
     ·have:=aT.mp (JY _) _ q
      exact nomatch this
   ·refine none_of λy p=>?_
    have rq:b≠s.heap.objs.size:=λq=>by subst q; exact iC G8 p
    have:=lo b y (by rw[Fz.az rq,p])
    exact iC q this
  |ret _=>exact hq.elim
  |brk _=>exact hq.elim
  |cont _=>exact hq.elim
theorem fQ.XU{ss:List Stmt}{x:Str}{a dx Ca:Addr}{fs:List (Str×D)}(hm:(x,Bd.res true (gY a dx Ca fs))∈ρ)(aU:Ro.Set x (.res true (Fe (.ref a) (.obj Ca fs))) ρ a9)(h:fQ W C a9 ss Q):fQ W C ρ ss Q:=h.ghost λf o s S H=>by
 obtain⟨vo,hv,ev,e0,es,n,e1,e4⟩:=H.vars _ _ hm
 have lf:=Fz.bP (o:=dictOf es n) (S.fw e1)
 have slot:∀b,Slots C ρ b->b≠dx:=λb hs hb=>H.sep _ _ _ hm dx (.head _) (hb▸hs)
 have del:∀b y,o b=some y->b≠dx->o.del dx b=some y:=λb y e hb=>by unfold Fz.del; rw[if_neg hb]; exact e
 refine⟨f.put dx (dictOf es n),o.del dx,lf,S.freeze e1,⟨H.ok,?_,λn b hn=>?_,by rw[aU.keys]; exact H.nd,λn u q hn a' ha hs=>?_,λn n' u u' q q' h1 h2 ea a' ha hb=>?_⟩,λb y e hn=>del b y e λq=>hn (.inr (.inr ⟨_,_,hm,q▸ .head _⟩)),λa' h=> .inl ?_,λa' h=> .inl ?_⟩
 ·obtain⟨ob',es,ep,e,t,y1⟩:=H.ns; exact⟨ob',es,ep,del _ _ e (slot _ (.inl rfl)),t,y1⟩
 ·have var:∀vo,n∈ρ.map (·.1)->kI C o n vo->kI C (o.del dx) n vo:=λvo qm hv=>by
   rcases hv with⟨k,ob,es,ep,e1,e2,y1,y2⟩|⟨k,c,ob,e1,e2,e3⟩
   ·exact .inl ⟨k,ob,es,ep,del _ _ e1 (slot _ (.inl rfl)),e2,y1,y2⟩
   ·exact .inr ⟨k,c,ob,e1,del _ _ e2 (slot _ (.inr ⟨n,qm,k,e1⟩)),e3⟩
  rcases aU.mem H.nd hn with⟨rfl,rfl⟩|⟨ea,pM⟩
  ·exact⟨vo,var vo (fZ hm) hv,ev,_,_,_,_,rfl,lf _ _ e0,Fz.aJ ..,e4.mono lf⟩
  ·obtain⟨vo,h1,h2⟩:=H.vars _ _ pM
   refine⟨vo,var vo (fZ pM) h1,?_⟩
   cases b with
   |unset=>trivial
   |val d=>obtain⟨v,e,hd⟩:=h2; exact⟨v,e,hd.mono lf⟩
   |res u q=>exact⟨h2.1,q.mono _ _ _ _ lf (λb hb y e=>del b y e λhr=>H.two _ _ _ _ _ _ pM hm ea b hb (hr▸ .head _)) h2.2⟩
 ·rcases aU.mem H.nd hn with⟨_,e⟩|⟨_,pM⟩
  ·cases e; exact nomatch ha
  ·exact H.sep _ _ _ pM a' ha ((Slots.set aU).mp hs)
 ·rcases aU.mem H.nd h1 with⟨_,e⟩|⟨_,h1⟩
  ·cases e; exact nomatch ha
  ·rcases aU.mem H.nd h2 with⟨_,e⟩|⟨_,h2⟩
   ·cases e; exact nomatch hb
   ·exact H.two _ _ _ _ _ _ h1 h2 ea a' ha hb
 ·rcases h with h|⟨n,h1,h2,h3⟩|⟨n,r,h1,h2⟩
  ·exact .inl h
  ·exact .inr (.inl ⟨n,h1,aU.keys▸h2,h3⟩)
  ·rcases aU.mem H.nd h1 with⟨_,e⟩|⟨_,h1⟩
   ·cases e; exact nomatch h2
   ·exact .inr (.inr ⟨n,r,h1,h2⟩)
 ·refine Uses.of aU.keys (rj aU hm λ_ h=>by exact nomatch h) h
theorem J2{ss:List Stmt}{x:Str}{a dx Ca:Addr}{fs:List (Str×D)}(h:VS W C a9 ss Q)(hm:autoParam ((x,Bd.res true (gY a dx Ca fs))∈ρ) vq._auto_1)(aU:autoParam (Ro.Set x (.res true (Fe (.ref a) (.obj Ca fs))) ρ a9) Ic._auto_1):VS W C ρ ss Q:=vs (.XU hm aU h.un)
end
noncomputable def gw(b:Bool)(c:Nat):Bool:=(decide (32<=c)&&decide (c<127))||(!b&&decide (c=9))
noncomputable def clean(b:Bool)(x:List Nat):Bool:=x.all (gw b)
noncomputable def codeN:Array Nat:=#[14,10,4,1,1,22,0,31,16,127,0,13,7,22,0,31,16,127,0,1]
noncomputable def wg:Array Nat:=#[14,14,4,1,1,9,4294966783,0,0,2147483648,0,0,0,0,0,13,11,9,4294966783,0,0,2147483648,0,0,0,0,0,1]
theorem wh{b:Bool}{c:Nat}(h:gw b c=true):c<127:=by
 unfold gw at h
 simp only[iP,cq,decide_eq_true_eq] at h
 (first|lia|omega)
theorem XW{c:Nat}(h:gw true c=true)(sn:Sre.Seen):∃An,qc codeN c codeN.size 5 true sn= .ok (false,An):=by
 have h':32<=c/\c<127:=by
  unfold gw at h
  simpa using h
 have e1:(decide (0<=c)&&decide (c<=31))=false:=by
  rw[Bool.and_eq_false_iff]; right; simp; exact aN 90706445789547009 tt h'.1
 have e2:(c==127)=false:=by simp; exact R9 h'
 refine⟨((sn.add 22).add 16).add 0,?_⟩
 show(if(decide (0<=c)&&decide (c<=31))=true then sd (true,sn.add 22) else(if(c==127)=true then sd (true,(sn.add 22).add 16) else sd (false,((sn.add 22).add 16).add 0)))=_
 rw[e1,e2]
 rfl
theorem XX:∀c,c<127->gw false c=true->(wg.getD (5+(1+c / 32)) 0).testBit (c % 32)=false:=by decide+kernel
theorem XY{c:Nat}(h:gw false c=true)(sn:Sre.Seen):∃An,qc wg c wg.size 5 true sn= .ok (false,An):=by
 have e1:(decide (c<256)&&(wg.getD (5+(1+c / 32)) 0).testBit (c % 32))=false:=by rw[XX c (wh h) h,pG]
 refine⟨(sn.add 9).add 0,?_⟩
 show(if(decide (c<256)&&(wg.getD (5+(1+c / 32)) 0).testBit (c % 32))=true then sd (true,sn.add 9) else sd (false,(sn.add 9).add 0))=_
 rw[e1]
 rfl
theorem yR{b:Bool}{x:List Nat}(h:clean b x=true){i:Nat}(hi:i<(aS x).cps.size):gw b ((aS x).cps.getD i 0)=true:=by
 have vT:i<x.length:=hi
 have:(aS x).cps.getD i 0=x[i]:=by
  show(⟨x⟩:Array Nat).getD i 0=_
  simp[Array.getD,vT]
 rw[this]
 exact aT.mp h _ (dh vT)
section
variable {W:Wd}{C:Cx}{ρ a9 bD bZ:Ro}{names:List (Str×aC)}{Q:Out->Prop}{f o:Fz}{s:Shared}
noncomputable def wi(b:Bool):Addr:=if b then 179 else 184
theorem It(X:cH W)(b:Bool):Meth W (.raw (.ref (wi b))) (J "search") (.builtin "re.Pattern.search"):=λA f o s v pl S hv Q E h=>by
 obtain rfl:v= .ref (wi b):=hv
 have key:∃ob,s.heap.get? (wi b)=some ob/\ob.cls= .type "re.Pattern" /\ob.dict=none:=by
  cases b with
  |true=>exact⟨_,S.bT _ _ (X.sm 179 _ rfl),rfl,rfl⟩
  |false=>exact⟨_,S.bT _ _ (X.sm 184 _ rfl),rfl,rfl⟩
 obtain⟨ob,h1,h2,h3⟩:=key
 exact nS ⟨ob,h1,h2⟩ vg kP tS (λa e=>by cases e; exact⟨ob,h1,h3⟩) h
theorem AF(X:cH W){A:Around}(b:Bool){x:List Nat}(hx:clean b x=true)(hl:x.length<=1000000):mf W A (.builtin "re.Pattern.search") [.raw (.ref (wi b)), .str (aS x)] .none:=λf o s vs S hd Q E h=>by
 obtain⟨v,r,rfl,h1,u,r',rfl,h2,h3⟩:=hd
 obtain rfl:v= .ref (wi b):=h1
 obtain⟨t,rfl⟩:=h2
 rw[show r'=[] from h3]
 have fin:=h .none f s (.refl f) S rfl
 cases b with
 |true=>exact rU (S.bT _ _ (X.sm 179 _ rfl)) rfl rfl rfl rfl rfl (S.bT _ _ (X.sm 178 _ rfl)) rfl (code:=codeN) (by kernel_rfl) (by kernel_rfl) (by kernel_rfl) (λi hi sn=>XW (yR hx hi) sn) hl fin
 |false=>exact rU (S.bT _ _ (X.sm 184 _ rfl)) rfl rfl rfl rfl rfl (S.bT _ _ (X.sm 183 _ rfl)) rfl (code:=wg) (by kernel_rfl) (by kernel_rfl) (by kernel_rfl) (λi hi sn=>XY (yR hx hi) sn) hl fin
theorem C2(X:cH W):cK W (J "_name_disallowed_re") (.ref 179):=X.glob (by kernel_rfl)
theorem AG(X:cH W):cK W (J "_value_disallowed_re") (.ref 184):=X.glob (by kernel_rfl)
theorem cH.J3(X:cH W)(a:Addr){A:Around}{n:Nat}{ps:List Str}{ds:List D}{d:D}{ρ:Ro}{names:List (Str×aC)}{vs:List Value}{kw:List (Str×Value)}{Q:Value->Shared->Prop}{E:Value->Shared->Prop}(lv:Lv (n+1) A)
 (yF:∃ob,(KK W).lookup a=some ob/\ob.data= .func (cm (KK W) a)) (iq:(cm (KK W) a).body= .stmts (cj (KK W) a)) (lB:codeIn (KK W) (cm (KK W) a).code (cm (KK W) a).qualname=true) (n9:(cm (KK W) a).closure=[])
 (fy:(cm (KK W) a).scope.names=names) (j6:decide (names.map (·.1)).Nodup=true) (hk:(cm (KK W) a).scope.kind= .function) (hg:(cm (KK W) a).globals=bV) (hb:(cm (KK W) a).builtins=cP)
 (w3:(cm (KK W) a).scope.isCoroutine=false) (og:(cm (KK W) a).scope.isGenerator=false) (ng:decide ps.Nodup=true)
 (Aj:(ps.all λp=>names.lookup p==some .local||names.lookup p==some .cell)=true)
 (jQ:∀(Q:List (Str×Value)->Shared->Prop) (E:Value->Shared->Prop),(∀vs f1 s1,f.le f1->St W.B f1 o s1->bQ f1 ds vs->Q (ps.zip vs) s1)->wpAny W.M A.in1 (eR (cm (KK W) a) ⟨vs,kw⟩) Q E s)
 (hp:kl (ps.zip ds) names ρ) (S:St W.B f o s)
 (h:∀C:Cx,CK C names->Lv n C.A->VS W C ρ (cj (KK W) a) (Ends d)) (hQ:∀v f' s',f.le f'->St W.B f' o s'->Den f' d v->Q v s'):wpAny W.M A (call (.ref a) vs kw) Q E s:=by
 refine fR (X.code (P:=λ_=>True) a lv yF iq lB n9 fy j6 hk hg hb w3 og ng Aj (λQ E k=>jQ Q E λvs f1 s1 l1 S1 d1=>k vs f1 s1 l1 S1 d1 trivial) hp S λf1 env du cU _ l1 lo jg H mJ _ hm=>?_)
 exact uf (C:=⟨env,A.deeper env,names⟩) (h _ ⟨H.ok,mJ.hand,rfl⟩ mJ) jg H lo hm (R:=λr s'=>match r with| .ok (.ret v)=>Q v s'| .ok _=>False| .error e=>E e s') λv' f' s' l' S' d'=>hQ v' f' s' (l1.trans l') S' d'
theorem XZ(X:cH W){A:Around}(lv:Lv 1 A){dS:D}{b:Bool}{x:List Nat}(hx:clean b x=true)(hl:x.length<=1000000):wd W A (.ref 214) [dS, .str (aS x)] ["name"] [.bool b] (.str (aS x)):=O0 λf o s vs ks S hd hk Q E h=>by
 obtain⟨v1,r,rfl,h1,v2,r',rfl,h2,h3⟩:=hd
 obtain rfl:r'=[]:=h3
 obtain⟨k1,r2,rfl,h4,h5⟩:=hk
 obtain rfl:r2=[]:=h5
 refine X.J3 214 (d:= .str (aS x)) (ps:=["self","value","name"]) (ds:=[dS, .str (aS x), .bool b]) (ρ:=[("self", .val dS),("value", .val (.str (aS x))),("name", .val (.bool b)),("regex", .unset)])
  (names:=[(J "self",ae),(J "value",ae),(J "name",ae),(J "regex",ae),(J "type",ag),(J "str",ag),(J "_name_disallowed_re",ag),(J "_value_disallowed_re",ag),(J "ValueError",ag),(J "AssertionError",ag),(J "repr",ag)]) lv ⟨_,rfl,rfl⟩ rfl (by kernel_rfl) rfl rfl (by kernel_rfl) rfl rfl rfl rfl rfl (by kernel_rfl) (by kernel_rfl) (λQ E k=>?_) ?_ S (λC K mJ=>?_) h
 ·have e:eR (cm (KK W) 214) ⟨[v1,v2],[(J "name",k1)]⟩=pure [(J "self",v1),(J "value",v2),(J "name",k1)]:=by kernel_rfl
  show wpAny _ _ (eR (cm (KK W) 214) ⟨[v1,v2],[(J "name",k1)]⟩) Q E s
  rw[e]
  exact ao (k [v1,v2,k1] f s (.refl f) S (.cons h1 (.cons h2 (.cons h4 .nil))))
 ·show kl [(_,_),(_,_),(_,_)] _ _
  exact ra
 ·refine jx (b:=true) (kR K (bS (gl K (Az X)) .type (a1 (nm K)) (wc (T:= "str") rfl (by decide))) (gl K (E0 X)) Ip) (λ_=>?_) λe=>by exact nomatch e
  refine let1 (d:= .raw (.ref (wi b))) (vu (Aw K (nm K) gA) (λhb=> .eq (gl K (C2 X)) (by subst hb; rfl)) λhb=> .eq (gl K (AG X)) (by subst hb; rfl)) (cx K) ?_
  refine jx (b:=false) (Aw K (gh (nm K) (It X b) .builtin (a1 (nm K)) (AF X b hx hl)) Fd) (λe=>by exact nomatch e) λ_=>dj ?_
  exact j8 (nm K) rfl
end
noncomputable def rB(p:List Nat×List Nat):D:= .tup [.str (aS p.1), .str (aS p.2)]
noncomputable abbrev pO(ps:List (List Nat×List Nat)):D:= .obj 313 [("_headers", .list (ps.map rB))]
structure vv(p:List Nat×List Nat):Prop where
 name:clean true p.1=true
 val:clean false p.2=true
 Iu:p.1.length<=1000
 LR:p.2.length<=1000
theorem rZ{b:Bool}{x:List Nat}(h:clean b x=true):x.all (·<128)=true:=by
 rw[aT]
 intro c hc
 have:=wh (aT.mp h c hc)
 simp; exact aN 0x1ff2a02010a212a0201 tt this
theorem wj{x:List Nat}(h:clean true x=true):clean true (x.map lo1)=true:=by
 unfold clean at*
 rw[zO,aT]
 rw[aT] at h
 intro c hc
 have h1:=h c hc
 unfold gw at h1
 simp only[lI]
 have h2:32<=c/\c<127:=by simpa using h1
 have key:∀c,c<127->32<=c->gw true (lo1 c)=true:=by decide+kernel
 exact key c h2.2 h2.1
section
variable {W:Wd}{C:Cx}{ρ a9 bD bZ:Ro}{names:List (Str×aC)}{Q:Out->Prop}{f o:Fz}{s:Shared}
theorem Iv(X:cH W){d:D}:Meth W (.obj 313 [("_headers",d)]) (J "_convert_string_type") (.ref 214):=jH X (by kernel_rfl) (by kernel_rfl) (by kernel_rfl) (by kernel_rfl)
theorem oU(X:cH W)(K:CK C names)(lv:Lv 1 C.A){d:D}{b:Bool}{x:List Nat}{ob e:Expr}{k:Nat}{apos pos LQ X0:Pos}(ho:VE W C ρ ob (.obj 313 [("_headers",d)]))(he:VE W C ρ e (.str (aS x)))(hx:clean b x=true)(hl:x.length<=1000)
 (pf:autoParam (aI [e] C.env=[(false,eval e C.env)]) fM._auto_1) (LU:autoParam ((apos.endLine==pos.line)=true) vn._auto_1) (hb:autoParam (bx ob (J "_convert_string_type") C.env (eval ob C.env)=eval ob C.env) fM._auto_1):
 VE W C ρ (.Call (.Attribute ob (J "_convert_string_type") apos) [e] [⟨some (J "name"), .Constant (.bool b) k X0,LQ⟩] pos) (.str (aS x)):=
 LP K (I:=λ_ _=>True) (λ_ _ _=>trivial) ho (Iv X).Ha (X.kept (by kernel_rfl)) he JS (XZ X lv hx (by exact aN 0xfd8900217d25484801 tt hl)).un pf LU hb
inductive O4(ps:List (List Nat×List Nat))(x:Addr)(xs:List D)(ρ:Ro):Prop
 |mk (r:List (List Nat×List Nat)) (b1 b2:Bd) (h1:xs=r.map rB) (h2:(∀p∈r,vv p)) (h3:ρ=([("self", .res true (Fe (.ref x) (pO ps))),("headers", .val (.list (ps.map rB))),("k",b1),("v",b2)]:Ro)):O4 ps x xs ρ
theorem X1(X:cH W){A:Around}(lv:Lv 4 A){ps:List (List Nat×List Nat)}(ng:∀p∈ps,vv p):iK W A (.ref 313) [.list (ps.map rB)] (pO ps):=by
 refine Au (AE.Fe (rY.un (X.J1 313 207 (n:=2) (self:= "self") (ps:=["headers"]) (dd:=[]) (ρ:=λx=>[("self", .val (.raw (.ref x))),("headers", .val (.list (ps.map rB))),("k", .unset),("v", .unset)]) (a9:=λx dx=>[("self", .res true (gY x dx 313 [])),("headers", .val (.list (ps.map rB))),("k", .unset),("v", .unset)])
  (names:=[(J "self",ae),(J "headers",ae),(J "k",ae),(J "v",ae),(J "type",ag),(J "list",ag),(J "TypeError",ag),(J "__debug__",ag)]) (keys:=["self","headers","k","v"])
  lv (by kernel_rfl) (by kernel_rfl) (by kernel_rfl) ⟨_,rfl,rfl⟩ rfl (by kernel_rfl) rfl rfl (by kernel_rfl) rfl rfl rfl rfl rfl (by kernel_rfl) (by kernel_rfl) (λv vs f s X' hd=>?_) (λx=>?_) (λx=>rfl) (by kernel_rfl) (λx=>rfl) (λx dx=>kD) (λx=>ik) (λx dx C O lv hN=>?_))))
 ·obtain⟨v2,r,rfl,h1,h2⟩:=hd
  obtain rfl:r=[]:=h2
  refine⟨[], .nil,kp_binds X' λS=>?_⟩
  kernel_rfl
 ·show kl [(_,_),(_,_)] _ _
  exact ra
 ·have K:CK C _:=⟨O,lv.hand,hN⟩
  refine let1 (vu (b:=true) (kR K (nm K) XA (qA (by intro h; exact nomatch h) (by intro v h; exact nomatch h))) (λ_=>nm K) (λe=>by exact nomatch e)) (cx K) ?_
  refine jx (b:=false) (kR K (bS (gl K (Az X)) .type (a1 (nm K)) (wc (T:= "list") rfl (by decide))) (gl K (xd X)) ue) (λe=>by exact nomatch e) λ_=>dj ?_
  refine let1 (nm K) (AB X K) ?_
  refine J2 (x:= "self") (a:=x) (dx:=dx) (Ca:=313) (fs:=[("_headers", .list (ps.map rB))]) (a9:=[("self", .res true (Fe (.ref x) (pO ps))),("headers", .val (.list (ps.map rB))),("k", .unset),("v", .unset)]) ?_ (cw) kD
  refine jx (b:=true) (Aw K JS gA) (λ_=>?_) λe=>by exact nomatch e
  refine mR K (jF K (nm K) bp) (O4 ps x) ⟨ps,_,_,rfl,ng,rfl⟩ ?_ ?_
  ·rintro ρ ⟨r,b1,b2,e1,e2,rfl⟩
   refine dj (dj ?_)
   exact⟨_,cw,rfl,_,rfl⟩
  ·rintro y xs ρ ⟨r,b1,b2,e1,e2,rfl⟩
   cases r with
   |nil=>exact nomatch e1
   |cons p r=>
    obtain⟨rfl,rfl⟩:y=rB p/\xs=r.map rB:=by cases e1; exact⟨rfl,rfl⟩
    have hp:=e2 p (.head _)
    refine⟨_,iW K (cx K) (cx K),?_⟩
    refine JZ K (oU X K (lv.le (by simp[*])) (Z6 K) (nm K) hp.name hp.Iu) (JZ K (oU X K (lv.le (by(first|lia|omega))) (Z6 K) (nm K) hp.val hp.LR) (dj ?_))
    exact⟨r,_,_,rfl,λq hq=>e2 q (.tail _ hq),rfl⟩
theorem yS(X:cH W){d:D}(hr:autoParam (∀u,d≠ .raw u) Lw._auto_1):yh W (λv=>gp v (J "_headers") true) (.obj 313 [("_headers",d)]) d:=ry X (attr:=aD) (by kernel_rfl) (by kernel_rfl) (by kernel_rfl) rfl (by kernel_rfl) hr
noncomputable def getOf(ps:List (List Nat×List Nat))(x:List Nat):D:=match ps.find? λp=>decide (p.1.map lo1=x.map lo1) with
 |some p=> .str (aS p.2)
 |aD=> .none
theorem rC(K:CK C names){e:Expr}{apos pos:Pos}{x:List Nat}(he:VE W C ρ e (.str (aS x)))(hx:clean true x=true)(hl:x.length<=1000)(LU:autoParam ((apos.endLine==pos.line)=true) vn._auto_1)(hb:autoParam (bx e (J "lower") C.env (eval e C.env)=eval e C.env) fM._auto_1):
 VE W C ρ (.Call (.Attribute e (J "lower") apos) [] [] pos) (.str (aS (x.map lo1))):=
 gh he (iu PySem.F.slot_str_lower PySem.F.type_str_lower) .builtin a0 (CU (rZ hx) hl) rfl (by decide) LU hb
inductive O5(ps:List (List Nat×List Nat))(x:List Nat)(xs:List D)(ρ:Ro):Prop
 |mk (r:List (List Nat×List Nat)) (b1 b2:Bd) (h1:xs=r.map rB) (h2:(∀p∈r,vv p)) (h3:getOf ps x=getOf r x) (h4:ρ=([("self", .val (pO ps)),("name", .val (.str (aS (x.map lo1)))),("default", .val .none),("k",b1),("v",b2)]:Ro)):O5 ps x xs ρ
theorem X2(X:cH W){A:Around}(lv:Lv 2 A){ps:List (List Nat×List Nat)}(ng:∀p∈ps,vv p){x:List Nat}(hx:clean true x=true)(hl:x.length<=1000):iK W A (.ref 260) [pO ps, .str (aS x)] (getOf ps x):=Au λf o s vs S hd Q E h=>by
 obtain⟨v1,r,rfl,h1,v2,r',rfl,h2,h3⟩:=hd
 obtain rfl:r'=[]:=h3
 refine X.J3 260 (d:=getOf ps x) (ps:=["self","name","default"]) (ds:=[pO ps, .str (aS x), .none]) (ρ:=[("self", .val (pO ps)),("name", .val (.str (aS x))),("default", .val .none),("k", .unset),("v", .unset)])
  (names:=[(J "self",ae),(J "name",ae),(J "default",ae),(J "k",ae),(J "v",ae)]) lv ⟨_,rfl,rfl⟩ rfl (by kernel_rfl) rfl rfl (by kernel_rfl) rfl rfl rfl rfl rfl (by kernel_rfl) (by kernel_rfl) (λQ E k=>?_) ?_ S (λC K mJ=>?_) h
 ·exact kp_binds (K:=KK W) (binds:=[(J "self",v1),(J "name",v2),(J "default", .none)]) (X.sH S) (λS=>by kernel_rfl) _ _ _ _ (k [v1,v2, .none] f s (.refl f) S (.cons h1 (.cons h2 (.cons rfl .nil))))
 ·show kl [(_,_),(_,_),(_,_)] _ _
  exact ra
 ·refine let1 (oU X K (mJ.le (by simp[*])) (nm K) (rC K (nm K) hx hl) (wj hx) (by simpa using hl)) (cx K) ?_
  refine mR K (jF K (jW K (nm K) (yS X)) bp) (O5 ps x) ⟨ps,_,_,rfl,ng,rfl,rfl⟩ ?_ ?_
  ·rintro ρ ⟨r,b1,b2,e1,e2,e3,rfl⟩
   cases r with
   |cons _ _=>exact nomatch e1
   |nil=>exact j8 (nm K) (by rw[e3]; rfl)
  ·rintro y xs ρ ⟨r,b1,b2,e1,e2,e3,rfl⟩
   cases r with
   |nil=>exact nomatch e1
   |cons p r=>
    obtain⟨rfl,rfl⟩:y=rB p/\xs=r.map rB:=by cases e1; exact⟨rfl,rfl⟩
    have hp:=e2 p (.head _)
    refine⟨_,iW K (cx K) (cx K),?_⟩
    refine jx (kR K (rC K (nm K) hp.name hp.Iu) (nm K) tN) (λh=>?_) λh=>dj (dj ?_)
    ·refine j8 (nm K) ?_
     show D.str _=_
     rw[e3]; unfold getOf; rw[iO,h]
    ·refine⟨r,_,_,rfl,λq hq=>e2 q (.tail _ hq),?_,rfl⟩
     rw[e3]; unfold getOf; rw[iO,h]
noncomputable def allOf(ps:List (List Nat×List Nat))(x:List Nat):List D:=(ps.filter λp=>decide (p.1.map lo1=x.map lo1)).map λp=> .str (aS p.2)
theorem O6(X:cH W){A:Around}(lv:Lv 2 A){ps:List (List Nat×List Nat)}(ng:∀p∈ps,vv p)(hn:ps.length<=1000){x:List Nat}(hx:clean true x=true)(hl:x.length<=1000):iK W A (.ref 252) [pO ps, .str (aS x)] (.list (allOf ps x)):=by
 refine X.fn 252 (n:=1) (ps:=["self","name"]) (ρ:=[("self", .val (pO ps)),("name", .val (.str (aS x)))])
  (names:=[(J "self",ae),(J "name",aq)])
  lv ⟨_,rfl,rfl⟩ rfl (by kernel_rfl) rfl rfl (by kernel_rfl) rfl rfl rfl rfl rfl (by kernel_rfl) (by kernel_rfl) (tY λa b=>by kernel_rfl) ?_ (λC O lv hN sD=>?_)
 ·show kl [(_,_),(_,_)] _ _
  exact ra
 ·have K:CK C _:=⟨O,lv.hand,hN⟩
  refine let1 (oU X K (lv.le (by(first|lia|omega))) (nm K) (rC K (nm K) hx hl) (wj hx) (by simpa using hl)) (cx K) ?_
  refine j8 (dY (eX:=[(".0", .unset),("kv", .unset),("name", .val (.str (aS (x.map lo1))))]) K (jF K (jW K (nm K) (yS X)) bp) (λC' K' e=>?_) ku ?_) rfl
  ·refine sr ps rB (λp=>decide (p.1.map lo1=x.map lo1)) (λp=> .str (aS p.2)) (λp=>[(".0", .unset),("kv", .val (rB p)),("name", .val (.str (aS (x.map lo1))))]) (λp hp=>cx K') (λp hp=>?_) (λp hp _=>?_) λp hp=>jT
   ·exact kR K' (rC K' (dB (T:= "tuple") (da:=rB p) (di:= .int (0:Nat)) K' (nm K') num cu (fx rfl (by simp[*]))) (ng p hp).name (ng p hp).Iu) (nm K') tN
   ·exact dB (T:= "tuple") (da:=rB p) (di:= .int (1:Nat)) K' (nm K') num cu (fx rfl (by(first|lia|omega)))
  ·unfold allOf
   rw[ai]
   exact aP (ba _ _) (by exact aN 0xfd8900210e2da84801 tt hn)
noncomputable def xf:Obj:={cls:= .type "dict",data:= .dict #[]}
noncomputable def yT(d:Addr):Res where
 v:= .ref d
 as:=[]
 P:=λf _=>f d=some xf
 mono:=λf f' o o' h _ x=>h _ _ x
 there:=λ_ _ _ a ha=>by exact nomatch ha
theorem AH{h:Heap}{d:Addr}(e:h.get? d=some xf):h.DictAt (strKind W.prog W.w) d [] 0:=
 ⟨xf,#[],e,⟨rfl,rfl,rfl⟩,rfl,λe he=>by simp at he,by constructor,KD⟩
theorem LV{eP:Expr}{d it:Addr}{f:Fz}{ob:Obj}(hd:f d=some xf)(CQ:ob={cls:= .type "dict_itemiterator",data:= .fields #[.none, .bool false, .ref d, .int 0 0, .int (0:Nat) 0, .int (0:Nat) 0, .none, .none]}):o9 W eP [] (one it ob) f (.ref it):=λA f' o s Q E hh r l1 wl S h=>by
 have hit:=S.own _ _ (wl _ _ (bW ..))
 subst CQ
 refine wpAny_pyNext_items_end (knd:=strKind W.prog W.w) (d:=d) (i:=0) (ep:=0) (kvs:=[]) (ok:= .none) (ov:= .none) hh hit (AH (W:=W) (S.sub _ _ (l1 _ _ hd))) rfl λh' he=>?_
 exact h _ _ (S.ext (wl _ _ (bW ..)) he) (o8.del (by rw[bW]; simp))
theorem Ff(K:CK C names){eP e:Expr}{apos pos:Pos}{x:Str}{w:Bool}{d:Addr}(he:VE W C ρ e (.raw (.ref d)))(hm:(x,Bd.res w (yT d))∈ρ)(OZ:(d==sysModules)=false)
 (hl:autoParam ((apos.endLine==pos.line)=true) vn._auto_1) (hb:autoParam (bx e (J "items") C.env (eval e C.env)=eval e C.env) fM._auto_1):Aa W C ρ eP (.Call (.Attribute e (J "items") apos) [] [] pos) []:=λf o s S H Q E h=>by
 show wpAny _ _ (do
  let ov <-bx e (J "items") C.env (eval e C.env)
  dF apos.atName
  eY e (J "items") apos pos C.env ov 0 [] []) _ _ s
 rw[hb]
 refine aa (he.un f o s S H _ _ λv f1 s1 l1 S1 dv=>aa (aZ ?_))
 obtain rfl:v= .ref d:=dv
 have hd:f1 d=some xf:=held (r:=yT d) hm f1 o (H.mono l1 (.refl o))
 have hg:=S1.sub _ _ hd
 unfold eY rP
 rw[show eC 0 [] []=true from rfl]
 refine aa (aL (nS ⟨_,hg,rfl⟩ PySem.F.plainAttrs_dict wN PySem.F.type_dict_items (λa e=>by cases e; exact⟨_,hg,rfl⟩) ?_))
 unfold jj
 rw[hl]
 refine aa (ao ?_)
 refine d6 (P:=λh=>∀a x,W.B.f a=some x->h.get? a=some x) rfl (λh _=>⟨.machine, .inr (.inl rfl),ya⟩) (dm rfl (d9 ⟨S1.bT,?_⟩))
 refine call_meetsIn wN ⟨_,hg,rfl⟩ PySem.F.entry_dict_items (PySem.F.args_dict_items_1 _) (meets_dict_items (strKind W.prog W.w) d OZ) ⟨⟨[],(AH (W:=W) hg).dictOf⟩,?_⟩
 have S2:=S1.jv {cls:= .type "dict_items",data:= .fields #[.ref d]}
 have l2:f1.le (f1.put s1.heap.objs.size {cls:= .type "dict_items",data:= .fields #[.ref d]}):=Fz.bP S1.gR
 have hg2:=S2.sub _ _ (l2 _ _ hd)
 refine wpAny_pyIter_items (knd:=strKind W.prog W.w) (kvs:=[]) (ep:=0) ⟨_,S2.sub _ _ (Fz.aJ ..),rfl,rfl⟩ (AH (W:=W) hg2) ?_
 have S3:=S2.gW {cls:= .type "dict_itemiterator",data:= .fields #[.none, .bool false, .ref d, .int 0 0, .int (0:Nat) 0, .int (0:Nat) 0, .none, .none]}
 refine h _ (one _ _) _ _ _ (l1.trans l2) S3 (Fz.bP S2.fc) (one_le (Fz.aJ ..)) (λa ha=>by rw[mK ha]; exact S2.fc) (LV (l2 _ _ hd) rfl) ?_
 intro A' f' o' s' Q' E' l' wl S' hQ
 have hit:=S'.own _ _ (wl _ _ (bW ..))
 exact kcp_self hit hQ
theorem LW(K:CK C names){eP e:Expr}{body rest:List Stmt}{pos:Pos}{a:Addr}(he:VE W C ρ e (.raw (.ref a)))(hI:∀f o,bc C ρ f o->lj f o a [])(h:VS W C ρ rest Q)(hs:autoParam (∀x,bH e C.env x=pure x) M9._auto_1):VS W C ρ (.For eP e body [] pos::rest) Q:=
 vs (.cons λf o s S H P E hP=>wpAny_For (he.un f o s S H _ E λv f1 s1 l1 S1 d1=>by
  obtain rfl:v= .ref a:=d1
  have H1:=H.mono l1 (.refl o)
  obtain⟨vs,hl,hv⟩:=(hI f1 o H1).isList S1
  obtain rfl:vs=[]:=hv
  refine ip hl ?_
  have S2:=S1.gW {cls:= .type "list_iterator",data:= .fields #[.ref a, .int (0:Nat) 0]}
  refine gm ?_
  show wpAny _ _ ((zE eP (.ref s1.heap.objs.size) body [] C.env).onRaise (λx=>do iL x C.env; gj x)) _ _ _
  rw[rl]
  refine nP ?_
  simp only[zE]
  have ea:a≠s1.heap.objs.size:=by obtain⟨ob,hg,_⟩:=hl; exact bg (bJ hg)
  refine aa (aZ (aa (k9 (qU K.hand (i:=0) (items:=#[]) ⟨_,S2.own _ _ (Fz.aJ ..),rfl,rfl⟩ (hl.push _) rfl λh' XR=>?_))))
  have S3:St W.B f1 o {s1 with heap:=h'}:=by
   have:=S2.ext (Fz.aJ ..) XR
   refine this.drop λb y e=>?_
   have hb:b≠s1.heap.objs.size:=λq=>by subst q; exact iC (S1.fc ..) e
   unfold Fz.del; rw[if_neg hb,Fz.az hb]; exact e
  refine ao ⟨rfl,codeAny_block (jn ?_)⟩
  exact hP (.next ρ) _ _ h.un ⟨rfl,f1,o,l1,S3,H1, .refl o,λ_ h=> .inl h,λ_ h=> .inl h⟩) hs)
theorem fQ.lend{ss:List Stmt}{x y:Str}{r1 r2 r:Res}(hx:(x,Bd.res true r1)∈ρ)(hy:(y,Bd.res true r2)∈ρ)(EG:x≠y)(h1:Ro.Set y .unset ρ bD)(h2:Ro.Set x (.res true r) bD bZ)(hv:r.v=r1.v)(has:∀a∈r.as,a∈r1.as\/a∈r2.as)
 (hP:∀f o,r1.P f o->r2.P f o->r.P f o) (h:fQ W C bZ ss Q):fQ W C ρ ss Q:=h.ghost λf o s S H=>by
 have nd1:(bD.map (·.1)).Nodup:=by rw[h1.keys]; exact H.nd
 have keys:bZ.map (·.1)=ρ.map (·.1):=h2.keys.trans h1.keys
 have back:∀n b,(n,b)∈bZ->(n=x/\b= .res true r)\/(n=y/\b= .unset)\/(n≠x/\n≠y/\(n,b)∈ρ):=λn b hm=>by
  rcases h2.mem nd1 hm with⟨e1,e2⟩|⟨n1,hm⟩
  ·exact .inl ⟨e1,e2⟩
  ·rcases h1.mem H.nd hm with⟨e1,e2⟩|⟨n2,hm⟩
   ·exact .inr (.inl ⟨e1,e2⟩)
   ·exact .inr (.inr ⟨n1,n2,hm⟩)
 have slots:∀a,Slots C bZ a->Slots C ρ a:=λa hs=>by
  rcases hs with e|⟨n,h1,h2,h3⟩
  ·exact .inl e
  ·exact .inr ⟨n,keys▸h1,h2,h3⟩
 obtain⟨vx,ax,ex,px⟩:=H.vars _ _ hx
 obtain⟨vy,ay,ey,py⟩:=H.vars _ _ hy
 refine⟨f,o, .refl f,S,⟨H.ok,H.ns,λn b hm=>?_,by rw[keys]; exact H.nd,λn u q hm a ha hs=>?_,λn n' u u' q q' p1 p2 ea a ha hb=>?_⟩, .refl o,λa hm=> .inl ?_,λa hu=> .inl ?_⟩
 ·rcases back n b hm with⟨rfl,rfl⟩|⟨rfl,rfl⟩|⟨_,_,hm⟩
  ·exact⟨vx,ax,by rw[hv]; exact ex,hP f o px py⟩
  ·exact⟨vy,ay,trivial⟩
  ·exact H.vars _ _ hm
 ·rcases back n _ hm with⟨rfl,e⟩|⟨rfl,e⟩|⟨_,_,hm⟩
  ·cases e
   rcases has a ha with q|q
   ·exact H.sep _ _ _ hx a q (slots a hs)
   ·exact H.sep _ _ _ hy a q (slots a hs)
  ·exact nomatch e
  ·exact H.sep _ _ _ hm a ha (slots a hs)
 ·rcases back n _ p1 with⟨rfl,e⟩|⟨rfl,e⟩|⟨n1,n2,m1⟩
  ·cases e
   rcases back n' _ p2 with⟨rfl,e⟩|⟨rfl,e⟩|⟨Z7,Z8,m2⟩
   ·exact ea rfl
   ·exact nomatch e
   ·rcases has a ha with q|q
    ·exact H.two _ _ _ _ _ _ hx m2 (Ne.symm Z7) a q hb
    ·exact H.two _ _ _ _ _ _ hy m2 (Ne.symm Z8) a q hb
  ·exact nomatch e
  ·rcases back n' _ p2 with⟨rfl,e⟩|⟨rfl,e⟩|⟨Z7,Z8,m2⟩
   ·cases e
    rcases has a hb with q|q
    ·exact H.two _ _ _ _ _ _ m1 hx n1 a ha q
    ·exact H.two _ _ _ _ _ _ m1 hy n2 a ha q
   ·exact nomatch e
   ·exact H.two _ _ _ _ _ _ m1 m2 ea a ha hb
 ·rcases hm with e|⟨n,h1,h2,h3⟩|⟨n,q,h1,h2⟩
  ·exact .inl e
  ·exact .inr (.inl ⟨n,h1,keys▸h2,h3⟩)
  ·rcases back n _ h1 with⟨rfl,e⟩|⟨rfl,e⟩|⟨_,_,hm⟩
   ·cases e
    rcases has a h2 with q|q
    ·exact .inr (.inr ⟨_,_,hx,q⟩)
    ·exact .inr (.inr ⟨_,_,hy,q⟩)
   ·exact nomatch e
   ·exact .inr (.inr ⟨_,_,hm,h2⟩)
 ·rcases hu with e|⟨n,u,q,h1,h2⟩
  ·exact .inl (slots a e)
  ·rcases back n _ h1 with⟨rfl,e⟩|⟨rfl,e⟩|⟨_,_,hm⟩
   ·cases e
    rcases has a h2 with q|q
    ·exact .inr ⟨_,_,_,hx,q⟩
    ·exact .inr ⟨_,_,_,hy,q⟩
   ·exact nomatch e
   ·exact .inr ⟨_,_,_,hm,h2⟩
noncomputable def jy(x l:Addr)(ps:List (List Nat×List Nat)):Res where
 v:= .ref x
 as:=[l]
 P:=λf o=>Den f (.obj 313 [("_headers", .raw (.ref l))]) (.ref x)/\LstIs f o l (ps.map rB)
 mono:=λf f' o o' h ho ⟨a,b⟩=>⟨a.mono h,(eJ l (ps.map rB)).mono f f' o o' h ho b⟩
 there:=λf o ⟨_,b⟩ a ha=>(eJ l (ps.map rB)).there f o b a ha
theorem O7(X:cH W){A:Around}(lv:Lv 4 A):rY W A (.ref 313) [] (λr=>∃x l,r=jy x l []):=by
 refine X.J1 313 207 (n:=2) (self:= "self") (ps:=["headers"]) (dd:=[.none]) (ρ:=λx=>[("self", .val (.raw (.ref x))),("headers", .val .none),("k", .unset),("v", .unset)]) (a9:=λx dx=>[("self", .res true (gY x dx 313 [])),("headers", .val .none),("k", .unset),("v", .unset)])
  (names:=[(J "self",ae),(J "headers",ae),(J "k",ae),(J "v",ae),(J "type",ag),(J "list",ag),(J "TypeError",ag),(J "__debug__",ag)]) (keys:=["self","headers","k","v"])
  lv (by kernel_rfl) (by kernel_rfl) (by kernel_rfl) ⟨_,rfl,rfl⟩ rfl (by kernel_rfl) rfl rfl (by kernel_rfl) rfl rfl rfl rfl rfl (by kernel_rfl) (by kernel_rfl) (λv vs f s X' hd=>?_) (λx=>?_) (λx=>rfl) (by kernel_rfl) (λx=>rfl) (λx dx=>kD) (λx=>ik) (λx dx C O lv hN=>?_)
 ·obtain rfl:vs=[]:=hd
  refine⟨[.none], .cons rfl .nil,kp_binds X' λS=>?_⟩
  kernel_rfl
 ·show kl [(_,_),(_,_)] _ _
  exact ra
 ·have K:CK C _:=⟨O,lv.hand,hN⟩
  refine Ay K (XO (kR K (nm K) XA AD) rfl (sj a0)) λl=>⟨_,kD,?_⟩
  refine jx (b:=false) (kR K (rv (λf o H=>(held (x:=J "headers") (w:=true) (r:=eJ l []) ik f o H).Ha) (gl K (Az X)) .type (a1 (JR K)) C1) (gl K (xd X)) ue) (λe=>by exact nomatch e) λ_=>dj ?_
  refine let1 (JR K) (AB X K) ?_
  refine J2 (x:= "self") (a:=x) (dx:=dx) (Ca:=313) (fs:=[("_headers", .raw (.ref l))]) (a9:=[("self", .res true (Fe (.ref x) (.obj 313 [("_headers", .raw (.ref l))]))),("headers", .res true (eJ l [])),("k", .unset),("v", .unset)]) ?_ (cw) kD
  refine jx (b:=true) (Aw K JS gA) (λ_=>?_) λe=>by exact nomatch e
  refine LW K (JR K) (λf o H=>(held (x:=J "headers") (w:=true) (r:=eJ l []) ik f o H).Ha) ?_
  refine vs (.lend (x:= "self") (y:= "headers") (r1:=Fe (.ref x) (.obj 313 [("_headers", .raw (.ref l))])) (r2:=eJ l []) (r:=jy x l []) (bD:=[("self", .res true (Fe (.ref x) (.obj 313 [("_headers", .raw (.ref l))]))),("headers", .unset),("k", .unset),("v", .unset)]) (bZ:=[("self", .res true (jy x l [])),("headers", .unset),("k", .unset),("v", .unset)])
   ik ik (by decide+kernel) kD kD rfl (λa ha=> .inr ha) (λf o a b=>⟨a,b⟩) (VS.un (dj (dj ?_))))
  exact⟨_,cw,rfl,_,_,rfl⟩
noncomputable def O8(W:Wd)(A:Around)(fv:Value)(r:Res)(ds:List D)(r':Res):Prop:=∀f o s vs,St W.B f o s->r.P f o->bQ f ds vs->∀(Q:Value->Shared->Prop) (E:Value->Shared->Prop),
 (∀v f' o' s',f.le f'->St W.B f' o' s'->r'.P f' o'->(∀a y,o a=some y->a∉r.as->o' a=some y)->Q v s')->wpAny W.M A (call fv (r.v::vs) []) Q E s
theorem X3(K:CK C names){n:Str}{w:Bool}{r:Res}{d:D}{pos:Pos}(hm:(n,Bd.res w r)∈ρ)(hd:∀f o,r.P f o->Den f d r.v)(h1:autoParam ((n==("__debug__" :Str))=false) sI._auto_1)(h2:autoParam ((n==("__classdict__" :Str))=false) sI._auto_1):VE W C ρ (.Name n pos) d:=ve λf o s S H Q E h=>by
 obtain⟨vo,hv,e,hp⟩:=H.vars _ _ hm
 exact uR (sC K.ok S H hm hv e h2 (h _ f s (.refl f) S (hd f o hp))) h1
theorem LX(K:CK C names){ob:Expr}{name:Str}{es:List Expr}{apos pos O9:Pos}{rest:List Stmt}{x:Str}{r r':Res}{fv:Value}{ds:List D}(CQ:VE W C ρ ob (.raw r.v))(hm:(x,Bd.res true r)∈ρ)
 (Pa:∀A f o s pl,St W.B f o s->r.P f o->∀(Q:Value×List Value->Shared->Prop) (E:Value->Shared->Prop),Q (fv,[r.v]) s->wpAny W.M A (xH r.v name pl) Q E s) (hk:Kept W fv) (ha:VA W C ρ es ds) (hc:O8 W C.A fv r ds r')
 (aU:Ro.Set x (.res true r') ρ a9) (hv:r'.v=r.v) (has:r'.as=r.as) (ir:VS W C a9 rest Q)
 (hp:autoParam ((aI es C.env).all (λx=>!x.1)=true) fM._auto_1) (hn:autoParam (es.length+0<30) vn._auto_1) (hl:autoParam ((apos.endLine==pos.line)=true) vn._auto_1) (hb:autoParam (bx ob name C.env (eval ob C.env)=eval ob C.env) fM._auto_1)
 (hs:autoParam (gk (.Call (.Attribute ob name apos) es [] pos) aD O9.line C.env=pure false) fM._auto_1):VS W C ρ (.Expr (.Call (.Attribute ob name apos) es [] pos) O9::rest) Q:=
 vs (.cons λf o s S H P E hP=>rM (by
  show wpAny _ _ (do
   let ov <-bx ob name C.env (eval ob C.env)
   dF apos.atName
   eY ob name apos pos C.env ov (es.length+0) (backTo pos (aI es C.env)) []) _ _ s
  rw[hb]
  refine aa (CQ.un f o s S H _ _ λv f1 s1 l1 S1 d1=>aa (aZ ?_))
  obtain rfl:v=r.v:=d1
  have H1:=H.mono l1 (.refl o)
  have qj:eC (es.length+0) (backTo pos (aI es C.env)) []=true:=by
   unfold eC
   have:=cn pos es C.env hp
   rw[mI] at this
   simp only[r9,kj,nq,if_true,lq,cq,aT,decide_eq_true_eq]
   exact⟨λx hx=>by simpa using this x hx,hn⟩
  unfold eY rP
  rw[qj]
  refine aa (aL (Pa _ f1 o s1 _ S1 (held hm f1 o H1) _ _ ?_))
  unfold jj
  rw[hl]
  refine aa (ao ?_)
  have jm:=cn pos es C.env hp
  refine d6 (P:=λh=>∀a x,W.B.f a=some x->h.get? a=some x) (by rw[jm]; rfl) hk (dm jm ?_)
  exact ha.un pos f1 o s1 S1 H1 _ _ λus f2 s2 l2 S2 d2=>⟨S2.bT,hc f2 o s2 us S2 (held hm f2 o (H1.mono l2 (.refl o))) d2 _ _ λv f3 o3 s3 l3 S3 hP3 keep=>by
   have L:=Left.change H hm aU hv (λa ha=> .inl (has▸ha)) (l1.trans (l2.trans l3)) S3 hP3 keep
   exact hP (.next a9) _ _ ir.un ⟨rfl,f3,o3,L⟩⟩) K.inter hs)
theorem Iw(X:cH W){Ca:Addr}{name:Str}{fs:List (Str×D)}{d:D}{attr:Option Value}{u:Value}(hg:Jx (KK W) Ca name=true)(hh:pq (KK W) Ca=true)(ha:findIn (KK W) (.ref Ca) name=some attr)(hn:noGet (KK W) attr=true)(hf:fs.lookup name=some d)(hd:d= .raw u)(hu:Ba u=true):yh W (λv=>gp v name true) (.obj Ca fs) d:=λA f o s v r S hv Q E h=>by
 obtain⟨a,dx,es,n,rfl,I,hD⟩:=Den.inst S hv
 obtain⟨w,h1,h2⟩:=(hD.find (name:=name)).1 d hf
 have hw:Ba w=true:=by subst hd; rw[show w=u from h2]; exact hu
 exact get_value (X.sH S) I (rN hg).1 (xX hh ha hn h1) hw (h w f _ (.refl f) (S.tok _) h2)
theorem C3(X:cH W){l:Addr}:yh W (λv=>gp v (J "_headers") true) (.obj 313 [("_headers", .raw (.ref l))]) (.raw (.ref l)):=Iw X (attr:=aD) (by kernel_rfl) (by kernel_rfl) (by kernel_rfl) rfl (by kernel_rfl) rfl rfl
theorem LY(X:cH W){d:D}:Meth W (.obj 313 [("_headers",d)]) (J "add_header") (.ref 310):=jH X (by kernel_rfl) (by kernel_rfl) (by kernel_rfl) (by kernel_rfl)
noncomputable def Pb(self:Str)(r:Res):Out->Prop
 | .next a9=>(self,Bd.res true r)∈a9
 |_=>False
theorem X4(X:cH W){A:Around}(lv:Lv 2 A){x l:Addr}{ps:List (List Nat×List Nat)}{tn tv:List Nat}(hp:vv (tn,tv))(hn:ps.length<=1000):O8 W A (.ref 310) (jy x l ps) [.str (aS tn), .str (aS tv)] (jy x l (ps++[(tn,tv)])):=λf o s vs S hr hd Q E h=>by
 obtain⟨v1,r,rfl,h1,v2,r',rfl,h2,h3⟩:=hd
 obtain rfl:r'=[]:=h3
 refine fR (X.code (P:=λf1=>f1 s.heap.objs.size=some xf) 310 (ps:=["self","_name","_value","_params"]) (ds:=[.raw (.ref x), .str (aS tn), .str (aS tv), .raw (.ref s.heap.objs.size)]) (ρ:=[("self", .val (.raw (.ref x))),("_name", .val (.str (aS tn))),("_value", .val (.str (aS tv))),("_params", .val (.raw (.ref s.heap.objs.size))),("parts", .unset),("k", .unset),("v", .unset)])
  (names:=[(J "self",ae),(J "_name",ae),(J "_value",ae),(J "_params",ae),(J "parts",ae),(J "k",ae),(J "v",ae),(J "_formatparam",ag)]) lv ⟨_,rfl,rfl⟩ rfl (by kernel_rfl) rfl rfl (by kernel_rfl) rfl rfl rfl rfl rfl (by kernel_rfl) (by kernel_rfl) (λQ E k=>?_) ?_ S λf1 env du cU Lo l1 lo jg H mJ _ hm=>?_)
 ·have e:eR (cm (KK W) 310) ⟨[.ref x,v1,v2],[]⟩=(do let d <-alloc xf; pure [(J "self",lg x),(J "_name",v1),(J "_value",v2),(J "_params", .ref d)]):=by kernel_rfl
  show wpAny _ _ (eR (cm (KK W) 310) ⟨[.ref x,v1,v2],[]⟩) Q E s
  rw[e]
  have l0:f.le (f.put s.heap.objs.size xf):=Fz.bP S.gR
  exact aa (Jt (ao (k [.ref x,v1,v2, .ref s.heap.objs.size] _ _ l0 (S.jv xf) (.cons rfl (.cons (h1.mono l0) (.cons (h2.mono l0) (.cons rfl .nil)))) (Fz.aJ ..))))
 ·show kl [(_,_),(_,_),(_,_),(_,_)] _ _
  exact ra
 ·have hx:du l=o l:=by
   obtain⟨_,ob,us,n,e1,_⟩:=hr
   rw[e1]; exact lo _ _ e1
  have BY:∀b,Uses ⟨env,A.deeper env,[(J "self",ae),(J "_name",ae),(J "_value",ae),(J "_params",ae),(J "parts",ae),(J "k",ae),(J "v",ae),(J "_formatparam",ag)]⟩ [("self", .val (.raw (.ref x))),("_name", .val (.str (aS tn))),("_value", .val (.str (aS tv))),("_params", .val (.raw (.ref s.heap.objs.size))),("parts", .unset),("k", .unset),("v", .unset)] b->o b=aD:=by
   intro b hu
   rcases hu with(hu|⟨m,hu,E6,_⟩)|⟨m,u,r,hu,_⟩
   ·exact hm b (.inl hu)
   ·exfalso
    have key:∀m,m∈([("self",Bd.unset),("_name", .unset),("_value", .unset),("_params", .unset),("parts", .unset),("k", .unset),("v", .unset)]:Ro).map (·.1)->(m,ae)∈[(J "self",ae),(J "_name",ae),(J "_value",ae),(J "_params",ae),(J "parts",ae),(J "k",ae),(J "v",ae),(J "_formatparam",ag)]:=by
     intro m hm
     simp only[aO,zM] at hm
     simp only[au,bo,or_false] at hm
     rcases hm with rfl|rfl|rfl|rfl|rfl|rfl|rfl<;>simp
    have e:=H.ok.kinds _ _ (key m hu) (by decide)
    rw[e] at E6
    rcases E6 with q|q<;>exact nomatch q
   ·exfalso
    simp only[au,bo,or_false,Hh,reduceCtorEq,and_false] at hu
  have X5:o l≠aD:=by
   obtain⟨_,ob,us,n,e1,_⟩:=hr
   rw[e1]; simp
  have H2:=H.adopt (x:= "self") (r:=jy x l ps) (a9:=[("self", .res true (jy x l ps)),("_name", .val (.str (aS tn))),("_value", .val (.str (aS tv))),("_params", .val (.raw (.ref s.heap.objs.size))),("parts", .unset),("k", .unset),("v", .unset)]) kD (cw)
   ((jy x l ps).mono _ _ _ _ l1 (λa _ y e=>lo a y e) hr) (λa ha hu=>by rcases aA.mp ha with rfl; exact X5 (BY _ hu))
  have H3:=H2.adopt (x:= "_params") (r:=yT s.heap.objs.size) (a9:=[("self", .res true (jy x l ps)),("_name", .val (.str (aS tn))),("_value", .val (.str (aS tv))),("_params", .res true (yT s.heap.objs.size)),("parts", .unset),("k", .unset),("v", .unset)]) kD (.tail _ (.tail _ (.tail _ (.head _))))
   Lo (λa ha=>by exact nomatch ha)
  have K:CK ⟨env,A.deeper env,[(J "self",ae),(J "_name",ae),(J "_value",ae),(J "_params",ae),(J "parts",ae),(J "k",ae),(J "v",ae),(J "_formatparam",ag)]⟩ _:=⟨H.ok,mJ.hand,rfl⟩
  have body:VS W ⟨env,A.deeper env,[(J "self",ae),(J "_name",ae),(J "_value",ae),(J "_params",ae),(J "parts",ae),(J "k",ae),(J "v",ae),(J "_formatparam",ag)]⟩ [("self", .res true (jy x l ps)),("_name", .val (.str (aS tn))),("_value", .val (.str (aS tv))),("_params", .res true (yT s.heap.objs.size)),("parts", .unset),("k", .unset),("v", .unset)] (cj (KK W) 310) (Pb "self" (jy x l (ps++[(tn,tv)]))):=by
   refine Ay K (sj a0) λa=>⟨_,kD,?_⟩
   refine jx (b:=true) (kR K (nm K) XA (qA (by intro h; exact nomatch h) (by intro v h; exact nomatch h))) (λ_=>?_) λe=>by exact nomatch e
   refine let1 (oU X K (mJ.le (by(first|lia|omega))) (X3 K (r:=jy x l ps) ik λ_ _ h=>h.1) (nm K) hp.val hp.LR) (cx K) ?_
   refine EZ (ds:=[]) (d:= .str (aS tv)) K (nm K) (by decide) (dj ?_)
   have OZ:(s.heap.objs.size==sysModules)=false:=by
    have Pc:(369:Nat)<s.heap.objs.size:=S.lt (.inl (S.base _ _ (X.sm 369 _ rfl)))
    simp only[beq_eq_false_iff_ne,ne_eq]
    intro e
    rw[e] at Pc
    exact absurd Pc (by decide)
   refine mR K (xs:=[]) (vi (Ff K (d:=s.heap.objs.size) (x:= "_params") (QI K (r:=yT s.heap.objs.size) ik) ik OZ)) (λxs ρ=>xs=[]/\ρ=([("self", .res true (jy x l ps)),("_name", .val (.str (aS tn))),("_value", .val (.str (aS tv))),("_params", .res true (yT s.heap.objs.size)),("parts", .res true (eJ a [.str (aS tv)])),("k", .unset),("v", .unset)]:Ro)) ⟨rfl,rfl⟩ ?_ ?_
   ·rintro ρ ⟨_,rfl⟩
    refine tZ (x:= "parts") (a:=a) (ds:=[.str (aS tv)]) ik kD ?_
    refine vs (.append (a:=l) (x:= "self") (r:=jy x l ps) (r':=jy x l (ps++[(tn,tv)])) (ds:=ps.map rB) (d:=rB (tn,tv)) (VE.un (jW K (X3 K (r:=jy x l ps) ik λ_ _ h=>h.1) (C3 X)))
     (VE.un (tup (ac (oU X K (mJ.le (by(first|lia|omega))) (X3 K (r:=jy x l ps) ik λ_ _ h=>h.1) (nm K) hp.name hp.Iu) (a1 (gh (st [59,32]) (iu gP gO) .builtin (a1 (nm K (d:= .list [.str (aS tv)]))) (qu (ts:=[tv]) (λt ht=>by rcases aA.mp ht with rfl; exact hp.LR) (by simp) (by decide)))))))
     ik (λf o h=>h.2) (by rw[ai]; exact aN 0x3f6240084308421084801 tt hn) (a9:=[("self", .res true (jy x l (ps++[(tn,tv)]))),("_name", .val (.str (aS tn))),("_value", .val (.str (aS tv))),("_params", .res true (yT s.heap.objs.size)),("parts", .val (.list [.str (aS tv)])),("k", .unset),("v", .unset)]) kD rfl rfl (.head _) (λf o o' h1 h2 h3=>⟨h1.1,by rw[fV]; exact h2⟩) (VS.un (dj ?_)) rfl rfl (by decide) K.inter rfl)
    exact cw
   ·rintro _ _ _ ⟨e,_⟩; exact nomatch e
  refine body.un f1 du cU jg H3 _ _ λu fl s' hq ho=>?_
  cases u with
  |next bZ=>
   obtain⟨rfl,f',o',L⟩:=ho
   have hP:(jy x l (ps++[(tn,tv)])).P f' o':=held hq f' o' L.env
   refine h _ f' o' s' (l1.trans L.le) L.st hP λb y e hb=>L.step b y (lo _ _ e) λq=>?_
   rcases q with q|⟨m,q1,q2,q3⟩|⟨m,r,q1,q2⟩
   ·have:=hm b (.inl q); rw[e] at this; exact nomatch this
   ·have:=hm b (.inr (.inl ⟨m,q1,q2,q3⟩)); rw[e] at this; exact nomatch this
   ·simp only[au,bo,or_false,Hh,reduceCtorEq,and_false,Bd.res.injEq,true_and,false_or] at q1
    rcases q1 with⟨_,rfl⟩|⟨_,rfl⟩
    ·exact hb q2
    ·exact nomatch q2
  |ret _=>exact hq.elim
  |brk _=>exact hq.elim
  |cont _=>exact hq.elim
end
structure Row where
 low:Nat
 sg:Nat
 high:Nat
structure Row.Ok(r:Row):Prop where
 low:r.low∈[97,98,99,100,65,66,67,68]
 sg:r.sg∈[20,21,27]
 high:r.high∈[97,98,99,100,65,66,67,68]
noncomputable def eh(r:Row):D:= .list [.str (aS [r.low]), .int r.sg, .str (aS [r.high])]
noncomputable def gb(r:Row):List (Nat×Nat):=if r.sg=20 then[(r.low,r.high)] else if r.sg=21 then[(r.high,r.low)] else[(r.low,r.high),(r.high,r.low)]
noncomputable def oC(r:Row)(p:Nat×Nat):List Nat×List Nat:=([p.1],(if r.sg=27 then[61,61] else[60])++[p.2])
noncomputable def iA(rows:List Row)(ks:List Bool):List Row:=((rows.zip ks).filter (·.2)).map (·.1)
noncomputable def pP(rows:List Row)(ks:List Bool):List (List Nat×List Nat):=(iA rows ks).flatMap λr=>(gb r).map (oC r)
theorem wk:∀c∈([97,98,99,100,65,66,67,68]:List Nat),gw true c=true:=by decide
theorem LZ{r:Row}(h:r.Ok){p:Nat×Nat}(hp:p∈gb r):vv (oC r p):=by
 have key:p.1∈[97,98,99,100,65,66,67,68]/\p.2∈[97,98,99,100,65,66,67,68]:=by
  unfold gb at hp
  split at hp
  ·rcases aA.mp hp with rfl; exact⟨h.low,h.high⟩
  ·split at hp
   ·rcases aA.mp hp with rfl; exact⟨h.high,h.low⟩
   ·rcases au.mp hp with rfl|hp
    ·exact⟨h.low,h.high⟩
    ·rcases aA.mp hp with rfl; exact⟨h.high,h.low⟩
 have h1:=wk _ key.1
 have h2:=wk _ key.2
 have zB:gw false p.2=true:=by
  unfold gw at h2 ⊢
  simp only[iP] at h2 ⊢
  rcases h2 with h2|h2
  ·exact .inl h2
  ·exact nomatch h2
 refine⟨?_,?_,by simp[oC],?_⟩
 ·show clean true [p.1]=true
  unfold clean; rw[de,h1]; rfl
 ·show clean false ((if r.sg=27 then[61,61] else[60])++[p.2])=true
  unfold clean
  rw[kH,de,zB]
  split<;>rfl
 ·show((if r.sg=27 then[61,61] else[60])++[p.2]).length<=1000
  split<;>simp
theorem wm{α β:Type}(g:α->D)(h:β->D):∀(xs:List α) (ys:List β),oy (xs.map g) (ys.map h)=(xs.zip ys).map λp=> .tup [g p.1,h p.2]
 |[],_=>by simp[oy]
 |_::_,[]=>by simp[oy]
 |x::xs,y::ys=>by rw[aO,aO,oy,wm g h xs ys]; rfl
section
variable {W:Wd}{C:Cx}{ρ a9 bD bZ:Ro}{names:List (Str×aC)}{Q:Out->Prop}{f o:Fz}{s:Shared}
theorem fQ.Iy{ss:List Stmt}{x:Str}{a:Addr}{r:Res}{d:D}(hm:(x,Bd.res true r)∈ρ)(has:r.as=[a])(hd:∀f o ob,r.P f o->o a=some ob->f.le (f.put a ob)->Den (f.put a ob) d r.v)(aU:Ro.Set x (.val d) ρ a9)(h:fQ W C a9 ss Q):fQ W C ρ ss Q:=h.ghost λf o s S H=>by
 obtain⟨vo,hv,ev,hP⟩:=H.vars _ _ hm
 have ha:a∈r.as:=by rw[has]; exact .head _
 obtain⟨ob,e1⟩:=r.there _ _ hP a ha
 have lf:=Fz.bP (o:=ob) (S.fw e1)
 have slot:∀b,Slots C ρ b->b≠a:=λb hs hb=>H.sep _ _ _ hm a ha (hb▸hs)
 have del:∀b y,o b=some y->b≠a->o.del a b=some y:=λb y e hb=>by unfold Fz.del; rw[if_neg hb]; exact e
 refine⟨f.put a ob,o.del a,lf,S.freeze e1,⟨H.ok,?_,λn b hn=>?_,by rw[aU.keys]; exact H.nd,λn u q hn a' Hf hs=>?_,λn n' u u' q q' h1 h2 ea a' Hf hb=>?_⟩,λb y e hn=>del b y e λq=>hn (.inr (.inr ⟨_,_,hm,q▸ha⟩)),λa' h=> .inl ?_,λa' h=> .inl ?_⟩
 ·obtain⟨ob',es,ep,e,t,y1⟩:=H.ns; exact⟨ob',es,ep,del _ _ e (slot _ (.inl rfl)),t,y1⟩
 ·have var:∀vo,n∈ρ.map (·.1)->kI C o n vo->kI C (o.del a) n vo:=λvo qm hv=>by
   rcases hv with⟨k,ob,es,ep,e1,e2,y1,y2⟩|⟨k,c,ob,e1,e2,e3⟩
   ·exact .inl ⟨k,ob,es,ep,del _ _ e1 (slot _ (.inl rfl)),e2,y1,y2⟩
   ·exact .inr ⟨k,c,ob,e1,del _ _ e2 (slot _ (.inr ⟨n,qm,k,e1⟩)),e3⟩
  rcases aU.mem H.nd hn with⟨rfl,rfl⟩|⟨ea,pM⟩
  ·exact⟨vo,var vo (fZ hm) hv,_,ev,hd f o ob hP e1 lf⟩
  ·obtain⟨vo,h1,h2⟩:=H.vars _ _ pM
   refine⟨vo,var vo (fZ pM) h1,?_⟩
   cases b with
   |unset=>trivial
   |val d=>obtain⟨v,e,hd⟩:=h2; exact⟨v,e,hd.mono lf⟩
   |res u q=>exact⟨h2.1,q.mono _ _ _ _ lf (λb hb y e=>del b y e λhr=>H.two _ _ _ _ _ _ pM hm ea b hb (hr▸ha)) h2.2⟩
 ·rcases aU.mem H.nd hn with⟨_,e⟩|⟨_,pM⟩
  ·exact nomatch e
  ·exact H.sep _ _ _ pM a' Hf ((Slots.set aU).mp hs)
 ·rcases aU.mem H.nd h1 with⟨_,e⟩|⟨_,h1⟩
  ·exact nomatch e
  ·rcases aU.mem H.nd h2 with⟨_,e⟩|⟨_,h2⟩
   ·exact nomatch e
   ·exact H.two _ _ _ _ _ _ h1 h2 ea a' Hf hb
 ·exact oO aU H.nd a' h
 ·exact Uses.of aU.keys (jO aU) h
theorem Fg{ss:List Stmt}{x:Str}{a l:Addr}{ps:List (List Nat×List Nat)}(h:VS W C a9 ss Q)(hm:(x,Bd.res true (jy a l ps))∈ρ)(aU:Ro.Set x (.val (pO ps)) ρ a9):VS W C ρ ss Q:=
 vs (.Iy hm rfl (λf o ob hP e lf=>by
  obtain⟨⟨a',dx,es,n,e0,e1,e2,hh,t,v,r,e3,e4,e5⟩,ob',us,m,e6,e7,e8,e9⟩:=hP
  rw[e] at e6
  obtain rfl:ob=ob':=cg e6
  obtain rfl:v= .ref l:=e4
  exact⟨a',dx,es,n,e0,lf _ _ e1,lf _ _ e2,hh,t, .ref l,r,e3,⟨l,ob,us,m,rfl,Fz.aJ ..,e7,e8,e9.mono lf⟩,e5⟩) aU h.un)
theorem wo(X:cH W):cK W (J "Headers") (.ref 313):=X.glob (by kernel_rfl)
inductive Pd(rows:List Row)(ks:List Bool)(x l:Addr)(xs:List D)(ρ:Ro):Prop
 |mk (r:List Row) (ps:List (List Nat×List Nat)) (b1 b2 b3 b4 b5:Bd) (h1:xs=r.map eh) (h2:(∀q∈r,q.Ok)) (h3:pP rows ks=ps++(r.flatMap λr=>(gb r).map (oC r))) (h4:ρ=([("rows", .val (.list (rows.map eh))),("kept", .val (.list (ks.map .bool))),("table", .res true (jy x l ps)),("low",b1),("sign",b2),("high",b3),("one",b4),("other",b5)]:Ro)):Pd rows ks x l xs ρ
inductive Pe(rows:List Row)(ks:List Bool)(x l:Addr)(q:Row)(r:List Row)(xs:List D)(ρ:Ro):Prop
 |mk (es:List (Nat×Nat)) (uX:List (List Nat×List Nat)) (b4 b5:Bd) (h1:xs=(es.map λp=> .tup [.str (aS [p.1]), .str (aS [p.2])])) (h2:(∀p∈es,p∈gb q)) (h3:pP rows ks=uX++(es.map (oC q)++(r.flatMap λr=>(gb r).map (oC r)))) (h4:ρ=([("rows", .val (.list (rows.map eh))),("kept", .val (.list (ks.map .bool))),("table", .res true (jy x l uX)),("low", .val (.str (aS [q.low]))),("sign", .val (.int q.sg)),("high", .val (.str (aS [q.high]))),("one",b4),("other",b5)]:Ro)):Pe rows ks x l q r xs ρ
theorem X6(X:cH W){A:Around}(lv:Lv 5 A){rows:List Row}{ks:List Bool}(hr:∀r∈rows,r.Ok)(hn:(pP rows ks).length<=1000)(hl:rows.length<=1000):iK W A (.ref 349) [.list (rows.map eh), .list (ks.map .bool)] (pO (pP rows ks)):=by
 refine X.fn 349 (n:=4) (ps:=["rows","kept"]) (ρ:=[("rows", .val (.list (rows.map eh))),("kept", .val (.list (ks.map .bool))),("table", .unset),("low", .unset),("sign", .unset),("high", .unset),("one", .unset),("other", .unset)])
  (names:=[(J "rows",ae),(J "kept",ae),(J "table",ae),(J "low",ae),(J "sign",ae),(J "high",ae),(J "one",ae),(J "other",ae),(J "Headers",ag),(J "zip",ag)])
  lv ⟨_,rfl,rfl⟩ rfl (by kernel_rfl) rfl rfl (by kernel_rfl) rfl rfl rfl rfl rfl (by kernel_rfl) (by kernel_rfl) (tY λa b=>by kernel_rfl) ?_ (λC O lv hN sD=>?_)
 ·show kl [(_,_),(_,_)] _ _
  exact ra
 ·have K:CK C _:=⟨O,lv.hand,hN⟩
  refine Ih (O2 (gl K (wo X)) (X.kept (by kernel_rfl)) a0 (O7 X (lv.le (by simp[*]))).un) ?_
  rintro d r ⟨rfl,x,l,rfl⟩
  refine⟨"table",[("rows", .val (.list (rows.map eh))),("kept", .val (.list (ks.map .bool))),("table", .val (.raw (.ref x))),("low", .unset),("sign", .unset),("high", .unset),("one", .unset),("other", .unset)],
   [("rows", .val (.list (rows.map eh))),("kept", .val (.list (ks.map .bool))),("table", .res true (jy x l [])),("low", .unset),("sign", .unset),("high", .unset),("one", .unset),("other", .unset)],cx K (d:= .raw (.ref x)), .tail _ (.tail _ (.head _)),kD,?_⟩
  refine mR (xs:=(iA rows ks).map eh) K (jF K (dY (eX:=[(".0", .unset),("row", .unset),("fits", .unset)]) K (Om (gl K (JW X)) (ac (nm K) (a1 (nm K)))) (λC' K' e=>?_) ku ?_) bp) (Pd rows ks x l) ⟨iA rows ks,[],_,_,_,_,_,rfl,?_,rfl,rfl⟩ ?_ ?_
  ·rw[wm,show(iA rows ks).map eh=((rows.zip ks).filter (·.2)).map (λp=>eh p.1) by unfold iA; rw[aM]; rfl]
   exact sr (rows.zip ks) (λp=> .tup [eh p.1, .bool p.2]) (·.2) (λp=>eh p.1) (λp=>[(".0", .unset),("row", .val (eh p.1)),("fits", .val (.bool p.2))]) (λp hp=>iW K' (cx K') (cx K')) (λp hp=>Aw K' (nm K') gA) (λp hp _=>nm K') λp hp=>jT
  ·unfold iA
   rw[ai,ai]
   refine aP (ba _ _) ?_
   rw[JC]; exact Sa hl
  ·intro q hq
   unfold iA at hq
   obtain⟨p,hp,rfl⟩:=aw.mp hq
   exact hr _ (kG (bw.mp hp).1).1
  ·rintro ρ ⟨r,ps,b1,b2,b3,b4,b5,e1,e2,e3,rfl⟩
   cases r with
   |cons _ _=>exact nomatch e1
   |nil=>
    refine Fg (x:= "table") (a:=x) (l:=l) (ps:=ps) ?_ ik kD
    refine j8 (nm K) ?_
    rw[e3]; simp[Ends]
  ·rintro y xs ρ ⟨r,ps,b1,b2,b3,b4,b5,e1,e2,e3,rfl⟩
   cases r with
   |nil=>exact nomatch e1
   |cons q r=>
    obtain⟨rfl,rfl⟩:y=eh q/\xs=r.map eh:=by cases e1; exact⟨rfl,rfl⟩
    have hq:=e2 q (.head _)
    refine⟨_,rW K (cx K) (cx K) (cx K) (.inr rfl),?_⟩
    refine mR (xs:=(gb q).map λp=> .tup [.str (aS [p.1]), .str (aS [p.2])]) K (jF K (d:= .list ((gb q).map λp=> .tup [.str (aS [p.1]), .str (aS [p.2])])) (BM (knd:=intKind W.prog W.w) (λi:Int=> .int i) (λk v f h=>by obtain⟨t,rfl⟩:=h; exact beq_self_eq_true k) (HW:=20) (HY:=21) (HZ:=27) (κ:=(q.sg:Int)) num (lst (a1 (tup (ac (nm K) (a1 (nm K)))))) num (lst (a1 (tup (ac (nm K) (a1 (nm K)))))) num (lst (ac (tup (ac (nm K) (a1 (nm K)))) (a1 (tup (ac (nm K) (a1 (nm K))))))) (nm K) (λu1 u2 u3=>?_)) bp)
     (Pe rows ks x l q r) ⟨gb q,ps,_,_,rfl,λp hp=>hp,by rw[e3,G4],rfl⟩ ?_ ?_
    ·have h3:=hq.sg
     unfold gb
     generalize q.sg=g at h3
     simp only[au,bo,or_false] at h3
     rcases h3 with rfl|rfl|rfl
     ·exact⟨u1,by kernel_rfl, .inl ⟨rfl,rfl⟩⟩
     ·exact⟨u2,by kernel_rfl, .inr (.inl ⟨rfl,rfl⟩)⟩
     ·exact⟨u3,by kernel_rfl, .inr (.inr ⟨rfl,rfl⟩)⟩
    ·rintro ρ ⟨es,uX,c4,c5,f1,f2,f3,rfl⟩
     cases es with
     |cons _ _=>exact nomatch f1
     |nil=>exact dj ⟨r,uX,_,_,_,_,_,rfl,λz hz=>e2 z (.tail _ hz),f3,rfl⟩
    ·rintro z zs ρ ⟨es,uX,c4,c5,f1,f2,f3,rfl⟩
     cases es with
     |nil=>exact nomatch f1
     |cons p es=>
      obtain⟨rfl,rfl⟩:z= .tup [.str (aS [p.1]), .str (aS [p.2])]/\zs=(es.map λp=> .tup [.str (aS [p.1]), .str (aS [p.2])]):=by cases f1; exact⟨rfl,rfl⟩
      refine⟨_,iW K (cx K) (cx K),?_⟩
      have hlen:uX.length<=1000:=by
       have:=congrArg i9 f3
       rw[a8] at this; exact cG 0x4180423f62400847ec4821 tt hn (ah this.symm)
      refine LX K (x:= "table") (r:=jy x l uX) (r':=jy x l (uX++[oC q p])) (fv:= .ref 310) (ds:=[.str (aS [p.1]), .str (aS ((if q.sg=27 then[61,61] else[60])++[p.2]))]) (QI K (r:=jy x l uX) ik) ik (λA f o s pl S hP=>LY X A f o s _ pl S hP.1) (X.kept (by kernel_rfl))
       (ac (nm K) (a1 (bin K (vu (kR K (nm K) num ia) (λh=> .eq (st [61,61]) ?_) λh=> .eq (st [60]) ?_) (nm K) (gS (by split<;>simp))))) (X4 X (lv.le (by simp[*])) (LZ hq (f2 p (.head _))) hlen) (a9:=[("rows", .val (.list (rows.map eh))),("kept", .val (.list (ks.map .bool))),("table", .res true (jy x l (uX++[oC q p]))),("low", .val (.str (aS [q.low]))),("sign", .val (.int q.sg)),("high", .val (.str (aS [q.high]))),("one", .val (.str (aS [p.1]))),("other", .val (.str (aS [p.2])))]) kD rfl rfl (dj ?_)
      ·have:q.sg=27:=by have:=of_decide_eq_true h; exact Nt this
       rw[if_pos this]
      ·have:¬q.sg=27:=by have:=of_decide_eq_false h; exact Nu this
       rw[if_neg this]
      ·exact⟨es,uX++[oC q p],_,_,rfl,λz hz=>f2 z (.tail _ hz),by rw[f3]; simp,rfl⟩
end
open PyProof.Rows.KTD (datumAt inKeys isSome_datumAt Here text_of_look in_text getMethod_text meets_get2)
noncomputable def gC:List Nat:=[97,98,99,100,65,66,67,68,60,61,62,59]
noncomputable def bU:List Nat:=[97,98,99,100,65,66,67,68]
noncomputable def rD:List (List Nat×Int):=[([33],54),([33,61],28),([37],24),([37,61],40),([38],19),([38,61],41),([40],7),([41],8),([42],16),([42,42],35),([42,42,61],46),([42,61],38),([43],14),([43,61],36),([44],12),([45],15),([45,61],37),([45,62],51),([46],23),([46,46,46],52),([47],17),([47,47],47),([47,47,61],48),([47,61],39),([58],11),([58,61],53),([59],13),([60],20),([60,60],33),([60,60,61],44),([60,61],29),([61],22),([61,61],27),([62],21),([62,61],30),([62,62],34),([62,62,61],45),([64],49),([64,61],50),([91],9),([93],10),([94],32),([94,61],43),([123],25),([124],18),([124,61],42),([125],26),([126],31)]
noncomputable def Fh:List (Str×Kz):=rD.map λp=>(aS p.1,oH (.int p.2))
noncomputable def tokOf(x:List Nat):Option Int:=rD.lookup x
theorem rE(x:List Nat):datumAt (aS x) Fh=(tokOf x).map λi=>oH (.int i):=by
 unfold Fh tokOf
 generalize rD=l
 induction l with
 |nil=>rfl
 |cons p l ih=>
  rw[aO,datumAt,eG,ih]
  by_cases h:x=p.1
  ·rw[if_pos (decide_eq_true (by rw[h]))]
   subst h
   simp
  ·rw[if_neg (by simpa using λe=>h (qq e)),show(x==p.1)=false by simpa using h]
theorem L5(x:List Nat):inKeys (aS x) Fh=(tokOf x).isSome:=by
 rw[<-isSome_datumAt,rE,Option.isSome_map]
section
variable {W:Wd}{C:Cx}{ρ a9 bD bZ:Ro}{names:List (Str×aC)}{Q:Out->Prop}{f o:Fz}{s:Shared}
theorem qB(X:cH W)(S:St W.B f o s):Here s.heap s.heap 153 Fh:=
 ⟨text_of_look (get:=λa=>CC a (KK W)) (λa ob e=>S.bT _ _ (X.sm a ob e)) (by kernel_rfl),λ_ _ e=>e⟩
theorem J4(X:cH W):cK W (J "EXACT_TOKEN_TYPES") (.ref 153):=X.glob (by kernel_rfl)
theorem Fi(X:cH W){x:List Nat}:lx W (cc .In) (.str (aS x)) (.raw (.ref 153)) (.bool (tokOf x).isSome):=λA f o s va vb r S ha hb Q E h=>by
 obtain⟨t,rfl⟩:=ha
 obtain rfl:vb= .ref 153:=hb
 exact in_text (qB X S) (by rw[L5]; exact h _ f _ (.refl f) (S.tok _) rfl)
theorem Fj(X:cH W):Meth W (.raw (.ref 153)) (J "get") (.builtin "dict.get"):=λA f o s v pl S hv Q E h=>by
 obtain rfl:v= .ref 153:=hv
 exact getMethod_text (qB X S) h
theorem AI(X:cH W){A:Around}{x:List Nat}{i:Int}:mf W A (.builtin "dict.get") [.raw (.ref 153), .str (aS x), .int i] (.int ((tokOf x).getD i)):=λf o s vs S hd Q E h=>by
 obtain⟨v1,r1,rfl,h1,v2,r2,rfl,h2,v3,r3,rfl,h3,h4⟩:=hd
 obtain rfl:r3=[]:=h4
 obtain rfl:v1= .ref 153:=h1
 obtain⟨t,rfl⟩:=h2
 refine call_meetsIn PySem.F.slot_dict_get (qB X S).typeIs PySem.F.entry_dict_get (PySem.F.args_dict_get_3 _ _ _) (meets_get2 (h₀:=s.heap) (D:=Fh)) ⟨qB X S,λd v hd hv=>?_,λhn=>?_⟩
 ·rw[rE] at hd
  cases e:tokOf x with
  |none=>rw[e] at hd; exact nomatch hd
  |some j=>
   rw[e] at hd
   cases hd
   have:∃t,v= .int j t:=by
    have hv':=hv s.heap
    cases hv'
    exact⟨_,rfl⟩
   obtain⟨t',rfl⟩:=this
   exact h _ f _ (.refl f) (S.tok _) (by rw[e]; exact⟨t',rfl⟩)
 ·rw[rE] at hn
  cases e:tokOf x with
  |some j=>rw[e] at hn; exact nomatch hn
  |none=>exact h _ f _ (.refl f) (S.tok _) (by rw[e]; exact h3)
end
noncomputable def bR(t:List Nat):Nat:=if(tokOf (t.take 3)).isSome then 3 else if(tokOf (t.take 2)).isSome then 2 else 1
noncomputable def jI(c:Nat):Int:=Txt.find (aS bU) (aS [c])
noncomputable def eL(t:List Nat):Int:=(tokOf (t.take (bR t))).getD (256+jI (t.headD 0))
noncomputable def itemOf(i:Int):D:=if i<256 then .int i else .str (aS [bU.getD (i-256).toNat 0])
noncomputable def dC:Nat->List Nat->List (List D)->List D->List (List D)
 | 0,_,dn,last=>dn++[last]
 |n+1,t,dn,last=>if t=[] then dn++[last] else if eL t=13 then dC n (t.drop (bR t)) (dn++[last]) [] else dC n (t.drop (bR t)) dn (last++[itemOf (eL t)])
noncomputable def readOf(t:List Nat):List (List D):=dC (t.length+1) t [] []
theorem AJ:∀c∈gC,-1<=jI c/\jI c<8:=by
 have key:∀c∈gC,(decide (-1<=jI c)&&decide (jI c<8))=true:=by
  intro c hc
  simp only[gC,au,bo,or_false] at hc
  rcases hc with rfl|rfl|rfl|rfl|rfl|rfl|rfl|rfl|rfl|rfl|rfl|rfl<;>kernel_rfl
 intro c hc
 have:=key c hc
 simpa using this
theorem C4:∀p∈rD,(7:Int)<=p.2/\p.2<256:=by decide
theorem yU{x:List Nat}{i:Int}(h:tokOf x=some i):7<=i/\i<256:=by
 unfold tokOf at h
 have key:∀(l:List (List Nat×Int)),l.lookup x=some i->(x,i)∈l:=by
  intro l
  induction l with
  |nil=>intro h; exact nomatch h
  |cons p l ih=>
   intro h
   rw[eG] at h
   cases e:x==p.1 with
   |true=>rw[e] at h; cases h; exact(by have:=eq_of_beq e; subst this; exact cw)
   |false=>rw[e] at h; exact .tail _ (ih h)
 exact C4 _ (key _ h)
theorem yV{t:List Nat}(ht:∀c∈t,c∈gC)(ea:t≠[]):7<=eL t/\eL t<264:=by
 unfold eL
 cases e:tokOf (t.take (bR t)) with
 |some i=>have:=yU e; exact⟨this.1,by show i<264; exact eI 0x18413002c220c30980161 tt this.2⟩
 |none=>
  have h:t.headD 0∈t:=by cases t with|nil=>exact absurd rfl ea|cons c r=>exact .head _
  have:=AJ _ (ht _ h)
  show 7<=256+jI (t.headD 0)/\256+jI (t.headD 0)<264
  exact Sb this
section
variable {W:Wd}{C:Cx}{ρ a9 bD bZ:Ro}{names:List (Str×aC)}{Q:Out->Prop}{f o:Fz}{s:Shared}
theorem LstIs.off{f o o':Fz}{a:Addr}{ds:List D}(h:LstIs f o a ds)(hk:∀y,o a=some y->o' a=some y):LstIs f o' a ds:=by
 obtain⟨ob,us,n,e1,r,y1,y2⟩:=h; exact⟨ob,us,n,hk _ e1,r,y1,y2⟩
noncomputable def gT(l m:Addr)(dn last:List D):Res where
 v:= .ref l
 as:=[l,m]
 P:=λf o=>l≠m/\LstIs f o l (dn++[.raw (.ref m)])/\LstIs f o m last
 mono:=λf f' o o' h ho ⟨a,b,c⟩=>⟨a,(b.off (ho _ (by simp))).mono h (.refl o'),(c.off (ho _ (by simp))).mono h (.refl o')⟩
 there:=λf o ⟨_,b,c⟩ a ha=>by
  rcases au.mp ha with rfl|ha
  ·exact(eJ _ _).there f o b _ (.head _)
  ·rcases aA.mp ha with rfl
   exact(eJ _ _).there f o c _ (.head _)
noncomputable def rF(l m m':Addr)(dn last:List D):Res where
 v:= .ref l
 as:=[l,m,m']
 P:=λf o=>l≠m/\l≠m'/\m≠m'/\LstIs f o l (dn++[.raw (.ref m)]++[.raw (.ref m')])/\LstIs f o m last/\LstIs f o m' []
 mono:=λf f' o o' h ho ⟨a,a2,a3,b,c,d⟩=>⟨a,a2,a3,(b.off (ho _ (by simp))).mono h (.refl o'),(c.off (ho _ (by simp))).mono h (.refl o'),(d.off (ho _ (by simp))).mono h (.refl o')⟩
 there:=λf o ⟨_,_,_,b,c,d⟩ a ha=>by
  rcases au.mp ha with rfl|ha
  ·exact(eJ _ _).there f o b _ (.head _)
  ·rcases au.mp ha with rfl|ha
   ·exact(eJ _ _).there f o c _ (.head _)
   ·rcases aA.mp ha with rfl
    exact(eJ _ _).there f o d _ (.head _)
theorem fQ.BZ{ss:List Stmt}{x:Str}{a:Addr}{r r':Res}(hm:(x,Bd.res true r)∈ρ)(ha:a∈r.as)(hv:r'.v=r.v)(has:∀b∈r'.as,b∈r.as)(hd:∀f o ob,r.P f o->o a=some ob->f.le (f.put a ob)->r'.P (f.put a ob) (o.del a))(aU:Ro.Set x (.res true r') ρ a9)(h:fQ W C a9 ss Q):fQ W C ρ ss Q:=h.ghost λf o s S H=>by
 obtain⟨vo,hvv,ev,hP⟩:=H.vars _ _ hm
 obtain⟨ob,e1⟩:=r.there _ _ hP a ha
 have lf:=Fz.bP (o:=ob) (S.fw e1)
 have slot:∀b,Slots C ρ b->b≠a:=λb hs hb=>H.sep _ _ _ hm a ha (hb▸hs)
 have del:∀b y,o b=some y->b≠a->o.del a b=some y:=λb y e hb=>by unfold Fz.del; rw[if_neg hb]; exact e
 refine⟨f.put a ob,o.del a,lf,S.freeze e1,⟨H.ok,?_,λn b hn=>?_,by rw[aU.keys]; exact H.nd,λn u q hn a' Hf hs=>?_,λn n' u u' q q' h1 h2 ea a' Hf hb=>?_⟩,λb y e hn=>del b y e λq=>hn (.inr (.inr ⟨_,_,hm,q▸ha⟩)),λa' h=> .inl ?_,λa' h=> .inl ?_⟩
 ·obtain⟨ob',es,ep,e,t,y1⟩:=H.ns; exact⟨ob',es,ep,del _ _ e (slot _ (.inl rfl)),t,y1⟩
 ·have var:∀vo,n∈ρ.map (·.1)->kI C o n vo->kI C (o.del a) n vo:=λvo qm hv=>by
   rcases hv with⟨k,ob,es,ep,e1,e2,y1,y2⟩|⟨k,c,ob,e1,e2,e3⟩
   ·exact .inl ⟨k,ob,es,ep,del _ _ e1 (slot _ (.inl rfl)),e2,y1,y2⟩
   ·exact .inr ⟨k,c,ob,e1,del _ _ e2 (slot _ (.inr ⟨n,qm,k,e1⟩)),e3⟩
  rcases aU.mem H.nd hn with⟨rfl,rfl⟩|⟨ea,pM⟩
  ·exact⟨vo,var vo (fZ hm) hvv,by rw[hv]; exact ev,hd f o ob hP e1 lf⟩
  ·obtain⟨vo,h1,h2⟩:=H.vars _ _ pM
   refine⟨vo,var vo (fZ pM) h1,?_⟩
   cases b with
   |unset=>trivial
   |val d=>obtain⟨v,e,hd⟩:=h2; exact⟨v,e,hd.mono lf⟩
   |res u q=>exact⟨h2.1,q.mono _ _ _ _ lf (λb hb y e=>del b y e λhr=>H.two _ _ _ _ _ _ pM hm ea b hb (hr▸ha)) h2.2⟩
 ·rcases aU.mem H.nd hn with⟨_,e⟩|⟨_,pM⟩
  ·cases e; exact H.sep _ _ _ hm a' (has a' Hf) ((Slots.set aU).mp hs)
  ·exact H.sep _ _ _ pM a' Hf ((Slots.set aU).mp hs)
 ·rcases aU.mem H.nd h1 with⟨rfl,e⟩|⟨n1,h1⟩
  ·cases e
   rcases aU.mem H.nd h2 with⟨rfl,e⟩|⟨n2,h2⟩
   ·exact ea rfl
   ·exact H.two _ _ _ _ _ _ hm h2 ea a' (has a' Hf) hb
  ·rcases aU.mem H.nd h2 with⟨rfl,e⟩|⟨n2,h2⟩
   ·cases e; exact H.two _ _ _ _ _ _ h1 hm ea a' Hf (has a' hb)
   ·exact H.two _ _ _ _ _ _ h1 h2 ea a' Hf hb
 ·rcases h with e|⟨n,h1,h2,h3⟩|⟨n,q,h1,h2⟩
  ·exact .inl e
  ·exact .inr (.inl ⟨n,h1,aU.keys▸h2,h3⟩)
  ·rcases aU.mem H.nd h1 with⟨rfl,e⟩|⟨_,h1⟩
   ·cases e; exact .inr (.inr ⟨_,_,hm,has a' h2⟩)
   ·exact .inr (.inr ⟨_,_,h1,h2⟩)
 ·exact Uses.of aU.keys (rj aU hm has) h
theorem fQ.Iz{ob e:Expr}{a:Addr}{p2 p3 pos:Pos}{rest:List Stmt}{X:D->Res->Prop}{ds:List D}{x:Str}{r:Res}(CQ:eg W C ρ ob (.raw (.ref a)))(he:zA W C ρ e X)(hm:(x,Bd.res true r)∈ρ)(Lb:∀f o,r.P f o->LstIs f o a ds)(fC:ds.length<=16777216)
 (ha:a∈r.as) (h:∀d q,X d q->∃r' a9,Ro.Set x (.res true r') ρ a9/\r'.v=r.v/\(∀b∈r'.as,b∈r.as\/b∈q.as)/\
  (∀f o o',r.P f o->q.P f o->(∀b∈r.as,b∉q.as)->LstIs f o' a (ds++[d])->(∀b y,o b=some y->b≠a->o' b=some y)->r'.P f o')/\fQ W C a9 rest Q)
 (hb:bx ob "append" C.env (eval ob C.env)=eval ob C.env) (pf:aI [e] C.env=[(false,eval e C.env)]) (hl:(p2.endLine==p3.line)=true) (hi:interactive C.env=false)
 (hs:gk (.Call (.Attribute ob "append" p2) [e] [] p3) aD pos.line C.env=pure false):fQ W C ρ (.Expr (.Call (.Attribute ob "append" p2) [e] [] p3) pos::rest) Q:=
 .cons λf o s S H P E W6=>rM (rR CQ hb (by rw[pf]; rfl) hl S H (λf' l=>Lb _ _ (held hm f' o (H.mono l (.refl o)))) λf1 s1 l1 S1=>by
  have Qy:r.P f1 o:=held hm f1 o (H.mono l1 (.refl o))
  rw[pf]
  refine dP (he f1 o s1 S1 (H.mono l1 (.refl o)) _ _ λv d q f2 o2 s2 hX l2 lo S2 d2 hq hn=>d9 ⟨S2.bT,?_⟩)
  obtain⟨r',a9,aU,hv,has,hP,ir⟩:=h d q hX
  have Lc:r.P f2 o2:=r.mono _ _ _ _ (.refl f2) (λa _=>lo a) (held hm f2 o (H.mono (l1.trans l2) (.refl o)))
  have haq:∀b∈r.as,b∉q.as:=λb hb hbq=>by obtain⟨y,e⟩:=r.there _ _ Qy b hb; exact iC (hn b hbq) e
  refine wY S2 (Lb _ _ Lc) d2 fC λo' s' S' l' k'=>W6 (.next a9) _ _ ir ⟨rfl,f2,o',?_⟩
  exact Left.change H hm aU hv (λb hb=>(has b hb).imp id (hn b)) (l1.trans l2) S' (hP _ _ _ Lc hq haq l' k') λb y e hb=>k' b y (lo _ _ e) λq=>hb (q▸ha)) hi hs
theorem Pf{p1 p2:Pos}:VX W C ρ (.List [.List [] p1] p2) (λd r=>∃l m,d= .raw (.ref l)/\r=gT l m [] []):=vx λf o s S H Q E h=>by
 have he:aI [Expr.List [] p1] C.env=[(false,eval (Expr.List [] p1) C.env)]:=rfl
 refine List_ ?_
 rw[he]
 refine dP ((VX.un (sj a0)) f o s S H _ _ λv d r f1 o1 s1 hx l1 lo1 S1 dv hP hn=>d9 ?_)
 obtain⟨m,rfl,rfl⟩:=hx
 obtain rfl:v= .ref m:=dv
 refine vP S1 (ds:=[.raw (.ref m)]) (.cons rfl .nil) (by simp) λl o2 s2 G9 hl S2 L2=>?_
 have X7:l≠m:=λe=>by
  obtain⟨y,hy⟩:=(eJ m []).there f1 o1 hP m (.head _)
  subst e; exact iC hl hy
 refine h _ _ (gT l m [] []) f1 o2 s2 ⟨l,m,rfl,rfl⟩ l1 (lo1.trans G9) S2 rfl ⟨X7,L2,(eJ m []).mono _ _ _ _ (.refl f1) (λa _ y e=>G9 a y e) hP⟩ λb hb=>?_
 rcases au.mp hb with rfl|hb
 ·refine none_of λy q=>?_
  rw[lo1 _ _ q] at hl; exact nomatch hl
 ·exact hn b hb
theorem Pg{test:Expr}{body rest:List Stmt}{pos:Pos}(I:Nat->Ro->Prop)(n:Nat)(h0:I n ρ)(h:∀n ρ,I n ρ->∃b,VB W C ρ test b/\(b=true->VS W C ρ body λ| .next a9=>∃m,n=m+1/\I m a9| .cont a9=>∃m,n=m+1/\I m a9|_=>False)/\(b=false->VS W C ρ rest Q)):VS W C ρ (.While test body [] pos::rest) Q:=by
 refine vs (.whl (n+1) ?_)
 have key:∀n ρ,I n ρ->CO W C test body (Ai W C rest Q) (n+1) ρ:=by
  intro n
  induction n with
  |zero=>
   intro ρ hI
   obtain⟨b,h1,h2,h3⟩:=h 0 ρ hI
   refine⟨b,h1.un,λhb=>(h2 hb).un.mono λout q=>?_,λhb=>(h3 hb).un⟩
   cases out with
   |next a9=>obtain⟨m,e,_⟩:=q; exact nomatch e
   |cont a9=>obtain⟨m,e,_⟩:=q; exact nomatch e
   |brk a9=>exact q.elim
   |ret d=>exact q.elim
  |succ n ih=>
   intro ρ hI
   obtain⟨b,h1,h2,h3⟩:=h (n+1) ρ hI
   refine⟨b,h1.un,λhb=>(h2 hb).un.mono λout q=>?_,λhb=>(h3 hb).un⟩
   cases out with
   |next a9=>obtain⟨m,e,hm⟩:=q; cases e; exact ih _ hm
   |cont a9=>obtain⟨m,e,hm⟩:=q; cases e; exact ih _ hm
   |brk a9=>exact q.elim
   |ret d=>exact q.elim
 exact key n ρ h0
theorem qC(X:cH W):cK W (J "ISTERMINAL") (.ref 162):=X.glob (by kernel_rfl)
theorem su(X:cH W):cK W (J "ISNONTERMINAL") (.ref 169):=X.glob (by kernel_rfl)
theorem LstIs.seal{f o:Fz}{l m:Addr}{ob:Obj}{dn rest last:List D}(hl:LstIs f o l (dn++[.raw (.ref m)]++rest))(hm:LstIs f o m last)(ho:o m=some ob)(lf:f.le (f.put m ob))(X7:l≠m):LstIs (f.put m ob) (o.del m) l (dn++[.list last]++rest):=by
 obtain⟨obl,us,n,e1,e2,e3,e4⟩:=hl
 obtain⟨ob',Z9,n',g1,g2,g3,g4⟩:=hm
 rw[ho] at g1
 obtain rfl:ob=ob':=cg g1
 refine⟨obl,us,n,by unfold Fz.del; rw[if_neg X7]; exact e1,e2,e3,?_⟩
 obtain⟨X8,v3,rfl,NF,h3⟩:=bQ.of_append e4
 obtain⟨v1,v2,rfl,h1,h2⟩:=bQ.of_append NF
 obtain⟨v,r,rfl,hv,hr⟩:=h2
 obtain rfl:r=[]:=hr
 obtain rfl:v= .ref m:=hv
 exact((h1.mono lf).append (bQ.cons (d:= .list last) ⟨m,ob,Z9,n',rfl,Fz.aJ ..,g2,g3,g4.mono lf⟩ .nil)).append (h3.mono lf)
theorem vz{t:List Nat}{a:Nat}(h:¬a<t.length):t.drop a=[]:=CD.mpr (by exact Sd h)
theorem vA(u:List Nat):0<bR u/\bR u<=3:=by
 unfold bR; split
 ·decide
 ·split<;>decide
noncomputable def readBody(K:Frag):List Stmt:=match(cj K 344).drop 1 with
 | .While _ b _ _::_=>b
 |_=>[]
inductive IA(t:List Nat)(l:Addr)(n:Nat)(ρ:Ro):Prop
 |mk (a:Nat) (dn:List (List D)) (last:List D) (m:Addr) (b1 b2:Bd) (h1:t.length-a<=n) (h2:a+3*n<=5000) (h3:dn.length+last.length<=a) (h4:readOf t=dC (n+1) (t.drop a) dn last) (h5:ρ=([("text", .val (.str (aS t))),("rows", .res true (gT l m (dn.map .list) last)),("at", .val (.int a)),("size",b1),("symbol",b2)]:Ro)):IA t l n ρ
theorem Ph(X:cH W){A:Around}(lv:Lv 3 A){t:List Nat}(ht:∀c∈t,c∈gC)(hl:t.length<=1000):iK W A (.ref 344) [.str (aS t)] (.list ((readOf t).map .list)):=by
 obtain⟨tk,gnt⟩:=t8 X
 refine X.fn 344 (n:=2) (ps:=["text"]) (ρ:=[("text", .val (.str (aS t))),("rows", .unset),("at", .unset),("size", .unset),("symbol", .unset)])
  (names:=[(J "text",aq),(J "rows",ae),(J "at",aq),(J "size",ae),(J "symbol",ae),(J "len",ag),(J "max",ag),(J "EXACT_TOKEN_TYPES",ag),(J "NT_OFFSET",ag),(J "ISTERMINAL",ag),(J "ISNONTERMINAL",ag)])
  lv ⟨_,rfl,rfl⟩ rfl (by kernel_rfl) rfl rfl (by kernel_rfl) rfl rfl rfl rfl rfl (by kernel_rfl) (by kernel_rfl) (As λa=>by kernel_rfl) ?_ (λC O lv hN sD=>?_)
 ·show kl [(_,_)] _ _
  exact ra
 ·have K:CK C _:=⟨O,lv.hand,hN⟩
  have X9:=lv.le (m:=1) (by(first|lia|omega))
  refine Ih (EY Pf num) ?_ rfl (jU K (.inr ik))
  rintro d r ⟨d1,rfl,l,m,rfl,rfl⟩
  refine⟨"rows",[("text", .val (.str (aS t))),("rows", .val (.raw (.ref l))),("at", .val (.int 0)),("size", .unset),("symbol", .unset)],[("text", .val (.str (aS t))),("rows", .res true (gT l m [] [])),("at", .val (.int 0)),("size", .unset),("symbol", .unset)],
   iW K (cx K) (cx K), .tail _ (.head _),kD,?_⟩
  refine Pg (IA t l) t.length
   ⟨0,[],[],m,_,_,by exact Se,by exact aN 0x7ec480308678c48038ce01 tt hl,by simp,rfl,rfl⟩ ?_
  rintro n ρ ⟨a,dn,last,m,b1,b2,h1,h5,h4,h2,rfl⟩
  refine⟨decide (a<t.length), .eq (kR K (nm K) (bS (gl K (jV X)) .builtin (a1 (nm K)) (tG (by rw[eT]; exact aN 0x3f6240085f495212a0201 tt hl))) BD) ?_,λhb=>?_,λhb=>?_⟩
  ·rw[eT]; simp
  ·have ha:a<t.length:=of_decide_eq_true hb
   obtain⟨u,hu⟩:∃u,u=t.drop a:=⟨_,rfl⟩
   have L8:u≠[]:=λe=>by
    have:=congrArg i9 (hu.symm.trans e)
    rw[sS] at this; simp at this; exact Sf ha this
   have Pj:∀c∈u,c∈gC:=λc hc=>ht c (Ho a t (hu▸hc))
   have fC:=vA u
   have hsy:=yV Pj L8
   have Pk:t[a]? =some (u.headD 0):=by
    rw[hu]
    have:(t.drop a)[0]? =t[a]? :=by rw[D2]; rfl
    rw[<-this]
    cases e:t.drop a with
    |nil=>exact absurd (hu.trans e) L8
    |cons c r=>rfl
   refine let1 (d:= .int (bR u)) (.eq (bS (gl K (lC X)) .builtin (a1 (VE.eq (bin K (lst (a1 num)) (dY (eX:=[(".0", .unset),("k", .unset),("at", .val (.int a)),("text", .val (.str (aS t)))]) (out:=(([2,3]:List Nat).filter λk=>(tokOf (u.take k)).isSome).map λ(k:Nat)=>D.int k) K (jF K (tup (ac num (a1 num))) HG) (λC' K' e=>?_) ku ?_) (qr ?_)) (d':= .list ((1::(([2,3]:List Nat).filter λk=>(tokOf (u.take k)).isSome).map λ(k:Nat)=>(k:Int)).map D.int)) ?_)) (oq K.hand (by exact nofun))) ?_) (cx K) ?_
   ·refine sr ([2,3]:List Nat) (λ(k:Nat)=>D.int k) (λk=>(tokOf (u.take k)).isSome) (λ(k:Nat)=>D.int k) (λ(k:Nat)=>[(".0", .unset),("k", .val (.int k)),("at", .val (.int a)),("text", .val (.str (aS t)))]) (λk hk=>cx K') (λk hk=>?_) (λk hk _=>nm K') λk hk=>jT
    refine kR K' (VE.eq (BS (a:=a) (b:=a+k) (x:=t) (nm K') (p1 (nm K')) (p1 (VE.eq (bin K' (nm K') (nm K') cV) (by exact rfl))) (by exact aN 0xfd8900217d25484801 tt hl) (λ_ _=>rfl)) ?_) (gl K' (J4 X)) (Fi X)
    rw[hu,zJ]
   ·rw[ai]; exact aP (ba _ _) (by decide)
   ·rw[ai]
    have:=ba (λk=>(tokOf (u.take k)).isSome) ([2,3]:List Nat)
    simp only[aQ,fg] at this ⊢; exact aN 0xa5270800217d254848149c201 tt this
   ·show D.list ([D.int 1]++_)=D.list (D.int 1::_)
    rw[aM]; rfl
   ·show D.int _=D.int _
    congr 1
    unfold bR
    rw[eH,eH,List.filter_nil]
    cases(tokOf (u.take 2)).isSome<;>cases(tokOf (u.take 3)).isSome<;>rfl
   ·refine let1 (d:= .int (eL u)) (VE.eq (gh (gl K (J4 X)) (Fj X) .builtin (ac (VE.eq (BS (a:=a) (b:=a+bR u) (x:=t) (nm K) (p1 (nm K)) (p1 (VE.eq (bin K (nm K) (nm K) cV) (by exact rfl))) (by exact aN 0xfd8900217d25484801 tt hl) (λ_ _=>rfl)) (d':= .str (aS (u.take (bR u)))) ?_)
     (a1 (bin K (ofRaw (d:= .int 256) (gl K gnt) λf=>⟨tk,rfl⟩) (gh (st bU) (iu PySem.F.slot_str_find PySem.F.type_str_find) .builtin (a1 (dB (T:= "str") (da:= .str (aS t)) (di:= .int a) K (nm K) (nm K) fL (iU Pk (by exact aN 0x3f6240085f495212a0201 tt hl)))) (EC (i:=jI (u.headD 0)) rfl)) cV))) (AI X)) ?_) (cx K) ?_
    ·rw[hu,zJ]
    ·rfl
    ·have hI:∀f o,bc C ([("text", .val (.str (aS t))),("rows", .res true (gT l m (dn.map .list) last)),("at", .val (.int a)),("size", .val (.int (bR u))),("symbol", .val (.int (eL u)))]:Ro) f o->(gT l m (dn.map .list) last).P f o:=λf o H=>held (x:=J "rows") (w:=true) (r:=gT l m (dn.map .list) last) ik f o H
     obtain⟨n,rfl⟩:∃k,n=k+1:=⟨n-1,by exact Sh h1 ha⟩
     have B0:readOf t=if eL u=13 then dC (n+1) (t.drop (a+bR u)) (dn++[last]) [] else dC (n+1) (t.drop (a+bR u)) dn (last++[itemOf (eL u)]):=by
      rw[h2,<-hu,dC,if_neg L8,hu,KH]
     have adv:∀{ρ:Ro} {Pl:List (List D)} {yW:List D} {m':Addr},readOf t=dC (n+1) (t.drop (a+bR u)) Pl yW->Pl.length+yW.length<=a+1->
      ρ=([("text", .val (.str (aS t))),("rows", .res true (gT l m' (Pl.map .list) yW)),("at", .val (.int a)),("size", .val (.int (bR u))),("symbol", .val (.int (eL u)))]:Ro)->
      VS W C ρ ((readBody (KK W)).drop 3) λ| .next a9=>∃k,n+1=k+1/\IA t l k a9| .cont a9=>∃k,n+1=k+1/\IA t l k a9|_=>False:=by
      rintro ρ Pl yW m' g1 g2 rfl
      refine let1 (d:= .int ((a+bR u:Nat):Int)) (VE.eq (bin K (nm K) (nm K) cV) (by exact rfl)) (cx K) (dj ?_)
      exact⟨n,rfl,a+bR u,Pl,yW,m',_,_,by exact Si ha fC h1,by exact cG 0x678c4a8280e2180436004219e31210e200c201 tt fC.2 h5,by exact hO 0x141c04180420a4e010807010601 tt fC.1 g2,g1,rfl⟩
     refine jx (kR K (nm K) num ia) (λh=>?_) λh=>?_
     ·have JI:eL u=13:=of_decide_eq_true h
      rw[if_pos JI] at B0
      refine vs (.Iz (a:=l) (x:= "rows") (r:=gT l m (dn.map .list) last) (ds:=dn.map D.list++[.raw (.ref m)]) (X:=tA []) (VE.un (QI K (r:=gT l m (dn.map .list) last) ik)) (VX.un (sj a0)) ik (λf o h=>h.2.1) (by simp; exact hO 0x5070084620c0211fb120042fffffffc821 tt hl h4 ha) (.head _) (λd q hq=>?_) rfl rfl (by decide) K.inter rfl)
      obtain⟨m',rfl,rfl⟩:=hq
      refine⟨rF l m m' (dn.map .list) last,[("text", .val (.str (aS t))),("rows", .res true (rF l m m' (dn.map .list) last)),("at", .val (.int a)),("size", .val (.int (bR u))),("symbol", .val (.int (eL u)))],kD,rfl,λb hb=>?_,λf o o' p1 p2 p3 p4 p5=>?_,?_⟩
      ·simp only[rF,gT,eJ,au,bo,or_false] at hb ⊢; rcases hb with rfl|rfl|rfl<;>simp
      ·have Pm:l≠m':=λe=>p3 l (by simp[gT]) (by simp[eJ,e])
       have Yb:m≠m':=λe=>p3 m (by simp[gT]) (by simp[eJ,e])
       exact⟨p1.1,Pm,Yb,p4,p1.2.2.off λy e=>p5 _ _ e (Ne.symm p1.1),LstIs.off (f:=f) (o:=o) (ds:=[]) p2 λy e=>p5 _ _ e (Ne.symm Pm)⟩
      ·refine VS.un (vs (.BZ (a:=m) (x:= "rows") (r:=rF l m m' (dn.map .list) last) (r':=gT l m' ((dn++[last]).map .list) []) (a9:=[("text", .val (.str (aS t))),("rows", .res true (gT l m' ((dn++[last]).map .list) [])),("at", .val (.int a)),("size", .val (.int (bR u))),("symbol", .val (.int (eL u)))]) ik (by simp[rF]) rfl (λb hb=>?_) (λf o ob p e lf=>?_) kD (VS.un (dj ?_))))
       ·simp only[rF,gT,au,bo,or_false] at hb ⊢; rcases hb with rfl|rfl<;>simp
       ·obtain⟨q1,q2,q3,q4,q5,q6⟩:=p
        refine⟨q2,?_,?_⟩
        ·rw[fV]
         exact q4.seal q5 e lf q1
        ·refine LstIs.off (o:=o) (q6.mono lf (.refl o)) λy e=>?_
         unfold Fz.del; rw[if_neg (Ne.symm q3)]; exact e
       ·exact adv B0 (by simp; exact cG 2233920948225 tt h4) rfl
     ·have JI:¬eL u=13:=of_decide_eq_false h
      rw[if_neg JI] at B0
      have hsy':(eL u<256)=¬(256<=eL u):=by rw[ja]
      refine jx (b:=true) (kR K (bS (gl K (qC X)) (X.kept (by kernel_rfl)) (a1 (nm K)) (Oy X X9).un) (bS (gl K (su X)) (X.kept (by kernel_rfl)) (a1 (nm K)) (XD X X9).un) (yw (n:=0) .bool ?_ (by simp[*]))) (λ_=>?_) λe=>by cases e
      ·simp only[true_iff,ne_eq,D.bool.injEq,decide_eq_decide]
       exact Sj
      ·refine vs (.append (a:=m) (x:= "rows") (r:=gT l m (dn.map .list) last) (r':=gT l m (dn.map .list) (last++[itemOf (eL u)])) (ds:=last) (d:=itemOf (eL u))
        (VE.un (yH K (a:=l) (ds:=dn.map D.list++[.raw (.ref m)]) (di:= .int (-1)) (d:= .raw (.ref m)) (λf o H=>(hI f o H).2.1.Ha) (QI K (r:=gT l m (dn.map .list) last) ik) (neg K num w8) (vU (k:=1) rfl (by(first|lia|omega)) (by simp) (by(first|lia|omega)) (by simp))))
        (VE.un (vu (Aw K (bS (gl K (qC X)) (X.kept (by kernel_rfl)) (a1 (nm K)) (Oy X X9).un) gA) (λh=> .eq (nm K) ?_) λh=> .eq (dB (T:= "str") (da:= .str (aS bU)) (di:= .int ((eL u-256).toNat:Nat)) K (st bU) (VE.eq (bin K (nm K) (ofRaw (d:= .int 256) (gl K gnt) λf=>⟨tk,rfl⟩) gH) ?_) fL (iU (c:=bU.getD (eL u-256).toNat 0) ?_ (by decide))) ?_))
        ik (λf o h=>h.2.2) (by exact hO 0xa0e0108c4180423f6240084308421084841 tt hl h4 ha) (a9:=[("text", .val (.str (aS t))),("rows", .res true (gT l m (dn.map .list) (last++[itemOf (eL u)]))),("at", .val (.int a)),("size", .val (.int (bR u))),("symbol", .val (.int (eL u)))]) kD rfl rfl (by simp[gT]) (λf o o' p1 p2 p3=>⟨p1.1,p1.2.1.off λy e=>p3 _ _ e p1.1,p2⟩) (VS.un (dj ?_)) rfl rfl (by decide) K.inter rfl)
       ·have h':eL u<256:=of_decide_eq_true h
        unfold itemOf; rw[if_pos h']
       ·have h':¬eL u<256:=of_decide_eq_false h
        congr 1; exact Sk hsy h'
       ·have h':¬eL u<256:=of_decide_eq_false h
        have kk:(eL u-256).toNat<bU.length:=by show _<8; exact Sl hsy h'
        rw[ak,aj kk]; rfl
       ·have h':¬eL u<256:=of_decide_eq_false h
        unfold itemOf; rw[if_neg h']
       ·refine dj ?_
        exact adv B0 (by simp; exact cG 0x820804341428180201 tt h4) rfl
  ·have ha:¬a<t.length:=of_decide_eq_false hb
   have L9:readOf t=dn++[last]:=by rw[h2,vz ha,dC,if_pos rfl]
   refine vs (.BZ (a:=m) (x:= "rows") (r:=gT l m (dn.map .list) last) (r':=eJ l ((dn++[last]).map .list)) (a9:=[("text", .val (.str (aS t))),("rows", .res true (eJ l ((dn++[last]).map .list))),("at", .val (.int a)),("size",b1),("symbol",b2)]) ik (by simp[gT]) rfl (λb hb=>?_) (λf o ob p e lf=>?_) kD (VS.un ?_))
   ·simp only[gT,eJ,au,bo,or_false] at hb ⊢; exact .inl hb
   ·obtain⟨q1,q2,q3⟩:=p
    have:=LstIs.seal (rest:=[]) (by rw[gU]; exact q2) q3 e lf q1
    rw[gU] at this
    show LstIs _ _ l ((dn++[last]).map D.list)
    rw[fV]; exact this
   ·refine tZ (x:= "rows") (a:=l) (ds:=(dn++[last]).map .list) ik kD ?_
    refine j8 (nm K) ?_
    show D.list _=D.list _
    rw[L9]
end
structure Hd where
 a:Nat
 eq:Bool
 b:Nat
structure Hd.Ok(h:Hd):Prop where
 a:h.a∈bU
 b:h.b∈bU
noncomputable def Hd.txt(h:Hd):List Nat:=(if h.eq then[61,61] else[60])++[h.b]
noncomputable def Hd.pr(h:Hd):List Nat×List Nat:=([h.a],h.txt)
noncomputable def small:List Nat:=[97,98,99,100]
noncomputable def nextOf(hs:List Hd)(p:Nat×Bool):List (Nat×Bool):=(hs.filter λh=>decide (lo1 h.a=p.1)).map λh=>(lo1 h.b,p.2|| !h.eq)
noncomputable def j9(fs xs:List (Nat×Bool)):List (Nat×Bool):=xs.foldl (λfs x=>if x∈fs then fs else fs++[x]) fs
noncomputable def fN(hs:List Hd):Nat->Nat->List (Nat×Bool)->List (Nat×Bool)
 | 0,_,fs=>fs
 |n+1,i,fs=>match fs[i]? with
  |aD=>fs
  |some p=>fN hs n (i+1) (j9 fs (nextOf hs p))
noncomputable def iv(hs:List Hd)(c:Nat):List (Nat×Bool):=fN hs 8 0 [(c,false)]
theorem C5:∀c∈bU,lo1 c∈small:=by decide
theorem Fl:∀c∈small,gw true c=true/\(∀d∈bU,([d].map lo1=[up1 c].map lo1↔lo1 d=c))/\gw true (up1 c)=true:=by decide
theorem kB:∀c∈bU,gw true c=true/\gw false c=true:=by decide
theorem Hd.Ok.hd{h:Hd}(x:h.Ok):vv h.pr:=by
 refine⟨?_,?_,by simp[Hd.pr],?_⟩
 ·show clean true [h.a]=true
  unfold clean; rw[de,(kB _ x.a).1]; rfl
 ·show clean false ((if h.eq then[61,61] else[60])++[h.b])=true
  unfold clean
  rw[kH,de,(kB _ x.b).2]
  split<;>rfl
 ·show((if h.eq then[61,61] else[60])++[h.b]).length<=1000
  split<;>simp
theorem Fm{h:Hd}(x:h.Ok):readOf h.txt=[[.int (if h.eq then 27 else 20), .str (aS [h.b])]]:=by
 obtain⟨a,e,b⟩:=h
 have hb:=x.b
 simp only[bU,au,bo,or_false] at hb
 cases e<;>rcases hb with h|h|h|h|h|h|h|h<;>(subst h; kernel_rfl)
theorem ug{α:Type}[DecidableEq α]:∀(l m:List α),l.Nodup->(∀x∈l,x∈m)->l.length<=m.length
 |[],m,_,_=>fD _
 |x::l,m,hn,hs=>by
  rw[fU] at hn
  have hx:=hs x (.head _)
  have:=ug l (m.erase x) hn.2 λy hy=>(List.mem_erase_of_ne (λe=>hn.1 (by rw[<-e]; exact hy))).mpr (hs y (.tail _ hy))
  rw[List.length_erase_of_mem hx] at this
  have:0<m.length:=n0 hx
  simp only[aQ]; exact Sm ‹_› this
noncomputable def J5:List (Nat×Bool):=small.flatMap λc=>[(c,false),(c,true)]
theorem J6{fs:List (Nat×Bool)}(hn:fs.Nodup)(h:∀p∈fs,p.1∈small):fs.length<=8:=by
 refine ug fs J5 hn λp hp=>?_
 have:=h p hp
 unfold J5
 rw[sQ]
 exact⟨p.1,this,by obtain⟨c,b⟩:=p; cases b<;>simp⟩
theorem IB{p q:Nat×Bool}(h:lP p=lP q):p=q:=by
 obtain⟨a,b⟩:=p; obtain⟨c,d⟩:=q
 unfold lP at h
 injection h with h
 injection h with h1 h2
 injection h2 with h2 _
 injection h1 with h1
 injection h2 with h2
 have:=qq h1
 simp_all
theorem IC{p:Nat×Bool}{fs:List (Nat×Bool)}:lP p∈fs.map lP↔p∈fs:=by
 constructor
 ·intro h
  obtain⟨q,hq,e⟩:=aw.mp h
  exact IB e▸hq
 ·exact λh=>aw.mpr ⟨p,h,rfl⟩
theorem yX(p q:Nat×Bool):gg 1 (lP p) (lP q):=w4 .str .bool
section
variable {W:Wd}{C:Cx}{ρ a9 bD bZ:Ro}{names:List (Str×aC)}{Q:Out->Prop}{f o:Fz}{s:Shared}
theorem Fn(X:cH W):cK W (J "_law_read") (.ref 344):=X.glob (by kernel_rfl)
theorem wq(X:cH W){d:D}:Meth W (.obj 313 [("_headers",d)]) (J "get_all") (.ref 252):=jH X (by kernel_rfl) (by kernel_rfl) (by kernel_rfl) (by kernel_rfl)
theorem Yc(K:CK C names){x y:Expr}{pos:Pos}{da db:D}{a:Bool}{d:D}(hx:VE W C ρ x da)(ha:KY W da a)(hy:a=false->VE W C ρ y db)(h1:a=true->d=da)(h2:a=false->d=db):VE W C ρ (.BoolOp .Or [x,y] pos) d:=ve (.or2 K.ok hx.un ha (λh=>(hy h).un) h1 h2)
inductive Pn(hs:List Hd)(c:Nat)(l:Addr)(n:Nat)(ρ:Ro):Prop
 |mk (a:Nat) (fs:List (Nat×Bool)) (b1 b2:Bd) (h1:a+n=8) (h2:a<=fs.length) (h3:fs.Nodup) (h4:(∀p∈fs,p.1∈small)) (h5:iv hs c=fN hs n a fs) (h6:ρ=([("table", .val (pO (hs.map Hd.pr))),("name", .val (.str (aS [c]))),("found", .res true (eJ l (fs.map lP))),("at", .val (.int a)),("steps",b1),("step",b2)]:Ro)):Pn hs c l n ρ
inductive Pp(hs:List Hd)(c:Nat)(l:Addr)(fs:List (Nat×Bool))(p:Nat×Bool)(a:Nat)(xs:List D)(ρ:Ro):Prop
 |mk (r:List (Nat×Bool)) (gs:List (Nat×Bool)) (b2:Bd) (h1:xs=r.map lP) (h2:(∀q∈r,q.1∈small)) (h3:gs.Nodup) (h4:(∀q∈gs,q.1∈small)) (h5:a+1<=gs.length) (h6:j9 fs (nextOf hs p)=j9 gs r) (h7:ρ=([("table", .val (pO (hs.map Hd.pr))),("name", .val (.str (aS [c]))),("found", .res true (eJ l (gs.map lP))),("at", .val (.int a)),("steps", .val (.list ((hs.filter λh=>decide (lo1 h.a=p.1)).map λh=>D.list [.int (if h.eq then 27 else 20), .str (aS [h.b])]))),("step",b2)]:Ro)):Pp hs c l fs p a xs ρ
theorem Yd(X:cH W){A:Around}(lv:Lv 5 A){hs:List Hd}{c:Nat}{out:List (Nat×Bool)}(ID:∀h∈hs,h.Ok)(hn:hs.length<=1000)(hc:c∈small)(ho:out.Perm (iv hs c))(Pq:out.Pairwise λa b=>a.1<b.1)(h4:(iv hs c).length<=4)(h1:1<=(iv hs c).length):
 iK W A (.ref 354) [pO (hs.map Hd.pr), .str (aS [c])] (.list (out.map lP)):=by
 have ng:∀p∈hs.map Hd.pr,vv p:=λp hp=>by obtain⟨h,hh,rfl⟩:=aw.mp hp; exact(ID h hh).hd
 refine X.fn 354 (n:=4) (ps:=["table","name"]) (ρ:=[("table", .val (pO (hs.map Hd.pr))),("name", .val (.str (aS [c]))),("found", .unset),("at", .unset),("steps", .unset),("step", .unset)])
  (names:=[(J "table",ae),(J "name",ae),(J "found",aq),(J "at",aq),(J "steps",ae),(J "step",ae),(J "len",ag),(J "sorted",ag)])
  lv ⟨_,rfl,rfl⟩ rfl (by kernel_rfl) rfl rfl (by kernel_rfl) rfl rfl rfl rfl rfl (by kernel_rfl) (by kernel_rfl) (tY λa b=>by kernel_rfl) ?_ (λC O lv hN sD=>?_)
 ·show kl [(_,_),(_,_)] _ _
  exact ra
 ·have K:CK C _:=⟨O,lv.hand,hN⟩
  refine Ih (EY (sj (ds:=[lP (c,false)]) (a1 (tup (ac (nm K) (a1 JS))))) num) ?_ rfl (jU K (.inl ik))
  rintro d r ⟨d1,rfl,l,rfl,rfl⟩
  refine⟨"found",[("table", .val (pO (hs.map Hd.pr))),("name", .val (.str (aS [c]))),("found", .val (.raw (.ref l))),("at", .val (.int 0)),("steps", .unset),("step", .unset)],[("table", .val (pO (hs.map Hd.pr))),("name", .val (.str (aS [c]))),("found", .res true (eJ l [lP (c,false)])),("at", .val (.int 0)),("steps", .unset),("step", .unset)],
   iW K (cx K) (cx K), .tail _ (.tail _ (.head _)),kD,?_⟩
  refine Pg (Pn hs c l) 8
   ⟨0,[(c,false)],_,_,rfl,by simp,by simp,λp hp=>by rcases aA.mp hp with rfl; exact hc,rfl,rfl⟩ ?_
  rintro n ρ ⟨a,fs,b1,b2,g1,g2,g3,g4,g5,rfl⟩
  have hI:∀f o,bc C ([("table", .val (pO (hs.map Hd.pr))),("name", .val (.str (aS [c]))),("found", .res true (eJ l (fs.map lP))),("at", .val (.int a)),("steps",b1),("step",b2)]:Ro) f o->lj f o l (fs.map lP):=λf o H=>(held (x:=J "found") (w:=true) (r:=eJ l (fs.map lP)) ik f o H).Ha
  have Pr:=J6 g3 g4
  refine⟨decide (a<fs.length), .eq (kR K (nm K) (rv hI (gl K (jV X)) .builtin (a1 (JR K)) (qo (by rw[ai]; exact aN 0x360085f495212a0201 tt Pr))) BD) (by simp),λhb=>?_,λhb=>?_⟩
  ·have ha:a<fs.length:=of_decide_eq_true hb
   obtain⟨p,hp⟩:∃p,fs[a]? =some p:=⟨fs[a],aj ha⟩
   have Lq:p∈fs:=bI hp
   have Ye:=g4 p Lq
   have Yg:=Fl _ Ye
   have C6:(fs.map lP)[a]? =some (lP p):=by rw[av,hp]; rfl
   obtain⟨n,rfl⟩:∃k,n=k+1:=⟨n-1,by exact Sn g1 Pr ha⟩
   have g5':iv hs c=fN hs n (a+1) (j9 fs (nextOf hs p)):=by rw[g5,fN,hp]
   have K3:allOf (hs.map Hd.pr) [up1 p.1]=(hs.filter λh=>decide (lo1 h.a=p.1)).map λh=>D.str (aS h.txt):=by
    unfold allOf
    rw[List.filter_map,aM]
    have:(hs.filter ((λq:List Nat×List Nat=>decide (q.1.map lo1=[up1 p.1].map lo1))∘Hd.pr))=hs.filter λh=>decide (lo1 h.a=p.1):=by
     refine mF λh hh=>?_
     simp only[lI,decide_eq_decide]
     exact Yg.2.1 _ (ID h hh).a
    rw[this]; rfl
   refine v8 (eX:=[(".0", .unset),("rest", .unset)]) (out:=(hs.filter λh=>decide (lo1 h.a=p.1)).map λh=>D.list [.int (if h.eq then 27 else 20), .str (aS [h.b])]) K
    (jF K (d:= .list (allOf (hs.map Hd.pr) [up1 p.1])) (gh (nm K) (wq X) (X.kept (by kernel_rfl)) (a1 (gh (dB (T:= "tuple") (da:=lP p) (di:= .int (0:Nat)) (d:= .str (aS [p.1])) K (yH K hI (JR K) (nm K) (tF C6 (by exact aX 0x3740c010085f495212a0201 tt (ah g1)))) num cu (fx rfl (by(first|lia|omega)))) (iu PySem.F.slot_str_upper PySem.F.type_str_upper) .builtin a0 (CV (x:=[p.1]) ?_ (by simp)))) (O6 X (lv.le (by(first|lia|omega))) ng (by rw[ai]; assumption) (x:=[up1 p.1]) ?_ (by simp)).un) bp) (λC' K' e=>?_) ku ?_ kD ?_
   ·exact rZ (b:=true) (by unfold clean; rw[de,Yg.1]; rfl)
   ·unfold clean; rw[de,Yg.2.2]; rfl
   ·rw[K3]
    refine gI (hs.filter λh=>decide (lo1 h.a=p.1)) (λh=> .str (aS h.txt)) (λh=>D.list [.int (if h.eq then 27 else 20), .str (aS [h.b])]) (λh=>[(".0", .unset),("rest", .val (.str (aS h.txt)))]) (λh hh=>?_) (λh hh=>?_) λh hh=>jT
    ·exact cx K'
    have QL:=ID h (bw.mp hh).1
    refine dB (T:= "list") (da:= .list ((readOf h.txt).map .list)) (di:= .int (0:Nat)) K' (bS (gl K' (Fn X)) (X.kept (by kernel_rfl)) (a1 (nm K')) (Ph X (by rw[e]; exact lv.le (by simp[*])) (λc hc=>?_) ?_).un) num aR (bY ?_ (by(first|lia|omega)))
    ·have hb:∀c∈bU,c∈gC:=by decide
     unfold Hd.txt at hc
     rcases bN.mp hc with hc|hc
     ·split at hc<;>simp only[au,bo,or_false,or_self] at hc<;>subst hc<;>decide
     ·rcases aA.mp hc with rfl; exact hb _ QL.b
    ·unfold Hd.txt; split<;>simp
    ·rw[Fm QL]; rfl
   ·rw[ai]; exact aP (ba _ _) (by exact aN 0xfd8900210e2da84801 tt hn)
   ·refine mR (xs:=(nextOf hs p).map lP) K (jF K (dY (eX:=[(".0", .unset),("sign", .unset),("other", .unset),("at", .val (.int a)),("found", .res false (eJ l (fs.map lP)))]) (out:=(nextOf hs p).map lP) K (jF K (nm K) bp) (λC' K' e=>?_) ku ?_) bp)
     (Pp hs c l fs p a) ⟨nextOf hs p,fs,_,rfl,?_,g3,g4,by assumption,rfl,rfl⟩ ?_ ?_
    ·unfold nextOf
     rw[aM]
     refine gI (hs.filter λh=>decide (lo1 h.a=p.1)) (λh=>D.list [.int (if h.eq then 27 else 20), .str (aS [h.b])]) _ (λh=>[(".0", .unset),("sign", .val (.int (if h.eq then 27 else 20))),("other", .val (.str (aS [h.b]))),("at", .val (.int a)),("found", .res false (eJ l (fs.map lP)))]) (λh hh=>?_) (λh hh=>?_) λh hh=>jT
     ·exact iW K' (cx K') (cx K') (.inr rfl)
     have QL:=ID h (bw.mp hh).1
     have hI':∀f o,bc C' ([(".0", .unset),("sign", .val (.int (if h.eq then 27 else 20))),("other", .val (.str (aS [h.b]))),("at", .val (.int a)),("found", .res false (eJ l (fs.map lP)))]:Ro) f o->lj f o l (fs.map lP):=λf o H=>(held (x:=J "found") (w:=false) (r:=eJ l (fs.map lP)) ik f o H).Ha
     refine .eq (tup (ds:=[.str (aS ([h.b].map lo1)), .bool (p.2|| !h.eq)]) (ac (rC K' (nm K') ?_ (by simp)) (a1 (Yc K' (da:= .bool p.2) (a:=p.2) (db:= .bool (decide ((if h.eq then(27:Int) else 20)=20))) (dB (T:= "tuple") (da:=lP p) (di:= .int (1:Nat)) K' (yH K' hI' (JR K') (nm K') (tF C6 (by exact aX 0x3740c010085f495212a0201 tt (ah g1)))) num cu (fx rfl (by(first|lia|omega)))) gA (λ_=>cmp K' (nm K') num ia) ?_ ?_)))) rfl
     ·unfold clean; rw[de,(kB _ QL.b).1]; rfl
     ·intro q; rw[q]; rfl
     ·intro q; rw[q]; cases h.eq<;>rfl
    ·unfold nextOf; rw[ai,ai]; exact aP (ba _ _) (by exact aN 0xfd8900210e2da84801 tt hn)
    ·intro q hq
     unfold nextOf at hq
     obtain⟨h,hh,rfl⟩:=aw.mp hq
     exact C5 _ (ID h (bw.mp hh).1).b
    ·rintro ρ ⟨r,gs,b2,e1,e2,e3,e4,e5,e6,rfl⟩
     cases r with
     |cons _ _=>exact nomatch e1
     |nil=>
      refine let1 (d:= .int ((a+1:Nat):Int)) (VE.eq (bin K (nm K) num cV) (by exact rfl)) (cx K) (dj ?_)
      exact⟨n,rfl,a+1,gs,_,_,by exact So g1,e5,e3,e4,by rw[g5',e6]; rfl,rfl⟩
    ·rintro y xs ρ ⟨r,gs,b2,e1,e2,e3,e4,e5,e6,rfl⟩
     cases r with
     |nil=>exact nomatch e1
     |cons q r=>
      obtain⟨rfl,rfl⟩:y=lP q/\xs=r.map lP:=by cases e1; exact⟨rfl,rfl⟩
      refine⟨_,cx K,?_⟩
      have hI2:∀f o,bc C ([("table", .val (pO (hs.map Hd.pr))),("name", .val (.str (aS [c]))),("found", .res true (eJ l (gs.map lP))),("at", .val (.int a)),("steps", .val (.list ((hs.filter λh=>decide (lo1 h.a=p.1)).map λh=>D.list [.int (if h.eq then 27 else 20), .str (aS [h.b])]))),("step", .val (lP q))]:Ro) f o->lj f o l (gs.map lP):=λf o H=>(held (x:=J "found") (w:=true) (r:=eJ l (gs.map lP)) ik f o H).Ha
      refine jx (b:=decide (q∉gs)) (XB K hI2 (nm K) (JR K) (CR (n:=1) (λd hd=>by obtain⟨z,_,rfl⟩:=aw.mp hd; exact yX z q) (by rw[IC]; simp) (by simp[*]))) (λhq=>?_) λhq=>?_
      ·have J7:q∉gs:=of_decide_eq_true hq
       refine EZ (d:=lP q) (ds:=gs.map lP) K (nm K) (by have:=J6 e3 e4; rw[ai]; exact aN 0x360084308421084801 tt this) (dj (dj ?_))
       refine⟨r,gs++[q],_,rfl,λz hz=>e2 z (.tail _ hz),?_,?_,by simp; exact aX 1787244348417 tt e5,?_,by rw[fV]; rfl⟩
       ·rw[G0]
        exact⟨e3,by simp,λz hz w hw=>by rcases aA.mp hw with rfl; exact λe=>J7 (e▸hz)⟩
       ·intro z hz
        rcases bN.mp hz with hz|hz
        ·exact e4 z hz
        ·rcases aA.mp hz with rfl; exact e2 _ (.head _)
       ·rw[e6]; unfold j9; rw[ei,if_neg J7]
      ·have J7:q∈gs:=by simpa using hq
       refine dj (dj ?_)
       refine⟨r,gs,_,rfl,λz hz=>e2 z (.tail _ hz),e3,e4,e5,?_,rfl⟩
       rw[e6]; unfold j9; rw[ei,if_pos J7]
  ·have ha:¬a<fs.length:=of_decide_eq_false hb
   have L9:iv hs c=fs:=by
    rw[g5]
    cases n with
    |zero=>rfl
    |succ n=>rw[fN,cf (by exact Sp g2 ha)]
   rw[L9] at ho h4 h1
   refine tZ (x:= "found") (a:=l) (ds:=fs.map lP) ik kD ?_
   refine j8 (bS (gl K (yJ X)) .builtin (a1 (nm K)) (yD h1 h4 ?_ ho Pq)) rfl
   have:(out.map (·.1)).Nodup:=by
    rw[List.Nodup,r8]
    exact Pq.imp fun{a b} h=>bg h
   exact(ho.map (·.1)).nodup_iff.mp this
end
noncomputable abbrev cA(l:List Nat):D:= .list (l.map λ(n:Nat)=>D.int n)
theorem iX(a b:Nat):(a:Int).fdiv b=((a / b:Nat):Int):=by rw[Int.fdiv_eq_ediv_of_nonneg _ (by exact ew 8673 tt)]; rfl
theorem jX(a b:Nat):(a:Int).fmod b=((a % b:Nat):Int):=by rw[Int.fmod_eq_emod_of_nonneg _ (by(first|lia|omega))]; rfl
theorem pQ{α:Type}(l:List α)(a:Nat):∀n,a+n<=l.length->(((aB n).map (a+ ·)).filterMap (l[·]?))=(l.drop a).take n
 | 0,_=>by simp
 |n+1,h=>by
  rw[List.range_succ,fV,List.filterMap_append,pQ l a n (by exact cG 0x2a06008042208201 tt h),List.take_succ]
  congr 1
  rw[D2,aO,zM,qe,List.filterMap_nil,aj (by exact Sq h)]
  rfl
theorem oV(ds:List D)(u:Nat):qp ds (some (u:Int)) aD aD=ds.drop u:=by
 unfold qp
 have e:m9 (dG (some (u:Int)) aD aD ds.length).1 (dG (some (u:Int)) aD aD ds.length).2.1 (dG (some (u:Int)) aD aD ds.length).2.2=m9 ((min u ds.length:Nat):Int) (ds.length:Nat) 1:=by
  simp only[dG,DX,show(1:Int)>0 by decide,if_true]
  rw[if_neg (by exact Sr)]
  congr 1; exact Rg
 rw[e,A7,pQ ds _ _ (by exact Ss)]
 rcases fB u ds.length with h|h
 ·rw[kZ h,dg (by simp)]
 ·rw[ix h,gE (bL _),gE h]; simp
theorem oW(ds:List D)(u:Nat):qp ds aD (some (u:Int)) aD=ds.take u:=by
 unfold qp
 have e:m9 (dG aD (some (u:Int)) aD ds.length).1 (dG aD (some (u:Int)) aD ds.length).2.1 (dG aD (some (u:Int)) aD ds.length).2.2=m9 ((0:Nat):Int) ((min u ds.length:Nat):Int) 1:=by
  simp only[dG,DX,show(1:Int)>0 by decide,if_true]
  rw[if_neg (by(first|lia|omega))]
  congr 1; exact Rg
 rw[e,A7,pQ ds _ _ (by exact Su),wR,Nat.sub_zero]
 rcases fB u ds.length with h|h
 ·rw[kZ h]
 ·rw[ix h,dg (bL _),dg h]
theorem IE{l:List Nat}{x:Nat}:D.int x∈(l.map λ(n:Nat)=>D.int n)↔x∈l:=by
 constructor
 ·intro h
  obtain⟨y,hy,e⟩:=aw.mp h
  injection e with e
  have:y=x:=by exact Nv e
  exact this▸hy
 ·exact λh=>aw.mpr ⟨x,h,rfl⟩
theorem IF{l:List Int}{x:Int}:D.int x∈l.map D.int↔x∈l:=by
 constructor
 ·intro h
  obtain⟨y,hy,e⟩:=aw.mp h
  injection e with e
  exact e▸hy
 ·exact λh=>aw.mpr ⟨x,h,rfl⟩
theorem r4(l:List Nat):(l.map λ(n:Nat)=>(n:Int)).map D.int=l.map λ(n:Nat)=>D.int n:=by rw[aM]; rfl
section
variable {W:Wd}{C:Cx}{ρ a9 bD bZ eX:Ro}{names:List (Str×aC)}{Q:Out->Prop}{f o:Fz}{s:Shared}
theorem wu{l:List Nat}{x:Nat}:lx W (cc .NotIn) (.int x) (cA l) (.bool (!l.contains x)):=yx (n:=0) (λd hd=>by obtain⟨y,_,rfl⟩:=aw.mp hd; exact .int) (by rw[IE]; simp) (by(first|lia|omega))
theorem C7{l:List Int}{x:Int}:lx W (cc .NotIn) (.int x) (.list (l.map D.int)) (.bool (!l.contains x)):=yx (n:=0) (λd hd=>by obtain⟨y,_,rfl⟩:=aw.mp hd; exact .int) (by rw[IF]; simp) (by(first|lia|omega))
theorem Fo{l:List Nat}:lx W (cc .Eq) (cA l) (.list []) (.bool l.isEmpty):=tE (n:=1) (.list ZM) (by cases l<;>simp) (by(first|lia|omega))
theorem Ma{l m:List Int}:lx W (cc .Eq) (.list (l.map D.int)) (.list (m.map D.int)) (.bool (decide (l=m))):=tE (n:=1) (jw _ _ _ _ λ_ _=> .int) (by
 rw[decide_eq_true_iff]
 constructor
 ·rintro rfl; rfl
 ·intro h
  injection h with h
  exact(DZ (λa b e=>by injection e)).mp h) (by(first|lia|omega))
theorem xg(K:CK C names){e ex:Expr}{apos pos:Pos}{l:List Nat}{x:Nat}(hu:C.A.units<=6000)(he:VE W C ρ e (cA l))(hx:VE W C ρ ex (.int x))(hm:x∈l)(hs:l.length<=1000)
 (pf:autoParam (aI [ex] C.env=(false,eval ex C.env)::aI [] C.env) fM._auto_1) (hp:autoParam ((aI [ex] C.env).all (λx=>!x.1)=true) fM._auto_1) (hl:autoParam ((apos.endLine==pos.line)=true) vn._auto_1) (hb:autoParam (bx e (J "index") C.env (eval e C.env)=eval e C.env) fM._auto_1):
 VE W C ρ (.Call (.Attribute e (J "index") apos) [ex] [] pos) (.int (l.idxOf x:Nat)):=by
 have kk:l.idxOf x<l.length:=lh hm
 refine gh he (vW mD wM) .builtin (a1 hx pf) (vZ (n:=0) (λd hd=>by obtain⟨y,_,rfl⟩:=aw.mp hd; exact .int) ?_ (λm qY e=>?_) (by exact aN 0x6f784801087f484a9304201 tt hu) (by exact aX 0x28180423f6240085f495212a0601 tt hs kk)) hp (by simp) hl hb
 ·rw[av,aj kk,D1]; rfl
 ·rw[av,aj (by exact Nw kk qY)] at e
  injection e with e
  injection e with e
  have e':l[m]=x:=by(first|lia|omega)
  have Fp:=zL (p:=(·==x)) (xs:=l) (i:=m) (by exact qY)
  simp[e'] at Fp
end
noncomputable def aK(r:Rel):List Nat:=(aB 4).filter λu=>!((r.getD u []).take u).contains 1
noncomputable def qD(r:Rel)(heads row:List Nat)(u:Nat):Bool:=!row.contains u&&(heads.filter λv=>decide (bF r v u=2)&& !row.contains v).isEmpty
noncomputable def qE(r:Rel)(heads:List Nat)(rows:List (List Nat)):List (List Nat):=(rows.map λrow=>(heads.filter (qD r heads row)).map λu=>row++[u]).flatten
noncomputable def lR(r:Rel)(heads:List Nat):Nat->List (List Nat)
 | 0=>[[]]
 |k+1=>qE r heads (lR r heads k)
noncomputable def rowsOf(r:Rel):List (List Nat):=lR r (aK r) (aK r).length
noncomputable def yY(r:Rel)(first:List Nat)(u v:Nat):Bool:=decide (bF r v u=2)||(decide (bF r u v+bF r v u=0)&&decide (first.idxOf u<first.idxOf v))
noncomputable def placeOf(r:Rel)(heads first:List Nat):List Nat:=heads.map λu=>(heads.filter (yY r first u)).length
noncomputable def wx(r:Rel)(heads first:List Nat):Bool:=decide (sortI ((placeOf r heads first).map λ(n:Nat)=>(n:Int))=(aB heads.length).map λ(n:Nat)=>(n:Int))
noncomputable def eM(r:Rel)(f:List Nat):List Nat:=(aB (aK r).length).map λk=>(aK r).getD ((placeOf r (aK r) f).idxOf k) 0
noncomputable def eU(r:Rel)(t:Nat):List Nat:=(rowsOf r).getD (t / 9 % (rowsOf r).length) []
noncomputable def fm(r:Rel)(f:List Nat)(t i:Nat):List Nat:=match(t / 3 % 3+i) % 3 with
 | 0=>f
 | 1=>eM r f
 |_=>eU r t
noncomputable def fP(r:Rel)(f:List Nat)(t:Nat):List (Nat×Nat×Nat):=r.map λrow=>((fm r f t 0).idxOf (row.idxOf 1),(fm r f t 1).idxOf (row.idxOf 1),(fm r f t 2).idxOf (row.idxOf 1))
noncomputable def dz(sp:List (Nat×Nat×Nat)):Int:=Et (sp.map λq=>(q.2.1:Int)-q.2.2)
noncomputable def fz(sp:List (Nat×Nat×Nat)):Int:=tH (sp.map λq=>(q.2.1:Int)-q.2.2-dz sp-(q.1-q.2.1))
noncomputable def baseOf(sp:List (Nat×Nat×Nat)):Int:=tH (sp.map λq=>(q.1:Int)-q.2.1+fz sp-q.2.2)
noncomputable def countOf(sp:List (Nat×Nat×Nat))(q:Nat×Nat×Nat):Int×Int×Int:=((q.2.1:Int)-q.2.2-dz sp,(q.1:Int)-q.2.1+fz sp,(q.2.2:Int)+baseOf sp)
noncomputable def fA(c:Int×Int×Int):List Nat:=bf c.1.toNat 2++bf (c.2.1-c.1).toNat 1++bf (c.2.2-c.2.1).toNat 0
noncomputable def blanks(n:Nat):List Nat:=bf n 32
noncomputable def sL(t:Nat)(q:Nat×Nat×Nat):List Nat:=bf (q.1 / 2) 9++blanks ((q.1+1) / 2+t % 3)
noncomputable def uh(t u:Nat)(rn:List Nat):List Nat:=((rn.drop u++rn.take u).map λn=>blanks n++[9]).flatten++blanks (t % 3)
noncomputable def fh(r:Rel)(f:List Nat)(t:Nat):List (List Nat):=
 if(rowsOf r).length=1 then(fP r f t).map (sL t)
 else(aB 4).map λu=>uh t u (((fP r f t).map λq=>fA (countOf (fP r f t) q)).getD u [])
structure jJ(r:Rel)(f:List Nat):Prop where
 wf:Wf r
 bound:∀k,k<=(aK r).length->(lR r (aK r) k).length<=1000
 len:∀k,k<=(aK r).length->∀row∈lR r (aK r) k,row.length<=10
 full:∀row∈rowsOf r,∀v∈aK r,v∈row
 find:(rowsOf r).find? (wx r (aK r))=some f
 place:∀k,k<(aK r).length->k∈placeOf r (aK r) f
 one:∀row∈r,(1:Int)∈row/\row.idxOf 1∈aK r
 Yh:∀v∈aK r,v∈eM r f
theorem hW(n c:Nat):rep n [c]=bf n c:=by
 unfold rep
 induction n with
 |zero=>rfl
 |succ n ih=>rw[bM,ee,ih,bM]; rfl
theorem join_nil:∀ts:List (List Nat),cW [] ts=ts.flatten
 |[]=>rfl
 |[t]=>by simp[cW]
 |t::u::r=>by rw[cW,join_nil (u::r)]; simp
section
variable {W:Wd}{C:Cx}{ρ a9 bD bZ eX:Ro}{names:List (Str×aC)}{Q:Out->Prop}{f o:Fz}{s:Shared}
theorem IG(K:CK C names){e ex:Expr}{apos pos:Pos}{l:List Int}{x:Int}(hu:C.A.units<=6000)(he:VE W C ρ e (.list (l.map .int)))(hx:VE W C ρ ex (.int x))(hm:x∈l)(hs:l.length<=1000)
 (pf:autoParam (aI [ex] C.env=(false,eval ex C.env)::aI [] C.env) fM._auto_1) (hp:autoParam ((aI [ex] C.env).all (λx=>!x.1)=true) fM._auto_1) (hl:autoParam ((apos.endLine==pos.line)=true) vn._auto_1) (hb:autoParam (bx e (J "index") C.env (eval e C.env)=eval e C.env) fM._auto_1):
 VE W C ρ (.Call (.Attribute e (J "index") apos) [ex] [] pos) (.int (l.idxOf x:Nat)):=by
 have kk:l.idxOf x<l.length:=lh hm
 refine gh he (vW mD wM) .builtin (a1 hx pf) (vZ (n:=0) (λd hd=>by obtain⟨y,_,rfl⟩:=aw.mp hd; exact .int) ?_ (λm qY e=>?_) (by exact aN 0x6f784801087f484a9304201 tt hu) (by exact aX 0x28180423f6240085f495212a0601 tt hs kk)) hp (by simp) hl hb
 ·rw[av,aj kk,D1]; rfl
 ·rw[av,aj (by exact Nw kk qY)] at e
  injection e with e
  injection e with e'
  have Fp:=zL (p:=(·==x)) (xs:=l) (i:=m) (by exact qY)
  simp[e'] at Fp
theorem Pu(K:CK C names){x:Str}{p pos oj:Pos}{elt t1 i1 t2 i2:Expr}{f1 f2:List Expr}{scope:Scope}{rest:List Stmt}{xs out:List D}(hit:VI W C ρ t1 i1 xs)(hc:∀C',CK C' scope.names->C'.A=C.A->Clause W C' eX t1 f1 (ti W C' ⟨t2,i2,f2,0⟩ elt) xs out)(hi:autoParam (nA names ρ scope.names eX) Ol._auto_1)
 (hn:out.length<=100000) (aU:autoParam (Ro.Set x (.val (.list out)) ρ a9) Ic._auto_1) (h:VS W C a9 rest Q) (hx:autoParam ((x,ae)∈names) vq._auto_1) (jm:autoParam ((p.line==oj.line)=true) vn._auto_1) (EX:autoParam ((scope.names.any λ(n,k)=>n==x&&(k== .local||k== .cell))=false) sI._auto_1) (j6:autoParam (decide (scope.names.map (·.1)).Nodup=true) Ia._auto_1)
 (hs:autoParam (∀x,bH i1 C.env x=pure x) M9._auto_1) (JU:autoParam (∀env x,bH i2 env x=pure x) CX._auto_1) (hk:autoParam (scope.kind= .function) fM._auto_1):VS W C ρ (.Assign [.Name x p] (.ListComp elt [⟨t1,i1,f1,0⟩,⟨t2,i2,f2,0⟩] scope oj) pos::rest) Q:=
 vs (.Bz K.ok hit.un hs hk (of_decide_eq_true j6) (K.eq▸hi) rfl (λcenv O=>JM O K.hand (JU _) (hc _ ⟨O,K.hand,rfl⟩ rfl) hn) (K.eq▸hx) aU h.un (yI K hx jm EX))
noncomputable def hZ(r:Rel)(t:Nat)(b3 b4 b5 b6 b7 b8 b9 my ka jh kQ oX mV:Bd):Ro:=[("rel", .val (gB r)),("total", .val (.int t)),("heads",b3),("rows",b4),("turn",b5),("first",b6),("place",b7),("mate",b8),("third",b9),("spots",my),("least",ka),("lift",jh),("base",kQ),("counts",oX),("runs",mV)]
theorem qF{r:Rel}{u:Nat}(h:u∈aK r):u<4:=aW.mp (bw.mp h).1
theorem kE(r:Rel):(aK r).length<=4:=by
 have:=ba (λu=>!((r.getD u []).take u).contains 1) (aB 4)
 rw[ec] at this
 exact this
theorem B1{r:Rel}{fs:List Nat}(L:jJ r fs)(t:Nat)(i:Nat):(fm r fs t i).length<=10/\∀v∈aK r,v∈fm r fs t i:=by
 have hf:fs∈rowsOf r:=mi L.find
 have ea:rowsOf r≠[]:=λe=>by rw[e] at hf; exact nomatch hf
 have ht:eU r t∈rowsOf r:=by
  unfold eU
  have kk:t / 9 % (rowsOf r).length<(rowsOf r).length:=dR _ (iB.mpr ea)
  rw[ak,aj kk]
  exact dh kk
 have JH:∀row∈rowsOf r,row.length<=10:=λrow h=>L.len _ (bL _) row h
 unfold fm
 split
 ·exact⟨JH _ hf,L.full _ hf⟩
 ·refine⟨?_,L.Yh⟩
  unfold eM
  rw[ai,ec]
  have:=kE r; exact aN 24697172993 tt this
 ·exact⟨JH _ ht,L.full _ ht⟩
theorem IH(r:Rel)(fs:List Nat)(t:Nat):(([fs,eM r fs,eU r t,fs,eM r fs,eU r t]:List (List Nat)).drop (t / 3 % 3)).take 3=[fm r fs t 0,fm r fs t 1,fm r fs t 2]:=by
 unfold fm
 have h:t / 3 % 3<3:=dR _ (by decide)
 generalize t / 3 % 3=k at h
 rcases QB k h with rfl|rfl|rfl<;>rfl
noncomputable def J8(q:Nat×Nat×Nat):D:=cA [q.1,q.2.1,q.2.2]
theorem yZ(X:cH W){r:Rel}{fs:List Nat}{t:Nat}(L:jJ r fs)(K:CK C [(J "rel",aq),(J "total",aq),(J "heads",aq),(J "rows",ae),(J "turn",ae),(J "first",aq),(J "place",aq),(J "mate",aq),(J "third",aq),(J "spots",ae),(J "least",aq),(J "lift",aq),(J "base",aq),(J "counts",ae),(J "runs",aq),(J "range",ag),(J "sorted",ag),(J "list",ag),(J "len",ag),(J "min",ag),(J "max",ag)]){b5 my ka jh kQ oX mV:Bd}
 (h:VS W C (hZ r t (.val (cA (aK r))) (.val (.list ((rowsOf r).map cA))) b5 (.val (cA fs)) (.val (cA (placeOf r (aK r) fs))) (.val (cA (eM r fs))) (.val (cA (eU r t))) (.val (.list ((fP r fs t).map J8))) ka jh kQ oX mV) ((cj (KK W) 332).drop 5) Q):
 VS W C (hZ r t (.val (cA (aK r))) (.val (.list ((rowsOf r).map cA))) b5 (.val (cA fs)) (.val (cA (placeOf r (aK r) fs))) (.val (cA (eM r fs))) (.val (cA (eU r t))) my ka jh kQ oX mV) ((cj (KK W) 332).drop 4) Q:=by
 unfold hZ at*
 have hu:C.A.units<=6000:=K.ok.room.units
 refine v8 (eX:=[(".0", .unset),("row", .unset),("first", .val (cA fs)),("mate", .val (cA (eM r fs))),("third", .val (cA (eU r t))),("total", .val (.int t))]) (out:=(fP r fs t).map J8) K (jF K (d:= .list (r.map nC)) (VE.eq (nm K (d:=gB r)) rfl) bp) (λC' K' e=>?_) ku ?_ kD h
 ·unfold fP
  rw[aM]
  refine gI r nC _ (λrow=>[(".0", .unset),("row", .val (nC row)),("first", .val (cA fs)),("mate", .val (cA (eM r fs))),("third", .val (cA (eU r t))),("total", .val (.int t))]) (λrow hr=>?_) (λrow hr=>?_) λrow hr=>jT
  ·exact cx K'
  ·have h1:=L.one row hr
   have J9:=L.wf.row row hr
   have E6:C'.A.units<=6000:=K'.ok.room.units
   refine .eq (dY (eX:=[(".0", .unset),("order", .unset),("row", .val (nC row))]) (out:=([fm r fs t 0,fm r fs t 1,fm r fs t 2]).map λod=>D.int (od.idxOf (row.idxOf 1):Nat)) K'
    (jF K' (d:= .list (([fm r fs t 0,fm r fs t 1,fm r fs t 2]).map cA)) (VE.eq (mQ (mQ (bin K' (lst (ac (nm K') (ac (nm K') (a1 (nm K'))))) num (qv (by decide) (by decide) (by simp))) xa (p1 (i:=(t / 3 % 3:Nat)) (VE.eq (bin K' (bin K' (nm K') num (lN (by decide) (by decide))) num (lM (by decide))) (show D.int _=D.int _ by rw[show(3:Int)=((3:Nat):Int) from rfl,iX,jX]))) p0 p0 (by decide) ?_ (λ_ _=>rfl)) xa p0 (p1 (i:=(3:Nat)) num) p0 (by decide) ?_ (λ_ _=>rfl)) ?_) bp)
    (λJX fk e=>gI ([fm r fs t 0,fm r fs t 1,fm r fs t 2]) cA (λod=>D.int (od.idxOf (row.idxOf 1):Nat)) (λod=>[(".0", .unset),("order", .val (cA od)),("row", .val (nC row))]) (λod ho=>cx fk) (λod ho=>?_) λod ho=>jT) ku (by simp)) rfl
   ·simp[rt]
   ·rw[oV]; simp[rt]; exact aN 0xfa4a9094321 tt
   ·rw[oV,oW,<-IH]
    show D.list _=D.list _
    rw[yb,List.map_drop]
    rfl
   ·have hB:od.length<=10/\∀v∈aK r,v∈od:=by
     simp only[au,bo,or_false] at ho
     rcases ho with rfl|rfl|rfl<;>exact B1 L t _
    refine xg fk fk.ok.room.units (nm fk) (IG fk fk.ok.room.units (VE.eq (nm fk (d:=nC row)) rfl) num h1.1 (by exact aN 809276124448769 tt (ah J9))) (hB.2 _ h1.2) (by(first|lia|omega))
 ·rw[ai]; unfold fP; rw[ai,L.wf.len]; decide
noncomputable def Fq(sp:List (Nat×Nat×Nat)):Prop:=∀q∈sp,q.1<=10/\q.2.1<=10/\q.2.2<=10
theorem AK{l:List Nat}{x:Nat}(h:l.length<=10):l.idxOf x<=10:=aP pF h
theorem Fs{r:Rel}{fs:List Nat}(L:jJ r fs)(t:Nat):Fq (fP r fs t):=by
 intro q hq
 unfold fP at hq
 obtain⟨row,_,rfl⟩:=aw.mp hq
 exact⟨AK (B1 L t 0).1,AK (B1 L t 1).1,AK (B1 L t 2).1⟩
theorem xh{sp:List (Nat×Nat×Nat)}(h:Fq sp)(ea:sp≠[]):-10<=dz sp/\dz sp<=10:=by
 have hm:=tI (l:=sp.map λq=>(q.2.1:Int)-q.2.2) (by simpa using ea)
 obtain⟨q,hq,e⟩:=aw.mp hm
 have:=h q hq
 unfold dz; rw[<-e]; exact Sv e this
theorem AL{sp:List (Nat×Nat×Nat)}(h:Fq sp)(ea:sp≠[]):-30<=fz sp/\fz sp<=30:=by
 have hm:=kM (l:=sp.map λq=>(q.2.1:Int)-q.2.2-dz sp-(q.1-q.2.1)) (by simpa using ea)
 obtain⟨q,hq,e⟩:=aw.mp hm
 have:=h q hq
 have:=xh h ea
 unfold fz; rw[<-e]; exact Sw e ‹_› this
theorem Ft{sp:List (Nat×Nat×Nat)}(h:Fq sp)(ea:sp≠[]):-50<=baseOf sp/\baseOf sp<=50:=by
 have hm:=kM (l:=sp.map λq=>(q.1:Int)-q.2.1+fz sp-q.2.2) (by simpa using ea)
 obtain⟨q,hq,e⟩:=aw.mp hm
 have:=h q hq
 have:=AL h ea
 unfold baseOf; rw[<-e]; exact Sx e ‹_› this
theorem B2{sp:List (Nat×Nat×Nat)}(h:Fq sp)(ea:sp≠[]){q:Nat×Nat×Nat}(hq:q∈sp):-100<=(countOf sp q).1/\(countOf sp q).1<=100/\-100<=(countOf sp q).2.1/\(countOf sp q).2.1<=100/\-100<=(countOf sp q).2.2/\(countOf sp q).2.2<=100:=by
 have:=h q hq
 have:=xh h ea
 have:=AL h ea
 have:=Ft h ea
 unfold countOf; dsimp only; exact Sy ‹_› ‹_› ‹_› this
noncomputable def ctD(c:Int×Int×Int):D:= .tup [.int c.1, .int c.2.1, .int c.2.2]
theorem uk(n:Nat)(d:D):rt n [d]=bf n d:=by
 unfold rt
 induction n with
 |zero=>rfl
 |succ n ih=>rw[bM,ee,ih,bM]; rfl
theorem Fu{c:Int×Int×Int}(h:-100<=c.1/\c.1<=100/\-100<=c.2.1/\c.2.1<=100/\-100<=c.2.2/\c.2.2<=100):(fA c).length<=500:=by
 unfold fA; simp only[a8,bA]; exact Sz h
theorem B3{c:Int×Int×Int}:∀n∈fA c,n<=2:=by
 intro n hn
 unfold fA at hn
 simp only[bN,gD] at hn
 exact SA hn
theorem y0:∀(l:List Nat) (k:Nat),(∀n∈l,n<=2)->l.length<=k->((l.map λn=>blanks n++[9]).flatten).length<=3*k
 |[],k,_,_=>by simp
 |n::l,k,h,hk=>by
  have h1:=h n (.head _)
  have:=y0 l (k-1) (λm hm=>h m (.tail _ hm)) (by simp only[aQ] at hk; exact SD hk)
  simp only[aQ] at hk
  simp only[aO,ee,a8,blanks,bA,aQ,fg] at this ⊢
  exact SE hk h1 this
theorem AM(X:cH W){r:Rel}{fs:List Nat}{t:Nat}(L:jJ r fs)(K:CK C [(J "rel",aq),(J "total",aq),(J "heads",aq),(J "rows",ae),(J "turn",ae),(J "first",aq),(J "place",aq),(J "mate",aq),(J "third",aq),(J "spots",ae),(J "least",aq),(J "lift",aq),(J "base",aq),(J "counts",ae),(J "runs",aq),(J "range",ag),(J "sorted",ag),(J "list",ag),(J "len",ag),(J "min",ag),(J "max",ag)]){b5 ka jh kQ oX mV:Bd}:
 VS W C (hZ r t (.val (cA (aK r))) (.val (.list ((rowsOf r).map cA))) b5 (.val (cA fs)) (.val (cA (placeOf r (aK r) fs))) (.val (cA (eM r fs))) (.val (cA (eU r t))) (.val (.list ((fP r fs t).map J8))) ka jh kQ oX mV) ((cj (KK W) 332).drop 5) (Ends (.list ((fh r fs t).map λl=> .str (aS l)))):=by
 have hB:=Fs L t
 have hlen:(fP r fs t).length=4:=by unfold fP; rw[ai,L.wf.len]
 have ea:fP r fs t≠[]:=λe=>by rw[e] at hlen; exact nomatch hlen
 have J9:(rowsOf r).length<=1000:=L.bound _ (bL _)
 unfold fh
 generalize fP r fs t=sp at hB hlen ea ⊢
 have lb:=xh hB ea
 have fb:=AL hB ea
 have bb:=Ft hB ea
 have Pw:∀{C':Cx} {Fv:List (Str×aC)} {a9:Ro} (K':CK C' Fv) {e1 e2:Expr} {p:Pos},VE W C' a9 e1 (.int t)->VE W C' a9 e2 (.int (3:Nat))->VE W C' a9 (.BinOp e1 .Mod e2 p) (.int (t % 3:Nat)):=by
  intro C' Fv a9 K' e1 e2 p h1 h2
  exact .eq (bin K' h1 h2 (lM (by decide))) (by rw[jX])
 have K7:t % 3<3:=dR _ (by decide)
 unfold hZ
 refine jx (b:=decide ((rowsOf r).length=1)) (.eq (kR K (bS (gl K (jV X)) .builtin (a1 (nm K)) (jR (by rw[ai]; exact aN 0x3f6240085f495212a0201 tt J9))) num ia) (by rw[ai,decide_eq_decide]; exact SG)) (λh=>?_) λh=>dj ?_
 ·have h':(rowsOf r).length=1:=of_decide_eq_true h
  rw[if_pos h']
  refine j8 (dY (eX:=[(".0", .unset),("q1", .unset),("q2", .unset),("q3", .unset),("total", .val (.int t))]) K (jF K (nm K) bp) (λC' K' e=>?_) ku ?_) rfl
  ·rw[aM]
   refine gI sp J8 _ (λq=>[(".0", .unset),("q1", .val (.int q.1)),("q2", .val (.int q.2.1)),("q3", .val (.int q.2.2)),("total", .val (.int t))]) (λq hq=>?_) (λq hq=>?_) λq hq=>jT
   ·exact rW K' (cx K') (cx K') (cx K') (.inr rfl)
   ·have J7:=hB q hq
    refine .eq (bin K' (bin K' (st [9]) (VE.eq (bin K' (nm K') (num (i:=(2:Nat))) (lN (by decide) (by simp[*]))) (by rw[iX])) (oP (n:=(q.1 / 2:Nat)) (by decide) (by exact SH J7) (by exact ew 272589121 tt))) (bin K' (st [32]) (VE.eq (bin K' (bin K' (bin K' (nm K') (num (i:=(1:Nat))) cV) (num (i:=(2:Nat))) (lN (by(first|lia|omega)) (by(first|lia|omega)))) (Pw K' (nm K') num) cV) (d':= .int ((q.1+1) / 2+t % 3:Nat)) (by rw[<-Int.natCast_add,iX]; simp)) (oP (by decide) (by exact SI K7 J7) (by exact jf 1116964086081 tt))) (gS ?_)) ?_
    ·rw[hW,hW]; simp only[bA,hK]; exact SJ K7 J7
    ·rw[hW,hW,hK,hK]; rfl
  ·rw[ai,ai,hlen]; decide
 ·have h':¬(rowsOf r).length=1:=of_decide_eq_false h
  rw[if_neg h']
  refine let1 (d:= .int (dz sp)) (bS (gl K (Ow X)) .builtin (a1 (dY (eX:=[(".0", .unset),("q1", .unset),("q2", .unset),("q3", .unset)]) (out:=(sp.map λq=>(q.2.1:Int)-q.2.2).map D.int) K (jF K (nm K) bp) (λC' K' e=>?_) ku ?_)) (Eu K.hand (by simpa using ea))) (cx K) ?_
  ·rw[aM]
   refine gI sp J8 _ (λq=>[(".0", .unset),("q1", .val (.int q.1)),("q2", .val (.int q.2.1)),("q3", .val (.int q.2.2))]) (λq hq=>?_) (λq hq=>?_) λq hq=>jT
   ·exact rW K' (cx K') (cx K') (cx K') (.inr rfl)
   ·exact bin K' (nm K') (nm K') gH
  ·simp[hlen]
  refine let1 (d:= .int (fz sp)) (bS (gl K (lC X)) .builtin (a1 (dY (eX:=[(".0", .unset),("q1", .unset),("q2", .unset),("q3", .unset),("least", .val (.int (dz sp)))]) (out:=(sp.map λq=>(q.2.1:Int)-q.2.2-dz sp-(q.1-q.2.1)).map D.int) K (jF K (nm K) bp) (λC' K' e=>?_) ku ?_)) (oq K.hand (by simpa using ea))) (cx K) ?_
  ·rw[aM]
   refine gI sp J8 _ (λq=>[(".0", .unset),("q1", .val (.int q.1)),("q2", .val (.int q.2.1)),("q3", .val (.int q.2.2)),("least", .val (.int (dz sp)))]) (λq hq=>?_) (λq hq=>?_) λq hq=>jT
   ·exact rW K' (cx K') (cx K') (cx K') (.inr rfl)
   ·exact bin K' (bin K' (bin K' (nm K') (nm K') gH) (nm K') gH) (bin K' (nm K') (nm K') gH) gH
  ·simp[hlen]
  refine let1 (d:= .int (baseOf sp)) (bS (gl K (lC X)) .builtin (a1 (dY (eX:=[(".0", .unset),("q1", .unset),("q2", .unset),("q3", .unset),("lift", .val (.int (fz sp)))]) (out:=(sp.map λq=>(q.1:Int)-q.2.1+fz sp-q.2.2).map D.int) K (jF K (nm K) bp) (λC' K' e=>?_) ku ?_)) (oq K.hand (by simpa using ea))) (cx K) ?_
  ·rw[aM]
   refine gI sp J8 _ (λq=>[(".0", .unset),("q1", .val (.int q.1)),("q2", .val (.int q.2.1)),("q3", .val (.int q.2.2)),("lift", .val (.int (fz sp)))]) (λq hq=>?_) (λq hq=>?_) λq hq=>jT
   ·exact rW K' (cx K') (cx K') (cx K') (.inr rfl)
   ·exact bin K' (bin K' (bin K' (nm K') (nm K') gH) (nm K') cV) (nm K') gH
  ·simp[hlen]
  refine v8 (eX:=[(".0", .unset),("q1", .unset),("q2", .unset),("q3", .unset),("base", .val (.int (baseOf sp))),("least", .val (.int (dz sp))),("lift", .val (.int (fz sp)))]) (out:=sp.map λq=>ctD (countOf sp q)) K (jF K (nm K) bp) (λC' K' e=>?_) ku ?_ kD ?_
  ·refine gI sp J8 _ (λq=>[(".0", .unset),("q1", .val (.int q.1)),("q2", .val (.int q.2.1)),("q3", .val (.int q.2.2)),("base", .val (.int (baseOf sp))),("least", .val (.int (dz sp))),("lift", .val (.int (fz sp)))]) (λq hq=>?_) (λq hq=>?_) λq hq=>jT
   ·exact rW K' (cx K') (cx K') (cx K') (.inr rfl)
   ·exact .eq (tup (ac (bin K' (bin K' (nm K') (nm K') gH) (nm K') gH) (ac (bin K' (bin K' (nm K') (nm K') gH) (nm K') cV) (a1 (bin K' (nm K') (nm K') cV))))) rfl
  ·simp[hlen]
  refine let1 (d:= .list ((sp.map λq=>fA (countOf sp q)).map cA)) (dY (eX:=[(".0", .unset),("twos", .unset),("ones", .unset),("tabs", .unset)]) K (jF K (nm K) bp) (λC' K' e=>?_) ku ?_) (cx K) ?_ (gX K ik)
  ·rw[aM]
   refine gI sp (λq=>ctD (countOf sp q)) _ (λq=>[(".0", .unset),("twos", .val (.int (countOf sp q).1)),("ones", .val (.int (countOf sp q).2.1)),("tabs", .val (.int (countOf sp q).2.2))]) (λq hq=>?_) (λq hq=>?_) λq hq=>jT
   ·exact rW K' (cx K') (cx K') (cx K') (.inl rfl)
   ·have hc:=B2 hB ea hq
    refine .eq (bin K' (bin K' (bin K' (lst (a1 num)) (nm K') (qv (by exact eI 0x6a282203e92a4141 tt hc.1) (by exact eI 0x351200887ec2401 tt hc.2.1) (by decide))) (bin K' (lst (a1 num)) (bin K' (nm K') (nm K') gH) (qv (by exact dQ 0x26a2822351200880163e92a4141 tt hc.2.1 hc.2.2.1) (by exact dQ 0x3512108806a28221fb0900581 tt hc.1 hc.2.2.2.1) (by decide))) (qr ?_)) (bin K' (lst (a1 num)) (bin K' (nm K') (nm K') gH) (qv (by exact dQ 0x26a2822351200880163e92a4141 tt hc.2.2.2.1 hc.2.2.2.2.1) (by exact dQ 0x3512108806a28221fb0900581 tt hc.2.2.1 hc.2.2.2.2.2) (by decide))) (qr ?_)) ?_
    ·simp only[uk,bA]; exact SK hc
    ·simp only[uk,bA,a8]; exact SM hc
    ·simp only[uk]
     show D.list _=D.list _
     simp only[lI,fA,fV,List.map_replicate]
     rfl
  ·simp[hlen]
  ·refine j8 (dY (eX:=[(".0", .unset),("u", .unset),("runs", .val (.list ((sp.map λq=>fA (countOf sp q)).map cA))),("total", .val (.int t))]) (out:=(aB 4).map λu=>D.str (aS (uh t u ((sp.map λq=>fA (countOf sp q)).getD u [])))) K (ua X K) (λC' K' e=>?_) ku (by simp)) (by rw[aM]; rfl)
   refine gI (aB 4) (λ(u:Nat)=>D.int u) _ (λu=>[(".0", .unset),("u", .val (.int u)),("runs", .val (.list ((sp.map λq=>fA (countOf sp q)).map cA))),("total", .val (.int t))]) (λu hu=>?_) (λu hu=>?_) λu hu=>jT
   ·exact cx K'
   ·have yL:u<4:=aW.mp hu
    obtain⟨rn,hrn⟩:∃rn,rn=(sp.map λq=>fA (countOf sp q)).getD u []:=⟨_,rfl⟩
    have hlu:u<(sp.map λq=>fA (countOf sp q)).length:=by rw[ai,hlen]; exact yL
    have hge:(sp.map λq=>fA (countOf sp q))[u]? =some rn:=by rw[hrn,ak,aj hlu]; rfl
    have DP:rn∈sp.map λq=>fA (countOf sp q):=bI hge
    obtain⟨q,hq,hrq⟩:=aw.mp DP
    have II:rn.length<=500:=hrq▸Fu (B2 hB ea hq)
    have Na:∀n∈rn,n<=2:=hrq▸B3
    have C6:((sp.map λq=>fA (countOf sp q)).map cA)[u]? =some (cA rn):=by rw[av,hge]; rfl
    have yB:∀n∈rn.drop u++rn.take u,n<=2:=λn hn=>by
     rcases bN.mp hn with h|h
     ·exact Na n (Ho _ _ h)
     ·exact Na n (List.take_subset _ _ h)
    have Fw:(rn.drop u++rn.take u).length<=500:=by rw[a8,sS,Hn]; exact SN yL II
    have HO:=y0 _ 500 yB Fw
    have Px:mf W C'.A (.builtin "str.join") [.str (aS []), .list (((rn.drop u++rn.take u).map λn=>blanks n++[9]).map λl=>D.str (aS l))] (.str (aS (((rn.drop u++rn.take u).map λn=>blanks n++[9]).flatten))):=by
     rw[<-join_nil]
     refine qu (λt ht=>?_) (by rw[ai]; exact aN 0x1fd2400847ec4801 tt Fw) (by decide)
     obtain⟨n,hn,rfl⟩:=aw.mp ht
     have:=yB n hn
     simp only[blanks,a8,bA,aQ,fg]; exact aN 0x2a00847ec4a9380201 tt this
    refine .eq (bin K' (gh (st []) (iu gP gO) .builtin (a1 (dY (eX:=[(".0", .unset),("run", .unset)]) (out:=(((rn.drop u++rn.take u).map λn=>blanks n++[9]).map λl=>D.str (aS l))) K'
     (jF K' (d:=cA (rn.drop u++rn.take u)) (VE.eq (bin K' (mQ (dB (T:= "list") (da:= .list ((sp.map λq=>fA (countOf sp q)).map cA)) (di:= .int u) K' (nm K') (nm K') aR (bY C6 (by exact aN 0xbd010085f495212a0201 tt yL))) xa (p1 (nm K')) p0 p0 (by decide) ?_ (λ_ _=>rfl)) (mQ (dB (T:= "list") (da:= .list ((sp.map λq=>fA (countOf sp q)).map cA)) (di:= .int u) K' (nm K') (nm K') aR (bY C6 (by exact aN 0xbd010085f495212a0201 tt yL))) xa p0 (p1 (nm K')) p0 (by decide) ?_ (λ_ _=>rfl)) (qr ?_)) ?_) bp) (λJX fk LI=>?_) ku ?_)) Px) (bin K' (st [32]) (Pw K' (nm K') num) (oP (by decide) (by exact ew 0x16a020108fd848101 tt K7) (by exact ew 272589121 tt))) (gS ?_)) ?_
    ·rw[ai]; exact aN 0x7f4900217d25484801 tt II
    ·rw[ai]; exact aN 0x7f4900217d25484801 tt II
    ·rw[oV,oW]; simp only[sS,Hn,ai]; exact SO II
    ·rw[oV,oW]
     show D.list _=D.list _
     rw[fV,List.map_drop,yb]
    ·rw[aM]
     refine gI (rn.drop u++rn.take u) (λ(n:Nat)=>D.int n) _ (λn=>[(".0", .unset),("run", .val (.int n))]) (λn hn=>?_) (λn hn=>?_) λn hn=>jT
     ·exact cx fk
     ·have:=yB n hn
      refine .eq (bin fk (bin fk (st [32]) (nm fk) (oP (by decide) (by exact ew 0x540108fd848101 tt this) (by exact ew 272589121 tt))) (st [9]) (gS ?_)) ?_
      ·rw[hW,bA]; simp; exact aN 0xa80217d253fc801 tt this
      ·rw[hW,hK]; rfl
    ·rw[ai,ai]; exact aN 0x7f4900210e2da84801 tt Fw
    ·rw[hW,bA]; exact SP K7 HO
    ·rw[hW,hK,<-hrn]; rfl
theorem Mb{r:Rel}(w:Wf r){u:Nat}(hu:u<4):(r.map nC)[u]? =some (nC (r.getD u [])):=(w.at hu).1
theorem AN(X:cH W){r:Rel}{fs:List Nat}{t:Nat}(L:jJ r fs)(K:CK C [(J "rel",aq),(J "total",aq),(J "heads",aq),(J "rows",ae),(J "turn",ae),(J "first",aq),(J "place",aq),(J "mate",aq),(J "third",aq),(J "spots",ae),(J "least",aq),(J "lift",aq),(J "base",aq),(J "counts",ae),(J "runs",aq),(J "range",ag),(J "sorted",ag),(J "list",ag),(J "len",ag),(J "min",ag),(J "max",ag)]){b5 b8 b9 my ka jh kQ oX mV:Bd}:
 VS W C (hZ r t (.val (cA (aK r))) (.val (.list ((rowsOf r).map cA))) b5 (.val (cA fs)) (.val (cA (placeOf r (aK r) fs))) b8 b9 my ka jh kQ oX mV) ((cj (KK W) 332).drop 3) (Ends (.list ((fh r fs t).map λl=> .str (aS l)))):=by
 have J9:(rowsOf r).length<=1000:=L.bound _ (bL _)
 have hf:fs∈rowsOf r:=mi L.find
 have ea:rowsOf r≠[]:=λe=>by rw[e] at hf; exact nomatch hf
 have h0:0<(rowsOf r).length:=iB.mpr ea
 have kk:t / 9 % (rowsOf r).length<(rowsOf r).length:=dR _ h0
 have hh:=kE r
 unfold hZ
 refine let1 (tup (ac (dY (eX:=[(".0", .unset),("k", .unset),("heads", .val (cA (aK r))),("place", .val (cA (placeOf r (aK r) fs)))]) (out:=(eM r fs).map λ(n:Nat)=>D.int n) K
  (jF K (d:= .Bs 0 (aK r).length) (bS (gl K (kz X)) .type (a1 (VE.eq (bS (gl K (jV X)) .builtin (a1 (nm K)) (jR (by rw[ai]; exact aN 0x2e0085f495212a0201 tt hh))) (by rw[ai]))) mM) (mO (by decide) (by decide) (by exact ew 291674669377 tt) (by exact ew 0x170042fa4a9048101 tt hh))) (λC' K' e=>?_) ku ?_)
  (a1 (dB (T:= "list") (da:= .list ((rowsOf r).map cA)) (di:= .int (t / 9 % (rowsOf r).length:Nat)) (d:=cA (eU r t)) K (nm K) (VE.eq (bin K (bin K (nm K) (num (i:=(9:Nat))) (lN (by decide) (by decide))) (VE.eq (bS (gl K (jV X)) .builtin (a1 (nm K)) (jR (by rw[ai]; exact aN 0x3f6240085f495212a0201 tt J9))) (d':= .int (rowsOf r).length) (by rw[ai])) (lM (by exact SQ h0))) (by rw[iX,jX])) aR (bY ?_ (by exact aX 0x28180423f6240085f495212a0601 tt J9 kk)))))) (iW K (cx K) (cx K)) ?_ rfl (jU K (.inl ik))
 ·rw[show(((aK r).length:Int)-0).toNat=(aK r).length by rfl,mT]
  unfold eM
  rw[aM]
  refine gI (aB (aK r).length) (λ(k:Nat)=>D.int k) _ (λk=>[(".0", .unset),("k", .val (.int k)),("heads", .val (cA (aK r))),("place", .val (cA (placeOf r (aK r) fs)))]) (λk hk=>?_) (λk hk=>?_) λk hk=>jT
  ·exact cx K'
  ·have oZ:=L.place k (aW.mp hk)
   have jm:(placeOf r (aK r) fs).length=(aK r).length:=by unfold placeOf; rw[ai]
   have HU:(placeOf r (aK r) fs).idxOf k<(aK r).length:=jm▸lh oZ
   refine dB (T:= "list") (da:=cA (aK r)) (di:= .int ((placeOf r (aK r) fs).idxOf k:Nat)) K' (nm K') (xg K' K'.ok.room.units (nm K') (nm K') oZ (by exact aX 0x1086e00847ec4821 tt hh (ah jm))) aR (bY ?_ (by exact aX 0x5030086e0085f495212a0601 tt hh HU))
   rw[av,aj HU]
   simp only[lI,ak,aj HU,Option.map_some,DW]
 ·rw[ai]; unfold eM; rw[ai,ec]; exact aN 0xb80210e2da84801 tt hh
 ·rw[av,aj kk]
  unfold eU
  rw[ak,aj kk]; rfl
 ·exact yZ X L K (AM X L K)
theorem IJ(K:CK C names){r:Rel}(w:Wf r){e eu:Expr}{p:Pos}{u:Nat}(he:VE W C ρ e (gB r))(hu:VE W C ρ eu (.int u))(h:u<4)(hs:autoParam (∀o i,subscripted eu false o i=operate [o,i] (dJ o i)) CX._auto_1):VE W C ρ (.Subscript e eu p) (nC (r.getD u [])):=
 dB (T:= "list") (da:=gB r) (di:= .int u) K he hu aR (bY (Mb w h) (by exact aN 0xbd010085f495212a0201 tt h)) rfl hs
noncomputable abbrev Py(l:List Nat):List D:=l.map λ(n:Nat)=>D.int n
theorem y3(r:Rel){heads:List Nat}(rows:List (List Nat)):(qE r heads rows).length<=heads.length*rows.length:=by
 unfold qE
 induction rows with
 |nil=>simp
 |cons row rows ih=>
  rw[aO,ee,a8,ai,aQ,Nat.mul_succ]
  have:=ba (qD r heads row) heads
  exact hO 0xc410840108c3000a01 tt ih this
theorem y4(X:cH W){r:Rel}{fs:List Nat}{t:Nat}(L:jJ r fs)(K:CK C [(J "rel",aq),(J "total",aq),(J "heads",aq),(J "rows",ae),(J "turn",ae),(J "first",aq),(J "place",aq),(J "mate",aq),(J "third",aq),(J "spots",ae),(J "least",aq),(J "lift",aq),(J "base",aq),(J "counts",ae),(J "runs",aq),(J "range",ag),(J "sorted",ag),(J "list",ag),(J "len",ag),(J "min",ag),(J "max",ag)]){b5 b6 b7 b8 b9 my ka jh kQ oX mV:Bd}:
 VS W C (hZ r t (.val (cA (aK r))) (.val (.list ((rowsOf r).map cA))) b5 b6 b7 b8 b9 my ka jh kQ oX mV) ((cj (KK W) 332).drop 2) (Ends (.list ((fh r fs t).map λl=> .str (aS l)))):=by
 have hh:=kE r
 have w:=L.wf
 unfold hZ
 refine mR K (jF K (nm K) bp) (λxs ρ=>∃(rs:List (List Nat)) (b6 b7:Bd),xs=rs.map cA/\(∀row∈rs,row∈rowsOf r)/\rs.find? (wx r (aK r))=some fs/\ρ=hZ r t (.val (cA (aK r))) (.val (.list ((rowsOf r).map cA))) b5 b6 b7 b8 b9 my ka jh kQ oX mV) ⟨rowsOf r,_,_,rfl,λ_ h=>h,L.find,rfl⟩ ?_ ?_
 ·rintro ρ ⟨rs,b6,b7,e1,e2,e3,rfl⟩
  cases rs with
  |cons _ _=>exact nomatch e1
  |nil=>exact nomatch e3
 ·rintro y xs ρ ⟨rs,b6,b7,e1,e2,e3,rfl⟩
  cases rs with
  |nil=>exact nomatch e1
  |cons first rs=>
   obtain⟨rfl,rfl⟩:y=cA first/\xs=rs.map cA:=by cases e1; exact⟨rfl,rfl⟩
   have hfm:=e2 first (.head _)
   have Pz:=L.full first hfm
   have PA:=L.len _ (bL _) first hfm
   unfold hZ
   refine⟨_,cx K,?_⟩
   refine let1 (d:=cA (placeOf r (aK r) first)) (VE.eq (dY (eX:=[(".0", .unset),("u", .unset),("first", .val (cA first)),("heads", .val (cA (aK r))),("rel", .val (gB r))]) (out:=(aK r).map λu=>D.int ((aK r).filter (yY r first u)).length) K (jF K (nm K) bp) (λC' K' e=>?_) ku ?_) ?_) (cx K) ?_ (gX K ik)
   ·refine gI (aK r) (λ(u:Nat)=>D.int u) _ (λu=>[(".0", .unset),("u", .val (.int u)),("first", .val (cA first)),("heads", .val (cA (aK r))),("rel", .val (gB r))]) (λu hu=>?_) (λu hu=>?_) λu hu=>jT
    ·exact cx K'
    ·have yL:=qF hu
     refine .eq (bS (gl K' (jV X)) .builtin (a1 (dY (eX:=[(".0", .unset),("v", .unset),("first", .val (cA first)),("rel", .val (gB r)),("u", .val (.int u))]) (out:=((aK r).filter (yY r first u)).map λ(v:Nat)=>D.int v) K' (jF K' (nm K') bp) (λJX fk LI=>?_) ku ?_)) (jR ?_)) ?_
     ·refine sr (aK r) (λ(v:Nat)=>D.int v) (yY r first u) (λ(v:Nat)=>D.int v) (λv=>[(".0", .unset),("v", .val (.int v)),("first", .val (cA first)),("rel", .val (gB r)),("u", .val (.int u))]) (λv hv=>?_) (λv hv=>?_) (λv hv _=>?_) λv hv=>jT
      ·exact cx fk
      ·have Im:=qF hv
       refine .eq (Ie (Ig (kR fk (ib fk w (nm fk) (nm fk) (nm fk) Im yL) num ia) λ_=>Ig (Ie (vr (kR fk (bin fk (ib fk w (nm fk) (nm fk) (nm fk) yL Im) (ib fk w (nm fk) (nm fk) (nm fk) Im yL) cV) num ia) λ_=>vr (kR fk (xg fk fk.ok.room.units (nm fk) (nm fk) (Pz v hv) (by exact aN 0x3a00847ec4801 tt PA)) (xg fk fk.ok.room.units (nm fk) (nm fk) (Pz u hu) (by exact aN 0x3a00847ec4801 tt PA)) Er) λ_=>EV)) λ_=>QJ)) ?_
       unfold yY
       simp
      ·exact nm fk
     ·rw[ai]; exact aP (ba _ _) (by exact aN 0xb80210e2da84801 tt hh)
     ·rw[ai]; exact fI (ba _ _) (by exact aN 0x2e0085f495212a0201 tt hh)
     ·rw[ai]
   ·rw[ai]; exact aN 0xb80210e2da84801 tt hh
   ·unfold placeOf
    show D.list _=D.list _
    rw[aM]; rfl
   ·refine jx (b:=wx r (aK r) first) (VB.eq (kR K (VE.eq (bS (gl K (yJ X)) .builtin (a1 (VE.eq (nm K (d:=cA (placeOf r (aK r) first))) (d':= .list (((placeOf r (aK r) first).map λ(n:Nat)=>(n:Int)).map D.int)) (by rw[r4]))) (yA ?_)) rfl)
     (VE.eq (bS (gl K (xd X)) .type (a1 (bS (gl K (kz X)) .type (a1 (VE.eq (bS (gl K (jV X)) .builtin (a1 (nm K)) (jR (by rw[ai]; exact aN 0x2e0085f495212a0201 tt hh))) (d':= .int (aK r).length) (by rw[ai]))) mM)) (CS K.hand (by decide) (by decide) (by(first|lia|omega)) (by exact ew 0x170042fa4a9048101 tt hh))) (d':= .list (((aB (aK r).length).map λ(n:Nat)=>(n:Int)).map D.int)) ?_) Ma) rfl) (λhg=>?_) λhg=>?_
    ·unfold placeOf; rw[ai,ai]; exact aN 0x5c0109212a0201 tt hh
    ·rw[show(((aK r).length:Int)-0).toNat=(aK r).length by(first|lia|omega),mT,r4]
    ·refine Oq ?_
     have:first=fs:=by rw[iO,hg] at e3; exact cg e3
     subst this
     exact AN X L K
    ·refine dj (dj ?_)
     refine⟨rs,_,_,rfl,λrow h=>e2 row (.tail _ h),?_,rfl⟩
     rw[iO,hg] at e3; exact e3
theorem Yi(X:cH W){A:Around}(lv:Lv 1 A){r:Rel}{fs:List Nat}{t:Nat}(L:jJ r fs):iK W A (.ref 332) [gB r, .int t] (.list ((fh r fs t).map λl=> .str (aS l))):=by
 have w:=L.wf
 have hh:=kE r
 refine X.fn 332 (n:=0) (ps:=["rel","total"]) (ρ:=[("rel", .val (gB r)),("total", .val (.int t)),("heads", .unset),("rows", .unset),("turn", .unset),("first", .unset),("place", .unset),("mate", .unset),("third", .unset),("spots", .unset),("least", .unset),("lift", .unset),("base", .unset),("counts", .unset),("runs", .unset)])
  (names:=[(J "rel",aq),(J "total",aq),(J "heads",aq),(J "rows",ae),(J "turn",ae),(J "first",aq),(J "place",aq),(J "mate",aq),(J "third",aq),(J "spots",ae),(J "least",aq),(J "lift",aq),(J "base",aq),(J "counts",ae),(J "runs",aq),(J "range",ag),(J "sorted",ag),(J "list",ag),(J "len",ag),(J "min",ag),(J "max",ag)])
  lv ⟨_,rfl,rfl⟩ rfl (by kernel_rfl) rfl rfl (by kernel_rfl) rfl rfl rfl rfl rfl (by kernel_rfl) (by kernel_rfl) (tY λa b=>by kernel_rfl) ?_ (λC O lv hN sD=>?_)
 ·show kl [(_,_),(_,_)] _ _
  exact ra
 ·have K:CK C _:=⟨O,lv.hand,hN⟩
  refine let1 (d:= .tup [cA (aK r), .list ((lR r (aK r) 0).map cA)]) (tup (ac (dY (eX:=[(".0", .unset),("u", .unset),("rel", .val (gB r))]) (out:=(aK r).map λ(u:Nat)=>D.int u) K (ua X K) (λC' K' e=>?_) ku ?_) (a1 (lst (ds:=[cA []]) (a1 (lst a0)))))) (iW K (cx K) (cx K)) ?_ rfl (jU K (.inl ik))
  ·unfold aK
   refine sr (aB 4) (λ(u:Nat)=>D.int u) _ (λ(u:Nat)=>D.int u) (λu=>[(".0", .unset),("u", .val (.int u)),("rel", .val (gB r))]) (λu hu=>?_) (λu hu=>?_) (λu hu _=>?_) λu hu=>jT
   ·exact cx K'
   ·have yL:=aW.mp hu
    refine kR K' num (VE.eq (mQ (IJ K' w (nm K') (nm K') yL) xa p0 (p1 (nm K')) p0 (by decide) ?_ (λ_ _=>rfl)) (d':= .list (((r.getD u []).take u).map D.int)) ?_) C7
    ·rw[ai,(w.at yL).2]; decide
    ·rw[oW]; show D.list _=D.list _; rw[yb]
   ·exact nm K'
  ·rw[ai]; exact aN 0xb80210e2da84801 tt hh
  ·refine mR (xs:=(aK r).map λ(u:Nat)=>D.int u) K (jF K (nm K) bp) (λxs ρ=>∃(k:Nat) (b5:Bd),xs.length=k/\k<=(aK r).length/\(∀x∈xs,∃i,x=D.int i)/\ρ=hZ r t (.val (cA (aK r))) (.val (.list ((lR r (aK r) ((aK r).length-k)).map cA))) b5 .unset .unset .unset .unset .unset .unset .unset .unset .unset .unset) ⟨(aK r).length,_,by rw[ai],bL _,λx hx=>by obtain⟨u,_,rfl⟩:=aw.mp hx; exact⟨_,rfl⟩,by rw[Nat.sub_self]; rfl⟩ ?_ ?_
   ·rintro ρ ⟨k,b5,e1,e2,e3,rfl⟩
    obtain rfl:k=0:=e1.symm
    exact y4 X L K
   ·rintro y xs ρ ⟨k,b5,e1,e2,e3,rfl⟩
    obtain⟨k,rfl⟩:∃j,k=j+1:=⟨xs.length,by rw[<-e1]; rfl⟩
    obtain⟨i,rfl⟩:=e3 y (.head _)
    have QM:xs.length=k:=by simpa using e1
    have hk:(aK r).length-k=((aK r).length-(k+1))+1:=by exact SR e2 e1 QM
    obtain⟨rows,B4⟩:∃rows,rows=lR r (aK r) ((aK r).length-(k+1)):=⟨_,rfl⟩
    have PB:∀row∈rows,row.length<=10:=by rw[B4]; exact L.len _ (by exact Ny e2 e1 QM)
    have hbd:rows.length<=1000:=by rw[B4]; exact L.bound _ (by exact Ny e2 e1 QM)
    rw[<-B4]
    unfold hZ
    refine⟨_,cx K,?_⟩
    refine Pu (eX:=[(".0", .unset),("row", .unset),("u", .unset),("heads", .val (cA (aK r))),("rel", .val (gB r))]) (out:=(qE r (aK r) rows).map cA) K (jF K (nm K) bp) (λC' K' e=>?_) ku ?_ kD ?_
    ·unfold qE
     rw[Hm,aM]
     refine BV rows cA _ (λrow=>[(".0", .unset),("row", .val (cA row)),("u", .unset),("heads", .val (cA (aK r))),("rel", .val (gB r))]) (λrow hr=>?_) (λrow hr=>?_) λrow hr=>jT
     ·exact cx K'
     ·have J9:=PB row hr
      refine BU (ys:=Py (aK r)) (jF K' (d:=cA (aK r)) (nm K') bp) ?_
      show Clause W C' _ _ _ _ ((aK r).map λ(u:Nat)=>D.int u) ((((aK r).filter (qD r (aK r) row)).map λu=>row++[u]).map cA)
      rw[aM]
      refine sr (aK r) (λ(u:Nat)=>D.int u) (qD r (aK r) row) _ (λu=>[(".0", .unset),("row", .val (cA row)),("u", .val (.int u)),("heads", .val (cA (aK r))),("rel", .val (gB r))]) (λu hu=>?_) (λu hu=>?_) (λu hu _=>?_) λu hu=>jT
      ·exact cx K'
      ·have yL:=qF hu
       refine .eq (Ie (vr (kR K' (nm K') (nm K') wu) λ_=>vr (kR K' (VE.eq (dY (eX:=[(".0", .unset),("v", .unset),("rel", .val (gB r)),("row", .val (cA row)),("u", .val (.int u))]) (out:=((aK r).filter λv=>decide (bF r v u=2)&& !row.contains v).map λ(v:Nat)=>D.int v) K' (jF K' (nm K') bp) (λJX fk LI=>?_) ku ?_) (d':=cA ((aK r).filter λv=>decide (bF r v u=2)&& !row.contains v)) rfl) (lst a0) Fo) λ_=>EV)) ?_
       ·refine sr (aK r) (λ(v:Nat)=>D.int v) (λv=>decide (bF r v u=2)&& !row.contains v) (λ(v:Nat)=>D.int v) (λv=>[(".0", .unset),("v", .val (.int v)),("rel", .val (gB r)),("row", .val (cA row)),("u", .val (.int u))]) (λv hv=>?_) (λv hv=>?_) (λv hv _=>?_) λv hv=>jT
        ·exact cx fk
        ·have Im:=qF hv
         refine .eq (Ie (vr (kR fk (ib fk w (nm fk) (nm fk) (nm fk) Im yL) num ia) λ_=>vr (kR fk (nm fk) (nm fk) wu) λ_=>EV)) (by simp)
        ·exact nm fk
       ·rw[ai]; exact aP (ba _ _) (by exact aN 0xb80210e2da84801 tt hh)
       ·unfold qD; simp
      ·refine .eq (bin K' (nm K') (lst (a1 (nm K'))) (qr ?_)) ?_
       ·simp; exact aN 0xe80217d253fc801 tt J9
       ·show D.list _=D.list _
        simp
    ·rw[ai]
     have:=y3 r (heads:=aK r) rows
     have:(aK r).length*rows.length<=4*1000:=qa hh hbd
     exact SS ‹_› this
    ·refine dj ⟨k, .val (.int i),QM,by exact aX 1787244348417 tt e2,λx hx=>e3 x (.tail _ hx),?_⟩
     rw[hk,lR,<-B4]
end
structure um(W:Wd):Prop where
 tab:W.B.side 147
 tq:∀x,W.B.sq 147 x↔∃m:MX,x=m.obj
 gq:∀gs,W.B.gq gs↔AllBare gs
 bmod:∃x:Obj,W.B.f 4=some x/\x.cls= .type "module" /\x.dict=some cP/\x.data= .plain
section
variable {W:Wd}{f o:Fz}{s:Shared}
noncomputable def Wd.now(W:Wd)(s:Shared)(L:Addr)(hs:∀a x,W.B.f a=some x->s.heap.get? a=some x)(hL:W.B.f L=none):Wd where
 prog:=W.prog
 w:=W.w
 B:={
  f:=λb=>if b=L then none else s.heap.get? b
  side:=λ_=>False
  sq:=λ_ _=>True
  os:=s.os
  dq:=λd=>d=s.drawn
  gq:=λg=>g=s.gens
  nolimit:=λh k=>W.B.nolimit h λa x e=>k a x (by
   have h1:a≠L:=λq=>by subst q; rw[e] at hL; cases hL
   show(if a=L then none else s.heap.get? a)=some x
   rw[if_neg h1]; exact hs _ _ e)
  ftab:=λ_ h=>h.elim}
section
variable {hs:∀a x,W.B.f a=some x->s.heap.get? a=some x}{L:Addr}{hL:W.B.f L=none}
theorem Ka{b:Addr}(h1:b≠L):(W.now s L hs hL).B.f b=s.heap.get? b:=if_neg h1
theorem xi(hf:∀a x,f a=some x->s.heap.get? a=some x)(h1:f L=none):f.le (W.now s L hs hL).B.f:=λa x e=>by
 have h1:a≠L:=λq=>by subst q; exact iC h1 e
 rw[Ka h1]; exact hf _ _ e
noncomputable def mW(L:Addr)(h:Heap):Fz:=λb=>if b=L then h.get? L else none
set_option tactic.hygienic true in
theorem Fx:St (W.now s L hs hL).B (W.now s L hs hL).B.f (mW L s.heap) s where
 sub:=λa x e=>by
  by_cases h:a=L
  ·exact iC (show(W.now s L hs hL).B.f a=none from if_pos h) e
  ·rw[show(W.now s L hs hL).B.f a=s.heap.get? a from if_neg h] at e; exact e
 own:=λa x e=>by
  unfold mW at e
  split at e
  ·rename_i h; subst h; exact e
  ·exact nomatch e
 apart:=λa x e=>by
  by_cases h:a=L
  ·subst h; exact iC (show(W.now s a hs hL).B.f a=none from if_pos rfl) e
  ·exact if_neg h
 base:= .refl _
 tab:=λ_ h=>h.elim
 fq:=λ_ h=>h.elim
 os:=⟨rfl,rfl⟩
 gens:=rfl
theorem B5(X:cH W):cH (W.now s L hs hL) where
 sm:=λa x e=>xi hs hL _ _ (X.sm a x e)
 QH:=let⟨mb,h1,h2⟩:=X.QH; ⟨mb,λh k=>h1 h λa x e=>k a x (xi hs hL _ _ e),h2⟩
theorem y5{f' o':Fz}{s':Shared}(S':St (W.now s L hs hL).B f' o' s'):∀b x,b≠L->s.heap.get? b=some x->s'.heap.get? b=some x:=λb x h1 e=>by
 exact S'.sub _ _ (S'.base _ _ ((Ka h1).trans e))
theorem y6{f' o':Fz}{s':Shared}(S':St (W.now s L hs hL).B f' o' s'):s'.os=s.os/\s'.drawn=s.drawn/\s'.gens=s.gens:=⟨S'.os.1,S'.os.2,S'.gens⟩
theorem IK{C:Cx}{ρ:Ro}(S:St W.B f o s)(H:bc C ρ f o)(hC:C.env.locals=L)(hv:∀n b,(n,b)∈ρ->(b= .unset\/∃d,b= .val d)/\C.env.kindOf n=some .local):bc C ρ (W.now s L hs hL).B.f (mW L s.heap):=by
 obtain⟨ob,es,ep,h1,h2,h3⟩:=H.ns
 have hl:mW L s.heap C.env.locals=some ob:=by rw[hC]; show(if L=L then _ else _)=_; rw[if_pos rfl,<-hC]; exact S.own _ _ h1
 have hle:f.le (W.now s L hs hL).B.f:=xi S.sub (by rw[<-hC]; exact S.fw h1)
 refine⟨H.ok,⟨ob,es,ep,hl,h2,h3⟩,λn b hm=>?_,H.nd,λn u r hm=>?_,λn n' u u' r r' hm=>?_⟩
 ·obtain⟨vo,hva,hh⟩:=H.vars n b hm
  obtain⟨hb,hk⟩:=hv n b hm
  refine⟨vo,?_,?_⟩
  ·rcases hva with⟨_,ob',pH,Ec,e1,e2,e3,e4⟩|⟨oZ,_⟩
   ·cases nM h1 e1; exact .inl ⟨hk,ob,pH,Ec,hl,e2,e3,e4⟩
   ·rw[hk] at oZ; rcases oZ with q|q<;>exact nomatch q
  ·rcases hb with rfl|⟨d,rfl⟩
   ·trivial
   ·exact let⟨v,e,x⟩:=hh; ⟨v,e,x.mono hle⟩
 ·obtain⟨hb,_⟩:=hv n _ hm; rcases hb with q|⟨_,q⟩<;>exact nomatch q
 ·obtain⟨hb,_⟩:=hv n _ hm; rcases hb with q|⟨_,q⟩<;>exact nomatch q
end
theorem St.more(S:St W.B f o s){s':Shared}(hk:∀b x,s.heap.get? b=some x->s'.heap.get? b=some x)(he:s'.os=s.os/\s'.drawn=s.drawn)(hg:W.B.gq s'.gens):St W.B f o s':=
 ⟨λa x e=>hk _ _ (S.sub a x e),λa x e=>hk _ _ (S.own a x e),S.apart,S.base,λc hc=>let⟨z,hz,hq⟩:=S.tab c hc; ⟨z,hk _ _ hz,hq⟩,S.fq,by rw[he.1,he.2]; exact S.os,hg⟩
theorem Fy(S:St W.B f o s){f' o':Fz}{s':Shared}(lf:f'.le f)(lb:W.B.f.le f')(lo:o'.le o)(hk:∀b x,(f' b=some x\/o' b=some x\/W.B.side b)->s.heap.get? b=some x->s'.heap.get? b=some x)(he:s'.os=s.os/\s'.drawn=s.drawn)(hg:W.B.gq s'.gens):St W.B f' o' s' where
 sub:=λa x e=>hk a x (.inl e) (S.sub _ _ (lf _ _ e))
 own:=λa x e=>hk a x (.inr (.inl e)) (S.own _ _ (lo _ _ e))
 apart:=λa x e=>by
  refine none_of λy q=>?_
  have:=S.apart _ _ (lf _ _ e); rw[lo _ _ q] at this; exact nomatch this
 base:=lb
 tab:=λc hc=>let⟨z,hz,hq⟩:=S.tab c hc; ⟨z,hk _ _ (.inr (.inr hc)) hz,hq⟩
 fq:=λc hc=>by
  constructor
  ·exact none_of λy q=>absurd hc (S.iH (.inl (lf _ _ q)))
  ·exact none_of λy q=>absurd hc (S.iH (.inr (lo _ _ q)))
 os:=by rw[he.1,he.2]; exact S.os
 gens:=hg
theorem FA(X:cH W)(XT:um W)(S:St W.B f o s){A:Around}{env:Env}{pos:Pos}{q:Str}{scope:Scope}{Q:Value->Shared->Prop}{E:Value->Shared->Prop}(hc:env.code= .ref 151)
 (h:∀v s',St W.B f o s'->s'.gens=s.gens->(∀b x,b≠147->s.heap.get? b=some x->s'.heap.get? b=some x)->Q v s'):wpAny W.M A (genexprCode env pos q scope) Q E s:=by
 obtain⟨x0,ht,Ld⟩:=S.tab 147 XT.tab
 obtain⟨⟨ps,ng⟩,rfl⟩:=(XT.tq _).mp Ld
 have hk:∃x vs file tf flags tg AO text tt,(KK W).lookup 151=some x/\x.data= .fields vs/\vs.getD 11 .none= .ref 147/\vs.getD 18 .none= .str file tf/\vs.getD 7 .none= .int flags tg/\vs.getD 9 .none= .bool AO/\vs.getD 10 .none= .int text tt:=
  ⟨_,_,_,_,_,_,_,_,_,rfl,rfl,rfl,rfl,rfl,rfl,rfl⟩
 obtain⟨x,vs,file,tf,flags,tg,AO,text,tt,hx,e1,e2,e3,e4,e5,e6⟩:=hk
 have lB:s.heap.IsCode 151 147 ps:=
  ⟨x,vs,file,tf,flags,tg,AO,text,tt,_,S.bT _ _ (X.sm _ _ hx),e1,e2,e3,e4,e5,e6,ht,rfl,ng,by decide⟩
 have Yj:s.heap.TableAt 151 147 ps:=by
  have hk:∃x vs,(KK W).lookup 151=some x/\x.cls= .type "code" /\x.data= .fields vs/\vs[11]? =some (.ref 147):=⟨_,_,rfl,rfl,rfl,rfl⟩
  obtain⟨y,us,h1,h2,h3,h4⟩:=hk
  exact⟨⟨y,us,S.bT _ _ (X.sm _ _ h1),h2,h3,h4⟩,ht⟩
 have fin:∀(h':Heap) (tk:Tok) (m:MX),uU 147 s.heap h'->h'.get? 147=some m.obj->St W.B f o {s with heap:=h',toks:=tk}:=λh' tk m he hg=>by
  refine⟨λa y e=>he a y (λq=>?_) (S.sub a y e),λa y e=>he a y (λq=>?_) (S.own a y e),S.apart,S.base,λc hc=>?_,S.fq,S.os,S.gens⟩
  ·subst q; exact S.iH (.inl e) XT.tab
  ·subst q; exact S.iH (.inr e) XT.tab
  ·by_cases q:c=147
   ·subst q; exact⟨_,hg,(XT.tq _).mpr ⟨m,rfl⟩⟩
   ·obtain⟨z,hz,hq⟩:=S.tab c hc
    exact⟨z,he c z q hz,hq⟩
 cases hf:codeAmong pos ps.toList with
 |some c'=>exact wpAny_genexprCode_hit hc lB hf (h _ _ S rfl λ_ _ _ e=>e)
 |none=>
  refine wpAny_genexprCodeX hc lB Yj hf λc' h' tk he _ _ Ob _ ht' _=>?_
  have htr:TriplesOk (ps++ #[rawInt pos.line,rawInt pos.col, .ref c']).toList:=by
   obtain⟨_,_,_,_,_,_,_,_,_,_,_,_,_,_,_,_,_,g1,g2,r,_⟩:=Ob
   cases nM ht'.2 g1; cases g2; exact r
  exact h _ _ (fin h' tk ⟨_,htr⟩ he ht'.2) rfl λb x hb e=>he b x hb e
theorem FC(X:cH W)(XT:um W)(S:St W.B f o s){A:Around}{Q:Addr->Shared->Prop}{E:Value->Shared->Prop}(h:Q cP s):wpAny W.M A (builtinsFor bV cP) Q E s:=by
 obtain⟨x,h1,h2,h3,h4⟩:=XT.bmod
 unfold builtinsFor
 have e:nsIn (KK W) bV "__builtins__" =some (some (.ref 4)):=by kernel_rfl
 refine aa ((looks_nsIn (X.sH S) e).here ?_)
 show wpAny _ A (if((4:Addr)==cP)=true then _ else _) Q E s
 rw[if_neg (by decide)]
 refine aa (A5 (S.bT _ _ h1) ?_)
 rw[h4,h3,h2]
 exact ao h
end
theorem pR{M:Model}{A:Around}{env:Env}{Q:Flow->Shared->Prop}{E:Value->Shared->Prop}{b:List Stmt}:∀{a:List Stmt} {s:Shared},
 wpAny M A (execs a env) (λfl s'=>match fl with| .next=>wpAny M A (execs b env) Q E s'|fl=>Q fl s') E s->wpAny M A (execs (a++b) env) Q E s:=by
 intro a s h
 have e:∀a:List Stmt,execs (a++b) env=(do match <-execs a env with| .next=>execs b env|fl=>pure fl):=by
  intro a
  induction a with
  |nil=>rfl
  |cons x r ih=>
   rw[j1,execs_cons,execs_cons,bind_assoc]
   congr 1
   funext fl
   cases fl with
   |next=>exact ih
   |brk=>rfl
   |cont=>rfl
   |ret v=>rfl
 rw[e]
 refine aa (dD h (λfl s' h'=>?_) λ_ _ x=>x)
 cases fl with
 |next=>exact h'
 |brk=>exact ao h'
 |cont=>exact ao h'
 |ret v=>exact ao h'
section
variable {W:Wd}{C:Cx}{ρ a9:Ro}{names:List (Str×aC)}{f o:Fz}{s:Shared}
theorem C8{ob:Expr}{name:Str}{es:List Expr}{apos pos:Pos}{fv:Value}{da:D}{ds:List D}(ho:VE W C ρ ob da)(hm:Meth W da name fv)(hk:Kept W fv)(ha:VA W C ρ es ds)(S:St W.B f o s)(H:bc C ρ f o){Q:Value->Shared->Prop}{E:Value->Shared->Prop}
 (h:∀v vs f1 s1,f.le f1->St W.B f1 o s1->Den f1 da v->bQ f1 ds vs->wpAny W.M C.A (call fv (v::vs) []) Q E s1)
 (hp:autoParam ((aI es C.env).all (λx=>!x.1)=true) fM._auto_1) (hn:autoParam (es.length+0<30) vn._auto_1) (hl:autoParam ((apos.endLine==pos.line)=true) vn._auto_1) (hb:autoParam (bx ob name C.env (eval ob C.env)=eval ob C.env) fM._auto_1):
 wpAny W.M C.A (eval (.Call (.Attribute ob name apos) es [] pos) C.env) Q E s:=by
 show wpAny _ _ (do
  let ov <-bx ob name C.env (eval ob C.env)
  dF apos.atName
  eY ob name apos pos C.env ov (es.length+0) (backTo pos (aI es C.env)) []) _ _ s
 rw[hb]
 refine aa (ho.un f o s S H _ _ λv f1 s1 l1 S1 d1=>aa (aZ ?_))
 have qj:eC (es.length+0) (backTo pos (aI es C.env)) []=true:=by
  unfold eC
  have:=cn pos es C.env hp
  rw[mI] at this
  simp only[r9,kj,nq,if_true,lq,cq,aT,decide_eq_true_eq]
  exact⟨λx hx=>by simpa using this x hx,hn⟩
 unfold eY rP
 rw[qj]
 refine aa (aL (hm _ f1 o s1 v _ S1 d1 _ _ ?_))
 unfold jj
 rw[hl]
 refine aa (ao ?_)
 have jm:=cn pos es C.env hp
 refine d6 (P:=λh=>∀a x,W.B.f a=some x->h.get? a=some x) (by rw[jm]; rfl) hk (dm jm ?_)
 exact ha.un pos f1 o s1 S1 (H.mono l1 (.refl o)) _ _ λus f2 s2 l2 S2 d2=>⟨S2.bT,h v us f2 s2 (l1.trans l2) S2 (d1.mono l2) d2⟩
end
noncomputable def wD(p:Int×List D):D:= .tup (.int p.1::p.2)
noncomputable abbrev kS:List (Str×aC):=[(J ".0",ae),(J "tup",ae),(J "str",ag)]
section
variable {W:Wd}{f o:Fz}{s:Shared}
theorem IL(X:cH W){A:Around}{cenv:Env}{p:Int×List D}{v:Value}{m:Str->Option Value}{p1 p2 p3 p4 p5:Pos}{E:Value->Shared->Prop}(hA:A.handled=none)(hr:Rm A)(sD:cenv.scope.kind= .function)(hn:cenv.scope.names=kS)(hg:cenv.globals=bV)(hb:cenv.builtins=cP)(hc:cenv.cells=[])
 (hs:∀a x,f a=some x->s.heap.get? a=some x) (hL:f cenv.locals=none) (hB:W.B.f.le f) (wV:s.heap.Ns cenv.locals m) (hm:m (J "tup")=some v) (hd:Den f (wD p) v) (hp:p.1.natAbs<1000000):
 wpAny W.M A (eval (.Call (.Name (J "str") p1) [.Subscript (.Name (J "tup") p2) (.Constant (.int 0) 0 p3) p4] [] p5) cenv) (λy s'=>(∃t,y= .str (aS (lO p.1)) t)/\Keeps s s') E s:=by
 have hB0:W.B.f cenv.locals=none:=by
  refine none_of λy q=>?_
  have:=hB _ _ q; exact iC hL this
 have hs0:∀a x,W.B.f a=some x->s.heap.get? a=some x:=λa x e=>hs _ _ (hB _ _ e)
 let W':=W.now s cenv.locals hs0 hB0
 have X':cH W':=B5 X
 have S':=Fx (W:=W) (hs:=hs0) (hL:=hB0)
 have kd:∀n k,(n,k)∈kS->cenv.kindOf n=some k:=λn k h=>by unfold Env.kindOf; rw[hn]; exact cJ (by decide+kernel) h
 have O:Cx.Ok ⟨cenv,A,kS⟩:=⟨sD,hg,hb,λn k h _=>kd n k h,λn h=> .inr (kd n _ h),λn n' c c' _ _ e _=>(by rw[show cenv.cells=[] from hc] at e; exact nomatch e),hr⟩
 have K:CK ⟨cenv,A,kS⟩ kS:=⟨O,hA,rfl⟩
 obtain⟨ob,es,ep,n1,n2,n3,n4⟩:=wV
 have hl:mW cenv.locals s.heap cenv.locals=some ob:=by unfold mW; rw[if_pos rfl]; exact n1
 have H:bc ⟨cenv,A,kS⟩ [(".0", .unset),("tup", .val (wD p))] W'.B.f (mW cenv.locals s.heap):=by
  refine⟨O,⟨ob,es,ep,hl,n2,n3⟩,λn b qY=>?_,by(show[J ".0",J "tup"].Nodup; decide+kernel),λn u r qY=>?_,λn n' u u' r r' qY=>?_⟩
  ·rcases au.mp qY with e|qY
   ·cases e; exact⟨_, .inl ⟨kd _ _ (.head _),ob,es,ep,hl,n2,n3,rfl⟩,trivial⟩
   rcases au.mp qY with e|qY
   ·cases e; exact⟨_, .inl ⟨kd _ _ (.tail _ (.head _)),ob,es,ep,hl,n2,n3,rfl⟩,v,(n4 _).trans hm,hd.mono (xi hs hL)⟩
   ·exact nomatch qY
  ·simp at qY
  ·simp at qY
 have hE:VE W' ⟨cenv,A,kS⟩ [(".0", .unset),("tup", .val (wD p))] (.Call (.Name (J "str") p1) [.Subscript (.Name (J "tup") p2) (.Constant (.int 0) 0 p3) p4] [] p5) (.str (aS (lO p.1))):=
  bS (gl K (E0 X')) .type (a1 (dB (T:= "tuple") (di:= .int ((0:Nat):Int)) K (VE.eq (nm K (d:=wD p)) (d':= .tup (.int p.1::p.2)) rfl) num cu (fx rfl (by decide)))) (tO hp)
 refine hE.un _ _ s S' H _ _ λy f' s' l' S2 d2=>⟨d2,s'.heap,s'.toks,?_,λb x e=>?_⟩
 ·obtain⟨q1,q2,q3⟩:=y6 S2
  cases s'; simp only at q1 q2 q3; subst q1 q2 q3; rfl
 ·by_cases q:b=cenv.locals
  ·subst q; exact S2.own _ _ (by unfold mW; rw[if_pos rfl]; exact e)
  ·exact y5 S2 b x q e
end
noncomputable abbrev jK:List (Str×aC):=[(J "w",ae),(J "firsts",ae),(J "prefix",ae),(J "len",ag)]
noncomputable def PC(W:Wd)(i:Nat):Stmt:=(cj (KK W) 152).getD i (.Pass ⟨0,0,0,0⟩)
noncomputable def FD(ws:List (Int×List D))(i:Nat)(y:Value):Prop:=∃p t,ws[i]? =some p/\y= .str (aS (lO p.1)) t
theorem r5(n:Nat):passing (λ_=>true) n 0=aB n:=by unfold passing; simp
theorem IM{ws:List (Int×List D)}{l:List (Str×Tok)}(h:ItemsOf (λj y=>∃i,(passing (λ_=>true) ws.length 0)[j]? =some i/\FD ws i y) (pn l).toArray ws.length):l.map (·.1)=(ws.map λp=>lO p.1).map aS:=by
 obtain⟨h1,h2⟩:=h
 have hl:l.length=ws.length:=by simpa [pn] using h1
 refine nr (by simp[hl]) λi hi1 hi2=>?_
 have hi:i<l.length:=by simpa using hi1
 obtain⟨k,hk,p,t,hp,hy⟩:=h2 i (.str l[i].1 l[i].2) (by simp[pn,hi])
 rw[r5] at hk
 have hki:k=i:=by simp[cQ (by exact RD hl hi:i<ws.length)] at hk; exact hk.symm
 subst hki
 obtain⟨oZ,e⟩:=cI.mp hp
 simp only[List.getElem_map]
 rw[e]
 injection hy
theorem IP{W:Wd}(X:cH W){A:Around}{env:Env}(K:CK ⟨env,A,jK⟩ jK)(lv:Lv 3 A){ws:List (Int×List D)}(hw:∀p∈ws,p.1.natAbs<1000000/\(lO p.1).length<=100)(hn:ws.length<=100){f o:Fz}{s5:Shared}
 (S5:St W.B f o s5) (H:bc ⟨env,A,jK⟩ [("w", .val (.list (ws.map wD))),("firsts", .unset),("prefix", .unset)] f o) {a g Cg I:Nat} {fp:List Addr} (hG:GenAt W.prog W.w A.in4 a g Cg fp [I] (λ_=>true) ws.length (FD ws) 0 s5)
 (haC:a≠Cg) (haf:a∉fp) (hIf:I∈fp) (Yk:env.locals∉fp) (hLC:env.locals≠Cg) (hLa:env.locals≠a) (hcs:Jz∈fp) (QN:Jz≠Cg) (hcw:Jz≠I) (fC:∀b∈a::Cg::fp,b<=a)
 {P:Flow->Shared->Prop} {E:Value->Shared->Prop} {pp:Pos}
 (hP:∀v s7,(∃t,v= .str (aS (wordsOf (ws.map (·.1)))) t)->(∀b x,b≠env.locals->b≠Cg->b≠I->s5.heap.get? b=some x->s7.heap.get? b=some x)->s7.os=s5.os->s7.drawn=s5.drawn->GenOnlyQ g s5.gens s7.gens->P (.ret v) s7):
 wpAny W.M A (assignAll (.ref a) ((bk [.Name (J "firsts") pp] env).map (·.2))) (λ_ s'=>wpAny W.M A (execs ([PC W 1,PC W 2]++[PC W 3]) env) P E s') E s5:=by
 have hL0:W.B.f env.locals=none:=by
  obtain⟨ob,_,_,e,_⟩:=H.ns
  have:=S5.fw e
  refine none_of λy q=>?_
  rw[S5.base _ _ q] at this; exact nomatch this
 let W':=W.now s5 env.locals S5.bT hL0
 have X':cH W':=B5 X
 have S':St W'.B _ _ s5:=Fx (W:=W) (hs:=S5.bT) (hL:=hL0)
 have H':bc ⟨env,A,jK⟩ [("w", .val (.list (ws.map wD))),("firsts", .unset),("prefix", .unset)] W'.B.f (mW env.locals s5.heap):=by
  refine IK S5 H rfl λn b hm=>?_
  rcases au.mp hm with e|hm
  ·cases e; exact⟨.inr ⟨_,rfl⟩,K.ok.kinds _ _ (.head _) (by decide)⟩
  rcases au.mp hm with e|hm
  ·cases e; exact⟨.inl rfl,K.ok.kinds _ _ (.tail _ (.head _)) (by decide)⟩
  rcases au.mp hm with e|hm
  ·cases e; exact⟨.inl rfl,K.ok.kinds _ _ (.tail _ (.tail _ (.head _))) (by decide)⟩
  ·exact nomatch hm
 let pre:List Nat:=nh++(if(ws.length:Int)>1 then[115] else[])
 have AP:pre.length<=12:=by show(nh++_).length<=12; split<;>simp[nh]
 have iq:VS W' ⟨env,A,jK⟩ [("w", .val (.list (ws.map wD))),("firsts", .val (.raw (.ref a))),("prefix", .unset)] [PC W 1,PC W 2] (λout=>out= .next [("w", .val (.list (ws.map wD))),("firsts", .val (.raw (.ref a))),("prefix", .val (.str (aS pre)))]):=by
  refine let1 (st nh) (cx K) ?_
  refine jx (b:=decide (1<(ws.length:Int))) (kR K (bS (d:= .int ws.length) (gl K (jV X')) .builtin (a1 (nm K)) (by rw[show ws.length=(ws.map wD).length by simp]; exact jR (by simp; exact aN 0x35240085f495212a0201 tt hn))) num Er) (λe=>?_) λe=>?_
  ·have e1:(ws.length:Int)>1:=of_decide_eq_true e
   exact let1 (d:= .str (aS pre)) (VE.eq (bin K (nm K) (st [115]) (gS (by decide))) (by show D.str _=D.str (aS (nh++_)); rw[if_pos e1])) (cx K) (dj (dj rfl))
  ·have e1:¬(ws.length:Int)>1:=of_decide_eq_false e
   have e2:pre=nh:=by show nh++_=_; rw[if_neg e1,gU]
   rw[e2]
   exact dj (dj rfl)
 rw[BR]
 have Yl:VT W' ⟨env,A,jK⟩ [("w", .val (.list (ws.map wD))),("firsts", .unset),("prefix", .unset)] (.Name (J "firsts") pp) (.raw (.ref a)) [("w", .val (.list (ws.map wD))),("firsts", .val (.raw (.ref a))),("prefix", .unset)]:=cx K
 refine Yl.un.2 _ _ s5 (.ref a) S' H' rfl _ _ λf6 o6 s6 L6=>?_
 refine pR (iq.un f6 o6 s6 L6.st L6.env _ _ λout fl s7 hq ho=>?_)
 subst hq
 obtain⟨rfl,f7,o7,L7⟩:=ho
 have L:=L6.trans L7
 refine gM (nR (Ju ?_))
 refine VE.un (bin K (d:= .str (aS (pre++[32]))) (nm K) (st [32]) (gS (by simp; exact aN 0xf80217d253fc801 tt AP))) f7 o7 s7 L.st L.env _ _ λva f8 s8 l8 S8 d8=>?_
 refine C8 (C:=⟨env,A,jK⟩) (st [44,32]) (iu gP gO) .builtin (a1 (nm K (d:= .raw (.ref a)))) S8 (L.env.mono l8 (.refl _)) λv us f9 s9 l9 S9 dv dvs=>?_
 obtain⟨t0,rfl⟩:=dv
 obtain⟨u,r,rfl,hu,hr⟩:=dvs
 obtain rfl:u= .ref a:=hu
 obtain rfl:r=[]:=hr
 have kept:=y5 S9
 obtain⟨q1,q2,q3⟩:=y6 S9
 have ea:∀b∈a::Cg::fp,b≠env.locals:=λb hb q=>by
  rcases au.mp hb with e|hb
  ·exact hLa (q.symm.trans e)
  rcases au.mp hb with e|hb
  ·exact hLC (q.symm.trans e)
  ·exact Yk (q▸hb)
 have hG9:GenAt W.prog W.w A.in4 a g Cg fp [I] (λ_=>true) ws.length (FD ws) 0 s9:=by
  obtain⟨i1,i2,gs,i3,i4⟩:=hG
  refine⟨?_,W'.B.nolimit _ S9.bT,gs,by rw[q3]; exact i3,λxT hal=>i4 xT λb hb x e=>hal b hb x (kept b x (ea b (List.mem_cons_of_mem _ hb)) e)⟩
  obtain⟨ob,nm',qn,e,r⟩:=i1
  exact⟨ob,nm',qn,kept a ob (ea a (cw ..)) e,r⟩
 have hh:A.in4.handled=none:=K.hand
 have WS:=WalksS.genexpQ (prog:=W.prog) (w:=W.w) (A:=A.in4) hh a g Cg fp [I] (λ_=>true) ws.length (FD ws) haC haf (λb hb=>by rw[aA.mp hb]; exact hIf) (by have:=lv.depth; show A.depth<1000; exact aN 0xab895891040211fb12a0201 tt this) hcs QN (by simpa using hcw)
 have hlen:(passing (λ_=>true) ws.length 0).length=ws.length:=by rw[r5,ec]
 rw[hlen] at WS
 refine SC.joinGen WS.in4_2 (λi s h=>h.1.typeIs) hG9 (λb hb=>?_) (cw ..) (λi v hv=>?_) (λs10 l hm hi=>?_) (by size_fits)
 ·obtain⟨ob,nm',qn,e,r⟩:=hG9.1
  exact fI (fC b hb) (bJ e)
 ·obtain⟨k,hk,p,t,_,e⟩:=hv; exact⟨_,_,e⟩
 ·have hl:=IM hi
  rw[hl]
  have hp:∀l:List (Int×List D),(∀p∈l,(lO p.1).length<=100)->(cW [44,32] (l.map λp=>lO p.1)).length<=102*l.length:=by
   intro l
   induction l with
   |nil=>intro _; simp[cW]
   |cons a l ih=>
    intro h
    have h1:=ih λn hn=>h n (.tail _ hn)
    have h2:=h a (.head _)
    cases l with
    |nil=>simp[cW]; exact aN 7478879206459393 tt h2
    |cons b l=>simp only[aO,cW,a8,aQ,fg] at h1 ⊢; exact cG 0x14140d688421352400869414206b4434a4e1004201 tt h2 h1
  have hj:=hp ws λp hp=>(hw p hp).2
  refine⟨EB (λt ht=>?_) (by simp; exact aN 0x352400847ec4801 tt hn) (by decide),λt' k=>?_⟩
  ·obtain⟨p,hp,rfl⟩:=aw.mp ht
   have:=(hw p hp).2; exact aN 0x352400847ec4801 tt this
  ·obtain⟨t1,rfl⟩:=d8
   have ej:Txt.join (aS [44,32]) ((ws.map λp=>lO p.1).map aS)=aS (cW [44,32] (ws.map λp=>lO p.1)):=by
    show glued _ _=_
    rw[xY,sG]
   rw[ej]
   refine uY (λt2 k2=>?_) (by rw[bu,eT,eT,a8,Bm]; exact cG 0x1ad11043f08426a4806b043084210848540c201 tt hn AP hj)
   refine hP _ _ ⟨t2,?_⟩ (λb x h1 h2 h3 e=>hm.heap b x (by simp[h2,h3]) (kept b x h1 e)) (hm.os.trans q1) (hm.drawn.trans q2) (by rw[<-q3]; exact hm.gens)
   rw[sF]
   congr 2
   unfold wordsOf
   simp[pre,aM,Function.comp_def]
theorem Ym{W:Wd}(X:cH W)(XT:um W){A:Around}(lv:Lv 4 A){ws:List (Int×List D)}(hw:∀p∈ws,p.1.natAbs<1000000/\(lO p.1).length<=100)(hn:ws.length<=100):iK W A (.ref 152) [.list (ws.map wD)] (.str (aS (wordsOf (ws.map (·.1))))):=Au λf o s vs S hd Q E h=>by
 obtain⟨v1,r,rfl,h1,h2⟩:=hd
 obtain rfl:r=[]:=h2
 refine fR (X.code (P:=λ_=>True) 152 (n:=3) (ps:=["w"]) (ds:=[.list (ws.map wD)]) (ρ:=[("w", .val (.list (ws.map wD))),("firsts", .unset),("prefix", .unset)]) (names:=jK) lv ⟨_,rfl,rfl⟩ rfl (by kernel_rfl) rfl rfl (by kernel_rfl) rfl rfl rfl rfl rfl (by kernel_rfl) (by kernel_rfl) (λQ E k=>?_) ?_ S λf1 env du cU _ l1 lo jg H mJ si hm=>?_)
 ·have e:eR (cm (KK W) 152) ⟨[v1],[]⟩=pure [(J "w",v1)]:=by kernel_rfl
  show wpAny _ _ (eR (cm (KK W) 152) ⟨[v1],[]⟩) Q E s
  rw[e]
  exact ao (k [v1] f s (.refl f) S (.cons h1 .nil) trivial)
 ·show kl [(_,_)] _ _
  exact ra
 ·have K:CK ⟨env,A.deeper env,jK⟩ jK:=⟨H.ok,mJ.hand,rfl⟩
  refine gM (i5 (wpAny_GeneratorExp_make (cl:=[]) rfl rfl (by decide+kernel) rfl rfl (by have:=mJ.depth; show(A.deeper env).depth<1000; exact aN 0xab895891040211fb12a0201 tt this) ?_ λx=>rfl) rfl rfl)
  obtain⟨w0,_,_,DR,_⟩:=H.ns
  have DR:du env.locals=some w0:=DR
  have hLt:¬W.B.side env.locals:=jg.iH (.inr DR)
  have K9:o env.locals=none:=hm _ (.inl rfl)
  refine(nm K (d:= .list (ws.map wD))).un f1 du cU jg H _ _ λv f2 s2 l2 S2 d2=>?_
  obtain⟨ax,ol,vs,nn,rfl,g1,g2,g3,g4⟩:=d2
  refine ip ⟨ol,S2.sub _ _ g1,g2.1,nn,g3⟩ ?_
  have S3:St W.B f2 du {s2 with heap:=s2.heap.push {cls:= .type "list_iterator",data:= .fields #[.ref ax, .int 0 0]}}:=S2.more (λb x e=>aH _ e) ⟨rfl,rfl⟩ S2.gens
  refine⟨W.B.nolimit _ S3.bT,?_⟩
  refine FA X XT S3 si.1 λcode s4 S4 hg4 hk4=>?_
  have hgl:env.globals=bV:=H.ok.glob
  have hbn:env.builtins=cP:=H.ok.HE
  rw[hgl,hbn]
  refine FC X XT S4 ?_
  intro h' pM JN
  --K5 addresses
  have hIt:s2.heap.objs.size≠147:=gQ (S2.ju XT.tab)
  have hI4:s4.heap.get? s2.heap.objs.size=some {cls:= .type "list_iterator",data:= .fields #[.ref ax, .int 0 0]}:=hk4 _ _ hIt (bC _ rfl)
  have PD:s2.heap.objs.size<s4.heap.objs.size:=bJ hI4
  have hLI:env.locals≠s2.heap.objs.size:=bg (S2.lt (.inr DR))
  have PE:env.locals<s4.heap.objs.size:=S4.lt (.inr DR)
  have FE:h'.objs.size=s4.heap.objs.size+1:=by rw[JN.1,cZ]
  have Yn:ax≠s2.heap.objs.size:=bg (S2.lt (.inl g1))
  have f2L:f2 env.locals=none:=S2.fw DR
  have Yo:f2 2≠none:=λq=>by
   have h:∃x,(KK W).lookup 2=some x:=⟨_,rfl⟩
   obtain⟨x,hx⟩:=h
   rw[S2.base _ _ (X.sm _ _ hx)] at q; exact nomatch q
  have AO:∀b,b<s4.heap.objs.size->b≠env.locals->b∈(aB s4.heap.objs.size).filter (λb=>decide (b≠env.locals)):=λb hb ea=>bw.mpr ⟨aW.mpr hb,by simpa using ea⟩
  have wy:∀b x,s4.heap.get? b=some x->h'.get? b=some x:=λb x e=>JN.extBut b x (bg (bJ e)) (aH _ e)
  have hvs:(⟨vs⟩:Array Value).size=ws.length:=by rw[show(⟨vs⟩:Array Value).size=vs.length from rfl,g4.length,ai]
  have B6:∀b x,f2 b=some x->b≠env.locals:=λb x e q=>by subst q; exact iC f2L e
  have hh:(A.deeper env).in4.handled=none:=mJ.hand
  refine IP X K mJ hw hn (by exact S4.more (λb x e=>aH _ (wy b x e)) ⟨rfl,rfl⟩ ((XT.gq _).mpr (JE ((XT.gq _).mp S4.gens) rfl))) (H.mono l2 (.refl _)) (a:=h'.objs.size) (g:=s4.gens.size) (Cg:=s4.heap.objs.size) (I:=s2.heap.objs.size) (fp:=(aB s4.heap.objs.size).filter (λb=>decide (b≠env.locals))) ?_ ?_ ?_ ?_ ?_ ?_ ?_ ?_ ?_ ?_ ?_ λv s7 hv hk ho hdr hgq=>?_
  ·have hW0:∀A':Around,A'.handled=none->Walks W.prog W.w A' s2.heap.objs.size ((aB s4.heap.objs.size).filter (λb=>decide (b≠env.locals))) [s2.heap.objs.size] ws.length (λi v=>(⟨vs⟩:Array Value)[i]? =some v) (λi h=>h.IsListIter s2.heap.objs.size ax i/\h.IsList ax ⟨vs⟩):=λA' hA=>hvs▸(Walks.list hA s2.heap.objs.size ax Yn ⟨vs⟩).mono_fp λb hb=>by
    rcases au.mp hb with rfl|hb
    ·exact AO _ PD (Ne.symm hLI)
    ·rw[aA.mp hb]; exact AO _ (S4.lt (.inl g1)) (B6 _ _ g1)
   refine GenAt.freshD (cenv:=genEnv _ [] s4.heap.objs.size code cP env) hh hW0 (λ_=>true) (FD ws) ?_ ?_ ?_ ?_ ?_ ⟨_,_,_,bC _ rfl,rfl,rfl,rfl⟩ (xS ..) ?_ (pM.push _) ?_
   ·rfl
   ·rfl
   ·rfl
   ·intro hm; exact iM _ (aW.mp (bw.mp hm).1)
   ·refine⟨λA' E' i v sW m₂ _ _ _ _ _ _ _=>wpAny_tests_nil ⟨rfl,sW.heap,sW.toks,rfl,λ_ _ e=>e⟩,λA' E' i v sW m₂ hA Yp hun hPv _ wV hmx PF=>?_⟩
    have Yq:vs[i]? =some v:=by simpa using hPv
    obtain⟨d,E4,hd2⟩:=g4.get' Yq
    rw[av] at E4
    obtain⟨p,hp,rfl⟩:=fo.mp E4
    have old:∀b x,b≠env.locals->b≠s2.heap.objs.size->s4.heap.get? b=some x->sW.heap.get? b=some x:=λb x h1 h2 e=>PF b (AO _ (bJ e) h1) (by simpa using h2) x (aH _ (wy b x e))
    refine dD (IL X (f:=f2) (p:=p) hA ⟨?_,?_⟩ rfl rfl hgl rfl rfl (λb x e=>old b x (B6 _ _ e) (bg (S2.lt (.inl e))) (S4.sub _ _ e)) S4.gR S4.base wV hmx hd2 (hw p (bI hp)).1) (λy s' hy=>⟨?_,hy.2⟩) λ_ _ e=>e
    ·have:=mJ.depth; have h2:A'.depth<=(A.deeper env).depth+1:=Yp; exact aX 0x501008422ae2562441008455c4821 tt this h2
    ·have:=mJ.units; have h2:A'.units<=(A.deeper env).units+8:=hun; exact aX 0x1b04021086f784aca88201086f784821 tt this h2
    ·obtain⟨t,e⟩:=hy.1; exact⟨p,t,hp,e⟩
   ·refine⟨⟨_,aH _ (wy _ _ hI4),rfl,rfl⟩,ol,aH _ (wy _ _ (S4.sub _ _ g1)),g2.1,nn,g3⟩
   ·exact W.B.nolimit _ λb x e=>aH _ (wy _ _ (S4.bT _ _ e))
  ·rw[FE]; exact JB _
  ·intro hm; have:=aW.mp (bw.mp hm).1; exact lK 0x50300843404021 tt (ah FE.symm) this
  ·exact AO _ PD (Ne.symm hLI)
  ·intro hm; simpa using (bw.mp hm).2
  ·exact bg PE
  ·exact bg (by rw[FE]; exact jz PE)
  ·cases q:f2 2 with
   |none=>exact absurd q Yo
   |some x=>exact AO _ (S4.lt (.inl q)) (B6 _ _ q)
  ·cases q:f2 2 with
   |none=>exact absurd q Yo
   |some x=>exact bg (S4.lt (.inl q))
  ·cases q:f2 2 with
   |none=>exact absurd q Yo
   |some x=>exact bg (S2.lt (.inl q))
  ·intro b hb
   rcases au.mp hb with rfl|hb
   ·exact bL _
   rcases au.mp hb with rfl|hb
   ·exact aX 1787244348417 tt (ah FE.symm)
   ·have:=aW.mp (bw.mp hb).1; exact cG 0x28280421a020108441 tt (ah FE.symm) this
  ·show Q v s7
   refine h v f2 s7 (l1.trans l2) ?_ hv
   refine Fy S4 (.refl _) S4.base lo (λb x hb e=>?_) ⟨ho,hdr⟩ ((XT.gq _).mpr (hgq.bare (JE ((XT.gq _).mp S4.gens) rfl)))
   refine hk b x ?_ (bg (bJ e)) ?_ (aH _ (wy b x e))
   ·rcases hb with q|q|q
    ·exact B6 _ _ q
    ·exact λe2=>by rw[e2,K9] at q; exact nomatch q
    ·exact λe2=>hLt (e2▸q)
   ·rcases hb with q|q|q
    ·exact bg (S2.lt (.inl q))
    ·exact bg (S2.lt (.inr (lo _ _ q)))
    ·exact bg (S2.ju q)
noncomputable abbrev Mc:List Value:=[.ref 76, .type "Exception", .type "BaseException", .type "object"]
theorem FF(self:Value):refuseLoop self "__setattr__" Mc=pure ():=by
 rw[show Mc= .ref 76::[.type "Exception", .type "BaseException", .type "object"] from rfl,refuseLoop_ref]
 kernel_rfl
section
open PySem.Builtin.ObjectAttr PySem.Builtin.Getset_descriptor
variable {W:Wd}{f o:Fz}{s:Shared}
theorem B7(W:Wd):∃cd,clsIn (KK W) 76=some cd/\cd.mro=Mc/\cd.hasDict=true:=⟨_,rfl,rfl,rfl⟩
theorem y7{A:Around}{R:Result->Shared->Prop}{x:Addr}{ox:Obj}{od:Option Obj}{name:Str}{tk:Tok}{v:Value}(X:(KK W).In s.heap)(I:InstAt s.heap x ox 76 od)(ht:p8 (KK W) 76 name=some none)
 (h:∀b,wpAny W.M A.in1 (storeInOwnDict (.ref x) (.ref 76) (.str name tk) name v b)
  (λfin s'=>match fin with| .done f=>R (.ok f) s'| .again c'=>c'.quiet=true/\eD W.M A c' R s') (λe s'=>R (.error e) s') s):
 eD W.M A (.call (.builtin "object.__setattr__") ⟨[.ref x, .str name tk,v],[]⟩) R s:=by
 have SF:=PySem.F.store_object
 obtain⟨cd,hc,ho,_⟩:=B7 W
 have sub:Looks W.M s.heap (isInstance (.ref x) (.type "object")) true:=I.type.andThen (looks_mroIn X (by unfold mroIn; rw[hc,jM,ho]; rfl))
 refine rO SF.slot.plain SF.entry (@check_slot W.M _ _ s "object.__setattr__" "object" "__setattr__" (.ref x) [.str name tk,v] [] _ SF.kind SF.split sub (SF.args (.ref x) (.str name tk) v) ?_)
 obtain⟨attr,ha,hr⟩:=Option.bind_eq_some_iff.mp ht
 have hm:Looks W.M s.heap (mroOf (.ref 76)) cd.mro:=(xW X hc).andThen .now
 have L3:Looks W.M s.heap (storeTaker? attr) none:=by
  cases attr with
  |none=>cases hr; exact .now
  |some a=>
   obtain⟨b,hb,rq⟩:=fo.mp hr
   refine(looks_takesIn X hb).andThen ?_
   cases b with
   |true=>exact nomatch rq
   |false=>exact .now
 rw[osa_eq,refuse_eq]
 refine aa (aa (I.type.here (aa (hm.here ?_))))
 rw[ho,FF]
 refine ao (aa (I.type.here (aa ((hH X ha).here (aa (L3.here ?_))))))
 exact h _
theorem PG{A:Around}{x:Addr}{ox:Obj}{name:Str}{v:Value}{E:Value->Shared->Prop}{Q:Unit->Shared->Prop}(X:(KK W).In s.heap)(I:InstAt s.heap x ox 76 none)(hd:ox.dict=none){vs:Array Value}(hfv:ox.data= .fields vs)(hs:findIn (KK W) (.ref 76) "__setattr__" =some (some (.builtin "object.__setattr__")))(ht:p8 (KK W) 76 name=some none)
 (h:∀h' tk,h'.get? s.heap.objs.size=some (dictOf [⟨dw W.w.params name, .str name tk,v⟩] 1)->h'.get? x=some {ox with dict:=some s.heap.objs.size}->(∀b y,b≠x->s.heap.get? b=some y->h'.get? b=some y)->Q () {s with heap:=h',toks:=s.toks+2}):
 wpAny W.M A (setAttr (.ref x) name v) Q E s:=by
 refine set_plain X I hs (y7 (s:={s with toks:=s.toks+1}) X I ht λb=>?_)
 obtain⟨cd,hc,ho,Hc⟩:=B7 W
 obtain⟨hx,K6,hn,Lo⟩:=I
 obtain⟨oc,odi,oda,osl⟩:=ox
 dsimp only at K6 hd hfv
 subst K6 hd hfv
 have hxs:x<s.heap.objs.size:=bJ hx
 refine aa (ao (aa (aa (gK hx (aa (xW X hc _ _ _ _ (λ_ _ e=>e) ?_))))))
 rw[Hc,if_neg (by decide)]
 dsimp only
 rw[if_neg (by decide)]
 have QO:=aH {cls:= .type "dict",data:= .dict #[]} hx
 refine aa (Jt (aa (wpAny_update QO ?_)))
 unfold dictMade
 refine aa (ao (ao (a:=some s.heap.objs.size) ?_))
 refine aa (ao (aa ?_))
 have Dd:((s.heap.push {cls:= .type "dict",data:= .dict #[]}).update x λo=>{o with dict:=some s.heap.objs.size}).get? s.heap.objs.size=some (dictOf [] 0):=by
  rw[ct _ _ (bg hxs)]; exact bC _ rfl
 have Dx:=bK (λo=>{o with dict:=some s.heap.objs.size}) QO rfl
 unfold nsSet
 refine aa (aa (pj (ao (aa (p7 (aa (gK Dd ?_)))))))
 have D':=bK (DC name (dw W.w.params name) (.str name (s.toks+1)) v) Dd (by rw[mC]; rfl)
 rw[mC] at D'
 have c:(!([]:List cz).toArray.any (·.key.isStr name)&&([]:List cz).toArray.any (·.refKey))=false:=by simp
 rw[show(dictOf [] 0).data= .dict ([]:List cz).toArray 0 from rfl]
 dsimp only
 rw[p9,c]
 refine xC Dd ?_
 refine aa (xE D' (xG (by rw[ff,bu]; show 1<=_; simp[*])) ?_)
 refine ao (h _ (s.toks+1) D' ?_ λb y hb e=>?_)
 ·rw[ct _ _ (gQ hxs)]; exact Dx
 ·have hbs:s.heap.objs.size≠b:=gQ (bJ e)
  rw[ct _ _ hbs,ct _ _ (Ne.symm hb)]
  exact aH _ e
end
section
open PySem.Builtin.ObjectAttr PySem.Builtin.Getset_descriptor
variable {W:Wd}{f o:Fz}{s:Shared}
theorem PH{A:Around}{x dx:Addr}{ox:Obj}{es:List cz}{n:Nat}{name:Str}{v:Value}{E:Value->Shared->Prop}{Q:Unit->Shared->Prop}(X:(KK W).In s.heap)(I:InstAt s.heap x ox 76 (some (dictOf es n)))(hd:ox.dict=some dx)(hs:findIn (KK W) (.ref 76) "__setattr__" =some (some (.builtin "object.__setattr__")))(ht:p8 (KK W) 76 name=some none)
 (hl:es.any (·.refKey)=false) (hz:(putL name (dw W.w.params name) (.str name (s.toks+1)) v es).length<=1000)
 (h:∀h',h'.get? dx=some (dictOf (putL name (dw W.w.params name) (.str name (s.toks+1)) v es) (putN name es n))->fu dx s.heap h'->Q () {s with heap:=h',toks:=s.toks+2}):
 wpAny W.M A (setAttr (.ref x) name v) Q E s:=by
 refine set_plain X I hs (y7 (s:={s with toks:=s.toks+1}) X I ht λb=>?_)
 obtain⟨cd,hc,ho,Hc⟩:=B7 W
 obtain⟨hx,K6,hn,Lo⟩:=I
 obtain⟨oc,odi,oda,osl⟩:=ox
 dsimp only at K6 hd Lo
 subst K6 hd
 have Dd:s.heap.get? dx=some (dictOf es n):=Lo
 refine aa (ao (aa (aa (gK hx (aa (xW X hc _ _ _ _ (λ_ _ e=>e) ?_))))))
 rw[Hc]
 refine ao (a:=some dx) (aa (ao (aa ?_)))
 unfold nsSet
 refine aa (aa (pj (ao (aa (p7 (aa (gK Dd ?_)))))))
 have D':(s.heap.update dx (DC name (dw W.w.params name) (.str name (s.toks+1)) v)).get? dx=some (dictOf (putL name (dw W.w.params name) (.str name (s.toks+1)) v es) (putN name es n)):=by
  rw[bK _ Dd (by rw[mC]; rfl),mC]
 have c:(!es.toArray.any (·.key.isStr name)&&es.toArray.any (·.refKey))=false:=by
  rw[show es.toArray.any (·.refKey)=false by simpa using hl,pG]
 rw[show(dictOf es n).data= .dict es.toArray n from rfl]
 dsimp only
 rw[p9,c]
 refine xC Dd ?_
 refine aa (xE D' (xG (by rw[ff,bu]; exact aN 0xfd890021a06108421094001 tt hz)) ?_)
 exact ao (h _ D' (dT ..))
theorem Yr{A:Around}{x:Addr}{ox:Obj}{od:Option Obj}{name:Str}{v:Value}{expr:Bool}{E:Value->Shared->Prop}{Q:Value->Shared->Prop}(X:(KK W).In s.heap)(I:InstAt s.heap x ox 76 od)(hf:findObj (KK W) 76 od name=some (.value v))(hh:Ba v=true)
 (h:Q v {s with toks:=s.toks+1}):wpAny W.M A (gp (.ref x) name expr) Q E s:=by
 obtain⟨hp,g,d,t,os⟩:=s
 have L0:=I.type (M:=W.M)
 have L1:=hH (M:=W.M) X (show findIn (KK W) (.ref 76) "__getattribute__" =some (some (.builtin "BaseException.__getattribute__")) by kernel_rfl)
 have L2:=hH (M:=W.M) X (show findIn (KK W) (.ref 76) "__getattr__" =some none by kernel_rfl)
 have L3:=looks_find (M:=W.M) X I hf
 unfold gp getAttrBy
 refine aa (p7 (aL (aa (L0.at (aa (L1.at ?_))))))
 show wpAny _ _ (getAttrByItsOwn _ _ _ _ _ _) _ _ _
 unfold getAttrByItsOwn hookBefore
 rw[if_pos (show onTheHeap (.ref 76)=true from rfl)]
 refine aa (L2.at (aa (sN (aL ?_))))
 unfold callGetattribute
 rw[if_neg (by cases expr<;>decide)]
 unfold boundAndCalled
 have FG:=PySem.F.excAttr_ValueError.ga
 rw[FG.bind (.ref x)]
 refine aa (ao ?_)
 obtain⟨cd,hc,ho,_⟩:=B7 W
 have sub:Looks W.M hp (isInstance (.ref x) (.type "BaseException")) true:=I.type.andThen (looks_mroIn X (by unfold mroIn; rw[hc,jM,ho]; rfl))
 refine fR (rO FG.plain PySem.F.entry_bexc_ga (@check_slot W.M _ _ ⟨hp,g,d,t+1,os⟩ "BaseException.__getattribute__" "BaseException" "__getattribute__" (.ref x) [.str name t] [] _ (by decide+kernel) (by decide+kernel) sub (PySem.F.args_bexc_ga (.ref x) (.str name t)) ?_))
 show wpAny _ _ (do
  let tp <-typeOf (.ref x)
  match <-find (.ref x) tp name with
  | .value v=>ret v
  | .bind g a=>bindTo g a (.ref x) tp
  | .missing=>_) _ _ _
 refine aa (L0.at (aa (L3.at ?_)))
 refine ao ?_
 show wpAny _ _ (handedOut v) _ _ _
 rw[handedOut_of hh]; exact ao h
end
noncomputable abbrev cC(t:Addr)(dd:Option Addr)(tb:Value):Obj:={cls:= .ref 76,dict:=dd,data:= .fields #[.ref t,tb, .none, .none, .bool false, .none]}
theorem xj(W:Wd):∃k0 k1 k2 k3 k5 IQ sn sub ab col dd,(KK W).lookup 76=some (excClassObj "NannyNag" "NannyNag" 76 75 [.type "Exception"] [.type "Exception", .type "BaseException", .type "object"] IQ sn sub ab col dd k0 k1 k2 k3 k5 "Exception.__new__"):=⟨_,_,_,_,_,_,_,_,_,_,_,rfl⟩
section
variable {W:Wd}{f o:Fz}{s:Shared}
theorem Md{A:Around}{R:Result->Shared->Prop}{rest:List Value}(X:(KK W).In s.heap)(hr:rest.length<=10)
 (hq:eD W.M (A.under (.builtin "type.__call__" ⟨.ref 76::rest,[]⟩)) (.call (.ref 52) ⟨.ref (s.heap.objs.size+1)::rest,[]⟩) (InitBack (s.heap.objs.size+1) R)
  {s with heap:=(s.heap.push {cls:= .type "tuple",data:= .seq rest.toArray}).push (cC s.heap.objs.size none .none)}):
 eD W.M A (.call (.ref 76) ⟨rest,[]⟩) R s:=by
 obtain⟨h,g,d,t,os⟩:=s
 have F:=PySem.F.excBase_Exception
 obtain⟨k0,k1,k2,k3,k5,IQ,sn,sub,ab,col,dd,yF⟩:=xj W
 have hC:=X _ _ yF
 have hi:=hH (M:=W.M) X (show findIn (KK W) (.ref 76) "__init__" =some (some (.ref 52)) by kernel_rfl)
 have hb:=λself=>bind_fn (M:=W.M) X self (show typeIn (KK W) (.ref 52)=some (.type "function") by kernel_rfl)
 have ir:rest.length<=ll:=by rw[bu]; exact aN 0x3a0084308421084801 tt hr
 have f1:=tc_lookup
 have f2:=tc_bind (.ref 76)
 have hT:(⟨h,g,d,t,os⟩:Shared).TypeIs (.ref 76) "type":=⟨_,hC,rfl⟩
 refine gm ?_
 show wpAny _ _ (callAny (.ref 76) _) _ _ _
 repeat (any_goals (first|assumption|with_reducible refine ke hC ?_ |wp_step))
 refine⟨rfl,?_⟩
 refine codeAny_call_builtin_at (D6 _ (by decide+kernel)) entry_typeCall (wpAny_check_type_call_sub hC ?_)
 repeat (first|with_reducible refine ke hC ?_ |with_reducible refine wpAny_madeBy_exc hC ?_ |wp_step)
 refine codeAny_call_builtin_code (D6 _ F.quiet) (wpAny_check_new_sub F hC ?_)
 refine codeAny_exc_new_sub F hC ?_ ir
 show wpAny _ _ _ _ _ _
 have k:∀b o,h.get? b=some o->((h.push {cls:= .type "tuple",data:= .seq rest.toArray}).push (cC h.objs.size none .none)).get? b=some o:=λb o e=>aH _ (aH _ e)
 have Kb:=k _ _ hC
 have IS:((h.push {cls:= .type "tuple",data:= .seq rest.toArray}).push (cC h.objs.size none .none)).get? (h.objs.size+1)=some (cC h.objs.size none .none):=by heap_get
 have QN:(lg 76::[.type "Exception", .type "BaseException", .type "object"]).contains (.ref 76)=true:=by simp
 unfold isInstance
 repeat (first|with_reducible refine ke IS ?_ |(with_reducible refine sv Kb ?_; rw[QN])|wp_step)
 show wpAny _ _ (isSubtype (.ref 76) (.ref 76)) _ _ _
 refine sv Kb ?_
 rw[QN]
 have t1:Looks W.M ((h.push {cls:= .type "tuple",data:= .seq rest.toArray}).push (cC h.objs.size none .none)) (typeOf (.ref (h.objs.size+1))) (.ref 76):=(Looks.ld IS).andThen .now
 have i1:=hi.keeps k
 have b1:=(hb (.ref (h.objs.size+1))).keeps k
 rw[if_neg (by decide)]
 refine aa (aL ?_)
 show wpAny _ _ (callSpecial? (.ref (h.objs.size+1)) "__init__" rest []) _ _ _
 refine aa (aa (t1.at (i1.at (aL (aa (b1.at (aa (fR (codeAny_mono hq λr s' z=>?_)))))))))
 rcases r with e|(v|_|_|_)<;>first|exact z|exact z.elim|skip
 obtain⟨rfl,z⟩:=z
 exact ao (ao z)
end
section
variable {W:Wd}{C:Cx}{ρ:Ro}{names:List (Str×aC)}{f o:Fz}{s:Shared}
theorem PI{h:Heap}{e t:Addr}{tb:Value}(he:h.get? e=some (cC t none tb)):uS h e (cC t none tb) 76 none:=⟨he,rfl,rfl,trivial⟩
theorem FH{h:Heap}{e t dx:Addr}{tb:Value}{x:Obj}(he:h.get? e=some (cC t (some dx) tb))(hd:h.get? dx=some x):uS h e (cC t (some dx) tb) 76 (some x):=⟨he,rfl,rfl,hd⟩
theorem PJ(X:cH W)(K:CK C names){self attr:Str}{p1 pos:Pos}{e t:Addr}{tb:Value}{d:D}{v:Value}{Q:Unit->Shared->Prop}{E:Value->Shared->Prop}(LM:(self,Bd.val (.raw (.ref e)))∈ρ)(h1:(self==("__debug__" :Str))=false)(h2:(self==("__classdict__" :Str))=false)
 (hs:findIn (KK W) (.ref 76) "__setattr__" =some (some (.builtin "object.__setattr__"))) (ht:p8 (KK W) 76 attr=some none) (S:St W.B f o s) (H:bc C ρ f o) (he:o e=some (cC t none tb)) (hd:Den f d v)
 (h:∀f' dx es n s',f.le f'->o dx=none->dx≠e->St W.B f' ((o.put e (cC t (some dx) tb)).put dx (dictOf es n)) s'->eZ f' [(attr,d)] es->Q () s'):wpAny W.M C.A (assign (.Attribute (.Name self p1) attr pos) C.env v) Q E s:=by
 rw[xI]
 refine aa (aL ((nm K LM h1 h2).un f o s S H _ _ λu f1 s1 l1 S1 d1=>aa (aZ (aa (aL ?_)))))
 obtain rfl:u= .ref e:=d1
 have Me:=S1.own _ _ he
 refine PG (X.sH S1) (PI Me) rfl rfl hs ht λh' tk g1 g2 g3=>?_
 refine A4 (h f1 s1.heap.objs.size [⟨dw W.w.params attr, .str attr tk,v⟩] 1 _ l1 S1.fc (gQ (bJ Me)) ?_ ⟨_,_,_,_,rfl,hd.mono l1,rfl⟩)
 have hf0:=S1.gR
 have Mf:=S1.fw he
 have hde:s1.heap.objs.size≠e:=gQ (bJ Me)
 refine⟨λa x q=>g3 a x (λz=>by subst z; exact iC Mf q) (S1.sub a x q),λa x q=>?_,λa x q=>?_,S1.base,λc hc=>?_,λc hc=>⟨(S1.fq c hc).1,?_⟩,S1.os,S1.gens⟩
 ·by_cases z:a=s1.heap.objs.size
  ·subst z; cases nM (Fz.aJ ..) q; exact g1
  ·rw[Fz.az z] at q
   by_cases z2:a=e
   ·subst z2; cases nM (Fz.aJ ..) q; exact g2
   ·rw[Fz.az z2] at q; exact g3 a x z2 (S1.own a x q)
 ·have z:a≠s1.heap.objs.size:=λz=>by subst z; exact iC hf0 q
  have z2:a≠e:=λz=>by subst z; exact iC Mf q
  rw[Fz.az z,Fz.az z2]; exact S1.apart a x q
 ·obtain⟨m,hm,hq⟩:=S1.tab c hc
  exact⟨m,g3 _ _ (λz=>S1.iH (.inr he) (z▸hc)) hm,hq⟩
 ·have JP:c≠e:=λz=>S1.iH (.inr he) (z▸hc)
  rw[Fz.az (bg (S1.ju hc)),Fz.az JP]; exact(S1.fq c hc).2
theorem Kc(X:cH W)(K:CK C names){self attr:Str}{p1 pos:Pos}{e t dx:Addr}{tb:Value}{d:D}{v:Value}{fs:List (Str×D)}{es:List cz}{n:Nat}{Q:Unit->Shared->Prop}{E:Value->Shared->Prop}(LM:(self,Bd.val (.raw (.ref e)))∈ρ)(h1:(self==("__debug__" :Str))=false)(h2:(self==("__classdict__" :Str))=false)
 (hs:findIn (KK W) (.ref 76) "__setattr__" =some (some (.builtin "object.__setattr__"))) (ht:p8 (KK W) 76 attr=some none) (hz:(rA attr d fs).length<=1000) (S:St W.B f o s) (H:bc C ρ f o) (he:o e=some (cC t (some dx) tb)) (yN:o dx=some (dictOf es n)) (EJ:eZ f fs es) (hd:Den f d v)
 (h:∀f' es n s',f.le f'->St W.B f' (o.put dx (dictOf es n)) s'->eZ f' (rA attr d fs) es->Q () s'):wpAny W.M C.A (assign (.Attribute (.Name self p1) attr pos) C.env v) Q E s:=by
 rw[xI]
 refine aa (aL ((nm K LM h1 h2).un f o s S H _ _ λu f1 s1 l1 S1 d1=>aa (aZ (aa (aL ?_)))))
 obtain rfl:u= .ref e:=d1
 have Mg:=EJ.mono l1
 refine PH (X.sH S1) (FH (S1.own _ _ he) (S1.own _ _ yN)) rfl hs ht (Mg.find (name:=attr)).2.2 (by rw[(eZ.put (hd.mono l1) Mg).len]; exact hz) λh' g1 g2=>?_
 exact A4 (h f1 _ _ _ l1 ((S1.tok (s1.toks+2)).same yN g2 g1) (eZ.put (hd.mono l1) Mg))
end
noncomputable abbrev iY:List (Str×aC):=[(J "self",ae),(J "lineno",ae),(J "msg",ae),(J "line",ae)]
noncomputable abbrev IT(d1 d2 d3:D):List (Str×D):=[(J "lineno",d1),(J "msg",d2),(J "line",d3)]
theorem ae3{a b c:Expr}{x y z:Str}{p1 p2 p3:Pos}{env:Env}:bk [.Attribute a x p1, .Attribute b y p2, .Attribute c z p3] env=[(false,bE (.Attribute a x p1) env),(false,bE (.Attribute b y p2) env),(false,bE (.Attribute c z p3) env)]:=rfl
theorem AQ{a b c:Expr}{x y z:Str}{p1 p2 p3 tp vp q1 q2 q3:Pos}{k k2:Nat}{n1 n2 n3:Str}{env:Env}:cS [.Tuple [.Attribute a x p1, .Attribute b y p2, .Attribute c z p3] k tp] (.Tuple [.Name n1 q1, .Name n2 q2, .Name n3 q3] k2 vp) env=pure none:=by
 unfold cS
 exact qy λ_=>qy λ_=>if_pos rfl
section
variable {W:Wd}{f o:Fz}{s:Shared}
theorem IU(X:cH W){A:Around}(lv:Lv 3 A)(S:St W.B f o s){d1 d2 d3:D}{vs:List Value}(hd:bQ f [d1,d2,d3] vs){Q:Value->Shared->Prop}{E:Value->Shared->Prop}
 (h:∀e t dx es n f' s',f.le f'->o e=none->f' e=none->St W.B f' (o.put e (cC t (some dx) .none)) s'->f' dx=some (dictOf es n)->eZ f' (IT d1 d2 d3) es->Q (.ref e) s'):wpAny W.M A (call (.ref 76) vs []) Q E s:=by
 have PK:=hd
 obtain⟨v1,r,rfl,h1,v2,r2,rfl,h2,v3,r3,rfl,h3,h4⟩:=hd
 obtain rfl:r3=[]:=h4
 have LN:Lv 2 (A.under (.builtin "type.__call__" ⟨.ref 76::[v1,v2,v3],[]⟩)):=by
  have e:(A.under (.builtin "type.__call__" ⟨.ref 76::[v1,v2,v3],[]⟩)).units<=A.units+10:=by
   first
    |exact gy (n:=A.units) (k:=10)
    |exact cB (n:=1) (m:=10) (by(first|lia|omega)) A.units
    |exact cB (n:=2) (m:=10) (by(first|lia|omega)) A.units
    |exact cB (n:=3) (m:=10) (by(first|lia|omega)) A.units
  exact⟨by have:=lv.depth; show A.depth+1+4*2<=600; exact aN 0xab8958910402115712a923404201 tt this,by have:=lv.units; exact aX 0x1bde12b2a218043d0c001086f784aaa88201 tt e this,lv.hand⟩
 have S1:St W.B f o {s with heap:=s.heap.push {cls:= .type "tuple",data:= .seq [v1,v2,v3].toArray}}:=S.more (λb x e=>aH _ e) ⟨rfl,rfl⟩ S.gens
 have S2:=S1.gW (cC s.heap.objs.size none .none)
 have fC:(s.heap.push {cls:= .type "tuple",data:= .seq [v1,v2,v3].toArray}).objs.size=s.heap.objs.size+1:=cZ ..
 have QP:o (s.heap.objs.size+1)=none:=fC▸S1.fc
 have Mf:f (s.heap.objs.size+1)=none:=fC▸S1.gR
 rw[show({s with heap:=s.heap.push {cls:= .type "tuple",data:= .seq [v1,v2,v3].toArray}}:Shared).heap.objs.size=s.heap.objs.size+1 from fC] at S2
 generalize hE:s.heap.objs.size+1=e at*
 refine fR (Md (X.sH S) (by simp) ?_)
 rw[hE]
 generalize A.under (.builtin "type.__call__" ⟨.ref 76::[v1,v2,v3],[]⟩)=A' at LN ⊢
 refine X.code (P:=λ_=>True) 52 (n:=1) (ps:=["self","lineno","msg","line"]) (ds:=[.raw (.ref e),d1,d2,d3]) (ρ:=[("self", .val (.raw (.ref e))),("lineno", .val d1),("msg", .val d2),("line", .val d3)]) (names:=iY) LN ⟨_,rfl,rfl⟩ rfl (by kernel_rfl) rfl rfl (by kernel_rfl) rfl rfl rfl rfl rfl (by kernel_rfl) (by kernel_rfl) (λQ E k=>?_) ?_ S2 λf1 env du cU _ l1 lo jg H mJ si hm=>?_
 ·have eb:eR (cm (KK W) 52) ⟨[.ref e,v1,v2,v3],[]⟩=pure [(J "self", .ref e),(J "lineno",v1),(J "msg",v2),(J "line",v3)]:=by kernel_rfl
  show wpAny _ _ (eR (cm (KK W) 52) ⟨[.ref e,v1,v2,v3],[]⟩) Q E _
  rw[eb]
  exact ao (k [.ref e,v1,v2,v3] f _ (.refl f) S2 (.cons rfl PK) trivial)
 ·show kl [(_,_),(_,_),(_,_),(_,_)] _ _
  exact ra
 ·have K:CK ⟨env,A'.deeper env,iY⟩ iY:=⟨H.ok,mJ.hand,rfl⟩
  refine gM (i5 ((tup (ac (nm K) (ac (nm K) (a1 (nm K)))):VE W ⟨env,_,iY⟩ _ _ (.tup [d1,d2,d3])).un f1 du cU jg H _ _ λv f2 s2 l2 S2 dv=>?_) rfl AQ)
  rw[yG]
  have Me:du e=some (cC s.heap.objs.size none .none):=lo _ _ (Fz.aJ ..)
  have nU:∀a x,(o.put e (cC s.heap.objs.size none .none)) a=some x->∀b,b=a->¬Uses ⟨env,A'.deeper env,iY⟩ [("self", .val (.raw (.ref e))),("lineno", .val d1),("msg", .val d2),("line", .val d3)] b:=λa x hx b hb hu=>by
   subst hb
   rcases hu with hu|⟨n,u,r,hr,_⟩
   ·rcases hu with hu|⟨n,hn,hk,hl⟩
    ·exact iC (hm b (.inl hu)) hx
    ·have ro:∀n,n∈[J "self",J "lineno",J "msg",J "line"]->env.kindOf n=some .local:=λn hn=>by
      simp only[au,bo,or_false] at hn
      rcases hn with rfl|rfl|rfl|rfl
      ·exact K.ok.kinds _ _ (.head _) (by decide)
      ·exact K.ok.kinds _ _ (.tail _ (.head _)) (by decide)
      ·exact K.ok.kinds _ _ (.tail _ (.tail _ (.head _))) (by decide)
      ·exact K.ok.kinds _ _ (.tail _ (.tail _ (.tail _ (.head _)))) (by decide)
     have oZ:env.kindOf n=some .cell\/env.kindOf n=some .free:=hk
     rw[ro n hn] at oZ
     rcases oZ with q|q<;>exact nomatch q
   ·simp at hr
  have nUe:=nU e _ (Fz.aJ ..) e rfl
  show wpAny _ _ (bE (.Tuple [_,_,_] _ _) env v) _ _ _
  rw[arm_assign_Tuple]
  refine aa (aZ ?_)
  unfold unpack
  rw[ae3]
  refine aa (aL (lL (C:=⟨env,A'.deeper env,iY⟩) mJ.hand S2 (ds:=[d1,d2,d3]) (.inl rfl) dv rfl λus s3 S3 ds3=>?_))
  obtain⟨u1,r,rfl,du1,u2,r2,rfl,du2,u3,r3,rfl,du3,h4⟩:=ds3
  obtain rfl:r3=[]:=h4
  refine aa (aL (PJ (ρ:=[("self", .val (.raw (.ref e))),("lineno", .val d1),("msg", .val d2),("line", .val d3)]) X K (.head _) (by decide+kernel) (by decide+kernel) (by kernel_rfl) (by kernel_rfl) S3 (H.mono l2 (.refl _)) Me du1 λf4 dx es4 n4 s4 l4 yN uo S4 Ys=>?_))
  have H4:bc ⟨env,A'.deeper env,iY⟩ [("self", .val (.raw (.ref e))),("lineno", .val d1),("msg", .val d2),("line", .val d3)] f4 ((du.put e (cC s.heap.objs.size (some dx) .none)).put dx (dictOf es4 n4)):=by
   have Yt:¬Uses ⟨env,A'.deeper env,iY⟩ [("self", .val (.raw (.ref e))),("lineno", .val d1),("msg", .val d2),("line", .val d3)] dx:=λhu=>by
    obtain⟨x,hx⟩:=H.there hu
    exact iC yN hx
   exact((H.mono (l2.trans l4) (.refl _)).put nUe).put Yt
  refine aa (aL (Kc (t:=s.heap.objs.size) (tb:= .none) (ρ:=[("self", .val (.raw (.ref e))),("lineno", .val d1),("msg", .val d2),("line", .val d3)]) X K (.head _) (by decide+kernel) (by decide+kernel) (by kernel_rfl) (by kernel_rfl) (aP (oB _ _ _) (by simp)) S4 H4 ?_ (Fz.aJ ..) Ys (du2.mono l4) λf5 es5 n5 s5 l5 S5 Yu=>?_))
  ·rw[Fz.az (Ne.symm uo)]; exact Fz.aJ ..
  have H5:=H4.mono l5 (.refl _)
  have Yt:¬Uses ⟨env,A'.deeper env,iY⟩ [("self", .val (.raw (.ref e))),("lineno", .val d1),("msg", .val d2),("line", .val d3)] dx:=λhu=>by
   obtain⟨x,hx⟩:=H.there hu
   exact iC yN hx
  refine aa (aL (Kc (t:=s.heap.objs.size) (tb:= .none) (ρ:=[("self", .val (.raw (.ref e))),("lineno", .val d1),("msg", .val d2),("line", .val d3)]) X K (.head _) (by decide+kernel) (by decide+kernel) (by kernel_rfl) (by kernel_rfl) (aP (oB _ _ _) (aP (kh (oB _ _ _)) (by simp))) S5 (H5.put Yt) ?_ (Fz.aJ ..) Yu (du3.mono (l4.trans l5)) λf6 es6 n6 s6 l6 S6 Yv=>?_))
  ·rw[Fz.az (Ne.symm uo),Fz.az (Ne.symm uo)]; exact Fz.aJ ..
  refine ao (jn ?_)
  refine⟨rfl,?_⟩
  have S7:=S6.freeze (Fz.aJ ..)
  show Q (.ref e) s6
  refine h e s.heap.objs.size dx es6 n6 _ s6 (((l1.trans l2).trans l4).trans ((l5.trans l6).trans (Fz.bP (S6.fw (Fz.aJ ..))))) QP ?_ (S7.drop λa x hx=>?_) (Fz.aJ ..) (Yv.mono (Fz.bP (S6.fw (Fz.aJ ..))))
  ·rw[Fz.az (Ne.symm uo)]
   refine S6.fw (x:=cC s.heap.objs.size (some dx) .none) ?_
   rw[Fz.az (Ne.symm uo),Fz.az (Ne.symm uo),Fz.az (Ne.symm uo)]; exact Fz.aJ ..
  ·by_cases z:a=e
   ·subst z
    cases nM (Fz.aJ ..) hx
    unfold Fz.del
    rw[if_neg (Ne.symm uo),Fz.az (Ne.symm uo),Fz.az (Ne.symm uo),Fz.az (Ne.symm uo)]; exact Fz.aJ ..
   ·rw[Fz.az z] at hx
    have h1:du a=some x:=lo _ _ (by rw[Fz.az z]; exact hx)
    have z2:a≠dx:=λq=>by rw[q,yN] at h1; exact nomatch h1
    unfold Fz.del
    rw[if_neg z2,Fz.az z2,Fz.az z2,Fz.az z2,Fz.az z]; exact h1
theorem xk(X:cH W)(a:Addr){attr:Str}{p1 p2 p3:Pos}{A:Around}{e t dx:Addr}{tb:Value}{es:List cz}{n:Nat}{fs:List (Str×D)}{d:D}{Q:Value->Shared->Prop}{E:Value->Shared->Prop}
 (yF:∃ob,(KK W).lookup a=some ob/\ob.data= .func (cm (KK W) a)) (iq:(cm (KK W) a).body= .stmts [.Return (some (.Attribute (.Name (J "self") p1) attr p2)) p3]) (lB:codeIn (KK W) (cm (KK W) a).code (cm (KK W) a).qualname=true) (n9:(cm (KK W) a).closure=[])
 (fy:(cm (KK W) a).scope.names=[(J "self",ae)]) (hk:(cm (KK W) a).scope.kind= .function) (hg:(cm (KK W) a).globals=bV) (hb:(cm (KK W) a).builtins=cP)
 (w3:(cm (KK W) a).scope.isCoroutine=false) (og:(cm (KK W) a).scope.isGenerator=false) (jQ:∀v,eR (cm (KK W) a) ⟨[v],[]⟩=pure [(J "self",v)])
 (C6:findIn (KK W) (.ref 76) attr=some none) (II:A.depth<=590) (Na:A.units<=5990) (S:St W.B f o s) (he:f e=some (cC t (some dx) tb)) (yN:f dx=some (dictOf es n)) (EJ:eZ f fs es) (hd:fs.lookup attr=some d) (JY:∀u,d≠ .raw u)
 (h:∀v f' s',f.le f'->St W.B f' o s'->Den f' d v->Q v s'):wpAny W.M A (call (.ref a) [.ref e]) Q E s:=by
 obtain⟨ob,k1,k2⟩:=yF
 have ng:decide ([J "self"]:List Str).Nodup=true:=by decide+kernel
 refine fR (yQ (P:=λ_=>True) (ps:=[J "self"]) (ds:=[.raw (.ref e)]) (ρ:=[(J "self", .val (.raw (.ref e)))]) (X.sm _ _ k1) k2 (λh hB=>Be (K:=KK W) (λb x e=>hB _ _ (X.sm _ _ e)) lB) iq n9 (by show A.depth<1000; exact aN 0xa9e900211fb12a0201 tt II) (λQ E k=>?_) ?_ (of_decide_eq_true ng) (by rw[fy]; exact of_decide_eq_true ng) ?_ hk hg hb (λenv=>⟨?_,?_⟩) w3 og S λf1 env du cU _ l1 lo jg H sD si hm=>?_)
 ·rw[jQ]
  exact ao (k [.ref e] f s (.refl f) S (.cons rfl .nil) trivial)
 ·rw[fy]
  show kl [(_,_)] _ _
  exact ra
 ·intro m hm
  rw[fy]
  rw[aA.mp hm]
  exact .inl (.head _)
 ·show A.depth+1<=600; exact aN 0xa9e9002115712a0201 tt II
 ·show A.units+3<=6000; exact aN 0x1bdad200421bde12b0201 tt Na
 ·refine gM (nR (Bp (eg.name H.ok (n:=J "self") (d:= .raw (.ref e)) (.head _) (by decide+kernel) (by decide+kernel) f1 du cU jg H _ _ λv f2 s2 l2 S2 d2=>?_) rfl))
  obtain rfl:v= .ref e:=d2
  have QQ:=l1.trans l2
  obtain⟨w,HJ,hw2⟩:=((EJ.mono QQ).find (name:=attr)).1 d hd
  refine Yr (X.sH S2) (FH (S2.sub _ _ (QQ _ _ he)) (S2.sub _ _ (QQ _ _ yN))) (xX (by kernel_rfl) C6 rfl HJ) (handed hw2 JY) ?_
  exact h w f2 _ QQ ((S2.drop lo).tok _) hw2
end
theorem IV:Manifest.canonical "BaseException.__getattribute__" = "object.__getattribute__":=by decide+kernel
section
variable {W:Wd}{f o:Fz}{s:Shared}
theorem FI(X:cH W){fn:Addr}{name:Str}{A:Around}{e t dx:Addr}{tb:Value}{es:List cz}{n:Nat}{fs:List (Str×D)}{pl:Sem Bool}{Q:Value×List Value->Shared->Prop}{E:Value->Shared->Prop}
 (hf:findIn (KK W) (.ref 76) name=some (some (.ref fn))) (ht:isFn (KK W) (.ref fn)=true) (S:St W.B f o s) (he:f e=some (cC t (some dx) tb)) (yN:f dx=some (dictOf es n)) (EJ:eZ f fs es) (hl:fs.lookup name=none) (h:Q (.ref fn,[.ref e]) s):wpAny W.M A (xH (.ref e) name pl) Q E s:=by
 obtain⟨hp,g,d,t0,os⟩:=s
 have X':=X.sH S
 have I:uS hp e (cC t (some dx) tb) 76 (some (dictOf es n)):=FH (S.sub _ _ he) (S.sub _ _ yN)
 have L0:=I.type (M:=W.M)
 have L1:=hH (M:=W.M) X' (show findIn (KK W) (.ref 76) "__getattribute__" =some (some (.builtin "BaseException.__getattribute__")) by kernel_rfl)
 have L2:=hH (M:=W.M) X' (show findIn (KK W) (.ref 76) "__getattr__" =some none by kernel_rfl)
 have L3:=hH (M:=W.M) X' hf
 have L4:=looks_typeIn (M:=W.M) X' (v:= .ref fn) (t:= .type "function") (beq_iff_eq.mp ht)
 have h1:=(EJ.find (name:=name)).2.1 hl
 have Yw:=IV
 unfold xH specialOf
 refine aa (aa (L0.at (L1.at ?_)))
 dsimp only
 rw[Yw,if_neg (by decide)]
 refine aa (aa (L0.at (L2.at ?_)))
 refine aa (aa (L0.at (L3.at (aa (L4.at ?_)))))
 rw[if_neg (by decide+kernel)]
 refine aa (gK I.at_ ?_)
 refine aa (aa (gK (S.sub _ _ yN) ?_))
 rw[nsLook_of (show lookIn name (dictOf es n)=some none from h1)]
 refine ao ?_
 exact aa (m7 (ao h))
end
section
open PySem.Heap
variable {M:Model}{A:Around}{s:Shared}
theorem FJ{env:Env}{outer:List Env}{L e t dx:Addr}{Q:Unit->Shared->Prop}{E:Value->Shared->Prop}(FK:A.frames=some (env::outer))(hl:s.heap.FunFrames {} (env::outer))(hf:env.frame=some L)(he:s.heap.get? e=some (cC t (some dx) .none))
 (h:∀h' T,h'.get? e=some (cC t (some dx) (.ref T))->s.heap.get? T=none->T≠e->(∃oT ts,h'.get? T=some oT/\oT.data= .fields ts/\3<ts.size)->(∀b x,b≠e->b∉(env::outer).filterMap (·.frame)->s.heap.get? b=some x->h'.get? b=some x)->
  (∀b x,b≠e->s.heap.get? b=some x->∃sl,h'.get? b=some {x with slots:=sl})->Q () {s with heap:=h'}):
 wpAny M A (iL (.ref e) env) (λ_ s2=>wpAny M A (DT (.ref e) none) Q E s2) E s:=by
 have hd:(cC t (some dx) .none).data= .fields #[.ref t, .none, .none, .none, .bool false, .none]:=rfl
 unfold iL
 simp only[hf]
 refine aa (dE he hd (x:= .none) rfl ?_)
 rw[if_neg (by decide)]
 have Yx:e∉(env::outer).filterMap (·.frame):=λhm=>by
  obtain⟨_,o,ho,hnf⟩:=hl.mem hm
  rw[he] at ho; injection ho with ho; subst ho; exact hnf _ hd
 refine aa (wpAny_frameOf_fun FK hl hf λgf iR=>?_)
 refine aa (wpAny_entryPlaceOf λpl jm=>?_)
 unfold EntryCells.newEntry newFields
 refine aa (nQ ?_ (jm.sizeOk5 _ _ _ _ _))
 have Kd:gf.get? e=some (cC t (some dx) .none):=(iR.2.1 e Yx).trans he
 generalize hTo:({cls:= .type "traceback",dict:=none,data:= .fields ([d7, .ref L, .none,rawInt L, .none]++(if pl.isEmpty then bf 6 d7 else pl)).toArray}:Obj)=To
 have QR:To.data= .fields ([d7, .ref L, .none,rawInt L, .none]++(if pl.isEmpty then bf 6 d7 else pl)).toArray:=by rw[<-hTo]
 have hTf:To.isFreed=false:=Cy QR
 have Bu:=aH (h:=gf) To Kd
 refine A3 Bu hd (by simp) ?_
 have Yy:gf.objs.size≠e:=gQ (bJ Kd)
 have Ke:=bK (rb (·.setIfInBounds 1 (lg gf.objs.size))) Bu rfl
 have Kf:=(ct (gf.push To) (rb (·.setIfInBounds 1 (lg gf.objs.size))) (Ne.symm Yy)).trans (bC gf hTf)
 unfold DT
 refine aa (dE Ke (x:= .ref gf.objs.size) rfl rfl ?_)
 rw[if_pos (show(lg gf.objs.size != d7)=true from by simp)]
 refine A3 Kf QR (by simp only[ff,a8,aQ,fg]<;>exact aN 0xa5294a4e1084210a5a01 tt) ?_
 have keep:∀b o,b≠e->gf.get? b=some o->(((gf.push To).update e (rb (·.setIfInBounds 1 (lg gf.objs.size)))).update gf.objs.size (rb (·.setIfInBounds 3 ((none:Option Addr).elim d7 λf=>rawInt f)))).get? b=some o:=λb o hbe hb=>by
  have hbT:gf.objs.size≠b:=gQ (bJ hb)
  rw[ct _ _ hbT,ct _ _ (Ne.symm hbe)]
  exact aH _ hb
 refine h _ gf.objs.size ?_ ?_ Yy ⟨_,_,bK _ Kf (Cy (GV QR _)),GV QR _,?_⟩ (λb x hb hn hx=>keep b x hb ((iR.2.1 b hn).trans hx)) λb x hb hx=>?_
 ·rw[ct _ _ Yy]; exact Ke
 ·refine none_of λx q=>?_
  obtain⟨sl,hs⟩:=iR.2.2 _ _ q
  exact absurd (bJ hs) (iM _)
 ·simp only[Array.size_setIfInBounds,ff,a8,aQ,fg]; (first|lia|omega)
 ·obtain⟨sl,hs⟩:=iR.2.2 b x hx
  exact⟨sl,keep b _ hb hs⟩
end
section
variable {W:Wd}{f o:Fz}{s:Shared}
theorem x_raise{A:Around}{env:Env}{x:Sem Value}{Q:Flow->Shared->Prop}{E:Value->Shared->Prop}(hh:A.handled=none)
 (h:wpAny W.M A x (λv cU=>∃e t dx,v= .ref e/\(KK W).In cU.heap/\cU.heap.get? e=some (cC t (some dx) .none)/\E (.ref e) cU) E s):wpAny W.M A (raiseStmt env (some x) none) Q E s:=by
 unfold raiseStmt
 refine aa (dD h (λv cU gf=>?_) λ_ _ x=>x)
 obtain⟨e,t,dx,rfl,X,he,hE⟩:=gf
 obtain⟨k0,k1,k2,k3,k5,IQ,sn,sub,ab,col,dd,yF⟩:=xj W
 have hC:=X _ _ yF
 have hcB:(lg 76::[.type "Exception", .type "BaseException", .type "object"]).contains (.type "BaseException")=true:=by decide
 obtain⟨hp,g,d,tk,os⟩:=cU
 repeat (first|with_reducible refine ke he ?_ |with_reducible refine ke hC ?_ |(with_reducible refine sv hC ?_; rw[hcB])|wp_step)
 exact wpAny_raiseNew_none hh hE
theorem IW{A:Around}{env:Env}{c:Expr}{pos:Pos}{Q:Flow->Shared->Prop}{E:Value->Shared->Prop}(hh:A.handled=none)
 (h:wpAny W.M A (eval c env) (λv cU=>∃e t dx,v= .ref e/\(KK W).In cU.heap/\cU.heap.get? e=some (cC t (some dx) .none)/\E (.ref e) cU) E s):wpAny W.M A (exec (.Raise (some c) none pos) env) Q E s:=by
 rw[arm_exec_Raise]
 refine aa (aZ (x_raise hh ?_))
 exact aa (dD h (λv cU gf=>aa (aZ (ao gf))) λ_ _ x=>x)
theorem IX{A:Around}{e t dx:Addr}{tb:Value}{Q:Bool->Shared->Prop}{E:Value->Shared->Prop}(X:(KK W).In s.heap)(he:s.heap.get? e=some (cC t (some dx) tb))(h:Q true s):wpAny W.M A (excMatches (.ref e) (.ref 76)) Q E s:=by
 obtain⟨k0,k1,k2,k3,k5,IQ,sn,sub,ab,col,dd,yF⟩:=xj W
 exact wpAny_excMatches_sub_self (X _ _ yF) he rfl (by decide) h
theorem FL{A:Around}{e t dx T:Addr}{oT:Obj}{ts:Array Value}{Q:Unit->Shared->Prop}{E:Value->Shared->Prop}(he:s.heap.get? e=some (cC t (some dx) (.ref T)))(hT:s.heap.get? T=some oT)(hd:oT.data= .fields ts)(hz:3<ts.size)
 (h:∀h',fu T s.heap h'->Q () {s with heap:=h'}):wpAny W.M A (DT (.ref e) none) Q E s:=by
 unfold DT
 refine aa (dE he (x:= .ref T) rfl rfl ?_)
 rw[if_pos (show(lg T != d7)=true from by simp)]
 exact A3 hT hd hz (h _ (dT ..))
end
section
variable {W:Wd}{C:Cx}{ρ a9:Ro}{f o:Fz}{s:Shared}
theorem bc.FN(H:bc C ρ f o){ob ob':Obj}(p:o C.env.locals=some ob)(hd:ob'.data=ob.data):bc C ρ f (o.put C.env.locals ob'):=by
 obtain⟨ob1,es,ep,p1,zZ,JK⟩:=H.ns
 cases nM p p1
 refine⟨H.ok,⟨ob',es,ep,Fz.aJ ..,hd.trans zZ,JK⟩,λx b hm=>?_,H.nd,H.sep,H.two⟩
 obtain⟨vo,hv,hh⟩:=H.vars x b hm
 refine⟨vo,?_,?_⟩
 ·rcases hv with⟨k,nf,yf,yg,e1,e2,e3,e4⟩|⟨k,c,nf,e1,e2,e3⟩
  ·cases nM p e1
   exact .inl ⟨k,ob',yf,yg,Fz.aJ ..,hd.trans e2,e3,e4⟩
  ·have:c≠C.env.locals:=λe=>by subst e; cases nM p e2; rw[zZ] at e3; exact nomatch e3
   exact .inr ⟨k,c,nf,e1,by rw[Fz.az this]; exact e2,e3⟩
 ·cases b with
  |unset=>trivial
  |val d=>exact hh
  |res u r=>exact⟨hh.1,r.mono _ _ _ _ (.refl f) (λa ha y e=>by rw[Fz.az (λq=>H.sep x u r hm a ha (.inl q))]; exact e) hh.2⟩
theorem IY(O:C.Ok)(S:St W.B f o s)(H:bc C ρ f o){n:Str}{pos:Pos}(aU:Ro.Set n .unset ρ a9)(hk:C.env.kindOf n=some .local){Q:Unit->Shared->Prop}{E:Value->Shared->Prop}
 (h:∀ob' s',St W.B f (o.put C.env.locals ob') s'->bc C a9 f (o.put C.env.locals ob')->Q () s'):wpAny W.M C.A (do bindName C.env n .none; unbindBehindTheSuite C.env n pos) Q E s:=by
 obtain⟨ob,es,ep,p,zZ,JK⟩:=H.ns
 have wV:s.heap.Ns C.env.locals (nsFind es):=⟨ob,es,ep,S.own _ _ p,zZ,JK,λ_=>rfl⟩
 refine wpAny_nameGoes_keeps hk wV (by rw[O.kind]; rfl) λh' v hn hs=>?_
 obtain⟨ob',pH,Ec,q,z0,z8,Qu⟩:=hn
 refine h ob' _ ((S.same p hs q).tok _) ⟨O,⟨ob',pH,Ec,Fz.aJ ..,z0,z8⟩,λx b hm=>?_,by rw[aU.keys]; exact H.nd,λx u r hm a ha hs=>?_,λx y u u' r r' p q=>?_⟩
 ·rcases aU.mem H.nd hm with⟨rfl,rfl⟩|⟨hx,hm⟩
  ·exact⟨_, .inl ⟨hk,ob',pH,Ec,Fz.aJ ..,z0,z8,rfl⟩,trivial⟩
  ·obtain⟨vo,hv,hh⟩:=H.vars x b hm
   refine⟨vo,?_,?_⟩
   ·rcases hv with⟨k,nf,yf,yg,e1,e2,e3,e4⟩|⟨k,c,nf,e1,e2,e3⟩
    ·cases nM p e1
     rw[zZ] at e2; cases e2
     exact .inl ⟨k,ob',pH,Ec,Fz.aJ ..,z0,z8,((Qu _).trans (if_neg hx)).trans e4⟩
    ·have:c≠C.env.locals:=λe=>by subst e; cases nM p e2; rw[zZ] at e3; exact nomatch e3
     exact .inr ⟨k,c,nf,e1,by rw[Fz.az this]; exact e2,e3⟩
   ·cases b with
    |unset=>trivial
    |val d=>exact hh
    |res u r=>exact⟨hh.1,r.mono _ _ _ _ (.refl f) (λa ha y e=>by rw[Fz.az (λq=>H.sep x u r hm a ha (.inl q))]; exact e) hh.2⟩
 ·rcases aU.mem H.nd hm with⟨_,e⟩|⟨_,hm⟩
  ·exact nomatch e
  ·exact H.sep x u r hm a ha ((Slots.set aU).mp hs)
 ·rcases aU.mem H.nd p with⟨_,e⟩|⟨_,p⟩
  ·exact nomatch e
  ·rcases aU.mem H.nd q with⟨_,e⟩|⟨_,q⟩
   ·exact nomatch e
   ·exact H.two x y u u' r r' p q
end
structure Mh(W:Wd)(outer:List Env):Prop where
 all:∀env∈outer,env.scope.kind≠ .module/\∃L,env.frame=some L/\W.B.side L
 sq:∀env∈outer,∀L,env.frame=some L->∀x,W.B.sq L x->(∀vs,x.data≠ .fields vs)/\∀sl,W.B.sq L {x with slots:=sl}
section
variable {W:Wd}{f o:Fz}{s:Shared}
theorem Mh.PM:∀{outer:List Env},Mh W outer->St W.B f o s->s.heap.FunFrames {} outer
 |[],_,_=>trivial
 |env::r,F,S=>by
  obtain⟨h1,L,h2,h3⟩:=F.all env (.head _)
  obtain⟨x,hx,hq⟩:=S.tab L h3
  exact⟨h1,⟨L,x,h2,by simp[Heap.get?],hx,(F.sq env (.head _) L h2 x hq).1⟩,Mh.PM ⟨λe he=>F.all e (.tail _ he),λe he=>F.sq e (.tail _ he)⟩ S⟩
set_option tactic.hygienic true in
theorem IZ{env:Env}{outer:List Env}{e t dx T:Addr}{w0:Obj}{h':Heap}(F:Mh W outer)(S:St W.B f o s)(hf:env.frame=some env.locals)(he:o e=some (cC t (some dx) .none))(hL:o env.locals=some w0)(DR:e≠env.locals)
 (k1:h'.get? e=some (cC t (some dx) (.ref T))) (k2:s.heap.get? T=none) (k3:T≠e) (k4:∃oT ts,h'.get? T=some oT/\oT.data= .fields ts/\3<ts.size) (k5:∀b x,b≠e->b∉(env::outer).filterMap (·.frame)->s.heap.get? b=some x->h'.get? b=some x)
 (k6:∀b x,b≠e->s.heap.get? b=some x->∃sl,h'.get? b=some {x with slots:=sl}):
 ∃sl oT ts,oT.data= .fields ts/\3<ts.size/\f.le (f.put e (cC t (some dx) (.ref T)))/\o T=none/\
  St W.B (f.put e (cC t (some dx) (.ref T))) (((o.del e).put env.locals {w0 with slots:=sl}).put T oT) {s with heap:=h'}:=by
 obtain⟨oT,ts,q1,q2,q3⟩:=k4
 obtain⟨sl,XF⟩:=k6 _ _ (Ne.symm DR) (S.own _ _ hL)
 have Mf:=S.fw he
 have hfL:=S.fw hL
 have PN:∀b,b∈(env::outer).filterMap (·.frame)->b=env.locals\/∃e'∈outer,e'.frame=some b:=λb hb=>by
  obtain⟨e',h1,h2⟩:=List.mem_filterMap.mp hb
  rcases au.mp h1 with rfl|h1
  ·cases nM hf h2; exact .inl rfl
  ·exact .inr ⟨e',h1,h2⟩
 have Mi:∀e'∈outer,∀b,e'.frame=some b->W.B.side b:=λe' h1 b h2=>by
  obtain⟨_,L,h3,h4⟩:=F.all e' h1
  cases nM h2 h3; exact h4
 have oT0:o T=none:=by
  refine none_of λy q=>?_
  have:=S.own _ _ q; exact iC k2 this
 have fT0:f T=none:=by
  refine none_of λy q=>?_
  have:=S.sub _ _ q; exact iC k2 this
 have Kg:∀b x,(f b=some x\/o b=some x)->b≠env.locals->b∉(env::outer).filterMap (·.frame):=λb x hx ea hb=>by
  rcases PN b hb with h|⟨e',h1,h2⟩
  ·exact ea h
  ·exact S.iH hx (Mi e' h1 b h2)
 refine⟨sl,oT,ts,q2,q3,Fz.bP Mf,oT0,λa x q=>?_,λa x q=>?_,λa x q=>?_,S.base.trans (Fz.bP Mf),λc hc=>?_,λc hc=>⟨?_,?_⟩,S.os,S.gens⟩
 ·by_cases z:a=e
  ·subst z; cases nM (Fz.aJ ..) q; exact k1
  ·rw[Fz.az z] at q
   exact k5 a x z (Kg a x (.inl q) λz2=>by subst z2; exact iC hfL q) (S.sub a x q)
 ·by_cases z:a=T
  ·subst z; cases nM (Fz.aJ ..) q; exact q1
  ·rw[Fz.az z] at q
   by_cases z2:a=env.locals
   ·subst z2; cases nM (Fz.aJ ..) q; exact XF
   ·rw[Fz.az z2] at q
    unfold Fz.del at q
    split at q
    ·exact nomatch q
    ·rename_i z3
     exact k5 a x z3 (Kg a x (.inr q) z2) (S.own a x q)
 ·by_cases z:a=e
  ·subst z
   rw[Fz.az (Ne.symm k3),Fz.az DR]; unfold Fz.del; rw[if_pos rfl]
  ·rw[Fz.az z] at q
   have z1:a≠T:=λw=>by subst w; exact iC fT0 q
   have z2:a≠env.locals:=λw=>by subst w; exact iC hfL q
   rw[Fz.az z1,Fz.az z2]; unfold Fz.del; rw[if_neg z]; exact S.apart a x q
 ·obtain⟨x,hx,hq⟩:=S.tab c hc
  have JP:c≠e:=λw=>S.iH (.inr he) (w▸hc)
  by_cases hb:c∈(env::outer).filterMap (·.frame)
  ·rcases PN c hb with w|⟨e',h1,h2⟩
   ·exact absurd (w▸hc) (S.iH (.inr hL))
   ·obtain⟨sl2,JU⟩:=k6 c x JP hx
    exact⟨_,JU,(F.sq e' h1 c h2 x hq).2 sl2⟩
  ·exact⟨x,k5 c x JP hb hx,hq⟩
 ·have JP:c≠e:=λw=>S.iH (.inr he) (w▸hc)
  rw[Fz.az JP]; exact(S.fq c hc).1
 ·have hcT:c≠T:=λw=>by obtain⟨x,hx,_⟩:=S.tab c hc; rw[w,k2] at hx; exact nomatch hx
  have hcL:c≠env.locals:=λw=>S.iH (.inr hL) (w▸hc)
  rw[Fz.az hcT,Fz.az hcL]; unfold Fz.del
  split
  ·rfl
  ·exact(S.fq c hc).2
end
noncomputable def C9(e:Addr)(fs:List (Str×D)):Res where
 v:= .ref e
 as:=[]
 P:=λf _=>∃t dx tb es n,f e=some (cC t (some dx) tb)/\f dx=some (dictOf es n)/\eZ f fs es
 mono:=λf f' o o' h _ q=>by obtain⟨t,dx,tb,es,n,h1,h2,h3⟩:=q; exact⟨t,dx,tb,es,n,h _ _ h1,h _ _ h2,h3.mono h⟩
 there:=λ_ _ _ a ha=>by exact nomatch ha
section
variable {W:Wd}{C:Cx}{ρ a9 bD bZ:Ro}{f o f' o':Fz}{s s':Shared}
theorem Left.at{env:Env}{A A':Around}{names:List (Str×aC)}(O:Cx.Ok ⟨env,A',names⟩)(L:Left W ⟨env,A,names⟩ ρ a9 f o f' o' s'):Left W ⟨env,A',names⟩ ρ a9 f o f' o' s':=
 ⟨L.le,L.st,⟨O,L.env.ns,L.env.vars,L.env.nd,L.env.sep,L.env.two⟩,L.step,L.rk,L.uses⟩
theorem bc.at{env:Env}{A A':Around}{names:List (Str×aC)}(O:Cx.Ok ⟨env,A',names⟩)(H:bc ⟨env,A,names⟩ ρ f o):bc ⟨env,A',names⟩ ρ f o:=⟨O,H.ns,H.vars,H.nd,H.sep,H.two⟩
theorem Cx.Ok.mark{env:Env}{A:Around}{names:List (Str×aC)}{h:Option Value}(O:Cx.Ok ⟨env,A,names⟩):Cx.Ok ⟨env,A.mark h,names⟩:=⟨O.kind,O.glob,O.HE,O.kinds,O.frees,O.apart,⟨O.room.depth,O.room.units⟩⟩
theorem Left.unset(H:bc C ρ f o){n:Str}{ob':Obj}(aU:Ro.Set n .unset ρ a9)(S':St W.B f (o.put C.env.locals ob') s')(H':bc C a9 f (o.put C.env.locals ob')):Left W C ρ a9 f o f (o.put C.env.locals ob') s':=by
 refine⟨.refl f,S',H',λa x e hm=>?_,λa m=> .inl ?_,λa u=> .inl ?_⟩
 ·rw[Fz.az (λq=>hm (.inl q))]; exact e
 ·rcases m with m|⟨n,h1,h2,h3⟩|⟨x,r,hm,ha⟩
  ·exact .inl m
  ·exact .inr (.inl ⟨n,h1,aU.keys▸h2,h3⟩)
  ·rcases aU.mem H.nd hm with⟨_,e⟩|⟨_,hm⟩
   ·exact nomatch e
   ·exact .inr (.inr ⟨x,r,hm,ha⟩)
 ·rcases u with u|⟨x,w,r,hm,ha⟩
  ·exact .inl ((Slots.set aU).mp u)
  ·rcases aU.mem H.nd hm with⟨_,e⟩|⟨_,hm⟩
   ·exact nomatch e
   ·exact .inr ⟨x,w,r,hm,ha⟩
set_option tactic.hygienic true in
theorem I0{e:Addr}{x:Obj}(h:o e=none):(o.put e x).del e=o:=by
 funext b
 unfold Fz.del
 split
 ·rename_i q; subst q; exact h.symm
 ·rename_i q; exact Fz.az q
theorem uq(X:cH W):cK W (J "NannyNag") (.ref 76):=X.glob (by kernel_rfl)
end
section
variable {W:Wd}
noncomputable def Raises(W:Wd)(C:Cx)(ρ:Ro)(body:List Stmt)(fs:List (Str×D)):Prop:=∀f o s,St W.B f o s->bc C ρ f o->∀(P:Flow->Shared->Prop) (E:Value->Shared->Prop),
 (∀e t dx es n f' s',f.le f'->o e=none->f' e=none->St W.B f' (o.put e (cC t (some dx) .none)) s'->f' dx=some (dictOf es n)->eZ f' fs es->E (.ref e) s')->wpAny W.M C.A (execs body C.env) P E s
theorem I2(X:cH W){env:Env}{A:Around}{names:List (Str×aC)}{outer:List Env}(K:CK ⟨env,A,names⟩ names)(ro:env.frame=some env.locals)(FK:A.frames=some (env::outer))(F:Mh W outer){ρ a9:Ro}{bD bZ:Bd->Ro}{nm:Str}{body hb rest:List Stmt}{qh:Stmt}{fs:List (Str×D)}{p qG pos:Pos}{Q:Out->Prop}
 (hk:(nm,ae)∈names) (hg:(J "NannyNag",ag)∈names) (aU:∀b,Ro.Set nm b ρ (bD b)) (Mj:∀b b',Ro.Set nm b' (bD b) (bD b')) (He:∀b,(nm,b)∈bD b) (Kh:∀b,Ro.Set nm .unset (bZ b) a9)
 (iq:Raises W ⟨env,A,names⟩ ρ body fs)
 (hh:∀e,VS W ⟨env,A.mark (some (.ref e)),names⟩ (bD (.res true (C9 e fs))) (qh::hb) (λout=>out= .next (bZ (.res true (C9 e fs)))))
 (ir:VS W ⟨env,A,names⟩ a9 rest Q):VS W ⟨env,A,names⟩ ρ (.Try body [.ExceptHandler (some (.Name (J "NannyNag") p)) (some nm) (qh::hb) qG] [] [] pos::rest) Q:=vs (.cons λf o s S H P E hP=>by
 rw[arm_exec_Try]
 refine aa (aZ ?_)
 refine Jr (iq f o s S H _ _ λe t dx es n f1 s1 l1 QP Mf S1 yN EJ=>?_)
 obtain⟨w0,Qx,W2,hL,hLd,hLk⟩:=id H.ns
 have hL:o env.locals=some w0:=hL
 have DR:e≠env.locals:=λq=>by rw[<-q,QP] at hL; cases hL
 have hL1:(o.put e (cC t (some dx) .none)) env.locals=some w0:=by rw[Fz.az (Ne.symm DR)]; exact hL
 have PO:env.scope.kind= .function:=K.ok.kind
 refine FJ FK ⟨by rw[PO]; decide,⟨env.locals,w0,ro,by simp[Heap.get?],S1.own _ _ hL1,λvs q=>by rw[hLd] at q; cases q⟩,F.PM S1⟩ ro (S1.own _ _ (Fz.aJ ..)) λh' T k1 k2 k3 k4 k5 k6=>?_
 obtain⟨sl,oT,ts,t1,t2,l2,hoT,S2⟩:=IZ F S1 ro (Fz.aJ ..) hL1 DR k1 k2 k3 k4 k5 k6
 rw[I0 QP] at S2
 have FO:o T=none:=by rw[Fz.az k3] at hoT; exact hoT
 have hTL:T≠env.locals:=λq=>by rw[q,hL] at FO; cases FO
 have O':Cx.Ok ⟨env,A.mark (some (.ref e)),names⟩:=K.ok.mark
 have H1:bc ⟨env,A,names⟩ ρ (f1.put e (cC t (some dx) (.ref T))) (o.put env.locals {w0 with slots:=sl}):=(H.mono (l1.trans l2) (.refl _)).FN hL rfl
 have nUT:¬Uses ⟨env,A,names⟩ ρ T:=λhu=>by obtain⟨x,hx⟩:=H.there hu; exact iC FO hx
 have H2:bc ⟨env,A.mark (some (.ref e)),names⟩ ρ (f1.put e (cC t (some dx) (.ref T))) ((o.put env.locals {w0 with slots:=sl}).put T oT):=(H1.put nUT).at O'
 refine wpAny_handleBy_cons (codeAny_handlers_test ?_) (by intro q; exact nomatch q)
 refine eg.glob (C:=⟨env,A.mark (some (.ref e)),names⟩) O' hg (uq X) (by decide+kernel) _ _ _ S2 H2 _ _ λc f3 s3 l3 S3 d3=>?_
 obtain rfl:c= .ref 76:=d3
 have Yz:f3 e=some (cC t (some dx) (.ref T)):=l3 _ _ (Fz.aJ ..)
 have YA:f3 dx=some (dictOf es n):=l3 _ _ (l2 _ _ yN)
 have YB:eZ f3 fs es:=(EJ.mono l2).mono l3
 refine IX (X.sH S3) (S3.sub _ _ Yz) ?_
 refine codeAny_handlers_suite_as ?_
 have YC:((o.put env.locals {w0 with slots:=sl}).put T oT) T=some oT:=Fz.aJ ..
 refine FL (S3.sub _ _ Yz) (S3.own _ _ YC) t1 t2 λh4 hs4=>?_
 have S4:=(S3.drop (o':=o.put env.locals {w0 with slots:=sl}) λa x hx=>by
  have z:a≠T:=λq=>by rw[q,Fz.az hTL,FO] at hx; exact nomatch hx
  rw[Fz.az z]; exact hx).wZ (S3.fw YC) (by rw[Fz.az hTL]; exact FO) (S3.iH (.inr YC)) hs4
 have H4:bc ⟨env,A,names⟩ ρ f3 (o.put env.locals {w0 with slots:=sl}):=H1.mono l3 (.refl _)
 have LA:Left W ⟨env,A,names⟩ ρ ρ f o f3 (o.put env.locals {w0 with slots:=sl}) {s3 with heap:=h4}:=⟨(l1.trans l2).trans l3,S4,H4,λa x ha hm=>by rw[Fz.az (λq=>hm (.inl q))]; exact ha,λ_ h=> .inl h,λ_ h=> .inl h⟩
 refine sA (C:=⟨env,A.mark (some (.ref e)),names⟩) O' S4 (H4.at O') hk (by decide) (aU (.val (.raw (.ref e)))) (d:= .raw (.ref e)) rfl λo5 s5 S5 H5 st5=>?_
 have LB:Left W ⟨env,A,names⟩ ρ (bD (.val (.raw (.ref e)))) f3 (o.put env.locals {w0 with slots:=sl}) f3 o5 s5:=⟨.refl f3,S5,H5.at K.ok,st5,λa hm=> .inl (oO (aU _) H4.nd a hm),λa hu=> .inl (Uses.of (aU _).keys (jO (aU _)) hu)⟩
 have LC:=LB.adopt (r:=C9 e fs) (Mj _ _) (He _) ⟨t,dx, .ref T,es,n,Yz,YA,YB⟩ (λa ha=>by exact nomatch ha) (λa ha=>by exact nomatch ha)
 refine(hh e).un f3 o5 s5 S5 (LC.env.at O') _ _ λout fl s7 hq ho=>?_
 subst hq
 obtain⟨rfl,f7,o7,L7⟩:=ho
 have QS:Left W ⟨env,A,names⟩ _ _ _ _ _ _ _:=L7.at K.ok
 refine IY (C:=⟨env,A,names⟩) K.ok QS.st QS.env (Kh _) (K.ok.kinds _ _ hk (by decide)) λob' s8 S8 H8=>?_
 have LD:=Left.unset QS.env (Kh _) S8 H8
 exact hP (.next a9) _ _ ir.un ⟨rfl,_,_,LA.trans (LC.trans (QS.trans LD))⟩)
end
section
variable {W:Wd}{C:Cx}{ρ a9:Ro}{names:List (Str×aC)}{f o:Fz}{s:Shared}
theorem FP{func:Expr}{es:List Expr}{pos:Pos}{fv:Value}{ds:List D}(hf:VE W C ρ func (.raw fv))(hk:Kept W fv)(ha:VA W C ρ es ds)(S:St W.B f o s)(H:bc C ρ f o){Q:Value->Shared->Prop}{E:Value->Shared->Prop}
 (h:∀vs f1 s1,f.le f1->St W.B f1 o s1->bQ f1 ds vs->wpAny W.M C.A (call fv vs []) Q E s1)
 (hp:autoParam ((aI es C.env).all (λx=>!x.1)=true) fM._auto_1)
 (he:autoParam (eval (.Call func es [] pos) C.env=(do fS pos (<-eval func C.env) [] (backTo pos (aI es C.env)) (gr pos (dI [] C.env)))) fM._auto_1):wpAny W.M C.A (eval (.Call func es [] pos) C.env) Q E s:=by
 rw[he]
 refine aa (hf.un f o s S H _ _ λv f1 s1 l1 S1 d1=>?_)
 obtain rfl:v=fv:=d1
 have jm:=cn pos es C.env hp
 refine d6 (P:=λh=>∀a x,W.B.f a=some x->h.get? a=some x) (by rw[jm]; rfl) hk (dm jm ?_)
 exact ha.un pos f1 o s1 S1 (H.mono l1 (.refl o)) _ _ λus f2 s2 l2 S2 d2=>⟨S2.bT,h us f2 s2 (l1.trans l2) S2 d2⟩
theorem I3(X:cH W)(K:CK C names)(lv:Lv 3 C.A){test e1 e2 e3:Expr}{d1 d2 d3:D}{orelse:List Stmt}{p FQ YD YE:Pos}(hg:(J "NannyNag",ag)∈names)(ht:VB W C ρ test true)(ha:VA W C ρ [e1,e2,e3] [d1,d2,d3])
 (hp:autoParam ((aI [e1,e2,e3] C.env).all (λx=>!x.1)=true) fM._auto_1) (he:autoParam (eval (.Call (.Name (J "NannyNag") p) [e1,e2,e3] [] FQ) C.env=(do fS FQ (<-eval (.Name (J "NannyNag") p) C.env) [] (backTo FQ (aI [e1,e2,e3] C.env)) (gr FQ (dI [] C.env)))) fM._auto_1):
 Raises W C ρ [.If test [.Raise (some (.Call (.Name (J "NannyNag") p) [e1,e2,e3] [] FQ)) none YD] orelse YE] (IT d1 d2 d3):=λf o s S H P E h=>by
 refine gM (wpAny_If (ht.un f o s S H _ _ λf1 s1 l1 S1=>?_))
 show wpAny _ _ (execs [_] C.env) _ _ s1
 refine gM (IW K.hand ?_)
 refine FP (gl K (uq X) hg) (X.kept (by kernel_rfl)) ha S1 (H.mono l1 (.refl o)) (λvs f2 s2 l2 S2 d2=>?_) hp he
 refine IU X lv S2 d2 λe t dx es n f3 s3 l3 h1 h2 S3 h4 h5=>⟨e,t,dx,rfl,X.sH S3,S3.own _ _ (Fz.aJ ..),?_⟩
 exact h e t dx es n f3 s3 ((l1.trans l2).trans l3) h1 h2 S3 h4 h5
theorem ur(X:cH W)(O:C.Ok){nm yi attr:Str}{e fn:Addr}{fs:List (Str×D)}{d:D}{w:Bool}{p apos pos:Pos}(hm:(nm,Bd.res w (C9 e fs))∈ρ)(h1:(nm==("__debug__" :Str))=false)(h2:(nm==("__classdict__" :Str))=false)
 (hf:findIn (KK W) (.ref 76) yi=some (some (.ref fn))) (ht:isFn (KK W) (.ref fn)=true) (hl:fs.lookup yi=none) (hk:Kept W (.ref fn))
 (IS:∀{A:Around} {f o:Fz} {s:Shared} {t dx:Addr} {tb:Value} {es:List cz} {n:Nat} {Q:Value->Shared->Prop} {E:Value->Shared->Prop},A.depth<=590->A.units<=5990->St W.B f o s->f e=some (cC t (some dx) tb)->f dx=some (dictOf es n)->eZ f fs es->
  (∀v f' s',f.le f'->St W.B f' o s'->Den f' d v->Q v s')->wpAny W.M A (call (.ref fn) [.ref e]) Q E s)
 (II:C.A.depth<=590) (Na:C.A.units<=5990) (LU:(apos.endLine==pos.line)=true) (hb:autoParam (bx (.Name nm p) yi C.env (eval (.Name nm p) C.env)=eval (.Name nm p) C.env) fM._auto_1):
 eg W C ρ (.Call (.Attribute (.Name nm p) yi apos) [] [] pos) d:=λf o s S H Q E h=>by
 show wpAny _ _ (do
  let ov <-bx (.Name nm p) yi C.env (eval (.Name nm p) C.env)
  dF apos.atName
  eY (.Name nm p) yi apos pos C.env ov (0+0) (backTo pos (aI [] C.env)) []) _ _ s
 rw[hb]
 refine aa (eg.tB O hm h1 h2 f o s S H _ _ λv f1 s1 l1 S1 d1=>aa (aZ ?_))
 obtain rfl:v= .ref e:=d1
 obtain⟨t,dx,tb,es,n,q1,q2,q3⟩:(C9 e fs).P f1 o:=held hm f1 o (H.mono l1 (.refl o))
 unfold eY rP
 rw[show eC (0+0) (backTo pos (aI [] C.env)) []=true from rfl]
 refine aa (aL (FI X hf ht S1 q1 q2 q3 hl ?_))
 unfold jj
 rw[LU]
 refine aa (ao ?_)
 have jm:=cn pos [] C.env rfl
 refine d6 (P:=λh=>∀a x,W.B.f a=some x->h.get? a=some x) (by rw[jm]; rfl) hk (dm jm ?_)
 exact(ny.nil (W:=W) (C:=C) (ρ:=ρ)) pos f1 o s1 S1 (H.mono l1 (.refl o)) _ _ λus f2 s2 l2 S2 d2=>⟨S2.bT,by
  obtain rfl:us=[]:=d2
  exact IS II Na S2 (l2 _ _ q1) (l2 _ _ q2) (q3.mono l2) λv f' s' l' S' d'=>h v f' s' ((l1.trans l2).trans l') S' d'⟩
end
section
variable {W:Wd}{ρ a9:Ro}
theorem Dc(X:cH W){env:Env}{A:Around}{names:List (Str×aC)}(K:CK ⟨env,A,names⟩ names)(lv:Lv 3 A){e a:Addr}{ds:List D}{d1 d2 d3:D}{p1 p2 p3 p4 q1 q2 q3 r1 r2 r3 s1 s2 s3 pos:Pos}(hm:(J "nag",Bd.res true (C9 e (IT d1 d2 d3)))∈ρ)(hl:(J "nags",Bd.res true (eJ a ds))∈ρ)(fC:ds.length<=16777216)
 (aU:Ro.Set (J "nags") (.res true (eJ a (ds++[.tup [d1,d2,d3]]))) ρ a9) (n1:∀u,d1≠ .raw u) (n2:∀u,d2≠ .raw u) (n3:∀u,d3≠ .raw u) (e1:(p2.endLine==p3.line)=true) (e2:(q2.endLine==q3.line)=true) (e3:(r2.endLine==r3.line)=true) (e4:(s2.endLine==s3.line)=true):
 VS W ⟨env,A.mark (some (.ref e)),names⟩ ρ [.Expr (.Call (.Attribute (.Name (J "nags") p1) (J "append") p2) [.Tuple [.Call (.Attribute (.Name (J "nag") q1) (J "get_lineno") q2) [] [] q3, .Call (.Attribute (.Name (J "nag") r1) (J "get_msg") r2) [] [] r3, .Call (.Attribute (.Name (J "nag") s1) (J "get_line") s2) [] [] s3] 0 p4] [] p3) pos] (λout=>out= .next a9):=by
 have O':Cx.Ok ⟨env,A.mark (some (.ref e)),names⟩:=K.ok.mark
 have h1:A.depth<=590:=by have:=lv.depth; exact aN 0x2ae2562441008454f4801 tt this
 have h2:A.units<=5990:=by have:=lv.units; exact aN 0x6f784aca88201086f6b4801 tt this
 refine vs (.BA O' (.tuple (.cons (d:=d1) (ur X O' (attr:=J "lineno") (fn:=59) hm (by decide+kernel) (by decide+kernel) (by kernel_rfl) (by kernel_rfl) (by kernel_rfl) (X.kept (by kernel_rfl)) (λa1 a2 a3 a4 a5 a6 a7=>?_) h1 h2 e2) (.cons (d:=d2) (ur X O' (attr:=J "msg") (fn:=66) hm (by decide+kernel) (by decide+kernel) (by kernel_rfl) (by kernel_rfl) (by kernel_rfl) (X.kept (by kernel_rfl)) (λa1 a2 a3 a4 a5 a6 a7=>?_) h1 h2 e3) (.cons (d:=d3) (ur X O' (attr:=J "line") (fn:=73) hm (by decide+kernel) (by decide+kernel) (by kernel_rfl) (by kernel_rfl) (by kernel_rfl) (X.kept (by kernel_rfl)) (λa1 a2 a3 a4 a5 a6 a7=>?_) h1 h2 e4) .nil rfl) rfl) rfl) (by simp)) hl fC aU (.nil rfl) (by decide+kernel) (by decide+kernel) rfl rfl e1 K.inter rfl)
 ·exact xk X 59 (attr:=J "lineno") ⟨_,rfl,rfl⟩ rfl (by kernel_rfl) rfl rfl rfl rfl rfl rfl rfl (λv=>by kernel_rfl) (by kernel_rfl) a1 a2 a3 a4 a5 a6 (by kernel_rfl) n1 a7
 ·exact xk X 66 (attr:=J "msg") ⟨_,rfl,rfl⟩ rfl (by kernel_rfl) rfl rfl rfl rfl rfl rfl rfl (λv=>by kernel_rfl) (by kernel_rfl) a1 a2 a3 a4 a5 a6 (by kernel_rfl) n2 a7
 ·exact xk X 73 (attr:=J "line") ⟨_,rfl,rfl⟩ rfl (by kernel_rfl) rfl rfl rfl rfl rfl rfl rfl (λv=>by kernel_rfl) (by kernel_rfl) a1 a2 a3 a4 a5 a6 (by kernel_rfl) n3 a7
end
section
variable {W:Wd}{C:Cx}{ρ a9:Ro}{names:List (Str×aC)}{Q:Out->Prop}
theorem Mk{body rest:List Stmt}{h₀:DN}{hs:List DN}{pos:Pos}(hb:VS W C ρ body (λout=>out= .next a9))(ir:VS W C a9 rest Q):VS W C ρ (.Try body (h₀::hs) [] [] pos::rest) Q:=vs (.cons λf o s S H P E hP=>by
 rw[arm_exec_Try]
 refine aa (aZ ?_)
 refine Jr (hb.un f o s S H _ _ λout fl s1 hq ho=>?_)
 subst hq
 obtain⟨rfl,f1,o1,L⟩:=ho
 exact jn (hP (.next a9) _ _ ir.un ⟨rfl,f1,o1,L⟩))
theorem PQ{t:Expr}{body:List Stmt}{pos:Pos}(ht:VB W C ρ t false):VS W C ρ [.If t body [] pos] (λout=>out= .next ρ):=jx ht (λh=>by exact nomatch h) λ_=>dj (dj rfl)
end
noncomputable def pairOf(r:Row):Nat×Nat:=if r.sg=21 then(r.high,r.low) else(r.low,r.high)
noncomputable def B8:List Nat:=[97,98,99,100]
noncomputable def vB(c:Nat):Nat:=(lo1 c)-97
theorem uu:∀c∈([97,98,99,100,65,66,67,68]:List Nat),vB c<4/\∃rest,occurrences (aS B8) (aS [lo1 c]) 0 (aS B8).length 1=vB c::rest:=by
 intro c hc
 simp only[au,bo,or_false] at hc
 rcases hc with rfl|rfl|rfl|rfl|rfl|rfl|rfl|rfl<;>exact⟨by decide+kernel,[],by kernel_rfl⟩
theorem FR{W:Wd}{A:Around}{c:Nat}(hc:c∈([97,98,99,100,65,66,67,68]:List Nat)):mf W A (.builtin "str.index") [.str (aS B8), .str (aS [lo1 c])] (.int (vB c)):=λf o s vs S hd Q E h=>by
 obtain⟨v,r,rfl,⟨t,rfl⟩,v2,r2,rfl,⟨u,rfl⟩,rfl⟩:=hd
 obtain⟨_,rest,ho⟩:=uu c hc
 exact SC.index ho (h _ f _ (.refl f) (S.tok _) ⟨_,rfl⟩)
noncomputable abbrev oY:List (Str×aC):=[(J "parts",ae),(J "rows",ae),(J "whites",aq),(J "nags",ae),(J "place",ae),(J "row",ae),(J "low",ae),(J "high",ae),(J "witness",ae),(J "nag",ae),(J "enumerate",ag),(J "NannyNag",ag),(J "format_witnesses",ag)]
noncomputable def iZ(ws:List iD)(c:Nat):iD:=ws.getD (vB c) ⟨[],0,0,[],0,true⟩
noncomputable def uv(ws:List iD)(r:Row):List Nat:=
 let a:=iZ ws (pairOf r).1
 let b:=iZ ws (pairOf r).2
 if r.sg=27 then pD a b else mw a b
noncomputable def y8(parts:List (List Nat))(ws:List iD)(k:Nat)(r:Row):List D:=if uv ws r=[] then[] else[.tup [.int k, .str (aS (wordsOf ((uv ws r).map jc))), .str (aS (parts.getD k []))]]
noncomputable def gZ(parts:List (List Nat))(ws:List iD):Nat->List Row->List D
 |_,[]=>[]
 |k,r::rs=>y8 parts ws k r++gZ parts ws (k+1) rs
section
variable {W:Wd}
theorem FT(X:cH W){w:iD}:Meth W w.D (J "not_equal_witness") (.ref 124):=jH X (by kernel_rfl) (by kernel_rfl) (by kernel_rfl) (by kernel_rfl)
theorem AR(X:cH W){w:iD}:Meth W w.D (J "not_less_witness") (.ref 138):=jH X (by kernel_rfl) (by kernel_rfl) (by kernel_rfl) (by kernel_rfl)
theorem y9(X:cH W):cK W (J "format_witnesses") (.ref 152):=X.glob (by kernel_rfl)
theorem mX:∀n:Nat,n<200->(lO (n:Int)).length<=100:=by decide+kernel
theorem za{ds:List D}{b:Bool}(hb:b=true↔ds≠[]):lx W (cc .NotEq) (.list ds) (.list []) (.bool b):=yw (n:=1) (.list ZM) (by rw[hb]; simp) (by(first|lia|omega))
theorem B9(X:cH W)(XT:um W){A:Around}(lv:Lv 4 A){ws:List (Int×List D)}{t:List Nat}(hw:∀p∈ws,p.1.natAbs<1000000/\(lO p.1).length<=100)(hn:ws.length<=100)(ht:t=wordsOf (ws.map (·.1))):mf W A (.ref 152) [.list (ws.map wD)] (.str (aS t)):=ht▸(Ym X XT lv hw hn).un
theorem YF(X:cH W)(XT:um W){A:Around}(lv:Lv 6 A){outer:List Env}(FK:A.frames=some outer)(F:Mh W outer){parts:List (List Nat)}{rows:List Row}{ws:List iD}(hr:∀r∈rows,r.Ok)(hw:∀w∈ws,w.Ok/\w.long<=50)(h4:ws.length=4)(hl:rows.length<=parts.length)(hn:parts.length<=100):
 iK W A (.ref 364) [.list (parts.map λt=> .str (aS t)), .list (rows.map eh), .list (ws.map iD.D)] (.list (gZ parts ws 0 rows)):=Au λf o s vs S hd Q E h=>by
 have PK:=hd
 obtain⟨v1,r,rfl,h1,v2,r2,rfl,h2,v3,r3,rfl,h3,h5⟩:=hd
 obtain rfl:r3=[]:=h5
 refine fR (X.code (P:=λ_=>True) 364 (n:=5) (ps:=["parts","rows","whites"]) (ds:=[.list (parts.map λt=> .str (aS t)), .list (rows.map eh), .list (ws.map iD.D)])
  (ρ:=[("parts", .val (.list (parts.map λt=> .str (aS t)))),("rows", .val (.list (rows.map eh))),("whites", .val (.list (ws.map iD.D))),("nags", .unset),("place", .unset),("row", .unset),("low", .unset),("high", .unset),("witness", .unset),("nag", .unset)]) (names:=oY) lv ⟨_,rfl,rfl⟩ rfl (by kernel_rfl) rfl rfl (by kernel_rfl) rfl rfl rfl rfl rfl (by kernel_rfl) (by kernel_rfl) (λQ E k=>?_) ?_ S λf1 env du cU _ l1 lo jg H mJ si hm=>?_)
 ·have e:eR (cm (KK W) 364) ⟨[v1,v2,v3],[]⟩=pure [(J "parts",v1),(J "rows",v2),(J "whites",v3)]:=by kernel_rfl
  show wpAny _ _ (eR (cm (KK W) 364) ⟨[v1,v2,v3],[]⟩) Q E s
  rw[e]
  exact ao (k [v1,v2,v3] f s (.refl f) S PK trivial)
 ·show kl [(_,_),(_,_),(_,_)] _ _
  exact ra
 ·have K:CK ⟨env,A.deeper env,oY⟩ oY:=⟨H.ok,mJ.hand,rfl⟩
  have Ml:=zR (env:=env) FK
  refine uf (C:=⟨env,A.deeper env,oY⟩) (d:= .list (gZ parts ws 0 rows)) ?_ jg H lo hm (R:=λr s'=>match r with| .ok (.ret v)=>Q v s'| .ok _=>False| .error e=>E e s') λv' f' s' l' S' d'=>h v' f' s' (l1.trans l') S' d'
  refine Ay K (sj a0) (λa=>⟨_,kD,?_⟩)
  let Nb:List D->Bd->Bd->Bd->Bd->Bd->Bd->Ro:=λacc b1 b2 b3 b4 b5 b6=>[("parts", .val (.list (parts.map λt=> .str (aS t)))),("rows", .val (.list (rows.map eh))),("whites", .val (.list (ws.map iD.D))),("nags", .res true (eJ a acc)),("place",b1),("row",b2),("low",b3),("high",b4),("witness",b5),("nag",b6)]
  refine mR K (Ax (gl K (oz X)) (nm K)) (λxs ρ=>∃k b1 b2 b3 b4 b5 acc,k<=rows.length/\acc.length<=k/\xs=numbered k ((rows.drop k).map eh)/\gZ parts ws 0 rows=acc++gZ parts ws k (rows.drop k)/\ρ=Nb acc b1 b2 b3 b4 b5 .unset) ?_ ?_ ?_
  ·exact⟨0, .unset, .unset, .unset, .unset, .unset,[],fD _,bL _,rfl,rfl,rfl⟩
  ·rintro ρ ⟨k,b1,b2,b3,b4,b5,acc,hk,YG,hx,ha,rfl⟩
   have PR:rows.drop k=[]:=by
    cases q:rows.drop k with
    |nil=>rfl
    |cons r rs=>rw[q] at hx; exact nomatch hx
   rw[PR] at ha
   refine tZ (x:=J "nags") (a:=a) (ds:=acc) (a9:=[("parts", .val (.list (parts.map λt=> .str (aS t)))),("rows", .val (.list (rows.map eh))),("whites", .val (.list (ws.map iD.D))),("nags", .val (.list acc)),("place",b1),("row",b2),("low",b3),("high",b4),("witness",b5),("nag", .unset)]) (.tail _ (.tail _ (.tail _ (.head _)))) (.tail (.tail (.tail .head))) (j8 (nm K) ?_)
   show D.list acc=_
   rw[ha]; simp[gZ]
  ·rintro x xs ρ ⟨k,b1,b2,b3,b4,b5,acc,hk,YG,hx,ha,rfl⟩
   obtain⟨r,rs,E4⟩:∃r rs,rows.drop k=r::rs:=by
    cases q:rows.drop k with
    |nil=>rw[q] at hx; exact nomatch hx
    |cons r rs=>exact⟨r,rs,rfl⟩
   rw[E4] at hx ha
   have QO:x= .tup [.int k,eh r]/\xs=numbered (k+1) (rs.map eh):=by
    rw[aO] at hx
    exact List.cons.inj hx
   obtain⟨rfl,rfl⟩:=QO
   refine⟨[("parts", .val (.list (parts.map λt=> .str (aS t)))),("rows", .val (.list (rows.map eh))),("whites", .val (.list (ws.map iD.D))),("nags", .res true (eJ a acc)),("place", .val (.int k)),("row", .val (eh r)),("low",b3),("high",b4),("witness",b5),("nag", .unset)],iW K (cx K) (cx K),?_⟩
   have DP:r∈rows:=CB (E4▸cw:r∈rows.drop k)
   have QT:=hr r DP
   have kk:k<rows.length:=by
    rcases fY k rows.length with h|h
    ·exact h
    ·rw[gE h] at E4; exact nomatch E4
   have PS:(pairOf r).1∈([97,98,99,100,65,66,67,68]:List Nat)/\(pairOf r).2∈([97,98,99,100,65,66,67,68]:List Nat):=by
    unfold pairOf; split
    ·exact⟨QT.high,QT.low⟩
    ·exact⟨QT.low,QT.high⟩
   obtain⟨c1,QU⟩:∃c,c=(pairOf r).1:=⟨_,rfl⟩
   obtain⟨c2,QV⟩:∃c,c=(pairOf r).2:=⟨_,rfl⟩
   rw[<-QU,<-QV] at PS
   have C6:∀c∈([97,98,99,100,65,66,67,68]:List Nat),ws[vB c]? =some (iZ ws c):=λc hc=>by
    have h:=(uu c hc).1
    unfold iZ
    rw[ak,aj (by exact SU h4 h)]; rfl
   have hwm:∀c∈([97,98,99,100,65,66,67,68]:List Nat),iZ ws c∈ws:=λc hc=>bI (C6 c hc)
   obtain⟨wa,th⟩:∃w,w=iZ ws c1:=⟨_,rfl⟩
   obtain⟨wb,YH⟩:∃w,w=iZ ws c2:=⟨_,rfl⟩
   have QW:=hw _ (th▸hwm _ PS.1)
   have QX:=hw _ (YH▸hwm _ PS.2)
   have I4:uv ws r=if r.sg=27 then pD wa wb else mw wa wb:=by unfold uv; rw[th,YH,QU,QV]
   refine let1 (d:= .list [wa.D,wb.D]) (VE.eq (dY (eX:=[(".0", .unset),("name", .unset),("whites", .val (.list (ws.map iD.D)))]) (out:=([c1,c2]:List Nat).map λc=>(iZ ws c).D) K
    (jF K (d:= .list (([c1,c2]:List Nat).map λc=> .str (aS [c]))) (VE.eq (mQ (vu (b:=decide ((r.sg:Int)=21)) (d:= .list [.str (aS [c1]), .int r.sg, .str (aS [c2])]) (kR K (dB (T:= "list") (da:=eh r) (di:= .int (1:Nat)) K (nm K) num aR (bY rfl (by decide))) num ia) (λh=> .eq (mQ (nm K (d:=eh r)) xa p0 p0 (p1 (neg K num w8)) (by decide) (by simp) (λ_ _=>rfl)) ?_) λh=> .eq (nm K (d:=eh r)) ?_) xa p0 p0 (p1 (i:=2) num) (by decide) (by simp) (λ_ _=>rfl)) (by kernel_rfl)) bp)
    (λC' K' e=>gI ([c1,c2]:List Nat) (λc=> .str (aS [c])) (λc=>(iZ ws c).D) (λc=>[(".0", .unset),("name", .val (.str (aS [c]))),("whites", .val (.list (ws.map iD.D)))]) (λc hc=>cx K') (λc hc=>?_) λc hc=>jT) ku (by simp)) (by rw[th,YH]; rfl)) (iW K (cx K) (cx K) (.inr rfl)) ?_
   ·have h':r.sg=21:=by have:=of_decide_eq_true h; exact SV this
    have e1:c1=r.high:=by rw[QU]; unfold pairOf; rw[if_pos h']
    have e2:c2=r.low:=by rw[QV]; unfold pairOf; rw[if_pos h']
    rw[e1,e2]; kernel_rfl
   ·have h':¬r.sg=21:=by have:=of_decide_eq_false h; exact SW this
    have e1:c1=r.low:=by rw[QU]; unfold pairOf; rw[if_neg h']
    have e2:c2=r.high:=by rw[QV]; unfold pairOf; rw[if_neg h']
    rw[e1,e2]; rfl
   ·have QY:c∈([97,98,99,100,65,66,67,68]:List Nat):=by
     simp only[au,bo,or_false] at hc
     rcases hc with rfl|rfl
     ·exact PS.1
     ·exact PS.2
    refine dB (T:= "list") (da:= .list (ws.map iD.D)) (di:= .int (vB c:Nat)) K' (nm K') (gh (st B8) (iu PySem.F.slot_str_index PySem.F.type_str_index) .builtin (a1 (rC K' (nm K') ?_ (by simp))) (FR QY)) aR (bY ?_ ?_)
    ·unfold clean; rw[de,(kB _ QY).1]; rfl
    ·rw[av,C6 c QY]; rfl
    ·have:=(uu c QY).1; exact aN 0xbd010085f495212a0201 tt this
   obtain⟨wit,Mm⟩:∃w,w=uv ws r:=⟨_,rfl⟩
   refine let1 (d:= .list (wit.map (mU wa wb))) (vu (b:=decide ((r.sg:Int)=27)) (kR K (dB (T:= "list") (da:=eh r) (di:= .int (1:Nat)) K (nm K) num aR (bY rfl (by decide))) num ia)
    (λh=> .eq (gh (nm K) (FT X) (X.kept (by kernel_rfl)) (a1 (nm K)) (OL X (mJ.le (by simp[*])) QW.1 QX.1).un) ?_) λh=> .eq (gh (nm K) (AR X) (X.kept (by kernel_rfl)) (a1 (nm K)) (LL X (mJ.le (by(first|lia|omega))) QW.1 QX.1).un) ?_) (cx K) ?_
   ·have h':r.sg=27:=by have:=of_decide_eq_true h; exact Nt this
    rw[Mm,I4,if_pos h']
   ·have h':¬r.sg=27:=by have:=of_decide_eq_false h; exact Nu this
    rw[Mm,I4,if_neg h']
   have YI:∀t∈wit,t<200:=λt ht=>by
    have He:t∈sizesOf wa wb 1:=by
     rw[Mm,I4] at ht
     split at ht
     ·exact(bw.mp ht).1
     ·exact(bw.mp ht).1
    unfold sizesOf at He
    have:=cR.mp He
    have h1:=QW.2; have h2:=QX.2
    first|exact Zf h1 h2 this|exact(Zf h1 h2 this).2 |(first|lia|omega)
   have hwn:wit.length<=100:=by
    have hs:(sizesOf wa wb 1).length<=100:=by
     unfold sizesOf; rw[cY]
     have h1:=QW.2; have h2:=QX.2
     first|exact Ze h1 h2|(first|lia|omega)
    rw[Mm,I4]
    split
    ·exact aP (ba _ _) hs
    ·exact aP (ba _ _) hs
   have PT:gZ parts ws k (r::rs)=y8 parts ws k r++gZ parts ws (k+1) rs:=rfl
   rw[PT] at ha
   have Nc:rs=rows.drop (k+1):=by
    have:=congrArg List.tail E4
    rw[List.tail_drop] at this
    exact this.symm
   by_cases te:wit=[]
   ·refine Mk (PQ (kR K (nm K) (lst a0) (za (by rw[te]; simp)))) (dj ?_)
    refine⟨k+1,_,_,_,_,_,acc,by assumption,by exact aX 1100639944705 tt YG,by rw[Nc],?_,rfl⟩
    have e:y8 parts ws k r=[]:=by unfold y8; rw[if_pos (Mm.symm.trans te)]
    rw[ha,e,Nc]; rfl
   ·have jm:k<parts.length:=by exact cG 0x2828042100421a0a01 tt hl kk
    have he:y8 parts ws k r=[.tup [.int k, .str (aS (wordsOf (wit.map jc))), .str (aS (parts.getD k []))]]:=by unfold y8; rw[if_neg (λq=>te (Mm.trans q)),Mm]
    have PU:acc.length<=16777216:=by exact cG 0x14140211042135240084308421084821 tt hn YG jm
    have NT:D.list (wit.map (mU wa wb))= .list ((wit.map λ(t:Nat)=>((t:Int),[D.int (wa.ind t), .int (wb.ind t)])).map wD):=by rw[aM]; rfl
    refine I2 (fs:=IT (.int k) (.str (aS (wordsOf (wit.map jc)))) (.str (aS (parts.getD k [])))) (bD:=λb=>Nb acc (.val (.int k)) (.val (eh r)) (.val wa.D) (.val wb.D) (.val (.list (wit.map (mU wa wb)))) b) (bZ:=λb=>Nb (acc++[.tup [.int k, .str (aS (wordsOf (wit.map jc))), .str (aS (parts.getD k []))]]) (.val (.int k)) (.val (eh r)) (.val wa.D) (.val wb.D) (.val (.list (wit.map (mU wa wb)))) b)
     (a9:=Nb (acc++[.tup [.int k, .str (aS (wordsOf (wit.map jc))), .str (aS (parts.getD k []))]]) (.val (.int k)) (.val (eh r)) (.val wa.D) (.val wb.D) (.val (.list (wit.map (mU wa wb)))) .unset) X K si.2 Ml F ik ik (λb=>by show Ro.Set _ _ (Nb _ _ _ _ _ _ _) (Nb _ _ _ _ _ _ _); exact kD) (λb b'=>kD) (λb=>ik) (λb=>kD) ?_ (λe=>?_) (dj ?_)
    ·refine I3 X K (mJ.le (by simp[*])) ik (kR K (nm K) (lst a0) (za (by simp[te]))) (ac (nm K) (ac (bS (gl K (y9 X)) (X.kept (by kernel_rfl)) (a1 (VE.eq (nm K) NT)) (B9 X XT (mJ.le (by simp[*])) ?_ ?_ ?_)) (a1 (dB (T:= "list") (da:= .list (parts.map λt=> .str (aS t))) (di:= .int (k:Nat)) K (nm K) (nm K) aR (bY ?_ ?_)))))
     ·rintro p hp
      obtain⟨t,ht,rfl⟩:=aw.mp hp
      have:=YI t ht
      exact⟨by show((t:Int)).natAbs<1000000; exact SX this,mX t this⟩
     ·rw[ai]; exact hwn
     ·rw[aM]; rfl
     ·rw[av,aj jm,ak,aj jm]; rfl
     ·exact SY hn jm
    ·exact Dc X K (mJ.le (by(first|lia|omega))) ik ik PU kD (λu h=>by cases h) (λu h=>by cases h) (λu h=>by cases h) (by decide) (by decide) (by decide) (by decide)
    ·refine⟨k+1,_,_,_,_,_,_,by assumption,by simp; assumption,by rw[Nc],?_,rfl⟩
     rw[ha,he,Nc]; simp
end
end
end
section
section
open PySem PySem.W PyProof.Rows PySem.SeqAt PySem.Builtin PySem.Builtin.Str
open PySem (wpAny_nextOf_list_item)
section
variable {prog:gu}{w:World}{A:Around}{E:Value->Shared->Prop}{s:Shared}
theorem Ki{it:Addr}{x left step:Int}{Q:Value->Shared->Prop}(hit:iG s.heap it x left step)(FU:0<left)
 (hQ:∀h',iG h' it (x+step) (left-1) step->fu it s.heap h'->Q (.int x s.toks) {s with heap:=h',toks:=s.toks+1}):wpAny (model prog w) A (bG (.ref it)) Q E s:=by
 have hT:s.TypeIs (.ref it) "range_iterator":=⟨_,hit,rfl⟩
 unfold bG
 refine aa (gN (name:=J "__next__") hT F.slot_range_iterator_next
  (nc F.slot_range_iterator_next hT F.entry_range_iterator_next (F.args_range_iterator_next_1 _) (AutoRange.range_iterator___next___range_iterator_1 it x left step (by exact Ta FU)) ⟨hit,?_⟩))
 exact ao (hQ _ (bK _ (bK _ hit rfl) rfl) ((dT ..).trans (dT ..)))
theorem Mn{it:Addr}{x left step:Int}{Q:Value->Shared->Prop}(hh:A.handled=none)(hit:iG s.heap it x left step)(FU:left<=0)
 (hE:∀h' e,(∀b o,s.heap.get? b=some o->h'.get? b=some o)->(∃o,h'.get? e=some o/\o.cls= .type "StopIteration")->E (.ref e) {s with heap:=h'}):wpAny (model prog w) A (bG (.ref it)) Q E s:=by
 have hT:s.TypeIs (.ref it) "range_iterator":=⟨_,hit,rfl⟩
 unfold bG
 refine aa (gN (name:=J "__next__") hT F.slot_range_iterator_next
  (kW F.slot_range_iterator_next hT F.entry_range_iterator_next ?_ (F.args_range_iterator_next_1 _)))
 show wpAny _ _ (field (.ref it) 0 >>= _) _ _ s
 refine aa (dE hit rfl (x:=rawInt x) rfl ?_)
 show wpAny _ _ (field (.ref it) 1 >>= _) _ _ s
 refine aa (dE hit rfl (x:=rawInt left) rfl ?_)
 show wpAny _ _ (field (.ref it) 2 >>= _) _ _ s
 refine aa (dE hit rfl (x:=rawInt step) rfl ?_)
 show wpAny _ _ (if left<=0 then _ else _) _ _ s
 rw[if_pos FU]
 refine aa (m7 ?_)
 refine aa ?_
 show wpAny _ _ (newExc (.type "StopIteration") [] >>= _) _ _ _
 refine aa ?_
 simp only[newExc,newTuple]
 refine aa (nQ ?_ (by size_fits))
 refine aa (m:=firstArgMember _ _) (Js (a:=d7) (by first|rfl|(simp only[firstArgMember]; rfl)) ?_)
 refine nQ ?_ (by size_fits)
 simp only[raiseNew]
 refine aa (wpAny_handled ?_)
 first|rw[show A.in1.handled=none from hh]|rw[hh]
 refine aa (ao (wpAny_throw ?_))
 exact hE _ _ (λb o e=>aH _ (aH _ e)) ⟨_,bC _ rfl,rfl⟩
structure Zs(h:Heap)(b l2 l3:Addr)(xs ys:Array Value)(k:Nat)(left:Int):Prop where
 r:iG h b ((k:Int)+1) left 1
 i2:h.IsListIter (b+1) l2 k
 i3:h.IsListIter (b+2) l3 k
 TI:h.get? (b+3)=some {cls:= .type "tuple",data:= .seq #[.ref b, .ref (b+1), .ref (b+2)]}
 TO:∃x y z,h.get? (b+4)=some {cls:= .type "tuple",data:= .seq #[x,y,z]}
 L2:h.IsList l2 xs
 L3:h.IsList l3 ys
noncomputable abbrev mY(b:Addr)(f0 fb:Value):Obj:={cls:= .type "zip",data:= .fields #[f0,fb, .bool false, .ref (b+3), .ref (b+4)]}
theorem ldA{a:Addr}{Q:Option Obj->Shared->Prop}(h:Q (s.heap.get? a) s):wpAny (model prog w) A (loadIfAlive a) Q E s:=λ Γ p hΓ=>by
 show Sem.wp _ _ (.loadIfAlive a _) _ _ _ _
 rw[Sem.wp_loadIfAlive]; exact h
theorem gz(b:Addr){i j:Nat}(h:i≠j):(b+i:Addr)≠b+j:=λe=>h (Nat.add_left_cancel e)
theorem lE{l b:Addr}(h:l<b)(i:Nat):l≠b+i:=bg (fH h (gy _ _))
noncomputable abbrev nD(x y z:Value):Obj:={cls:= .type "tuple",data:= .seq #[x,y,z]}
theorem zb{b T:Addr}{o:Obj}{fb:Value}(hz:s.heap.get? (b+5)=some (mY b (rawInt T) fb))(hT:s.heap.get? T=some o):wpAny (model prog w) A (cv (.ref (b+5))) (λa s'=>a=false/\∃gf Kj,s'={s with heap:=gf}/\gf.get? (b+5)=some (mY b (rawInt T) Kj)/\fu (b+5) s.heap gf) E s:=by
 unfold cv
 refine aa (dE hz rfl (x:=rawInt T) rfl ?_)
 refine aa (ldA ?_)
 show wpAny _ _ (if(s.heap.get? T).isNone then _ else _) _ _ _
 rw[hT]
 refine aa (dE hz rfl (x:=fb) rfl ?_)
 show wpAny _ _ (if(fb != Value.bool true)=true then _ else _) _ _ _
 refine wpAny_ite_split (λ_=>?_) λ_=>?_
 ·exact aa (m6 hz (by simp) λh' HT JN=>ao ⟨rfl,h',_,rfl,HT,JN⟩)
 ·exact ao ⟨rfl,s.heap,fb,rfl,hz,⟨rfl,λ_ _=>rfl⟩⟩
theorem De{b l2 l3 T:Addr}{o:Obj}{fb x y:Value}{xs ys:Array Value}{k:Nat}{left:Int}{Q:Value->Shared->Prop}(hz:s.heap.get? (b+5)=some (mY b (rawInt T) fb))(hT:s.heap.get? T=some o)(Z:Zs s.heap b l2 l3 xs ys k left)(hl:0<left)(hx:xs[k]? =some x)(hy:ys[k]? =some y)(h2:l2<b)(h3:l3<b)(Kk:b+5≠T)
 (hQ:∀h' tk t Kj,h'.get? (b+5)=some (mY b (rawInt T) Kj)->Zs h' b l2 l3 xs ys (k+1) (left-1)->h'.get? s.heap.objs.size=some (nD (.int ((k:Int)+1) t) x y)->h'.objs.size=s.heap.objs.size+1->(∀c o,c≠b->c≠b+1->c≠b+2->c≠b+5->s.heap.get? c=some o->h'.get? c=some o)->Q (.ref s.heap.objs.size) {s with heap:=h',toks:=tk}):
 wpAny (model prog w) A (Builtin.«zip.__next__» ⟨[.ref (b+5)],[]⟩) (λfin s'=>∃v,fin= .done (.ret v)/\Q v s') E s:=by
 show wpAny _ _ (field (.ref (b+5)) 2 >>= _) _ _ _
 refine aa (dE hz rfl (x:= .bool false) rfl ?_)
 show wpAny _ _ (field (.ref (b+5)) 3 >>= _) _ _ _
 refine aa (dE hz rfl (x:= .ref (b+3)) rfl ?_)
 refine aa (gJ Z.TI rfl ?_)
 show wpAny _ _ (cv (.ref (b+5)) >>= _) _ _ _
 refine aa (dD (zb hz hT) (λa s' hq=>?_) λ_ _ e=>e)
 ·obtain⟨rfl,gf,Kj,rfl,wz,iR⟩:=hq
  have k1:∀c o,c≠b+5->s.heap.get? c=some o->gf.get? c=some o:=iR.extBut
  simp only[cb,if_false,D3,iN,js]
  have Zr:iG gf b ((k:Int)+1) left 1:=k1 _ _ (gz b (i:=0) (j:=5) (by decide)) Z.r
  refine aa (aa (aa (aL ?_)))
  show wpAny _ _ (bG (.ref b) >>= λx=>pure (some x)) _ _ _
  refine aa (Ki Zr hl λwW FV qk=>ao ?_)
  show wpAny _ _ (pure _) _ _ _
  refine ao ?_
  show wpAny _ _ (_ >>= _) _ _ _
  refine aa (aa (aL ?_))
  show wpAny _ _ (bG (.ref (b+1)) >>= λx=>pure (some x)) _ _ _
  have k2:∀c o,c≠b->c≠b+5->s.heap.get? c=some o->wW.get? c=some o:=λc o c1 c2 e=>qk.extBut _ _ c1 (k1 c o c2 e)
  have PV:∀l xs,l<b->s.heap.IsList l xs->wW.IsList l xs:=λl xs hl h=>h.at λo e=>k2 _ o (lE hl 0) (lE hl 5) e
  refine aa (hF (Z.i2.at λo e=>k2 _ o (gz b (i:=1) (j:=0) (by decide)) (gz b (by decide)) e) (PV _ _ h2 Z.L2) hx λFW PW qH=>ao ?_)
  show wpAny _ _ (pure _) _ _ _
  refine ao ?_
  show wpAny _ _ (_ >>= _) _ _ _
  refine aa (aa (aL ?_))
  show wpAny _ _ (bG (.ref (b+2)) >>= λx=>pure (some x)) _ _ _
  have k3:∀c o,c≠b->c≠b+1->c≠b+5->s.heap.get? c=some o->FW.get? c=some o:=λc o c1 c2 c3 e=>qH.extBut _ _ c2 (k2 c o c1 c3 e)
  have YJ:∀l xs,l<b->s.heap.IsList l xs->FW.IsList l xs:=λl xs hl h=>h.at λo e=>k3 _ o (lE hl 0) (lE hl 1) (lE hl 5) e
  refine aa (hF (Z.i3.at λo e=>k3 _ o (gz b (i:=2) (j:=0) (by decide)) (gz b (by decide)) (gz b (by decide)) e) (YJ _ _ h3 Z.L3) hy λpS PX oE=>ao ?_)
  show wpAny _ _ (pure _) _ _ _
  refine ao ?_
  show wpAny _ _ (pure _) _ _ _
  refine ao ?_
  show wpAny _ _ (newTuple _ >>= _) _ _ _
  have fC:pS.objs.size=s.heap.objs.size:=by rw[oE.1,qH.1,qk.1,iR.1]
  refine aa (kc (ao ⟨_,rfl,?_⟩) (by show(3:Nat)<=ll; rw[bu]; decide))
  show Q (.ref pS.objs.size) _
  rw[fC]
  have k4:∀c o,c≠b->c≠b+1->c≠b+2->c≠b+5->s.heap.get? c=some o->pS.get? c=some o:=λc o c1 c2 c3 c4 e=>oE.extBut _ _ c3 (k3 c o c1 c2 c4 e)
  have kp:∀c o,pS.get? c=some o->(pS.push (nD (.int ((k:Int)+1) s.toks) x y)).get? c=some o:=λc o e=>aH _ e
  obtain⟨tx,ty,tz,YK⟩:=Z.TO
  refine hQ (pS.push (nD (.int ((k:Int)+1) s.toks) x y)) _ s.toks Kj (kp _ _ (oE.extBut _ _ (gz b (by decide)) (qH.extBut _ _ (gz b (by decide)) (qk.extBut _ _ (gz b (i:=5) (j:=0) (by decide)) wz)))) ⟨?_,?_,?_,?_,?_,?_,?_⟩ ?_ ?_ λc o c1 c2 c3 c4 e=>kp _ _ (k4 c o c1 c2 c3 c4 e)
  ·have:=kp _ _ (oE.extBut _ _ (gz b (i:=0) (j:=2) (by decide)) (qH.extBut _ _ (gz b (i:=0) (j:=1) (by decide)) FV))
   show iG _ _ _ _ _
   rw[show(((k+1:Nat):Int)+1)=(k:Int)+1+1 by exact Tb]; exact this
  ·exact(PW.extBut oE.extBut (gz b (by decide))).at λo e=>kp _ o e
  ·exact PX.at λo e=>kp _ o e
  ·exact kp _ _ (k4 _ _ (gz b (i:=3) (j:=0) (by decide)) (gz b (by decide)) (gz b (by decide)) (gz b (by decide)) Z.TI)
  ·exact⟨tx,ty,tz,kp _ _ (k4 _ _ (gz b (i:=4) (j:=0) (by decide)) (gz b (by decide)) (gz b (by decide)) (gz b (by decide)) YK)⟩
  ·exact Z.L2.at λo e=>kp _ o (k4 _ o (lE h2 0) (lE h2 1) (lE h2 2) (lE h2 5) e)
  ·exact Z.L3.at λo e=>kp _ o (k4 _ o (lE h3 0) (lE h3 1) (lE h3 2) (lE h3 5) e)
  ·rw[<-fC]; exact bC _ rfl
  ·rw[cZ,fC]
theorem FX{b l2 l3 T:Addr}{o:Obj}{fb:Value}{xs ys:Array Value}{k:Nat}{left:Int}{Q:Fin->Shared->Prop}(hh:A.handled=none)(hz:s.heap.get? (b+5)=some (mY b (rawInt T) fb))(hT:s.heap.get? T=some o)(Z:Zs s.heap b l2 l3 xs ys k left)(hl:left<=0)
 (hE:∀h' e,(∀c o,c≠b+5->s.heap.get? c=some o->h'.get? c=some o)->(∃o,h'.get? e=some o/\o.cls= .type "StopIteration")->E (.ref e) {s with heap:=h'}):
 wpAny (model prog w) A (Builtin.«zip.__next__» ⟨[.ref (b+5)],[]⟩) Q E s:=by
 show wpAny _ _ (field (.ref (b+5)) 2 >>= _) _ _ _
 refine aa (dE hz rfl (x:= .bool false) rfl ?_)
 show wpAny _ _ (field (.ref (b+5)) 3 >>= _) _ _ _
 refine aa (dE hz rfl (x:= .ref (b+3)) rfl ?_)
 refine aa (gJ Z.TI rfl ?_)
 show wpAny _ _ (cv (.ref (b+5)) >>= _) _ _ _
 refine aa (dD (zb hz hT) (λa s' hq=>?_) λ_ _ e=>e)
 obtain⟨rfl,gf,Kj,rfl,wz,iR⟩:=hq
 simp only[cb,if_false,D3,iN,js]
 refine aa (aa (aa (aL ?_)))
 show wpAny _ _ (bG (.ref b) >>= λx=>pure (some x)) _ _ _
 exact aa (Mn hh (iR.extBut _ _ (gz b (i:=0) (j:=5) (by decide)) Z.r) hl λh' e hk he=>hE h' e (λc o c1 q=>hk c o (iR.extBut c o c1 q)) he)
theorem Mo{T:Addr}{a b c x:Value}{k:Nat}{Q:Unit->Shared->Prop}(hT:s.heap.get? T=some (nD a b c))
 (h:∀h',h'.get? T=some {cls:= .type "tuple",data:= .seq ((#[a,b,c]:Array Value).setIfInBounds k x)}->fu T s.heap h'->Q () {s with heap:=h'}):
 wpAny (model prog w) A (xF T (·.setIfInBounds k x)) Q E s:=by
 refine lW hT rfl (h _ ?_ (dT ..))
 rw[bK _ hT rfl]
 simp[c9]
theorem AS{b l2 l3:Addr}{x y:Value}{xs ys:Array Value}{left:Int}{Q:Value->Shared->Prop}(hz:s.heap.get? (b+5)=some (mY b .none (.bool false)))(Z:Zs s.heap b l2 l3 xs ys 0 left)(hl:0<left)(hx:xs[0]? =some x)(hy:ys[0]? =some y)(h2:l2<b)(h3:l3<b)
 (hQ:∀h' tk t,h'.get? (b+5)=some (mY b (rawInt s.heap.objs.size) (.bool false))->Zs h' b l2 l3 xs ys 1 (left-1)->h'.get? s.heap.objs.size=some (nD (.int 1 t) x y)->h'.objs.size=s.heap.objs.size+1->(∀c o,c≠b->c≠b+1->c≠b+2->c≠b+4->c≠b+5->s.heap.get? c=some o->h'.get? c=some o)->Q (.ref s.heap.objs.size) {s with heap:=h',toks:=tk}):
 wpAny (model prog w) A (Builtin.«zip.__next__» ⟨[.ref (b+5)],[]⟩) (λfin s'=>∃v,fin= .done (.ret v)/\Q v s') E s:=by
 show wpAny _ _ (field (.ref (b+5)) 2 >>= _) _ _ _
 refine aa (dE hz rfl (x:= .bool false) rfl ?_)
 show wpAny _ _ (field (.ref (b+5)) 3 >>= _) _ _ _
 refine aa (dE hz rfl (x:= .ref (b+3)) rfl ?_)
 refine aa (gJ Z.TI rfl ?_)
 show wpAny _ _ (cv (.ref (b+5)) >>= _) _ _ _
 refine aa ?_
 unfold cv
 refine aa (dE hz rfl (x:= .none) rfl (ao ?_))
 simp only[if_true]
 refine aa (m7 ?_)
 refine aa (dE hz rfl (x:= .ref (b+4)) rfl ?_)
 refine aa (m6 hz (by simp) λgf wz iR=>?_)
 replace wz:gf.get? (b+5)=some (mY b .ellipsis (.bool false)):=wz
 simp only[List.zipIdx_cons,List.zipIdx_nil,iN,js]
 obtain⟨tx,ty,tz,YK⟩:=Z.TO
 have k1:∀c o,c≠b+5->s.heap.get? c=some o->gf.get? c=some o:=iR.extBut
 refine aa ?_
 refine aa (aa (k9 ?_))
 show wpAny _ _ (bG (.ref b) >>= _) _ _ _
 refine aa (Ki (k1 _ _ (gz b (i:=0) (j:=5) (by decide)) Z.r) hl λwW FV qk=>ao ?_)
 have k2:∀c o,c≠b->c≠b+5->s.heap.get? c=some o->wW.get? c=some o:=λc o c1 c2 e=>qk.extBut _ _ c1 (k1 c o c2 e)
 have t2:wW.get? (b+4)=some (nD tx ty tz):=k2 _ _ (gz b (i:=4) (j:=0) (by decide)) (gz b (by decide)) YK
 refine aa (gJ t2 rfl ?_)
 refine aa (Mo t2 λFW t3 qH=>?_)
 refine aa (xV (ao ?_))
 refine aa (aa (k9 ?_))
 show wpAny _ _ (bG (.ref (b+1)) >>= _) _ _ _
 have k3:∀c o,c≠b->c≠b+4->c≠b+5->s.heap.get? c=some o->FW.get? c=some o:=λc o c1 c2 c3 e=>qH.extBut _ _ c2 (k2 c o c1 c3 e)
 have YJ:∀l xs,l<b->s.heap.IsList l xs->FW.IsList l xs:=λl xs hl h=>h.at λo e=>k3 _ o (lE hl 0) (lE hl 4) (lE hl 5) e
 refine aa (hF (Z.i2.at λo e=>k3 _ o (gz b (i:=1) (j:=0) (by decide)) (gz b (by decide)) (gz b (by decide)) e) (YJ _ _ h2 Z.L2) hx λpS PY oE=>ao ?_)
 have t4:pS.get? (b+4)=some (nD _ ty tz):=oE.extBut _ _ (gz b (by decide)) t3
 refine aa (gJ t4 rfl ?_)
 refine aa (Mo t4 λPZ t5 zc=>?_)
 refine aa (xV (ao ?_))
 refine aa (aa (k9 ?_))
 show wpAny _ _ (bG (.ref (b+2)) >>= _) _ _ _
 have k5:∀c o,c≠b->c≠b+1->c≠b+4->c≠b+5->s.heap.get? c=some o->PZ.get? c=some o:=λc o c1 c2 c3 c4 e=>zc.extBut _ _ c3 (oE.extBut _ _ c2 (k3 c o c1 c3 c4 e))
 have up5:∀l xs,l<b->s.heap.IsList l xs->PZ.IsList l xs:=λl xs hl h=>h.at λo e=>k5 _ o (lE hl 0) (lE hl 1) (lE hl 4) (lE hl 5) e
 refine aa (hF (Z.i3.at λo e=>k5 _ o (gz b (i:=2) (j:=0) (by decide)) (gz b (by decide)) (gz b (by decide)) (gz b (by decide)) e) (up5 _ _ h3 Z.L3) hy λYL P0 wA=>ao ?_)
 have t6:YL.get? (b+4)=some (nD _ _ tz):=wA.extBut _ _ (gz b (by decide)) t5
 refine aa (gJ t6 rfl ?_)
 refine aa (Mo t6 λux t7 wB=>?_)
 refine aa (xV (ao (ao ?_)))
 refine aa (gJ t7 rfl ?_)
 refine aa (kc ?_ (by show(3:Nat)<=ll; rw[bu]; decide))
 have fC:ux.objs.size=s.heap.objs.size:=by rw[wB.1,wA.1,zc.1,oE.1,qH.1,qk.1,iR.1]
 have Kl:ux.get? (b+5)=some (mY b .ellipsis (.bool false)):=wB.extBut _ _ (gz b (by decide)) (wA.extBut _ _ (gz b (by decide)) (zc.extBut _ _ (gz b (by decide)) (oE.extBut _ _ (gz b (by decide)) (qH.extBut _ _ (gz b (by decide)) (qk.extBut _ _ (gz b (i:=5) (j:=0) (by decide)) wz)))))
 have k7:∀c o,c≠b->c≠b+1->c≠b+2->c≠b+4->c≠b+5->s.heap.get? c=some o->ux.get? c=some o:=λc o c1 c2 c3 c4 c5 e=>wB.extBut _ _ c4 (wA.extBut _ _ c3 (k5 c o c1 c2 c4 c5 e))
 show wpAny _ _ (lJ (.ref (b+5)) (.ref ux.objs.size) >>= _) _ _ _
 refine aa ?_
 unfold lJ
 have P1:(ux.push (nD (.int 1 s.toks) x y)).get? (b+5)=some (mY b .ellipsis (.bool false)):=aH _ Kl
 refine aa (m6 P1 (by simp) λYM FY FZ=>?_)
 replace FY:YM.get? (b+5)=some (mY b (rawInt ux.objs.size) (.bool false)):=FY
 refine m6 FY (by simp) λha QZ YN=>?_
 replace QZ:ha.get? (b+5)=some (mY b (rawInt ux.objs.size) (.bool false)):=QZ
 have up:∀c o,c≠b+5->ux.get? c=some o->ha.get? c=some o:=λc o c1 e=>YN.extBut _ _ c1 (FZ.extBut _ _ c1 (aH _ e))
 have kk:b+5<ux.objs.size:=bJ Kl
 have hT:ha.get? ux.objs.size=some (nD (.int 1 s.toks) x y):=YN.extBut _ _ (gQ kk) (FZ.extBut _ _ (gQ kk) (bC _ rfl))
 rw[fC] at QZ hT
 refine ao ⟨_,rfl,?_⟩
 show Q (.ref ux.objs.size) _
 rw[fC]
 refine hQ ha _ s.toks QZ ⟨?_,?_,?_,?_,?_,?_,?_⟩ hT (by rw[YN.1,FZ.1,cZ,fC]) λc o c1 c2 c3 c4 c5 e=>up c o c5 (k7 c o c1 c2 c3 c4 c5 e)
 ·exact up _ _ (gz b (i:=0) (j:=5) (by decide)) (wB.extBut _ _ (gz b (i:=0) (j:=4) (by decide)) (wA.extBut _ _ (gz b (i:=0) (j:=2) (by decide)) (zc.extBut _ _ (gz b (i:=0) (j:=4) (by decide)) (oE.extBut _ _ (gz b (i:=0) (j:=1) (by decide)) (qH.extBut _ _ (gz b (i:=0) (j:=4) (by decide)) FV)))))
 ·exact PY.at λo e=>up _ o (gz b (by decide)) (wB.extBut _ _ (gz b (by decide)) (wA.extBut _ _ (gz b (by decide)) (zc.extBut _ _ (gz b (by decide)) e)))
 ·exact P0.at λo e=>up _ o (gz b (by decide)) (wB.extBut _ _ (gz b (by decide)) e)
 ·exact up _ _ (gz b (by decide)) (k7 _ _ (gz b (i:=3) (j:=0) (by decide)) (gz b (by decide)) (gz b (by decide)) (gz b (by decide)) (gz b (by decide)) Z.TI)
 ·exact⟨_,_,_,up _ _ (gz b (by decide)) t7⟩
 ·exact Z.L2.at λo e=>up _ o (lE h2 5) (k7 _ o (lE h2 0) (lE h2 1) (lE h2 2) (lE h2 4) (lE h2 5) e)
 ·exact Z.L3.at λo e=>up _ o (lE h3 5) (k7 _ o (lE h3 0) (lE h3 1) (lE h3 2) (lE h3 4) (lE h3 5) e)
end
theorem xm(a b c:Value):checkTypeCall "zip" ⟨[a,b,c],[]⟩=pure ():=by kernel_rfl
theorem zd(a b c:Value):checkBuiltinCall "zip.__new__" ⟨[.type "zip",a,b,c],[]⟩=pure ():=by kernel_rfl
theorem F0(a b c d:Value):argsOk "object.__init__" ⟨[a,b,c,d],[]⟩:=by
 unfold argsOk; rw[signature?_of (id:= "object.__init__") (n:=['_','_','t','i','n','i','_','_']) (o:=['t','c','e','j','b','o']) (by kernel_rfl) F.owner_object]; kernel_rfl
theorem I5:kX (.type "zip") "__len__" =pure none:=by rw[lX,ic]; kernel_rfl
theorem F1:kX (.type "zip") "__length_hint__" =pure none:=by rw[lX,ic]; kernel_rfl
theorem Df{prog:gu}{w:World}{A:Around}{E:Value->Shared->Prop}{s:Shared}{rest:List Value}{Q:Value×List Value->Shared->Prop}(h:Q (.type "zip",rest) s):wpAny (model prog w) A (SmallTypes.newClass "zip" ⟨.type "zip" ::rest,[]⟩) Q E s:=by
 have yB:=sub_zip
 obtain⟨hp,g,d,tk,os⟩:=s
 wp_walk
 exact h
theorem F2{prog:gu}{w:World}{A:Around}{s:Shared}{r l2 l3:Addr}{a b:Int}{t u v:Tok}{xs ys:Array Value}{R:Result->Shared->Prop}(hs:gV a b 1=true)(hR:IsRange s.heap r a b 1 t u v)(h2:s.heap.IsList l2 xs)(h3:s.heap.IsList l3 ys)
 (h:∀h',h'.get? (s.heap.objs.size+5)=some (mY s.heap.objs.size .none (.bool false))->iG h' s.heap.objs.size a (eF a b 1) 1->h'.IsListIter (s.heap.objs.size+1) l2 0->h'.IsListIter (s.heap.objs.size+2) l3 0->h'.get? (s.heap.objs.size+3)=some (nD (.ref s.heap.objs.size) (.ref (s.heap.objs.size+1)) (.ref (s.heap.objs.size+2)))->h'.get? (s.heap.objs.size+4)=some (nD .none .none .none)->
  h'.objs.size=s.heap.objs.size+6->(∀c o,s.heap.get? c=some o->h'.get? c=some o)->R (.ok (.ret (.ref (s.heap.objs.size+5)))) {s with heap:=h'}):
 wpAny (model prog w) A.in1 (Builtin.«zip.__new__» ⟨[.type "zip", .ref r, .ref l2, .ref l3],[]⟩) (λfin s'=>∃v,fin=Fin.done (Flow.ret v)/\R (.ok (.ret v)) s') (λe s'=>R (.error e) s') s:=by
 unfold Builtin.«zip.__new__»
 refine aa (Df ?_)
 show wpAny _ _ (x4 [.ref r, .ref l2, .ref l3] >>= _) _ _ _
 refine aa ?_
 unfold x4
 simp only[iN,js]
 refine aa (aa (aa (aL (wpAny_pyIter_range hR hs (ao ?_)))))
 show wpAny _ _ (_ >>= _) _ _ _
 refine aa (aa (aL (ip (h2.push _) (ao ?_))))
 show wpAny _ _ (_ >>= _) _ _ _
 refine aa (aa (aL (ip ((h3.push _).push _) (ao ?_))))
 show wpAny _ _ (pure _) _ _ _
 refine ao (ao ?_)
 refine aa (kc ?_ (by show(3:Nat)<=ll; rw[bu]; decide))
 refine aa (kc ?_ (by show(3:Nat)<=ll; rw[bu]; decide))
 show wpAny _ _ (newObj (.type "zip") (.fields #[.none, .bool false, .bool false,_,_]) >>= _) _ _ _
 refine aa (nQ ?_ (by size_fits))
 refine ao ?_
 simp only[cZ,List.push_toArray,oJ,j1,aO,zM]
 have g:∀{h:Heap} {o:Obj} {c:Addr} {x:Obj},h.get? c=some x->(h.push o).get? c=some x:=λe=>aH _ e
 have z:∀{h:Heap} {o:Obj} {n:Nat},h.objs.size=n->o.isFreed=false->(h.push o).get? n=some o:=λe q=>e▸bC _ q
 refine⟨_,rfl,?_⟩
 refine h _ (z ?_ rfl) (g (g (g (g (g (bC _ rfl)))))) ⟨_,g (g (g (g (z ?_ rfl)))),rfl,rfl⟩ ⟨_,g (g (g (z ?_ rfl))),rfl,rfl⟩ (g (g (z ?_ rfl))) (g (z ?_ rfl)) ?_ λc o e=>g (g (g (g (g (g e)))))
 all_goals simp[cZ]
theorem Dg{prog:gu}{w:World}{A:Around}{E:Value->Shared->Prop}{s:Shared}{r l2 l3:Addr}{a b:Int}{t u v:Tok}{xs ys:Array Value}{Q:Value->Shared->Prop}(hs:gV a b 1=true)(hR:IsRange s.heap r a b 1 t u v)(h2:s.heap.IsList l2 xs)(h3:s.heap.IsList l3 ys)
 (h:∀h',h'.get? (s.heap.objs.size+5)=some (mY s.heap.objs.size .none (.bool false))->iG h' s.heap.objs.size a (eF a b 1) 1->h'.IsListIter (s.heap.objs.size+1) l2 0->h'.IsListIter (s.heap.objs.size+2) l3 0->h'.get? (s.heap.objs.size+3)=some (nD (.ref s.heap.objs.size) (.ref (s.heap.objs.size+1)) (.ref (s.heap.objs.size+2)))->h'.get? (s.heap.objs.size+4)=some (nD .none .none .none)->
  h'.objs.size=s.heap.objs.size+6->(∀c o,s.heap.get? c=some o->h'.get? c=some o)->Q (.ref (s.heap.objs.size+5)) {s with heap:=h'}):wpAny (model prog w) A (call (.type "zip") [.ref r, .ref l2, .ref l3]) Q E s:=by
 refine callType_new (S:=λ_ R s=>IsRange s.heap r a b 1 t u v/\s.heap.IsList l2 xs/\s.heap.IsList l3 ys/\∀h',h'.get? (s.heap.objs.size+5)=some (mY s.heap.objs.size .none (.bool false))->iG h' s.heap.objs.size a (eF a b 1) 1->h'.IsListIter (s.heap.objs.size+1) l2 0->h'.IsListIter (s.heap.objs.size+2) l3 0->h'.get? (s.heap.objs.size+3)=some (nD (.ref s.heap.objs.size) (.ref (s.heap.objs.size+1)) (.ref (s.heap.objs.size+2)))->h'.get? (s.heap.objs.size+4)=some (nD .none .none .none)->
  h'.objs.size=s.heap.objs.size+6->(∀c o,s.heap.get? c=some o->h'.get? c=some o)->R (.ok (.ret (.ref (s.heap.objs.size+5)))) {s with heap:=h'}) F.called_zip (by decide) (xm _ _ _) (zd _ _ _) (λobj=>F0 obj _ _ _) F.entry_zip_new
  (.of_wp λprog w A R s h=>F2 hs h.1 h.2.1 h.2.2.1 h.2.2.2) ⟨hR,h2,h3,λh' g1 g2 g3 g4 g5 g6 g7 g8=>?_⟩
 show _/\_
 exact⟨⟨_,g1,rfl⟩,h h' g1 g2 g3 g4 g5 g6 g7 g8⟩
noncomputable def YO(h:Heap)(b:Addr)(xs ys:Array Value)(acc:Array Value)(i:Nat):Prop:=acc.size=i/\∀j,j<i->∃(T:Addr) (t:Tok) (x y:Value),acc[j]? =some (.ref T)/\h.get? T=some (nD (.int ((j:Int)+1) t) x y)/\xs[j]? =some x/\ys[j]? =some y/\b+7<=T
noncomputable def Zst(h:Heap)(b:Addr):Nat->Prop
 | 0=>h.get? (b+5)=some (mY b .none (.bool false))
 |_+1=>∃(T:Addr) (fb:Value) (o:Obj),h.get? (b+5)=some (mY b (rawInt T) fb)/\h.get? T=some o/\b+7<=T
noncomputable abbrev I6(acc:Array Value)(c:Nat):Obj:={cls:= .type "list",dict:=none,data:= .seq acc c,slots:=#[]}
section
variable {prog:gu}{w:World}{A:Around}
theorem i0{b T:Addr}(h:b+7<=T){i:Nat}(hi:i<7):T≠b+i:=λe=>absurd (Nat.add_le_add_iff_left.mp (e▸h)) (Nat.not_le.mpr hi)
theorem Dh{R:Result->Shared->Prop}{b l2 l3:Addr}{xs ys:Array Value}{n:Nat}{h0:Heap}(hh:A.handled=none)(h2:l2<b)(h3:l3<b)(hx:n<=xs.size)(hy:n<=ys.size)(hn:n<=100000)(Nd:0<n):
 ∀(k i:Nat) (s:Shared) (acc:Array Value) (c:Nat),n-i=k->i<=n->Zst s.heap b i->Zs s.heap b l2 l3 xs ys i ((n:Int)-i)->s.heap.get? (b+6)=some (I6 acc c)->YO s.heap b xs ys acc i->(∀c o,c<b->h0.get? c=some o->s.heap.get? c=some o)->b+7<=s.heap.objs.size->
 (∀h' tk xn c',h'.get? (b+6)=some (I6 xn c')->YO h' b xs ys xn n->(∀c o,c<b->h0.get? c=some o->h'.get? c=some o)->R (.ok (.ret .none)) {s with heap:=h',toks:=tk})->
 eD (model prog w) A (.builtin "list.extend.loop" ⟨[.ref (b+6), .ref (b+5), .none],[]⟩) R s:=by
 intro k
 induction k with
 |zero=>
  intro i s acc c hk hi hz Z hS hI PF fC hR
  have He:i=n:=by exact Tc hk hi
  subst He
  refine codeAny_builtin F.entry_extend_loop ?_
  rw[zQ F.plain_extend_loop _]
  show wpAny _ A.in1 (pyNext (.ref (b+5)) >>= _) _ _ s
  obtain⟨m,rfl⟩:∃m,i=m+1:=⟨i-1,by exact Td hn Nd⟩
  obtain⟨T,fb,o,hz,hT,Kk⟩:=hz
  have Km:s.TypeIs (.ref (b+5)) "zip":=⟨_,hz,rfl⟩
  unfold pyNext
  refine aa (aa (sN (gN (name:=J "__next__") Km F.slot_zip_next
   (kW F.slot_zip_next Km F.entry_zip_next (FX hh hz hT Z (by exact ew 0x3e808228082181 tt) λh' e oZ he=>?_) (F.args_zip_next_1 _)))))
  obtain⟨oe,ho,hc⟩:=he
  refine aa (wpAny_isInstance (T:= "StopIteration") (b:=true) ⟨oe,ho,hc⟩ isSubtype_stop ?_)
  refine ao ?_
  refine ao (hR h' _ acc c (oZ _ _ (gz b (by decide)) hS) ⟨hI.1,λj hj=>?_⟩ λc o hc e=>oZ c o (lE hc 5) (PF c o hc e))
  obtain⟨T,t,x,y,a1,a2,a3,a4,a5⟩:=hI.2 j hj
  exact⟨T,t,x,y,a1,oZ _ _ (i0 a5 (by decide)) a2,a3,a4,a5⟩
 |succ k ih=>
  intro i s acc c hk hi hz Z hS hI PF fC hR
  have kk:i<n:=by exact Te hk hi
  obtain⟨x,Mp⟩:∃x,xs[i]? =some x:=⟨_,me (by exact HB hx kk)⟩
  obtain⟨y,N5⟩:∃y,ys[i]? =some y:=⟨_,me (by exact HB hy kk)⟩
  refine codeAny_builtin F.entry_extend_loop ?_
  rw[zQ F.plain_extend_loop _]
  show wpAny _ A.in1 (pyNext (.ref (b+5)) >>= _) _ _ s
  have fin:∀h' tk t,Zst h' b (i+1)->Zs h' b l2 l3 xs ys (i+1) ((n:Int)-i-1)->h'.get? s.heap.objs.size=some (nD (.int ((i:Int)+1) t) x y)->h'.objs.size=s.heap.objs.size+1->(∀c o,c≠b->c≠b+1->c≠b+2->c≠b+4->c≠b+5->s.heap.get? c=some o->h'.get? c=some o)->
   wpAny (model prog w) A.in1 (xF (b+6) (·.push (.ref s.heap.objs.size)) >>= λ_=>again (.builtin "list.extend.loop" ⟨[.ref (b+6), .ref (b+5), .none],[]⟩)) (λfin s'=>match fin with| .done f=>R (.ok f) s'| .again c'=>c'.quiet=true/\eD (model prog w) A c' R s') (λe s'=>R (.error e) s') {s with heap:=h',toks:=tk}:=by
   intro h' tk t z1 z2 z3 z4 z5
   have hS':=z5 _ _ (gz b (i:=6) (j:=0) (by decide)) (gz b (by decide)) (gz b (by decide)) (gz b (by decide)) (gz b (by decide)) hS
   refine aa ?_
   have zC:∀c o,c≠b+6->h'.get? c=some o->(h'.update (b+6) (c9 (·.push (.ref s.heap.objs.size)))).get? c=some o:=λc o hc e=>(ct _ _ (Ne.symm hc)).trans e
   refine lW hS' rfl (ao ⟨plainId_quiet F.plain_extend_loop _,ih (i+1) _ (acc.push (.ref s.heap.objs.size)) _ (by exact Tf hk kk) kk ?_ ⟨?_,?_,?_,?_,?_,?_,?_⟩ (bK _ hS' rfl) ⟨?_,λj hj=>?_⟩ ?_ ?_ ?_⟩) ?_ ?_
   ·obtain⟨T,fb,o,e1,e2,e3⟩:=z1
    exact⟨T,fb,o,zC _ _ (gz b (by decide)) e1,zC _ _ (i0 e3 (by decide)) e2,e3⟩
   ·have:=zC _ _ (gz b (i:=0) (j:=6) (by decide)) z2.r
    rw[show((n:Int)-((i+1:Nat):Int))=(n:Int)-i-1 by exact Tg]; exact this
   ·exact z2.i2.at λo e=>zC _ o (gz b (by decide)) e
   ·exact z2.i3.at λo e=>zC _ o (gz b (by decide)) e
   ·exact zC _ _ (gz b (by decide)) z2.TI
   ·obtain⟨p,q,r,e⟩:=z2.TO; exact⟨p,q,r,zC _ _ (gz b (by decide)) e⟩
   ·exact z2.L2.at λo e=>zC _ o (lE h2 6) e
   ·exact z2.L3.at λo e=>zC _ o (lE h3 6) e
   ·rw[Hr,hI.1]
   ·rcases fY j i with BN|BN
    ·obtain⟨T,t,x,y,a1,a2,a3,a4,a5⟩:=hI.2 j BN
     refine⟨T,t,x,y,?_,zC _ _ (i0 a5 (by decide)) (z5 _ _ (i0 a5 (i:=0) (by decide)) (i0 a5 (by decide)) (i0 a5 (by decide)) (i0 a5 (by decide)) (i0 a5 (by decide)) a2),a3,a4,a5⟩
     rw[Array.getElem?_push_lt (by rw[hI.1]; exact BN)]
     rw[me (by rw[hI.1]; exact BN)] at a1
     exact a1
    ·obtain rfl:j=i:=by exact Th hj BN
     refine⟨s.heap.objs.size,t,x,y,?_,zC _ _ (i0 fC (by decide)) z3,Mp,N5,fC⟩
     have:=hI.1
     subst this
     exact xS
   ·exact λc o hc e=>zC c o (lE hc 6) (z5 c o (lE hc 0) (lE hc 1) (lE hc 2) (lE hc 4) (lE hc 5) (PF c o hc e))
   ·show b+7<=(h'.update _ _).objs.size
    rw[(dT (a:=b+6) (h:=h') ..).1,z4]; exact Nat.le_succ_of_le fC
   ·exact λh'' YQ xn c' g1 g2 g3=>hR h'' YQ xn c' g1 g2 g3
   ·rw[hI.1,bu]; exact aX 0xa060108716d4240084308421084821 tt hn kk
   ·show(acc.push _).size<=ll+1; rw[Hr,hI.1,bu]; exact aX 0xa060108716d4240086818421084250a0601 tt hn kk
  cases i with
  |zero=>
   have Km:s.TypeIs (.ref (b+5)) "zip":=⟨_,hz,rfl⟩
   unfold pyNext
   refine aa (aa (sN (gN (name:=J "__next__") Km F.slot_zip_next
    (kW F.slot_zip_next Km F.entry_zip_next (AS hz Z (by exact ew 0x293804334010c83d61 tt Nd) Mp N5 h2 h3 λh' tk t g1 g2 g3 g4 g5=>ao ?_) (F.args_zip_next_1 _)))))
   exact fin h' tk t ⟨_,_,_,g1,g3,fC⟩ g2 g3 g4 g5
  |succ i=>
   obtain⟨T,fb,o,hz,hT,Kk⟩:=hz
   have Km:s.TypeIs (.ref (b+5)) "zip":=⟨_,hz,rfl⟩
   unfold pyNext
   refine aa (aa (sN (gN (name:=J "__next__") Km F.slot_zip_next
    (kW F.slot_zip_next Km F.entry_zip_next (De hz hT Z (by exact jf 0x694042010d0104050c83d61 tt kk) Mp N5 h2 h3 (Ne.symm (i0 Kk (by decide))) λh' tk t Kj g1 g2 g3 g4 g5=>ao ?_) (F.args_zip_next_1 _)))))
   exact fin h' tk t ⟨T,Kj,o,g1,g5 _ _ (i0 Kk (i:=0) (by decide)) (i0 Kk (by decide)) (i0 Kk (by decide)) (i0 Kk (by decide)) hT,Kk⟩ g2 g3 g4 λc o c1 c2 c3 _ c5 e=>g5 c o c1 c2 c3 c5 e
end
section
variable {prog:gu}{w:World}{A:Around}{E:Value->Shared->Prop}{s:Shared}
theorem AU{b:Addr}{f0 fb:Value}{Q:Bool->Shared->Prop}(hz:s.heap.get? (b+5)=some (mY b f0 fb))(h:Q true s):wpAny (model prog w) A (qX (.ref (b+5))) Q E s:=by
 unfold qX
 refine aa (zr ⟨_,hz,rfl⟩ I5 ?_)
 show wpAny _ _ (specialOf (.ref (b+5)) (J "__length_hint__") >>= _) _ _ _
 exact aa (zr ⟨_,hz,rfl⟩ F1 (ao h))
theorem Di{Q:Value->Shared->Prop}{b l2 l3:Addr}{xs ys:Array Value}{n:Nat}(hh:A.handled=none)(h2:l2<b)(h3:l3<b)(hx:n<=xs.size)(hy:n<=ys.size)(hn:n<=100000)(Nd:0<n)
 (hz:s.heap.get? (b+5)=some (mY b .none (.bool false))) (Z:Zs s.heap b l2 l3 xs ys 0 n) (fC:s.heap.objs.size=b+6)
 (hQ:∀h' tk xn c',h'.get? (b+6)=some (I6 xn c')->YO h' b xs ys xn n->(∀c o,c<b->s.heap.get? c=some o->h'.get? c=some o)->Q (.ref (b+6)) {s with heap:=h',toks:=tk}):
 wpAny (model prog w) A (call (.type "list") [.ref (b+5)]) Q E s:=by
 have key:∀(pS:Heap) (Mq:Nat),pS.get? (b+6)=some (I6 #[] Mq)->(∀c o,c≠b+6->s.heap.get? c=some o->pS.get? c=some o)->pS.objs.size=b+7->eD (model prog w) A.in1 (.builtin "list.extend.loop" ⟨[.ref (b+6), .ref (b+5), .none],[]⟩) (wants (λr sW=>r= .none/\Q (.ref (b+6)) sW) E) {s with heap:=pS}:=by
  intro pS Mq g1 all g2
  refine Dh (A:=A.in1) (h0:=s.heap) hh h2 h3 hx hy hn Nd n 0 {s with heap:=pS} #[] Mq rfl (fD _) ?_ ⟨?_,?_,?_,?_,?_,?_,?_⟩ g1 ⟨rfl,λj hj=>absurd hj (KA _)⟩ (λc o hc e=>all c o (lE hc 6) e) (ah g2.symm) λh' tk' xn c' g1 g2 g3=>⟨rfl,hQ h' tk' xn c' g1 g2 g3⟩
  ·exact all _ _ (gz b (by decide)) hz
  ·rw[show((n:Int)-((0:Nat):Int))=n by rfl]; exact all _ _ (gz b (i:=0) (j:=6) (by decide)) Z.r
  ·exact Z.i2.at λo e=>all _ o (gz b (by decide)) e
  ·exact Z.i3.at λo e=>all _ o (gz b (by decide)) e
  ·exact all _ _ (gz b (by decide)) Z.TI
  ·obtain⟨p,q,r,e⟩:=Z.TO; exact⟨p,q,r,all _ _ (gz b (by decide)) e⟩
  ·exact Z.L2.at λo e=>all _ o (lE h2 6) e
  ·exact Z.L3.at λo e=>all _ o (lE h3 6) e
 refine callType_codes (Q₁:=λobj cU=>obj= .ref s.heap.objs.size/\cU={s with heap:=s.heap.push {cls:= .type "list",data:= .seq #[]}}) F.called_list (F.typeCall_list_1 _) F.entry_list_init
  (code_list_new _ ⟨rfl,rfl⟩) λobj cU gf=>?_
 obtain⟨rfl,rfl⟩:=gf
 have up:∀c o,s.heap.get? c=some o->(s.heap.push {cls:= .type "list",data:= .seq #[]}).get? c=some o:=λc o e=>aH _ e
 have hS:(s.heap.push {cls:= .type "list",data:= .seq #[]}).get? (b+6)=some {cls:= .type "list",data:= .seq #[]}:=fC▸bC _ rfl
 have hs1:(s.heap.push {cls:= .type "list",data:= .seq #[]}).objs.size=b+7:=by rw[cZ,fC]
 rw[fC]
 generalize s.heap.push {cls:= .type "list",data:= .seq #[]}=gf at up hS hs1
 refine⟨⟨_,hS,rfl⟩,F.args_list_init_2 _ _,?_⟩
 show wpAny _ _ (do let old <-sV (.ref (b+6)); Builtin.List.listUpdate (.ref (b+6)) (λ_=>#[]); letGo old.toList.reverse; jN (.ref (b+6)) (.ref (b+5)) .none) _ _ _
 refine aa ?_
 unfold sV
 refine aa (gJ hS rfl (ao ?_))
 show wpAny _ _ (xF (b+6) (λ_=>#[]) >>= λ_=>letGo (#[]:Array Value).toList.reverse >>= λ_=>jN (.ref (b+6)) (.ref (b+5)) .none) _ _ _
 refine aa (lW hS rfl ?_)
 have zC:∀{h:Heap} {f} {c:Addr} {o},c≠b+6->h.get? c=some o->(h.update (b+6) f).get? c=some o:=λhc e=>(ct _ _ (Ne.symm hc)).trans e
 have ups:∀{h:Heap} {f},h.objs.size=b+7->(h.update (b+6) f).objs.size=b+7:=λe=>(dT ..).1.trans e
 have F3:=bK (c9 (λ_=>(#[]:Array Value))) hS rfl
 have JU:=ups (f:=c9 (λ_=>(#[]:Array Value))) hs1
 have PV:∀c o,c≠b+6->s.heap.get? c=some o->(gf.update (b+6) (c9 (λ_=>(#[]:Array Value)))).get? c=some o:=λc o hc e=>zC hc (up _ _ e)
 generalize gf.update (b+6) (c9 (λ_=>(#[]:Array Value)))=h₂' at F3 JU PV
 refine aa (xV ?_)
 have F4:=PV _ _ (gz b (i:=5) (j:=6) (by decide)) hz
 unfold jN
 refine aa (wpAny_typeOf (T:= "zip") ⟨_,F4,rfl⟩ ?_)
 have h1:sf (.ref (b+6)) (.ref (b+5))=false:=by simpa [sf] using gz b (i:=6) (j:=5) (by decide)
 have zB:(lp "zip" ==lp "list")=false:=by decide
 have Lg:(lp "zip" ==lp "tuple")=false:=by decide
 simp only[h1,zB,Lg,yc,cb,if_false]
 refine aa (xD F4 ?_)
 refine aa (aL (AU F4 ?_))
 refine wpAny_ite_split (λ_=>?_) λM4=>absurd rfl M4
 refine aa (m7 ?_)
 refine aa ?_
 show wpAny _ _ (xF (b+6) (·.push .none) >>= λ_=>xF (b+6) (·.pop)) _ _ _
 refine aa (lW F3 rfl ?_)
 have Kn:=bK (c9 (·.push d7)) F3 rfl
 refine lW (hz:=by seq_fits) Kn rfl ?_
 have P2:=bK (c9 (·.pop)) Kn rfl
 exact ao ⟨plainId_quiet F.plain_extend_loop _,key _ _ P2 (λc o hc e=>zC hc (zC hc (PV c o hc e))) (ups (ups JU))⟩
end
section
variable {W:Wd}{C:Cx}{ρ:Ro}{names:List (Str×aC)}{f o:Fz}{s:Shared}
noncomputable def Fz.mq(f:Fz)(b:Addr)(h:Heap):Fz:=λa=>if Nat.ble b a then h.get? a else f a
theorem ze{b a:Addr}{h:Heap}(hb:b<=a):f.mq b h a=h.get? a:=by unfold Fz.mq; rw[if_pos (Nat.ble_eq.mpr hb)]
theorem uy{b a:Addr}{h:Heap}(hb:a<b):f.mq b h a=f a:=by
 unfold Fz.mq; rw[if_neg (λq=>absurd (CA q) (Nat.not_le.mpr hb))]
theorem St.I7(S:St W.B f o s){h':Heap}{tk:Tok}(hk:∀c x,c<s.heap.objs.size->s.heap.get? c=some x->h'.get? c=some x):f.le (f.mq s.heap.objs.size h')/\St W.B (f.mq s.heap.objs.size h') o {s with heap:=h',toks:=tk}:=by
 have le:f.le (f.mq s.heap.objs.size h'):=λa x e=>(uy (S.lt (.inl e))).trans e
 have cs:∀a x,f.mq s.heap.objs.size h' a=some x->(s.heap.objs.size<=a/\h'.get? a=some x)\/(a<s.heap.objs.size/\f a=some x):=λa x e=>by
  rcases fY a s.heap.objs.size with h|h
  ·exact .inr ⟨h,(uy h).symm.trans e⟩
  ·exact .inl ⟨h,(ze h).symm.trans e⟩
 refine⟨le,λa x e=>?_,λa x e=>hk a x (S.lt (.inr e)) (S.own a x e),λa x e=>?_,S.base.trans le,λc hc=>let⟨z,hz,hq⟩:=S.tab c hc; ⟨z,hk c z (S.ju hc) hz,hq⟩,λc hc=>⟨(uy (S.ju hc)).trans (S.fq c hc).1,(S.fq c hc).2⟩,S.os,S.gens⟩
 ·rcases cs a x e with⟨_,h⟩|⟨h,e⟩
  ·exact h
  ·exact hk a x h (S.sub a x e)
 ·rcases cs a x e with⟨h,_⟩|⟨_,e⟩
  ·exact none_of λy q=>absurd (S.lt (.inr q)) (GX.mpr h)
  ·exact S.apart a x e
theorem Dj(K:CK C names){f1 f2 e1 e2 e3:Expr}{p1 p2:Pos}{xs ys:List D}{n:Nat}(YR:VE W C ρ f1 (.raw (.type "list")))(Nf:VE W C ρ f2 (.raw (.type "zip")))(ha:VA W C ρ [e1,e2,e3] [.Bs 1 ((n:Int)+1), .list xs, .list ys])(hx:n<=xs.length)(hy:n<=ys.length)(hn:n<=1000)(Nd:0<n)
 (hp:autoParam ((aI [e1,e2,e3] C.env).all (λx=>!x.1)=true) fM._auto_1) (Me:autoParam (eval (.Call f1 [.Call f2 [e1,e2,e3] [] p2] [] p1) C.env=(do fS p1 (<-eval f1 C.env) [] (backTo p1 (aI [.Call f2 [e1,e2,e3] [] p2] C.env)) (gr p1 (dI [] C.env)))) fM._auto_1)
 (he2:autoParam (eval (.Call f2 [e1,e2,e3] [] p2) C.env=(do fS p2 (<-eval f2 C.env) [] (backTo p2 (aI [e1,e2,e3] C.env)) (gr p2 (dI [] C.env)))) fM._auto_1) (pf:autoParam (aI [.Call f2 [e1,e2,e3] [] p2] C.env=[(false,eval (.Call f2 [e1,e2,e3] [] p2) C.env)]) fM._auto_1):
 VE W C ρ (.Call f1 [.Call f2 [e1,e2,e3] [] p2] [] p1) (.list ((aB n).map λ(i:Nat)=> .tup [.int ((i:Int)+1),xs.getD i .none,ys.getD i .none])):=ve λf o s S H Q E h=>by
 rw[Me]
 refine aa (YR.un f o s S H _ _ λv f1' s1 l1 S1 d1=>?_)
 obtain rfl:v= .type "list":=d1
 have jm:(backTo p1 (aI [Expr.Call f2 [e1,e2,e3] [] p2] C.env)).any (·.1)=false:=cn p1 _ C.env (by rw[pf]; rfl)
 refine d6 (P:=λh=>∀a x,W.B.f a=some x->h.get? a=some x) (by rw[jm]; rfl) (Kept.type (W:=W)) (dm jm ?_)
 rw[pf]
 refine dP ?_
 rw[he2]
 refine aa (Nf.un f1' o s1 S1 (H.mono l1 (.refl o)) _ _ λv f2' s2 l2 S2 d2=>?_)
 obtain rfl:v= .type "zip":=d2
 have P4:=cn p2 [e1,e2,e3] C.env hp
 refine d6 (P:=λh=>∀a x,W.B.f a=some x->h.get? a=some x) (by rw[P4]; rfl) (Kept.type (W:=W)) (dm P4 ?_)
 refine ha.un p2 f2' o s2 S2 (H.mono (l1.trans l2) (.refl o)) _ _ λvs f3 s3 l3 S3 d3=>⟨S3.bT,?_⟩
 obtain⟨v1,r1,rfl,⟨r,t,u,w,rfl,er⟩,v2,r2,rfl,⟨a2,o2,YS,n2,rfl,q1,q2,q3,q4⟩,v3,r3,rfl,⟨a3,o3,YT,n3,rfl,q5,q6,q7,q8⟩,q9⟩:=d3
 obtain rfl:r3=[]:=q9
 have Mr:gV 1 ((n:Int)+1) 1=true:=ot (by simp[*]) (by simp[*]) (by exact ew 0x40085be92a4141 tt) (by exact ew 0x7ec48010be92a413002161 tt hn)
 have Nc:eF 1 ((n:Int)+1) 1=n:=by rw[kO rfl]; simp[*]
 refine Dg (xs:=⟨YS⟩) (ys:=⟨YT⟩) Mr (S3.sub _ _ er) ⟨o2,S3.sub _ _ q1,q2.1,n2,q3⟩ ⟨o3,S3.sub _ _ q5,q6.1,n3,q7⟩ λh' g1 g2 g3 g4 g5 g6 g7 g8=>?_
 rw[Nc] at g2
 refine d9 ⟨λa x e=>g8 _ _ (S3.bT a x e),?_⟩
 refine Di (l2:=a2) (l3:=a3) (xs:=⟨YS⟩) (ys:=⟨YT⟩) (n:=n) K.hand (S3.lt (.inl q1)) (S3.lt (.inl q5)) (by show n<=YS.length; rw[q4.length]; exact hx) (by show n<=YT.length; rw[q8.length]; exact hy) (by exact aN 0xfd8900210e2da84801 tt hn) Nd g1 ⟨g2,g3,g4,g5,⟨_,_,_,g6⟩,⟨o2,g8 _ _ (S3.sub _ _ q1),q2.1,n2,q3⟩,⟨o3,g8 _ _ (S3.sub _ _ q5),q6.1,n3,q7⟩⟩ g7 λhh tk acc c k1 k2 k3=>?_
 obtain⟨lf,S4⟩:=S3.I7 (h':=hh) (tk:=tk) λc x hc e=>k3 c x hc (g8 _ _ e)
 have P5:∀{a:Addr} {i:Nat} {x:Obj},s3.heap.objs.size+i<=a->hh.get? a=some x->f3.mq s3.heap.objs.size hh a=some x:=λhi e=>(ze (aP (gy _ _) hi)).trans e
 refine h _ _ _ (l1.trans (l2.trans (l3.trans lf))) S4 ⟨_,_,acc.toList,c,rfl,P5 (i:=6) (bL _) k1,⟨rfl,rfl,rfl⟩,by simp,?_⟩
 have key:∀(m j:Nat) (l:List Value),l.length=m->j+m=n->(∀i v,l[i]? =some v->acc[j+i]? =some v)->bQ (f3.mq s3.heap.objs.size hh) ((bB j m).map λ(i:Nat)=> .tup [.int ((i:Int)+1),xs.getD i .none,ys.getD i .none]) l:=by
  intro m
  induction m with
  |zero=>intro j l hl _ _; rw[i8.mp hl]; rfl
  |succ m ih=>
   intro j l hl hj hv
   cases l with
   |nil=>exact nomatch hl
   |cons v l=>
    obtain⟨T,t',x,y,a1,a2',a3',a4',a5⟩:=k2.2 j (by exact cG 0x2a060080422a0201 tt (ah hj))
    have:=hv 0 v rfl
    rw[lq,a1] at this
    obtain rfl: .ref T=v:=cg this
    obtain⟨d1,w6,xU⟩:=q4.get' (i:=j) (v:=x) (by simpa using a3')
    obtain⟨d2,w7,tC⟩:=q8.get' (i:=j) (v:=y) (by simpa using a4')
    refine⟨_,l,rfl,⟨T,_,_,0,rfl,P5 a5 a2',rfl,rfl, .cons ⟨t',rfl⟩ (.cons ?_ (.cons ?_ .nil))⟩,ih (j+1) l (by simpa using hl) (by exact Zp hj) λi v hi=>?_⟩
    ·rw[ak,w6]; exact xU.mono lf
    ·rw[ak,w7]; exact tC.mono lf
    ·rw[GY,rd]; exact hv (i+1) v (by simpa using hi)
 have:=key n 0 acc.toList (by simpa using k2.1) (by exact Ti) λi v hi=>by rw[fX]; simpa using hi
 rw[km]; exact this
end
noncomputable def F5(y:Int):Ed:=⟨(y.fmod 4).toNat,((y.fdiv 16).fmod 3).toNat,((y.fdiv 4).fmod 4).toNat,y.fdiv 48⟩
noncomputable def pg(ns:List Int):List Ed:=(draws ns).map F5
noncomputable def rG(i:Nat):Nat:=bU.getD i 0
noncomputable def pT(e:Ed):Nat:=e.great.toNat % 2*4+e.low
noncomputable def jY(e:Ed):Nat:=e.great.toNat / 2*4+e.high
noncomputable def cp(e:Ed):List Nat:=rG (pT e)::(mn e.sg++[rG (jY e)])
noncomputable def uz(i:Nat):Nat:=if i=0 then 20 else if i=1 then 21 else 27
noncomputable def rowOf(e:Ed):Row:=⟨rG (pT e),uz e.sg,rG (jY e)⟩
noncomputable def zf(r:Row):List Hd:=(gb r).map λp=>⟨p.1,decide (r.sg=27),p.2⟩
noncomputable def ni(es:List Ed)(ks:List Bool):List Hd:=(iA (es.map rowOf) ks).flatMap zf
structure vC(e:Ed):Prop where
 ok:e.Ok
 g0:0<=e.great
 g4:e.great<4
theorem vC.low{e:Ed}(h:vC e):pT e<8:=by have:=h.ok.low; unfold pT; exact Tj this
theorem vC.high{e:Ed}(h:vC e):jY e<8:=by have:=h.ok.high; have:=h.g0; have:=h.g4; unfold jY; exact Tn ‹_› this
theorem jL{i:Nat}(h:i<8):rG i∈bU:=by
 unfold rG; rw[ak,aj (by exact h)]; exact dh _
theorem I8(ns:List Int)(p:Nat×Int):0<=drawn ns p/\drawn ns p<192:=⟨Bn _ (by decide),G5 _ (by decide)⟩
theorem xo{ns:List Int}{y:Int}(h:y∈draws ns):0<=y/\y<192:=by
 obtain⟨p,_,rfl⟩:=aw.mp h; exact I8 ns p
theorem Cb{y:Int}(h:0<=y/\y<192):vC (F5 y)/\t9 y=uW (F5 y):=by
 obtain⟨n,rfl⟩:=Int.eq_ofNat_of_zero_le h.1
 have hn:n<192:=by have:=h.2; exact aN 0x641300216113212a0201 tt h.2
 have e4:(n:Int).fmod 4=((n % 4:Nat):Int):=jX n 4
 have e16:((n:Int).fdiv 16).fmod 3=((n / 16 % 3:Nat):Int):=by rw[show(16:Int)=((16:Nat):Int) from rfl,iX]; exact jX _ 3
 have Q0:((n:Int).fdiv 4).fmod 4=((n / 4 % 4:Nat):Int):=by rw[show(n:Int).fdiv 4=((n / 4:Nat):Int) from iX n 4]; exact jX _ 4
 have e48:(n:Int).fdiv 48=((n / 48:Nat):Int):=iX n 48
 have he:F5 n=⟨n % 4,n / 16 % 3,n / 4 % 4,((n / 48:Nat):Int)⟩:=by unfold F5; rw[e4,e16,Q0,e48]; rfl
 rw[he]
 refine⟨⟨⟨by show n % 4<4; exact Tp e4,by show n / 16 % 3<3; exact Tq,by show n / 4 % 4<4; exact Tr Q0⟩,by show(0:Int)<=((n / 48:Nat):Int); exact ew 8673 tt,by show((n / 48:Nat):Int)<4; exact Ts h e4 Q0⟩,?_⟩
 unfold t9 uW E1 signOf mn
 rw[e4,e16,Q0,e48]
 have hs:(((n / 16 % 3:Nat):Int)=0)=(n / 16 % 3=0)/\(((n / 16 % 3:Nat):Int)=1)=(n / 16 % 3=1):=by constructor<;>(apply propext; (first|exact Tt|exact Tu|lia|omega))
 simp only[hs.1,hs.2]
theorem F6{ns:List Int}:∀e∈pg ns,vC e:=λe he=>by
 obtain⟨y,hy,rfl⟩:=aw.mp he; exact(Cb (xo hy)).1
theorem I9(ns:List Int):(draws ns).map t9=(pg ns).map uW:=by
 unfold pg; rw[aM]
 exact ef λy hy=>(Cb (xo hy)).2
theorem uA(ns:List Int):(pg ns).length=5:=by unfold pg draws; rw[ai,ai]; rfl
theorem F7{e:Ed}(h:vC e):(rowOf e).Ok:=⟨jL h.low,by
 have:=h.ok.sg
 show uz e.sg∈[20,21,27]
 unfold uz; split
 ·simp
 ·split<;>simp,jL h.high⟩
theorem zg(es:List Ed)(ks:List Bool):pP (es.map rowOf) ks=(ni es ks).map Hd.pr:=by
 unfold pP ni
 rw[sR]
 congr 1; funext r
 unfold zf
 rw[aM]
 congr 1; funext p
 unfold oC Hd.pr Hd.txt
 simp
theorem F8{x:List Nat}(h:∀p∈rD,p.1≠x):tokOf x=none:=by
 unfold tokOf
 have key:∀l:List (List Nat×Int),(∀p∈l,p.1≠x)->l.lookup x=none:=by
  intro l
  induction l with
  |nil=>intro _; rfl
  |cons p l ih=>
   intro h
   rw[eG,show(x==p.1)=false by simpa using λe=>h p (.head _) e.symm]
   exact ih λq hq=>h q (.tail _ hq)
 exact key _ h
theorem F9:∀p∈rD,∀c∈p.1,c∉bU:=by decide
theorem qI{x:List Nat}{c:Nat}(hc:c∈x)(hl:c∈bU):tokOf x=none:=F8 λp hp e=>F9 p hp c (e▸hc) hl
theorem Ga{a:Nat}{r:List Nat}(h:∀b∈r.head?,b∈bU\/a∈bU)(h1:r=[]->True):bR (a::r)=1\/r=[]:=by
 cases r with
 |nil=>exact .inr rfl
 |cons b r=>
  left
  have hb:=h b rfl
  have key:∀n,tokOf ((a::b::r).take (n+2))=none:=λn=>by
   rcases hb with hb|ha
   ·exact qI (c:=b) (by simp) hb
   ·exact qI (c:=a) (by simp) ha
  unfold bR
  rw[key 1,key 0]; rfl
theorem xp{n c:Nat}{r:List Nat}{dn last}(hc:c∈bU):dC (n+1) (c::r) dn last=dC n r dn (last++[.str (aS [c])]):=by
 have hs:bR (c::r)=1:=by
  rcases Ga (a:=c) (r:=r) (λb _=> .inr hc) (λ_=>trivial) with h|h
  ·exact h
  ·subst h; unfold bR; rw[show[c].take 3=[c] from rfl,show[c].take 2=[c] from rfl,qI (x:=[c]) (by simp) hc]; rfl
 have hy:eL (c::r)=256+jI c:=by
  unfold eL; rw[hs,show(c::r).take 1=[c] from rfl,qI (x:=[c]) (by simp) hc]; rfl
 have hf:jI c=(bU.idxOf c:Nat)/\bU.idxOf c<8/\bU.getD (bU.idxOf c) 0=c:=by
  simp only[bU,au,bo,or_false] at hc
  rcases hc with rfl|rfl|rfl|rfl|rfl|rfl|rfl|rfl<;>exact⟨by kernel_rfl,by decide,by decide⟩
 rw[dC,if_neg (by exact nofun),hy,hf.1,if_neg (by exact Tv hf),hs]
 show dC n r dn _=_
 unfold itemOf
 rw[if_neg (by exact Tw hf),show(256+((bU.idxOf c:Nat):Int)-256).toNat=bU.idxOf c by exact Tx hf,hf.2.2]
theorem Gb{n c:Nat}{r:List Nat}{b:Nat}{i:Int}{dn last}(hb:b∈bU)(hc:tokOf [c]=some i)(JI:i≠13)(hi:i<256):dC (n+1) (c::b::r) dn last=dC n (b::r) dn (last++[.int i]):=by
 have hs:bR (c::b::r)=1:=by
  rcases Ga (a:=c) (r:=b::r) (λd hd=> .inl (by cases hd; exact hb)) (λ_=>trivial) with h|h
  ·exact h
  ·exact nomatch h
 have hy:eL (c::b::r)=i:=by unfold eL; rw[hs,show(c::b::r).take 1=[c] from rfl,hc]; rfl
 rw[dC,if_neg (by exact nofun),hy,if_neg JI,hs]
 show dC n (b::r) dn _=_
 unfold itemOf; rw[if_pos hi]
theorem go_eq{n:Nat}{r:List Nat}{b:Nat}{dn last}(hb:b∈bU):dC (n+1) (61::61::b::r) dn last=dC n (b::r) dn (last++[.int 27]):=by
 have h3:tokOf ((61::61::b::r).take 3)=none:=qI (c:=b) (by simp) hb
 have hs:bR (61::61::b::r)=2:=by
  unfold bR; rw[h3,show(61::61::b::r).take 2=[61,61] from rfl,show tokOf [61,61]=some 27 by decide+kernel]; rfl
 have hy:eL (61::61::b::r)=27:=by unfold eL; rw[hs,show(61::61::b::r).take 2=[61,61] from rfl,show tokOf [61,61]=some 27 by decide+kernel]; rfl
 rw[dC,if_neg (by exact nofun),hy,if_neg (by decide),hs]
 rfl
theorem Ja{n:Nat}{r:List Nat}{b:Nat}{dn last}(hb:b∈bU):dC (n+1) (59::b::r) dn last=dC n (b::r) (dn++[last]) []:=by
 have hs:bR (59::b::r)=1:=by
  rcases Ga (a:=59) (r:=b::r) (λd hd=> .inl (by cases hd; exact hb)) (λ_=>trivial) with h|h
  ·exact h
  ·exact nomatch h
 have hy:eL (59::b::r)=13:=by unfold eL; rw[hs,show(59::b::r).take 1=[59] from rfl,show tokOf [59]=some 13 by decide+kernel]; rfl
 rw[dC,if_neg (by exact nofun),hy,if_pos rfl,hs]
 rfl
noncomputable def Ms(e:Ed):List D:=[.str (aS [rG (pT e)]), .int (uz e.sg:Nat), .str (aS [rG (jY e)])]
theorem Cc{e:Ed}(h:vC e){n:Nat}{r:List Nat}{dn}:dC (n+3) (cp e++r) dn []=dC n r dn (Ms e):=by
 have hl:=jL h.low; have hh:=jL h.high
 have h3:=h.ok.sg
 unfold cp Ms mn uz
 rw[j1,xp hl]
 have:e.sg=0\/e.sg=1\/e.sg=2:=by exact HA h3
 rcases this with q|q|q<;>rw[q]
 ·show dC (n+2) (60::rG (jY e)::r) dn _=_
  rw[Gb (n:=n+1) hh (i:=20) (by decide+kernel) (by decide) (by decide),xp hh]; rfl
 ·show dC (n+2) (62::rG (jY e)::r) dn _=_
  rw[Gb (n:=n+1) hh (i:=21) (by decide+kernel) (by decide) (by decide),xp hh]; rfl
 ·show dC (n+2) (61::61::rG (jY e)::r) dn _=_
  rw[go_eq (n:=n+1) hh,xp hh]; rfl
theorem Gd:∀(es:List Ed),es≠[]->(∀e∈es,vC e)->∀(n:Nat) (dn:List (List D)),4*es.length<=n->dC n (cW [59] (es.map cp)) dn []=dn++es.map Ms
 |[],h,_,_,_,_=>absurd rfl h
 |[e],_,hx,n,dn,hn=>by
  obtain⟨m,rfl⟩:∃m,n=m+1+3:=⟨n-4,by simp at hn; exact Tz hn⟩
  show dC _ (cp e) dn []=_
  have:=Cc (hx e (.head _)) (n:=m+1) (r:=[]) (dn:=dn)
  rw[gU] at this
  rw[this,dC,if_pos rfl]; rfl
 |e::e2::es,_,hx,n,dn,hn=>by
  obtain⟨m,rfl⟩:∃m,n=m+1+3:=⟨n-4,by simp at hn; exact TA hn⟩
  have hs:cW [59] ((e::e2::es).map cp)=cp e++(59::cW [59] ((e2::es).map cp)):=by
   show cW [59] (cp e::cp e2::es.map cp)=_
   rw[cW]; simp
  obtain⟨c,t,hc,ht⟩:∃c t,c∈bU/\cW [59] ((e2::es).map cp)=c::t:=by
   refine⟨rG (pT e2),?_⟩
   cases es with
   |nil=>exact⟨_,jL (hx e2 (by simp)).low,rfl⟩
   |cons e3 es=>exact⟨_,jL (hx e2 (by simp)).low,by show cW [59] (cp e2::cp e3::es.map cp)=_; rw[cW]; rfl⟩
  rw[hs,Cc (hx e (.head _)),ht,Ja hc,<-ht,Gd (e2::es) (by exact nofun) (λx Mp=>hx x (.tail _ Mp)) m _ (by simp at hn ⊢; exact aX 0x16a0610a5010812210868081221 tt hn)]
  simp
theorem wC{α:Type}(c:Nat)(g:α->List Nat)(k:Nat):∀l:List α,(∀x∈l,(g x).length<=k)->(∀x∈l,3<=(g x).length)->(cW [c] (l.map g)).length<=(k+1)*l.length/\4*l.length<=(cW [c] (l.map g)).length+1
 |[],_,_=>by simp[cW]
 |[x],h,h2=>by have:=h x (.head _); have:=h2 x (.head _); simp[cW]; exact TB ‹_› this
 |x::y::l,h,h2=>by
  have a:=h x (.head _); have b:=h2 x (.head _)
  have ih:=wC c g k (y::l) (λz hz=>h z (.tail _ hz)) λz hz=>h2 z (.tail _ hz)
  show(cW [c] (g x::g y::l.map g)).length<=_/\_<=(cW [c] (g x::g y::l.map g)).length+1
  rw[cW]
  simp only[aO,a8,aQ,fg] at ih ⊢
  have e:(k+1)*(l.length+1+1)=(k+1)*(l.length+1)+(k+1):=Nat.mul_succ _ _
  exact TC a b ih e
noncomputable abbrev eN:List (Str×aC):=[(J "script",ae),(J "said",aq),(J "total",ae),(J "rel",aq),(J "kept",aq),(J "parts",aq),(J "rows",ae),(J "table",ae),(J "leads",ae),(J "kin",aq),(J "u",aq),(J "held",aq),(J "whites",ae),(J "longs",aq),(J "columns",aq),(J "one",aq),(J "trio",aq),(J "near",ae),(J "v",ae),(J "pairs",ae),(J "told",ae),(J "due",ae),(J "_law_said",ag),(J "_law_closure",ag),(J "_law_read",ag),(J "_law_laid",ag),(J "_law_leads",ag),(J "Headers",ag),(J "enumerate",ag),(J "range",ag),(J "format_witnesses",ag),(J "_law_words",ag),(J "_law_proved",ag),(J "list",ag),(J "zip",ag),(J "max",ag),(J "isinstance",ag),(J "bool",ag),(J "_law_nags",ag)]
noncomputable def dr(b1 b2 b3 b4 b5 b6 b7 b8 b9 my ka jh kQ oX mV pE oF nj lS lT lU lV:Bd):Ro:=[("script",b1),("said",b2),("total",b3),("rel",b4),("kept",b5),("parts",b6),("rows",b7),("table",b8),("leads",b9),("kin",my),("u",ka),("held",jh),("whites",kQ),("longs",oX),("columns",mV),("one",pE),("trio",oF),("near",nj),("v",lS),("pairs",lT),("told",lU),("due",lV)]
section
variable {W:Wd}{C:Cx}{ρ a9:Ro}{names:List (Str×aC)}{Q:Out->Prop}{f o:Fz}{s:Shared}
theorem Mt(X:cH W):cK W (J "_law_said") (.ref 322):=X.glob (by kernel_rfl)
theorem Dk(X:cH W):cK W (J "_law_closure") (.ref 327):=X.glob (by kernel_rfl)
theorem Jb(X:cH W):cK W (J "_law_leads") (.ref 332):=X.glob (by kernel_rfl)
theorem zh(X:cH W):cK W (J "_law_column") (.ref 339):=X.glob (by kernel_rfl)
theorem Mu(X:cH W):cK W (J "_law_laid") (.ref 349):=X.glob (by kernel_rfl)
theorem Ge(X:cH W):cK W (J "_law_proved") (.ref 354):=X.glob (by kernel_rfl)
theorem Cd(X:cH W):cK W (J "_law_words") (.ref 359):=X.glob (by kernel_rfl)
theorem Mv(X:cH W):cK W (J "_law_nags") (.ref 364):=X.glob (by kernel_rfl)
noncomputable abbrev jZ(ts:List (List Nat)):D:= .list (ts.map λt=> .str (aS t))
theorem uB{e:Ed}:(cp e).length<=4/\3<=(cp e).length:=by
 unfold cp mn; split
 ·simp[Ij]
 ·split<;>simp[Ik,Il]
theorem uC{e:Ed}(h:vC e):∀c∈cp e,c∈gC:=by
 have hl:∀c∈bU,c∈gC:=by decide
 intro c hc
 unfold cp mn at hc
 rcases au.mp hc with rfl|hc
 ·exact hl _ (jL h.low)
 rcases bN.mp hc with hc|hc
 ·split at hc
  ·simp only[Ij,au,bo,or_false] at hc; subst hc; decide
  ·split at hc<;>simp only[Ik,Il,au,bo,or_false,or_self] at hc<;>subst hc<;>decide
 ·rcases aA.mp hc with rfl; exact hl _ (jL h.high)
theorem uD:∀es:List Ed,(∀e∈es,vC e)->∀c∈cW [59] (es.map cp),c∈gC
 |[],_,c,h=>by simp[cW] at h
 |[e],hx,c,h=>uC (hx e (.head _)) c h
 |e::e2::es,hx,c,h=>by
  have hs:cW [59] ((e::e2::es).map cp)=cp e++[59]++cW [59] ((e2::es).map cp):=by
   show cW [59] (cp e::cp e2::es.map cp)=_
   rw[cW]; rfl
  rw[hs,mH] at h
  rcases bN.mp h with h|h
  ·exact uC (hx e (.head _)) c h
  rcases bN.mp h with h|h
  ·rcases aA.mp h with rfl; decide
  ·exact uD (e2::es) (λx Mp=>hx x (.tail _ Mp)) c h
theorem zi(rows:List Row)(ks:List Bool):(pP rows ks).length<=2*rows.length:=by
 have h1:(iA rows ks).length<=rows.length:=by
  unfold iA; rw[ai]
  exact aP (ba _ _) (by rw[JC]; exact kY _ _)
 have h2:∀l:List Row,(l.flatMap λr=>(gb r).map (oC r)).length<=2*l.length:=by
  intro l
  induction l with
  |nil=>simp
  |cons r l ih=>
   have:(gb r).length<=2:=by unfold gb; (repeat' split)<;>simp
   rw[G4,a8,ai,aQ]; exact cG 0x544108451004340c05100a01 tt ih this
 exact aP (h2 _) (by exact aX 0x4020845100a21 tt h1)
theorem Gg{i:Nat}(h:i<8):bU[i]? =some (rG i):=by
 unfold rG; rw[ak,aj (show i<bU.length from h)]; rfl
theorem P6(X:cH W)(K:CK C eN)(lv:Lv 6 C.A){ns:List Int}(hn:ns.length<=63){es:List Ed}(OC:(draws ns).map t9=es.map uW)(hx:∀e∈es,vC e)(h5:es.length=5){t:Nat}(ht:(draws ns).sum=t){fs:List Nat}(L:jJ (closure es).1 fs)(hk:(closure es).2.length=5)
 (h:VS W C (dr (.val (.list (ns.map .int))) (.val (.list (es.map uW))) (.val (.int t)) (.val (gB (closure es).1)) (.val (.list ((closure es).2.map .bool))) (.val (jZ (es.map cp))) (.val (.list ((es.map rowOf).map eh))) (.val (pO ((ni es (closure es).2).map Hd.pr))) (.val (jZ (fh (closure es).1 fs t))) .unset .unset .unset .unset .unset .unset .unset .unset .unset .unset .unset .unset .unset) ((cj (KK W) 369).drop 6) Q):
 VS W C (dr (.val (.list (ns.map .int))) .unset .unset .unset .unset .unset .unset .unset .unset .unset .unset .unset .unset .unset .unset .unset .unset .unset .unset .unset .unset .unset) (cj (KK W) 369) Q:=by
 unfold dr at*
 have hr:∀r∈es.map rowOf,r.Ok:=λr hr=>by obtain⟨e,he,rfl⟩:=aw.mp hr; exact F7 (hx e he)
 refine let1 (d:= .tup [.list (es.map uW), .int t]) (VE.eq (bS (gl K (Mt X)) (X.kept (by kernel_rfl)) (a1 (nm K (d:= .list (ns.map .int)))) (XE X (lv.le (by decide)) xa (by exact aN 0x1fe400847ec4801 tt hn)).un) (by rw[OC,ht])) (iW K (cx K) (cx K)) ?_
 refine let1 (bS (gl K (Dk X)) (X.kept (by kernel_rfl)) (a1 (nm K)) (XG X (lv.le (by decide)) (λe he=>(hx e he).ok) (by exact aN 844460496537601 tt (ah h5))).un) (iW K (cx K) (cx K)) ?_
 refine let1 (d:=jZ (es.map cp)) (VE.eq (dY (eX:=[(".0", .unset),("low", .unset),("sign", .unset),("high", .unset),("great", .unset)]) (out:=es.map λe=> .str (aS (cp e))) K (jF K (nm K) bp) (λC' K' e=>gI es uW (λe=> .str (aS (cp e))) (λe=>[(".0", .unset),("low", .val (.int e.low)),("sign", .val (.str (aS (mn e.sg)))),("high", .val (.int e.high)),("great", .val (.int e.great))]) (λe he=>JT K' (cx K') (cx K') (cx K') (cx K')) (λe he=>?_) λe he=>jT) ku (by rw[ai]; exact aN 0xc00210e2da84801 tt (ah h5))) (by unfold jZ; rw[aM]; rfl)) (cx K) ?_ (gX K ik)
 ·have ex:=hx e he
  have hg:((e.great.toNat:Nat):Int)=e.great:=aG ex.g0
  have hsg:(mn e.sg).length<=2:=by unfold mn Ij Ik Il; (repeat' split)<;>decide
  refine .eq (bin K' (bin K' (dB (T:= "str") (da:= .str (aS bU)) (di:= .int (pT e:Nat)) K' (st bU) (VE.eq (bin K' (bin K' (bin K' (nm K') num (lM (by decide))) num (tD (by decide))) (nm K') cV) ?_) fL (iU (Gg ex.low) (by decide))) (nm K') (gS ?_)) (dB (T:= "str") (da:= .str (aS bU)) (di:= .int (jY e:Nat)) K' (st bU) (VE.eq (bin K' (bin K' (bin K' (nm K') num (lN (by decide) (by decide))) num (tD (by decide))) (nm K') cV) ?_) fL (iU (Gg ex.high) (by decide))) (gS ?_)) ?_
  ·rw[<-hg,show((e.great.toNat:Nat):Int).fmod 2=((e.great.toNat % 2:Nat):Int) from jX _ 2]; rfl
  ·simp; exact aN 0x2a0085f49521205201 tt hsg
  ·rw[<-hg,show((e.great.toNat:Nat):Int).fdiv 2=((e.great.toNat / 2:Nat):Int) from iX _ 2]; rfl
  ·simp; exact aN 0xa80217d253f4801 tt hsg
  ·rfl
 have hj:=wC 59 cp 4 es (λe _=>uB.1) λe _=>uB.2
 refine let1 (d:= .list ((es.map rowOf).map eh)) (VE.eq (bS (gl K (Fn X)) (X.kept (by kernel_rfl)) (a1 (gh (st [59]) (iu gP gO) .builtin (a1 (nm K)) (qu (ts:=es.map cp) ?_ ?_ (by decide)))) (Ph X (lv.le (by decide)) (uD es hx) ?_).un) ?_) (cx K) ?_
 ·intro p hp; obtain⟨e,_,rfl⟩:=aw.mp hp; have:=(uB (e:=e)).1; exact aN 809276124448769 tt this
 ·rw[ai]; exact aN 844460496537601 tt (ah h5)
 ·have:=hj.1; rw[h5] at this; simp at this; exact TF h5 hj
 ·show D.list _=D.list _
  unfold readOf
  rw[Gd es (by intro q; rw[q] at h5; exact nomatch h5) hx _ _ (by have:=hj.2; rw[h5] at this ⊢; exact aN 0x5010c12210d010c1221 tt this),oJ,aM,aM]
  rfl
 refine let1 (VE.eq (bS (gl K (Mu X)) (X.kept (by kernel_rfl)) (ac (nm K) (a1 (nm K))) (X6 X (lv.le (by decide)) hr ?_ (by rw[ai]; exact aN 844460496537601 tt (ah h5))).un) (by rw[zg])) (cx K) ?_
 ·have:=zi (es.map rowOf) (closure es).2; rw[ai,h5] at this; exact aN 0xc0a200847ec4801 tt this
 refine let1 (bS (gl K (Jb X)) (X.kept (by kernel_rfl)) (ac (nm K) (a1 (nm K))) (Yi X (lv.le (by decide)) L).un) (cx K) ?_
 exact h
end
noncomputable def qJ(l:List Nat):List (List Nat):=dX 9 l
noncomputable def dM(l:List Nat):Int:=tH ((qJ l).map λp=>(p.length:Int))
noncomputable def uE(l:List Nat):List Nat:=(qJ l).getD ((qJ l).length-1) []
noncomputable def gn(l:List Nat):List Nat:=rep ((qJ l).length-1) [9]++uE l
noncomputable def mz(l:List Nat):List Nat:=rep l.length [32]
noncomputable def cL(l:List Nat):List (List Nat):=[l,gn l,mz l]
noncomputable def xt:List Nat:=[120,9,32]
noncomputable def cF(l:List Nat):iD:=yO (l++xt)
noncomputable def bq(ls:List (List Nat))(u:Nat):List Nat:=ls.getD u []
noncomputable def hn(k u:Nat):Nat:=(([[97,66,99,68],[65,98,67,100],[97,98,67,68]]:List (List Nat)).getD k []).getD u 0
noncomputable def heldOf(ls:List (List Nat)):List (List Nat×List Nat):=((aB 3).map λk=>(aB 4).map λu=>([hn k u],(cL (bq ls u)).getD k []++xt)).flatten
structure LsOk(ls:List (List Nat)):Prop where
 len:ls.length=4
 sg:∀l∈ls,∀c∈l,c=32\/c=9
 sz:∀l∈ls,l.length<=100
set_option tactic.hygienic true in
theorem qK:∀l:List Nat,(qJ l).length<=l.length+1/\∀p∈qJ l,p.length<=l.length/\∀c∈p,c∈l
 |[]=>by simp[qJ,dX]
 |x::r=>by
  have ih:=qK r
  unfold qJ at ih ⊢
  unfold dX
  split
  ·refine⟨by simp; exact ih.1,λp hp=>?_⟩
   rcases au.mp hp with rfl|hp
   ·simp
   ·have:=ih.2 p hp; exact⟨by simp; (first|lia|omega),λc hc=> .tail _ (this.2 c hc)⟩
  ·split
   ·simp
   ·rename_i q ps e
    rw[e] at ih
    refine⟨by have:=ih.1; simp at this ⊢; exact aX 1100639944705 tt this,λp hp=>?_⟩
    rcases au.mp hp with rfl|hp
    ·have:=ih.2 q (.head _)
     exact⟨by simp; simp[*],λc hc=>(au.mp hc).elim (λe=>e▸ .head _) λhc=> .tail _ (this.2 c hc)⟩
    ·have:=ih.2 p (.tail _ hp); exact⟨by simp; (first|lia|omega),λc hc=> .tail _ (this.2 c hc)⟩
theorem Ce(l:List Nat):0<(qJ l).length:=iB.mpr (tP 9 l)
theorem uF(l:List Nat):(qJ l)[(qJ l).length-1]? =some (uE l):=by
 unfold uE; rw[ak,aj (by have:=Ce l; exact TG this)]; rfl
theorem Ci{n c d:Nat}(h:d∈rep n [c]):d=c:=by rw[hW] at h; exact(gD.mp h).2
theorem AV(n c:Nat):(rep n [c]).length=n:=by rw[hW,bA]
theorem rH{l:List Nat}(hs:∀c∈l,c=32\/c=9)(hz:l.length<=100):∀k∈cL l,(∀c∈k,c=32\/c=9)/\k.length<=300:=by
 intro k hk
 have h1:=qK l
 have hl:=h1.2 _ (bI (uF l))
 simp only[cL,au,bo,or_false] at hk
 rcases hk with rfl|rfl|rfl
 ·exact⟨hs,by exact aN 0x3524008432e4801 tt hz⟩
 ·unfold gn
  refine⟨λc hc=>?_,by rw[a8,AV]; have:=h1.1; have:=hl.1; omega⟩
  rcases bN.mp hc with hc|hc
  ·exact .inr (Ci hc)
  ·exact hs c (hl.2 c hc)
 ·unfold mz
  exact⟨λc hc=> .inl (Ci hc),by rw[AV]; exact aN 0x3524008432e4801 tt hz⟩
theorem Ko:∀k<3,∀u<4,gw true (hn k u)=true/\hn k u<128:=by decide
theorem xq{ls:List (List Nat)}(H:LsOk ls):∀p∈heldOf ls,vv p:=by
 intro p hp
 unfold heldOf at hp
 obtain⟨q,hq,hp⟩:=Hl.mp hp
 obtain⟨k,hk,rfl⟩:=aw.mp hq
 obtain⟨u,hu,rfl⟩:=aw.mp hp
 have hk:=aW.mp hk
 have hu:=aW.mp hu
 have hm:bq ls u∈ls:=by unfold bq; rw[ak,aj (by rw[H.len]; exact hu)]; exact dh _
 have YU:(cL (bq ls u)).getD k []∈cL (bq ls u):=by rw[ak,aj (by exact hk)]; exact dh _
 have h1:=rH (H.sg _ hm) (H.sz _ hm) _ YU
 have h2:=Ko k hk u hu
 refine⟨?_,?_,by simp,?_⟩
 ·show clean true [hn k u]=true
  unfold clean; rw[de,h2.1]; rfl
 ·show clean false (_++xt)=true
  unfold clean
  rw[kH,cq]
  refine⟨aT.mpr λc hc=>?_,by decide⟩
  rcases h1.1 c hc with rfl|rfl<;>rfl
 ·show(_++xt).length<=1000
  rw[a8]; have:=h1.2; show _+3<=1000; (first|lia|omega)
section
variable {W:Wd}{C:Cx}{ρ a9:Ro}{names:List (Str×aC)}{Q:Out->Prop}{f o:Fz}{s:Shared}
theorem uG(K:CK C names){e es:Expr}{apos pos:Pos}{l:List Nat}(he:VE W C ρ e (.str (aS l)))(h9:VE W C ρ es (.str (aS [9])))(hl:l.length<=1000)(pf:autoParam (aI [es] C.env=(false,eval es C.env)::aI [] C.env) fM._auto_1)(hp:autoParam ((aI [es] C.env).all (λx=>!x.1)=true) fM._auto_1)(LU:autoParam ((apos.endLine==pos.line)=true) vn._auto_1)(hb:autoParam (bx e (J "split") C.env (eval e C.env)=eval e C.env) fM._auto_1):
 VE W C ρ (.Call (.Attribute e (J "split") apos) [es] [] pos) (jZ (qJ l)):=gh he (iu i6 PySem.F.type_str_split) .builtin (a1 h9 pf) (CW hl) hp (by simp) LU hb
theorem Jc(X:cH W)(K:CK C eN){ls:List (List Nat)}(H:LsOk ls){b1 b2 b3 b4 b5 b6 b7 b8 ka jh kQ oX mV pE oF nj lS lT lU lV:Bd}
 (h:VS W C (dr b1 b2 b3 b4 b5 b6 b7 b8 (.val (jZ ls)) (.val (.list (ls.map λl=>jZ (cL l)))) ka jh kQ oX mV pE oF nj lS lT lU lV) ((cj (KK W) 369).drop 7) Q):
 VS W C (dr b1 b2 b3 b4 b5 b6 b7 b8 (.val (jZ ls)) .unset ka jh kQ oX mV pE oF nj lS lT lU lV) ((cj (KK W) 369).drop 6) Q:=by
 unfold dr at*
 refine let1 (dY (eX:=[(".0", .unset),("lead", .unset)]) (out:=ls.map λl=>jZ (cL l)) K (jF K (nm K (d:=jZ ls)) bp) (λC' K' e=>gI ls (λl=> .str (aS l)) (λl=>jZ (cL l)) (λl=>[(".0", .unset),("lead", .val (.str (aS l)))]) (λl hl=>cx K') (λl hl=>?_) λl hl=>jT) ku (by rw[ai,H.len]; decide)) (cx K) h (gX K ik)
 have hz:=H.sz l hl
 have h1:=qK l
 have h2:=Ce l
 have h3:=h1.2 _ (bI (uF l))
 refine .eq (lst (ac (nm K') (ac (bin K' (bin K' (st [9]) (bin K' (bS (d:= .int (qJ l).length) (gl K' (jV X)) .builtin (a1 (uG K' (nm K') (st [9]) (by exact aN 0x352400847ec4801 tt hz))) (by rw[show(qJ l).length=((qJ l).map λt=>D.str (aS t)).length by simp]; exact jR (by simp; (first|lia|omega)))) num gH) (oP (by decide) (by(first|lia|omega)) (by exact ew 17601182785857 tt))) (dB (T:= "list") (da:=jZ (qJ l)) (di:= .int (-1)) (d:= .str (aS (uE l))) K' (uG K' (nm K') (st [9]) (by exact aN 0x352400847ec4801 tt hz)) (neg K' num w8) aR (Es (k:=1) rfl (by decide) (by simp; assumption) (by decide) (by rw[ai,av,uF]; rfl))) (gS ?_)) (a1 (bin K' (st [32]) (bS (gl K' (jV X)) .builtin (a1 (nm K')) (tG (by rw[eT]; exact aN 0x35240085f495212a0201 tt hz))) (oP (by decide) ?_ ?_)))))) ?_
 ·rw[AV]; omega
 ·rw[eT]; exact ew 0x6a480108fd848101 tt hz
 ·rw[eT]; exact ew 272589121 tt
 ·rw[eT]
  show D.list [_, .str (aS (rep (((qJ l).length:Int)-1).toNat [9]++uE l)), .str (aS (rep ((l.length:Int)).toNat [32]))]=D.list [_, .str (aS (rep ((qJ l).length-1) [9]++uE l)), .str (aS (rep l.length [32]))]
  rw[show(((qJ l).length:Int)-1).toNat=(qJ l).length-1 by simp[*],hK]
end
noncomputable def Cj(k:Nat):List Nat:=([[97,66,99,68],[65,98,67,100],[97,98,67,68]]:List (List Nat)).getD k []
theorem Gh:∀k<3,∀u<4,(Cj k)[u]? =some (hn k u):=by decide
theorem eV{ls:List (List Nat)}(H:LsOk ls){u:Nat}(hu:u<4):ls[u]? =some (bq ls u)/\bq ls u∈ls:=by
 have h:ls[u]? =some (bq ls u):=by unfold bq; rw[ak,aj (by rw[H.len]; exact hu)]; rfl
 exact⟨h,bI h⟩
theorem ls_eq{ls:List (List Nat)}(H:LsOk ls):ls=(aB 4).map (bq ls):=by
 apply jt; intro i
 rcases fY i 4 with h|h
 ·rw[(eV H h).1,av,cQ h]; rfl
 ·rw[cf (by rw[H.len]; exact h),cf (by simpa using h)]
noncomputable abbrev nE(ls:List (List Nat)):D:= .list (ls.map λl=>jZ (cL l))
noncomputable def rawOf(l:List Nat):List Nat:=l++xt
theorem Gi{k:List Nat}(h:(∀c∈k,c=32\/c=9)/\k.length<=300):(rawOf k).all (·<128)=true/\(rawOf k).length<=1000:=by
 constructor
 ·unfold rawOf; rw[kH,cq]
  refine⟨aT.mpr λc hc=>?_,by decide⟩
  rcases h.1 c hc with rfl|rfl<;>rfl
 ·show(_++xt).length<=1000
  rw[a8]; have:=h.2; show _+3<=1000; (first|lia|omega)
noncomputable def cN(u:Nat):Nat:=([65,66,99,100]:List Nat).getD u 0
theorem Gj{ls:List (List Nat)}:∀u<4,getOf (heldOf ls) [cN u]= .str (aS (rawOf (bq ls u))):=by
 intro u hu
 rcases QC u hu with rfl|rfl|rfl|rfl<;>rfl
theorem Gk{ls:List (List Nat)}:∀u<4,allOf (heldOf ls) [hn 2 u]=(cL (bq ls u)).map λk=> .str (aS (rawOf k)):=by
 intro u hu
 match u,hu with
 | 0,_=>rfl
 | 1,_=>rfl
 | 2,_=>rfl
 | 3,_=>rfl
section
variable {W:Wd}{C:Cx}{ρ a9:Ro}{names:List (Str×aC)}{Q:Out->Prop}{f o:Fz}{s:Shared}
theorem Mw(X:cH W){d:D}:Meth W (.obj 313 [("_headers",d)]) (J "get") (.ref 260):=jH X (by kernel_rfl) (by kernel_rfl) (by kernel_rfl) (by kernel_rfl)
theorem Gl(K:CK C names){ls:List (List Nat)}(H:LsOk ls){e eu ek:Expr}{p1 p2:Pos}{u k:Nat}(he:VE W C ρ e (nE ls))(h1:VE W C ρ eu (.int u))(h2:VE W C ρ ek (.int k))(hu:u<4)(hk:k<3)
 (s1:autoParam (∀o i,subscripted eu false o i=operate [o,i] (dJ o i)) CX._auto_1) (s2:autoParam (∀o i,subscripted ek false o i=operate [o,i] (dJ o i)) CX._auto_1):VE W C ρ (.Subscript (.Subscript e eu p1) ek p2) (.str (aS ((cL (bq ls u)).getD k []))):=
 dB (T:= "list") (da:=jZ (cL (bq ls u))) (di:= .int k) K (dB (T:= "list") (da:=nE ls) (di:= .int u) K he h1 aR (bY (by rw[av,(eV H hu).1]; rfl) (by exact D9 hu)) rfl s1) h2 aR (bY (by rw[av,ak,aj (show k<(cL (bq ls u)).length from hk)]; rfl) (by exact aN 0xb5010085f495212a0201 tt hk)) rfl s2
theorem Gm(X:cH W)(K:CK C eN)(lv:Lv 4 C.A){ls:List (List Nat)}(H:LsOk ls){b1 b2 b3 b4 b5 b6 b7 b8 b9 ka kQ oX mV pE oF nj lS lT lU lV:Bd}
 (h:VS W C (dr b1 b2 b3 b4 b5 b6 b7 b8 b9 (.val (nE ls)) ka (.val (pO (heldOf ls))) kQ oX mV pE oF nj lS lT lU lV) ((cj (KK W) 369).drop 8) Q):
 VS W C (dr b1 b2 b3 b4 b5 b6 b7 b8 b9 (.val (nE ls)) ka .unset kQ oX mV pE oF nj lS lT lU lV) ((cj (KK W) 369).drop 7) Q:=by
 unfold dr at*
 refine let1 (bS (gl K (wo X)) (X.kept (by kernel_rfl)) (a1 (EW (eX:=[(".0", .unset),("k", .unset),("names", .unset),("u", .unset),("kin", .val (nE ls))]) (out:=(heldOf ls).map rB) K (Ax (ds:=[.str (aS (Cj 0)), .str (aS (Cj 1)), .str (aS (Cj 2))]) (gl K (oz X)) (lst (ac (st (Cj 0)) (ac (st (Cj 1)) (a1 (st (Cj 2))))))) (λC' K' e=>?_) ku ?_)) (X1 X lv (xq H)).un) (cx K) h
 ·have e2:(heldOf ls).map rB=((aB 3).map λk=>(aB 4).map λu=>rB ([hn k u],(cL (bq ls u)).getD k []++xt)).flatten:=by
   unfold heldOf; rw[Hm,aM]; congr 1
  rw[e2]
  refine BV (aB 3) (λk=> .tup [.int k, .str (aS (Cj k))]) (λk=>(aB 4).map λu=>rB ([hn k u],(cL (bq ls u)).getD k []++xt)) (λk=>[(".0", .unset),("k", .val (.int k)),("names", .val (.str (aS (Cj k)))),("u", .unset),("kin", .val (nE ls))]) (λk hk=>iW K' (cx K') (cx K')) (λk hk=>?_) λk hk=>jT
  have hk:=aW.mp hk
  refine BU (ua X K') (gI (aB 4) (λu=> .int u) (λu=>rB ([hn k u],(cL (bq ls u)).getD k []++xt)) (λu=>[(".0", .unset),("k", .val (.int k)),("names", .val (.str (aS (Cj k)))),("u", .val (.int u)),("kin", .val (nE ls))]) (λu hu=>cx K') (λu hu=>?_) λu hu=>jT)
  have hu:=aW.mp hu
  have YU:(cL (bq ls u)).getD k []∈cL (bq ls u):=by rw[ak,aj (by exact hk)]; exact dh _
  have hl:=(rH (H.sg _ (eV H hu).2) (H.sz _ (eV H hu).2) _ YU).2
  have hnl:(Cj k).length<=10:=by rcases QB k hk with rfl|rfl|rfl<;>decide
  exact tup (ac (dB (T:= "str") (da:= .str (aS (Cj k))) (di:= .int (u:Nat)) K' (nm K') (nm K') fL (iU (Gh k hk u hu) (by exact aN 0x3a0085f495212a0201 tt hnl))) (a1 (bin K' (Gl K' H (nm K') (nm K') (nm K') hu hk) (st xt) (gS (by show _+3<=1000000; exact aN 0x197240085f495212b0201 tt hl)))))
 ·rw[ai]; have:(heldOf ls).length=12:=rfl; exact aN 0xf80210e2da84801 tt (ah this)
theorem AW(X:cH W)(K:CK C eN)(lv:Lv 4 C.A){ls:List (List Nat)}(H:LsOk ls){b1 b2 b3 b4 b5 b6 b7 b8 b9 my ka oX mV pE oF nj lS lT lU lV:Bd}
 (h:VS W C (dr b1 b2 b3 b4 b5 b6 b7 b8 b9 my ka (.val (pO (heldOf ls))) (.val (.list ((ls.map cF).map iD.D))) oX mV pE oF nj lS lT lU lV) ((cj (KK W) 369).drop 9) Q):
 VS W C (dr b1 b2 b3 b4 b5 b6 b7 b8 b9 my ka (.val (pO (heldOf ls))) .unset oX mV pE oF nj lS lT lU lV) ((cj (KK W) 369).drop 8) Q:=by
 unfold dr at*
 refine v8 (eX:=[(".0", .unset),("u", .unset),("held", .val (pO (heldOf ls)))]) (out:=(ls.map cF).map iD.D) K (ua X K) (λC' K' e=>?_) ku (by rw[ai,ai,H.len]; decide) kD h
 rw[show(ls.map cF).map iD.D=(aB 4).map λu=>(cF (bq ls u)).D by
  conv=>lhs; rw[ls_eq H]
  rw[aM,aM]; rfl]
 refine gI (aB 4) (λu=> .int u) (λu=>(cF (bq ls u)).D) (λu=>[(".0", .unset),("u", .val (.int u)),("held", .val (pO (heldOf ls)))]) (λu hu=>cx K') (λu hu=>?_) λu hu=>jT
 have hu:=aW.mp hu
 have hm:=(eV H hu).2
 have hr:=Gi (rH (H.sg _ hm) (H.sz _ hm) (bq ls u) (.head _))
 have hc:gw true (cN u)=true/\([65,66,99,100]:List Nat)[u]? =some (cN u):=by rcases QC u hu with rfl|rfl|rfl|rfl<;>decide
 refine bS (gl K' (kA X)) (X.kept (by kernel_rfl)) (a1 (VE.eq (gh (nm K') (Mw X) (X.kept (by kernel_rfl)) (a1 (dB (T:= "str") (da:= .str (aS [65,66,99,100])) (di:= .int (u:Nat)) (d:= .str (aS [cN u])) K' (st [65,66,99,100]) (nm K') fL (iU hc.2 (by decide)))) (X2 X (by rw[e]; exact lv.le (by decide)) (xq H) (x:=[cN u]) ?_ (by simp)).un) (Gj u hu))) (OY X (by rw[e]; exact lv.le (by decide)) hr.1 hr.2).un
 unfold clean; rw[de,hc.1]; rfl
end
theorem Gp:∀(ns:List Int) (a b:Int),ns≠[]->(∀n∈ns,a<=n/\n<=b)->a<=tH ns/\tH ns<=b:=by
 intro ns a b ea h
 exact h _ (kM ea)
noncomputable def AX(ls:List (List Nat)):Int:=tH (ls.map dM)
noncomputable def pU(ls:List (List Nat)):Nat:=(AX ls+1).toNat
theorem rI{l:List Nat}(hz:l.length<=100):0<=dM l/\dM l<=100:=by
 refine Gp _ _ _ (by simp; exact tP 9 l) λn hn=>?_
 obtain⟨p,hp,rfl⟩:=aw.mp hn
 have:=((qK l).2 p hp).1; exact TH hz this
theorem Kq{ls:List (List Nat)}(H:LsOk ls):0<=AX ls/\AX ls<=100:=by
 refine Gp _ _ _ (λe=>?_) λn hn=>?_
 ·have:=congrArg i9 e; rw[ai,H.len] at this; exact nomatch this
 ·obtain⟨l,hl,rfl⟩:=aw.mp hn; exact rI (H.sz l hl)
theorem uH{l:List Nat}(h:∀c∈l,c=32\/c=9):l.all (·<128)=true:=aT.mpr λc hc=>by rcases h c hc with rfl|rfl<;>rfl
noncomputable abbrev fF(ls:List (List Nat)):D:= .list ((ls.map dM).map .int)
noncomputable def rJ(n:Nat)(l:List Nat):D:= .list ((bB 1 n).map λ(k:Nat)=> .int (fe l k))
noncomputable abbrev nk(ls:List (List Nat)):D:= .list (ls.map (rJ (pU ls)))
section
variable {W:Wd}{C:Cx}{ρ a9:Ro}{names:List (Str×aC)}{Q:Out->Prop}{f o:Fz}{s:Shared}
theorem Gq{eP:Expr}(X:cH W)(K:CK C names){n:Nat}(hn:n<=100000){e1 e2:Expr}{p1 p2:Pos}(h1:VE W C ρ e1 (.int 1))(h2:VE W C ρ e2 (.int ((n:Int)+1)))(hg:autoParam ((J "range",ag)∈names) vq._auto_1)(pf:autoParam (aI [e1,e2] C.env=(false,eval e1 C.env)::aI [e2] C.env) fM._auto_1)(LK:autoParam (aI [e2] C.env=(false,eval e2 C.env)::aI [] C.env) fM._auto_1)
 (hp:autoParam ((aI [e1,e2] C.env).all (λx=>!x.1)=true) fM._auto_1) (he:autoParam (eval (.Call (.Name (J "range") p1) [e1,e2] [] p2) C.env=(do fS p2 (<-eval (.Name (J "range") p1) C.env) [] (backTo p2 (aI [e1,e2] C.env)) (gr p2 (dI [] C.env)))) fM._auto_1):
 VI W C ρ eP (.Call (.Name (J "range") p1) [e1,e2] [] p2) ((bB 1 n).map λ(k:Nat)=>D.int k):=by
 rw[<-oA,show n=((n:Int)+1-((1:Nat):Int)).toNat by exact TJ]
 exact jF K (bS (gl K (kz X) hg (by decide+kernel)) .type (ac h1 (a1 h2 LK) pf) kN hp he) (mO (by(first|lia|omega)) (by(first|lia|omega)) (by exact ew 0x40085be92a4141 tt) (by exact ew 0xe2da848010be92a413002161 tt hn))
theorem Dm(X:cH W)(K:CK C eN){ls:List (List Nat)}(H:LsOk ls){b1 b2 b3 b4 b5 b6 b7 b8 my ka jh kQ mV pE oF nj lS lT lU lV:Bd}
 (h:VS W C (dr b1 b2 b3 b4 b5 b6 b7 b8 (.val (jZ ls)) my ka jh kQ (.val (fF ls)) mV pE oF nj lS lT lU lV) ((cj (KK W) 369).drop 10) Q):
 VS W C (dr b1 b2 b3 b4 b5 b6 b7 b8 (.val (jZ ls)) my ka jh kQ .unset mV pE oF nj lS lT lU lV) ((cj (KK W) 369).drop 9) Q:=by
 unfold dr at*
 refine let1 (d:=fF ls) (VE.eq (dY (eX:=[(".0", .unset),("lead", .unset)]) (out:=ls.map λl=> .int (dM l)) K (jF K (nm K (d:=jZ ls)) bp) (λC' K' e=>gI ls (λl=> .str (aS l)) (λl=> .int (dM l)) (λl=>[(".0", .unset),("lead", .val (.str (aS l)))]) (λl hl=>cx K') (λl hl=>?_) λl hl=>jT) ku (by rw[ai,H.len]; decide)) (by unfold fF; rw[aM]; rfl)) (cx K) h (gX K ik)
 have hz:=H.sz l hl
 have h1:=qK l
 refine bS (gl K' (lC X)) .builtin (a1 (VE.eq (dY (eX:=[(".0", .unset),("part", .unset)]) (out:=(qJ l).map λp=> .int p.length) K' (jF K' (uG K' (nm K') (st [9]) (by exact aN 0x352400847ec4801 tt hz)) bp) (λJX fk LI=>gI (qJ l) (λp=> .str (aS p)) (λp=> .int p.length) (λp=>[(".0", .unset),("part", .val (.str (aS p)))]) (λp hp=>cx fk) (λp hp=>?_) λp hp=>jT) ku (by rw[ai]; (first|lia|omega))) (d':= .list (((qJ l).map λp=>(p.length:Int)).map .int)) (by rw[aM]; rfl))) (oq K'.hand (by simp; exact tP 9 l))
 have:=(h1.2 p hp).1
 exact .eq (bS (gl fk (jV X)) .builtin (a1 (nm fk)) (tG (by rw[eT]; exact aX 0x42135240085f495212a0601 tt hz this))) (by rw[eT])
theorem zj(X:cH W)(K:CK C eN)(lv:Lv 2 C.A){ls:List (List Nat)}(H:LsOk ls){b1 b2 b3 b4 b5 b6 b7 b8 my ka jh kQ pE oF nj lS lT lU lV:Bd}
 (h:VS W C (dr b1 b2 b3 b4 b5 b6 b7 b8 (.val (jZ ls)) my ka jh kQ (.val (fF ls)) (.val (nk ls)) pE oF nj lS lT lU lV) ((cj (KK W) 369).drop 11) Q):
 VS W C (dr b1 b2 b3 b4 b5 b6 b7 b8 (.val (jZ ls)) my ka jh kQ (.val (fF ls)) .unset pE oF nj lS lT lU lV) ((cj (KK W) 369).drop 10) Q:=by
 unfold dr at*
 have hb:=Kq H
 refine let1 (dY (eX:=[(".0", .unset),("lead", .unset),("longs", .val (fF ls))]) (out:=ls.map (rJ (pU ls))) K (jF K (nm K (d:=jZ ls)) bp) (λC' K' e=>gI ls (λl=> .str (aS l)) (rJ (pU ls)) (λl=>[(".0", .unset),("lead", .val (.str (aS l))),("longs", .val (fF ls))]) (λl hl=>cx K') (λl hl=>?_) λl hl=>jT) ku (by rw[ai,H.len]; decide)) (cx K) h (gX K ik)
 refine dY (eX:=[(".0", .unset),("size", .unset),("lead", .val (.str (aS l)))]) K' (Gq X K' (n:=pU ls) (by unfold pU; exact HC hb) num (VE.eq (bin K' (bS (gl K' (lC X)) .builtin (a1 (nm K' (d:=fF ls))) (oq K'.hand λq=>by have:=congrArg i9 q; rw[ai,H.len] at this; cases this)) num cV) (by unfold pU AX at*; congr 1; exact Nz hb))) (λJX fk LI=>gI (bB 1 (pU ls)) (λ(k:Nat)=> .int k) (λ(k:Nat)=> .int (fe l k)) (λ(k:Nat)=>[(".0", .unset),("size", .val (.int k)),("lead", .val (.str (aS l)))]) (λk hk=>cx fk) (λk hk=>?_) λk hk=>jT) ku (by rw[ai,cY]; unfold pU; exact HC hb)
 have hk:=cR.mp hk
 exact bS (gl fk (zh X)) (X.kept (by kernel_rfl)) (ac (nm fk) (a1 (nm fk))) (Ov X (by rw[LI,e]; exact lv.le (by decide)) (uH (H.sg l hl)) (by exact aN 688302738945 tt hk.1) (by unfold pU at hk; exact NA hb hk)).un
theorem Jd(X:cH W)(K:CK C eN){t:Nat}{b1 b2 b4 b5 b6 b7 b8 b9 my ka jh kQ oX mV oF nj lS lT lU lV:Bd}
 (h:VS W C (dr b1 b2 (.val (.int t)) b4 b5 b6 b7 b8 b9 my ka jh kQ oX mV (.val (.int (t % 4:Nat))) oF nj lS lT lU lV) ((cj (KK W) 369).drop 12) Q):
 VS W C (dr b1 b2 (.val (.int t)) b4 b5 b6 b7 b8 b9 my ka jh kQ oX mV .unset oF nj lS lT lU lV) ((cj (KK W) 369).drop 11) Q:=by
 unfold dr at*
 exact let1 (VE.eq (bin K (nm K) num (lM (by decide))) (by rw[show((t:Nat):Int).fmod 4=((t % 4:Nat):Int) from jX t 4])) (cx K) h
theorem Gr(X:cH W)(K:CK C eN)(lv:Lv 4 C.A){ls:List (List Nat)}(H:LsOk ls){u:Nat}(hu:u<4){b1 b2 b3 b4 b5 b6 b7 b8 b9 my ka kQ oX mV nj lS lT lU lV:Bd}
 (h:VS W C (dr b1 b2 b3 b4 b5 b6 b7 b8 b9 my ka (.val (pO (heldOf ls))) kQ oX mV (.val (.int u)) (.val (.list ((cL (bq ls u)).map λk=>(cF k).D))) nj lS lT lU lV) ((cj (KK W) 369).drop 13) Q):
 VS W C (dr b1 b2 b3 b4 b5 b6 b7 b8 b9 my ka (.val (pO (heldOf ls))) kQ oX mV (.val (.int u)) .unset nj lS lT lU lV) ((cj (KK W) 369).drop 12) Q:=by
 unfold dr at*
 have hm:=(eV H hu).2
 have hc:=Ko 2 (by decide) u hu
 refine let1 (dY (eX:=[(".0", .unset),("text", .unset)]) (out:=(cL (bq ls u)).map λk=>(cF k).D) K (jF K (d:= .list ((cL (bq ls u)).map λk=> .str (aS (rawOf k)))) (VE.eq (gh (nm K) (wq X) (X.kept (by kernel_rfl)) (a1 (dB (T:= "str") (da:= .str (aS (Cj 2))) (di:= .int (u:Nat)) (d:= .str (aS [hn 2 u])) K (st (Cj 2)) (nm K) fL (iU (Gh 2 (by decide) u hu) (by decide)))) (O6 X (lv.le (by decide)) (xq H) (by have:(heldOf ls).length=12:=rfl; exact aN 0x3e00847ec4801 tt (ah this)) (x:=[hn 2 u]) ?_ (by simp)).un) (by rw[Gk u hu])) bp) (λC' K' e=>gI (cL (bq ls u)) (λk=> .str (aS (rawOf k))) (λk=>(cF k).D) (λk=>[(".0", .unset),("text", .val (.str (aS (rawOf k))))]) (λk hk=>cx K') (λk hk=>?_) λk hk=>jT) ku (by simp[cL])) (cx K) h (gX K ik)
 ·unfold clean; rw[de,hc.1]; rfl
 ·have hr:=Gi (rH (H.sg _ hm) (H.sz _ hm) k hk)
  exact bS (gl K' (kA X)) (X.kept (by kernel_rfl)) (a1 (nm K')) (OY X (by rw[e]; exact lv.le (by decide)) hr.1 hr.2).un
end
noncomputable def nF(a b:iD):Bool:=decide (a.count=b.count/\a.trail=b.trail)
structure pV(l:List Nat):Prop where
 ok:∀k∈cL l,(cF k).Ok
 less:∀x∈cL l,∀y∈cL l,eK (cF x) (cF y)=false
 eq:∀x∈cL l,∀y∈cL l,nF (cF x) (cF y)=decide (x=y)
 ind:∀k∈cL l,∀ts:Nat,0<ts->(cF k).ind ts=fe k ts
 Kr:sizesOf (cF l) (cF (gn l)) 1=bB 1 (dM l+1).toNat/\sizesOf (cF (gn l)) (cF l) 1=bB 1 (dM l+1).toNat
 le:∀ts:Nat,0<ts->fe (gn l) ts<=fe l ts
 long:dM l<=60
noncomputable def iE(l:List Nat):List Nat:=bB 1 (dM l+1).toNat
noncomputable def iI(l:List Nat)(k:Nat):D:= .tup [.int k, .int (fe l k), .int (fe (gn l) k)]
theorem P7{α β:Type}(xs ys:List α)(g:α->α->β):(xs.map λx=>ys.map λy=>g x y).flatten=(xs.flatMap λx=>ys.map λy=>(x,y)).map λp=>g p.1 p.2:=by
 rw[sR,List.flatMap]
 congr 1
 refine ef λx _=>?_
 rw[aM]; rfl
section
variable {W:Wd}{C:Cx}{ρ a9:Ro}{names:List (Str×aC)}{Q:Out->Prop}{f o:Fz}{s:Shared}
theorem kF{d d':D}{n:Nat}(h:d'=d)(hl:gg n d d)(hn:n<=1000):lx W (cc .NotEq) d d' (.bool false):=by subst h; exact yw hl (by simp) hn
theorem Ck(X:cH W){w:iD}:Meth W w.D (J "less") (.ref 131):=jH X (by kernel_rfl) (by kernel_rfl) (by kernel_rfl) (by kernel_rfl)
theorem zk(X:cH W){w:iD}:Meth W w.D (J "equal") (.ref 117):=jH X (by kernel_rfl) (by kernel_rfl) (by kernel_rfl) (by kernel_rfl)
theorem Je{x y:List Nat}:lx W (cc .Eq) (.str (aS x)) (.str (aS y)) (.bool (decide (x=y))):=tE (n:=0) .str (by rw[decide_eq_true_iff]; exact⟨λe=>by rw[e],λe=>by injection e with e; exact qq e⟩) (by decide)
noncomputable abbrev lF(l:List Nat):D:= .list ((cL l).map λk=>(cF k).D)
theorem xr(K:CK C names){ls:List (List Nat)}(H:LsOk ls){e eu:Expr}{p1:Pos}{u:Nat}{l:List Nat}(hl:bq ls u=l)(he:VE W C ρ e (nE ls))(h1:VE W C ρ eu (.int u))(hu:u<4)(s1:autoParam (∀o i,subscripted eu false o i=operate [o,i] (dJ o i)) CX._auto_1):VE W C ρ (.Subscript e eu p1) (jZ (cL l)):=
 dB (T:= "list") (da:=nE ls) (di:= .int u) K he h1 aR (bY (by rw[av,(eV H hu).1,hl]; rfl) (by exact D9 hu)) rfl s1
theorem Dn(X:cH W)(K:CK C eN)(lv:Lv 4 C.A){ls:List (List Nat)}(H:LsOk ls){u:Nat}(hu:u<4)(T:pV (bq ls u)){b1 b2 b3 b4 b5 b6 b7 b8 b9 ka jh kQ oX mV nj lS lT lU lV:Bd}
 (h:VS W C (dr b1 b2 b3 b4 b5 b6 b7 b8 b9 (.val (nE ls)) ka jh kQ oX mV (.val (.int u)) (.val (lF (bq ls u))) nj lS lT lU lV) ((cj (KK W) 369).drop 14) Q):
 VS W C (dr b1 b2 b3 b4 b5 b6 b7 b8 b9 (.val (nE ls)) ka jh kQ oX mV (.val (.int u)) (.val (lF (bq ls u))) nj lS lT lU lV) ((cj (KK W) 369).drop 13) Q:=by
 unfold dr at*
 have hm:=(eV H hu).2
 have hk:=rH (H.sg _ hm) (H.sz _ hm)
 generalize hl:bq ls u=l at*
 refine jx (b:=false) (VB.eq (Ie (Ig (a:=false) (kR K (dY (eX:=[(".0", .unset),("x", .unset)]) (out:=(cL l).map λk=> .str (aS (rawOf k))) K (jF K (nm K (d:=lF l)) bp) (λC' K' e=>gI (cL l) (λk=>(cF k).D) (λk=> .str (aS (rawOf k))) (λk=>[(".0", .unset),("x", .val (cF k).D)]) (λk hk=>cx K') (λk hk=> .eq (jW K' (nm K' (d:=(cF k).D)) (LJ X)) rfl) λk hk=>jT) ku (by simp[cL]))
  (dY (eX:=[(".0", .unset),("lead", .unset)]) (out:=(cL l).map λk=> .str (aS (rawOf k))) K (jF K (xr K H hl (nm K) (nm K) hu) bp) (λC' K' e=>gI (cL l) (λk=> .str (aS k)) (λk=> .str (aS (rawOf k))) (λk=>[(".0", .unset),("lead", .val (.str (aS k)))]) (λk hk=>cx K') (λk hm=>bin K' (nm K') (st xt) (gS (by have:=(hk k hm).2; show _+3<=_; exact aN 0x197240085f495212b0201 tt this))) λk hk=>jT) ku (by simp[cL])) (kF rfl (jw (n:=0) _ _ _ _ λ_ _=> .str) (by decide)))
  λ_=>Ig (a:=false) (kR K (EW (eX:=[(".0", .unset),("x", .unset),("y", .unset),("trio", .val (lF l))]) (out:=((cL l).map λx=>(cL l).map λy=> .tup [.bool (eK (cF x) (cF y)), .bool (nF (cF x) (cF y))]).flatten) K (jF K (nm K (d:=lF l)) bp) (λC' K' e=>BV (cL l) (λk=>(cF k).D) (λx=>(cL l).map λy=> .tup [.bool (eK (cF x) (cF y)), .bool (nF (cF x) (cF y))]) (λk=>[(".0", .unset),("x", .val (cF k).D),("y", .unset),("trio", .val (lF l))]) (λk hk=>cx K') (λx hx=>BU (jF K' (nm K' (d:=lF l)) bp) (gI (cL l) (λk=>(cF k).D) (λy=> .tup [.bool (eK (cF x) (cF y)), .bool (nF (cF x) (cF y))]) (λk=>[(".0", .unset),("x", .val (cF x).D),("y", .val (cF k).D),("trio", .val (lF l))]) (λk hk=>cx K') (λy hy=>?_) λk hk=>jT)) λk hk=>jT) ku (by simp[cL]))
   (EW (eX:=[(".0", .unset),("x", .unset),("y", .unset),("kin", .val (nE ls)),("one", .val (.int u))]) (out:=((cL l).map λx=>(cL l).map λy=> .tup [.bool false, .bool (decide (x=y))]).flatten) K (jF K (xr K H hl (nm K) (nm K) hu) bp) (λC' K' e=>BV (cL l) (λk=> .str (aS k)) (λx=>(cL l).map λy=> .tup [.bool false, .bool (decide (x=y))]) (λk=>[(".0", .unset),("x", .val (.str (aS k))),("y", .unset),("kin", .val (nE ls)),("one", .val (.int u))]) (λk hk=>cx K') (λx hx=>BU (jF K' (xr K' H hl (nm K') (nm K') hu) bp) (gI (cL l) (λk=> .str (aS k)) (λy=> .tup [.bool false, .bool (decide (x=y))]) (λk=>[(".0", .unset),("x", .val (.str (aS x))),("y", .val (.str (aS k))),("kin", .val (nE ls)),("one", .val (.int u))]) (λk hk=>cx K') (λy hy=>tup (ac JS (a1 (cmp K' (nm K') (nm K') Je)))) λk hk=>jT)) λk hk=>jT) ku (by simp[cL]))
   (kF (n:=2) ?_ ?_ (by decide))) λ_=>QJ)) rfl) (λe=>by exact nomatch e) λ_=>dj h
 ·exact tup (ac (gh (nm K') (Ck X) (X.kept (by kernel_rfl)) (a1 (nm K')) (OO X (by rw[e]; exact lv.le (by decide)) (T.ok x hx) (T.ok y hy)).un) (a1 (gh (nm K') (zk X) (X.kept (by kernel_rfl)) (a1 (nm K')) (OJ X (by rw[e]; exact lv.le (by decide))).un)))
 ·congr 2
  refine ef λx hx=>ef λy hy=>?_
  rw[T.less x hx y hy,T.eq x hx y hy]
 ·rw[P7]; exact jw _ _ _ _ λ_ _=>w4 .bool .bool
theorem Gs(X:cH W)(K:CK C eN)(lv:Lv 4 C.A){ls:List (List Nat)}(H:LsOk ls){u:Nat}(hu:u<4)(T:pV (bq ls u)){b1 b2 b3 b4 b5 b6 b7 b8 b9 ka jh kQ oF lS lT lU lV:Bd}
 (h:VS W C (dr b1 b2 b3 b4 b5 b6 b7 b8 b9 (.val (nE ls)) ka jh kQ (.val (fF ls)) (.val (nk ls)) (.val (.int u)) oF (.val (.list ((iE (bq ls u)).map (iI (bq ls u))))) lS lT lU lV) ((cj (KK W) 369).drop 15) Q):
 VS W C (dr b1 b2 b3 b4 b5 b6 b7 b8 b9 (.val (nE ls)) ka jh kQ (.val (fF ls)) (.val (nk ls)) (.val (.int u)) oF .unset lS lT lU lV) ((cj (KK W) 369).drop 14) Q:=by
 unfold dr at*
 have hm:=eV H hu
 have hk:=rH (H.sg _ hm.2) (H.sz _ hm.2) (gn (bq ls u)) (.tail _ (.head _))
 have hb:=rI (H.sz _ hm.2)
 have YV:dM (bq ls u)<=AX ls:=lA (aw.mpr ⟨_,hm.2,rfl⟩)
 refine v8 (eX:=[(".0", .unset),("size", .unset),("columns", .val (nk ls)),("kin", .val (nE ls)),("one", .val (.int u))]) (out:=(iE (bq ls u)).map (iI (bq ls u))) K (Gq X K (n:=(dM (bq ls u)+1).toNat) (by exact HC hb) num (VE.eq (bin K (dB (T:= "list") (da:=fF ls) (di:= .int (u:Nat)) (d:= .int (dM (bq ls u))) K (nm K) (nm K) aR (bY (by rw[av,av,hm.1]; rfl) (by exact D9 hu))) num cV) (by congr 1; exact Nz hb))) (λC' K' e=>gI (iE (bq ls u)) (λ(k:Nat)=> .int k) (iI (bq ls u)) (λ(k:Nat)=>[(".0", .unset),("size", .val (.int k)),("columns", .val (nk ls)),("kin", .val (nE ls)),("one", .val (.int u))]) (λk hk=>cx K') (λk oZ=>?_) λk hk=>jT) ku (by rw[ai]; unfold iE; rw[cY]; exact HC hb) kD h
 have u6:=cR.mp oZ
 refine tup (ac (nm K') (ac (dB (T:= "list") (da:=rJ (pU ls) (bq ls u)) (di:= .int (k-1:Nat)) K' (dB (T:= "list") (da:=nk ls) (di:= .int (u:Nat)) K' (nm K') (nm K') aR (bY (by rw[av,hm.1]; rfl) (by exact D9 hu))) (VE.eq (bin K' (nm K') num gH) (by congr 1; exact TK u6)) aR (bY ?_ (by exact TL hb u6))) (a1 (bS (gl K' (zh X)) (X.kept (by kernel_rfl)) (ac (Gl K' H (k:=1) (nm K') (nm K') num hu (by decide)) (a1 (nm K'))) (Ov X (by rw[e]; exact lv.le (by decide)) (uH hk.1) (by exact aN 688302738945 tt u6.1) (by exact NA hb u6)).un))))
 rw[av,kq (by unfold pU; exact TM hb YV u6)]
 show some (D.int (fe (bq ls u) ((1+1*(k-1):Nat):Int)))=_
 rw[show 1+1*(k-1)=k by exact TN u6]
noncomputable def Jf(l:List Nat):List Nat:=(iE l).filter λk=>decide (fe l k≠fe (gn l) k)
noncomputable def lG(l:List Nat):List Nat:=(iE l).filter λk=>decide (fe l k=fe (gn l) k)
theorem qL{l:List Nat}{k:Nat}(h:k∈iE l)(hl:dM l<=60):0<k/\k<200:=by
 have:=cR.mp h; exact TP hl this
theorem Gu{l:List Nat}(T:pV l):(pD (cF l) (cF (gn l))).map (mU (cF l) (cF (gn l)))=(Jf l).map (iI l):=by
 have hi:=λts h=>T.ind l (.head _) ts h
 have hj:=λts h=>T.ind (gn l) (.tail _ (.head _)) ts h
 unfold pD Jf
 rw[T.Kr.1]
 refine(congrArg (List.map _) (mF (q:=λ(k:Nat)=>decide (fe l k≠fe (gn l) k)) λk hk=>?_)).trans (ef λk hk=>?_)
 ·have hk:=qL hk T.long
  rw[hi k hk.1,hj k hk.1]
 have hk:=qL (bw.mp hk).1 T.long
 unfold mU iI
 rw[hi k hk.1,hj k hk.1]
theorem Mx{l:List Nat}(T:pV l):mw (cF (gn l)) (cF l)=lG l:=by
 unfold mw lG
 rw[T.Kr.2]
 refine mF λk hk=>?_
 have hk:=qL hk T.long
 rw[T.ind l (.head _) k hk.1,T.ind (gn l) (.tail _ (.head _)) k hk.1,decide_eq_decide]
 have:=T.le k hk.1
 exact TQ this
theorem Dp(X:cH W)(XT:um W)(K:CK C eN)(lv:Lv 5 C.A){l:List Nat}(T:pV l){b1 b2 b3 b4 b5 b6 b7 b8 b9 my ka jh kQ oX mV pE lS lT lU lV:Bd}
 (h:VS W C (dr b1 b2 b3 b4 b5 b6 b7 b8 b9 my ka jh kQ oX mV pE (.val (lF l)) (.val (.list ((iE l).map (iI l)))) lS lT lU lV) ((cj (KK W) 369).drop 16) Q):
 VS W C (dr b1 b2 b3 b4 b5 b6 b7 b8 b9 my ka jh kQ oX mV pE (.val (lF l)) (.val (.list ((iE l).map (iI l)))) lS lT lU lV) ((cj (KK W) 369).drop 15) Q:=by
 unfold dr at*
 have h0:cF l∈([cF l,cF (gn l),cF (mz l)]:List iD):= .head _
 have o0:=T.ok l (.head _)
 have o1:=T.ok (gn l) (.tail _ (.head _))
 have hlen:(iE l).length<=61:=by unfold iE; rw[cY]; have:=T.long; exact TR this
 have YR:(Jf l).length<=61:=aP (ba _ _) hlen
 have Nf:(lG l).length<=61:=aP (ba _ _) hlen
 have NT:((lG l).map (mU (cF (gn l)) (cF l)))=((lG l).map λ(t:Nat)=>((t:Int),[D.int ((cF (gn l)).ind t), .int ((cF l).ind t)])).map wD:=by rw[aM]; rfl
 have hsm:∀t∈lG l,0<t/\t<200:=λt ht=>qL (bw.mp ht).1 T.long
 refine jx (b:=false) (VB.eq (Ie (Ig (a:=false) (kR K (gh (dB (T:= "list") (da:=lF l) (di:= .int (0:Nat)) (d:=(cF l).D) K (nm K) num aR (bY rfl (by decide))) (FT X) (X.kept (by kernel_rfl)) (a1 (dB (T:= "list") (da:=lF l) (di:= .int (1:Nat)) (d:=(cF (gn l)).D) K (nm K) num aR (bY rfl (by decide)))) (OL X (lv.le (by decide)) o0 o1).un)
  (dY (eX:=[(".0", .unset),("pair", .unset)]) (out:=(Jf l).map (iI l)) K (jF K (nm K (d:= .list ((iE l).map (iI l)))) bp) (λC' K' e=>sr (iE l) (iI l) (λk=>decide (fe l k≠fe (gn l) k)) (iI l) (λk=>[(".0", .unset),("pair", .val (iI l k))]) (λk hk=>cx K') (λk hk=>kR K' (dB (T:= "tuple") (da:=iI l k) (di:= .int (1:Nat)) K' (nm K') num cu (fx rfl (by decide))) (dB (T:= "tuple") (da:=iI l k) (di:= .int (2:Nat)) K' (nm K') num cu (fx rfl (by decide))) (yw (n:=0) .int (by simp) (by decide))) (λk hk _=>nm K') λk hk=>jT) ku (by rw[ai]; exact aN 0x7d900210e2da84801 tt YR))
  (kF (n:=2) (congrArg D.list (Gu T).symm) ?_ (by decide)))
  λ_=>Ig (a:=false) (kR K (bS (gl K (y9 X)) (X.kept (by kernel_rfl)) (a1 (VE.eq (gh (dB (T:= "list") (da:=lF l) (di:= .int (1:Nat)) (d:=(cF (gn l)).D) K (nm K) num aR (bY rfl (by decide))) (AR X) (X.kept (by kernel_rfl)) (a1 (dB (T:= "list") (da:=lF l) (di:= .int (0:Nat)) (d:=(cF l).D) K (nm K) num aR (bY rfl (by decide)))) (LL X (lv.le (by decide)) o1 o0).un) (by rw[Mx T,NT]))) (B9 X XT (t:=wordsOf ((lG l).map jc)) (lv.le (by decide)) ?_ (by rw[ai]; exact aN 0xfb200426a4801 tt Nf) (by rw[aM]; rfl)))
   (bS (gl K (Cd X)) (X.kept (by kernel_rfl)) (a1 (dY (eX:=[(".0", .unset),("pair", .unset)]) (out:=(lG l).map λ(k:Nat)=>D.int k) K (jF K (nm K (d:= .list ((iE l).map (iI l)))) bp) (λC' K' e=>sr (iE l) (iI l) (λk=>decide (fe l k=fe (gn l) k)) (λ(k:Nat)=>D.int k) (λk=>[(".0", .unset),("pair", .val (iI l k))]) (λk hk=>cx K') (λk hk=>kR K' (dB (T:= "tuple") (da:=iI l k) (di:= .int (1:Nat)) K' (nm K') num cu (fx rfl (by decide))) (dB (T:= "tuple") (da:=iI l k) (di:= .int (2:Nat)) K' (nm K') num cu (fx rfl (by decide))) ia) (λk hk _=>dB (T:= "tuple") (da:=iI l k) (di:= .int (0:Nat)) K' (nm K') num cu (fx rfl (by decide))) λk hk=>jT) ku (by rw[ai]; exact aN 0x7d900210e2da84801 tt Nf))) (Oz X (d:= .list ((lG l).map λ(k:Nat)=>D.int k)) (ns:=(lG l).map jc) (lv.le (by decide)) ?_ ?_ ?_ (by rw[ai]; exact aN 0xfb200426a4801 tt Nf)).un)
   (kF (n:=0) rfl .str (by decide))) λ_=>QJ)) rfl) (λe=>by exact nomatch e) λ_=>dj h
 ·rw[Gu T]; exact jw _ _ _ _ λ_ _=>w5 .int .int .int
 ·rintro p hp
  obtain⟨t,ht,rfl⟩:=aw.mp hp
  have:=hsm t ht
  exact⟨by show((t:Int)).natAbs<1000000; exact NB this,mX t this.2⟩
 ·intro A
  rw[ai,show(lG l).length=((lG l).map λ(k:Nat)=>D.int k).length by rw[ai]]
  exact jR (by rw[ai]; exact aN 0x1f640085f495212a0201 tt Nf)
 ·rw[show((lG l).map jc).map D.int=(lG l).map λ(k:Nat)=>D.int k by rw[aM]; rfl]; exact bp
 ·intro n hn
  obtain⟨t,ht,rfl⟩:=aw.mp hn
  have:=hsm t ht
  exact⟨by show((t:Int)).natAbs<1000000; exact NB this,mX t this.2⟩
end
noncomputable def nO(v:Nat):Nat:=97+v
noncomputable def kT(r:Rel)(u:Nat):List (Nat×Bool):=((aB 4).filter λv=>bF r u v != 0).map λv=>(nO v,decide (bF r u v=2))
structure AY(ls:List (List Nat))(r:Rel)(hs:List Hd):Prop where
 wf:Wf r
 ok:∀l∈ls,(cF l).Ok
 ind:∀l∈ls,∀ts:Nat,0<ts->(cF l).ind ts=fe l ts
 long:∀l∈ls,(cF l).long=dM l
 less:∀u<4,∀v<4,eK (cF (bq ls u)) (cF (bq ls v))=decide (bF r u v=2)
 eq:∀u<4,∀v<4,nF (cF (bq ls u)) (cF (bq ls v))=decide (bF r u v=1)
 ID:∀h∈hs,h.Ok
 hlen:hs.length<=1000
 perm:∀u<4,(kT r u).Perm (iv hs (nO u))
 P8:∀u<4,(iv hs (nO u)).length<=4/\1<=(iv hs (nO u)).length
noncomputable def pairD(a b:List Nat)(k:Nat):D:= .tup [.int k, .int (fe a k), .int (fe b k)]
noncomputable def mA(a b:List Nat):List Nat:=bB 1 (max (dM a) (dM b)+1).toNat
theorem AZ:∀u<4,([97,98,99,100]:List Nat)[u]? =some (nO u)/\nO u∈small:=by decide
theorem uI(r:Rel)(u:Nat):(kT r u).Pairwise λa b=>a.1<b.1:=by
 unfold kT
 rw[r8]
 have h:(aB 4).Pairwise (·< ·):=List.pairwise_lt_range
 exact(h.filter _).imp fun{a b} h=>qV h 97
theorem Dq{a b:List Nat}{n N:Nat}(h:n<=N):((aB n).map λ(i:Nat)=>D.tup [.int ((i:Int)+1),((bB 1 N).map λ(k:Nat)=>D.int (fe a k)).getD i .none,((bB 1 N).map λ(k:Nat)=>D.int (fe b k)).getD i .none])=(bB 1 n).map (pairD a b):=by
 apply jt; intro i
 rw[av,av]
 rcases fY i n with hi|hi
 ·have g:∀c:List Nat,((bB 1 N).map λ(k:Nat)=>D.int (fe c k)).getD i .none= .int (fe c ((1+i:Nat):Int)):=λc=>by
   rw[ak,av,kq (by exact HB h hi),DE]; rfl
  rw[cQ hi,kq hi,DE]
  refine congrArg some (congrArg D.tup ?_)
  rw[<-g a,<-g b,show(((1+i:Nat):Int))=(i:Int)+1 by exact TS]
 ·rw[cf (by simpa using hi),cf (by simpa using hi)]; rfl
theorem zl{a b:List Nat}(ha:(cF a).long=dM a)(hb:(cF b).long=dM b):sizesOf (cF a) (cF b) 1=mA a b:=by
 unfold sizesOf mA; rw[ha,hb]; congr 1; exact NC
noncomputable def My(a b:List Nat):List Nat:=(mA a b).filter λk=>decide (fe b k<=fe a k)
noncomputable abbrev wF(r:Rel)(u v:Nat)(a b:List Nat):D:= .list [.bool (decide (bF r u v=2)), .bool (decide (bF r u v=1)), .list ((My a b).map (pairD a b))]
theorem Dr{r:Rel}{u v:Nat}{a b:List Nat}:gg 3 (wF r u v a b) (wF r u v a b):=HR .bool .bool (jw (n:=1) _ _ (pairD a b) (pairD a b) λ_ _=>w5 (n:=0) .int .int .int)
section
variable {W:Wd}{C:Cx}{ρ a9:Ro}{names:List (Str×aC)}{Q:Out->Prop}{f o:Fz}{s:Shared}
theorem uJ{A:Around}{b:Bool}:mf W A (.builtin "isinstance") [.bool b, .raw (.type "bool")] (.bool true):=λf o s vs S hd Q E h=>by
 obtain⟨v,r,rfl,hv,v2,r2,rfl,hv2,rfl⟩:=hd
 obtain rfl:v= .bool b:=hv
 obtain rfl:v2= .type "bool":=hv2
 exact PySem.IsiPair.bool_bool (h _ f _ (.refl f) S rfl)
inductive Ks(ls:List (List Nat))(r:Rel)(hs:List Hd)(b1 b2 b3 b5 b6 b7 b9 my jh pE oF nj:Bd)(xs:List D)(ρ:Ro):Prop
 |mk (us:List Nat) (ka lS lT lU lV:Bd) (h1:xs=us.map (λ(i:Nat)=>D.int i)) (h2:(∀u∈us,u<4)) (h3:ρ=dr b1 b2 b3 (.val (gB r)) b5 b6 b7 (.val (pO (hs.map Hd.pr))) b9 my ka jh (.val (.list ((ls.map cF).map iD.D))) (.val (fF ls)) (.val (nk ls)) pE oF nj lS lT lU lV):Ks ls r hs b1 b2 b3 b5 b6 b7 b9 my jh pE oF nj xs ρ
inductive Kt(ls:List (List Nat))(r:Rel)(hs:List Hd)(u:Nat)(b1 b2 b3 b5 b6 b7 b9 my jh pE oF nj:Bd)(xs:List D)(ρ:Ro):Prop
 |mk (us:List Nat) (lS lT lU lV:Bd) (h1:xs=us.map (λ(i:Nat)=>D.int i)) (h2:(∀u∈us,u<4)) (h3:ρ=dr b1 b2 b3 (.val (gB r)) b5 b6 b7 (.val (pO (hs.map Hd.pr))) b9 my (.val (.int u)) jh (.val (.list ((ls.map cF).map iD.D))) (.val (fF ls)) (.val (nk ls)) pE oF nj lS lT lU lV):Kt ls r hs u b1 b2 b3 b5 b6 b7 b9 my jh pE oF nj xs ρ
theorem Gv(X:cH W)(K:CK C eN)(lv:Lv 6 C.A){ls:List (List Nat)}{r:Rel}{hs:List Hd}(H:LsOk ls)(P:AY ls r hs){b1 b2 b3 b5 b6 b7 b9 my jh pE oF nj:Bd}
 (h:∀ka lS lT lU lV,VS W C (dr b1 b2 b3 (.val (gB r)) b5 b6 b7 (.val (pO (hs.map Hd.pr))) b9 my ka jh (.val (.list ((ls.map cF).map iD.D))) (.val (fF ls)) (.val (nk ls)) pE oF nj lS lT lU lV) ((cj (KK W) 369).drop 17) Q) (c11 c19 c20 c21 c22:Bd):
 VS W C (dr b1 b2 b3 (.val (gB r)) b5 b6 b7 (.val (pO (hs.map Hd.pr))) b9 my c11 jh (.val (.list ((ls.map cF).map iD.D))) (.val (fF ls)) (.val (nk ls)) pE oF nj c19 c20 c21 c22) ((cj (KK W) 369).drop 16) Q:=by
 unfold dr at*
 have hm:=fun{u} (hu:u<4)=>eV H (u:=u) hu
 refine mR K (ua X K) (Ks ls r hs b1 b2 b3 b5 b6 b7 b9 my jh pE oF nj) ⟨aB 4,_,_,_,_,_,rfl,λu hu=>aW.mp hu,rfl⟩ ?_ ?_
 ·rintro ρ ⟨us,ka,lS,lT,lU,lV,-,-,rfl⟩
  exact h _ _ _ _ _
 rintro x xs ρ ⟨us,ka,lS,lT,lU,lV,e1,e2,rfl⟩
 cases us with
 |nil=>exact nomatch e1
 |cons u us=>
 obtain⟨rfl,rfl⟩:x=D.int u/\xs=us.map λ(i:Nat)=>D.int i:=by cases e1; exact⟨rfl,rfl⟩
 have hu:=e2 u (.head _)
 unfold dr
 refine⟨_,cx K,?_⟩
 refine jx (b:=false) (kR K (bS (gl K (Ge X)) (X.kept (by kernel_rfl)) (ac (nm K) (a1 (dB (T:= "str") (da:= .str (aS [97,98,99,100])) (di:= .int (u:Nat)) (d:= .str (aS [nO u])) K (st [97,98,99,100]) (nm K) fL (iU (AZ u hu).1 (by decide))))) (Yd X (lv.le (by decide)) (out:=kT r u) P.ID P.hlen (AZ u hu).2 (P.perm u hu) (uI r u) (P.P8 u hu).1 (P.P8 u hu).2).un)
  (dY (eX:=[(".0", .unset),("v", .unset),("rel", .val (gB r)),("u", .val (.int u))]) (out:=((aB 4).filter λv=>bF r u v != 0).map λv=>lP (nO v,decide (bF r u v=2))) K (ua X K) (λC' K' e=>sr (aB 4) (λv=> .int v) (λv=>bF r u v != 0) (λv=>lP (nO v,decide (bF r u v=2))) (λv=>[(".0", .unset),("v", .val (.int v)),("rel", .val (gB r)),("u", .val (.int u))]) (λv hv=>cx K') (λv hv=>Mine.Aw K' (ib K' P.wf (nm K') (nm K') (nm K') hu (aW.mp hv)) w9) (λv hv _=>tup (ac (dB (T:= "str") (da:= .str (aS [97,98,99,100])) (di:= .int (v:Nat)) (d:= .str (aS [nO v])) K' (st [97,98,99,100]) (nm K') fL (iU (AZ v (aW.mp hv)).1 (by decide))) (a1 (cmp K' (ib K' P.wf (nm K') (nm K') (nm K') hu (aW.mp hv)) num ia)))) λv hv=>jT) ku (by rw[ai]; exact aP (ba _ _) (by decide)))
  (kF (n:=2) (by unfold kT; rw[aM]; rfl) (jw _ _ _ _ λp q=>yX p q) (by decide))) (λe=>by exact nomatch e) λ_=>dj ?_
 refine mR K (ua X K) (Kt ls r hs u b1 b2 b3 b5 b6 b7 b9 my jh pE oF nj) ⟨aB 4,_,_,_,_,rfl,λu hu=>aW.mp hu,rfl⟩ ?_ ?_
 ·rintro ρ ⟨Z9,lS,lT,lU,lV,-,-,rfl⟩
  exact dj ⟨us,_,_,_,_,_,rfl,λv hv=>e2 v (.tail _ hv),rfl⟩
 rintro x xs ρ ⟨vs,lS,lT,lU,lV,e3,e4,rfl⟩
 cases vs with
 |nil=>exact nomatch e3
 |cons v vs=>
 obtain⟨rfl,rfl⟩:x=D.int v/\xs=vs.map λ(i:Nat)=>D.int i:=by cases e3; exact⟨rfl,rfl⟩
 have hv:=e4 v (.head _)
 unfold dr
 refine⟨_,cx K,?_⟩
 have mu:=hm hu; have mv:=hm hv
 have hlen:(bq ls u).length<=100/\(bq ls v).length<=100:=⟨H.sz _ mu.2,H.sz _ mv.2⟩
 have lu:=rI hlen.1; have lw:=rI hlen.2
 have tu:dM (bq ls u)<=AX ls:=lA (aw.mpr ⟨_,mu.2,rfl⟩)
 have tv:dM (bq ls v)<=AX ls:=lA (aw.mpr ⟨_,mv.2,rfl⟩)
 have tb:=Kq H
 have less:=P.less u hu v hv; have eq:=P.eq u hu v hv
 have ou:=P.ok _ mu.2; have ov:=P.ok _ mv.2
 have ind:=λk h=>(⟨P.ind _ mu.2 k h,P.ind _ mv.2 k h⟩:_/\_)
 have szs:=zl (P.long _ mu.2) (P.long _ mv.2)
 have YW:∀(w:Nat),w<4->((ls.map dM).map D.int)[w]? =some (D.int (dM (bq ls w))):=λw hw=>by rw[av,av,(hm hw).1]; rfl
 have YX:∀(w:Nat),w<4->(ls.map (rJ (pU ls)))[w]? =some (rJ (pU ls) (bq ls w)):=λw hw=>by rw[av,(hm hw).1]; rfl
 have YZ:∀(w:Nat),w<4->((ls.map cF).map iD.D)[w]? =some (cF (bq ls w)).D:=λw hw=>by rw[av,av,(hm hw).1]; rfl
 have ul:=YW u hu; have vl:=YW v hv; have uc:=YX u hu; have vc:=YX v hv; have uw:=YZ u hu; have Y0:=YZ v hv
 clear YW YX YZ
 generalize ha:bq ls u=a at*
 generalize hb:bq ls v=b at*
 have hN:(max (dM a) (dM b)+1).toNat<=pU ls:=by unfold pU; exact TU tb tu tv
 refine let1 (d:= .list ((mA a b).map (pairD a b))) (VE.eq (Dj (n:=(max (dM a) (dM b)+1).toNat) K (gl K (xd X)) (gl K (JW X)) (ac (bS (gl K (kz X)) .type (ac num (a1 (VE.eq (bin K (bS (gl K (lC X)) .builtin (ac (dB (T:= "list") (da:=fF ls) (di:= .int (u:Nat)) K (nm K) (nm K) aR (bY ul (by exact aN 0xbd010085f495212a0201 tt hu))) (a1 (dB (T:= "list") (da:=fF ls) (di:= .int (v:Nat)) K (nm K) (nm K) aR (bY vl (by exact aN 0xbd010085f495212a0201 tt hv))))) (jS K.hand)) num cV) (by congr 1; exact TV lu lw)))) kN) (ac (dB (T:= "list") (da:=nk ls) (di:= .int (u:Nat)) K (nm K) (nm K) aR (bY uc (by exact aN 0xbd010085f495212a0201 tt hu))) (a1 (dB (T:= "list") (da:=nk ls) (di:= .int (v:Nat)) K (nm K) (nm K) aR (bY vc (by exact aN 0xbd010085f495212a0201 tt hv)))))) (by rw[ai,cY]; exact hN) (by rw[ai,cY]; exact hN) (by exact TX lu lw) (by exact TY lu lw)) (by rw[Dq hN]; rfl)) (cx K) ?_
 refine let1 (d:=wF r u v a b) (lst (ac (VE.eq (gh (dB (T:= "list") (da:= .list ((ls.map cF).map iD.D)) (di:= .int (u:Nat)) K (nm K) (nm K) aR (bY uw (by exact aN 0xbd010085f495212a0201 tt hu))) (Ck X) (X.kept (by kernel_rfl)) (a1 (dB (T:= "list") (da:= .list ((ls.map cF).map iD.D)) (di:= .int (v:Nat)) K (nm K) (nm K) aR (bY Y0 (by exact aN 0xbd010085f495212a0201 tt hv)))) (OO X (lv.le (by decide)) ou ov).un) (by rw[less])) (ac (VE.eq (gh (dB (T:= "list") (da:= .list ((ls.map cF).map iD.D)) (di:= .int (u:Nat)) K (nm K) (nm K) aR (bY uw (by exact aN 0xbd010085f495212a0201 tt hu))) (zk X) (X.kept (by kernel_rfl)) (a1 (dB (T:= "list") (da:= .list ((ls.map cF).map iD.D)) (di:= .int (v:Nat)) K (nm K) (nm K) aR (bY Y0 (by exact aN 0xbd010085f495212a0201 tt hv)))) (OJ X (lv.le (by decide))).un) (by rw[<-eq]; rfl))
  (a1 (VE.eq (gh (dB (T:= "list") (da:= .list ((ls.map cF).map iD.D)) (di:= .int (u:Nat)) K (nm K) (nm K) aR (bY uw (by exact aN 0xbd010085f495212a0201 tt hu))) (AR X) (X.kept (by kernel_rfl)) (a1 (dB (T:= "list") (da:= .list ((ls.map cF).map iD.D)) (di:= .int (v:Nat)) K (nm K) (nm K) aR (bY Y0 (by exact aN 0xbd010085f495212a0201 tt hv)))) (LL X (lv.le (by decide)) ou ov).un) ?_))))) (cx K) ?_
 ·unfold mw My
  rw[szs]
  refine congrArg D.list ((congrArg (List.map _) (mF λk hk=>?_)).trans (ef λk hk=>?_))
  ·have hk:=(cR.mp hk).1
   rw[(ind k hk).1,(ind k hk).2]
  ·have hk:=(cR.mp (bw.mp hk).1).1
   unfold mU pairD
   rw[(ind k hk).1,(ind k hk).2]
 refine let1 (d:=wF r u v a b) (lst (ac (cmp K (ib K P.wf (nm K) (nm K) (nm K) hu hv) num ia) (ac (cmp K (ib K P.wf (nm K) (nm K) (nm K) hu hv) num ia) (a1 (dY (eX:=[(".0", .unset),("pair", .unset)]) (out:=(My a b).map (pairD a b)) K (jF K (nm K) bp) (λC' K' e=>sr (mA a b) (pairD a b) (λk=>decide (fe b k<=fe a k)) (pairD a b) (λk=>[(".0", .unset),("pair", .val (pairD a b k))]) (λk hk=>cx K') (λk hk=>kR K' (dB (T:= "tuple") (da:=pairD a b k) (di:= .int (1:Nat)) K' (nm K') num cu (fx rfl (by decide))) (dB (T:= "tuple") (da:=pairD a b k) (di:= .int (2:Nat)) K' (nm K') num cu (fx rfl (by decide))) vQ) (λk hk _=>nm K') λk hk=>jT) ku (by rw[ai]; refine aP (ba _ _) ?_; unfold mA; rw[cY]; exact TZ lu lw)))))) (cx K) ?_
 refine jx (b:=false) (VB.eq (Ie (Ig (a:=false) (kR K (nm K (d:=wF r u v a b)) (nm K (d:=wF r u v a b)) (kF (n:=3) rfl Dr (by decide)))
  λ_=>Ig (Ly (Mine.Aw K (bS (gl K (qz X)) .builtin (ac (dB (T:= "list") (di:= .int (0:Nat)) K (nm K) num aR (bY rfl (by simp[*]))) (a1 (gl K (g_bool X)))) uJ) gA))
  λ_=>Ig (Ly (Mine.Aw K (bS (gl K (qz X)) .builtin (ac (dB (T:= "list") (di:= .int (1:Nat)) K (nm K) num aR (bY rfl (by simp[*]))) (a1 (gl K (g_bool X)))) uJ) gA)) λ_=>QJ)) rfl) (λe=>by exact nomatch e) λ_=>dj (dj ?_)
 exact⟨vs,_,_,_,_,rfl,λw hw=>e4 w (.tail _ hw),rfl⟩
end
noncomputable def Wd.out(W:Wd)(L:Addr)(ob:Obj)(hL:W.B.f L=none):Wd where
 prog:=W.prog
 w:=W.w
 B:={f:=W.B.f,side:=λa=>W.B.side a\/a=L,sq:=λa x=>if a=L then ∃sl,x={ob with slots:=sl} else W.B.sq a x,os:=W.B.os,dq:=W.B.dq,gq:=W.B.gq,nolimit:=W.B.nolimit,ftab:=λa h=>h.elim (W.B.ftab a) λe=>e▸hL}
noncomputable def ji(es:List Ed)(k:Nat):Ed:=es.getD k ⟨0,0,0,0⟩
noncomputable def gi(ls:List (List Nat))(e:Ed):Nat:=(max (dM (bq ls e.low)) (dM (bq ls e.high))+1).toNat
noncomputable def Ds(es:List Ed)(ls:List (List Nat))(k:Nat):D:= .tup [.int k, .str (aS (wordsOf ((bB 1 (gi ls (ji es k))).map jc))), .str (aS (cp (ji es k)))]
noncomputable def Cm(es:List Ed)(ks:List Bool)(ls:List (List Nat)):List D:=((aB 5).filter λk=>!(ks.getD k false)).map (Ds es ls)
structure A0(es:List Ed)(ks:List Bool)(ls:List (List Nat)):Prop where
 eq:gZ (es.map cp) (ls.map cF) 0 (es.map rowOf)=Cm es ks ls
 ok:∀l∈ls,(cF l).Ok/\(cF l).long<=50
 short:∀l∈ls,dM l<=60
section
variable {W:Wd}{C:Cx}{ρ a9:Ro}{names:List (Str×aC)}{Q:Out->Prop}{f o:Fz}{s:Shared}
theorem St.out(S:St W.B f o s){L:Addr}{ob:Obj}(hB:W.B.f L=none)(h:o L=some ob):St (W.out L ob hB).B f (o.del L) s:=by
 have hn:∀c,W.B.side c->c≠L:=λc hc q=>S.iH (.inr h) (q▸hc)
 refine⟨S.sub,λa x e=>?_,λa x e=>?_,S.base,λc hc=>?_,λc hc=>⟨?_,?_⟩,S.os,S.gens⟩
 ·unfold Fz.del at e
  split at e
  ·exact nomatch e
  ·exact S.own a x e
 ·unfold Fz.del; split
  ·rfl
  ·exact S.apart a x e
 ·rcases hc with hc|rfl
  ·obtain⟨x,h1,h2⟩:=S.tab c hc
   exact⟨x,h1,show(if c=L then _ else _) by rw[if_neg (hn c hc)]; exact h2⟩
  ·exact⟨ob,S.own _ _ h,show(if c=c then _ else _) by rw[if_pos rfl]; exact⟨ob.slots,rfl⟩⟩
 ·rcases hc with hc|rfl
  ·exact(S.fq c hc).1
  ·exact S.fw h
 ·unfold Fz.del; split
  ·rfl
  ·rcases hc with hc|hc
   ·exact(S.fq c hc).2
   ·contradiction
theorem St.into{L:Addr}{ob:Obj}{hB:W.B.f L=none}(S:St (W.out L ob hB).B f (o.del L) s)(hs:¬W.B.side L):∃sl,St W.B f (o.put L {ob with slots:=sl}) s:=by
 obtain⟨x,h1,h2⟩:=S.tab L (.inr rfl)
 have h2:if L=L then ∃sl,x={ob with slots:=sl} else W.B.sq L x:=h2
 rw[if_pos rfl] at h2
 obtain⟨sl,rfl⟩:=h2
 have hn:∀c,W.B.side c->c≠L:=λc hc q=>hs (q▸hc)
 have od:∀a,a≠L->o.del L a=o a:=λa h=>by unfold Fz.del; rw[if_neg h]
 refine⟨sl,S.sub,λa y e=>?_,λa y e=>?_,S.base,λc hc=>?_,λc hc=>⟨(S.fq c (.inl hc)).1,?_⟩,S.os,S.gens⟩
 ·by_cases q:a=L
  ·subst q; cases nM (Fz.aJ ..) e; exact h1
  ·rw[Fz.az q] at e; exact S.own a y ((od a q).trans e)
 ·have q:a≠L:=λq=>by subst q; have:=(S.fq a (.inr rfl)).1; rw[e] at this; exact nomatch this
  rw[Fz.az q,<-od a q]; exact S.apart a y e
 ·obtain⟨y,e1,e2⟩:=S.tab c (.inl hc)
  have e2:if c=L then ∃sl,y={ob with slots:=sl} else W.B.sq c y:=e2
  rw[if_neg (hn c hc)] at e2
  exact⟨y,e1,e2⟩
 ·rw[Fz.az (hn c hc),<-od c (hn c hc)]; exact(S.fq c (.inl hc)).2
theorem Jg(X:cH W)(XT:um W)(K:CK C names)(FK:C.A.frames=some [C.env])(ro:C.env.frame=some C.env.locals){func r:Expr}{es:List Expr}{p1 p2 p3:Pos}{fv:Value}{ds:List D}{d db:D}{b:Bool}{rest:List Stmt}(hf:VE W C ρ func (.raw fv))(hk:Kept W fv)(ha:VA W C ρ es ds)(hc:∀W':Wd,cH W'->um W'->Mh W' [C.env]->mf W' C.A fv ds d)(hb:VE W C ρ r db)(ho:lx W (cc .Eq) d db (.bool b))(h:Q (.ret (.bool b)))
 (hp:autoParam ((aI es C.env).all (λx=>!x.1)=true) fM._auto_1) (he:autoParam (eval (.Call func es [] p1) C.env=(do fS p1 (<-eval func C.env) [] (backTo p1 (aI es C.env)) (gr p1 (dI [] C.env)))) fM._auto_1) (hm:autoParam (jl .Eq r=false) fM._auto_1):VS W C ρ (.Return (some (.Compare (.Call func es [] p1) [.Eq] [r] p2)) p3::rest) Q:=vs (.cons λf o s S H P E hP=>nR (by
 obtain⟨ob,ens,ep,hL,zZ,JK⟩:=H.ns
 have O:=K.ok
 refine wpAny_Compare1 ?_ hm
 rw[he]
 refine aa (hf.un f o s S H _ _ λv f1 s1 l1 S1 d1=>?_)
 obtain rfl:v=fv:=d1
 have jm:=cn p1 es C.env hp
 refine d6 (P:=λh=>∀a x,W.B.f a=some x->h.get? a=some x) (by rw[jm]; rfl) hk (dm jm ?_)
 refine ha.un p1 f1 o s1 S1 (H.mono l1 (.refl o)) _ _ λvs f2 s2 l2 S2 d2=>⟨S2.bT,?_⟩
 have hB:W.B.f C.env.locals=none:=by
  refine none_of λx q=>?_
  have:=S.fw hL; rw[S.base _ _ q] at this; exact nomatch this
 have Ku:¬W.B.side C.env.locals:=S.iH (.inr hL)
 have Gw:¬(147:Addr)=C.env.locals:=λq=>Ku (q▸XT.tab)
 refine hc (W.out C.env.locals ob hB) ⟨X.sm,X.QH⟩ ⟨.inl XT.tab,λx=>?_,XT.gq,XT.bmod⟩ ⟨λenv he=>?_,λenv he L hl x hx=>?_⟩ f2 (o.del C.env.locals) s2 vs (S2.out hB hL) d2 _ _ λv f3 s3 l3 S3 d3=>?_
 ·show(if(147:Addr)=C.env.locals then _ else _)↔_
  rw[if_neg Gw]; exact XT.tq x
 ·obtain rfl:=aA.mp he
  exact⟨by rw[O.kind]; decide,_,ro, .inr rfl⟩
 ·obtain rfl:=aA.mp he
  cases nM ro hl
  have hx:if C.env.locals=C.env.locals then ∃sl,x={ob with slots:=sl} else W.B.sq C.env.locals x:=hx
  rw[if_pos rfl] at hx
  obtain⟨sl,rfl⟩:=hx
  refine⟨λvs q=>?_,λXc=>show(if C.env.locals=C.env.locals then _ else _) by rw[if_pos rfl]; exact⟨Xc,rfl⟩⟩
  rw[show({ob with slots:=sl}:Obj).data=ob.data from rfl,zZ] at q; exact nomatch q
 ·obtain⟨sl,S4⟩:=S3.into Ku
  have H4:=((H.mono (l1.trans (l2.trans l3)) (.refl o)).FN (ob':={ob with slots:=sl}) hL rfl)
  refine hb.un f3 _ s3 S4 H4 _ _ λvb f4 s4 l4 S5 d4=>?_
  refine ho _ f4 _ s4 v vb O.room S5 (d3.mono l4) d4 _ _ λv5 f5 s5 l5 S6 d5=>?_
  refine hP (.ret (.bool b)) _ _ h ⟨v5,f5,_,rfl,l1.trans (l2.trans (l3.trans (l4.trans l5))),S6,λa x e hm=>?_,d5⟩
  rw[Fz.az λq=>hm (.inl q)]; exact e))
theorem it5{eP:Expr}(X:cH W)(K:CK C names){p1 p2 p3:Pos}{k:Nat}(hm:autoParam ((J "range",ag)∈names) vq._auto_1):VI W C ρ eP (.Call (.Name (J "range") p1) [.Constant (.int 5) k p2] [] p3) ((aB 5).map λ(i:Nat)=>D.int i):=by
 rw[<-mT]
 exact jF K (bS (gl K (kz X) hm (by decide+kernel)) .type (a1 num) mM) (mO (by decide) (by decide) (by decide) (by decide))
theorem Kv(K:CK C names){ls:List (List Nat)}(H:LsOk ls){es:List Ed}{el ed ek ej:Expr}{p1 p2 p3:Pos}{k j w:Nat}{e:Ed}(hk5:k<1000)(hj5:j<1000)(hw:w<4)(h1:es[k]? =some e)(h2:([.int e.low, .str (aS (mn e.sg)), .int e.high, .int e.great]:List D)[j]? =some (.int w))(hl:VE W C ρ el (fF ls))(hs:VE W C ρ ed (.list (es.map uW)))(hk:VE W C ρ ek (.int k))(hj:VE W C ρ ej (.int j))
 (s1:autoParam (∀o i,subscripted ek false o i=operate [o,i] (dJ o i)) CX._auto_1) (s2:autoParam (∀o i,subscripted ej false o i=operate [o,i] (dJ o i)) CX._auto_1):VE W C ρ (.Subscript el (.Subscript (.Subscript ed ek p1) ej p2) p3) (.int (dM (bq ls w))):=
 dB (T:= "list") (da:=fF ls) (di:= .int w) K hl (dB (T:= "tuple") (da:=uW e) (di:= .int j) (d:= .int w) K (dB (T:= "list") (da:= .list (es.map uW)) (di:= .int k) K hs hk aR (bY (by rw[av,h1]; rfl) (by exact T3 hk5)) rfl s1) hj cu (fx h2 (by exact aN 0xfd895010085f495212a0201 tt hj5)) rfl s2) aR (bY (by rw[av,av,(eV H hw).1]; rfl) (by exact D9 hw))
theorem Gx(X:cH W)(XT:um W)(K:CK C eN)(lv:Lv 6 C.A)(FK:C.A.frames=some [C.env])(ro:C.env.frame=some C.env.locals){es:List Ed}{ks:List Bool}{ls:List (List Nat)}(H:LsOk ls)(hx:∀e∈es,vC e)(h5:es.length=5)(hk:ks.length=5)(N:A0 es ks ls){b1 b3 b4 b8 b9 my ka jh mV pE oF nj lS lT lU lV:Bd}(h:Q (.ret (.bool true))):
 VS W C (dr b1 (.val (.list (es.map uW))) b3 b4 (.val (.list (ks.map .bool))) (.val (jZ (es.map cp))) (.val (.list ((es.map rowOf).map eh))) b8 b9 my ka jh (.val (.list ((ls.map cF).map iD.D))) (.val (fF ls)) mV pE oF nj lS lT lU lV) ((cj (KK W) 369).drop 17) Q:=by
 unfold dr
 have C6:∀k<5,es[k]? =some (ji es k)/\ji es k∈es/\ks[k]? =some (ks.getD k false):=λk h=>by
  have he:es[k]? =some (ji es k):=by unfold ji; rw[ak,aj (by exact HD h5 h)]; rfl
  exact⟨he,bI he,by rw[ak,aj (by exact HD hk h)]; rfl⟩
 refine Jg X XT K FK ro (gl K (Mv X)) (X.kept (by kernel_rfl)) (ac (nm K (d:=jZ (es.map cp))) (ac (nm K (d:= .list ((es.map rowOf).map eh))) (a1 (nm K (d:= .list ((ls.map cF).map iD.D)))))) (λW' X' XT' F'=>(YF X' XT' lv FK F' (parts:=es.map cp) (rows:=es.map rowOf) (ws:=ls.map cF) ?_ ?_ ?_ ?_ ?_).un)
  (dY (eX:=[(".0", .unset),("k", .unset),("kept", .val (.list (ks.map .bool))),("longs", .val (fF ls)),("parts", .val (jZ (es.map cp))),("said", .val (.list (es.map uW)))]) (out:=Cm es ks ls) K (it5 X K) (λC' K' e=>sr (aB 5) (λ(k:Nat)=> .int k) (λk=>!(ks.getD k false)) (Ds es ls) (λk=>[(".0", .unset),("k", .val (.int k)),("kept", .val (.list (ks.map .bool))),("longs", .val (fF ls)),("parts", .val (jZ (es.map cp))),("said", .val (.list (es.map uW)))]) (λk hk=>cx K') (λk hk=>?_) (λk hk _=>?_) λk hk=>jT) ku (by unfold Cm; rw[ai]; exact aP (ba _ _) (by decide)))
  (tE (n:=2) (b:=true) ?_ ?_ (by decide)) h
 ·intro r hr; obtain⟨e,he,rfl⟩:=aw.mp hr; exact F7 (hx e he)
 ·intro w hw; obtain⟨l,hl,rfl⟩:=aw.mp hw; exact N.ok l hl
 ·rw[ai,H.len]
 ·rw[ai,ai]; exact bL _
 ·rw[ai,h5]; decide
 ·have hk:=aW.mp hk
  exact Ly (Mine.Aw K' (dB (T:= "list") (da:= .list (ks.map .bool)) (di:= .int (k:Nat)) K' (nm K') (nm K') aR (bY (by rw[av,(C6 k hk).2.2]; rfl) (by exact ND hk))) gA)
 ·have hk:=aW.mp hk
  obtain⟨he,hm,-⟩:=C6 k hk
  have ex:=(hx _ hm).ok
  have ml:=eV H ex.low; have mh:=eV H ex.high
  have bl:=rI (H.sz _ ml.2); have bh:=rI (H.sz _ mh.2); have sl:=N.short _ ml.2; have sh:=N.short _ mh.2
  have DS:gi ls (ji es k)<=61/\((gi ls (ji es k):Nat):Int)=max (dM (bq ls (ji es k).low)) (dM (bq ls (ji es k).high))+1:=by unfold gi; exact T4 bl bh sl sh
  unfold Ds
  refine tup (ac (nm K') (ac (bS (gl K' (Cd X)) (X.kept (by kernel_rfl)) (a1 (d:= .Bs 1 (((gi ls (ji es k):Nat):Int)+1)) (bS (gl K' (kz X)) .type (ac num (a1 (VE.eq (bin K' (bS (gl K' (lC X)) .builtin (ac (Kv K' H (j:=0) (by exact aN 0x314040211fb12a0201 tt hk) (by decide) ex.low he rfl (nm K') (nm K') (nm K') num) (a1 (Kv K' H (j:=2) (by exact aN 0x314040211fb12a0201 tt hk) (by decide) ex.high he rfl (nm K') (nm K') (nm K') num))) (jS K'.hand)) num cV) (by rw[DS.2]; congr 1; exact T5)))) kN)) (Oz X (ns:=(bB 1 (gi ls (ji es k))).map jc) (by rw[e]; exact lv.le (by decide)) ?_ ?_ ?_ ?_).un) (a1 (dB (T:= "list") (da:=jZ (es.map cp)) (di:= .int (k:Nat)) K' (nm K') (nm K') aR (bY (by rw[av,av,he]; rfl) (by exact ND hk))))))
  ·intro A
   have:=Ey (W:=W) (A:=A) (a:=1) (b:=((gi ls (ji es k):Nat):Int)+1) (by exact ew 0x40085be92a4141 tt) (by exact ew 0x3ec8010be92a413002161 tt DS.1) (by decide) (by decide)
   rw[ai,cY]
   rw[show((((gi ls (ji es k):Nat):Int)+1-1).toNat:Int)=((gi ls (ji es k):Nat):Int) by exact T6] at this
   exact this
  ·have:=mO (W:=W) (a:=1) (b:=((gi ls (ji es k):Nat):Int)+1) (by decide) (by decide) (by exact ew 0x40085be92a4141 tt) (by exact ew 0x3ec8010be92a413002161 tt DS.1)
   rw[show(((gi ls (ji es k):Nat):Int)+1-1).toNat=gi ls (ji es k) by exact T7,show(1:Int)=((1:Nat):Int) from rfl,oA] at this
   rw[aM]; exact this
  ·intro n hn
   obtain⟨t,ht,rfl⟩:=aw.mp hn
   have:=cR.mp ht
   exact⟨by show((t:Int)).natAbs<1000000; exact T8 DS this,mX t (by exact aX 0xa428180423ec8010b312a0601 tt DS.1 this.2)⟩
  ·rw[ai,cY]; have:=DS.1; exact aN 0xfb200426a4801 tt DS.1
 ·rw[N.eq]; exact jw (n:=1) _ _ _ _ λ_ _=>w5 (n:=0) (by constructor) (by constructor) (by constructor)
 ·rw[N.eq]; simp
end
noncomputable def qM(ns:List Int):Nat:=(draws ns).sum.toNat
structure Gy(ns:List Int)(fs:List Nat):Prop where
 tot:(draws ns).sum=qM ns
 keep:(closure (pg ns)).2.length=5
 P9:jJ (closure (pg ns)).1 fs
 ls:LsOk (fh (closure (pg ns)).1 fs (qM ns))
 Mz:pV (bq (fh (closure (pg ns)).1 fs (qM ns)) (qM ns % 4))
 loop:AY (fh (closure (pg ns)).1 fs (qM ns)) (closure (pg ns)).1 (ni (pg ns) (closure (pg ns)).2)
 Y1:A0 (pg ns) (closure (pg ns)).2 (fh (closure (pg ns)).1 fs (qM ns))
section
variable {W:Wd}
theorem Y2(X:cH W)(XT:um W){A:Around}(lv:Lv 7 A)(FK:A.frames=some []){ns:List Int}{fs:List Nat}(hn:ns.length<=63)(L:Gy ns fs):
 iK W A (.ref 369) [.list (ns.map .int)] (.bool true):=Au λf o s vs S hd Q E h=>by
 have PK:=hd
 obtain⟨v1,r,rfl,h1,h5⟩:=hd
 obtain rfl:r=[]:=h5
 refine fR (X.code (P:=λ_=>True) 369 (n:=6) (ps:=["script"]) (ds:=[.list (ns.map .int)])
  (ρ:=dr (.val (.list (ns.map .int))) .unset .unset .unset .unset .unset .unset .unset .unset .unset .unset .unset .unset .unset .unset .unset .unset .unset .unset .unset .unset .unset) (names:=eN) lv ⟨_,rfl,rfl⟩ rfl (by kernel_rfl) rfl rfl (by kernel_rfl) rfl rfl rfl rfl rfl (by kernel_rfl) (by kernel_rfl) (λQ E k=>?_) ?_ S λf1 env du cU _ l1 lo jg H mJ si hm=>?_)
 ·have e:eR (cm (KK W) 369) ⟨[v1],[]⟩=pure [(J "script",v1)]:=by kernel_rfl
  show wpAny _ _ (eR (cm (KK W) 369) ⟨[v1],[]⟩) Q E s
  rw[e]
  exact ao (k [v1] f s (.refl f) S PK trivial)
 ·unfold dr
  show kl [(_,_)] _ _
  exact ra
 ·have K:CK ⟨env,A.deeper env,eN⟩ eN:=⟨H.ok,mJ.hand,rfl⟩
  have Ml:=zR (env:=env) FK
  refine uf (C:=⟨env,A.deeper env,eN⟩) (d:= .bool true) ?_ jg H lo hm (R:=λr s'=>match r with| .ok (.ret v)=>Q v s'| .ok _=>False| .error e=>E e s') λv' f' s' l' S' d'=>h v' f' s' (l1.trans l') S' d'
  have hu:qM ns % 4<4:=dR _ (by decide)
  exact P6 X K (mJ.le (by decide)) hn (I9 ns) F6 (uA ns) L.tot L.P9 L.keep <| Jc X K L.ls <| Gm X K (mJ.le (by decide)) L.ls <| AW X K (mJ.le (by decide)) L.ls <| Dm X K L.ls <| zj X K (mJ.le (by decide)) L.ls <|
   Jd X K <| Gr X K (mJ.le (by decide)) L.ls hu <| Dn X K (mJ.le (by decide)) L.ls hu L.Mz <| Gs X K (mJ.le (by decide)) L.ls hu L.Mz <| Dp X XT K (mJ.le (by decide)) L.Mz <|
   Gv (Q:=Ends (.bool true)) X K mJ L.ls L.loop (λ_ _ _ _ _=>Gx X XT K mJ Ml si.2 L.ls F6 (uA ns) L.keep L.Y1 rfl) _ _ _ _ _
end
theorem Qa:∀P,(HK P).lookup 147=aD:=λP=>by kernel_rfl
theorem Qb{P:Params}{h:Heap}(x:(HX P).In h):(HK P).In h/\h.get? 147=some ⟨.none,aD, .fields #[],#[]⟩:=by
 refine⟨λa o e=>x a o ?_,x 147 _ (by kernel_rfl)⟩
 unfold HX
 rw[rf,e]; rfl
set_option tactic.hygienic true in
theorem Co{K:Frag}{h:Heap}(x:K.In h){ns:Addr}{m:Str->Option Value}(hn:h.Ns ns m){name:Str}{v:Value}(e:nsIn K ns name=some (some v)):m name=some v:=by
 obtain⟨o,es,ep,ho,hd,-,hf⟩:=hn
 rw[<-hf]
 unfold nsIn at e
 split at e
 ·rename_i c d pH n sl hl
  have:=x _ _ hl
  cases nM ho this
  cases hd
  split at e
  ·rename_i q
   cases e
   unfold nsFind findBy
   rw[<-Array.find?_toList,q]; rfl
  ·split at e<;>exact nomatch e
 ·exact nomatch e
theorem Dt{f:Fz}{vs:List Value}{ns:List Int}(h:IntsAre vs ns):bQ f (ns.map .int) vs:=BL h
noncomputable def wd0(P:gu)(w:World)(s:Shared)(hn:s.heap.NoLimit):Wd where
 prog:=P
 w:=w
 B:={
  f:=λb=>if b=147 then aD else s.heap.get? b
  side:=λa=>a=147
  sq:=λ_ x=>∃m:MX,x=m.obj
  os:=s.os
  dq:=λ_=>True
  gq:=AllBare
  nolimit:=λh k=>hn.at λo e=>k _ _ (show(if Jz=147 then _ else _)=_ by rw[if_neg (by decide)]; exact e)
  ftab:=λa h=>by show(if a=147 then _ else _)=_; rw[if_pos h]}
set_option tactic.hygienic true in
theorem Jh(law:∀ns:List Int,ns.length<=63->∃fs,Gy ns fs):fW.Holds:=hd λw mP cU mg mb G Y fa o pm cd doc dV kV ho Hc si hD hg Qc args vals as AP Y3 hrd YI hlo=>by
 have KX:=Qb (kIn_of Y)
 have T:=G.T
 clear Hc si hD
 wrow_args AP Y3 hrd YI hlo
 rename_i ns _ _ _ _ _ _ _ la vs _ hL _ w1 _ hI _ hlen _
 have w1:Well w.params cU.heap (.ref la) (.list (ofPys (ns.map PyData.int))):=w1
 have hn:ns.length<=63:=by exact T9 hlen
 obtain⟨fs,LO⟩:=law ns hn
 obtain⟨K1,Gw⟩:=KX
 have Qd:∀{a o},(HK w.params).lookup a=some o->a≠147:=λe q=>by subst q; rw[Qa] at e; exact nomatch e
 let W:=wd0 QG.prog w cU T.nolimit
 have AO:∀a o,a≠147->cU.heap.get? a=some o->W.B.f a=some o:=λa o h e=>by show(if a=147 then _ else _)=_; rw[if_neg h]; exact e
 have ofF:∀a o,W.B.f a=some o->cU.heap.get? a=some o:=λa o e=>by
  have e:(if a=147 then aD else cU.heap.get? a)=some o:=e
  split at e
  ·exact nomatch e
  ·exact e
 have X:cH W:=⟨λa o e=>AO a o (Qd e) (K1 a o e),mb,λh k=>let⟨o,es,ep,h1,h2⟩:=T.b; ⟨o,es,ep,k _ _ (AO _ _ (by decide) h1),h2⟩,T.builtins⟩
 have b4:∃x:Obj,W.B.f 4=some x/\x.cls= .type "module" /\x.dict=some cP/\x.data= .plain:=by
  obtain⟨bm,ob,h1,h2,h3,h4,h5,h6⟩:=T.bmain
  have:=Co K1 T.g (show nsIn (HK w.params) bV (J "__builtins__")=some (some (.ref 4)) by kernel_rfl)
  rw[show(("__builtins__" :Str))=J "__builtins__" from rfl,this] at h1
  cases h1
  exact⟨ob,AO 4 _ (by decide) h3,h4,h5,h6⟩
 have XT:um W:=⟨rfl,λx=>Iff.rfl,λgs=>Iff.rfl,b4⟩
 have S:St W.B W.B.f (λ_=>aD) cU:=⟨ofF,λa x e=>(by exact nomatch e),λa x _=>rfl,Fz.le.refl _,λa ha=>⟨_,ha▸Gw,⟨⟨#[],trivial⟩,rfl⟩⟩,λa ha=>⟨W.B.ftab a ha,rfl⟩,⟨rfl,trivial⟩,by rw[Qc]; exact .empty⟩
 have JJ:fa=369:=by
  have:=Co K1 T.g (show nsIn (HK w.params) bV (J "law")=some (some (.ref 369)) by kernel_rfl)
  rw[show D0.name=J "law" by kernel_rfl,this] at hg
  cases hg; rfl
 subst JJ
 ·refine(Y2 X XT (A:=callerA) ⟨by decide,by decide,rfl⟩ rfl hn LO).un W.B.f (λ_=>aD) cU [.ref la] S ?_ _ _ λv f' s' l' S' d'=>?_
  ·cases w1 with
   |list h1 h2=>
    obtain⟨ob,e1,e2,k,e3⟩:=hL
    cases nM h1 e1
    injection e3 with e4 e5
    have e4:_=vs:=congrArg zy e4
    refine .cons ⟨la,_,vs,0,rfl,AO la _ (λq=>?_) h1,⟨rfl,rfl,rfl⟩,by rw[<-e4],Dt hI⟩ .nil
    subst q; cases nM Gw h1
  ·obtain rfl:v= .bool true:=d'
   have keep:∀b x,b≠147->cU.heap.get? b=some x->s'.heap.get? b=some x:=λb x hb e=>S'.bT _ _ (AO b x hb e)
   refine⟨.inl ⟨_, .bool true,[],rfl,λ_=>rfl, .bool _,?_,λ_=>⟨KD,λa ha=>by cases ha⟩⟩,⟨λb x e=>?_,λb x e=>?_⟩,S'.os.1,S'.gens⟩
   ·exact postW_of (by wrow_shape) (by wtm_val) (by w_fin)
   ·by_cases hb:b=147
    ·subst hb
     cases nM Gw e
     obtain⟨x,h1,m,rfl⟩:=S'.tab 147 rfl
     have hc:∃x vs,(HK w.params).lookup 151=some x/\x.cls= .type "code" /\x.data= .fields vs/\vs[11]? =some (.ref 147):=⟨_,_,rfl,rfl,rfl,rfl⟩
     obtain⟨x,ws,c1,c2,c3,c4⟩:=hc
     exact .inr (.inl ⟨⟨151,x,ws,K1 _ _ c1,c2,c3,c4⟩,rfl,#[],m.1,rfl,by rw[h1]; unfold MX.obj; simp⟩)
    ·exact .inl (keep b x hb e)
   ·by_cases hb:b=147
    ·subst hb; obtain⟨x,h1,_⟩:=S'.tab 147 rfl; exact⟨x,h1⟩
    ·exact⟨x,keep b x hb e⟩
structure TT(r:Rel):Prop where
 wf:Wf r
 e:∀u<4,∀v<4,0<=bF r u v/\bF r u v<=2
 d:∀u<4,bF r u u=1
 tr:∀u<4,∀v<4,∀w<4,bF r u v≠0->bF r v w≠0->bF r u v<=bF r u w/\bF r v w<=bF r u w
theorem uK(g:Nat->Nat->Int){u v:Nat}(hu:u<4)(hv:v<4):bF ((aB 4).map λu=>(aB 4).map λv=>g u v) u v=g u v:=by
 unfold bF
 have h1:((aB 4).map λu=>(aB 4).map λv=>g u v).getD u []=(aB 4).map λv=>g u v:=by rw[ak,av,cQ hu]; rfl
 rw[h1,ak,av,cQ hv]; rfl
theorem Du{r:Rel}{x y:Nat}{eQ:Int}{u v:Nat}(hu:u<4)(hv:v<4):bF (c8 r x y eQ) u v=mS r x y eQ u v:=uK _ hu hv
theorem g0:∀u<4,∀v<4,bF xe u v=if(u:Int)=v then 1 else 0:=λu hu v hv=>uK (λ(u v:Nat)=>if(u:Int)=v then 1 else 0) hu hv
theorem tt0:TT xe:=by
 refine⟨yK _,λu hu v hv=>?_,λu hu=>?_,λu hu v hv w hw=>?_⟩
 ·rw[g0 u hu v hv]; split<;>decide
 ·rw[g0 u hu u hu,if_pos rfl]
 ·rw[g0 u hu v hv,g0 v hv w hw,g0 u hu w hw]; (repeat' split)<;>(first|decide|lia|omega)
set_option tactic.hygienic true in
theorem qN{r:Rel}(P:TT r){a b:Nat}(ha:a<4)(hb:b<4){c:Int}(hc:c=1\/c=2):∀u<4,∀v<4,(bF r u a≠0/\bF r b v≠0/\bF r u v<=bF (c8 r a b c) u v/\bF r u a<=bF (c8 r a b c) u v/\bF r b v<=bF (c8 r a b c) u v/\c<=bF (c8 r a b c) u v/\bF (c8 r a b c) u v<=2/\
 (bF (c8 r a b c) u v=2->bF r u v=2\/bF r u a=2\/bF r b v=2\/c=2))\/((bF r u a=0\/bF r b v=0)/\bF (c8 r a b c) u v=bF r u v):=λu hu v hv=>by
 rw[Du hu hv]; unfold mS
 have e1:=P.e u hu v hv; have e2:=P.e u hu a ha; have e3:=P.e b hb v hv
 split
 ·rename_i h
  exact .inl ⟨h.1,h.2,by exact Ua,by exact Ub e1 e2 e3,by exact Uc,by exact Ud,by exact Ue hc e1 e2 e3 h,by exact Ug e1 e2 e3⟩
 ·exact .inr ⟨by exact Uh ‹_›,by exact Ui e1⟩
theorem xu{r:Rel}(P:TT r){a b:Nat}(ha:a<4)(hb:b<4){c:Int}(hc:c=1\/c=2)(h:bF r b a=0\/(bF r b a=1/\c=1)):TT (c8 r a b c):=by
 have G:=qN P ha hb hc
 refine⟨yK _,λu hu v hv=>?_,λu hu=>?_,λu hu v hv w hw=>?_⟩
 ·have:=P.e u hu v hv; rcases G u hu v hv with q|⟨_,q⟩<;>(first|exact Uj this q|exact Uk this q|lia|omega)
 ·have d1:=P.d u hu; have d2:=P.tr b hb u hu a ha; have d3:=P.e b hb u hu
  rcases G u hu u hu with q|⟨_,q⟩<;>first|exact Rb h d1 d2 d3 q|exact q.trans d1|(first|exact Ul h ‹_› ‹_› this q|exact Um this q|lia|omega)
 ·have t1:=P.tr u hu v hv w hw; have t2:=P.tr u hu v hv a ha; have t3:=P.tr b hb v hv w hw; have t4:=P.tr b hb v hv a ha
  have e1:=P.e u hu v hv; have e2:=P.e v hv w hw; have e3:=P.e u hu w hw
  have G1:=G u hu v hv; have G2:=G v hv w hw; have G3:=G u hu w hw
  generalize bF (c8 r a b c) u v=R1 at*; generalize bF (c8 r a b c) v w=R2 at*; generalize bF (c8 r a b c) u w=R3 at*
  clear G
  rcases G1 with⟨h1,h2,q1,q2,q3,q4,q5,q6⟩|⟨h1,q⟩<;>rcases G2 with⟨k1,k2,p1,p2,p3,p4,p5,p6⟩|⟨k1,p⟩<;>rcases G3 with⟨l1,l2,o1,o2,o3,o4,o5,o6⟩|⟨l1,o1⟩<;>(first|exact Un hc h t2 t3 t4 h2 q2 q4 q5 q6 k1 p3 p5 p6 o2 o3 o4|exact Uo h1 k2 l1|exact Up t1 t3 e2 e3 h2 q5 q6 p o1 o2 o3 o4 o5|exact Uq t3 e2 h1 h2 p l1|exact Ur t1 t2 e1 q k1 p5 p6 o1 o2 o3 o4 o5|exact Us t2 e1 q k1 k2 l1|exact Ut t1 q p o1|exact Uu t1 q p o1|lia|omega)
inductive Reach(K:Nat->Nat->Bool->Prop):Nat->Nat->Bool->Prop
 |refl (u):Reach K u u false
 |snoc {u v w f g}:Reach K u v f->K v w g->Reach K u w (f||g)
theorem Reach.trans{K:Nat->Nat->Bool->Prop}{u v:Nat}{f:Bool}(x:Reach K u v f):∀{w:Nat} {g:Bool},Reach K v w g->Reach K u w (f||g):=by
 intro w g y
 induction y with
 |refl=>rw[yc]; exact x
 |snoc _ k ih=>rw[<-Bool.or_assoc]; exact ih.snoc k
theorem Reach.mono{K L:Nat->Nat->Bool->Prop}(h:∀a b f,K a b f->L a b f){u v:Nat}{f:Bool}(x:Reach K u v f):Reach L u v f:=by
 induction x with
 |refl=>exact .refl _
 |snoc _ k ih=>exact ih.snoc (h _ _ _ k)
noncomputable def Sound(r:Rel)(K:Nat->Nat->Bool->Prop):Prop:=∀u<4,∀v<4,bF r u v≠0->Reach K u v (decide (bF r u v=2))
theorem step_sound{r:Rel}(P:TT r){a b:Nat}(ha:a<4)(hb:b<4){c:Int}(hc:c=1\/c=2){K:Nat->Nat->Bool->Prop}(S:Sound r K)(hk:K a b (decide (c=2))):Sound (c8 r a b c) K:=λu hu v hv h=>by
 rcases qN P ha hb hc u hu v hv with⟨h1,h2,q1,q2,q3,q4,q5,q6⟩|⟨_,q⟩
 ·by_cases z:bF r u v=bF (c8 r a b c) u v
  ·rw[<-z] at h ⊢; exact S u hu v hv h
  ·have w:=((S u hu a ha h1).snoc hk).trans (S b hb v hv h2)
   have e:(decide (bF r u a=2)||decide (c=2)||decide (bF r b v=2))=decide (bF (c8 r a b c) u v=2):=by
    rw[<-KL,<-KL,decide_eq_decide]
    constructor
    ·intro _; exact Uv q2 q3 q4 q5 a_1
    ·intro k; have:=q6 k; exact Uw q2 q3 q4 z k this
   rw[e] at w; exact w
 ·rw[q] at h ⊢; exact S u hu v hv h
structure Inv(r:Rel)(K:Nat->Nat->Bool->Prop):Prop where
 tt:TT r
 sound:Sound r K
 Q1:∀a b f,K a b f->a<4/\b<4/\(if f then(2:Int) else 1)<=bF r a b
 sym:∀a b,K a b false->K b a false
set_option tactic.hygienic true in
theorem Inv.along{r:Rel}{K:Nat->Nat->Bool->Prop}(I:Inv r K){u v:Nat}{f:Bool}(x:Reach K u v f)(hu:u<4):v<4/\(if f then(2:Int) else 1)<=bF r u v:=by
 induction x with
 |refl=>exact⟨hu,by rw[I.tt.d _ hu]; decide⟩
 |snoc _ k ih=>
  have h1:=ih; have h2:=I.Q1 _ _ _ k
  refine⟨h2.2.1,?_⟩
  have t:=I.tt.tr _ hu _ h1.1 _ h2.2.1
  rename_i f g _
  cases f<;>cases g<;>simp at h1 h2 ⊢<;>(first|exact Ux t h1 h2|exact Uy t h1 h2|exact Uz t ih h1 h2|exact UA t h1 h2|lia|omega)
theorem Reach.back{K:Nat->Nat->Bool->Prop}(sym:∀a b,K a b false->K b a false){u v:Nat}{f:Bool}(x:Reach K u v f):f=false->Reach K v u false:=by
 induction x with
 |refl=>intro _; exact .refl _
 |snoc _ k ih=>
  intro h
  rw[Bool.or_eq_false_iff] at h
  obtain⟨rfl,rfl⟩:=h
  exact((Reach.refl _).snoc (sym _ _ k)).trans (ih rfl)
theorem Inv.as{r:Rel}{K:Nat->Nat->Bool->Prop}(I:Inv r K){u v:Nat}(hu:u<4)(hv:v<4):(bF r u v=2->bF r v u=0)/\(bF r u v=1->bF r v u=1):=by
 have d:=I.tt.d u hu; have t:=I.tt.tr u hu v hv u hu; have e:=I.tt.e v hv u hu
 refine⟨λh=>by exact UB d t h,λh=>?_⟩
 have w:=I.sound u hu v hv (by exact UC h)
 rw[h] at w
 have:=(I.along (w.back I.sym rfl) hv).2
 simp at this
 exact UD d t e h this
theorem Inv.reach{r:Rel}{K:Nat->Nat->Bool->Prop}(I:Inv r K){u v:Nat}{f:Bool}(hu:u<4):Reach K u v f↔v<4/\bF r u v≠0/\f=decide (bF r u v=2):=by
 refine⟨λw=>?_,λ⟨h1,h2,h3⟩=>h3▸I.sound u hu v h1 h2⟩
 obtain⟨hv,hb⟩:=I.along w hu
 refine⟨hv,by cases f<;>simp at hb<;>(first|exact UE hb|exact UG hb|lia|omega),?_⟩
 have e:=I.tt.e u hu v hv
 cases f with
 |true=>simp at hb; exact(decide_eq_true (by exact NG e hb)).symm
 |false=>
  have h1:=(I.along (w.back I.sym rfl) hv).2
  simp at h1
  have:=(I.as hu hv).1
  exact(decide_eq_false (by exact UH h1 this)).symm
noncomputable def Q2(r r':Rel):Prop:=∀u<4,∀v<4,bF r u v<=bF r' u v
theorem xv{r:Rel}(P:TT r){a b:Nat}(ha:a<4)(hb:b<4){c:Int}(hc:c=1\/c=2):Q2 r (c8 r a b c)/\c<=bF (c8 r a b c) a b:=by
 refine⟨λu hu v hv=>?_,?_⟩
 ·rcases qN P ha hb hc u hu v hv with q|⟨_,q⟩<;>(first|exact UI q|exact UJ q|lia|omega)
 ·have:=P.d a ha; have:=P.d b hb
  rcases qN P ha hb hc a ha b hb with q|⟨_,q⟩<;>(first|exact UK q|exact UL ‹_› this left|lia|omega)
theorem Sound.mono{r:Rel}{K L:Nat->Nat->Bool->Prop}(h:∀a b f,K a b f->L a b f)(S:Sound r K):Sound r L:=λu hu v hv q=>(S u hu v hv q).mono h
noncomputable def Ji(K:Nat->Nat->Bool->Prop)(a b:Nat)(c:Int):Nat->Nat->Bool->Prop:=λx y f=>K x y f\/((x=a/\y=b)\/(c=1/\x=b/\y=a))/\f=decide (c=2)
theorem zm{r:Rel}{K:Nat->Nat->Bool->Prop}(I:Inv r K){a b:Nat}(ha:a<4)(hb:b<4){c:Int}(hc:c=1\/c=2)(hk:eA r a b c=true):
 Inv ((pairsOf a b c).foldl (λr p=>c8 r p.1 p.2 c) r) (Ji K a b c)/\Q2 r ((pairsOf a b c).foldl (λr p=>c8 r p.1 p.2 c) r):=by
 have hm:∀x y f,K x y f->Ji K a b c x y f:=λx y f h=> .inl h
 have S:=I.sound.mono hm
 have h1:Ji K a b c a b (decide (c=2)):= .inr ⟨.inl ⟨rfl,rfl⟩,rfl⟩
 have eab:=I.tt.e a ha b hb; have eba:=I.tt.e b hb a ha
 rcases hc with rfl|rfl
 ·have hk:max (bF r a b) (bF r b a)<2:=by simpa [eA] using hk
  have hc:(1:Int)=1\/(1:Int)=2:= .inl rfl
  have T1:=xu I.tt ha hb hc (by(first|lia|omega))
  have c1:=qN I.tt ha hb hc a ha b hb
  have d1:=I.tt.d a ha; have d2:=I.tt.d b hb
  have L1:=xv I.tt ha hb hc
  have T2:=xu T1 hb ha hc (by rcases c1 with q|⟨_,q⟩<;>(first|lia|omega))
  have L2:=xv T1 hb ha hc
  have le:Q2 r (c8 (c8 r a b 1) b a 1):=λu hu v hv=>bX (L1.1 u hu v hv) (L2.1 u hu v hv)
  have S2:=step_sound T1 hb ha hc (step_sound I.tt ha hb hc S h1) (.inr ⟨.inr ⟨rfl,rfl,rfl⟩,rfl⟩)
  refine⟨⟨T2,S2,λx y f h=>?_,λx y h=>?_⟩,le⟩
  ·rcases h with h|⟨⟨rfl,rfl⟩|⟨_,rfl,rfl⟩,rfl⟩
   ·have:=I.Q1 x y f h; exact⟨this.1,this.2.1,bX this.2.2 (le x this.1 y this.2.1)⟩
   ·exact⟨ha,hb,bX L1.2 (L2.1 _ ha _ hb)⟩
   ·exact⟨hb,ha,L2.2⟩
  ·rcases h with h|⟨⟨rfl,rfl⟩|⟨_,rfl,rfl⟩,h⟩
   ·exact .inl (I.sym _ _ h)
   ·exact .inr ⟨.inr ⟨rfl,rfl,rfl⟩,rfl⟩
   ·exact .inr ⟨.inl ⟨rfl,rfl⟩,rfl⟩
 ·have hk:bF r b a=0:=by simpa [eA] using hk
  have hc:(2:Int)=1\/(2:Int)=2:= .inr rfl
  have L1:=xv I.tt ha hb hc
  refine⟨⟨xu I.tt ha hb hc (.inl hk),step_sound I.tt ha hb hc S h1,λx y f h=>?_,λx y h=>?_⟩,L1.1⟩
  ·rcases h with h|⟨⟨rfl,rfl⟩|⟨h,_⟩,rfl⟩
   ·have:=I.Q1 x y f h; exact⟨this.1,this.2.1,bX this.2.2 (L1.1 x this.1 y this.2.1)⟩
   ·exact⟨ha,hb,L1.2⟩
   ·exact nomatch h
  ·rcases h with h|⟨_,h⟩
   ·exact .inl (I.sym _ _ h)
   ·exact nomatch h
noncomputable def Kp(ps:List (Ed×Bool)):Nat->Nat->Bool->Prop:=λa b f=>∃p∈ps,p.2=true/\((a=p.1.ends.1/\b=p.1.ends.2.1)\/(p.1.ends.2.2=1/\a=p.1.ends.2.1/\b=p.1.ends.1))/\f=decide (p.1.ends.2.2=2)
noncomputable def kC(r:Rel)(e:Ed):Prop:=if e.ends.2.2=2 then bF r e.ends.2.1 e.ends.1≠0 else bF r e.ends.1 e.ends.2.1=2\/bF r e.ends.2.1 e.ends.1=2
structure vD(es:List Ed)(r:Rel)(ks:List Bool):Prop where
 len:ks.length=es.length
 inv:Inv r (Kp (es.zip ks))
 Y4:∀p∈es.zip ks,p.2=false->kC r p.1
theorem qO{e:Ed}(h:e.Ok):e.ends.1<4/\e.ends.2.1<4/\(e.ends.2.2=1\/e.ends.2.2=2):=by
 have:=h.low; have:=h.high
 unfold Ed.ends
 split
 ·exact⟨h.low,h.high, .inr rfl⟩
 ·split
  ·exact⟨h.high,h.low, .inr rfl⟩
  ·exact⟨h.low,h.high, .inl rfl⟩
theorem kC.mono{r r':Rel}{e:Ed}(h:e.Ok)(T:TT r)(T':TT r')(le:Q2 r r')(b:kC r e):kC r' e:=by
 obtain⟨h1,h2,_⟩:=qO h
 unfold kC at*
 have a1:=le _ h1 _ h2; have a2:=le _ h2 _ h1
 have e1:=T'.e _ h1 _ h2; have e2:=T'.e _ h2 _ h1; have e3:=T.e _ h2 _ h1
 split at b
 ·rw[if_pos (by assumption)]; exact UM a2 e3 b
 ·rw[if_neg (by assumption)]; exact UN a1 a2 e1 e2 b
theorem Inv.congr{r:Rel}{K L:Nat->Nat->Bool->Prop}(I:Inv r K)(h:∀a b f,K a b f↔L a b f):Inv r L:=by
 have:K=L:=by funext a b f; exact propext (h a b f)
 exact this▸I
theorem vD.step{es:List Ed}{r:Rel}{ks:List Bool}(I:vD es r ks)(OC:∀e∈es,e.Ok){e:Ed}(h:e.Ok):vD (es++[e]) (rX r e) (ks++[eA r e.ends.1 e.ends.2.1 e.ends.2.2]):=by
 obtain⟨h1,h2,h3⟩:=qO h
 have hz:(es++[e]).zip (ks++[eA r e.ends.1 e.ends.2.1 e.ends.2.2])=es.zip ks++[(e,eA r e.ends.1 e.ends.2.1 e.ends.2.2)]:=by rw[List.zip_append I.len.symm]; rfl
 have hb:∀p∈es.zip ks,p.1.Ok:=λp hp=>OC _ (kG hp).1
 refine⟨by simp[I.len],?_,?_⟩
 ·rw[hz]
  unfold rX
  cases hk:eA r e.ends.1 e.ends.2.1 e.ends.2.2 with
  |true=>
   rw[if_pos rfl]
   refine(zm I.inv h1 h2 h3 hk).1.congr λa b f=>?_
   unfold Ji Kp
   constructor
   ·rintro(⟨p,hp,q⟩|⟨q1,q2⟩)
    ·exact⟨p,ko _ hp,q⟩
    ·exact⟨_,Bl _ (.head _),rfl,q1,q2⟩
   ·rintro⟨p,hp,q0,q1,q2⟩
    rcases bN.mp hp with hp|hp
    ·exact .inl ⟨p,hp,q0,q1,q2⟩
    ·obtain rfl:=aA.mp hp; exact .inr ⟨q1,q2⟩
  |false=>
   rw[if_neg (by decide)]
   refine I.inv.congr λa b f=>?_
   unfold Kp
   constructor
   ·rintro⟨p,hp,q⟩; exact⟨p,ko _ hp,q⟩
   ·rintro⟨p,hp,q0,q⟩
    rcases bN.mp hp with hp|hp
    ·exact⟨p,hp,q0,q⟩
    ·obtain rfl:=aA.mp hp; exact nomatch q0
 ·rw[hz]
  intro p hp hq
  unfold rX
  cases hk:eA r e.ends.1 e.ends.2.1 e.ends.2.2 with
  |true=>
   rw[if_pos rfl]
   have K:=zm I.inv h1 h2 h3 hk
   rw[hk] at hp
   rcases bN.mp hp with hp|hp
   ·exact(I.Y4 p hp hq).mono (hb p hp) I.inv.tt K.1.tt K.2
   ·obtain rfl:=aA.mp hp; exact nomatch hq
  |false=>
   rw[if_neg (by decide)]
   rw[hk] at hp
   rcases bN.mp hp with hp|hp
   ·exact I.Y4 p hp hq
   ·obtain rfl:=aA.mp hp
    show kC r e
    unfold kC
    unfold eA at hk
    have e1:=I.inv.tt.e _ h1 _ h2; have e2:=I.inv.tt.e _ h2 _ h1
    split at hk
    ·rw[if_pos (by assumption)]; simpa using hk
    ·rw[if_neg (by assumption)]; simp at hk; exact UO e1 e2 hk
set_option tactic.hygienic true in
theorem Qe:vD [] xe []:=by
 refine⟨rfl,⟨tt0,λu hu v hv h=>?_,λa b f h=>?_,λa b h=>?_⟩,λp hp=>by cases hp⟩
 ·rw[g0 u hu v hv] at h ⊢
  split at h
  ·rename_i q
   have:u=v:=by exact Nv q
   subst this
   rw[if_pos rfl]
   exact .refl _
  ·exact absurd rfl h
 ·obtain⟨p,hp,_⟩:=h; exact nomatch hp
 ·obtain⟨p,hp,_⟩:=h; exact nomatch hp
theorem wG:∀(pH es:List Ed) (r:Rel) (ks:List Bool),vD es r ks->(∀e∈es,e.Ok)->(∀e∈pH,e.Ok)->vD (es++pH) (pH.foldl rx (r,ks)).1 (pH.foldl rx (r,ks)).2
 |[],es,r,ks,I,_,_=>by rw[gU]; exact I
 |e::pH,es,r,ks,I,h,h'=>by
  have:=wG pH (es++[e]) _ _ (I.step h (h' e (.head _))) (λx hx=>by
   rcases bN.mp hx with hx|hx
   ·exact h x hx
   ·obtain rfl:=aA.mp hx; exact h' _ (.head _)) λx hx=>h' x (.tail _ hx)
  rw[mH] at this
  exact this
theorem zo{es:List Ed}(h:∀e∈es,e.Ok):vD es (closure es).1 (closure es).2:=wG es [] xe [] Qe (λ_ hx=>by exact nomatch hx) h
theorem xw:∀i<8,lo1 (rG i)=nO (i % 4):=by decide+kernel
theorem m5{a b:Nat}(h:nO a=nO b):a=b:=by unfold nO at h; exact UP h
noncomputable def uL(h:Hd):Nat×Nat×Bool:=(lo1 h.a,lo1 h.b,!h.eq)
theorem xx{e:Ed}(x:vC e):(zf (rowOf e)).map uL=if e.ends.2.2=2 then[(nO e.ends.1,nO e.ends.2.1,true)] else[(nO e.ends.1,nO e.ends.2.1,false),(nO e.ends.2.1,nO e.ends.1,false)]:=by
 have hl:=x.ok.low; have hh:=x.ok.high; have h3:=x.ok.sg
 have l1:lo1 (rG (pT e))=nO e.low:=by rw[xw _ x.low]; congr 1; unfold pT; exact UQ hl
 have l2:lo1 (rG (jY e))=nO e.high:=by rw[xw _ x.high]; congr 1; unfold jY; exact UR hh
 unfold zf gb rowOf uz Ed.ends uL
 have:e.sg=0\/e.sg=1\/e.sg=2:=by exact HA h3
 rcases this with q|q|q<;>simp[q,l1,l2]
set_option tactic.hygienic true in
theorem Cp{es:List Ed}{ks:List Bool}(hx:∀e∈es,vC e){a b:Nat}{f:Bool}:(nO a,nO b,f)∈(ni es ks).map uL↔Kp (es.zip ks) a b f:=by
 unfold ni iA
 rw[sR,sQ,List.zip_map_left]
 unfold Kp
 constructor
 ·rintro⟨r,hr,hm⟩
  obtain⟨p,hp,rfl⟩:=aw.mp hr
  obtain⟨h1,h2⟩:=bw.mp hp
  obtain⟨q,hq,rfl⟩:=aw.mp h1
  have x:=hx _ (kG hq).1
  refine⟨q,hq,h2,?_⟩
  rw[show(Prod.map rowOf _root_.id q).1=rowOf q.1 from rfl,xx x] at hm
  split at hm
  ·rename_i h
   rcases aA.mp hm with e
   injection e with e1 e; injection e with e2 e3
   exact⟨.inl ⟨m5 e1,m5 e2⟩,by rw[e3,h]; rfl⟩
  ·rename_i h
   have h':=(qO x.ok).2.2.resolve_right h
   rcases au.mp hm with e|hm
   ·injection e with e1 e; injection e with e2 e3
    exact⟨.inl ⟨m5 e1,m5 e2⟩,by rw[e3,h']; rfl⟩
   ·rcases aA.mp hm with e
    injection e with e1 e; injection e with e2 e3
    exact⟨.inr ⟨h',m5 e1,m5 e2⟩,by rw[e3,h']; rfl⟩
 ·rintro⟨q,hq,h2,h3,rfl⟩
  have x:=hx _ (kG hq).1
  refine⟨rowOf q.1,aw.mpr ⟨Prod.map rowOf _root_.id q,bw.mpr ⟨aw.mpr ⟨q,hq,rfl⟩,h2⟩,rfl⟩,?_⟩
  rw[xx x]
  rcases h3 with⟨rfl,rfl⟩|⟨h',rfl,rfl⟩
  ·rcases(qO x.ok).2.2 with h'|h'
   ·rw[h']; simp
   ·rw[h']; simp
  ·rw[h']; simp
theorem wH{es:List Ed}{ks:List Bool}(hx:∀e∈es,vC e):∀h∈ni es ks,h.Ok/\∃b,lo1 h.b=nO b:=by
 intro h hh
 unfold ni iA at hh
 obtain⟨r,hr,hm⟩:=sQ.mp hh
 obtain⟨p,hp,rfl⟩:=aw.mp hr
 obtain⟨h1,h2⟩:=bw.mp hp
 obtain⟨e,he,q⟩:=aw.mp (kG h1).1
 have x:=hx e he
 rw[<-q] at hm
 have ID:h.Ok:=by
  have l1:=jL x.low; have l2:=jL x.high
  unfold zf gb rowOf at hm
  obtain⟨p,hp,rfl⟩:=aw.mp hm
  (repeat' split at hp)<;>simp at hp<;>(rcases hp with rfl|rfl)<;>exact⟨by assumption,by assumption⟩
 refine⟨ID,?_⟩
 have:=DG (f:=uL) hm
 rw[xx x] at this
 split at this<;>simp[uL] at this
 ·exact⟨_,this.2.1⟩
 ·rcases this with h|h<;>exact⟨_,h.2.1⟩
set_option tactic.hygienic true in
theorem kU:∀(xs fs:List (Nat×Bool)) (y:Nat×Bool),y∈j9 fs xs↔y∈fs\/y∈xs
 |[],fs,y=>by simp[j9]
 |x::xs,fs,y=>by
  have ih:=kU xs (if x∈fs then fs else fs++[x]) y
  show y∈j9 (if x∈fs then fs else fs++[x]) xs↔_
  rw[ih]
  split
  ·rename_i h
   constructor
   ·rintro(h1|h1)
    ·exact .inl h1
    ·exact .inr (.tail _ h1)
   ·rintro(h1|h1)
    ·exact .inl h1
    ·rcases au.mp h1 with rfl|h1
     ·exact .inl h
     ·exact .inr h1
  ·rw[bN,aA,au,or_assoc]
set_option tactic.hygienic true in
theorem qP:∀(xs fs:List (Nat×Bool)),fs.Nodup->(j9 fs xs).Nodup
 |[],fs,h=>h
 |x::xs,fs,h=>by
  refine qP xs (if x∈fs then fs else fs++[x]) ?_
  split
  ·exact h
  ·rename_i hx
   refine G0.mpr ⟨h,by simp,λa ha b hb e=>?_⟩
   rcases aA.mp hb with rfl
   exact hx (e▸ha)
theorem uM:∀(xs fs:List (Nat×Bool)),fs<+:j9 fs xs
 |[],fs=>Hk _
 |x::xs,fs=>by
  refine List.IsPrefix.trans ?_ (uM xs (if x∈fs then fs else fs++[x]))
  split
  ·exact Hk _
  ·exact List.prefix_append _ _
set_option tactic.hygienic true in
theorem zp(hs:List Hd)(G:List (Nat×Bool))(hG:∀p∈G,∀q∈nextOf hs p,q∈G):∀(n i:Nat) (fs:List (Nat×Bool)),G.length<n+i->fs.Nodup->(∀p∈fs,p∈G)->(∀j<i,∀p,fs[j]? =some p->∀q∈nextOf hs p,q∈fs)->
 (fN hs n i fs).Nodup/\(∀p∈fN hs n i fs,p∈G)/\(∀p∈fs,p∈fN hs n i fs)/\∀p∈fN hs n i fs,∀q∈nextOf hs p,q∈fN hs n i fs
 | 0,i,fs,hn,h1,h2,h3=>by
  have hl:=ug fs G h1 h2
  have hz:fN hs 0 i fs=fs:=by unfold fN; rfl
  rw[hz]
  refine⟨h1,h2,λp h=>h,λp hp q hq=>?_⟩
  obtain⟨j,hj,e⟩:=qd hp
  exact h3 j (by exact US hn hl hj) p (by rw[aj hj,e]) q hq
 |n+1,i,fs,hn,h1,h2,h3=>by
  unfold fN
  split
  ·rename_i hi
   have hi:=mj.mp hi
   refine⟨h1,h2,λp h=>h,λp hp q hq=>?_⟩
   obtain⟨j,hj,e⟩:=qd hp
   exact h3 j (by exact HB hi hj) p (by rw[aj hj,e]) q hq
  ·rename_i p hp
   have hm:=bI hp
   have AP:=uM (nextOf hs p) fs
   have:=zp hs G hG n (i+1) (j9 fs (nextOf hs p)) (by exact cG 0xa81842808043414030a0201 tt hn) (qP _ _ h1) (λq hq=>by
    rcases(kU _ _ _).mp hq with hq|hq
    ·exact h2 q hq
    ·exact hG p (h2 p hm) q hq) (λj hj q hq y hy=>by
    by_cases z:j<i
    ·have Lh:j<fs.length:=by have:=(cI.mp hp).1; exact UT z this
     obtain⟨tl,e⟩:=AP
     rw[<-e,xQ Lh] at hq
     exact(kU _ _ _).mpr (.inl (h3 j z q hq y hy))
    ·have:j=i:=by exact UU hj z
     subst this
     have Lh:=(cI.mp hp).1
     obtain⟨tl,e⟩:=AP
     rw[<-e,xQ Lh,hp] at hq
     cases hq
     exact(kU _ _ _).mpr (.inr hy))
   exact⟨this.1,this.2.1,λq hq=>this.2.2.1 q ((kU _ _ _).mpr (.inl hq)),this.2.2.2⟩
theorem qQ{r:Rel}{u v:Nat}{f:Bool}:(nO v,f)∈kT r u↔v<4/\bF r u v≠0/\f=decide (bF r u v=2):=by
 unfold kT
 rw[aw]
 constructor
 ·rintro⟨w,hw,e⟩
  injection e with e1 e2
  obtain rfl:=m5 e1
  obtain⟨h1,h2⟩:=bw.mp hw
  exact⟨aW.mp h1,by simpa using h2,e2.symm⟩
 ·rintro⟨h1,h2,rfl⟩
  exact⟨v,bw.mpr ⟨aW.mpr h1,by simpa using h2⟩,rfl⟩
theorem Dv(r:Rel)(u:Nat):(kT r u).Nodup:=(uI r u).imp fun{a b} h e=>by rw[e] at h; exact iM _ h
theorem Cq(r:Rel)(u:Nat):(kT r u).length<=4:=by unfold kT; rw[ai]; exact aP (ba _ _) (by decide)
theorem GA{es:List Ed}{ks:List Bool}{r:Rel}(hx:∀e∈es,vC e)(I:Inv r (Kp (es.zip ks))){u:Nat}(hu:u<4):(kT r u).Perm (iv (ni es ks) (nO u)):=by
 have Qf:∀p∈kT r u,∃v,p.1=nO v:=λp hp=>by unfold kT at hp; obtain⟨v,_,rfl⟩:=aw.mp hp; exact⟨v,rfl⟩
 have nx:∀{v:Nat} {f:Bool} {w:Nat} {g:Bool},Kp (es.zip ks) v w g->(nO w,f||g)∈nextOf (ni es ks) (nO v,f):=fun{v f w g} h=>by
  obtain⟨d,hd,e⟩:=aw.mp ((Cp hx).mpr h)
  unfold uL at e
  injection e with e1 e; injection e with e2 e3
  unfold nextOf
  exact aw.mpr ⟨d,bw.mpr ⟨hd,decide_eq_true e1⟩,by rw[e2,<-e3]⟩
 have st:(nO u,false)∈kT r u:=qQ.mpr ((I.reach hu).mp (.refl u))
 have F:=zp (ni es ks) (kT r u) (λp hp q hq=>by
  obtain⟨v,hv⟩:=Qf p hp
  obtain⟨c,f⟩:=p
  obtain rfl:c=nO v:=hv
  unfold nextOf at hq
  obtain⟨d,hd,rfl⟩:=aw.mp hq
  obtain⟨h1,h2⟩:=bw.mp hd
  have h2:=of_decide_eq_true h2
  obtain⟨w,hw⟩:=(wH hx d h1).2
  have k:Kp (es.zip ks) v w (!d.eq):=(Cp hx).mp (aw.mpr ⟨d,h1,by unfold uL; rw[h2,hw]⟩)
  rw[hw]
  exact qQ.mpr ((I.reach hu).mp (((I.reach hu).mpr (qQ.mp hp)).snoc k))) 8 0 [(nO u,false)] (by have:=Cq r u; exact aN 0x5c010cf70a0201 tt this) (by simp) (λp hp=>by rcases aA.mp hp with rfl; exact st) (λj hj=>absurd hj (KA _))
 refine(List.perm_ext_iff_of_nodup (Dv r u) F.1).mpr λp=>⟨λhp=>?_,λhp=>F.2.1 p hp⟩
 obtain⟨v,hv⟩:=Qf p hp
 obtain⟨c,f⟩:=p
 obtain rfl:c=nO v:=hv
 have w:=(I.reach hu).mpr (qQ.mp hp)
 clear hp
 induction w with
 |refl=>exact F.2.2.1 _ (.head _)
 |snoc _ k ih=>exact F.2.2.2 _ ih _ (nx k)
noncomputable def kb(r:Rel)(u:Nat):Nat:=(r.getD u []).idxOf 1
noncomputable def GB(r:Rel)(f:List Nat):Prop:=(∀k<5,(lR r (aK r) k).length<=1000/\∀row∈lR r (aK r) k,row.length<=4)/\
 (∀row∈rowsOf r,∀v∈aK r,v∈row)/\(∀k<(aK r).length,k∈placeOf r (aK r) f)/\(∀row∈r,(1:Int)∈row/\row.idxOf 1∈aK r)/\(∀v∈aK r,v∈eM r f)
noncomputable def GC(r:Rel)(f:List Nat)(u v:Nat):Prop:=bF r u v=2->(∀row∈rowsOf r,row.idxOf (kb r u)<row.idxOf (kb r v))/\(eM r f).idxOf (kb r u)<(eM r f).idxOf (kb r v)
noncomputable def GD(r:Rel)(f:List Nat)(u v:Nat):Prop:=bF r u v≠2->¬(f.idxOf (kb r u)<f.idxOf (kb r v)/\(eM r f).idxOf (kb r u)<(eM r f).idxOf (kb r v))
noncomputable def GF(r:Rel)(f:List Nat)(u v:Nat):Prop:=(bF r u v=1->kb r u=kb r v)/\(bF r u v≠1->f.idxOf (kb r u)≠f.idxOf (kb r v))
noncomputable def dGA(r:Rel)(f:List Nat):Decidable (GB r f):=by unfold GB; infer_instance
noncomputable def dPA(r:Rel)(f:List Nat)(u v:Nat):Decidable (GC r f u v):=by unfold GC; infer_instance
noncomputable def dPB(r:Rel)(f:List Nat)(u v:Nat):Decidable (GD r f u v):=by unfold GD; infer_instance
noncomputable def dPC(r:Rel)(f:List Nat)(u v:Nat):Decidable (GF r f u v):=by unfold GF; infer_instance
noncomputable def Good(r:Rel)(f:List Nat):Prop:=GB r f/\(∀u<4,∀v<4,GC r f u v/\GD r f u v/\GF r f u v)/\((rowsOf r).length=1->eM r f=f)
noncomputable def Kw(r:Rel)(f:List Nat):Decidable (Good r f):=by
 haveI:=dGA r f
 haveI:=λu v=>dPA r f u v
 haveI:=λu v=>dPB r f u v
 haveI:=λu v=>dPC r f u v
 unfold Good; infer_instance
noncomputable def Ng(u v:Nat):Nat:=3*u+(if v<u then v else v-1)
noncomputable def xy(bs:List Bool)(u v:Nat):Bool:=u==v||bs.getD (Ng u v) false
noncomputable def Jj(bs:List Bool):Rel:=(aB 4).map λu=>(aB 4).map λv=>if xy bs u v then(if xy bs v u then 1 else 2) else 0
noncomputable def Q3(bs:List Bool):Bool:=(aB 4).all λu=>(aB 4).all λv=>!xy bs u v||(aB 4).all λw=>!xy bs v w||xy bs u w
noncomputable def Cr(r:Rel):Bool:=match(rowsOf r).find? (wx r (aK r)) with
 |none=>false
 |some f=>@decide (Good r f) (Kw r f)
noncomputable def j0:Nat->List (List Bool)
 | 0=>[[]]
 |n+1=>(j0 n).map (false:: ·)++(j0 n).map (true:: ·)
theorem uN:∀l:List Bool,l∈j0 l.length
 |[]=> .head _
 |false::l=>ko _ (aw.mpr ⟨l,uN l,rfl⟩)
 |true::l=>Bl _ (aw.mpr ⟨l,uN l,rfl⟩)
noncomputable def zD(bs:List Bool):Bool:=!Q3 bs||Cr (Jj bs)
theorem eB{n:Nat}{P:List Bool->Bool}(h0:(j0 n).all (λbs=>P (false::bs))=true)(h1:(j0 n).all (λbs=>P (true::bs))=true):(j0 (n+1)).all P=true:=by
 show((j0 n).map (false:: ·)++(j0 n).map (true:: ·)).all P=true
 rw[kH,zO,zO]; exact c0.mpr ⟨h0,h1⟩
theorem MA:(j0 8).all (λbs=>zD (false::false::false::false::bs))=true:=by decide+kernel
theorem MB:(j0 8).all (λbs=>zD (false::false::false::true::bs))=true:=by decide+kernel
theorem MC:(j0 8).all (λbs=>zD (false::false::true::false::bs))=true:=by decide+kernel
theorem MD:(j0 8).all (λbs=>zD (false::false::true::true::bs))=true:=by decide+kernel
theorem ME:(j0 8).all (λbs=>zD (false::true::false::false::bs))=true:=by decide+kernel
theorem MF:(j0 8).all (λbs=>zD (false::true::false::true::bs))=true:=by decide+kernel
theorem MG:(j0 8).all (λbs=>zD (false::true::true::false::bs))=true:=by decide+kernel
theorem MH:(j0 8).all (λbs=>zD (false::true::true::true::bs))=true:=by decide+kernel
theorem MI:(j0 8).all (λbs=>zD (true::false::false::false::bs))=true:=by decide+kernel
theorem MJ:(j0 8).all (λbs=>zD (true::false::false::true::bs))=true:=by decide+kernel
theorem MK:(j0 8).all (λbs=>zD (true::false::true::false::bs))=true:=by decide+kernel
theorem ML:(j0 8).all (λbs=>zD (true::false::true::true::bs))=true:=by decide+kernel
theorem MM:(j0 8).all (λbs=>zD (true::true::false::false::bs))=true:=by decide+kernel
theorem MN:(j0 8).all (λbs=>zD (true::true::false::true::bs))=true:=by decide+kernel
theorem MO:(j0 8).all (λbs=>zD (true::true::true::false::bs))=true:=by decide+kernel
theorem MP:(j0 8).all (λbs=>zD (true::true::true::true::bs))=true:=by decide+kernel
theorem GG:(j0 12).all (λbs=>!Q3 bs||Cr (Jj bs))=true:=eB (eB (eB (eB MA MB) (eB MC MD)) (eB (eB ME MF) (eB MG MH))) (eB (eB (eB MI MJ) (eB MK ML)) (eB (eB MM MN) (eB MO MP)))
noncomputable def jB(i:Nat):Nat:=if i % 3<i / 3 then i % 3 else i % 3+1
noncomputable def vF(r:Rel):List Bool:=(aB 12).map λi=>decide (bF r (i / 3) (jB i)≠0)
theorem Qg:∀u<4,∀v<4,u≠v->Ng u v<12/\Ng u v / 3=u/\jB (Ng u v)=v:=by decide+kernel
theorem qR{r:Rel}(T:TT r){u v:Nat}(hu:u<4)(hv:v<4):xy (vF r) u v=decide (bF r u v≠0):=by
 unfold xy
 by_cases h:u=v
 ·subst h; rw[beq_self_eq_true,Bool.true_or,T.d u hu]; rfl
 ·rw[beq_eq_false_iff_ne.mpr h,Bool.false_or]
  obtain⟨h1,h2,h3⟩:=Qg u hu v hv h
  unfold vF
  rw[ak,av,cQ h1]
  show decide (bF r (Ng u v / 3) (jB (Ng u v))≠0)=_
  rw[h2,h3]
theorem Jk{r s:Rel}(hr:Wf r)(hs:Wf s)(h:∀u<4,∀v<4,bF r u v=bF s u v):r=s:=by
 apply nr (hr.len.trans hs.len.symm)
 intro u h1 h2
 have l1:=hr.row _ (dh h1); have l2:=hs.row _ (dh h2)
 apply nr (l1.trans l2.symm)
 intro v h3 h4
 have hu:u<4:=hr.len▸h1
 have hv:v<4:=l1▸h3
 have:=h u hu v hv
 unfold bF at this
 have a1:sT r u []=r[u]:=by rw[ak,aj h1]; rfl
 have a2:sT s u []=s[u]:=by rw[ak,aj h2]; rfl
 rw[a1,a2] at this
 have b1:sT r[u] v 0=r[u][v]:=by rw[ak,aj h3]; rfl
 have b2:sT s[u] v 0=s[u][v]:=by rw[ak,aj h4]; rfl
 rw[b1,b2] at this
 exact this
theorem dec_enc{r:Rel}{K:Nat->Nat->Bool->Prop}(I:Inv r K):r=Jj (vF r):=by
 refine Jk I.tt.wf (yK _) λu hu v hv=>?_
 unfold Jj
 rw[uK (λu v=>if xy (vF r) u v then(if xy (vF r) v u then 1 else 2) else 0) hu hv,qR I.tt hu hv,qR I.tt hv hu]
 have e:=I.tt.e u hu v hv; have a1:=I.as hu hv; have a2:=I.as hv hu; have e2:=I.tt.e v hv u hu
 by_cases h:bF r u v=0
 ·simp[h]
 ·by_cases k:bF r v u=0
  ·simp[h,k]; exact UW e a1 h k
  ·simp[h,k]; exact UX e a1 h k
theorem MQ{r:Rel}(T:TT r):Q3 (vF r)=true:=by
 unfold Q3
 refine aT.mpr λu hu=>aT.mpr λv hv=>?_
 have hu:=aW.mp hu; have hv:=aW.mp hv
 rw[qR T hu hv]
 by_cases h:bF r u v=0
 ·simp[h]
 ·rw[decide_eq_true h]
  refine aT.mpr λw hw=>?_
  have hw:=aW.mp hw
  rw[qR T hv hw,qR T hu hw]
  by_cases k:bF r v w=0
  ·simp[k]
  ·have:=T.tr u hu v hv w hw h k; have e:=T.e u hu v hv
   rw[decide_eq_true k,decide_eq_true (by exact UY h k this e)]; rfl
theorem GH{r:Rel}{K:Nat->Nat->Bool->Prop}(I:Inv r K):∃f,(rowsOf r).find? (wx r (aK r))=some f/\Good r f:=by
 have hm:vF r∈j0 12:=by have:=uN (vF r); rwa [show(vF r).length=12 by unfold vF; rw[ai,ec]] at this
 have:=aT.mp GG _ hm
 rw[MQ I.tt,<-dec_enc I] at this
 have this:Cr r=true:=this
 unfold Cr at this
 split at this
 ·exact nomatch this
 ·exact⟨_,by assumption,@of_decide_eq_true _ (Kw r _) this⟩
theorem A1{r:Rel}{f:List Nat}(w:Wf r)(hf:(rowsOf r).find? (wx r (aK r))=some f)(G:Good r f):jJ r f:=by
 obtain⟨⟨h1,h2,h3,h4,h5⟩,-⟩:=G
 have hl:=kE r
 exact⟨w,λk hk=>(h1 k (by exact aX 0x843700438a0601 tt hl hk)).1,λk hk row hr=>aP ((h1 k (by exact aX 0x843700438a0601 tt hl hk)).2 row hr) (by decide),h2,hf,h3,h4,h5⟩
noncomputable def txt(rs:List Nat)(tr:Nat):List Nat:=(rs.map λn=>blanks n++[9]).flatten++blanks tr
noncomputable def cl(z o w:Nat):List Int:=if 0<w then[(z:Int),o,w] else if 0<o then[(z:Int),o] else if 0<z then[(z:Int)] else[]
theorem qS(n:Nat)(rs:List Nat)(tr:Nat):txt (n::rs) tr=blanks n++9::txt rs tr:=by
 unfold txt; rw[aO,ee]; simp
theorem r6(n:Nat):blanks (n+1)=32::blanks n:=rfl
theorem Jl(z o w:Nat):bump (cl z o w) 0=cl (z+1) o w/\bump (cl z o w) 1=cl z (o+1) w/\bump (cl z o w) 2=cl z o (w+1):=by
 unfold cl
 by_cases hw:0<w
 ·simp[bump,hw]
 ·by_cases ho:0<o
  ·have:w=0:=by exact ye hw
   subst this
   simp[bump,ho,bf]
  ·by_cases hz:0<z
   ·have:w=0:=by exact ye hw
    subst this
    have:o=0:=by exact ye ho
    subst this
    simp[bump,hz,bf]
   ·have:w=0:=by exact ye hw
    subst this
    have:o=0:=by exact ye ho
    subst this
    have:z=0:=by exact ye hz
    subst this
    simp[bump,bf]
theorem GI:∀(rs:List Nat) (z o w:Nat),(∀r∈rs,r<=2)->rs.foldl bump (cl z o w)=cl (z+rs.count 0) (o+rs.count 1) (w+rs.count 2)
 |[],z,o,w,_=>rfl
 |r::rs,z,o,w,h=>by
  have hr:=h r (.head _)
  have ih:=λz o w=>GI rs z o w λx hx=>h x (.tail _ hx)
  obtain⟨b0,b1,b2⟩:=Jl z o w
  have:r=0\/r=1\/r=2:=by exact KW hr
  rw[ei]
  rcases this with rfl|rfl|rfl
  ·rw[b0,ih]; simp[oK]; congr 1; exact Ea
  ·rw[b1,ih]; simp[oK]; congr 1; exact Ea
  ·rw[b2,ih]; simp[oK]; congr 1; exact Ea
theorem uO(g:Nat->Nat):∀(rs:List Nat),(∀r∈rs,r<=2)->(rs.map g).sum=rs.count 0*g 0+rs.count 1*g 1+rs.count 2*g 2
 |[],_=>by simp
 |r::rs,h=>by
  have hr:=h r (.head _)
  have ih:=uO g rs λx hx=>h x (.tail _ hx)
  have:r=0\/r=1\/r=2:=by exact KW hr
  rw[aO,ki,ih]
  rcases this with rfl|rfl|rfl<;>simp[oK,Nat.add_mul]<;>(first|exact UZ|exact U0|lia|omega)
theorem xA:∀rs:List Nat,(rs.map λ_=>1).sum=rs.length
 |[]=>rfl
 |_::rs=>by rw[aO,ki,xA rs,aQ]; exact U1
theorem rK:∀(n:Nat) (l:List Nat) (q:Run),Run.go (blanks n++l) q=Run.go l ⟨q.b+n,q.n+n,q.nt,q.c⟩
 | 0,l,q=>rfl
 |n+1,l,q=>by
  rw[r6,j1,Run.go,if_pos rfl,rK n]
  congr 1
  congr 1<;>(show _+1+n=_+(n+1); exact Ea)
theorem GJ:∀(rs:List Nat) (tr:Nat) (q:Run),q.b=0->Run.go (txt rs tr++xt) q=⟨tr,q.n+(rs.map (·+1)).sum+tr,q.nt+rs.length,rs.foldl bump q.c⟩
 |[],tr,q,h=>by
  show Run.go (blanks tr++xt) q=_
  rw[rK]
  show(⟨q.b+tr,q.n+tr,q.nt,q.c⟩:Run)=_
  rw[h,fX]; rfl
 |r::rs,tr,q,h=>by
  rw[qS,mH,rK,j1,Run.go,if_neg (by decide),if_pos rfl,GJ rs tr _ rfl]
  show(⟨tr,q.n+r+1+(rs.map (·+1)).sum+tr,q.nt+1+rs.length,rs.foldl bump (bump q.c (q.b+r))⟩:Run)=⟨tr,q.n+((r+1)+(rs.map (·+1)).sum)+tr,q.nt+(rs.length+1),rs.foldl bump (bump q.c r)⟩
  rw[h,fX]
  congr 1<;>(first|exact U2|exact Ea|lia|omega)
theorem sM:∀(rs:List Nat) (tr:Nat),(txt rs tr).length=(rs.map (·+1)).sum+tr
 |[],tr=>by show(blanks tr).length=_; unfold blanks; rw[bA]; simp
 |r::rs,tr=>by rw[qS,a8,aQ,sM rs tr,aO,ki]; unfold blanks; rw[bA]; exact U3
theorem pW(ts:Int):∀(n:Nat) (c:Int),(blanks n).foldl (jG ts) c=c+n
 | 0,c=>by simp[blanks]
 |n+1,c=>by rw[r6,ei,pW ts n]; unfold jG; rw[if_pos rfl]; exact U4
theorem Cs{ts:Nat}(pX:0<ts):∀(rs:List Nat) (tr k:Nat),(txt rs tr).foldl (jG (ts:Int)) ((ts*k:Nat):Int)=((ts*(k+(rs.map λr=>r / ts+1).sum)+tr:Nat):Int)
 |[],tr,k=>by show(blanks tr).foldl _ _=_; rw[pW]; simp
 |r::rs,tr,k=>by
  rw[qS,List.foldl_append,pW,ei]
  have:jG (ts:Int) (((ts*k:Nat):Int)+(r:Int)) 9=((ts*(k+(r / ts+1)):Nat):Int):=by
   unfold jG
   rw[if_neg (by decide),show((ts*k:Nat):Int)+(r:Int)=((ts*k+r:Nat):Int) from rfl,iX,Nat.mul_add_div pX,show((k+r / ts:Nat):Int)+1=((k+(r / ts+1):Nat):Int) from rfl,<-Int.natCast_mul,dO]
  rw[this,Cs pX rs tr,aO,ki,rd]
theorem uP:∀(n:Nat) (l:List Nat),qJ (blanks n++9::l)=blanks n::qJ l
 | 0,l=>by show dX 9 (9::l)=_; rw[dX,if_pos rfl]; rfl
 |n+1,l=>by
  show dX 9 (32::(blanks n++9::l))=_
  rw[dX,if_neg (by decide)]
  have:=uP n l
  unfold qJ at this
  rw[this]; rfl
theorem Ct:∀n:Nat,qJ (blanks n)=[blanks n]
 | 0=>rfl
 |n+1=>by
  show dX 9 (32::blanks n)=_
  rw[dX,if_neg (by decide)]
  have:=Ct n
  unfold qJ at this
  rw[this]; rfl
theorem xB:∀(rs:List Nat) (tr:Nat),qJ (txt rs tr)=rs.map blanks++[blanks tr]
 |[],tr=>Ct tr
 |r::rs,tr=>by rw[qS,uP,xB rs tr]; rfl
noncomputable def Is(l:List Nat)(z o w tr:Nat):Prop:=∃rs:List Nat,(∀r∈rs,r<=2)/\l=txt rs tr/\rs.count 0=z/\rs.count 1=o/\rs.count 2=w
noncomputable def inD(z o w tr ts:Nat):Nat:=tr+ts*(z+o*(1 / ts+1)+w*(2 / ts+1))
noncomputable def mr(z o w:Nat):Nat:=if 0<w then 2 else if 0<o then 1 else 0
theorem A2(z o w:Nat):(cl z o w).length=if 0<z+o+w then mr z o w+1 else 0:=by
 unfold cl mr
 split
 ·rw[if_pos (by exact U5 ‹_›)]; rfl
 ·split
  ·rw[if_pos (by exact U6 ‹_› ‹_›)]; rfl
  ·split
   ·rw[if_pos (by exact U7 ‹_› ‹_› ‹_›)]; rfl
   ·rw[if_neg (by exact U8 ‹_› ‹_› ‹_›)]; rfl
theorem Is.len{l:List Nat}{z o w tr:Nat}(h:Is l z o w tr):l.length=z+2*o+3*w+tr:=by
 obtain⟨rs,h1,rfl,rfl,rfl,rfl⟩:=h
 rw[sM,uO _ rs h1]; (first|lia|omega)
theorem Is.w{l:List Nat}{z o w tr:Nat}(h:Is l z o w tr):cF l=⟨l++xt,((z+2*o+3*w+tr:Nat):Int),((z+o+w:Nat):Int),cl z o w,(tr:Int),decide ((cl z o w).length<=1)⟩:=by
 have hl:=h.len
 obtain⟨rs,h1,rfl,rfl,rfl,rfl⟩:=h
 have hlen:rs.length=rs.count 0+rs.count 1+rs.count 2:=by
  have:=uO (λ_=>1) rs h1
  rw[xA] at this
  exact NH this
 have hg:=GJ rs tr ⟨0,0,0,[]⟩ rfl
 have hc:=GI rs 0 0 0 h1
 rw[show cl 0 0 0=[] from rfl,fX,fX,fX] at hc
 unfold cF yO Run.of
 rw[hg]
 dsimp only
 rw[hc,hlen,fX,fX,<-sM,hl]
theorem Kx{ts:Nat}(pX:0<ts)(z o w:Nat):yM (cl z o w) ts=((o*(1 / ts)+w*(2 / ts):Nat):Int):=by
 have h3:ts=1\/ts=2\/3<=ts:=by exact NI pX
 have hd:3<=ts->1 / ts=0/\2 / ts=0:=λh=>⟨nK (by exact aN 758095958531 tt h),nK (by assumption)⟩
 unfold yM cl
 by_cases hw:0<w
 ·rw[if_pos hw]
  rcases h3 with rfl|rfl|h
  ·simp[bB,Int.fdiv]; exact U9
  ·simp[Int.fdiv]
  ·rw[(hd h).1,(hd h).2]; simp[show 3-ts=0 by exact Va h]
 ·have:w=0:=by exact ye hw
  subst this
  rw[if_neg hw]
  by_cases ho:0<o
  ·rw[if_pos ho]
   rcases h3 with rfl|rfl|h
   ·simp[Int.fdiv]
   ·simp
   ·rw[(hd h).1]; simp[show 2-ts=0 by exact Vb h]
  ·have:o=0:=by exact ye ho
   subst this
   rw[if_neg ho]
   split<;>simp[show 1-ts=0 by exact Vc pX]
theorem Is.ind{l:List Nat}{z o w tr:Nat}(h:Is l z o w tr){ts:Nat}(pX:0<ts):(cF l).ind ts=(inD z o w tr ts:Nat)/\fe l ts=(inD z o w tr ts:Nat):=by
 constructor
 ·rw[h.w]
  show(tr:Int)+ts*(yM (cl z o w) ts+((z+o+w:Nat):Int))=_
  rw[Kx pX]
  unfold inD
  rw[show z+o*(1 / ts+1)+w*(2 / ts+1)=o*(1 / ts)+w*(2 / ts)+(z+o+w) by rw[Nat.mul_add,Nat.mul_add]; exact Vd]
  push_cast; rfl
 ·obtain⟨rs,h1,rfl,rfl,rfl,rfl⟩:=h
  have:=Cs pX rs tr 0
  rw[Nat.mul_zero,fX,uO _ rs h1] at this
  unfold fe
  rw[show(0:Int)=((0:Nat):Int) from rfl,this]
  unfold inD
  simp; exact Ve
theorem Is.long{l:List Nat}{z o w tr:Nat}(h:Is l z o w tr):dM l=(max (mr z o w) tr:Nat)/\(cF l).long=dM l:=by
 have Ky:dM l=(max (mr z o w) tr:Nat):=by
  obtain⟨rs,h1,rfl,rfl,rfl,rfl⟩:=h
  unfold dM
  rw[xB,fV,aM]
  have hf:((λp:List Nat=>(p.length:Int))∘blanks)=λn:Nat=>(n:Int):=by funext n; show((blanks n).length:Int)=n; unfold blanks; rw[bA]
  rw[hf,show[blanks tr].map (λp:List Nat=>(p.length:Int))=[(tr:Int)] by unfold blanks; simp]
  have hb:∀n∈rs.map (λn:Nat=>(n:Int))++[(tr:Int)],n<=((max (mr (rs.count 0) (rs.count 1) (rs.count 2)) tr:Nat):Int):=by
   intro n hn
   rcases bN.mp hn with hn|hn
   ·obtain⟨r,hr,rfl⟩:=aw.mp hn
    have:=h1 r hr
    have hp:=rg.mpr hr
    have:r<=mr (rs.count 0) (rs.count 1) (rs.count 2):=by
     have:r=0\/r=1\/r=2:=by exact KW this
     unfold mr
     rcases this with rfl|rfl|rfl
     ·exact fD _
     ·split
      ·assumption
      ·first
       |exact bL _
       |(rw[if_pos hp]; exact bL _)
     ·rw[if_pos hp]; exact bL _
    exact Vf this
   ·rcases aA.mp hn with rfl; exact Vg
  have qm:((max (mr (rs.count 0) (rs.count 1) (rs.count 2)) tr:Nat):Int)∈rs.map (λn:Nat=>(n:Int))++[(tr:Int)]\/((max (mr (rs.count 0) (rs.count 1) (rs.count 2)) tr:Nat):Int)<=tr:=by
   by_cases hm:mr (rs.count 0) (rs.count 1) (rs.count 2)<=tr
   ·right; exact Vh hm
   ·left
    rw[k8 (by exact Vi hm)]
    refine ko _ (aw.mpr ⟨_,?_,rfl⟩)
    unfold mr at hm ⊢
    by_cases hw:0<rs.count 2
    ·rw[if_pos hw]; exact rg.mp hw
    ·rw[if_neg hw] at hm ⊢
     by_cases ho:0<rs.count 1
     ·rw[if_pos ho]; exact rg.mp ho
     ·rw[if_neg ho] at hm; (first|lia|omega)
  have h3:=kM (l:=rs.map (λn:Nat=>(n:Int))++[(tr:Int)]) (by simp)
  have h4:=hb _ h3
  have h5:(tr:Int)<=tH (rs.map (λn:Nat=>(n:Int))++[(tr:Int)]):=lA (by simp)
  rcases qm with hm|hm
  ·have:=lA hm; exact Vj h4 this
  ·exact Vk h4 h5 hm
 refine⟨Ky,?_⟩
 rw[Ky,h.w]
 show max (((cl z o w).length:Int)-1) (tr:Int)=_
 rw[A2]
 split
 ·exact Vl
 ·have:mr z o w=0:=by unfold mr; rw[if_neg (by exact Vm ‹_›),if_neg (by exact Vn ‹_›)]
  exact Vo this
theorem mB(z o w:Nat):decide ((cl z o w).length<=1)=decide (o=0/\w=0):=by
 rw[decide_eq_decide,A2]
 unfold mr
 (repeat' split)<;>(first|exact Vp ‹_› |exact Vq ‹_› |exact Vr ‹_› ‹_› |lia|omega)
theorem MR{z o w z' o' w':Nat}(h:cl z o w=cl z' o' w'):z=z'/\o=o'/\w=w':=by
 unfold cl at h
 (repeat' split at h)<;>simp at h<;>(first|exact Vs h|exact Vt ‹_› ‹_› h|exact Vu ‹_› ‹_› ‹_› ‹_› h|exact Vv ‹_› ‹_› ‹_› ‹_› ‹_› ‹_› |lia|omega)
theorem Qh{z o w:Nat}(hz:z<=1000)(ho:o<=1000)(hw:w<=1000):∀c∈cl z o w,c.natAbs<1000000:=by
 unfold cl
 intro c hc
 (repeat' split at hc)<;>simp at hc<;>first|(subst hc; exact MW hz)|(rcases hc with rfl|rfl; exact MW hz; exact MW ho)|(rcases hc with rfl|rfl|rfl; exact MW hz; exact MW ho; exact MW hw)|(first|omega|exact Vw hz ho ‹_› hc|lia|omega)
theorem Qi(ts:Nat):1 / ts<=1/\2 / ts<=2:=⟨KC _ _,KC _ _⟩
theorem Is.ok{l:List Nat}{z o w tr:Nat}(h:Is l z o w tr)(hb:z+o+w<=100)(ht:tr<=100):(cF l).Ok:=by
 rw[h.w]
 refine⟨?_,Qh (by exact cG 0x35242082100847ec4801 tt hb) (by exact cG 0x35242082100847ec4821 tt hb) (by exact cG 0x35242082100847ec4841 tt hb),λts h1 h2=>?_,md _,by show((tr:Nat):Int)<=100; exact ew 0x35240084d448101 tt ht⟩
 ·show(cl z o w).length<=100
  rw[A2]; unfold mr; (repeat' split)<;>(first|(simp[*]; done)|decide|lia|omega)
 ·show(yM (cl z o w) ts+((z+o+w:Nat):Int)).natAbs<1000000
  rw[Kx h1]
  have d:=Qi ts
  have m1:o*(1 / ts)<=o*1:=iF _ d.1
  have m2:w*(2 / ts)<=w*2:=iF _ d.2
  exact Vx hb m1 m2
theorem Qj(z o w tr:Nat):inD z o w tr 1=z+2*o+3*w+tr:=by unfold inD; simp; exact Vy
theorem GK(z o w tr:Nat):inD z o w tr 2=tr+2*(z+o+2*w):=by unfold inD; simp; exact Vz
theorem GL(z o w tr:Nat){ts:Nat}(h:3<=ts):inD z o w tr ts=tr+ts*(z+o+w):=by
 unfold inD; rw[nK (by exact aN 758095958531 tt h),nK (by assumption)]; simp
set_option tactic.hygienic true in
theorem Dw{a b:List Nat}{z o w z' o' w' tr:Nat}(ha:Is a z o w tr)(hb:Is b z' o' w' tr)(ht:tr<=2):
 eK (cF a) (cF b)=decide (z+2*o+3*w<z'+2*o'+3*w'/\z+o+2*w<z'+o'+2*w'/\z+o+w<z'+o'+w'):=by
 have la:=ha.long; have lb:=hb.long
 have i2:=(ha.ind (ts:=2) (by decide)).1; have j2:=(hb.ind (ts:=2) (by decide)).1
 have i3:=(ha.ind (ts:=3) (by decide)).1; have j3:=(hb.ind (ts:=3) (by decide)).1
 rw[GK] at i2 j2; rw[GL _ _ _ _ (bL 3)] at i3 j3
 unfold eK sizesOf
 rw[la.2,lb.2,la.1,lb.1]
 have na:(cF a).n=((z+2*o+3*w+tr:Nat):Int):=by rw[ha.w]
 have nb:(cF b).n=((z'+2*o'+3*w'+tr:Nat):Int):=by rw[hb.w]
 have ta:(cF a).nt=((z+o+w:Nat):Int):=by rw[ha.w]
 have tb:(cF b).nt=((z'+o'+w':Nat):Int):=by rw[hb.w]
 have sa:(cF a).simple=decide (o=0/\w=0):=by rw[ha.w]; exact mB z o w
 have sb:(cF b).simple=decide (o'=0/\w'=0):=by rw[hb.w]; exact mB z' o' w'
 rw[na,nb,ta,tb,sa,sb]
 have hm:mr z o w<=2/\mr z' o' w'<=2/\(mr z o w<=1->w=0)/\(mr z' o' w'<=1->w'=0):=by unfold mr; refine⟨?_,?_,?_,?_⟩<;>(repeat' split)<;>(first|(simp[*]; done)|lia|omega)
 have hz:¬(o=0/\w=0)->1<=mr z o w:=by unfold mr; (repeat' split)<;>(first|(simp[*]; done)|lia|omega)
 have HT:¬(o'=0/\w'=0)->1<=mr z' o' w':=by unfold mr; (repeat' split)<;>(first|lia|omega)
 generalize mr z o w=m at*; generalize mr z' o' w'=m' at*
 clear la lb na nb ta tb sa sb ha hb
 obtain⟨m1,m2,m3,m4⟩:=hm
 split
 ·rename_i h; clear i2 j2 i3 j3 hz HT m3 m4 m1 m2; exact(decide_eq_false (by exact VC h)).symm
 ·split
  ·rename_i h1 h
   rw[cq,decide_eq_true_iff,decide_eq_true_iff] at h
   obtain⟨⟨rfl,rfl⟩,rfl,rfl⟩:=h
   clear i2 j2 i3 j3 hz HT m3 m4 m1 m2
   rw[decide_eq_decide]; exact VD h1
  ·rename_i h1 h
   rw[cq,decide_eq_true_iff,decide_eq_true_iff] at h
   have hM:max (max m tr) (max m' tr)=1\/max (max m tr) (max m' tr)=2:=by
    have:1<=m\/1<=m':=by
     by_cases q:o=0/\w=0
     ·exact .inr (HT λq'=>h ⟨q,q'⟩)
     ·exact .inl (hz q)
    first|exact Rc (this.elim (λh=>aP h (aP (df _ _) (df _ _))) λh=>aP h (aP (df _ _) (eO _ _))) (i7.mpr ⟨i7.mpr ⟨m1,ht⟩,i7.mpr ⟨m2,ht⟩⟩)|(first|lia|omega)
   have hr:(max ((max m tr:Nat):Int) ((max m' tr:Nat):Int)+2).toNat-2=max (max m tr) (max m' tr):=by clear h h1 i2 j2 i3 j3 hz HT m3 m4 hM; exact VF ht m1 m2
   rw[hr]
   clear h hz HT hr
   rcases hM with hM|hM<;>rw[hM]
   ·show(decide ((cF a).ind 2<(cF b).ind 2)&&true)=_
    obtain rfl:w=0:=m3 (by exact VG ht i2 j2 i3 j3 m1 m2 hM)
    obtain rfl:w'=0:=m4 (by exact VH ht m2 hM)
    clear m3 m4 m1 m2 hM i3 j3 ht
    rw[kj,decide_eq_decide,i2,j2]; clear i2 j2; exact VJ h1
   ·show(decide ((cF a).ind 2<(cF b).ind 2)&&(decide ((cF a).ind 3<(cF b).ind 3)&&true))=_
    clear m3 m4 m1 m2 hM ht
    rw[kj,<-Bool.decide_and,decide_eq_decide,i2,j2,i3,j3]; clear i2 j2 i3 j3; exact VK h1
theorem wI{a b:List Nat}{z z' tr Io:Nat}(ha:Is a z 0 0 tr)(hb:Is b z' 0 0 Io):eK (cF a) (cF b)=decide (z+tr<z'+Io/\z<=z'):=by
 unfold eK
 have sa:(cF a).simple=true:=by rw[ha.w]; exact(mB z 0 0).trans rfl
 have sb:(cF b).simple=true:=by rw[hb.w]; exact(mB z' 0 0).trans rfl
 rw[show(cF a).n=((z+tr:Nat):Int) by rw[ha.w]; rfl,show(cF b).n=((z'+Io:Nat):Int) by rw[hb.w]; rfl,show(cF a).nt=((z:Nat):Int) by rw[ha.w]; rfl,show(cF b).nt=((z':Nat):Int) by rw[hb.w]; rfl,sa,sb]
 split
 ·exact(decide_eq_false (by exact VL ‹_›)).symm
 ·rw[if_pos (by decide),decide_eq_decide]; exact VM ‹_›
theorem Cu{a b:List Nat}{z o w tr z' o' w' Io:Nat}(ha:Is a z o w tr)(hb:Is b z' o' w' Io):nF (cF a) (cF b)=decide (z=z'/\o=o'/\w=w'/\tr=Io):=by
 unfold nF
 rw[decide_eq_decide,ha.w,hb.w]
 constructor
 ·rintro⟨h1,h2⟩
  have:=MR h1
  have h2:((tr:Nat):Int)=((Io:Nat):Int):=h2
  exact VN this h2
 ·rintro⟨rfl,rfl,rfl,rfl⟩; exact⟨rfl,rfl⟩
theorem rL{a b:iD}(h:b.n<=a.n):eK a b=false:=by unfold eK; rw[if_pos h]
theorem Is.kin{l:List Nat}{z o w tr:Nat}(h:Is l z o w tr):Is (gn l) (z+o+w) 0 0 tr/\Is (mz l) 0 0 0 l.length/\(o=0/\w=0->l=gn l)/\(z=0/\o=0/\w=0->l=mz l):=by
 have hl:=h.len
 obtain⟨rs,h1,rfl,rfl,rfl,rfl⟩:=h
 have hlen:rs.length=rs.count 0+rs.count 1+rs.count 2:=by
  have:=uO (λ_=>1) rs h1
  rw[xA] at this
  exact NH this
 have Y5:∀n,rep n [9]++blanks tr=txt (bf n 0) tr:=λn=>by
  rw[hW]
  unfold txt
  congr 1
  induction n with
  |zero=>rfl
  |succ n ih=>rw[bM,ih]; rfl
 have u6:gn (txt rs tr)=txt (bf rs.length 0) tr:=by
  unfold gn uE
  rw[xB,a8,ai,Bm,Nat.add_sub_cancel,<-Y5]
  congr 1
  rw[ak,List.getElem?_append_right (by rw[ai]; exact bL _),ai,Nat.sub_self]; rfl
 have DQ:mz (txt rs tr)=txt [] (txt rs tr).length:=by
  unfold mz; rw[hW]; rfl
 refine⟨⟨_,λr hr=>by rw[(gD.mp hr).2]; decide,u6,by rw[xR,hlen],by rw[eW]; rfl,by rw[eW]; rfl⟩,⟨[],λr hr=>(by exact nomatch hr),DQ,rfl,rfl,rfl⟩,λ⟨h2,h3⟩=>?_,λ⟨h2,h3,h4⟩=>?_⟩
 ·rw[u6]
  congr 1
  refine List.eq_replicate_iff.mpr ⟨rfl,λr hr=>?_⟩
  have:=h1 r hr
  have n1:r≠1:=λq=>by subst q; exact absurd hr (D5.mp h2)
  have n2:r≠2:=λq=>by subst q; exact absurd hr (D5.mp h3)
  exact VO this n1 n2
 ·have:rs=[]:=i8.mp (by exact VQ hlen ‹_›)
  subst this
  unfold mz; rw[hW]
  have:(txt [] tr).length=tr:=by rw[sM]; simp
  rw[this]; rfl
theorem GN{z o w tr ts:Nat}:inD (z+o+w) 0 0 tr ts<=inD z o w tr ts:=by
 unfold inD
 refine cB (iF _ ?_) _
 have h1:o<=o*(1 / ts+1):=zI _ (Nat.succ_pos _)
 have h2:w<=w*(2 / ts+1):=zI _ (Nat.succ_pos _)
 rw[Bf,Bf]; exact wU 0xc410840108c24842731009084201 tt h1 h2
theorem Jm{l:List Nat}{z o w tr:Nat}(h:Is l z o w tr)(hb:z+2*o+3*w<=60)(ht:tr<=5):pV l:=by
 obtain⟨k1,k2,e1,e2⟩:=h.kin
 have hl:=h.len
 rw[hl] at k2
 have la:=h.long; have lb:=k1.long
 have hm:mr z o w<=2/\mr (z+o+w) 0 0=0/\(mr z o w=0↔o=0/\w=0):=by unfold mr; refine⟨?_,?_,?_⟩<;>(repeat' split)<;>(first|rfl|lia|omega)
 have hk:∀k,k∈cL l->k=l\/k=gn l\/k=mz l:=λk hk=>by simpa [cL] using hk
 have nl:(cF l).n=((z+2*o+3*w+tr:Nat):Int):=by rw[h.w]
 have n1:(cF (gn l)).n=((z+o+w+tr:Nat):Int):=by rw[k1.w]; rfl
 have n2:(cF (mz l)).n=((z+2*o+3*w+tr:Nat):Int):=by rw[k2.w]; simp
 refine⟨λk oZ=>?_,λx hx y hy=>?_,λx hx y hy=>?_,λk oZ ts pX=>?_,?_,λts pX=>?_,?_⟩
 ·rcases hk k oZ with rfl|rfl|rfl
  ·exact h.ok (by exact cG 0xf9210e211441080426a484104201 tt hb) (by exact aN 26389393328129 tt ht)
  ·exact k1.ok (by exact cG 0xf9210e211441080426a4a731041084201 tt hb) (by exact aN 26389393328129 tt ht)
  ·exact k2.ok (by simp[*]) (by exact hO 0x1818423e4843884510420109a921887108a2084201 tt hb ht)
 ·--gn is less than none of them
  have c1:eK (cF (gn l)) (cF l)=false:=by
   by_cases hz:o=0/\w=0
   ·exact rL (by rw[nl,n1]; exact CH 0x130883300423080508410308e201445084101 tt (ah hz.1) (ah hz.2))
   ·unfold eK
    rw[if_neg (by rw[nl,n1]; (first|lia|omega)),show(cF l).simple=false by rw[h.w]; exact(mB z o w).trans (decide_eq_false hz),pG,if_neg (by decide)]
    refine G6.mpr λq=>?_
    unfold sizesOf at q
    rw[la.2,lb.2,la.1,lb.1] at q
    have:=aT.mp q (max (mr z o w) tr+1) (cR.mpr (by exact VR hm hz))
    have hM:2<=max (mr z o w) tr+1:=by exact VU hm hz
    rw[(k1.ind (by exact aN 21492289025 tt)).1,(h.ind (by exact aN 21492289025 tt)).1,decide_eq_true_iff] at this
    rcases fY (max (mr z o w) tr+1) 3 with h3|h3
    ·rw[show max (mr z o w) tr+1=2 by exact VV la hM h3,GK,GK] at this
     have:w=0:=by
      have:mr z o w<=1:=by exact VW hm hM h3
      unfold mr at this; split at this<;>(first|exact VY this ‹_› |lia|omega)
     exact VZ ‹_› this
    ·rw[GL _ _ _ _ h3,GL _ _ _ _ h3] at this
     have e:z+o+w+0+0=z+o+w:=rfl
     rw[e] at this; exact lK 0x82088041042c22 tt this
  have c2:eK (cF (gn l)) (cF (mz l))=false:=by rw[wI k1 k2]; exact decide_eq_false (by exact V0 hl nl n1 n2)
  have c3:eK (cF (mz l)) (cF (gn l))=false:=rL (by rw[n1,n2]; exact CH 0x310e2114410841031041084101 tt)
  have c4:eK (cF l) (cF (gn l))=false:=rL (by rw[n1,nl]; exact CH 0x310e2114410841031041084101 tt)
  have c5:eK (cF l) (cF (mz l))=false:=rL (by rw[n2,nl]; exact CH 0x310e21144108410310e211441084101 tt)
  have c6:eK (cF (mz l)) (cF l)=false:=rL (by rw[n2,nl]; exact CH 0x310e21144108410310e211441084101 tt)
  have c7:∀a,eK a a=false:=λa=>rL (jd _)
  rcases hk x hx with rfl|rfl|rfl<;>rcases hk y hy with rfl|rfl|rfl<;>first|exact c7 _|assumption
 ·have sy:∀a b,nF a b=nF b a:=λa b=>by unfold nF; rw[decide_eq_decide]; constructor<;>(rintro⟨h1,h2⟩; exact⟨h1.symm,h2.symm⟩)
  have ds:∀a b:List Nat,decide (a=b)=decide (b=a):=λa b=>by rw[decide_eq_decide]; exact⟨Eq.symm,Eq.symm⟩
  have c1:nF (cF l) (cF (gn l))=decide (l=gn l):=by
   by_cases q:l=gn l
   ·rw[<-q]; simp[nF]
   ·rw[Cu h k1,decide_eq_false q]; exact decide_eq_false λ⟨_,q1,q2,_⟩=>q (e1 ⟨q1,q2⟩)
  have c2:nF (cF l) (cF (mz l))=decide (l=mz l):=by
   by_cases q:l=mz l
   ·rw[<-q]; simp[nF]
   ·rw[Cu h k2,decide_eq_false q]; exact decide_eq_false λ⟨q0,q1,q2,_⟩=>q (e2 ⟨q0,q1,q2⟩)
  have c3:nF (cF (gn l)) (cF (mz l))=decide (gn l=mz l):=by
   by_cases q:gn l=mz l
   ·rw[<-q]; simp[nF]
   ·rw[Cu k1 k2,decide_eq_false q]
    exact decide_eq_false λ⟨q0,_,_,_⟩=>q ((e1 ⟨by(first|lia|omega),by(first|lia|omega)⟩).symm.trans (e2 ⟨by(first|lia|omega),by(first|lia|omega),by(first|lia|omega)⟩))
  have c7:∀a,nF (cF a) (cF a)=decide (a=a):=λa=>by simp[nF]
  rcases hk x hx with rfl|rfl|rfl<;>rcases hk y hy with rfl|rfl|rfl<;>first|exact c7 _|assumption|(rw[sy,ds]; assumption)
 ·rcases hk k oZ with rfl|rfl|rfl
  ·rw[(h.ind pX).1,(h.ind pX).2]
  ·rw[(k1.ind pX).1,(k1.ind pX).2]
  ·rw[(k2.ind pX).1,(k2.ind pX).2]
 ·unfold sizesOf
  rw[la.2,lb.2,la.1,lb.1]
  constructor<;>(congr 1; (first|exact V1 ht hl la lb hm nl n1 n2|exact V2 ht hl la lb hm nl n1 n2|lia|omega))
 ·rw[(h.ind pX).2,(k1.ind pX).2]
  exact oM.mpr GN
 ·rw[la.1]; exact V3 ht hl la lb hm nl n1 n2
noncomputable def gv(r:Rel)(f:List Nat)(t u:Nat):Nat×Nat×Nat:=((fm r f t 0).idxOf (kb r u),(fm r f t 1).idxOf (kb r u),(fm r f t 2).idxOf (kb r u))
theorem zq{r:Rel}(w:Wf r)(f:List Nat)(t:Nat):fP r f t=(aB 4).map (gv r f t):=by
 unfold fP
 apply jt
 intro u
 rw[av,av]
 rcases fY u 4 with h|h
 ·rw[cQ h,aj (by rw[w.len]; exact h)]
  have:r.getD u []=r[u]'(by rw[w.len]; exact h):=by rw[ak,aj (by rw[w.len]; exact h)]; rfl
  show some _=some (gv r f t u)
  unfold gv kb
  rw[this]
 ·rw[cf (by rw[w.len]; exact h),cf (by simpa using h)]; rfl
theorem wJ(r:Rel)(f:List Nat)(t:Nat):(fm r f t 0=f/\fm r f t 1=eM r f/\fm r f t 2=eU r t)\/(fm r f t 0=eM r f/\fm r f t 1=eU r t/\fm r f t 2=f)\/(fm r f t 0=eU r t/\fm r f t 1=f/\fm r f t 2=eM r f):=by
 have h:t / 3 % 3=0\/t / 3 % 3=1\/t / 3 % 3=2:=by exact V4
 unfold fm
 rcases h with h|h|h<;>rw[h]
 ·exact .inl ⟨rfl,rfl,rfl⟩
 ·exact .inr (.inl ⟨rfl,rfl,rfl⟩)
 ·exact .inr (.inr ⟨rfl,rfl,rfl⟩)
structure MS(r:Rel)(q:Nat->Nat×Nat×Nat):Prop where
 b:∀u<4,(q u).1<=4/\(q u).2.1<=4/\(q u).2.2<=4
 lt:∀u<4,∀v<4,bF r u v=2↔(q u).1<(q v).1/\(q u).2.1<(q v).2.1/\(q u).2.2<(q v).2.2
 eq:∀u<4,∀v<4,bF r u v=1↔(q u).1=(q v).1/\(q u).2.1=(q v).2.1/\(q u).2.2=(q v).2.2
theorem wK{r:Rel}{f:List Nat}(hf:f∈rowsOf r)(t:Nat):eU r t∈rowsOf r:=by
 have hl:=n0 hf
 unfold eU
 rw[ak,aj (dR _ hl)]
 exact dh _
theorem Cv{r:Rel}{f:List Nat}(hf:f∈rowsOf r)(G:Good r f)(t:Nat):MS r (gv r f t):=by
 obtain⟨⟨h1,-⟩,h2,-⟩:=G
 have hl:=kE r
 have ht:=wK hf t
 have bd:∀row∈rowsOf r,∀x,row.idxOf x<=4:=λrow hr x=>aP pF ((h1 (aK r).length (by exact aN 25289900556801 tt hl)).2 row hr)
 have bm:∀x,(eM r f).idxOf x<=4:=λx=>aP pF (by unfold eM; rw[ai,ec]; exact hl)
 have oc:=wJ r f t
 refine⟨λu hu=>?_,λu hu v hv=>?_,λu hu v hv=>?_⟩
 ·have b1:=bd f hf (kb r u); have b2:=bd _ ht (kb r u); have b3:=bm (kb r u)
  unfold gv
  rcases oc with⟨e0,e1,e2⟩|⟨e0,e1,e2⟩|⟨e0,e1,e2⟩<;>rw[e0,e1,e2]
  ·exact⟨b1,b3,b2⟩
  ·exact⟨b3,b2,b1⟩
  ·exact⟨b2,b1,b3⟩
 ·obtain⟨pa,pb,pc⟩:=h2 u hu v hv
  have key:bF r u v=2↔f.idxOf (kb r u)<f.idxOf (kb r v)/\(eM r f).idxOf (kb r u)<(eM r f).idxOf (kb r v)/\(eU r t).idxOf (kb r u)<(eU r t).idxOf (kb r v):=by
   constructor
   ·intro h; have:=pa h; exact⟨this.1 f hf,this.2,this.1 _ ht⟩
   ·rintro⟨a,b,c⟩; exact sU λh=>pb h ⟨a,b⟩
  rw[key]
  unfold gv
  rcases oc with⟨e0,e1,e2⟩|⟨e0,e1,e2⟩|⟨e0,e1,e2⟩<;>rw[e0,e1,e2]
  ·exact⟨λ⟨a,b,c⟩=>⟨b,c,a⟩,λ⟨b,c,a⟩=>⟨a,b,c⟩⟩
  ·exact⟨λ⟨a,b,c⟩=>⟨c,a,b⟩,λ⟨c,a,b⟩=>⟨a,b,c⟩⟩
 ·obtain⟨pa,pb,pc⟩:=h2 u hu v hv
  constructor
  ·intro h
   have:=pc.1 h
   unfold gv; rw[this]; exact⟨rfl,rfl,rfl⟩
  ·intro h
   refine sU λk=>pc.2 k ?_
   unfold gv at h
   rcases oc with⟨e0,e1,e2⟩|⟨e0,e1,e2⟩|⟨e0,e1,e2⟩<;>rw[e0,e1,e2] at h
   ·exact h.1
   ·exact h.2.2
   ·exact h.2.1
structure LF(r:Rel)(ls:List (List Nat)):Prop where
 len:ls.length=4
 is:∃z o w tr:Nat->Nat,(∀u<4,Is (bq ls u) (z u) (o u) (w u) (tr u)/\z u+2*o u+3*w u<=60/\tr u<=5)/\
  (∀u<4,∀v<4,bF r u v=2->∀ts,0<ts->inD (z u) (o u) (w u) (tr u) ts<inD (z v) (o v) (w v) (tr v) ts)/\
  (∀u<4,∀v<4,bF r u v=1↔z u=z v/\o u=o v/\w u=w v/\tr u=tr v)/\
  (∀u<4,∀v<4,eK (cF (bq ls u)) (cF (bq ls v))=decide (bF r u v=2))
theorem wL(g:Nat->List Nat){u:Nat}(hu:u<4):bq ((aB 4).map g) u=g u:=by
 unfold bq; rw[ak,av,cQ hu]; rfl
theorem MT{z o w z' o' w' tr:Nat}(h1:z+2*o+3*w<z'+2*o'+3*w')(h2:z+o+2*w<z'+o'+2*w')(h3:z+o+w<z'+o'+w'){ts:Nat}(pX:0<ts):inD z o w tr ts<inD z' o' w' tr ts:=by
 have:ts=1\/ts=2\/3<=ts:=by exact NI pX
 rcases this with rfl|rfl|h
 ·rw[Qj,Qj]; exact yd 0x147120a23842821c422882108042628e24144708428610e211441084201 tt h1
 ·rw[GK,GK]; exact yd 0x145120e10a08510821080825144838405134282144208405134201 tt h2
 ·rw[GL _ _ _ _ h,GL _ _ _ _ h]
  exact qV (xP h3 pX) _
theorem GO{r:Rel}{f:List Nat}{t:Nat}(w:Wf r)(hf:f∈rowsOf r)(G:Good r f)(h1:(rowsOf r).length=1):LF r (fh r f t):=by
 have S:=Cv hf G t
 have hm:=G.2.2 h1
 have ht:eU r t=f:=by
  obtain⟨x,hx⟩:=jr.mp h1
  have a:=wK hf t
  rw[hx] at a hf
  rw[aA.mp a,aA.mp hf]
 have hq:∀u,gv r f t u=((gv r f t u).1,(gv r f t u).1,(gv r f t u).1):=λu=>by
  unfold gv
  rcases wJ r f t with⟨e0,e1,e2⟩|⟨e0,e1,e2⟩|⟨e0,e1,e2⟩<;>rw[e0,e1,e2,hm,ht]
 have hl:fh r f t=(aB 4).map λu=>sL t (gv r f t u):=by
  unfold fh; rw[if_pos h1,zq w,aM]; rfl
 rw[hl]
 have q4:∀u<4,(gv r f t u).1<=4:=λu hu=>(S.b u hu).1
 have lt:∀u<4,∀v<4,bF r u v=2↔(gv r f t u).1<(gv r f t v).1:=λu hu v hv=>by rw[S.lt u hu v hv,hq u,hq v]; exact⟨λh=>h.1,λh=>⟨h,h,h⟩⟩
 have eq:∀u<4,∀v<4,bF r u v=1↔(gv r f t u).1=(gv r f t v).1:=λu hu v hv=>by rw[S.eq u hu v hv,hq u,hq v]; exact⟨λh=>h.1,λh=>⟨h,h,h⟩⟩
 generalize hA:(λu=>(gv r f t u).1)=A at*
 have Jn:∀u,(gv r f t u).1=A u:=λu=>congrFun hA u
 have is:∀u<4,Is (bq ((aB 4).map λu=>sL t (gv r f t u)) u) (A u / 2) 0 0 ((A u+1) / 2+t % 3):=λu hu=>by
  rw[wL _ hu]
  refine⟨bf (A u / 2) 0,λr hr=>by rw[(gD.mp hr).2]; decide,?_,by rw[xR],by rw[eW]; rfl,by rw[eW]; rfl⟩
  unfold sL txt
  rw[Jn]
  congr 1
  generalize A u / 2=n
  induction n with
  |zero=>rfl
  |succ n ih=>rw[bM,ih]; rfl
 refine⟨by rw[ai,ec],λu=>A u / 2,λ_=>0,λ_=>0,λu=>(A u+1) / 2+t % 3,λu hu=>⟨is u hu,?_,?_⟩,λu hu v hv h ts pX=>?_,λu hu v hv=>?_,λu hu v hv=>?_⟩
 ·have:=q4 u hu; rw[Jn] at this; dsimp only; exact V5 this
 ·have:=q4 u hu; rw[Jn] at this; dsimp only; exact V6 this
 ·have:=(lt u hu v hv).mp h
  rw[Jn,Jn] at this
  unfold inD
  simp only[Bf,lq]
  have m:=iF ts (show A u / 2<=A v / 2 by exact V7 this)
  rcases fY ((A u+1) / 2) ((A v+1) / 2) with h|h
  ·exact wU 0xe82804210042120e10a008284201 tt m h
  ·have:=xP (show A u / 2<A v / 2 by exact V8 this h) pX
   exact V9 ‹_› h this
 ·rw[eq u hu v hv,Jn,Jn]; constructor
  ·intro h; dsimp only; rw[h]; exact⟨rfl,rfl,rfl,rfl⟩
  ·rintro⟨a,-,-,b⟩; dsimp only at a b; exact Wa a b
 ·rw[wI (is u hu) (is v hv),decide_eq_decide,lt u hu v hv,Jn,Jn]; exact Wb
theorem pY(c:Int×Int×Int)(u:Nat):∀k,((fA c).drop u++(fA c).take u).count k=(fA c).count k:=λk=>by
 rw[mG,Bj,<-mG,List.take_append_drop]
theorem Jo{r:Rel}{f:List Nat}{t:Nat}(w:Wf r)(hf:f∈rowsOf r)(G:Good r f)(h1:(rowsOf r).length≠1):LF r (fh r f t):=by
 have S:=Cv hf G t
 generalize DS:fP r f t=sp at*
 have hq:sp=(aB 4).map (gv r f t):=DS▸zq w f t
 have qm:∀u<4,gv r f t u∈sp:=λu hu=>by rw[hq]; exact aw.mpr ⟨u,aW.mpr hu,rfl⟩
 have ea:sp≠[]:=by rw[hq]; simp
 have hb:∀q∈sp,q.1<=4/\q.2.1<=4/\q.2.2<=4:=λq h=>by rw[hq] at h; obtain⟨u,hu,rfl⟩:=aw.mp h; exact S.b u (aW.mp hu)
 --K5 three WW all counts share
 have Qk:∀q∈sp,dz sp<=(q.2.1:Int)-q.2.2:=λq h=>BF (aw.mpr ⟨q,h,rfl⟩)
 have Ql:∀q∈sp,(q.2.1:Int)-q.2.2-dz sp-(q.1-q.2.1)<=fz sp:=λq h=>lA (aw.mpr ⟨q,h,rfl⟩)
 have Y6:∀q∈sp,(q.1:Int)-q.2.1+fz sp-q.2.2<=baseOf sp:=λq h=>lA (aw.mpr ⟨q,h,rfl⟩)
 have in1:∃q∈sp,dz sp=(q.2.1:Int)-q.2.2:=by have:=tI (l:=sp.map λq=>(q.2.1:Int)-q.2.2) (by simpa using ea); obtain⟨q,h,e⟩:=aw.mp this; exact⟨q,h,e.symm⟩
 have Y7:∃q∈sp,fz sp=(q.2.1:Int)-q.2.2-dz sp-(q.1-q.2.1):=by have:=kM (l:=sp.map λq=>(q.2.1:Int)-q.2.2-dz sp-(q.1-q.2.1)) (by simpa using ea); obtain⟨q,h,e⟩:=aw.mp this; exact⟨q,h,e.symm⟩
 have Y8:∃q∈sp,baseOf sp=(q.1:Int)-q.2.1+fz sp-q.2.2:=by have:=kM (l:=sp.map λq=>(q.1:Int)-q.2.1+fz sp-q.2.2) (by simpa using ea); obtain⟨q,h,e⟩:=aw.mp this; exact⟨q,h,e.symm⟩
 have hl:fh r f t=(aB 4).map λu=>uh t u (fA (countOf sp (gv r f t u))):=by
  unfold fh; rw[if_neg h1,DS]
  refine ef λu hu=>?_
  rw[ak,av,hq,av,cQ (aW.mp hu)]; rfl
 have b1:-4<=dz sp/\dz sp<=4:=by obtain⟨q,h,e⟩:=in1; first|exact bb1 e (hb q h)|(have:=hb q h; omega)
 have b2:-8<=fz sp/\fz sp<=16:=by obtain⟨q,h,e⟩:=Y7; first|exact bb2 e (hb q h) b1 (Qk q h)|(have:=hb q h; have:=Qk q h; (first|lia|omega))
 have b3:-20<=baseOf sp/\baseOf sp<=20:=by obtain⟨q,h,e⟩:=Y8; first|exact bb3 e (hb q h) b2 (Ql q h)|(have:=hb q h; have:=Ql q h; (first|lia|omega))
 generalize hA:gv r f t=A at*
 let W:=λu=>(countOf sp (A u)).1.toNat
 let O:=λu=>((countOf sp (A u)).2.1-(countOf sp (A u)).1).toNat
 let Z:=λu=>((countOf sp (A u)).2.2-(countOf sp (A u)).2.1).toNat
 --K5 counts,told by K5 places
 have hc:∀u<4,((W u:Nat):Int)=((A u).2.1:Int)-(A u).2.2-dz sp/\((W u+O u:Nat):Int)=((A u).1:Int)-(A u).2.1+fz sp/\((W u+O u+Z u:Nat):Int)=((A u).2.2:Int)+baseOf sp:=λu hu=>by
  have m:=qm u hu
  have l1:=Qk _ m; have l2:=Ql _ m; have l3:=Y6 _ m
  show(((((A u).2.1:Int)-(A u).2.2-dz sp).toNat:Nat):Int)=_/\(((((A u).2.1:Int)-(A u).2.2-dz sp).toNat+(((A u).1:Int)-(A u).2.1+fz sp-(((A u).2.1:Int)-(A u).2.2-dz sp)).toNat:Nat):Int)=_/\
   (((((A u).2.1:Int)-(A u).2.2-dz sp).toNat+(((A u).1:Int)-(A u).2.1+fz sp-(((A u).2.1:Int)-(A u).2.2-dz sp)).toNat+(((A u).2.2:Int)+baseOf sp-(((A u).1:Int)-(A u).2.1+fz sp)).toNat:Nat):Int)=_
  clear in1 Y7 Y8 Qk Ql Y6 hb
  refine⟨?_,?_,?_⟩<;>(first|exact Wc l1|exact We l1 l2|exact Wg l1 l2 l3|lia|omega)
 have is:∀u<4,Is (bq (fh r f t) u) (Z u) (O u) (W u) (t % 3):=λu hu=>by
  rw[hl,wL _ hu]
  have cr:∀k,(fA (countOf sp (A u))).count k=(if k=2 then W u else 0)+(if k=1 then O u else 0)+(if k=0 then Z u else 0):=λk=>by
   unfold fA
   rw[mG,mG,eW,eW,eW]
   simp only[beq_iff_eq,eq_comm (b:=k)]; rfl
  refine⟨_,λx hx=>?_,rfl,by rw[pY,cr]; simp,by rw[pY,cr]; simp,by rw[pY,cr]; simp⟩
  refine B3 (c:=countOf sp (A u)) x ?_
  rcases bN.mp hx with h|h
  ·exact CB h
  ·exact List.mem_of_mem_take h
 clear_value W O Z
 clear in1 Y7 Y8 Qk Ql Y6 qm hq ea hl
 refine⟨by unfold fh; rw[if_neg h1,ai,ec],Z,O,W,λ_=>t % 3,λu hu=>⟨is u hu,?_,?_⟩,λu hu v hv h ts pX=>?_,λu hu v hv=>?_,λu hu v hv=>?_⟩
 ·have:=hc u hu; have:=S.b u hu; clear is hc hb S; exact Wh b1 b3 ‹_› this
 ·show t % 3<=5; exact Wi
 ·have e:=(S.lt u hu v hv).mp h; have c1:=hc u hu; have c2:=hc v hv
  clear is hc hb S b1 b2 b3
  exact MT (by exact Wj e c1 c2) (by exact Wl e c1 c2) (by exact Wm e c1 c2) pX
 ·rw[S.eq u hu v hv]
  have c1:=hc u hu; have c2:=hc v hv
  clear is hc hb S b1 b2 b3
  constructor
  ·rintro⟨a,b,c⟩; refine⟨?_,?_,?_,rfl⟩<;>(first|exact Wn c1 c2 a b c|exact Wo c1 c2 a b c|exact Wq c1 c2 a b c|lia|omega)
  ·rintro⟨a,b,c,-⟩; refine⟨?_,?_,?_⟩<;>(first|exact Wr c1 c2 a b c|exact Ws c1 c2 a b c|exact Wt c1 c2 a b c|lia|omega)
 ·rw[Dw (is u hu) (is v hv) (by exact Wu),decide_eq_decide,S.lt u hu v hv]
  have c1:=hc u hu; have c2:=hc v hv
  clear is hc hb S b1 b2 b3
  constructor
  ·rintro⟨a,b,c⟩; refine⟨?_,?_,?_⟩<;>(first|exact Wv c1 c2 a|exact Ww c1 c2 b|exact Wx c1 c2 c|lia|omega)
  ·rintro⟨a,b,c⟩; refine⟨?_,?_,?_⟩<;>(first|exact Wy c1 c2 a|exact Wz c1 c2 b|exact WA c1 c2 c|lia|omega)
theorem Qm{r:Rel}{f:List Nat}{t:Nat}(w:Wf r)(hf:f∈rowsOf r)(G:Good r f):LF r (fh r f t):=by
 by_cases h:(rowsOf r).length=1
 ·exact GO w hf G h
 ·exact Jo w hf G h
theorem qT{ls:List (List Nat)}(h:ls.length=4){l:List Nat}(hl:l∈ls):∃u<4,l=bq ls u:=by
 obtain⟨u,hu,rfl⟩:=qd hl
 refine⟨u,h▸hu,?_⟩
 unfold bq; rw[ak,aj hu]; rfl
theorem MU(rs:List Nat)(tr:Nat):∀c∈txt rs tr,c=32\/c=9:=by
 intro c hc
 unfold txt blanks at hc
 rcases bN.mp hc with hc|hc
 ·obtain⟨x,hx,hc⟩:=Hl.mp hc
  obtain⟨n,_,rfl⟩:=aw.mp hx
  rcases bN.mp hc with hc|hc
  ·exact .inl (gD.mp hc).2
  ·exact .inr (aA.mp hc)
 ·exact .inl (gD.mp hc).2
theorem LF.ok{r:Rel}{ls:List (List Nat)}(F:LF r ls):LsOk ls:=by
 obtain⟨z,o,w,tr,h,-⟩:=F.is
 refine⟨F.len,λl hl=>?_,λl hl=>?_⟩
 ·obtain⟨u,hu,rfl⟩:=qT F.len hl
  obtain⟨rs,_,e,_⟩:=(h u hu).1
  rw[e]; exact MU rs _
 ·obtain⟨u,hu,rfl⟩:=qT F.len hl
  have:=h u hu
  rw[this.1.len]; (first|lia|omega)
theorem Jp{es:List Ed}{ks:List Bool}{r:Rel}{ls:List (List Nat)}(hx:∀e∈es,vC e)(h5:es.length=5)(I:Inv r (Kp (es.zip ks)))(F:LF r ls):AY ls r (ni es ks):=by
 obtain⟨z,o,w,tr,h,h2,h3,h4⟩:=F.is
 have hp:=λu hu=>GA (ks:=ks) hx I (u:=u) hu
 have at_:∀l∈ls,∃u<4,l=bq ls u:=λl hl=>qT F.len hl
 refine⟨I.tt.wf,λl hl=>?_,λl hl ts pX=>?_,λl hl=>?_,h4,λu hu v hv=>?_,λd hd=>(wH hx d hd).1,?_,hp,λu hu=>?_⟩
 ·obtain⟨u,hu,rfl⟩:=at_ l hl; have:=h u hu; exact this.1.ok (by(first|lia|omega)) (by(first|lia|omega))
 ·obtain⟨u,hu,rfl⟩:=at_ l hl; have:=(h u hu).1.ind pX; rw[this.1,this.2]
 ·obtain⟨u,hu,rfl⟩:=at_ l hl; exact(h u hu).1.long.2
 ·rw[Cu (h u hu).1 (h v hv).1,decide_eq_decide]; exact(h3 u hu v hv).symm
 ·have:=zi (es.map rowOf) ks
  rw[zg,ai,ai,h5] at this; exact aN 0xc0a200847ec4801 tt this
 ·rw[<-(hp u hu).length_eq]
  exact⟨Cq r u,n0 (qQ.mpr ((I.reach hu).mp (.refl u)))⟩
theorem GP{es:List Ed}{ks:List Bool}{r:Rel}{ls:List (List Nat)}(hx:∀e∈es,vC e)(C:vD es r ks)(F:LF r ls){k:Nat}(hk:k<es.length):y8 (es.map cp) (ls.map cF) k (rowOf (ji es k))=if ks.getD k false then[] else[Ds es ls k]:=by
 obtain⟨z,o,w,tr,h,h2,h3,-⟩:=F.is
 have I:=C.inv
 have he:es[k]? =some (ji es k):=by unfold ji; rw[ak,aj hk]; rfl
 have OP:ks[k]? =some (ks.getD k false):=by rw[ak,aj (by rw[C.len]; exact hk)]; rfl
 have hz:(ji es k,ks.getD k false)∈es.zip ks:=bI (List.getElem?_zip_eq_some.mpr ⟨he,OP⟩)
 have Qn:(es.map cp).getD k []=cp (ji es k):=by rw[ak,av,he]; rfl
 have x:=hx _ (bI he)
 unfold y8 Ds
 rw[Qn]
 generalize ji es k=e at*
 generalize ks.getD k false=b at*
 obtain⟨e1,e2,e3⟩:=qO x.ok
 have l1:vB (rG (pT e))=e.low:=by unfold vB; rw[xw _ x.low]; unfold nO; have:=x.ok.low; unfold pT; exact WB this
 have l2:vB (rG (jY e))=e.high:=by unfold vB; rw[xw _ x.high]; unfold nO; have:=x.ok.high; unfold jY; exact WC this
 have wa:∀u<4,(ls.map cF).getD u ⟨[],0,0,[],0,true⟩=cF (bq ls u):=λu hu=>by
  rw[ak,av,(eV F.ok hu).1]; rfl
 --K5 two of K5 row
 have hw:uv (ls.map cF) (rowOf e)=if e.ends.2.2=1 then pD (cF (bq ls e.ends.1)) (cF (bq ls e.ends.2.1)) else mw (cF (bq ls e.ends.1)) (cF (bq ls e.ends.2.1)):=by
  have hs:=x.ok.sg
  have:e.sg=0\/e.sg=1\/e.sg=2:=by exact HA hs
  have a1:iZ (ls.map cF) (rG (pT e))=cF (bq ls e.low):=by unfold iZ; rw[l1]; exact wa _ x.ok.low
  have a2:iZ (ls.map cF) (rG (jY e))=cF (bq ls e.high):=by unfold iZ; rw[l2]; exact wa _ x.ok.high
  unfold uv pairOf rowOf uz Ed.ends
  rcases this with q|q|q<;>rw[q]
  ·show mw (iZ _ (rG (pT e))) (iZ _ (rG (jY e)))=mw _ _
   rw[a1,a2]; rfl
  ·show mw (iZ _ (rG (jY e))) (iZ _ (rG (pT e)))=mw _ _
   rw[a1,a2]; rfl
  ·show pD (iZ _ (rG (pT e))) (iZ _ (rG (jY e)))=pD _ _
   rw[a1,a2]; rfl
 have fC:sizesOf (cF (bq ls e.ends.1)) (cF (bq ls e.ends.2.1)) 1=bB 1 (gi ls e):=by
  have a1:=(h _ e1).1.long; have a2:=(h _ e2).1.long
  unfold sizesOf gi
  rw[a1.2,a2.2]
  have:max (dM (bq ls e.ends.1)) (dM (bq ls e.ends.2.1))=max (dM (bq ls e.low)) (dM (bq ls e.high)):=by
   unfold Ed.ends; split
   ·rfl
   ·split
    ·exact Int.max_comm _ _
    ·rfl
  rw[this]; congr 1; exact NC
 have DS:bB 1 (gi ls e)≠[]:=by
  have a1:=(h _ x.ok.low).1.long.1
  unfold gi; rw[a1]
  intro q
  have:=congrArg i9 q
  rw[cY] at this
  simp at this; exact WD this
 have i1:=λts pX=>((h _ e1).1.ind (ts:=ts) pX).1
 have i2:=λts pX=>((h _ e2).1.ind (ts:=ts) pX).1
 have qG:∀ts∈bB 1 (gi ls e),0<ts:=λts ht=>(cR.mp ht).1
 have Qo:=h2 _ e1 _ e2; have Qp:=h2 _ e2 _ e1; have Y9:=h3 _ e1 _ e2; have Za:=h3 _ e2 _ e1
 have X8:=I.tt.e _ e1 _ e2; have v21:=I.tt.e _ e2 _ e1; have Zb:=I.as e1 e2
 rw[hw]
 unfold pD mw
 rw[fC]
 have key:(if e.ends.2.2=1 then(bB 1 (gi ls e)).filter λts=>decide ((cF (bq ls e.ends.1)).ind ts≠(cF (bq ls e.ends.2.1)).ind ts) else(bB 1 (gi ls e)).filter λts=>decide ((cF (bq ls e.ends.2.1)).ind ts<=(cF (bq ls e.ends.1)).ind ts))=if b then[] else bB 1 (gi ls e):=by
  cases b with
  |true=>
   have bd:∀a b f,((a=e.ends.1/\b=e.ends.2.1)\/(e.ends.2.2=1/\a=e.ends.2.1/\b=e.ends.1))/\f=decide (e.ends.2.2=2)->(if f then(2:Int) else 1)<=bF r a b:=λa b f q=>(I.Q1 a b f ⟨_,hz,rfl,q⟩).2.2
   have b1:=bd _ _ _ ⟨.inl ⟨rfl,rfl⟩,rfl⟩
   rw[if_pos rfl]
   rcases e3 with q|q
   ·have b2:=bd _ _ _ ⟨.inr ⟨q,rfl,rfl⟩,rfl⟩
    rw[q] at b1 b2
    rw[if_pos q]
    refine zN.mpr λts ht=>?_
    have b1:(1:Int)<=_:=b1; have b2:(1:Int)<=_:=b2
    obtain⟨z1,o1,w1,t1⟩:=Y9.mp (by exact WE X8 v21 Zb ‹_› b1 b2)
    rw[i1 ts (qG ts ht),i2 ts (qG ts ht),z1,o1,w1,t1]; simp
   ·rw[q] at b1
    rw[if_neg (by rw[q]; decide)]
    refine zN.mpr λts ht=>?_
    have b1:(2:Int)<=_:=b1
    have:=Qo (by exact NG X8 b1) ts (qG ts ht)
    rw[i1 ts (qG ts ht),i2 ts (qG ts ht)]; simp; exact aX 0x68080421a0201 tt this
  |false=>
   have bl:kC r e:=C.Y4 _ hz rfl
   unfold kC at bl
   rw[if_neg (show ¬false=true by decide)]
   rcases e3 with q|q
   ·rw[if_pos q]
    rw[if_neg (by rw[q]; decide)] at bl
    refine DH.mpr λts ht=>decide_eq_true ?_
    rw[i1 ts (qG ts ht),i2 ts (qG ts ht)]
    rcases bl with bl|bl
    ·have:=Qo bl ts (qG ts ht); exact WG this
    ·have:=Qp bl ts (qG ts ht); exact WH this
   ·rw[if_neg (by rw[q]; decide)]
    rw[if_pos q] at bl
    refine DH.mpr λts ht=>decide_eq_true ?_
    rw[i1 ts (qG ts ht),i2 ts (qG ts ht)]
    have:bF r e.ends.2.1 e.ends.1=1\/bF r e.ends.2.1 e.ends.1=2:=by exact WI v21 bl
    rcases this with bl|bl
    ·obtain⟨z1,o1,w1,t1⟩:=Za.mp bl
     rw[z1,o1,w1,t1]; exact jd _
    ·have:=Qp bl ts (qG ts ht); exact jf 0x6808042140101 tt this
 rw[key]
 cases b with
 |true=>rfl
 |false=>rw[if_neg (show ¬false=true by decide),if_neg DS,if_neg (show ¬false=true by decide)]
theorem Cw{es:List Ed}{ks:List Bool}{r:Rel}{ls:List (List Nat)}(hx:∀e∈es,vC e)(C:vD es r ks)(F:LF r ls):∀n k,k+n<=es.length->gZ (es.map cp) (ls.map cF) k ((bB k n).map λi=>rowOf (ji es i))=((bB k n).filter λk=>!(ks.getD k false)).map (Ds es ls)
 | 0,k,_=>rfl
 |n+1,k,h=>by
  rw[sP,aO,gZ,Cw hx C F n (k+1) (by exact cG 0xa81802010883404201 tt h),GP hx C F (by exact cG 0x2a060080422a0201 tt h),eH]
  cases ks.getD k false<;>rfl
theorem Jq{es:List Ed}{ks:List Bool}{r:Rel}{ls:List (List Nat)}(hx:∀e∈es,vC e)(h5:es.length=5)(C:vD es r ks)(F:LF r ls):A0 es ks ls:=by
 obtain⟨z,o,w,tr,h,-⟩:=F.is
 have hm:∀u,mr (z u) (o u) (w u)<=2:=λu=>by unfold mr; (repeat' split)<;>(first|lia|omega)
 refine⟨?_,λl hl=>?_,λl hl=>?_⟩
 ·have:=Cw hx C F 5 0 (by exact aN 825741823489 tt (ah h5.symm))
  unfold Cm
  rw[km,<-this]
  congr 1
  apply jt; intro i
  rw[av,av]
  rcases fY i 5 with hi|hi
  ·rw[kq hi,fX,DE]
   have:ji es i=es[i]:=by unfold ji; rw[ak,aj (by exact HD h5 hi)]; rfl
   rw[aj (by exact HD h5 hi)]
   show some _=some (rowOf (ji es i))
   rw[this]
  ·rw[cf (by exact WJ h5 hi),cf (by simpa using hi)]; rfl
 ·obtain⟨u,hu,rfl⟩:=qT F.len hl
  have a:=h u hu; have l:=a.1.long; have:=hm u
  refine⟨a.1.ok (by(first|lia|omega)) (by(first|lia|omega)),?_⟩
  rw[l.2,l.1]; (first|lia|omega)
 ·obtain⟨u,hu,rfl⟩:=qT F.len hl
  have a:=h u hu; have l:=a.1.long; have:=hm u
  rw[l.1]; (first|lia|omega)
theorem uQ:∀l:List Int,(∀y∈l,0<=y)->0<=l.sum
 |[],_=>by decide
 |x::l,h=>by rw[ki]; have:=uQ l λy hy=>h y (.tail _ hy); have:=h x (.head _); exact WK ‹_› this
theorem MV(ns:List Int):∃fs,Gy ns fs:=by
 have C:=zo λe he=>(F6 (ns:=ns) e he).ok
 obtain⟨f,hf,G⟩:=GH C.inv
 have hm:=mi hf
 have F:=Qm (t:=qM ns) C.inv.tt.wf hm G
 obtain⟨z,o,w,tr,h,-⟩:=F.is
 have hu:qM ns % 4<4:=dR _ (by decide)
 exact⟨f,(aG (uQ _ λy hy=>(xo hy).1)).symm,C.len.trans (uA ns),A1 C.inv.tt.wf hf G,F.ok,Jm (h _ hu).1 (h _ hu).2.1 (h _ hu).2.2,Jp F6 (uA ns) C.inv F,Jq F6 (uA ns) C F⟩
theorem holds:fW.Holds:=Jh λns _=>MV ns
end
end
end Mine
theorem PySem.Challenge.cw_rs0233_01_holds : PySem.Challenge.rw_rs0233_01.Holds :=
 Mine.holds
