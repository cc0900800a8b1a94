import PyProof.Rows.All
import Wide.All
import OpenK.AllK
import Wide.FinOn
import PySem.Challenge.RW_ta0127_01
set_option maxRecDepth 100000
set_option Elab.async false
set_option linter.all false
set_option bootstrap.genMatcherCode false
set_option genSizeOf false
set_option genCtorIdx false
set_option autoImplicit true
set_option backward.match.sparseCases false
set_option genInjectivity false
set_option tactic.hygienic false
open Array renaming length_toList->lA
open Bool renaming and_eq_true->aO,casesOn->aZ,false_ne_true->bA,eq_iff_iff->cC,or_eq_true->du,not_eq_true'->dQ,and_eq_true_iff->dR,true_and->eV,false_eq_true->fb,or_eq_false_iff->iH,and_true->i7,eq_false_iff->jm,false_and->j',and_false->j_,false_or->nH
open Eq renaming symm->i6,trans->kL
open Exists renaming elim->fP
open ForInStep renaming yield->dW
open Int renaming natCast_nonneg->az,toNat_natCast->aT,natAbs_natCast->bl,ofNat->bE,fdiv_eq_ediv_of_nonneg->bY,natCast_mul->cU,eq_ofNat_of_zero_le->dr,natCast_add->dw,ofNat_lt->dC,natCast_pow->dO,toNat_of_nonneg->dU,ofNat_le->d_,fmod_eq_emod_of_nonneg->eK,natCast_ediv->eQ,ofNat_sub->f8,sub_nonneg_of_le->f9,natAbs_neg->gK,mul_fdiv_add_fmod->iz,mul_neg->iV,le_trans->jr,natCast_emod->jE,mul_sub->jM,le_refl->jN,neg_one_mul->j2,zero_add->lh,ediv_eq_zero_of_lt->li,add_mul_ediv_left->ly,sub_mul->lM,one_mul->lO,neg_neg->lP,neg_mul->lQ,negSucc->lR,mul_one->lS,lt_of_le_of_lt->mA,neg_fdiv_neg->nc,max_eq_left->nr,negSucc_eq->nG,add_assoc->nV
open Int.ofNat renaming inj->iw
open List renaming length_map->ac,casesOn->af,all_eq_true->aj,range->ak,getD_eq_getElem?_getD->am,length_append->aq,getElem?_eq_getElem->au,mem_cons_self->ax,getElem?_append_right->ay,replicate->aA,prefix_refl->aB,size_toArray->aC,mem_map->aE,length_cons->aF,mem_singleton->aI,getElem?_append_left->aL,mem_cons_of_mem->aP,getElem?_eq_some_iff->aS,map_cons->aU,mem_append->aW,mem_of_getElem?->aY,mem_range->a0,map_map->a_,getElem?_map->bf,mem_cons->bh,map_append->bo,range'->bp,lookup_cons->bv,append_nil->bB,length_eq_zero_iff->bC,length_range->bP,sum_cons->bV,flatMap_cons->b0,length_replicate->cf,append_assoc->ch,exists_cons_of_length_eq_add_one->cn,range_succ->cA,nodup_cons->cB,length->cG,nodup_nil->cK,mem_range'_1->cL,flatMap_append->cR,nil_append->cS,length_singleton->cZ,zip_cons_cons->da,nodup_append->dk,getElem?_set->dm,length_zip->dp,length_nil->dq,length_take->dE,length_drop->dF,getElem_mem->dG,length_range'->dH,sizeOf_lt_of_mem->dJ,length_set->dM,reverse_cons->dN,getElem_map->dT,map_id->dY,set_append->eh,rec->ei,filter_map->ej,all_cons->eu,getElem?_eq_none->ew,set->eI,filter_cons->eO,drop_eq_getElem_cons->eP,foldl_cons->eZ,prefix_append->e_,getElem?_replicate->fk,forIn_nil->fy,flatMap_singleton->fA,drop_eq_nil_of_le->fB,length_filter_le->fJ,range'_succ->fL,mem_flatMap->fM,isEmpty_iff->fN,cons_append->fO,range_eq_range'->fY,mem_iff_getElem->fZ,mem_filter->ga,forIn_cons->gb,map_congr_left->gi,getElem?_range->gj,mem_filterMap->gz,getElem_range->gA,filter_append->gB,getElem?_zip_eq_some->gM,lookup->gQ,not_mem_nil->g_,getElem?_cons_succ->hJ,ext_getElem->hU,countP_cons->hV,any_eq_true->hY,getElem?_reverse->iu,contains_iff_mem->iv,mem_of_mem_take->iB,mem_of_mem_drop->iC,length_pos_iff->iX,any_cons->i4,zip_nil_right->i8,map->jk,take_length->jy,mem_reverse->jz,map_reverse->jA,getElem_zip->jB,take_left'->jK,countP_map->jL,mapM_cons->j8,getElem?_eq_none_iff->ku,findIdx?_eq_none_iff->kw,map_take->kK,lookup_eq_none_iff->kT,take_of_length_le->kW,range_succ_eq_map->kX,flatMap->kY,take_append_drop->lg,length_take_le'->lq,getElem_toArray->lu,getElem?_set_ne->lv,forall_mem_cons->lx,toList_toArray->lJ,reverse_append->lK,getElem_of_mem->lL,getElem_drop->mq,getElem?_nil->mr,getElem?_inj->mv,foldl_append->mw,flatten_cons->my,nodup_range->mJ,map_fst_zip->mK,isEmpty_nil->mL,drop_length->mM,any_toArray->mN,sum_append->m_,foldr_cons->na,zip->nn,drop_drop->nq,take_nil->nE,drop_nil->nF,zipWith->nQ,reverse->nR,map_set->nS,map_nil->nT,filter->oh
open List.Pairwise renaming nil->pj
open Nat renaming lt_of_lt_of_le->ab,le_trans->ae,le_refl->ai,pow_le_pow_right->aD,lt_irrefl->aJ,lt_of_le_of_lt->aM,le_add_right->aV,le_of_lt->bb,le_of_eq->bd,mod_lt->bj,not_lt->bu,le_succ->bw,lt_succ_self->bT,lt_trans->bW,casesOn->ce,sub_self->ci,two_pow_pos->ck,ne_of_lt->cp,mul_comm->cE,add_sub_cancel_left->cH,ne_of_gt->cO,le_of_lt_succ->cP,beq->cQ,le_of_ble_eq_true->c_,add_comm->dc,zero_le->dh,mul_le_mul->di,testBit_two_pow->dx,lt_or_ge->d9,succ->ek,le_add_left->em,div_add_mod->et,eq_of_beq_eq_true->eG,add_sub_cancel'->eS,add_right_comm->fj,pow_pos->fq,add_mul->ft,pow_succ->fE,lt_succ_of_lt->fF,lt_of_succ_lt_succ->fG,lor->fH,div_lt_iff_lt_mul->fK,zero_testBit->fX,pow_le_pow_left->gq,add_le_add_left->gu,zero_add->gx,mul_succ->gy,pos_of_ne_zero->gH,land->gI,add_sub_cancel->gJ,add_mul_mod_self_left->gP,pow_add->gS,one_mul->gT,le_succ_of_le->gU,div_eq_of_lt->h_,sub_add_sub_cancel->ik,lt_asymm->il,testBit_and->ip,not_lt_zero->iq,min_eq_left->ir,lt_of_sub_eq_succ->iy,mul_le_mul_right->iP,log2_lt->iQ,eq_of_testBit_eq->iS,div_lt_of_lt_mul->iT,add_mul_div_left->iU,mul_le_mul_left->i3,sub_le->jb,lt_succ_of_le->jq,mod_eq_of_lt->jD,mul_add->jJ,div_le_self->j0,ble->j7,testBit_or->kr,add_assoc->kS,lt_add_of_pos_right->kV,succ_pos->lb,sub_zero->lc,min_self->lf,sub_lt_sub_right->lG,not_succ_le_self->lH,sub_le_sub_left->lY,lt_mul_div_succ->lZ,add_lt_add_left->l0,sub_lt->ml,eq_zero_or_pos->mm,sub_pos_of_lt->mH,lt_of_succ_lt->mI,succ_le_succ->m6,le_of_not_lt->m7,le_of_not_le->m8,mul_div_le->nC,add_le_add->nD,rec->n_
open Nat.le renaming refl->dL,step->eY
open Nat.succ renaming inj->bD
open Ne renaming symm->io
open Option renaming casesOn->aa,map_eq_some_iff->aK,map->bJ,isNone_iff_eq_none->eJ,isSome_iff_exists->eR,getD_some->jj,isSome->j6,bind_eq_some_iff->kq,map_some->mj
open Option.some renaming inj->ag,injEq->f_,sizeOf_spec->gw
open Or renaming inl->eN,inr->ji
open Ordering renaming eq->kJ
open PUnit renaming unit->jZ
open Prod renaming fst->lm
open Prod.mk renaming inj->nj
open PyProof renaming noPylong_of_log2->jY
open PyProof.Rows renaming Call_->cx,callWith_type1->df,evalArgs_none->dZ,args_cons->eX,subscriptTail->fu,args_nil->fT,callWith_builtin1->iA,isTrue_plain->i9,callWith_def->i_,Assign_Tuple->ja,Subscript_->jp,IsTup->j1,IntsAre->mz,unpackItems_tuple->nJ,slot_str_getitem->n0
open PyProof.Rows.AllBare renaming of_eq->mP
open PySem renaming Shared->ah,wpAny_bind->an,wpAny->ao,model->ar,Addr->aw,mainGlobals->aG,wpAny_pure->aQ,wpAny_execs_cons->aR,execs->be,Around->br,exec->bz,eval->bK,sysModules->bN,builtinsNs->bO,Comprehension->bS,Heap->bU,intKind->bZ,wpAny_mono->b9,starEach->b_,FuncData->cg,Scope->cj,Pos->cq,wpAny_truthy_bool->cz,wpAny_holding->cF,wpAny_standAt->cT,callEnvC->cV,wpAny_execs_nil->cW,NameKind->cX,partValue->cY,Arguments->dj,isTrue->dv,wpAny_Return_some->dy,wpAny_Call_method_lateS->dz,wpAny_Assign_Name->dA,cellsFrom->dK,bindArgs->dS,spliced->eC,mainEnv->eE,backTo->eF,foldedSetIterable->eM,wpAny_eval_const->eW,Sem->fe,sizeLine->fv,wpAny_BinOp->fx,typeIs_str->fC,closureFor->fD,wpAny_List->fI,valueAt->fQ,recursionLimit->fR,constantsAlone->fS,Program->fW,storeName->ge,call_meets->gg,assignEach->gh,foldedForSure->gl,pyIter->gD,leftWithCleanup->gE,Params->gG,inplaceOp->gR,rawInt->gV,qualnameIn->gW,intKind_is->gX,cStatics->gY,binaryOp->gZ,wpAny_assign_Name->ie,behindInMarks->ig,Flow->im,wpAny_If->ix,wpAny_rule->iJ,codeAny->iK,NoneBooked->iO,swapsWith->jc,standAt->jd,seqIndex?->je,pushCells->jf,holding->jg,argBest->jh,wpAny_loadName_free->jn,wpAny_loadName_cell->jo,swappedStores->ju,comprehension->jv,wpAny_isTrue_Compare1->jH,wpAny_newObj_type->jO,wpAny_dictEntries->jP,staticOf->jQ,startupNames->jR,firstIterPos->jS,concat_meets->jT,call_meetsIn->jU,noFill_tuple_add->ka,compareOp->kf,cellOf->kg,numAt->kz,dictDisplay->kA,codeAny_of_tree->kO,Tok->kP,evalPart->kZ,cLine->k0,assign->k9,annTrees->k_,wpAny_Compare1->la,wpAny_sharingNotTold_none->lj,seq_tuple_add->lB,assignInOrder->lC,wpAny_list_append_plain->lT,slicePick->lU,firstIter->lV,wpAny_Tuple->lW,wpAny_Assign_Subscript->l9,mergeMapping->l_,meets_dict_get_default->ma,getItem->mc,callerA->me,bootBuiltins->mf,wpAny_Expr->mi,wpAny_storeName_local->mD,codeAny_call_function->mF,wpAny_storeName_cell->mQ,wpAny_of_eq->mR,wpAny_nsGet->mS,wpAny_loadName_local->mT,wpAny_alloc->mU,wpAny_AugAssign_Name->mV,subscripted->mW,sizeLine_eq->mX,interactive->mY,compTurn->mZ,Model->m9,any_of_findIdx_some->ng,Obj->nk,wpAny_pyIter_tuple->nu,typeLookup->nv,typeIs_int->nw,strKind_is->nx,mainNs->ny,firstAsync->nz,call_gives->nA,wpAny_isNot_plain->nI,subDict->nL,slot_list_getitem->nM,newList->nO,Keeps->nU,wpAny_askSetting->nZ,runN->n4,noteFrame->n5,fillsInplaceSlot->n6,codeAmong->n7
open PySem.AutoIntOps renaming ifloordiv_1->ni
open PySem.Builtin renaming bitXor->jG,bitNot->mB,bitAnd->mC
open PySem.Builtin.Int renaming intBits->aH
open PySem.Builtin.List renaming listTooLong->jl
open PySem.Builtin.Range renaming rangeSize->cy,small->g9
open PySem.Builtin.Str renaming occurrences->cb,spaceWords->eT,tooLong->j9,glued->kM
open PySem.Calls renaming callWith_builtin->cu,evalArgs_plain->fV,loadGlobal_builtin->iL,loadGlobal_global->iW,Name_module->jx
open PySem.Challenge renaming rw_ta0127_01->bX,pw_ta0127_01->ff
open PySem.Claim2Try renaming globalOf_of_ns->ii
open PySem.Comprehension.mk renaming sizeOf_spec->nt
open PySem.Data renaming seq->lz
open PySem.Expr renaming casesOn->bq
open PySem.Expr.Attribute renaming sizeOf_spec->iZ
open PySem.Expr.BoolOp renaming sizeOf_spec->jC
open PySem.Expr.Call renaming sizeOf_spec->ca
open PySem.Expr.Subscript renaming sizeOf_spec->iY
open PySem.F renaming plainAttrs_str->dV,slot_dict_get->d0,plainAttrs_list->eU,args_tuple_add_2->gF,plainAttrs_dict->gN,entry_tuple_add->gO,slot_tuple_add->g7,entry_dict_get->g8,slot_list_reverse->jI,slot_dict_values->jX,slot_list_index->j3,slot_list_count->j4,args_dict_get_3->j5,slot_str_split->kj,slot_str_lower->kl,slot_str_index->km,slot_list_iadd->kn,type_dict_get->kE,slot_str_join->kF,slot_str_find->kG,slot_int_rmul->nX
open PySem.Float64 renaming sub->aX,isZero->bG,add->bH,ofFrac->bI,div->bL,cmp->bM,mul->cr,ofInt->cJ,cmpInt->dD,decode->eH,divmod->gk,isInf->gL,truncOf->hZ,isNaN->iE,align->iF
open PySem.Flt renaming quot_fits->kC
open PySem.Heap renaming get?_push_of_some->av,lt_size->aN,size_push->bg,get?_push_size->bx,SameBut->bF,get?_update_self->ey,size_update->mO,nsMap_none->nf
open PySem.Heap.DictOf renaming new->i5
open PySem.Heap.IsSliceOf renaming new->nW
open PySem.Heap.Ns renaming of_isNs->jt
open PySem.Heap.SameBut renaming update->eB,refl->ky
open PySem.IsRange renaming new->kU
open PySem.NameKind renaming free->bQ,cell->dX
open PySem.Obj renaming mapSeq->fg,data_mapDictKeys->lF,isFreed_of_dict->lX,data_mapDict->m5
open PySem.Operator renaming casesOn->gm,Add->mG
open PySem.SeqAt renaming RcAt->n9
open PySem.SeqAt.EqAt renaming int_int->nY
open PySem.Shared renaming asleep_of_life->kR
open PySem.Stmt renaming casesOn->kB
open PySem.Str renaming ofString->cM,length->dI,ext'->lE,cps_append->nB
open PySem.StrLaws renaming sliceText->cc,sliceText_from->ki,sliceText_to->kQ
open PySem.Txt renaming lower->m4
open PySem.UnaryOp renaming casesOn->jw
open PySem.Value renaming ref->dB,float->fU,type->jW,casesOn->kh,builtin->nh
open PySem.Value.ref renaming inj->gv
open PySem.W renaming boot_heap->bR,tabObj->gC,CodeHd->jF,cellsFrom_some->jV,fnMade->md,through->nK,opening->nN,behindTheImports->n8
open PySem.W.CodeHd renaming of->l8
open PySem.W.OpenLaw renaming row->ij
open PySem.W.WShape renaming hasItems->mh
open PySem.Walks renaming tuple->nP
open PySem.isSame renaming created->mE
namespace Mine.Tactic
section
open PySem PySem.W
noncomputable abbrev oj:fW:=ff
noncomputable def Gy:(Q:World->Prop) ×' ∃a b c d,(ij bX).Holds=(a/\b/\c/\d/\∀w,Q w):=⟨_,_,_,_,_,rfl⟩
theorem wcF:Nonempty World:=⟨{draws:=λY Y=>0,params:={strHash:=λY=>0,shareClass:=λY=>0,mergeTok:=id,idOf:=λY=>0,idOfShared:=λY Y=>0,followText:=λY=>false,idOfImm:=λY=>0}}⟩
noncomputable def wd:World:=@Classical.epsilon _ wcF λw=>¬Gy.1 w
theorem RY(h:Gy.1 wd)(w:World):Gy.1 w:=Classical.byContradiction λn=>(Classical.epsilon_spec (⟨w,n⟩:∃w,¬Gy.1 w)) h
theorem pG{a m n:Nat}(h:a<=m)(k:j7 m n=true):a<=n:=ae h (c_ k)
theorem K2{a m n:Nat}(h:a<=m)(k:Nat.blt m n=true):a<n:=aM h (c_ k)
theorem Rr{a m n:Nat}(h:a<m)(k:j7 m n=true):a<=n:=ae (bb h) (c_ k)
theorem wih{a m n:Nat}(h:a<m)(k:j7 m n=true):a<n:=ab h (c_ k)
theorem GW{a m n:Nat}(h:a=m)(k:m<=n):a<=n:=h▸k
theorem Rk{a m n:Nat}(h:a=m)(k:m<n):a<n:=h▸k
theorem wid{a m n:Nat}(k:a<=m)(h:m=n):a<=n:=h▸k
theorem wif{a m n:Nat}(k:a<m)(h:m=n):a<n:=h▸k
theorem wig{a m n:Nat}(k:a<m)(h:n=m):a<n:=h▸k
theorem wie{a m n:Nat}(k:a<=m)(h:n=m):a<=n:=h▸k
theorem zne{a:Nat}(h:0<a):¬a=0:=cO h
theorem yG{a b:Nat}(h:a<=b):(a:Int)<=b:=d_.mpr h
theorem Rj{a b:Nat}(h:¬a=b):¬(a:Int)=b:=λe=>h (iw e)
theorem Cj{a:Nat}(h:0<a):¬(a:Int)=0:=λe=>cO h (iw e)
theorem Ew{k n:Nat}(h:k<n):n-k=n-(k+1)+1:=(Nat.succ_pred_eq_of_pos (mH h)).symm
theorem K3{n:Nat}(h:0<n):n-1+1=n:=Nat.sub_add_cancel h
theorem K4{k n m:Nat}(h:n-k=m+1):k<n:=iy h
theorem zs4{k n m:Nat}(h:n-k=m+1):n-(k+1)=m:=bD ((Ew (iy h)).symm.trans h)
theorem zl4{i:Nat}(h:i<4):i=0\/i=1\/i=2\/i=3:=by lia
theorem zl5{i:Nat}(h:i<5):i=0\/i=1\/i=2\/i=3\/i=4:=by lia
theorem Cm{a m:Nat}{b:Int}(h:a<=m)(e:decide ((m:Int)<b)=true):(a:Int)<b:=mA (d_.mpr h) (of_decide_eq_true e)
theorem wic{a b m n k:Nat}(h:a<=m)(h2:b<=n)(e:j7 (m+n) k=true):a+b<=k:=ae (nD h h2) (c_ e)
theorem K0{a b k:Nat}(h:a+b<=k):a<=k:=ae (aV _ _) h
theorem GV{a b k:Nat}(h:a+b<=k):b<=k:=ae (em _ _) h
theorem Ci{a b k:Nat}(h:a+b<k):a<k:=aM (aV _ _) h
theorem zms{a b c k:Nat}(h:a<=c*k)(h2:b<=c):a+b<=c*(k+1):=nD h h2
theorem Rq{i:Nat}(h:i<3):i=0\/i=1\/i=2:=by lia
theorem why{i:Nat}(h:1<=i)(h2:i<=3):i=1\/i=2\/i=3:=by lia
theorem zas{a n c:Nat}(h:a+(n+1)<c):a+1+n<c:=by rwa [kS,dc 1]
theorem Ev{a n c:Nat}(h:a+(n+1)<=c):a+1+n<=c:=by rwa [kS,dc 1]
theorem zpe{a b c:Nat}(h:a+(b+1)=c):a<c:=h▸kV (lb b)
theorem Rm{a b:Nat}:(a:Int)=b↔a=b:=Int.ofNat_inj
theorem Ck{a b:Nat}(h:¬a<b):b<=a:=m7 h
theorem zip{a:Nat}(h:0<a):(0:Int)<a:=dC.mpr h
theorem Ri{b n:Nat}(h:0<n):b<=n*((b+n-1)/n):=by
 have:=et (b+n-1) n;have h2:=bj (b+n-1) h
 lia
theorem qJ{p1 p2 p3:Prop}(h1:p1)(h2:p2)(h3:p3):p1/\p2/\p3:=⟨h1,h2,h3⟩
theorem xU{p1 p2 p3 p4:Prop}(h1:p1)(h2:p2)(h3:p3)(h4:p4):p1/\p2/\p3/\p4:=⟨h1,h2,h3,h4⟩
theorem O7{p1 p2 p3 p4 p5:Prop}(h1:p1)(h2:p2)(h3:p3)(h4:p4)(h5:p5):p1/\p2/\p3/\p4/\p5:=⟨h1,h2,h3,h4,h5⟩
theorem oV{A:Sort _}{p1 p2:A->Prop}(a:A)(h1:p1 a)(h2:p2 a):∃a,p1 a/\p2 a:=⟨a,h1,h2⟩
theorem xV{A:Sort _}{p1 p2 p3:A->Prop}(a:A)(h1:p1 a)(h2:p2 a)(h3:p3 a):∃a,p1 a/\p2 a/\p3 a:=⟨a,h1,h2,h3⟩
theorem F8{A:Sort _}{p1 p2 p3 p4:A->Prop}(a:A)(h1:p1 a)(h2:p2 a)(h3:p3 a)(h4:p4 a):∃a,p1 a/\p2 a/\p3 a/\p4 a:=⟨a,h1,h2,h3,h4⟩
theorem wan{A:Sort _}{p1 p2 p3 p4 p5:A->Prop}(a:A)(h1:p1 a)(h2:p2 a)(h3:p3 a)(h4:p4 a)(h5:p5 a):∃a,p1 a/\p2 a/\p3 a/\p4 a/\p5 a:=⟨a,h1,h2,h3,h4,h5⟩
theorem wao{A:Sort _}{p1 p2 p3 p4 p5 p6 p7 p8:A->Prop}(a:A)(h1:p1 a)(h2:p2 a)(h3:p3 a)(h4:p4 a)(h5:p5 a)(h6:p6 a)(h7:p7 a)(h8:p8 a):∃a,p1 a/\p2 a/\p3 a/\p4 a/\p5 a/\p6 a/\p7 a/\p8 a:=⟨a,h1,h2,h3,h4,h5,h6,h7,h8⟩
theorem wz{A:Sort _}{B:Sort _}{p1:A->B->Prop}(a:A)(b:B)(h1:p1 a b):∃a b,p1 a b:=⟨a,b,h1⟩
theorem rf{A:Sort _}{B:Sort _}{p1 p2:A->B->Prop}(a:A)(b:B)(h1:p1 a b)(h2:p2 a b):∃a b,p1 a b/\p2 a b:=⟨a,b,h1,h2⟩
theorem zk{A:Sort _}{B:Sort _}{p1 p2 p3:A->B->Prop}(a:A)(b:B)(h1:p1 a b)(h2:p2 a b)(h3:p3 a b):∃a b,p1 a b/\p2 a b/\p3 a b:=⟨a,b,h1,h2,h3⟩
theorem F9{A:Sort _}{B:Sort _}{p1 p2 p3 p4:A->B->Prop}(a:A)(b:B)(h1:p1 a b)(h2:p2 a b)(h3:p3 a b)(h4:p4 a b):∃a b,p1 a b/\p2 a b/\p3 a b/\p4 a b:=⟨a,b,h1,h2,h3,h4⟩
theorem wap{A:Sort _}{B:Sort _}{p1 p2 p3 p4 p5:A->B->Prop}(a:A)(b:B)(h1:p1 a b)(h2:p2 a b)(h3:p3 a b)(h4:p4 a b)(h5:p5 a b):∃a b,p1 a b/\p2 a b/\p3 a b/\p4 a b/\p5 a b:=⟨a,b,h1,h2,h3,h4,h5⟩
theorem O8{A:Sort _}{B:Sort _}{p1 p2 p3 p4 p5 p6:A->B->Prop}(a:A)(b:B)(h1:p1 a b)(h2:p2 a b)(h3:p3 a b)(h4:p4 a b)(h5:p5 a b)(h6:p6 a b):∃a b,p1 a b/\p2 a b/\p3 a b/\p4 a b/\p5 a b/\p6 a b:=⟨a,b,h1,h2,h3,h4,h5,h6⟩
theorem waq{A:Sort _}{B:Sort _}{p1 p2 p3 p4 p5 p6 p7:A->B->Prop}(a:A)(b:B)(h1:p1 a b)(h2:p2 a b)(h3:p3 a b)(h4:p4 a b)(h5:p5 a b)(h6:p6 a b)(h7:p7 a b):∃a b,p1 a b/\p2 a b/\p3 a b/\p4 a b/\p5 a b/\p6 a b/\p7 a b:=⟨a,b,h1,h2,h3,h4,h5,h6,h7⟩
theorem war{A:Sort _}{B:Sort _}{C:Sort _}{p1:A->B->C->Prop}(a:A)(b:B)(c:C)(h1:p1 a b c):∃a b c,p1 a b c:=⟨a,b,c,h1⟩
theorem Jz{A:Sort _}{B:Sort _}{C:Sort _}{p1 p2 p3:A->B->C->Prop}(a:A)(b:B)(c:C)(h1:p1 a b c)(h2:p2 a b c)(h3:p3 a b c):∃a b c,p1 a b c/\p2 a b c/\p3 a b c:=⟨a,b,c,h1,h2,h3⟩
theorem F_{A:Sort _}{B:Sort _}{C:Sort _}{p1 p2 p3 p4:A->B->C->Prop}(a:A)(b:B)(c:C)(h1:p1 a b c)(h2:p2 a b c)(h3:p3 a b c)(h4:p4 a b c):∃a b c,p1 a b c/\p2 a b c/\p3 a b c/\p4 a b c:=⟨a,b,c,h1,h2,h3,h4⟩
theorem O9{A:Sort _}{B:Sort _}{C:Sort _}{D:Sort _}{p1:A->B->C->D->Prop}(a:A)(b:B)(c:C)(d:D)(h1:p1 a b c d):∃a b c d,p1 a b c d:=⟨a,b,c,d,h1⟩
theorem Ga{A:Sort _}{B:Sort _}{C:Sort _}{D:Sort _}{p1 p2:A->B->C->D->Prop}(a:A)(b:B)(c:C)(d:D)(h1:p1 a b c d)(h2:p2 a b c d):∃a b c d,p1 a b c d/\p2 a b c d:=⟨a,b,c,d,h1,h2⟩
theorem JA{A:Sort _}{B:Sort _}{C:Sort _}{D:Sort _}{p1 p2 p3:A->B->C->D->Prop}(a:A)(b:B)(c:C)(d:D)(h1:p1 a b c d)(h2:p2 a b c d)(h3:p3 a b c d):∃a b c d,p1 a b c d/\p2 a b c d/\p3 a b c d:=⟨a,b,c,d,h1,h2,h3⟩
theorem JB{A:Sort _}{B:Sort _}{C:Sort _}{D:Sort _}{p1 p2 p3 p4 p5:A->B->C->D->Prop}(a:A)(b:B)(c:C)(d:D)(h1:p1 a b c d)(h2:p2 a b c d)(h3:p3 a b c d)(h4:p4 a b c d)(h5:p5 a b c d):∃a b c d,p1 a b c d/\p2 a b c d/\p3 a b c d/\p4 a b c d/\p5 a b c d:=⟨a,b,c,d,h1,h2,h3,h4,h5⟩
theorem JC{A:Sort _}{B:Sort _}{C:Sort _}{D:Sort _}{E:Sort _}{p1:A->B->C->D->E->Prop}(a:A)(b:B)(c:C)(d:D)(e:E)(h1:p1 a b c d e):∃a b c d e,p1 a b c d e:=⟨a,b,c,d,e,h1⟩
theorem was{A:Sort _}{B:Sort _}{C:Sort _}{D:Sort _}{E:Sort _}{p1 p2:A->B->C->D->E->Prop}(a:A)(b:B)(c:C)(d:D)(e:E)(h1:p1 a b c d e)(h2:p2 a b c d e):∃a b c d e,p1 a b c d e/\p2 a b c d e:=⟨a,b,c,d,e,h1,h2⟩
theorem O'{A:Sort _}{B:Sort _}{C:Sort _}{D:Sort _}{E:Sort _}{p1 p2 p3:A->B->C->D->E->Prop}(a:A)(b:B)(c:C)(d:D)(e:E)(h1:p1 a b c d e)(h2:p2 a b c d e)(h3:p3 a b c d e):∃a b c d e,p1 a b c d e/\p2 a b c d e/\p3 a b c d e:=⟨a,b,c,d,e,h1,h2,h3⟩
theorem wat{A:Sort _}{B:Sort _}{C:Sort _}{D:Sort _}{E:Sort _}{F:Sort _}{p1:A->B->C->D->E->F->Prop}(a:A)(b:B)(c:C)(d:D)(e:E)(f:F)(h1:p1 a b c d e f):∃a b c d e f,p1 a b c d e f:=⟨a,b,c,d,e,f,h1⟩
theorem wau{A:Sort _}{B:Sort _}{C:Sort _}{D:Sort _}{E:Sort _}{F:Sort _}{G:Sort _}{p1 p2 p3 p4 p5 p6 p7:A->B->C->D->E->F->G->Prop}(a:A)(b:B)(c:C)(d:D)(e:E)(f:F)(g:G)(h1:p1 a b c d e f g)(h2:p2 a b c d e f g)(h3:p3 a b c d e f g)(h4:p4 a b c d e f g)(h5:p5 a b c d e f g)(h6:p6 a b c d e f g)(h7:p7 a b c d e f g):∃a b c d e f g,p1 a b c d e f g/\p2 a b c d e f g/\p3 a b c d e f g/\p4 a b c d e f g/\p5 a b c d e f g/\p6 a b c d e f g/\p7 a b c d e f g:=⟨a,b,c,d,e,f,g,h1,h2,h3,h4,h5,h6,h7⟩
theorem p_{p1 p2:Prop}{Q:Prop}(h:p1/\p2)(f:p1->p2->Q):Q:=f h.1 h.2
theorem tR{p1 p2 p3:Prop}{Q:Prop}(h:p1/\p2/\p3)(f:p1->p2->p3->Q):Q:=f h.1 h.2.1 h.2.2
theorem Bu{p1 p2 p3 p4:Prop}{Q:Prop}(h:p1/\p2/\p3/\p4)(f:p1->p2->p3->p4->Q):Q:=f h.1 h.2.1 h.2.2.1 h.2.2.2
theorem MW{p1 p2 p3 p4 p5:Prop}{Q:Prop}(h:p1/\p2/\p3/\p4/\p5)(f:p1->p2->p3->p4->p5->Q):Q:=f h.1 h.2.1 h.2.2.1 h.2.2.2.1 h.2.2.2.2
theorem MX{p1 p2 p3 p4 p5 p6:Prop}{Q:Prop}(h:p1/\p2/\p3/\p4/\p5/\p6)(f:p1->p2->p3->p4->p5->p6->Q):Q:=f h.1 h.2.1 h.2.2.1 h.2.2.2.1 h.2.2.2.2.1 h.2.2.2.2.2
theorem o6{py:Sort _}{p1:py->Prop}{Q:Prop}(h:∃a,p1 a)(f:∀a,p1 a->Q):Q:=h.elim λa h=>f a h
theorem oB{py:Sort _}{p1 p2:py->Prop}{Q:Prop}(h:∃a,p1 a/\p2 a)(f:∀a,p1 a->p2 a->Q):Q:=h.elim λa h=>f a h.1 h.2
theorem s9{py:Sort _}{p1 p2 p3:py->Prop}{Q:Prop}(h:∃a,p1 a/\p2 a/\p3 a)(f:∀a,p1 a->p2 a->p3 a->Q):Q:=h.elim λa h=>f a h.1 h.2.1 h.2.2
theorem H4{py:Sort _}{p1 p2 p3 p4:py->Prop}{Q:Prop}(h:∃a,p1 a/\p2 a/\p3 a/\p4 a)(f:∀a,p1 a->p2 a->p3 a->p4 a->Q):Q:=h.elim λa h=>f a h.1 h.2.1 h.2.2.1 h.2.2.2
theorem Wf{py:Sort _}{p1 p2 p3 p4 p5 p6 p7:py->Prop}{Q:Prop}(h:∃a,p1 a/\p2 a/\p3 a/\p4 a/\p5 a/\p6 a/\p7 a)(f:∀a,p1 a->p2 a->p3 a->p4 a->p5 a->p6 a->p7 a->Q):Q:=h.elim λa h=>f a h.1 h.2.1 h.2.2.1 h.2.2.2.1 h.2.2.2.2.1 h.2.2.2.2.2.1 h.2.2.2.2.2.2
theorem Wg{py:Sort _}{p1 p2 p3 p4 p5 p6 p7 p8:py->Prop}{Q:Prop}(h:∃a,p1 a/\p2 a/\p3 a/\p4 a/\p5 a/\p6 a/\p7 a/\p8 a)(f:∀a,p1 a->p2 a->p3 a->p4 a->p5 a->p6 a->p7 a->p8 a->Q):Q:=h.elim λa h=>f a h.1 h.2.1 h.2.2.1 h.2.2.2.1 h.2.2.2.2.1 h.2.2.2.2.2.1 h.2.2.2.2.2.2.1 h.2.2.2.2.2.2.2
theorem sb{py:Sort _}{pH:Sort _}{p1:py->pH->Prop}{Q:Prop}(h:∃a b,p1 a b)(f:∀a b,p1 a b->Q):Q:=h.elim λa h=>h.elim λb h=>f a b h
theorem pK{py:Sort _}{pH:Sort _}{p1 p2:py->pH->Prop}{Q:Prop}(h:∃a b,p1 a b/\p2 a b)(f:∀a b,p1 a b->p2 a b->Q):Q:=h.elim λa h=>h.elim λb h=>f a b h.1 h.2
theorem qe{py:Sort _}{pH:Sort _}{p1 p2 p3:py->pH->Prop}{Q:Prop}(h:∃a b,p1 a b/\p2 a b/\p3 a b)(f:∀a b,p1 a b->p2 a b->p3 a b->Q):Q:=h.elim λa h=>h.elim λb h=>f a b h.1 h.2.1 h.2.2
theorem Ae{py:Sort _}{pH:Sort _}{p1 p2 p3 p4:py->pH->Prop}{Q:Prop}(h:∃a b,p1 a b/\p2 a b/\p3 a b/\p4 a b)(f:∀a b,p1 a b->p2 a b->p3 a b->p4 a b->Q):Q:=h.elim λa h=>h.elim λb h=>f a b h.1 h.2.1 h.2.2.1 h.2.2.2
theorem MY{py:Sort _}{pH:Sort _}{p1 p2 p3 p4 p5:py->pH->Prop}{Q:Prop}(h:∃a b,p1 a b/\p2 a b/\p3 a b/\p4 a b/\p5 a b)(f:∀a b,p1 a b->p2 a b->p3 a b->p4 a b->p5 a b->Q):Q:=h.elim λa h=>h.elim λb h=>f a b h.1 h.2.1 h.2.2.1 h.2.2.2.1 h.2.2.2.2
theorem Bv{py:Sort _}{pH:Sort _}{p1 p2 p3 p4 p5 p6:py->pH->Prop}{Q:Prop}(h:∃a b,p1 a b/\p2 a b/\p3 a b/\p4 a b/\p5 a b/\p6 a b)(f:∀a b,p1 a b->p2 a b->p3 a b->p4 a b->p5 a b->p6 a b->Q):Q:=h.elim λa h=>h.elim λb h=>f a b h.1 h.2.1 h.2.2.1 h.2.2.2.1 h.2.2.2.2.1 h.2.2.2.2.2
theorem MZ{py:Sort _}{pH:Sort _}{p1 p2 p3 p4 p5 p6 p7 p8:py->pH->Prop}{Q:Prop}(h:∃a b,p1 a b/\p2 a b/\p3 a b/\p4 a b/\p5 a b/\p6 a b/\p7 a b/\p8 a b)(f:∀a b,p1 a b->p2 a b->p3 a b->p4 a b->p5 a b->p6 a b->p7 a b->p8 a b->Q):Q:=h.elim λa h=>h.elim λb h=>f a b h.1 h.2.1 h.2.2.1 h.2.2.2.1 h.2.2.2.2.1 h.2.2.2.2.2.1 h.2.2.2.2.2.2.1 h.2.2.2.2.2.2.2
theorem H5{py:Sort _}{pH:Sort _}{qr:Sort _}{p1:py->pH->qr->Prop}{Q:Prop}(h:∃a b c,p1 a b c)(f:∀a b c,p1 a b c->Q):Q:=h.elim λa h=>h.elim λb h=>h.elim λc h=>f a b c h
theorem Fm{py:Sort _}{pH:Sort _}{qr:Sort _}{p1 p2:py->pH->qr->Prop}{Q:Prop}(h:∃a b c,p1 a b c/\p2 a b c)(f:∀a b c,p1 a b c->p2 a b c->Q):Q:=h.elim λa h=>h.elim λb h=>h.elim λc h=>f a b c h.1 h.2
theorem wW{py:Sort _}{pH:Sort _}{qr:Sort _}{p1 p2 p3:py->pH->qr->Prop}{Q:Prop}(h:∃a b c,p1 a b c/\p2 a b c/\p3 a b c)(f:∀a b c,p1 a b c->p2 a b c->p3 a b c->Q):Q:=h.elim λa h=>h.elim λb h=>h.elim λc h=>f a b c h.1 h.2.1 h.2.2
theorem xI{py:Sort _}{pH:Sort _}{qr:Sort _}{p1 p2 p3 p4:py->pH->qr->Prop}{Q:Prop}(h:∃a b c,p1 a b c/\p2 a b c/\p3 a b c/\p4 a b c)(f:∀a b c,p1 a b c->p2 a b c->p3 a b c->p4 a b c->Q):Q:=h.elim λa h=>h.elim λb h=>h.elim λc h=>f a b c h.1 h.2.1 h.2.2.1 h.2.2.2
theorem H6{py:Sort _}{pH:Sort _}{qr:Sort _}{p1 p2 p3 p4 p5 p6:py->pH->qr->Prop}{Q:Prop}(h:∃a b c,p1 a b c/\p2 a b c/\p3 a b c/\p4 a b c/\p5 a b c/\p6 a b c)(f:∀a b c,p1 a b c->p2 a b c->p3 a b c->p4 a b c->p5 a b c->p6 a b c->Q):Q:=h.elim λa h=>h.elim λb h=>h.elim λc h=>f a b c h.1 h.2.1 h.2.2.1 h.2.2.2.1 h.2.2.2.2.1 h.2.2.2.2.2
theorem Wh{py:Sort _}{pH:Sort _}{qr:Sort _}{p1 p2 p3 p4 p5 p6 p7 p8:py->pH->qr->Prop}{Q:Prop}(h:∃a b c,p1 a b c/\p2 a b c/\p3 a b c/\p4 a b c/\p5 a b c/\p6 a b c/\p7 a b c/\p8 a b c)(f:∀a b c,p1 a b c->p2 a b c->p3 a b c->p4 a b c->p5 a b c->p6 a b c->p7 a b c->p8 a b c->Q):Q:=h.elim λa h=>h.elim λb h=>h.elim λc h=>f a b c h.1 h.2.1 h.2.2.1 h.2.2.2.1 h.2.2.2.2.1 h.2.2.2.2.2.1 h.2.2.2.2.2.2.1 h.2.2.2.2.2.2.2
theorem M0{py:Sort _}{pH:Sort _}{qr:Sort _}{rS:Sort _}{p1:py->pH->qr->rS->Prop}{Q:Prop}(h:∃a b c d,p1 a b c d)(f:∀a b c d,p1 a b c d->Q):Q:=h.elim λa h=>h.elim λb h=>h.elim λc h=>h.elim λd h=>f a b c d h
theorem Af{py:Sort _}{pH:Sort _}{qr:Sort _}{rS:Sort _}{p1 p2:py->pH->qr->rS->Prop}{Q:Prop}(h:∃a b c d,p1 a b c d/\p2 a b c d)(f:∀a b c d,p1 a b c d->p2 a b c d->Q):Q:=h.elim λa h=>h.elim λb h=>h.elim λc h=>h.elim λd h=>f a b c d h.1 h.2
theorem wX{py:Sort _}{pH:Sort _}{qr:Sort _}{rS:Sort _}{p1 p2 p3:py->pH->qr->rS->Prop}{Q:Prop}(h:∃a b c d,p1 a b c d/\p2 a b c d/\p3 a b c d)(f:∀a b c d,p1 a b c d->p2 a b c d->p3 a b c d->Q):Q:=h.elim λa h=>h.elim λb h=>h.elim λc h=>h.elim λd h=>f a b c d h.1 h.2.1 h.2.2
theorem Bw{py:Sort _}{pH:Sort _}{qr:Sort _}{rS:Sort _}{p1 p2 p3 p4:py->pH->qr->rS->Prop}{Q:Prop}(h:∃a b c d,p1 a b c d/\p2 a b c d/\p3 a b c d/\p4 a b c d)(f:∀a b c d,p1 a b c d->p2 a b c d->p3 a b c d->p4 a b c d->Q):Q:=h.elim λa h=>h.elim λb h=>h.elim λc h=>h.elim λd h=>f a b c d h.1 h.2.1 h.2.2.1 h.2.2.2
theorem C5{py:Sort _}{pH:Sort _}{qr:Sort _}{rS:Sort _}{p1 p2 p3 p4 p5:py->pH->qr->rS->Prop}{Q:Prop}(h:∃a b c d,p1 a b c d/\p2 a b c d/\p3 a b c d/\p4 a b c d/\p5 a b c d)(f:∀a b c d,p1 a b c d->p2 a b c d->p3 a b c d->p4 a b c d->p5 a b c d->Q):Q:=h.elim λa h=>h.elim λb h=>h.elim λc h=>h.elim λd h=>f a b c d h.1 h.2.1 h.2.2.1 h.2.2.2.1 h.2.2.2.2
theorem H7{py:Sort _}{pH:Sort _}{qr:Sort _}{rS:Sort _}{p1 p2 p3 p4 p5 p6:py->pH->qr->rS->Prop}{Q:Prop}(h:∃a b c d,p1 a b c d/\p2 a b c d/\p3 a b c d/\p4 a b c d/\p5 a b c d/\p6 a b c d)(f:∀a b c d,p1 a b c d->p2 a b c d->p3 a b c d->p4 a b c d->p5 a b c d->p6 a b c d->Q):Q:=h.elim λa h=>h.elim λb h=>h.elim λc h=>h.elim λd h=>f a b c d h.1 h.2.1 h.2.2.1 h.2.2.2.1 h.2.2.2.2.1 h.2.2.2.2.2
theorem Ag{py:Sort _}{pH:Sort _}{qr:Sort _}{rS:Sort _}{p1 p2 p3 p4 p5 p6 p7:py->pH->qr->rS->Prop}{Q:Prop}(h:∃a b c d,p1 a b c d/\p2 a b c d/\p3 a b c d/\p4 a b c d/\p5 a b c d/\p6 a b c d/\p7 a b c d)(f:∀a b c d,p1 a b c d->p2 a b c d->p3 a b c d->p4 a b c d->p5 a b c d->p6 a b c d->p7 a b c d->Q):Q:=h.elim λa h=>h.elim λb h=>h.elim λc h=>h.elim λd h=>f a b c d h.1 h.2.1 h.2.2.1 h.2.2.2.1 h.2.2.2.2.1 h.2.2.2.2.2.1 h.2.2.2.2.2.2
theorem Fo{py:Sort _}{pH:Sort _}{qr:Sort _}{rS:Sort _}{v_:Sort _}{p1:py->pH->qr->rS->v_->Prop}{Q:Prop}(h:∃a b c d e,p1 a b c d e)(f:∀a b c d e,p1 a b c d e->Q):Q:=h.elim λa h=>h.elim λb h=>h.elim λc h=>h.elim λd h=>h.elim λe h=>f a b c d e h
theorem Wi{py:Sort _}{pH:Sort _}{qr:Sort _}{rS:Sort _}{v_:Sort _}{p1 p2:py->pH->qr->rS->v_->Prop}{Q:Prop}(h:∃a b c d e,p1 a b c d e/\p2 a b c d e)(f:∀a b c d e,p1 a b c d e->p2 a b c d e->Q):Q:=h.elim λa h=>h.elim λb h=>h.elim λc h=>h.elim λd h=>h.elim λe h=>f a b c d e h.1 h.2
theorem C6{py:Sort _}{pH:Sort _}{qr:Sort _}{rS:Sort _}{v_:Sort _}{p1 p2 p3:py->pH->qr->rS->v_->Prop}{Q:Prop}(h:∃a b c d e,p1 a b c d e/\p2 a b c d e/\p3 a b c d e)(f:∀a b c d e,p1 a b c d e->p2 a b c d e->p3 a b c d e->Q):Q:=h.elim λa h=>h.elim λb h=>h.elim λc h=>h.elim λd h=>h.elim λe h=>f a b c d e h.1 h.2.1 h.2.2
theorem M1{py:Sort _}{pH:Sort _}{qr:Sort _}{rS:Sort _}{v_:Sort _}{p1 p2 p3 p4:py->pH->qr->rS->v_->Prop}{Q:Prop}(h:∃a b c d e,p1 a b c d e/\p2 a b c d e/\p3 a b c d e/\p4 a b c d e)(f:∀a b c d e,p1 a b c d e->p2 a b c d e->p3 a b c d e->p4 a b c d e->Q):Q:=h.elim λa h=>h.elim λb h=>h.elim λc h=>h.elim λd h=>h.elim λe h=>f a b c d e h.1 h.2.1 h.2.2.1 h.2.2.2
theorem Wj{py:Sort _}{pH:Sort _}{qr:Sort _}{rS:Sort _}{v_:Sort _}{p1 p2 p3 p4 p5:py->pH->qr->rS->v_->Prop}{Q:Prop}(h:∃a b c d e,p1 a b c d e/\p2 a b c d e/\p3 a b c d e/\p4 a b c d e/\p5 a b c d e)(f:∀a b c d e,p1 a b c d e->p2 a b c d e->p3 a b c d e->p4 a b c d e->p5 a b c d e->Q):Q:=h.elim λa h=>h.elim λb h=>h.elim λc h=>h.elim λd h=>h.elim λe h=>f a b c d e h.1 h.2.1 h.2.2.1 h.2.2.2.1 h.2.2.2.2
theorem Wk{py:Sort _}{pH:Sort _}{qr:Sort _}{rS:Sort _}{v_:Sort _}{K6:Sort _}{p1:py->pH->qr->rS->v_->K6->Prop}{Q:Prop}(h:∃a b c d e i,p1 a b c d e i)(f:∀a b c d e i,p1 a b c d e i->Q):Q:=h.elim λa h=>h.elim λb h=>h.elim λc h=>h.elim λd h=>h.elim λe h=>h.elim λi h=>f a b c d e i h
theorem M2{py:Sort _}{pH:Sort _}{qr:Sort _}{rS:Sort _}{v_:Sort _}{K6:Sort _}{α7:Sort _}{α8:Sort _}{p1 p2 p3 p4 p5 p6:py->pH->qr->rS->v_->K6->α7->α8->Prop}{Q:Prop}(h:∃a b c d e i j k,p1 a b c d e i j k/\p2 a b c d e i j k/\p3 a b c d e i j k/\p4 a b c d e i j k/\p5 a b c d e i j k/\p6 a b c d e i j k)(f:∀a b c d e i j k,p1 a b c d e i j k->p2 a b c d e i j k->p3 a b c d e i j k->p4 a b c d e i j k->p5 a b c d e i j k->p6 a b c d e i j k->Q):Q:=h.elim λa h=>h.elim λb h=>h.elim λc h=>h.elim λd h=>h.elim λe h=>h.elim λi h=>h.elim λj h=>h.elim λk h=>f a b c d e i j k h.1 h.2.1 h.2.2.1 h.2.2.2.1 h.2.2.2.2.1 h.2.2.2.2.2
universe u
@[elab_as_elim] theorem oa {α:Sort u}{a b:α}{p:α->Prop} (h:a=b) (x:p b):p a:=h.symm.rec x
@[elab_as_elim] theorem rwj {α:Sort u}{a b:α}{p:α->Prop} (h:b=a) (x:p b):p a:=h.rec x
theorem oq{α:Type _}{r:α}{Q:Prop}(e:none=some r):Q:=nomatch e
theorem P1{α:Type _}{r:α}{Q:Prop}(e:some r=none):Q:=nomatch e
theorem qb{Q:Prop}(e:false=true):Q:=nomatch e
theorem oN{α:Type _}{a r:α}{Q:α->Prop}(e:some a=some r)(k:Q a):Q r:=ag e▸k
theorem yj{α β:Type _}{f:α->β}{o:Option α}{r:β}{Q:β->Prop}(e:o.map f=some r)(k:∀a,o=some a->Q (f a)):Q r:=by
 induction o using aa with
 |none=>exact oq e
 |some a=>exact oN (Q:=Q) e (k a rfl)
theorem qd{α:Type _}{c:Prop}[Decidable c]{a:Option α}{r:α}{Q:Prop}(e:(if c then a else none)=some r)(k:c->a=some r->Q):Q:=by
 by_cases h:c
 ·rw[if_pos h]at e;exact k h e
 ·rw[if_neg h]at e;exact oq e
theorem yV{α:Type _}{c:Prop}[Decidable c]{a:Option α}{r:α}{Q:Prop}(e:(if c then none else a)=some r)(k:¬c->a=some r->Q):Q:=by
 by_cases h:c
 ·rw[if_pos h]at e;exact oq e
 ·rw[if_neg h]at e;exact k h e
theorem Bl{α β:Type _}{o:Option α}{f:α->Option β}{r:β}{Q:Prop}(e:o.bind f=some r)(k:∀a,o=some a->f a=some r->Q):Q:=by
 induction o using aa with
 |none=>exact oq e
 |some a=>exact k a rfl e
theorem qG{a b:Bool}{Q:Prop}(e:(a&&b)=true)(k:a=true->b=true->Q):Q:=k (dR.mp e).1 (dR.mp e).2
theorem SU{α:Type}{M:m9}{A:br}{t:fe α}{K:α->ah->Prop}{E:Value->ah->Prop}{s:ah}(h:∀Q:α->ah->Prop,(∀a s',K a s'->Q a s')->ao M A t Q E s):ao M A t K E s:=h K λY Y h=>h
theorem wg{α:Type _}{C:α->Prop}:∀x∈([]:List α),C x:=λY h=>nomatch h
theorem oZ{α:Type _}{C:α->Prop}{a:α}{l:List α}(h:C a)(r:∀x∈l,C x):∀x∈a::l,C x:=lx.mpr ⟨h,r⟩
theorem zx{α:Type _}{r:α}{Q:Prop}(e:some none=some (some r)):Q:=nomatch e
theorem HG{α:Type _}{a r:α}{Q:α->Prop}(e:some (some a)=some (some r))(k:Q a):Q r:=ag (ag e)▸k
theorem Py{α:Type _}{Q:List α->Prop}{l:List α}(h:l.length=1)(k:∀a,Q [a]):Q l:=by
 induction l using af with
 |nil=>cases h
 |cons a l=>induction l using af with
  |nil=>exact k a
  |cons=>cases h
theorem Pz{α:Type _}{Q:List α->Prop}{l:List α}(h:l.length=2)(k:∀a b,Q [a,b]):Q l:=by
 induction l using af with
 |nil=>cases h
 |cons a l=>exact Py (Q:=λl=>Q (a::l)) (bD h) (k a)
theorem wbn{α:Type _}{Q:List α->Prop}{l:List α}(h:l.length=3)(k:∀a b c,Q [a,b,c]):Q l:=by
 induction l using af with
 |nil=>cases h
 |cons a l=>exact Pz (Q:=λl=>Q (a::l)) (bD h) (k a)
noncomputable def tn(k:Nat):Stmt:=(ff.main.body[k]?).getD (.Pass default)
noncomputable def Qf:List (Option Expr)->List Expr->List (Int×Str)
 |some (.Constant (.int k) _ _)::ks,.Constant (.str x) _ _::vs=>(k,x)::Qf ks vs
 |_,_=>[]
noncomputable def Ly:List (Int×Str):=match tn 15 with
 | .Assign _ (.Dict ks vs _) _=>Qf ks vs
 |_=>[]
noncomputable def wM(k:Int):Option Str:=Ly.lookup k
noncomputable def EQ:List Int:=[173,847,6150,6155,6156,6157,8203,8204,8205,8288,65279]
noncomputable def rJ(k:Int):Bool:=EQ.contains k||(decide (65024<=k)&&decide (k<65040))
end
section
open PySem PySem.W PyProof.Rows
section
variable {K:Type}[DecidableEq K]{pt:KeyKind oj wd K}{A:br}{E:Value->ah->Prop}{s:ah}
theorem UN(BO:pt.is k key=true)(hm:s.heap.DictOf pt d oQ)(hQ:∀h',h'.DictOf pt d (stored oQ k v)->bF d s.heap h'->Q () {s with heap:=h'})(pi:oQ.length<=fv:=by size_fits):
 ao (ar oj wd) A (dictPut d (pt.hash k) key v) Q E s:=by
 refine H6 hm λo es ep ho hc hd hk hp hn=>?_;have Ap:es.size<=fv:=by
  have e1:=hp.length;have e2:es.toList.length=es.size:=by simp
  exact GW e1 pi
 unfold dictPut;refine an (wpAny_dictFind_of BO ho hd hk ?_);have I3:(es.findIdx? λe=>pt.is k e.key)=oQ.findIdx? λkv=>decide (kv.1=k):=by
  rw[<-hp.findIdx k];obtain⟨l⟩:=es;simp
 induction hi:es.findIdx? λe=>pt.is k e.key using aa with
 |some i =>
  refine wpAny_updateDict ho hd (hQ _ ⟨_,_,ep,ey _ ho (lX (m5 hd _)),
   hc.mapDict _,m5 hd _,hk.modify _ _,?_,?_⟩ (eB ..))
  ·rw[stored,if_pos (ng (I3▸hi))];have hl:(es.toList.findIdx? λe=>pt.is k e.key)=some i:=by rw[<-hi];obtain⟨l⟩:=es;simp
   have:=hp.modify hn hl v;obtain⟨l⟩:=es;simpa using this
  ·rw[stored,if_pos (ng (I3▸hi)),keys_map_store];exact hn
 |none =>
  have Oz:k∉oQ.map (·.1):=not_mem_of_findIdx_none (I3▸hi);have N3:¬(oQ.any λkv=>decide (kv.1=k))=true:=by
   rw[hY];rintro⟨kv,Du,he⟩;exact Oz (aE.mpr ⟨kv,Du,of_decide_eq_true he⟩)
  refine wpAny_updateDictKeys (hz:=Ap) ho hd (hQ _ ⟨_,_,ep+1,ey _ ho (lX (lF hd _)),
   hc.mapDictKeys _,lF hd _,hk.push BO _,?_,?_⟩ (eB ..))
  ·rw[stored,if_neg N3];have:=hp.append BO (pt.hash k) v;obtain⟨l⟩:=es;simpa using this
  ·rw[stored,if_neg N3,bo,dk];refine qJ hn (by simp) ?_;intro a ha b hb;simp only[aU,nT,aI]at hb;subst hb;exact λe=>Oz (e▸ha)
theorem wed(h:x::oG=bp i (n-i)):x=i/\oG=bp (i+1) (n-(i+1))/\i<n:=by
 induction e:n-i using ce with
 |zero=>rw[e]at h;exact nomatch h
 |succ k =>
  rw[e,fL]at h;injection h with h1 h2
  refine qJ h1 ?_ (iy e);refine oa h2 ?_;refine oa (Nat.sub_succ _ _) ?_;refine oa e ?_;rfl
theorem web(h:[]=bp i (n-i))(hi:i<=n):i=n:=by
 induction e:n-i using ce with
 |zero=>exact Nat.le_antisymm hi (Nat.sub_eq_zero_iff_le.mp e)
 |succ k=>rw[e,fL]at h;exact nomatch h
noncomputable def G5(pt:KeyKind oj wd K)(d o:aw)(oo:nk)(n:Nat)(oQ tD:List (K×Value))(s:ah)(oG:List Nat)(s':ah):Prop :=
 ∃h' i,s'={s with heap:=h'}/\oG=bp i (n-i)/\i<=n/\h'.DictOf pt d (merged oQ (tD.take i))/\h'.get? o=some oo/\bF d s.heap h'
theorem G5.elim{d o:aw}{oo:nk}{n:Nat}{oQ tD:List (K×Value)}{oG:List Nat}{s':ah}{Q:ah->Prop}(h:G5 pt d o oo n oQ tD s oG s')(k:∀h' i,oG=bp i (n-i)->i<=n->h'.DictOf pt d (merged oQ (tD.take i))->h'.get? o=some oo->bF d s.heap h'->Q {s with heap:=h'}):Q s':=by
 refine Bv h λh' i e h1 h2 h3 h4 h5=>?_;refine oa e ?_;exact k h' i h1 h2 h3 h4 h5
theorem wci{d o:aw}{oQ tD:List (K×Value)}{Q:Unit->ah->Prop}(Yz:d≠o)(Zc:(o==bN)=false)(q9:oQ≠[])(hd:s.heap.DictOf pt d oQ)(ho:s.heap.DictOf pt o tD)(hQ:∀h',h'.DictOf pt d (merged oQ tD)->bF d s.heap h'->Q () {s with heap:=h'})(pi:oQ.length+tD.length<=fv):
 ao (ar oj wd) A (l_ d (.ref o) false) Q E s:=by
 refine H6 (id hd) λod VE epd Zf Ys IW BN OC rk=>?_;refine H6 (id ho) λoo Fc epo Jc IV FK Y0 OE zg=>?_;have oU:tD.length=Fc.size:=OE.length.symm.trans lA;have YF:VE.isEmpty=false:=jm.mpr λhe=>q9 (bC.mp (OC.length.symm.trans (by refine oa (Array.isEmpty_iff.mp he) ?_;rfl)));clear rk Ys BN OC IV zg q9;refine SU λR hR=>?_;unfold l_;refine an (wpAny_isInstance ho.typeIs F.sub_dict_dict ?_);refine oa (if_pos rfl) ?_;refine an (wpAny_specialOf ho.typeIs F.slot_dict_iter.lookup ?_);refine an (aQ ?_);have h1:(some (nh "dict.__iter__")==some (nh "dict.__iter__"))=true:=by decide
 refine oa h1 ?_;dsimp only;rw[if_neg (by refine oa Zc ?_;exact bA)];refine an (jP Zf IW ?_);refine oa YF ?_;refine oa (if_neg bA) ?_;refine an (jP Jc FK ?_);refine an (wpAny_dictEpoch Jc FK ?_);refine an ?_;refine oa fY ?_;refine wpAny_forIn_list _ (λoG Y s'=>G5 pt d o oo Fc.size oQ tD s oG s') _ (λx oG b s' H=>?_) (λb s' H=>?_) _ _ ⟨s.heap,0,rfl,by simp,dh _,by simpa [merged]using hd,Jc,ky _ _⟩
 ·refine H.elim λh' i hr hi yq Jd sq=>?_;refine tR (wed hr) ?_;rintro rfl Zp o9;refine an (jP Jd FK ?_);refine oa (Array.getElem?_eq_getElem o9) ?_;have Du:tD[x]?=some (tD[x]'(by refine oa oU ?_;exact o9)):=au _;generalize tD[x]'(by refine oa oU ?_;exact o9)=kv at Du;refine p_ (OE.get? (e:=Fc[x]) (by simp[o9]) (v:=kv.2) (k:=kv.1) Du) λBO F2=>?_;refine oB (Y0 Fc[x] (Array.getElem_mem o9)) λk' YZ Og=>?_;rw[pt.inj _ _ _ YZ BO]at Og;dsimp only;refine oa (if_neg bA) ?_;have Y8:(merged oQ (tD.take x)).length<=fv:=ae (merged_length_le oQ (tD.take x)) (ae (gu (lq _ _) _) pi);refine oa Og ?_;refine oa F2 ?_;refine an (cF (UN (pi:=Y8) BO yq λuM Yw OM=>?_));have OA:uM.get? o=some oo:=(OM.2 o (io Yz)).trans Jd;refine an (wpAny_dictEpoch OA FK ?_);refine oa (if_neg (by simp)) ?_;exact aQ ⟨uM,x+1,rfl,Zp,o9,by refine oa (merged_take_succ oQ tD x kv Du) ?_;exact Yw,OA,sq.trans OM⟩
 ·refine H.elim λh' i hr hi yq Jd sq=>aQ (hR _ _ (hQ h' ?_ sq));rw[web hr hi,<-oU,jy]at yq;exact yq
end
section
variable {K:Type}[DecidableEq K]
inductive sV:List (K×(Value->Prop))->List (K×Value)->Prop
 |nil:sV [] []
 |cons {k:K}{P:Value->Prop}{v:Value}{l:List (K×(Value->Prop))}{oQ:List (K×Value)} (h:P v) (r:sV l oQ):sV ((k,P)::l) ((k,v)::oQ)
theorem sV.length(r:sV l oQ):oQ.length=l.length:=by
 induction r with
 |nil=>rfl
 |cons _ _ ih=>exact congrArg ek ih
theorem sV.append(r:sV l oQ)(q:sV l' DR):sV (l++l') (oQ++DR):=by
 induction r with
 |nil=>exact q
 |cons h _ ih=>exact .cons h ih
end
section
variable {K:Type}[DecidableEq K]{pt:KeyKind oj wd K}{A:br}{E:Value->ah->Prop}{s:ah}{oS:bU}
noncomputable abbrev t4(h h':bU):Prop:=∀b o,h.get? b=some o->h'.get? b=some o
noncomputable def RJ(pt:KeyKind oj wd K)(A:br)(oS:bU)(p:fe Value×fe Value)(k:K×(Value->Prop)):Prop :=
 ∀(E:Value->ah->Prop) (s:ah) (Q:Value->Value->ah->Prop),t4 oS s.heap->(∀kv vv tk,pt.is k.1 kv=true->k.2 vv->Q kv vv {s with toks:=tk}) ->
  ao (ar oj wd) A p.1 (λkv ou=>ao (ar oj wd) A p.2 (λvv oJ=>Q kv vv oJ) E ou) E s
inductive sX(pt:KeyKind oj wd K) (A:br) (oS:bU):List (fe Value×fe Value)->List (K×(Value->Prop))->Prop
 |nil:sX pt A oS [] []
 |cons {p:fe Value×fe Value}{k:K×(Value->Prop)}{ps:List (fe Value×fe Value)}{ks:List (K×(Value->Prop))} (h:RJ pt A oS p k) (r:sX pt A oS ps ks):sX pt A oS (p::ps) (k::ks)
theorem sX.length(r:sX pt A oS ps ks):ps.length=ks.length:=by
 induction r with
 |nil=>rfl
 |cons _ _ ih=>exact congrArg ek ih
theorem sX.append(r:sX pt A oS ps ks)(q:sX pt A oS ps' zn):sX pt A oS (ps++ps') (ks++zn):=by
 induction r with
 |nil=>exact q
 |cons h _ ih=>exact .cons h ih
theorem Wb(r:sX pt A oS ps ks):∀{s:ah}{Q:List (Value×Value)->ah->Prop},t4 oS s.heap ->
 (∀vs oQ tk,Carries pt vs oQ->sV ks oQ->vs.length=ps.length->Q vs {s with toks:=tk})->ao (ar oj wd) A (evalPairs ps) Q E s:=by
 induction r with
 |nil=>exact λ{s Q} hx h=>aQ (h [] [] s.toks trivial .nil rfl)
 | @cons p k ps ks hp r ih =>
  exact λ{s Q} hx h=>evalPairs_cons (hp E s _ hx λkv vv tk h1 h2=>ih hx λvs oQ u0 h3 h4 h5=>h ((kv,vv)::vs) ((k.1,vv)::oQ) u0 ⟨h1,rfl,h3⟩ (.cons h2 h4) (congrArg ek h5))
theorem GB(hx:t4 oS h)(hs:bF d h h')(hd:oS.objs.size<=d):t4 oS h':=λb o e=>hs.extBut b o (λq=>bu.mpr hd (q▸aN e)) (hx b o e)
theorem wbz(xN:oS.objs.size<=d)(r:sX pt A oS ps ks):∀{acc:List (K×Value)}{s:ah}{Q:PUnit->ah->Prop},t4 oS s.heap->s.heap.DictOf pt d acc->acc.length+ps.length<=fv ->
 (∀oQ h' tk,sV ks oQ->h'.DictOf pt d (merged acc oQ)->bF d s.heap h'->Q jZ {s with heap:=h',toks:=tk}) ->
 ao (ar oj wd) A (forIn ps jZ λ(x:fe Value×fe Value) (_:PUnit)=>(do
  let kv <-x.1;let vv <-jg [kv] x.2
  jg [kv,vv] (dictSet d kv vv)
  pure (dW jZ):fe (ForInStep PUnit))) Q E s:=by
 induction r with
 |nil =>
  intro acc s Q hx hm pi h;refine oa fy ?_;exact aQ (h [] s.heap s.toks .nil (by simpa [merged]using hm) (ky _ _))
 | @cons p k ps ks hp r ih =>
  intro acc s Q hx hm pi h;rw[gb];refine an (an (b9 (hp E s (λkv vv s'=>ao (ar oj wd) A (do jg [kv,vv] (dictSet d kv vv);pure (dW jZ)) (λa qV=>ao (ar oj wd) A _ Q E qV) E s') hx λkv vv tk h1 h2=>?_) (λkv ou o7=>an (cF o7)) λY Y e=>e));rw[aF]at pi;refine an (cF (wpAny_dictSet_pairs (hsz:=ae (aV _ _) pi) h1 hm λo7 Y9 OP=>aQ ?_));exact ih (GB hx OP xN) Y9 (ae (Nat.add_le_add_right (stored_length_le acc k.1 vv) _) (by refine oa (Nat.succ_add _ _) ?_;exact pi)) λoQ h' u0 h3 h4 h5=>h ((k.1,vv)::oQ) h' u0 (.cons h2 h3) (by simpa [merged]using h4) (OP.trans h5)
theorem QO(hP:sX pt A oS ps ks)(hx:t4 oS s.heap)(xN:oS.objs.size<=s.heap.objs.size)(pi:ps.length<=1000)(h:∀oQ h' tk,sV ks oQ->h'.DictOf pt s.heap.objs.size (merged [] oQ)->bF s.heap.objs.size (s.heap.push {cls:=.type "dict",data:=.dict #[]}) h'->Q s.heap.objs.size {s with heap:=h',toks:=tk}):
 ao (ar oj wd) A (nL ps) Q E s:=by
 unfold nL;refine an (mU ?_);have hm:(s.heap.push {cls:=.type "dict",data:=.dict #[]}).DictOf pt s.heap.objs.size []:=i5 ..;have s4:t4 oS (s.heap.push {cls:=.type "dict",data:=.dict #[]}):=λb o e=>av _ (hx b o e);refine an (cF ?_);by_cases hl:ps.length<=15
 ·refine oa (if_pos hl) ?_;refine an (Wb hP s4 λvs oQ tk h1 h2 h3=>cF ?_);refine an (wpAny_storeAll (knd:=pt) vs oQ [] _ _ h1 hm (by have:=h1.length;refine oa mX ?_;refine oa dq ?_;lia) λh' vS sq=>aQ (aQ ?_));exact h oQ h' _ h2 vS sq
 ·refine oa (if_neg hl) ?_;refine an (iJ ?_);refine an (wbz xN hP s4 hm (by refine oa mX ?_;refine oa dq ?_;lia) λoQ h' tk h1 h2 h3=>aQ (aQ ?_));exact h oQ h' tk h1 h2 h3
end
section
variable {K:Type}[DecidableEq K]{pt:KeyKind oj wd K}{A:br}{E:Value->ah->Prop}{s:ah}{oS:bU}
theorem sV.keys{l:List (K×(Value->Prop))}{oQ:List (K×Value)}(r:sV l oQ):oQ.map (·.1)=l.map (·.1):=by
 induction r with
 |nil=>rfl
 |cons _ _ ih=>exact congrArg (List.cons _) ih
theorem sV.merged{l:List (K×(Value->Prop))}(r:sV l oQ)(hn:(l.map (·.1)).Nodup):merged [] oQ=oQ:=merged_nil_of_nodup _ (by refine oa r.keys ?_;exact hn)
noncomputable def Fw(run:List (fe Value×fe Value))(main:Option aw):fe (Option aw):=
 if run.isEmpty=true then pure main
 else match main with
  |none=>do
   let __do_lift <-nL run
   pure (some __do_lift)
  |some d=>do
   let sub <-jg [dB d] (nL run)
   (jg [dB d,dB sub] (l_ d (dB sub) false)).onRaise λx=>do
    let _ <-jg [dB d,x] (runValue (Code.builtin "proto.let_go" { }))
    pure ()
   pure (some d)
structure ED(pt:KeyKind oj wd K) (oS:bU) (main:Option aw) (ks:List (K×(Value->Prop))) (s:ah):Prop where
 ex:t4 oS s.heap
 sz:oS.objs.size<=s.heap.objs.size
 st:(main=none/\ks=[])\/∃D oQ,main=some D/\sV ks oQ/\oQ≠[]/\oS.objs.size<=D/\s.heap.DictOf pt D oQ
theorem Nk{main:Option aw}{run:List (fe Value×fe Value)}{ks uc:List (K×(Value->Prop))}{Q:Option aw->ah->Prop}(S:ED pt oS main ks s)(hP:sX pt A oS run uc)(vg:bN<oS.objs.size)(pi:ks.length+uc.length<=1000)(rk:((ks++uc).map (·.1)).Nodup)(h:∀m' h' tk,ED pt oS m' (ks++uc) {s with heap:=h',toks:=tk}->Q m' {s with heap:=h',toks:=tk}):ao (ar oj wd) A (Fw run main) Q E s:=by
 unfold Fw;cases hP with
 |nil=>exact aQ (h main s.heap s.toks (by refine oa (bB _) ?_;exact S))
 | @cons p k ps zn hp r =>
  refine oa (if_neg (by simp)) ?_;have hP:sX pt A oS (p::ps) (k::zn):=.cons hp r;have hlr:=hP.length;have Ow:=rk;rw[bo,dk]at Ow;refine tR Ow λDx FY Y=>?_;rcases S.st with⟨rfl,rfl⟩|⟨D,oQ,rfl,h1,h2,h3,h4⟩
  ·refine an (QO hP S.ex S.sz (by lia) λoQ h' tk k1 k2 k3=>aQ ?_);have hz:h'.objs.size=s.heap.objs.size+1:=by refine oa k3.1 ?_;refine oa (bg _ _) ?_;rfl
   refine h _ _ _ ⟨GB (λb o e=>av _ (S.ex b o e)) k3 S.sz,by show _<=h'.objs.size;refine oa hz ?_;exact gU S.sz,.inr ⟨_,oQ,rfl,by refine oa (cS _) ?_;exact k1,?_,S.sz,by rw[k1.merged FY]at k2;exact k2⟩⟩;intro q;subst q;cases k1
  ·refine an (cF (QO hP S.ex S.sz (by lia) λDR h' tk k1 k2 k3=>?_));have hz:h'.objs.size=s.heap.objs.size+1:=by refine oa k3.1 ?_;refine oa (bg _ _) ?_;rfl
   have X8:D<s.heap.objs.size:=by
    refine Fm h4 λo Y Y e Y=>?_;exact aN e
   have q9:D≠s.heap.objs.size:=cp X8;have X6:h'.DictOf pt D oQ:=by
    refine Fm h4 λo es ep e r=>?_;exact⟨o,es,ep,k3.extBut _ _ q9 (av _ e),r⟩
   rw[k1.merged FY]at k2;have l3:=h1.length;have l4:=k1.length;refine an (wpAny_onRaise (cF (wci q9 ?_ h2 X6 k2 (λuM m1 m2=>aQ ?_) (by refine oa mX ?_;lia))))
   ·exact beq_eq_false_iff_ne.mpr (cO (ab vg S.sz))
   ·refine h _ _ _ ⟨GB (GB (λb o e=>av _ (S.ex b o e)) k3 S.sz) m2 h3,by show _<=uM.objs.size;refine oa m2.1 ?_;refine oa hz ?_;exact gU S.sz,.inr ⟨D,oQ++DR,rfl,h1.append k1,by simp[h2],h3,?_⟩⟩;have e:merged oQ DR=oQ++DR:=merged_append_of_fresh _ _ (by refine oa bo ?_;refine oa h1.keys ?_;refine oa k1.keys ?_;refine rwj bo ?_;exact rk);refine rwj e ?_;exact m1
theorem XO(f:(Option (fe Value)×fe Value)->(Option aw×List (fe Value×fe Value))->fe (ForInStep (Option aw×List (fe Value×fe Value))))(hf:∀(p:fe Value×fe Value) (st:Option aw×List (fe Value×fe Value)),f (some p.1,p.2) st=(if((st.2++[p]).length==17)=true then(do
 let main <-Fw (st.2++[p]) st.1
 pure (.yield (main,[])))else pure (.yield (st.1,st.2++[p])))) (vg:bN<oS.objs.size) {ps:List (fe Value×fe Value)}{ks:List (K×(Value->Prop))} (rr:sX pt A oS ps ks):∀{main:Option aw}{run:List (fe Value×fe Value)}{xW uc:List (K×(Value->Prop))}{s:ah}{Q:(Option aw×List (fe Value×fe Value))->ah->Prop},ED pt oS main xW s->sX pt A oS run uc->xW.length+uc.length+ks.length<=1000->((xW++uc++ks).map (·.1)).Nodup ->
 (∀m' Gz zo Ge h' tk,ED pt oS m' zo {s with heap:=h',toks:=tk}->sX pt A oS Gz Ge->zo++Ge=xW++uc++ks->Q (m',Gz) {s with heap:=h',toks:=tk}) ->
 ao (ar oj wd) A (forIn (ps.map λp=>(some p.1,p.2)) (main,run) f) Q E s:=by
 induction rr with
 |nil =>
  intro main run xW uc s Q S hr pi rk h;refine oa nT ?_;refine oa fy ?_;exact aQ (h main run xW uc s.heap s.toks S hr (by refine oa (bB _) ?_;rfl))
 | @cons p k ps ks hp r ih =>
  intro main run xW uc s Q S hr pi rk h;refine oa aU ?_;rewrite [gb];refine oa (hf _ _) ?_;dsimp only;have FZ:sX pt A oS (run++[p]) (uc++[k]):=hr.append (.cons hp .nil);rw[aF]at pi;have e1:xW++uc++k::ks=xW++(uc++[k])++ks:=by simp
  rw[e1]at rk h;have l1:(uc++[k]).length=uc.length+1:=aq;split
  ·refine an (an (Nk S FZ vg (by lia) (by rw[bo,dk]at rk;exact rk.1) λm' h' tk S'=>aQ ?_));refine ih S' .nil (by simp only[aq,aF,dq];exact Ev pi) (by simpa using rk) λGj Ko zo JL uM u0 yN Jh e=>?_;exact h Gj Ko zo JL uM u0 yN Jh (by refine oa e ?_;simp)
  ·refine an (aQ ?_);refine ih S FZ (by simp only[aq,aF,dq];exact Ev pi) (by simpa using rk) λGj Ko zo JL uM u0 yN Jh e=>?_;exact h Gj Ko zo JL uM u0 yN Jh e
theorem Ml{ps:List (fe Value×fe Value)}{ks:List (K×(Value->Prop))}{Q:Value->ah->Prop}(hP:sX pt A s.heap ps ks)(vg:bN<s.heap.objs.size)(pi:ps.length<=1000)(q9:ps≠[])(rk:(ks.map (·.1)).Nodup)(h:∀D oQ h' tk,s.heap.objs.size<=D->sV ks oQ->h'.DictOf pt D oQ->t4 s.heap h'->s.heap.objs.size<=h'.objs.size->Q (.ref D) {s with heap:=h',toks:=tk}):
 ao (ar oj wd) A (kA (ps.map λp=>(some p.1,p.2))) Q E s:=by
 unfold kA;dsimp only;have hl:=hP.length;refine an (XO (oS:=s.heap) _ (λp st=>rfl) vg hP (xW:=[]) ⟨λY Y e=>e,ai _,.inl ⟨rfl,rfl⟩⟩ .nil (by simp only[dq];lia) (by simpa using rk) λm' Gz zo Ge h' tk S' FZ e=>?_);rw[cS,cS]at e;have FR:zo.length+Ge.length=ks.length:=by refine rwj aq ?_;refine oa e ?_;rfl
 refine an (?_:ao (ar oj wd) A (Fw Gz m') _ E _);refine Nk S' FZ vg (by lia) (by refine oa e ?_;exact rk) λGj uM u0 yN=>?_;rw[e]at yN;rcases yN.st with⟨_,e2⟩|⟨D,oQ,rfl,h1,h2,h3,h4⟩
 ·exfalso;rw[e2]at hl;exact q9 (bC.mp hl)
 ·exact aQ (h D oQ uM u0 h3 h1 h4 yN.ex yN.sz)
end
end
section
open PySem
set_option genInjectivity true in
set_option genCtorIdx true in
inductive AV where
 |none
 |bool (b:Bool)
 |int (i:Int)
 |flt (x:UInt64)
 |str (cs:List Nat)
 |tup (vs:List AV)
 |lst (vs:List AV)
 |dct (es:List (Int×AV))
 |ref (i:Nat)
 |tok
set_option genInjectivity true in
set_option genCtorIdx true in
inductive AO where
 |list (vs:List AV)
 |dict (es:List (Int×AV))
 |gone
inductive Fn where
 |range|len|sum|max|min|listVals|listRange|ord|chr|int|divmod|isBool|isInt|reversed
 |bitLength|index|find|join|split|count|get|values
 |user (k:Nat)
set_option genInjectivity true in
set_option genCtorIdx true in
inductive EF where
 |divLimit|ntOffset|endMarker|tok
set_option genInjectivity true in
mutual
inductive Ex where
 |c (v:Const)
 |var (i:Nat)
 |glob (g:EF)
 |bin (op:Operator) (a b:Ex)
 |un (op:UnaryOp) (a:Ex)
 |cmp (op:CmpOp) (a b:Ex)
 |and (es:qh)
 |or (es:qh)
 |ite (c a b:Ex)
 |list (es:qh)
 |tup (es:qh)
 |dict (ks vs:qh)
 |idx (a i:Ex)
 |slice (a:Ex) (lo hi:EE)
 |call (f:Fn) (as:qh)
 |comp (n:Nat) (gs:wI)
 |bad
inductive qh where
 |nil
 |cons (e:Ex) (es:qh)
inductive EE where
 |none
 |some (e:Ex)
inductive wI where
 |done (e:Ex)
 |cons (x:Nat) (it:It) (ifs:qh) (oG:wI)
inductive It where
 |range (as:qh)
 |rev (e:Ex)
 |val (e:Ex)
end
noncomputable def tJ:Ex->It
 | .call .range as=>.range as
 | .call .reversed (.cons a .nil)=>.rev a
 |e=>.val e
mutual
inductive St where
 |asg (x:Nat) (GJ:Bool) (e:Ex)
 |unp (xs:List Nat) (e:Ex)
 |asgT (xs:List (Nat×Bool)) (es:qh)
 |aug (x:Nat) (op:Operator) (e:Ex)
 |app (o e:Ex)
 |rev (o:Ex)
 |put (x:Nat) (k v:Ex)
 |ife (c:Ex) (a b:rG)
 |for_ (x:Nat) (it:It) (body:rG)
 |while_ (c:Ex) (body:rG)
 |ret (e:Ex)
 |bad
inductive rG where
 |nil
 |cons (s:St) (ss:rG)
end
noncomputable def t_:List (Str×Fn):=[("range",.range),("len",.len),("sum",.sum),("max",.max),("min",.min),("ord",.ord),("chr",.chr),("int",.int),("divmod",.divmod),("reversed",.reversed),
 ("_div2n1n",.user 0),("_int2digits",.user 1),("_digits2int",.user 2),("_divmod_pos",.user 3),("int_divmod",.user 4),("rgb_to_hls",.user 5),("rgb_to_hsv",.user 6),("hsv_to_rgb",.user 7),
 ("in_table_b1",.user 8),("map_table_b3",.user 9),("ISTERMINAL",.user 10),("ISNONTERMINAL",.user 11),("ISEOF",.user 12),("_law_word",.user 13),("_law_page",.user 14),("_law_read",.user 15),
 ("_law_net",.user 16),("_law_lamps",.user 17),("_law_paintings",.user 18),("_law_classes",.user 19),("_law_plain",.user 20),("law",.user 21)]
noncomputable def vq:List (Str×Fn):=[("bit_length",.bitLength),("index",.index),("find",.find),("join",.join),("split",.split),("count",.count),("get",.get)]
noncomputable def Di:List (Str×EF):=[("_DIV_LIMIT",.divLimit),("NT_OFFSET",.ntOffset),("ENDMARKER",.endMarker),("EXACT_TOKEN_TYPES",.tok)]
structure Tb where
 names:List (Str×cX)
 vars:List (Str×Nat)
 next:Nat
noncomputable def Gw(x:Str):Bool:=!(x==("__debug__":Str))&&!(x==("__classdict__":Str))
noncomputable def Tb.celled(T:Tb)(x:Str):Bool:=T.names.lookup x==some .cell||T.names.lookup x==some .free
noncomputable def Tb.var(T:Tb)(x:Str):Option Nat:=match T.names.lookup x with
 |some .local|some .cell|some .free=>if Gw x then T.vars.lookup x else none
 |_=>none
noncomputable def Tb.own(T:Tb)(x:Str):Option Nat:=if T.names.lookup x==some .local||T.names.lookup x==some .cell then T.var x else none
noncomputable def Tb.isGlobal(T:Tb)(x:Str):Bool:=T.names.lookup x==some .globalImplicit&&Gw x
noncomputable def J5(l:List (Str×cX)):Bool:=decide (l.map (·.1)).Nodup
noncomputable def sD(sc:cj):List Str:=sc.names.filterMap λ(n,k)=>if(k==.local||k==.cell)&&n != (".0":Str)then some n else none
noncomputable def BB(sc:cj):List Str:=sc.names.filterMap λ(n,k)=>if k==.free then some n else none
noncomputable def Tb.comp(T:Tb)(sc:cj):Tb :=
 { names:=sc.names,vars:=(sD sc).zipIdx.map (λ(n,j)=>(n,T.next+j))++(BB sc).filterMap (λn=>(T.var n).map (n,·)),next:=T.next+(sD sc).length}
noncomputable def AN(T:Tb):Bool:=T.vars.all λa=>decide (a.2<T.next)&&T.vars.all λb=>a.2 != b.2||a.1==b.1
noncomputable def Lw:Expr->Bool
 | .Call (.Name _ _) [] [] _=>false
 |_=>true
noncomputable def s5(o:Expr)(n:Nat)(A9 pos:cq):Bool:=Lw o&&(A9.endLine==pos.line)&&decide (n<20)
noncomputable def Hy(o:Option Nat)(it:It)(ifs:qh)(gs:wI):wI:=match o with
 |some i=>.cons i it ifs gs
 |none=>.done .bad
noncomputable def JO:qh->Ex
 | .cons (.call .values as) .nil=>.call .listVals as
 | .cons (.call .range as) .nil=>.call .listRange as
 |_=>.bad
noncomputable def Pj(T:Tb):List Expr->Option Fn
 | [_,.Name t _]=>if T.isGlobal t&&t==("bool":Str)then some .isBool else if T.isGlobal t&&t==("int":Str)then some .isInt else none
 |_=>none
noncomputable def JH(g:Fn):qh->Ex
 | .cons e _=>.call g (.cons e .nil)
 | .nil=>.bad
noncomputable def wcq(T:Tb)(f:Str)(as:List Expr)(es:qh):Ex :=
 if f==("list":Str)then JO es
 else if f==("isinstance":Str)then(match Pj T as with|some g=>JH g es|none=>.bad)
 else match t_.lookup f with
  |some g=>if as.isEmpty then .bad else .call g es
  |none=>.bad
noncomputable def JX(m:Str)(ok:Bool)(o:Ex)(none_:Bool)(es:qh):Ex :=
 if ok then(if m==("values":Str)then(if none_ then .call .values (.cons o .nil)else .bad)else match vq.lookup m with
  |some g=>.call g (.cons o es)
  |none=>.bad)else .bad
mutual
noncomputable def oy(T:Tb):Expr->Ex
 | .Constant c _ _=>.c c
 | .Name x _=>match T.var x with
  |some i=>.var i
  |none=>if T.isGlobal x then(match Di.lookup x with|some g=>.glob g|none=>.bad)else .bad
 | .BinOp a op b _=>.bin op (oy T a) (oy T b)
 | .UnaryOp op a _=>.un op (oy T a)
 | .Compare a [op] [b] _=>if ig op b then .bad else .cmp op (oy T a) (oy T b)
 | .BoolOp .And (e::es) _=>.and (.cons (oy T e) (pk T es))
 | .BoolOp .Or (e::es) _=>.or (.cons (oy T e) (pk T es))
 | .IfExp c a b _=>.ite (oy T c) (oy T a) (oy T b)
 | .List es _=>.list (pk T es)
 | .Tuple es _ _=>.tup (pk T es)
 | .Dict ks vs _=>if ks.all j6 then .dict (Ek T ks) (pk T vs)else .bad
 | .Subscript a (.Slice lo hi none _) _=>.slice (oy T a) (yE T lo) (yE T hi)
 | .Subscript a i _=>.idx (oy T a) (oy T i)
 | .Call (.Name f _) as [] _=>if T.isGlobal f then wcq T f as (pk T as)else .bad
 | .Call (.Attribute o m A9) as [] pos=>JX m (s5 o as.length A9 pos) (oy T o) as.isEmpty (pk T as)
 | .ListComp oK gens sc _=>if sc.kind==.function&&J5 sc.names&&gens.all (λg=>g.is_async==0)&&(BB sc).all T.celled&&AN (T.comp sc)then .comp (sD sc).length (vz T (T.comp sc) (oy (T.comp sc) oK) gens)else .bad
 |_=>.bad
noncomputable def pk(T:Tb):List Expr->qh
 | []=>.nil
 |e::es=>.cons (oy T e) (pk T es)
noncomputable def Ek(T:Tb):List (Option Expr)->qh
 | []=>.nil
 |some e::es=>.cons (oy T e) (Ek T es)
 |none::es=>.cons .bad (Ek T es)
noncomputable def yE(T:Tb):Option Expr->EE
 |none=>.none
 |some e=>.some (oy T e)
noncomputable def vz(T T':Tb)(oK:Ex):List bS->wI
 |⟨.Name x _,it,ifs,0⟩::gs=>Hy (T'.own x) (tJ (oy T it)) (pk T' ifs) (vy T' oK gs)
 |_=>.done .bad
noncomputable def vy(T':Tb)(oK:Ex):List bS->wI
 | []=>.done oK
 |⟨.Name x _,it,ifs,0⟩::gs=>Hy (T'.own x) (tJ (oy T' it)) (pk T' ifs) (vy T' oK gs)
 |_::_=>.done .bad
end
noncomputable def tZ:List Expr->Option (List Str)
 | []=>some []
 | .Name x _::es=>(tZ es).map (x::·)
 |_=>none
noncomputable def sL:Expr->Bool
 | .List ..=>true
 | .Dict [] [] _=>true
 | .ListComp ..=>true
 |_=>false
noncomputable def Tb.vars?(T:Tb)(xs:List Str):Option (List Nat):=xs.mapM T.own
noncomputable def Nq(o:Option Nat)(it:It)(b:rG):St:=match o with
 |some i=>.for_ i it b
 |none=>.bad
mutual
noncomputable def AR(T:Tb)(xf:List Str):Stmt->St
 | .Assign [.Name x _] v _=>match T.own x with
  |some i=>.asg i (xf.contains x&&sL v) (oy T v)
  |none=>.bad
 | .Assign [.Tuple ts _ _] (.Tuple vs _ _) _=>match tZ ts with
  |some xs=>(match T.vars? xs with
   |some is=>if vs.length==xs.length&&decide (vs.length<=1000)&&decide is.Nodup&&(!vs.all (fS 8)||vs.all (gl 8))then .asgT (is.zip ((xs.zip vs).map λ(x,v)=>xf.contains x&&sL v)) (pk T vs)else .bad
   |none=>.bad)
  |none=>.bad
 | .Assign [.Tuple ts _ _] v _=>match tZ ts with
  |some xs=>(match T.vars? xs with
   |some is=>.unp is (oy T v)
   |none=>.bad)
  |none=>.bad
 | .Assign [.Subscript (.Name x _) k _] v _=>match T.var x with
  |some i=>.put i (oy T k) (oy T v)
  |none=>.bad
 | .AugAssign (.Name x _) op v _=>match T.own x with
  |some i=>.aug i op (oy T v)
  |none=>.bad
 | .Expr (.Call (.Attribute o m ap) as [] p) _=>match as with
  | [e]=>if m==("append":Str)&&s5 o 1 ap p then .app (oy T o) (oy T e)else .bad
  | []=>if m==("reverse":Str)&&s5 o 0 ap p then .rev (oy T o)else .bad
  |_=>.bad
 | .If c a b _=>.ife (oy T c) (sx T xf a) (sx T xf b)
 | .For (.Name x _) it body [] _=>Nq (T.own x) (tJ (oy T it)) (sx T xf body)
 | .While c body [] _=>.while_ (oy T c) (sx T xf body)
 | .Return (some e) _=>.ret (oy T e)
 |_=>.bad
noncomputable def sx(T:Tb)(xf:List Str):List Stmt->rG
 | []=>.nil
 |s::ss=>.cons (AR T xf s) (sx T xf ss)
end
set_option backward.match.sparseCases true
inductive qN(T:Tb):Expr->Ex->Prop
 |c {c:Const}{k:Nat}{p:cq}:qN T (.Constant c k p) (.c c)
 |var {x:Str}{i:Nat}{p:cq} (h:T.var x=some i):qN T (.Name x p) (.var i)
 |glob {x:Str}{g:EF}{p:cq} (hg:T.isGlobal x=true) (hl:Di.lookup x=some g):qN T (.Name x p) (.glob g)
 |bin {a b:Expr}{op:Operator}{p:cq}:qN T (.BinOp a op b p) (.bin op (oy T a) (oy T b))
 |un {a:Expr}{op:UnaryOp}{p:cq}:qN T (.UnaryOp op a p) (.un op (oy T a))
 |cmp {a b:Expr}{op:CmpOp}{p:cq} (h:ig op b=false):qN T (.Compare a [op] [b] p) (.cmp op (oy T a) (oy T b))
 |and {e:Expr}{es:List Expr}{p:cq}:qN T (.BoolOp .And (e::es) p) (.and (pk T (e::es)))
 |or {e:Expr}{es:List Expr}{p:cq}:qN T (.BoolOp .Or (e::es) p) (.or (pk T (e::es)))
 |ite {c a b:Expr}{p:cq}:qN T (.IfExp c a b p) (.ite (oy T c) (oy T a) (oy T b))
 |list {es:List Expr}{p:cq}:qN T (.List es p) (.list (pk T es))
 |tup {es:List Expr}{k:Nat}{p:cq}:qN T (.Tuple es k p) (.tup (pk T es))
 |dict {ks:List (Option Expr)}{vs:List Expr}{p:cq} (h:ks.all j6=true):qN T (.Dict ks vs p) (.dict (Ek T ks) (pk T vs))
 |slice {a:Expr}{lo hi:Option Expr}{p p':cq}:qN T (.Subscript a (.Slice lo hi none p) p') (.slice (oy T a) (yE T lo) (yE T hi))
 |idx {a i:Expr}{p:cq}:qN T (.Subscript a i p) (.idx (oy T a) (oy T i))
 |vals {a:Expr}{f:Str}{es:qh}{p p':cq} (hg:T.isGlobal f=true) (hf:f = "list") (ha:oy T a=.call .values es):qN T (.Call (.Name f p) [a] [] p') (.call .listVals es)
 |lrange {a:Expr}{f:Str}{es:qh}{p p':cq} (hg:T.isGlobal f=true) (hf:f = "list") (ha:oy T a=.call .range es):qN T (.Call (.Name f p) [a] [] p') (.call .listRange es)
 |isBool {e:Expr}{f t:Str}{p p' Kb:cq} (hg:T.isGlobal f=true) (hf:f = "isinstance") (ht:T.isGlobal t=true) (sT:t = "bool"):qN T (.Call (.Name f p) [e,.Name t p'] [] Kb) (.call .isBool (.cons (oy T e) .nil))
 |isInt {e:Expr}{f t:Str}{p p' Kb:cq} (hg:T.isGlobal f=true) (hf:f = "isinstance") (ht:T.isGlobal t=true) (sT:t = "int"):qN T (.Call (.Name f p) [e,.Name t p'] [] Kb) (.call .isInt (.cons (oy T e) .nil))
 |user {f:Str}{g:Fn}{a:Expr}{as:List Expr}{p p':cq} (hg:T.isGlobal f=true) (hl:t_.lookup f=some g):qN T (.Call (.Name f p) (a::as) [] p') (.call g (pk T (a::as)))
 |meth {o:Expr}{m:Str}{g:Fn}{as:List Expr}{ap p:cq} (hl:vq.lookup m=some g) (ho:s5 o as.length ap p=true):qN T (.Call (.Attribute o m ap) as [] p) (.call g (.cons (oy T o) (pk T as)))
 |values {o:Expr}{m:Str}{ap p:cq} (hm:m = "values") (ho:s5 o 0 ap p=true):qN T (.Call (.Attribute o m ap) [] [] p) (.call .values (.cons (oy T o) .nil))
 |comp {oK:Expr}{gens:List bS}{sc:cj}{p:cq} (h:(sc.kind==.function&&J5 sc.names&&gens.all (λg=>g.is_async==0)&&(BB sc).all T.celled&&AN (T.comp sc))=true):
  qN T (.ListComp oK gens sc p) (.comp (sD sc).length (vz T (T.comp sc) (oy (T.comp sc) oK) gens))
 |bad {e:Expr}:qN T e .bad
theorem yx [Decidable c](h1:c->qN T e x)(h2:¬c->qN T e y):qN T e (if c then x else y):=by
 by_cases h:c
 ·rw[if_pos h];exact h1 h
 ·rw[if_neg h];exact h2 h
theorem wgH{T:Tb}(hg:T.isGlobal f=true)(hf:f = "list") (as:List Expr):qN T (.Call (.Name f p) as [] pos) (JO (pk T as)):=by
 induction as using af with
 |nil=>exact .bad
 |cons a as =>
  show qN T _ (JO (.cons (oy T a) (pk T as)))
  induction h:oy T a using Ex.casesOn with
  |call g es =>
   induction as using af with
   |cons=>cases g<;>exact .bad
   |nil =>
    induction g using Fn.casesOn with
    |range=>exact .lrange hg hf h
    |values=>exact .vals hg hf h
    |_=>exact .bad
  |_=>exact .bad
theorem wgG{T:Tb}(hg:T.isGlobal f=true)(hf:f = "isinstance") (as:List Expr):qN T (.Call (.Name f p) as [] pos) (match Pj T as with|some g=>JH g (pk T as)|none=>.bad):=by
 induction as using af with
 |nil=>exact .bad
 |cons e as =>
  induction as using af with
  |nil=>exact .bad
  |cons b as =>
   induction b using bq with
   |Name t p2 =>
    induction as using af with
    |cons=>exact .bad
    |nil =>
     show qN T _ (match(if T.isGlobal t&&t==("bool":Str)then some Fn.isBool else if T.isGlobal t&&t==("int":Str)then some .isInt else none)with|some g=>JH g (pk T [e,_])|none=>.bad);by_cases h:(T.isGlobal t&&t==("bool":Str))=true
     ·refine oa (if_pos h) ?_;exact qG h λh1 h2=>.isBool hg hf h1 (eq_of_beq h2)
     ·refine oa (if_neg h) ?_;by_cases h:(T.isGlobal t&&t==("int":Str))=true
      ·refine oa (if_pos h) ?_;exact qG h λh1 h2=>.isInt hg hf h1 (eq_of_beq h2)
      ·refine oa (if_neg h) ?_;exact .bad
   |_=>exact .bad
theorem wgL(hg:T.isGlobal f=true):qN T (.Call (.Name f p) as [] pos) (match t_.lookup f with
 |some g=>if as.isEmpty then .bad else .call g (pk T as)
 |none=>.bad):=by
 induction h:t_.lookup f using aa with
 |none=>exact .bad
 |some g =>
  induction as using af with
  |nil=>exact .bad
  |cons=>exact .user hg h
theorem wgI:qN T (.Call (.Attribute o m ap) as [] pos) (JX m (s5 o as.length ap pos) (oy T o) as.isEmpty (pk T as)):=by
 refine yx (λho=>yx (λhm=>?_) λY=>?_) λY=>.bad
 ·induction as using af with
  |nil=>exact .values (eq_of_beq hm) ho
  |cons=>exact .bad
 ·induction h:vq.lookup m using aa with
  |none=>exact .bad
  |some g=>exact .meth h ho
theorem wgJ:qN T (.Name x p) (match T.var x with
 |some i=>.var i
 |none=>if T.isGlobal x then(match Di.lookup x with|some g=>.glob g|none=>.bad)else .bad):=by
 induction h:T.var x using aa with
 |some i=>exact .var h
 |none =>
  refine yx (λhg=>?_) λY=>.bad
  induction h:Di.lookup x using aa with
  |some g=>exact .glob hg h
  |none=>exact .bad
theorem Q4(T:Tb)(e:Expr):qN T e (oy T e):=by
 induction e using bq with
 |Constant=>exact .c
 |Name=>exact wgJ
 |BinOp=>exact .bin
 |UnaryOp=>exact .un
 |Compare a DX cs p =>
  induction DX using af with
  |nil=>exact .bad
  |cons op DX =>
   induction DX using af with
   |cons=>exact .bad
   |nil =>
    induction cs using af with
    |nil=>exact .bad
    |cons b cs =>
     induction cs using af with
     |cons=>exact .bad
     |nil=>exact yx (λY=>.bad) λh=>.cmp (jm.mpr h)
 |BoolOp op es p=>cases op<;>cases es<;>first|exact .bad|exact .and|exact .or
 |IfExp=>exact .ite
 |List=>exact .list
 |Tuple=>exact .tup
 |Dict=>exact yx (λh=>.dict h) λY=>.bad
 |Subscript a i p =>
  induction i using bq with
  |Slice lo hi st p' =>
   induction st using aa with
   |none=>exact .slice
   |some=>exact .idx
  |_=>exact .idx
 |Call f as kws p =>
  induction f using bq with
  |Name f p' =>
   induction kws using af with
   |cons=>exact .bad
   |nil =>
    refine yx (λhg=>?_) λY=>.bad;refine yx (λhf=>wgH hg (eq_of_beq hf) as) λY=>?_;exact yx (λhf=>wgG hg (eq_of_beq hf) as) λY=>wgL hg
  |Attribute o m ap =>
   induction kws using af with
   |cons=>exact .bad
   |nil=>exact wgI
  |_=>exact .bad
 |ListComp=>exact yx (λh=>.comp h) λY=>.bad
 |_=>exact .bad
noncomputable def waE:Fn->Bool
 | .listVals | .listRange | .isBool | .isInt=>true
 |_=>false
noncomputable def JG:Fn->Bool
 | .values=>true
 |_=>false
noncomputable def RQ(T:Tb)(e:Expr):Ex->Prop
 | .call f as=>(∃x p a bs pos,e=.Call (.Name x p) (a::bs) [] pos/\T.isGlobal x=true/\t_.lookup x=some f/\as=pk T (a::bs))\/(∃m,vq.lookup m=some f)\/waE f=true\/JG f=true/\∃o m ap p,e=.Call (.Attribute o m ap) [] [] p/\m = "values" /\ s5 o 0 ap p=true/\as=.cons (oy T o) .nil
 | .list es=>∃xs p,e=.List xs p/\es=pk T xs
 |_=>True
theorem GP(h:oy T e=x):RQ T e x:=by
 have t:=Q4 T e;rw[h]at t;clear h;cases t with
 |user hg hl=>exact .inl ⟨_,_,_,_,_,rfl,hg,hl,rfl⟩
 |meth hl=>exact .inr (.inl ⟨_,hl⟩)
 |list=>exact⟨_,_,rfl,rfl⟩
 |vals|lrange|isBool|isInt=>exact .inr (.inr (.inl rfl))
 |values hm ho=>exact .inr (.inr (.inr ⟨rfl,_,_,_,_,rfl,hm,ho,rfl⟩))
 |_=>exact True.intro
noncomputable def RD(e:Ex):It->Prop
 | .range as=>e=.call .range as
 | .rev a=>e=.call .reversed (.cons a .nil)
 | .val x=>x=e
theorem DO(h:tJ e=t):RD e t:=by
 subst h
 induction e using Ex.casesOn with
 |call f as =>
  induction f using Fn.casesOn with
  |range=>rfl
  |reversed =>
   cases as with
   |nil=>rfl
   |cons a as=>cases as<;>rfl
  |_=>rfl
 |_=>rfl
inductive CC(T T':Tb) (oK:Ex) (gs:List bS):bS->wI->Prop
 |bad {g:bS}:CC T T' oK gs g (.done .bad)
 |mk {x:Str}{px:cq}{it:Expr}{ifs:List Expr}{i:Nat} (h:T'.own x=some i):CC T T' oK gs ⟨.Name x px,it,ifs,0⟩ (.cons i (tJ (oy T it)) (pk T' ifs) (vy T' oK gs))
theorem Q3:CC T T' oK gs ⟨.Name x px,it,ifs,0⟩ (Hy (T'.own x) (tJ (oy T it)) (pk T' ifs) (vy T' oK gs)):=by
 induction h:T'.own x using aa with
 |none=>exact .bad
 |some i=>exact .mk h
theorem wgu:CC T T oK gs g (vy T oK (g::gs)):=by
 obtain⟨t,it,ifs,n⟩:=g
 induction t using bq with
 |Name x px =>
  induction n using Int.casesOn with
  |ofNat n =>
   induction n using ce with
   |zero=>exact Q3
   |succ=>exact .bad
  |negSucc=>exact .bad
 |_=>exact .bad
theorem wgt:CC T T' oK gs g (vz T T' oK (g::gs)):=by
 obtain⟨t,it,ifs,n⟩:=g
 induction t using bq with
 |Name x px =>
  induction n using Int.casesOn with
  |ofNat n =>
   induction n using ce with
   |zero=>exact Q3
   |succ=>exact .bad
  |negSucc=>exact .bad
 |_=>exact .bad
inductive sJ(T:Tb) (mu:List Str):Stmt->St->Prop
 |asg {x:Str}{px pos:cq}{v:Expr}{i:Nat} (h:T.own x=some i):sJ T mu (.Assign [.Name x px] v pos) (.asg i (mu.contains x&&sL v) (oy T v))
 |asgT {ts vs:List Expr}{k k2:Nat}{tp p2 pos:cq}{xs:List Str}{is:List Nat} (h1:tZ ts=some xs) (h2:T.vars? xs=some is)
  (h3:(vs.length==xs.length&&decide (vs.length<=1000)&&decide is.Nodup&&(!vs.all (fS 8)||vs.all (gl 8)))=true):sJ T mu (.Assign [.Tuple ts k tp] (.Tuple vs k2 p2) pos) (.asgT (is.zip ((xs.zip vs).map λ(x,v)=>mu.contains x&&sL v)) (pk T vs))
 |unp {ts:List Expr}{v:Expr}{k:Nat}{tp pos:cq}{xs:List Str}{is:List Nat} (h1:tZ ts=some xs) (h2:T.vars? xs=some is) (hn:∀vs k p,v≠.Tuple vs k p):sJ T mu (.Assign [.Tuple ts k tp] v pos) (.unp is (oy T v))
 |put {x:Str}{px sp pos:cq}{k v:Expr}{i:Nat} (h:T.var x=some i):sJ T mu (.Assign [.Subscript (.Name x px) k sp] v pos) (.put i (oy T k) (oy T v))
 |aug {x:Str}{px pos:cq}{v:Expr}{op:Operator}{i:Nat} (h:T.own x=some i):sJ T mu (.AugAssign (.Name x px) op v pos) (.aug i op (oy T v))
 |app {o e:Expr}{m:Str}{ap p q:cq} (hm:m = "append") (ho:s5 o 1 ap p=true):sJ T mu (.Expr (.Call (.Attribute o m ap) [e] [] p) q) (.app (oy T o) (oy T e))
 |rev {o:Expr}{m:Str}{ap p q:cq} (hm:m = "reverse") (ho:s5 o 0 ap p=true):sJ T mu (.Expr (.Call (.Attribute o m ap) [] [] p) q) (.rev (oy T o))
 |ife {c:Expr}{a b:List Stmt}{pos:cq}:sJ T mu (.If c a b pos) (.ife (oy T c) (sx T mu a) (sx T mu b))
 |for_ {x:Str}{px pos:cq}{it:Expr}{body:List Stmt}{i:Nat} (h:T.own x=some i):sJ T mu (.For (.Name x px) it body [] pos) (.for_ i (tJ (oy T it)) (sx T mu body))
 |while_ {c:Expr}{body:List Stmt}{pos:cq}:sJ T mu (.While c body [] pos) (.while_ (oy T c) (sx T mu body))
 |ret {e:Expr}{pos:cq}:sJ T mu (.Return (some e) pos) (.ret (oy T e))
 |bad {st:Stmt}:sJ T mu st .bad
theorem JI [Decidable c](h1:c->sJ T mu st x)(h2:¬c->sJ T mu st y):sJ T mu st (if c then x else y):=by
 by_cases h:c
 ·refine oa (if_pos h) ?_;exact h1 h
 ·refine oa (if_neg h) ?_;exact h2 h
theorem wgB:sJ T mu (.Assign [.Name x px] v pos) (match T.own x with
 |some i=>.asg i (mu.contains x&&sL v) (oy T v)
 |none=>.bad):=by
 induction h:T.own x using aa with
 |some i=>exact .asg h
 |none=>exact .bad
theorem wgD:sJ T mu (.Assign [.Tuple ts k tp] (.Tuple vs k2 p2) pos) (match tZ ts with
 |some xs=>(match T.vars? xs with
  |some is=>if vs.length==xs.length&&decide (vs.length<=1000)&&decide is.Nodup&&(!vs.all (fS 8)||vs.all (gl 8))then .asgT (is.zip ((xs.zip vs).map λ(x,v)=>mu.contains x&&sL v)) (pk T vs)else .bad
  |none=>.bad)
 |none=>.bad):=by
 induction h:tZ ts using aa with
 |none=>exact .bad
 |some xs =>
  dsimp only
  induction h2:T.vars? xs using aa with
  |none=>exact .bad
  |some is=>exact JI (λh3=>.asgT h h2 h3) λY=>.bad
theorem wgE(hn:∀vs k p,v≠.Tuple vs k p):sJ T mu (.Assign [.Tuple ts k tp] v pos) (match tZ ts with
 |some xs=>(match T.vars? xs with
  |some is=>.unp is (oy T v)
  |none=>.bad)
 |none=>.bad):=by
 induction h:tZ ts using aa with
 |none=>exact .bad
 |some xs =>
  dsimp only
  induction h2:T.vars? xs using aa with
  |none=>exact .bad
  |some is=>exact .unp h h2 hn
theorem wgC:sJ T mu (.Assign [.Subscript (.Name x px) k sp] v pos) (match T.var x with
 |some i=>.put i (oy T k) (oy T v)
 |none=>.bad):=by
 induction h:T.var x using aa with
 |some i=>exact .put h
 |none=>exact .bad
theorem wgz:sJ T mu (.AugAssign (.Name x px) op v pos) (match T.own x with
 |some i=>.aug i op (oy T v)
 |none=>.bad):=by
 induction h:T.own x using aa with
 |some i=>exact .aug h
 |none=>exact .bad
theorem wgA:sJ T mu (.For (.Name x px) it body [] pos) (Nq (T.own x) (tJ (oy T it)) (sx T mu body)):=by
 induction h:T.own x using aa with
 |some i=>exact .for_ h
 |none=>exact .bad
theorem wgy(T:Tb)(mu:List Str)(st:Stmt):sJ T mu st (AR T mu st):=by
 induction st using kB with
 |Assign ts v pos =>
  induction ts using af with
  |nil=>exact .bad
  |cons t ts =>
   induction t using bq with
   |Name x px =>
    induction ts using af with
    |nil=>exact wgB
    |cons=>exact .bad
   |Tuple El k tp =>
    induction ts using af with
    |cons=>cases v<;>exact .bad
    |nil=>cases v<;>first|exact wgD|exact wgE λY Y Y q=>nomatch q
   |Subscript a k sp =>
    induction a using bq with
    |Name x px =>
     induction ts using af with
     |nil=>exact wgC
     |cons=>exact .bad
    |_=>exact .bad
   |_=>exact .bad
 |AugAssign t op v pos =>
  induction t using bq with
  |Name x px=>exact wgz
  |_=>exact .bad
 |Expr e q =>
  induction e using bq with
  |Call f as kws p =>
   induction f using bq with
   |Attribute o m ap =>
    induction kws using af with
    |cons=>exact .bad
    |nil =>
     induction as using af with
     |nil=>exact JI (λh=>qG h λh1 h2=>.rev (eq_of_beq h1) h2) λY=>.bad
     |cons e as =>
      induction as using af with
      |nil=>exact JI (λh=>qG h λh1 h2=>.app (eq_of_beq h1) h2) λY=>.bad
      |cons=>exact .bad
   |_=>exact .bad
  |_=>exact .bad
 |If=>exact .ife
 |For t it body orelse pos =>
  induction t using bq with
  |Name x px =>
   induction orelse using af with
   |nil=>exact wgA
   |cons=>exact .bad
  |_=>exact .bad
 |While c body orelse pos =>
  induction orelse using af with
  |nil=>exact .while_
  |cons=>exact .bad
 |Return e pos =>
  induction e using aa with
  |some=>exact .ret
  |none=>exact .bad
 |_=>exact .bad
noncomputable abbrev oH:=List AO
noncomputable abbrev oI:=List (Option AV)
noncomputable def oX(σ:oH):AV->Option (List AV)
 | .lst vs=>some vs
 | .ref i=>match σ[i]? with
  |some (.list vs)=>some vs
  |_=>none
 |_=>none
noncomputable def ul(σ:oH):AV->Option (List (Int×AV))
 | .dct es=>some es
 | .ref i=>match σ[i]? with
  |some (.dict es)=>some es
  |_=>none
 |_=>none
noncomputable def AE(σ:oH):AV->Option (List AV)
 | .tup vs=>some vs
 | .str cs=>some (cs.map λc=>.str [c])
 | .dct es=>some (es.map λe=>.int e.1)
 |v=>oX σ v
noncomputable def pq{α β:Type}(f:α->Option β):List α->Option (List β)
 | []=>some []
 |a::as=>match f a with
  |some b=>match pq f as with
   |some bs=>some (b::bs)
   |none=>none
  |none=>none
noncomputable def o8(σ:oH):Nat->AV->Option AV
 |0,_=>none
 |n+1,v=>match v with
  | .ref i=>match σ[i]? with
   |some (.list vs)=>(pq (o8 σ n) vs).map .lst
   |some (.dict es)=>(pq (λe=>(o8 σ n e.2).map (e.1,·)) es).map .dct
   |_=>none
  | .lst vs=>(pq (o8 σ n) vs).map .lst
  | .tup vs=>(pq (o8 σ n) vs).map .tup
  | .dct es=>(pq (λe=>(o8 σ n e.2).map (e.1,·)) es).map .dct
  |v=>some v
noncomputable def AV.scalar:AV->Bool
 | .none | .bool _ | .int _ | .flt _ | .str _=>true
 |_=>false
noncomputable def AV.isRef:AV->Bool
 | .ref _=>true
 |_=>false
noncomputable def sN(eq:AV->AV->Option Bool):List AV->List AV->Option Bool
 | [],[]=>some true
 |a::as,b::bs=>match eq a b with
  |some r=>match sN eq as bs with
   |some q=>some (r&&q)
   |none=>none
  |none=>none
 |_,_=>some false
noncomputable def qR:AV->AV->Option Bool
 | .int i,.int j=>some (decide (i=j))
 | .flt x,.flt y=>if bM x x==some .eq then some (bM x y==some .eq)else none
 | .flt x,.int j=>some (dD x j==some .eq)
 | .int i,.flt y=>some (dD y i==some .eq)
 | .str x,.str y=>some (decide (x=y))
 |_,_=>none
noncomputable def wh(σ:oH)(a b:AV):Option Bool :=
 match a,b with
 | .tup as,.tup bs=>if as.length=bs.length then sN qR as bs else none
 | .tup _,_=>none
 |_,.tup _=>none
 |a,b=>match oX σ a with
  |some as=>match oX σ b with
   |some bs=>if as.length=bs.length then sN qR as bs else some false
   |none=>none
  |none=>qR a b
noncomputable def small(a:Int):Bool:=decide (a.natAbs<2^64)
noncomputable def KV(a:Int):Bool:=decide (a.natAbs<2^4096)
noncomputable def uK(a:Int):Bool:=decide (a.natAbs<2^53)
noncomputable def rP(σ:oH)(op:Operator)(a b:AV):Option AV :=
 match op,a,b with
 | .Add,.int i,.int j=>some (.int (i+j))
 | .Sub,.int i,.int j=>some (.int (i-j))
 | .Mult,.int i,.int j=>if small i||small j then some (.int (i*j))else none
 | .FloorDiv,.int i,.int j=>if j=0\/!small j then none else some (.int (i.fdiv j))
 | .Mod,.int i,.int j=>if j=0 then none else some (.int (i.fmod j))
 | .Pow,.int i,.int j=>if 0<=j/\j<=1000/\small i then some (.int (i^j.toNat))else none
 | .LShift,.int i,.int j=>if 0<=j/\j<=1000000/\KV i then some (.int (i*2^j.toNat))else none
 | .RShift,.int i,.int j=>if 0<=j/\j<=1000000 then some (.int (i.fdiv (2^j.toNat)))else none
 | .BitXor,.int i,.int j=>some (.int (jG i j))
 | .Div,.int i,.int j=>if j=0\/gL (bI (decide (i<0) != decide (j<0)) i.natAbs j.natAbs)then none else some (.flt (bI (decide (i<0) != decide (j<0)) i.natAbs j.natAbs))
 | .Div,.flt x,.flt y=>if bG y then none else some (.flt (bL x y))
 | .Add,.flt x,.flt y=>some (.flt (bH x y))
 | .Add,.int i,.flt y=>if uK i then some (.flt (bH (cJ i) y))else none
 | .Sub,.flt x,.flt y=>some (.flt (aX x y))
 | .Sub,.flt x,.int j=>if uK j then some (.flt (aX x (cJ j)))else none
 | .Mult,.flt x,.flt y=>some (.flt (cr x y))
 | .Mod,.flt x,.flt y=>if bG y then none else some (.flt (gk x y).2)
 | .Add,.str x,.str y=>if x.length+y.length<=100000 then some (.str (x++y))else none
 | .Add,.tup x,.tup y=>if x.length+y.length<=100000 then some (.tup (x++y))else none
 | .Add,a,b=>match oX σ a,oX σ b with
  |some x,some y=>if x.length+y.length<=100000 then some (.lst (x++y))else none
  |_,_=>none
 |_,_,_=>none
noncomputable def Ce(op:UnaryOp)(a:AV):Option AV :=
 match op,a with
 | .USub,.int i=>some (.int (-i))
 | .Invert,.int i=>some (.int (-i-1))
 | .Not,.bool b=>some (.bool (!b))
 |_,_=>none
noncomputable def JF:AV->Option Int
 | .int i=>some i
 |_=>none
noncomputable def qX:List AV->Option (List Int):=pq JF
noncomputable def zt(i:Int)(vs:List AV):Option Bool:=(qX vs).map λis=>is.any (·==i)
noncomputable def qK:List (List Nat×Int):=[([40],7),([41],8),([91],9),([93],10),([58],11),([44],12),([59],13),([43],14),([45],15),([42],16),([47],17),([124],18),([38],19),([60],20),([62],21),([61],22),([46],23),([37],24),([123],25),([125],26),([61,61],27),([33,61],28),([60,61],29),([62,61],30),([126],31),([94],32),([60,60],33),([62,62],34),([42,42],35),([43,61],36),([45,61],37),([42,61],38),([47,61],39),([37,61],40),([38,61],41),([124,61],42),([94,61],43),([60,60,61],44),([62,62,61],45),([42,42,61],46),([47,47],47),([47,47,61],48),([64],49),([64,61],50),([45,62],51),([46,46,46],52),([58,61],53),([33],54)]
noncomputable def wO(σ:oH)(op:CmpOp)(a b:AV):Option Bool :=
 match op,a,b with
 | .Eq,a,b=>wh σ a b
 | .NotEq,a,b=>(wh σ a b).map (!·)
 | .Lt,.int i,.int j=>some (decide (i<j))
 | .LtE,.int i,.int j=>some (decide (i<=j))
 | .Gt,.int i,.int j=>some (decide (j<i))
 | .GtE,.int i,.int j=>some (decide (j<=i))
 | .LtE,.flt x,.flt y=>some (bM x y==some .lt||bM x y==some .eq)
 | .Is,.bool x,.bool y=>some (x==y)
 | .IsNot,.bool x,.bool y=>some (!(x==y))
 | .In,.str x,.tok=>some (qK.lookup x).isSome
 | .In,.int i,l=>match oX σ l with
  |some vs=>zt i vs
  |none=>none
 | .NotIn,.int i,l=>match oX σ l with
  |some vs=>(zt i vs).map (!·)
  |none=>none
 |_,_,_=>none
noncomputable def tG(k:Int)(n:Nat):Option Nat:=if uK k then je k n else none
noncomputable def zj(σ:oH)(a i:AV):Option AV :=
 match a,i with
 | .tup vs,.int k=>(tG k vs.length).bind λj=>vs[j]?
 | .str cs,.int k=>(tG k cs.length).bind λj=>cs[j]?.map λc=>.str [c]
 |a,.int k=>match oX σ a with
  |some vs=>(tG k vs.length).bind λj=>vs[j]?
  |none=>match ul σ a with
   |some es=>es.lookup k
   |none=>none
 |_,_=>none
noncomputable def yA(σ:oH)(f:{α:Type}->List α->List α)(a:AV):Option AV :=
 match a with
 | .str cs=>if cs.length<=100000 then some (.str (f cs))else none
 |a=>match oX σ a with
  |some vs=>if vs.length<=100000 then some (.lst (f vs))else none
  |none=>none
noncomputable def B_(σ:oH)(a:AV)(lo hi:Option Int):Option AV :=
 match lo,hi with
 |none,some h=>if 0<=h then yA σ (λl=>l.take h.toNat) a else none
 |some l,none=>if 0<=l then yA σ (λxs=>xs.drop l.toNat) a else none
 |_,_=>none
noncomputable def sw:List Int->Int
 | []=>0
 |i::is=>i+sw is
noncomputable def Eb(vs:List AV):Option Int:=match qX vs with
 |some is=>if is.all (λi=>decide (0<=i))=true/\sw is<2^53 then some (sw is)else none
 |none=>none
noncomputable def ud(i:Int):List Int->Int
 | []=>i
 |j::js=>ud (if i<j then j else i) js
noncomputable def uw(a c:Int):Nat->List Int
 |0=>[]
 |n+1=>a::uw (a+c) c n
noncomputable def tI(a b c:Int):Option (List Int):=if 0<c/\small c=true/\g9 a b c=true/\cy a b c<=100000 then some (uw a c (cy a b c).toNat)else none
noncomputable def zA:List AV->Option (List Int)
 | [.int b]=>tI 0 b 1
 | [.int a,.int b]=>tI a b 1
 | [.int a,.int b,.int c]=>tI a b c
 |_=>none
noncomputable def uq(x y:UInt64):Bool:=bM x y==some .gt
noncomputable def ur(x y:UInt64):Bool:=bM x y==some .lt
noncomputable abbrev rd:=Nat->List AV->Option AV
noncomputable def tC(n:Nat):Option AV:=if n<=100000 then some (.int n)else none
noncomputable def CP(σ:oH):List AV->Option AV
 | [.str cs]=>tC cs.length
 | [.dct es]=>tC es.length
 | [l]=>match oX σ l with
  |some vs=>tC vs.length
  |none=>none
 |_=>none
noncomputable def Ho(σ:oH):List AV->Option AV
 | [l]=>match oX σ l with
  |some vs=>(Eb vs).map .int
  |none=>none
 |_=>none
noncomputable def Hl(σ:oH):List AV->Option AV
 | [.int i,.int j]=>some (.int (if i<j then j else i))
 | [.flt x,.flt y,.flt z]=>some (.flt (if uq z (if uq y x then y else x)then z else(if uq y x then y else x)))
 | [l]=>match oX σ l with
  |some vs=>match qX vs with
   |some (i::js)=>some (.int (ud i js))
   |_=>none
  |none=>none
 |_=>none
noncomputable def Hm:List AV->Option AV
 | [.int i,.int j]=>some (.int (if j<i then j else i))
 | [.flt x,.flt y,.flt z]=>some (.flt (if ur z (if ur y x then y else x)then z else(if ur y x then y else x)))
 |_=>none
noncomputable def Hn:List AV->Option AV
 | [.str [c]]=>some (.int c)
 |_=>none
noncomputable def Hj:List AV->Option AV
 | [.int i]=>if 0<=i/\i<=0x10FFFF then some (.str [i.toNat])else none
 |_=>none
noncomputable def CO:List AV->Option AV
 | [.flt x]=>match eH x with
  | .fin wC m e=>some (.int (hZ wC m e))
  |_=>none
 |_=>none
noncomputable def Hk:List AV->Option AV
 | [.int i,.int j]=>if j=0\/!small j then none else some (.tup [.int (i.fdiv j),.int (i.fmod j)])
 |_=>none
noncomputable def E0:List AV->Option AV
 | [.int _]=>some (.bool false)
 |_=>none
noncomputable def E1:List AV->Option AV
 | [.int _]=>some (.bool true)
 |_=>none
noncomputable def EY:List AV->Option AV
 | [.int i]=>some (.int (aH i))
 |_=>none
noncomputable def pz(cs:List Nat):Str:=⟨cs.toArray⟩
noncomputable def zV(σ:oH):List AV->Option AV
 | [.str x,.str y]=>match cb (pz x) (pz y) 0 (pz x).length 1 with
  |k::_=>some (.int k)
  | []=>none
 | [l,.int i]=>match oX σ l with
  |some vs=>match qX vs with
   |some is=>match is.findIdx? (·==i)with
    |some k=>if k<=100000 then some (.int k)else none
    |none=>none
   |none=>none
  |none=>none
 |_=>none
noncomputable def yR:List AV->Option AV
 | [.str x,.str y]=>some (.int (match cb (pz x) (pz y) 0 (pz x).length 1 with|k::_=>(k:Int) | []=>-1))
 |_=>none
noncomputable def uX:List AV->Option (List (List Nat))
 | []=>some []
 | .str x::vs=>(uX vs).map (x::·)
 |_=>none
noncomputable def E2(σ:oH):List AV->Option AV
 | [.str [],l]=>match oX σ l with
  |some vs=>match uX vs with
   |some xs=>if xs.flatten.length<=100000 then some (.str xs.flatten)else none
   |none=>none
  |none=>none
 |_=>none
noncomputable def CQ:List AV->Option AV
 | [.str x]=>if(pz x).length<=100000/\(eT (pz x) ((pz x).length+1)).length<=100000/\(eT (pz x) ((pz x).length+1)==[(0,(pz x).length)])=false then
  some (.lst ((wordsOf (pz x)).map λy=>.str y.cps.toList))else none
 |_=>none
noncomputable def Bh(σ:oH):List AV->Option AV
 | [l,.int i]=>match oX σ l with
  |some vs=>match qX vs with
   |some is=>some (.int (is.countP (·==i)))
   |none=>none
  |none=>none
 |_=>none
noncomputable def EZ(σ:oH):List AV->Option AV
 | [.tok,.str x,d]=>some (match qK.lookup x with|some k=>.int k|none=>d)
 | [.ref j,.int k,d]=>match ul σ (.ref j)with
  |some es=>some (match es.lookup k with|some v=>v|none=>d)
  |none=>none
 |_=>none
noncomputable def zW(Φ:rd)(σ:oH)(k:Nat)(as:List AV):Option AV:=match pq (o8 [] 6) as with
 |some bs=>Φ k bs
 |none=>match pq (o8 σ 6) as with
  |some bs=>match Φ k bs with
   |some r=>if r.scalar then some r else none
   |none=>none
  |none=>none
noncomputable def zY(Φ:rd)(σ:oH)(f:Fn)(as:List AV):Option AV :=
 match f with
 | .len=>CP σ as
 | .sum=>Ho σ as
 | .max=>Hl σ as
 | .min=>Hm as
 | .listVals=>match as with
  | [.dct es]=>if es.length<=100000 then some (.lst (es.map (·.2)))else none
  |_=>none
 | .listRange=>(zA as).map λis=>.lst (is.map .int)
 | .ord=>Hn as
 | .chr=>Hj as
 | .int=>CO as
 | .divmod=>Hk as
 | .isBool=>E0 as
 | .isInt=>E1 as
 | .bitLength=>EY as
 | .index=>zV σ as
 | .find=>yR as
 | .join=>E2 σ as
 | .split=>CQ as
 | .count=>Bh σ as
 | .get=>EZ σ as
 | .user k=>zW Φ σ k as
 |_=>none
noncomputable def Hz:Const->Option AV
 | .none=>some .none
 | .bool b=>some (.bool b)
 | .int i=>some (.int i)
 | .float x=>some (.flt x)
 | .str x=>some (.str x.cps.toList)
 |_=>none
noncomputable def Dh:EF->AV
 | .divLimit=>.int 4000
 | .ntOffset=>.int 256
 | .endMarker=>.int 0
 | .tok=>.tok
noncomputable def tS{α β:Type}(f:α->Option (List β)):List α->Option (List β)
 | []=>some []
 |a::as=>match f a with
  |some bs=>match tS f as with
   |some cs=>some (bs++cs)
   |none=>none
  |none=>none
noncomputable def Dj:Option (List AV)->Option (List AV)
 |some r=>if r.length<=100000 then some r else none
 |none=>none
section
variable (Φ:rd)(σ:oH)
mutual
noncomputable def ev(ρ:oI):Ex->Option AV
 | .c v=>Hz v
 | .var i=>match ρ[i]? with
  |some v=>v
  |none=>none
 | .glob g=>some (Dh g)
 | .bin op a b=>match ev ρ a with
  |some x=>match ev ρ b with
   |some y=>rP σ op x y
   |none=>none
  |none=>none
 | .un op a=>match ev ρ a with
  |some x=>Ce op x
  |none=>none
 | .cmp op a b=>match ev ρ a with
  |some x=>match ev ρ b with
   |some y=>(wO σ op x y).map .bool
   |none=>none
  |none=>none
 | .and es=>(qZ ρ es).map .bool
 | .or es=>(xF ρ es).map .bool
 | .ite c a b=>match ev ρ c with
  |some (.bool true)=>ev ρ a
  |some (.bool false)=>ev ρ b
  |_=>none
 | .list es=>match qj ρ es with
  |some vs=>if vs.length<=100000 then some (.lst vs)else none
  |none=>none
 | .tup es=>match qj ρ es with
  |some vs=>if vs.length<=100000 then some (.tup vs)else none
  |none=>none
 | .dict (.cons k .nil) (.cons v .nil)=>match ev ρ k with
  |some (.int i)=>match ev ρ v with
   |some x=>if x.scalar then some (.dct [(i,x)])else none
   |none=>none
  |_=>none
 | .dict _ _=>none
 | .idx a i=>match ev ρ a with
  |some x=>match ev ρ i with
   |some y=>zj σ x y
   |none=>none
  |none=>none
 | .slice a lo hi=>match ev ρ a with
  |some x=>match tw ρ lo with
   |some l=>match tw ρ hi with
    |some h=>B_ σ x l h
    |none=>none
   |none=>none
  |none=>none
 | .call f as=>match qj ρ as with
  |some vs=>zY Φ σ f vs
  |none=>none
 | .comp n gs=>(tr ρ n gs).map .lst
 | .bad=>none
noncomputable def r9(ρ:oI):It->Option (List AV)
 | .range as=>match qj ρ as with
  |some vs=>(zA vs).map λis=>is.map AV.int
  |none=>none
 | .rev _=>none
 | .val e=>match ev ρ e with
  |some x=>AE σ x
  |none=>none
noncomputable def qj(ρ:oI):qh->Option (List AV)
 | .nil=>some []
 | .cons e es=>match ev ρ e with
  |some v=>match qj ρ es with
   |some vs=>some (v::vs)
   |none=>none
  |none=>none
noncomputable def qZ(ρ:oI):qh->Option Bool
 | .nil=>some true
 | .cons e es=>match ev ρ e with
  |some (.bool true)=>qZ ρ es
  |some (.bool false)=>some false
  |_=>none
noncomputable def xF(ρ:oI):qh->Option Bool
 | .nil=>some false
 | .cons e es=>match ev ρ e with
  |some (.bool false)=>xF ρ es
  |some (.bool true)=>some true
  |_=>none
noncomputable def tw(ρ:oI):EE->Option (Option Int)
 | .none=>some none
 | .some e=>match ev ρ e with
  |some (.int i)=>some (some i)
  |_=>none
noncomputable def tr(ρ:oI)(n:Nat):wI->Option (List AV)
 | .cons x it ifs oG=>match r9 ρ it with
  |some vs=>match(ρ++aA n none)[x]? with
   |some none=>if vs.length<=100000 then Dj (tS (λv=>match qZ ((ρ++aA n none).set x (some v)) ifs with
    |some true=>uI ((ρ++aA n none).set x (some v)) oG
    |some false=>some []
    |none=>none) vs)else none
   |_=>none
  |none=>none
 | .done _=>none
noncomputable def uI(ρ:oI):wI->Option (List AV)
 | .done oK=>(ev ρ oK).map λv=>[v]
 | .cons x it ifs oG=>match r9 ρ it with
  |some vs=>match ρ[x]? with
   |some none=>if vs.length<=100000 then tS (λv=>match qZ (ρ.set x (some v)) ifs with
    |some true=>uI (ρ.set x (some v)) oG
    |some false=>some []
    |none=>none) vs else none
   |_=>none
  |none=>none
end
end
section
variable {σ:oH}{C:Operator->AV->AV->AV->Prop}{r:AV}
theorem Sv{a b:AV}(h6:∀a b x y,oX σ a=some x->oX σ b=some y->x.length+y.length<=100000->C .Add a b (.lst (x++y)))(e:(match oX σ a,oX σ b with
 |some x,some y=>if x.length+y.length<=100000 then some (AV.lst (x++y))else none
 |_,_=>none)=some r):C .Add a b r:=by
 induction hx:oX σ a using aa with
 |none=>rw[hx]at e;exact oq e
 |some x =>
  induction hy:oX σ b using aa with
  |none=>rw[hx,hy]at e;exact oq e
  |some y=>rw[hx,hy]at e;exact qd e λhl e=>oN e (h6 _ _ x y hx hy hl)
theorem Su(h1:∀i j,C .Add (.int i) (.int j) (.int (i+j)))(h2:∀x y,C .Add (.flt x) (.flt y) (.flt (bH x y)))(h3:∀i y,uK i=true->C .Add (.int i) (.flt y) (.flt (bH (cJ i) y)))
 (h4:∀x y,x.length+y.length<=100000->C .Add (.str x) (.str y) (.str (x++y))) (h5:∀x y,x.length+y.length<=100000->C .Add (.tup x) (.tup y) (.tup (x++y)))
 (h6:∀a b x y,oX σ a=some x->oX σ b=some y->x.length+y.length<=100000->C .Add a b (.lst (x++y))) {a b:AV} (e:rP σ .Add a b=some r):C .Add a b r:=by
 induction a using AV.casesOn with
 |int i =>
  induction b using AV.casesOn with
  |int j=>exact oN e (h1 i j)
  |flt y=>exact qd e λhf e=>oN e (h3 i y hf)
  |_=>exact oq e
 |flt x =>
  induction b using AV.casesOn with
  |flt y=>exact oN e (h2 x y)
  |_=>exact oq e
 |str x =>
  induction b using AV.casesOn with
  |str y=>exact qd e λhl e=>oN e (h4 x y hl)
  |_=>exact oq e
 |tup x =>
  induction b using AV.casesOn with
  |tup y=>exact qd e λhl e=>oN e (h5 x y hl)
  |_=>exact oq e
 |_=>exact Sv h6 e
theorem Sy{op:Operator}{a b:AV}(Yj:∀a b,rP σ .Add a b=some r->C .Add a b r)
 (h1:∀i j,C .Sub (.int i) (.int j) (.int (i-j))) (h2:∀i j,(small i||small j)=true->C .Mult (.int i) (.int j) (.int (i*j))) (h3:∀i j,¬(j=0\/(!small j)=true)->C .FloorDiv (.int i) (.int j) (.int (i.fdiv j)))
 (h4:∀i j,¬j=0->C .Mod (.int i) (.int j) (.int (i.fmod j))) (h5:∀i j,0<=j/\j<=1000/\small i=true->C .Pow (.int i) (.int j) (.int (i^j.toNat))) (h6:∀i j,0<=j/\j<=1000000/\KV i=true->C .LShift (.int i) (.int j) (.int (i*2^j.toNat)))
 (h7:∀i j,0<=j/\j<=1000000->C .RShift (.int i) (.int j) (.int (i.fdiv (2^j.toNat)))) (h8:∀i j,C .BitXor (.int i) (.int j) (.int (jG i j)))
 (h9:∀i j,¬(j=0\/gL (bI (decide (i<0) != decide (j<0)) i.natAbs j.natAbs)=true)->C .Div (.int i) (.int j) (.flt (bI (decide (i<0) != decide (j<0)) i.natAbs j.natAbs)))
 (yn:∀x y,¬bG y=true->C .Div (.flt x) (.flt y) (.flt (bL x y))) (xK:∀x y,C .Sub (.flt x) (.flt y) (.flt (aX x y))) (Dl:∀x j,uK j=true->C .Sub (.flt x) (.int j) (.flt (aX x (cJ j))))
 (Dm:∀x y,C .Mult (.flt x) (.flt y) (.flt (cr x y))) (xL:∀x y,¬bG y=true->C .Mod (.flt x) (.flt y) (.flt (gk x y).2)) (e:rP σ op a b=some r):C op a b r:=by
 induction op using gm with
 |Add=>exact Yj a b e
 |Sub =>
  induction a using AV.casesOn with
  |int i =>
   induction b using AV.casesOn with
   |int j=>exact oN e (h1 i j)
   |_=>exact oq e
  |flt x =>
   induction b using AV.casesOn with
   |int j=>exact qd e λhf e=>oN e (Dl x j hf)
   |flt y=>exact oN e (xK x y)
   |_=>exact oq e
  |_=>exact oq e
 |Mult =>
  induction a using AV.casesOn with
  |int i =>
   induction b using AV.casesOn with
   |int j=>exact qd e λhf e=>oN e (h2 i j hf)
   |_=>exact oq e
  |flt x =>
   induction b using AV.casesOn with
   |flt y=>exact oN e (Dm x y)
   |_=>exact oq e
  |_=>exact oq e
 |Mod =>
  induction a using AV.casesOn with
  |int i =>
   induction b using AV.casesOn with
   |int j=>exact yV e λhf e=>oN e (h4 i j hf)
   |_=>exact oq e
  |flt x =>
   induction b using AV.casesOn with
   |flt y=>exact yV e λhf e=>oN e (xL x y hf)
   |_=>exact oq e
  |_=>exact oq e
 |Div =>
  induction a using AV.casesOn with
  |int i =>
   induction b using AV.casesOn with
   |int j=>exact yV e λhf e=>oN e (h9 i j hf)
   |_=>exact oq e
  |flt x =>
   induction b using AV.casesOn with
   |flt y=>exact yV e λhf e=>oN e (yn x y hf)
   |_=>exact oq e
  |_=>exact oq e
 |FloorDiv =>
  induction a using AV.casesOn with
  |int i =>
   induction b using AV.casesOn with
   |int j=>exact yV e λhf e=>oN e (h3 i j hf)
   |_=>exact oq e
  |_=>exact oq e
 |Pow =>
  induction a using AV.casesOn with
  |int i =>
   induction b using AV.casesOn with
   |int j=>exact qd e λhf e=>oN e (h5 i j hf)
   |_=>exact oq e
  |_=>exact oq e
 |LShift =>
  induction a using AV.casesOn with
  |int i =>
   induction b using AV.casesOn with
   |int j=>exact qd e λhf e=>oN e (h6 i j hf)
   |_=>exact oq e
  |_=>exact oq e
 |RShift =>
  induction a using AV.casesOn with
  |int i =>
   induction b using AV.casesOn with
   |int j=>exact qd e λhf e=>oN e (h7 i j hf)
   |_=>exact oq e
  |_=>exact oq e
 |BitXor =>
  induction a using AV.casesOn with
  |int i =>
   induction b using AV.casesOn with
   |int j=>exact oN e (h8 i j)
   |_=>exact oq e
  |_=>exact oq e
 |_=>exact oq e
end
section
variable {σ:oH}{r:Bool}
theorem HH{C:AV->AV->Bool->Prop}{a b:AV}(h1:∀i j,C (.int i) (.int j) (decide (i=j)))(h2:∀x y,(bM x x==some .eq)=true->C (.flt x) (.flt y) (bM x y==some .eq))(h3:∀x j,C (.flt x) (.int j) (dD x j==some .eq))
 (h4:∀i y,C (.int i) (.flt y) (dD y i==some .eq)) (h5:∀x y,C (.str x) (.str y) (decide (x=y))) (e:qR a b=some r):C a b r:=by
 induction a using AV.casesOn with
 |int i =>
  induction b using AV.casesOn with
  |int j=>exact oN e (h1 i j)
  |flt y=>exact oN e (h4 i y)
  |_=>exact oq e
 |flt x =>
  induction b using AV.casesOn with
  |flt y=>exact qd e λh e=>oN e (h2 x y h)
  |int j=>exact oN e (h3 x j)
  |_=>exact oq e
 |str x =>
  induction b using AV.casesOn with
  |str y=>exact oN e (h5 x y)
  |_=>exact oq e
 |_=>exact oq e
theorem Vi{C:AV->AV->Bool->Prop}{a b:AV}(h2:∀a b as bs r,oX σ a=some as->oX σ b=some bs->as.length=bs.length->sN qR as bs=some r->C a b r)
 (h3:∀a b as bs,oX σ a=some as->oX σ b=some bs->¬as.length=bs.length->C a b false) (h4:∀a b r,qR a b=some r->C a b r) (e:(match oX σ a with
 |some as=>match oX σ b with
  |some bs=>if as.length=bs.length then sN qR as bs else some false
  |none=>none
 |none=>qR a b)=some r):C a b r:=by
 induction hx:oX σ a using aa with
 |none=>rw[hx]at e;exact h4 a b r e
 |some as =>
  induction hy:oX σ b using aa with
  |none=>rw[hx,hy]at e;exact oq e
  |some bs =>
   rw[hx,hy]at e;have e:(if as.length=bs.length then sN qR as bs else some false)=some r:=e;by_cases h:as.length=bs.length
   ·rw[if_pos h]at e;exact h2 a b as bs r hx hy h e
   ·rw[if_neg h]at e;exact oN e (h3 a b as bs hx hy h)
theorem Mo{C:AV->AV->Bool->Prop}{a b:AV}(h1:∀as bs r,as.length=bs.length->sN qR as bs=some r->C (.tup as) (.tup bs) r)(h2:∀a b as bs r,oX σ a=some as->oX σ b=some bs->as.length=bs.length->sN qR as bs=some r->C a b r)
 (h3:∀a b as bs,oX σ a=some as->oX σ b=some bs->¬as.length=bs.length->C a b false) (h4:∀a b r,qR a b=some r->C a b r) (e:wh σ a b=some r):C a b r:=by
 induction a using AV.casesOn with
 |tup as =>
  induction b using AV.casesOn with
  |tup bs=>exact qd e λh e=>h1 as bs r h e
  |_=>exact oq e
 |_ =>
  induction b using AV.casesOn with
  |tup bs=>exact oq e
  |_=>exact Vi h2 h3 h4 e
theorem PP{i:Int}{vs:List AV}{Q:Bool->Prop}(e:zt i vs=some r)(k:∀is,qX vs=some is->Q (is.any (·==i))):Q r:=by
 refine oB (aK.mp e) λis h e=>?_;exact e▸k is h
theorem TW{C:CmpOp->AV->AV->Bool->Prop}{op:CmpOp}{a b:AV}(h1:∀a b r,wh σ a b=some r->C .Eq a b r)(h2:∀a b r,wh σ a b=some r->C .NotEq a b (!r))(h3:∀i j,C .Lt (.int i) (.int j) (decide (i<j)))(h4:∀i j,C .LtE (.int i) (.int j) (decide (i<=j)))
 (h5:∀i j,C .Gt (.int i) (.int j) (decide (j<i))) (h6:∀i j,C .GtE (.int i) (.int j) (decide (j<=i))) (h7:∀x y,C .LtE (.flt x) (.flt y) (bM x y==some .lt||bM x y==some .eq)) (h8:∀x y,C .Is (.bool x) (.bool y) (x==y)) (h9:∀x y,C .IsNot (.bool x) (.bool y) (!(x==y)))
 (yn:∀x,C .In (.str x) .tok (qK.lookup x).isSome) (xK:∀i l vs is,oX σ l=some vs->qX vs=some is->C .In (.int i) l (is.any (·==i))) (Dl:∀i l vs is,oX σ l=some vs->qX vs=some is->C .NotIn (.int i) l (!is.any (·==i))) (e:wO σ op a b=some r):C op a b r:=by
 induction op using PySem.CmpOp.casesOn with
 |Eq=>exact h1 a b r e
 |NotEq=>exact yj (f:=(!·)) e λq h=>h2 a b q h
 |Lt =>
  induction a using AV.casesOn with
  |int i =>
   induction b using AV.casesOn with
   |int j=>exact oN e (h3 i j)
   |_=>exact oq e
  |_=>exact oq e
 |LtE =>
  induction a using AV.casesOn with
  |int i =>
   induction b using AV.casesOn with
   |int j=>exact oN e (h4 i j)
   |_=>exact oq e
  |flt x =>
   induction b using AV.casesOn with
   |flt y=>exact oN e (h7 x y)
   |_=>exact oq e
  |_=>exact oq e
 |Gt =>
  induction a using AV.casesOn with
  |int i =>
   induction b using AV.casesOn with
   |int j=>exact oN e (h5 i j)
   |_=>exact oq e
  |_=>exact oq e
 |GtE =>
  induction a using AV.casesOn with
  |int i =>
   induction b using AV.casesOn with
   |int j=>exact oN e (h6 i j)
   |_=>exact oq e
  |_=>exact oq e
 |Is =>
  induction a using AV.casesOn with
  |bool x =>
   induction b using AV.casesOn with
   |bool y=>exact oN e (h8 x y)
   |_=>exact oq e
  |_=>exact oq e
 |IsNot =>
  induction a using AV.casesOn with
  |bool x =>
   induction b using AV.casesOn with
   |bool y=>exact oN e (h9 x y)
   |_=>exact oq e
  |_=>exact oq e
 |In =>
  induction a using AV.casesOn with
  |int i =>
   have e:(match oX σ b with|some vs=>zt i vs|none=>none)=some r:=by cases b<;>exact e
   induction hl:oX σ b using aa with
   |none=>rw[hl]at e;exact oq e
   |some vs=>rw[hl]at e;exact PP e λis h=>xK i b vs is hl h
  |str x =>
   induction b using AV.casesOn with
   |tok=>exact oN e (yn x)
   |_=>exact oq e
  |_=>exact oq e
 |NotIn =>
  induction a using AV.casesOn with
  |int i =>
   have e:(match oX σ b with|some vs=>(zt i vs).map (!·)|none=>none)=some r:=e
   induction hl:oX σ b using aa with
   |none=>rw[hl]at e;exact oq e
   |some vs=>rw[hl]at e;exact yj (f:=(!·)) e λq h=>PP (Q:=λq=>C .NotIn (.int i) b (!q)) h λis h=>Dl i b vs is hl h
  |_=>exact oq e
theorem wgY{C:UnaryOp->AV->AV->Prop}{op:UnaryOp}{a r:AV}(h1:∀i,C .USub (.int i) (.int (-i)))(h2:∀i,C .Invert (.int i) (.int (-i-1)))(h3:∀b,C .Not (.bool b) (.bool (!b)))(e:Ce op a=some r):C op a r:=by
 induction op using jw with
 |USub =>
  induction a using AV.casesOn with
  |int i=>exact oN e (h1 i)
  |_=>exact oq e
 |Invert =>
  induction a using AV.casesOn with
  |int i=>exact oN e (h2 i)
  |_=>exact oq e
 |Not =>
  induction a using AV.casesOn with
  |bool b=>exact oN e (h3 b)
  |_=>exact oq e
 |_=>exact oq e
end
section
variable {σ:oH}{C:List AV->AV->Prop}{as:List AV}{r:AV}
theorem BV{a:AV}{F:List AV->Option AV}{Q:Prop}(e:(match oX σ a with|some vs=>F vs|none=>none)=some r)(k:∀vs,oX σ a=some vs->F vs=some r->Q):Q:=by
 induction h:oX σ a using aa with
 |none=>rw[h]at e;exact oq e
 |some vs=>rw[h]at e;exact k vs h e
theorem JE{vs:List AV}{F:List Int->Option AV}{Q:Prop}(e:(match qX vs with|some is=>F is|none=>none)=some r)(k:∀is,qX vs=some is->F is=some r->Q):Q:=by
 induction h:qX vs using aa with
 |none=>rw[h]at e;exact oq e
 |some is=>rw[h]at e;exact k is h e
theorem Th(h1:∀cs,cs.length<=100000->C [.str cs] (.int cs.length))(h2:∀es,es.length<=100000->C [.dct es] (.int es.length))(h3:∀l vs,oX σ l=some vs->vs.length<=100000->C [l] (.int vs.length))(e:CP σ as=some r):C as r:=by
 induction as using af with
 |nil=>exact oq e
 |cons a as =>
  have hl:(match oX σ a with|some vs=>tC vs.length|none=>none)=some r->C [a] r:=λe=>BV e λvs hv e=>qd e λhl e=>oN e (h3 a vs hv hl)
  induction as using af with
  |cons b as=>cases a<;>exact oq e
  |nil =>
   induction a using AV.casesOn with
   |str cs=>exact qd e λhl e=>oN e (h1 cs hl)
   |dct es=>exact qd e λhl e=>oN e (h2 es hl)
   |_=>exact hl e
theorem Ts(h:∀l vs is,oX σ l=some vs->qX vs=some is->is.all (λi=>decide (0<=i))=true->sw is<2^53->C [l] (.int (sw is)))(e:Ho σ as=some r):C as r:=by
 induction as using af with
 |nil=>exact oq e
 |cons a as =>
  induction as using af with
  |cons b as=>exact oq e
  |nil =>
   refine BV (F:=λvs=>(Eb vs).map .int) e λvs hv e=>yj e λi hi=>?_;unfold Eb at hi
   induction hs:qX vs using aa with
   |none=>rw[hs]at hi;exact oq hi
   |some is=>rw[hs]at hi;exact qd hi λhc e=>oN (Q:=λi=>C [a] (.int i)) e (h a vs is hv hs hc.1 hc.2)
theorem Tk(h1:∀i j,C [.int i,.int j] (.int (if i<j then j else i)))(h2:∀x y z,C [.flt x,.flt y,.flt z] (.flt (if uq z (if uq y x then y else x)then z else(if uq y x then y else x))))(h3:∀l vs i js,oX σ l=some vs->qX vs=some (i::js)->C [l] (.int (ud i js)))(e:Hl σ as=some r):C as r:=by
 induction as using af with
 |nil=>exact oq e
 |cons a as =>
  induction as using af with
  |nil =>
   have e:(match oX σ a with
    |some vs=>match qX vs with
     |some (i::js)=>some (.int (ud i js))
     |_=>none
    |none=>none)=some r:=by cases a<;>exact e
   refine BV (F:=λvs=>match qX vs with|some (i::js)=>some (.int (ud i js))|_=>none) e λvs hv e=>?_
   induction hs:qX vs using aa with
   |none=>rw[hs]at e;exact oq e
   |some is =>
    rw[hs]at e
    induction is using af with
    |nil=>exact oq e
    |cons i js=>exact oN e (h3 a vs i js hv hs)
  |cons b as =>
   induction a using AV.casesOn with
   |int i =>
    induction b using AV.casesOn with
    |int j =>
     induction as using af with
     |nil=>exact oN e (h1 i j)
     |cons=>exact oq e
    |_=>exact oq e
   |flt x =>
    induction b using AV.casesOn with
    |flt y =>
     induction as using af with
     |nil=>exact oq e
     |cons c as =>
      induction c using AV.casesOn with
      |flt z =>
       induction as using af with
       |nil=>exact oN e (h2 x y z)
       |cons=>exact oq e
      |_=>exact oq e
    |_=>exact oq e
   |_=>exact oq e
theorem Tm(h1:∀i j,C [.int i,.int j] (.int (if j<i then j else i)))(h2:∀x y z,C [.flt x,.flt y,.flt z] (.flt (if ur z (if ur y x then y else x)then z else(if ur y x then y else x))))(e:Hm as=some r):C as r:=by
 induction as using af with
 |nil=>exact oq e
 |cons a as =>
  induction as using af with
  |nil=>cases a<;>exact oq e
  |cons b as =>
   induction a using AV.casesOn with
   |int i =>
    induction b using AV.casesOn with
    |int j =>
     induction as using af with
     |nil=>exact oN e (h1 i j)
     |cons=>exact oq e
    |_=>exact oq e
   |flt x =>
    induction b using AV.casesOn with
    |flt y =>
     induction as using af with
     |nil=>exact oq e
     |cons c as =>
      induction c using AV.casesOn with
      |flt z =>
       induction as using af with
       |nil=>exact oN e (h2 x y z)
       |cons=>exact oq e
      |_=>exact oq e
    |_=>exact oq e
   |_=>exact oq e
theorem Tp(h:∀c,C [.str [c]] (.int c))(e:Hn as=some r):C as r:=by
 induction as using af with
 |nil=>exact oq e
 |cons a as =>
  induction a using AV.casesOn with
  |str cs =>
   induction cs using af with
   |nil=>exact oq e
   |cons c cs =>
    induction cs using af with
    |cons=>exact oq e
    |nil =>
     induction as using af with
     |nil=>exact oN e (h c)
     |cons=>exact oq e
  |_=>exact oq e
theorem S0(h:∀i,0<=i/\i<=0x10FFFF->C [.int i] (.str [i.toNat]))(e:Hj as=some r):C as r:=by
 induction as using af with
 |nil=>exact oq e
 |cons a as =>
  induction a using AV.casesOn with
  |int i =>
   induction as using af with
   |nil=>exact qd e λhc e=>oN e (h i hc)
   |cons=>exact oq e
  |_=>exact oq e
theorem S_(h:∀x wC m ex,eH x=.fin wC m ex->C [.flt x] (.int (hZ wC m ex)))(e:CO as=some r):C as r:=by
 induction as using af with
 |nil=>exact oq e
 |cons a as =>
  induction a using AV.casesOn with
  |flt x =>
   induction as using af with
   |cons=>exact oq e
   |nil =>
    have e:(match eH x with | .fin wC m e=>some (.int (hZ wC m e))|_=>none)=some r:=e;cases hd:eH x with
    |fin wC m ex=>rw[hd]at e;exact oN e (h x wC m ex hd)
    |_=>rw[hd]at e;exact oq e
  |_=>exact oq e
theorem S3(h:∀i j,¬(j=0\/(!small j)=true)->C [.int i,.int j] (.tup [.int (i.fdiv j),.int (i.fmod j)]))(e:Hk as=some r):C as r:=by
 induction as using af with
 |nil=>exact oq e
 |cons a as =>
  induction a using AV.casesOn with
  |int i =>
   induction as using af with
   |nil=>exact oq e
   |cons b as =>
    induction b using AV.casesOn with
    |int j =>
     induction as using af with
     |nil=>exact yV e λhc e=>oN e (h i j hc)
     |cons=>exact oq e
    |_=>exact oq e
  |_=>exact oq e
theorem Tc(h:∀i,C [.int i] (.bool false))(e:E0 as=some r):C as r:=by
 induction as using af with
 |nil=>exact oq e
 |cons a as =>
  induction a using AV.casesOn with
  |int i =>
   induction as using af with
   |nil=>exact oN e (h i)
   |cons=>exact oq e
  |_=>exact oq e
theorem Te(h:∀i,C [.int i] (.bool true))(e:E1 as=some r):C as r:=by
 induction as using af with
 |nil=>exact oq e
 |cons a as =>
  induction a using AV.casesOn with
  |int i =>
   induction as using af with
   |nil=>exact oN e (h i)
   |cons=>exact oq e
  |_=>exact oq e
theorem LK(h:∀i,C [.int i] (.int (aH i)))(e:EY as=some r):C as r:=by
 induction as using af with
 |nil=>exact oq e
 |cons a as =>
  induction a using AV.casesOn with
  |int i =>
   induction as using af with
   |nil=>exact oN e (h i)
   |cons=>exact oq e
  |_=>exact oq e
theorem wdZ{C:List AV->List Int->Prop}{is:List Int}(h1:∀b is,tI 0 b 1=some is->C [.int b] is)(h2:∀a b is,tI a b 1=some is->C [.int a,.int b] is)(h3:∀a b c is,tI a b c=some is->C [.int a,.int b,.int c] is)(e:zA as=some is):C as is:=by
 induction as using af with
 |nil=>exact oq e
 |cons a as =>
  induction a using AV.casesOn with
  |int a =>
   induction as using af with
   |nil=>exact h1 a is e
   |cons b as =>
    induction b using AV.casesOn with
    |int b =>
     induction as using af with
     |nil=>exact h2 a b is e
     |cons c as =>
      induction c using AV.casesOn with
      |int c =>
       induction as using af with
       |nil=>exact h3 a b c is e
       |cons=>exact oq e
      |_=>exact oq e
    |_=>exact oq e
  |_=>exact oq e
theorem waz{a:AV}{i:Int}(h2:∀l i vs is (k:Nat),oX σ l=some vs->qX vs=some is->is.findIdx? (·==i)=some k->k<=100000->C [l,.int i] (.int k))(e:(match oX σ a with
 |some vs=>match qX vs with
  |some is=>match is.findIdx? (·==i)with
   |some k=>if k<=100000 then some (.int k)else none
   |none=>none
  |none=>none
 |none=>none)=some r):C [a,.int i] r :=
 BV e λvs hv e=>JE (F:=λis=>match is.findIdx? (·==i)with
  |some k=>if k<=100000 then some (.int k)else none
  |none=>none) e λis hs e=>by
  induction hk:is.findIdx? (·==i)using aa with
  |none=>rw[hk]at e;exact oq e
  |some k=>rw[hk]at e;exact qd e λhc e=>oN e (h2 a i vs is k hv hs hk hc)
theorem S8(h1:∀x y k oG,cb (pz x) (pz y) 0 (pz x).length 1=k::oG->C [.str x,.str y] (.int k))(h2:∀l i vs is (k:Nat),oX σ l=some vs->qX vs=some is->is.findIdx? (·==i)=some k->k<=100000->C [l,.int i] (.int k))(e:zV σ as=some r):C as r:=by
 induction as using af with
 |nil=>exact oq e
 |cons a as =>
  induction as using af with
  |nil=>cases a<;>exact oq e
  |cons b as =>
   induction b using AV.casesOn with
   |int i =>
    induction as using af with
    |nil=>cases a<;>exact waz h2 e
    |cons=>cases a<;>exact oq e
   |str y =>
    induction a using AV.casesOn with
    |str x =>
     induction as using af with
     |cons=>exact oq e
     |nil =>
      have e:(match cb (pz x) (pz y) 0 (pz x).length 1 with|k::_=>some (.int k) | []=>none)=some r:=e
      induction ho:cb (pz x) (pz y) 0 (pz x).length 1 using af with
      |nil=>rw[ho]at e;exact oq e
      |cons k oG=>rw[ho]at e;exact oN e (h1 x y k oG ho)
    |_=>exact oq e
   |_=>cases a<;>exact oq e
theorem LM(h:∀x y,C [.str x,.str y] (.int (match cb (pz x) (pz y) 0 (pz x).length 1 with|k::_=>(k:Int) | []=>-1)))(e:yR as=some r):C as r:=by
 induction as using af with
 |nil=>exact oq e
 |cons a as =>
  induction a using AV.casesOn with
  |str x =>
   induction as using af with
   |nil=>exact oq e
   |cons b as =>
    induction b using AV.casesOn with
    |str y =>
     induction as using af with
     |nil=>exact oN e (h x y)
     |cons=>exact oq e
    |_=>exact oq e
  |_=>exact oq e
theorem LO(h:∀l vs xs,oX σ l=some vs->uX vs=some xs->xs.flatten.length<=100000->C [.str [],l] (.str xs.flatten))(e:E2 σ as=some r):C as r:=by
 induction as using af with
 |nil=>exact oq e
 |cons a as =>
  induction a using AV.casesOn with
  |str x =>
   induction x using af with
   |cons=>exact oq e
   |nil =>
    induction as using af with
    |nil=>exact oq e
    |cons l as =>
     induction as using af with
     |cons=>exact oq e
     |nil =>
      refine BV (F:=λvs=>match uX vs with
       |some xs=>if xs.flatten.length<=100000 then some (.str xs.flatten)else none
       |none=>none) e λvs hv e=>?_
      induction hs:uX vs using aa with
      |none=>rw[hs]at e;exact oq e
      |some xs=>rw[hs]at e;exact qd e λhc e=>oN e (h l vs xs hv hs hc)
  |_=>exact oq e
theorem LP(h:∀x,((pz x).length<=100000/\(eT (pz x) ((pz x).length+1)).length<=100000/\(eT (pz x) ((pz x).length+1)==[(0,(pz x).length)])=false)->C [.str x] (.lst ((wordsOf (pz x)).map λy=>.str y.cps.toList)))(e:CQ as=some r):C as r:=by
 induction as using af with
 |nil=>exact oq e
 |cons a as =>
  induction a using AV.casesOn with
  |str x =>
   induction as using af with
   |nil=>exact qd e λhc e=>oN e (h x hc)
   |cons=>exact oq e
  |_=>exact oq e
theorem LL(h:∀l i vs is,oX σ l=some vs->qX vs=some is->C [l,.int i] (.int (is.countP (·==i))))(e:Bh σ as=some r):C as r:=by
 induction as using af with
 |nil=>exact oq e
 |cons a as =>
  induction as using af with
  |nil=>exact oq e
  |cons b as =>
   induction b using AV.casesOn with
   |int i =>
    induction as using af with
    |nil=>exact BV e λvs hv e=>JE e λis hs e=>oN e (h a i vs is hv hs)
    |cons=>exact oq e
   |_=>exact oq e
theorem LN(h1:∀x d,C [.tok,.str x,d] (match qK.lookup x with|some k=>.int k|none=>d))(h2:∀j k d es,ul σ (.ref j)=some es->C [.ref j,.int k,d] (match es.lookup k with|some v=>v|none=>d))(e:EZ σ as=some r):C as r:=by
 induction as using af with
 |nil=>exact oq e
 |cons a as =>
  induction a using AV.casesOn with
  |tok =>
   induction as using af with
   |nil=>exact oq e
   |cons b as =>
    induction b using AV.casesOn with
    |str x =>
     induction as using af with
     |nil=>exact oq e
     |cons d as =>
      induction as using af with
      |nil=>exact oN e (h1 x d)
      |cons=>exact oq e
    |_=>exact oq e
  |ref j =>
   induction as using af with
   |nil=>exact oq e
   |cons b as =>
    induction b using AV.casesOn with
    |int k =>
     induction as using af with
     |nil=>exact oq e
     |cons d as =>
      induction as using af with
      |cons=>exact oq e
      |nil =>
       have e:(match ul σ (.ref j)with
        |some es=>some (match es.lookup k with|some v=>v|none=>d)
        |none=>none)=some r:=e
       induction hd:ul σ (.ref j)using aa with
       |none=>rw[hd]at e;exact oq e
       |some es=>rw[hd]at e;exact oN e (h2 j k d es hd)
    |_=>exact oq e
  |_=>exact oq e
theorem wah{C:AV->AV->AV->Prop}{a:AV}{k:Int}(h3:∀a k vs j r,oX σ a=some vs->tG k vs.length=some j->vs[j]?=some r->C a (.int k) r)(h4:∀a k es r,ul σ a=some es->es.lookup k=some r->C a (.int k) r)(e:(match oX σ a with
 |some vs=>(tG k vs.length).bind λj=>vs[j]?
 |none=>match ul σ a with
  |some es=>es.lookup k
  |none=>none)=some r):C a (.int k) r:=by
 induction hv:oX σ a using aa with
 |some vs=>rw[hv]at e;exact Bl e λj hj e=>h3 a k vs j r hv hj e
 |none =>
  rw[hv]at e
  induction hd:ul σ a using aa with
  |none=>rw[hd]at e;exact oq e
  |some es=>rw[hd]at e;exact h4 a k es r hd e
theorem wai{C:AV->AV->AV->Prop}{a i:AV}(h1:∀vs k j r,tG k vs.length=some j->vs[j]?=some r->C (.tup vs) (.int k) r)(h2:∀cs k j c,tG k cs.length=some j->cs[j]?=some c->C (.str cs) (.int k) (.str [c]))
 (h3:∀a k vs j r,oX σ a=some vs->tG k vs.length=some j->vs[j]?=some r->C a (.int k) r) (h4:∀a k es r,ul σ a=some es->es.lookup k=some r->C a (.int k) r) (e:zj σ a i=some r):C a i r:=by
 induction i using AV.casesOn with
 |int k =>
  induction a using AV.casesOn with
  |tup vs=>exact Bl e λj hj e=>h1 vs k j r hj e
  |str cs=>exact Bl e λj hj e=>yj e λc hc=>h2 cs k j c hj hc
  |_=>exact wah h3 h4 e
 |_=>cases a<;>exact oq e
end
noncomputable def yf:Operator->AV->AV->Bool
 | .FloorDiv,.int _,.int _=>true
 | .Add,.str _,.str _=>true
 |_,_,_=>false
noncomputable def ym(σ:oH)(j:Nat):Option AV:=match σ[j]? with
 |some (.list vs)=>o8 [] 6 (.lst vs)
 |some (.dict es)=>o8 [] 6 (.dct es)
 |_=>none
inductive Fl where
 |next (ρ:oI) (σ:oH)
 |ret (v:AV)
noncomputable def Bm:qh->Bool
 | .nil=>true
 | .cons (.list .nil) es=>Bm es
 |_=>false
noncomputable def qh.len:qh->Nat
 | .nil=>0
 | .cons _ es=>es.len+1
noncomputable def dictPut(es:List (Int×AV))(k:Int)(v:AV):List (Int×AV):=
 if es.any (λe=>decide (e.1=k))then es.map (λe=>if e.1=k then(e.1,v)else e)else es++[(k,v)]
noncomputable def sQ(f:oI->oH->AV->Option Fl):List AV->oI->oH->Option Fl
 | [],ρ,σ=>some (.next ρ σ)
 |v::vs,ρ,σ=>match f ρ σ v with
  |some (.next oC ox)=>sQ f vs oC ox
  |some (.ret r)=>some (.ret r)
  |none=>none
noncomputable def v5(c:oI->oH->Option AV)(f:oI->oH->Option Fl):Nat->oI->oH->Option Fl
 |0,_,_=>none
 |n+1,ρ,σ=>match c ρ σ with
  |some (.bool true)=>match f ρ σ with
   |some (.next oC ox)=>v5 c f n oC ox
   |some (.ret r)=>some (.ret r)
   |none=>none
  |some (.bool false)=>some (.next ρ σ)
  |_=>none
section
variable (Φ:rd)
noncomputable def AP(ρ:oI)(σ:oH):Ex->Option (AV×oH)
 | .list es=>if Bm es&&decide (0<es.len/\es.len<=1000)then
  some (.ref (σ.length+es.len),σ++aA es.len (.list [])++[.list ((ak es.len).map λj=>.ref (σ.length+j))])
  else match qj Φ σ ρ es with
   |some vs=>if vs.length<=100000 then some (.ref σ.length,σ++[.list vs])else none
   |none=>none
 | .dict .nil .nil=>some (.ref σ.length,σ++[.dict []])
 | .comp n gs=>match tr Φ σ ρ n gs with
  |some vs=>some (.ref σ.length,σ++[.list vs])
  |none=>none
 |_=>none
noncomputable def t8(ρ:oI)(σ:oH)(GJ:Bool)(e:Ex):Option (AV×oH):=
 if GJ then AP Φ ρ σ e else(ev Φ σ ρ e).map (·,σ)
noncomputable def sO(ρ:oI):oH->List (Nat×Bool)->qh->Option (List AV×oH)
 | σ,[],.nil=>some ([],σ)
 | σ,x::xs,.cons e es=>match t8 Φ ρ σ x.2 e with
  |some (v,ox)=>match sO ρ ox xs es with
   |some (vs,u3)=>some (v::vs,u3)
   |none=>none
  |none=>none
 |_,_,_=>none
noncomputable def sE(ρ:oI):List Nat->List AV->Option oI
 | [],[]=>some ρ
 |x::xs,v::vs=>sE (ρ.set x (some v)) xs vs
 |_,_=>none
noncomputable def yk(ρ:oI)(σ:oH)(it:It):Option (List AV):=
 match it with
 | .val e=>match ev Φ σ ρ e with
  |some (.ref _)=>none
  |some x=>AE σ x
  |none=>none
 | .rev e=>match ev Φ σ ρ e with
  |some (.lst vs)=>some vs.reverse
  |_=>none
 | .range as=>r9 Φ σ ρ (.range as)
mutual
noncomputable def q8(ρ:oI)(σ:oH):St->Option Fl
 | .asg x th e=>match t8 Φ ρ σ th e with
  |some (v,ox)=>some (.next (ρ.set x (some v)) ox)
  |none=>none
 | .unp xs e=>match ev Φ σ ρ e with
  |some (.tup vs)=>(sE ρ xs vs).map (.next · σ)
  |_=>none
 | .asgT xs es=>match sO Φ ρ σ xs es with
  |some (vs,ox)=>(sE ρ (xs.map (·.1)) vs).map (.next · ox)
  |none=>none
 | .aug x op e=>match ρ[x]? with
  |some (some old)=>match ev Φ σ ρ e with
   |some v=>match old with
    | .ref i=>match op,σ[i]?,oX σ v with
     | .Add,some (.list xs),some ys=>if xs.length+ys.length<=100000 then some (.next ρ (σ.set i (.list (xs++ys))))else none
     |_,_,_=>none
    |old=>if yf op old v then(match rP σ op old v with
     |some r=>some (.next (ρ.set x (some r)) σ)
     |none=>none)else none
   |none=>none
  |_=>none
 | .app o e=>match ev Φ σ ρ o with
  |some (.ref i)=>match ev Φ σ ρ e with
   |some v=>match σ[i]? with
    |some (.list xs)=>if xs.length<=100000 then(match v with
     | .ref j=>if i=j then none else match ym σ j with
      |some r=>some (.next ρ ((σ.set j .gone).set i (.list (xs++[r]))))
      |none=>none
     |v=>some (.next ρ (σ.set i (.list (xs++[v])))))else none
    |_=>none
   |none=>none
  |_=>none
 | .rev o=>match ev Φ σ ρ o with
  |some (.ref i)=>match σ[i]? with
   |some (.list xs)=>if xs.length<=100000 then some (.next ρ (σ.set i (.list xs.reverse)))else none
   |_=>none
  |_=>none
 | .put x k v=>match ev Φ σ ρ v with
  |some wd=>if wd.scalar then(match ρ[x]? with
   |some (some (.ref i))=>match ev Φ σ ρ k with
    |some (.int k)=>match σ[i]? with
     |some (.dict es)=>if es.length<=100000 then some (.next ρ (σ.set i (.dict (dictPut es k wd))))else none
     |_=>none
    |_=>none
   |_=>none)else none
  |none=>none
 | .ife c a b=>match ev Φ σ ρ c with
  |some (.bool true)=>oL ρ σ a
  |some (.bool false)=>oL ρ σ b
  |_=>none
 | .for_ x it body=>match yk Φ ρ σ it with
  |some vs=>sQ (λρ σ v=>oL (ρ.set x (some v)) σ body) vs ρ σ
  |none=>none
 | .while_ c body=>v5 (λρ σ=>ev Φ σ ρ c) (λρ σ=>oL ρ σ body) 100 ρ σ
 | .ret e=>match ev Φ σ ρ e with
  |some v=>(o8 σ 6 v).map .ret
  |none=>none
 | .bad=>none
noncomputable def oL(ρ:oI)(σ:oH):rG->Option Fl
 | .nil=>some (.next ρ σ)
 | .cons s ss=>match q8 ρ σ s with
  |some (.next oC ox)=>oL oC ox ss
  |some (.ret v)=>some (.ret v)
  |none=>none
end
end
structure rM where
 nargs:Nat
 nvars:Nat
 body:rG
noncomputable def AK(Φ:rd)(d:rM)(as:List AV):Option AV :=
 if as.length=d.nargs then
  match oL Φ (as.map some++aA (d.nvars-d.nargs) none) [] d.body with
  |some (.ret v)=>some v
  |_=>none
 else none
noncomputable def zX(tW:rd)(fns:Nat->Option rM):Nat->rd
 |0=>λY Y=>none
 |n+1=>λk as=>match fns k with
  |some d=>AK (zX tW fns n) d as
  |none=>tW k as
noncomputable def Bz(xf:List Str):Stmt->rM
 | .FunctionDef _ a b _ _ _ sc _ _ _ =>
  let ps:=a.args.map (·.arg);let vs:=ps++(sD sc).filter λx=>!ps.contains x
  ⟨ps.length,vs.length,sx {names:=sc.names,vars:=vs.zipIdx,next:=vs.length} xf b⟩
 |_=>⟨0,0,.cons .bad .nil⟩
theorem Q2:pk T []=.nil:=rfl
theorem Ej:pk T (e::es)=.cons (oy T e) (pk T es):=rfl
theorem wgw:yE T none=.none:=rfl
theorem wgx:yE T (some e)=.some (oy T e):=rfl
theorem uv{f:α->Option β}:pq f (a::as) =
 match f a with
 |some b =>
  match pq f as with
  |some bs=>some (b::bs)
  |none=>none
 |none=>none:=rfl
theorem Iv:o8 σ (n+1) (.ref i) =
 match σ[i]? with
 |some (.list vs)=>bJ .lst (pq (o8 σ n) vs)
 |some (.dict es)=>bJ .dct (pq (λe=>bJ (λx=>(e.fst,x)) (o8 σ n e.snd)) es)
 |x=>none:=rfl
theorem XF:o8 σ (n+1) (.lst vs)=bJ .lst (pq (o8 σ n) vs):=rfl
theorem XG:o8 σ (n+1) (.dct es) =
 bJ .dct (pq (λe=>bJ (λx=>(e.fst,x)) (o8 σ n e.snd)) es):=rfl
theorem CY:sN eq (a::as) (b::bs) =
 match eq a b with
 |some r =>
  match sN eq as bs with
  |some q=>some (r&&q)
  |none=>none
 |none=>none:=rfl
theorem Fu{f:α->Option (List β)}:tS f (a::as) =
 match f a with
 |some bs =>
  match tS f as with
  |some cs=>some (bs++cs)
  |none=>none
 |none=>none:=rfl
theorem KG:sw []=0:=rfl
theorem GH:sw (i::is)=i+sw is:=rfl
theorem wcf:ud i []=i:=rfl
theorem wcg:ud i (O3::is)=ud (if i<O3 then O3 else i) is:=rfl
theorem D5:uw a c (n+1)=a::uw (a+c) c n:=rfl
theorem wfs:uX (.str i::vs)=bJ (λx=>i::x) (uX vs):=rfl
theorem Wr:qh.len (.cons e es)=qh.len es+1:=rfl
theorem Iq:sQ f (v::vs) y x =
 match f y x v with
 |some (.next oC ox)=>sQ f vs oC ox
 |some (.ret r)=>some (.ret r)
 |none=>none:=rfl
theorem KU:v5 c f (n+1) y x =
 match c y x with
 |some (.bool true) =>
  match f y x with
  |some (.next oC ox)=>v5 c f n oC ox
  |some (.ret r)=>some (.ret r)
  |none=>none
 |some (.bool false)=>some (.next y x)
 |x=>none:=rfl
theorem MB:t8 Φ ρ σ GJ e=if GJ=true then AP Φ ρ σ e else bJ (λx=>(x,σ)) (ev Φ σ ρ e):=rfl
theorem MO:ev Φ σ ρ (.c v)=Hz v:=rfl
theorem MS:ev Φ σ ρ (.var i) =
 match ρ[i]? with
 |some v=>v
 |none=>none:=rfl
theorem MT:ev Φ σ ρ (.bin op a b) =
 match ev Φ σ ρ a with
 |some x =>
  match ev Φ σ ρ b with
  |some y=>rP σ op x y
  |none=>none
 |none=>none:=rfl
theorem H1:ev Φ σ ρ (.un op a) =
 match ev Φ σ ρ a with
 |some x=>Ce op x
 |none=>none:=rfl
theorem MU:ev Φ σ ρ (.cmp op a b) =
 match ev Φ σ ρ a with
 |some x =>
  match ev Φ σ ρ b with
  |some y=>bJ .bool (wO σ op x y)
  |none=>none
 |none=>none:=rfl
theorem Fk:ev Φ σ ρ (.and es)=bJ .bool (qZ Φ σ ρ es):=rfl
theorem H2:ev Φ σ ρ (.or es)=bJ .bool (xF Φ σ ρ es):=rfl
theorem H3:ev Φ σ ρ (.ite c a b) =
 match ev Φ σ ρ c with
 |some (.bool true)=>ev Φ σ ρ a
 |some (.bool false)=>ev Φ σ ρ b
 |x=>none:=rfl
theorem MP:ev Φ σ ρ (.list es) =
 match qj Φ σ ρ es with
 |some vs=>if cG vs<=100000 then some (.lst vs)else none
 |none=>none:=rfl
theorem MQ:ev Φ σ ρ (.tup es) =
 match qj Φ σ ρ es with
 |some vs=>if cG vs<=100000 then some (.tup vs)else none
 |none=>none:=rfl
theorem Wc:ev Φ σ ρ (.dict (.cons k .nil) (.cons v .nil)) =
 match ev Φ σ ρ k with
 |some (.int i) =>
  match ev Φ σ ρ v with
  |some x=>if x.scalar=true then some (.dct [(i,x)])else none
  |none=>none
 |x=>none:=rfl
theorem MR:ev Φ σ ρ (.idx a i) =
 match ev Φ σ ρ a with
 |some x =>
  match ev Φ σ ρ i with
  |some y=>zj σ x y
  |none=>none
 |none=>none:=rfl
theorem Bt:ev Φ σ ρ (.slice a lo hi) =
 match ev Φ σ ρ a with
 |some x =>
  match tw Φ σ ρ lo with
  |some l =>
   match tw Φ σ ρ hi with
   |some h=>B_ σ x l h
   |none=>none
  |none=>none
 |none=>none:=rfl
theorem xH:ev Φ σ ρ (.call f as) =
 match qj Φ σ ρ as with
 |some vs=>zY Φ σ f vs
 |none=>none:=rfl
theorem H0:ev Φ σ ρ (.comp n gs)=bJ .lst (tr Φ σ ρ n gs):=rfl
theorem MV:qj Φ σ ρ .nil=some []:=rfl
theorem y1:qj Φ σ ρ (.cons e es) =
 match ev Φ σ ρ e with
 |some v =>
  match qj Φ σ ρ es with
  |some vs=>some (v::vs)
  |none=>none
 |none=>none:=rfl
theorem HK:tr Φ σ ρ n (.cons i it ifs oG) =
 match r9 Φ σ ρ it with
 |some vs =>
  match(ρ++aA n none)[i]? with
  |some none =>
   if cG vs<=100000 then
    Dj
     (tS
      (λv =>
       match qZ Φ σ (eI (ρ++aA n none) i (some v)) ifs with
       |some true=>uI Φ σ (eI (ρ++aA n none) i (some v)) oG
       |some false=>some []
       |none=>none)
      vs)
   else none
  |x=>none
 |none=>none:=rfl
theorem VT:uI Φ σ ρ (.done oK)=bJ (λv=>[v]) (ev Φ σ ρ oK):=rfl
theorem Mx:uI Φ σ ρ (.cons i it ifs oG) =
 match r9 Φ σ ρ it with
 |some vs =>
  match ρ[i]? with
  |some none =>
   if cG vs<=100000 then
    tS
     (λv =>
      match qZ Φ σ (eI ρ i (some v)) ifs with
      |some true=>uI Φ σ (eI ρ i (some v)) oG
      |some false=>some []
      |none=>none)
     vs
   else none
  |x=>none
 |none=>none:=rfl
theorem Mz:tw Φ σ ρ .none=some none:=rfl
theorem Bn:tw Φ σ ρ (.some e) =
 match ev Φ σ ρ e with
 |some (.int i)=>some (some i)
 |x=>none:=rfl
theorem z8:qZ Φ σ ρ .nil=some true:=rfl
theorem xE:qZ Φ σ ρ (.cons e es) =
 match ev Φ σ ρ e with
 |some (.bool true)=>qZ Φ σ ρ es
 |some (.bool false)=>some false
 |x=>none:=rfl
theorem MA:xF Φ σ ρ .nil=some false:=rfl
theorem Bo:xF Φ σ ρ (.cons e es) =
 match ev Φ σ ρ e with
 |some (.bool false)=>xF Φ σ ρ es
 |some (.bool true)=>some true
 |x=>none:=rfl
theorem CZ:r9 Φ σ ρ (.range as) =
 match qj Φ σ ρ as with
 |some vs=>bJ (λis=>jk .int is) (zA vs)
 |none=>none:=rfl
theorem C0:r9 Φ σ ρ (.val e) =
 match ev Φ σ ρ e with
 |some x=>AE σ x
 |none=>none:=rfl
theorem My:yk Φ ρ σ (.val e) =
 match ev Φ σ ρ e with
 |some (.ref i)=>none
 |some x=>AE σ x
 |none=>none:=rfl
theorem VU:yk Φ ρ σ (.rev e) =
 match ev Φ σ ρ e with
 |some (.lst vs)=>some (nR vs)
 |x=>none:=rfl
theorem H':q8 Φ ρ σ (.asg i th e) =
 match t8 Φ ρ σ th e with
 |some (v,ox)=>some (.next (eI ρ i (some v)) ox)
 |none=>none:=rfl
theorem M6:q8 Φ ρ σ (.unp xs e) =
 match ev Φ σ ρ e with
 |some (.tup vs)=>bJ (λx=>.next x σ) (sE ρ xs vs)
 |x=>none:=rfl
theorem M7:q8 Φ ρ σ (.asgT xs es) =
 match sO Φ ρ σ xs es with
 |some (vs,ox)=>bJ (λx=>.next x ox) (sE ρ (jk (λx=>x.fst) xs) vs)
 |none=>none:=rfl
theorem H_:q8 Φ ρ σ (.aug i op e) =
 match ρ[i]? with
 |some (some old) =>
  match ev Φ σ ρ e with
  |some v =>
   match old with
   | .ref i =>
    match op,σ[i]?,oX σ v with
    |mG,some (.list xs),some ys =>
     if cG xs+cG ys<=100000 then some (.next ρ (eI σ i (.list (xs++ys))))
     else none
    |x,x_2,x_3=>none
   |old =>
    if yf op old v=true then
     match rP σ op old v with
     |some r=>some (.next (eI ρ i (some r)) σ)
     |none=>none
    else none
  |none=>none
 |x=>none:=rfl
theorem Ia:q8 Φ ρ σ (.app o e) =
 match ev Φ σ ρ o with
 |some (.ref i) =>
  match ev Φ σ ρ e with
  |some v =>
   match σ[i]? with
   |some (.list xs) =>
    if cG xs<=100000 then
     match v with
     | .ref j =>
      if i=j then none
      else
       match ym σ j with
       |some r=>some (.next ρ (eI (eI σ j .gone) i (.list (xs++[r]))))
       |none=>none
     |v=>some (.next ρ (eI σ i (.list (xs++[v]))))
    else none
   |x=>none
  |none=>none
 |x=>none:=rfl
theorem M8:q8 Φ ρ σ (.rev o) =
 match ev Φ σ ρ o with
 |some (.ref i) =>
  match σ[i]? with
  |some (.list xs) =>
   if cG xs<=100000 then some (.next ρ (eI σ i (.list (nR xs))))else none
  |x=>none
 |x=>none:=rfl
theorem M9:q8 Φ ρ σ (.put i k v) =
 match ev Φ σ ρ v with
 |some wd =>
  if wd.scalar=true then
   match ρ[i]? with
   |some (some (.ref i)) =>
    match ev Φ σ ρ k with
    |some (.int k) =>
     match σ[i]? with
     |some (.dict es) =>
      if cG es<=100000 then some (.next ρ (eI σ i (.dict (dictPut es k wd))))else none
     |x=>none
    |x=>none
   |x=>none
  else none
 |none=>none:=rfl
theorem C8:q8 Φ ρ σ (.ife c a b) =
 match ev Φ σ ρ c with
 |some (.bool true)=>oL Φ ρ σ a
 |some (.bool false)=>oL Φ ρ σ b
 |x=>none:=rfl
theorem M':q8 Φ ρ σ (.for_ i it body) =
 match yk Φ ρ σ it with
 |some vs=>sQ (λρ σ v=>oL Φ (eI ρ i (some v)) σ body) vs ρ σ
 |none=>none:=rfl
theorem M4:q8 Φ ρ σ (.while_ c body) =
 v5 (λρ σ=>ev Φ σ ρ c) (λρ σ=>oL Φ ρ σ body) 100 ρ σ:=rfl
theorem M5:q8 Φ ρ σ (.ret e) =
 match ev Φ σ ρ e with
 |some v=>bJ .ret (o8 σ 6 v)
 |none=>none:=rfl
theorem Wq:oL Φ ρ σ .nil=some (.next ρ σ):=rfl
theorem Ib:oL Φ ρ σ (.cons s ss) =
 match q8 Φ ρ σ s with
 |some (.next oC ox)=>oL Φ oC ox ss
 |some (.ret v)=>some (.ret v)
 |none=>none:=rfl
theorem PZ{Q:Prop}(h:qh.nil=.cons e es):Q:=absurd (congrArg qh.len h) (Nat.succ_ne_zero _).symm
noncomputable def Pe(e:Ex):Prop:=Ex.casesOn (motive_1:=λY=>Prop) e (λY=>False) (λY=>False) (λY=>False) (λY Y Y=>False) (λY Y=>False) (λY Y Y=>False) (λY=>False) (λY=>False) (λY Y Y=>False) (λY=>False) (λY=>False) (λY Y=>False) (λY Y=>False) (λY Y Y=>False) (λY Y=>False) (λY Y=>False) True
theorem wcB{Q:Prop}(h:Ex.bad=.comp n gs):Q:=False.elim (show Pe (.comp n gs)from h▸(trivial:Pe .bad))
theorem UM(h:σ[j]?=some (.dict es)):ul σ (.ref j)=some es:=by
 delta ul;dsimp only;rw[h]
theorem JQ(h:σ[j]?=some (.list vs)):oX σ (.ref j)=some vs:=by
 delta oX;dsimp only;rw[h]
theorem wbr(e:oX σ (.ref j)=some vs):σ[j]?=some (.list vs):=by
 delta oX at e;dsimp only at e
 induction hq:σ[j]? using aa with
 |none=>rw[hq]at e;exact oq e
 |some o =>
  rw[hq]at e
  induction o using AO.casesOn with
  |list us=>exact congrArg (λx=>some (AO.list x)) (ag e)
  |_=>exact oq e
theorem Gu{k n:Nat}(h:k<n)(hn:n<=100000):tG (k:Int) n=some k:=by
 unfold tG;have:uK (k:Int)=true:=decide_eq_true (by rw[bl];exact ab h (ae hn (by decide)));refine oa (if_pos this) ?_;unfold je;simp only[if_neg (Int.not_lt.mpr (az k))];refine oa (if_pos (show(decide (0<=(k:Int))&&decide ((k:Int)<n))=true by rw[decide_eq_true (az k),decide_eq_true (dC.mpr h)];rfl)) ?_;rfl
theorem Kp{M:m9}{Γ:Ctx}{p:cq}{t:fe Fin}{fs:List Frame}{s s':ah}{e:End}(h:Runs M Γ p t fs s e s'):s.heap.objs.size<=s'.heap.objs.size:=by
 induction h<;>(try simp only[Shared.setGen,mO,bg]at *)<;>omega
theorem whj{M:m9}{Γ:Ctx}{p:cq}{g:Nat}{r:Resume}{s s':ah}{res:GenResult}(h:Wakes M Γ p g r s res s'):s.heap.objs.size<=s'.heap.objs.size:=by
 delta Wakes at h
 induction hg:s.gens[g]? using aa with
 |none=>rw[hg]at h;exact h.elim
 |some st =>
  rw[hg]at h
  induction st using GenState.casesOn with
  |fresh c =>
   induction r using Resume.casesOn with
   |throw x=>refine oa h.2 ?_;exact ai _
   |send v =>
    induction v using kh with
    |none=>refine Ae h ?_;rintro Ai ou hr _ _ rfl;exact(Kp hr:(s.setGen g .running).heap.objs.size<=ou.heap.objs.size)
    |_=>refine oa h.2 ?_;exact ai _
  |suspended=>refine Ae h ?_;rintro Ai ou hr _ _ rfl;exact(Kp hr:(s.setGen g .running).heap.objs.size<=ou.heap.objs.size)
  |_=>refine oa h.2 ?_;exact ai _
theorem whr{α:Type}(M:m9)(Γ:Ctx)(n:Nat)(t:fe α):∀(Q:α->cq->ah->Prop) (E:Value->cq->ah->Prop) (p:cq) (s:ah),n<=s.heap.objs.size->Sem.wp M Γ t Q E p s ->
 Sem.wp M Γ t (λa p' s'=>n<=s'.heap.objs.size/\Q a p' s') (λe p' s'=>n<=s'.heap.objs.size/\E e p' s') p s:=by
 induction t with
 |pure a=>intro Q E p s hn h;exact⟨hn,h⟩
 |raise e=>intro Q E p s hn h;exact⟨hn,h⟩
 |unsupported _=>intro Q E p s _ h;exact h
 |finish _=>intro Q E p s _ h;exact h
 |rule _ k ih=>intro Q E p s hn h;exact ih () Q E p s hn h
 | «at» p' k ih=>intro Q E p s hn h;exact ih () Q E p' s hn h
 |load a _ k ih=>intro Q E p s hn h;refine oB h λo ho h=>?_;exact⟨o,ho,ih o Q E p s hn h⟩
 |update a _ f k ih=>intro Q E p s hn h;exact⟨h.1,ih () Q E p _ (by simp only[mO];exact hn) h.2⟩
 |loadIfAlive a k ih=>intro Q E p s hn h;exact ih _ Q E p s hn h
 |point _ k ih=>intro Q E p s hn h;exact ih () Q E p s hn h
 |register _ _=>intro Q E p s _ h;exact h
 |alloc o k ih=>intro Q E p s hn h;exact ih _ Q E p _ (by simp only[bg];exact eY hn) h
 |fresh k ih=>intro Q E p s hn h;exact ih _ Q E p {s with toks:=s.toks+1} hn h
 |ask k ih=>intro Q E p s hn h;exact ih _ Q E p s hn h
 |choose src m k ih=>intro Q E p s hn h;exact⟨h.1,ih _ Q E p _ hn h.2⟩
 |os q _ k ih=>intro Q E p s hn h;exact ih _ Q E p _ hn h
 |call c hd _ _ k ih=>intro Q E p s hn h;refine pK h λr s' hr h=>?_;exact⟨r,s',hr,ih r Q E p s' (ae hn (Kp hr)) h⟩
 |handled own k ih=>intro Q E p s hn h;exact ih _ Q E p s hn h
 |genState g k ih=>intro Q E p s hn h;refine oB h λst hs h=>?_;exact⟨st,hs,ih _ Q E p s hn h⟩
 |newGen c k ih=>intro Q E p s hn h;exact ih _ Q E p _ hn h
 |resume g r _ k ih=>intro Q E p s hn h;refine pK h λres s' hw h=>?_;exact⟨res,s',hw,ih res Q E p s' (ae hn (whj hw)) h⟩
 |yield _ _ _ _=>intro Q E p s _ h;exact h
 |stack k ih=>intro Q E p s hn h;exact ih _ Q E p s hn h
 |fork _ _=>intro Q E p s _ h;exact h
 |thread k ih=>intro Q E p s hn h;exact ih _ Q E p s hn h
 |await _ _ _ _ _=>intro Q E p s _ h;exact h
structure Up(s s':ah):Prop where
 size:s.heap.objs.size<=s'.heap.objs.size
 toks:s.toks<=s'.toks
theorem whq{α:Type}{M:m9}{A:br}{s:ah}{t:fe α}{Q:α->ah->Prop}{E:Value->ah->Prop}{n:Nat}(hn:n<=s.heap.objs.size)(h:ao M A t Q E s):
 ao M A t (λa s'=>n<=s'.heap.objs.size/\Q a s') (λe s'=>n<=s'.heap.objs.size/\E e s') s :=
 λΓ p Z1=>whr M Γ n t _ _ p s hn (h Γ p Z1)
theorem sG{α:Type}{M:m9}{A:br}{s:ah}{t:fe α}{Q:α->ah->Prop}{E:Value->ah->Prop}(h:ao M A t (λa s'=>Up s s'->Q a s') (λe s'=>Up s s'->E e s') s):ao M A t Q E s :=
 b9 (wpAny_toks_of (ai s.toks) (whq (ai s.heap.objs.size) h)) (λY Y x=>x.2.2 ⟨x.2.1,x.1⟩) λY Y x=>x.2.2 ⟨x.2.1,x.1⟩
end
section
open PySem PySem.W PyProof.Rows
set_option backward.match.sparseCases true
noncomputable abbrev oE:Value->ah->Prop:=λY Y=>False
noncomputable abbrev qt(h h':bU):Prop:=∀b o,h.get? b=some o->h'.get? b=some o
theorem qt.refl(h:bU):qt h h:=λY Y e=>e
theorem qt.trans{h h' uM:bU}(x:qt h h')(y:qt h' uM):qt h uM:=λb o e=>y b o (x b o e)
theorem J8{h:bU}{a:aw}(e:h.objs.size<=a):h.get? a=none:=by
 induction q:h.get? a using aa with
 |none=>rfl
 |some o=>exact absurd (aN q) (bu.mpr e)
theorem Keeps.refl(s:ah):nU s s:=⟨s.heap,s.toks,rfl,λY Y e=>e⟩
theorem Keeps.trans{s s' qV:ah}(x:nU s s')(y:nU s' qV):nU s qV:=by
 refine pK x ?_;rintro h t rfl k;refine pK y ?_;rintro h' t' rfl k';exact⟨h',t',rfl,λb o e=>k' b o (k b o e)⟩
theorem Keeps.ext{s s':ah}(x:nU s s'):qt s.heap s'.heap:=by
 refine pK x ?_;rintro h t rfl k;exact k
section up
variable {α:Type}{M:m9}{A:br}{s:ah}
theorem up{t:fe α}{P Q:α->ah->Prop}{E:Value->ah->Prop}(h:ao M A t P oE s)(hQ:∀a s',P a s'->Q a s'):ao M A t Q E s :=
 b9 h hQ λY Y x=>x.elim
end up
noncomputable abbrev Gh:=kP->UInt64->Prop
mutual
inductive VR(tk:aw) (φ:Gh) (h:bU) (β:List aw) (P:aw->Prop):AV->Value->Prop
 |none:VR tk φ h β P .none .none
 |bool (b:Bool):VR tk φ h β P (.bool b) (.bool b)
 |int (i:Int) (t:kP):VR tk φ h β P (.int i) (.int i t)
 |flt (x:UInt64) (t:kP) (ht:φ t x):VR tk φ h β P (.flt x) (.float x t)
 |str (cs:List Nat) (t:kP):VR tk φ h β P (.str cs) (.str ⟨cs.toArray⟩ t)
 |tup {vs:List AV}{a:aw}{xs:List Value} (e:j1 h a xs.toArray) (p:P a) (r:oA tk φ h β P vs xs):VR tk φ h β P (.tup vs) (.ref a)
 |lst {vs:List AV}{a:aw}{xs:List Value} (e:h.PlainList a xs.toArray) (p:P a) (r:oA tk φ h β P vs xs):VR tk φ h β P (.lst vs) (.ref a)
 |dct {vs:List AV}{ks:List Int}{a:aw}{xs:List Value} (e:h.DictOf (bZ oj wd) a (ks.zip xs)) (p:P a) (hl:ks.length=vs.length) (r:oA tk φ h β P vs xs):VR tk φ h β P (.dct (ks.zip vs)) (.ref a)
 |ref {i:Nat}{a:aw} (e:β[i]?=some a):VR tk φ h β P (.ref i) (.ref a)
 |tok:VR tk φ h β P .tok (.ref tk)
inductive oA(tk:aw) (φ:Gh) (h:bU) (β:List aw) (P:aw->Prop):List AV->List Value->Prop
 |nil:oA tk φ h β P [] []
 |cons {v:AV}{x:Value}{vs:List AV}{xs:List Value} (a:VR tk φ h β P v x) (r:oA tk φ h β P vs xs):oA tk φ h β P (v::vs) (x::xs)
end
section
variable {tk:aw}{φ ow:Gh}{h h':bU}{β oO:List aw}{P P':aw->Prop}
theorem wdC{β oO:List aw}(hb:β <+: oO){i:Nat}{a:aw}(e:β[i]?=some a):oO[i]?=some a:=by
 refine o6 hb ?_;rintro t rfl;rw[aL]
 ·exact e
 ·exact(aS.mp e).1
theorem IsTup.at{a:aw}{xs:Array Value}(x:j1 h a xs)(e:∀o,h.get? a=some o->h'.get? a=some o):j1 h' a xs:=let⟨o,ho,r⟩:=x;⟨o,e _ ho,r⟩
theorem DictOf.at{a:aw}{oQ:List (Int×Value)}(x:h.DictOf (bZ oj wd) a oQ)(e:∀o,h.get? a=some o->h'.get? a=some o):h'.DictOf (bZ oj wd) a oQ :=
 let⟨o,es,ep,ho,r⟩:=x;⟨o,es,ep,e _ ho,r⟩
theorem VR.mono(xb:∀t x,φ t x->ow t x)(hk:∀a o,P a->h.get? a=some o->h'.get? a=some o/\P' a)(hb:β <+: oO){v:AV}{x:Value}(r:VR tk φ h β P v x):VR tk ow h' oO P' v x :=
 VR.rec (motive_1:=λv x Y=>VR tk ow h' oO P' v x) (motive_2:=λvs xs Y=>oA tk ow h' oO P' vs xs) .none .bool .int (λx t ht=>.flt x t (xb t x ht)) .str
  (λe p Y r=>e.elim λo ho=>.tup (IsTup.at e λo ho=>(hk _ o p ho).1) (hk _ o p ho.1).2 r)
  (λe p Y r=>e.elim λn ho=>.lst (e.at λo ho=>(hk _ _ p ho).1) (hk _ _ p ho).2 r)
  (λe p hl Y r=>e.elim λo q=>q.elim λY q=>q.elim λY ho=>.dct (DictOf.at e λo ho=>(hk _ o p ho).1) (hk _ o p ho.1).2 hl r)
  (λe=>.ref (wdC hb e)) .tok .nil (λY Y a r=>.cons a r) r
theorem oA.ind{motive:List AV->List Value->Prop}(nil:motive [] [])(cons:∀{v x vs xs},VR tk φ h β P v x->oA tk φ h β P vs xs->motive vs xs->motive (v::vs) (x::xs)){vs:List AV}{xs:List Value}(r:oA tk φ h β P vs xs):motive vs xs :=
 oA.rec (motive_1:=λY Y Y=>True) (motive_2:=λvs xs Y=>motive vs xs) trivial (λY=>trivial) (λY Y=>trivial) (λY Y Y=>trivial) (λY Y=>trivial) (λY Y Y Y=>trivial) (λY Y Y Y=>trivial) (λY Y Y Y Y=>trivial) (λY=>trivial) trivial nil (λa r Y ih=>cons a r ih) r
theorem oA.mono(xb:∀t x,φ t x->ow t x)(hk:∀a o,P a->h.get? a=some o->h'.get? a=some o/\P' a)(hb:β <+: oO){vs:List AV}{xs:List Value}(r:oA tk φ h β P vs xs):oA tk ow h' oO P' vs xs :=
 r.ind .nil λa Y r=>.cons (a.mono xb hk hb) r
theorem oA.ext(hk:qt h h'){v:List AV}{x:List Value}(r:oA tk φ h β P v x):oA tk φ h' β P v x:=r.mono (λY Y e=>e) (λa o p e=>⟨hk a o e,p⟩) (aB _)
theorem VR.weak(hk:∀a,P a->P' a){v:AV}{x:Value}(r:VR tk φ h β P v x):VR tk φ h β P' v x:=r.mono (λY Y e=>e) (λa o p e=>⟨e,hk a p⟩) (aB _)
theorem oA.weak(hk:∀a,P a->P' a){v:List AV}{x:List Value}(r:oA tk φ h β P v x):oA tk φ h β P' v x:=r.mono (λY Y e=>e) (λa o p e=>⟨e,hk a p⟩) (aB _)
theorem oA.length{vs:List AV}{xs:List Value}(r:oA tk φ h β P vs xs):vs.length=xs.length:=r.ind (motive:=λvs xs=>vs.length=xs.length) rfl λY Y e=>congrArg (·+1) e
theorem oA.get{vs:List AV}{xs:List Value}{i:Nat}{v:AV}(r:oA tk φ h β P vs xs):vs[i]?=some v->∃x,xs[i]?=some x/\VR tk φ h β P v x :=
 r.ind (motive:=λvs xs=>∀i,vs[i]?=some v->∃x,xs[i]?=some x/\VR tk φ h β P v x) (λY e=>oq (mr▸e)) (λa Y ih i e=>by
  induction i using ce with
  |zero=>exact oV _ rfl (ag e▸a)
  |succ i=>exact ih i e) i
theorem oA.getr{vs:List AV}{xs:List Value}{i:Nat}{x:Value}(r:oA tk φ h β P vs xs):xs[i]?=some x->∃v,vs[i]?=some v/\VR tk φ h β P v x :=
 r.ind (motive:=λvs xs=>∀i,xs[i]?=some x->∃v,vs[i]?=some v/\VR tk φ h β P v x) (λY e=>oq (mr▸e)) (λa Y ih i e=>by
  induction i using ce with
  |zero=>exact oV _ rfl (ag e▸a)
  |succ i=>exact ih i e) i
theorem oA.append{vs us:List AV}{xs ys:List Value}(r:oA tk φ h β P vs xs)(q:oA tk φ h β P us ys):oA tk φ h β P (vs++us) (xs++ys):=
 r.ind (motive:=λvs xs=>oA tk φ h β P (vs++us) (xs++ys)) q λa Y ih=>.cons a ih
theorem oA.single{v:AV}{x:Value}(a:VR tk φ h β P v x):oA tk φ h β P [v] [x]:=.cons a .nil
theorem oA.reverse{vs:List AV}{xs:List Value}(r:oA tk φ h β P vs xs):oA tk φ h β P vs.reverse xs.reverse :=
 r.ind (motive:=λvs xs=>oA tk φ h β P vs.reverse xs.reverse) .nil λa Y ih=>by refine oa dN ?_;refine oa dN ?_;exact ih.append (.single a)
theorem oA.take{vs:List AV}{xs:List Value}(n:Nat)(r:oA tk φ h β P vs xs):oA tk φ h β P (vs.take n) (xs.take n):=
 r.ind (motive:=λvs xs=>∀n,oA tk φ h β P (vs.take n) (xs.take n)) (λY=>by refine oa nE ?_;refine oa nE ?_;exact .nil) (λa Y ih n=>by
  induction n using ce with
  |zero=>exact .nil
  |succ n=>exact .cons a (ih n)) n
theorem oA.drop{vs:List AV}{xs:List Value}(n:Nat)(r:oA tk φ h β P vs xs):oA tk φ h β P (vs.drop n) (xs.drop n):=
 r.ind (motive:=λvs xs=>∀n,oA tk φ h β P (vs.drop n) (xs.drop n)) (λY=>by refine oa nF ?_;refine oa nF ?_;exact .nil) (λa r ih n=>by
  induction n using ce with
  |zero=>exact .cons a r
  |succ n=>exact ih n) n
noncomputable def Li(tk:aw)(φ:Gh)(h:bU)(β:List aw)(P:aw->Prop):List AV->List Value->Prop
 | [],xs=>xs=[]
 |v::vs,xs=>∃x ys,xs=x::ys/\VR tk φ h β P v x/\oA tk φ h β P vs ys
theorem oA.uncons{v:AV}{vs:List AV}{xs:List Value}(r:oA tk φ h β P (v::vs) xs):∃x ys,xs=x::ys/\VR tk φ h β P v x/\oA tk φ h β P vs ys :=
 r.ind (motive:=Li tk φ h β P) rfl λa r Y=>⟨_,_,rfl,a,r⟩
theorem oA.unnil{xs:List Value}(r:oA tk φ h β P [] xs):xs=[]:=r.ind (motive:=Li tk φ h β P) rfl λa r Y=>⟨_,_,rfl,a,r⟩
noncomputable def Lh(tk:aw)(φ:Gh)(h:bU)(β:List aw)(P:aw->Prop)(v:AV)(x:Value):Prop:=match v with
 | .none=>x=.none
 | .bool b=>x=.bool b
 | .int i=>∃t,x=.int i t
 | .flt y=>∃t,x=.float y t/\φ t y
 | .str cs=>∃t,x=.str ⟨cs.toArray⟩ t
 | .tup vs=>∃a,x=.ref a/\∃xs:List Value,j1 h a xs.toArray/\P a/\oA tk φ h β P vs xs
 | .lst vs=>∃a,x=.ref a/\∃xs:List Value,h.PlainList a xs.toArray/\P a/\oA tk φ h β P vs xs
 | .dct es=>∃a,x=.ref a/\∃(ks:List Int) (vs:List AV) (xs:List Value),es=ks.zip vs/\ks.length=vs.length/\h.DictOf (bZ oj wd) a (ks.zip xs)/\P a/\oA tk φ h β P vs xs
 | .ref i=>∃a,x=.ref a/\β[i]?=some a
 | .tok=>x=.ref tk
theorem VR.inv{v:AV}{x:Value}(r:VR tk φ h β P v x):Lh tk φ h β P v x :=
 VR.casesOn (motive_1:=λv x Y=>Lh tk φ h β P v x) r rfl (λY=>rfl) (λY t=>⟨t,rfl⟩) (λY t ht=>⟨t,rfl,ht⟩) (λY t=>⟨t,rfl⟩) (λe p r=>⟨_,rfl,_,e,p,r⟩) (λe p r=>⟨_,rfl,_,e,p,r⟩) (λe p hl r=>⟨_,rfl,_,_,_,rfl,hl,e,p,r⟩) (λe=>⟨_,rfl,e⟩) rfl
theorem VR.intv{i:Int}{x:Value}(r:VR tk φ h β P (.int i) x):∃t,x=.int i t:=r.inv
section
variable {x:Value}{motive:Value->Prop}
@[elab_as_elim] theorem VR.e_none (r:VR tk φ h β P .none x) (k:motive .none):motive x:=(show x=_ from r.inv)▸k
@[elab_as_elim] theorem VR.e_bool {b:Bool} (r:VR tk φ h β P (.bool b) x) (k:motive (.bool b)):motive x:=(show x=_ from r.inv)▸k
@[elab_as_elim] theorem VR.e_int {i:Int} (r:VR tk φ h β P (.int i) x) (k:∀t,motive (.int i t)):motive x:=fP r.inv λt e=>e▸k t
@[elab_as_elim] theorem VR.e_flt {y:UInt64} (r:VR tk φ h β P (.flt y) x) (k:∀t,φ t y->motive (.float y t)):motive x:=fP r.inv λt e=>e.1▸k t e.2
@[elab_as_elim] theorem VR.e_str {cs:List Nat} (r:VR tk φ h β P (.str cs) x) (k:∀t,motive (.str ⟨cs.toArray⟩ t)):motive x:=fP r.inv λt e=>e▸k t
@[elab_as_elim] theorem VR.e_tup {vs:List AV} (r:VR tk φ h β P (.tup vs) x) (k:∀a (xs:List Value),j1 h a xs.toArray->P a->oA tk φ h β P vs xs->motive (.ref a)):motive x :=
 fP r.inv λY e=>e.1▸e.2.elim λY q=>k _ _ q.1 q.2.1 q.2.2
@[elab_as_elim] theorem VR.e_lst {vs:List AV} (r:VR tk φ h β P (.lst vs) x) (k:∀a (xs:List Value),h.PlainList a xs.toArray->P a->oA tk φ h β P vs xs->motive (.ref a)):motive x :=
 fP r.inv λY e=>e.1▸e.2.elim λY q=>k _ _ q.1 q.2.1 q.2.2
@[elab_as_elim] theorem VR.e_dct {es:List (Int×AV)} (r:VR tk φ h β P (.dct es) x) (k:∀a (ks:List Int) (vs:List AV) (xs:List Value),es=ks.zip vs->ks.length=vs.length->h.DictOf (bZ oj wd) a (ks.zip xs)->P a->oA tk φ h β P vs xs->motive (.ref a)):motive x :=
 fP r.inv λY e=>e.1▸e.2.elim λY q=>q.elim λY q=>q.elim λY q=>k _ _ _ _ q.1 q.2.1 q.2.2.1 q.2.2.2.1 q.2.2.2.2
@[elab_as_elim] theorem VR.e_ref {i:Nat} (r:VR tk φ h β P (.ref i) x) (k:∀a,β[i]?=some a->motive (.ref a)):motive x:=fP r.inv λY e=>e.1▸k _ e.2
@[elab_as_elim] theorem VR.e_tok (r:VR tk φ h β P .tok x) (k:motive (.ref tk)):motive x:=(show x=_ from r.inv)▸k
end
section
variable {xs:List Value}{motive:List Value->Prop}{u v z:AV}
@[elab_as_elim] theorem oA.e1 (r:oA tk φ h β P [v] xs) (k:∀x,VR tk φ h β P v x->motive [x]):motive xs:=by
 refine qe r.uncons λx ys e a q=>?_;refine oa e ?_;refine oa q.unnil ?_;exact k x a
@[elab_as_elim] theorem oA.e2 (r:oA tk φ h β P [v,u] xs) (k:∀x y,VR tk φ h β P v x->VR tk φ h β P u y->motive [x,y]):motive xs:=by
 refine qe r.uncons λx ys e a q=>?_;refine oa e ?_;exact q.e1 λy b=>k x y a b
@[elab_as_elim] theorem oA.e3 (r:oA tk φ h β P [v,u,z] xs) (k:∀x y t,VR tk φ h β P v x->VR tk φ h β P u y->VR tk φ h β P z t->motive [x,y,t]):motive xs:=by
 refine qe r.uncons λx ys e a q=>?_;refine oa e ?_;exact q.e2 λy t b c=>k x y t a b c
end
end
inductive OR(tk:aw) (φ:Gh) (h:bU) (β:List aw) (P:aw->Prop):AO->aw->Prop
 |list {vs:List AV}{a:aw}{xs:List Value} (e:h.PlainList a xs.toArray) (r:oA tk φ h β P vs xs):OR tk φ h β P (.list vs) a
 |dict {vs:List AV}{ks:List Int}{a:aw}{xs:List Value} (e:h.DictOf (bZ oj wd) a (ks.zip xs)) (hl:ks.length=vs.length) (r:oA tk φ h β P vs xs):OR tk φ h β P (.dict (ks.zip vs)) a
section
variable {tk:aw}{φ:Gh}{h:bU}{β:List aw}{P:aw->Prop}
theorem OR.e_list{vs:List AV}{a:aw}{Q:Prop}(r:OR tk φ h β P (.list vs) a)(k:∀xs:List Value,h.PlainList a xs.toArray->oA tk φ h β P vs xs->Q):Q:=by
 cases r with|list e r=>exact k _ e r
theorem OR.e_dict{es:List (Int×AV)}{a:aw}{Q:Prop}(r:OR tk φ h β P (.dict es) a)(k:∀(ks:List Int) (vs:List AV) (xs:List Value),es=ks.zip vs->ks.length=vs.length->h.DictOf (bZ oj wd) a (ks.zip xs)->oA tk φ h β P vs xs->Q):Q:=by
 cases r with|dict e hl r=>exact k _ _ _ rfl hl e r
end
structure GD where
 mg:Str->Option Value
 mb:Str->Option Value
 tok:aw
 fns:Nat->Option (Str×cg)
 tabs:List (aw×aw×cq×Str)
noncomputable def GD.X(G:GD)(b:aw):Prop:=∃t∈G.tabs,t.2.1=b
noncomputable abbrev BD(t:aw×aw×cq×Str)(c:aw):nk:=gC #[gV t.2.2.1.line,gV t.2.2.1.col,.ref c]
noncomputable def pJ(G:GD)(h:bU):Prop:=∀t∈G.tabs,h.get? t.2.1=some (gC #[])\/∃c,h.get? t.2.1=some (BD t c)/\h.CodeRec (.ref c) t.2.2.2
noncomputable def pZ(G:GD)(h:bU)(c:aw):Prop:=∃t∈G.tabs,h.get? t.2.1=some (BD t c)
noncomputable def zH(x:Str):Option Int:=qK.lookup x.cps.toList
structure pp(G:GD) (h:bU):Prop where
 g:h.Ns aG G.mg
 b:h.Ns bO G.mb
 stat:h.Ns gY (λY=>none)
 tok:∃f,h.MapOf (strKind oj wd) G.tok f/\(∀x k,zH x=some k->∃t,f x=some (.int k t))/\(∀x,zH x=none->f x=none)
 tokMod:(G.tok==bN)=false
 fns:∀k x fd,G.fns k=some (x,fd)->∃a o,G.mg x=some (.ref a)/\h.get? a=some o/\o.data=.func fd/\h.CodeRec fd.code fd.qualname
 heads:∀t∈G.tabs,jF h t.1 t.2.1
 tabs:pJ G h
 bmain:∃bm ob,G.mg "__builtins__" = some (.ref bm)/\bm≠bO/\h.get? bm=some ob/\ob.cls=.type "module" /\ ob.dict=some bO/\ob.data=.plain
 b1:∃a n,G.mg "b1_set" = some (.ref a)/\h.SetOf (bZ oj wd) a rJ n
 b3:∃a f,G.mg "b3_exceptions" = some (.ref a)/\(a==bN)=false/\h.MapOf (bZ oj wd) a f/\(∀k x,wM k=some x->∃t,f k=some (.str x t))/\∀k,wM k=none->f k=none
theorem pJ.keeps(x:pJ G h)(hk:qt h h'):pJ G h':=λt ht=>(x t ht).imp (hk _ _) λ⟨c,a,b⟩=>oV c (hk _ _ a) (b.keeps hk)
theorem pp.lim(x:pp G h):h.NoLimit:=⟨_,x.stat,rfl⟩
theorem pp.booked(x:pp G h):iO h:=⟨_,x.stat,rfl⟩
theorem MapOf.keeps(hm:h.MapOf (strKind oj wd) a f)(hk:qt h h'):h'.MapOf (strKind oj wd) a f :=
 let⟨o,es,ep,ho,r⟩:=hm;⟨o,es,ep,hk _ _ ho,r⟩
theorem MapOf.keepsI(hm:h.MapOf (bZ oj wd) a f)(hk:qt h h'):h'.MapOf (bZ oj wd) a f :=
 let⟨o,es,ep,ho,r⟩:=hm;⟨o,es,ep,hk _ _ ho,r⟩
theorem SetOf.keeps(hm:h.SetOf (bZ oj wd) a S n)(hk:qt h h'):h'.SetOf (bZ oj wd) a S n :=
 let⟨o,es,ep,t,ho,r⟩:=hm;⟨o,es,ep,t,hk _ _ ho,r⟩
theorem pp.keeps(x:pp G h)(hk:qt h h'):pp G h' where
 g:=x.g.keeps hk
 b:=x.b.keeps hk
 stat:=x.stat.keeps hk
 tok:=let⟨f,m,r⟩:=x.tok;⟨f,MapOf.keeps m hk,r⟩
 tokMod:=x.tokMod
 fns:=λk y fd e=>let⟨a,o,h1,h2,h3,h4⟩:=x.fns k y fd e;⟨a,o,h1,hk _ _ h2,h3,h4.keeps hk⟩
 heads:=λt ht=>(x.heads t ht).keeps hk
 tabs:=x.tabs.keeps hk
 bmain:=let⟨bm,ob,h1,h2,h3,r⟩:=x.bmain;⟨bm,ob,h1,h2,hk _ _ h3,r⟩
 b1:=let⟨a,n,h1,h2⟩:=x.b1;⟨a,n,h1,SetOf.keeps h2 hk⟩
 b3:=let⟨a,f,h1,h2,h3,r⟩:=x.b3;⟨a,f,h1,h2,MapOf.keepsI h3 hk,r⟩
structure rO(G:GD):Prop where
 divLimit:∃t,G.mg "_DIV_LIMIT" = some (.int 4000 t)
 ntOffset:∃t,G.mg "NT_OFFSET" = some (.int 256 t)
 endMarker:∃t,G.mg "ENDMARKER" = some (.int 0 t)
 tok:G.mg "EXACT_TOKEN_TYPES" = some (.ref G.tok)
 types:∀x∈(["range","list","int","bool","reversed"]:List String),G.mg (cM x)=none/\G.mb (cM x)=some (.type x)
 builtins:∀x∈(["len","sum","max","min","ord","chr","divmod","isinstance"]:List String),G.mg (cM x)=none/\G.mb (cM x)=some (.builtin x)
structure qc(oe:Env) (T:Tb):Prop where
 kind:oe.scope.kind=.function
 loc:∀x,T.names.lookup x=some .local->oe.kindOf x=some .local
 cel:∀x,T.names.lookup x=some .cell->oe.kindOf x=some .cell
 fre:∀x,T.names.lookup x=some .free->oe.kindOf x=some .cell\/oe.kindOf x=some .free
 inj:∀x y c,oe.cells.lookup x=some c->oe.cells.lookup y=some c->x=y
 glob:∀x,T.names.lookup x=some .globalImplicit->oe.kindOf x=some .globalImplicit
 g:oe.globals=aG
 b:oe.builtins=bO
structure wc(T:Tb):Prop where
 inj:∀x y i,T.var x=some i->T.var y=some i->x=y
 lt:∀x i,T.var x=some i->i<T.next
noncomputable def zP(oe:Env)(m:Str->Option Value)(h:bU)(x:Str)(v:Value):Prop :=
 (oe.kindOf x=some .local/\m x=some v) \/
 ∃c,oe.cells.lookup x=some c/\(oe.kindOf x=some .cell\/oe.kindOf x=some .free)/\h.IsCell c (some v)
theorem zP.keeps(n:zP oe m h x v)(hk:qt h h'):zP oe m h' x v :=
 n.imp id λ⟨c,e,k,i⟩=>xV c e k (i.keeps hk)
structure o5(φ:Gh) (s:ah):Prop where
 fn:∀t x y,φ t x->φ t y->x=y
 pos:∀t x,φ t x->t≠0
 lt:∀t x,φ t x->t<s.toks
 one:0<s.toks
structure pQ(s s':ah):Prop where
 keeps:nU s s'
 size:s.heap.objs.size<=s'.heap.objs.size
theorem pQ.refl(s:ah):pQ s s:=⟨Keeps.refl s,ai _⟩
theorem pQ.trans(x:pQ s s')(y:pQ s' qV):pQ s qV:=⟨Keeps.trans x.keeps y.keeps,ae x.size y.size⟩
theorem pQ.ext(x:pQ s s'):qt s.heap s'.heap:=Keeps.ext x.keeps
theorem pQ.tok:pQ s {s with toks:=t}:=⟨⟨s.heap,t,rfl,λY Y e=>e⟩,ai _⟩
structure Go(s:ah) (φ:Gh) (s':ah) (ow:Gh):Prop where
 grows:pQ s s'
 sub:∀t x,φ t x->ow t x
 tk:o5 ow s'
theorem Go.ext(x:Go s φ s' ow):qt s.heap s'.heap:=x.grows.ext
theorem Go.trans(x:Go s φ s' ow)(y:Go s' ow qV xp):Go s φ qV xp:=⟨x.grows.trans y.grows,λt z e=>y.sub t z (x.sub t z e),y.tk⟩
theorem Go.refl(k:o5 φ s):Go s φ s φ:=⟨pQ.refl s,λY Y e=>e,k⟩
theorem Go.same(k:o5 φ s)(g:pQ s s')(ht:s.toks<=s'.toks):Go s φ s' φ :=
 ⟨g,λY Y e=>e,k.fn,k.pos,λt x e=>ab (k.lt t x e) ht,ab k.one ht⟩
theorem Go.flt{x:UInt64}(k:o5 φ s):Go s φ {s with toks:=s.toks+1} (λt y=>φ t y\/(t=s.toks/\y=x)):=by
 refine⟨pQ.tok,λY Y e=>.inl e,λt a b h1 h2=>?_,λt a h=>?_,λt a h=>?_,lb _⟩
 ·rcases h1 with h1|⟨h1,rfl⟩<;>rcases h2 with h2|⟨h2,rfl⟩
  ·exact k.fn t a b h1 h2
  ·exact absurd (k.lt t a h1) (by refine oa h2 ?_;exact aJ _)
  ·exact absurd (k.lt t b h2) (by refine oa h1 ?_;exact aJ _)
  ·rfl
 ·rcases h with h|⟨h,_⟩
  ·exact k.pos t a h
  ·refine oa h ?_;exact cO k.one
 ·rcases h with h|⟨h,_⟩
  ·exact fF (k.lt t a h)
  ·refine oa h ?_;exact bT _
theorem Qm(h:Gw x=true):(x==("__debug__":Str))=false/\(x==("__classdict__":Str))=false:=by
 unfold Gw at h;rw[aO]at h;exact⟨by simpa using h.1,by simpa using h.2⟩
theorem Ql{T:Tb}(hx:T.var x=some i):(x==("__debug__":Str))=false/\(x==("__classdict__":Str))=false:=by
 refine Qm ?_;unfold Tb.var at hx;split at hx
 ·split at hx
  ·assumption
  ·cases hx
 ·split at hx
  ·assumption
  ·cases hx
 ·split at hx
  ·assumption
  ·cases hx
 ·cases hx
structure whI(A:br) (n:Nat):Prop where
 handled:A.handled=none
 depth:A.depth+n<fR
 units:A.units+40*(n+1)<k0
noncomputable def oR(tk:aw)(φ:Gh)(s:ah)(β:List aw)(P:aw->Prop)(r:AV):Value->ah->Prop :=
 λv' s'=>∃ow,Go s φ s' ow/\VR tk ow s'.heap β P r v'
noncomputable def qE(tk:aw)(φ:Gh)(h:bU)(β:List aw)(P:aw->Prop)(σ:oH):Prop :=
 ∀(i:Nat) (o:AO),σ[i]?=some o->o≠AO.gone->∃a,β[i]?=some a/\OR tk φ h β P o a
noncomputable def to(s:ah)(P:aw->Prop):Prop:=∀a,s.heap.objs.size<=a->P a
theorem to.go(F:to s P)(k:Go s φ s' ow):to s' P:=λa h=>F a (ae k.grows.size h)
theorem tj(K:o5 φ s):oR tk φ s β P (.int i) (.int i t) {s with toks:=s.toks+1}:=⟨φ,.same K pQ.tok (bw _),.int _ _⟩
theorem yB(K:o5 φ s):oR tk φ s β P (.flt x) (.float x s.toks) {s with toks:=s.toks+1}:=⟨_,.flt K,.flt _ _ (.inr ⟨rfl,rfl⟩)⟩
theorem zC(K:o5 φ s)(h:s.toks<=t'):oR tk φ s β P (.str x) (.str ⟨x.toArray⟩ t) {s with toks:=t'}:=⟨φ,.same K pQ.tok h,.str _ _⟩
theorem vX(K:o5 φ s):oR tk φ s β P (.bool b) (.bool b) s:=⟨φ,.refl K,.bool _⟩
theorem wE(K:o5 φ s)(h:VR tk φ s.heap β P r v):oR tk φ s β P r v s:=⟨φ,.refl K,h⟩
theorem pQ.push:pQ s {s with heap:=s.heap.push o}:=
 ⟨⟨_,s.toks,rfl,λY Y e=>av _ e⟩,by simp⟩
theorem pQ.pushT:pQ s {s with heap:=s.heap.push o,toks:=t}:=
 ⟨⟨_,t,rfl,λY Y e=>av _ e⟩,by simp⟩
theorem JP(O:qE tk φ h β P σ)(e:oX σ v=some vs)(r:VR tk φ h β P v x):
 ∃a xs,x=.ref a/\h.PlainList a xs.toArray/\oA tk φ h β P vs xs:=by
 cases r with
 |lst e' p r'=>cases e;exact zk _ _ rfl e' r'
 | @ref i a hb =>
  refine oB (O i _ (wbr e) (by simp)) λa' h1 h2=>?_;rw[hb]at h1;cases h1;cases h2 with
  |list e' r'=>exact zk _ _ rfl e' r'
 |_=>cases e
theorem te(O:qE tk φ h β P σ)(e:oX σ v=some vs)(r:VR tk φ h β P v x):
 ∃a xs,x=.ref a/\h.IsList a xs.toArray/\oA tk φ h β P vs xs:=by
 refine qe (JP O e r) λa xs h1 h2 h3=>?_;exact zk a xs h1 h2.isList h3
theorem Lp{s:ah}{vs ws:List Value}(hl:s.heap.IsList l vs.toArray)(hb:s.heap.IsList b ws.toArray)(pi:vs.length+ws.length<=fv)(h:Q (.ref s.heap.objs.size) {s with heap:=s.heap.push {cls:=.type "list",data:=.seq (vs++ws).toArray}}):
 ao (ar oj wd) A (gZ .Add (.ref l) (.ref b)) Q E s:=by
 obtain⟨⟨cls,dd,data,sl⟩,ho,hc,n,hd⟩:=id hl;obtain⟨⟨TU,CW,data2,D_⟩,ww,Al,n2,Ds⟩:=id hb;simp only at hc hd Al Ds;subst hc hd Al Ds;have e:vs.toArray++ws.toArray=(vs++ws).toArray:=by simp
 refine jT ⟨_,ho,rfl⟩ ⟨_,ww,rfl⟩ noFill_list_add seq_list_add PySem.F.slot_list_add PySem.F.entry_list_add (PySem.F.args_list_add_2 _ _) (list_addW l b vs.toArray ws.toArray n n2 dd CW sl D_ (by simpa using pi)) ⟨ho,ww,?_⟩;refine oa e ?_;exact h
theorem RW(ht:j1 s.heap t vs.toArray)(hb:j1 s.heap b ws.toArray)(pi:vs.length+ws.length<=fv)(h0:vs=[]->Q (.ref b) s)(h1:ws=[]->Q (.ref t) s)(h2:Q (.ref s.heap.objs.size) {s with heap:=s.heap.push {cls:=.type "tuple",data:=.seq (vs++ws).toArray}}):
 ao (ar oj wd) A (gZ .Add (.ref t) (.ref b)) Q E s:=by
 obtain⟨⟨cls,dd,data,sl⟩,ho,hc,n,hd⟩:=id ht;obtain⟨⟨TU,CW,data2,D_⟩,ww,Al,n2,Ds⟩:=id hb;simp only at hc hd Al Ds;subst hc hd Al Ds;have e:vs.toArray++ws.toArray=(vs++ws).toArray:=by simp
 by_cases hv:vs=[]
 ·exact jT ⟨_,ho,rfl⟩ ⟨_,ww,rfl⟩ ka lB g7 gO (gF _ _)
   (tuple_addW0 t b vs.toArray ws.toArray n n2 dd CW sl D_ (by simp[hv])) ⟨ho,ww,h0 hv⟩
 ·by_cases hw:ws=[]
  ·exact jT ⟨_,ho,rfl⟩ ⟨_,ww,rfl⟩ ka lB g7 gO (gF _ _)
    (tuple_addW1 t b vs.toArray ws.toArray n n2 dd CW sl D_ (by simpa using hv) (by simp[hw])) ⟨ho,ww,h1 hw⟩
  ·refine jT ⟨_,ho,rfl⟩ ⟨_,ww,rfl⟩ ka lB g7 gO (gF _ _)
    (tuple_addW2 t b vs.toArray ws.toArray n n2 dd CW sl D_ (by simpa using hv) (by simpa using hw) (by refine oa aC ?_;refine oa aC ?_;exact pi)) ⟨ho,ww,?_⟩
   refine oa e ?_;exact h2
theorem sk(h:n<=100000):n<=fv:=ae h (by decide)
theorem AH{xs:List Value}(h:bU):(h.push {cls:=.type "list",data:=.seq xs.toArray}).PlainList h.objs.size xs.toArray:=⟨0,bx _ rfl⟩
theorem J3{xs:List Value}(h:bU):j1 (h.push {cls:=.type "tuple",data:=.seq xs.toArray}) h.objs.size xs.toArray:=⟨_,bx _ rfl,rfl,0,rfl⟩
theorem Kk(K:o5 φ s)(F:to s P)(r:oA tk φ s.heap β P vs xs):
 oR tk φ s β P (.lst vs) (.ref s.heap.objs.size) {s with heap:=s.heap.push {cls:=.type "list",data:=.seq xs.toArray}}:=
 ⟨φ,.same K pQ.push (ai _),.lst (AH _) (F _ (ai _)) (r.ext pQ.push.ext)⟩
theorem Qv(K:o5 φ s)(F:to s P)(r:oA tk φ s.heap β P vs xs):
 oR tk φ s β P (.tup vs) (.ref s.heap.objs.size) {s with heap:=s.heap.push {cls:=.type "tuple",data:=.seq xs.toArray}}:=
 ⟨φ,.same K pQ.push (ai _),.tup (J3 _) (F _ (ai _)) (r.ext pQ.push.ext)⟩
theorem DL(h:small a=true):aH a<=64:=by
 have h':a.natAbs<2^64:=by simpa [small]using h
 unfold aH;split
 ·exact dh _
 ·have q9:a.natAbs≠0:=by intro e;simp_all
  have:=(iQ q9).mpr h';exact this
theorem waB(h:KV a=true):aH a<=4096:=by
 have h':a.natAbs<2^4096:=of_decide_eq_true h;unfold aH;split
 ·exact dh _
 ·have q9:a.natAbs≠0:=by intro e;simp_all
  have:=(iQ q9).mpr h';exact this
theorem QN(x y:List Nat):(⟨x.toArray⟩:Str)++⟨y.toArray⟩=⟨(x++y).toArray⟩:=by
 apply lE;refine oa (nB _ _) ?_;simp
theorem RV{s:ah}{vs ws:List AV}(K:o5 φ s)(O:qE tk φ s.heap β P σ)(F:to s P)(ha:oX σ a=some vs)(hb:oX σ b=some ws)(o3:vs.length+ws.length<=100000)(ra:VR tk φ s.heap β P a x)(rb:VR tk φ s.heap β P b y):ao (ar oj wd) A (gZ .Add x y) (oR tk φ s β P (.lst (vs++ws))) oE s:=by
 refine qe (te O ha ra) ?_;rintro l xs rfl h1 r1;refine qe (te O hb rb) ?_;rintro l' ys rfl h2 r2;exact Lp h1 h2 (sk (by refine rwj r1.length ?_;refine rwj r2.length ?_;exact o3)) (Kk K F (r1.append r2))
theorem Im(h:uK i=true):i.natAbs<2^53:=by simpa [uK]using h
theorem BX(h:Q (.float x s.toks) {s with toks:=s.toks+1}):(Made.float x).post Q s:=h
set_option tactic.hygienic true in
theorem wfn(K:o5 φ s)(hl:a.length+b.length<=100000)(hQ:∀v s',oR tk φ s β P (.str (a++b)) v s'->Q v s'):
 ao (ar oj wd) A (gZ .Add (.str ⟨a.toArray⟩ x) (.str ⟨b.toArray⟩ y)) Q oE s:=by
 refine PySem.P.add_str ?_;split
 ·rename_i hu;have:=(by simpa [dI]using hu:a=([]:List Nat))
  subst this;exact hQ _ _ (wE K (.str _ _))
 ·split
  ·rename_i hv;have:=(by simpa [dI]using hv:b=([]:List Nat))
   subst this;rw[bB]at hQ;exact hQ _ _ (wE K (.str _ _))
  ·refine oa (QN _ _) ?_;exact⟨by simp only[dI,aC,aq];exact sk hl,hQ _ _ (zC K (bw _))⟩
theorem wgT(K:o5 φ s)(F:to s P)(hl:xs.length+ys.length<=100000)(ra:VR tk φ s.heap β P (.tup xs) x)(rb:VR tk φ s.heap β P (.tup ys) y):
 ao (ar oj wd) A (gZ .Add x y) (oR tk φ s β P (.tup (xs++ys))) oE s:=by
 refine ra.e_tup λa us ea pa uU=>rb.e_tup λb vs eb pb x0=>?_;refine RW ea eb (sk (by refine rwj uU.length ?_;refine rwj x0.length ?_;exact hl)) (λq=>?_) (λq=>?_) (Qv K F (uU.append x0))
 ·subst q;refine oa (bC.mp uU.length) ?_;refine oa (cS _) ?_;exact wE K (.tup eb pb x0)
 ·subst q;refine oa (bC.mp x0.length) ?_;refine oa (bB _) ?_;exact wE K (.tup ea pa uU)
theorem wcp(h:(small i||small j)=true):IntMulOk i j:=by
 rcases(du _ _).mp h with h|h
 ·exact .of_left (DL h)
 ·exact .of_right (DL h)
theorem QB(h:¬(j=0\/(!small j)=true)):small j=true:=by
 induction q:small j using aZ with
 |true=>rfl
 |false=>exact absurd (.inr (by refine oa q ?_;rfl)) h
theorem wby(h:small j=true):j.natAbs.log2<64:=by
 have h3:=DL h;unfold aH at h3;split at h3<;>simp_all<;>exact m6 h3
theorem wdB(h:0<=j/\j<=1000/\small i=true):((aH i:Nat):Int)*j<=2^27:=by
 have h3:((aH i:Nat):Int)<=64:=by exact_mod_cast DL h.2.2
 have h4:((aH i:Nat):Int)*j<=64*j:=Int.mul_le_mul_of_nonneg_right h3 h.1;have h2:=h.2.1;have h5:(2:Int)^27=134217728:=by decide
 lia
theorem Sz(hA:A.handled=none)(K:o5 φ s)(O:qE tk φ s.heap β P σ)(F:to s P)(e:rP σ op a b=some r)(ra:VR tk φ s.heap β P a x)(rb:VR tk φ s.heap β P b y):ao (ar oj wd) A (gZ op x y) (oR tk φ s β P r) oE s:=by
 revert x y;refine Sy (C:=λop a b r=>∀{x y:Value},VR tk φ s.heap β P a x->VR tk φ s.heap β P b y->ao (ar oj wd) A (gZ op x y) (oR tk φ s β P r) oE s)
  (λa b e=>Su (C:=λop a b r=>∀{x y:Value},VR tk φ s.heap β P a x->VR tk φ s.heap β P b y->ao (ar oj wd) A (gZ op x y) (oR tk φ s β P r) oE s) ?_ ?_ ?_ ?_ ?_ ?_ e)
  ?_ ?_ ?_ ?_ ?_ ?_ ?_ ?_ ?_ ?_ ?_ ?_ ?_ ?_ e
 ·exact λi j x y ra rb=>ra.e_int λt=>rb.e_int λu=>add_int (tj K)
 ·exact λi j x y ra rb=>ra.e_flt λt Y=>rb.e_flt λu Y=>AutoFloatOps.add_0 (BX (yB K))
 ·exact λi j h x y ra rb=>ra.e_int λt=>rb.e_flt λu Y=>add_if_fits (bW (Im h) (by decide +kernel)) (yB K)
 ·exact λi j h x y ra rb=>ra.e_str λt=>rb.e_str λu=>wfn K h λY Y h=>h
 ·exact λi j h x y ra rb=>wgT K F h ra rb
 ·exact λa b xs ys h1 h2 h3 x y ra rb=>RV K O F h1 h2 h3 ra rb
 ·exact λi j x y ra rb=>ra.e_int λt=>rb.e_int λu=>sub_int (tj K)
 ·exact λi j h x y ra rb=>ra.e_int λt=>rb.e_int λu=>mul_int (tj K) (wcp h)
 ·exact λi j h x y ra rb=>ra.e_int λt=>rb.e_int λu=>floordiv_int (λq=>h (.inl q)) (tj K) (.inl (jY (bW (wby (QB h)) (by decide))))
 ·exact λi j h x y ra rb=>ra.e_int λt=>rb.e_int λu=>mod_int' h (tj K)
 ·exact λi j h x y ra rb=>ra.e_int λt=>rb.e_int λu=>pow_int h.1 (wdB h) (tj K)
 ·exact λi j h x y ra rb=>ra.e_int λt=>rb.e_int λu=>lshift_int h.1 (by have:=waB h.2.2;have:=h.2.1;lia) (tj K)
 ·exact λi j h x y ra rb=>ra.e_int λt=>rb.e_int λu=>rshift_int h.1 (tj K)
 ·exact λi j x y ra rb=>ra.e_int λt=>rb.e_int λu=>xor_int (tj K)
 ·exact λi j h x y ra rb=>ra.e_int λt=>rb.e_int λu=>AutoIntOps.truediv_2 (λq=>h (.inl (by simpa using q))) (λq=>h (.inr q)) (BX (yB K))
 ·exact λi j h x y ra rb=>ra.e_flt λt Y=>rb.e_flt λu Y=>AutoFloatOps.truediv_1 h (BX (yB K))
 ·exact λi j x y ra rb=>ra.e_flt λt Y=>rb.e_flt λu Y=>AutoFloatOps.sub_0 (BX (yB K))
 ·exact λi j h x y ra rb=>ra.e_flt λt Y=>rb.e_int λu=>sub_fi_sharp hA (λq=>absurd q (Nat.not_le.mpr (bW (Im h) (by decide +kernel)))) λY=>(yB K)
 ·exact λi j x y ra rb=>ra.e_flt λt Y=>rb.e_flt λu Y=>AutoFloatOps.mul_0 (BX (yB K))
 ·exact λi j h x y ra rb=>ra.e_flt λt Y=>rb.e_flt λu Y=>AutoFloatOps.mod_1 h (BX (yB K))
end
section
open PySem PySem.W PyProof.Rows PySem.SeqAt
set_option backward.match.sparseCases true
theorem RcAt.flt_flt(x y:UInt64)(t u:kP):n9 A s (.float x t) (.float y u) (bM x y==some .eq):=λoj wd E Q h=>AutoFloatOps.eq_0 (prog:=oj) (w:=wd) h
theorem RcAt.flt_int(x:UInt64)(j:Int)(t u:kP):n9 A s (.float x t) (.int j u) (dD x j==some .eq):=λoj wd E Q h=>eq_fi (prog:=oj) (w:=wd) h
theorem RcAt.int_flt(x:UInt64)(j:Int)(t u:kP):n9 A s (.int j u) (.float x t) (dD x j==some .eq):=λoj wd E Q h=>eq_if (prog:=oj) (w:=wd) h
theorem EqAt.of_rc(q9:(x==y)=false)(hf:∀p t q u,¬(x=.float p t/\y=.float q u))(h:n9 A s x y b):EqAt A s x y b:=λoj wd E Q hq=>by
 unfold eqBool;refine cF ?_;rw[if_neg (by refine oa q9 ?_;exact bA)];revert hf
 induction x using kh with
 |float p t =>
  induction y using kh with
  |float q u=>exact λhf=>absurd ⟨rfl,rfl⟩ (hf p t q u)
  |_=>exact λY=>an (h oj wd E _ (cz hq))
 |_=>exact λY=>an (h oj wd E _ (cz hq))
theorem EqAt.flt_flt(K:o5 φ s)(hB:iO s.heap)(hx:φ t x)(hy:φ u y)(ON:(bM x x==some kJ)=true):
 EqAt A s (.float x t) (.float y u) (bM x y==some .eq):=λoj wd E Q hq=>by
 unfold eqBool;refine cF ?_;by_cases hab:((fU x t)==(.float y u))=true
 ·have:fU x t=.float y u:=eq_of_beq hab;injection this with h1 h2
  subst h1 h2;refine oa (if_pos hab) ?_;rw[ON]at hq;exact an (iJ (aQ hq))
 ·refine oa (if_neg hab) ?_;show ao _ A (do
   let same <-isSame (.float x t) (.float y u)
   if same=true then pure true else do
    let r <-richCompare .Eq (.float x t) (.float y u)
    truthOfDropped r) Q E s
  have h0:(t==0||u==0)=false:=by
   rw[iH];exact⟨by simpa using K.pos t x hx,by simpa using K.pos u y hy⟩
  have Jq:(t==u)=false:=by
   induction q:t==u using aZ with
   |false=>rfl
   |true =>
    exfalso;have e:=eq_of_beq q;subst e;have:=K.fn t x y hx hy;subst this;exact hab (beq_self_eq_true _)
  have go:∀b:Bool,(b=true->x=y)->ao (ar oj wd) A (if b=true then(pure true:fe Bool)else do
   let r <-richCompare .Eq (.float x t) (.float y u)
   truthOfDropped r) Q E s:=λb hb=>by
   induction b using aZ with
   |true =>
    have:=hb rfl;subst this;rw[ON]at hq;exact aQ hq
   |false=>exact an (RcAt.flt_flt x y t u oj wd E _ (cz hq))
  refine an (m:=isSame (.float x t) (.float y u)) ?_;show ao _ A (mE (x==y&&!iE x) t u) _ E s;unfold mE;refine oa h0 ?_;refine oa (if_neg bA) ?_;refine oa Jq ?_;refine oa (if_neg bA) ?_
  induction hc:(x==y&&!iE x)using aZ with
  |false =>
   simp only[Bool.not_false,if_true];exact aQ (go false λe=>nomatch e)
  |true =>
   have ZY:x=y:=eq_of_beq (dR.mp hc).1;simp only[Bool.not_true,fb,if_false];refine an (lj hB ?_);simp only[fb,if_false];refine an (lj hB ?_);simp only[fb,if_false];exact an (iJ (an (nZ (aQ (go _ λY=>ZY)))))
theorem KA{x y:List Nat}:((⟨x.toArray⟩:Str)==⟨y.toArray⟩)=decide (x=y):=by
 refine rwj (str_beq _ _) ?_;by_cases h:x=y
 ·subst h;simp
 ·refine oa (decide_eq_false h) ?_;simpa using h
theorem Vf{s:ah}(K:o5 φ s)(hB:iO s.heap)(e:qR a b=some r)(ra:VR tk φ s.heap β P a x)(rb:VR tk φ s.heap β P b y):EqAt A s x y r :=
 HH (C:=λa b r=>∀{x y:Value},VR tk φ s.heap β P a x->VR tk φ s.heap β P b y->EqAt A s x y r) (λi j x y ra rb=>ra.e_int λt=>rb.e_int λu=>nY _ _ _ _)
  (λi j h x y ra rb=>ra.e_flt λt h1=>rb.e_flt λu h2=>EqAt.flt_flt K hB h1 h2 h) (λi j x y ra rb=>ra.e_flt λt Y=>rb.e_int λu=>EqAt.of_rc rfl (λY Y Y Y h=>nomatch h.2) (RcAt.flt_int _ _ _ _))
  (λi j x y ra rb=>ra.e_int λt=>rb.e_flt λu Y=>EqAt.of_rc rfl (λY Y Y Y h=>nomatch h.1) (RcAt.int_flt _ _ _ _)) (λi j x y ra rb=>ra.e_str λt=>rb.e_str λu=>KA▸EqAt.str_str _ _ _ _) e ra rb
theorem Vg{s:ah}(e:qR a b=some r)(ra:VR tk φ s.heap β P a x)(rb:VR tk φ s.heap β P b y):n9 A s x y r :=
 HH (C:=λa b r=>∀{x y:Value},VR tk φ s.heap β P a x->VR tk φ s.heap β P b y->n9 A s x y r) (λi j x y ra rb=>ra.e_int λt=>rb.e_int λu=>RcAt.int_int _ _ _ _)
  (λi j h x y ra rb=>ra.e_flt λt h1=>rb.e_flt λu h2=>RcAt.flt_flt _ _ _ _) (λi j x y ra rb=>ra.e_flt λt Y=>rb.e_int λu=>RcAt.flt_int _ _ _ _)
  (λi j x y ra rb=>ra.e_int λt=>rb.e_flt λu Y=>RcAt.int_flt _ _ _ _) (λi j x y ra rb=>ra.e_str λt=>rb.e_str λu=>KA▸RcAt.str_str _ _ _ _) e ra rb
theorem Vh{a b:AV}{as bs:List AV}{r:Bool}{Q:Prop}(h:sN qR (a::as) (b::bs)=some r)(k:∀r1 r2,qR a b=some r1->sN qR as bs=some r2->(r1&&r2)=r->Q):Q:=by
 rw[CY]at h
 induction h1:qR a b using aa with
 |none=>rw[h1]at h;exact oq h
 |some r1 =>
  induction h2:sN qR as bs using aa with
  |none=>rw[h1,h2]at h;exact oq h
  |some r2=>rw[h1,h2]at h;exact k r1 r2 h1 h2 (ag h)
theorem Fb{s:ah}(K:o5 φ s)(hB:iO s.heap){as:List AV}:∀{bs:List AV}{xs ys:List Value}{r:Bool},as.length=bs.length->sN qR as bs=some r->oA tk φ s.heap β P as xs->oA tk φ s.heap β P bs ys ->
 ∃e:Nat->Bool,(∀j (h1:j<xs.length) (h2:j<ys.length),EqAt A s xs[j] ys[j] (e j))/\(ak xs.length).all e=r:=by
 induction as with
 |nil =>
  intro bs xs ys r hl h ra rb
  induction bs using af with
  |cons=>exact nomatch hl
  |nil =>
   refine oa ra.unnil ?_;exact oV (λY=>true) (λj h1=>absurd h1 (iq _)) (ag h)
 |cons a as ih =>
  intro bs xs ys r hl h ra rb
  induction bs using af with
  |nil=>exact nomatch hl
  |cons b bs =>
   refine qe ra.uncons λx vA e1 ra ras=>?_;refine qe rb.uncons λy Et e2 rb rbs=>?_;refine oa e1 ?_;refine oa e2 ?_;refine Vh h λr1 r2 h1 h2 e3=>?_;refine oB (ih (bD hl) h2 ras rbs) λe he ub=>?_;refine oV (λj=>match j with|0=>r1|j+1=>e j) (λj X1 X5=>?_) ?_
   ·induction j using ce with
    |zero=>exact Vf K hB h1 ra rb
    |succ j=>exact he j (fG X1) (fG X5)
   ·refine oa aF ?_;refine oa kX ?_;refine oa eu ?_;refine oa List.all_map ?_;refine rwj e3 ?_;refine rwj ub ?_;rfl
theorem zG{xs:List Value}(h:j<xs.toArray.size):xs.toArray[j]=xs[j]'(by simpa using h):=by simp
theorem Vk{A:br}{s:ah}(K:o5 φ s)(hB:iO s.heap)(O:qE tk φ s.heap β P σ)(hu:A.units<k0)(e:wh σ a b=some r)(ra:VR tk φ s.heap β P a x)(rb:VR tk φ s.heap β P b y):n9 A s x y r:=by
 refine Mo (C:=λa b r=>∀{x y:Value},VR tk φ s.heap β P a x->VR tk φ s.heap β P b y->n9 A s x y r) ?_ ?_ ?_ (λa b r e x y=>Vg e) e ra rb
 ·refine λas bs r hl e x y ra rb=>ra.e_tup λa us ea pa uU=>rb.e_tup λb vs eb pb x0=>?_;refine oB (Fb (A:=A.in1) K hB hl e uU x0) λef he ub=>?_;have:=RcAt.tuples (A:=A) (s:=s) (e:=ef) ea eb hu (λj h1 h2=>by refine oa (zG h1) ?_;refine oa (zG h2) ?_;exact he j _ _);rw[aC,aC,<-uU.length,<-x0.length,hl,lf,beq_self_eq_true,i7]at this;rw[<-uU.length,hl]at ub;exact ub▸this
 ·intro a b as bs r At zf hl e x y ra rb;refine qe (te O At ra) ?_;rintro l xs rfl h1 r1;refine qe (te O zf rb) ?_;rintro l' ys rfl h2 r2;refine oB (Fb (A:=A.in1) K hB hl e r1 r2) λef he ub=>?_;have:=RcAt.lists (A:=A) (s:=s) (e:=ef) h1 h2 (by refine oa aC ?_;refine oa aC ?_;refine rwj r1.length ?_;refine rwj r2.length ?_;refine oa hl ?_;rfl) hu (λj h1 h2=>by refine oa (zG h1) ?_;refine oa (zG h2) ?_;exact he j _ _);rw[aC,ub]at this;exact this
 ·intro a b as bs At zf hl x y ra rb;refine qe (te O At ra) ?_;rintro l xs rfl h1 r1;refine qe (te O zf rb) ?_;rintro l' ys rfl h2 r2;exact RcAt.lists_lengths h1 h2 (by refine oa aC ?_;refine oa aC ?_;refine rwj r1.length ?_;refine rwj r2.length ?_;simpa using hl) hu
theorem Ve(e:qR a b=some r)(ra:VR tk φ s.heap β P a x)(rb:VR tk φ s.heap β P b y):RcNeAt A s x y (!r):=
 HH (C:=λa b r=>∀{x y:Value},VR tk φ s.heap β P a x->VR tk φ s.heap β P b y->RcNeAt A s x y (!r)) (λi j x y ra rb=>ra.e_int λt=>rb.e_int λu=>RcNeAt.int_int _ _ _ _)
  (λi j h x y ra rb=>ra.e_flt λt h1=>rb.e_flt λu h2=>λoj wd E Q h=>AutoFloatOps.ne_0 (prog:=oj) (w:=wd) h) (λi j x y ra rb=>ra.e_flt λt Y=>rb.e_int λu=>λoj wd E Q h=>ne_fi (prog:=oj) (w:=wd) h)
  (λi j x y ra rb=>ra.e_int λt=>rb.e_flt λu Y=>λoj wd E Q h=>ne_if h) (λi j x y ra rb=>ra.e_str λt=>rb.e_str λu=>KA▸RcNeAt.str_str _ _ _ _) e ra rb
theorem Vj(K:o5 φ s)(hB:iO s.heap)(O:qE tk φ s.heap β P σ)(hu:A.units<k0)(e:wh σ a b=some r)(ra:VR tk φ s.heap β P a x)(rb:VR tk φ s.heap β P b y):RcNeAt A s x y (!r):=by
 refine Mo (C:=λa b r=>∀{x y:Value},VR tk φ s.heap β P a x->VR tk φ s.heap β P b y->RcNeAt A s x y (!r)) ?_ ?_ ?_ (λa b r e x y=>Ve e) e ra rb
 ·refine λas bs r hl e x y ra rb=>ra.e_tup λa us ea pa uU=>rb.e_tup λb vs eb pb x0=>?_;refine oB (Fb (A:=A.in1) K hB hl e uU x0) λef he ub=>?_;have:=RcNeAt.tuples (A:=A) (s:=s) (e:=ef) ea eb hu (λj h1 h2=>by refine oa (zG h1) ?_;refine oa (zG h2) ?_;exact he j _ _);rw[aC,aC,<-uU.length,<-x0.length,hl,lf,beq_self_eq_true,i7]at this;rw[<-uU.length,hl]at ub;exact ub▸this
 ·intro a b as bs r At zf hl e x y ra rb;refine qe (te O At ra) ?_;rintro l xs rfl h1 r1;refine qe (te O zf rb) ?_;rintro l' ys rfl h2 r2;refine oB (Fb (A:=A.in1) K hB hl e r1 r2) λef he ub=>?_;have:=RcNeAt.lists (A:=A) (s:=s) (e:=ef) h1 h2 (by refine oa aC ?_;refine oa aC ?_;refine rwj r1.length ?_;refine rwj r2.length ?_;refine oa hl ?_;rfl) hu (λj h1 h2=>by refine oa (zG h1) ?_;refine oa (zG h2) ?_;exact he j _ _);rw[aC,ub]at this;exact this
 ·intro a b as bs At zf hl x y ra rb;refine qe (te O At ra) ?_;rintro l xs rfl h1 r1;refine qe (te O zf rb) ?_;rintro l' ys rfl h2 r2;exact RcNeAt.lists_lengths h1 h2 (by refine oa aC ?_;refine oa aC ?_;refine rwj r1.length ?_;refine rwj r2.length ?_;simpa using hl) hu
inductive sm:List Int->List Value->Prop
 |nil:sm [] []
 |cons {i:Int}{t:kP}{is:List Int}{xs:List Value} (r:sm is xs):sm (i::is) (.int i t::xs)
theorem R8{v:AV}{vs:List AV}{is:List Int}{Q:Prop}(e:qX (v::vs)=some is)(k:∀i js,v=.int i->qX vs=some js->i::js=is->Q):Q:=by
 induction v using AV.casesOn with
 |int i =>
  rw[qX,uv]at e
  induction h:pq JF vs using aa with
  |none=>rw[h]at e;exact oq e
  |some js=>rw[h]at e;exact k i js rfl h (ag e)
 |_=>exact oq e
theorem CH{vs:List AV}{is:List Int}{xs:List Value}(e:qX vs=some is)(r:oA tk φ h β P vs xs):sm is xs :=
 r.ind (motive:=λvs xs=>∀is,qX vs=some is->sm is xs) (λis e=>oN (Q:=λis=>sm is []) (show some []=some is from e) .nil)
  (λa Y ih is e=>R8 e λi js e1 e2 e3=>by
   refine o6 ((e1▸a).intv) λt e4=>?_;refine rwj e3 ?_;refine oa e4 ?_;exact .cons (ih js e2)) is e
noncomputable def A_:Value->Option Int
 | .int i _=>some i
 |_=>none
theorem sm.any(r:sm is xs):(xs.any λy=>A_ y==some i)=is.any (·==i):=by
 induction r with
 |nil=>rfl
 |cons _ ih=>refine oa i4 ?_;refine oa i4 ?_;refine oa ih ?_;rfl
theorem sm.mem(r:sm is xs):∀y∈xs,∃j u,y=.int j u:=by
 induction r with
 |nil=>exact λy hy=>nomatch hy
 |cons _ ih=>exact λy hy=>(bh.mp hy).elim (λe=>wz _ _ e) (ih y)
theorem sm.at(r:sm is xs):∀y,y∈xs.toArray->EqAt A s y (.int i t) (A_ y==some i):=λy hy=>by
 refine sb (r.mem y (by simpa using hy)) ?_;rintro j u rfl;exact nY _ _ _ _
theorem sm.length(r:sm is xs):is.length=xs.length:=by
 induction r with
 |nil=>rfl
 |cons _ ih=>exact congrArg (·+1) ih
theorem way(K:o5 φ s)(I:pp G s.heap)(ra:VR G.tok φ s.heap β P (.str cs) x)(rb:VR G.tok φ s.heap β P .tok y):ao (ar oj wd) A (kf .In x y) (oR G.tok φ s β P (.bool (qK.lookup cs).isSome)) oE s:=by
 refine ra.e_str λt=>rb.e_tok ?_;refine s9 I.tok λf hm h1 h2=>?_;refine wpAny_in_of (k:=⟨cs.toArray⟩) (nx oj wd _ t) I.tokMod hm ?_;have:(f ⟨cs.toArray⟩).isSome=(qK.lookup cs).isSome:=by
  induction q:qK.lookup cs using aa with
  |none=>refine oa (h2 ⟨cs.toArray⟩ (show qK.lookup _=none from q)) ?_;rfl
  |some k=>refine o6 (h1 ⟨cs.toArray⟩ k (show qK.lookup _=some k from q)) λt ht=>?_;refine oa ht ?_;rfl
 refine oa this ?_;exact⟨φ,.same K pQ.tok (bw _),.bool _⟩
theorem Pa(O:qE tk φ s.heap β P σ)(hl:oX σ l=some vs)(h:qX vs=some is)(ra:VR tk φ s.heap β P (.int i) x)(rb:VR tk φ s.heap β P l y):
 (Q (.bool (is.any (·==i))) s->ao (ar oj wd) A (kf .In x y) Q oE s)/\(Q (.bool (!is.any (·==i))) s->ao (ar oj wd) A (kf .NotIn x y) Q oE s):=by
 refine o6 ra.intv ?_;rintro t rfl;refine qe (te O hl rb) ?_;rintro l xs rfl h1 r1;have hi:=CH h r1;refine rwj hi.any ?_;exact⟨λhQ=>in_listAt _ h1 hi.at (by refine oa mN ?_;exact hQ),λhQ=>notIn_listAt _ h1 hi.at (by refine oa mN ?_;exact hQ)⟩
theorem LY(K:o5 φ s)(I:pp G s.heap)(O:qE G.tok φ s.heap β P σ)(hu:A.units<k0)(e:wO σ op a b=some r)(ra:VR G.tok φ s.heap β P a x)(rb:VR G.tok φ s.heap β P b y):ao (ar oj wd) A (kf op x y) (oR G.tok φ s β P (.bool r)) oE s:=by
 refine TW (C:=λop a b r=>∀{x y:Value},VR G.tok φ s.heap β P a x->VR G.tok φ s.heap β P b y->ao (ar oj wd) A (kf op x y) (oR G.tok φ s β P (.bool r)) oE s) ?_ ?_ ?_ ?_ ?_ ?_ ?_ ?_ ?_ ?_ ?_ ?_ e ra rb
 ·exact λa b r e x y ra rb=>cmp_ofEq (Vk K I.booked O hu e ra rb oj wd _ _ (vX K))
 ·exact λa b r e x y ra rb=>cmp_ofNotEq (Vj K I.booked O hu e ra rb oj wd _ _ (vX K))
 ·exact λi j x y ra rb=>ra.e_int λt=>rb.e_int λu=>PyProof.Rows.lt_int (vX K)
 ·exact λi j x y ra rb=>ra.e_int λt=>rb.e_int λu=>PyProof.Rows.le_int (vX K)
 ·exact λi j x y ra rb=>ra.e_int λt=>rb.e_int λu=>PyProof.Rows.gt_int (vX K)
 ·exact λi j x y ra rb=>ra.e_int λt=>rb.e_int λu=>PyProof.Rows.ge_int (vX K)
 ·exact λi j x y ra rb=>ra.e_flt λt Y=>rb.e_flt λu Y=>AutoFloatOps.le_0 (vX K)
 ·exact λi j x y ra rb=>ra.e_bool (rb.e_bool (is_bool (vX K)))
 ·exact λi j x y ra rb=>ra.e_bool (rb.e_bool (isnot_bool (vX K)))
 ·exact λi x y ra rb=>way K I ra rb
 ·exact λi l vs is hl h x y ra rb=>(Pa O hl h ra rb).1 (vX K)
 ·exact λi l vs is hl h x y ra rb=>(Pa O hl h ra rb).2 (vX K)
theorem SA(i:Int):mB i=-i-1:=by unfold mB;exact rfl
theorem wgZ(K:o5 φ s)(e:Ce op a=some r)(ra:VR tk φ s.heap β P a x):ao (ar oj wd) A (unaryOp op x) (oR tk φ s β P r) oE s :=
 wgY (C:=λop a r=>∀{x:Value},VR tk φ s.heap β P a x->ao (ar oj wd) A (unaryOp op x) (oR tk φ s β P r) oE s) (λi x ra=>ra.e_int λt=>PyProof.Rows.neg_int (tj K))
  (λi x ra=>ra.e_int λt=>invert_int (SA i▸tj K)) (λb x ra=>ra.e_bool (not_of (cz (vX K)))) e ra
theorem wft(slice:Expr)(o i:Value):∃DX,mW slice false o i=operate DX (mc o i):=by
 have two:mW slice false o i=operate [o,i] (mc o i)\/mW slice false o i=operate [i,o] (mc o i):=by
  induction slice using bq with
  |Slice a b c d=>induction c using aa with
   |none=>exact .inr rfl
   |some=>exact .inl rfl
  |_=>exact .inl rfl
 exact two.elim (λe=>⟨_,e⟩) λe=>⟨_,e⟩
theorem Cd{s:ah}{value slice:Expr}{o i:Value}{T id:String}{Q:Value->ah->Prop}{E:Value->ah->Prop}(hT:s.TypeIs o T)(hl:nv (.type T) "__getitem__" = pure (some (.builtin id))) (hg:ao (ar oj wd) A (mc o i) Q E s):ao (ar oj wd) A (fu value slice o i) Q E s :=
 let⟨_,e⟩:=wft slice o i
 tail_any hT hl hg e
theorem HF(O:qE tk φ h β P σ)(e:ul σ v=some es)(r:VR tk φ h β P v x):
 ∃(a:aw) (ks:List Int) (vs:List AV) (xs:List Value),x=.ref a/\es=ks.zip vs/\ks.length=vs.length/\h.DictOf (bZ oj wd) a (ks.zip xs)/\oA tk φ h β P vs xs:=by
 induction v using AV.casesOn with
 |dct es' =>
  have e:es'=es:=ag e;exact e▸r.e_dct λa ks vs xs h1 h2 h3 Y h5=>JB a ks vs xs rfl h1 h2 h3 h5
 |ref i =>
  have e:(match σ[i]? with|some (.dict es)=>some es|_=>none)=some es:=e
  induction hi:σ[i]? using aa with
  |none=>rw[hi]at e;exact oq e
  |some o =>
   rw[hi]at e
   induction o using AO.casesOn with
   |dict es' =>
    have e:es'=es:=ag e;refine oB (O i _ hi (λq=>nomatch q)) λa' h1 h2=>?_;refine r.e_ref λa hb=>h2.e_dict λks vs xs e1 e2 e3 e4=>?_;cases hb.symm.trans h1;exact JB a' ks vs xs rfl (e▸e1) e2 e3 e4
   |_=>exact oq e
 |_=>exact oq e
theorem whe{K:Type}[DecidableEq K]{a k:K}{x:Value}{l:List (K×Value)}(h:(k==a)=false):fQ ((a,x)::l) k=fQ l k:=by
 have:¬a=k:=λz=>by rw[z,beq_self_eq_true]at h;exact nomatch h
 unfold fQ;refine oa (List.find?_cons_of_neg (by simpa using this)) ?_;rfl
theorem Rn{k:Int}{vs:List AV}{xs:List Value}(r:oA tk φ h β P vs xs):∀ks:List Int,(∀v,(ks.zip vs).lookup k=some v->∃x,fQ (ks.zip xs) k=some x/\VR tk φ h β P v x)/\((ks.zip vs).lookup k=none->fQ (ks.zip xs) k=none):=
 r.ind (motive:=λvs xs=>∀ks:List Int,(∀v,(ks.zip vs).lookup k=some v->∃x,fQ (ks.zip xs) k=some x/\VR tk φ h β P v x)/\((ks.zip vs).lookup k=none->fQ (ks.zip xs) k=none))
  (λks=>by refine oa i8 ?_;refine oa i8 ?_;exact⟨λY e=>oq e,λY=>rfl⟩) (λ{v x vs xs} ra Y ih ks=>by
   induction ks using af with
   |nil=>exact⟨λY e=>oq e,λY=>rfl⟩
   |cons a ks =>
    refine oa da ?_;refine oa da ?_;refine oa bv ?_
    induction q:k==a using aZ with
    |true =>
     refine⟨λv' e=>oV x ?_ (ag e▸ra),λe=>P1 e⟩;refine oa (eq_of_beq q) ?_;unfold fQ;refine oa (List.find?_cons_of_pos (by simp)) ?_;rfl
    |false=>refine oa (whe q) ?_;exact ih ks)
theorem Ro{ks:List Int}(e:(ks.zip vs).lookup k=some v)(r:oA tk φ h β P vs xs):∃x,fQ (ks.zip xs) k=some x/\VR tk φ h β P v x:=(Rn r ks).1 v e
theorem whw{ks:List Int}(e:(ks.zip vs).lookup k=none)(r:oA tk φ h β P vs xs):fQ (ks.zip xs) k=none:=(Rn r ks).2 e
theorem WZ(h:k.natAbs<2^53):-(2^63)<=k/\k<2^63:=by omega
theorem Ke(e:tG k n=some j):je k n=some j/\-(2^63)<=k/\k<2^63:=qd e λh e=>⟨e,WZ (Im h)⟩
set_option tactic.hygienic true in
theorem XS{s:ah}{xs:List Value}(hl:s.heap.IsList l xs.toArray)(e:tG k xs.length=some j)(hx:xs[j]?=some x)(h:Q x s):ao (ar oj wd) A (mc (.ref l) (.int k t)) Q E s:=by
 refine tR (Ke e) λh1 h2 h3=>?_;unfold je at h1;by_cases h0:k<0
 ·simp only[h0,if_true]at h1;split at h1
  ·rename_i h4;cases h1;simp only[aO,decide_eq_true_eq]at h4;exact wpAny_getItem_list_neg hl h0 (by simp only[aC];lia) h2 (by simpa using hx) h
  ·cases h1
 ·simp only[h0,if_false]at h1;split at h1
  ·cases h1;exact wpAny_getItem_list hl (by lia) h3 (by simpa using hx) h
  ·cases h1
theorem waj{s:ah}(K:o5 φ s)(O:qE tk φ s.heap β P σ)(e:zj σ a i=some r)(ra:VR tk φ s.heap β P a x)(ri:VR tk φ s.heap β P i y):ao (ar oj wd) A (fu value slice x y) (oR tk φ s β P r) oE s:=by
 refine wai (C:=λa i r=>∀{x y:Value},VR tk φ s.heap β P a x->VR tk φ s.heap β P i y->ao (ar oj wd) A (fu value slice x y) (oR tk φ s β P r) oE s) ?_ ?_ ?_ ?_ e ra ri
 ·refine λvs k j r h1 h2 x y ra ri=>ra.e_tup λa xs ea pa uU=>ri.e_int λt=>?_;refine tR (Ke h1) λp1 p2 p3=>?_;refine oB (uU.get h2) λz hz rz=>?_;exact Cd ea.typeIs slot_tuple_getitem.lookup (getItem_tuple ea p2 p3 (by rw[uU.length]at p1;exact p1) (by simpa using hz) (wE K rz))
 ·refine λcs k j c h1 hc x y ra ri=>ra.e_str λt=>ri.e_int λu=>?_;refine tR (Ke h1) λp1 p2 p3=>?_;refine Cd (fC _ _ _) n0.lookup (PyProof.Rows.getItem_str ?_ (c:=c) ?_ (zC (x:=[c]) K (bw _)))
  ·rw[iH,decide_eq_false_iff_not,decide_eq_false_iff_not];exact⟨Int.not_lt.mpr p2,Int.not_le.mpr p3⟩
  ·show(je k cs.toArray.size).bind _=_;refine oa aC ?_;refine oa p1 ?_;simpa using hc
 ·refine λa k vs j r hl h3 h2 x y ra ri=>ri.e_int λu=>?_;refine qe (te O hl ra) ?_;rintro l xs rfl h1 r1;refine oB (r1.get h2) λz hz rz=>?_;exact Cd h1.typeIs nM.lookup (XS h1 (r1.length▸h3) hz (wE K rz))
 ·refine λa k es r hd e x y ra ri=>ri.e_int λu=>?_;refine C5 (HF O hd ra) ?_;rintro d ks vs xs rfl rfl hl h1 r1;refine oB (Ro e r1) λz hz rz=>?_;exact Cd h1.mapOf.typeIs slot_dict_getitem.lookup (wpAny_getItem_of (gX _ _ _ _) h1.mapOf hz ⟨φ,.same K pQ.tok (bw _),rz⟩)
theorem oR.after(k:Go s φ ou oF)(h:ao (ar oj wd) A t (oR tk oF ou β P r) oE ou):ao (ar oj wd) A t (oR tk φ s β P r) oE ou :=
 up h λ_ _ ⟨ow,k',r'⟩=>⟨ow,k.trans k',r'⟩
noncomputable abbrev xj(vl vu:Value):nk:={cls:=.type "slice",data:=.fields #[vl,vu,.none]}
theorem wdt{s:ah}{f:{α:Type}->List α->List α}{lo hi:Option Int}{vl vu x:Value}{value slice:Expr}{vs:List AV}{a:AV}(K:o5 φ s)(O:qE tk φ s.heap β P σ)(F:to s P)(hl:oX σ a=some vs)(o3:vs.length<=100000)(ra:VR tk φ s.heap β P a x)(pl:IsPart vl lo)(pu:IsPart vu hi)(hf:∀xs:List Value,lU xs.toArray lo hi none=(f xs).toArray)(hr:∀{xs:List Value},oA tk φ s.heap β P vs xs->oA tk φ s.heap β P (f vs) (f xs)):
 ao (ar oj wd) A (fu value slice x (.ref s.heap.objs.size)) (oR tk φ s β P (.lst (f vs))) oE {s with heap:=s.heap.push (xj vl vu)}:=by
 refine qe (te O hl ra) ?_;rintro l xs rfl h1 r1;have k:Go s φ {s with heap:=s.heap.push (xj vl vu)} φ:=.same K pQ.push (ai _);refine oR.after k (Cd (Heap.IsList.typeIs (s:={s with heap:=s.heap.push (xj vl vu)}) (h1.push _)) nM.lookup
  (wpAny_getItem_list_slice (h1.push _) (nW ..) pl pu .none (by simp) ?_ (sk (by refine oa aC ?_;refine rwj r1.length ?_;exact o3))))
 refine oa (hf _) ?_;exact Kk (s:={s with heap:=s.heap.push (xj vl vu)}) k.tk (F.go k) ((hr r1).ext k.ext)
theorem wbS(hl:x.length<=fv)(h:Q (.str x s.toks) {s with toks:=s.toks+1}):(Made.str x).post Q s:=⟨hl,h⟩
set_option tactic.hygienic true in
theorem wdv{s:ah}{cs ds:List Nat}{lo hi:Option (Int×kP)}(K:o5 φ s)(o3:ds.length<=100000)(hf:cc ⟨cs.toArray⟩ (lo.map (·.1)) (hi.map (·.1))=⟨ds.toArray⟩):
 ao (ar oj wd) A (fu value slice (.str ⟨cs.toArray⟩ t) (.ref s.heap.objs.size)) (oR tk φ s β P (.str ds)) oE {s with heap:=s.heap.push (xj (cY lo) (cY hi))}:=by
 have k:Go s φ {s with heap:=s.heap.push (xj (cY lo) (cY hi))} φ:=.same K pQ.push (ai _);refine oR.after k (Cd (fC _ _ _) n0.lookup (wpAny_getItem_str_slice (l:=lo) (u:=hi) (st:=none) ⟨_,bx _ rfl,rfl,rfl⟩ rfl ?_));unfold cc at hf;unfold sliceMade slicePicked;simp only[Option.map_none,Option.getD_none,beq_self_eq_true,eV];split
 ·rename_i hw;rw[if_pos (by simpa using hw)]at hf;have:cs=ds:=by
   have:=congrArg (λx:Str=>x.cps.toList) hf;simpa using this
  subst this;exact wE (s:={s with heap:=s.heap.push (xj (cY lo) (cY hi))}) k.tk (.str _ _)
 ·rename_i hw;rw[if_neg (by simpa using hw)]at hf;refine oa hf ?_;exact wbS (sk (by simpa [dI]using o3)) (zC (s:={s with heap:=s.heap.push (xj (cY lo) (cY hi))}) k.tk (bw _))
theorem wfU(cs:List Nat)(h:0<=j):cc ⟨cs.toArray⟩ none (some j)=⟨(cs.take j.toNat).toArray⟩:=by
 obtain⟨n,rfl⟩:=dr h;rw[aT];by_cases hj:n<=cs.length
 ·refine oa (kQ (x:=⟨cs.toArray⟩) ⟨h,by simpa using hj⟩) ?_;simp
 ·have e:cc ⟨cs.toArray⟩ none (some (n:Int))=cc ⟨cs.toArray⟩ none (some (cs.length:Int)):=by
   unfold cc;refine oa (sliceIdx_hi_beyond _ (j:=(n:Int)) (by simp only[dI,aC];lia)) ?_;simp[dI]
  refine oa e ?_;refine oa (kQ (x:=⟨cs.toArray⟩) ⟨az cs.length,by simp⟩) ?_;refine oa (kW (m8 hj)) ?_;simp
theorem wfT(cs:List Nat)(h:0<=j):cc ⟨cs.toArray⟩ (some j) none=⟨(cs.drop j.toNat).toArray⟩:=by
 obtain⟨n,rfl⟩:=dr h;rw[aT];by_cases hj:n<=cs.length
 ·refine oa (ki (x:=⟨cs.toArray⟩) ⟨h,by simpa using hj⟩) ?_;show(⟨((cs.drop n).take ((cs.length:Int)-n).toNat).toArray⟩:Str)=_;rw[kW (by refine oa dF ?_;refine oa (Int.toNat_sub ..) ?_;exact ai _)]
 ·have e:cc ⟨cs.toArray⟩ (some (n:Int)) none=cc ⟨cs.toArray⟩ (some (cs.length:Int)) none:=by
   unfold cc;refine oa (sliceIdx_lo_beyond _ (i:=(n:Int)) (by simp only[dI,aC];lia)) ?_;simp[dI]
  refine oa e ?_;refine oa (ki (x:=⟨cs.toArray⟩) ⟨az cs.length,by simp⟩) ?_;refine oa (List.drop_of_length_le (m8 hj)) ?_;simp
theorem wdy(xs:List Value)(h:0<=j):lU xs.toArray none (some j) none=(xs.take j.toNat).toArray:=by
 have:j=(j.toNat:Int):=(dU h).symm;refine oa this ?_;refine oa (slicePick_upto' _ _) ?_;simp[nr h]
theorem wdx(xs:List Value)(h:0<=j):lU xs.toArray (some j) none none=(xs.drop j.toNat).toArray:=by
 have:j=(j.toNat:Int):=(dU h).symm;refine oa this ?_;refine oa (slicePick_from' _ _) ?_;simp[nr h]
set_option tactic.hygienic true in
theorem Qi{s:ah}{f:{α:Type}->List α->List α}{lo hi:Option (Int×kP)}(K:o5 φ s)(O:qE tk φ s.heap β P σ)(F:to s P)(e:yA σ f a=some r)(ra:VR tk φ s.heap β P a x)(pl:IsPart (cY lo) (lo.map (·.1)))(pu:IsPart (cY hi) (hi.map (·.1)))(h1:∀xs:List Value,lU xs.toArray (lo.map (·.1)) (hi.map (·.1)) none=(f xs).toArray)(oU:∀cs:List Nat,(f cs).length<=cs.length)(h2:∀cs,cc ⟨cs.toArray⟩ (lo.map (·.1)) (hi.map (·.1))=⟨(f cs).toArray⟩)(hr:∀{vs:List AV}{xs:List Value},oA tk φ s.heap β P vs xs->oA tk φ s.heap β P (f vs) (f xs)):
 ao (ar oj wd) A (fu value slice x (.ref s.heap.objs.size)) (oR tk φ s β P r) oE {s with heap:=s.heap.push (xj (cY lo) (cY hi))}:=by
 unfold yA at e;split at e
 ·split at e
  ·rename_i o3;cases e;cases ra;exact wdv K (ae (oU _) o3) (h2 _)
  ·cases e
 ·split at e
  ·rename_i hl;split at e
   ·rename_i o3;cases e;exact wdt (f:=f) K O F hl o3 ra pl pu h1 hr
   ·cases e
  ·cases e
theorem weN{s:ah}{lo hi:Option (Int×kP)}(K:o5 φ s)(O:qE tk φ s.heap β P σ)(F:to s P)(e:B_ σ a (lo.map (·.1)) (hi.map (·.1))=some r)(ra:VR tk φ s.heap β P a x):
 ao (ar oj wd) A (fu value slice x (.ref s.heap.objs.size)) (oR tk φ s β P r) oE {s with heap:=s.heap.push (xj (cY lo) (cY hi))}:=by
 induction lo using aa with
 |none =>
  induction hi using aa with
  |none=>exact oq e
  |some u =>
   obtain⟨u,t⟩:=u;exact qd (show(if 0<=u then _ else none)=some r from e) λh0 e=>Qi K O F e ra .none (.int _ _) (λxs=>wdy xs h0) (λcs=>lq _ _) (λcs=>wfU cs h0) λr=>r.take _
 |some l =>
  induction hi using aa with
  |none =>
   obtain⟨u,t⟩:=l;exact qd (show(if 0<=u then _ else none)=some r from e) λh0 e=>Qi K O F e ra (.int _ _) .none (λxs=>wdx xs h0) (λcs=>by refine oa dF ?_;simp) (λcs=>wfT cs h0) λr=>r.drop _
  |some u=>exact oq e
theorem uT(K:o5 φ s)(ext:∀b o,s.heap.get? b=some o->h'.get? b=some o)(u:Up s {s with heap:=h',toks:=t})(hr:VR tk φ h' β P r v):oR tk φ s β P r v {s with heap:=h',toks:=t}:=
 ⟨φ,.same K ⟨⟨h',t,rfl,ext⟩,u.size⟩ u.toks,hr⟩
theorem sm.items:∀{is:List Int}{xs:List Value},sm is xs->∃sK:Array (Int×kP),xs.toArray=intItems sK/\sK.toList.map (·.1)=is
 |_,_,.nil=>oV (#[]) (by simp[intItems]) rfl
 |_,_,.cons (i:=i) (t:=t) r=>by
  refine oB r.items λsK h1 h2=>?_;refine oV (((i,t)::sK.toList).toArray) ?_ ?_
  ·apply Array.toList_inj.mp;have:=congrArg Array.toList h1;simp[intItems]at this ⊢;exact this
  ·simp[h2]
theorem Gr(h:sK.toList.map (·.1)=is)(j:Nat):kz sK j=(is[j]?).getD 0:=by
 subst h;simp[kz]
theorem KE(a b:List Int):sw (a++b)=sw a+sw b:=by
 induction a with
 |nil=>exact(lh _).symm
 |cons i a ih=>exact(congrArg (i+·) ih).trans (nV ..).symm
theorem GG:∀{is:List Int},(∀i∈is,0<=i)->0<=sw is:=by
 intro vv
 induction vv with
 |nil =>
  intro _;exact jN _
 |cons i is ih =>
  intro h;exact Int.add_nonneg (h i (.head _)) (ih λj hj=>h j (.tail _ hj))
theorem Qn(h:sK.toList.map (·.1)=is):∀n,preSum (kz sK) n=sw (is.take n):=by
 intro vv
 induction vv with
 |zero =>
  exact rfl
 |succ n ih =>
  rw[preSum,ih,Gr h,List.take_add_one,KE]
  induction is[n]? using aa with
  |none=>simp[KG,GH]
  |some i=>simp[KG,GH]
theorem wfv(hp:∀i∈is,0<=i)(n:Nat):0<=sw (is.take n)/\sw (is.take n)<=sw is:=by
 have e:sw is=sw (is.take n)+sw (is.drop n):=by rw[<-KE,lg]
 have h1:=GG (is:=is.take n) λi hi=>hp i (iB hi);have h2:=GG (is:=is.drop n) λi hi=>hp i (iC hi)
 lia
theorem wbm(hp:∀i∈is,0<=i)(hi:i∈is):i<=sw is:=by
 refine sb (List.append_of_mem hi) ?_;rintro a b rfl;have h1:=GG (is:=a) λi hi=>hp i (by simp[hi]);have h2:=GG (is:=b) λi hi=>hp i (by simp[hi]);rw[KE];simp only[KG,GH]
 lia
theorem wfz(hA:A.handled=none)(K:o5 φ s)(hl:s.heap.IsList l xs.toArray)(hi:sm is xs)(hp:∀i∈is,0<=i)(hs:sw is<2^53):
 ao (ar oj wd) A (call (.builtin "sum") [.ref l]) (oR tk φ s β P (.int (sw is))) oE s:=by
 refine oB hi.items λsK h1 h2=>?_;rw[h1]at hl;have pi:sK.size=is.length:=by refine rwj h2 ?_;simp
 refine sG (sum_intList hA hl (λj hj=>?_) λh' t t' ext u=>?_)
 ·refine⟨?_,?_⟩
  ·refine oa (Gr h2 _) ?_;have yt:j<is.length:=by lia
   refine oa (au yt) ?_;refine oa jj ?_;have a1:=hp _ (dG yt);have a2:=wbm hp (dG yt);exact⟨by lia,by lia⟩
  ·refine oa (Qn h2 _) ?_;have:=wfv hp (j+1);exact⟨by lia,by lia⟩
 ·refine oa (Qn h2 _) ?_;refine oa pi ?_;refine oa jy ?_;exact uT K ext u (.int _ _)
theorem wce:∀(js:List Int) (i:Int),i<=ud i js/\(∀j∈js,j<=ud i js)/\(ud i js=i\/ud i js∈js):=by
 intro vv
 induction vv with
 |nil =>
  intro i;exact qJ (jN _) (λY h=>(nomatch h)) (.inl rfl)
 |cons j js ih =>
  intro i;refine tR (ih (if i<j then j else i)) λh1 h2 h3=>?_;have hm:i<=(if i<j then j else i)/\j<=(if i<j then j else i):=by split<;>lia
  simp only[wcf,wcg];refine qJ (jr hm.1 h1) ?_ ?_
  ·intro k hk;rcases bh.mp hk with rfl|hk
   ·exact jr hm.2 h1
   ·exact h2 k hk
  ·rcases h3 with h3|h3
   ·refine oa h3 ?_;split
    ·exact .inr (.head _)
    ·exact .inl rfl
   ·exact .inr (.tail _ h3)
theorem wch(hA:A.handled=none)(K:o5 φ s)(hl:s.heap.IsList l xs.toArray)(hi:sm (i::is) xs):
 ao (ar oj wd) A (call (.builtin "max") [.ref l]) (oR tk φ s β P (.int (ud i is))) oE s:=by
 refine oB hi.items λsK h1 h2=>?_;rw[h1]at hl;have pi:sK.size=is.length+1:=by
  have:=congrArg cG h2;simpa using this
 refine sG (max_intList hA hl (by simp[*]) λv h' t hv ext u=>?_);refine o6 (intItems_at hv) ?_;rintro tt rfl;refine p_ (argBest_gt (kz sK) (sK.size-1)) λb1 b2=>?_;have e:kz sK (jh (λi j=>decide (kz sK i>kz sK j)) (sK.size-1))=ud i is:=by
  refine tR (wce is i) λm1 m2 m3=>?_;have up:∀x∈(i::is),x<=ud i is:=λx hx=>by
   rcases bh.mp hx with rfl|hx
   ·exact m1
   ·exact m2 x hx
  have sR:ud i is∈(i::is):=by
   rcases m3 with m3|m3
   ·refine oa m3 ?_;exact .head _
   ·exact .tail _ m3
  obtain⟨k,hk,tT⟩:=fZ.mp sR;have c1:=b2 k (by refine oa pi ?_;simp only[aF]at hk;exact cP hk);rw[Gr h2 k,au hk,tT,jj]at c1;have c2:kz sK (jh (λi j=>decide (kz sK i>kz sK j)) (sK.size-1))<=ud i is:=by
   refine oa (Gr h2 _) ?_;refine oa (au (by simp only[aF];omega)) ?_;refine oa jj ?_;exact up _ (dG _)
  lia
 refine oa e ?_;exact uT K ext u (.int _ _)
set_option tactic.hygienic true in
theorem J4(hb:small b=true):Builtin.divisionGoesByPylong a b=false:=by
 refine jY ?_;have h3:=DL hb;unfold aH at h3;split at h3
 ·rename_i hz;simp_all
 ·exact pG h3 rfl
noncomputable def A5(s:ah)(is:List Int)(v:Value):Prop :=
 ∃(r:aw) (a b c:Int) (t u x:kP) (n:Nat),v=.ref r/\IsRange s.heap r a b c t u x/\g9 a b c=true/\cy a b c=n/\n<=100000/\is=uw a c n
theorem wea(hc:0<c):0<=cy a b c:=by
 unfold cy;refine oa (if_pos (hc)) ?_;split
 ·have:0<=(b-a-1)/c:=Int.ediv_nonneg (by lia) (by lia);omega
 ·exact jN _
set_option tactic.hygienic true in
theorem Kn(e:tI a b c=some is)(hr:IsRange s.heap r a b c t u x):A5 s is (.ref r):=by
 unfold tI at e;split at e
 ·rename_i h;cases e;have:=wea (a:=a) (b:=b) h.1;exact⟨r,a,b,c,t,u,x,_,rfl,hr,h.2.2.1,(dU this).symm,by simp[*],rfl⟩
 ·cases e
theorem Qr(K:o5 φ s)(e:zA as=some is)(r:oA tk φ s.heap β P as xs):
 ao (ar oj wd) A (call (.type "range") xs) (λv s'=>Go s φ s' φ/\A5 s' is v) oE s :=
 wdZ (C:=λas is=>∀{xs:List Value},oA tk φ s.heap β P as xs->ao (ar oj wd) A (call (.type "range") xs) (λv s'=>Go s φ s' φ/\A5 s' is v) oE s)
  (λb is e xs r=>r.e1 λx r1=>r1.e_int λt=>call_range_1 ⟨.same K pQ.pushT (aV s.toks 2),Kn e (kU ..)⟩)
  (λa b is e xs r=>r.e2 λx y r1 r3=>r1.e_int λt=>r3.e_int λu=>call_range_2 ⟨.same K pQ.pushT (bw _),Kn e (kU ..)⟩)
  (λa b c is e xs r=>r.e3 λx y z r1 r3 r5=>r1.e_int λt=>r3.e_int λu=>r5.e_int λv=>qd (show(if 0<c/\small c=true/\_ then some _ else none)=some is from e) λhh Y =>
   call_range_3 (Int.ne_of_gt hh.1) ⟨.same K pQ.pushT (ai _),Kn e (kU ..)⟩ (.inl (J4 hh.2.1))) e r
theorem Ki(a c:Int)(n:Nat):(uw a c n).length=n:=by
 induction n generalizing a with
 |zero=>rfl
 |succ n ih=>rw[D5,aF,ih]
theorem Kh(c:Int):∀(n:Nat) (a:Int) (j:Nat),j<n->(uw a c n)[j]?=some (a+j*c)
 |n+1,a,0,_=>by simp[D5]
 |n+1,a,j+1,h=>by
  rw[D5,hJ,Kh c n (a+c) j (cP h)]
  congr 1
  push_cast
  rw[Int.add_mul];lia
theorem oA.of_get:∀{xs:List Value},vs.length=xs.length->(∀(j:Nat) (v:AV) (x:Value),vs[j]?=some v->xs[j]?=some x->VR tk φ h β P v x)->oA tk φ h β P vs xs:=by
 induction vs with
 |nil=>intro xs hl _;refine oa (bC.mp hl.symm) ?_;exact .nil
 |cons v vs ih =>
  intro xs hl hr
  induction xs using af with
  |nil=>exact nomatch hl
  |cons x xs=>exact .cons (hr 0 v x rfl rfl) (ih (bD hl) λj v x h1 h2=>hr (j+1) v x h1 h2)
theorem PC(K:o5 φ s)(F:to s P)(ext:∀b o,s.heap.get? b=some o->h'.get? b=some o)(u:Up s {s with heap:=h',toks:=t})(hS:h'.get? s.heap.objs.size=some {cls:=.type "list",dict:=none,data:=.seq acc c',slots:=#[]}) (hi:ItemsOf Pv acc n) (hl:vs.length=n) (hr:∀(j:Nat) (v:AV) (x:Value),vs[j]?=some v->Pv j x->VR tk φ h' β P v x):oR tk φ s β P (.lst vs) (.ref s.heap.objs.size) {s with heap:=h',toks:=t}:=by
 refine uT K ext u (.lst (xs:=acc.toList) ⟨c',by refine oa hS ?_;refine oa Array.toArray_toList ?_;rfl⟩ (F _ (ai _)) (oA.of_get (by refine oa hl ?_;refine oa lA ?_;refine oa hi.1 ?_;rfl) λj v x h1 h2=>hr j v x h1 (hi.2 j x (by simpa using h2))))
theorem PD(hA:A.handled=none)(K:o5 φ s)(F:to s P)(R:A5 s is v):
 ao (ar oj wd) A (call (.type "list") [v]) (oR tk φ s β P (.lst (is.map .int))) oE s:=by
 refine M2 R ?_;rintro r a b c t u x n rfl hr hs hn o3 rfl;refine sG (call_list_range hA hr hs hn (ae o3 (by decide)) λh' t' acc c' ext hS hi up=>?_);refine PC K F ext up hS hi (by rw[ac,Ki]) λj v x h1 h2=>?_;refine o6 h2 ?_;rintro tt rfl;have hj:j<n:=by
  have:=(aS.mp h1).1
  rwa [ac,Ki]at this
 rw[bf,Kh c n a j hj]at h1;cases h1;exact .int _ _
theorem whx{ks:List Int}{vs:List AV}(h:ks.length=vs.length):(ks.zip vs).map (·.2)=vs:=List.map_snd_zip (bd h.symm)
theorem wbx{A:br}{s:ah}{es:List (Int×AV)}(hA:A.handled=none)(K:o5 φ s)(F:to s P)(DB:∀a,P a->(a==bN)=false)(o3:es.length<=100000)(r:VR tk φ s.heap β P (.dct es) x):
 ao (ar oj wd) A (call (.builtin "dict.values") [x]) (λv ou=>ao (ar oj wd) A (call (.type "list") [v]) (oR tk φ s β P (.lst (es.map (·.2)))) oE ou) oE s:=by
 refine r.e_dct λa ks vs xs Ap hl e p r1=>?_;clear r;subst Ap
 ·have r:=r1;refine jU jX e.typeIs PySem.F.entry_dict_values (PySem.F.args_dict_values_1 _) (meets_dict_values (bZ oj wd) a (DB a p)) ⟨⟨_,e⟩,?_⟩;have k:Go s φ {s with heap:=s.heap.push {cls:=.type "dict_values",data:=.fields #[.ref a]}} φ:=.same K pQ.push (ai _);refine o6 e.dictAt λep ta=>?_;refine oR.after k ?_;have Z0:(ks.zip xs).length<=100000:=by
   have:=r.length;rw[dp]at o3 ⊢
   lia
  refine sG (kdl_call (kdl_values (knd:=bZ oj wd) (kvs:=ks.zip xs) (ep:=ep)) hA ⟨⟨_,bx _ rfl,rfl,rfl⟩,ta.push _⟩ (sk Z0) λh' t' acc c' ext hS hi up=>?_);have rr:=(r.ext k.ext).ext ext;refine PC (s:={s with heap:=s.heap.push {cls:=.type "dict_values",data:=.fields #[.ref a]}}) k.tk (F.go k) ext up hS hi (by simp[dp,hl,r.length]) λj v x h1 h2=>?_;rw[whx hl]at h1;refine o6 h2 λk' hk=>?_;refine oB (rr.get h1) λx' hx rx=>?_;have:x=x':=by
   rw[gM]at hk;rw[hx]at hk;exact(ag hk.2).symm
  refine oa this ?_;exact rx
noncomputable def uL(x y z:UInt64):Nat->UInt64
 |0=>x
 |1=>y
 |_=>z
theorem Gc{x y z:UInt64}{t u v:kP}{i:Nat}{r:Value}(e:(#[fU x t,.float y u,.float z v])[i]?=some r):∃t',r=.float (uL x y z i) t':=by
 match i,e with
 |0,e=>cases e;exact⟨_,rfl⟩
 |1,e=>cases e;exact⟨_,rfl⟩
 |2,e=>cases e;exact⟨_,rfl⟩
 |n+3,e=>simp at e
theorem Pp{A:br}{s:ah}{x y z:UInt64}{t u v:kP}{op:CmpOp}{bt:Nat->Nat->Bool}{Q:Value->ah->Prop}{E:Value->ah->Prop}(hA:A.handled=none)(hc:CmpOf oj wd A.in1 op (λi r=>(#[fU x t,.float y u,.float z v])[i]?=some r) bt)(h:∀r h' tk,(#[fU x t,.float y u,.float z v])[jh bt 2]?=some r->(∀b o,s.heap.get? b=some o->h'.get? b=some o)->Q r {s with heap:=h',toks:=tk}):
 ao (ar oj wd) A.in1 (gD (.ref s.heap.objs.size)) (λit oJ=>∃I fp wr n P St bt,it=.ref I/\Walks oj wd A.in1 I fp wr n P St/\St 0 oJ.heap/\(∀b∈fp,b<oJ.heap.objs.size)/\0<n/\CmpOf oj wd A.in1 op P bt /\
  ∀v h' tk,P (jh bt (n-1)) v->(∀b o,b∉wr->oJ.heap.get? b=some o->h'.get? b=some o)->Q v {oJ with heap:=h',toks:=tk}) E
  { s with heap:=s.heap.push {cls:=.type "tuple",data:=.seq #[.float x t,.float y u,.float z v]}}:=by
 have hT:(s.heap.push {cls:=.type "tuple",data:=.seq #[.float x t,.float y u,.float z v]}).IsTuple s.heap.objs.size #[.float x t,.float y u,.float z v]:=⟨_,bx _ rfl,rfl,0,rfl⟩
 refine nu hT ?_;have pi:(s.heap.push {cls:=.type "tuple",data:=.seq #[.float x t,.float y u,.float z v]}).objs.size=s.heap.objs.size+1:=bg ..;refine wau _ [_,s.heap.objs.size] [_] _ _ _ bt rfl (nP (A:=A.in1) hA _ s.heap.objs.size (by refine oa pi ?_;exact cp (bT _)) #[.float x t,.float y u,.float z v]) ⟨⟨_,bx _ rfl,rfl,rfl⟩,hT.push _⟩ (λd hd=>?_) (by simp) hc (λr h' tk hP hk=>?_)
 ·show d<((s.heap.push _).push _).objs.size;refine oa (bg _ _) ?_;refine oa pi ?_;rcases bh.mp hd with rfl|hd
  ·refine oa pi ?_;exact bT _
  ·rcases bh.mp hd with rfl|hd
   ·exact fF (bT _)
   ·cases hd
 ·refine h r h' tk hP λb o e=>hk b o (λhm=>?_) (av _ (av _ e));rcases bh.mp hm with e1|hm
  ·have:=aN e;rw[e1,pi]at this;exact aJ _ (mI this)
  ·cases hm
theorem wcc{A:br}{s:ah}{x y z:UInt64}{t u v:kP}{Q:Value->ah->Prop}{E:Value->ah->Prop}(hA:A.handled=none)(h:∀r h' tk,(#[fU x t,.float y u,.float z v])[jh (λi j=>uq (uL x y z i) (uL x y z j)) 2]?=some r->(∀b o,s.heap.get? b=some o->h'.get? b=some o)->Q r {s with heap:=h',toks:=tk}):
 ao (ar oj wd) A (call (.builtin "max") [.float x t,.float y u,.float z v]) Q E s :=
 call_max_three (Pp (Q:=Q) (E:=E) (op:=.Gt) hA (λi j vi vj s Q E hi hj h=>by
  refine o6 (Gc hi) ?_;rintro _ rfl;refine o6 (Gc hj) ?_;rintro _ rfl;exact AutoFloatOps.gt_0 h) h)
theorem wcd(hA:A.handled=none)(K:o5 φ s)(h1:φ t x)(h2:φ u y)(h3:φ v z):
 ao (ar oj wd) A (call (.builtin "max") [.float x t,.float y u,.float z v])
  (oR tk φ s β P (.flt (if uq z (if uq y x then y else x)then z else(if uq y x then y else x)))) oE s:=by
 refine sG (wcc hA λr h' t' hr ext up=>?_);simp only[jh,uL]at hr;by_cases c1:uq y x=true
 ·by_cases c2:uq z y=true
  ·simp[c1,c2,uL]at hr ⊢;subst hr;exact uT K ext up (.flt _ _ h3)
  ·simp[c1,c2,uL]at hr ⊢;subst hr;exact uT K ext up (.flt _ _ h2)
 ·by_cases c2:uq z x=true
  ·simp[c1,c2,uL]at hr ⊢;subst hr;exact uT K ext up (.flt _ _ h3)
  ·simp[c1,c2,uL]at hr ⊢;subst hr;exact uT K ext up (.flt _ _ h1)
theorem wcn{A:br}{s:ah}{x y z:UInt64}{t u v:kP}{Q:Value->ah->Prop}{E:Value->ah->Prop}(hA:A.handled=none)(h:∀r h' tk,(#[fU x t,.float y u,.float z v])[jh (λi j=>ur (uL x y z i) (uL x y z j)) 2]?=some r->(∀b o,s.heap.get? b=some o->h'.get? b=some o)->Q r {s with heap:=h',toks:=tk}):
 ao (ar oj wd) A (call (.builtin "min") [.float x t,.float y u,.float z v]) Q E s :=
 call_min_three (Pp (Q:=Q) (E:=E) (op:=.Lt) hA (λi j vi vj s Q E hi hj h=>by
  refine o6 (Gc hi) ?_;rintro _ rfl;refine o6 (Gc hj) ?_;rintro _ rfl;exact AutoFloatOps.lt_0 h) h)
theorem wco(hA:A.handled=none)(K:o5 φ s)(h1:φ t x)(h2:φ u y)(h3:φ v z):
 ao (ar oj wd) A (call (.builtin "min") [.float x t,.float y u,.float z v])
  (oR tk φ s β P (.flt (if ur z (if ur y x then y else x)then z else(if ur y x then y else x)))) oE s:=by
 refine sG (wcn hA λr h' t' hr ext up=>?_);simp only[jh,uL]at hr;by_cases c1:ur y x=true
 ·by_cases c2:ur z y=true
  ·simp[c1,c2,uL]at hr ⊢;subst hr;exact uT K ext up (.flt _ _ h3)
  ·simp[c1,c2,uL]at hr ⊢;subst hr;exact uT K ext up (.flt _ _ h2)
 ·by_cases c2:ur z x=true
  ·simp[c1,c2,uL]at hr ⊢;subst hr;exact uT K ext up (.flt _ _ h3)
  ·simp[c1,c2,uL]at hr ⊢;subst hr;exact uT K ext up (.flt _ _ h1)
variable {A:br}{s:ah}{tk:aw}{φ:Gh}{h:bU}{β:List aw}{P:aw->Prop}{σ:oH}{G:GD}
theorem Kj{i:Int}(K:o5 φ s):oR tk φ s β P (.int i) (.int i (s.toks+1)) {s with toks:=s.toks+1+1}:=
 ⟨φ,.same K pQ.tok (by show s.toks<=s.toks+1+1;exact eY (eY dL)),.int _ _⟩
theorem Tj{as:List AV}{r:AV}{xs:List Value}(K:o5 φ s)(O:qE tk φ s.heap β P σ)(DB:∀a,P a->(a==bN)=false)(e:CP σ as=some r)(ra:oA tk φ s.heap β P as xs):
 ao (ar oj wd) A (call (.builtin "len") xs) (oR tk φ s β P r) oE s:=by
 refine Th (C:=λas r=>∀{xs:List Value},oA tk φ s.heap β P as xs->ao (ar oj wd) A (call (.builtin "len") xs) (oR tk φ s β P r) oE s) ?_ ?_ ?_ e ra
 ·refine λcs hn xs ra=>ra.e1 λx r1=>r1.e_str λt=>len_str (by simp only[dI,aC];lia) ?_;refine oa (show((⟨cs.toArray⟩:Str).length:Int)=cs.length by simp[dI]) ?_;exact Kj K
 ·refine λes hn xs ra=>ra.e1 λx r1=>r1.e_dct λa ks us zs Ap hl e' p r=>?_;have oU:(ks.zip zs).length=es.length:=by refine oa Ap ?_;refine oa dp ?_;refine oa dp ?_;refine oa r.length ?_;rfl
  refine call_len_dict (DB _ p) e' (by refine oa oU ?_;exact Cm hn rfl) ?_;refine oa oU ?_;exact Kj K
 ·refine λl vs hl hn xs ra=>ra.e1 λx r1=>?_;refine qe (te O hl r1) ?_;rintro l zs rfl h1 r1;refine PySem.Calls.call_len_list h1 (by refine oa aC ?_;refine rwj r1.length ?_;exact Cm hn rfl) ?_;refine oa aC ?_;refine rwj r1.length ?_;exact Kj K
theorem Tt{as:List AV}{r:AV}{xs:List Value}(hA:A.handled=none)(K:o5 φ s)(O:qE tk φ s.heap β P σ)(e:Ho σ as=some r)(ra:oA tk φ s.heap β P as xs):
 ao (ar oj wd) A (call (.builtin "sum") xs) (oR tk φ s β P r) oE s :=
 Ts (C:=λas r=>∀{xs:List Value},oA tk φ s.heap β P as xs->ao (ar oj wd) A (call (.builtin "sum") xs) (oR tk φ s β P r) oE s) (λl vs is hl sS h1 h2 xs ra=>ra.e1 λx r1=>by
  refine qe (te O hl r1) ?_;rintro l zs rfl hp r1;exact wfz hA K hp (CH sS r1) (λi hi=>of_decide_eq_true (aj.mp h1 i hi)) h2) e ra
theorem Tl{as:List AV}{r:AV}{xs:List Value}(hA:A.handled=none)(K:o5 φ s)(O:qE tk φ s.heap β P σ)(e:Hl σ as=some r)(ra:oA tk φ s.heap β P as xs):
 ao (ar oj wd) A (call (.builtin "max") xs) (oR tk φ s β P r) oE s:=by
 refine Tk (C:=λas r=>∀{xs:List Value},oA tk φ s.heap β P as xs->ao (ar oj wd) A (call (.builtin "max") xs) (oR tk φ s β P r) oE s) ?_ ?_ ?_ e ra
 ·refine λi j xs ra=>ra.e2 λx y r1 r3=>r1.e_int λt=>r3.e_int λu=>sG (max_two_ints hA λh' t ext up=>?_);by_cases hc:i<j
  ·refine oa (if_pos hc) ?_;refine oa (if_pos hc) ?_;exact uT K ext up (.int _ _)
  ·refine oa (if_neg hc) ?_;refine oa (if_neg hc) ?_;exact uT K ext up (.int _ _)
 ·exact λx y z xs ra=>ra.e3 λa b c r1 r2 r3=>r1.e_flt λt h1=>r2.e_flt λu h2=>r3.e_flt λv h3=>wcd hA K h1 h2 h3
 ·refine λl vs i js hl sS xs ra=>ra.e1 λx r1=>?_;refine qe (te O hl r1) ?_;rintro l zs rfl h1 r1;exact wch hA K h1 (CH sS r1)
theorem Tn{as:List AV}{r:AV}{xs:List Value}(hA:A.handled=none)(K:o5 φ s)(e:Hm as=some r)(ra:oA tk φ s.heap β P as xs):
 ao (ar oj wd) A (call (.builtin "min") xs) (oR tk φ s β P r) oE s:=by
 refine Tm (C:=λas r=>∀{xs:List Value},oA tk φ s.heap β P as xs->ao (ar oj wd) A (call (.builtin "min") xs) (oR tk φ s β P r) oE s) ?_ ?_ e ra
 ·refine λi j xs ra=>ra.e2 λx y r1 r3=>r1.e_int λt=>r3.e_int λu=>sG (min_two_ints hA λh' t ext up=>?_);by_cases hc:j<i
  ·refine oa (if_pos hc) ?_;refine oa (if_pos hc) ?_;exact uT K ext up (.int _ _)
  ·refine oa (if_neg hc) ?_;refine oa (if_neg hc) ?_;exact uT K ext up (.int _ _)
 ·exact λx y z xs ra=>ra.e3 λa b c r1 r2 r3=>r1.e_flt λt h1=>r2.e_flt λu h2=>r3.e_flt λv h3=>wco hA K h1 h2 h3
theorem Tq{as:List AV}{r:AV}{xs:List Value}(K:o5 φ s)(e:Hn as=some r)(ra:oA tk φ s.heap β P as xs):
 ao (ar oj wd) A (call (.builtin "ord") xs) (oR tk φ s β P r) oE s :=
 Tp (C:=λas r=>∀{xs:List Value},oA tk φ s.heap β P as xs->ao (ar oj wd) A (call (.builtin "ord") xs) (oR tk φ s β P r) oE s) (λc xs ra=>ra.e1 λx r1=>r1.e_str λt=>PySem.P.ord_of_char (tj K)) e ra
theorem TF{i:Int}(h:0<=i/\i<=0x10FFFF):(decide (i<0)||decide (i>0x10FFFF))=false:=by
 rw[iH,decide_eq_false_iff_not,decide_eq_false_iff_not];simp[*]
theorem S1{as:List AV}{r:AV}{xs:List Value}(K:o5 φ s)(e:Hj as=some r)(ra:oA tk φ s.heap β P as xs):
 ao (ar oj wd) A (call (.builtin "chr") xs) (oR tk φ s β P r) oE s :=
 S0 (C:=λas r=>∀{xs:List Value},oA tk φ s.heap β P as xs->ao (ar oj wd) A (call (.builtin "chr") xs) (oR tk φ s β P r) oE s) (λi hc xs ra=>ra.e1 λx r1=>r1.e_int λt=>PySem.P.chr_of_int (TF hc) (zC (x:=[_]) K (bw _))) e ra
theorem Ta{as:List AV}{r:AV}{xs:List Value}(K:o5 φ s)(e:CO as=some r)(ra:oA tk φ s.heap β P as xs):
 ao (ar oj wd) A (call (.type "int") xs) (oR tk φ s β P r) oE s :=
 S_ (C:=λas r=>∀{xs:List Value},oA tk φ s.heap β P as xs->ao (ar oj wd) A (call (.type "int") xs) (oR tk φ s β P r) oE s) (λy wC m ex hd xs ra=>ra.e1 λx r1=>r1.e_flt λt Y=>call_int_float hd (tj K)) e ra
theorem S4{as:List AV}{r:AV}{xs:List Value}(K:o5 φ s)(F:to s P)(e:Hk as=some r)(ra:oA tk φ s.heap β P as xs):
 ao (ar oj wd) A (call (.builtin "divmod") xs) (oR tk φ s β P r) oE s :=
 S3 (C:=λas r=>∀{xs:List Value},oA tk φ s.heap β P as xs->ao (ar oj wd) A (call (.builtin "divmod") xs) (oR tk φ s β P r) oE s) (λi j hc xs ra=>ra.e2 λx y r1 r3=>r1.e_int λt=>r3.e_int λu =>
  divmod_int (λq=>hc (.inl q)) ⟨φ,.same K pQ.pushT (aV s.toks 2),.tup (J3 (xs:=[_,_]) _) (F _ (ai _)) (.cons (.int _ _) (.cons (.int _ _) .nil))⟩ (.inl (J4 (QB hc)))) e ra
theorem Td{as:List AV}{r:AV}{xs:List Value}(K:o5 φ s)(e:E0 as=some r)(ra:oA tk φ s.heap β P as xs):
 ao (ar oj wd) A (call (.builtin "isinstance") (xs++[.type "bool"])) (oR tk φ s β P r) oE s :=
 Tc (C:=λas r=>∀{xs:List Value},oA tk φ s.heap β P as xs->ao (ar oj wd) A (call (.builtin "isinstance") (xs++[.type "bool"])) (oR tk φ s β P r) oE s) (λi xs ra=>ra.e1 λx r1=>r1.e_int λt=>IsiPair.int_bool ⟨φ,.same K pQ.tok (bw _),.bool _⟩) e ra
theorem Tf{as:List AV}{r:AV}{xs:List Value}(K:o5 φ s)(e:E1 as=some r)(ra:oA tk φ s.heap β P as xs):
 ao (ar oj wd) A (call (.builtin "isinstance") (xs++[.type "int"])) (oR tk φ s β P r) oE s :=
 Te (C:=λas r=>∀{xs:List Value},oA tk φ s.heap β P as xs->ao (ar oj wd) A (call (.builtin "isinstance") (xs++[.type "int"])) (oR tk φ s β P r) oE s) (λi xs ra=>ra.e1 λx r1=>r1.e_int λt=>IsiPair.int_int (vX K)) e ra
theorem SY{as:List AV}{r:AV}{xs:List Value}(K:o5 φ s)(e:EY as=some r)(ra:oA tk φ s.heap β P as xs):
 ao (ar oj wd) A (call (.builtin "int.bit_length") xs) (oR tk φ s β P r) oE s :=
 LK (C:=λas r=>∀{xs:List Value},oA tk φ s.heap β P as xs->ao (ar oj wd) A (call (.builtin "int.bit_length") xs) (oR tk φ s β P r) oE s) (λi xs ra=>ra.e1 λx r1=>r1.e_int λt=>call_int_bit_length (tj K)) e ra
theorem wfm(K:o5 φ s)(e:cb (pz x) (pz y) 0 (pz x).length 1=k::oG):
 ao (ar oj wd) A (call (.builtin "str.index") [.str ⟨x.toArray⟩ t,.str ⟨y.toArray⟩ u]) (oR tk φ s β P (.int k)) oE s :=
 nA km (fC _ _ _) PySem.F.entry_str_index (PySem.F.args_str_index_2 _ _) (gives_str_index (pz x) (pz y) t u k oG e) (tj K)
theorem wfl(K:o5 φ s):
 ao (ar oj wd) A (call (.builtin "str.find") [.str ⟨x.toArray⟩ t,.str ⟨y.toArray⟩ u]) (oR tk φ s β P (.int (match cb (pz x) (pz y) 0 (pz x).length 1 with|k::_=>(k:Int) | []=>-1))) oE s :=
 nA kG (fC _ _ _) PySem.F.entry_str_find (PySem.F.args_str_find_2 _ _) (gives_str_find (pz x) (pz y) t u) (tj K)
theorem sm.countP(r:sm is xs):(xs.countP λy=>A_ y==some i)=is.countP (·==i):=by
 induction r with
 |nil=>rfl
 |cons _ ih=>refine oa hV ?_;refine oa hV ?_;refine oa ih ?_;rfl
theorem wbt(K:o5 φ s)(hl:s.heap.IsList l xs.toArray)(hi:sm is xs):
 ao (ar oj wd) A (call (.builtin "list.count") [.ref l,.int i t]) (oR tk φ s β P (.int (is.countP (·==i)))) oE s:=by
 obtain⟨⟨cls,dd,data,sl⟩,ho,hc,n,hd⟩:=id hl;simp only at hc hd;subst hc hd;refine gg j4 hl.typeIs PySem.F.entry_list_count (PySem.F.args_list_count_2 _ _) (list_countAt l xs.toArray n dd sl (.int i t) (λy=>A_ y==some i)) ⟨ho,hi.at,?_⟩;have:=hi.countP (i:=i);refine oa lJ ?_;refine oa this ?_;exact tj K
theorem sm.get(r:sm is xs):∀{j:Nat} (hj:j<xs.length) (yt:j<is.length),A_ xs[j]=some is[j]:=by
 induction r with
 |nil=>exact λhj=>absurd hj (iq _)
 |cons _ ih =>
  intro j hj yt
  induction j using ce with
  |zero=>rfl
  |succ j=>exact ih (fG hj) (fG yt)
theorem wbu(K:o5 φ s)(hl:s.heap.IsList l xs.toArray)(hi:sm is xs)(e:is.findIdx? (·==i)=some k)(hk:k<=100000):
 ao (ar oj wd) A (call (.builtin "list.index") [.ref l,.int i t]) (oR tk φ s β P (.int k)) oE s:=by
 obtain⟨⟨cls,dd,data,sl⟩,ho,hc,n,hd⟩:=id hl;simp only at hc hd;subst hc hd;refine oB (List.findIdx?_eq_some_iff_getElem.mp e) λh1 h2 h3=>?_;have oU:=hi.length;refine gg j3 hl.typeIs PySem.F.entry_list_index (PySem.F.args_list_index_2 _ _)
  (list_indexAt l xs.toArray n dd sl (.int i t) (λy=>A_ y==some i) k (by simp;lia) (Cm hk rfl) ?_ λm hm Y6=>?_) ⟨ho,hi.at,tj K⟩
 ·have:=hi.get (j:=k) (by lia) h1;simp only[lu];refine oa this ?_;simpa using h2
 ·have vS:m<xs.length:=by simpa using hm
  have:=hi.get (j:=m) vS (by simp[*]);simp only[lu];refine oa this ?_;have:=h3 m Y6;simpa using this
theorem wfp{v:AV}{vs:List AV}{ss:List (List Nat)}{Q:Prop}(e:uX (v::vs)=some ss)(k:∀x Ca,v=.str x->uX vs=some Ca->x::Ca=ss->Q):Q:=by
 induction v using AV.casesOn with
 |str x =>
  refine oB (aK.mp (show(uX vs).map (x::·)=some ss from e)) λCa h1 h2=>?_;exact k x Ca rfl h1 h2
 |_=>exact oq e
theorem wfr{vs:List AV}{xs:List Value}{ss:List (List Nat)}(e:uX vs=some ss)(r:oA tk φ h β P vs xs):∃l:List (Str×kP),xs=strValues l/\l.map (·.1)=ss.map pz :=
 r.ind (motive:=λvs xs=>∀ss,uX vs=some ss->∃l:List (Str×kP),xs=strValues l/\l.map (·.1)=ss.map pz) (λss e=>ag (show some []=some ss from e)▸⟨[],rfl,rfl⟩)
  (λra Y ih ss e=>wfp e λx Ca e1 h1 e2=>by
   refine oB (ih Ca h1) λl e3 h2=>?_;refine(e1▸ra).e_str λt=>?_;refine rwj e2 ?_;refine oa e3 ?_;exact oV ((pz x,t)::l) rfl (congrArg (_::·) h2)) ss e
theorem IC(ss:List (List Nat)):kM (pz []) (ss.map pz)=pz ss.flatten:=by
 have key:∀(l:List (List Nat)) (acc:Array Nat),(l.map pz).foldl (λacc p=>acc++(pz []).cps++p.cps) acc=acc++l.flatten.toArray:=by
  intro l
  induction l with
  |nil=>intro acc;simp
  |cons a l ih =>
   intro acc;refine oa aU ?_;refine oa eZ ?_;refine oa (ih _) ?_;simp[pz]
 induction ss using af with
 |nil=>rfl
 |cons a l =>
  unfold kM;show(⟨((l.map pz)).foldl _ (pz a).cps⟩:Str)=_;refine oa (key _ _) ?_;apply lE;simp[pz]
theorem Xu:∀(l:List Str) (n:Nat),l.foldl (λa y=>a+y.length+(pz []).length) n=n+(l.map (·.length)).sum:=by
 intro vv
 induction vv with
 |nil =>
  intro n;simp
 |cons a l ih =>
  intro n;refine oa eZ ?_;refine oa (ih _) ?_;refine oa aU ?_;refine oa bV ?_;simp[pz,dI];lia
theorem W3(ss:List (List Nat)):((ss.map pz).map (·.length)).sum=ss.flatten.length:=by
 induction ss with
 |nil=>rfl
 |cons a l ih=>rw[aU,aU,bV,ih,my,aq];rfl
theorem waV(K:o5 φ s)(h1:s.heap.IsList l us.toArray)(hs:uX vs=some ss)(o3:ss.flatten.length<=100000)(r5:oA tk φ s.heap β P vs us):
 ao (ar oj wd) A (call (.builtin "str.join") [.str (pz []) t,.ref l]) (oR tk φ s β P (.str ss.flatten)) oE s:=by
 refine oB (wfr hs r5) ?_;rintro ll rfl FV;clear hs r5;refine gg kF (fC _ _ _) PySem.F.entry_str_join (PySem.F.args_str_join_2 _ _) (meets_str_join_list (pz []) _ l ll ?_) ⟨h1,?_⟩
 ·rw[FV,List.foldl_toArray,Xu,W3];unfold j9;have:=sk o3;simpa using this
 ·delta joinMade
  have LA:(pz ss.flatten).length<=fv:=by simpa [pz,dI]using sk o3
  induction ll using af with
  |nil=>dsimp only;rw[FV,IC];exact⟨LA,zC K (bw _)⟩
  |cons p l =>
   induction l using af with
   |nil =>
    have hp:ss.map pz=[p.1]:=FV.symm;have:pz ss.flatten=p.1:=by
     rw[<-IC,hp];rfl
    obtain⟨p1,p2⟩:=p;simp only at this;subst this;exact wE K (.str _ _)
   |cons q l=>dsimp only;rw[FV,IC];exact⟨LA,zC K (bw _)⟩
theorem Tg(K:o5 φ s)(O:qE tk φ s.heap β P σ)(e:E2 σ as=some r)(ra:oA tk φ s.heap β P as xs):
 ao (ar oj wd) A (call (.builtin "str.join") xs) (oR tk φ s β P r) oE s :=
 LO (C:=λas r=>∀{xs:List Value},oA tk φ s.heap β P as xs->ao (ar oj wd) A (call (.builtin "str.join") xs) (oR tk φ s β P r) oE s) (λl vs ss hl hs o3 xs ra=>ra.e2 λa b r1 r3=>r1.e_str λt=>by
  refine qe (te O hl r3) ?_;rintro l us rfl h1 r5;exact waV K h1 hs o3 r5) e ra
theorem wfo:∀(l:List Str) (t:kP),oA tk φ h β P (l.map λy=>.str y.cps.toList) (strsFrom t l):=by
 intro vv
 induction vv with
 |nil =>
  intro _;exact .nil
 |cons y l ih =>
  intro t;exact .cons (.str _ _) (ih (t+1))
theorem Tr(K:o5 φ s)(F:to s P)(e:CQ as=some r)(ra:oA tk φ s.heap β P as xs):
 ao (ar oj wd) A (call (.builtin "str.split") xs) (oR tk φ s β P r) oE s :=
 LP (C:=λas r=>∀{xs:List Value},oA tk φ s.heap β P as xs->ao (ar oj wd) A (call (.builtin "str.split") xs) (oR tk φ s β P r) oE s) (λx hc xs ra=>ra.e1 λa r1=>r1.e_str λt=>by
  refine gg kj (fC _ _ _) PySem.F.entry_str_split (PySem.F.args_str_split_1 _) (meets_str_split_space (pz x) _ (sk hc.1) (sk hc.2.1)) ?_;show if _ then _ else _
  rw[if_neg (by refine oa hc.2.2 ?_;exact bA)];exact⟨φ,.same K pQ.pushT (aV _ _),.lst (AH _) (F _ (ai _)) (wfo _ _)⟩) e ra
theorem UP{s:ah}{ks:List Int}(K:o5 φ s)(hd:s.heap.DictOf (bZ oj wd) d (ks.zip ys))(uN:(d==bN)=false)(rs:oA tk φ s.heap β P vs ys)(rv:VR tk φ s.heap β P v x):ao (ar oj wd) A (call (.builtin "dict.get") [.ref d,.int k t,x]) (oR tk φ s β P (match(ks.zip vs).lookup k with|some v=>v|none=>v)) oE s:=by
 refine jU d0 hd.mapOf.typeIs g8 (j5 _ _ _) (ma (bZ oj wd) d (gX oj wd k t) uN x) ⟨_,hd.mapOf,?_⟩;refine⟨φ,.same K pQ.tok (bw _),?_⟩
 induction q:(ks.zip vs).lookup k using aa with
 |none=>refine oa (whw q rs) ?_;exact rv
 |some v' =>
  refine oB (Ro q rs) λz hz rz=>?_;refine oa hz ?_;exact rz
theorem wgf(K:o5 φ s)(I:pp G s.heap)(rv:VR G.tok φ s.heap β P v y):
 ao (ar oj wd) A (call (.builtin "dict.get") [.ref G.tok,.str ⟨x.toArray⟩ t,y]) (oR G.tok φ s β P (match qK.lookup x with|some k=>.int k|none=>v)) oE s:=by
 refine s9 I.tok λf hm h1 h2=>?_;refine jU d0 hm.typeIs g8 (j5 _ _ _) (ma (strKind oj wd) G.tok (nx oj wd ⟨x.toArray⟩ t) I.tokMod y) ⟨_,hm,?_⟩;refine⟨φ,.same K pQ.tok (bw _),?_⟩
 induction q:qK.lookup x using aa with
 |none=>refine oa (h2 ⟨x.toArray⟩ (show qK.lookup _=none from q)) ?_;exact rv
 |some k=>refine o6 (h1 ⟨x.toArray⟩ k (show qK.lookup _=some k from q)) λt ht=>?_;refine oa ht ?_;exact .int _ _
theorem pJ.notX(x:pJ G h)(e:h.get? b=some o)(h0:o≠gC #[])(h1:∀t c,o≠BD t c):¬G.X b:=by
 rintro⟨t,ht,rfl⟩;rcases x t ht with q|⟨c,q,_⟩
 ·rw[e]at q;exact h0 (ag q)
 ·rw[e]at q;exact h1 t c (ag q)
theorem pJ.notX_data(x:pJ G h)(e:h.get? b=some o)(hd:∀vs,o.data≠.fields vs):¬G.X b :=
 x.notX e (λq=>hd _ (by rw[q])) λt c q=>hd _ (by rw[q])
theorem pJ.notX_ns(x:pJ G h)(n:h.Ns a m):¬G.X a:=by
 refine wW n λo es ep ho hd Y=>?_;exact x.notX_data ho λvs q=>by rw[hd]at q;cases q
theorem pJ.notX_cell(x:pJ G h)(n:h.IsCell a v):¬G.X a:=by
 refine oB n λo ho hd=>?_;exact x.notX_data ho λvs q=>by rw[hd]at q;cases q
theorem pJ.notX_code(x:pJ G h)(n:h.CodeRec (.ref c) q):¬G.X c:=by
 refine Bw n λc' o vs t e ho hd hv=>?_;cases e;refine x.notX ho (λq=>?_) λt c q=>?_
 ·rw[q]at hd;cases hd;simp at hv
 ·rw[q]at hd;cases hd;simp[gV]at hv
theorem pJ.lt(x:pJ G h)(hb:G.X b):b<h.objs.size:=by
 refine oB hb ?_;rintro t ht rfl;rcases x t ht with q|⟨c,q,_⟩
 ·exact aN q
 ·exact aN q
theorem pZ.code(x:pJ G h)(hc:pZ G h c):∃q,h.CodeRec (.ref c) q:=by
 refine oB hc λt ht e=>?_;rcases x t ht with q|⟨c',q,r⟩
 ·rw[e]at q;have:=congrArg (λo:Option nk=>o.map (·.data)) q;simp at this
 ·rw[e]at q;have:c=c':=by
   have:=congrArg (λo:Option nk=>o.map (·.data)) q;simpa using this
  subst this;exact⟨_,r⟩
theorem pZ.lt(x:pJ G h)(hc:pZ G h c):c<h.objs.size:=by
 refine C6 (pZ.code x hc) λq c' o vs t e ho Y=>?_;cases e;exact aN ho
theorem pJ.noHas(x:pJ G h)(e:h.get? a=some o)(hd:∀vs,o.data≠.fields vs):¬pZ G h a:=λhc=>by
 refine M1 (pZ.code x hc) λq c' o' vs t e' ho yq Y=>?_;cases e';rw[e]at ho;cases ho;exact hd vs yq
theorem pJ.butS{G:GD}{h h':bU}{X:aw->Prop}(x:pJ G h)(hk:∀b o,¬X b->h.get? b=some o->h'.get? b=some o)(hX:∀b,G.X b->¬X b)(hc:∀c,pZ G h c->¬X c):pJ G h'/\∀c,pZ G h' c->pZ G h c:=by
 have q9:∀t∈G.tabs,¬X t.2.1:=λt ht=>hX _ ⟨t,ht,rfl⟩;refine⟨λt ht=>?_,λc ⟨t,ht,e⟩=>⟨t,ht,?_⟩⟩
 ·rcases x t ht with q|⟨c,q,c',o,vs,tt,e',ho,r⟩
  ·exact .inl (hk _ _ (q9 t ht) q)
  ·cases e';exact .inr ⟨c,hk _ _ (q9 t ht) q,c,o,vs,tt,rfl,hk _ _ (hc c ⟨t,ht,q⟩) ho,r⟩
 ·rcases x t ht with q|⟨c',q,_⟩
  ·have:=hk _ _ (q9 t ht) q;rw[e]at this;rw[q,<-this]
  ·have:=hk _ _ (q9 t ht) q;rw[e]at this;rw[q,<-this]
theorem pJ.but(x:pJ G h)(hk:∀b o,b≠a->h.get? b=some o->h'.get? b=some o)(hX:¬G.X a)(hc:¬pZ G h a):pJ G h'/\∀c,pZ G h' c->pZ G h c :=
 x.butS (X:=(·=a)) (λb o hb e=>hk b o hb e) (λb hb q=>hX (q▸hb)) λc h q=>hc (q▸h)
theorem pp.keepsX(x:pp G h)(hk:∀b o,¬G.X b->h.get? b=some o->h'.get? b=some o)(ht:pJ G h'):pp G h' where
 g:=x.g.at' λo e=>hk _ o (x.tabs.notX_ns x.g) e
 b:=x.b.at' λo e=>hk _ o (x.tabs.notX_ns x.b) e
 stat:=x.stat.at' λo e=>hk _ o (x.tabs.notX_ns x.stat) e
 tok:=by
  refine oB x.tok λf z6 q=>?_;obtain⟨o,es,ep,ho,hx,hd,r⟩:=z6;exact oV f ⟨o,es,ep,hk _ o (x.tabs.notX_data ho λvs q=>by rw[hd]at q;cases q) ho,hx,hd,r⟩ q
 tokMod:=x.tokMod
 fns:=λk y fd e=>by
  obtain⟨a,o,h1,h2,h3,c,oc,vs,t,e1,e2,e3,e4⟩:=x.fns k y fd e;refine⟨a,o,h1,hk _ o (x.tabs.notX_data h2 λvs q=>by rw[h3]at q;cases q) h2,h3,c,oc,vs,t,e1,hk _ _ (x.tabs.notX_code (q:=fd.qualname) ⟨c,oc,vs,t,rfl,e2,e3,e4⟩) e2,e3,e4⟩
 heads:=λt sT=>by
  obtain⟨o,vs,Db,tf,flags,tg,DK,rZ,tt,e,hc,r⟩:=x.heads t sT;exact⟨o,vs,Db,tf,flags,tg,DK,rZ,tt,hk _ o (x.tabs.notX e (λq=>by rw[q]at hc;cases hc) λt c q=>by rw[q]at hc;cases hc) e,hc,r⟩
 tabs:=ht
 bmain:=by
  refine Bv x.bmain λbm ob h1 h2 h3 h4 h5 h6=>?_;exact O8 bm ob h1 h2 (hk _ _ (x.tabs.notX_data h3 λvs q=>by rw[h6]at q;cases q) h3) h4 h5 h6
 b1:=by
  obtain⟨a,n,h1,o,es,ep,t,ho,hx,hd,r⟩:=x.b1;exact⟨a,n,h1,o,es,ep,t,hk _ _ (x.tabs.notX_data ho λvs q=>by rw[hd]at q;cases q) ho,hx,hd,r⟩
 b3:=by
  refine Ae x.b3 λa f h1 h2 z5 q=>?_;obtain⟨o,es,ep,ho,hx,hd,r⟩:=z5;exact F9 a f h1 h2 ⟨o,es,ep,hk _ _ (x.tabs.notX_data ho λvs q=>by rw[hd]at q;cases q) ho,hx,hd,r⟩ q
structure Rz(G:GD) (s s':ah):Prop where
 keeps:∃h t,s'={s with heap:=h,toks:=t}/\∀b o,¬G.X b->s.heap.get? b=some o->h.get? b=some o
 size:s.heap.objs.size<=s'.heap.objs.size
structure GX(G:GD) (s:ah) (φ:Gh) (s':ah) (ow:Gh):Prop where
 grows:Rz G s s'
 sub:∀t x,φ t x->ow t x
 tk:o5 ow s'
 tabs:pJ G s.heap->pJ G s'.heap/\∀c,pZ G s'.heap c->pZ G s.heap c\/s.heap.objs.size<=c
theorem GX.ext(x:GX G s φ s' ow):∀b o,¬G.X b->s.heap.get? b=some o->s'.heap.get? b=some o:=by
 refine pK x.grows.keeps ?_;rintro h t rfl k;exact k
theorem wfQ{s s':ah}(hx:qt s.heap s'.heap)(x:pJ G s.heap):pJ G s'.heap/\∀c,pZ G s'.heap c->pZ G s.heap c\/s.heap.objs.size<=c:=by
 refine⟨x.keeps hx,λc ⟨t,ht,e⟩=>.inl ⟨t,ht,?_⟩⟩;rcases x t ht with q|⟨c',q,_⟩
 ·have:=hx _ _ q;rw[e]at this;rw[q,<-this]
 ·have:=hx _ _ q;rw[e]at this;rw[q,<-this]
theorem vw(hx:qt h h')(x:pJ G h):∀c,pZ G h' c->pZ G h c:=λc ⟨t,ht,e⟩=>⟨t,ht,by
 rcases x t ht with q|⟨c',q,_⟩
 ·have:=hx _ _ q;rw[e]at this;rw[q,<-this]
 ·have:=hx _ _ q;rw[e]at this;rw[q,<-this]⟩
theorem Go.x(k:Go s φ s' ow):GX G s φ s' ow where
 grows:=⟨let⟨h,t,e,k⟩:=k.grows.keeps;⟨h,t,e,λb o Y e=>k b o e⟩,k.grows.size⟩
 sub:=k.sub
 tk:=k.tk
 tabs:=wfQ k.ext
theorem GX.trans(x:GX G s φ s' ow)(y:GX G s' ow qV xp):GX G s φ qV xp where
 grows:=⟨by
  refine pK x.grows.keeps ?_;rintro h t rfl k;refine pK y.grows.keeps ?_;rintro h' t' rfl k';exact rf h' t' rfl (λb o hb e=>k' b o hb (k b o hb e)),ae x.grows.size y.grows.size⟩
 sub:=λt z e=>y.sub t z (x.sub t z e)
 tk:=y.tk
 tabs:=λh=>by
  refine p_ (x.tabs h) λh1 h2=>?_;refine p_ (y.tabs h1) λh3 h4=>?_;exact⟨h3,λc hc=>(h4 c hc).elim (h2 c) λq=>.inr (ae x.grows.size q)⟩
theorem GX.refl(k:o5 φ s):GX G s φ s φ:=(Go.refl k).x
theorem GX.same(k:o5 φ s)(g:pQ s s')(ht:s.toks<=s'.toks):GX G s φ s' φ:=(Go.same k g ht).x
theorem GX.then_but(k:GX G s φ s' ow)(ht:pJ G s.heap)(ha:s.heap.objs.size<=a)(hk:∀b o,b≠a->s'.heap.get? b=some o->h'.get? b=some o)(hc:¬pZ G s'.heap a)(hX:¬G.X a)(hz:s'.heap.objs.size<=h'.objs.size)(vU:s'.toks<=t):GX G s φ {s' with heap:=h',toks:=t} ow where
 grows:=⟨by
  refine pK k.grows.keeps ?_;rintro hh tt rfl kk;exact rf h' t rfl (λb o hb e=>hk b o (λq=>aJ _ (ab (q▸aN e:a<s.heap.objs.size) ha)) (kk b o hb e)),ae k.grows.size hz⟩
 sub:=k.sub
 tk:=⟨k.tk.fn,k.tk.pos,λt' x e=>ab (k.tk.lt t' x e) vU,ab k.tk.one vU⟩
 tabs:=λh=>by
  refine p_ (k.tabs h) λh1 h2=>?_;refine p_ (h1.but hk hX hc) λh3 h4=>?_;exact⟨h3,λc q=>h2 c (h4 c q)⟩
noncomputable def sY(G:GD)(a:aw):Prop:=(a==bN)=false/\¬G.X a
noncomputable def RB(oe:Env)(β:List aw)(a:aw):Prop:=a∈β\/a=oe.locals\/∃x,oe.cells.lookup x=some a
noncomputable def xu(G:GD)(s:ah)(P:aw->Prop):Prop:=∀a,(s.heap.objs.size<=a\/pZ G s.heap a)->P a
theorem xu.f(F:xu G s P):to s P:=λa h=>F a (.inl h)
theorem xu.go(F:xu G s P)(k:GX G s φ s' ow)(ht:pJ G s.heap):xu G s' P:=λa h=>h.elim (λh=>F a (.inl (ae k.grows.size h))) λh=>((k.tabs ht).2 a h).elim (λq=>F a (.inr q)) λq=>F a (.inl q)
structure ER(G:GD) (φ:Gh) (oe:Env) (T:Tb) (ρ:oI) (σ:oH) (β:List aw) (P:aw->Prop) (m:Str->Option Value) (s:ah):Prop where
 ns:s.heap.Ns oe.locals m
 len:ρ.length=T.next
 names:∀(x:Str) (i:Nat) (v:AV),T.var x=some i->ρ[i]?=some (some v)->∃v',VR G.tok φ s.heap β P v v'/\zP oe m s.heap x v'
 celled:∀x,T.celled x=true->∃c rq,oe.cells.lookup x=some c/\s.heap.IsCell c rq
 objs:∀(i:Nat) (o:AO),σ[i]?=some o->o≠AO.gone->∃a,β[i]?=some a/\OR G.tok φ s.heap β P o a
 freshX:xu G s P
 psafe:∀a,P a->sY G a
 bsafe:∀a,RB oe β a->sY G a
 blt:∀a,a∈β->a<s.heap.objs.size
 tk:o5 φ s
theorem ER.fresh(R:ER G φ oe T ρ σ β P m s):to s P:=R.freshX.f
theorem ER.psys(R:ER G φ oe T ρ σ β P m s):∀a,P a->(a==bN)=false:=λa p=>(R.psafe a p).1
theorem ER.keepP(R:ER G φ oe T ρ σ β P m s)(k:GX G s φ s' ow):∀a o,P a->s.heap.get? a=some o->s'.heap.get? a=some o/\P a:=λa o p e=>⟨k.ext a o (R.psafe a p).2 e,p⟩
theorem ER.vr(R:ER G φ oe T ρ σ β P m s)(k:GX G s φ s' ow)(r:VR G.tok φ s.heap β P v x):VR G.tok ow s'.heap β P v x:=r.mono k.sub (R.keepP k) (aB _)
theorem ER.vrs(R:ER G φ oe T ρ σ β P m s)(k:GX G s φ s' ow)(r:oA G.tok φ s.heap β P v x):oA G.tok ow s'.heap β P v x:=r.mono k.sub (R.keepP k) (aB _)
theorem OR.at(xb:∀t x,φ t x->ow t x)(hk:∀a o,P a->h.get? a=some o->h'.get? a=some o/\P a)(ha:∀o,h.get? a=some o->h'.get? a=some o)(r:OR tk φ h β P o a):OR tk ow h' β P o a:=by
 cases r with
 |list e r=>exact .list (e.at ha) (r.mono xb hk (aB _))
 |dict e hl r=>exact .dict (DictOf.at e ha) hl (r.mono xb hk (aB _))
theorem ER.go(R:ER G φ oe T ρ σ β P m s)(k:GX G s φ s' ow)(ht:pJ G s.heap):ER G ow oe T ρ σ β P m s' where
 ns:=R.ns.at' λo e=>k.ext _ o (R.bsafe _ (.inr (.inl rfl))).2 e
 len:=R.len
 names:=λx i v h1 h2=>by
  refine oB (R.names x i v h1 h2) λv' a b=>?_;refine oV v' (R.vr k a) ?_;rcases b with b|⟨c,b1,b2,o,ho,hd⟩
  ·exact .inl b
  ·exact .inr ⟨c,b1,b2,o,k.ext c o (R.bsafe c (.inr (.inr ⟨x,b1⟩))).2 ho,hd⟩
 celled:=λx h=>by
  obtain⟨c,v,a,o,ho,hd⟩:=R.celled x h;exact⟨c,v,a,o,k.ext c o (R.bsafe c (.inr (.inr ⟨x,a⟩))).2 ho,hd⟩
 objs:=λi o h1 h2=>let⟨a,h3,h4⟩:=R.objs i o h1 h2;⟨a,h3,h4.at k.sub (R.keepP k) λo e=>k.ext a o (R.bsafe a (.inl (aY h3))).2 e⟩
 freshX:=R.freshX.go k ht
 psafe:=R.psafe
 bsafe:=R.bsafe
 blt:=λa h=>ab (R.blt a h) k.grows.size
 tk:=k.tk
noncomputable def yd(G:GD)(φ:Gh)(s:ah)(β:List aw)(P:aw->Prop)(r:AV):Value->ah->Prop :=
 λv' s'=>∃ow,GX G s φ s' ow/\VR G.tok ow s'.heap β P r v'
noncomputable def RL(G:GD)(φ:Gh)(s:ah)(β:List aw)(P:aw->Prop)(r:List AV):List Value->ah->Prop :=
 λv' s'=>∃ow,GX G s φ s' ow/\oA G.tok ow s'.heap β P r v'
theorem oR.x(h:oR G.tok φ s β P r v' s'):yd G φ s β P r v' s':=let⟨ow,k,q⟩:=h;⟨ow,k.x,q⟩
noncomputable def ES(G:GD)(A:br)(oe:Env)(T:Tb)(ρ:oI)(σ:oH)(t:fe Value)(v:AV):Prop :=
 ∀s φ β P m,pp G s.heap->ER G φ oe T ρ σ β P m s->ao (ar oj wd) A t (yd G φ s β P v) oE s
theorem HJ(hE:qc oe T)(hx:T.var x=some i)(hv:ρ[i]?=some (some v)):ES G A oe T ρ σ (bK (.Name x pos) oe) v:=by
 intro s φ β P m I R;refine oB (R.names x i v hx hv) λv' r n=>?_;have hd:=Ql hx;refine wpAny_Name ?_ hd.1;rcases n with⟨k,e⟩|⟨c,e,k,i⟩
 ·exact mT hE.kind k R.ns e ⟨φ,.refl R.tk,r⟩
 ·rcases k with k|k
  ·exact jo hE.kind k e i ⟨φ,.refl R.tk,r⟩
  ·exact jn hE.kind k e i ⟨φ,.refl R.tk,r⟩ hd.2
noncomputable def uz(G:GD)(A:br)(oe:Env)(T:Tb)(ρ:oI)(σ:oH)(t:fe (List Value))(v:List AV):Prop :=
 ∀s φ β P m,pp G s.heap->ER G φ oe T ρ σ β P m s->ao (ar oj wd) A t (RL G φ s β P v) oE s
noncomputable def TS(G:GD)(A:br)(oe:Env)(T:Tb)(ρ:oI)(σ:oH)(t:fe Bool)(b:Bool):Prop :=
 ∀s φ β P m,pp G s.heap->ER G φ oe T ρ σ β P m s->ao (ar oj wd) A t (λc s'=>c=b/\∃ow,GX G s φ s' ow) oE s
theorem pp.go(I:pp G s.heap)(k:GX G s φ s' ow):pp G s'.heap:=I.keepsX k.ext (k.tabs I.tabs).1
theorem ES.post(h:ES G A oe T ρ σ t v)(I:pp G s.heap)(R:ER G φ oe T ρ σ β P m s)(hQ:∀x s' ow,GX G s φ s' ow->pp G s'.heap->ER G ow oe T ρ σ β P m s'->VR G.tok ow s'.heap β P v x->Q x s'):
 ao (ar oj wd) A t Q E s :=
 up (h s φ β P m I R) λx s' ⟨ow,k,r⟩=>hQ x s' ow k (I.go k) (R.go k I.tabs) r
theorem uz.post(h:uz G A oe T ρ σ t v)(I:pp G s.heap)(R:ER G φ oe T ρ σ β P m s)(hQ:∀x s' ow,GX G s φ s' ow->pp G s'.heap->ER G ow oe T ρ σ β P m s'->oA G.tok ow s'.heap β P v x->Q x s'):
 ao (ar oj wd) A t Q E s :=
 up (h s φ β P m I R) λx s' ⟨ow,k,r⟩=>hQ x s' ow k (I.go k) (R.go k I.tabs) r
theorem TS.post(h:TS G A oe T ρ σ t b)(I:pp G s.heap)(R:ER G φ oe T ρ σ β P m s)(hQ:∀s' ow,GX G s φ s' ow->pp G s'.heap->ER G ow oe T ρ σ β P m s'->Q b s'):ao (ar oj wd) A t Q E s :=
 up (h s φ β P m I R) λx s' ⟨e,ow,k⟩=>by subst e;exact hQ s' ow k (I.go k) (R.go k I.tabs)
theorem x_(k:GX G s φ s' ow)(h:ao (ar oj wd) A t (yd G ow s' β P r) oE s'):ao (ar oj wd) A t (yd G φ s β P r) oE s' :=
 up h λx qV ⟨xp,k',q⟩=>⟨xp,k.trans k',q⟩
theorem Cg(k:GX G s φ s' ow)(h:ao (ar oj wd) A t (oR G.tok ow s' β P r) oE s'):ao (ar oj wd) A t (yd G φ s β P r) oE s' :=
 x_ k (up h λx qV q=>q.x)
theorem Vt(e:Hz c=some v):ES G A oe T ρ σ (bK (.Constant c k pos) oe) v:=by
 intro s φ β P m I R;revert e
 induction c using Const.casesOn with
 |none=>exact λe=>ag e▸Constant_none (wE R.tk .none).x
 |bool b=>exact λe=>ag e▸Constant_bool (wE R.tk (.bool _)).x
 |int i=>exact λe=>ag e▸wpAny_Constant_int (tj R.tk).x
 |float x=>exact λe=>ag e▸PySem.wpAny_Constant_float (yB R.tk).x
 |str x =>
  refine λe=>ag e▸wpAny_Constant_str ?_;have:=zC (tk:=G.tok) (β:=β) (P:=P) (x:=x.cps.toList) (t:=s.toks) R.tk (bw s.toks);have e:(⟨x.cps.toList.toArray⟩:Str)=x:=by apply lE;simp
  rw[e]at this;exact this.x
 |_=>exact λe=>oq e
theorem Vm(hA:A.handled=none)(ha:ES G A oe T ρ σ (bK a oe) x)(hb:ES G A oe T ρ σ (bK b oe) y)(e:rP σ op x y=some r):
 ES G A oe T ρ σ (bK (.BinOp a op b pos) oe) r:=λs φ β P m I R =>
 fx (ha.post I R λx' ou oF oD ph oP oM=>hb.post ph oP λy' oJ o4 oW rU qi pT =>
  Cg (oD.trans oW) (Sz hA qi.tk qi.objs qi.fresh e (oP.vr oW oM) pT))
theorem VD(ha:ES G A oe T ρ σ (bK a oe) x)(e:Ce op x=some r):
 ES G A oe T ρ σ (bK (.UnaryOp op a pos) oe) r:=λs φ β P m I R =>
 UnaryOp_ (ha.post I R λx' ou oF oD ph oP oM=>Cg oD (wgZ oP.tk e oM))
theorem Vr(hu:A.units<k0)(hm:ig op b=false)(ha:ES G A oe T ρ σ (bK a oe) x)(hb:ES G A oe T ρ σ (bK b oe) y)(e:wO σ op x y=some r):ES G A oe T ρ σ (bK (.Compare a [op] [b] pos) oe) (.bool r):=λs φ β P m I R =>
 la (ha.post I R λx' ou oF oD ph oP oM=>hb.post ph oP λy' oJ o4 oW rU qi pT =>
  Cg (oD.trans oW) (LY qi.tk rU qi.objs hu e (oP.vr oW oM) pT)) hm
theorem wgO(hu:A.units<k0)(hm:ig op b=false)(ha:ES G A oe T ρ σ (bK a oe) x)(hb:ES G A oe T ρ σ (bK b oe) y)(e:wO σ op x y=some r):TS G A oe T ρ σ (dv (.Compare a [op] [b] pos) oe whole) r:=λs φ β P m I R =>
 jH (ha.post I R λx' ou oF oD ph oP oM=>hb.post ph oP λy' oJ o4 oW rU qi pT =>
  up (LY qi.tk rU qi.objs hu e (oP.vr oW oM) pT) λv ro ⟨sU,qA,vY⟩=>by
   cases vY;exact cz ⟨rfl,sU,(oD.trans oW).trans qA.x⟩) hm
theorem wgP(ha:TS G A oe T ρ σ (dv a oe (bK a oe)) b):TS G A oe T ρ σ (dv (.UnaryOp .Not a pos) oe whole) (!b):=λs φ β P m I R =>
 isTrue_not (ha.post I R λs' ow k Y Y=>⟨rfl,ow,k⟩)
theorem Q8(he:dv e oe whole=(do let v <-whole;jd e.pos;jg [v] (truthy v)))(ha:ES G A oe T ρ σ whole (.bool b)):
 TS G A oe T ρ σ (dv e oe whole) b:=λs φ β P m I R =>
 isTrue_plain (ha.post I R λx s' ow k Y Y r=>by cases r;exact cz ⟨rfl,ow,k⟩) he
theorem Ms(hc:TS G A oe T ρ σ (dv c oe (bK c oe)) t)(ha:t=true->ES G A oe T ρ σ (bK a oe) v)(hb:t=false->ES G A oe T ρ σ (bK b oe) v):
 ES G A oe T ρ σ (bK (.IfExp c a b pos) oe) v:=λs φ β P m I R =>
 IfExp_ (hc.post I R λou oF oD ph oP=>by
  induction t using aZ with
  |true=>exact x_ oD (ha rfl ou oF β P m ph oP)
  |false=>exact x_ oD (hb rfl ou oF β P m ph oP))
theorem Q6(hc:TS G A oe T ρ σ (dv c oe (bK c oe)) t)(ha:t=true->TS G A oe T ρ σ (dv a oe (bK a oe)) r)(hb:t=false->TS G A oe T ρ σ (dv b oe (bK b oe)) r):TS G A oe T ρ σ (dv (.IfExp c a b pos) oe whole) r:=λs φ β P m I R =>
 isTrue_IfExp (hc.post I R λou oF oD ph oP=>by
  induction t using aZ with
  |true=>exact(ha rfl).post ph oP λoJ o4 oW Y Y=>⟨rfl,o4,oD.trans oW⟩
  |false=>exact(hb rfl).post ph oP λoJ o4 oW Y Y=>⟨rfl,o4,oD.trans oW⟩)
theorem wgN:TS G A oe T ρ σ (dv (.BoolOp .And [] pos) oe whole) true:=λs φ β P m I R=>isTrue_and_nil ⟨rfl,φ,.refl R.tk⟩
theorem Q5(hc:TS G A oe T ρ σ (dv a oe (bK a oe)) t)(hf:t=false->r=false)(ha:t=true->TS G A oe T ρ σ (dv (.BoolOp .And oG pos) oe whole) r):TS G A oe T ρ σ (dv (.BoolOp .And (a::oG) pos) oe whole) r:=λs φ β P m I R =>
 isTrue_and (hc.post I R λou oF oD ph oP=>by
  induction t using aZ with
  |true=>exact(ha rfl).post ph oP λoJ o4 oW Y Y=>⟨rfl,o4,oD.trans oW⟩
  |false=>exact⟨(hf rfl).symm,oF,oD⟩)
theorem wgQ:TS G A oe T ρ σ (dv (.BoolOp .Or [] pos) oe whole) false:=λs φ β P m I R=>isTrue_or_nil ⟨rfl,φ,.refl R.tk⟩
theorem Q7(hc:TS G A oe T ρ σ (dv a oe (bK a oe)) t)(hf:t=true->r=true)(ha:t=false->TS G A oe T ρ σ (dv (.BoolOp .Or oG pos) oe whole) r):TS G A oe T ρ σ (dv (.BoolOp .Or (a::oG) pos) oe whole) r:=λs φ β P m I R =>
 isTrue_or (hc.post I R λou oF oD ph oP=>by
  induction t using aZ with
  |false=>exact(ha rfl).post ph oP λoJ o4 oW Y Y=>⟨rfl,o4,oD.trans oW⟩
  |true=>exact⟨(hf rfl).symm,oF,oD⟩)
theorem Mq(hc:ES G A oe T ρ σ (bK a oe) (.bool t))(hf:t=false->r=false)(ha:t=true->ES G A oe T ρ σ (bK (.BoolOp .And (b::oG) pos) oe) (.bool r)):ES G A oe T ρ σ (bK (.BoolOp .And (a::b::oG) pos) oe) (.bool r):=λs φ β P m I R =>
 BoolOp_and (hc.post I R λx ou oF oD ph oP oM=>by
  cases oM;refine cz ?_
  induction t using aZ with
  |true=>exact x_ oD (ha rfl ou oF β P m ph oP)
  |false=>refine oa (hf rfl) ?_;exact⟨oF,oD,.bool _⟩)
theorem Mu(hc:ES G A oe T ρ σ (bK a oe) (.bool t))(hf:t=true->r=true)(ha:t=false->ES G A oe T ρ σ (bK (.BoolOp .Or (b::oG) pos) oe) (.bool r)):ES G A oe T ρ σ (bK (.BoolOp .Or (a::b::oG) pos) oe) (.bool r):=λs φ β P m I R =>
 BoolOp_or (hc.post I R λx ou oF oD ph oP oM=>by
  cases oM;refine cz ?_
  induction t using aZ with
  |false=>exact x_ oD (ha rfl ou oF β P m ph oP)
  |true=>refine oa (hf rfl) ?_;exact⟨oF,oD,.bool _⟩)
theorem VG:uz G A oe T ρ σ (eC (eF pos (b_ [] oe))) []:=λs φ β P m I R=>fT ⟨φ,.refl R.tk,.nil⟩
theorem VF(he:b_ (e::oG) oe=(false,bK e oe)::b_ oG oe)(h:ES G A oe T ρ σ (bK e oe) v)(hr:uz G A oe T ρ σ (eC (eF pos (b_ oG oe))) vs):uz G A oe T ρ σ (eC (eF pos (b_ (e::oG) oe))) (v::vs):=λs φ β P m I R =>
 eX (h.post I R λx ou oF oD ph oP oM=>hr.post ph oP λys oJ o4 oW rU qi pT=>⟨o4,oD.trans oW,.cons (oP.vr oW oM) pT⟩) he
theorem Vx(hs:vs.length<=100000)(h:∀pos,uz G A oe T ρ σ (eC (eF pos (b_ elts oe))) vs):ES G A oe T ρ σ (bK (.List elts pos) oe) (.lst vs):=λs φ β P m I R =>
 fI ((h pos).post I R λxs ou oF oD ph oP oM=>⟨sk (by rw[<-oM.length];exact hs),by
  refine oB (Kk (s:=ou) oP.tk oP.fresh oM) λow k r=>?_;exact⟨ow,oD.trans k.x,r⟩⟩)
theorem VC(hs:vs.length<=100000)(h:∀pos,uz G A oe T ρ σ (eC (eF pos (b_ elts oe))) vs):ES G A oe T ρ σ (bK (.Tuple elts n pos) oe) (.tup vs):=λs φ β P m I R =>
 lW ((h pos).post I R λxs ou oF oD ph oP oM=>⟨sk (by rw[<-oM.length];exact hs),by
  refine oB (Qv (s:=ou) oP.tk oP.fresh oM) λow k r=>?_;exact⟨ow,oD.trans k.x,r⟩⟩)
theorem Vw(ha:ES G A oe T ρ σ (bK a oe) x)(hb:ES G A oe T ρ σ (bK i oe) y)(e:zj σ x y=some r):
 ES G A oe T ρ σ (bK (.Subscript a i pos) oe) r:=λs φ β P m I R =>
 jp (ha.post I R λx' ou oF oD ph oP oM=>hb.post ph oP λy' oJ o4 oW rU qi pT =>
  Cg (oD.trans oW) (waj qi.tk qi.objs e (oP.vr oW oM) pT))
noncomputable def PS(G:GD)(A:br)(oe:Env)(T:Tb)(ρ:oI)(σ:oH)(t:fe Value)(v:Option Int):Prop :=
 ∀s φ β P m,pp G s.heap->ER G φ oe T ρ σ β P m s->ao (ar oj wd) A t (λx s'=>(∃o:Option (Int×kP),x=cY o/\o.map (·.1)=v)/\∃ow,GX G s φ s' ow) oE s
theorem PS.post(h:PS G A oe T ρ σ t v)(I:pp G s.heap)(R:ER G φ oe T ρ σ β P m s)(hQ:∀o s' ow,o.map (·.1)=v->GX G s φ s' ow->pp G s'.heap->ER G ow oe T ρ σ β P m s'->Q (cY o) s'):ao (ar oj wd) A t Q E s :=
 up (h s φ β P m I R) λx s' ⟨⟨o,e,e'⟩,ow,k⟩=>by subst e;exact hQ o s' ow e' k (I.go k) (R.go k I.tabs)
theorem wdI:PS G A oe T ρ σ (kZ none oe) none:=λs φ β P m I R=>aQ ⟨⟨none,rfl,rfl⟩,φ,.refl R.tk⟩
theorem wdJ(h:ES G A oe T ρ σ (bK e oe) (.int i)):PS G A oe T ρ σ (kZ (some e) oe) (some i):=λs φ β P m I R =>
 h.post I R λx ou oF oD ph oP oM=>by cases oM;exact⟨⟨some (_,_),rfl,rfl⟩,oF,oD⟩
theorem VB{a:Expr}{lo hi:Option Expr}{p pos:cq}{x r:AV}{l u:Option Int}(ha:ES G A oe T ρ σ (bK a oe) x)(hl:PS G A oe T ρ σ (kZ lo oe) l)(hu:PS G A oe T ρ σ (kZ hi oe) u)(e:B_ σ x l u=some r):ES G A oe T ρ σ (bK (.Subscript a (.Slice lo hi none p) pos) oe) r:=λs φ β P m I R =>
 jp (ha.post I R λx' ou oF oD ph oP oM=>wpAny_Slice (hl.post ph oP λwdi oJ o4 y4 oW rU qi=>hu.post rU qi λQd ro sU y5 qA Cu vB=>by
  refine oa (evalPart_none _) ?_;refine aQ ?_;subst y4 y5;have r':=qi.vr qA (oP.vr oW oM);have k:GX G s φ {ro with heap:=ro.heap.push (xj (cY wdi) (cY Qd))} sU:=((oD.trans oW).trans qA).trans (.same qA.tk pQ.push (ai _));exact up (weN vB.tk vB.objs vB.fresh e r') λv s' ⟨ow,k',q⟩=>⟨ow,((oD.trans oW).trans qA).trans k'.x,q⟩))
noncomputable def tU:Expr->Bool
 | .Starred ..=>false
 |_=>true
theorem vt(h:tU e=true):b_ (e::oG) oe=(false,bK e oe)::b_ oG oe:=by
 cases e<;>first|rfl|cases h
theorem Cb:∀{as:List Expr},as.all tU=true->(eF pos (b_ as oe)).any (·.1)=false
 | [],_=>rfl
 |e::as,h=>by
  rw[eu,aO]at h;refine oa (vt h.1) ?_;show(false||(eF pos (b_ as oe)).any (·.1))=false;refine oa (Cb h.2) ?_;rfl
theorem Kw:∀{as:List Expr},as.all tU=true->(eF pos (b_ as oe)).all (λx=>!x.1)=true
 | [],_=>rfl
 |e::as,h=>by
  rw[eu,aO]at h;refine oa (vt h.1) ?_;show(true&&(eF pos (b_ as oe)).all (λx=>!x.1))=true;refine oa (Kw h.2) ?_;rfl
theorem VR.scalar(hs:v.scalar=true)(r:VR tk φ h β P v x)(xb:∀t y,φ t y->ow t y):VR tk ow h' oO P' v x:=by
 cases r with
 |none=>exact .none
 |bool b=>exact .bool b
 |int i t=>exact .int i t
 |flt y t ht=>exact .flt y t (xb _ _ ht)
 |str y t=>exact .str y t
 |_=>cases hs
noncomputable def yK(G:GD)(x:Str)(v:Value):Prop:=G.mg x=some v\/(G.mg x=none/\G.mb x=some v)
theorem XT(h:T.isGlobal x=true)(hE:qc oe T):oe.kindOf x=some .globalImplicit/\(x==("__debug__":Str))=false:=by
 unfold Tb.isGlobal at h;rw[aO]at h;exact⟨hE.glob x (eq_of_beq h.1),(Qm h.2).1⟩
theorem wB(hE:qc oe T)(h:T.isGlobal x=true)(hl:yK G x v)(I:pp G s.heap)(hq:Q v s):
 ao (ar oj wd) A (bK (.Name x pos) oe) Q E s:=by
 refine p_ (XT h hE) λh1 h2=>?_;refine PySem.Calls.Name_function_global hE.kind h1 ?_ h2;have hg:=I.g;have hb:=I.b;rw[<-hE.g]at hg;rw[<-hE.b]at hb;rcases hl with hl|hl
 ·exact iW hg hl hq
 ·exact iL hg hl.1 hb hl.2 hq
theorem Vv(hE:qc oe T)(hG:rO G)(h:T.isGlobal x=true)(hl:Di.lookup x=some g):ES G A oe T ρ σ (bK (.Name x pos) oe) (Dh g):=by
 intro s φ β P m I R;obtain⟨v,h1,h2⟩:∃v,yK G x v/\VR G.tok φ s.heap β P (Dh g) v:=oZ (C:=λe=>∃v,yK G e.1 v/\VR G.tok φ s.heap β P (Dh e.2) v) (hG.divLimit.elim λt ht=>oV _ (.inl ht) (.int _ _))
  (oZ (hG.ntOffset.elim λt ht=>oV _ (.inl ht) (.int _ _)) (oZ (hG.endMarker.elim λt ht=>oV _ (.inl ht) (.int _ _)) (oZ ⟨_,.inl hG.tok,.tok⟩ wg))) (x,g) (mem_of_lookup hl)
 exact wB hE h h1 I ⟨φ,.refl R.tk,h2⟩
noncomputable def BR(G:GD)(A:br)(σ:oH)(f:Value)(vs:List AV)(r:AV):Prop :=
 ∀s φ β P xs,pp G s.heap->o5 φ s->qE G.tok φ s.heap β P σ->xu G s P->(∀a,P a->sY G a)->(∀a,a∈β->sY G a)->oA G.tok φ s.heap β P vs xs ->
  ao (ar oj wd) A (call f xs) (yd G φ s β P r) oE s
theorem BR.on(h:BR G A σ f vs r)(I:pp G s.heap)(R:ER G φ oe T ρ σ β P m s)(r':oA G.tok φ s.heap β P vs xs):
 ao (ar oj wd) A (call f xs) (yd G φ s β P r) oE s:=h s φ β P xs I R.tk R.objs R.freshX R.psafe (λa h=>R.bsafe a (.inl h)) r'
theorem Vn{T:Tb}{x:Str}{p pos:cq}{e:Expr}{oG:List Expr}{id:String}{vs:List AV}{r:AV}(hE:qc oe T)(hx:T.isGlobal x=true)(hl:yK G x (.builtin id))(hs:(e::oG).all tU=true)(ha:uz G A oe T ρ σ (eC (eF pos (b_ (e::oG) oe))) vs)(hb:BR G A σ (.builtin id) vs r):ES G A oe T ρ σ (bK (.Call (.Name x p) (e::oG) [] pos) oe) r:=λs φ β P m I R =>
 cx (wB hE hx hl I (by
  rw[eu,aO]at hs;exact iA (ha.post I R λxs ou oF oD ph oP oM=>x_ oD (hb.on ph oP oM)) (vt hs.1) (Cb hs.2)))
theorem Vp{T:Tb}{x:Str}{p pos:cq}{e:Expr}{oG:List Expr}{id:String}{vs:List AV}{r:AV}(hE:qc oe T)(hx:T.isGlobal x=true)(hl:yK G x (.type id))(hs:(e::oG).all tU=true)(ha:uz G A oe T ρ σ (eC (eF pos (b_ (e::oG) oe))) vs)(hb:BR G A σ (.type id) vs r):ES G A oe T ρ σ (bK (.Call (.Name x p) (e::oG) [] pos) oe) r:=λs φ β P m I R =>
 cx (wB hE hx hl I (by
  rw[eu,aO]at hs;exact df (ha.post I R λxs ou oF oD ph oP oM=>x_ oD (hb.on ph oP oM)) (vt hs.1) (Cb hs.2)))
theorem Vo(hE:qc oe T)(hx:T.isGlobal x=true)(hk:G.fns k=some (x,fd))(hs:(e::oG).all tU=true)(ha:uz G A oe T ρ σ (eC (eF pos (b_ (e::oG) oe))) vs)(hb:∀a,G.mg x=some (.ref a)->BR G A σ (.ref a) vs r):ES G A oe T ρ σ (bK (.Call (.Name x p) (e::oG) [] pos) oe) r:=λs φ β P m I R=>by
 refine Ae (I.fns k x fd hk) λa o h1 h2 h3 h4=>?_;refine cx (wB hE hx (.inl h1) I ?_);rw[eu,aO]at hs;exact i_ h3 (ha.post I R λxs ou oF oD ph oP oM=>⟨oD.ext _ _ (I.tabs.notX_data h2 λvs q=>by rw[h3]at q;cases q) h2,x_ oD ((hb a h1).on ph oP oM)⟩) (vt hs.1)
structure Cw(T:String) (name:Str) (id:String):Prop where
 pa:PlainAttrs T
 slot:Slot T name id
 ty:typeOf (.builtin id)=pure (.type "method_descriptor")
noncomputable def yJ(s:ah)(x:Value)(T:String):Prop:=s.TypeIs x T/\∀a,x=.ref a->∃ob,s.heap.get? a=some ob/\ob.dict=none
theorem Bb(h:Lw o=true):attributeBase o name oe whole=whole:=by
 induction o using bq with
 |Call f as kws p =>
  induction f using bq with
  |Name =>
   induction as using af with
   |nil=>induction kws using af with
    |nil=>exact qb h
    |cons=>rfl
   |cons=>rfl
  |_=>rfl
 |_=>rfl
theorem VA{G:GD}{o:Expr}{name:Str}{A9 pos:cq}{args:List Expr}{T' id:String}{v:AV}{vs:List AV}{r:AV}(qk:s5 o args.length A9 pos=true)(hM:Cw T' name id)(hs:args.all tU=true)(ho:ES G A oe T ρ σ (bK o oe) v)(hT:∀s φ β P x,qE G.tok φ s.heap β P σ->VR G.tok φ s.heap β P v x->pp G s.heap->yJ s x T')(ha:uz G A oe T ρ σ (eC (eF pos (b_ args oe))) vs)(hn:args=[]->vs=[])(hb:BR G A σ (.builtin id) (v::vs) r):ES G A oe T ρ σ (bK (.Call (.Attribute o name A9) args [] pos) oe) r:=λs φ β P m I R=>by
 unfold s5 at qk;rw[aO,aO]at qk;refine p_ qk λz1 h3=>?_;obtain⟨h1,h2⟩:=z1;refine dz (Bb h1) ?_ h2 (ho.post I R λx ou oF oD ph oP oM=>?_)
 ·refine oa (Kw hs) ?_;exact(eV _).trans (decide_eq_true (ab (of_decide_eq_true h3) (by decide)))
 ·refine p_ (hT ou oF β P x oP.objs oM ph) λt1 t2=>?_;refine⟨T',id,hM.pa,hM.slot,hM.ty,t1,t2,?_⟩;refine cu (Cb hs) ?_
  induction args using af with
  |nil =>
   have:=hn rfl;subst this;exact dZ (x_ oD (hb.on ph oP (.cons oM .nil)))
  |cons e oG =>
   rw[eu,aO]at hs;have AA:=ha;rw[vt hs.1]at AA ⊢;exact fV (AA.post ph oP λxs oJ o4 oW rU qi pT=>x_ (oD.trans oW) (hb.on rU qi (.cons (oP.vr oW oM) pT)))
section
variable {A:br}{oe:Env}{T:Tb}{ρ:oI}{σ:oH}{G:GD}{s:ah}{φ:Gh}{β:List aw}{P:aw->Prop}{m:Str->Option Value}{tk:aw}{h:bU}
theorem Gk{α γ:Type}{f:α->Option γ}{a:α}{as:List α}{bs:List γ}(e:pq f (a::as)=some bs):∃b cs,bs=b::cs/\f a=some b/\pq f as=some cs:=by
 rw[uv]at e
 induction hb:f a using aa with
 |none=>rw[hb]at e;exact oq e
 |some b =>
  induction hc:pq f as using aa with
  |none=>rw[hb,hc]at e;exact oq e
  |some cs=>rw[hb,hc]at e;exact zk b cs ((ag e).symm) rfl rfl
theorem PM{f:AV->Option AV}{ks:List Int}:∀{vs:List AV}{es:List (Int×AV)},ks.length=vs.length->pq (λe:Int×AV=>(f e.2).map (e.1,·)) (ks.zip vs)=some es->∃us,es=ks.zip us/\pq f vs=some us:=by
 induction ks with
 |nil=>exact λ{vs es} hl e=>oV [] ((ag e).symm) (by refine oa (bC.mp hl.symm) ?_;rfl)
 |cons k ks ih =>
  intro vs es hl e
  induction vs using af with
  |nil=>exact nomatch hl
  |cons v vs =>
   refine qe (Gk e) λb cs e1 h1 h2=>?_;refine oB (aK.mp h1) λu hu e2=>?_;refine oB (ih (bD hl) h2) λus e3 h3=>?_;exact oV (u::us) (by refine oa e1 ?_;refine rwj e2 ?_;refine oa e3 ?_;rfl) (by rewrite [uv];refine oa hu ?_;refine oa h3 ?_;rfl)
theorem PK{α γ:Type}{f:α->Option γ}{as:List α}:∀{bs:List γ},pq f as=some bs->as.length=bs.length:=by
 induction as with
 |nil=>exact λe=>ag e▸rfl
 |cons a as ih=>exact λe=>by refine qe (Gk e) ?_;rintro b cs rfl _ h;exact congrArg (·+1) (ih h)
section
variable {P':aw->Prop}
theorem BC{f:AV->Option AV}(hf:∀{v v':AV}{x:Value},f v=some v'->VR tk φ h β P v x->VR tk φ h [] P' v' x){vs q_:List AV}{xs:List Value}(e:pq f vs=some q_)(r:oA tk φ h β P vs xs):oA tk φ h [] P' q_ xs :=
 r.ind (motive:=λvs xs=>∀q_,pq f vs=some q_->oA tk φ h [] P' q_ xs) (λq_ e=>ag e▸.nil) (λra Y ih q_ e=>by
  refine qe (Gk e) λb cs e1 h1 h2=>?_;exact e1▸.cons (hf h1 ra) (ih cs h2)) q_ e
theorem XE{f:AV->Option AV}{o:AO}{a:aw}{v':AV}(hf:∀{v v':AV}{x:Value},f v=some v'->VR tk φ h β P v x->VR tk φ h [] P' v' x)(hp:P' a)(e:(match some o with
 |some (.list vs)=>(pq f vs).map AV.lst
 |some (.dict es)=>(pq (λe=>(f e.2).map (e.1,·)) es).map .dct
 |_=>none)=some v') (r:OR tk φ h β P o a):VR tk φ h [] P' v' (.ref a):=by
 cases r with
 |list e' r' =>
  refine oB (aK.mp e) λws hw e=>?_;exact e▸.lst e' hp (BC hf hw r')
 |dict e' hl r' =>
  refine oB (aK.mp e) λws hw e=>?_;refine oB (PM hl hw) λzs e2 hz=>?_;exact e▸e2▸.dct e' hp (hl.trans (PK hz)) (BC hf hz r')
theorem Iu(O:qE tk φ h β P σ)(hP:∀a,P a->P' a)(hB:∀(i:Nat) (a:aw),σ[i]?.isSome=true->β[i]?=some a->P' a)(n:Nat):∀{v v':AV}{x:Value},o8 σ n v=some v'->VR tk φ h β P v x->VR tk φ h [] P' v' x:=by
 induction n with
 |zero=>exact λe=>oq e
 |succ n ih =>
  intro v v' x e r
  induction v using AV.casesOn with
  |none=>exact ag e▸r.e_none .none
  |bool b=>exact ag e▸r.e_bool (.bool b)
  |int i=>exact ag e▸r.e_int λt=>.int i t
  |flt y=>exact ag e▸r.e_flt λt ht=>.flt y t ht
  |str y=>exact ag e▸r.e_str λt=>.str y t
  |tok=>exact ag e▸r.e_tok .tok
  |tup vs =>
   refine oB (aK.mp (show(pq (o8 σ n) vs).map .tup=some v' from e)) λus hu e=>?_;exact e▸r.e_tup λa xs e' p r=>.tup e' (hP _ p) (BC ih hu r)
  |lst vs =>
   refine oB (aK.mp (show(pq (o8 σ n) vs).map .lst=some v' from e)) λus hu e=>?_;exact e▸r.e_lst λa xs e' p r=>.lst e' (hP _ p) (BC ih hu r)
  |dct es =>
   refine oB (aK.mp (show(pq (λe:Int×AV=>(o8 σ n e.2).map (e.1,·)) es).map .dct=some v' from e)) λus hu e=>?_;refine e▸r.e_dct λa ks vs xs Ap hl e' p r=>?_;rw[Ap]at hu;refine oB (PM hl hu) λws e2 hw=>?_;exact e2▸.dct e' (hP _ p) (hl.trans (PK hw)) (BC ih hw r)
  |ref i =>
   refine r.e_ref λa hb=>?_;rw[Iv]at e
   induction hi:σ[i]? using aa with
   |none=>rw[hi]at e;exact oq e
   |some o =>
    rw[hi]at e;have hg:o≠.gone:=λq=>by rw[q]at e;exact oq e
    refine oB (O i _ hi hg) λa' h1 h2=>?_;refine oa (ag (hb.symm.trans h1)) ?_;exact XE ih (hB i a' (by refine oa hi ?_;rfl) h1) e h2
theorem NB(O:qE tk φ h β P σ)(hP:∀a,P a->P' a)(hB:∀(i:Nat) (a:aw),σ[i]?.isSome=true->β[i]?=some a->P' a)(n:Nat){vs q_:List AV}{xs:List Value}(e:pq (o8 σ n) vs=some q_)(r:oA tk φ h β P vs xs):oA tk φ h [] P' q_ xs :=
 BC (Iu O hP hB n) e r
end
theorem qE.nil:qE tk φ h β P []:=λi o e=>nomatch e
theorem VR.anyβ{v:AV}{x:Value}(r:VR tk φ h [] P v x):VR tk φ h β P v x:=r.mono (λY Y e=>e) (λY Y p e=>⟨e,p⟩) (List.nil_prefix)
noncomputable def xq(G:GD)(A:br)(f:Value)(vs:List AV)(r:AV):Prop :=
 ∀s φ P xs,pp G s.heap->o5 φ s->xu G s P->(∀a,P a->sY G a)->oA G.tok φ s.heap [] P vs xs ->
  ao (ar oj wd) A (call f xs) (yd G φ s [] P r) oE s
noncomputable def EB(G:GD)(A:br)(Φ:rd):Prop :=
 ∀k vs r,Φ k vs=some r->∃x fd,G.fns k=some (x,fd)/\∀a,G.mg x=some (.ref a)->xq G A (.ref a) vs r
theorem SQ{Φ:rd}{k:Nat}{vs:List AV}{r:AV}(hΦ:EB G A Φ)(e:zW Φ σ k vs=some r):∃x fd,G.fns k=some (x,fd)/\∀a,G.mg x=some (.ref a)->BR G A σ (.ref a) vs r:=by
 unfold zW at e
 induction hb:pq (o8 [] 6) vs using aa with
 |some bs =>
  rw[hb]at e;refine pK (hΦ k bs r e) λx fd h1 h2=>?_;exact rf x fd h1 (λa ha s φ β P xs I K O F hp vP r'=>up (h2 a ha s φ P xs I K F hp (NB (qE.nil (β:=β) (P:=P)) (λa p=>p) (λi a e=>by simp at e) 6 hb r')) λv s' ⟨ow,k',q⟩=>⟨ow,k',q.anyβ⟩)
 |none =>
  rw[hb]at e;clear hb
  induction hb:pq (o8 σ 6) vs using aa with
  |none=>rw[hb]at e;exact oq e
  |some bs =>
   rw[hb]at e;dsimp only at e
   induction hr:Φ k bs using aa with
   |none=>rw[hr]at e;exact oq e
   |some r' =>
    rw[hr]at e;refine qd e λhs e=>?_;rw[ag e]at hs hr;refine pK (hΦ k bs r hr) λx fd h1 h2=>?_;exact rf x fd h1 (λa ha s φ β P xs I K O F hp vP r'=>up (h2 a ha s φ (λa=>P a\/a∈β) xs I K (λa e=>.inl (F a e)) (λa e=>e.elim (hp a) (vP a)) (NB (P':=λa=>P a\/a∈β) O (λa p=>.inl p) (λi a Y e=>.inr (aY e)) 6 hb r'))
     λv s' ⟨ow,k',q⟩=>⟨ow,k',q.scalar hs λY Y e=>e⟩)
inductive EA(G:GD) (A:br) (σ:oH) (x:Str) (vs:List AV) (r:AV):Prop
 |builtin (id:String) (hl:yK G x (.builtin id)) (h:BR G A σ (.builtin id) vs r)
 |type (id:String) (hl:yK G x (.type id)) (h:BR G A σ (.type id) vs r)
 |def_ (k:Nat) (fd:cg) (hk:G.fns k=some (x,fd)) (h:∀a,G.mg x=some (.ref a)->BR G A σ (.ref a) vs r)
noncomputable def ui(G:GD):Prop:=∀x k y fd,t_.lookup x=some (.user k)->G.fns k=some (y,fd)->y=x
noncomputable def Nb:Fn->Str->Bool
 | .range,x=>x==("range":Str)
 | .len,x=>x==("len":Str)
 | .sum,x=>x==("sum":Str)
 | .max,x=>x==("max":Str)
 | .min,x=>x==("min":Str)
 | .ord,x=>x==("ord":Str)
 | .chr,x=>x==("chr":Str)
 | .int,x=>x==("int":Str)
 | .divmod,x=>x==("divmod":Str)
 | .reversed,_=>true
 | .user _,_=>true
 |_,_=>false
theorem Wz{x:Str}{f:Fn}(h:t_.lookup x=some f):Nb f x=true :=
 aj.mp (show t_.all (λe=>Nb e.2 e.1)=true by decide +kernel) _ (mem_of_lookup h)
theorem EA.bi{x:Str}{vs:List AV}{r:AV}{y:String}(hG:rO G)(hy:y∈(["len","sum","max","min","ord","chr","divmod","isinstance"]:List String)) (hx:(x==cM y)=true)
 (h:∀s φ β P xs,pp G s.heap->o5 φ s->qE G.tok φ s.heap β P σ->xu G s P->(∀a,P a->sY G a)->oA G.tok φ s.heap β P vs xs->ao (ar oj wd) A (call (.builtin y) xs) (oR G.tok φ s β P r) oE s):EA G A σ x vs r :=
 .builtin y (eq_of_beq hx▸.inr (hG.builtins y hy)) λs φ β P xs I K O F hp Y r'=>up (h s φ β P xs I K O F hp r') λY Y q=>q.x
theorem Tu{Φ:rd}{x:Str}{f:Fn}{vs:List AV}{r:AV}(hA:A.handled=none)(hG:rO G)(hN:ui G)(hΦ:EB G A Φ)(hx:t_.lookup x=some f)(e:zY Φ σ f vs=some r):EA G A σ x vs r:=by
 have hn:=Wz hx
 induction f using Fn.casesOn with
 |len=>exact .bi hG (by simp) hn λs φ β P xs I K O F hp r'=>Tj K O (λa p=>(hp a p).1) e r'
 |sum=>exact .bi hG (by simp) hn λs φ β P xs I K O F hp r'=>Tt hA K O e r'
 |max=>exact .bi hG (by simp) hn λs φ β P xs I K O F hp r'=>Tl hA K O e r'
 |min=>exact .bi hG (by simp) hn λs φ β P xs I K O F hp r'=>Tn hA K e r'
 |ord=>exact .bi hG (by simp) hn λs φ β P xs I K O F hp r'=>Tq K e r'
 |chr=>exact .bi hG (by simp) hn λs φ β P xs I K O F hp r'=>S1 K e r'
 |divmod=>exact .bi hG (by simp) hn λs φ β P xs I K O F hp r'=>S4 K F.f e r'
 |int=>exact .type "int" (eq_of_beq (show(x==cM "int")=true from hn)▸.inr (hG.types "int" (by simp))) λs φ β P xs I K O F hp hb r'=>up (Ta K e r') λY Y q=>q.x
 |user k =>
  refine pK (SQ hΦ e) λy fd h1 h2=>?_;exact .def_ k fd (hN x k y fd hx h1▸h1) (hN x k y fd hx h1▸h2)
 |range=>exact oq e
 |reversed=>exact oq e
 |_=>exact qb hn
end
theorem ZI(r:VR tk φ h β P (.str cs) x):yJ s x "str" := r.e_str λY=>⟨fC _ _ _,λY e=>nomatch e⟩
theorem ZH(r:VR tk φ h β P (.int i) x):yJ s x "int" := r.e_int λY=>⟨nw _ _ _,λY e=>nomatch e⟩
theorem Jp(O:qE tk φ s.heap β P σ)(e:oX σ v=some vs)(r:VR tk φ s.heap β P v x):yJ s x "list" := by
 refine qe (JP O e r) ?_;rintro a xs rfl h1 h2;refine⟨h1.isList.typeIs,λb e=>?_⟩;cases e;refine o6 h1 λn ho=>?_;exact oV _ ho rfl
theorem OQ(O:qE tk φ s.heap β P σ)(e:ul σ v=some es)(r:VR tk φ s.heap β P v x):yJ s x "dict" := by
 refine C5 (HF O e r) ?_;rintro a ks vs xs rfl _ _ h1 _;refine⟨h1.mapOf.typeIs,h1.mapOf.noDict⟩
theorem ZJ(I:pp G s.heap)(r:VR G.tok φ h β P .tok x):yJ s x "dict" := by
 refine oB I.tok λf hm Y=>?_;exact r.e_tok ⟨hm.typeIs,hm.noDict⟩
noncomputable def HT(G:GD)(σ:oH)(v:AV)(T':String):Prop:=∀s φ β P x,qE G.tok φ s.heap β P σ->VR G.tok φ s.heap β P v x->pp G s.heap->yJ s x T'
theorem HT.str:HT G σ (.str cs) "str" := λY Y Y Y Y Y r Y=>ZI r
theorem HT.list(e:oX σ v=some vs):HT G σ v "list" := λY Y Y Y Y O r Y=>Jp O e r
theorem S9(e:zV σ (v::vs)=some r):(HT G σ v "str" /\ ∀s φ β P xs,o5 φ s->oA G.tok φ s.heap β P (v::vs) xs->ao (ar oj wd) A (call (.builtin "str.index") xs) (oR G.tok φ s β P r) oE s) \/
 (HT G σ v "list" /\ ∀s φ β P xs,o5 φ s->qE G.tok φ s.heap β P σ->oA G.tok φ s.heap β P (v::vs) xs->ao (ar oj wd) A (call (.builtin "list.index") xs) (oR G.tok φ s β P r) oE s):=by
 generalize hq:v::vs=as at e ⊢;revert hq;refine S8 (C:=λas r=>v::vs=as->(HT G σ v "str" /\ ∀s φ β P xs,o5 φ s->oA G.tok φ s.heap β P as xs->ao (ar oj wd) A (call (.builtin "str.index") xs) (oR G.tok φ s β P r) oE s) \/
  (HT G σ v "list" /\ ∀s φ β P xs,o5 φ s->qE G.tok φ s.heap β P σ->oA G.tok φ s.heap β P as xs->ao (ar oj wd) A (call (.builtin "list.index") xs) (oR G.tok φ s β P r) oE s)) ?_ ?_ e
 ·intro x y k oG ho q;injection q with q
  subst q;exact .inl ⟨.str,λs φ β P xs K ra=>ra.e2 λa b r1 r3=>r1.e_str λt=>r3.e_str λu=>wfm K ho⟩
 ·intro l i vs is k hl sS hk o3 q;injection q with q
  refine .inr ⟨q▸.list hl,λs φ β P xs K O ra=>ra.e2 λa b r1 r3=>r3.e_int λu=>?_⟩;refine qe (te O hl r1) ?_;rintro a xs rfl h1 h2;exact wbu K h1 (CH sS h2) hk o3
theorem S2(K:o5 φ s)(O:qE tk φ s.heap β P σ)(e:Bh σ as=some r)(ra:oA tk φ s.heap β P as xs):
 ao (ar oj wd) A (call (.builtin "list.count") xs) (oR tk φ s β P r) oE s :=
 LL (C:=λas r=>∀{xs:List Value},oA tk φ s.heap β P as xs->ao (ar oj wd) A (call (.builtin "list.count") xs) (oR tk φ s β P r) oE s) (λl i vs is hl sS xs ra=>ra.e2 λa b r1 r3=>r3.e_int λu=>by
  refine qe (te O hl r1) ?_;rintro a xs rfl h1 h2;exact wbt K h1 (CH sS h2)) e ra
theorem S5(K:o5 φ s)(e:yR as=some r)(ra:oA tk φ s.heap β P as xs):
 ao (ar oj wd) A (call (.builtin "str.find") xs) (oR tk φ s β P r) oE s :=
 LM (C:=λas r=>∀{xs:List Value},oA tk φ s.heap β P as xs->ao (ar oj wd) A (call (.builtin "str.find") xs) (oR tk φ s β P r) oE s) (λx y xs ra=>ra.e2 λa b r1 r3=>r1.e_str λt=>r3.e_str λu=>wfl K) e ra
theorem S6(I:pp G s.heap)(K:o5 φ s)(O:qE G.tok φ s.heap β P σ)(vP:∀a,a∈β->(a==bN)=false)(e:EZ σ as=some r)(ra:oA G.tok φ s.heap β P as xs):
 ao (ar oj wd) A (call (.builtin "dict.get") xs) (oR G.tok φ s β P r) oE s:=by
 refine LN (C:=λas r=>∀{xs:List Value},oA G.tok φ s.heap β P as xs->ao (ar oj wd) A (call (.builtin "dict.get") xs) (oR G.tok φ s β P r) oE s) ?_ ?_ e ra
 ·exact λx d xs ra=>ra.e3 λa b c r1 r3 r5=>r1.e_tok (r3.e_str λt=>wgf K I r5)
 ·refine λj k d es hd xs ra=>ra.e3 λa b c r1 r3 r5=>r3.e_int λt=>?_;refine C5 (HF O hd r1) ?_;rintro a' ks vs xs N_ rfl hl h1 h2;refine oB r1.inv λa2 e2 hb=>?_;cases N_.symm.trans e2;exact N_▸UP K h1 (vP _ (aY hb)) h2 r5
noncomputable def PJ:Fn->Option Str
 | .bitLength=>some "bit_length"
 | .index=>some "index"
 | .find=>some "find"
 | .join=>some "join"
 | .split=>some "split"
 | .count=>some "count"
 | .get=>some "get"
 |_=>none
theorem wbK(h:vq.lookup x=some f):PJ f=some x :=
 eq_of_beq (aj.mp (show vq.all (λe=>PJ e.2==some e.1)=true by decide +kernel) _ (mem_of_lookup h))
noncomputable def uC(G:GD)(A:br)(σ:oH)(name:Str)(v:AV)(vs:List AV)(r:AV):Prop:=∃T' id,Cw T' name id/\HT G σ v T'/\BR G A σ (.builtin id) (v::vs) r
theorem wbL(e:EY (v::vs)=some r):uC G A σ "bit_length" v vs r :=
 ⟨"int","int.bit_length",⟨PySem.F.plainAttrs_int,slot_int_bit_length,type_int_bit_length⟩,LK (C:=λas Y=>∀v vs,v::vs=as->HT G σ v "int") (λi v vs q=>by injection q with q;exact q▸λY Y Y Y Y Y r Y=>ZH r) e v vs rfl,λs φ β P xs I K O F hp hb r'=>up (SY K e r') λY Y q=>q.x⟩
theorem wbP(e:zV σ (v::vs)=some r):uC G A σ "index" v vs r:=by
 rcases S9 (G:=G) (A:=A) e with⟨h1,h2⟩|⟨h1,h2⟩
 ·exact⟨"str","str.index",⟨dV,km,PySem.F.type_str_index⟩,h1,λs φ β P xs I K O F hp hb r'=>up (h2 s φ β P xs K r') λY Y q=>q.x⟩
 ·exact⟨"list","list.index",⟨eU,j3,PySem.F.type_list_index⟩,h1,λs φ β P xs I K O F hp hb r'=>up (h2 s φ β P xs K O r') λY Y q=>q.x⟩
theorem wbN(e:yR (v::vs)=some r):uC G A σ "find" v vs r :=
 ⟨"str","str.find",⟨dV,kG,PySem.F.type_str_find⟩,LM (C:=λas Y=>∀v vs,v::vs=as->HT G σ v "str") (λx y v vs q=>by injection q with q;exact q▸.str) e v vs rfl,λs φ β P xs I K O F hp hb r'=>up (S5 K e r') λY Y q=>q.x⟩
theorem wbQ(e:E2 σ (v::vs)=some r):uC G A σ "join" v vs r :=
 ⟨"str","str.join",⟨dV,kF,PySem.F.type_str_join⟩,LO (C:=λas Y=>∀v vs,v::vs=as->HT G σ v "str") (λl ws xs Y Y Y v vs q=>by injection q with q;exact q▸.str) e v vs rfl,λs φ β P xs I K O F hp hb r'=>up (Tg K O e r') λY Y q=>q.x⟩
theorem wbR(e:CQ (v::vs)=some r):uC G A σ "split" v vs r :=
 ⟨"str","str.split",⟨dV,kj,PySem.F.type_str_split⟩,LP (C:=λas Y=>∀v vs,v::vs=as->HT G σ v "str") (λx Y v vs q=>by injection q with q;exact q▸.str) e v vs rfl,λs φ β P xs I K O F hp hb r'=>up (Tr K F.f e r') λY Y q=>q.x⟩
theorem wbM(e:Bh σ (v::vs)=some r):uC G A σ "count" v vs r :=
 ⟨"list","list.count",⟨eU,j4,PySem.F.type_list_count⟩,LL (C:=λas Y=>∀v vs,v::vs=as->HT G σ v "list") (λl i ws is hl Y v vs q=>by injection q with q;exact q▸.list hl) e v vs rfl,λs φ β P xs I K O F hp hb r'=>up (S2 K O e r') λY Y q=>q.x⟩
theorem wbO(e:EZ σ (v::vs)=some r):uC G A σ "get" v vs r :=
 ⟨"dict","dict.get",⟨gN,d0,kE⟩,LN (C:=λas Y=>∀v vs,v::vs=as->HT G σ v "dict") (λx d v vs q=>by injection q with q;exact q▸λY Y Y Y Y Y r I=>ZJ I r)
  (λj k d es hd v vs q=>by injection q with q;exact q▸λY Y Y Y Y O r Y=>OQ O hd r) e v vs rfl,λs φ β P xs I K O F hp hb r'=>up (S6 I K O (λa h=>(hb a h).1) e r') λY Y q=>q.x⟩
theorem wcj(hA:A.handled=none)(hl:vq.lookup name=some f)(e:zY Φ σ f (v::vs)=some r):
 ∃T' id,Cw T' name id/\(∀s φ β P x,qE G.tok φ s.heap β P σ->VR G.tok φ s.heap β P v x->pp G s.heap->yJ s x T')/\BR G A σ (.builtin id) (v::vs) r:=by
 have hn:=wbK hl;show uC G A σ name v vs r;clear hl
 induction f using Fn.casesOn with
 |bitLength=>exact oN (Q:=λn=>uC G A σ n v vs r) hn (wbL e)
 |index=>exact oN (Q:=λn=>uC G A σ n v vs r) hn (wbP e)
 |find=>exact oN (Q:=λn=>uC G A σ n v vs r) hn (wbN e)
 |join=>exact oN (Q:=λn=>uC G A σ n v vs r) hn (wbQ e)
 |split=>exact oN (Q:=λn=>uC G A σ n v vs r) hn (wbR e)
 |count=>exact oN (Q:=λn=>uC G A σ n v vs r) hn (wbM e)
 |get=>exact oN (Q:=λn=>uC G A σ n v vs r) hn (wbO e)
 |_=>exact P1 hn.symm
theorem Mr(hE:qc oe T)(hG:rO G)(hf:T.isGlobal ("isinstance":Str)=true) (ht:T.isGlobal t=true) (hl:yK G t (.type ty)) (hs:tU e=true) (he:ES G A oe T ρ σ (bK e oe) v) (hc:∀s φ β P x,o5 φ s->VR G.tok φ s.heap β P v x->ao (ar oj wd) A (call (.builtin "isinstance") [x,.type ty]) (oR G.tok φ s β P r) oE s):
 ES G A oe T ρ σ (bK (.Call (.Name ("isinstance":Str) p) [e,.Name t tp] [] pos) oe) r:=λs φ β P m I R =>
 cx (wB hE hf (.inr (hG.builtins "isinstance" (by simp))) I (iA
  (eX (he.post I R λx ou oF oD ph oP oM=>eX (wB hE ht hl ph (fT (Cg oD (hc ou oF β P x oP.tk oM)))) rfl) (vt hs)) (vt hs) rfl))
theorem Vz(hA:A.handled=none)(hE:qc oe T)(hG:rO G)(hf:T.isGlobal ("list":Str)=true) (qk:s5 d 0 ap mp=true) (o3:es.length<=100000) (he:ES G A oe T ρ σ (bK d oe) (.dct es)):
 ES G A oe T ρ σ (bK (.Call (.Name ("list":Str) p) [.Call (.Attribute d ("values":Str) ap) [] [] mp] [] pos) oe) (.lst (es.map (·.2))):=λs φ β P m I R=>by
 refine cx (wB hE hf (.inr (hG.types "list" (by simp))) I (df (eX ?_ rfl) rfl rfl));unfold s5 at qk;rw[aO,aO]at qk;refine p_ qk λz1 h3=>?_;obtain⟨h1,h2⟩:=z1;refine dz (Bb h1) rfl h2 (he.post I R λx ou oF oD ph oP oM=>?_);have:=OQ oP.objs (show ul σ (.dct es)=some es from rfl) oM;refine⟨"dict","dict.values",gN,jX,PySem.F.type_dict_values,this.1,this.2,?_⟩;refine cu rfl (dZ ?_);exact up (wbx hA oP.tk oP.fresh oP.psys o3 oM) λv oJ qI=>fT (up qI λv' ro ⟨ow,k',r'⟩=>⟨ow,oD.trans k'.x,r'⟩)
theorem HI(hE:qc oe T)(hG:rO G)(hf:T.isGlobal ("range":Str)=true) (hs:(e::bs).all tU=true) (ha:uz G A oe T ρ σ (eC (eF pos (b_ (e::bs) oe))) vs) (he:zA vs=some is) (I:pp G s.heap) (R:ER G φ oe T ρ σ β P m s) (hQ:∀v s' ow,GX G s φ s' ow->A5 s' is v->Q v s'):ao (ar oj wd) A (bK (.Call (.Name ("range":Str) p) (e::bs) [] pos) oe) Q E s:=by
 refine cx (wB hE hf (.inr (hG.types "range" (by simp))) I ?_);rw[eu,aO]at hs;exact df (ha.post I R λxs ou oF oD ph oP oM=>up (Qr oP.tk he oM) λv oJ qq=>p_ qq λoW rr=>hQ v oJ oF (oD.trans oW.x) rr) (vt hs.1) (Cb hs.2)
theorem Vy(hA:A.handled=none)(hE:qc oe T)(hG:rO G)(hl:T.isGlobal ("list":Str)=true) (hf:T.isGlobal ("range":Str)=true) (hs:(e::bs).all tU=true) (ha:∀pos,uz G A oe T ρ σ (eC (eF pos (b_ (e::bs) oe))) vs) (he:zA vs=some is):
 ES G A oe T ρ σ (bK (.Call (.Name ("list":Str) p) [.Call (.Name ("range":Str) rp) (e::bs) [] rpos] [] pos) oe) (.lst (is.map .int)):=λs φ β P m I R =>
 cx (wB hE hl (.inr (hG.types "list" (by simp))) I (df (eX
  (HI hE hG hf hs (ha _) he I R λv ou oF oD rr=>fT (Cg oD (PD hA oD.tk (R.freshX.go oD I.tabs).f rr))) rfl) rfl rfl))
set_option tactic.hygienic true in
theorem Vu(hx:x.scalar=true)(hk:ES G A oe T ρ σ (bK k oe) (.int i))(hv:ES G A oe T ρ σ (bK v oe) x):
 ES G A oe T ρ σ (bK (.Dict [some k] [v] pos) oe) (.dct [(i,x)]):=λs φ β P m I R=>by
 refine sG (wpAny_Dict_pairs (knd:=bZ oj wd) (pairs:=[(bK k oe,do let x <-bK v oe;jd pos;pure x)]) rfl (by simp) (by simp) ?_);have Gf:GX G s φ {s with heap:=s.heap.push {cls:=.type "dict",data:=.dict #[]}} φ:=.same R.tk pQ.push (ai _);refine evalPairs_cons (hk.post (I.go Gf) (R.go Gf I.tabs) λkx ou oF oD ph oP oM=>an (hv.post ph oP λvx oJ o4 oW rU qi pT=>an (cT (aQ (evalPairs_nil ?_)))));cases oM;rename_i t;have hD:=bx (o:={cls:=.type "dict",data:=.dict #[]}) s.heap rfl;have I_:¬G.X s.heap.objs.size:=(I.go Gf).tabs.notX_data hD λvs q=>nomatch q;have X9:=(oD.trans oW).ext _ _ I_ hD;refine xV [(i,vx)] ⟨gX _ _ _ _,rfl,trivial⟩ ?_ (λh' hm zh up=>?_)
 ·refine DictOf.at (h:=s.heap.push {cls:=.type "dict",data:=.dict #[]}) ?_ λo ho=>(oD.trans oW).ext _ _ I_ ho;exact i5 ..
 ·have kk:=(Gf.trans oD).trans oW;refine⟨o4,kk.then_but I.tabs (ai _) (λb o hb e=>zh.extBut b o hb e) (rU.tabs.noHas X9 λvs q=>nomatch q) I_ (bd zh.1.symm) (aV _ _),?_⟩;have hr:VR G.tok o4 h' β P x vx:=pT.scalar hx λY Y e=>e;exact .dct (ks:=[i]) (vs:=[x]) (xs:=[vx]) hm (R.fresh _ (ai _)) rfl (.cons hr .nil)
theorem OR.mono{G:GD}{h h':bU}(xb:∀t x,φ t x->ow t x)(hk:∀a o,P a->h.get? a=some o->h'.get? a=some o/\P' a)(hb:β <+: oO)(ha:∀o,h.get? a=some o->h'.get? a=some o)(r:OR G.tok φ h β P o a):
 OR G.tok ow h' oO P' o a:=by
 cases r with
 |list e r=>exact .list (e.at ha) (r.mono xb hk hb)
 |dict e hl r=>exact .dict (DictOf.at e ha) hl (r.mono xb hk hb)
structure yI(oe:Env) (T:Tb) (β:List aw) (P:aw->Prop):Prop where
 ploc:¬P oe.locals
 bloc:oe.locals∉β
 own:∀x,T.names.lookup x=some .cell->∃c,oe.cells.lookup x=some c/\¬P c/\c∉β
theorem CR{h:bU}(hn:h.Ns a m)(hc:h.IsCell c v):a≠c:=by
 rintro rfl;refine wW hn λo es ep ho hd Y=>?_;refine oB hc λo' w0 yq=>?_;rw[ho]at w0;cases w0;rw[hd]at yq;cases yq
set_option tactic.hygienic true in
theorem whf{T:Tb}(hx:T.var x=some i):T.names.lookup x=some .local\/T.names.lookup x=some .cell\/T.names.lookup x=some .free:=by
 unfold Tb.var at hx;split at hx
 ·rename_i e;exact .inl e
 ·rename_i e;exact .inr (.inl e)
 ·rename_i e;exact .inr (.inr e)
 ·cases hx
set_option tactic.hygienic true in
theorem weG{ρ:oI}(e:(ρ.set i (some v))[j]?=some (some u)):(i=j/\u=v)\/(i≠j/\ρ[j]?=some (some u)):=by
 rw[dm]at e;split at e
 ·rename_i s0;split at e
  ·cases e;exact .inl ⟨s0,rfl⟩
  ·cases e
 ·rename_i s0;exact .inr ⟨s0,e⟩
theorem ER.stored{oe:Env}{T:Tb}{ρ:oI}{G:GD}{s:ah}{h':bU}(hT:wc T)(hx:T.var x=some i)(R:ER G φ oe T ρ σ β P m s)(r:VR G.tok φ s.heap β P v xv)(hP:¬P uZ)(DF:uZ∉β)(hs:bF uZ s.heap h')(ht:s.toks<=t)(TB:pJ G s.heap)(hX:¬G.X uZ)(vh:h'.Ns oe.locals m')(Yt:∀y c rq,oe.cells.lookup y=some c->s.heap.IsCell c rq->∃AW,h'.IsCell c AW)(Y5:zP oe m' h' x xv)(Zh:∀y v',y≠x->zP oe m s.heap y v'->zP oe m' h' y v'):
 ER G φ oe T (ρ.set i (some v)) σ β P m' {s with heap:=h',toks:=t}:=by
 have hk:∀a o,P a->s.heap.get? a=some o->h'.get? a=some o/\P a:=λa o p e=>⟨hs.extBut a o (λq=>hP (q▸p)) e,p⟩
 refine⟨vh,by refine oa dM ?_;exact R.len,λy j u hy hj=>?_,λy hy=>?_,λj o hj ho=>?_,λa ha=>R.freshX a (ha.imp (λha=>?_) ((TB.but (λb o hb e=>hs.extBut b o hb e) hX λq=>hP (R.freshX uZ (.inr q))).2 a)),R.psafe,R.bsafe,λa ha=>show a<h'.objs.size from(show h'.objs.size=s.heap.objs.size from hs.1)▸R.blt a ha,R.tk.fn,R.tk.pos,λt' y e=>ab (R.tk.lt t' y e) ht,ab R.tk.one ht⟩
 ·rcases weG hj with⟨s0,rfl⟩|⟨s0,hj⟩
  ·subst s0;have:=hT.inj _ _ _ hx hy;subst this;exact oV xv (r.mono (λY Y e=>e) hk (aB _)) Y5
  ·refine oB (R.names y j u hy hj) λv' a b=>?_;refine oV v' (a.mono (λY Y e=>e) hk (aB _)) (Zh y v' (λq=>s0 ?_) b);subst q;rw[hx]at hy;exact ag hy
 ·refine pK (R.celled y hy) λc rq h1 h2=>?_;refine o6 (Yt y c rq h1 h2) λAW h3=>?_;exact rf c AW h1 h3
 ·refine oB (R.objs j o hj ho) λa h1 h2=>?_;exact oV a h1 (h2.mono (λY Y e=>e) hk (aB _) λo e=>hs.extBut a o (λq=>DF (q▸aY h1)) e)
 ·have:h'.objs.size=s.heap.objs.size:=hs.1;refine rwj this ?_;exact ha
theorem QL(TB:pJ G s.heap)(hE:qc oe T)(hT:wc T)(hx:T.var x=some i)(hk:T.names.lookup x=some .local\/T.names.lookup x=some .cell)(R:ER G φ oe T ρ σ β P m s)(FO:yI oe T β P)(r:VR G.tok φ s.heap β P v xv)(hQ:∀h' t m' uZ,(uZ=oe.locals\/(oe.cells.lookup x=some uZ/\T.names.lookup x=some .cell))->bF uZ s.heap h'->s.toks<=t->ER G φ oe T (ρ.set i (some v)) σ β P m' {s with heap:=h',toks:=t}->(pJ G h'/\∀c,pZ G h' c->pZ G s.heap c)->Q () {s with heap:=h',toks:=t}):
 ao (ar oj wd) A (ge oe x xv) Q E s:=by
 rcases hk with hk|hk
 ·have As:=hE.loc x hk;refine mD As R.ns (λh' vT sq=>?_) (by refine oa hE.kind ?_;rfl);have NY:¬G.X oe.locals:=(R.bsafe _ (.inr (.inl rfl))).2;refine hQ h' _ _ oe.locals (.inl rfl) sq (bw _) (R.stored hT hx r FO.ploc FO.bloc sq (bw _) TB NY vT (λy c rq h1 h2=>⟨rq,h2.sameBut sq (io (CR R.ns h2))⟩) (.inl ⟨As,by simp⟩) λy v' hy n=>?_) (TB.but (λb o hb e=>sq.extBut b o hb e) NY λq=>FO.ploc (R.freshX _ (.inr q)));rcases n with⟨a,b⟩|⟨c,a,b,d⟩
  ·exact .inl ⟨a,by simp[hy,b]⟩
  ·exact .inr ⟨c,a,b,d.sameBut sq (io (CR R.ns d))⟩
 ·have As:=hE.cel x hk;refine s9 (FO.own x hk) λc h1 h2 h3=>?_;refine pK (R.celled x (by unfold Tb.celled;refine oa hk ?_;rfl)) λc' rq h4 h5=>?_;rw[h1]at h4;cases h4;refine mQ hE.kind As h1 h5 λh' uu sq=>?_;have NX:¬G.X c:=(R.bsafe _ (.inr (.inr ⟨x,h1⟩))).2;refine hQ h' s.toks m c (.inr ⟨h1,hk⟩) sq (ai _) (R.stored hT hx r h2 h3 sq (ai _) TB NX (R.ns.sameBut sq (CR R.ns h5)) (λy uH AW e1 e2=>?_) (.inr ⟨c,h1,.inl As,uu⟩) λy v' hy n=>?_) (TB.but (λb o hb e=>sq.extBut b o hb e) NX λq=>h2 (R.freshX _ (.inr q)))
  ·by_cases q:uH=c
   ·subst q;exact⟨_,uu⟩
   ·exact⟨AW,e2.sameBut sq q⟩
  ·rcases n with⟨a,b⟩|⟨uH,a,b,d⟩
   ·exact .inl ⟨a,b⟩
   ·exact .inr ⟨uH,a,b,d.sameBut sq λq=>hy (hE.inj y x uH a (q▸h1))⟩
theorem ER.forget(R:ER G φ oe T oC σ β P m s)(hl:ρ.length=oC.length)(h:∀(i:Nat) (v:AV),ρ[i]?=some (some v)->oC[i]?=some (some v)):ER G φ oe T ρ σ β P m s :=
 { R with len:=hl.trans R.len,names:=λx i v h1 h2=>R.names x i v h1 (h i v h2)}
theorem ER.but{oe:Env}{G:GD}{s:ah}{h':bU}{X:aw->Prop}{t:kP}(TB:pJ G s.heap)(Yh:∀b,G.X b->¬X b)(R:ER G φ oe T ρ σ β P m s)(hk:∀b o,¬X b->s.heap.get? b=some o->h'.get? b=some o)(hz:s.heap.objs.size<=h'.objs.size)(ht:s.toks<=t)(hP:∀a,P a->¬X a)(DF:∀a,a∈β->¬X a)(hl:¬X oe.locals)(hc:∀x c v,oe.cells.lookup x=some c->s.heap.IsCell c v->¬X c):ER G φ oe T ρ σ β P m {s with heap:=h',toks:=t}:=by
 have tT:∀a o,P a->s.heap.get? a=some o->h'.get? a=some o/\P a:=λa o p e=>⟨hk a o (hP a p) e,p⟩
 have hn:h'.Ns oe.locals m:=R.ns.at' λo e=>hk _ o hl e;refine⟨hn,R.len,λy j u hy hj=>?_,λy hy=>?_,λj o hj ho=>?_,λa ha=>R.freshX a (ha.imp (ae hz) ((TB.butS hk Yh λc q=>hP c (R.freshX c (.inr q))).2 a)),R.psafe,R.bsafe,λa ha=>ab (R.blt a ha) hz,R.tk.fn,R.tk.pos,λt' y e=>ab (R.tk.lt t' y e) ht,ab R.tk.one ht⟩
 ·refine oB (R.names y j u hy hj) λv' a b=>?_;refine oV v' (a.mono (λY Y e=>e) tT (aB _)) ?_;rcases b with b|⟨c,a,b,o,ho,hd⟩
  ·exact .inl b
  ·exact .inr ⟨c,a,b,o,hk c o (hc _ c _ a ⟨o,ho,hd⟩) ho,hd⟩
 ·obtain⟨c,rq,h1,o,ho,hd⟩:=R.celled y hy;exact⟨c,rq,h1,o,hk c o (hc _ c _ h1 ⟨o,ho,hd⟩) ho,hd⟩
 ·refine oB (R.objs j o hj ho) λa h1 h2=>?_;exact oV a h1 (h2.mono (λY Y e=>e) tT (aB _) λo e=>hk a o (DF a (aY h1)) e)
noncomputable def wJ(A:br)(tk:aw)(φ:Gh)(β:List aw)(P:aw->Prop)(F:aw->Prop)(s:ah)(vs:List AV)(it:Value)(s':ah):Prop :=
 ∃(o:nk) (fp:List aw) (Pv:Nat->Value->Prop) (St:Nat->bU->Prop),it=.ref s.heap.objs.size/\s'={s with heap:=s.heap.push o} /\
  Walks oj wd A s.heap.objs.size fp [s.heap.objs.size] vs.length Pv St/\St 0 s'.heap/\(∀b∈fp,b=s.heap.objs.size\/(F b/\b<s.heap.objs.size)) /\
  ∀i x,Pv i x->∃v,vs[i]?=some v/\VR tk φ s.heap β P v x
@[elab_as_elim] theorem src_elim {s:ah}{s':ah}{F:aw->Prop}{vs:List AV}{it:Value}{Q:Value->ah->Prop} (h:wJ A tk φ β P F s vs it s') (k:∀(o:nk) (fp:List aw) (Pv:Nat->Value->Prop) (St:Nat->bU->Prop),Walks oj wd A s.heap.objs.size fp [s.heap.objs.size] vs.length Pv St->St 0 (s.heap.push o)->(∀b∈fp,b=s.heap.objs.size\/(F b/\b<s.heap.objs.size))->(∀i x,Pv i x->∃v,vs[i]?=some v/\VR tk φ s.heap β P v x)->Q (.ref s.heap.objs.size) {s with heap:=s.heap.push o}):Q it s':=by
 refine H7 h ?_;rintro o fp Pv St rfl rfl h1 h2 h3 h4;exact k o fp Pv St h1 h2 h3 h4
theorem QH(hA:A.handled=none)(hl:s.heap.IsList l xs.toArray)(hF:F l)(r:oA tk φ s.heap β P vs xs):
 ao (ar oj wd) A (gD (.ref l)) (wJ A tk φ β P F s vs) oE s:=by
 have o9:l<s.heap.objs.size:=by refine oB hl λY e Y=>?_;exact aN e
 refine wpAny_pyIter_list hl ⟨_,[s.heap.objs.size,l],λi v=>xs.toArray[i]?=some v,λi h=>h.IsListIter s.heap.objs.size l i/\h.IsList l xs.toArray,rfl,rfl,?_,⟨⟨_,bx _ rfl,rfl,rfl⟩,hl.push _⟩,λb hb=>?_,λi x hx=>?_⟩
 ·have:=Walks.list (prog:=oj) (w:=wd) hA s.heap.objs.size l (cp o9) xs.toArray;have pi:xs.toArray.size=vs.length:=by rw[aC,<-r.length]
  rw[pi]at this;exact this
 ·simp only[bh,g_,or_false]at hb;rcases hb with rfl|rfl
  ·exact .inl rfl
  ·exact .inr ⟨hF,o9⟩
 ·refine oB (r.getr (i:=i) (by simpa using hx)) λv h1 h2=>?_;exact oV v h1 h2
theorem wff(hA:A.handled=none)(hl:j1 s.heap l xs.toArray)(hF:F l)(r:oA tk φ s.heap β P vs xs):
 ao (ar oj wd) A (gD (.ref l)) (wJ A tk φ β P F s vs) oE s:=by
 have o9:l<s.heap.objs.size:=by refine oB hl λY e Y=>?_;exact aN e
 refine nu hl ⟨_,[s.heap.objs.size,l],λi v=>xs.toArray[i]?=some v,λi h=>h.IsTupleIter s.heap.objs.size l i/\h.IsTuple l xs.toArray,rfl,rfl,?_,⟨⟨_,bx _ rfl,rfl,rfl⟩,Heap.IsTuple.push hl _⟩,λb hb=>?_,λi x hx=>?_⟩
 ·have:=nP (prog:=oj) (w:=wd) hA s.heap.objs.size l (cp o9) xs.toArray;have pi:xs.toArray.size=vs.length:=by rw[aC,<-r.length]
  rw[pi]at this;exact this
 ·simp only[bh,g_,or_false]at hb;rcases hb with rfl|rfl
  ·exact .inl rfl
  ·exact .inr ⟨hF,o9⟩
 ·refine oB (r.getr (i:=i) (by simpa using hx)) λv h1 h2=>?_;exact oV v h1 h2
theorem wfe{A:br}{cs:List Nat}(hA:A.handled=none):
 ao (ar oj wd) A (gD (.str ⟨cs.toArray⟩ t)) (wJ A tk φ β P F s (cs.map λc=>.str [c])) oE s:=by
 refine wpAny_pyIter_str λo St W h0=>⟨o,[s.heap.objs.size],SignAt ⟨cs.toArray⟩,St,rfl,rfl,?_,h0,λb hb=>.inl (aI.mp hb),λi x hx=>?_⟩
 ·have:=W A hA;simp only[aC]at this;refine oa (ac _) ?_;exact this
 ·refine pK hx ?_;rintro c t' h1 rfl;refine oV (.str [c]) ?_ (.str [c] t');refine oa bf ?_;have:cs[i]?=some c:=by simpa using h1
  refine oa this ?_;rfl
theorem wfc{A:br}{s:ah}{ks:List Int}{vs:List AV}(hA:A.handled=none)(hd:s.heap.DictOf (bZ oj wd) d (ks.zip xs))(uN:(d==bN)=false)(hF:F d)(hl:ks.length=vs.length)(r:oA tk φ s.heap β P vs xs):
 ao (ar oj wd) A (gD (.ref d)) (wJ A tk φ β P F s ((ks.zip vs).map λe=>.int e.1)) oE s:=by
 refine o6 hd.dictAt λep ta=>?_;have o9:=ta.lt_size;refine wpAny_pyIter_dict uN ta ⟨_,[s.heap.objs.size,d],λi v=>∃k x,(ks.zip xs)[i]?=some (k,x)/\(bZ oj wd).is k v=true,λi h=>h.IsKeyIter s.heap.objs.size d i (ks.zip xs).length ep/\h.DictAt (bZ oj wd) d (ks.zip xs) ep,rfl,rfl,?_,⟨⟨_,bx _ rfl,rfl,rfl⟩,ta.push _⟩,λb hb=>?_,λi x hx=>?_⟩
 ·have:=Walks.dictKeys hA s.heap.objs.size d (cp o9) (ks.zip xs) ep (knd:=bZ oj wd);have oU:(ks.zip xs).length=((ks.zip vs).map λe=>AV.int e.1).length:=by refine oa (ac _) ?_;refine oa dp ?_;refine oa dp ?_;refine oa r.length ?_;rfl
  refine rwj oU ?_;exact this
 ·simp only[bh,g_,or_false]at hb;rcases hb with rfl|rfl
  ·exact .inl rfl
  ·exact .inr ⟨hF,o9⟩
 ·refine pK hx λk y h1 h2=>?_;refine o6 (Value.isInt_shape h2) ?_;rintro t rfl;rw[gM]at h1;refine oB (r.getr h1.2) λv hv Y=>?_;refine oV (.int k) ?_ (.int k t);refine oa bf ?_;have:(ks.zip vs)[i]?=some (k,v):=by rw[gM];exact⟨h1.1,hv⟩
  refine oa this ?_;rfl
theorem QI(hA:A.handled=none)(R:A5 s is v):ao (ar oj wd) A (gD v) (wJ A tk φ β P F s (is.map .int)) oE s:=by
 refine M2 R ?_;rintro r a b c t u x n rfl hr hs hn o3 rfl;refine wpAny_pyIter_range hr hs ⟨_,[s.heap.objs.size],λi v=>i<n/\∃t,v=.int (a+i*c) t,λi h=>IsRangeIter h s.heap.objs.size (a+(i:Nat)*c) ((n:Int)-(i:Nat)) c,rfl,rfl,?_,?_,λb hb=>.inl (aI.mp hb),λi x hx=>?_⟩
 ·have W:=Walks.range (prog:=oj) (w:=wd) hA s.heap.objs.size a c n;refine oa (ac _) ?_;rw[Ki];exact⟨W.sub,W.frame,λi s Q E hi st hQ=>W.item i s Q E hi st λv h' t hv=>hQ v h' t ⟨hi,hv⟩,W.done,W.self⟩
 ·show IsRangeIter _ _ _ _ _;refine oa hn ?_;simpa using bx _ rfl
 ·obtain⟨hi,tt,rfl⟩:=hx;refine oV (.int (a+i*c)) ?_ (.int _ _);refine oa bf ?_;refine oa (Kh c n a i hi) ?_;rfl
theorem waJ{C:AV->List AV->Prop}{v:AV}{vs:List AV}(e:AE σ v=some vs)(h1:∀l,C (.tup l) l)(h2:∀cs:List Nat,C (.str cs) (cs.map λc=>.str [c]))(h3:∀es:List (Int×AV),C (.dct es) (es.map λe=>.int e.1))(h4:∀l,C (.lst l) l)(h5:∀i vs,oX σ (.ref i)=some vs->C (.ref i) vs):C v vs:=by
 induction v using AV.casesOn with
 |tup l=>exact oN e (h1 l)
 |str cs=>exact oN e (h2 cs)
 |dct es=>exact oN e (h3 es)
 |lst l=>exact oN e (h4 l)
 |ref i=>exact h5 i vs e
 |_=>exact oq e
theorem QJ{A:br}{s:ah}{v:AV}{vs:List AV}{x:Value}(hA:A.handled=none)(O:qE tk φ s.heap β P σ)(hp:∀a,P a->(a==bN)=false)(e:AE σ v=some vs)(r:VR tk φ s.heap β P v x):
 ao (ar oj wd) A (gD x) (wJ A tk φ β P (λb=>P b\/(v.isRef=true/\b∈β)) s vs) oE s:=by
 refine waJ (C:=λv vs=>VR tk φ s.heap β P v x->ao (ar oj wd) A (gD x) (wJ A tk φ β P (λb=>P b\/(v.isRef=true/\b∈β)) s vs) oE s) e (λl r=>?_) (λcs r=>?_) (λes r=>?_) (λl r=>?_) (λi vs e r=>?_) r
 ·exact r.e_tup λa xs e' p r=>wff hA e' (.inl p) r
 ·exact r.e_str λt=>wfe hA
 ·exact r.e_dct λa ks vs xs e0 hl e' p r=>e0▸wfc hA e' (hp _ p) (.inl p) hl r
 ·exact r.e_lst λa xs e' p r=>QH hA e'.isList (.inl p) r
 ·refine qe (te O e r) ?_;rintro l xs rfl h1 r1;exact r.inv.elim λa q=>QH hA h1 (.inr ⟨rfl,aY (gv q.1▸q.2)⟩) r1
noncomputable def xB(sc:cj)(cl:List (Str×aw))(n:Nat):List (Str×aw):=dK (n+1) sc.names cl
noncomputable def Qs(sc:cj)(cl:List (Str×aw))(C:aw)(oe:Env):Env :=
 { scope:=sc,locals:=C,globals:=oe.globals,cells:=xB sc cl C,qual:=oe.qual,func:=none,code:=oe.code,frame:=oe.frame,builtins:=oe.builtins}
noncomputable def zU(sc:cj)(cl:List (Str×aw))(C:aw)(oe:Env):Env:={Qs sc cl C oe with scope:=relabel sc oe}
theorem nfe(h:Q (Qs sc cl s.heap.objs.size oe) {s with heap:=jf (s.heap.push {cls:=.type "dict",data:=.dict #[]}) sc.names}):
 ao M A (newFunctionEnv sc oe.globals cl [] oe.qual none .none (some oe)) Q E s:=by
 simp only[newFunctionEnv,Option.isSome_some,if_true];refine an (mU ?_);refine an (wpAny_layCells _ (λname kind cells=>by cases hkc:kind==dX<;>simp[hkc]) _ _ _ _ ?_);refine oa (show({s with heap:=s.heap.push {cls:=.type "dict",data:=.dict #[]}}:ah).heap.objs.size=s.heap.objs.size+1 from bg ..) ?_;simp only[fy];exact an (aQ (aQ h))
noncomputable def rC(oe:Env):List (Str×cX)->List (Str×aw)->List (Str×aw)
 | [],acc=>acc
 |(n,k)::r,acc=>if k==.free then rC oe r ((n,(oe.cells.lookup n).getD 0)::acc)else rC oe r acc
theorem E4:rC oe ((n,k)::r) x =
 if(k==bQ)=true then rC oe r ((n,Option.getD (gQ n oe.cells) 0)::x)
 else rC oe r x:=rfl
theorem TQ(hf:∀n k acc,f (n,k) acc=if k==.free then(do let c <-kg oe n;pure (.yield ((n,c)::acc)))else pure (.yield acc)):
 ∀(names:List (Str×cX)) (acc:List (Str×aw)),(∀n,(n,bQ)∈names->∃c,oe.cells.lookup n=some c)->forIn names acc f=pure (rC oe names acc):=by
 intro vv
 induction vv with
 |nil =>
  intro acc _;refine oa fy ?_;rfl
 |cons ee r ih =>
  obtain⟨n,k⟩:=ee;intro acc h;rw[gb,hf];have hr:∀n,(n,bQ)∈r->∃c,oe.cells.lookup n=some c:=λn hn=>h n (aP _ hn)
  induction hk:k==bQ using aZ with
  |true =>
   have:k=.free:=eq_of_beq hk;subst this;refine o6 (h n ax) λc hc=>?_;have e:kg oe n=pure c:=by unfold kg;refine oa hc ?_;rfl
   rw[if_pos rfl,e,pure_bind,pure_bind];show forIn r ((n,c)::acc) f=_;refine oa (ih _ hr) ?_
   conv=>rhs;rw[E4]
   refine oa (if_pos hk) ?_;refine oa hc ?_;rfl
  |false =>
   refine oa (if_neg bA) ?_;refine oa (pure_bind _ _) ?_;show forIn r acc f=_;refine oa (ih _ hr) ?_
   conv=>rhs;rw[E4]
   rw[if_neg (by refine oa hk ?_;exact bA)]
theorem LX(h:∀n,(n,bQ)∈sc.names->∃c,oe.cells.lookup n=some c):fD sc oe=pure (rC oe sc.names []):=by
 simp only[fD];rw[TQ (oe:=oe) (λn k acc=>by cases hk:k==bQ<;>simp[hk]) sc.names [] h];rfl
set_option tactic.hygienic true in
theorem E3:∀{names:List (Str×cX)}{acc:List (Str×aw)}{x:Str}{c:aw},(rC oe names acc).lookup x=some c ->
 acc.lookup x=some c\/((x,bQ)∈names/\(oe.cells.lookup x).getD 0=c):=by
 intro vv
 induction vv with
 |nil =>
  intro acc x c e;exact .inl e
 |cons ee r ih =>
  obtain⟨n,k⟩:=ee;intro acc x c e;rw[E4]at e;split at e
  ·rename_i hk;rcases ih e with e|e
   ·rw[bv]at e;split at e
    ·rename_i hx;have:=eq_of_beq hx;have:=eq_of_beq hk
     subst_vars
     cases e;exact .inr ⟨ax,rfl⟩
    ·exact .inl e
   ·exact .inr ⟨aP _ e.1,e.2⟩
  ·rcases ih e with e|e
   ·exact .inl e
   ·exact .inr ⟨aP _ e.1,e.2⟩
set_option tactic.hygienic true in
theorem TH:∀{names:List (Str×cX)}{acc:List (Str×aw)}{x:Str},(x,bQ)∈names\/(acc.lookup x).isSome=true->((rC oe names acc).lookup x).isSome=true:=by
 intro vv
 induction vv with
 |nil =>
  intro acc x h;rcases h with h|h
  ·cases h
  ·exact h
 |cons ee r ih =>
  obtain⟨n,k⟩:=ee;intro acc x h;rw[E4];split
  ·rename_i hk;refine ih ?_;by_cases hx:x=n
   ·subst hx;right;simp
   ·rcases h with h|h
    ·rcases bh.mp h with h|h
     ·cases h;exact absurd rfl hx
     ·exact .inl h
    ·right;refine oa bv ?_;have:(x==n)=false:=by simpa using hx
     refine oa this ?_;exact h
  ·rename_i hk;refine ih ?_;rcases h with h|h
   ·rcases bh.mp h with h|h
    ·cases h;exact absurd rfl hk
    ·exact .inl h
   ·exact .inr h
theorem Hu:∀(names:List (Str×cX)) (n:Nat) (acc:List (Str×aw)),dK n names acc=dK n names []++acc:=by
 intro vv
 induction vv with
 |nil =>
  intro _ _;exact rfl
 |cons ee r ih =>
  obtain⟨x,k⟩:=ee;intro n acc;unfold dK;split
  ·rw[ih (n+1) ((x,n)::acc),ih (n+1) [(x,n)]];simp
  ·exact ih n acc
theorem JS{l l':List (Str×aw)}:(l++l').lookup x=(l.lookup x).or (l'.lookup x):=by
 induction l with
 |nil=>rfl
 |cons a l ih =>
  obtain⟨y,c⟩:=a;refine oa fO ?_;refine oa bv ?_;refine oa bv ?_;split
  ·rfl
  ·exact ih
set_option tactic.hygienic true in
theorem Hv:∀{names:List (Str×cX)}{n:Nat}{acc:List (Str×aw)}{x:Str}{c:aw},(x,c)∈dK n names acc->(x,c)∈acc\/(x,dX)∈names:=by
 intro vv
 induction vv with
 |nil =>
  intro _ _ _ _ h;exact .inl h
 |cons ee r ih =>
  obtain⟨y,k⟩:=ee;intro n acc x c h;unfold dK at h;split at h
  ·rename_i hk;rcases ih h with h|h
   ·rcases bh.mp h with h|h
    ·cases h;have:=eq_of_beq hk;subst this;exact .inr ax
    ·exact .inl h
   ·exact .inr (aP _ h)
  ·rcases ih h with h|h
   ·exact .inl h
   ·exact .inr (aP _ h)
theorem xZ{names:List (Str×cX)}(hn:(names.map (·.1)).Nodup)(h:(x,k)∈names):names.lookup x=some k:=by
 induction names with
 |nil=>cases h
 |cons a r ih =>
  obtain⟨y,k'⟩:=a;rw[aU,cB]at hn;refine oa bv ?_;rcases bh.mp h with h|h
  ·cases h;simp
  ·have:x≠y:=λq=>hn.1 (q▸aE.mpr ⟨_,h,rfl⟩);have:(x==y)=false:=by simpa using this
   refine oa this ?_;exact ih hn.2 h
theorem wbJ{oe:Env}:∀{names:List (Str×cX)},names.lookup x=some k ->
 (names.map λ(n,k)=>if(k==bQ&&oe.scope.kind==.function&&oe.kindOf n==some .cell)then(n,dX)else(n,k)).lookup x =
  some (if(k==bQ&&oe.scope.kind==.function&&oe.kindOf x==some .cell)then dX else k):=by
 intro vv
 induction vv with
 |nil =>
  intro h;simp at h
 |cons ee r ih =>
  obtain⟨n,k'⟩:=ee;intro h;rw[bv]at h;refine oa aU ?_
  induction hx:x==n using aZ with
  |true =>
   rw[hx]at h;cases h;have:=eq_of_beq hx;subst this;dsimp only;split<;>simp[bv, *]
  |false =>
   rw[hx]at h;have sr:=ih h;dsimp only;split
   ·refine oa bv ?_;refine oa hx ?_;exact sr
   ·refine oa bv ?_;refine oa hx ?_;exact sr
theorem DQ{oe:Env}{sc:cj}(h:sc.names.lookup x=some k):
 (zU sc cl C oe).kindOf x=some (if(k==bQ&&oe.scope.kind==.function&&oe.kindOf x==some .cell)then dX else k):=wbJ h
set_option tactic.hygienic true in
theorem Gl:∀{l:List (Str×Nat)},l.lookup x=some i->(x,i)∈l
 |(y,j)::l,h=>by
  rw[bv]at h;split at h
  ·rename_i e;have:=eq_of_beq e;subst this;cases h;exact ax
  ·exact aP _ (Gl h)
theorem Cf{T:Tb}(h:T.var x=some i):(x,i)∈T.vars:=by
 unfold Tb.var at h;split at h
 ·split at h
  ·exact Gl h
  ·cases h
 ·split at h
  ·exact Gl h
  ·cases h
 ·split at h
  ·exact Gl h
  ·cases h
 ·cases h
theorem Ef(h:AN T=true):wc T:=by
 unfold AN at h;rw[aj]at h;refine⟨λx y i hx hy=>?_,λx i hx=>?_⟩
 ·have h1:=h _ (Cf hx);rw[aO,aj]at h1;have h2:=h1.2 _ (Cf hy);simpa using h2
 ·have h1:=h _ (Cf hx);rw[aO]at h1;simpa using h1.1
noncomputable def tE(P:aw->Prop)(n n':Nat):aw->Prop:=λa=>P a/\¬(n<=a/\a<n')
theorem ER.grow_out(TB:pJ G s.heap)(R:ER G φ oe T ρ σ β P m s)(hk:qt s.heap h')(hz:s.heap.objs.size<=h'.objs.size)(ht:s.toks<=t):
 ER G φ oe T ρ σ β (tE P s.heap.objs.size h'.objs.size) m {s with heap:=h',toks:=t}:=by
 have tT:∀a o,P a->s.heap.get? a=some o->h'.get? a=some o/\tE P s.heap.objs.size h'.objs.size a:=λa o p e=>⟨hk a o e,p,λq=>bu.mpr q.1 (aN e)⟩
 refine⟨R.ns.keeps hk,R.len,λy j u hy hj=>?_,λy hy=>?_,λj o hj ho=>?_,λa ha=>ha.elim (λha=>⟨R.fresh a (ae hz ha),λq=>bu.mpr (show h'.objs.size<=a from ha) q.2⟩) (λha=>⟨R.freshX a (.inr (vw hk TB a ha)),λq=>bu.mpr q.1 (pZ.lt TB (vw hk TB a ha))⟩),λa p=>R.psafe a p.1,R.bsafe,λa ha=>ab (R.blt a ha) hz,R.tk.fn,R.tk.pos,λt' y e=>ab (R.tk.lt t' y e) ht,ab R.tk.one ht⟩
 ·refine oB (R.names y j u hy hj) λv' a b=>?_;exact oV v' (a.mono (λY Y e=>e) tT (aB _)) (b.keeps hk)
 ·refine pK (R.celled y hy) λc rq h1 h2=>?_;exact rf c rq h1 (h2.keeps hk)
 ·refine oB (R.objs j o hj ho) λa h1 h2=>?_;exact oV a h1 (h2.mono (λY Y e=>e) tT (aB _) λo e=>hk a o e)
structure xt(T:Tb) (sc:cj):Prop where
 kind:sc.kind=.function
 nodup:(sc.names.map (·.1)).Nodup
 free:∀x,(x,bQ)∈sc.names->T.celled x=true
 tb:wc (T.comp sc)
theorem wdL:∀(names:List (Str×cX)) (h:bU),h.objs.size<=(jf h names).objs.size:=by
 intro vv
 induction vv with
 |nil =>
  intro h;exact ai _
 |cons ee r ih =>
  obtain⟨_,k⟩:=ee;intro h;unfold jf;split
  ·have:=ih (h.push {cls:=.type "cell",data:=.cell none});rw[bg]at this;exact bb this
  ·exact ih h
theorem TD(hE:qc oe T)(h:T.celled x=true):oe.kindOf x=some .cell\/oe.kindOf x=some .free:=by
 unfold Tb.celled at h;rw[du]at h;rcases h with h|h
 ·exact .inl (hE.cel x (by simpa using h))
 ·exact hE.fre x (by simpa using h)
theorem Gn(C:xt T sc)(R:ER G φ oe T ρ σ β P m s):
 (∀x c,(xB sc (rC oe sc.names []) s.heap.objs.size).lookup x=some c ->
  ((x,dX)∈sc.names/\s.heap.objs.size<c/\(jf (s.heap.push {cls:=.type "dict",data:=.dict #[]}) sc.names).IsCell c none) \/
  ((x,bQ)∈sc.names/\oe.cells.lookup x=some c/\c<s.heap.objs.size)) /\
 (∀x,(x,dX)∈sc.names->∃c,(xB sc (rC oe sc.names []) s.heap.objs.size).lookup x=some c/\s.heap.objs.size<c/\(jf (s.heap.push {cls:=.type "dict",data:=.dict #[]}) sc.names).IsCell c none) /\
 (∀x,(x,bQ)∈sc.names->∃c,(xB sc (rC oe sc.names []) s.heap.objs.size).lookup x=some c/\oe.cells.lookup x=some c) /\
 (∀x y c,(x,c)∈dK (s.heap.objs.size+1) sc.names []->(y,c)∈dK (s.heap.objs.size+1) sc.names []->x=y):=by
 have ok:=cellsFrom_ok sc.names (s.heap.push {cls:=.type "dict",data:=.dict #[]}) (s.heap.objs.size+1) [] ⟨λY Y hm=>(nomatch hm),pj⟩ (by rw[bg];exact ai _);rw[bg]at ok;have split:∀x c,(xB sc (rC oe sc.names []) s.heap.objs.size).lookup x=some c->(x,c)∈dK (s.heap.objs.size+1) sc.names []\/((dK (s.heap.objs.size+1) sc.names []).lookup x=none/\(rC oe sc.names []).lookup x=some c):=by
  intro x c e;unfold xB at e;rw[Hu,JS]at e
  induction q:(dK (s.heap.objs.size+1) sc.names []).lookup x using aa with
  |some c'=>rw[q]at e;cases e;exact .inl (mem_of_lookup q)
  |none=>rw[q]at e;exact .inr ⟨rfl,e⟩
 have Nx:∀x,(x,bQ)∈sc.names->∃c,oe.cells.lookup x=some c/\c<s.heap.objs.size:=λx hx=>by
  refine pK (R.celled x (C.free x hx)) λc v h1 h2=>?_;exact oV c h1 h2.lt
 refine xU (λx c e=>?_) (λx hx=>?_) (λx hx=>?_) (λx y c h1 h2=>name_of_addr ok.apart h1 h2)
 ·rcases split x c e with h|⟨_,h⟩
  ·have:=ok.empty x c h;rcases Hv h with q|q
   ·cases q
   ·exact .inl ⟨q,this.2,this.1⟩
  ·rcases E3 h with q|⟨q,q'⟩
   ·cases q
   ·refine oB (Nx x q) λc' h1 h2=>?_;rw[h1]at q';cases q';exact .inr ⟨q,h1,h2⟩
 ·have h1:=xZ C.nodup hx;have h2:=jV sc.names (s.heap.objs.size+1) (rC oe sc.names []) (.inl h1);refine o6 (eR.mp h2) λc hc=>?_;refine oV c hc ?_;rcases split x c hc with h|⟨_,h⟩
  ·have:=ok.empty x c h;exact⟨this.2,this.1⟩
  ·rcases E3 h with q|⟨q,q'⟩
   ·cases q
   ·have:=xZ C.nodup q;rw[h1]at this;cases this
 ·have h1:=xZ C.nodup hx;refine oB (Nx x hx) λc hc o9=>?_;have h2:=TH (oe:=oe) (names:=sc.names) (acc:=[]) (x:=x) (.inl hx);refine o6 (eR.mp h2) λc' uu=>?_;have Yr:c'=c:=by
   rcases E3 uu with q|⟨q,q'⟩
   ·cases q
   ·rw[hc]at q';exact q'.symm
  subst Yr;refine oV c' ?_ hc;unfold xB;rw[Hu,JS]
  induction q:(dK (s.heap.objs.size+1) sc.names []).lookup x using aa with
  |none=>exact uu
  |some L7 =>
   rcases Hv (mem_of_lookup q)with q|q
   ·cases q
   ·have:=xZ C.nodup q;rw[h1]at this;cases this
noncomputable abbrev s_(h:bU)(sc:cj):bU:=jf (h.push {cls:=.type "dict",data:=.dict #[]}) sc.names
theorem Nv(h:bU)(sc:cj):qt h (s_ h sc):=λb o e=>pushCells_keeps _ _ b o (av _ e)
theorem Nw(h:bU)(sc:cj):h.objs.size<(s_ h sc).objs.size:=by
 have:=wdL sc.names (h.push {cls:=.type "dict",data:=.dict #[]});rw[bg]at this;exact this
theorem Vb(hE:qc oe T)(C:xt T sc)(R:ER G φ oe T ρ σ β P m s):qc (zU sc (rC oe sc.names []) s.heap.objs.size oe) (T.comp sc):=by
 refine Bu (Gn (s:=s) C R) λc1 c2 c3 c4=>?_;refine⟨C.kind,λx hx=>?_,λx hx=>?_,λx hx=>?_,λx y c hx hy=>?_,λx hx=>?_,hE.g,hE.b⟩
 ·exact DQ hx
 ·exact DQ hx
 ·have:=DQ (oe:=oe) (cl:=rC oe sc.names []) (C:=s.heap.objs.size) (sc:=sc) hx;refine oa this ?_;split
  ·exact .inl rfl
  ·exact .inr rfl
 ·rcases c1 x c hx with⟨a1,a2,a3⟩|⟨a1,a2,a3⟩<;>rcases c1 y c hy with⟨b1,b2,b3⟩|⟨b1,b2,b3⟩
  ·have key:∀z,(z,dX)∈sc.names->(xB sc (rC oe sc.names []) s.heap.objs.size).lookup z=some c->(z,c)∈dK (s.heap.objs.size+1) sc.names []:=by
    intro z hz e;unfold xB at e;rw[Hu,JS]at e
    induction q:(dK (s.heap.objs.size+1) sc.names []).lookup z using aa with
    |some c'=>rw[q]at e;cases e;exact mem_of_lookup q
    |none =>
     rw[q]at e;rcases E3 (show(rC oe sc.names []).lookup z=some c from e)with q|⟨q,_⟩
     ·cases q
     ·have h1:=xZ C.nodup hz;have h2:=xZ C.nodup q;rw[h1]at h2;cases h2
   exact c4 x y c (key x a1 hx) (key y b1 hy)
  ·exact absurd a2 (il b3)
  ·exact absurd b2 (il a3)
  ·exact hE.inj x y c a2 b2
 ·exact DQ hx
set_option tactic.hygienic true in
theorem WW(h:x∈BB sc):(x,bQ)∈sc.names:=by
 unfold BB at h;refine oB (gz.mp h) λz1 h1 h2=>?_;obtain⟨n,k⟩:=z1;simp only at h2;split at h2
 ·rename_i hk;cases h2;have:=eq_of_beq hk;subst this;exact h1
 ·cases h2
theorem Ub(C:xt T sc)(h:(T.comp sc).var x=some i):
 (T.next<=i)\/((x,bQ)∈sc.names/\T.var x=some i):=by
 have hm:=Cf h;simp only[Tb.comp,aW,aE,gz]at hm;rcases hm with⟨⟨n,j⟩,_,e⟩|⟨n,hn,e⟩
 ·cases e;exact .inl (aV _ _)
 ·refine oB (aK.mp e) λi' hi e=>?_;cases e;exact .inr ⟨WW hn,hi⟩
theorem Vl(hE:qc oe T)(C:xt T sc)(yM:ER G φ oe T ρ σ β P m s)(R:ER G φ oe T ρ σ β P' m {s with heap:=s_ s.heap sc}):
 ER G φ (zU sc (rC oe sc.names []) s.heap.objs.size oe) (T.comp sc) (ρ++aA (sD sc).length none) σ β P' (λY=>none) {s with heap:=s_ s.heap sc}:=by
 refine Bu (Gn (s:=s) C yM) λc1 c2 c3 c4=>?_;refine⟨(Heap.Ns.new s.heap (.type "dict")).keeps (pushCells_keeps _ _),?_,λx i v hx hv=>?_,λx hx=>?_,R.objs,R.freshX,R.psafe,λa ha=>?_,R.blt,R.tk⟩
 ·refine oa aq ?_;refine oa cf ?_;refine oa R.len ?_;rfl
 ·rcases Ub C hx with h|⟨h1,h2⟩
  ·rw[ay (by refine oa R.len ?_;exact h)]at hv;rw[fk]at hv;split at hv
   ·cases hv
   ·cases hv
  ·have o9:i<ρ.length:=by
    rcases d9 i ρ.length with q|q
    ·exact q
    ·rw[ay q,fk]at hv;split at hv<;>cases hv
   rw[aL o9]at hv;refine oB (R.names x i v h2 hv) λv' a b=>?_;refine oV v' a (.inr ?_);have hk:=TD hE (C.free x h1);refine oB (c3 x h1) λc e1 e2=>?_;have As:=DQ (oe:=oe) (cl:=rC oe sc.names []) (C:=s.heap.objs.size) (xZ C.nodup h1);refine xV c e1 ?_ ?_
   ·refine oa As ?_;split
    ·exact .inl rfl
    ·exact .inr rfl
   ·rcases b with⟨b,_⟩|⟨c',b1,b2,b3⟩
    ·rcases hk with hk|hk<;>rw[hk]at b<;>cases b
    ·rw[e2]at b1;cases b1;exact b3
 ·have s4:sc.names.lookup x=some .cell\/sc.names.lookup x=some .free:=by
   unfold Tb.celled at hx;rw[du]at hx;exact hx.imp (λq=>eq_of_beq q) λq=>eq_of_beq q
  rcases s4 with q|q
  ·refine s9 (c2 x (mem_of_lookup q)) λc e1 e2 e3=>?_;exact rf c none e1 e3
  ·refine oB (c3 x (mem_of_lookup q)) λc e1 e2=>?_;refine pK (yM.celled x (C.free x (mem_of_lookup q))) λc' rq e3 e4=>?_;rw[e2]at e3;cases e3;exact rf c rq e1 (e4.keeps (Nv _ _))
 ·have safe:∀b,s.heap.objs.size<=b->sY G b:=λb hb=>yM.psafe b (yM.fresh b hb);rcases ha with ha|ha|⟨x,hx⟩
  ·exact R.bsafe a (.inl ha)
  ·refine oa ha ?_;exact safe _ (ai _)
  ·rcases c1 x a hx with⟨_,q,_⟩|⟨_,q,_⟩
   ·exact safe a (bb q)
   ·exact R.bsafe a (.inr (.inr ⟨x,q⟩))
theorem XB(C:xt T sc)(yM:ER G φ oe T ρ σ β P m s)(hP:∀a,P' a->¬(s.heap.objs.size<=a/\a<(s_ s.heap sc).objs.size)):
 yI (zU sc (rC oe sc.names []) s.heap.objs.size oe) (T.comp sc) β P':=by
 refine Bu (Gn (s:=s) C yM) λc1 c2 c3 c4=>?_;refine⟨λp=>hP _ p ⟨ai _,Nw _ _⟩,λhb=>aJ _ (yM.blt _ hb),λx hx=>?_⟩;refine s9 (c2 x (mem_of_lookup hx)) λc e1 e2 e3=>?_;refine xV c e1 (λp=>hP _ p ⟨bb e2,e3.lt⟩) (λhb=>?_);exact il e2 (yM.blt _ hb)
theorem Q'(hg:gens[d]?=some ⟨.Name x px,iter,ifs,0⟩)(h:ao (ar oj wd) A (pyNext I) (λr ou=>match r with
 |none=>Q (.done .next) ou
 |some v=>ao (ar oj wd) A (ge oe x v) (λY oJ =>
  ao (ar oj wd) A (forIn ifs true λc r=>if r=true then do let ok <-dv c oe (bK c oe);pure (dW ok)else pure (dW r)) (λok ro =>
   if ok=true then(match gens[d+1]? with
    |some g'=>ao (ar oj wd) A (bK g'.iter oe) (λxv sF=>ao (ar oj wd) A (eM g'.iter oe xv) (λyv rY=>ao (ar oj wd) A (gD yv) (λit Cc =>
     ao (ar oj wd) A (runOwn (.compStart (.ListComp oK gens sc pos) (d+1) it acc oe) oe) (λY x7=>Q (.again (.compLoop (.ListComp oK gens sc pos) d I acc oe)) x7) E Cc) E rY) E sF) E ro
    |none=>ao (ar oj wd) A (bK oK oe) (λy sF=>ao (ar oj wd) A (call (.builtin "list.append") [acc,y]) (λY rY=>Q (.again (.compLoop (.ListComp oK gens sc pos) d I acc oe)) rY) E sF) E ro)
   else Q (.again (.compLoop (.ListComp oK gens sc pos) d I acc oe)) ro) E oJ) E ou) E s) (ha:∀g',gens[d+1]?=some g'->g'.is_async=0):
 ao (ar oj wd) A (mZ (.ListComp oK gens sc pos) d I acc oe) Q E s:=by
 unfold mZ;dsimp only;refine oa hg ?_;dsimp only;refine an (cT ?_);refine an (b9 h (λr ou o7=>?_) λY Y e=>e)
 induction r using aa with
 |none=>exact aQ o7
 |some v =>
  dsimp only at o7 ⊢;refine an (mR (a:=()) rfl ?_);refine an (ie (b9 o7 (λY oJ qI=>?_) λY Y e=>e));refine an (b9 qI (λok ro xS=>?_) λY Y e=>e)
  induction ok using aZ with
  |false=>exact aQ xS
  |true =>
   rw[if_pos rfl]at xS
   induction ze:gens[d+1]? using aa with
   |none =>
    rw[ze]at xS;dsimp only at xS ⊢;exact an (an (b9 xS (λy sF Ju=>an (b9 Ju (λY rY xT=>aQ (aQ xT)) λY Y e=>e)) λY Y e=>e))
   |some g' =>
    rw[ze]at xS;have h0:(g'.is_async != 0)=false:=by refine oa (ha g' ze) ?_;rfl
    dsimp only at xS ⊢;simp only[h0,fb,if_false];refine an (b9 xS (λxv sF Ju=>an (cT (an (b9 Ju (λyv rY xT=>?_) λY Y e=>e)))) λY Y e=>e);exact an (cF (b9 xT (λit Cc Z2=>an (b9 Z2 (λY x7 Z3=>aQ Z3) λY Y e=>e)) λY Y e=>e))
noncomputable def sI(oe:Env)(T:Tb)(D:aw)(b:aw):Prop:=b=D\/b=oe.locals\/∃x,T.names.lookup x=some .cell/\oe.cells.lookup x=some b
structure LS(G:GD) (sB:ah) (ot:Gh) (oe:Env) (T:Tb) (σ:oH) (β:List aw) (D:aw) (φ:Gh) (ρ:oI) (acc:List AV) (P:aw->Prop) (m:Str->Option Value) (s:ah):Prop where
 base:∃h t,s={sB with heap:=h,toks:=t}
 old:∀b o,¬G.X b->sB.heap.get? b=some o->s.heap.get? b=some o
 size:sB.heap.objs.size<=s.heap.objs.size
 sub:∀t x,ot t x->φ t x
 er:ER G φ oe T ρ σ β P m s
 fr:yI oe T β P
 dP:¬P D
 dβ:D∉β
 acc:∃xs,s.heap.PlainList D xs.toArray/\oA G.tok φ s.heap β P acc xs
 tabs:pJ G s.heap/\∀c,pZ G s.heap c->pZ G sB.heap c\/sB.heap.objs.size<=c
theorem LS.own{acc:List AV}(L:LS G sB ot oe T σ β D φ ρ acc P m s):∀b,sI oe T D b->¬P b/\b∉β:=by
 intro b hb;rcases hb with rfl|rfl|⟨x,h1,h2⟩
 ·exact⟨L.dP,L.dβ⟩
 ·exact⟨L.fr.ploc,L.fr.bloc⟩
 ·refine s9 (L.fr.own x h1) λc e1 e2 e3=>?_;rw[h2]at e1;cases e1;exact⟨e2,e3⟩
theorem LS.inv{acc:List AV}(L:LS G sB ot oe T σ β D φ ρ acc P m s)(I:pp G sB.heap):pp G s.heap:=I.keepsX L.old L.tabs.1
theorem pJ.notX_list(x:pJ G h)(n:h.PlainList a xs):¬G.X a/\¬pZ G h a:=let⟨n,e⟩:=n;⟨x.notX_data e (λvs q=>nomatch q),x.noHas e (λvs q=>nomatch q)⟩
theorem LS.go{acc:List AV}(L:LS G sB ot oe T σ β D φ ρ acc P m s)(k:GX G s φ s' ow):LS G sB ot oe T σ β D ow ρ acc P m s' where
 base:=by
  refine sb L.base ?_;rintro h t rfl;refine pK k.grows.keeps λh' t' e Y=>?_;exact wz h' t' e
 old:=λb o hb e=>k.ext b o hb (L.old b o hb e)
 size:=ae L.size k.grows.size
 sub:=λt x e=>k.sub t x (L.sub t x e)
 er:=L.er.go k L.tabs.1
 fr:=L.fr
 dP:=L.dP
 dβ:=L.dβ
 acc:=let⟨xs,h1,h2⟩:=L.acc;⟨xs,h1.at λo=>k.ext _ o (L.tabs.1.notX_list h1).1,L.er.vrs k h2⟩
 tabs:=by
  refine p_ (k.tabs L.tabs.1) λh1 h2=>?_;exact⟨h1,λc hc=>(h2 c hc).elim (L.tabs.2 c) λq=>.inr (ae L.size q)⟩
theorem LS.done{acc:List AV}(L:LS G sB ot oe T σ β D φ ρ acc P m s):GX G sB ot s φ:=by
 have o:=L.old;have z:=L.size;have k:=L.er.tk;have tb:=L.tabs;refine sb L.base ?_;rintro h t rfl;exact⟨⟨⟨h,t,rfl,o⟩,z⟩,L.sub,k,λY=>tb⟩
theorem LS.forget{acc:List AV}(L:LS G sB ot oe T σ β D φ oC acc P m s)(hl:ρ.length=oC.length)(h:∀(i:Nat) (v:AV),ρ[i]?=some (some v)->oC[i]?=some (some v)):LS G sB ot oe T σ β D φ ρ acc P m s :=
 { L with er:=L.er.forget hl h}
theorem P7{h:bU}(hn:h.Ns a m)(hc:h.PlainList D xs):a≠D:=by
 rintro rfl;refine wW hn λo es ep ho hd Y=>?_;refine o6 hc λn w0=>?_;rw[ho]at w0;cases w0;cases hd
theorem LU{h:bU}(hn:h.IsCell c v)(hc:h.PlainList D xs):c≠D:=by
 rintro rfl;refine oB hn λo ho hd=>?_;refine o6 hc λn w0=>?_;rw[ho]at w0;cases w0;cases hd
theorem LS.store{acc:List AV}(hE:qc oe T)(hT:wc T)(hx:T.var x=some i)(hk:T.names.lookup x=some .local\/T.names.lookup x=some .cell)(si:∀b,sI oe T D b->sB.heap.get? b=none)(L:LS G sB ot oe T σ β D φ ρ acc P m s)(r:VR G.tok φ s.heap β P v xv)(hQ:∀s' m',LS G sB ot oe T σ β D φ (ρ.set i (some v)) acc P m' s'->(∀b o,¬sI oe T D b->s.heap.get? b=some o->s'.heap.get? b=some o)->s.heap.objs.size<=s'.heap.objs.size->Q () s'):
 ao (ar oj wd) A (ge oe x xv) Q E s:=by
 refine QL L.tabs.1 hE hT hx hk L.er L.fr r λh' t m' uZ ht hs vU R TT=>?_;have wx:sI oe T D uZ:=by
  rcases ht with rfl|⟨h1,h2⟩
  ·exact .inr (.inl rfl)
  ·exact .inr (.inr ⟨x,h2,h1⟩)
 refine sb L.base λhh tt e=>?_;refine oB L.acc λxs a1 a2=>?_;have ZG:D≠uZ:=by
  rcases ht with rfl|⟨h1,h2⟩
  ·exact io (P7 L.er.ns a1)
  ·refine pK (L.er.celled x (by unfold Tb.celled;refine oa h2 ?_;rfl)) λc rq e1 e2=>?_;rw[h1]at e1;cases e1;exact io (LU e2 a1)
 refine hQ _ m' ⟨⟨h',t,by refine oa e ?_;rfl⟩,λb o hb e=>hs.extBut b o (λq=>?_) (L.old b o hb e),?_,L.sub,R,L.fr,L.dP,L.dβ,⟨xs,a1.at λo e=>hs.extBut _ o ZG e,a2.mono (λY Y e=>e) (λa o p e=>⟨hs.extBut a o (λq=>(L.own uZ wx).1 (q▸p)) e,p⟩) (aB _)⟩,TT.1,λc q=>L.tabs.2 c (TT.2 c q)⟩
  (λb o hb e=>hs.extBut b o (λq=>hb (q▸wx)) e) ?_
 ·subst q;rw[si b wx]at e;cases e
 ·exact ae L.size (bd hs.1.symm)
 ·exact bd hs.1.symm
theorem LS.append{acc:List AV}(si:∀b,sI oe T D b->sB.heap.get? b=none)(L:LS G sB ot oe T σ β D φ ρ acc P m s)(r:VR G.tok φ s.heap β P v xv)(o3:acc.length<=100000)(hQ:∀x s',LS G sB ot oe T σ β D φ ρ (acc++[v]) P m s'->(∀b o,¬sI oe T D b->s.heap.get? b=some o->s'.heap.get? b=some o)->s.heap.objs.size<=s'.heap.objs.size->Q x s'):
 ao (ar oj wd) A (call (.builtin "list.append") [.ref D,xv]) Q E s:=by
 refine oB L.acc λxs a1 a2=>?_;refine lT a1 (λh' uO hs=>?_) (by refine oa aC ?_;refine rwj a2.length ?_;exact sk o3);have wx:sI oe T D D:=.inl rfl;refine sb L.base λhh tt e=>?_;have hk:∀a o,P a->s.heap.get? a=some o->h'.get? a=some o/\P a:=λa o p e=>⟨hs.extBut a o (λq=>L.dP (q▸p)) e,p⟩
 have R:ER G φ oe T ρ σ β P m {s with heap:=h',toks:=s.toks}:=L.er.but (X:=(·=D)) L.tabs.1 (λb hb q=>(L.tabs.1.notX_list a1).1 (q▸hb)) (λb o hb e=>hs.extBut b o hb e) (bd hs.1.symm) (ai _)
  (λa p q=>L.dP (q▸p)) (λa p q=>L.dβ (q▸p)) (P7 L.er.ns a1) (λx c v hc hi q=>LU hi a1 q)
 have TT:=L.tabs.1.but (λb o hb e=>hs.extBut b o hb e) (L.tabs.1.notX_list a1).1 (L.tabs.1.notX_list a1).2;refine hQ _ _ ⟨⟨h',s.toks,by refine oa e ?_;rfl⟩,λb o hb e=>hs.extBut b o (λq=>?_) (L.old b o hb e),ae L.size (bd hs.1.symm),L.sub,R,L.fr,L.dP,L.dβ,⟨xs++[xv],by simpa using uO,(a2.append (.single r)).mono (λY Y e=>e) hk (aB _)⟩,TT.1,λc q=>L.tabs.2 c (TT.2 c q)⟩
  (λb o hb e=>hs.extBut b o (λq=>hb (q▸wx)) e) (bd hs.1.symm)
 subst q;rw[si _ wx]at e;cases e
theorem OR.weak{G:GD}(hk:∀a,P a->P' a)(r:OR G.tok φ h β P o a):OR G.tok φ h β P' o a :=
 r.mono (λY Y e=>e) (λa o p e=>⟨e,hk a p⟩) (aB _) λY e=>e
theorem ER.weak(R:ER G φ oe T ρ σ β P m s)(hk:∀a,P a->P' a)(hp:∀a,P' a->sY G a):ER G φ oe T ρ σ β P' m s :=
 { R with names:=λx i v h1 h2=>(let⟨v',a,b⟩:=R.names x i v h1 h2;⟨v',a.weak hk,b⟩),objs:=λj o h1 h2=>(let⟨a,h3,h4⟩:=R.objs j o h1 h2;⟨a,h3,h4.weak hk⟩),freshX:=λa h=>hk a (R.freshX a h),psafe:=hp}
theorem LS.weak{acc:List AV}(L:LS G sB ot oe T σ β D φ ρ acc P m s)(hk:∀a,P a->P' a)(hp:∀a,P' a->sY G a)(hf:yI oe T β P')(hd:¬P' D):LS G sB ot oe T σ β D φ ρ acc P' m s :=
 { L with er:=L.er.weak hk hp,fr:=hf,dP:=hd,acc:=let⟨xs,h1,h2⟩:=L.acc;⟨xs,h1,h2.weak hk⟩}
noncomputable abbrev Jx(oe:Env):Expr->Bool->fe (ForInStep Bool):=λc r=>if r=true then do let ok <-dv c oe (bK c oe);pure (dW ok)else pure (dW r)
theorem wam:∀(ifs:List Expr),forIn ifs false (Jx oe)=pure false:=by
 intro vv
 induction vv with
 |nil =>
  refine oa fy ?_;rfl
 |cons c r ih =>
  rw[gb];show(pure (dW false) >>= _)=_;refine oa (pure_bind _ _) ?_;exact ih
theorem Jy:∀{ifs:List Expr}{r:Bool},(∀c∈ifs,∀b,ev Φ σ ρ (oy T c)=some (.bool b)->TS G A oe T ρ σ (dv c oe (bK c oe)) b) ->
 qZ Φ σ ρ (pk T ifs)=some r->TS G A oe T ρ σ (forIn ifs true (Jx oe)) r
 | [],r,_,e=>λs φ β P m I R=>by
  refine oa fy ?_;simp only[Q2,Ej,z8,xE]at e;cases e;exact aQ ⟨rfl,φ,.refl R.tk⟩
 |c::ifs,r,h,e=>λs φ β P m I R=>by
  rw[gb];rw[Ej,xE]at e
  induction hc:ev Φ σ ρ (oy T c)using aa with
  |none=>rw[hc]at e;exact oq e
  |some v =>
   rw[hc]at e
   induction v using AV.casesOn with
   |bool b =>
    induction b using aZ with
    |true =>
     refine an (an ((h c ax true hc).post I R λou oF oD ph oP=>aQ ?_));exact up (Jy (λc hc=>h c (aP _ hc)) e ou oF β P m ph oP) λb oJ ⟨e,o4,oW⟩=>⟨e,o4,oD.trans oW⟩
    |false =>
     have e:some false=some r:=e;cases e;refine an (an ((h c ax false hc).post I R λou oF oD ph oP=>aQ ?_));show ao _ _ (forIn ifs false (Jx oe)) _ _ ou;refine oa (wam _) ?_;exact aQ ⟨rfl,oF,oD⟩
   |_=>exact oq e
structure RH(G:GD) (oe:Env) (T:Tb) (D:aw) (s s':ah):Prop where
 keep:∀b o,¬sI oe T D b->¬G.X b->s.heap.get? b=some o->s'.heap.get? b=some o
 size:s.heap.objs.size<=s'.heap.objs.size
theorem LS.moved{acc:List AV}(L:LS G sB ot oe T σ β D φ ρ acc P m s)(hI:¬P I)(BG:I∉β)(tz:¬sI oe T D I)(wZ:sB.heap.get? I=none)(vL:∀x c,oe.cells.lookup x=some c->c≠I)(yp:¬G.X I)(hk:∀b o,b≠I->s.heap.get? b=some o->h'.get? b=some o)(u:Up s {s with heap:=h',toks:=t}):LS G sB ot oe T σ β D φ ρ acc P m {s with heap:=h',toks:=t}:=by
 refine sb L.base λhh tt e=>?_;refine oB L.acc λxs a1 a2=>?_;have TT:=L.tabs.1.but (a:=I) hk yp λq=>hI (L.er.freshX I (.inr q));have R:=L.er.but (X:=(·=I)) (h':=h') (t:=t) L.tabs.1 (λb hb q=>yp (q▸hb)) (λb o hb e=>hk b o hb e) u.size u.toks (λa p q=>hI (q▸p)) (λa p q=>BG (q▸p)) (λq=>tz (.inr (.inl q.symm))) (λx c v hc hi q=>vL x c hc q);refine⟨⟨h',t,by refine oa e ?_;rfl⟩,λb o hb e=>hk b o (λq=>?_) (L.old b o hb e),ae L.size u.size,L.sub,R,L.fr,L.dP,L.dβ,⟨xs,a1.at λo e=>hk _ o (λq=>tz (.inl q.symm)) e,a2.mono (λY Y e=>e) (λa o p e=>⟨hk a o (λq=>hI (q▸p)) e,p⟩) (aB _)⟩,TT.1,λc q=>L.tabs.2 c (TT.2 c q)⟩;subst q;rw[wZ]at e;cases e
noncomputable def RS(G:GD)(A:br)(sB:ah)(ot:Gh)(oe:Env)(T:Tb)(σ:oH)(β:List aw)(D:aw)(P:aw->Prop)(oK:Expr)(gens:List bS)(sc:cj)(pos:cq)(d:Nat)(ρ:oI)(res:List AV):Prop :=
 ∀φ acc m s (Q:ah->Prop) (E:Value->ah->Prop),LS G sB ot oe T σ β D φ ρ acc P m s->(acc++res).length<=100000 ->
  (∀ow m' s',LS G sB ot oe T σ β D ow ρ (acc++res) P m' s'->RH G oe T D s s'->(∀t x,φ t x->ow t x)->Q s') ->
  match gens[d]? with
  |some g'=>ao (ar oj wd) A (bK g'.iter oe) (λxv sF=>ao (ar oj wd) A (eM g'.iter oe xv) (λyv rY=>ao (ar oj wd) A (gD yv) (λit Cc =>
   ao (ar oj wd) A (runOwn (.compStart (.ListComp oK gens sc pos) d it (.ref D) oe) oe) (λY x7=>Q x7) E Cc) E rY) E sF) E s
  |none=>ao (ar oj wd) A (bK oK oe) (λy sF=>ao (ar oj wd) A (call (.builtin "list.append") [.ref D,y]) (λY rY=>Q rY) E sF) E s
theorem W0(h:tS f (v::vs)=some res):∃bs cs,res=bs++cs/\f v=some bs/\tS f vs=some cs:=by
 rw[Fu]at h
 induction h1:f v using aa with
 |none=>rw[h1]at h;exact oq h
 |some bs =>
  rw[h1]at h
  induction h2:tS f vs using aa with
  |none=>rw[h2]at h;exact oq h
  |some cs=>rw[h2]at h;exact zk bs cs ((ag h).symm) rfl rfl
theorem wfS{o:Option Bool}{g:Option (List AV)}{bs:List AV}{Q:Prop}(h:(match o with|some true=>g|some false=>some []|none=>none)=some bs)(h1:o=some true->g=some bs->Q)(h2:o=some false->bs=[]->Q):Q:=by
 induction o using aa with
 |none=>exact oq h
 |some b=>induction b using aZ with
  |true=>exact h1 rfl h
  |false=>exact h2 rfl (ag h).symm
theorem L3{oe:Env}{T:Tb}{ρ:oI}{G:GD}{sB:ah}{Φ:rd}{oK iter:Expr}{gens:List bS}{sc:cj}{pos px:cq}{x:Str}{ifs:List Expr}{d i:Nat}{I:aw}{fp:List aw}{Pv:Nat->Value->Prop}{St:Nat->bU->Prop}{vs:List AV}{g:oI->Option (List AV)}{R:Result->ah->Prop}(hE:qc oe T)(hT:wc T)(hx:T.var x=some i)(hk:T.names.lookup x=some .local\/T.names.lookup x=some .cell)(td:ρ[i]?=some none)(hg:gens[d]?=some ⟨.Name x px,iter,ifs,0⟩)(ha:∀g',gens[d+1]?=some g'->g'.is_async=0)(si:∀b,sI oe T D b->sB.heap.get? b=none)(IB:pp G sB.heap)(Oh:∀v,∀c∈ifs,∀b,ev Φ σ (ρ.set i (some v)) (oy T c)=some (.bool b)->TS G A oe T (ρ.set i (some v)) σ (dv c oe (bK c oe)) b)(sR:∀v res,g (ρ.set i (some v))=some res->RS G A sB ot oe T σ β D P oK gens sc pos (d+1) (ρ.set i (some v)) res)(W:Walks oj wd A I fp [I] vs.length Pv St)(xO:∀b∈fp,b=I\/(¬sI oe T D b/\¬G.X b))(yp:¬G.X I)(hI:¬P I)(BG:I∉β)(tz:¬sI oe T D I)(wZ:sB.heap.get? I=none)(vL:∀x c,oe.cells.lookup x=some c->c≠I):
 ∀(k j:Nat) (φ:Gh) (acc res:List AV) (m:Str->Option Value) (s:ah),vs.length-j=k->j<=vs.length->LS G sB ot oe T σ β D φ ρ acc P m s->St j s.heap ->
  tS (λv=>match qZ Φ σ (ρ.set i (some v)) (pk T ifs)with|some true=>g (ρ.set i (some v))|some false=>some []|none=>none) (vs.drop j)=some res->(acc++res).length<=100000 ->
  (∀j x,Pv j x->∃v,vs[j]?=some v/\VR G.tok φ s.heap β P v x) ->
  (∀ow m' s',LS G sB ot oe T σ β D ow ρ (acc++res) P m' s'->(∀b o,b≠I->¬sI oe T D b->¬G.X b->s.heap.get? b=some o->s'.heap.get? b=some o)->s.heap.objs.size<=s'.heap.objs.size->(∀t x,φ t x->ow t x)->R (.ok .next) s') ->
  iK (ar oj wd) A (.compLoop (.ListComp oK gens sc pos) d (.ref I) (.ref D) oe) R s:=by
 intro k
 induction k with
 |zero =>
  intro j φ acc res m s hj Ok L qU vk o3 vR hR;have wu:j=vs.length:=by lia
  rw[wu,mM]at vk;rw[wu]at qU;clear vR o3 hj Ok;have e:res=[]:=(ag vk).symm;subst e;refine kO ?_;show ao _ A ((mZ (.ListComp oK gens sc pos) d (.ref I) (.ref D) oe).onRaise (λx=>do n5 x oe;theTreesLotGoes x)) _ _ s;refine wpAny_noted (Q' hg ?_ ha);refine sG (W.done s _ _ qU λh' t tT u=>?_);have BM:∀b o,b≠I->s.heap.get? b=some o->h'.get? b=some o:=λb o hb e=>tT b o (λq=>hb (aI.mp q)) e;exact hR φ m _ ((bB acc).symm▸L.moved hI BG tz wZ vL yp BM u) (λb o hb Y Y e=>BM b o hb e) u.size λY Y e=>e
 |succ k ih =>
  intro j φ acc res m s hj Ok L qU vk o3 vR hR;have o9:j<vs.length:=K4 hj;rw[eP o9]at vk;refine qe (W0 vk) ?_;rintro bs cs rfl vP N8;clear vk;have rv:∀xv,Pv j xv->VR G.tok φ s.heap β P vs[j] xv:=λxv h=>(vR j xv h).elim λv e=>ag ((au o9).symm.trans e.1)▸e.2;generalize vs[j]=v at *;have fin:∀ow m' s',LS G sB ot oe T σ β D ow (ρ.set i (some v)) (acc++bs) P m' s'->St (j+1) s'.heap->(∀b o,b≠I->¬sI oe T D b->¬G.X b->s.heap.get? b=some o->s'.heap.get? b=some o)->s.heap.objs.size<=s'.heap.objs.size->(∀t x,φ t x->ow t x) ->
   iK (ar oj wd) A (.compLoop (.ListComp oK gens sc pos) d (.ref I) (.ref D) oe) R s':=λow m' s' Cv st kk zz ss=>by
   refine ih (j+1) ow (acc++bs) cs m' s' (zs4 hj) o9 (Cv.forget (by refine oa dM ?_;rfl) λl u hl=>?_) st N8 (by rw[ch];exact o3) (λj x hx=>(vR j x hx).elim λv e=>oV v e.1 (e.2.mono ss (λa o p e=>⟨kk a o (λq=>hI (q▸p)) (λq=>(L.own a q).1 p) (L.er.psafe a p).2 e,p⟩) (aB _))) λyH wA sF G4 waY whB Kv=>?_
   ·by_cases q:i=l
    ·subst q;rw[td]at hl;exact nomatch hl
    ·refine oa (lv q) ?_;exact hl
   ·exact hR yH wA sF (ch acc bs cs▸G4) (λb o hb ho hX e=>waY b o hb ho hX (kk b o hb ho hX e)) (ae zz whB) λt x e=>Kv t x (ss t x e)
  have FT:(acc++bs).length<=100000:=ae (by rewrite [<-ch];refine oa (aq (as:=acc++bs)) ?_;exact aV _ _) o3;clear ih vR N8 o3 hR;refine kO ?_;show ao _ A ((mZ (.ListComp oK gens sc pos) d (.ref I) (.ref D) oe).onRaise (λx=>do n5 x oe;theTreesLotGoes x)) _ _ s;refine wpAny_noted (Q' hg ?_ ha);refine sG (W.item j s _ _ o9 qU λxv h' t FD AB tT u=>?_);have BM:∀b o,b≠I->s.heap.get? b=some o->h'.get? b=some o:=λb o hb e=>tT b o (λq=>hb (aI.mp q)) e;have Ni:∀ow m' s',LS G sB ot oe T σ β D ow (ρ.set i (some v)) (acc++bs) P m' s'->(∀b o,¬sI oe T D b->¬G.X b->h'.get? b=some o->s'.heap.get? b=some o)->h'.objs.size<=s'.heap.objs.size->(∀t x,φ t x->ow t x) ->
   iK (ar oj wd) A (.compLoop (.ListComp oK gens sc pos) d (.ref I) (.ref D) oe) R s':=λow m' s' Cv kk zz ss =>
   fin ow m' s' Cv (W.frame _ _ _ AB λb hb o e=>kk b o ((xO b hb).elim (λq=>q▸tz) (·.1)) ((xO b hb).elim (λq=>q▸yp) (·.2)) e) (λb o hb ho hX e=>kk b o ho hX (BM b o hb e)) (ae u.size zz) ss
  dsimp only;refine(L.moved hI BG tz wZ vL yp BM u).store hE hT hx hk si ((rv xv FD).mono (λY Y e=>e) (λa o p e=>⟨BM a o (λq=>hI (q▸p)) e,p⟩) (aB _)) λoJ rm xx Ps QR=>?_;clear fin rv AB FD;refine wfS vP (λIP vP=>?_) λIP vP=>?_
  ·refine(Jy (Φ:=Φ) (Oh v) IP).post (xx.inv IB) xx.er λro sU qA Cu vB=>?_;refine oa (if_pos rfl) ?_;exact sR v bs vP sU acc rm ro (λs'=>(Code.compLoop (.ListComp oK gens sc pos) d (.ref I) (.ref D) oe).quiet=true/\iK (ar oj wd) A (.compLoop (.ListComp oK gens sc pos) d (.ref I) (.ref D) oe) R s') (notedBy (ar oj wd) A oe λe s'=>R (.error e) s') (xx.go qA) FT
    λyH wA sF G4 Pt Kv=>⟨rfl,Ni yH wA sF G4 (λb o ho hX e=>Pt.keep b o ho hX (qA.ext b o hX (Ps b o ho e))) (ae QR (ae qA.grows.size Pt.size)) λt x e=>Kv t x (qA.sub t x e)⟩
  ·refine(Jy (Φ:=Φ) (Oh v) IP).post (xx.inv IB) xx.er λro sU qA Cu vB=>?_;refine oa (if_neg bA) ?_;exact⟨rfl,Ni sU rm ro (by refine oa vP ?_;refine oa (bB _) ?_;exact xx.go qA) (λb o ho hX e=>qA.ext b o hX (Ps b o ho e)) (ae QR qA.grows.size) qA.sub⟩
noncomputable def pr(G:GD)(A:br)(Φ:rd)(σ:oH)(e:Expr):Prop :=
 ∀oe T ρ v,qc oe T->ev Φ σ ρ (oy T e)=some v->ES G A oe T ρ σ (bK e oe) v/\∀b,v=.bool b->TS G A oe T ρ σ (dv e oe (bK e oe)) b
theorem DV(h:ev Φ σ ρ (oy T e)=some v):tU e=true:=by
 cases e<;>first|rfl|exact oq h
theorem Np(h:ev Φ σ ρ (oy T e)=some v):eM e oe x=pure x:=by
 cases e<;>first|rfl|exact oq h
theorem We(h:qj Φ σ ρ (pk T (e::es))=some vs):∃u us,vs=u::us/\ev Φ σ ρ (oy T e)=some u/\qj Φ σ ρ (pk T es)=some us:=by
 rw[Ej,y1]at h
 induction hu:ev Φ σ ρ (oy T e)using aa with
 |none=>rw[hu]at h;exact oq h
 |some u =>
  induction qH:qj Φ σ ρ (pk T es)using aa with
  |none=>rw[hu,qH]at h;exact oq h
  |some us=>rw[hu,qH]at h;exact zk u us ((ag h).symm) rfl rfl
theorem wT(hE:qc oe T):∀{vs:List AV},(∀e∈es,pr G A Φ σ e)->qj Φ σ ρ (pk T es)=some vs->es.all tU=true/\∀pos,uz G A oe T ρ σ (eC (eF pos (b_ es oe))) vs:=by
 induction es with
 |nil=>exact λY e=>⟨rfl,λpos=>oN (show some []=some _ from e) VG⟩
 |cons e es ih =>
  intro vs h he;refine qe (We he) ?_;rintro u us rfl h1 h2;refine p_ (ih (λe he=>h e (aP _ he)) h2) λi1 i2=>?_;have hs:=DV h1;exact⟨dR.mpr ⟨hs,i1⟩,λpos=>VF (vt hs) (h e ax oe T ρ u hE h1).1 (i2 pos)⟩
noncomputable def Pg:Fn->Bool
 | .range=>true
 |_=>false
theorem Xb(h:t_.lookup x=some .range):x=("range":Str):=
 eq_of_beq (aj.mp (show t_.all (λe=>!Pg e.2||e.1==("range":Str))=true by decide +kernel) _ (mem_of_lookup h))
theorem wck(h:vq.lookup x=some .range):False :=
 qb (aj.mp (show vq.all (λe=>!Pg e.2)=true by decide +kernel) _ (mem_of_lookup h))
theorem KP(h:oy T e=.call .range as):∃p b bs pos,e=.Call (.Name ("range":Str) p) (b::bs) [] pos/\T.isGlobal ("range":Str)=true/\as=pk T (b::bs):=by
 rcases GP h with⟨x,p,a,bs,pos,e1,hg,hl,e2⟩|⟨m,hl⟩|h|⟨h,_⟩
 ·have:=Xb hl;rw[this]at e1 hg;exact JA _ _ _ _ e1 hg e2
 ·exact(wck hl).elim
 ·exact qb h
 ·exact qb h
theorem Pn(hA:A.handled=none)(hE:qc oe T)(hG:rO G)(hI:pr G A Φ σ it)(NR:∀f p as pos,it=.Call (.Name f p) as [] pos->∀a∈as,pr G A Φ σ a)(e:r9 Φ σ ρ (tJ (oy T it))=some vs)(I:pp G s.heap)(R:ER G φ oe T ρ σ β P m s)(hQ:∀x s' ow,GX G s φ s' ow->(∀x,eM it oe x=pure x)->ao (ar oj wd) A (gD x) (wJ A G.tok ow β P (λb=>P b\/b∈β) s' vs) oE s'->Q x s'):
 ao (ar oj wd) A (bK it oe) Q E s:=by
 induction hq:tJ (oy T it)using It.casesOn with
 |range as =>
  refine wX (KP (DO hq)) ?_;rintro p b bs pos rfl hg rfl;rw[hq,CZ]at e;clear hq hI
  induction qH:qj Φ σ ρ (pk T (b::bs))using aa with
  |none=>rw[qH]at e;exact oq e
  |some us =>
   rw[qH]at e;refine oB (aK.mp e) ?_;rintro is sS rfl;refine p_ (wT (G:=G) (A:=A) hE (λa ha=>NR _ _ _ _ rfl a ha) qH) λh1 h2=>?_;exact HI hE hG hg h1 (h2 _) sS I R λv s' ow k rr=>hQ v s' ow k (λY=>rfl) (QI hA rr)
 |rev a=>rw[hq]at e;exact oq e
 |val x =>
  rw[hq,show x=oy T it from DO hq,C0]at e;clear hq NR
  induction hx:ev Φ σ ρ (oy T it)using aa with
  |none=>rw[hx]at e;exact oq e
  |some x =>
   rw[hx]at e;refine(hI oe T ρ x hE hx).1.post I R λv s' ow k I' R' r=>hQ v s' ow k (λY=>Np hx) ?_;refine up (QJ hA R'.objs R'.psys e r) λit qV h=>?_;refine H7 h λo fp Pv St h1 h2 h3 h4 h5 h6=>?_;exact⟨o,fp,Pv,St,h1,h2,h3,h4,λb hb=>(h5 b hb).imp id λq=>⟨q.1.imp id (·.2),q.2⟩,h6⟩
theorem L1(hg:gens[d]?=some ⟨.Name x px,iter,ifs,0⟩)(h0:iK (ar oj wd) A (.compLoop (.ListComp oK gens sc pos) d it acc oe) R s)(h:ao (ar oj wd) A (gD it) (λDN s'=>iK (ar oj wd) A (.compLoop (.ListComp oK gens sc pos) d DN acc oe) R s') (notedBy (ar oj wd) A oe λx s'=>R (.error x) s') s):
 iK (ar oj wd) A (.compStart (.ListComp oK gens sc pos) d it acc oe) R s:=by
 refine kO ?_;show ao _ _ ((compStart (.ListComp oK gens sc pos) d it acc oe).onRaise (λx=>do n5 x oe;jd theWindowsPlace)) _ _ s;refine wpAny_notedAt ?_;unfold compStart;refine oa (show clausesOf (.ListComp oK gens sc pos)=gens from rfl) ?_;refine oa hg ?_;dsimp only[Option.elim];show ao _ _ (ask >>= _) _ _ s;refine an (nZ (wpAny_ite ?_));split
 ·first
   |exact an (aQ (aQ (And.intro rfl h0)))
   |exact aQ (And.intro rfl h0)
 ·first
   |exact an (iJ (an (cT (an (b9 h (λDN s' h'=>aQ (And.intro rfl h')) λY Y x=>x)))))
   |(refine an (iJ ?_);show ao _ _ (jd iter.pos >>= _) _ _ s;exact an (cT (an (b9 h (λDN s' h'=>aQ (And.intro rfl h')) λY Y x=>x))))
set_option tactic.hygienic true in
theorem DY{T:Tb}(h:T.own x=some i):T.var x=some i/\(T.names.lookup x=some .local\/T.names.lookup x=some .cell):=by
 unfold Tb.own at h;split at h
 ·rename_i hk;rw[du]at hk;exact⟨h,hk.imp (λq=>eq_of_beq q) λq=>eq_of_beq q⟩
 ·cases h
theorem yI.sub(F:yI oe T β P)(hk:∀a,P' a->P a):yI oe T β P' :=
 ⟨λp=>F.ploc (hk _ p),F.bloc,λx hx=>let⟨c,a,b,d⟩:=F.own x hx;⟨c,a,λp=>b (hk _ p),d⟩⟩
theorem LS.push_out{acc:List AV}(L:LS G sB ot oe T σ β D φ ρ acc P m s):
 LS G sB ot oe T σ β D φ ρ acc (tE P s.heap.objs.size (s.heap.objs.size+1)) m {s with heap:=s.heap.push o}:=by
 have hz:(s.heap.push o).objs.size=s.heap.objs.size+1:=bg ..;have ext:qt s.heap (s.heap.push o):=λb o e=>av _ e;have R:=L.er.grow_out (h':=s.heap.push o) (t:=s.toks) L.tabs.1 ext (by refine oa hz ?_;exact bw _) (ai _);rw[hz]at R;refine oB L.acc λxs a1 a2=>?_;refine⟨?_,λb o hb e=>ext b o (L.old b o hb e),ae L.size (by show _<=(s.heap.push o).objs.size;refine oa hz ?_;exact bw _),L.sub,R,L.fr.sub λa p=>p.1,λp=>L.dP p.1,L.dβ,⟨xs,a1.at λo=>ext _ o,a2.mono (λY Y e=>e) (λa o p e=>⟨ext _ _ e,p,λq=>bu.mpr q.1 (aN e)⟩) (aB _)⟩,L.tabs.1.keeps ext,λc q=>L.tabs.2 c (vw ext L.tabs.1 c q)⟩;refine sb L.base λhh tt e=>?_;exact wz (s.heap.push o) s.toks (by refine oa e ?_;rfl)
theorem wgv{gens:List bS}(h:gens[d]?=none):vy T oK (gens.drop d)=.done oK:=by
 refine oa (fB (ku.mp h)) ?_;rfl
theorem US{gens:List bS}(h:gens[d]?=some g):gens.drop d=g::gens.drop (d+1):=by
 refine o6 (aS.mp h) ?_;rintro hl rfl;exact eP hl
theorem VS(h:uI Φ σ ρ (vy T oK (g::gs))=some res):∃x px it ifs i,g=⟨.Name x px,it,ifs,0⟩/\T.own x=some i/\uI Φ σ ρ (.cons i (tJ (oy T it)) (pk T ifs) (vy T oK gs))=some res:=by
 have t:=wgu (T:=T) (oK:=oK) (g:=g) (gs:=gs);generalize vy T oK (g::gs)=z at t h;cases t with
 |bad=>exact oq h
 |mk hi=>exact O' _ _ _ _ _ rfl hi h
theorem VQ(h:uI Φ σ ρ (.cons x it ifs oG)=some res):∃vs,r9 Φ σ ρ it=some vs/\ρ[x]?=some none/\vs.length<=100000/\tS (λv=>match qZ Φ σ (ρ.set x (some v)) ifs with
 |some true=>uI Φ σ (ρ.set x (some v)) oG
 |some false=>some []
 |none=>none) vs=some res:=by
 rw[Mx]at h
 induction hv:r9 Φ σ ρ it using aa with
 |none=>rw[hv]at h;exact oq h
 |some vs =>
  rw[hv]at h
  induction hx:ρ[x]? using aa with
  |none=>rw[hx]at h;exact oq h
  |some o =>
   rw[hx]at h
   induction o using aa with
   |none=>exact qd h λhl e=>F8 vs rfl rfl hl e
   |some _=>exact oq h
theorem wer{A:br}{oe:Env}{T:Tb}{sB:ah}{gens:List bS}(hA:A.handled=none)(hE:qc oe T)(hT:wc T)(hG:rO G)(has:∀g∈gens,g.is_async=0)(hcl:∀x c,oe.cells.lookup x=some c->T.celled x=true)(si:∀b,sI oe T D b->sB.heap.get? b=none)(IB:pp G sB.heap)(Ao:pr G A Φ σ oK)(wt:∀g∈gens,pr G A Φ σ g.iter/\(∀f p as pos,g.iter=.Call (.Name f p) as [] pos->∀a∈as,pr G A Φ σ a)/\∀c∈g.ifs,pr G A Φ σ c):
 ∀(k d:Nat) (P:aw->Prop) (ρ:oI) (res:List AV),gens.length-d=k->uI Φ σ ρ (vy T (oy T oK) (gens.drop d))=some res->RS G A sB ot oe T σ β D P oK gens sc pos d ρ res:=by
 intro k
 induction k with
 |zero =>
  intro d P ρ res hk he φ acc m s Q E L o3 hQ;have Oy:gens[d]?=none:=ku.mpr (by lia);rw[wgv Oy]at he;refine oa Oy ?_;dsimp only;simp only[VT]at he;refine oB (aK.mp he) ?_;rintro v hv rfl;refine(Ao oe T ρ v hE hv).1.post (L.inv IB) L.er λx ou oF oD ph oP oM=>?_;refine(L.go oD).append si oM (by rw[aq]at o3;exact bb o3) λy oJ xx kp sz=>?_;exact hQ oF m oJ xx ⟨λb o hb hX e=>kp b o hb (oD.ext b o hX e),ae oD.grows.size sz⟩ oD.sub
 |succ k ih =>
  intro d P ρ res hk he φ acc m s Q E L o3 hQ;have o9:d<gens.length:=K4 hk;obtain⟨g,hg⟩:∃g,gens[d]?=some g:=⟨_,au o9⟩
  rw[US hg]at he;refine oa hg ?_;dsimp only;refine C6 (VS he) ?_;rintro x px iter ifs i rfl wx he;refine p_ (DY wx) λhx BN=>?_;refine tR (wt _ (aY hg)) λg1 g2 g3=>?_;obtain⟨vs,qm,td,hvl,he⟩:=VQ he;refine Pn hA hE hG g1 g2 qm (L.inv IB) L.er λxv ou oF oD hf Jn=>?_;refine oa (hf xv) ?_;refine aQ ?_;have u5:=L.go oD;refine up Jn λAF oJ hs=>?_;obtain⟨o,fp,Pv,St,rfl,rfl,W,qU,xO,vR⟩:=hs;have xx:=u5.push_out (o:=o);have hID:ou.heap.objs.size≠D:=λq=>by
   obtain⟨xs,a1,_⟩:=u5.acc;obtain⟨n,ho⟩:=a1;exact aJ _ (q▸aN ho)
  have wdh:∀b,sI oe T D b->b<ou.heap.objs.size:=λb hb=>by
   rcases hb with rfl|rfl|⟨x,h1,h2⟩
   ·obtain⟨xs,a1,_⟩:=u5.acc;obtain⟨n,ho⟩:=a1;exact aN ho
   ·exact u5.er.ns.lt
   ·obtain⟨c,rq,e1,e2⟩:=u5.er.celled x (by unfold Tb.celled;refine oa h1 ?_;rfl);rw[h2]at e1;cases e1;exact e2.lt
  have tz:¬sI oe T D ou.heap.objs.size:=λq=>aJ _ (wdh _ q);have wZ:sB.heap.get? ou.heap.objs.size=none:=J8 u5.size;have vL:∀x c,oe.cells.lookup x=some c->c≠ou.heap.objs.size:=λx c hc q=>by
   obtain⟨c',rq,e1,e2⟩:=u5.er.celled x (hcl x c hc);rw[hc]at e1;cases e1;exact aJ _ (q▸e2.lt)
  have ext:qt ou.heap (ou.heap.push o):=λb o e=>av _ e;have PH:∀R:Result->ah->Prop,(∀ow m' s',LS G sB ot oe T σ β D ow ρ (acc++res) (tE P ou.heap.objs.size (ou.heap.objs.size+1)) m' s'->(∀b o',b≠ou.heap.objs.size->¬sI oe T D b->¬G.X b->(ou.heap.push o).get? b=some o'->s'.heap.get? b=some o')->(ou.heap.push o).objs.size<=s'.heap.objs.size->(∀t x,oF t x->ow t x)->R (.ok .next) s') ->
   iK (ar oj wd) A (.compLoop (.ListComp oK gens sc pos) d (.ref ou.heap.objs.size) (.ref D) oe) R {ou with heap:=ou.heap.push o}:=λR hR =>
   L3 (Φ:=Φ) (g:=λρ=>uI Φ σ ρ (vy T (oy T oK) (gens.drop (d+1)))) hE hT hx BN td hg
    (λg' ze=>has g' (aY ze))
    si IB (λv c hc b hb=>(g3 c hc oe T _ _ hE hb).2 b rfl) (λv res vk=>ih (d+1) _ _ res (by rewrite [Nat.sub_add_eq];refine oa hk ?_;rfl) vk)
    W (λb hb=>(xO b hb).imp id λq=>⟨λq'=>by
     rcases q.1 with p|p
     ·exact(u5.own b q').1 p
     ·exact(u5.own b q').2 p,q.1.elim (λp=>(u5.er.psafe b p).2) λp=>(u5.er.bsafe b (.inl p)).2⟩) (u5.er.psafe _ (u5.er.fresh _ (ai _))).2
    (λp=>p.2 ⟨ai _,bT _⟩) (λp=>aJ _ (u5.er.blt _ p)) tz wZ vL
    vs.length 0 oF acc res m _ rfl (dh _) xx qU he o3
    (λj x hx=>by
     obtain⟨v,h1,h2⟩:=vR j x hx;exact oV v h1 (h2.mono (λY Y e=>e) (λa o p e=>⟨ext _ _ e,p,λq=>bu.mpr q.1 (aN e)⟩) (aB _)))
    hR
  have back:∀ow m' s',LS G sB ot oe T σ β D ow ρ (acc++res) (tE P ou.heap.objs.size (ou.heap.objs.size+1)) m' s'->(∀b o',b≠ou.heap.objs.size->¬sI oe T D b->¬G.X b->(ou.heap.push o).get? b=some o'->s'.heap.get? b=some o')->(ou.heap.push o).objs.size<=s'.heap.objs.size->(∀t x,oF t x->ow t x)->Q s':=λow m' s' Cv kk zz ss =>
   hQ ow m' s' (Cv.weak (λa p=>p.1) L.er.psafe L.fr L.dP) ⟨λb o' hb hX e=>kk b o' (λq=>aJ _ (ab (q▸aN e:ou.heap.objs.size<s.heap.objs.size) oD.grows.size)) hb hX (ext _ _ (oD.ext _ _ hX e)),ae oD.grows.size (ae (by refine oa (bg _ _) ?_;exact bw _) zz)⟩ λt x e=>ss t x (oD.sub t x e)
  refine wpAny_runOwn ?_ (λq=>nomatch q);refine oa (Around.mark_none _) ?_;exact L1 hg (PH _ back) (W.self 0 _ _ _ qU (PH _ back))
structure CD(G:GD) (s:ah) (φ:Gh) (β:List aw) (P:aw->Prop) (vs:List AV) (ow:Gh) (s':ah) (D C:aw) (m':Str->Option Value) (P':aw->Prop):Prop where
 go:GX G s φ s' ow
 cNew:s.heap.objs.size<=C
 dNew:s.heap.objs.size<=D
 cd:C≠D
 ns:s'.heap.Ns C m'
 sub:∀a,P' a->P a
 pC:¬P' C
 pD:¬P' D
 items:∃xs,s'.heap.PlainList D xs.toArray/\oA G.tok ow s'.heap β P' vs xs
theorem VP{T T':Tb}{n:Nat}{oK:Ex}{gens:List bS}{res:List AV}{Q:List bS->Prop}(h:tr Φ σ ρ n (vz T T' oK gens)=some res)(k:∀x px it ifs gs i,T'.own x=some i->tr Φ σ ρ n (.cons i (tJ (oy T it)) (pk T' ifs) (vy T' oK gs))=some res->Q (⟨.Name x px,it,ifs,0⟩::gs)):Q gens:=by
 induction gens using af with
 |nil=>exact oq h
 |cons g gs =>
  have t:=wgt (T:=T) (T':=T') (oK:=oK) (g:=g) (gs:=gs);generalize vz T T' oK (g::gs)=z at t h;cases t with
  |bad=>exact oq h
  |mk hi=>exact k _ _ _ _ _ _ hi h
theorem VO{x n:Nat}{it:It}{ifs:qh}{oG:wI}{res:List AV}{Q:Prop}(h:tr Φ σ ρ n (.cons x it ifs oG)=some res)(k:∀vs,r9 Φ σ ρ it=some vs->(ρ++aA n none)[x]?=some none->vs.length<=100000->tS (λv=>match qZ Φ σ ((ρ++aA n none).set x (some v)) ifs with
 |some true=>uI Φ σ ((ρ++aA n none).set x (some v)) oG
 |some false=>some []
 |none=>none) vs=some res->res.length<=100000->Q):Q:=by
 rw[HK]at h
 induction hv:r9 Φ σ ρ it using aa with
 |none=>rw[hv]at h;exact oq h
 |some vs =>
  rw[hv]at h
  induction hx:(ρ++aA n none)[x]? using aa with
  |none=>rw[hx]at h;exact oq h
  |some o =>
   rw[hx]at h
   induction o using aa with
   |none =>
    refine qd h λhl e=>?_;generalize hr:tS _ vs=r at e
    induction r using aa with
    |none=>exact oq e
    |some rs=>exact qd e λh1 h2=>k vs hv hx hl (ag h2▸hr) (ag h2▸h1)
   |some _=>exact oq h
theorem Xt(h:r9 Φ σ ρ (tJ (oy T iter))=some vs):eM iter oe x=pure x:=by
 cases iter<;>first|rfl|exact oq h
structure Rv(G:GD) (s:ah) (φ:Gh) (uG:Env) (T:Tb) (σ:oH) (β:List aw) (I D L:aw) (oF:Gh) (ρ:oI) (P:aw->Prop) (o7 h:bU) (s':ah):Prop where
 hE:qc uG T
 ls:LS G s φ uG T σ β D oF ρ [] P (λY=>none) s'
 own:∀b,sI uG T D b->I<b
 cel:∀y c,uG.cells.lookup y=some c->T.celled y=true/\c≠I
 loc:uG.locals=L
 ext:qt o7 h
 ne:L≠D
 new:s.heap.objs.size<=I/\I<D/\I<L
 pI:¬P I
 nb:I∉β
 psub:∀a,P a->a<I\/¬a<h.objs.size
theorem Ua(hE:qc oe T)(C:xt T sc)(I:pp G s.heap)(R:ER G φ oe T ρ σ β P m s)(oD:GX G s φ ou oF)(BF:(ou.heap.push o).push {cls:=.type "list",dict:=none,data:=.seq ([]:List Value).toArray}=qu):
 Rv G s φ (zU sc (rC oe sc.names []) qu.objs.size oe) (T.comp sc) σ β ou.heap.objs.size (ou.heap.push o).objs.size qu.objs.size oF (ρ++aA (sD sc).length none) (tE P ou.heap.objs.size (s_ qu sc).objs.size) (ou.heap.push o) (s_ qu sc) {ou with heap:=s_ qu sc}:=by
 have hD:(ou.heap.push o).objs.size=ou.heap.objs.size+1:=bg ..;have hC:qu.objs.size=ou.heap.objs.size+2:=by refine rwj BF ?_;refine oa (bg _ _) ?_;refine oa (bg _ _) ?_;rfl
 have Ai:qt ou.heap (ou.heap.push o):=λb o e=>av _ e;have y4:qt (ou.heap.push o) qu:=λb o e=>BF▸av _ e;have y5:qt qu (s_ qu sc):=Nv qu sc;have whX:=Nw qu sc;have CB:pJ G ou.heap:=(oD.tabs I.tabs).1;have oP:=R.go oD I.tabs;have vB:ER G oF oe T ρ σ β P m {ou with heap:=qu}:=oP.go (GX.same oP.tk ⟨⟨qu,ou.toks,rfl,Ai.trans y4⟩,by show _<=qu.objs.size;simp[*]⟩ (ai _)) CB;have RM:ER G oF oe T ρ σ β (tE P ou.heap.objs.size (s_ qu sc).objs.size) m {ou with heap:=s_ qu sc}:=oP.grow_out CB ((Ai.trans y4).trans y5) (by lia) (ai _);have IF:=Vb (s:={ou with heap:=qu}) hE C vB;have RC:=Vl (s:={ou with heap:=qu}) hE C vB RM;have FC:=XB (s:={ou with heap:=qu}) C vB (P':=tE P ou.heap.objs.size (s_ qu sc).objs.size) λa p q=>p.2 ⟨by have:=q.1;show ou.heap.objs.size<=a;have:qu.objs.size<=a:=q.1;lia,q.2⟩;refine Bu (Gn (s:={ou with heap:=qu}) C vB) λc1 c2 c3 c4=>?_;dsimp only at c1 c2 c3 c4 IF RC FC;generalize FG:zU sc (rC oe sc.names []) qu.objs.size oe=uG at IF RC FC;have hcl:uG.cells=xB sc (rC oe sc.names []) qu.objs.size:=by refine rwj FG ?_;rfl
 have FW:uG.locals=qu.objs.size:=by refine rwj FG ?_;rfl
 have X7:(s_ qu sc).PlainList (ou.heap.push o).objs.size #[]:=⟨_,y5 _ _ (by refine rwj BF ?_;exact bx _ rfl)⟩
 have pi:s.heap.objs.size<=ou.heap.objs.size:=oD.grows.size;have nb:∀b,ou.heap.objs.size<=b->b∉β:=λb hb hm=>aJ _ (ab (R.blt b hm) (ae pi hb));have q1:ou.heap.objs.size<=(ou.heap.push o).objs.size:=by simp
 have q2:(ou.heap.push o).objs.size<(s_ qu sc).objs.size:=by lia
 have q3:ou.heap.objs.size<(ou.heap.push o).objs.size:=bd (id (i6 hD));have q4:ou.heap.objs.size<qu.objs.size:=by simp[*]
 have q7:qu.objs.size≠(ou.heap.push o).objs.size:=by lia
 exact{
  hE:=IF
  ls:={
   base:=by
    refine pK oD.grows.keeps λhh tt e Y=>?_;exact wz (s_ qu sc) ou.toks (by refine oa e ?_;rfl)
   old:=λb o hb e=>y5 _ _ (y4 _ _ (Ai _ _ (oD.ext _ _ hb e)))
   size:=by show s.heap.objs.size<=(s_ qu sc).objs.size;lia
   sub:=oD.sub
   er:=RC
   fr:=FC
   dP:=λp=>p.2 ⟨q1,q2⟩
   dβ:=nb _ q1
   acc:=oV [] X7 (.nil)
   tabs:=⟨CB.keeps ((Ai.trans y4).trans y5),λc q=>(oD.tabs I.tabs).2 c (vw ((Ai.trans y4).trans y5) CB c q)⟩}
  own:=λb hb=>by
   rcases hb with rfl|rfl|⟨y,h1,h2⟩
   ·exact q3
   ·refine oa FW ?_;exact q4
   ·rw[hcl]at h2;refine s9 (c2 y (mem_of_lookup h1)) λc h3 h4 Y=>?_;refine oa (ag (h2.symm.trans h3)) ?_;exact bW q4 h4
  cel:=λy c hc=>by
   rw[hcl]at hc;have cl:∀{k},(y,k)∈sc.names->(k==.cell||k==.free)=true->(T.comp sc).celled y=true:=λq hk=>by
    show(sc.names.lookup y==_||sc.names.lookup y==_)=true;refine oa (xZ C.nodup q) ?_;exact hk
   rcases c1 y c hc with⟨q,q5,_⟩|⟨q,q',_⟩
   ·exact⟨cl q rfl,λz=>il q4 (z▸q5)⟩
   ·refine⟨cl q rfl,λz=>?_⟩;refine pK (oP.celled y (C.free y q)) λc' rq e1 e2=>?_;exact aJ _ ((ag (q'.symm.trans e1)).symm.trans z▸e2.lt)
  loc:=FW
  ext:=λb o e=>y5 _ _ (y4 _ _ e)
  ne:=q7
  new:=qJ pi q3 q4
  pI:=λp=>p.2 ⟨ai _,bW q3 q2⟩
  nb:=nb _ (ai _)
  psub:=λa p=>(d9 a ou.heap.objs.size).imp id λh q=>p.2 ⟨h,q⟩}
theorem T_(hA:A.handled=none)(hE:qc oe T)(hG:rO G)(C:xt T sc)(has:∀g∈(⟨.Name x px,iter,ifs,0⟩::gs:List bS),g.is_async=0)(Ao:pr G A Φ σ oK)(wt:∀g∈(⟨.Name x px,iter,ifs,0⟩::gs:List bS),pr G A Φ σ g.iter/\(∀f p as pos,g.iter=.Call (.Name f p) as [] pos->∀a∈as,pr G A Φ σ a)/\∀c∈g.ifs,pr G A Φ σ c)(wx:(T.comp sc).own x=some i)(qH:r9 Φ σ ρ (tJ (oy T iter))=some us)(td:(ρ++aA (sD sc).length none)[i]?=some none)(vk:tS (λv=>match qZ Φ σ ((ρ++aA (sD sc).length none).set i (some v)) (pk (T.comp sc) ifs)with
 |some true=>uI Φ σ ((ρ++aA (sD sc).length none).set i (some v)) (vy (T.comp sc) (oy (T.comp sc) oK) gs)
 |some false=>some []
 |none=>none) us=some vs) (oU:vs.length<=100000) (I:pp G s.heap) (R:ER G φ oe T ρ σ β P m s) (hQ:∀ow s' D C m' P',CD G s φ β P vs ow s' D C m' P'->compPost (ar oj wd) A E yF Q (.ref D) C (.ok .next) s'):
 ao (ar oj wd) A (jv (.ListComp oK (⟨.Name x px,iter,ifs,0⟩::gs) sc pos) sc oe zy (nO []) false (lV (⟨.Name x px,iter,ifs,0⟩::gs) oe) yF) Q E s:=by
 have BN:=DY wx;have hg:=wt _ ax;have Yv:fD sc oe=pure (rC oe sc.names []):=LX λn hn=>(R.celled n (C.free n hn)).elim λc e=>⟨c,e.elim λY e=>e.1⟩
 refine wpAny_comprehension_free rfl (λy=>Xt qH) Yv C.kind (λy hy hl=>xZ C.nodup (hl▸hy)) ?_;show ao _ _ (bK iter oe) _ _ _;refine Pn hA hE hG hg.1 hg.2.1 qH I R λxv ou oF oD hf Jn=>up Jn λAF oJ hs=>?_;refine src_elim hs λo fp Pv St W qU xO vR=>?_;refine jO (nfe ?_);generalize BF:(ou.heap.push o).push {cls:=.type "list",dict:=none,data:=.seq ([]:List Value).toArray}=qu;have sA:=Ua (o:=o) hE C I R oD BF;have CB:pJ G ou.heap:=(oD.tabs I.tabs).1;have oP:=R.go oD I.tabs;generalize FG:zU sc (rC oe sc.names []) qu.objs.size oe=uG at sA;have AB:St 0 (s_ qu sc):=W.frame _ _ _ qU λb Y o e=>sA.ext _ _ e;have si:∀b,sI uG (T.comp sc) (ou.heap.push o).objs.size b->s.heap.get? b=none:=λb hb=>J8 (ae sA.new.1 (bb (sA.own b hb)));have Op:∀R:Result->ah->Prop,(∀ow m' s',LS G s φ uG (T.comp sc) σ β (ou.heap.push o).objs.size ow (ρ++aA (sD sc).length none) vs (tE P ou.heap.objs.size (s_ qu sc).objs.size) m' s'->R (.ok .next) s') ->
  iK (ar oj wd) A (.compLoop (.ListComp oK (⟨.Name x px,iter,ifs,0⟩::gs) sc pos) 0 (.ref ou.heap.objs.size) (.ref (ou.heap.push o).objs.size) uG) R {ou with heap:=s_ qu sc}:=λRR Yg =>
  L3 (Φ:=Φ) (g:=λρ=>uI Φ σ ρ (vy (T.comp sc) (oy (T.comp sc) oK) gs)) sA.hE C.tb BN.1 BN.2 td (by rfl) (λg' ze=>has g' (aY ze)) si I
   (λv c hc b hb=>(hg.2.2 c hc uG (T.comp sc) _ _ sA.hE hb).2 b rfl) (λv res vk=>wer hA sA.hE C.tb hG has (λy c hc=>(sA.cel y c hc).1) si I Ao wt _ 1 _ _ res rfl vk) W (λb hb=>(xO b hb).imp id λq=>⟨λq'=>il q.2 (sA.own b q'),q.1.elim (λp=>(oP.psafe b p).2) λp=>(oP.bsafe b (.inl p)).2⟩) (oP.psafe _ (oP.fresh _ (ai _))).2
   sA.pI sA.nb (λq=>aJ _ (sA.own _ q)) (J8 sA.new.1) (λy c hc=>(sA.cel y c hc).2)
   us.length 0 oF [] vs _ _ rfl (dh _) sA.ls AB vk (by simpa using oU) (λj y hy=>(vR j y hy).elim λv e=>oV v e.1 (e.2.mono (λY Y e=>e) (λa o p e=>⟨sA.ext _ _ (av _ e),p,λq=>bu.mpr q.1 (aN e)⟩) (aB _))) λow m' s' L' Y Y Y=>Yg ow m' s' (by simpa using L')
 have Oa:∀ow m' s',LS G s φ uG (T.comp sc) σ β (ou.heap.push o).objs.size ow (ρ++aA (sD sc).length none) vs (tE P ou.heap.objs.size (s_ qu sc).objs.size) m' s'->compPost (ar oj wd) A E yF Q (.ref (ou.heap.push o).objs.size) qu.objs.size (.ok .next) s':=λow m' s' L' =>
  hQ ow s' _ _ m' _ ⟨L'.done,ae sA.new.1 (bb sA.new.2.2),ae sA.new.1 (bb sA.new.2.1),sA.ne,sA.loc▸L'.er.ns,λa p=>p.1,sA.loc▸L'.fr.ploc,L'.dP,L'.acc⟩
 have:=L1 (oe:=uG) (gens:=⟨.Name x px,iter,ifs,0⟩::gs) (d:=0) rfl (Op _ Oa) (W.self 0 _ _ _ AB (Op _ Oa));rw[<-FG]at this;subst BF;exact this
theorem Hx{A:br}{T:Tb}{s:ah}{oK:Expr}{gens:List bS}{sc:cj}{pos zy:cq}{vs:List AV}{yF:Option (Value->fe Unit)}{Q:Value->ah->Prop}{E:Value->ah->Prop}(hA:A.handled=none)(hE:qc oe T)(hG:rO G)(C:xt T sc)(has:∀g∈gens,g.is_async=0)(Ao:pr G A Φ σ oK)(wt:∀g∈gens,pr G A Φ σ g.iter/\(∀f p as pos,g.iter=.Call (.Name f p) as [] pos->∀a∈as,pr G A Φ σ a)/\∀c∈g.ifs,pr G A Φ σ c)(e:tr Φ σ ρ (sD sc).length (vz T (T.comp sc) (oy (T.comp sc) oK) gens)=some vs)(I:pp G s.heap)(R:ER G φ oe T ρ σ β P m s)(hQ:∀ow s' D C m' P',CD G s φ β P vs ow s' D C m' P'->compPost (ar oj wd) A E yF Q (.ref D) C (.ok .next) s'):
 nz gens=false/\ao (ar oj wd) A (jv (.ListComp oK gens sc pos) sc oe zy (nO []) false (lV gens oe) yF) Q E s :=
 VP (Q:=λgens=>(∀g∈gens,g.is_async=0)->(∀g∈gens,pr G A Φ σ g.iter/\(∀f p as pos,g.iter=.Call (.Name f p) as [] pos->∀a∈as,pr G A Φ σ a)/\∀c∈g.ifs,pr G A Φ σ c)->nz gens=false/\ao (ar oj wd) A (jv (.ListComp oK gens sc pos) sc oe zy (nO []) false (lV gens oe) yF) Q E s) e
  (λx px iter ifs gs i wx e has wt=>⟨rfl,VO e λus qH td Y vk oU=>T_ hA hE hG C has Ao wt wx qH td vk oU I R hQ⟩) has wt
section
variable {A:br}{oe:Env}{T:Tb}{ρ:oI}{σ:oH}{G:GD}{s:ah}{φ ow:Gh}{β oO:List aw}{P P':aw->Prop}{m:Str->Option Value}{tk:aw}{h h':bU}
variable {D:aw}{Φ:rd}
theorem pJ.noHas_ns(x:pJ G h)(n:h.Ns a m):¬pZ G h a:=by
 refine wW n λo es ep ho hd Y=>?_;exact x.noHas ho λvs q=>by rw[hd]at q;cases q
theorem Vs(hA:A.handled=none)(hE:qc oe T)(hG:rO G)(C:xt T sc)(has:∀g∈gens,g.is_async=0)(Ao:pr G A Φ σ oK)(wt:∀g∈gens,pr G A Φ σ g.iter/\(∀f p as pos,g.iter=.Call (.Name f p) as [] pos->∀a∈as,pr G A Φ σ a)/\∀c∈g.ifs,pr G A Φ σ c)(e:tr Φ σ ρ (sD sc).length (vz T (T.comp sc) (oy (T.comp sc) oK) gens)=some vs):ES G A oe T ρ σ (bK (.ListComp oK gens sc pos) oe) (.lst vs):=λs φ β P m I R=>by
 obtain⟨h1,h2⟩:=Hx (yF:=none) (pos:=pos) (zy:=jS gens pos) (Q:=yd G φ s β P (.lst vs)) (E:=oE) hA hE hG C has Ao wt e I R λow s' D C m' P' cd=>⟨m',cd.ns,λh' hs=>by
  have TB:=(cd.go.tabs I.tabs).1;refine oB cd.items λxs a1 a2=>?_;exact⟨ow,cd.go.then_but I.tabs cd.cNew (λb o hb e=>hs.extBut b o hb e) (TB.noHas_ns cd.ns) (TB.notX_ns cd.ns) (bd hs.1.symm) (ai _),.lst (a1.at λo e=>hs.extBut _ o (io cd.cd) e) (R.fresh _ cd.dNew)
   (a2.mono (λY Y e=>e) (λa o p e=>⟨hs.extBut a o (λq=>cd.pC (q▸p)) e,cd.sub a p⟩) (aB _))⟩⟩
 rewrite [eval_ListComp];refine oa h1 ?_;exact h2
structure tL(G:GD) (A:br) (Φ:rd):Prop where
 hA:A.handled=none
 hu:A.units<k0
 hG:rO G
 hN:ui G
 hΦ:EB G A Φ
theorem Ha{a:Ex}{es:qh}{b:Bool}{Q:Prop}(e:qZ Φ σ ρ (.cons a es)=some b)(h1:ev Φ σ ρ a=some (.bool true)->qZ Φ σ ρ es=some b->Q)(h2:ev Φ σ ρ a=some (.bool false)->false=b->Q):Q:=by
 rw[xE]at e
 induction ha:ev Φ σ ρ a using aa with
 |none=>rw[ha]at e;exact oq e
 |some v =>
  rw[ha]at e
  induction v using AV.casesOn with
  |bool c =>
   induction c using aZ with
   |true=>exact h1 ha e
   |false=>exact h2 ha (ag e)
  |_=>exact oq e
theorem Ka{a:Ex}{es:qh}{b:Bool}{Q:Prop}(e:xF Φ σ ρ (.cons a es)=some b)(h1:ev Φ σ ρ a=some (.bool false)->xF Φ σ ρ es=some b->Q)(h2:ev Φ σ ρ a=some (.bool true)->true=b->Q):Q:=by
 rw[Bo]at e
 induction ha:ev Φ σ ρ a using aa with
 |none=>rw[ha]at e;exact oq e
 |some v =>
  rw[ha]at e
  induction v using AV.casesOn with
  |bool c =>
   induction c using aZ with
   |false=>exact h1 ha e
   |true=>exact h2 ha (ag e)
  |_=>exact oq e
theorem R1{es:List Expr}{b:Bool}{pos:cq}{whole:fe Value}(hE:qc oe T):(∀e∈es,pr G A Φ σ e)->qZ Φ σ ρ (pk T es)=some b->TS G A oe T ρ σ (dv (.BoolOp .And es pos) oe whole) b:=by
 induction es with
 |nil=>exact λY e=>oN (show some true=some b from e) wgN
 |cons a es ih =>
  exact λh e=>Ha e (λhc e=>Q5 ((h a ax oe T ρ _ hE hc).2 _ rfl) (λq=>nomatch q) λY=>ih (λe he=>h e (aP _ he)) e)
   λhc e=>e▸Q5 ((h a ax oe T ρ _ hE hc).2 _ rfl) (λY=>rfl) λq=>nomatch q
theorem wdg{es:List Expr}{b:Bool}{pos:cq}{whole:fe Value}(hE:qc oe T):(∀e∈es,pr G A Φ σ e)->xF Φ σ ρ (pk T es)=some b->TS G A oe T ρ σ (dv (.BoolOp .Or es pos) oe whole) b:=by
 induction es with
 |nil=>exact λY e=>oN (show some false=some b from e) wgQ
 |cons a es ih =>
  exact λh e=>Ka e (λhc e=>Q7 ((h a ax oe T ρ _ hE hc).2 _ rfl) (λq=>nomatch q) λY=>ih (λe he=>h e (aP _ he)) e)
   λhc e=>e▸Q7 ((h a ax oe T ρ _ hE hc).2 _ rfl) (λY=>rfl) λq=>nomatch q
theorem RZ{es:List Expr}:∀{a:Expr}{b:Bool}{pos:cq},qc oe T->(∀e∈a::es,pr G A Φ σ e)->qZ Φ σ ρ (pk T (a::es))=some b->ES G A oe T ρ σ (bK (.BoolOp .And (a::es) pos) oe) (.bool b):=by
 induction es with
 |nil=>exact λhE h e=>Ha e (λhc e=>oN (Q:=λb=>ES G A oe T ρ σ _ (.bool b)) (show some true=some _ from e) (h _ ax oe T ρ _ hE hc).1) λhc e=>e▸(h _ ax oe T ρ _ hE hc).1
 |cons a' es ih =>
  exact λhE h e=>Ha e (λhc e=>Mq (h _ ax oe T ρ _ hE hc).1 (λq=>nomatch q) λY=>ih hE (λe he=>h e (aP _ he)) e)
   λhc e=>e▸Mq (h _ ax oe T ρ _ hE hc).1 (λY=>rfl) λq=>nomatch q
theorem wdf{es:List Expr}:∀{a:Expr}{b:Bool}{pos:cq},qc oe T->(∀e∈a::es,pr G A Φ σ e)->xF Φ σ ρ (pk T (a::es))=some b->ES G A oe T ρ σ (bK (.BoolOp .Or (a::es) pos) oe) (.bool b):=by
 induction es with
 |nil=>exact λhE h e=>Ka e (λhc e=>oN (Q:=λb=>ES G A oe T ρ σ _ (.bool b)) (show some false=some _ from e) (h _ ax oe T ρ _ hE hc).1) λhc e=>e▸(h _ ax oe T ρ _ hE hc).1
 |cons a' es ih =>
  exact λhE h e=>Ka e (λhc e=>Mu (h _ ax oe T ρ _ hE hc).1 (λq=>nomatch q) λY=>ih hE (λe he=>h e (aP _ he)) e)
   λhc e=>e▸Mu (h _ ax oe T ρ _ hE hc).1 (λY=>rfl) λq=>nomatch q
theorem Vq(hE:qc oe T)(hx:T.isGlobal x=true)(hs:(e::oG).all tU=true)(ha:∀pos,uz G A oe T ρ σ (eC (eF pos (b_ (e::oG) oe))) vs)(hc:EA G A σ x vs r):ES G A oe T ρ σ (bK (.Call (.Name x p) (e::oG) [] pos) oe) r:=by
 cases hc with
 |builtin id hl h=>exact Vn hE hx hl hs (ha _) h
 |type id hl h=>exact Vp hE hx hl hs (ha _) h
 |def_ k fd hk h=>exact Vo hE hx hk hs (ha _) h
theorem Qo(hE:qc oe T){lo:Option Expr}{l:Option Int}(h:∀e,lo=some e->pr G A Φ σ e)(wq:tw Φ σ ρ (yE T lo)=some l):PS G A oe T ρ σ (kZ lo oe) l:=by
 induction lo using aa with
 |none=>rw[wgw,Mz]at wq;exact oN wq wdI
 |some e =>
  rw[wgx,Bn]at wq
  induction hi:ev Φ σ ρ (oy T e)using aa with
  |none=>rw[hi]at wq;exact oq wq
  |some v =>
   rw[hi]at wq
   induction v using AV.casesOn with
   |int i=>exact oN wq (wdJ (h e rfl oe T ρ _ hE hi).1)
   |_=>exact oq wq
noncomputable abbrev EV(Φ:rd)(σ:oH)(ρ:oI)(x:Ex)(v:AV):Prop:=ev Φ σ ρ x=some v
theorem waU(h:EV Φ σ ρ (.var i) v):ρ[i]?=some (some v):=by
 rw[EV,MS]at h
 induction hx:ρ[i]? using aa with
 |none=>rw[hx]at h;exact oq h
 |some u=>rw[hx]at h;exact congrArg some h
theorem waL{op:Operator}{a b:Ex}{v:AV}{Q:Prop}(h:EV Φ σ ρ (.bin op a b) v)(k:∀x y,EV Φ σ ρ a x->EV Φ σ ρ b y->rP σ op x y=some v->Q):Q:=by
 rw[EV,MT]at h
 induction hx:ev Φ σ ρ a using aa with
 |none=>rw[hx]at h;exact oq h
 |some x =>
  induction hy:ev Φ σ ρ b using aa with
  |none=>rw[hx,hy]at h;exact oq h
  |some y=>rw[hx,hy]at h;exact k x y hx hy h
theorem waO{a b:Ex}{v:AV}{Q:Prop}(h:EV Φ σ ρ (.idx a b) v)(k:∀x y,EV Φ σ ρ a x->EV Φ σ ρ b y->zj σ x y=some v->Q):Q:=by
 rw[EV,MR]at h
 induction hx:ev Φ σ ρ a using aa with
 |none=>rw[hx]at h;exact oq h
 |some x =>
  induction hy:ev Φ σ ρ b using aa with
  |none=>rw[hx,hy]at h;exact oq h
  |some y=>rw[hx,hy]at h;exact k x y hx hy h
theorem waM{op:CmpOp}{a b:Ex}{v:AV}{Q:Prop}(h:EV Φ σ ρ (.cmp op a b) v)(k:∀x y r,EV Φ σ ρ a x->EV Φ σ ρ b y->wO σ op x y=some r->v=.bool r->Q):Q:=by
 rw[EV,MU]at h
 induction hx:ev Φ σ ρ a using aa with
 |none=>rw[hx]at h;exact oq h
 |some x =>
  induction hy:ev Φ σ ρ b using aa with
  |none=>rw[hx,hy]at h;exact oq h
  |some y =>
   rw[hx,hy]at h;refine oB (aK.mp h) λr hr e=>?_;exact k x y r hx hy hr e.symm
theorem waT{op:UnaryOp}{a:Ex}{v:AV}{Q:Prop}(h:EV Φ σ ρ (.un op a) v)(k:∀x,EV Φ σ ρ a x->Ce op x=some v->Q):Q:=by
 rw[EV,H1]at h
 induction hx:ev Φ σ ρ a using aa with
 |none=>rw[hx]at h;exact oq h
 |some x=>rw[hx]at h;exact k x hx h
theorem waP{c a b:Ex}{v:AV}{Q:Prop}(h:EV Φ σ ρ (.ite c a b) v)(h1:EV Φ σ ρ c (.bool true)->EV Φ σ ρ a v->Q)(h2:EV Φ σ ρ c (.bool false)->EV Φ σ ρ b v->Q):Q:=by
 rw[EV,H3]at h
 induction hx:ev Φ σ ρ c using aa with
 |none=>rw[hx]at h;exact oq h
 |some x =>
  rw[hx]at h
  induction x using AV.casesOn with
  |bool r =>
   induction r using aZ with
   |true=>exact h1 hx h
   |false=>exact h2 hx h
  |_=>exact oq h
theorem waQ{es:qh}{v:AV}{Q:Prop}(h:EV Φ σ ρ (.list es) v)(k:∀vs,qj Φ σ ρ es=some vs->vs.length<=100000->.lst vs=v->Q):Q:=by
 rw[EV,MP]at h
 induction hx:qj Φ σ ρ es using aa with
 |none=>rw[hx]at h;exact oq h
 |some x=>rw[hx]at h;exact qd h λhl e=>k x hx hl (ag e)
theorem waS{es:qh}{v:AV}{Q:Prop}(h:EV Φ σ ρ (.tup es) v)(k:∀vs,qj Φ σ ρ es=some vs->vs.length<=100000->.tup vs=v->Q):Q:=by
 rw[EV,MQ]at h
 induction hx:qj Φ σ ρ es using aa with
 |none=>rw[hx]at h;exact oq h
 |some x=>rw[hx]at h;exact qd h λhl e=>k x hx hl (ag e)
theorem waN{a b:Ex}{v:AV}{Q:Prop}(h:EV Φ σ ρ (.dict (.cons a .nil) (.cons b .nil)) v)(k:∀i x,EV Φ σ ρ a (.int i)->EV Φ σ ρ b x->x.scalar=true->.dct [(i,x)]=v->Q):Q:=by
 rw[EV,Wc]at h
 induction hx:ev Φ σ ρ a using aa with
 |none=>rw[hx]at h;exact oq h
 |some x =>
  rw[hx]at h
  induction x using AV.casesOn with
  |int i =>
   induction hy:ev Φ σ ρ b using aa with
   |none=>rw[hy]at h;exact oq h
   |some y=>rw[hy]at h;exact qd h λhs e=>k i y hx hy hs (ag e)
  |_=>exact oq h
theorem waR{a:Ex}{lo hi:EE}{v:AV}{Q:Prop}(h:EV Φ σ ρ (.slice a lo hi) v)(k:∀x l u,EV Φ σ ρ a x->tw Φ σ ρ lo=some l->tw Φ σ ρ hi=some u->B_ σ x l u=some v->Q):Q:=by
 rw[EV,Bt]at h
 induction hx:ev Φ σ ρ a using aa with
 |none=>rw[hx]at h;exact oq h
 |some x =>
  induction hl:tw Φ σ ρ lo using aa with
  |none=>rw[hx,hl]at h;exact oq h
  |some l =>
   induction hu:tw Φ σ ρ hi using aa with
   |none=>rw[hx,hl,hu]at h;exact oq h
   |some u=>rw[hx,hl,hu]at h;exact k x l u hx hl hu h
theorem AG{f:Fn}{es:qh}{v:AV}{Q:Prop}(h:EV Φ σ ρ (.call f es) v)(k:∀vs,qj Φ σ ρ es=some vs->zY Φ σ f vs=some v->Q):Q:=by
 rw[EV,xH]at h
 induction hx:qj Φ σ ρ es using aa with
 |none=>rw[hx]at h;exact oq h
 |some x=>rw[hx]at h;exact k x hx h
theorem Pr{e:Ex}{es:qh}{vs:List AV}{Q:Prop}(h:qj Φ σ ρ (.cons e es)=some vs)(k:∀u us,EV Φ σ ρ e u->qj Φ σ ρ es=some us->u::us=vs->Q):Q:=by
 rw[y1]at h
 induction hu:ev Φ σ ρ e using aa with
 |none=>rw[hu]at h;exact oq h
 |some u =>
  induction qH:qj Φ σ ρ es using aa with
  |none=>rw[hu,qH]at h;exact oq h
  |some us=>rw[hu,qH]at h;exact k u us hu qH (ag h)
theorem JK{e:Ex}{vs:List AV}{Q:Prop}(h:qj Φ σ ρ (.cons e .nil)=some vs)(k:∀u,EV Φ σ ρ e u->[u]=vs->Q):Q :=
 Pr h λu us hu qH e=>k u hu (by rw[show us=[]from(ag (show some []=some us from qH)).symm]at e;exact e)
noncomputable def s7(G:GD)(A:br)(oe:Env)(T:Tb)(ρ:oI)(σ:oH)(e:Expr)(v:AV):Prop:=ES G A oe T ρ σ (bK e oe) v/\∀b,v=.bool b->TS G A oe T ρ σ (dv e oe (bK e oe)) b
theorem uk(h:ES G A oe T ρ σ (bK e oe) v)(he:dv e oe (bK e oe)=(do let v <-bK e oe;jd e.pos;jg [v] (truthy v))):s7 G A oe T ρ σ e v :=
 ⟨h,λb hb=>Q8 he (hb▸h)⟩
theorem Xd(h:t_.lookup x=some .values):False :=
 qb (aj.mp (show t_.all (λe=>!JG e.2)=true by decide +kernel) _ (mem_of_lookup h))
theorem wcm(h:vq.lookup x=some .values):False :=
 qb (aj.mp (show vq.all (λe=>!JG e.2)=true by decide +kernel) _ (mem_of_lookup h))
theorem wgM(h:oy T a=.call .values es):∃o ap p,a=.Call (.Attribute o ("values":Str) ap) [] [] p/\s5 o 0 ap p=true/\es=.cons (oy T o) .nil:=by
 rcases GP h with⟨x,p,a,bs,pos,e1,hg,hl,e2⟩|⟨m,hl⟩|h|⟨_,o,m,ap,p,e1,hm,ho,e2⟩
 ·exact(Xd hl).elim
 ·exact(wcm hl).elim
 ·exact qb h
 ·exact Jz o ap p (hm▸e1) ho e2
theorem wbs{vs:List AV}{v:AV}{Q:Prop}(h:zY Φ σ .listVals vs=some v)(k:∀es,vs=[.dct es]->es.length<=100000->.lst (es.map (·.2))=v->Q):Q:=by
 induction vs using af with
 |nil=>exact oq h
 |cons x vs =>
  induction x using AV.casesOn with
  |dct es =>
   induction vs using af with
   |nil=>exact qd (show(if es.length<=100000 then some (AV.lst (es.map (·.2)))else none)=some v from h) λhl e=>k es rfl hl (ag e)
   |cons=>exact oq h
  |_=>exact oq h
section
variable {v:AV}{pos:cq}(hE:qc oe T)
include hE
theorem wcL(hO:tL G A Φ){a b:Expr}{op:Operator}(ha:pr G A Φ σ a)(hb:pr G A Φ σ b)(h:EV Φ σ ρ (.bin op (oy T a) (oy T b)) v):s7 G A oe T ρ σ (.BinOp a op b pos) v :=
 waL h λx y hx hy h=>uk (Vm hO.hA (ha oe T ρ x hE hx).1 (hb oe T ρ y hE hy).1 h) rfl
theorem wcZ(ha:pr G A Φ σ a)(h:EV Φ σ ρ (.un op (oy T a)) v):s7 G A oe T ρ σ (.UnaryOp op a pos) v :=
 waT h λx hx h=>by
  have ha:=ha oe T ρ x hE hx;have hs:=VD (pos:=pos) ha.1 h;refine⟨hs,λb hb=>?_⟩
  induction op using jw with
  |Not =>
   induction x using AV.casesOn with
   |bool c =>
    have e:v=.bool (!c):=(ag h).symm;rw[e]at hb;injection hb with hb
    exact hb▸wgP (ha.2 c rfl)
   |_=>exact oq h
  |_=>exact Q8 rfl (hb▸hs)
theorem wcS(hc:pr G A Φ σ c)(ha:pr G A Φ σ a)(hb:pr G A Φ σ b)(h:EV Φ σ ρ (.ite (oy T c) (oy T a) (oy T b)) v):s7 G A oe T ρ σ (.IfExp c a b pos) v :=
 waP h (λh1 h=>have uu:=(hc oe T ρ _ hE h1).2 true rfl;have ha:=ha oe T ρ _ hE h;⟨Ms uu (λY=>ha.1) (λq=>nomatch q),λr hr=>Q6 uu (λY=>ha.2 r hr) (λq=>nomatch q)⟩)
  λh1 h=>have uu:=(hc oe T ρ _ hE h1).2 false rfl;have hb:=hb oe T ρ _ hE h;⟨Ms uu (λq=>nomatch q) (λY=>hb.1),λr hr=>Q6 uu (λq=>nomatch q) (λY=>hb.2 r hr)⟩
theorem wcM(hO:tL G A Φ)(hm:ig op b=false)(ha:pr G A Φ σ a)(hb:pr G A Φ σ b)(h:EV Φ σ ρ (.cmp op (oy T a) (oy T b)) v):s7 G A oe T ρ σ (.Compare a [op] [b] pos) v :=
 waM h λx y r hx hy hr e=>by
  refine oa e ?_;have ha:=(ha oe T ρ x hE hx).1;have hb:=(hb oe T ρ y hE hy).1;refine⟨Vr hO.hu hm ha hb hr,λb ut=>?_⟩;injection ut with ut
  exact ut▸wgO hO.hu hm ha hb hr
theorem wcK(hs:∀e∈a::es,pr G A Φ σ e)(h:EV Φ σ ρ (.and (pk T (a::es))) v):s7 G A oe T ρ σ (.BoolOp .And (a::es) pos) v:=by
 rw[EV,Fk]at h;refine oB (aK.mp h) λb hb e=>?_;refine rwj e ?_;refine⟨RZ hE hs hb,λb' ut=>?_⟩;injection ut with ut
 exact ut▸R1 hE hs hb
theorem wcW(hs:∀e∈a::es,pr G A Φ σ e)(h:EV Φ σ ρ (.or (pk T (a::es))) v):s7 G A oe T ρ σ (.BoolOp .Or (a::es) pos) v:=by
 rw[EV,H2]at h;refine oB (aK.mp h) λb hb e=>?_;refine rwj e ?_;refine⟨wdf hE hs hb,λb' ut=>?_⟩;injection ut with ut
 exact ut▸wdg hE hs hb
theorem wcT(hs:∀e∈es,pr G A Φ σ e)(h:EV Φ σ ρ (.list (pk T es)) v):s7 G A oe T ρ σ (.List es pos) v :=
 waQ h λvs qm hl e=>e▸uk (Vx hl (wT hE hs qm).2) rfl
theorem wcY(hs:∀e∈es,pr G A Φ σ e)(h:EV Φ σ ρ (.tup (pk T es)) v):s7 G A oe T ρ σ (.Tuple es k pos) v :=
 waS h λvs qm hl e=>e▸uk (VC hl (wT hE hs qm).2) rfl
theorem wcO(ub:ks.all j6=true)(hk:∀k,some k∈ks->pr G A Φ σ k)(hs:∀e∈vs,pr G A Φ σ e)(h:EV Φ σ ρ (.dict (Ek T ks) (pk T vs)) v):s7 G A oe T ρ σ (.Dict ks vs pos) v:=by
 induction ks using af with
 |nil=>exact oq h
 |cons k ks =>
  induction k using aa with
  |none=>exact qb ub
  |some k =>
   induction ks using af with
   |cons k2 ks=>cases k2<;>exact oq h
   |nil =>
    induction vs using af with
    |nil=>exact oq h
    |cons x vs =>
     induction vs using af with
     |cons y vs=>exact oq h
     |nil=>exact waN h λi y hi hy tA e=>e▸uk (Vu tA (hk k ax oe T ρ _ hE hi).1 (hs x ax oe T ρ _ hE hy).1) rfl
theorem wcX{a:Expr}{lo hi:Option Expr}{p:cq}(ha:pr G A Φ σ a)(hl:∀e,lo=some e->pr G A Φ σ e)(hu:∀e,hi=some e->pr G A Φ σ e)(h:EV Φ σ ρ (.slice (oy T a) (yE T lo) (yE T hi)) v):s7 G A oe T ρ σ (.Subscript a (.Slice lo hi none p) pos) v :=
 waR h λY Y Y hx h1 h2 h=>uk (VB (ha oe T ρ _ hE hx).1 (Qo hE hl h1) (Qo hE hu h2) h) rfl
theorem wcP(ha:pr G A Φ σ a)(hb:pr G A Φ σ b)(h:EV Φ σ ρ (.idx (oy T a) (oy T b)) v):s7 G A oe T ρ σ (.Subscript a b pos) v :=
 waO h λY Y hx hy h=>uk (Vw (ha oe T ρ _ hE hx).1 (hb oe T ρ _ hE hy).1 h) rfl
theorem wdb(hO:tL G A Φ)(hg:T.isGlobal f=true)(hf:f = "list") (ht:oy T a=.call .values es) (hs:∀o m ap p,a=.Call (.Attribute o m ap) [] [] p->pr G A Φ σ o) (h:EV Φ σ ρ (.call .listVals es) v):s7 G A oe T ρ σ (.Call (.Name f p) [a] [] pos) v:=by
 refine wW (wgM ht) λo ap p' e1 ho e2=>?_;rw[e2]at h;refine AG h λvs qm h=>JK qm λu hu e=>wbs h λes e3 hl e4=>?_;refine rwj e4 ?_;refine oa e1 ?_;refine oa hf ?_;rw[<-e]at e3;injection e3 with e3
 rw[e3]at hu;exact uk (Vz hO.hA hE hO.hG (hf▸hg) ho hl (hs o _ ap p' e1 oe T ρ _ hE hu).1) rfl
theorem wcU(hO:tL G A Φ)(hg:T.isGlobal f=true)(hf:f = "list") (ht:oy T a=.call .range es) (hs:∀g as p p',a=.Call (.Name g p) as [] p'->∀e∈as,pr G A Φ σ e) (h:EV Φ σ ρ (.call .listRange es) v):s7 G A oe T ρ σ (.Call (.Name f p) [a] [] pos) v:=by
 refine wX (KP ht) λp' b bs p2 e1 hr e2=>?_;rw[e2]at h;refine AG h λvs qm h=>?_;refine oB (aK.mp (show(zA vs).map (λis=>AV.lst (is.map .int))=some v from h)) λis sS e=>?_;refine p_ (wT (G:=G) (A:=A) hE (hs _ _ _ _ e1) qm) λh1 h2=>?_;refine rwj e ?_;refine oa e1 ?_;refine oa hf ?_;exact uk (Vy hO.hA hE hO.hG (hf▸hg) hr h1 h2 sS) rfl
theorem wcQ(hO:tL G A Φ)(hg:T.isGlobal f=true)(hf:f = "isinstance") (ht:T.isGlobal t=true) (sT:t = "bool") (ha:pr G A Φ σ a) (h:EV Φ σ ρ (.call .isBool (.cons (oy T a) .nil)) v):s7 G A oe T ρ σ (.Call (.Name f p) [a,.Name t p'] [] pos) v :=
 AG h λvs qm h=>JK qm λu hu e=>by
  rw[<-e]at h;rw[hf,sT];exact uk (Mr hE hO.hG (hf▸hg) (sT▸ht) (.inr (hO.hG.types "bool" (by simp))) (DV hu) (ha oe T ρ _ hE hu).1 λs φ β P x K r=>Td K (show E0 [_]=some _ from h) (.cons r .nil)) rfl
theorem wcR(hO:tL G A Φ)(hg:T.isGlobal f=true)(hf:f = "isinstance") (ht:T.isGlobal t=true) (sT:t = "int") (ha:pr G A Φ σ a) (h:EV Φ σ ρ (.call .isInt (.cons (oy T a) .nil)) v):s7 G A oe T ρ σ (.Call (.Name f p) [a,.Name t p'] [] pos) v :=
 AG h λvs qm h=>JK qm λu hu e=>by
  rw[<-e]at h;rw[hf,sT];exact uk (Mr hE hO.hG (hf▸hg) (sT▸ht) (.inr (hO.hG.types "int" (by simp))) (DV hu) (ha oe T ρ _ hE hu).1 λs φ β P x K r=>Tf K (show E1 [_]=some _ from h) (.cons r .nil)) rfl
theorem wda(hO:tL G A Φ)(hg:T.isGlobal f=true)(hl:t_.lookup f=some g)(hs:∀e∈a::as,pr G A Φ σ e)(h:EV Φ σ ρ (.call g (pk T (a::as))) v):s7 G A oe T ρ σ (.Call (.Name f p) (a::as) [] pos) v :=
 AG h λvs qm h=>by
  refine p_ (wT (G:=G) (A:=A) hE hs qm) λh1 h2=>?_;exact uk (Vq hE hg h1 h2 (Tu hO.hA hO.hG hO.hN hO.hΦ hl h)) rfl
theorem wcV(hO:tL G A Φ){o:Expr}{as:List Expr}{m:Str}{g:Fn}{ap:cq}(hl:vq.lookup m=some g)(qk:s5 o as.length ap pos=true)(ho:pr G A Φ σ o)(hs:∀e∈as,pr G A Φ σ e)(h:EV Φ σ ρ (.call g (.cons (oy T o) (pk T as))) v):s7 G A oe T ρ σ (.Call (.Attribute o m ap) as [] pos) v :=
 AG h λvs qm h=>Pr qm λu us hu qH e=>by
  rw[<-e]at h;refine p_ (wT (G:=G) (A:=A) hE hs qH) λh1 h2=>?_;refine qe (wcj (G:=G) (A:=A) hO.hA hl h) λT' id hM hT hb=>?_;refine uk (VA qk hM h1 (ho oe T ρ _ hE hu).1 hT (h2 _) (λq=>?_) hb) rfl;rw[q]at qH;exact(ag (show some []=some us from qH)).symm
theorem wcN(hO:tL G A Φ)(Am:(sc.kind==.function&&J5 sc.names&&gens.all (λg=>g.is_async==0)&&(BB sc).all T.celled&&AN (T.comp sc))=true)(he:pr G A Φ σ oK)(hg:∀g∈gens,pr G A Φ σ g.iter/\(∀f p as pos,g.iter=.Call (.Name f p) as [] pos->∀a∈as,pr G A Φ σ a)/\∀c∈g.ifs,pr G A Φ σ c)(h:EV Φ σ ρ (.comp (sD sc).length (vz T (T.comp sc) (oy (T.comp sc) oK) gens)) v):s7 G A oe T ρ σ (.ListComp oK gens sc pos) v:=by
 rw[EV,H0]at h;refine oB (aK.mp h) λus qH e=>?_;refine rwj e ?_;refine qG Am λc c5=>qG c λc c4=>qG c λc c3=>qG c λc1 c2=>uk (Vs hO.hA hE hO.hG ⟨eq_of_beq c1,of_decide_eq_true c2,λx hx=>?_,Ef c5⟩ (λg hg=>eq_of_beq (aj.mp c3 g hg)) he hg qH) rfl;exact aj.mp c4 x (gz.mpr ⟨_,hx,rfl⟩)
end
theorem ls{s t n:Nat}(e:s=t)(h:s<n+1):t<=n:=e▸cP h
theorem q1(h:1+a<=n):a<n:=by lia
theorem q2(h:1+a+b<=n):b<n:=by lia
theorem q3(h:1+a+b+c<=n):c<n:=by lia
theorem zr{t x n:Nat}(h:t+x<=n):t<=n:=ae (aV t x) h
theorem l1(h:a<n):a<n+1:=fF h
theorem Vd(hO:tL G A Φ)(n:Nat):∀(e:Expr),sizeOf e<n->pr G A Φ σ e:=by
 induction n with
 |zero=>exact λe he=>absurd he (iq _)
 |succ n ih =>
  have tY:∀{es:List Expr},sizeOf es<n->∀a∈es,pr G A Φ σ a:=λh a ha=>ih a (bW (dJ ha) h);intro e hn oe T ρ v hE;have t:=Q4 T e;show EV Φ σ ρ (oy T e) v->s7 G A oe T ρ σ e v;generalize oy T e=x at t;cases t with
  |c=>exact λh=>uk (Vt h) rfl
  |var hx=>exact λh=>uk (HJ hE hx (waU h)) rfl
  |glob hg hl=>exact λh=>uk (oN (show some (Dh _)=some v from h) (Vv hE hO.hG hg hl)) rfl
  |bin=>have h:=ls (Expr.BinOp.sizeOf_spec ..) hn;exact wcL hE hO (ih _ (q1 (zr (zr (zr h))))) (ih _ (q3 (zr h)))
  |un=>have h:=ls (Expr.UnaryOp.sizeOf_spec ..) hn;exact wcZ hE (ih _ (q2 (zr h)))
  |cmp hm=>have h:=ls (Expr.Compare.sizeOf_spec ..) hn;exact wcM hE hO hm (ih _ (q1 (zr (zr (zr h))))) (tY (q3 (zr h)) _ ax)
  |and=>have h:=ls (jC ..) hn;exact wcK hE (tY (q2 (zr h)))
  |or=>have h:=ls (jC ..) hn;exact wcW hE (tY (q2 (zr h)))
  |ite=>have h:=ls (Expr.IfExp.sizeOf_spec ..) hn;exact wcS hE (ih _ (q1 (zr (zr (zr h))))) (ih _ (q2 (zr (zr h)))) (ih _ (q3 (zr h)))
  |list=>have h:=ls (Expr.List.sizeOf_spec ..) hn;exact wcT hE (tY (q1 (zr h)))
  |tup=>have h:=ls (Expr.Tuple.sizeOf_spec ..) hn;exact wcY hE (tY (q1 (zr (zr h))))
  |dict ub =>
   have h:=ls (Expr.Dict.sizeOf_spec ..) hn;exact wcO hE ub (λk hk=>ih _ (q1 (ls (gw k) (l1 (bW (dJ hk) (q1 (zr (zr h)))))))) (tY (q2 (zr h)))
  |slice =>
   have h:=ls (iY ..) hn;have h':=ls (Expr.Slice.sizeOf_spec ..) (l1 (q2 (zr h)));exact wcX hE (ih _ (q1 (zr (zr h)))) (λe he=>ih _ (q1 (ls (gw e) (he▸l1 (q1 (zr (zr (zr h')))))))) (λe he=>ih _ (q1 (ls (gw e) (he▸l1 (q2 (zr (zr h')))))))
  |idx=>have h:=ls (iY ..) hn;exact wcP hE (ih _ (q1 (zr (zr h)))) (ih _ (q2 (zr h)))
  | @vals a _ _ _ _ hg hf ha =>
   have h:=ls (ca ..) hn;have h':=bW (dJ (a:=a) ax) (q2 (zr (zr h)));exact wdb hE hO hg hf ha λo m ap p e=>ih _ (q1 (zr (zr (ls (iZ o m ap) (l1 (q1 (zr (zr (zr (ls (ca (.Attribute o m ap) [] [] p) (e▸l1 h')))))))))))
  | @lrange a _ _ _ _ hg hf ha =>
   have h:=ls (ca ..) hn;have h':=bW (dJ (a:=a) ax) (q2 (zr (zr h)));exact wcU hE hO hg hf ha λg as p p' e=>tY (q2 (zr (zr (ls (ca (.Name g p) as [] p') (e▸l1 h')))))
  |isBool hg hf ht sT=>have h:=ls (ca ..) hn;exact wcQ hE hO hg hf ht sT (tY (q2 (zr (zr h))) _ ax)
  |isInt hg hf ht sT=>have h:=ls (ca ..) hn;exact wcR hE hO hg hf ht sT (tY (q2 (zr (zr h))) _ ax)
  |user hg hl=>have h:=ls (ca ..) hn;exact wda hE hO hg hl (tY (q2 (zr (zr h))))
  |meth hl ho =>
   have h:=ls (ca ..) hn;exact wcV hE hO hl ho (ih _ (q1 (zr (zr (ls (iZ ..) (l1 (q1 (zr (zr (zr h)))))))))) (tY (q2 (zr (zr h))))
  |values=>exact λh=>AG h λvs Y h=>oq h
  |comp hc =>
   have h:=ls (Expr.ListComp.sizeOf_spec ..) hn;refine wcN hE hO hc (ih _ (q1 (zr (zr (zr h))))) λg hg=>?_;have h:=ls (show sizeOf g=1+sizeOf g.target+sizeOf g.iter+sizeOf g.ifs+sizeOf g.is_async by cases g;exact nt ..) (l1 (bW (dJ hg) (q2 (zr (zr h)))));exact qJ (ih _ (q2 (zr (zr h)))) (λf p as zy he=>tY (q2 (zr (zr (ls (ca (.Name f p) as [] zy) (he▸l1 (q2 (zr (zr h))))))))) (tY (q3 (zr h)))
  |bad=>exact λh=>oq h
theorem qQ(hO:tL G A Φ)(n:Nat)(e:Expr)(h:sizeOf e<=n):pr G A Φ σ e:=Vd hO (n+1) e (jq h)
end
structure SR(G:GD) (sB:ah) (ot:Gh) (om:aw->Prop) (oe:Env) (T:Tb) (φ:Gh) (ρ:oI) (σ:oH) (β:List aw) (P:aw->Prop) (m:Str->Option Value) (s:ah):Prop where
 base:∃h t,s={sB with heap:=h,toks:=t}
 old:∀b o,¬G.X b->sB.heap.get? b=some o->s.heap.get? b=some o
 size:sB.heap.objs.size<=s.heap.objs.size
 sub:∀t x,ot t x->φ t x
 er:ER G φ oe T ρ σ β P m s
 fr:yI oe T β P
 newL:sB.heap.objs.size<=oe.locals
 newC:∀x b,T.names.lookup x=some .cell->oe.cells.lookup x=some b->sB.heap.objs.size<=b
 newB:∀b∈β,sB.heap.objs.size<=b
 nodup:β.Nodup
 lenB:β.length=σ.length
 live:∀(j:Nat) (a:aw) (o:AO),β[j]?=some a->σ[j]?=some o->o≠AO.gone->¬P a
 psub:∀a,P a->om a
 tabs:pJ G s.heap/\∀c,pZ G s.heap c->pZ G sB.heap c\/sB.heap.objs.size<=c
theorem SR.inv(S:SR G sB ot om oe T φ ρ σ β P m s)(I:pp G sB.heap):pp G s.heap:=I.keepsX S.old S.tabs.1
theorem SR.go(S:SR G sB ot om oe T φ ρ σ β P m s)(k:GX G s φ s' ow):SR G sB ot om oe T ow ρ σ β P m s' :=
 { S with
   base:=by
    refine sb S.base ?_;rintro h t rfl;refine pK k.grows.keeps λh' t' e Y=>?_;exact wz h' t' e
   old:=λb o hb e=>k.ext b o hb (S.old b o hb e)
   size:=ae S.size k.grows.size
   sub:=λt x e=>k.sub t x (S.sub t x e)
   er:=S.er.go k S.tabs.1
   tabs:=by
    refine p_ (k.tabs S.tabs.1) λh1 h2=>?_;exact⟨h1,λc hc=>(h2 c hc).elim (S.tabs.2 c) λq=>.inr (ae S.size q)⟩}
theorem SR.done(S:SR G sB ot om oe T φ ρ σ β P m s):GX G sB ot s φ:=by
 have o:=S.old;have z:=S.size;have k:=S.er.tk;have tb:=S.tabs;refine sb S.base ?_;rintro h t rfl;exact⟨⟨⟨h,t,rfl,o⟩,z⟩,S.sub,k,λY=>tb⟩
theorem SR.frozen(S:SR G sB ot om oe T φ ρ σ β P m s)(hP₀:∀a,sB.heap.objs.size<=a->om a)(e:o8 σ 6 v=some v')(r:VR G.tok φ s.heap β P v x):VR G.tok φ s.heap [] om v' x :=
 Iu S.er.objs S.psub (λi a Y hb=>hP₀ a (S.newB a (aY hb))) 6 e r
theorem Dg{sB:ah}(hn:sB.heap.objs.size<=n)(e:sB.heap.get? b=some o):b≠n:=λq=>aJ _ (ab (q▸aN e:n<sB.heap.objs.size) hn)
theorem SR.store{oe:Env}{T:Tb}{ρ:oI}{G:GD}{s:ah}(hE:qc oe T)(hT:wc T)(hx:T.own x=some i)(S:SR G sB ot om oe T φ ρ σ β P m s)(r:VR G.tok φ s.heap β P v xv)(hQ:∀s' m',SR G sB ot om oe T φ (ρ.set i (some v)) σ β P m' s'->(∀b o,¬(b=oe.locals\/∃y,T.names.lookup y=some .cell/\oe.cells.lookup y=some b)->s.heap.get? b=some o->s'.heap.get? b=some o)->s.heap.objs.size<=s'.heap.objs.size->Q () s'):
 ao (ar oj wd) A (ge oe x xv) Q E s:=by
 refine p_ (DY hx) λF4 hk=>?_;refine QL S.tabs.1 hE hT F4 hk S.er S.fr r λh' t m' uZ ht hs vU R TT=>?_;refine sb S.base λhh tt e=>?_;have hn:sB.heap.objs.size<=uZ:=by
  rcases ht with rfl|⟨h1,h2⟩
  ·exact S.newL
  ·exact S.newC x uZ h2 h1
 refine hQ _ m' {S with base:=wz h' t (by refine oa e ?_;rfl),old:=λb o hb e=>hs.extBut b o (Dg hn e) (S.old b o hb e),size:=ae S.size (bd hs.1.symm),er:=R,tabs:=⟨TT.1,λc q=>S.tabs.2 c (TT.2 c q)⟩}
  (λb o hb e=>hs.extBut b o (λq=>hb ?_) e) (bd hs.1.symm)
 subst q;rcases ht with rfl|⟨h1,h2⟩
 ·exact .inl rfl
 ·exact .inr ⟨x,h2,h1⟩
theorem SR.alloc{G:GD}{s:ah}{s':ah}{os:List AO}{as:List aw}(S:SR G sB ot om oe T φ ρ σ β P m s)(k:GX G s φ s' ow)(I9:∀a,pZ G s'.heap a->s.heap.objs.size<=a->P' a)(wy:∀a,P' a->P a)(Ay:∀a,P a->a<s.heap.objs.size->P' a)(Dt:∀a,s'.heap.objs.size<=a->P' a)(si:∀a∈as,s.heap.objs.size<=a/\a<s'.heap.objs.size/\¬P' a)(rk:as.Nodup)(oU:os.length=as.length)(hng:∀o∈os,o≠AO.gone)(Zg:∀(j:Nat) (o:AO),os[j]?=some o->∃a,as[j]?=some a/\OR G.tok ow s'.heap (β++as) P' o a):
 SR G sB ot om oe T ow ρ (σ++os) (β++as) P' m s':=by
 have R:=S.er;have hk:∀a o,P a->s.heap.get? a=some o->s'.heap.get? a=some o/\P' a:=λa o p e=>⟨k.ext a o (R.psafe a p).2 e,Ay a p (aN e)⟩
 have yu:β <+: β++as:=e_ _ _;refine{ S.go k with er:=?_,fr:=?_,newB:=?_,nodup:=?_,lenB:=?_,live:=?_,psub:=λa p=>S.psub a (wy a p)}
 ·refine⟨R.ns.at' λo e=>k.ext _ o (R.bsafe _ (.inr (.inl rfl))).2 e,R.len,λy j u hy hj=>?_,λy hy=>?_,λj o hj ho=>?_,λa ha=>?_,λa p=>R.psafe a (wy a p),λa ha=>?_,λa ha=>?_,k.tk⟩
  ·refine oB (R.names y j u hy hj) λv' a b=>?_;refine oV v' (a.mono k.sub hk yu) ?_;rcases b with b|⟨c,b1,b2,o,ho,hd⟩
   ·exact .inl b
   ·exact .inr ⟨c,b1,b2,o,k.ext c o (R.bsafe c (.inr (.inr ⟨y,b1⟩))).2 ho,hd⟩
  ·obtain⟨c,rq,h1,o,ho,hd⟩:=R.celled y hy;exact⟨c,rq,h1,o,k.ext c o (R.bsafe c (.inr (.inr ⟨y,h1⟩))).2 ho,hd⟩
  ·rcases d9 j σ.length with q|q
   ·rw[aL q]at hj;refine oB (R.objs j o hj ho) λa h1 h2=>?_;refine oV a ?_ (h2.mono k.sub hk yu λo e=>k.ext a o (R.bsafe a (.inl (aY h1))).2 e);rw[aL (by refine oa S.lenB ?_;exact q)];exact h1
   ·rw[ay q]at hj;refine oB (Zg _ o hj) λa h1 h2=>?_;refine oV a ?_ h2;rw[ay (by refine oa S.lenB ?_;exact q),S.lenB];exact h1
  ·rcases ha with ha|ha
   ·exact Dt a ha
   ·rcases(k.tabs S.tabs.1).2 a ha with q|q
    ·exact Ay a (R.freshX a (.inr q)) (pZ.lt S.tabs.1 q)
    ·exact I9 a ha q
  ·rcases ha with ha|ha
   ·rcases aW.mp ha with q|q
    ·exact R.bsafe a (.inl q)
    ·exact R.psafe a (R.fresh a (si a q).1)
   ·exact R.bsafe a (.inr ha)
  ·rcases aW.mp ha with q|q
   ·exact ab (R.blt a q) k.grows.size
   ·exact(si a q).2.1
 ·refine⟨λp=>S.fr.ploc (wy _ p),λq=>?_,λx hx=>?_⟩
  ·rcases aW.mp q with q|q
   ·exact S.fr.bloc q
   ·exact aJ _ (ab R.ns.lt (si _ q).1)
  ·refine s9 (S.fr.own x hx) λc e1 e2 e3=>?_;refine xV c e1 (λp=>e2 (wy _ p)) (λq=>?_);rcases aW.mp q with q|q
   ·exact e3 q
   ·refine pK (R.celled x (by unfold Tb.celled;refine oa hx ?_;rfl)) λc' rq e4 e5=>?_;rw[e1]at e4;cases e4;exact aJ _ (ab e5.lt (si _ q).1)
 ·intro b hb;rcases aW.mp hb with q|q
  ·exact S.newB b q
  ·exact ae S.size (si b q).1
 ·rw[dk];exact qJ S.nodup rk (λa ha b hb q=>aJ _ (ab (q▸R.blt a ha:b<s.heap.objs.size) (si b hb).1))
 ·refine oa aq ?_;refine oa aq ?_;refine oa S.lenB ?_;refine oa oU ?_;rfl
 ·intro j a o hb ho hg;rcases d9 j σ.length with q|q
  ·rw[aL q]at ho;rw[aL (by refine oa S.lenB ?_;exact q)]at hb;exact λp=>S.live j a o hb ho hg (wy a p)
  ·rw[ay (by refine oa S.lenB ?_;exact q)]at hb;exact(si a (aY hb)).2.2
set_option tactic.hygienic true in
theorem SR.mutate{σ:oH}{G:GD}{s:ah}(S:SR G sB ot om oe T φ ρ σ β P m s)(hi:σ[i]?=some o)(hg:o≠AO.gone)(ha:β[i]?=some a)(ze:o'≠AO.gone)(hs:bF a s.heap h')(ht:s.toks<=t)(Ze:∃ob,s.heap.get? a=some ob/\∀v,ob.data≠.cell v)(r:OR G.tok φ h' β P o' a):SR G sB ot om oe T φ ρ (σ.set i o') β P m {s with heap:=h',toks:=t}:=by
 have Ak:=S.live i a o ha hi hg;have R:=S.er;have hz:h'.objs.size=s.heap.objs.size:=hs.1;have hk:∀b o,P b->s.heap.get? b=some o->h'.get? b=some o/\P b:=λb o p e=>⟨hs.extBut b o (λq=>Ak (q▸p)) e,p⟩
 have za:=aY ha;have N7:∀c v,s.heap.IsCell c v->c≠a:=λc v hc q=>by
  refine oB Ze λob h1 h2=>?_;refine oB hc λP8 h3 h4=>?_;subst q;rw[h1]at h3;cases h3;exact h2 v h4
 have FW:oe.locals≠a:=λq=>S.fr.bloc (q▸za);have TT:=S.tabs.1.but (λb o hb e=>hs.extBut b o hb e) (R.bsafe a (.inl za)).2 λq=>Ak (R.freshX a (.inr q));refine sb S.base λhh tt e=>?_;refine{ S with base:=wz h' t (by refine oa e ?_;rfl),old:=λb o hb e=>hs.extBut b o (Dg (S.newB a za) e) (S.old b o hb e),tabs:=⟨TT.1,λc q=>S.tabs.2 c (TT.2 c q)⟩,size:=ae S.size (bd hz.symm),er:=?_,lenB:=by refine oa dM ?_;exact S.lenB,live:=?_}
 ·refine⟨R.ns.at' λo e=>hs.extBut _ o FW e,R.len,λy j u hy hj=>?_,λy hy=>?_,λj o hj ho=>?_,λb hb=>R.freshX b (hb.imp (λhb=>by refine rwj hz ?_;exact hb) (TT.2 b)),R.psafe,R.bsafe,λb hb=>by show b<h'.objs.size;refine oa hz ?_;exact R.blt b hb,R.tk.fn,R.tk.pos,λt' y e=>ab (R.tk.lt t' y e) ht,ab R.tk.one ht⟩
  ·refine oB (R.names y j u hy hj) λv' q b=>?_;refine oV v' (q.mono (λY Y e=>e) hk (aB _)) ?_;rcases b with b|⟨c,b1,b2,b3⟩
   ·exact .inl b
   ·exact .inr ⟨c,b1,b2,b3.sameBut hs (N7 c _ b3)⟩
  ·refine pK (R.celled y hy) λc rq h1 h2=>?_;exact rf c rq h1 (h2.sameBut hs (N7 c _ h2))
  ·rw[dm]at hj;split at hj
   ·rename_i s0;subst s0;split at hj
    ·cases hj;exact oV a ha r
    ·cases hj
   ·rename_i s0;refine oB (R.objs j o hj ho) λb h1 h2=>?_;refine oV b h1 (h2.mono (λY Y e=>e) hk (aB _) λo e=>hs.extBut b o (λq=>s0 ?_) e);subst q;exact(mv (aS.mp ha).1 S.nodup).mp (ha.trans h1.symm)
 ·intro j b u hb hu FN;rw[dm]at hu;split at hu
  ·rename_i s0;subst s0;rw[ha]at hb;cases hb;exact Ak
  ·exact S.live j b u hb hu FN
set_option tactic.hygienic true in
theorem SR.settle(S:SR G sB ot om oe T φ ρ σ β P m s)(hP₀:∀a,sB.heap.objs.size<=a->om a)(hi:(σ[i]?).isSome=true)(ha:β[i]?=some a):
 SR G sB ot om oe T φ ρ (σ.set i .gone) β (λb=>P b\/b=a) m s:=by
 have za:=aY ha;have R:=S.er;have R':ER G φ oe T ρ σ β (λb=>P b\/b=a) m s:=R.weak (λY p=>.inl p) (λb p=>p.elim (R.psafe b) λq=>q▸R.bsafe a (.inl za));refine{ S with er:={R' with objs:=λj o hj ho=>?_},fr:=⟨λp=>p.elim S.fr.ploc λq=>S.fr.bloc (q▸za),S.fr.bloc,λx hx=>?_⟩,lenB:=by refine oa dM ?_;exact S.lenB,live:=?_,psub:=λb p=>p.elim (S.psub b) λq=>q▸hP₀ a (S.newB a za)}
 ·rw[dm]at hj;split at hj
  ·split at hj
   ·cases hj;exact absurd rfl ho
   ·cases hj
  ·exact R'.objs j o hj ho
 ·refine s9 (S.fr.own x hx) λc e1 e2 e3=>?_;exact xV c e1 (λp=>p.elim e2 λq=>e3 (q▸za)) e3
 ·intro j b u hb hu FN;rw[dm]at hu;split at hu
  ·split at hu
   ·cases hu;exact absurd rfl FN
   ·cases hu
  ·rename_i s0;rintro(p|rfl)
   ·exact S.live j b u hb hu FN p
   ·exact s0 ((mv (aS.mp ha).1 S.nodup).mp (ha.trans hb.symm))
theorem PF:nv (.type "list") (dunderI "add")=pure (some (.builtin "list.__iadd__")):=kn.lookup
theorem Qx:isSeqSlot (some (.builtin "list.__iadd__"))=true:=by decide +kernel
theorem wcz(h:a+b<=100000):¬((c&&jl (a+b))=true):=by
 rw[aO];rintro⟨_,q⟩;have:a+b>fv:=of_decide_eq_true q;exact bu.mpr (sk h) this
theorem PN(Pq:Array Value)(n:Nat)(f:Array Value->Array Value):
 ∃n',fg f {cls:=.type "list",dict:=none,data:=.seq Pq n,slots:=#[]}={cls:=.type "list",dict:=none,data:=.seq (f Pq) n',slots:=#[]}:=⟨_,rfl⟩
theorem wae{s:ah}{vs ws:List Value}(hl:s.heap.PlainList l vs.toArray)(hb:s.heap.PlainList b ws.toArray)(pi:vs.length+ws.length<=100000)(h:∀h',h'.PlainList l (vs++ws).toArray->bF l s.heap h'->Q (.ref l) {s with heap:=h'}):
 ao (ar oj wd) A (gR .Add (.ref l) (.ref b)) Q E s:=by
 refine o6 (id hl) λn ho=>?_;refine o6 (id hb) λn2 ww=>?_;have ha:s.TypeIs (.ref l) "list" := ⟨_,ho,rfl⟩
 have ut:s.TypeIs (.ref b) "list" := ⟨_,ww,rfl⟩
 unfold gR;refine cF ?_;have YI:n6 (.type "list") "add" (mG==.Add)=pure false:=by
  unfold n6;show(nv (.type "list") (dunderI "add") >>= λfi=>pure (fi.isSome&&!isSeqSlot fi))=pure false;refine oa PF ?_;refine oa (pure_bind _ _) ?_;refine oa Qx ?_;rfl
 have ZA:seqSlot? (.type "list") (dunderI "add")=pure (some (.builtin "list.__iadd__")):=by
  unfold seqSlot?;refine oa PF ?_;refine oa (pure_bind _ _) ?_;refine oa Qx ?_;rfl
 refine an (wpAny_typeOf ha (an (mR YI ?_)));show ao _ A (if false=true then _ else _) Q E s;refine oa (if_neg bA) ?_;refine an (PySem.wpAny_binaryOp1_none (nm := "add") ha ut noFill_list_add ?_);refine an (mR ZA ?_);refine an (iJ ?_);refine(gg kn ha PySem.F.entry_list_iadd (PySem.F.args_list_iadd_2 _ _) (AutoSeq1.list___iadd___list_list_0 l vs.toArray n b ws.toArray n2 ?_ ?_ ?_) ⟨ho,ww,?_⟩)
 ·simpa using wcz (c:=!vs.isEmpty) pi
 ·exact sk (by simp;exact K0 pi)
 ·have:=sk pi;simp;exact eY this
 ·have hs:bF l s.heap (s.heap.update l (fg λx=>x++ws.toArray)):=eB ..;refine h _ ?_ hs;obtain⟨n',vT⟩:∃n',fg (λx=>x++ws.toArray) {cls:=jW "list",data:=lz vs.toArray n}={cls:=jW "list",data:=lz (vs++ws).toArray n'}:=by
   refine o6 (PN vs.toArray n (λx=>x++ws.toArray)) λn' h1=>?_;exact⟨n',by refine oa h1 ?_;simp⟩
  exact⟨n',vT▸ey _ ho (by refine oa vT ?_;rfl)⟩
theorem wbw{s:ah}{vs:List Value}(hl:s.heap.PlainList l vs.toArray)(pi:vs.length<=100000)(h:∀h',h'.PlainList l vs.reverse.toArray->bF l s.heap h'->Q .none {s with heap:=h'}):ao (ar oj wd) A (call (.builtin "list.reverse") [.ref l]) Q E s:=by
 refine o6 (id hl) λn ho=>?_;refine gg jI ⟨_,ho,rfl⟩ PySem.F.entry_list_reverse (PySem.F.args_list_reverse_1 _) (AutoSeq1.list_reverse_list_0 l vs.toArray n (sk (by simpa using pi))) ⟨ho,?_⟩;have hs:bF l s.heap (s.heap.update l (fg λx=>x.reverse)):=eB ..;refine h _ ?_ hs;obtain⟨n',vT⟩:∃n',fg (λx=>x.reverse) {cls:=jW "list",data:=lz vs.toArray n}={cls:=jW "list",data:=lz vs.reverse.toArray n'}:=by
  refine o6 (PN vs.toArray n (λx=>x.reverse)) λn' h1=>?_;exact⟨n',by refine oa h1 ?_;simp⟩
 exact⟨n',vT▸ey _ ho (by refine oa vT ?_;rfl)⟩
theorem wfd(hA:A.handled=none)(hl:s.heap.IsList l xs.toArray)(hF:F l)(r:oA tk φ s.heap β P vs xs)(hQ:∀it s',wJ A tk φ β P F s vs.reverse it s'->ao (ar oj wd) A (gD it) (λDN qV=>DN=it/\qV=s') oE s'->Q it s'):
 ao (ar oj wd) A (call (.type "reversed") [.ref l]) Q E s:=by
 have o9:l<s.heap.objs.size:=by refine oB hl λY e Y=>?_;exact aN e
 refine call_reversed_list hl ?_;have OL:({s with heap:=s.heap.push (revObj l ((xs.toArray.size:Int)-1))}:ah).heap.IsRevIter s.heap.objs.size l ((xs.toArray.size:Int)-1):=⟨_,bx _ rfl,rfl,rfl⟩
 have W:=Walks.listRev (prog:=oj) (w:=wd) hA s.heap.objs.size l (cp o9) xs.toArray;have pi:xs.toArray.size=vs.reverse.length:=by refine oa aC ?_;refine oa List.length_reverse ?_;refine rwj r.length ?_;rfl
 refine hQ _ _ ⟨revObj l ((xs.toArray.size:Int)-1),[s.heap.objs.size,l],λi v=>i<xs.toArray.size/\xs.toArray[xs.toArray.size-1-i]?=some v,
  λi h=>i<=xs.toArray.size/\h.IsRevIter s.heap.objs.size l ((xs.toArray.size:Int)-1-(i:Int))/\h.IsList l xs.toArray,rfl,rfl,?_,⟨dh _,?_,hl.push _⟩,λb hb=>?_,λi x hx=>?_⟩ ?_
 ·refine rwj pi ?_;exact⟨W.sub,W.frame,λi s Q E hi st hQ=>W.item i s Q E hi st λv h' t hv=>hQ v h' t ⟨hi,hv⟩,W.done,W.self⟩
 ·simpa using OL
 ·simp only[bh,g_,or_false]at hb;rcases hb with rfl|rfl
  ·exact .inl rfl
  ·exact .inr ⟨hF,o9⟩
 ·refine p_ hx λhi hx=>?_;obtain⟨v,h1,h2⟩:=r.reverse.getr (i:=i) (x:=x) (by
   rw[aC]at hi;refine oa (iu hi) ?_;simpa using hx)
  exact oV v h1 h2
 ·exact wpAny_pyIter_revIter OL ⟨rfl,rfl⟩
noncomputable def yL(G:GD)(oe:Env)(T:Tb)(b:aw):Prop:=b=oe.locals\/(∃y,T.names.lookup y=some .cell/\oe.cells.lookup y=some b)\/G.X b
noncomputable def A6(G:GD)(oe:Env)(T:Tb)(σ:oH)(β:List aw)(b:aw):Prop:=¬yL G oe T b/\∀j:Nat,β[j]?=some b->σ[j]?=some .gone
structure pB(G:GD) (oe:Env) (T:Tb) (s:ah) (φ:Gh) (σ:oH) (β:List aw) (P:aw->Prop) (s':ah) (ow:Gh) (ox:oH) (oO:List aw) (P':aw->Prop):Prop where
 keep:∀b o,A6 G oe T σ β b->s.heap.get? b=some o->s'.heap.get? b=some o
 still:∀b,b<s.heap.objs.size->A6 G oe T σ β b->A6 G oe T ox oO b
 pm:∀a,P a->a<s.heap.objs.size->P' a
 sub:∀t x,φ t x->ow t x
 pre:β <+: oO
 size:s.heap.objs.size<=s'.heap.objs.size
 pn:∀a,a<s.heap.objs.size->P' a->P a\/a∈β
 bn:∀a∈oO,a<s.heap.objs.size->a∈β
theorem pB.refl:pB G oe T s φ σ β P s φ σ β P:=⟨λY Y Y e=>e,λY Y h=>h,λY p Y=>p,λY Y e=>e,aB _,ai _,λY Y p=>.inl p,λY h Y=>h⟩
theorem pB.trans(x:pB G oe T s φ σ β P s' ow ox oO P')(y:pB G oe T s' ow ox oO P' qV xp u3 Ez Cy):pB G oe T s φ σ β P qV xp u3 Ez Cy where
 keep:=λb o hb e=>y.keep b o (x.still b (aN e) hb) (x.keep b o hb e)
 still:=λb hb h=>y.still b (ab hb x.size) (x.still b hb h)
 pm:=λa p hl=>y.pm a (x.pm a p hl) (ab hl x.size)
 sub:=λt z e=>y.sub t z (x.sub t z e)
 pre:=x.pre.trans y.pre
 size:=ae x.size y.size
 pn:=λa hl p=>(y.pn a (ab hl x.size) p).elim (x.pn a hl) λq=>.inr (x.bn a q hl)
 bn:=λa h hl=>x.bn a (y.bn a h (ab hl x.size)) hl
theorem pB.go(k:GX G s φ s' ow):pB G oe T s φ σ β P s' ow σ β P:=⟨λb o hb e=>k.ext b o (λq=>hb.1 (.inr (.inr q))) e,λY Y h=>h,λY p Y=>p,k.sub,aB _,k.grows.size,λY Y p=>.inl p,λY h Y=>h⟩
theorem SR.stillP(S:SR G sB ot om oe T φ ρ σ β P m s)(p:P a):A6 G oe T σ β a:=by
 refine⟨λq=>?_,λj hj=>?_⟩
 ·rcases q with rfl|⟨y,h1,h2⟩|q
  ·exact S.fr.ploc p
  rotate_left
  ·exact(S.er.psafe a p).2 q
  ·refine s9 (S.fr.own y h1) λc e1 e2 Y=>?_;rw[h2]at e1;cases e1;exact e2 p
 ·have hl:j<σ.length:=by refine rwj S.lenB ?_;exact(aS.mp hj).1
  induction ho:σ[j]? using aa with
  |none=>rw[au hl]at ho;cases ho
  |some o =>
   by_cases hg:o=.gone
   ·refine oa hg ?_;rfl
   ·exact absurd p (S.live j a o hj ho hg)
theorem SR.carryK(S:SR G sB ot om oe T φ ρ σ β P m s)(C:pB G oe T s φ σ β P s' ow ox oO P'):∀a o,P a->s.heap.get? a=some o->s'.heap.get? a=some o/\P' a :=
 λa o p e=>⟨C.keep a o (S.stillP p) e,C.pm a p (aN e)⟩
theorem SR.carry(S:SR G sB ot om oe T φ ρ σ β P m s)(C:pB G oe T s φ σ β P s' ow ox oO P')(r:VR tk φ s.heap β P v x):VR tk ow s'.heap oO P' v x :=
 r.mono C.sub (S.carryK C) C.pre
theorem SR.carrys(S:SR G sB ot om oe T φ ρ σ β P m s)(C:pB G oe T s φ σ β P s' ow ox oO P')(r:oA tk φ s.heap β P v x):oA tk ow s'.heap oO P' v x :=
 r.mono C.sub (S.carryK C) C.pre
structure o_(G:GD) (A:br) (Φ:rd) (sB:ah) (om:aw->Prop) (oe:Env) (T:Tb):Prop where
 hO:tL G A Φ
 hE:qc oe T
 hT:wc T
 IB:pp G sB.heap
 hP₀:∀a,sB.heap.objs.size<=a->om a
 hI:mY oe=false
 hcl:∀x c,oe.cells.lookup x=some c->T.celled x=true
noncomputable def Step(G:GD)(sB:ah)(ot:Gh)(om:aw->Prop)(oe:Env)(T:Tb)(s:ah)(φ:Gh)(σ:oH)(β:List aw)(P:aw->Prop)(oC:oI)(ox:oH)(s':ah)(K:Gh->List aw->(aw->Prop)->Prop):Prop :=
 ∃ow oO P' m',SR G sB ot om oe T ow oC ox oO P' m' s'/\pB G oe T s φ σ β P s' ow ox oO P'/\K ow oO P'
noncomputable def ET(G:GD)(A:br)(sB:ah)(ot:Gh)(om:aw->Prop)(oe:Env)(T:Tb)(ρ:oI)(σ:oH)(t:fe Value)(v:AV)(ox:oH):Prop :=
 ∀s φ β P m,SR G sB ot om oe T φ ρ σ β P m s->ao (ar oj wd) A t (λx s'=>Step G sB ot om oe T s φ σ β P ρ ox s' λow oO P'=>VR G.tok ow s'.heap oO P' v x) oE s
theorem VL(F:o_ G A Φ sB om oe T)(h:ES G A oe T ρ σ t v):ET G A sB ot om oe T ρ σ t v σ:=λs φ β P m S =>
 h.post (S.inv F.IB) S.er λx s' ow k I' R' r=>⟨ow,β,P,m,S.go k,.go k,r⟩
theorem SR.scratch(S:SR G sB ot om oe T φ ρ σ β P m s)(hC:sB.heap.objs.size<=C)(hp:¬P C)(hb:C∉β)(hl:C≠oe.locals)(hn:s.heap.Ns C m')(hs:bF C s.heap h'):
 SR G sB ot om oe T φ ρ σ β P m {s with heap:=h'}:=by
 have NW:=S.tabs.1.notX_ns hn;have TT:=S.tabs.1.but (λb o hb e=>hs.extBut b o hb e) NW (S.tabs.1.noHas_ns hn);have R:=S.er.but (X:=(·=C)) (h':=h') (t:=s.toks) S.tabs.1 (λb hb q=>NW (q▸hb)) (λb o hb e=>hs.extBut b o hb e) (bd hs.1.symm) (ai _) (λa p q=>hp (q▸p)) (λa p q=>hb (q▸p)) (λq=>hl q.symm)
  (λx c v hc hi q=>CR hn hi q.symm)
 refine sb S.base λhh tt e=>?_;exact{ S with base:=wz h' s.toks (by refine oa e ?_;rfl),old:=λb o hb e=>hs.extBut b o (Dg hC e) (S.old b o hb e),size:=ae S.size (bd hs.1.symm),er:=R,tabs:=⟨TT.1,λc q=>S.tabs.2 c (TT.2 c q)⟩}
theorem SR.alloc1(S:SR G sB ot om oe T φ ρ σ β P m s)(k:GX G s φ s' ow)(I9:∀a,pZ G s'.heap a->s.heap.objs.size<=a->P' a)(wy:∀a,P' a->P a)(Ay:∀a,P a->a<s.heap.objs.size->P' a)(Dt:∀a,s'.heap.objs.size<=a->P' a)(h1:s.heap.objs.size<=a)(h2:a<s'.heap.objs.size)(h3:¬P' a)(hg:o≠.gone)(ho:OR G.tok ow s'.heap (β++[a]) P' o a):
 SR G sB ot om oe T ow ρ (σ++[o]) (β++[a]) P' m s'/\pB G oe T s φ σ β P s' ow (σ++[o]) (β++[a]) P'/\VR G.tok ow s'.heap (β++[a]) P' (.ref σ.length) (.ref a):=by
 refine qJ (S.alloc (os:=[o]) (as:=[a]) k I9 wy Ay Dt (λb hb=>?_) (by simp) rfl (λu hu=>?_) (λj u hu=>?_)) ⟨λb o hb e=>k.ext b o (λq=>hb.1 (.inr (.inr q))) e,λb hb qU=>⟨qU.1,λj hj=>?_⟩,Ay,k.sub,e_ _ _,k.grows.size,λa Y p=>.inl (wy a p),λb hb hl=>?_⟩ (.ref ?_)
 ·refine oa (aI.mp hb) ?_;exact qJ h1 h2 h3
 ·refine oa (aI.mp hu) ?_;exact hg
 ·induction j using ce with
  |zero=>cases hu;exact oV a rfl ho
  |succ j=>simp at hu
 ·rcases d9 j β.length with q|q
  ·rw[aL q]at hj;have:=qU.2 j hj;rw[aL (by refine rwj S.lenB ?_;exact q)];exact this
  ·rw[ay q]at hj;have:b=a:=by
    have:=aY hj;simpa using this
   exact absurd hb (bu.mpr (this▸h1))
 ·rcases aW.mp hb with q|q
  ·exact q
  ·exact absurd hl (bu.mpr ((aI.mp q)▸h1))
 ·rw[ay (by refine oa S.lenB ?_;exact ai _),S.lenB,ci];rfl
theorem L5(S:SR G sB ot om oe T φ ρ σ β P m s)(cd:CD G s φ β P vs ow s' D C rh P')(th:Bool):
 Step G sB ot om oe T s φ σ β P ρ (if th then σ++[.list vs]else σ) s' λow oO P'=>VR G.tok ow s'.heap oO P' (if th then .ref σ.length else .lst vs) (.ref D)/\¬P' C/\C∉oO:=by
 refine oB cd.items λxs a1 a2=>?_;have hD:D<s'.heap.objs.size:=by refine o6 a1 λn ho=>?_;exact aN ho
 have NP:C<s'.heap.objs.size:=cd.ns.lt;have TB:=(cd.go.tabs S.tabs.1).1;have Ou:∀c,pZ G s'.heap c->c≠C:=λc h q=>TB.noHas_ns cd.ns (q▸h);have Y':∀c,pZ G s'.heap c->c≠D:=λc h q=>(TB.notX_list a1).2 (q▸h);have NQ:C∉β:=λq=>aJ _ (ab (S.er.blt C q) cd.cNew)
 induction th using aZ with
 |false =>
  have S':=S.alloc (os:=[]) (as:=[]) (P':=λa=>P a/\a≠C) cd.go (λa h1 h2=>⟨S.er.fresh a h2,Ou a h1⟩) (λa p=>p.1) (λa p hl=>⟨p,λq=>aJ _ (ab (q▸hl) cd.cNew)⟩)
   (λa ha=>⟨S.er.fresh a (ae cd.go.grows.size ha),λq=>aJ _ (ab (q▸NP) ha)⟩) (λa ha=>nomatch ha) cK rfl (λo ho=>nomatch ho) (λj o ho=>by simp at ho)
  rw[bB,bB]at S';refine⟨ow,β,_,m,S',⟨λb o hb e=>cd.go.ext b o (λq=>hb.1 (.inr (.inr q))) e,λb Y h=>h,λa p hl=>⟨p,λq=>aJ _ (ab (q▸hl) cd.cNew)⟩,cd.go.sub,aB _,cd.go.grows.size,λa Y p=>.inl p.1,λY h Y=>h⟩,?_,λp=>p.2 rfl,NQ⟩;exact .lst a1 ⟨S.er.fresh D cd.dNew,io cd.cd⟩ (a2.weak λa p=>⟨cd.sub a p,λq=>cd.pC (q▸p)⟩)
 |true =>
  obtain⟨oT,qg,oM⟩:=S.alloc1 (o:=.list vs) (a:=D) (P':=λa=>P a/\a≠C/\a≠D) cd.go (λa h1 h2=>qJ (S.er.fresh a h2) (Ou a h1) (Y' a h1)) (λa p=>p.1) (λa p hl=>qJ p (λq=>aJ _ (ab (q▸hl) cd.cNew)) (λq=>aJ _ (ab (q▸hl) cd.dNew)))
   (λa ha=>qJ (S.er.fresh a (ae cd.go.grows.size ha)) (λq=>aJ _ (ab (q▸NP) ha)) (λq=>aJ _ (ab (q▸hD) ha))) cd.dNew hD (λp=>p.2.2 rfl) (λq=>nomatch q)
   (.list a1 (a2.mono (λY Y e=>e) (λa o p e=>⟨e,cd.sub a p,λq=>cd.pC (q▸p),λq=>cd.pD (q▸p)⟩) (e_ _ _)))
  refine⟨ow,_,_,m,oT,qg,oM,λp=>p.2.1 rfl,λq=>?_⟩;rcases aW.mp q with q|q
  ·exact NQ q
  ·exact cd.cd (aI.mp q)
theorem QX(S:SR G sB ot om oe T φ ρ σ β P m s)(r:oA G.tok φ s.heap β P vs xs):
 Step G sB ot om oe T s φ σ β P ρ (σ++[.list vs]) {s with heap:=s.heap.push {cls:=.type "list",dict:=none,data:=.seq xs.toArray}} λow oO P'=>VR G.tok ow (s.heap.push {cls:=.type "list",dict:=none,data:=.seq xs.toArray}) oO P' (.ref σ.length) (.ref s.heap.objs.size):=by
 have hz:(s.heap.push {cls:=.type "list",dict:=none,data:=.seq xs.toArray}).objs.size=s.heap.objs.size+1:=bg ..;have k:GX G s φ {s with heap:=s.heap.push {cls:=.type "list",dict:=none,data:=.seq xs.toArray}} φ:=.same S.er.tk pQ.push (ai _);obtain⟨oT,qg,oM⟩:=S.alloc1 (o:=.list vs) (a:=s.heap.objs.size) (P':=λa=>P a/\a≠s.heap.objs.size) k (λa h1 h2=>absurd (pZ.lt S.tabs.1 (vw (λb o e=>av _ e) S.tabs.1 a h1)) (bu.mpr h2)) (λa p=>p.1) (λa p hl=>⟨p,cp hl⟩)
  (λa ha=>⟨S.er.fresh a (ae k.grows.size ha),λq=>aJ _ (ab (bT _) (hz▸q▸ha))⟩) (ai _) (by show _<(s.heap.push _).objs.size;refine oa hz ?_;exact bT _) (λp=>p.2 rfl) (λq=>nomatch q)
  (.list (AH s.heap) (r.mono (λY Y e=>e) (λa o p e=>⟨av _ e,p,cp (aN e)⟩) (e_ _ _)))
 exact⟨φ,_,_,m,oT,qg,oM⟩
theorem wfY(S:SR G sB ot om oe T φ ρ σ β P m s):
 Step G sB ot om oe T s φ σ β P ρ (σ++[.dict []]) {s with heap:=s.heap.push {cls:=.type "dict",data:=.dict #[]}} λow oO P'=>VR G.tok ow (s.heap.push {cls:=.type "dict",data:=.dict #[]}) oO P' (.ref σ.length) (.ref s.heap.objs.size):=by
 have hz:(s.heap.push {cls:=.type "dict",data:=.dict #[]}).objs.size=s.heap.objs.size+1:=bg ..;have k:GX G s φ {s with heap:=s.heap.push {cls:=.type "dict",data:=.dict #[]}} φ:=.same S.er.tk pQ.push (ai _);obtain⟨oT,qg,oM⟩:=S.alloc1 (o:=.dict []) (a:=s.heap.objs.size) (P':=λa=>P a/\a≠s.heap.objs.size) k (λa h1 h2=>absurd (pZ.lt S.tabs.1 (vw (λb o e=>av _ e) S.tabs.1 a h1)) (bu.mpr h2)) (λa p=>p.1) (λa p hl=>⟨p,cp hl⟩)
  (λa ha=>⟨S.er.fresh a (ae k.grows.size ha),λq=>aJ _ (ab (bT _) (hz▸q▸ha))⟩) (ai _) (by show _<(s.heap.push _).objs.size;refine oa hz ?_;exact bT _) (λp=>p.2 rfl) (λq=>nomatch q)
  (OR.dict (ks:=[]) (vs:=[]) (xs:=[]) (i5 ..) rfl .nil)
 exact⟨φ,_,_,m,oT,qg,oM⟩
theorem wgF(h:oy T e=.list .nil):∃p,e=.List [] p:=by
 refine pK (GP h) λxs p e1 e2=>?_
 induction xs using af with
 |nil=>exact⟨p,e1⟩
 |cons=>exact PZ e2
theorem U2(h:Bm (.cons x es)=true):x=.list .nil/\Bm es=true:=by
 cases x with
 |list ys =>
  cases ys with
  |nil=>exact⟨rfl,h⟩
  |cons=>exact qb h
 |_=>exact qb h
theorem U1:∀{pos:cq}{s:ah}{Q:List Value->ah->Prop},Bm (pk T elts)=true ->
 (∀(as:List aw) (s':ah),as.length=elts.length->s'={s with heap:=s'.heap}->qt s.heap s'.heap->s.heap.objs.size<=s'.heap.objs.size->as.Nodup->(∀a∈as,s.heap.objs.size<=a/\a<s'.heap.objs.size/\s'.heap.PlainList a #[])->Q (as.map dB) s') ->
 ao (ar oj wd) A (eC (eF pos (b_ elts oe))) Q E s:=by
 induction elts with
 |nil=>exact λY hQ=>fT (hQ [] _ rfl rfl (qt.refl _) (ai _) cK λa ha=>nomatch ha)
 |cons e elts ih =>
  intro pos s Q he hQ;refine p_ (U2 he) λh1 he=>?_;refine o6 (wgF h1) ?_;rintro p rfl;refine eX (fI (fT ⟨by decide,?_⟩)) rfl;have hL:=AH (xs:=[]) s.heap;have hz:(s.heap.push {cls:=.type "list",dict:=none,data:=.seq ([]:List Value).toArray}).objs.size=s.heap.objs.size+1:=bg ..;have hX:qt s.heap (s.heap.push {cls:=.type "list",dict:=none,data:=.seq ([]:List Value).toArray}):=λb o e=>av _ e;generalize s.heap.push {cls:=.type "list",dict:=none,data:=.seq ([]:List Value).toArray}=H at hL hz hX;have o3:s.heap.objs.size<=H.objs.size:=hz▸bw _;refine ih he λas s' hl hs hx pi rk has=>?_;refine hQ (s.heap.objs.size::as) s' (congrArg (·+1) hl) hs (qt.trans hX hx) (ae o3 pi) (cB.mpr ⟨λq=>lH _ (hz▸(has _ q).1),rk⟩) λa ha=>?_;rcases bh.mp ha with rfl|q
  ·exact qJ (ai _) (ab (hz▸bT _) pi) (hL.at λo e=>hx _ o e)
  ·exact⟨ae o3 (has a q).1,(has a q).2⟩
theorem Ws:∀(es:List Expr),(pk T es).len=es.length:=by
 intro vv
 induction vv with
 |nil =>
  exact rfl
 |cons e es ih =>
  simp only[Ej,Wr,ih,aF]
theorem wef:∀(as:List aw) (k:Nat),(∀j a,as[j]?=some a->β[n+(k+j)]?=some a)->oA tk φ h β P ((bp k as.length).map λj=>.ref (n+j)) (as.map dB):=by
 intro vv
 induction vv with
 |nil =>
  intro _ _;exact .nil
 |cons a as ih =>
  intro k hb;refine oa aF ?_;refine oa fL ?_;refine .cons (.ref (by simpa using hb 0 a rfl)) (ih (k+1) λj a ha=>?_);have:=hb (j+1) a (by simpa using ha);refine oa (show k+1+j=k+(j+1)from fj k 1 j) ?_;exact this
theorem wga{σ:oH}{G:GD}{s s':ah}{as:List aw}(S:SR G sB ot om oe T φ ρ σ β P m s)(hs:s'={s with heap:=s'.heap})(hx:qt s.heap s'.heap)(hz:s.heap.objs.size<=s'.heap.objs.size)(rk:as.Nodup)(has:∀a∈as,s.heap.objs.size<=a/\a<s'.heap.objs.size/\s'.heap.PlainList a #[]):
 Step G sB ot om oe T s φ σ β P ρ (σ++aA as.length (.list [])++[.list ((ak as.length).map λj=>.ref (σ.length+j))])
  { s' with heap:=s'.heap.push {cls:=.type "list",dict:=none,data:=.seq (as.map dB).toArray}} λow oO P'=>VR G.tok ow (s'.heap.push {cls:=.type "list",dict:=none,data:=.seq (as.map dB).toArray}) oO P' (.ref (σ.length+as.length)) (.ref s'.heap.objs.size):=by
 have OG:(s'.heap.push {cls:=.type "list",dict:=none,data:=.seq (as.map dB).toArray}).objs.size=s'.heap.objs.size+1:=bg ..;have Dz:qt s'.heap (s'.heap.push {cls:=.type "list",dict:=none,data:=.seq (as.map dB).toArray}):=λb o e=>av _ e;generalize hH:s'.heap.push {cls:=.type "list",dict:=none,data:=.seq (as.map dB).toArray}=H at OG Dz ⊢;have hL:H.PlainList s'.heap.objs.size (as.map dB).toArray:=hH▸AH s'.heap;have k:GX G s φ {s' with heap:=H} φ:=.same S.er.tk ⟨by refine oa hs ?_;exact⟨H,s.toks,rfl,hx.trans Dz⟩,by show _<=H.objs.size;lia⟩ (by refine oa hs ?_;exact ai _);have q5:s'.heap.objs.size<H.objs.size:=bd (id (i6 OG));have zf:s.heap.objs.size<H.objs.size:=by lia
 rw[ch];have oT:=S.alloc (os:=aA as.length (.list [])++[.list ((ak as.length).map λj=>.ref (σ.length+j))]) (as:=as++[s'.heap.objs.size]) (P':=tE P s.heap.objs.size H.objs.size) k (λa h1 h2=>absurd (pZ.lt S.tabs.1 (vw (hx.trans Dz) S.tabs.1 a h1)) (bu.mpr h2)) (λa p=>p.1)
  (λa p hl=>⟨p,λq=>bu.mpr q.1 hl⟩) (λa ha=>⟨S.er.fresh a (ae k.grows.size ha),λq=>bu.mpr (show H.objs.size<=a from ha) q.2⟩)
  (λa ha=>?_) ?_ (by simp) (λo ho=>?_) (λj o ho=>?_)
 ·refine⟨φ,_,_,m,oT,⟨λb o Y e=>(hx.trans Dz) b o e,λb hb qU=>⟨qU.1,λj hj=>?_⟩,λa p hl=>⟨p,λq=>bu.mpr q.1 hl⟩,λY Y e=>e,e_ _ _,k.grows.size,λa Y p=>.inl p.1,λb hb hl=>?_⟩,.ref ?_⟩
  ·rcases d9 j β.length with q|q
   ·rw[aL q]at hj;have:=qU.2 j hj;rw[aL (by refine rwj S.lenB ?_;exact q)];exact this
   ·rw[ay q]at hj;have hm:=aY hj;exfalso;rcases aW.mp hm with q|q
    ·exact bu.mpr (has b q).1 hb
    ·rw[aI.mp q]at hb;exact bu.mpr hz hb
  ·rcases aW.mp hb with q|q
   ·exact q
   ·rcases aW.mp q with q|q
    ·exact absurd hl (bu.mpr (has b q).1)
    ·rw[aI.mp q]at hl;exact absurd hl (bu.mpr hz)
  ·rw[ay (by refine oa S.lenB ?_;exact aV _ _),S.lenB,cH,ay (ai _),ci];rfl
 ·rcases aW.mp ha with q|q
  ·refine tR (has a q) λh1 h2 Y=>?_;have h3:a<H.objs.size:=bW h2 (q5);exact qJ h1 h3 (λp=>p.2 ⟨h1,h3⟩)
  ·have:=aI.mp q;subst this;exact qJ hz q5 (λp=>p.2 ⟨hz,q5⟩)
 ·rw[dk];refine qJ rk (by simp) (λa ha b hb q=>?_);have:=aI.mp hb;subst this;subst q;exact aJ _ (has _ ha).2.1
 ·rcases aW.mp ho with q|q
  ·refine oa ((List.mem_replicate.mp q).2) ?_;exact λq=>nomatch q
  ·refine oa (aI.mp q) ?_;exact λq=>nomatch q
 ·rcases d9 j as.length with q|q
  ·rw[aL (by simpa using q),fk]at ho;rw[if_pos q]at ho;cases ho;refine oV (as[j]) (by refine oa (aL q) ?_;refine oa (au q) ?_;rfl) (.list (xs:=[]) ((has _ (dG q)).2.2.at λo e=>Dz _ o e) .nil)
  ·rw[ay (by simpa using q)]at ho;have hj:j-as.length=0:=by
    rcases mm (j-as.length)with z|z
    ·exact z
    ·exfalso;rw[cf]at ho;rw[ew (by simp;exact z)]at ho;cases ho
   rw[cf,hj]at ho;cases ho;refine oV s'.heap.objs.size (by refine oa (ay q) ?_;refine oa hj ?_;rfl) (.list hL ?_);refine oa fY ?_;refine wef as 0 λi a ha=>?_;rw[ay (by refine oa S.lenB ?_;exact aV _ _),S.lenB,gx,cH,aL (aS.mp ha).1];exact ha
theorem Tz{C:Expr->Prop}{e:Expr}(h:sL e=true)(h1:∀es p,C (.List es p))(h2:∀p,C (.Dict [] [] p))(h3:∀a gs sc p,C (.ListComp a gs sc p)):C e:=by
 induction e using bq with
 |List=>exact h1 ..
 |ListComp=>exact h3 ..
 |Dict ks vs =>
  induction ks using af with
  |nil=>induction vs using af with
   |nil=>exact h2 _
   |cons=>exact qb h
  |cons=>exact qb h
 |_=>exact qb h
theorem wal [Decidable c](h:(if c then Ex.comp n gs else .bad)=.comp n' gs'):c/\n'=n/\gs'=gs:=by
 by_cases q:c
 ·rw[if_pos q]at h;exact qJ q ((Ex.comp.inj h).1.symm) ((Ex.comp.inj h).2.symm)
 ·rw[if_neg q]at h;exact wcB h
theorem O5 [Decidable c]:(if c then x else y)=x\/(if c then x else y)=y:=by
 by_cases q:c
 ·exact .inl (if_pos q)
 ·exact .inr (if_neg q)
theorem L4(hO:tL G A Φ)(h:oy T (.ListComp oK gens sc pos)=.comp n gs):
 xt T sc/\(∀g∈gens,g.is_async=0)/\pr G A Φ σ oK/\(∀g∈gens,pr G A Φ σ g.iter/\(∀f p as pos,g.iter=.Call (.Name f p) as [] pos->∀a∈as,pr G A Φ σ a)/\∀c∈g.ifs,pr G A Φ σ c) /\
 n=(sD sc).length/\gs=vz T (T.comp sc) (oy (T.comp sc) oK) gens :=
 have all:∀e,pr G A Φ σ e:=λe=>qQ hO _ e (ai _)
 (wal h).elim λhc r=>qG hc λhc c5=>qG hc λhc c4=>qG hc λhc c3=>qG hc λc1 c2 =>
  ⟨⟨eq_of_beq c1,of_decide_eq_true c2,λx hx=>aj.mp c4 x (gz.mpr ⟨_,hx,rfl⟩),Ef c5⟩,λg hg=>eq_of_beq (aj.mp c3 g hg),all _,λg hg=>qJ (all _) (λf p as pos he a ha=>all _) (λc hc=>all _),r⟩
theorem VK(F:o_ G A Φ sB om oe T)(he:AP Φ ρ σ (.list (pk T elts))=some (v,ox)):ET G A sB ot om oe T ρ σ (bK (.List elts pos) oe) v ox:=by
 by_cases hem:(Bm (pk T elts)&&decide (0<(pk T elts).len/\(pk T elts).len<=1000))=true
 ·refine oN (Q:=λr=>ET G A sB ot om oe T ρ σ (bK (.List elts pos) oe) r.1 r.2) ((if_pos hem).symm.trans he) λs φ β P m S=>?_;refine qG hem λh1 hn=>fI (U1 h1 λas s' hl hs hx hz rk has=>?_);replace hn:=(of_decide_eq_true hn).2;rw[Ws]at hn ⊢;rw[<-hl]at hn ⊢;exact⟨sk (by refine oa (ac _) ?_;exact ae hn (by decide)),wga S hs hx hz rk has⟩
 ·replace he:=(if_neg hem).symm.trans he
  induction qm:qj Φ σ ρ (pk T elts)using aa with
  |none=>rw[qm]at he;exact oq he
  |some vs =>
   rw[qm]at he;refine qd he λo3 he=>oN (Q:=λr=>ET G A sB ot om oe T ρ σ (bK (.List elts pos) oe) r.1 r.2) he λs φ β P m S=>?_;refine fI (((wT F.hE (λe Y=>qQ F.hO _ e (ai _)) qm).2 pos).post (S.inv F.IB) S.er λxs ou oF oD ph oP oM=>⟨sk (by refine rwj oM.length ?_;exact o3),?_⟩);refine wX (QX (S.go oD) oM) λo4 rt qz rm pA re pT=>?_;exact⟨o4,rt,qz,rm,pA,(pB.go oD).trans re,pT⟩
theorem wey(S:SR G sB ot om oe T φ ρ σ β P m s)(cd:CD G s φ β P vs oF ou D C rh qM)(hs:bF C ou.heap h')(St:∃ow oO P' m',SR G sB ot om oe T ow ρ ox oO P' m' ou/\pB G oe T s φ σ β P ou ow ox oO P'/\VR G.tok ow ou.heap oO P' v x/\¬P' C/\C∉oO):
 Step G sB ot om oe T s φ σ β P ρ ox {ou with heap:=h'} λow oO P'=>VR G.tok ow h' oO P' v x:=by
 refine C5 St λoF rj qM rh oT qg oM hp hb=>?_;have hC:s.heap.objs.size<=C:=cd.cNew;refine⟨oF,rj,qM,rh,oT.scratch (ae S.size hC) hp hb (λq=>aJ _ (ab (q▸S.er.ns.lt:C<s.heap.objs.size) hC)) cd.ns hs,⟨λb o hb e=>hs.extBut b o (λq=>aJ _ (ab (q▸aN e:C<s.heap.objs.size) hC)) (qg.keep b o hb e),qg.still,qg.pm,qg.sub,qg.pre,ae qg.size (bd hs.1.symm),qg.pn,qg.bn⟩,?_⟩;exact oM.mono (λY Y e=>e) (λa o p e=>⟨hs.extBut a o (λq=>hp (q▸p)) e,p⟩) (aB _)
theorem VH(F:o_ G A Φ sB om oe T)(h:oy T (.ListComp oK gens sc pos)=.comp n gs)(qm:tr Φ σ ρ n gs=some vs):
 ET G A sB ot om oe T ρ σ (bK (.ListComp oK gens sc pos) oe) (.ref σ.length) (σ++[.list vs]):=λs φ β P m S=>by
 refine MX (L4 (σ:=σ) F.hO h) λc1 c2 c3 c4 c5 c6=>?_;rw[c5,c6]at qm;have Dq:=Hx (yF:=none) (pos:=pos) (zy:=jS gens pos) (E:=oE) (Q:=λx s'=>Step G sB ot om oe T s φ σ β P ρ (σ++[.list vs]) s' λow oO P'=>VR G.tok ow s'.heap oO P' (.ref σ.length) x)
  F.hO.hA F.hE F.hO.hG c1 c2 c3 c4 qm (S.inv F.IB) S.er λow s' D C m' P' cd=>⟨m',cd.ns,λh' hs=>wey (ox:=σ++[AO.list vs]) (v:=AV.ref σ.length) (x:=dB D) S cd hs (L5 S cd true)⟩
 rw[eval_ListComp,Dq.1];exact Dq.2
theorem VJ(F:o_ G A Φ sB om oe T)(he:AP Φ ρ σ (oy T (.ListComp oK gens sc pos))=some (v,ox)):ET G A sB ot om oe T ρ σ (bK (.ListComp oK gens sc pos) oe) v ox:=by
 have k:oy T (.ListComp oK gens sc pos)=.comp (sD sc).length (vz T (T.comp sc) (oy (T.comp sc) oK) gens)\/oy T (.ListComp oK gens sc pos)=.bad:=O5;rcases k with h|h
 ·have YB:=h▸he;replace he:(match tr Φ σ ρ (sD sc).length (vz T (T.comp sc) (oy (T.comp sc) oK) gens)with|some vs=>some (AV.ref σ.length,σ++[AO.list vs])|none=>none)=some (v,ox):=YB
  induction qm:tr Φ σ ρ (sD sc).length (vz T (T.comp sc) (oy (T.comp sc) oK) gens)using aa with
  |none=>rw[qm]at he;exact oq he
  |some vs =>
   rw[qm]at he;exact oN (Q:=λr=>ET G A sB ot om oe T ρ σ (bK (.ListComp oK gens sc pos) oe) r.1 r.2) he (VH F h qm)
 ·rw[h]at he;exact oq he
theorem Mv(F:o_ G A Φ sB om oe T){e:Expr}{th:Bool}{v:AV}(hc:th=true->sL e=true)(he:t8 Φ ρ σ th (oy T e)=some (v,ox)):ET G A sB ot om oe T ρ σ (bK e oe) v ox:=by
 induction th using aZ with
 |false =>
  refine yj (Q:=λr=>ET G A sB ot om oe T ρ σ (bK e oe) r.1 r.2) he λu hu=>?_;exact VL F (qQ F.hO _ e (ai _) oe T ρ _ F.hE hu).1
 |true =>
  revert he;refine Tz (C:=λe=>t8 Φ ρ σ true (oy T e)=some (v,ox)->ET G A sB ot om oe T ρ σ (bK e oe) v ox) (hc rfl) (λes p he=>VK F he) (λp he=>?_) λa gs sc p he=>VJ F he;exact oN (Q:=λr=>ET G A sB ot om oe T ρ σ (bK (.Dict [] [] p) oe) r.1 r.2) he λs φ β P m S=>wpAny_Dict_empty (wfY S)
section
variable {A:br}{oe:Env}{T:Tb}{ρ oC:oI}{σ ox u3:oH}{G:GD}{s s' qV:ah}{φ ow xp:Gh}{β oO Ez:List aw}{P P' Cy om:aw->Prop}{m m':Str->Option Value}{tk:aw}{h h':bU}
variable {sB:ah}{ot:Gh}{Φ:rd}
noncomputable abbrev t5(G:GD)(sB:ah)(ot:Gh)(om:aw->Prop)(oe:Env)(T:Tb)(s:ah)(φ:Gh)(σ:oH)(β:List aw)(P:aw->Prop)(oC:oI)(ox:oH)(s':ah):Prop :=
 ∃ow oO P' m',SR G sB ot om oe T ow oC ox oO P' m' s'/\pB G oe T s φ σ β P s' ow ox oO P'
noncomputable def A3(G:GD)(sB:ah)(ot:Gh)(om:aw->Prop)(oe:Env)(T:Tb)(s:ah)(φ:Gh)(σ:oH)(β:List aw)(P:aw->Prop):Fl->im->ah->Prop
 | .next oC ox,f,s'=>f=.next/\t5 G sB ot om oe T s φ σ β P oC ox s'
 | .ret v,f,s'=>∃x,f=.ret x/\∃ow,GX G sB ot s' ow/\VR G.tok ow s'.heap [] om v x
noncomputable def qo(G:GD)(A:br)(sB:ah)(ot:Gh)(om:aw->Prop)(oe:Env)(T:Tb)(ρ:oI)(σ:oH)(t:fe im)(fl:Fl):Prop :=
 ∀s φ β P m,SR G sB ot om oe T φ ρ σ β P m s->ao (ar oj wd) A t (A3 G sB ot om oe T s φ σ β P fl) oE s
theorem zE{x:Str}{i:Nat}{v:AV}{xv:Value}{Q:Unit->ah->Prop}{E:Value->ah->Prop}(F:o_ G A Φ sB om oe T)(hx:T.own x=some i)(S:SR G sB ot om oe T φ ρ σ β P m s)(r:VR G.tok φ s.heap β P v xv)
 (hQ:∀s' m',SR G sB ot om oe T φ (ρ.set i (some v)) σ β P m' s'->pB G oe T s φ σ β P s' φ σ β P->(∀b o,¬yL G oe T b->s.heap.get? b=some o->s'.heap.get? b=some o)->Q () s'):ao (ar oj wd) A (ge oe x xv) Q E s :=
 S.store F.hE F.hT hx r λs' m' S' kp sz=>hQ s' m' S' ⟨λb o hb e=>kp b o (λq=>hb.1 (q.elim .inl λq=>.inr (.inl q))) e,λY Y h=>h,λY p Y=>p,λY Y e=>e,aB _,sz,λY Y p=>.inl p,λY h Y=>h⟩ λb o hb e=>kp b o (λq=>hb (q.elim .inl λq=>.inr (.inl q))) e
inductive ye(A:br) (oe:Env):List Str->List (Value->fe Unit)->Prop
 |nil:ye A oe [] []
 |cons {x:Str}{xs:List Str}{g:Value->fe Unit}{gs:List (Value->fe Unit)} (h:∀v (Q:Unit->ah->Prop) (E:Value->ah->Prop) s,ao (ar oj wd) A (ge oe x v) Q E s->ao (ar oj wd) A (g v) Q E s) (r:ye A oe xs gs):ye A oe (x::xs) (g::gs)
theorem DT{α γ:Type}{f:α->Option γ}{a:α}{as:List α}{bs:List γ}(h:(a::as).mapM f=some bs):∃b cs,bs=b::cs/\f a=some b/\as.mapM f=some cs:=by
 rw[j8]at h;exact Bl (f:=λb=>(as.mapM f).bind λcs=>some (b::cs)) h λb h1 h=>Bl (f:=λcs=>some (b::cs)) h λcs h2 h=>zk b cs ((ag h).symm) h1 h2
theorem GC{C:List Nat->List AV->oI->oI->Prop}(h0:∀ρ,C [] [] ρ ρ)(h1:∀i is v vs ρ oC,sE (ρ.set i (some v)) is vs=some oC->C is vs (ρ.set i (some v)) oC->C (i::is) (v::vs) ρ oC){is:List Nat}:∀{vs:List AV}{ρ oC:oI},sE ρ is vs=some oC->C is vs ρ oC:=by
 induction is with
 |nil =>
  intro vs ρ oC h
  induction vs using af with
  |nil=>exact oN (Q:=C [] [] ρ) h (h0 ρ)
  |cons=>exact oq h
 |cons i is ih =>
  intro vs ρ oC h
  induction vs using af with
  |nil=>exact oq h
  |cons v vs=>exact h1 i is v vs ρ oC h (ih h)
theorem Kz(F:o_ G A Φ sB om oe T){is:List Nat}{vs:List AV}{ρ oC:oI}(hs:sE ρ is vs=some oC){E:Value->ah->Prop}:∀{xs:List Str}{gs:List (Value->fe Unit)}{ys:List Value}{s:ah}{m:Str->Option Value}{Q:Unit->ah->Prop},
 ye A oe xs gs->xs.mapM T.own=some is->SR G sB ot om oe T φ ρ σ β P m s->oA G.tok φ s.heap β P vs ys ->
 (∀s' m',SR G sB ot om oe T φ oC σ β P m' s'->pB G oe T s φ σ β P s' φ σ β P->Q () s')->ao (ar oj wd) A (lC gs ys) Q E s:=by
 refine GC (C:=λis vs ρ oC=>∀{xs:List Str}{gs:List (Value->fe Unit)}{ys:List Value}{s:ah}{m:Str->Option Value}{Q:Unit->ah->Prop},ye A oe xs gs->xs.mapM T.own=some is->SR G sB ot om oe T φ ρ σ β P m s->oA G.tok φ s.heap β P vs ys ->
  (∀s' m',SR G sB ot om oe T φ oC σ β P m' s'->pB G oe T s φ σ β P s' φ σ β P->Q () s')->ao (ar oj wd) A (lC gs ys) Q E s) (λρ xs gs ys s m Q hg hm S r hQ=>?_) (λi is v vs ρ oC Y ih xs gs ys s m Q hg hm S r hQ=>?_) hs
 ·refine oa r.unnil ?_;cases hg with
  |nil=>exact aQ (hQ s m S .refl)
  |cons=>refine pK (DT hm) λY Y e Y=>?_;exact nomatch e
 ·refine qe r.uncons ?_;rintro y ys rfl ra rs;cases hg with
  |nil=>exact nomatch hm
  |cons hg oG =>
   refine qe (DT hm) λj js e h1 h2=>?_;have e:=List.cons.inj e;rw[<-e.1]at h1;rw[<-e.2]at h2;exact an (cF (hg _ _ _ _ (zE F h1 S ra λou rh oT qg Y=>ih oG h2 oT (S.carrys qg rs) λoJ rm pA re=>hQ oJ rm pA (qg.trans re))))
theorem QV{C:Expr->List Str->Prop}{e:Expr}{ts:List Expr}{xs:List Str}(h:tZ (e::ts)=some xs)(k:∀x p ys,tZ ts=some ys->C (.Name x p) (x::ys)):C e xs:=by
 induction e using bq with
 |Name x p=>exact yj h (k x p)
 |_=>exact oq h
theorem QW{ts:List Expr}:∀{xs:List Str},tZ ts=some xs->∃gs,gh ts oe=gs.map (λg=>(false,g))/\ye A oe xs gs/\gs.length=ts.length/\xs.length=ts.length:=by
 induction ts with
 |nil=>exact λh=>oN (Q:=λxs=>∃gs,gh [] oe=gs.map (λg=>(false,g))/\ye A oe xs gs/\gs.length=0/\xs.length=0) h ⟨[],rfl,.nil,rfl,rfl⟩
 |cons e ts ih =>
  refine λh=>QV (C:=λe xs=>∃gs,gh (e::ts) oe=gs.map (λg=>(false,g))/\ye A oe xs gs/\gs.length=(e::ts).length/\xs.length=(e::ts).length) h λx p ys hy=>?_;refine H4 (ih hy) λgs h1 h2 h3 h4=>?_;exact F8 (k9 (.Name x p) oe::gs) (congrArg (List.cons (false,k9 (.Name x p) oe)) h1) (.cons (λv Q E s hh=>ie hh) h2) (congrArg ek h3) (congrArg ek h4)
theorem wcC(gs:List (Value->fe Unit)):(gs.map λg=>(false,g)).findIdx? (·.1)=none:=by
 rw[kw];intro x hx;refine oB (aE.mp hx) ?_;rintro g _ rfl;rfl
theorem wfB{e:Expr}{x:Str}{px:cq}{line:Nat}:jc e (some (.Name x px)) line oe=pure false\/(∃oK gens sc p,e=.ListComp oK gens sc p/\jc e (some (.Name x px)) line oe=pure true)\/oy T e=.bad:=by
 induction e using bq with
 |ListComp oK gens sc p =>
  have:∃b,jc (.ListComp oK gens sc p) (some (.Name x px)) line oe=pure b:=⟨_,rfl⟩
  refine o6 this λb hb=>?_
  induction b using aZ with
  |false=>exact .inl hb
  |true=>exact .inr (.inl ⟨oK,gens,sc,p,rfl,hb⟩)
 |SetComp=>exact .inr (.inr rfl)
 |DictComp=>exact .inr (.inr rfl)
 |_=>exact .inl rfl
theorem HM{th:Bool}{v:AV}{Q:Prop}(h:t8 Φ ρ σ th .bad=some (v,ox)):Q:=by
 cases th<;>exact oq h
theorem VV{C:AV->oH->Prop}{oK:Expr}{gens:List bS}{sc:cj}{p:cq}{th:Bool}{v:AV}(he:t8 Φ ρ σ th (oy T (.ListComp oK gens sc p))=some (v,ox))
 (k:∀n gs vs,oy T (.ListComp oK gens sc p)=.comp n gs->tr Φ σ ρ n gs=some vs->C (if th then .ref σ.length else .lst vs) (if th then σ++[.list vs]else σ)):C v ox:=by
 have q:oy T (.ListComp oK gens sc p)=.comp (sD sc).length (vz T (T.comp sc) (oy (T.comp sc) oK) gens)\/oy T (.ListComp oK gens sc p)=.bad:=O5;rcases q with h|h
 ·rw[h]at he;replace k:=λvs=>k _ _ vs h;generalize(sD sc).length=n at *;generalize vz T (T.comp sc) (oy (T.comp sc) oK) gens=gs at *
  induction th using aZ with
  |false=>exact yj (Q:=λr=>C r.1 r.2) he λu hu=>yj (Q:=λu=>C u σ) hu k
  |true =>
   replace he:(match tr Φ σ ρ n gs with|some vs=>some (AV.ref σ.length,σ++[AO.list vs])|none=>none)=some (v,ox):=he
   induction qm:tr Φ σ ρ n gs using aa with
   |none=>rw[qm]at he;exact oq he
   |some vs=>rw[qm]at he;exact oN (Q:=λr=>C r.1 r.2) he (k vs qm)
 ·rw[h]at he;exact HM he
theorem Qc(S:SR G sB ot om oe T φ ρ σ β P m s){b:aw}(hb:yL G oe T b):b<s.heap.objs.size:=by
 rcases hb with rfl|⟨y,h1,h2⟩|q
 ·exact S.er.ns.lt
 ·refine pK (S.er.celled y (by unfold Tb.celled;refine oa h1 ?_;rfl)) λc rq e1 e2=>?_;exact ag (h2.symm.trans e1)▸e2.lt
 ·exact S.tabs.1.lt q
theorem whb{x:Str}{px:cq}{i:Nat}{vs:List AV}{v:AV}{whE:Gh}{s6:ah}{D C:aw}{ue:Str->Option Value}{qM:aw->Prop}{E:Value->ah->Prop}(F:o_ G A Φ sB om oe T)(hx:T.own x=some i)(S:SR G sB ot om oe T φ ρ σ β P m s)(cd:CD G s φ β P vs whE s6 D C ue qM)
 (St:∃ow oO P' m',SR G sB ot om oe T ow ρ ox oO P' m' s6/\pB G oe T s φ σ β P s6 ow ox oO P'/\VR G.tok ow s6.heap oO P' v (.ref D)/\¬P' C/\C∉oO):
 ao (ar oj wd) A (k9 (.Name x px) oe (.ref D)) (λY oJ=>∃rm,oJ.heap.Ns C rm/\∀h',bF C oJ.heap h'->t5 G sB ot om oe T s φ σ β P (ρ.set i (some v)) ox {oJ with heap:=h'}) E s6:=by
 refine C5 St λoF rj qM rh oT qg oM hp hb=>?_;have NO:¬yL G oe T C:=λq=>aJ _ (ab (Qc S q) cd.cNew);refine ie (zE F hx oT oM λoJ rm pA re kp=>?_);have hn:oJ.heap.Ns C ue:=cd.ns.at' λo e=>kp C o NO e;have rA:=qg.trans re;exact oV ue hn (λh' hs=>Ga oF rj qM rm (pA.scratch (ae S.size cd.cNew) hp hb (λq=>NO (.inl q)) hn hs) ⟨λb o hb e=>hs.extBut b o (λq=>aJ _ (ab (q▸aN e:C<s.heap.objs.size) cd.cNew)) (rA.keep b o hb e),rA.still,rA.pm,rA.sub,rA.pre,ae rA.size (bd hs.1.symm),rA.pn,rA.bn⟩)
theorem weY(F:o_ G A Φ sB om oe T){x:Str}{px pos p:cq}{oK:Expr}{gens:List bS}{sc:cj}{i n:Nat}{gs:wI}{vs:List AV}{th:Bool}(hx:T.own x=some i)(hs:jc (.ListComp oK gens sc p) (some (.Name x px)) pos.line oe=pure true)(h:oy T (.ListComp oK gens sc p)=.comp n gs)(qm:tr Φ σ ρ n gs=some vs):
 qo G A sB ot om oe T ρ σ (bz (.Assign [.Name x px] (.ListComp oK gens sc p) pos) oe) (.next (ρ.set i (some (if th then .ref σ.length else .lst vs))) (if th then σ++[.list vs]else σ)):=λs φ β P m S=>by
 refine MX (L4 (σ:=σ) F.hO h) λc1 c2 c3 c4 c5 c6=>?_;rw[c5,c6]at qm;refine oa (exec_Assign_Name_used _ _ _ _ hs) ?_;refine an (cT (an ?_));show ao _ A (do let _ <-jv (.ListComp oK gens sc p) sc oe (jS gens p) (nO []) (nz gens) (lV gens oe) (some (k9 (.Name x px) oe))) _ _ s;have Dq:=Hx (yF:=some (k9 (.Name x px) oe)) (pos:=p) (zy:=jS gens p) (E:=oE) (Q:=λY s'=>t5 G sB ot om oe T s φ σ β P (ρ.set i (some (if th then .ref σ.length else .lst vs))) (if th then σ++[AO.list vs]else σ) s')
  F.hO.hA F.hE F.hO.hG c1 c2 c3 c4 qm (S.inv F.IB) S.er λow s' D C m' P' cd=>by
   show ao _ A (k9 (.Name x px) oe (.ref D)) _ _ _;exact whb F hx S cd (L5 S cd th)
 refine oa Dq.1 ?_;exact an (b9 Dq.2 (λY s' hq=>aQ (aQ ⟨rfl,hq⟩)) λY Y e=>e)
theorem QC(F:o_ G A Φ sB om oe T){x:Str}{px pos:cq}{e:Expr}{i:Nat}{th:Bool}{v:AV}(hx:T.own x=some i)(hc:th=true->sL e=true)(he:t8 Φ ρ σ th (oy T e)=some (v,ox)):
 qo G A sB ot om oe T ρ σ (bz (.Assign [.Name x px] e pos) oe) (.next (ρ.set i (some v)) ox):=by
 rcases wfB (oe:=oe) (T:=T) (e:=e) (x:=x) (px:=px) (line:=pos.line)with hs|⟨oK,gens,sc,p,rfl,hs⟩|hb
 ·refine λs φ β P m S=>dA (up (Mv F hc he s φ β P m S) λxv ou o7=>?_) hs;refine wX o7 λoF rj qM rh oT qg oM=>?_;exact zE F hx oT oM λoJ rm pA re Y=>⟨rfl,oF,rj,qM,rm,pA,qg.trans re⟩
 ·exact VV (C:=λv ox=>qo G A sB ot om oe T ρ σ (bz (.Assign [.Name x px] (.ListComp oK gens sc p) pos) oe) (.next (ρ.set i (some v)) ox)) he λn gs vs h qm=>weY F hx hs h qm
 ·rw[hb]at he;exact HM he
end
theorem Ku:swapsWithSole [.Tuple ts k tp] e line oe=pure false:=by
 unfold swapsWithSole jc;cases e<;>rfl
theorem wdz(h:∀vs k p,e≠.Tuple vs k p):ju [.Tuple ts k tp] e oe=pure none:=by
 cases e<;>first|rfl|exact absurd rfl (h _ _ _)
theorem Qy(h:sE ρ is vs=some oC):is.length=vs.length :=
 GC (C:=λis vs Y Y=>is.length=vs.length) (λY=>rfl) (λY Y Y Y Y Y Y e=>congrArg ek e) h
theorem JT{α γ:Type}{f:α->Option γ}{as:List α}:∀{bs:List γ},as.mapM f=some bs->as.length=bs.length:=by
 induction as with
 |nil=>exact λh=>oN (Q:=λbs=>0=bs.length) h rfl
 |cons a as ih =>
  intro bs h;refine qe (DT h) ?_;rintro b cs rfl _ h2;exact congrArg ek (ih h2)
theorem Q_(hA:A.handled=none)(g1:gh ts oe=gs.map λg=>(false,g))(oU:gs.length=ys.length)(ht:j1 s.heap a ys.toArray)(hQ:∀h',(∀b o,b≠s.heap.objs.size->s.heap.get? b=some o->h'.get? b=some o)->s.heap.objs.size<=h'.objs.size->ao (ar oj wd) A (lC gs ys) Q E {s with heap:=h'}):ao (ar oj wd) A (unpack (.ref a) (gh ts oe)) Q E s:=by
 unfold unpack;have hn:(gh ts oe).length=ys.toArray.size:=by refine oa g1 ?_;refine oa (ac _) ?_;exact oU
 have qU:(gh ts oe).findIdx? (·.1)=none:=by refine oa g1 ?_;exact wcC gs
 have Oc:(gh ts oe).map (·.2)=gs:=by
  refine oa g1 ?_;refine oa a_ ?_;refine oa (show((λx:Bool×(Value->fe Unit)=>x.2)∘λg=>(false,g))=id from rfl) ?_;refine oa (dY _) ?_;rfl
 refine oa hn ?_;refine oa qU ?_;refine oa Oc ?_;exact an (cF (sG (nJ hA ht λh' hx u=>by simpa using hQ h' hx u.size)))
theorem weX{T:Tb}(F:o_ G A Φ sB om oe T){ts:List Expr}{k:Nat}{tp pos:cq}{e:Expr}{xs:List Str}{is:List Nat}{vs:List AV}(xR:tZ ts=some xs)(sS:xs.mapM T.own=some is)(q9:∀vs k p,e≠.Tuple vs k p)(he:ev Φ σ ρ (oy T e)=some (.tup vs))(hs:sE ρ is vs=some oC):qo G A sB ot om oe T ρ σ (bz (.Assign [.Tuple ts k tp] e pos) oe) (.next oC σ):=by
 intro s φ β P m S;refine ja ((qQ F.hO _ e (ai _) oe T ρ _ F.hE he).1.post (S.inv F.IB) S.er λx ou oF oD ph oP oM=>oM.e_tup λa ys ht p r=>?_) Ku (wdz q9);have oT:=S.go oD;refine H4 (QW (A:=A) (oe:=oe) xR) λgs g1 g2 g3 g4=>?_;rw[assign_Tuple];refine an (cT (Q_ F.hO.hA g1 (by refine rwj r.length ?_;refine rwj (Qy hs) ?_;refine rwj (JT sS) ?_;refine oa g4 ?_;refine oa g3 ?_;rfl) ht λh' hx hz=>?_));have oW:GX G ou oF {ou with heap:=h'} oF:=.same oD.tk ⟨⟨h',ou.toks,rfl,λb o e=>hx b o (cp (aN e)) e⟩,hz⟩ (ai _);exact Kz F hs g2 sS (oT.go oW) (oT.er.vrs oW r) λro xg sC rA=>⟨rfl,oF,β,P,xg,sC,(pB.go oD).trans ((pB.go oW).trans rA)⟩
theorem VW{C:List (Nat×Bool)->List AV->Prop}{xs:List (Nat×Bool)}{vs:List AV}{e:Ex}{es:qh}(h:sO Φ ρ σ xs (.cons e es)=some (vs,ox))(k:∀x xs v uy us,t8 Φ ρ σ x.2 e=some (v,uy)->sO Φ ρ uy xs es=some (us,ox)->C (x::xs) (v::us)):C xs vs:=by
 induction xs using af with
 |nil=>exact oq h
 |cons x xs =>
  replace h:(match t8 Φ ρ σ x.2 e with|some (v,uy)=>(match sO Φ ρ uy xs es with|some (us,zJ)=>some (v::us,zJ)|none=>none)|none=>none)=some (vs,ox):=h
  induction h1:t8 Φ ρ σ x.2 e using aa with
  |none=>rw[h1]at h;exact oq h
  |some r =>
   rw[h1]at h;replace h:(match sO Φ ρ r.2 xs es with|some (us,zJ)=>some (r.1::us,zJ)|none=>none)=some (vs,ox):=h
   induction h2:sO Φ ρ r.2 xs es using aa with
   |none=>rw[h2]at h;exact oq h
   |some r' =>
    rw[h2]at h;have e:=nj (ag h);exact e.1▸k x xs r.1 r.2 r'.1 h1 (h2.trans (congrArg (λz=>some (r'.1,z)) e.2))
theorem wcG(h:t8 Φ ρ σ th (oy T e)=some (v,ox)):tU e=true:=by
 cases e<;>first|rfl|exact HM h
theorem VM{G:GD}(F:o_ G A Φ sB om oe T){pos:cq}{es:List Expr}:∀{xs:List (Nat×Bool)}{σ ox:oH}{vs:List AV},sO Φ ρ σ xs (pk T es)=some (vs,ox)->(∀x e,(x,e)∈xs.zip es->x.2=true->sL e=true) ->
 es.all tU=true/\∀{s:ah}{φ:Gh}{β:List aw}{P:aw->Prop}{m:Str->Option Value},SR G sB ot om oe T φ ρ σ β P m s ->
  ao (ar oj wd) A (eC (eF pos (b_ es oe))) (λys s'=>Step G sB ot om oe T s φ σ β P ρ ox s' λow oO P'=>oA G.tok ow s'.heap oO P' vs ys) oE s:=by
 induction es with
 |nil =>
  intro xs σ ox vs he hc
  induction xs using af with
  |nil=>exact⟨rfl,λ{s φ β P m} S=>fT (oN (Q:=λr=>Step G sB ot om oe T s φ σ β P ρ r.2 s λow oO P'=>oA G.tok ow s.heap oO P' r.1 []) he ⟨φ,β,P,m,S,.refl,.nil⟩)⟩
  |cons=>exact oq he
 |cons e es ih =>
  intro xs σ ox vs he hc;revert hc;refine VW (C:=λxs vs=>(∀x e',(x,e')∈xs.zip (e::es)->x.2=true->sL e'=true)->(e::es).all tU=true/\∀{s:ah}{φ:Gh}{β:List aw}{P:aw->Prop}{m:Str->Option Value},SR G sB ot om oe T φ ρ σ β P m s ->
   ao (ar oj wd) A (eC (eF pos (b_ (e::es) oe))) (λys s'=>Step G sB ot om oe T s φ σ β P ρ ox s' λow oO P'=>oA G.tok ow s'.heap oO P' vs ys) oE s) he λx xs v uy us hv qH hc=>?_
  have vh:=wcG hv;have h:=ih qH λx e hm=>hc x e (aP _ hm);refine⟨(congrArg (·&&es.all tU) vh).trans ((eV _).trans h.1),λ{s φ β P m} S=>eX (up (Mv F (hc x e ax) hv s φ β P m S) λy ou o7=>?_) (vt vh)⟩;refine wX o7 λoF rj qM rh oT qg oM=>?_;refine up (h.2 oT) λys oJ qI=>?_;refine wX qI λo4 rt qz rm pA re pT=>?_;exact⟨o4,rt,qz,rm,pA,qg.trans re,.cons (oT.carry re oM) pT⟩
theorem weA(h1:sE ρ is vs=some xm):∀{js:List Nat}{us:List AV}{oC:oI},sE xm js us=some oC->sE ρ (is++js) (vs++us)=some oC :=
 GC (C:=λis vs ρ xm=>∀{js us oC},sE xm js us=some oC->sE ρ (is++js) (vs++us)=some oC) (λY Y Y Y h=>h) (λY Y Y Y Y Y Y ih Y Y Y h=>ih h) h1
theorem weB:∀{ρ oC:oI},i∉is->sE (ρ.set i (some v)) is vs=some oC->∃xm,sE ρ is vs=some xm/\oC=xm.set i (some v):=by
 induction is generalizing vs with
 |nil =>
  intro ρ oC _ h
  induction vs using af with
  |nil=>exact oV ρ rfl ((ag h).symm)
  |cons=>exact oq h
 |cons j is ih =>
  intro ρ oC hn h
  induction vs using af with
  |nil=>exact oq h
  |cons u vs =>
   refine ih (ρ:=ρ.set j (some u)) (λq=>hn (aP _ q)) ?_;have s0:i≠j:=λq=>hn (q▸ax);refine rwj (List.set_comm _ _ s0) ?_;exact h
theorem weC(hn:is.Nodup)(h:sE ρ is vs=some oC):sE ρ is.reverse vs.reverse=some oC:=by
 refine GC (C:=λis vs ρ oC=>is.Nodup->sE ρ is.reverse vs.reverse=some oC) (λY Y=>rfl) (λi is v vs ρ oC h ih hn=>?_) h hn;rw[cB]at hn;refine oa dN ?_;refine oa dN ?_;refine oB (weB (λq=>hn.1 (jz.mp q)) (ih hn.2)) ?_;rintro xm h1 rfl;exact weA h1 rfl
noncomputable def wG(oe:Env)(line:Nat):Expr->Option Str
 | .Name id pos=>if oe.kindOf id==some .local&&pos.line==line then some id else none
 |_=>none
theorem wfW(h:wG oe line (.Name x p)=some z):z=x:=qd h λY h=>(ag h).symm
theorem wfV:∀{xs:List Str},tZ ts=some xs->(ts.filterMap (wG oe line)).length=ts.length->ts.filterMap (wG oe line)=xs:=by
 induction ts with
 |nil=>exact λh Y=>ag h
 |cons t ts ih =>
  refine λh=>QV (C:=λt xs=>((t::ts).filterMap (wG oe line)).length=(t::ts).length->(t::ts).filterMap (wG oe line)=xs) h λx p ys hy hl=>?_
  induction hq:wG oe line (.Name x p)using aa with
  |none =>
   rw[List.filterMap_cons_none hq]at hl;exact absurd (List.length_filterMap_le (wG oe line) ts) (by refine oa hl ?_;exact lH _)
  |some z =>
   rw[List.filterMap_cons_some hq]at hl ⊢;refine oa (ih hy (bD hl)) ?_;refine oa (wfW hq) ?_;rfl
set_option tactic.hygienic true in
theorem wfA(xR:tZ ts=some xs)(Am:(!vs.all (fS 8)||vs.all (gl 8))=true):
 ju [.Tuple ts k tp] (.Tuple vs k2 p2) oe=pure none\/ju [.Tuple ts k tp] (.Tuple vs k2 p2) oe=pure (some xs):=by
 unfold ju;dsimp only;split
 ·exact .inl rfl
 split
 ·exact .inl rfl
 split
 ·exact .inl rfl
 rename_i c3;split
 ·exact .inl rfl
 rename_i c4;split
 ·rename_i c5;exfalso;rw[c5]at Am;simp at Am;exact c4 (by simpa using Am)
 right;have LJ:¬((ts.filterMap (wG oe ((ts.head?.map (·.pos.line)).getD 0))).length != ts.length||(ts.filterMap (wG oe ((ts.head?.map (·.pos.line)).getD 0))).eraseDups.length != (ts.filterMap (wG oe ((ts.head?.map (·.pos.line)).getD 0))).length)=true:=c3;have hl:(ts.filterMap (wG oe ((ts.head?.map (·.pos.line)).getD 0))).length=ts.length:=by
  simp only[du,not_or]at LJ;exact Decidable.byContradiction λq=>LJ.1 (bne_iff_ne.mpr q)
 have:=wfV xR hl;show(pure (some (ts.filterMap (wG oe ((ts.head?.map (·.pos.line)).getD 0)))):fe (Option (List Str)))=_;refine oa this ?_;rfl
theorem wfk:ye A oe xs (xs.map λn=>bindName oe n):=by
 induction xs with
 |nil=>exact .nil
 |cons x xs ih=>exact .cons (λv Q E s h=>wpAny_bindName h) ih
theorem wbU{α γ:Type}{f:α->Option γ}{Hb:List α}{Hh:List γ}(h2:Hb.mapM f=some Hh){as:List α}:∀{bs:List γ},as.mapM f=some bs->(as++Hb).mapM f=some (bs++Hh):=by
 induction as with
 |nil=>exact λh1=>oN (Q:=λbs=>Hb.mapM f=some (bs++Hh)) h1 h2
 |cons a as ih =>
  intro bs h1;refine qe (DT h1) ?_;rintro b cs rfl e1 e2;refine oa fO ?_;refine oa j8 ?_;refine oa e1 ?_;refine oa (ih e2) ?_;rfl
theorem wbV{α γ:Type}{f:α->Option γ}{as:List α}:∀{bs:List γ},as.mapM f=some bs->as.reverse.mapM f=some bs.reverse:=by
 induction as with
 |nil =>
  intro bs h;refine oa (show bs=[]from(ag h).symm) ?_;rfl
 |cons a as ih =>
  intro bs h;refine qe (DT h) ?_;rintro b cs rfl e1 e2;refine oa dN ?_;refine oa dN ?_;refine wbU ?_ (ih e2);refine oa j8 ?_;refine oa e1 ?_;rfl
theorem Q9(S:SR G sB ot om oe T φ ρ σ β P m s)(hx:∀b o,b≠s.heap.objs.size->s.heap.get? b=some o->h'.get? b=some o)(hz:s.heap.objs.size<=h'.objs.size):GX G s φ {s with heap:=h'} φ :=
 .same S.er.tk ⟨⟨h',s.toks,rfl,λb o e=>hx b o (cp (aN e)) e⟩,hz⟩ (ai _)
theorem wgU(F:o_ G A Φ sB om oe T)(he:sO Φ ρ σ xs (pk T es)=some (vs,ox))(hc:∀x e,(x,e)∈xs.zip es->x.2=true->sL e=true)(S:SR G sB ot om oe T φ ρ σ β P m s)(hl:∀{h:bU}{φ:Gh}{β:List aw}{P:aw->Prop}{ys:List Value},oA G.tok φ h β P vs ys->ys.length<=1000)(hQ:∀a ys ou oF rj qM rh,SR G sB ot om oe T oF ρ ox rj qM rh ou->pB G oe T s φ σ β P ou oF ox rj qM->j1 ou.heap a ys.toArray->oA G.tok oF ou.heap rj qM vs ys->Q (.ref a) ou):
 ao (ar oj wd) A (bK (.Tuple es k2 p2) oe) Q oE s:=by
 refine lW (up ((VM F he hc).2 S) λys ou o7=>?_);refine wX o7 λoF rj qM rh oT qg oM=>?_;have oW:GX G ou oF {ou with heap:=ou.heap.push {cls:=.type "tuple",data:=.seq ys.toArray}} oF:=.same oT.er.tk pQ.push (ai _);exact⟨sk (ae (hl oM) (by decide)),hQ _ ys _ oF rj qM rh (oT.go oW) (qg.trans (.go oW)) (J3 _) (oT.er.vrs oW oM)⟩
theorem weP{T:Tb}(F:o_ G A Φ sB om oe T){ts es:List Expr}{k k2:Nat}{tp p2 pos:cq}{xs:List Str}{is:List Nat}{Eg:List Bool}{vs:List AV}(xR:tZ ts=some xs)(sS:xs.mapM T.own=some is)(rk:is.Nodup)(o3:es.length<=1000)(YE:es.length=xs.length)(Am:(!es.all (fS 8)||es.all (gl 8))=true)(F0:Eg.length=is.length)(hc:∀x e,(x,e)∈(is.zip Eg).zip es->x.2=true->sL e=true)(he:sO Φ ρ σ (is.zip Eg) (pk T es)=some (vs,ox))(hs:sE ρ is vs=some oC):qo G A sB ot om oe T ρ σ (bz (.Assign [.Tuple ts k tp] (.Tuple es k2 p2) pos) oe) (.next oC ox):=by
 intro s φ β P m S;have F5:∀{h:bU}{φ:Gh}{β:List aw}{P:aw->Prop}{ys:List Value},oA G.tok φ h β P vs ys->ys.length=xs.length:=λr=>by refine rwj r.length ?_;refine rwj (Qy hs) ?_;refine rwj (JT sS) ?_;rfl
 have F2:=λ{Q}=>wgU F (k2:=k2) (p2:=p2) he hc S (Q:=Q) λr=>(F5 r).symm▸YE▸o3;rcases wfA (oe:=oe) (k:=k) (k2:=k2) (tp:=tp) (p2:=p2) xR Am with Jo|Jo
 ·refine ja (F2 λa ys ou oF rj qM rh oT qg ht r=>?_) Ku Jo;refine H4 (QW (A:=A) (oe:=oe) xR) λgs g1 g2 g3 g4=>?_;rw[assign_Tuple];refine an (cT (Q_ F.hO.hA g1 (by refine oa (F5 r) ?_;refine oa g3 ?_;refine oa g4 ?_;rfl) ht λh' hx hz=>?_));have oW:=Q9 oT hx hz;exact Kz F hs g2 sS (oT.go oW) (oT.er.vrs oW r) λro xg sC rA=>⟨rfl,oF,rj,qM,xg,sC,qg.trans ((pB.go oW).trans rA)⟩
 ·refine PyProof.Rows.Assign_Tuple_swapped (names:=xs) (F2 λa ys ou oF rj qM rh oT qg ht r=>?_) Ku Jo;rw[show xs.length=ys.toArray.size by refine oa aC ?_;refine oa (F5 r) ?_;rfl];refine sG (nJ F.hO.hA ht λh' hx u=>?_);have oW:=Q9 oT hx u.size;exact Kz F (weC rk hs) wfk (wbV sS) (oT.go oW) (by simpa using(oT.er.vrs oW r).reverse) λro xg sC rA=>⟨rfl,oF,rj,qM,xg,sC,qg.trans ((pB.go oW).trans rA)⟩
set_option tactic.hygienic true in
theorem pB.mutate(hi:σ[i]?=some o)(hg:o≠AO.gone)(ha:β[i]?=some a)(hs:bF a s.heap h'):pB G oe T s φ σ β P {s with heap:=h',toks:=t} φ (σ.set i o') β P where
 keep:=λb ob hb e=>hs.extBut b ob (λq=>by
  subst q;have:=hb.2 i ha;rw[hi]at this;exact hg (ag this)) e
 still:=λb Y hb=>⟨hb.1,λj hj=>by
  have:=hb.2 j hj;refine oa dm ?_;split
  ·rename_i q;subst q;rw[hi]at this;exact absurd (ag this) hg
  ·exact this⟩
 pm:=λY p Y=>p
 sub:=λY Y e=>e
 pre:=aB _
 size:=bd hs.1.symm
 pn:=λY Y p=>.inl p
 bn:=λY h Y=>h
set_option tactic.hygienic true in
theorem pB.settle(ha:β[i]?=some a):pB G oe T s φ σ β P s φ (σ.set i .gone) β (λb=>P b\/b=a) where
 keep:=λY Y Y e=>e
 still:=λb Y hb=>⟨hb.1,λj hj=>by
  have:=hb.2 j hj;refine oa dm ?_;split
  ·rename_i q;subst q;have hl:=(aS.mp this).1;refine oa (if_pos hl) ?_;rfl
  ·exact this⟩
 pm:=λY p Y=>.inl p
 sub:=λY Y e=>e
 pre:=aB _
 size:=ai _
 pn:=λb Y p=>p.elim .inl λq=>.inr (by refine oa q ?_;exact aY ha)
 bn:=λY h Y=>h
theorem PB{h:bU}(hl:h.PlainList a xs):∃ob,h.get? a=some ob/\∀v,ob.data≠.cell v:=let⟨n,e⟩:=hl;⟨_,e,λv q=>nomatch q⟩
theorem SR.listAt{G:GD}{s:ah}{i:Nat}{a:aw}{xs:List AV}{Q:Prop}(S:SR G sB ot om oe T φ ρ σ β P m s)(hi:σ[i]?=some (.list xs))(ha:β[i]?=some a)(k:∀ys,s.heap.PlainList a ys.toArray->oA G.tok φ s.heap β P xs ys->Q):Q:=by
 refine oB (S.er.objs i _ hi (λq=>nomatch q)) λb h1 h2=>?_;exact OR.e_list (ag (ha.symm.trans h1)▸h2) k
theorem SR.relist{σ:oH}{G:GD}{s:ah}{h':bU}{ys Et:List Value}(S:SR G sB ot om oe T φ ρ σ β P m s)(hi:σ[i]?=some (.list xs))(ha:β[i]?=some a)(hs:bF a s.heap h')(ht:s.toks<=t)(hl:s.heap.PlainList a ys.toArray)(uO:h'.PlainList a Et.toArray)(r:oA G.tok φ s.heap β P vA Et):
 t5 G sB ot om oe T s φ σ β P ρ (σ.set i (.list vA)) {s with heap:=h',toks:=t}:=
 have Ak:=S.live i a _ ha hi (λq=>nomatch q)
 ⟨φ,β,P,m,S.mutate hi (λq=>nomatch q) ha (λq=>nomatch q) hs ht (PB hl) (.list uO (r.mono (λY Y e=>e) (λb o p e=>⟨hs.extBut b o (λq=>Ak (q▸p)) e,p⟩) (aB _))),.mutate hi (λq=>nomatch q) ha hs⟩
theorem t5.after(C:pB G oe T s φ σ β P s' ow ox oO P')(h:t5 G sB ot om oe T s' ow ox oO P' xm uy oJ):t5 G sB ot om oe T s φ σ β P xm uy oJ :=
 h.elim λsU h=>h.elim λAX h=>h.elim λA4 h=>h.elim λxg h=>Ga sU AX A4 xg h.1 (C.trans h.2)
theorem ND{φ:Gh}{β:List aw}{P:aw->Prop}{tk:aw}{h:bU}{a:aw}{u r:AV}(e:o8 [] 6 u=some r)(r':VR tk φ h β (λb=>P b\/b=a) u (.ref a)):VR tk φ h β (λb=>P b\/b=a) r (.ref a):=
 (Iu qE.nil (λa p=>p) (λi a e=>by simp at e) 6 e r').anyβ
theorem NC{j:Nat}{r:AV}{Q:Prop}(e:ym σ j=some r)(k1:∀vs,σ[j]?=some (.list vs)->o8 [] 6 (.lst vs)=some r->Q)(k2:∀es,σ[j]?=some (.dict es)->o8 [] 6 (.dct es)=some r->Q):Q:=by
 unfold ym at e
 induction hj:σ[j]? using aa with
 |none=>rw[hj]at e;exact oq e
 |some o =>
  rw[hj]at e
  induction o using AO.casesOn with
  |list vs=>exact k1 vs hj e
  |dict es=>exact k2 es hj e
  |gone=>exact oq e
theorem XI{σ:oH}{φ:Gh}{β:List aw}{P:aw->Prop}{tk:aw}{h:bU}{j:Nat}{a:aw}{r:AV}(O:qE tk φ h β P σ)(ha:β[j]?=some a)(e:ym σ j=some r):VR tk φ h β (λb=>P b\/b=a) r (.ref a):=by
 refine NC e (λvs hj e=>?_) λes hj e=>?_
 ·refine oB (O j _ hj (λq=>nomatch q)) λb h1 h2=>?_;exact OR.e_list (ag (ha.symm.trans h1)▸h2) λys e' r'=>ND e (.lst e' (.inr rfl) (r'.weak λY p=>.inl p))
 ·refine oB (O j _ hj (λq=>nomatch q)) λb h1 h2=>?_;exact OR.e_dict (ag (ha.symm.trans h1)▸h2) λks vs xs e0 hl e' r'=>ND (e0▸e) (.dct e' (.inr rfl) hl (r'.weak λY p=>.inl p))
theorem JY:Cw "list" "append" "list.append" := ⟨eU,PySem.F.slot_list_append,PySem.F.type_list_append⟩
theorem JZ:Cw "list" "reverse" "list.reverse" := ⟨eU,jI,PySem.F.type_list_reverse⟩
theorem Lv{σ:oH}{G:GD}{s:ah}{i:Nat}{a:aw}{xs:List AV}{v:AV}{y:Value}(S:SR G sB ot om oe T φ ρ σ β P m s)(hi:σ[i]?=some (.list xs))(ha:β[i]?=some a)(o3:xs.length<=100000)(r:VR G.tok φ s.heap β P v y){Q:Value->ah->Prop}{E:Value->ah->Prop}(hQ:∀s',t5 G sB ot om oe T s φ σ β P ρ (σ.set i (.list (xs++[v]))) s'->Q .none s'):ao (ar oj wd) A (call (.builtin "list.append") [.ref a,y]) Q E s :=
 S.listAt hi ha λys e rs=>lT e (λh' uO hs=>hQ _ (S.relist (t:=s.toks) hi ha hs (ai _) e (Et:=ys++[y]) (by simpa using uO) (rs.append (.single r)))) (by refine oa aC ?_;refine rwj rs.length ?_;exact sk o3)
theorem P2{Q:im->ah->Prop}{t:fe Value}(h:ao (ar oj wd) A t (λv s'=>v=.none/\Q .next s') oE s):ao (ar oj wd) A t (λv s'=>match v with | .ref _=>False|_=>Q .next s') oE s :=
 up h λv s' qq=>p_ qq λe q=>by subst e;exact q
theorem VR.refOf(r:VR tk φ h β P (.ref i) x):∃a,x=.ref a/\β[i]?=some a:=r.e_ref λa e=>oV a rfl e
theorem Qu(hi:σ[i]?=some (.list xs)):oX σ (.ref i)=some xs:=by
 show(match σ[i]? with|some (.list vs)=>some vs|_=>none)=_;refine oa hi ?_;rfl
theorem R4(F:o_ G A Φ sB om oe T)(qk:s5 o 1 ap p=true)(ho:ev Φ σ ρ (oy T o)=some (.ref i))(he:ev Φ σ ρ (oy T e)=some v)(hi:σ[i]?=some (.list xs))(S:SR G sB ot om oe T φ ρ σ β P m s)(hQ:∀a y s' ow,SR G sB ot om oe T ow ρ σ β P m s'->pB G oe T s φ σ β P s' ow σ β P->β[i]?=some a->VR G.tok ow s'.heap β P v y->ao (ar oj wd) A (call (.builtin "list.append") [.ref a,y]) Q oE s'):ao (ar oj wd) A (bK (.Call (.Attribute o "append" ap) [e] [] p) oe) Q oE s :=
 qG qk λqk h3=>qG qk λh1 h2=>by
  have vh:=DV he;have Jj:[e].all tU=true:=(i7 _).trans vh;refine dz (Bb h1) ?_ h2 ((qQ F.hO _ o (ai _) oe T ρ _ F.hE ho).1.post (S.inv F.IB) S.er λx ou oF oD ph oP oM=>?_)
  ·refine oa (Kw Jj) ?_;rfl
  ·have Ed:=Jp (s:=ou) oP.objs (Qu hi) oM;refine oB (VR.refOf oM) ?_;rintro a rfl hb;refine⟨"list","list.append",JY.pa,JY.slot,JY.ty,Ed.1,Ed.2,cu (Cb Jj) ?_⟩;have AA:=(wT (G:=G) (A:=A) F.hE (es:=[e]) (vs:=[v]) (λe Y=>qQ F.hO _ e (ai _)) (by rewrite [Ej,Q2,y1];refine oa he ?_;rfl)).2 p;rw[vt vh]at AA ⊢;exact fV (AA.post ph oP λys oJ o4 oW rU qi pT=>pT.e1 λy ry=>hQ a y oJ o4 ((S.go oD).go oW) ((pB.go oD).trans (.go oW)) hb ry)
theorem weO{σ:oH}(F:o_ G A Φ sB om oe T){o e:Expr}{ap p q:cq}{i:Nat}{v:AV}{xs:List AV}{fl:Fl}(qk:s5 o 1 ap p=true)(ho:ev Φ σ ρ (oy T o)=some (.ref i))(he:ev Φ σ ρ (oy T e)=some v)(hi:σ[i]?=some (.list xs))(o3:xs.length<=100000)(YK:(∃j r,v=.ref j/\i≠j/\ym σ j=some r/\fl=.next ρ ((σ.set j .gone).set i (.list (xs++[r]))))\/fl=.next ρ (σ.set i (.list (xs++[v])))):
 qo G A sB ot om oe T ρ σ (bz (.Expr (.Call (.Attribute o "append" ap) [e] [] p) q) oe) fl:=λs φ β P m S=>by
 refine mi (P2 (R4 F qk ho he hi S λa y oJ o4 pA re hb ry=>?_)) F.hI rfl;rcases YK with⟨j,r,rfl,s0,hf,rfl⟩|rfl
 ·refine oB (VR.refOf ry) ?_;rintro b rfl IS;have hj:(σ[j]?).isSome=true:=NC hf (λY h Y=>by refine oa h ?_;rfl) λY h Y=>by refine oa h ?_;rfl
  exact Lv (pA.settle F.hP₀ hj IS) (i:=i) (xs:=xs) (by refine oa (lv (io s0)) ?_;exact hi) hb o3 (XI pA.er.objs IS hf) λro h=>⟨rfl,rfl,h.after (re.trans (pB.settle IS))⟩
 ·exact Lv pA hi hb o3 ry λro h=>⟨rfl,rfl,h.after re⟩
theorem weW{σ:oH}(F:o_ G A Φ sB om oe T){o:Expr}{ap p q:cq}{i:Nat}{xs:List AV}(qk:s5 o 0 ap p=true)(ho:ev Φ σ ρ (oy T o)=some (.ref i))(hi:σ[i]?=some (.list xs))(o3:xs.length<=100000):
 qo G A sB ot om oe T ρ σ (bz (.Expr (.Call (.Attribute o "reverse" ap) [] [] p) q) oe) (.next ρ (σ.set i (.list xs.reverse))):=λs φ β P m S =>
 qG qk λqk h3=>qG qk λh1 h2=>by
  refine mi (P2 (dz (Bb h1) rfl h2 ((qQ F.hO _ o (ai _) oe T ρ _ F.hE ho).1.post (S.inv F.IB) S.er λx ou oF oD ph oP oM=>?_))) F.hI rfl;have Ed:=Jp (s:=ou) oP.objs (Qu hi) oM;refine oB (VR.refOf oM) ?_;rintro a rfl ha;refine⟨"list","list.reverse",JZ.pa,JZ.slot,JZ.ty,Ed.1,Ed.2,cu rfl (dZ ?_)⟩;have oT:=S.go oD;exact oT.listAt hi ha λys e rs=>wbw e (by refine rwj rs.length ?_;exact o3) λh' uO hs=>⟨rfl,rfl,(oT.relist (t:=ou.toks) hi ha hs (ai _) e uO rs.reverse).after (.go oD)⟩
section
variable {A:br}{oe:Env}{T:Tb}{ρ oC:oI}{σ ox u3:oH}{G:GD}{s s' qV:ah}{φ ow xp:Gh}{β oO Ez:List aw}{P P' Cy om:aw->Prop}{m m':Str->Option Value}{tk:aw}{h h':bU}
variable {sB:ah}{ot:Gh}{Φ:rd}
theorem Lu{γ:Type}{k:Int}{ks:List Int}{vs:List γ}(h:ks.length<=vs.length):(ks.zip vs).any (λe=>decide (e.1=k))=ks.any (λe=>decide (e=k)):=by
 have:((ks.zip vs).map lm).any (λe=>decide (e=k))=(ks.zip vs).any (λe=>decide (e.1=k)):=List.any_map;refine rwj this ?_;refine oa (mK h) ?_;rfl
theorem R3{γ δ:Type}{k:Int}{ks:List Int}{vs:List γ}{xs:List δ}(hl:ks.length=vs.length)(h:vs.length=xs.length):(ks.zip vs).any (λe=>decide (e.1=k))=(ks.zip xs).any (λe=>decide (e.1=k)):=
 (Lu (bd hl)).trans (Lu (bd (hl.trans h))).symm
theorem Qp{γ:Type}{k k':Int}{u v:γ}{ks:List Int}{vs q_:List γ}(h:(ks.zip vs).map (λe=>if e.1=k then(e.1,u)else e)=ks.zip q_):((k'::ks).zip (v::vs)).map (λe=>if e.1=k then(e.1,u)else e)=(k'::ks).zip ((if k'=k then u else v)::q_):=by
 refine oa da ?_;refine oa aU ?_;refine oa h ?_;refine oa da ?_;by_cases q:k'=k
 ·refine oa (if_pos q) ?_;refine oa (if_pos q) ?_;rfl
 ·refine oa (if_neg q) ?_;refine oa (if_neg q) ?_;rfl
theorem wcb{k:Int}{u:AV}{y:Value}(ry:VR tk φ h β P u y){vs:List AV}{xs:List Value}(r:oA tk φ h β P vs xs):∀{ks:List Int},ks.length=vs.length ->
 ∃q_ vA,(ks.zip vs).map (λe=>if e.1=k then(e.1,u)else e)=ks.zip q_/\(ks.zip xs).map (λe=>if e.1=k then(e.1,y)else e)=ks.zip vA/\ks.length=q_.length/\oA tk φ h β P q_ vA:=by
 refine oA.ind (motive:=λvs xs=>∀{ks:List Int},ks.length=vs.length->∃q_ vA,(ks.zip vs).map (λe=>if e.1=k then(e.1,u)else e)=ks.zip q_/\(ks.zip xs).map (λe=>if e.1=k then(e.1,y)else e)=ks.zip vA/\ks.length=q_.length/\oA tk φ h β P q_ vA) (λ{ks} hl=>?_) (λ{v x vs xs} a r ih ks hl=>?_) r
 ·induction ks using af with
  |nil=>exact F9 [] [] rfl rfl rfl (.nil)
  |cons=>cases hl
 ·induction ks using af with
  |nil=>cases hl
  |cons k' ks =>
   refine Ae (ih (bD hl)) λq_ vA h1 h2 h3 h4=>?_;refine F9 _ _ (Qp h1) (Qp h2) (congrArg ek h3) (.cons ?_ h4);by_cases q:k'=k
   ·refine oa (if_pos q) ?_;refine oa (if_pos q) ?_;exact ry
   ·refine oa (if_neg q) ?_;refine oa (if_neg q) ?_;exact a
theorem Rp{γ:Type}{k:Int}{v:γ}{ks:List Int}{vs:List γ}(h:ks.length=vs.length):ks.zip vs++[(k,v)]=(ks++[k]).zip (vs++[v]):=(List.zip_append (r₁:=[k]) (r₂:=[v]) h).symm
theorem wdV{k:Int}{u:AV}{y:Value}{ks:List Int}{vs:List AV}{xs:List Value}(ry:VR tk φ h β P u y)(hl:ks.length=vs.length)(r:oA tk φ h β P vs xs):
 ∃(zn:List Int) (q_:List AV) (vA:List Value),dictPut (ks.zip vs) k u=zn.zip q_/\stored (ks.zip xs) k y=zn.zip vA/\zn.length=q_.length/\oA tk φ h β P q_ vA:=by
 have ha:=R3 (k:=k) (ks:=ks) hl r.length;unfold dictPut stored;by_cases q:((ks.zip vs).any λe=>decide (e.1=k))=true
 ·refine oa (if_pos q) ?_;refine oa (if_pos (ha▸q)) ?_;refine Ae (wcb (k:=k) ry r hl) λq_ vA h1 h2 h3 h4=>?_;exact F_ ks q_ vA h1 h2 h3 h4
 ·refine oa (if_neg q) ?_;refine oa (if_neg (ha▸q)) ?_;exact F_ (ks++[k]) (vs++[u]) (xs++[y]) (Rp hl) (Rp (hl.trans r.length)) (by simp[hl]) (r.append (.single ry))
theorem QQ{e o i:Expr}{p:cq}{line:Nat}:jc e (some (.Subscript o i p)) line oe=pure false:=by
 cases e<;>rfl
theorem Mj{a:aw}{oQ:List (Int×Value)}(hd:h.DictOf (bZ oj wd) a oQ):∃ob,h.get? a=some ob/\∀v,ob.data≠.cell v:=by
 refine xI hd λo es ep ho Y IW Y=>?_;exact oV o ho (λv q=>by rw[IW]at q;cases q)
theorem SR.dictAt{i:Nat}{a:aw}{es:List (Int×AV)}{Q:Prop}(S:SR G sB ot om oe T φ ρ σ β P m s)(hi:σ[i]?=some (.dict es))(ha:β[i]?=some a)(k:∀(ks:List Int) (vs:List AV) (xs:List Value),es=ks.zip vs->ks.length=vs.length->s.heap.DictOf (bZ oj wd) a (ks.zip xs)->oA G.tok φ s.heap β P vs xs->Q):Q:=by
 refine oB (S.er.objs i _ hi (λq=>nomatch q)) λb h1 h2=>?_;exact OR.e_dict (ag (ha.symm.trans h1)▸h2) k
theorem wdS{i:Nat}{a:aw}{kk:Int}{t:kP}{u:AV}{xv:Value}{es:List (Int×AV)}(S:SR G sB ot om oe T φ ρ σ β P m s)(hi:σ[i]?=some (.dict es))(ha:β[i]?=some a)(o3:es.length<=100000)(ru:VR G.tok φ s.heap β P u xv):
 ao (ar oj wd) A (setItem (.ref a) (.int kk t) xv) (λY s'=>t5 G sB ot om oe T s φ σ β P ρ (σ.set i (.dict (dictPut es kk u))) s') oE s :=
 S.dictAt hi ha λks vs ys e0 hl e rs=>by
  have Ak:=S.live i a _ ha hi (λq=>nomatch q);refine xI (wdV (k:=kk) ru hl rs) λzn q_ Et p1 p2 p3 p4=>?_;refine oa e0 ?_;refine oa p1 ?_;refine wpAny_setItem_pairs (knd:=bZ oj wd) (k:=kk) (gX _ _ _ _) e (λh' hd hs=>?_) (sk (ae (bd ?_) o3))
  ·rw[p2]at hd;exact Ga φ β P m (S.mutate (t:=s.toks+1) hi (λq=>nomatch q) ha (λq=>nomatch q) hs (bw _) (Mj e) (.dict hd p3 (p4.mono (λY Y e=>e) (λb o p e=>⟨hs.extBut b o (λq=>Ak (q▸p)) e,p⟩) (aB _)))) (.mutate hi (λq=>nomatch q) ha hs)
  ·refine oa e0 ?_;refine oa dp ?_;refine oa dp ?_;refine oa rs.length ?_;rfl
theorem weT(F:o_ G A Φ sB om oe T){x:Str}{px sp pos:cq}{k v:Expr}{n i:Nat}{kk:Int}{u:AV}{es:List (Int×AV)}(hx:T.var x=some n)(td:ρ[n]?=some (some (.ref i)))
 (hv:ev Φ σ ρ (oy T v)=some u) (tA:u.scalar=true) (hk:ev Φ σ ρ (oy T k)=some (.int kk)) (hi:σ[i]?=some (.dict es)) (o3:es.length<=100000):
 qo G A sB ot om oe T ρ σ (bz (.Assign [.Subscript (.Name x px) k sp] v pos) oe) (.next ρ (σ.set i (.dict (dictPut es kk u)))):=λs φ β P m S =>
 l9 ((qQ F.hO _ v (ai _) oe T ρ _ F.hE hv).1.post (S.inv F.IB) S.er λxv ou oF oD ph oP oM=>(HJ F.hE hx td).post ph oP λxo oJ o4 oW rU qi pT =>
  (qQ F.hO _ k (ai _) oe T ρ _ F.hE hk).1.post rU qi λxk ro sU qA Cu vB vY=>by
   refine oB (VR.refOf pT) ?_;rintro a rfl ha;have BQ:=(oD.trans oW).trans qA;exact vY.e_int λt=>up (wdS (S.go BQ) hi ha o3 (oM.scalar tA λt y e=>qA.sub t y (oW.sub t y e))) λY s' h=>⟨rfl,h.after (.go BQ)⟩) QQ
theorem Mt{x:Str}{i:Nat}{v:AV}(hE:qc oe T)(hx:T.var x=some i)(hv:ρ[i]?=some (some v)):ES G A oe T ρ σ (loadName oe x) v:=by
 intro s φ β P m I R;refine oB (R.names x i v hx hv) λv' r n=>?_;have hd:=Ql hx;rcases n with⟨k,e⟩|⟨c,e,k,i⟩
 ·exact mT hE.kind k R.ns e ⟨φ,GX.refl R.tk,r⟩
 ·rcases k with k|k
  ·exact jo hE.kind k e i ⟨φ,GX.refl R.tk,r⟩
  ·exact jn hE.kind k e i ⟨φ,GX.refl R.tk,r⟩ hd.2
theorem Sa{C:Operator->AV->AV->Prop}{op:Operator}{a b:AV}(h:yf op a b=true)(h1:∀i j,C .FloorDiv (.int i) (.int j))(h2:∀x y,C .Add (.str x) (.str y)):C op a b:=by
 induction op using gm with
 |FloorDiv =>
  induction a using AV.casesOn with
  |int i=>induction b using AV.casesOn with
   |int j=>exact h1 i j
   |_=>exact qb h
  |_=>exact qb h
 |Add =>
  induction a using AV.casesOn with
  |str i=>induction b using AV.casesOn with
   |str j=>exact h2 i j
   |_=>exact qb h
  |_=>exact qb h
 |_=>exact qb h
theorem Sb{i j:Int}{r:AV}{x y:Value}(hr:rP σ .FloorDiv (.int i) (.int j)=some r)(K:o5 φ s)(oM:VR G.tok ow s'.heap β P (.int i) x)(pT:VR G.tok φ s.heap β P (.int j) y):ao (ar oj wd) A (gR .FloorDiv x y) (oR G.tok φ s β P r) oE s :=
 yV hr λhc hr=>oN (Q:=λr=>ao (ar oj wd) A (gR .FloorDiv x y) (oR G.tok φ s β P r) oE s) hr<|oM.e_int λt0=>pT.e_int λAT=>by
  have hs:small j=true:=by
   induction hq:small j using aZ with
   |true=>rfl
   |false=>exact absurd (.inr (by refine oa hq ?_;rfl)) hc
  exact ni (λq=>hc (.inl (of_decide_eq_true q))) (by refine oa (J4 hs) ?_;exact bA) (tj K)
theorem KC{u:List Nat}(h:(dI ⟨u.toArray⟩==0)=true):u=[]:=bC.mp (aC▸(eq_of_beq h:u.toArray.size=0))
theorem Se{u v:List Nat}{r:AV}{x y:Value}(hr:rP σ .Add (.str u) (.str v)=some r)(K:o5 φ s)(oM:VR G.tok ow s'.heap β P (.str u) x)(pT:VR G.tok φ s.heap β P (.str v) y):ao (ar oj wd) A (gR .Add x y) (oR G.tok φ s β P r) oE s :=
 qd hr λo3 hr=>oN (Q:=λr=>ao (ar oj wd) A (gR .Add x y) (oR G.tok φ s β P r) oE s) hr<|oM.e_str λt0=>pT.e_str λAT=>by
  refine PySem.P.iadd_str ?_;by_cases hu:u=[]
  ·subst hu;exact wE K (.str _ _)
  by_cases hv:v=[]
  ·subst hv;refine oa (bB _) ?_;refine oa (if_neg (mt KC hu)) ?_;exact wE K (.str _ _)
  refine oa (if_neg (mt KC hu)) ?_;refine oa (if_neg (mt KC hv)) ?_;refine oa (QN _ _) ?_;exact⟨sk (ae (bd (aC.trans aq)) o3),zC K (bw _)⟩
theorem Sd{op:Operator}{a b r:AV}{x y:Value}(qk:yf op a b=true)(hr:rP σ op a b=some r)(K:o5 φ s)(oM:VR G.tok ow s'.heap β P a x)(pT:VR G.tok φ s.heap β P b y):ao (ar oj wd) A (gR op x y) (oR G.tok φ s β P r) oE s :=
 Sa (C:=λop a b=>rP σ op a b=some r->VR G.tok ow s'.heap β P a x->VR G.tok φ s.heap β P b y->ao (ar oj wd) A (gR op x y) (oR G.tok φ s β P r) oE s) qk (λi j hr oM pT=>Sb hr K oM pT) (λu v hr oM pT=>Se hr K oM pT) hr oM pT
theorem weQ(F:o_ G A Φ sB om oe T){x:Str}{px pos:cq}{op:Operator}{e:Expr}{i:Nat}{old v r:AV}(hx:T.own x=some i)(td:ρ[i]?=some (some old))(he:ev Φ σ ρ (oy T e)=some v)(qk:yf op old v=true)
 (hr:rP σ op old v=some r):qo G A sB ot om oe T ρ σ (bz (.AugAssign (.Name x px) op e pos) oe) (.next (ρ.set i (some r)) σ):=λs φ β P m S =>
 mV ((Mt F.hE (DY hx).1 td).post (S.inv F.IB) S.er λxo ou oF oD ph oP oM=>(qQ F.hO _ e (ai _) oe T ρ _ F.hE he).1.post ph oP λxv oJ o4 oW rU qi pT =>
  up (Sd qk hr oW.tk oM pT) λxr ro ⟨sU,qA,vY⟩=>zE F hx (((S.go oD).go oW).go qA.x) vY λsF wA t6 wH Y=>⟨rfl,sU,β,P,wA,t6,(pB.go ((oD.trans oW).trans qA.x)).trans wH⟩)
theorem weH{i j:Nat}(td:ρ[i]?=some (some (.ref j))):ρ.set i (some (.ref j))=ρ:=by
 refine o6 (aS.mp td) λhl hg=>?_;refine rwj hg ?_;exact List.set_getElem_self hl
theorem weR(F:o_ G A Φ sB om oe T){x:Str}{px pos:cq}{e:Expr}{i j:Nat}{v:AV}{xs ys:List AV}(hx:T.own x=some i)(td:ρ[i]?=some (some (.ref j)))(he:ev Φ σ ρ (oy T e)=some v)(hi:σ[j]?=some (.list xs))
 (hv:oX σ v=some ys) (o3:xs.length+ys.length<=100000):qo G A sB ot om oe T ρ σ (bz (.AugAssign (.Name x px) .Add e pos) oe) (.next ρ (σ.set j (.list (xs++ys)))):=λs φ β P m S =>
 mV ((Mt F.hE (DY hx).1 td).post (S.inv F.IB) S.er λxo ou oF oD ph oP oM=>(qQ F.hO _ e (ai _) oe T ρ _ F.hE he).1.post ph oP λxv oJ o4 oW rU qi pT=>by
  have pA:=(S.go oD).go oW;refine oB (VR.refOf oM) ?_;rintro a rfl ha;refine qe (JP qi.objs hv pT) ?_;rintro b zs rfl hb rb;refine pA.listAt hi ha λus e rs=>wae e hb (by refine rwj rs.length ?_;refine rwj rb.length ?_;exact o3) λh' uO hs=>?_;refine Af (pA.relist (t:=oJ.toks) hi ha hs (ai _) e uO (rs.append rb)) λsU AX A4 xg sC rA=>?_;have hc:AX[j]?=some a:=rA.pre.elim λt e=>e▸(aL (aS.mp ha).1).trans ha;refine zE F hx sC (.ref hc) λsF wA t6 wH Y=>⟨rfl,sU,AX,A4,wA,?_,(pB.go (oD.trans oW)).trans (rA.trans wH)⟩
  rw[weH td]at t6;exact t6)
end
noncomputable def Ph:Fn->Bool
 | .reversed=>true
 |_=>false
theorem Xc(h:t_.lookup x=some .reversed):x=("reversed":Str):=
 eq_of_beq (aj.mp (show t_.all (λe=>!Ph e.2||e.1==("reversed":Str))=true by decide +kernel) _ (mem_of_lookup h))
theorem wcl(h:vq.lookup x=some .reversed):False :=
 qb (aj.mp (show vq.all (λe=>!Ph e.2)=true by decide +kernel) _ (mem_of_lookup h))
theorem wgK(h:oy T e=.call .reversed (.cons a .nil)):∃p b pos,e=.Call (.Name ("reversed":Str) p) [b] [] pos/\T.isGlobal ("reversed":Str)=true/\a=oy T b:=by
 rcases GP h with⟨x,p,b,bs,pos,e1,hg,hl,e2⟩|⟨m,hl⟩|h|⟨h,_⟩
 ·have:=Xc hl;rw[this]at e1 hg
  induction bs using af with
  |cons=>exact PZ (qh.cons.inj e2).2
  |nil=>exact Jz p b pos e1 hg (by injection e2)
 ·exact(wcl hl).elim
 ·exact qb h
 ·exact qb h
noncomputable def EI(G:GD)(A:br)(s:ah)(φ:Gh)(β:List aw)(P:aw->Prop)(it:Expr)(oe:Env)(vs:List AV):Prop :=
 (∀x,eM it oe x=pure x)/\ao (ar oj wd) A (bK it oe) (λx s'=>ao (ar oj wd) A (gD x) (λAF qV=>∃ou oF,GX G s φ ou oF/\wJ A G.tok oF β P P ou vs AF qV) oE s') oE s
theorem waG(F:o_ G A Φ sB om oe T)(hq:oy T it=.call .range as)(e:r9 Φ σ ρ (.range as)=some vs)(I:pp G s.heap)(R:ER G φ oe T ρ σ β P m s):EI G A s φ β P it oe vs:=by
 refine wX (KP hq) ?_;rintro p b bs pos rfl hg rfl;rw[CZ]at e
 induction qH:qj Φ σ ρ (pk T (b::bs))using aa with
 |none=>rw[qH]at e;exact oq e
 |some us =>
  rw[qH]at e;refine oB (aK.mp e) ?_;rintro is sS rfl;refine p_ (wT (G:=G) (A:=A) F.hE (λa Y=>qQ F.hO _ a (ai _)) qH) λh1 h2=>?_;exact⟨λY=>rfl,HI F.hE F.hO.hG hg h1 (h2 _) sS I R λv s' ow k rr=>up (QI F.hO.hA rr) λAF qV h=>rf s' ow k h⟩
theorem waH(F:o_ G A Φ sB om oe T)(hq:oy T it=.call .reversed (.cons a .nil))(qH:ev Φ σ ρ a=some (.lst us))(I:pp G s.heap)(R:ER G φ oe T ρ σ β P m s):EI G A s φ β P it oe us.reverse:=by
 refine wW (wgK hq) ?_;rintro p b pos rfl hg rfl;have vh:=DV qH;refine⟨λY=>rfl,cx (wB F.hE hg (.inr (F.hO.hG.types "reversed" (by simp))) I ?_)⟩;refine df (eX ((qQ F.hO _ b (ai _) oe T ρ _ F.hE qH).1.post I R λx ou oF oD ph oP oM=>fT ?_) (vt vh)) (vt vh) rfl;refine oM.e_lst λa xs hl p r=>wfd F.hO.hA hl.isList p r λAF s' hs hp=>up hp λwhU qV q=>?_;refine oa q.1 ?_;refine oa q.2 ?_;exact rf ou oF oD hs
theorem waI(F:o_ G A Φ sB om oe T)(Za:x.isRef=false)(hx:ev Φ σ ρ (oy T it)=some x)(e:AE σ x=some vs)(I:pp G s.heap)(R:ER G φ oe T ρ σ β P m s):EI G A s φ β P it oe vs:=by
 refine⟨λY=>Np hx,(qQ F.hO _ it (ai _) oe T ρ _ F.hE hx).1.post I R λv ou oF oD ph oP oM=>?_⟩;refine up (QJ F.hO.hA oP.objs oP.psys e oM) λAF oJ h=>?_;refine H7 h λo fp Pv St h1 h2 h3 h4 h5 h6=>?_;refine⟨ou,oF,oD,o,fp,Pv,St,h1,h2,h3,h4,λb hb=>(h5 b hb).imp id λq=>⟨q.1.elim id λq=>?_,q.2⟩,h6⟩;exact qb (Za.symm.trans q.1)
theorem waF(F:o_ G A Φ sB om oe T)(e:yk Φ ρ σ (tJ (oy T it))=some vs)(I:pp G s.heap)(R:ER G φ oe T ρ σ β P m s):EI G A s φ β P it oe vs:=by
 induction hq:tJ (oy T it)using It.casesOn with
 |range as=>rw[hq]at e;exact waG F (DO hq) e I R
 |rev a =>
  rw[hq,VU]at e
  induction hu:ev Φ σ ρ a using aa with
  |none=>rw[hu]at e;exact oq e
  |some u =>
   rw[hu]at e
   induction u using AV.casesOn with
   |lst us=>exact ag e▸waH F (DO hq) hu I R
   |_=>exact oq e
 |val x =>
  rw[hq,show x=oy T it from DO hq,My]at e;clear hq
  induction hx:ev Φ σ ρ (oy T it)using aa with
  |none=>rw[hx]at e;exact oq e
  |some x =>
   rw[hx]at e
   induction x using AV.casesOn with
   |ref i=>exact oq e
   |_=>exact waI F rfl hx e I R
theorem SR.moved(S:SR G sB ot om oe T φ ρ σ β P m s)(hn:sB.heap.objs.size<=I)(hI:¬P I)(BG:I∉β)(tz:¬yL G oe T I)(vL:∀x c,oe.cells.lookup x=some c->c≠I)(hk:∀b o,b≠I->s.heap.get? b=some o->h'.get? b=some o)(u:Up s {s with heap:=h',toks:=t}):SR G sB ot om oe T φ ρ σ β P m {s with heap:=h',toks:=t}:=by
 have yp:¬G.X I:=λq=>tz (.inr (.inr q));have TT:=S.tabs.1.but (a:=I) hk yp λq=>hI (S.er.freshX I (.inr q));have R:=S.er.but (X:=(·=I)) (h':=h') (t:=t) S.tabs.1 (λb hb q=>yp (q▸hb)) (λb o hb e=>hk b o hb e) u.size u.toks (λa p q=>hI (q▸p)) (λa p q=>BG (q▸p)) (λq=>tz (.inl q.symm)) (λx c v hc hi q=>vL x c hc q);refine sb S.base λhh tt e=>?_;exact{ S with base:=wz h' t (by refine oa e ?_;rfl),old:=λb o hb e=>hk b o (Dg hn e) (S.old b o hb e),size:=ae S.size u.size,er:=R,tabs:=⟨TT.1,λc q=>S.tabs.2 c (TT.2 c q)⟩}
theorem pB.moved(C:pB G oe T ou oF uy rj qM s φ σ β P)(hI:ou.heap.objs.size<=I)(hk:∀b o,b≠I->s.heap.get? b=some o->h'.get? b=some o)(u:Up s {s with heap:=h',toks:=t}):pB G oe T ou oF uy rj qM {s with heap:=h',toks:=t} φ σ β P :=
 { C with keep:=λb o hb e=>hk b o (λq=>aJ _ (ab (q▸aN e:I<ou.heap.objs.size) hI)) (C.keep b o hb e),size:=ae C.size u.size}
theorem SR.push_out(S:SR G sB ot om oe T φ ρ σ β P m s):
 SR G sB ot om oe T φ ρ σ β (tE P s.heap.objs.size (s.heap.objs.size+1)) m {s with heap:=s.heap.push o}/\pB G oe T s φ σ β P {s with heap:=s.heap.push o} φ σ β (tE P s.heap.objs.size (s.heap.objs.size+1)):=by
 have hz:(s.heap.push o).objs.size=s.heap.objs.size+1:=bg ..;have ext:qt s.heap (s.heap.push o):=λb o e=>av _ e;have R:=S.er.grow_out (h':=s.heap.push o) (t:=s.toks) S.tabs.1 ext (by refine oa hz ?_;exact bw _) (ai _);rw[hz]at R;refine sb S.base λhh tt e=>?_;refine⟨{S with base:=wz (s.heap.push o) s.toks (by refine oa e ?_;rfl),old:=λb o hb e=>ext b o (S.old b o hb e),tabs:=⟨S.tabs.1.keeps ext,λc q=>S.tabs.2 c (vw ext S.tabs.1 c q)⟩,size:=ae S.size (by show _<=(s.heap.push o).objs.size;refine oa hz ?_;exact bw _),er:=R,fr:=S.fr.sub λa p=>p.1,live:=λj a o h1 h2 h3 p=>S.live j a o h1 h2 h3 p.1,psub:=λa p=>S.psub a p.1},
  ⟨λb o Y e=>ext b o e,λY Y h=>h,λa p hl=>⟨p,λq=>bu.mpr q.1 hl⟩,λY Y e=>e,aB _,by show _<=(s.heap.push o).objs.size;refine oa hz ?_;exact bw _,λY Y p=>.inl p.1,λY h Y=>h⟩⟩
theorem Xx{f:oI->oH->AV->Option Fl}{v:AV}{vs:List AV}{fl:Fl}{Q:Prop}(h:sQ f (v::vs) ρ σ=some fl)(h1:∀oC ox,f ρ σ v=some (.next oC ox)->sQ f vs oC ox=some fl->Q)(h2:∀r,f ρ σ v=some (.ret r)->.ret r=fl->Q):Q:=by
 replace h:(match f ρ σ v with|some (.next oC ox)=>sQ f vs oC ox|some (.ret r)=>some (.ret r)|none=>none)=some fl:=h
 induction hb:f ρ σ v using aa with
 |none=>rw[hb]at h;exact oq h
 |some x =>
  rw[hb]at h
  induction x using Fl.casesOn with
  |next oC ox=>exact h1 oC ox hb h
  |ret r=>exact h2 r hb (ag h)
theorem Xz{T:Tb}{ρ:oI}{G:GD}{s:ah}(F:o_ G A Φ sB om oe T){x:Str}{px:cq}{body:List Stmt}{i:Nat}{v:AV}{vs:List AV}{xv:Value}{f:oI->oH->AV->Option Fl}{fl:Fl}{R:im->ah->Prop}{E E':Value->ah->Prop}(hx:T.own x=some i)(vO:∀v ρ σ fl,f ρ σ v=some fl->qo G A sB ot om oe T (ρ.set i (some v)) σ (be body oe) fl)(S:SR G sB ot om oe T φ ρ σ β P m s)(rv:VR G.tok φ s.heap β P v xv)(hf:sQ f (v::vs) ρ σ=some fl)(h1:∀oC ox s',sQ f vs oC ox=some fl->t5 G sB ot om oe T s φ σ β P oC ox s'->R .next s')(h2:∀r fw s',.ret r=fl->A3 G sB ot om oe T s φ σ β P (.ret r) fw s'->R fw s'):
 ao (ar oj wd) A (k9 (.Name x px) oe xv) (λY s'=>ao (ar oj wd) A (be body oe) R E' s') E s :=
 ie (zE F hx S rv λou rh oT qg Y=>Xx hf
  (λoC ox hb hf=>up (vO v ρ σ _ hb ou φ β P rh oT) λfw oJ qI=>qI.1▸h1 oC ox oJ hf (t5.after qg qI.2))
  (λr hb e=>up (vO v ρ σ _ hb ou φ β P rh oT) λfw oJ qI=>h2 r fw oJ e qI))
structure A1(G:GD) (sB:ah) (ot:Gh) (om:aw->Prop) (oe:Env) (T:Tb) (ou:ah) (oF:Gh) (σ:oH) (β:List aw) (P:aw->Prop) (I:aw) (St:Nat->bU->Prop) (run:Nat->oI->oH->Prop) (j:Nat) (ow:Gh) (oC:oI) (ox:oH) (oO:List aw) (P':aw->Prop) (m':Str->Option Value) (s':ah):Prop where
 S:SR G sB ot om oe T ow oC ox oO P' m' s'
 C:pB G oe T ou oF σ β P s' ow ox oO P'
 st:St j s'.heap
 nb:I∉oO
 np:¬P' I
 lt:I<s'.heap.objs.size
 run:run j oC ox
noncomputable def K_(G:GD)(sB:ah)(ot:Gh)(om:aw->Prop)(oe:Env)(T:Tb)(ou:ah)(oF:Gh)(σ:oH)(β:List aw)(P:aw->Prop)(I:aw)(St:Nat->bU->Prop)(run:Nat->oI->oH->Prop)(len n:Nat)(s':ah):Prop :=
 ∃j ow oC ox oO P' m',(n=len-j/\j<=len)/\A1 G sB ot om oe T ou oF σ β P I St run j ow oC ox oO P' m' s'
theorem Xw{ou:ah}{oF:Gh}{I:aw}{St:Nat->bU->Prop}{run:Nat->oI->oH->Prop}{len n:Nat}{Q:Prop}(h:K_ G sB ot om oe T ou oF σ β P I St run len n s')(k:∀j ow oC ox oO P' m',n=len-j->j<=len->A1 G sB ot om oe T ou oF σ β P I St run j ow oC ox oO P' m' s'->Q):Q :=
 h.elim λj h=>h.elim λow h=>h.elim λoC h=>h.elim λox h=>h.elim λoO h=>h.elim λP' h=>h.elim λm' h=>k j ow oC ox oO P' m' h.1.1 h.1.2 h.2
theorem wcy(F:o_ G A Φ sB om oe T)(S:SR G sB ot om oe T φ ρ σ β P m s):¬yL G oe T s.heap.objs.size/\∀x c,oe.cells.lookup x=some c->c≠s.heap.objs.size :=
 ⟨λq=>aJ _ (Qc S q),λx c hc q=>by
  refine pK (S.er.celled x (F.hcl x c hc)) λc' rq e1 e2=>?_;exact aJ _ ((ag (hc.symm.trans e1)).symm.trans q▸e2.lt)⟩
theorem A1.moved{oe:Env}{T:Tb}{ρ:oI}{σ ox:oH}{G:GD}{s:ah}{φ:Gh}{β oO:List aw}{P P' om:aw->Prop}{m:Str->Option Value}{h':bU}{sB:ah}{ot:Gh}{ou:ah}{oF:Gh}{I:aw}{St:Nat->bU->Prop}{run:Nat->oI->oH->Prop}{j:Nat}{t:kP}(H:A1 G sB ot om oe T ou oF ox oO P' I St run j φ ρ σ β P m s)(wZ:sB.heap.objs.size<=I)(hI:ou.heap.objs.size<=I)(tz:¬yL G oe T I)(vL:∀x c,oe.cells.lookup x=some c->c≠I)(hk:∀b o,b ∉ [I]->s.heap.get? b=some o->h'.get? b=some o)(u:Up s {s with heap:=h',toks:=t}):
 SR G sB ot om oe T φ ρ σ β P m {s with heap:=h',toks:=t}/\pB G oe T ou oF ox oO P' {s with heap:=h',toks:=t} φ σ β P :=
 have tT:∀b o,b≠I->s.heap.get? b=some o->h'.get? b=some o:=λb o hb e=>hk b o (λq=>hb (aI.mp q)) e
 ⟨H.S.moved wZ H.np H.nb tz vL tT u,H.C.moved hI tT u⟩
theorem A1.still{oe:Env}{T:Tb}{ρ:oI}{σ ox:oH}{G:GD}{s:ah}{φ:Gh}{β oO:List aw}{P P' om:aw->Prop}{m:Str->Option Value}{sB:ah}{ot:Gh}{ou:ah}{oF:Gh}{I:aw}{St:Nat->bU->Prop}{run:Nat->oI->oH->Prop}{j:Nat}{fp:List aw}(H:A1 G sB ot om oe T ou oF ox oO P' I St run j φ ρ σ β P m s){xm:oI}{rh:Str->Option Value}(oT:SR G sB ot om oe T oF xm ox oO P' rh ou)(tz:¬yL G oe T I)(xO:∀b∈fp,b=I\/P' b/\b<ou.heap.objs.size):∀b∈fp,A6 G oe T σ β b:=λb hb =>
 (xO b hb).elim (λe=>e▸⟨tz,λk hk=>absurd (aY hk) H.nb⟩) λq=>H.C.still b q.2 (oT.stillP q.1)
theorem SS{α:Type}{t:fe α}{K:α->ah->Prop}{E:Value->ah->Prop}(h:∀Q:α->ah->Prop,(∀a s',K a s'->Q a s')->ao (ar oj wd) A t Q E s):ao (ar oj wd) A t K E s:=h K λY Y h=>h
theorem weS{T:Tb}{ρ:oI}(F:o_ G A Φ sB om oe T){x:Str}{px pos:cq}{iter:Expr}{body:List Stmt}{i:Nat}{vs:List AV}{f:oI->oH->AV->Option Fl}{fl:Fl}(hx:T.own x=some i)(vR:yk Φ ρ σ (tJ (oy T iter))=some vs)(vO:∀v ρ σ fl,f ρ σ v=some fl->qo G A sB ot om oe T (ρ.set i (some v)) σ (be body oe) fl)(hf:sQ f vs ρ σ=some fl):qo G A sB ot om oe T ρ σ (bz (.For (.Name x px) iter body [] pos) oe) fl:=by
 intro s φ β P m S;refine SS λK hK=>?_;have hs:=waF F vR (S.inv F.IB) S.er;refine PySem.wpAny_For (b9 hs.2 (λxv s6 oS=>b9 oS (λAF oJ qI=>qI.elim λou qI=>qI.elim λoF qI=>?_) λY Y e=>e) λY Y e=>e) hs.1;have oD:=qI.1;refine src_elim qI.2 λo fp Pv St W qU xO YX=>?_;clear qI hs;have oT:=S.go oD;refine p_ (oT.push_out (o:=o)) λpA re=>?_;refine p_ (wcy F oT) λtz vL=>?_;have wZ:=oT.size;refine codeAny_forLoop (K_ G sB ot om oe T ou oF σ β P ou.heap.objs.size St (λj ρ σ=>sQ f (vs.drop j) ρ σ=some fl) vs.length)
  (λn s' hI=>?_) vs.length ⟨0,oF,ρ,σ,β,_,m,⟨rfl,dh _⟩,pA,re,qU,λq=>aJ _ (oT.er.blt _ q),λp=>p.2 ⟨ai _,bT _⟩,by show _<(ou.heap.push o).objs.size;refine oa (bg _ _) ?_;exact bT _,hf⟩ (λY=>rfl)
 refine Xw hI λj ow oC ox oO P' m' hn hj H=>?_;subst hn;clear hI;have Aq:=H.run;rcases Nat.eq_or_lt_of_le hj with wu|wu
 ·rw[wu,mM]at Aq;refine sG (W.done s' _ _ (wu▸H.st) λh' t hk u=>?_);refine p_ (H.moved wZ (ai _) tz vL hk u) λsC rA=>?_;exact wpAny_execs_nil (hK _ _ (oN (Q:=λfl=>A3 G sB ot om oe T s φ σ β P fl .next _) Aq ⟨rfl,ow,oO,P',m',sC,(pB.go oD).trans rA⟩))
 ·rw[eP wu]at Aq;refine sG (W.item j s' _ _ wu H.st λxv h' t FD AB hk u=>?_);refine p_ (H.moved wZ (ai _) tz vL hk u) λsC rA=>?_;refine oB (YX j xv FD) λv hv rv=>?_;rw[au wu]at hv;have I7:ou.heap.objs.size<h'.objs.size:=ab H.lt u.size;refine Xz F hx vO sC (oT.carry rA (ag hv▸rv)) Aq (λwhC whD rY YO xT=>?_) λr fw rY e xT=>?_
  ·refine Af xT λGY Rt Lb J1 CA zM=>?_;exact⟨vs.length-(j+1),Nat.sub_succ_lt_self _ _ wu,j+1,GY,whC,whD,Rt,Lb,J1,⟨rfl,wu⟩,CA,rA.trans zM,W.frame _ _ _ AB λb hb o e=>zM.keep b o (H.still oT tz xO b hb) e,λq=>H.nb (zM.bn _ q I7),λp=>(zM.pn _ I7 p).elim H.np H.nb,ab I7 zM.size,YO⟩
  ·refine oB xT ?_;rintro y rfl xT;exact hK _ _ (e▸⟨y,rfl,xT⟩)
theorem whk{c:oI->oH->Option AV}{f:oI->oH->Option Fl}{k:Nat}{fl:Fl}{Q:Prop}(h:v5 c f (k+1) ρ σ=some fl)(h1:∀oC ox,c ρ σ=some (.bool true)->f ρ σ=some (.next oC ox)->v5 c f k oC ox=some fl->Q)(h2:∀r,c ρ σ=some (.bool true)->f ρ σ=some (.ret r)->.ret r=fl->Q)(h3:c ρ σ=some (.bool false)->.next ρ σ=fl->Q):Q:=by
 rw[KU]at h
 induction hc:c ρ σ using aa with
 |none=>rw[hc]at h;exact oq h
 |some v =>
  rw[hc]at h
  induction v using AV.casesOn with
  |bool b =>
   induction b using aZ with
   |false=>exact h3 hc (ag h)
   |true =>
    induction hb:f ρ σ using aa with
    |none=>rw[hb]at h;exact oq h
    |some x =>
     rw[hb]at h
     induction x using Fl.casesOn with
     |next oC ox=>exact h1 oC ox hc hb h
     |ret r=>exact h2 r hc hb (ag h)
  |_=>exact oq h
theorem whl(F:o_ G A Φ sB om oe T){c:Expr}{body:List Stmt}{f:oI->oH->Option Fl}{fl:Fl}{k:Nat}{R R':im->ah->Prop}{E:Value->ah->Prop}(vO:∀ρ σ fl,f ρ σ=some fl->qo G A sB ot om oe T ρ σ (be body oe) fl)(hf:v5 (λρ σ=>ev Φ σ ρ (oy T c)) f (k+1) ρ σ=some fl)(S:SR G sB ot om oe T φ ρ σ β P m s)(h1:∀oC ox s',v5 (λρ σ=>ev Φ σ ρ (oy T c)) f k oC ox=some fl->t5 G sB ot om oe T s φ σ β P oC ox s'->R .next s')(h2:∀r fw s',.ret r=fl->A3 G sB ot om oe T s φ σ β P (.ret r) fw s'->R fw s')(h3:∀s',.next ρ σ=fl->t5 G sB ot om oe T s φ σ β P ρ σ s'->R' .next s'):
 ao (ar oj wd) A (dv c oe (bK c oe)) (λb oJ=>if b then ao (ar oj wd) A (be body oe) R E oJ else ao (ar oj wd) A (be [] oe) R' E oJ) E s:=by
 refine whk hf (λoC ox hc hb hf=>?_) (λr hc hb e=>?_) λhc e=>?_
 ·refine((qQ F.hO _ c (ai _) oe T ρ _ F.hE hc).2 true rfl).post (S.inv F.IB) S.er λou oF oD ph oP=>?_;rw[if_pos rfl];refine up (vO ρ σ _ hb ou oF β P m (S.go oD)) λfw oJ qI=>?_;obtain⟨rfl,o4,rt,qz,rm,pA,re⟩:=qI;exact h1 oC ox oJ hf ⟨o4,rt,qz,rm,pA,(pB.go oD).trans re⟩
 ·refine((qQ F.hO _ c (ai _) oe T ρ _ F.hE hc).2 true rfl).post (S.inv F.IB) S.er λou oF oD ph oP=>?_;rw[if_pos rfl];exact up (vO ρ σ _ hb ou oF β P m (S.go oD)) λfw oJ qI=>h2 r fw oJ e qI
 ·refine((qQ F.hO _ c (ai _) oe T ρ _ F.hE hc).2 false rfl).post (S.inv F.IB) S.er λou oF oD ph oP=>?_;rw[if_neg bA];exact wpAny_execs_nil (h3 ou e ⟨oF,β,P,m,S.go oD,.go oD⟩)
theorem t5.carry(C:pB G oe T ou oF uy rj qM s φ σ β P)(h:t5 G sB ot om oe T s φ σ β P oC ox s'):t5 G sB ot om oe T ou oF uy rj qM oC ox s':=by
 refine Af h λo4 rt qz rm pA re=>?_;exact Ga o4 rt qz rm pA (C.trans re)
theorem weZ(F:o_ G A Φ sB om oe T)(vO:∀ρ σ fl,f ρ σ=some fl->qo G A sB ot om oe T ρ σ (be body oe) fl)(hf:v5 (λρ σ=>ev Φ σ ρ (oy T c)) f n ρ σ=some fl):qo G A sB ot om oe T ρ σ (bz (.While c body [] pos) oe) fl:=by
 intro s φ β P m S;refine PySem.wpAny_While ?_;refine codeAny_whileLoop (λk s'=>∃oC ox,t5 G sB ot om oe T s φ σ β P oC ox s'/\v5 (λρ σ=>ev Φ σ ρ (oy T c)) f k oC ox=some fl)
  (λk s' hI=>?_) n ⟨ρ,σ,⟨φ,β,P,m,S,.refl⟩,hf⟩
 clear S hf;refine pK hI λoC ox z2 Aq=>?_;obtain⟨ow,oO,P',m',S',C'⟩:=z2
 induction k using ce with
 |zero=>exact oq Aq
 |succ k =>
  refine whl F vO Aq S' (λAY zJ oJ hf h=>⟨k,bT _,AY,zJ,h.carry C',hf⟩) (λr fw oJ e h=>?_) λoJ e h=>e▸⟨rfl,h.carry C'⟩;refine oB h ?_;rintro y rfl h;exact e▸⟨y,rfl,h⟩
theorem weV(F:o_ G A Φ sB om oe T)(he:ev Φ σ ρ (oy T e)=some v)(hr:o8 σ 6 v=some r):qo G A sB ot om oe T ρ σ (bz (.Return (some e) pos) oe) (.ret r):=by
 intro s φ β P m S;refine dy ((qQ F.hO _ e (ai _) oe T ρ _ F.hE he).1.post (S.inv F.IB) S.er λx ou oF oD ph oP oM=>?_);have oT:=S.go oD;exact⟨x,rfl,oF,oT.done,oT.frozen F.hP₀ hr oM⟩
theorem Wp{s:St}{ss:rG}{fl:Fl}{Q:Prop}(e:oL Φ ρ σ (.cons s ss)=some fl)(h1:∀oC ox,q8 Φ ρ σ s=some (.next oC ox)->oL Φ oC ox ss=some fl->Q)(h2:∀v,q8 Φ ρ σ s=some (.ret v)->.ret v=fl->Q):Q:=by
 rw[Ib]at e
 induction h:q8 Φ ρ σ s using aa with
 |none=>rw[h]at e;exact oq e
 |some f =>
  rw[h]at e
  induction f using Fl.casesOn with
  |next oC ox=>exact h1 oC ox h e
  |ret v=>exact h2 v h (ag e)
theorem Kt(C:pB G oe T s φ σ β P ou oF uy rj qM)(h:A3 G sB ot om oe T ou oF uy rj qM fl f oJ):A3 G sB ot om oe T s φ σ β P fl f oJ:=by
 induction fl using Fl.casesOn with
 |next AY zJ =>
  obtain⟨e,o4,rt,qz,rm,pA,re⟩:=h;exact⟨e,o4,rt,qz,rm,pA,C.trans re⟩
 |ret r=>exact h
theorem wfZ{mu:List Str}:(mu.contains x&&sL v)=true->sL v=true:=λh=>(dR.mp h).2
theorem QD(F:o_ G A Φ sB om oe T){ux:List Stmt}:∀{ρ:oI}{σ:oH}{fl:Fl},(∀st∈ux,∀ρ σ fl,q8 Φ ρ σ (AR T mu st)=some fl->qo G A sB ot om oe T ρ σ (bz st oe) fl) ->
 oL Φ ρ σ (sx T mu ux)=some fl->qo G A sB ot om oe T ρ σ (be ux oe) fl:=by
 induction ux with
 |nil=>exact λ{ρ σ fl} Y e=>oN (Q:=λfl=>qo G A sB ot om oe T ρ σ (be [] oe) fl) (show some (Fl.next ρ σ)=some fl from e) λs φ β P m S=>wpAny_execs_nil ⟨rfl,φ,β,P,m,S,.refl⟩
 |cons st ux ih =>
  intro ρ σ fl h e s φ β P m S;refine Wp (e:oL Φ ρ σ (.cons (AR T mu st) (sx T mu ux))=some fl) (λoC ox he e=>?_) λr he e=>?_
  ·refine aR (up (h st ax ρ σ _ he s φ β P m S) λf ou o7=>?_);obtain⟨rfl,oF,rj,qM,rh,oT,qg⟩:=o7;exact up (ih (λst hs=>h st (aP _ hs)) e ou oF rj qM rh oT) λf oJ qI=>Kt qg qI
  ·refine rwj e ?_;refine aR (up (h st ax ρ σ _ he s φ β P m S) λf ou o7=>?_);refine oB o7 ?_;rintro y rfl qI;exact⟨y,rfl,qI⟩
theorem wfD(F:o_ G A Φ sB om oe T)(hi:T.own x=some i)(ht:th=true->sL v=true)(e:q8 Φ ρ σ (.asg i th (oy T v))=some fl):qo G A sB ot om oe T ρ σ (bz (.Assign [.Name x px] v pos) oe) fl:=by
 rw[H']at e
 induction hu:t8 Φ ρ σ th (oy T v)using aa with
 |none=>rw[hu]at e;exact oq e
 |some r =>
  obtain⟨u,ox⟩:=r;rw[hu]at e;exact oN (Q:=qo G A sB ot om oe T ρ σ _) e (QC F hi ht hu)
theorem wfE{T:Tb}{mu:List Str}(F:o_ G A Φ sB om oe T){vs:List Expr}{xs:List Str}{is:List Nat}(h1:tZ ts=some xs)(h2:T.vars? xs=some is)(h3:(vs.length==xs.length&&decide (vs.length<=1000)&&decide is.Nodup&&(!vs.all (fS 8)||vs.all (gl 8)))=true)(e:q8 Φ ρ σ (.asgT (is.zip ((xs.zip vs).map λ(x,v)=>mu.contains x&&sL v)) (pk T vs))=some fl):qo G A sB ot om oe T ρ σ (bz (.Assign [.Tuple ts k tp] (.Tuple vs k2 p2) pos) oe) fl:=by
 refine qG h3 λh c4=>qG h λh c3=>qG h λc1 c2=>?_;have c1:=eq_of_beq c1;have Oj:xs.mapM T.own=some is:=h2;have oU:((xs.zip vs).map λ(x,v)=>mu.contains x&&sL v).length=is.length:=by
  rw[ac,dp,c1,lf,JT Oj]
 have YN:(is.zip ((xs.zip vs).map λ(x,v)=>mu.contains x&&sL v)).map (·.1)=is:=mK (by rw[oU];exact ai _);have F0:∀x e,(x,e)∈(is.zip ((xs.zip vs).map λ(x,v)=>mu.contains x&&sL v)).zip vs->x.2=true->sL e=true:=λx e hm F0=>by
  obtain⟨j,hj,yt⟩:=fZ.mp hm;rw[jB,jB,dT,jB]at yt;cases yt;exact(dR.mp F0).2
 generalize(xs.zip vs).map (λ(x,v)=>mu.contains x&&sL v)=Eg at *;rw[M7]at e
 induction qH:sO Φ ρ σ (is.zip Eg) (pk T vs)using aa with
 |none=>rw[qH]at e;exact oq e
 |some r =>
  obtain⟨us,ox⟩:=r;rw[qH]at e;refine oB (aK.mp e) λoC F6 e=>?_;rw[YN]at F6;exact e▸weP F h1 Oj (of_decide_eq_true c3) (of_decide_eq_true c2) c1 c4 oU F0 qH F6
theorem wfL(F:o_ G A Φ sB om oe T)(h1:tZ ts=some xs)(h2:T.vars? xs=some is)(hn:∀vs k p,v≠.Tuple vs k p)(e:q8 Φ ρ σ (.unp is (oy T v))=some fl):qo G A sB ot om oe T ρ σ (bz (.Assign [.Tuple ts k tp] v pos) oe) fl:=by
 rw[M6]at e
 induction hu:ev Φ σ ρ (oy T v)using aa with
 |none=>rw[hu]at e;exact oq e
 |some u =>
  rw[hu]at e
  induction u using AV.casesOn with
  |tup us =>
   refine oB (aK.mp e) λoC F6 e=>?_;exact e▸weX F h1 h2 hn hu F6
  |_=>exact oq e
theorem wfI(F:o_ G A Φ sB om oe T)(hi:T.var x=some i)(e:q8 Φ ρ σ (.put i (oy T k) (oy T v))=some fl):qo G A sB ot om oe T ρ σ (bz (.Assign [.Subscript (.Name x px) k sp] v pos) oe) fl:=by
 rw[M9]at e
 induction hu:ev Φ σ ρ (oy T v)using aa with
 |none=>rw[hu]at e;exact oq e
 |some u =>
  rw[hu]at e;refine qd e λtA e=>?_
  induction hj:ρ[i]? using aa with
  |none=>rw[hj]at e;exact oq e
  |some o =>
   rw[hj]at e
   induction o using aa with
   |none=>exact oq e
   |some o =>
    induction o using AV.casesOn with
    |ref j =>
     induction hk:ev Φ σ ρ (oy T k)using aa with
     |none=>rw[hk]at e;exact oq e
     |some kv =>
      rw[hk]at e
      induction kv using AV.casesOn with
      |int kk =>
       dsimp only at e
       induction ho:σ[j]? using aa with
       |none=>rw[ho]at e;exact oq e
       |some ob =>
        rw[ho]at e
        induction ob using AO.casesOn with
        |dict es=>exact qd e λo3 e=>oN (Q:=qo G A sB ot om oe T ρ σ _) e (weT F hi hj hu tA hk ho o3)
        |_=>exact oq e
      |_=>exact oq e
    |_=>exact oq e
theorem Sc{ρ:oI}{σ:oH}{i:Nat}{op:Operator}{x:Ex}{Q:Prop}(e:q8 Φ ρ σ (.aug i op x)=some fl)(h1:∀j v xs ys,ρ[i]?=some (some (.ref j))->ev Φ σ ρ x=some v->op=.Add->σ[j]?=some (.list xs)->oX σ v=some ys->xs.length+ys.length<=100000->.next ρ (σ.set j (.list (xs++ys)))=fl->Q)(h2:∀old v r,ρ[i]?=some (some old)->ev Φ σ ρ x=some v->yf op old v=true->rP σ op old v=some r->.next (ρ.set i (some r)) σ=fl->Q):Q:=by
 rw[H_]at e
 induction ho:ρ[i]? using aa with
 |none=>rw[ho]at e;exact oq e
 |some o =>
  rw[ho]at e
  induction o using aa with
  |none=>exact oq e
  |some old =>
   induction hv:ev Φ σ ρ x using aa with
   |none=>rw[hv]at e;exact oq e
   |some v =>
    rw[hv]at e;have hb:(if yf op old v then(match rP σ op old v with
     |some r=>some (Fl.next (ρ.set i (some r)) σ)
     |none=>none)else none)=some fl->Q:=λe=>qd e λqk e=>by
     induction hr:rP σ op old v using aa with
     |none=>rw[hr]at e;exact oq e
     |some r=>rw[hr]at e;exact h2 old v r ho hv qk hr (ag e)
    induction old using AV.casesOn with
    |ref j =>
     clear hb h2
     induction op using gm with
     |Add =>
      dsimp only at e
      induction hs:σ[j]? using aa with
      |none=>rw[hs]at e;exact oq e
      |some ob =>
       rw[hs]at e
       induction ob using AO.casesOn with
       |list xs =>
        induction hl:oX σ v using aa with
        |none=>rw[hl]at e;exact oq e
        |some ys=>rw[hl]at e;exact qd e λo3 e=>h1 j v xs ys ho hv rfl hs hl o3 (ag e)
       |_=>exact oq e
     |_=>exact oq e
    |_=>exact hb e
theorem wfF{T:Tb}(F:o_ G A Φ sB om oe T){x:Str}{px:cq}{v:Expr}{op:Operator}{i:Nat}(hi:T.own x=some i)(e:q8 Φ ρ σ (.aug i op (oy T v))=some fl):qo G A sB ot om oe T ρ σ (bz (.AugAssign (.Name x px) op v pos) oe) fl :=
 Sc e (λj u xs ys h1 h2 h3 h4 h5 h6 e=>e▸h3▸weR F hi h1 h2 h4 h5 h6) λold u r h1 h2 h3 h4 e=>e▸weQ F hi h1 h2 h3 h4
theorem wfC(F:o_ G A Φ sB om oe T)(qk:s5 o 1 ap p=true)(e:q8 Φ ρ σ (.app (oy T o) (oy T v))=some fl):qo G A sB ot om oe T ρ σ (bz (.Expr (.Call (.Attribute o "append" ap) [v] [] p) pos) oe) fl:=by
 rw[Ia]at e
 induction ho:ev Φ σ ρ (oy T o)using aa with
 |none=>rw[ho]at e;exact oq e
 |some ov =>
  rw[ho]at e
  induction ov using AV.casesOn with
  |ref i =>
   induction hv:ev Φ σ ρ (oy T v)using aa with
   |none=>rw[hv]at e;exact oq e
   |some u =>
    rw[hv]at e;dsimp only at e
    induction hx:σ[i]? using aa with
    |none=>rw[hx]at e;exact oq e
    |some ob =>
     rw[hx]at e
     induction ob using AO.casesOn with
     |list xs =>
      refine qd e λo3 e=>weO F qk ho hv hx o3 ?_;clear ho hv hx
      induction u using AV.casesOn with
      |ref j =>
       refine yV e λs0 e=>?_
       induction hr:ym σ j using aa with
       |none=>rw[hr]at e;exact oq e
       |some r=>rw[hr]at e;exact .inl ⟨j,r,rfl,s0,hr,(ag e).symm⟩
      |_=>exact .inr (ag e).symm
     |_=>exact oq e
  |_=>exact oq e
theorem wfK(F:o_ G A Φ sB om oe T)(qk:s5 o 0 ap p=true)(e:q8 Φ ρ σ (.rev (oy T o))=some fl):qo G A sB ot om oe T ρ σ (bz (.Expr (.Call (.Attribute o "reverse" ap) [] [] p) pos) oe) fl:=by
 rw[M8]at e
 induction ho:ev Φ σ ρ (oy T o)using aa with
 |none=>rw[ho]at e;exact oq e
 |some ov =>
  rw[ho]at e
  induction ov using AV.casesOn with
  |ref i =>
   dsimp only at e
   induction hx:σ[i]? using aa with
   |none=>rw[hx]at e;exact oq e
   |some ob =>
    rw[hx]at e
    induction ob using AO.casesOn with
    |list xs=>exact qd e λo3 e=>oN (Q:=qo G A sB ot om oe T ρ σ _) e (weW F qk ho hx o3)
    |_=>exact oq e
  |_=>exact oq e
theorem wfH(F:o_ G A Φ sB om oe T)(ha:oL Φ ρ σ (sx T mu a)=some fl->qo G A sB ot om oe T ρ σ (be a oe) fl)(hb:oL Φ ρ σ (sx T mu b)=some fl->qo G A sB ot om oe T ρ σ (be b oe) fl)(e:q8 Φ ρ σ (.ife (oy T c) (sx T mu a) (sx T mu b))=some fl):qo G A sB ot om oe T ρ σ (bz (.If c a b pos) oe) fl:=by
 rw[C8]at e
 induction hc:ev Φ σ ρ (oy T c)using aa with
 |none=>rw[hc]at e;exact oq e
 |some cv =>
  rw[hc]at e
  induction cv using AV.casesOn with
  |bool r =>
   intro s φ β P m S;refine ix (((qQ F.hO _ c (ai _) oe T ρ _ F.hE hc).2 r rfl).post (S.inv F.IB) S.er λou oF oD ph oP=>?_)
   induction r using aZ with
   |true=>rw[if_pos rfl];exact up (ha e ou oF β P m (S.go oD)) λf oJ qI=>Kt (pB.go oD) qI
   |false=>rw[if_neg bA];exact up (hb e ou oF β P m (S.go oD)) λf oJ qI=>Kt (pB.go oD) qI
  |_=>exact oq e
theorem wfG(F:o_ G A Φ sB om oe T)(hi:T.own x=some i)(vO:∀ρ σ fl,oL Φ ρ σ (sx T mu body)=some fl->qo G A sB ot om oe T ρ σ (be body oe) fl)(e:q8 Φ ρ σ (.for_ i (tJ (oy T it)) (sx T mu body))=some fl):qo G A sB ot om oe T ρ σ (bz (.For (.Name x px) it body [] pos) oe) fl:=by
 rw[M']at e
 induction qm:yk Φ ρ σ (tJ (oy T it))using aa with
 |none=>rw[qm]at e;exact oq e
 |some vs=>rw[qm]at e;exact weS F hi qm (λv ρ σ fl hb=>vO _ _ _ hb) e
theorem wfJ(F:o_ G A Φ sB om oe T)(e:q8 Φ ρ σ (.ret (oy T x))=some fl):qo G A sB ot om oe T ρ σ (bz (.Return (some x) pos) oe) fl:=by
 rw[M5]at e
 induction hv:ev Φ σ ρ (oy T x)using aa with
 |none=>rw[hv]at e;exact oq e
 |some v =>
  rw[hv]at e;refine oB (aK.mp e) λr hr e=>?_;exact e▸weV F hv hr
theorem wfa(F:o_ G A Φ sB om oe T)(n:Nat):∀(st:Stmt),sizeOf st<n->∀ρ σ fl,q8 Φ ρ σ (AR T mu st)=some fl->qo G A sB ot om oe T ρ σ (bz st oe) fl:=by
 induction n with
 |zero=>exact λst qU=>absurd qU (iq _)
 |succ n ih =>
  have tY:∀{ux:List Stmt},sizeOf ux<n->∀ρ σ fl,oL Φ ρ σ (sx T mu ux)=some fl->qo G A sB ot om oe T ρ σ (be ux oe) fl:=λh ρ σ fl e =>
   QD F (λst hs=>ih st (bW (dJ hs) h)) e
  intro st hn ρ σ fl;have t:=wgy T mu st;generalize AR T mu st=x at t;cases t with
  |asg hi=>exact wfD F hi wfZ
  |asgT h1 h2 h3=>exact wfE F h1 h2 h3
  |unp h1 h2 hnt=>exact wfL F h1 h2 hnt
  |put hi=>exact wfI F hi
  |aug hi=>exact wfF F hi
  |app hm ho=>refine oa hm ?_;exact wfC F ho
  |rev hm ho=>refine oa hm ?_;exact wfK F ho
  |ife=>have h:=ls (Stmt.If.sizeOf_spec ..) hn;exact wfH F (tY (q2 (zr (zr h))) ρ σ fl) (tY (q3 (zr h)) ρ σ fl)
  |for_ hi=>have h:=ls (Stmt.For.sizeOf_spec ..) hn;exact wfG F hi (tY (q3 (zr (zr h))))
  |while_ =>
   have h:=ls (Stmt.While.sizeOf_spec ..) hn;exact λe=>weZ F (λρ σ fl hb=>tY (q2 (zr (zr h))) ρ σ fl hb) (by rw[M4]at e;exact e)
  |ret=>exact wfJ F
  |bad=>exact λe=>oq e
theorem sok(F:o_ G A Φ sB om oe T)(n:Nat)(st:Stmt)(h:sizeOf st<=n):∀ρ σ fl,q8 Φ ρ σ (AR T mu st)=some fl->qo G A sB ot om oe T ρ σ (bz st oe) fl:=wfa F (n+1) st (jq h)
noncomputable def rI(ps:List Str)(sc:cj):Tb :=
 { names:=sc.names,vars:=(ps++(sD sc).filter λx=>!ps.contains x).zipIdx,next:=(ps++(sD sc).filter λx=>!ps.contains x).length}
structure sy(fd:cg) (d:rM) (ps:List Str) (body:List Stmt) (mu:List Str):Prop where
 stmts:fd.body=.stmts body
 glob:fd.globals=aG
 bi:fd.builtins=bO
 clo:fd.closure=[]
 co:fd.scope.isCoroutine=false
 gen:fd.scope.isGenerator=false
 kind:fd.scope.kind=.function
 bind:∀vals:List Value,vals.length=ps.length->dS fd ⟨vals,[]⟩=pure (ps.zip vals)
 nargs:d.nargs=ps.length
 nvars:d.nvars=(rI ps fd.scope).next
 tree:d.body=sx (rI ps fd.scope) mu body
 tb:AN (rI ps fd.scope)=true
 nodup:(fd.scope.names.map (·.1)).Nodup
 psNodup:ps.Nodup
 nofree:fd.scope.names.all (λx=>x.2 != .free)=true
 psKind:ps.all (λx=>fd.scope.names.lookup x==some .local||fd.scope.names.lookup x==some .cell)=true
theorem J6{names:List (Str×cX)}(hn:names.all (λx=>x.2 != .free)=true)(h:names.lookup x=some .free):False:=by
 rw[aj]at hn;have:=hn _ (mem_of_lookup h);simp at this
theorem LF{K:Str->Option cX}:∀{ps:List Str}{vals:List Value}{ue:Str->Option Value}{x:Str},x∉ps->bindL K (ps.zip vals) ue x=ue x
 | [],_,_,_,_=>rfl
 |_::_,[],_,_,_=>rfl
 |p::ps,v::vals,ue,x,hx=>by
  rw[da];unfold bindL;rw[LF λq=>hx (aP _ q)];split
  ·exact if_neg λq=>hx (by rw[q];exact ax)
  ·rfl
theorem LC{K:Str->Option cX}:∀{ps:List Str}{vals:List Value}{ue:Str->Option Value}{x:Str},x∉ps->bindC K (ps.zip vals) ue x=ue x
 | [],_,_,_,_=>rfl
 |_::_,[],_,_,_=>rfl
 |p::ps,v::vals,ue,x,hx=>by
  rw[da];unfold bindC;rw[LC λq=>hx (aP _ q)];split
  ·rfl
  ·exact if_neg λq=>hx (by rw[q];exact ax)
theorem LD{K:Str->Option cX}:∀{ps:List Str}{vals:List Value}{ue:Str->Option Value}{x:Str}{i:Nat}{v:Value},ps.Nodup->ps[i]?=some x->vals[i]?=some v->K x=some .local->bindL K (ps.zip vals) ue x=some v
 | [],_,_,_,_,_,_,h,_,_=>by simp at h
 |_::_,[],_,_,_,_,_,_,h,_=>by simp at h
 |p::ps,u::vals,ue,x,i,v,hn,hx,hv,hk=>by
  rw[cB]at hn;refine oa da ?_;unfold bindL
  induction i using ce with
  |zero =>
   have e1:p=x:=by simpa using hx
   have e2:u=v:=by simpa using hv
   subst e1 e2;refine oa (LF hn.1) ?_;refine oa (if_pos hk) ?_;simp
  |succ i=>exact LD hn.2 (by simpa using hx) (by simpa using hv) hk
theorem LB{K:Str->Option cX}:∀{ps:List Str}{vals:List Value}{ue:Str->Option Value}{x:Str}{i:Nat}{v:Value},ps.Nodup->ps[i]?=some x->vals[i]?=some v->K x≠some .local->bindC K (ps.zip vals) ue x=some v
 | [],_,_,_,_,_,_,h,_,_=>by simp at h
 |_::_,[],_,_,_,_,_,_,h,_=>by simp at h
 |p::ps,u::vals,ue,x,i,v,hn,hx,hv,hk=>by
  rw[cB]at hn;refine oa da ?_;unfold bindC
  induction i using ce with
  |zero =>
   have e1:p=x:=by simpa using hx
   have e2:u=v:=by simpa using hv
   subst e1 e2;refine oa (LC hn.1) ?_;refine oa (if_neg hk) ?_;simp
  |succ i=>exact LB hn.2 (by simpa using hx) (by simpa using hv) hk
theorem whv{α:Type}{x:α}{i:Nat}:∀{l:List α}{k:Nat},(x,i)∈l.zipIdx k->k<=i/\l[i-k]?=some x:=by
 intro vv
 induction vv with
 |nil =>
  intro _ h;simp at h
 |cons a l ih =>
  intro k h;rw[List.zipIdx_cons]at h;rcases bh.mp h with h|h
  ·cases h;exact⟨ai _,by simp⟩
  ·refine p_ (ih h) λh1 h2=>?_;refine⟨bb h1,?_⟩;refine oa (show i-k=(i-(k+1))+1 from Ew h1) ?_;simpa using h2
theorem W_{G:GD}{s:ah}{fd:cg}{d:rM}{ps:List Str}{body:List Stmt}{a:aw}{vs:List AV}{xs:List Value}{ou:ah}{cm:Str->Option Value}(D:sy fd d ps body mu)(I:pp G s.heap)(K:o5 φ s)(F:xu G s P)(hp:∀a,P a->sY G a)(r:oA G.tok φ s.heap [] P vs xs)(oU:vs.length=ps.length)(u:Up s ou)(hm:m=bindL (cV fd s.heap.objs.size a).kindOf (ps.zip xs) λY=>none)(FI:cm=bindC (cV fd s.heap.objs.size a).kindOf (ps.zip xs) λY=>none)(x:InCallC s (cV fd s.heap.objs.size a).locals m (cV fd s.heap.objs.size a).cells cm ou):
 SR G s φ P (cV fd s.heap.objs.size a) (rI ps fd.scope) φ (vs.map some++aA ((rI ps fd.scope).next-ps.length) none) [] [] (tE P s.heap.objs.size ou.heap.objs.size) m ou:=by
 have hL:(cV fd s.heap.objs.size a).locals=s.heap.objs.size:=rfl;have FQ:∀y,(cV fd s.heap.objs.size a).kindOf y=fd.scope.names.lookup y:=λy=>rfl;have ext:qt s.heap ou.heap:=x.toInCall.keep;have kg:∀y,fd.scope.names.lookup y=some .cell->∃c,(cV fd s.heap.objs.size a).cells.lookup y=some c/\ou.heap.IsCell c (cm y)/\s.heap.objs.size<c:=λy hy=>by
  have h2:=jV fd.scope.names (s.heap.objs.size+1) [] (.inl hy);refine o6 (eR.mp h2) λc hc=>?_;exact xV c hc (x.cell y c hc) (x.above y c (mem_of_lookup hc))
 have Ya:s.heap.objs.size<ou.heap.objs.size:=by have:=x.toInCall.ns.lt;rw[hL]at this;exact this
 have hnx:ps.length<=(rI ps fd.scope).next:=by
  show _<=(ps++_).length;refine oa aq ?_;exact aV _ _
 refine⟨x.toInCall.same,λb o Y e=>ext b o e,u.size,λY Y e=>e,?_,?_,ai _,λy b h1 h2=>?_,(λb hb=>nomatch hb),cK,rfl,(λj b o hb=>by simp at hb),λb p=>p.1,I.tabs.keeps ext,λc q=>.inl (vw ext I.tabs c q)⟩
 ·refine⟨x.toInCall.ns,?_,λy i v hy hv=>?_,λy hy=>?_,(λj o ho=>by simp at ho),(λb hb=>hb.elim (λhb=>⟨F b (.inl (ae u.size hb)),λq=>bu.mpr hb q.2⟩) λhb=>⟨F b (.inr (vw ext I.tabs b hb)),λq=>bu.mpr q.1 (pZ.lt I.tabs (vw ext I.tabs b hb))⟩),λb p=>hp b p.1,(λb hb=>?_),(λb hb=>nomatch hb),K.fn,K.pos,λt z e=>ab (K.lt t z e) u.toks,ab K.one u.toks⟩
  ·refine oa aq ?_;refine oa (ac _) ?_;refine oa cf ?_;refine oa oU ?_;simp[*]
  ·have hi:i<ps.length:=by
    rcases d9 i ps.length with q|q
    ·exact q
    ·rw[ay (by refine oa (ac _) ?_;refine oa oU ?_;exact q),fk]at hv;split at hv<;>cases hv
   rw[aL (by refine oa (ac _) ?_;refine oa oU ?_;exact hi),bf]at hv;refine oB (aK.mp hv) λv' ZQ e=>?_;cases e;refine oB (r.get ZQ) λxv F4 rv=>?_;have Ax:=whv (Cf hy);have OF:ps[i]?=some y:=by
    have:=Ax.2;rw[lc,aL hi]at this;exact this
   refine oV xv (rv.mono (λY Y e=>e) (λb o p e=>⟨ext b o e,p,λq=>bu.mpr q.1 (aN e)⟩) (aB _)) ?_;rcases whf hy with q|q|q
   ·refine .inl ⟨(FQ y).trans q,?_⟩;refine oa hm ?_;exact LD D.psNodup OF F4 ((FQ y).trans q)
   ·refine s9 (kg y q) λc e1 e2 e3=>?_;refine .inr ⟨c,e1,.inl ((FQ y).trans q),?_⟩;have:cm y=some xv:=by
     refine oa FI ?_;exact LB D.psNodup OF F4 (by refine oa (FQ y) ?_;intro z;rw[show fd.scope.names.lookup y=some .cell from q]at z;cases z)
    refine rwj this ?_;exact e2
   ·exact(J6 D.nofree q).elim
  ·unfold Tb.celled at hy;rw[du]at hy;rcases hy with q|q
   ·refine s9 (kg y (eq_of_beq q)) λc e1 e2 Y=>?_;exact rf c _ e1 e2
   ·exact(J6 D.nofree (eq_of_beq q)).elim
  ·have safe:∀b,s.heap.objs.size<=b->sY G b:=λb hb=>hp b (F b (.inl hb));rcases hb with hb|hb|⟨y,hy⟩
   ·cases hb
   ·refine oa hb ?_;exact safe _ (ai _)
   ·exact safe b (bb (x.above y b (mem_of_lookup hy)))
 ·refine⟨λp=>p.2 ⟨ai _,Ya⟩,(λq=>nomatch q),λy hy=>?_⟩;refine s9 (kg y hy) λc e1 e2 e3=>?_;exact xV c e1 (λp=>p.2 ⟨bb e3,e2.lt⟩) (λq=>nomatch q)
 ·refine s9 (kg y h1) λc e1 e2 e3=>?_;rw[h2]at e1;cases e1;exact bb e3
theorem Va(D:sy fd d ps body mu)(FF:(cV fd L a).cells.Pairwise λx y=>x.2≠y.2):qc (cV fd L a) (rI ps fd.scope) where
 kind:=D.kind
 loc:=λx hx=>hx
 cel:=λx hx=>hx
 fre:=λx hx=>(J6 D.nofree hx).elim
 inj:=λx y c hx hy=>name_of_addr FF (mem_of_lookup hx) (mem_of_lookup hy)
 glob:=λx hx=>hx
 g:=D.glob
 b:=D.bi
theorem waX(D:sy fd d ps body mu)(y:Str×Value)(hy:y∈ps.zip xs):fd.scope.names.lookup y.1=some .local\/fd.scope.names.lookup y.1=some .cell/\((dK (L+1) fd.scope.names []).lookup y.1).isSome=true :=
 (Bool.or_eq_true_iff.mp (aj.mp D.psKind y.1 (List.of_mem_zip hy).1)).elim (λq=>.inl (eq_of_beq q)) λq=>.inr ⟨eq_of_beq q,jV fd.scope.names _ [] (.inl (eq_of_beq q))⟩
theorem W'(D:sy fd d ps body mu)(I:pp G s.heap)(hP:∀a,s.heap.objs.size<=a->P a)(hO:tL G A Φ)(hE:qc (cV fd L a) (rI ps fd.scope)):o_ G A Φ s P (cV fd L a) (rI ps fd.scope) where
 hO:=hO
 hE:=hE
 hT:=Ef D.tb
 IB:=I
 hP₀:=hP
 hI:=by
  unfold mY;refine oa (show(cV fd L a).scope.kind=.function from D.kind) ?_;rfl
 hcl:=λy c hc=>(Hv (mem_of_lookup hc)).elim (λhm=>nomatch hm) λhm=>by
  show(fd.scope.names.lookup y==_||_)=true;refine oa (xZ D.nodup hm) ?_;rfl
noncomputable def zK(G:GD)(s:ah)(φ:Gh)(P:aw->Prop)(r:AV)(fl:im)(s':ah):Prop:=∃x,fl=.ret x/\∃ow,GX G s φ s' ow/\VR G.tok ow s'.heap [] P r x
theorem Dc(D:sy fd d ps body mu)(hk:G.fns k=some (x,fd))(DA:A.depth<fR)(hO:∀oe,tL G (A.deeper oe) Φ)(hl:vs.length=ps.length)(yw:∀L fa s φ P P' m ou,o_ G (A.deeper (cV fd L fa)) Φ s P (cV fd L fa) (rI ps fd.scope)->SR G s φ P (cV fd L fa) (rI ps fd.scope) φ (vs.map some++aA ((rI ps fd.scope).next-ps.length) none) [] [] P' m ou ->
 ao (ar oj wd) (A.deeper (cV fd L fa)) (be body (cV fd L fa)) (zK G s φ P r) oE ou) (ha:G.mg x=some (.ref a)):xq G A (.ref a) vs r:=by
 intro s φ P xs I K F hp rv;refine Ae (I.fns k x fd hk) λa' o h1 h2 h3 h4=>?_;have e:=gv (ag (h1.symm.trans ha));subst e;refine wpAny_call (mF DA h2 h3 D.co D.gen D.stmts h4 ?_);refine oa (D.bind xs (rv.length.symm.trans hl)) ?_;refine oa D.clo ?_;refine aQ (sG (wpAny_newFunctionEnv_cells D.kind (waX D) λoe he ou GU u=>?_));replace he:oe=cV fd s.heap.objs.size a':=he;subst he;refine⟨I.lim.keeps GU.toInCall.keep,codeAny_func (up (yw _ _ s φ P _ _ ou (W' D I F.f (hO _) (Va D GU.apart)) (W_ (mu:=mu) D I K F hp rv hl u rfl rfl GU)) λf oJ qI=>?_)⟩;obtain⟨y,rfl,o4,XZ,pT⟩:=qI;exact⟨o4,XZ,pT⟩
theorem Xa(D:sy fd d ps body mu)(hk:G.fns k=some (x,fd))(DA:A.depth<fR)(hO:∀oe,tL G (A.deeper oe) Φ)(e:AK Φ d vs=some r)(ha:G.mg x=some (.ref a)):xq G A (.ref a) vs r:=by
 refine qd e λoU e=>?_;have Y4:vs.length=ps.length:=oU.trans D.nargs;refine Dc D hk DA hO Y4 (λL fa s φ P P' m ou FC S=>?_) ha;have td:d.nvars-d.nargs=(rI ps fd.scope).next-ps.length:=by rw[D.nvars,D.nargs]
 rw[td,D.tree]at e
 induction hv:oL Φ (vs.map some++aA ((rI ps fd.scope).next-ps.length) none) [] (sx (rI ps fd.scope) mu body)using aa with
 |none=>rw[hv]at e;exact oq e
 |some fl =>
  rw[hv]at e
  induction fl using Fl.casesOn with
  |next=>exact oq e
  |ret v=>exact oN (Q:=λr=>ao _ _ _ (zK G s φ P r) _ _) e (QD FC (mu:=mu) (λst Y ρ σ fl e=>sok FC _ st (ai _) ρ σ fl e) hv ou φ [] _ _ S)
structure r0(A:br) (n:Nat):Prop where
 handled:A.handled=none
 depth:A.depth+n<fR
 units:A.units+3*n<k0
theorem r0.deeper(D:r0 A (n+1))(oe:Env):r0 (A.deeper oe) n where
 handled:=D.handled
 depth:=by
  have:=D.depth;show A.depth+1+n<fR;exact zas this
 units:=by
  have:=D.units;show A.units+3+3*n<k0
  lia
theorem r0.le(D:r0 A n)(h:k<=n):r0 A k:=⟨D.handled,aM (gu h _) D.depth,by have:=D.units;lia⟩
theorem Tv(hG:rO G)(hN:ui G)(c:Nat)(IX:∀k d,fns k=some d->∃x fd ps body mu,G.fns k=some (x,fd)/\sy fd d ps body mu)(Zl:∀A,r0 A c->∀k vs r,fns k=none->tW k vs=some r->∃x fd,G.fns k=some (x,fd)/\∀a,G.mg x=some (.ref a)->xq G A (.ref a) vs r):
 ∀(n:Nat) (A:br),r0 A (n+c)->EB G A (zX tW fns n):=by
 intro n
 induction n with
 |zero=>exact λA D k vs r e=>oq e
 |succ n ih =>
  intro A D k vs r e;replace e:(match fns k with|some d=>AK (zX tW fns n) d vs|none=>tW k vs)=some r:=e
  induction hd:fns k using aa with
  |none=>rw[hd]at e;exact Zl A (D.le (em ..)) k vs r hd e
  |some d =>
   rw[hd]at e;refine Wi (IX k d hd) λx fd ps body mu h1 h2=>?_;refine rf x fd h1 (λa ha=>Xa h2 h1 (by have:=D.depth;exact Ci this) (λoe=>?_) e ha);have D':r0 (A.deeper oe) (n+c):=r0.deeper (by refine oa (show n+c+1=n+1+c from i6 (fj n 1 c)) ?_;exact D) oe;exact⟨D'.handled,by have:=D'.units;exact Ci this,hG,hN,ih _ D'⟩
noncomputable def yb(G:GD)(σ:oH)(β:List aw)(b:aw):Prop:=(∀j:Nat,β[j]?=some b->σ[j]?=some .gone)/\¬G.X b
structure A2(T:Tb) (sc:cj):Prop where
 names:T.names=sc.names
 nocell:∀x∈sc.names,x.2≠.cell
 kind:sc.kind=.function
 tb:wc T
theorem Gp{sc:cj}(h:∀x∈sc.names,x.2≠.cell)(e:sc.names.lookup x=some .cell):False:=h _ (mem_of_lookup e) rfl
noncomputable def vV(sc:cj)(L:aw)(qv:List (Str×aw))(qual:Str)(f:aw)(code:Value):Env:=newEnv sc L aG qv qual (some f) code none bO
theorem Vc{sc:cj}{L f:aw}{qv:List (Str×aw)}{qual:Str}{code:Value}(I:A2 T sc)(YW:∀x y c,qv.lookup x=some c->qv.lookup y=some c->x=y):qc (vV sc L qv qual f code) T where
 kind:=I.kind
 loc:=λx hx=>by rw[I.names]at hx;exact hx
 cel:=λx hx=>by rw[I.names]at hx;exact hx
 fre:=λx hx=>.inr (by rw[I.names]at hx;exact hx)
 inj:=YW
 glob:=λx hx=>by rw[I.names]at hx;exact hx
 g:=rfl
 b:=rfl
theorem SR.calmCell(S:SR G sB ot om oe T φ ρ σ β P m s)(hc:s.heap.IsCell c v):yb G σ β c:=by
 refine⟨λj hj=>?_,S.tabs.1.notX_cell hc⟩;have hl:j<σ.length:=by refine rwj S.lenB ?_;exact(aS.mp hj).1
 induction ho:σ[j]? using aa with
 |none=>rw[au hl]at ho;cases ho
 |some o =>
  by_cases hg:o=.gone
  ·refine oa hg ?_;rfl
  ·exfalso;refine oB (S.er.objs j o ho hg) λa h1 h2=>?_;rw[hj]at h1;cases h1;refine oB hc λob w0 hd=>?_;cases h2 with
   |list e _ =>
    refine oB (PB e) λP8 e1 e2=>?_;rw[w0]at e1;cases e1;exact e2 v hd
   |dict e _ _ =>
    refine oB (Mj e) λP8 e1 e2=>?_;rw[w0]at e1;cases e1;exact e2 v hd
theorem SR.enter{G:GD}{s:ah}{h':bU}{T':Tb}{sc:cj}{oC:oI}{qv:List (Str×aw)}{qual:Str}{code:Value}{f:aw}{binds:List (Str×Value)}{t:kP}(S:SR G sB ot om oe T φ ρ σ β P m s)(I:A2 T' sc)(vh:h'.Ns s.heap.objs.size (λx=>binds.reverse.lookup x))(zh:bF s.heap.objs.size (s.heap.push {cls:=.type "frame",data:=.dict #[]}) h') (ht:s.toks<=t) (oU:oC.length=T'.next) (hn:∀x i v,T'.var x=some i->oC[i]?=some (some v)->∃v',VR G.tok φ s.heap β P v v'/\((sc.names.lookup x=some .local/\binds.reverse.lookup x=some v')\/(sc.names.lookup x=some .free/\∃c,qv.lookup x=some c/\s.heap.IsCell c (some v')))) (IU:∀x,sc.names.lookup x=some .free->∃c v,qv.lookup x=some c/\s.heap.IsCell c v) (Jl:∀x c,qv.lookup x=some c->sY G c):
 SR G sB ot om (vV sc s.heap.objs.size qv qual f code) T' φ oC σ β (tE P s.heap.objs.size h'.objs.size) (λx=>binds.reverse.lookup x) {s with heap:=h',toks:=t}:=by
 have R:=S.er;have hz:h'.objs.size=s.heap.objs.size+1:=by refine oa zh.1 ?_;refine oa (bg _ _) ?_;rfl
 have ext:qt s.heap h':=λb o e=>zh.extBut b o (cp (aN e)) (av _ e);have hk:∀a o,P a->s.heap.get? a=some o->h'.get? a=some o/\tE P s.heap.objs.size h'.objs.size a:=λa o p e=>⟨ext a o e,p,λq=>bu.mpr q.1 (aN e)⟩
 have safe:∀b,s.heap.objs.size<=b->sY G b:=λb hb=>R.psafe b (R.fresh b hb);have hL:s.heap.objs.size<h'.objs.size:=by refine oa hz ?_;exact bT _
 refine sb S.base λhh tt e=>?_;refine⟨⟨h',t,by refine oa e ?_;rfl⟩,λb o hb e=>ext b o (S.old b o hb e),ae S.size (bb hL),S.sub,?_,?_,S.size,λx b h1 Y=>?_,S.newB,S.nodup,S.lenB,λj a o h1 h2 h3 p=>S.live j a o h1 h2 h3 p.1,λa p=>S.psub a p.1,S.tabs.1.keeps ext,λc q=>S.tabs.2 c (vw ext S.tabs.1 c q)⟩
 ·refine⟨vh,oU,λx i v hx hv=>?_,λx hx=>?_,λj o hj ho=>?_,λb hb=>?_,λb p=>R.psafe b p.1,λb hb=>?_,λb hb=>bW (R.blt b hb) hL,R.tk.fn,R.tk.pos,λt' x e=>ab (R.tk.lt t' x e) ht,ab R.tk.one ht⟩
  ·refine oB (hn x i v hx hv) λv' r q=>?_;refine oV v' (r.mono (λY Y e=>e) hk (aB _)) ?_;rcases q with⟨q1,q2⟩|⟨q1,c,q2,q3⟩
   ·exact .inl ⟨q1,q2⟩
   ·exact .inr ⟨c,q2,.inr q1,q3.keeps ext⟩
  ·unfold Tb.celled at hx;rw[I.names,du]at hx;rcases hx with hx|hx
   ·exact(Gp I.nocell (eq_of_beq hx)).elim
   ·refine pK (IU x (eq_of_beq hx)) λc v h1 h2=>?_;exact rf c v h1 (h2.keeps ext)
  ·refine oB (R.objs j o hj ho) λa h1 h2=>?_;exact oV a h1 (h2.mono (λY Y e=>e) hk (aB _) λo e=>ext a o e)
  ·rcases hb with hb|hb
   ·exact⟨R.fresh b (ae (bb hL) hb),λq=>bu.mpr hb q.2⟩
   ·have:=vw ext S.tabs.1 b hb;exact⟨R.freshX b (.inr this),λq=>bu.mpr q.1 (pZ.lt S.tabs.1 this)⟩
  ·rcases hb with hb|hb|⟨x,hx⟩
   ·exact R.bsafe b (.inl hb)
   ·refine oa hb ?_;exact safe _ (ai _)
   ·exact Jl x b hx
 ·refine⟨λp=>p.2 ⟨ai _,hL⟩,λq=>aJ _ (R.blt _ q),λx hx=>?_⟩;rw[I.names]at hx;exact(Gp I.nocell hx).elim
 ·rw[I.names]at h1;exact(Gp I.nocell h1).elim
theorem SR.back{s:ah}{sc:cj}{T':Tb}{qv:List (Str×aw)}{qual:Str}{code:Value}{f:aw}{rm:Str->Option Value}{ou oJ:ah}{o4:Gh}{AY:oI}{qz:aw->Prop}(S:SR G sB ot om oe T φ ρ σ β P m s)(I:A2 T' sc)(FL:qt s.heap ou.heap)(pi:s.heap.objs.size<=ou.heap.objs.size)(zb:∃h t,ou={s with heap:=h,toks:=t})(pA:SR G sB ot om (vV sc s.heap.objs.size qv qual f code) T' o4 AY ox oO qz rm oJ)(C:pB G (vV sc s.heap.objs.size qv qual f code) T' ou φ σ β (tE P s.heap.objs.size ou.heap.objs.size) oJ o4 ox oO qz):
 SR G sB ot om oe T o4 ρ ox oO qz m oJ/\pB G oe T s φ σ β P oJ o4 ox oO qz/\∀b o,yb G σ β b->s.heap.get? b=some o->oJ.heap.get? b=some o:=by
 have R:=S.er;have qi:=pA.er;have still:∀b,b<s.heap.objs.size->yb G σ β b->A6 G (vV sc s.heap.objs.size qv qual f code) T' σ β b:=λb hb hc=>⟨λq=>by
  rcases q with q|⟨y,h1,_⟩|q
  ·exact aJ s.heap.objs.size (by have q':b=s.heap.objs.size:=q;rw[q']at hb;exact hb)
  ·rw[I.names]at h1;exact Gp I.nocell h1
  ·exact hc.2 q,hc.1⟩
 have keep:∀b o,yb G σ β b->s.heap.get? b=some o->oJ.heap.get? b=some o:=λb o hc e=>C.keep b o (still b (aN e) hc) (FL b o e);have Tw:∀b,b∉β->¬G.X b->yb G σ β b:=λb h1 h2=>⟨λj hj=>absurd (aY hj) h1,h2⟩
 have Tx:∀a,P a->yb G σ β a:=λa p=>⟨(S.stillP p).2,(R.psafe a p).2⟩
 have hk:∀a o,P a->s.heap.get? a=some o->oJ.heap.get? a=some o/\qz a:=λa o p e=>⟨keep a o (Tx a p) e,C.pm a ⟨p,λq=>bu.mpr q.1 (aN e)⟩ (ab (aN e) pi)⟩
 have P6:∀a,a<s.heap.objs.size->a∉β->¬P a->¬qz a:=λa hl hb hp p=>(C.pn a (ab hl pi) p).elim (λq=>hp q.1) hb;have P5:∀a,a<s.heap.objs.size->a∉β->a∉oO:=λa hl hb q=>hb (C.bn a q (ab hl pi));refine qJ ({pA with er:=?_,fr:=?_,newL:=S.newL,newC:=S.newC}) ?_ keep
 ·have Y3:=R.bsafe _ (.inr (.inl rfl));refine⟨R.ns.at' λo e=>keep _ o (Tw _ S.fr.bloc Y3.2) e,R.len,λx i v hx hv=>?_,λx hx=>?_,qi.objs,qi.freshX,qi.psafe,λa ha=>?_,qi.blt,qi.tk⟩
  ·refine oB (R.names x i v hx hv) λv' r q=>?_;refine oV v' (r.mono C.sub hk C.pre) ?_;rcases q with q|⟨c,q1,q2,o,ho,hd⟩
   ·exact .inl q
   ·refine .inr ⟨c,q1,q2,o,keep c o (S.calmCell ⟨o,ho,hd⟩) ho,hd⟩
  ·obtain⟨c,rq,h1,o,ho,hd⟩:=R.celled x hx;refine⟨c,rq,h1,o,keep c o (S.calmCell ⟨o,ho,hd⟩) ho,hd⟩
  ·rcases ha with ha|ha
   ·exact qi.bsafe a (.inl ha)
   ·exact R.bsafe a (.inr ha)
 ·refine⟨P6 _ R.ns.lt S.fr.bloc S.fr.ploc,P5 _ R.ns.lt S.fr.bloc,λx hx=>?_⟩;refine s9 (S.fr.own x hx) λc e1 e2 e3=>?_;refine pK (R.celled x (by unfold Tb.celled;refine oa hx ?_;rfl)) λc' rq e4 e5=>?_;rw[e1]at e4;cases e4;exact xV c e1 (P6 c e5.lt e3 e2) (P5 c e5.lt e3)
 ·refine⟨λb o hb e=>keep b o ⟨hb.2,λq=>hb.1 (.inr (.inr q))⟩ e,λb hl hb=>⟨hb.1,(C.still b (ab hl pi) (still b hl ⟨hb.2,λq=>hb.1 (.inr (.inr q))⟩)).2⟩,λa p hl=>C.pm a ⟨p,λq=>bu.mpr q.1 hl⟩ (ab hl pi),C.sub,C.pre,ae pi C.size,λa hl p=>(C.pn a (ab hl pi) p).imp (·.1) id,λa hb hl=>C.bn a hb (ab hl pi)⟩
noncomputable def Aj:im->Value
 | .ret v=>v
 |_=>.none
theorem wcv{A:br}{oC:oI}{G:GD}{s sB:ah}{T':Tb}{sc:cj}{qv:List (Str×aw)}{f:aw}{o:nk}{fd:cg}{body:List Stmt}{xs:List Value}{binds:List (Str×Value)}{K:Value->Gh->List aw->(aw->Prop)->ah->Prop}(IB:pp G sB.heap)(S:SR G sB ot om oe T φ ρ σ β P m s)(I:A2 T' sc)(ho:s.heap.get? f=some o)(hd:o.data=.func fd)(Dr:s.heap.CodeRec fd.code fd.qualname)(vO:fd.body=.stmts body)(tA:fd.scope=sc)(YR:fd.globals=aG)(IR:fd.builtins=bO)(hcl:fd.closure=qv)(IV:fd.scope.isCoroutine=false)(wt:fd.scope.isGenerator=false)(DA:A.depth<fR)(vM:dS fd ⟨xs,[]⟩=pure binds)(IT:∀x∈binds,sc.names.lookup x.1=some .local)(oU:oC.length=T'.next)(hn:∀x i v,T'.var x=some i->oC[i]?=some (some v)->∃v',VR G.tok φ s.heap β P v v'/\((sc.names.lookup x=some .local/\binds.reverse.lookup x=some v')\/(sc.names.lookup x=some .free/\∃c,qv.lookup x=some c/\s.heap.IsCell c (some v'))))(IU:∀x,sc.names.lookup x=some .free->∃c v,qv.lookup x=some c/\s.heap.IsCell c v)(Jl:∀x c,qv.lookup x=some c->sY G c)(yw:∀h' t rh,qt s.heap h'->SR G sB ot om (vV sc s.heap.objs.size qv (fd.qualname ++ ".<locals>.") f fd.code) T' φ oC σ β (tE P s.heap.objs.size h'.objs.size) rh {s with heap:=h',toks:=t} ->
 ao (ar oj wd) (A.deeper (vV sc s.heap.objs.size qv (fd.qualname ++ ".<locals>.") f fd.code)) (be body (vV sc s.heap.objs.size qv (fd.qualname ++ ".<locals>.") f fd.code))
  (λfl oJ=>∃o4 AY rt qz rm,SR G sB ot om (vV sc s.heap.objs.size qv (fd.qualname ++ ".<locals>.") f fd.code) T' o4 AY ox rt qz rm oJ /\
   pB G (vV sc s.heap.objs.size qv (fd.qualname ++ ".<locals>.") f fd.code) T' {s with heap:=h',toks:=t} φ σ β (tE P s.heap.objs.size h'.objs.size) oJ o4 ox rt qz/\K (Aj fl) o4 rt qz oJ) oE {s with heap:=h',toks:=t}):
 ao (ar oj wd) A (call (.ref f) xs) (λv oJ=>∃o4 rt qz,SR G sB ot om oe T o4 ρ ox rt qz m oJ/\pB G oe T s φ σ β P oJ o4 ox rt qz/\(∀b o,yb G σ β b->s.heap.get? b=some o->oJ.heap.get? b=some o)/\K v o4 rt qz oJ) oE s:=by
 subst tA hcl;refine wpAny_call (mF DA ho hd IV wt vO Dr ?_);refine oa vM ?_;refine aQ (sG (wpAny_newFunctionEnv I.nocell IT (λh' vh zh u=>?_) I.kind));have ext:qt s.heap h':=λb o e=>zh.extBut b o (cp (aN e)) (av _ e);refine⟨(S.inv IB).lim.keeps ext,codeAny_func ?_⟩;refine oa YR ?_;refine oa IR ?_;have oT:=S.enter (f:=f) (qual:=fd.qualname ++ ".<locals>.") (code:=fd.code) (qv:=fd.closure) (t:=s.toks+binds.length) I vh zh (aV _ _) oU hn IU Jl;refine up (yw h' _ _ ext oT) λfl oJ qq=>C6 qq λo4 AY rt qz rm pA C k=>?_;refine tR (S.back I ext u.size ⟨h',_,rfl⟩ pA C) λsC rA keep=>?_;have e:(match fl with | .ret v=>v|_=>Value.none)=Aj fl:=by cases fl<;>rfl
 show∃o4 rt qz,_;exact F_ o4 rt qz sC rA keep k
theorem SR.cellSet(S:SR G sB ot om oe T φ ρ σ β P m s)(hE:qc oe T)(hk:T.names.lookup name=some .cell)(hc:oe.cells.lookup name=some c)(hx:∀i v,T.var name=some i->ρ[i]?=some (some v)->False)(h0:s.heap.IsCell c rq)(hs:bF c s.heap h')(h1:h'.IsCell c AW):SR G sB ot om oe T φ ρ σ β P m {s with heap:=h'}:=by
 have R:=S.er;refine s9 (S.fr.own name hk) λc' e1 hP DF=>?_;rw[hc]at e1;cases e1;have hX:¬G.X c:=(R.bsafe c (.inr (.inr ⟨name,hc⟩))).2;have TT:=S.tabs.1.but (λb o hb e=>hs.extBut b o hb e) hX λq=>hP (R.freshX c (.inr q));have xP:∀a o,P a->s.heap.get? a=some o->h'.get? a=some o/\P a:=λa o p e=>⟨hs.extBut a o (λq=>hP (q▸p)) e,p⟩
 have hz:h'.objs.size=s.heap.objs.size:=hs.1;refine sb S.base λhh tt e=>?_;refine{ S with base:=wz h' s.toks (by refine oa e ?_;rfl),old:=λb o hb e=>hs.extBut b o (Dg (S.newC name c hk hc) e) (S.old b o hb e),size:=ae S.size (bd hz.symm),er:=?_,tabs:=⟨TT.1,λc q=>S.tabs.2 c (TT.2 c q)⟩};refine⟨R.ns.sameBut hs (CR R.ns h0),R.len,λy j u hy hj=>?_,λy hy=>?_,λj o hj ho=>?_,λb hb=>R.freshX b (hb.imp (λhb=>by refine rwj hz ?_;exact hb) (TT.2 b)),R.psafe,R.bsafe,λb hb=>by show b<h'.objs.size;refine oa hz ?_;exact R.blt b hb,R.tk.fn,R.tk.pos,R.tk.lt,R.tk.one⟩
 ·refine oB (R.names y j u hy hj) λv' r q=>?_;refine oV v' (r.mono (λY Y e=>e) xP (aB _)) ?_;rcases q with q|⟨uH,q1,q2,q3⟩
  ·exact .inl q
  ·refine .inr ⟨uH,q1,q2,q3.sameBut hs λz=>?_⟩;subst z;have:=hE.inj y name uH q1 hc;subst this;exact hx j u hy hj
 ·refine pK (R.celled y hy) λuH v q1 q2=>?_;by_cases z:uH=c
  ·subst z;exact rf uH AW q1 h1
  ·exact rf uH v q1 (q2.sameBut hs z)
 ·refine oB (R.objs j o hj ho) λa q1 q2=>?_;exact oV a q1 (q2.mono (λY Y e=>e) xP (aB _) λo e=>hs.extBut a o (λz=>DF (z▸aY q1)) e)
theorem Uy(IB:pp G sB.heap)(S:SR G sB ot om oe T φ ρ σ β P m s)(hE:qc oe T)(xa:t∈G.tabs)(hu:∀t'∈G.tabs,t'.2.1=t.2.1->t'=t)(zc:oe.code=.ref t.1)(w_:t.2.2.1=pos)(hq:gW oe name name=t.2.2.2)(xN:params.defaults=[])(I4:params.kw_defaults=[])(ha:k_ params none oe=[])(hcl:fD sc oe=pure qv)(hk:T.names.lookup name=some .cell)(hc:oe.cells.lookup name=some c)(hx:∀i v,T.var name=some i->ρ[i]?=some (some v)->False)(hQ:∀(f:aw) (s':ah) (ql pR pm:Value) (c':aw),SR G sB ot om oe T φ ρ σ β P m s'->s.heap.objs.size<=f->P f->s'.heap.get? f=some (md name t.2.2.2 params body sc qv pR pm c' ql)->s'.heap.CodeRec (.ref c') t.2.2.2->s'.heap.IsCell c (some (.ref f))->Q .next s'):
 ao (ar oj wd) A (bz (.FunctionDef name params body [] none [] sc none name pos) oe) Q E s:=by
 have I:=S.inv IB;refine nestDef_K xN I4 ha ?_;refine oa hq ?_;refine Bv I.bmain λbm ob b1 b2 b3 b4 b5 b6=>?_;have Yl:bm≠aG:=λq=>by
  refine wW I.g λo es ep e hd Y=>?_;rw[q,e]at b3;cases b3;rw[hd]at b6;cases b6
 have FE:G.X t.2.1:=⟨t,xa,rfl⟩
 have I1:aG≠t.2.1:=λq=>I.tabs.notX_ns I.g (q▸FE);have Ym:bm≠t.2.1:=λq=>I.tabs.notX_data b3 (λvs z=>by rw[b6]at z;cases z) (q▸FE);have hB:s.heap.BuiltinsAt G.mg t.2.1:=⟨bm,ob,b1,b2,Yl,Ym,b3,b4,b5,b6⟩
 have fin:∀(o7:bU) (tk:kP) (ql pR:Value) (c':aw),GX G s φ {s with heap:=o7.push (md name t.2.2.2 params body sc qv pR ((G.mg "__name__").getD .none) c' ql),toks:=tk} φ->s.heap.objs.size<=o7.objs.size->o7.CodeRec (.ref c') t.2.2.2 ->
  ao (ar oj wd) A (ge oe name (.ref o7.objs.size)) (λY qV=>Q .next qV) E {s with heap:=o7.push (md name t.2.2.2 params body sc qv pR ((G.mg "__name__").getD .none) c' ql),toks:=tk}:=λo7 tk ql pR c' k pi xQ=>by
  have oT:=S.go k;refine pK (oT.er.celled name (by unfold Tb.celled;refine oa hk ?_;rfl)) λuH rq e1 e2=>?_;rw[hc]at e1;cases e1;refine mQ hE.kind (hE.cel name hk) hc e2 λh' uu sq=>?_;have YH:o7.objs.size≠c:=λq=>by
   refine oB e2 λo ho hd=>?_;have:=bx (o:=md name t.2.2.2 params body sc qv pR ((G.mg "__name__").getD .none) c' ql) o7 rfl;rw[q]at this;rw[show({s with heap:=o7.push (md name t.2.2.2 params body sc qv pR ((G.mg "__name__").getD .none) c' ql),toks:=tk}:ah).heap.get? c=_ from this]at ho;cases ho;cases hd
  have zc:h'.CodeRec (.ref c') t.2.2.2:=by
   refine Bw xQ λL7 oc vs tt e3 e4 e5 e6=>?_;cases e3;refine⟨c',oc,vs,tt,rfl,sq.extBut c' oc (λq=>?_) (av _ e4),e5,e6⟩;refine oB e2 λo ho hd=>?_;rw[<-q]at ho;rw[show({s with heap:=o7.push (md name t.2.2.2 params body sc qv pR ((G.mg "__name__").getD .none) c' ql),toks:=tk}:ah).heap.get? c'=_ from av _ e4]at ho;cases ho;rw[e5]at hd;cases hd
  have pA:=oT.cellSet hE hk hc hx e2 sq uu;exact hQ _ _ ql pR _ c' pA pi (S.er.fresh _ pi) (sq.extBut _ _ YH (bx o7 rfl)) zc uu
 rcases I.tabs t xa with hP|⟨uH,hP,Dr⟩
 ·refine sG (makeFunction_K (mg:=G.mg) (P:=t.2.1) hcl hE.g I.g zc (I.heads t xa) hP trivial rfl I1 hB λc' ql pR o7 tk s4 yr o9 xQ Yd u=>?_);refine fin o7 tk ql pR c' ?_ ?_ xQ
  ·have pi:s.heap.objs.size<=o7.objs.size:=ae yr (bb o9);have NT:o7.get? t.2.1=some (BD t c'):=by
    subst w_;simpa using Yd
   refine⟨⟨⟨_,_,rfl,λb o hb e=>av _ (s4 b o (λq=>hb (q▸FE)) e)⟩,u.size⟩,λY Y e=>e,⟨S.er.tk.fn,S.er.tk.pos,λt' x e=>ab (S.er.tk.lt t' x e) u.toks,ab S.er.tk.one u.toks⟩,λY=>⟨λt' sT=>?_,λd ⟨t',sT,e⟩=>?_⟩⟩
   ·by_cases q:t'.2.1=t.2.1
    ·have:=hu t' sT q;subst this;exact .inr ⟨c',av _ NT,xQ.push _⟩
    ·rcases I.tabs t' sT with z|⟨d,z,d',o,vs,tt,z1,z2,z3⟩
     ·exact .inl (av _ (s4 _ _ q z))
     ·cases z1;have q9:d≠t.2.1:=λr=>I.tabs.notX_code (q:=t'.2.2.2) ⟨d,o,vs,tt,rfl,z2,z3⟩ (r▸FE);exact .inr ⟨d,av _ (s4 _ _ q z),d,o,vs,tt,rfl,av _ (s4 _ _ q9 z2),z3⟩
   ·by_cases q:t'.2.1=t.2.1
    ·have:=hu t' sT q;subst this;have e1:some (BD t' c')=some (BD t' d):=(av _ NT).symm.trans e;have:c'=d:=by
      have:=congrArg (λo:Option nk=>o.map (·.data)) e1;simpa using this
     subst this;exact .inr yr
    ·refine .inl ⟨t',sT,?_⟩;rcases I.tabs t' sT with z|⟨d',z,_⟩
     ·have:=(av _ (s4 _ _ q z)).symm.trans e;refine oa z ?_;refine rwj this ?_;rfl
     ·have:=(av _ (s4 _ _ q z)).symm.trans e;refine oa z ?_;refine rwj this ?_;rfl
  ·exact ae yr (bb o9)
 ·refine sG (makeFunction_hit (mg:=G.mg) (P:=t.2.1) (cv:=.ref uH) hcl hE.g I.g zc (I.heads t xa) hP (by simp[TriplesOk,gV]) ?_ hB λql pR o7 tk s4 pi u=>?_)
  ·subst w_;simp[n7,gV]
  ·refine fin o7 tk ql pR uH (GX.same S.er.tk ⟨⟨_,_,rfl,λb o e=>av _ (s4 b o e)⟩,u.size⟩ u.toks) pi (Dr.keeps s4)
noncomputable def qL(n:Int)(ds:List Int):Int:=ds.foldr (λd acc=>d+acc*2^n.toNat) 0
theorem Ue(n:Int):∀(as bs:List Int),qL n (as++bs)=qL n as+qL n bs*2^(n.toNat*as.length):=by
 intro vv
 induction vv with
 |nil =>
  intro bs;simp[qL]
 |cons a as ih =>
  intro bs;have sr:=ih bs;unfold qL at sr ⊢;rw[fO,na,na,sr,aF,Int.add_mul,nV,Int.mul_assoc,<-Int.pow_add,gy]
theorem Uf(hn:n.toNat<=64):∀(ds:List Int),(∀d∈ds,d.natAbs<2^64)->(qL n ds).natAbs<2^(65*(ds.length+1)):=by
 intro vv
 induction vv with
 |nil =>
  intro _;show(0:Int).natAbs<_;exact ck _
 |cons d ds ih =>
  intro h;have sr:=ih λx hx=>h x (aP _ hx);have h1:=h d ax;have e:qL n (d::ds)=d+qL n ds*2^n.toNat:=rfl;rw[e];have h2:(qL n ds*2^n.toNat).natAbs=(qL n ds).natAbs*2^n.toNat:=by
   rw[Int.natAbs_mul,Int.natAbs_pow];rfl
  have h3:(2:Nat)^n.toNat<=2^64:=aD (by decide) hn;have h4:(qL n ds).natAbs*2^n.toNat<=2^(65*(ds.length+1))*2^64:=di (bb sr) h3;have h5:(2:Nat)^(65*((d::ds).length+1))=2^(65*(ds.length+1))*2^64+2^(65*(ds.length+1))*2^64:=by
   rw[aF,show 65*(ds.length+1+1)=65*(ds.length+1)+65 from rfl,gS,show(2:Nat)^65=2^64+2^64 by decide,jJ]
  have h6:(2:Nat)^64<=2^(65*(ds.length+1))*2^64:=Nat.le_mul_of_pos_left _ (ck _);have:=Int.natAbs_add_le d (qL n ds*2^n.toNat);rw[h2]at this;rw[h5];exact aM this (Nat.add_lt_add_of_lt_of_le (ab h1 h6) h4)
theorem ol(h:ρ[i]?=some (some v)):ev Φ σ ρ (.var i)=some v:=by rw[MS,h]
theorem pX:ev Φ σ ρ (.c (.int i))=some (.int i):=rfl
theorem qS(h1:ev Φ σ ρ a=some x)(h2:ev Φ σ ρ b=some y)(h:wO σ op x y=some c):ev Φ σ ρ (.cmp op a b)=some (.bool c):=by
 rewrite [MU];refine oa h1 ?_;dsimp only;refine oa h2 ?_;simp only[h];rfl
theorem qp(h1:ev Φ σ ρ a=some x)(h2:ev Φ σ ρ b=some y)(h:rP σ op x y=some z):ev Φ σ ρ (.bin op a b)=some z:=by
 rewrite [MT];refine oa h1 ?_;dsimp only;refine oa h2 ?_;exact h
theorem q6(h1:ev Φ σ ρ a=some x):qj Φ σ ρ (.cons a .nil)=some [x]:=by
 rw[y1,h1];rfl
theorem rW(h1:ev Φ σ ρ a=some x)(h2:ev Φ σ ρ b=some y):qj Φ σ ρ (.cons a (.cons b .nil))=some [x,y]:=by
 rw[y1,h1];dsimp only;rw[q6 h2]
theorem uo(h1:ev Φ σ ρ a=some x)(h2:ev Φ σ ρ b=some y)(h3:ev Φ σ ρ c=some z):qj Φ σ ρ (.cons a (.cons b (.cons c .nil)))=some [x,y,z]:=by
 rw[y1,h1];dsimp only;rw[rW h2 h3]
theorem yY(h1:ev Φ σ ρ a=some x)(h2:ev Φ σ ρ i=some y)(h:zj σ x y=some z):ev Φ σ ρ (.idx a i)=some z:=by
 rewrite [MR];refine oa h1 ?_;dsimp only;refine oa h2 ?_;exact h
noncomputable def L8:List (Str×cX):=[("L",.local),("R",.local),("mid",.local),("shift",.local),("digits",.free),("inner",.free),("n",.free)]
noncomputable def wQ:Tb:={names:=L8,vars:=[("L",0),("R",1),("mid",2),("shift",3),("digits",4),("n",5)],next:=6}
noncomputable def CS(p:Nat->cq):List Stmt :=
 [.If (.Compare (.BinOp (.Name "L" (p 0)) .Add (.Constant (.int 1) 0 (p 1)) (p 2)) [.Eq] [.Name "R" (p 3)] (p 4)) [.Return (some (.Subscript (.Name "digits" (p 5)) (.Name "L" (p 6)) (p 7))) (p 8)] [] (p 9),
  .Assign [.Name "mid" (p 10)] (.BinOp (.BinOp (.Name "L" (p 11)) .Add (.Name "R" (p 12)) (p 13)) .RShift (.Constant (.int 1) 0 (p 14)) (p 15)) (p 16),
  .Assign [.Name "shift" (p 17)] (.BinOp (.BinOp (.Name "mid" (p 18)) .Sub (.Name "L" (p 19)) (p 20)) .Mult (.Name "n" (p 21)) (p 22)) (p 23),
  .Return (some (.BinOp (.BinOp (.Call (.Name "inner" (p 24)) [.Name "mid" (p 25),.Name "R" (p 26)] [] (p 27)) .LShift (.Name "shift" (p 28)) (p 29)) .Add (.Call (.Name "inner" (p 30)) [.Name "L" (p 31),.Name "mid" (p 32)] [] (p 33)) (p 34))) (p 35)]
theorem Ud:wc wQ:=Ef (by decide +kernel)
theorem Gb(h:a.natAbs<2^k):aH a<=k:=by
 unfold aH;split
 ·exact dh _
 ·exact(iQ (Int.natAbs_ne_zero.mpr λe=>‹¬(a==0)=true› (beq_iff_eq.mpr e))).mpr h
noncomputable def pP:rd:=λY Y=>none
theorem CF(D:r0 A n)(hG:rO G)(hN:ui G):tL G A pP:=⟨D.handled,by have:=D.units;exact Ci this,hG,hN,λk vs r e=>nomatch e⟩
structure qy(G:GD) (s:ah) (φ:Gh) (β:List aw) (P:aw->Prop) (f cD cN cI:aw) (fd:cg) (V:AV) (n:Int):Prop where
 fo:∃o,s.heap.get? f=some o/\o.data=.func fd
 fc:s.heap.CodeRec fd.code fd.qualname
 iD:∃v,s.heap.IsCell cD (some v)/\VR G.tok φ s.heap β P V v
 iN:∃t,s.heap.IsCell cN (some (.int n t))
 iI:s.heap.IsCell cI (some (.ref f))
structure xw(G:GD) (fd:cg) (Ti:Tb) (body:List Stmt) (dn:Str) (cD cN cI:aw):Prop where
 stmts:fd.body=.stmts body
 tb:A2 Ti fd.scope
 co:fd.scope.isCoroutine=false
 gen:fd.scope.isGenerator=false
 glob:fd.globals=aG
 bi:fd.builtins=bO
 lN:fd.closure.lookup ("n":Str)=some cN
 lI:fd.closure.lookup ("inner":Str)=some cI
 lD:fd.closure.lookup dn=some cD
 all:∀{C:Str->aw->Prop},C "n" cN->C "inner" cI->C dn cD->∀x c,fd.closure.lookup x=some c->C x c
 ne1:cN≠cI
 ne2:cN≠cD
 ne3:cI≠cD
 safe:sY G cD/\sY G cN/\sY G cI
 cell:Ti.celled "n" = true/\Ti.celled "inner" = true/\Ti.celled dn=true
 free:Ti.names.lookup ("n":Str)=some .free/\Ti.names.lookup ("inner":Str)=some .free/\Ti.names.lookup dn=some .free
 only:∀{C:Str->Prop},C "n" -> C "inner" -> C dn->∀x,Ti.names.lookup x=some .free->C x
theorem SR.calmObj{s:ah}{o:nk}(e:s.heap.get? b=some o)(h1:∀xs n,o.data≠.seq xs n)(h2:∀es ep,o.data≠.dict es ep)(r:OR tk φ s.heap β P u a):b≠a:=λq=>by
 cases r with
 |list r _=>refine o6 r λn r=>?_;exact h1 _ _ (congrArg Obj.data (ag (e.symm.trans (q▸r))))
 |dict r _ _=>refine xI r λo' es ep r Y r2 Y=>?_;exact h2 _ _ ((congrArg Obj.data (ag (e.symm.trans (q▸r)))).trans r2)
theorem SR.calmShape{s:ah}{o:nk}(S:SR G sB ot om oe T φ ρ σ β P m s)(e:s.heap.get? b=some o)(h1:∀xs n,o.data≠.seq xs n)(h2:∀es ep,o.data≠.dict es ep):∀j:Nat,β[j]?=some b->σ[j]?=some .gone:=λj hj=>by
 have hl:j<σ.length:=by refine rwj S.lenB ?_;exact(aS.mp hj).1
 refine oa (au hl) ?_;by_cases hg:σ[j]=.gone
 ·refine oa hg ?_;rfl
 ·refine oB (S.er.objs j _ (au hl) hg) λa e1 e2=>?_;exact absurd (ag (hj.symm.trans e1)) (SR.calmObj e h1 h2 e2)
theorem J'{o:nk}(hd:o.data=d)(h:∀xs n,d≠.seq xs n):∀xs n,o.data≠.seq xs n:=λxs n=>hd▸h xs n
theorem J9{o:nk}(hd:o.data=d)(h:∀xs n,d≠.dict xs n):∀xs n,o.data≠.dict xs n:=λxs n=>hd▸h xs n
theorem qy.on{G:GD}{s s':ah}(F:qy G s φ β P f cD cN cI fd V n)(hk:∀b o,s.heap.get? b=some o->(∀xs n,o.data≠.seq xs n)->(∀es ep,o.data≠.dict es ep)->¬G.X b->s'.heap.get? b=some o)(TB:pJ G s.heap)(hv:∀v,VR G.tok φ s.heap β P V v->VR G.tok ow s'.heap oO P' V v):qy G s' ow oO P' f cD cN cI fd V n :=
 have cell:∀c v,s.heap.IsCell c v->s'.heap.IsCell c v:=λc v ⟨o,ho,hd⟩=>⟨o,hk c o ho (J' hd λY Y=>nofun) (J9 hd λY Y=>nofun) (TB.notX_cell ⟨o,ho,hd⟩),hd⟩
 { fo:=F.fo.elim λo qq=>p_ qq λho hd=>oV o (hk f o ho (J' hd λY Y=>nofun) (J9 hd λY Y=>nofun) (TB.notX_data ho λY q=>nomatch hd.symm.trans q)) hd
   fc:=F.fc.elim λc r=>r.elim λo r=>r.elim λvs r=>r.elim λt r=>⟨c,o,vs,t,r.1,hk c o r.2.1 (J' r.2.2.1 λY Y=>nofun) (J9 r.2.2.1 λY Y=>nofun) (TB.notX_code (q:=fd.qualname) ⟨c,o,vs,t,rfl,r.2⟩),r.2.2⟩
   iD:=F.iD.elim λv r=>oV v (cell _ _ r.1) (hv v r.2)
   iN:=F.iN.elim λt r=>⟨t,cell _ _ r⟩
   iI:=cell _ _ F.iI}
theorem qy.go(F:qy G s φ β P f cD cN cI fd V n)(R:ER G φ oe T ρ σ β P m s)(k:GX G s φ s' ow)(TB:pJ G s.heap):qy G s' ow β P f cD cN cI fd V n :=
 F.on (λb o e Y Y hX=>k.ext b o hX e) TB λv r=>R.vr k r
theorem qy.carry(F:qy G s φ β P f cD cN cI fd V n)(S:SR G sB ot om oe T φ ρ σ β P m s)(hT:∀x,T.names.lookup x≠some .cell)(C:pB G oe T s φ σ β P s' ow ox oO P'):qy G s' ow oO P' f cD cN cI fd V n :=
 F.on (λb o e h1 h2 hX=>C.keep b o ⟨λq=>by
  rcases q with rfl|⟨y,q,_⟩|q
  ·refine wW S.er.ns λo' es ep e' hd Y=>?_;exact h2 _ _ (ag (e.symm.trans e')▸hd)
  ·exact hT y q
  ·exact hX q,S.calmShape e h1 h2⟩ e) S.tabs.1 λv r=>S.carry C r
theorem qy.calm(F:qy G s φ β P f cD cN cI fd V n)(S:SR G sB ot om oe T φ ρ σ β P m s)(C:pB G oe T s φ σ β P s' ow ox oO P')(hk:∀b o,yb G σ β b->s.heap.get? b=some o->s'.heap.get? b=some o):qy G s' ow oO P' f cD cN cI fd V n :=
 F.on (λb o e h1 h2 hX=>hk b o ⟨S.calmShape e h1 h2,hX⟩ e) S.tabs.1 λv r=>S.carry C r
theorem xw.inj(F:xw G fd Ti body dn cD cN cI):∀x y c,fd.closure.lookup x=some c->fd.closure.lookup y=some c->x=y:=λx y c hx hy =>
 F.all (C:=λx c=>∀y,fd.closure.lookup y=some c->x=y)
  (λy hy=>F.all (C:=λy c=>cN=c -> "n" = y) (λY=>rfl) (λq=>absurd q F.ne1) (λq=>absurd q F.ne2) y _ hy rfl)
  (λy hy=>F.all (C:=λy c=>cI=c -> "inner" = y) (λq=>absurd q.symm F.ne1) (λY=>rfl) (λq=>absurd q F.ne3) y _ hy rfl)
  (λy hy=>F.all (C:=λy c=>cD=c->dn=y) (λq=>absurd q.symm F.ne2) (λq=>absurd q.symm F.ne3) (λY=>rfl) y _ hy rfl) x c hx y hy
noncomputable def wb(A:br)(oe:Env)(f cI:aw):Prop:=∀(s:ah) (Q:Value->ah->Prop) (E:Value->ah->Prop),s.heap.IsCell cI (some (.ref f))->Q (.ref f) s->ao (ar oj wd) A (loadName oe "inner") Q E s
theorem waw{sB:ah}{fd:cg}(Fd:xw G fd Ti body dn cD cN cI)(IB:pp G sB.heap)(hP₀:∀a,sB.heap.objs.size<=a->om a)(hO:tL G A pP){z:aw}{qual:Str}{code:Value}:
 o_ G A pP sB om (vV fd.scope z fd.closure qual f code) Ti where
 hO:=hO
 hE:=Vc Fd.tb Fd.inj
 hT:=Fd.tb.tb
 IB:=IB
 hP₀:=hP₀
 hI:=by
  unfold mY;refine oa (show(vV fd.scope z fd.closure qual f code).scope.kind=.function from Fd.tb.kind) ?_;rfl
 hcl:=Fd.all (C:=λx Y=>Ti.celled x=true) Fd.cell.1 Fd.cell.2.1 Fd.cell.2.2
theorem wax{fd:cg}(Fd:xw G fd Ti body dn cD cN cI){z:aw}{qual:Str}{code:Value}:wb A (vV fd.scope z fd.closure qual f code) f cI:=λs Q E hc hQ =>
 jn Fd.tb.kind ((congrArg (gQ ("inner":Str)) Fd.tb.names).symm.trans Fd.free.2.1) Fd.lI hc hQ (by decide)
noncomputable def EH(G:GD)(sB:ah)(ot:Gh)(om:aw->Prop)(oe:Env)(T:Tb)(φ:Gh)(ρ:oI)(σ:oH)(β:List aw)(P:aw->Prop)(m:Str->Option Value)(s:ah)(ox:oH)(K:Value->Prop)(v:Value)(oJ:ah):Prop :=
 ∃o4 rt qz,SR G sB ot om oe T o4 ρ ox rt qz m oJ/\pB G oe T s φ σ β P oJ o4 ox rt qz/\(∀b o,yb G σ β b->s.heap.get? b=some o->oJ.heap.get? b=some o)/\K v
noncomputable def EG(G:GD)(A:br)(sB:ah)(ot:Gh)(om:aw->Prop)(f cD cN cI:aw)(fd:cg)(V:AV)(n:Int)(σ ox:oH)(as:List AV)(K:Value->Prop):Prop :=
 ∀oe T φ ρ β P m s xs,SR G sB ot om oe T φ ρ σ β P m s->qy G s φ β P f cD cN cI fd V n->oA G.tok φ s.heap β P as xs ->
  ao (ar oj wd) A (call (.ref f) xs) (EH G sB ot om oe T φ ρ σ β P m s ox K) oE s
noncomputable def uA(G:GD)(sB:ah)(ot:Gh)(om:aw->Prop)(oe:Env)(T:Tb)(f cD cN cI:aw)(fd:cg)(V:AV)(n:Int)(φ:Gh)(σ:oH)(β:List aw)(P:aw->Prop)(s:ah)(oC:oI)(ox:oH)(Q:ah->Prop):Prop :=
 ∀ow oO P' m' s',SR G sB ot om oe T ow oC ox oO P' m' s'->qy G s' ow oO P' f cD cN cI fd V n->pB G oe T s φ σ β P s' ow ox oO P'->Q s'
theorem uA.go(k:GX G s φ s' ow)(h:uA G sB ot om oe T f cD cN cI fd V n φ σ β P s oC u3 Q):uA G sB ot om oe T f cD cN cI fd V n ow σ β P s' oC u3 Q :=
 λoF rj qM rh ou S F C=>h oF rj qM rh ou S F ((pB.go k).trans C)
theorem Hr{yg:Expr}{args:List Expr}{as:List AV}{pa pe:cq}{Q:Value->ah->Prop}{K:Value->Prop}(qU:b_ (yg::args) oe=(false,bK yg oe)::b_ args oe)(FC:o_ G A pP sB om oe T)(L:wb A oe f cI)(wq:qj pP σ ρ (pk T (yg::args))=some as)(H:EG G A sB ot om f cD cN cI fd V n σ ox as K)(S:SR G sB ot om oe T φ ρ σ β P m s)(F:qy G s φ β P f cD cN cI fd V n)(hQ:∀v,K v->uA G sB ot om oe T f cD cN cI fd V n φ σ β P s ρ ox (Q v)):ao (ar oj wd) A (bK (.Call (.Name ("inner":Str) pa) (yg::args) [] pe) oe) Q oE s:=by
 refine cx (wpAny_Name (L _ _ _ F.iI ?_) (by decide));refine oB F.fo λo ho hd=>?_;refine i_ hd (((wT FC.hE (λe Y=>qQ FC.hO _ e (ai _)) wq).2 pe).post (S.inv FC.IB) S.er λxs ou oF oD Y Y oM=>?_) qU;have oT:=S.go oD;have tM:=F.go S.er oD S.tabs.1;refine⟨oD.ext _ _ (S.tabs.1.notX_data ho λY q=>nomatch hd.symm.trans q) ho,up (H _ _ _ _ _ _ _ _ xs oT tM oM) λv oJ qI=>?_⟩;refine xI qI λo4 rt qz pA re kp hK=>?_;exact hQ v hK o4 rt qz _ oJ pA (tM.calm oT re kp) ((pB.go oD).trans re)
theorem Ba(FC:o_ G A pP sB om oe T)(hT:∀x,T.names.lookup x≠some .cell)(hx:T.own x=some i)(he:ev pP σ ρ (oy T e)=some v)(S:SR G sB ot om oe T φ ρ σ β P m s)(F:qy G s φ β P f cD cN cI fd V n)(hQ:uA G sB ot om oe T f cD cN cI fd V n φ σ β P s (ρ.set i (some v)) σ λs'=>ao (ar oj wd) A (be oG oe) Q oE s'):ao (ar oj wd) A (be (.Assign [.Name x px] e pos::oG) oe) Q oE s :=
 have c:t8 pP ρ σ false (oy T e)=some (v,σ):=congrArg (bJ (·,σ)) he
 aR (up (QC FC hx (λq=>absurd q bA) c s φ β P m S) λfw ou o7=>by
  obtain⟨rfl,oF,rj,qM,rh,oT,qg⟩:=o7;exact hQ oF rj qM rh ou oT (F.carry S hT qg) qg)
noncomputable def GK(A:br)(oe:Env)(oG:List Stmt)(Q:im->ah->Prop)(f:im)(s:ah):Prop:=match f with
 | .next=>ao (ar oj wd) A (be oG oe) Q oE s
 |f=>Q f s
theorem O6(FC:o_ G A pP sB om oe T)(he:ev pP σ ρ (oy T c)=some (.bool b))(S:SR G sB ot om oe T φ ρ σ β P m s)(F:qy G s φ β P f cD cN cI fd V n)(h1:b=true->∀ow s',GX G s φ s' ow->SR G sB ot om oe T ow ρ σ β P m s'->qy G s' ow β P f cD cN cI fd V n->ao (ar oj wd) A (be th oe) (GK A oe oG Q) oE s')(h2:b=false->∀ow s',GX G s φ s' ow->SR G sB ot om oe T ow ρ σ β P m s'->qy G s' ow β P f cD cN cI fd V n->ao (ar oj wd) A (be el oe) (GK A oe oG Q) oE s'):
 ao (ar oj wd) A (be (.If c th el pos::oG) oe) Q oE s :=
 aR (ix (((qQ FC.hO _ c (ai _) _ _ _ _ FC.hE he).2 _ rfl).post (S.inv FC.IB) S.er λoJ o4 oW rU qi=>by
  have pA:=S.go oW;have uh:=F.go S.er oW S.tabs.1
  induction b using aZ with
  |true=>exact h1 rfl o4 oJ oW pA uh
  |false=>exact h2 rfl o4 oJ oW pA uh))
theorem Eo(FC:o_ G A pP sB om oe T)(he:ev pP σ ρ (oy T e)=some v)(S:SR G sB ot om oe T φ ρ σ β P m s)(F:qy G s φ β P f cD cN cI fd V n)(hQ:∀x ow s',GX G s φ s' ow->SR G sB ot om oe T ow ρ σ β P m s'->qy G s' ow β P f cD cN cI fd V n->VR G.tok ow s'.heap β P v x->Q x s'):ao (ar oj wd) A (bK e oe) Q oE s :=
 (qQ FC.hO _ e (ai _) _ _ _ _ FC.hE he).1.post (S.inv FC.IB) S.er λx ou oF oD Y Y oM=>hQ x oF ou oD (S.go oD) (F.go S.er oD S.tabs.1) oM
noncomputable def xy(G:GD)(φ:Gh)(h:bU)(β:List aw)(P:aw->Prop)(Ti:Tb)(binds:List (Str×Value))(dn:Str)(V:AV)(n:Int)(x:Str)(v:AV):Prop :=
 (Ti.names.lookup x=some .local/\∃v',binds.reverse.lookup x=some v'/\VR G.tok φ h β P v v')\/(x=dn/\v=V)\/(x = "n" /\ v=.int n)
theorem xy.loc(e:(some (some u):Option (Option AV))=some (some v))(h1:Ti.names.lookup x=some .local)(h2:binds.reverse.lookup x=some v')(h3:VR G.tok φ h β P u v'):xy G φ h β P Ti binds dn V n x v :=
 HG (Q:=xy G φ h β P Ti binds dn V n x) e (.inl ⟨h1,v',h2,h3⟩)
theorem xy.dig(e:(some (some V):Option (Option AV))=some (some v)):xy G φ h β P Ti binds dn V n dn v:=HG (Q:=xy G φ h β P Ti binds dn V n dn) e (.inr (.inl ⟨rfl,rfl⟩))
theorem xy.num(e:(some (some (.int n)):Option (Option AV))=some (some v)):xy G φ h β P Ti binds dn V n "n" v:=HG (Q:=xy G φ h β P Ti binds dn V n "n") e (.inr (.inr ⟨rfl,rfl⟩))
theorem O_{oC:oI}{s sB:ah}{Ti:Tb}{xs:List Value}{binds:List (Str×Value)}{K:Value->Prop}{k:Nat}(Fd:xw G fd Ti body dn cD cN cI)(IB:pp G sB.heap)(hG:rO G)(hN:ui G)(hP₀:∀a,sB.heap.objs.size<=a->om a)(D:r0 A (k+1))(S:SR G sB ot om oe T φ ρ σ β P m s)(F:qy G s φ β P f cD cN cI fd V n)(vM:dS fd ⟨xs,[]⟩=pure binds)(IT:∀x∈binds,Ti.names.lookup x.1=some .local)(oU:oC.length=Ti.next)(hn:∀e∈Ti.vars,∀v,oC[e.2]?=some (some v)->xy G φ s.heap β P Ti binds dn V n e.1 v)(yw:∀(A':br) (sZ:Env) (s':ah) (P':aw->Prop) (m':Str->Option Value) (Q:im->ah->Prop),r0 A' k->o_ G A' pP sB om sZ Ti->wb A' sZ f cI->SR G sB ot om sZ Ti φ oC σ β P' m' s'->qy G s' φ β P' f cD cN cI fd V n ->
 (∀fl sH,K (Aj fl)->uA G sB ot om sZ Ti f cD cN cI fd V n φ σ β P' s' sH ox (Q fl))->ao (ar oj wd) A' (be body sZ) Q oE s'):
 ao (ar oj wd) A (call (.ref f) xs) (EH G sB ot om oe T φ ρ σ β P m s ox K) oE s:=by
 refine oB F.fo λo ho hd=>?_;have Jb:fd.scope.names=Ti.names:=Fd.tb.names.symm;refine wcv (oC:=oC) (K:=λv Y Y Y Y=>K v) IB S Fd.tb ho hd F.fc Fd.stmts rfl Fd.glob Fd.bi rfl Fd.co Fd.gen (by have:=D.depth;exact Ci this) vM (by refine oa Jb ?_;exact IT) oU (λx i v hx hv=>?_) (λx hx=>?_) (Fd.all (C:=λY c=>sY G c) Fd.safe.2.1 Fd.safe.2.2 Fd.safe.1) (λh' t rh FL oT=>?_)
 ·refine oa Jb ?_;rcases hn (x,i) (Cf hx) v hv with⟨h1,v',h2,h3⟩|⟨rfl,rfl⟩|⟨rfl,rfl⟩
  ·exact oV v' h3 (.inl ⟨h1,h2⟩)
  ·refine oB F.iD λvD d1 d2=>?_;exact oV vD d2 (.inr ⟨Fd.free.2.2,cD,Fd.lD,d1⟩)
  ·refine o6 F.iN λtN n1=>?_;exact oV _ (.int _ tN) (.inr ⟨Fd.free.1,cN,Fd.lN,n1⟩)
 ·rw[Jb]at hx;exact Fd.only (C:=λx=>∃c v,fd.closure.lookup x=some c/\s.heap.IsCell c v) (F.iN.elim λY n1=>rf cN _ Fd.lN n1) ⟨cI,_,Fd.lI,F.iI⟩ (F.iD.elim λY d=>rf cD _ Fd.lD d.1) x hx
 ·refine yw _ _ _ _ rh _ (D.deeper _) (waw Fd IB hP₀ (CF (D.deeper _) hG hN)) (wax Fd) oT (F.on (λb o e Y Y Y=>FL b o e) S.tabs.1 λv r=>r.mono (λY Y e=>e) (λa o p e=>⟨FL a o e,p,λq=>bu.mpr q.1 (aN e)⟩) (aB _)) λfl sH hK o4 rt qz rm oJ pA Y re=>?_;exact O' o4 sH rt qz rm pA re hK
noncomputable def HB(ds:List Int)(lo hi:Nat)(n:Int):oI:=[some (.int lo),some (.int hi),none,none,some (.lst (ds.map .int)),some (.int n)]
theorem wag{ds:List Int}(h:k<ds.length)(hl:ds.length<=1000):zj σ (.lst (ds.map .int)) (.int k)=some (.int ds[k]):=by
 have OD:tG (k:Int) (ds.map AV.int).length=some k:=Gu (by rw[ac];exact h) (by rw[ac];exact ae hl (by decide));refine(congrArg (λo=>Option.bind o λj=>(ds.map AV.int)[j]?) OD).trans ?_;show(ds.map AV.int)[k]?=_;refine oa bf ?_;refine oa (au h) ?_;rfl
theorem N1{x y:Nat}:rP σ .RShift (.int ((x:Int)+y)) (.int 1)=some (.int ((x+y)/2:Nat)):=by
 show some (AV.int (Int.fdiv ((x:Int)+y) 2))=_;refine oa (bY _ (by decide)) ?_;rfl
theorem PR(h:n.natAbs<2^64):rP σ .Mult (.int x) (.int n)=some (.int (x*n)):=by
 show(if small x||small n then _ else _)=_;rw[if_pos (by rw[show small n=true from decide_eq_true h,Bool.or_true])]
section
variable {A:br}{oe:Env}{T:Tb}{ρ oC:oI}{σ ox u3:oH}{G:GD}{s s' qV:ah}{φ ow xp:Gh}{β oO Ez:List aw}{P P' Cy om:aw->Prop}{m m':Str->Option Value}{tk:aw}{h h':bU}
variable {sB:ah}{ot:Gh}{f cD cN cI:aw}{fd:cg}{n:Int}{p:Nat->cq}{ds:List Int}{lo hi pE:Nat}{sh:Int}
theorem PY{l:List (Str×cX)}{x:Str}(h:l.all (λe=>e.2 != .cell)=true)(q:l.lookup x=some .cell):False:=qb (aj.mp h _ (mem_of_lookup q))
theorem Mb(x:Str):wQ.names.lookup x≠some .cell:=λq=>PY (by decide +kernel) q
theorem Uq{x y:Int}(h0:ρ[0]?=some (some (.int x)))(h1:ρ[1]?=some (some (.int y))):ev pP σ ρ (.cmp .Eq (.bin .Add (.var 0) (.c (.int 1))) (.var 1))=some (.bool (decide (x+1=y))):=
 qS (qp (ol h0) pX rfl) (ol h1) rfl
theorem Uh{x y:Nat}(h0:ρ[0]?=some (some (.int x)))(h1:ρ[1]?=some (some (.int y))):ev pP σ ρ (.bin .RShift (.bin .Add (.var 0) (.var 1)) (.c (.int 1)))=some (.int ((x+y)/2:Nat)):=
 qp (qp (ol h0) (ol h1) rfl) pX N1
theorem Un{x y:Int}(hn:n.natAbs<2^64)(h0:ρ[0]?=some (some (.int x)))(h2:ρ[2]?=some (some (.int y)))(h5:ρ[5]?=some (some (.int n))):ev pP σ ρ (.bin .Mult (.bin .Sub (.var 2) (.var 0)) (.var 5))=some (.int ((y-x)*n)):=
 qp (qp (ol h2) (ol h0) rfl) (ol h5) (PR hn)
theorem Ur(rF:0<=n)(h1:lo<=pE)(h2:pE<=hi)(h3:hi<=ds.length):qL n ((ds.drop pE).take (hi-pE))*2^(((pE:Int)-lo)*n).toNat+qL n ((ds.drop lo).take (pE-lo))=qL n ((ds.drop lo).take (hi-lo)):=by
 have e:(((pE:Int)-lo)*n).toNat=n.toNat*((ds.drop lo).take (pE-lo)).length:=by
  rw[dE,dF,ir (Nat.sub_le_sub_right (ae h2 h3) _),<-f8 h1,Int.toNat_mul (az _) rF,aT,cE]
 have hs:(ds.drop lo).take (hi-lo)=(ds.drop lo).take (pE-lo)++(ds.drop pE).take (hi-pE):=by
  rw[((dc _ _).trans (ik h2 h1)).symm,List.take_add,nq,eS h1]
 rw[hs,Ue,e,Int.add_comm]
theorem Um(uN:∀d∈ds,d.natAbs<2^64)(oU:ds.length<=1000)(rF:0<=n)(hn:n.toNat<=64)(h1:lo<=pE)(h2:pE<=hi)(h3:hi<=ds.length):
 aH (qL n ((ds.drop pE).take (hi-pE)))<=65*1001/\((pE:Int)-lo)*n<=64000/\0<=((pE:Int)-lo)*n:=by
 refine qJ (ae (Gb (Uf hn _ λd hd=>uN d (iC (iB hd)))) (i3 _ (m6 ?_))) ?_ (Int.mul_nonneg (f9 (d_.mpr h1)) rF)
 ·refine oa dE ?_;refine oa dF ?_;exact ae (Nat.min_le_right _ _) (ae (jb _ _) oU)
 ·exact jr (Int.mul_le_mul (jr (Int.sub_le_self _ (az lo)) (yG (ae h2 (ae h3 oU)))) (Int.toNat_le.mp hn) rF (by decide)) (by decide)
noncomputable def EC(G:GD)(A:br)(sB:ah)(ot:Gh)(om:aw->Prop)(f cD cN cI:aw)(fd:cg)(n:Int)(ds:List Int)(i j:Nat):Prop:=∀σ,EG G A sB ot om f cD cN cI fd (.lst (ds.map .int)) n σ σ [.int i,.int j] λv=>∃t,v=.int (qL n ((ds.drop i).take (j-i))) t
theorem Uj{Q:im->ah->Prop}{e:Expr}{pos:cq}{oG:List Stmt}(FC:o_ G A pP sB om oe T)(S:SR G sB ot om oe T φ ρ σ β P m s)(F:qy G s φ β P f cD cN cI fd (.lst (ds.map .int)) n)
 (he:oy T e=.idx (.var 4) (.var 0)) (h0:ρ[0]?=some (some (.int lo))) (h4:ρ[4]?=some (some (.lst (ds.map .int)))) (Dw:lo<ds.length) (oU:ds.length<=1000)
 (hQ:∀fl sH,(∃t,Aj fl=.int (qL n ((ds.drop lo).take (lo+1-lo))) t)->uA G sB ot om oe T f cD cN cI fd (.lst (ds.map .int)) n φ σ β P s sH σ (Q fl)):ao (ar oj wd) A (be [.Return (some e) pos] oe) (GK A oe oG Q) oE s:=by
 refine aR (dy (Eo FC (v:=.int ds[lo]) (by refine oa he ?_;exact yY (ol h4) (ol h0) (wag Dw oU)) S F λx oF ou oD oT tM oM=>?_));refine hQ (.ret x) ρ (oM.e_int λt=>⟨t,?_⟩) _ _ _ _ _ oT tM (.go oD);have:(ds.drop lo).take (lo+1-lo)=[ds[lo]]:=by refine oa (cH _ _) ?_;refine oa (eP Dw) ?_;rfl
 refine oa this ?_;show Value.int ds[lo] t=.int (ds[lo]+0*2^n.toNat) t;refine oa (Int.zero_mul _) ?_;refine oa (Int.add_zero _) ?_;rfl
noncomputable def G1(G:GD)(A:br)(sB:ah)(ot:Gh)(om:aw->Prop)(oe:Env)(T:Tb)(f cD cN cI:aw)(fd:cg)(n:Int)(ds:List Int)(ρ:oI)(σ:oH)(c:Expr)(a:Int):Prop:=∀φ β P m s (Q:Value->ah->Prop),SR G sB ot om oe T φ ρ σ β P m s->qy G s φ β P f cD cN cI fd (.lst (ds.map .int)) n->(∀t,uA G sB ot om oe T f cD cN cI fd (.lst (ds.map .int)) n φ σ β P s ρ σ (Q (.int a t)))->ao (ar oj wd) A (bK c oe) Q oE s
theorem Uo{Q:Value->ah->Prop}{c1 c2 e:Expr}{p1 p2:cq}{a b:Int}(FC:o_ G A pP sB om oe T)(S:SR G sB ot om oe T φ ρ σ β P m s)(F:qy G s φ β P f cD cN cI fd (.lst (ds.map .int)) n)
 (Jm:ev pP σ ρ (oy T e)=some (.int sh)) (Ji:0<=sh) (Jj:sh<=64000) (hb:aH a<=65*1001) (h1:G1 G A sB ot om oe T f cD cN cI fd n ds ρ σ c1 a) (h2:G1 G A sB ot om oe T f cD cN cI fd n ds ρ σ c2 b)
 (hQ:∀t,uA G sB ot om oe T f cD cN cI fd (.lst (ds.map .int)) n φ σ β P s ρ σ (Q (.int (a*2^sh.toNat+b) t))):ao (ar oj wd) A (bK (.BinOp (.BinOp c1 .LShift e p1) .Add c2 p2) oe) Q oE s:=by
 refine fx (fx (h1 _ _ _ _ _ _ S F λt oF rj qM rh ou oT tM qg=>Eo FC Jm oT tM λx o4 oJ oW pA uh pT=>pT.e_int λt'=>lshift_int Ji (by lia) ?_));have qA:GX G oJ o4 {oJ with toks:=oJ.toks+1} o4:=.same pA.er.tk pQ.tok (bw _);refine h2 _ _ _ _ _ _ (pA.go qA) (uh.go pA.er qA pA.tabs.1) λwhZ yH K7 G8 wA sF t6 Cs wH=>add_int ?_;have BS:GX G sF yH {sF with toks:=sF.toks+1} yH:=.same t6.er.tk pQ.tok (bw _);exact hQ _ _ _ _ _ _ (t6.go BS) (Cs.go t6.er BS t6.tabs.1) (qg.trans ((pB.go (oW.trans qA)).trans (wH.trans (.go BS))))
theorem Ma{i j:Nat}{x y:Str}{pa pb pc pd:cq}(FC:o_ G A pP sB om oe T)(L:wb A oe f cI)(H:EC G A sB ot om f cD cN cI fd n ds i j)(hx:ev pP σ ρ (oy T (.Name x pb))=some (.int i))(hy:ev pP σ ρ (oy T (.Name y pc))=some (.int j)):
 G1 G A sB ot om oe T f cD cN cI fd n ds ρ σ (.Call (.Name ("inner":Str) pa) [.Name x pb,.Name y pc] [] pd) (qL n ((ds.drop i).take (j-i))):=λφ β P m s Q S F hQ =>
 Hr rfl FC L (rW hx hy) (H σ) S F λv qq=>o6 qq λt e=>e▸hQ t
theorem Lm{n:Int}(h0:0<=n)(h:n.toNat<=64):n.natAbs<2^64:=by lia
theorem N2{lo hi:Nat}(e:lo+1<hi):lo<(lo+hi)/2/\(lo+hi)/2<hi/\2*(hi-(lo+hi)/2)<=hi-lo+1/\2*((lo+hi)/2-lo)<=hi-lo+1:=by
 obtain⟨n,rfl⟩:=Nat.exists_eq_add_of_le (bb (mI e));have e2:(lo+(lo+n))/2=lo+n/2:=by rw[<-kS,<-Nat.two_mul,Nat.mul_add_div (by decide)]
 rw[e2,Nat.add_sub_add_left,cH,cH];have h1:2*(n/2)<=n:=nC n 2;have h2:n<2*(n/2+1):=lZ n (by decide);have h3:1<n:=Nat.lt_of_add_lt_add_left e;generalize n/2=q at h1 h2 ⊢;exact xU (kV (by lia)) (l0 (by lia) lo) (by lia) (gU h1)
theorem L_{Q:im->ah->Prop}(FC:o_ G A pP sB om oe wQ)(L:wb A oe f cI)(S:SR G sB ot om oe wQ φ (HB ds lo hi n) σ β P m s)(F:qy G s φ β P f cD cN cI fd (.lst (ds.map .int)) n)
 (uN:∀d∈ds,d.natAbs<2^64) (oU:ds.length<=1000) (rF:0<=n) (hn:n.toNat<=64) (Oo:lo<hi) (vQ:hi<=ds.length) (ih:lo+1<hi->∀i j,i<j->j<=ds.length->2*(j-i)<=hi-lo+1->EC G A sB ot om f cD cN cI fd n ds i j)
 (hQ:∀fl sH,(∃t,Aj fl=.int (qL n ((ds.drop lo).take (hi-lo))) t)->uA G sB ot om oe wQ f cD cN cI fd (.lst (ds.map .int)) n φ σ β P s sH σ (Q fl)):ao (ar oj wd) A (be (CS p) oe) Q oE s:=by
 refine O6 FC (Uq (x:=lo) (y:=hi) rfl rfl) S F (λhb oF ou oD oT tM=>?_) (λhb oF ou oD oT tM=>cW ?_)
 ·have e:hi=lo+1:=by have:=of_decide_eq_true hb;lia
  subst e;exact Uj FC oT tM rfl rfl rfl vQ oU λfl sH hv=>(hQ fl sH hv).go oD
 ·have e:lo+1<hi:=by have:=of_decide_eq_false hb;lia
  have ih:=ih e;clear hb;refine Bu (N2 e) λh1 h2 h3 h4=>?_;have hm:=Uh (σ:=σ) (ρ:=HB ds lo hi n) (x:=lo) (y:=hi) rfl rfl;generalize(lo+hi)/2=pE at *;refine Ba FC Mb (i:=2) rfl hm oT tM λo4 rt qz rm oJ pA uh re=>?_;refine Ba FC Mb (i:=3) rfl (Un (x:=lo) (y:=pE) (Lm rF hn) rfl rfl rfl) pA uh λsU AX A4 xg ro sC Cr rA=>?_;refine tR (Um uN oU rF hn (bb h1) (bb h2) vQ) λb1 b2 b3=>?_;refine aR (dy (Uo FC sC Cr (ol rfl) b3 b2 b1 (Ma FC L (ih pE hi h2 vQ h3) (ol rfl) (ol rfl)) (Ma FC L (ih lo pE h1 (ae (bb h2) vQ) h4) (ol rfl) (ol rfl)) λt yH K7 G8 wA sF t6 Cs wH=>?_));rw[Ur rF (bb h1) (bb h2) vQ]at *;exact hQ (.ret _) _ ⟨t,rfl⟩ _ _ _ _ _ t6 Cs ((pB.go oD).trans (re.trans (rA.trans wH)))
theorem Mc{x y:Value}{K:Value->Prop}{k:Nat}(Fd:xw G fd wQ (CS p) "digits" cD cN cI) (vM:∀x y:Value,dS fd ⟨[x,y],[]⟩=pure [(("L":Str),x),(("R":Str),y)]) (IB:pp G sB.heap) (hG:rO G) (hN:ui G) (hP₀:∀a,sB.heap.objs.size<=a->om a) (D:r0 A (k+1))
 (S:SR G sB ot om oe T φ ρ σ β P m s) (F:qy G s φ β P f cD cN cI fd (.lst (ds.map .int)) n) (rx:VR G.tok φ s.heap β P (.int lo) x) (ry:VR G.tok φ s.heap β P (.int hi) y)
 (yw:∀(A':br) (sZ:Env) (s':ah) (P':aw->Prop) (m':Str->Option Value) (Q:im->ah->Prop),r0 A' k->o_ G A' pP sB om sZ wQ->wb A' sZ f cI->SR G sB ot om sZ wQ φ (HB ds lo hi n) σ β P' m' s'->qy G s' φ β P' f cD cN cI fd (.lst (ds.map .int)) n ->
  (∀fl sH,K (Aj fl)->uA G sB ot om sZ wQ f cD cN cI fd (.lst (ds.map .int)) n φ σ β P' s' sH σ (Q fl))->ao (ar oj wd) A' (be (CS p) sZ) Q oE s'):
 ao (ar oj wd) A (call (.ref f) [x,y]) (EH G sB ot om oe T φ ρ σ β P m s σ K) oE s :=
 O_ Fd IB hG hN hP₀ D S F (vM x y) (oZ rfl (oZ rfl wg)) rfl
  (oZ (λv e=>.loc e rfl rfl rx) (oZ (λv e=>.loc e rfl rfl ry) (oZ (λv e=>zx e) (oZ (λv e=>zx e) (oZ (λv e=>.dig e) (oZ (λv e=>.num e) wg)))))) yw
theorem Ug(Fd:xw G fd wQ (CS p) "digits" cD cN cI) (vM:∀x y:Value,dS fd ⟨[x,y],[]⟩=pure [(("L":Str),x),(("R":Str),y)]) (IB:pp G sB.heap) (hG:rO G) (hN:ui G) (hP₀:∀a,sB.heap.objs.size<=a->om a) (uN:∀d∈ds,d.natAbs<2^64) (oU:ds.length<=1000) (rF:0<=n) (hn:n.toNat<=64):
 ∀(k:Nat) (A:br),r0 A (k+1)->∀(lo hi:Nat),lo<hi->hi<=ds.length->hi-lo<=2^k->EC G A sB ot om f cD cN cI fd n ds lo hi:=by
 intro k
 induction k with
 |zero =>
  intro A D lo hi h1 h2 h3 σ oe T φ ρ β P m s xs S F r;refine r.e2 λx y rx ry=>?_;exact Mc Fd vM IB hG hN hP₀ D S F rx ry λA' sZ s' P' m' Q D' FC L S' F' hQ=>L_ FC L S' F' uN oU rF hn h1 h2 (λq=>absurd h3 (by lia)) hQ
 |succ k ih =>
  intro A D lo hi h1 h2 h3 σ oe T φ ρ β P m s xs S F r;refine r.e2 λx y rx ry=>?_;exact Mc Fd vM IB hG hN hP₀ D S F rx ry λA' sZ s' P' m' Q D' FC L S' F' hQ=>L_ FC L S' F' uN oU rF hn h1 h2 (λY i j q1 q2 q3=>ih A' D' i j q1 q2 (by rw[fE]at h3;lia)) hQ
end
noncomputable def Gs(x y:Str)(p q:cq):dj:=⟨[],[⟨x,none,p⟩,⟨y,none,q⟩],none,[],[],none,[]⟩
noncomputable def HC:cj:={kind:=.function,names:=L8,isGenerator:=false,isCoroutine:=false}
noncomputable def CT:cj:={kind:=.function,names:=[("digits",.cell),("n",.cell),("inner",.cell),("len",.globalImplicit)],isGenerator:=false,isCoroutine:=false}
noncomputable def HA(p q:Nat->cq):List Stmt :=
 [.FunctionDef "inner" (Gs "L" "R" (q 40) (q 41)) (CS q) [] none [] HC none "inner" (q 42),
  .Return (some (.IfExp (.Name "digits" (p 0)) (.Call (.Name "inner" (p 1)) [.Constant (.int 0) 0 (p 2),.Call (.Name "len" (p 3)) [.Name "digits" (p 4)] [] (p 5)] [] (p 6)) (.Constant (.int 0) 0 (p 7)) (p 8))) (p 9)]
noncomputable def B5(l:List (Nat×Nat×Nat×Nat))(i:Nat):cq:=match l[i]? with
 |some (a,b,c,d)=>⟨a,b,c,d⟩
 |none=>⟨0,0,0,0⟩
theorem Sw :
 dS (fnX "inner" qual (Gs "L" "R" p q) body sc qv .none .none pR pm none cv ql) ⟨[u,v],[]⟩=pure [(("L":Str),u),(("R":Str),v)]:=by rfl
noncomputable def CU:Tb:=rI ["digits","n"] CT
theorem Uc:CU.var "inner" = some 2:=by rfl
structure EK(G:GD) (fd:cg) (ps:List Str) (body:List Stmt) (t:aw×aw×cq×Str) (pos:cq):Prop where
 ok:sy fd ⟨ps.length,(rI ps fd.scope).next,sx (rI ps fd.scope) [] body⟩ ps body []
 tm:t∈G.tabs
 tu:∀t'∈G.tabs,t'.2.1=t.2.1->t'=t
 code:fd.code=.ref t.1
 pos:t.2.2.1=pos
 qual:(fd.qualname++(".<locals>.":Str))++("inner":Str)=t.2.2.2
theorem TG(h:l.all (λe=>e.2==.local)=true):rC oe (l++r) acc=rC oe r acc:=by
 induction l with
 |nil=>rfl
 |cons e l ih =>
  obtain⟨x,k⟩:=e;refine qG h λh1 h2=>?_;have:k=.local:=eq_of_beq h1;subst this;exact ih h2
theorem TP{oe:Env}{sc:cj}{l:List (Str×cX)}{dn:Str}{cD cN cI:aw}(hs:sc.names=l++[(dn,.free),("inner",.free),("n",.free)]) (hl:l.all (λe=>e.2==.local)=true) (hD:oe.cells.lookup dn=some cD) (hI:oe.cells.lookup ("inner":Str)=some cI) (hN:oe.cells.lookup ("n":Str)=some cN):
 fD sc oe=pure [(("n":Str),cN),(("inner":Str),cI),(dn,cD)]:=by
 rw[LX (sc:=sc) (oe:=oe) λy hy=>?_,hs,TG hl]
 ·show pure [(("n":Str),(oe.cells.lookup ("n":Str)).getD 0),(("inner":Str),(oe.cells.lookup ("inner":Str)).getD 0),(dn,(oe.cells.lookup dn).getD 0)]=_;refine oa hN ?_;refine oa hI ?_;refine oa hD ?_;rfl
 ·rw[hs]at hy;rcases aW.mp hy with q|q
  ·exact qb (aj.mp hl _ q)
  ·exact oZ (C:=λe=>∃c,oe.cells.lookup e.1=some c) ⟨cD,hD⟩ (oZ ⟨cI,hI⟩ (oZ ⟨cN,hN⟩ wg)) _ q
theorem Ht(S:SR G sB ot om oe To φ ρ σ β P m s)(hy:To.names.lookup y=some .cell):∃c,oe.cells.lookup y=some c:=(S.er.celled y (by unfold Tb.celled;refine oa hy ?_;rfl)).elim λc e=>⟨c,e.elim λY r=>r.1⟩
theorem LV(S:SR G sB ot om oe To φ ρ σ β P m s)(hE:qc oe To)(hy:To.names.lookup y=some .cell)(hc:oe.cells.lookup y=some c)(hv:To.var y=some i)(hr:ρ[i]?=some (some v)):∃v',s.heap.IsCell c (some v')/\VR G.tok φ s.heap β P v v':=by
 refine oB (S.er.names y i v hv hr) λv' rv nm=>?_;rcases nm with⟨k,_⟩|⟨c',e1,_,e2⟩
 ·exact nomatch k.symm.trans (hE.cel y hy)
 ·exact oV v' (ag (e1.symm.trans hc)▸e2) rv
structure Cx(To Ti:Tb) (dn:Str) (sc:cj) (l:List (Str×cX)) (iN iD:Nat):Prop where
 hs:sc.names=l++[(dn,.free),("inner",.free),("n",.free)]
 hl:l.all (λe=>e.2==.local)=true
 tb:A2 Ti sc
 co:sc.isCoroutine=false
 gen:sc.isGenerator=false
 cell:Ti.celled "n" = true/\Ti.celled "inner" = true/\Ti.celled dn=true
 free:Ti.names.lookup ("n":Str)=some .free/\Ti.names.lookup ("inner":Str)=some .free/\Ti.names.lookup dn=some .free
 kI:To.names.lookup ("inner":Str)=some .cell
 kN:To.names.lookup ("n":Str)=some .cell
 kD:To.names.lookup dn=some .cell
 vN:To.var "n" = some iN
 vD:To.var dn=some iD
 ne:("n":Str)≠dn/\("inner":Str)≠dn
 look:∀a b c:aw,gQ dn [(("n":Str),a),(("inner":Str),b),(dn,c)]=some c
theorem Cx.only{Ti:Tb}(O:Cx To Ti dn sc l iN iD){C:Str->Prop}(h1:C "n") (h2:C "inner") (h3:C dn) (x:Str) (hx:Ti.names.lookup x=some .free):C x:=by
 have q:=mem_of_lookup hx;rw[O.tb.names,O.hs]at q;rcases aW.mp q with q|q
 ·exact qb (aj.mp O.hl _ q)
 ·exact oZ (C:=λe=>C e.1) h3 (oZ h2 (oZ h1 wg)) _ q
theorem Qb{oe:Env}{G:GD}{To:Tb}{params:dj}(O:Cx To Ti dn sc l iN iD)(FC:o_ G A pP sB om oe To)(S:SR G sB ot om oe To φ ρ σ β P m s)(xa:t∈G.tabs)(Jq:∀t'∈G.tabs,t'.2.1=t.2.1->t'=t)(zc:oe.code=.ref t.1)(hq:gW oe "inner" "inner" = t.2.2.2) (w_:t.2.2.1=pos) (Zi:params.defaults=[]) (Jf:params.kw_defaults=[]) (OB:k_ params none oe=[]) (vI:∀i v,To.var "inner" = some i->ρ[i]?=some (some v)->False) (rN:ρ[iN]?=some (some (.int n))) (rD:ρ[iD]?=some (some V)) (hQ:∀vJ f s' cD cN cI,(∃qv pR pm c' ql,vJ=fnX "inner" t.2.2.2 params bi sc qv .none .none pR pm none (.ref c') ql)->xw G vJ Ti bi dn cD cN cI->wb A oe f cI->SR G sB ot om oe To φ ρ σ β P m s'->qy G s' φ β P f cD cN cI vJ V n->Q .next s'):
 ao (ar oj wd) A (bz (.FunctionDef "inner" params bi [] none [] sc none "inner" pos) oe) Q oE s:=by
 refine o6 (Ht S O.kD) λcD hD=>?_;refine o6 (Ht S O.kN) λcN hN=>?_;refine o6 (Ht S O.kI) λcI hI=>?_;refine Uy (t:=t) (c:=cI) FC.IB S FC.hE xa Jq zc w_ hq Zi Jf OB (TP O.hs O.hl hD hI hN) O.kI hI vI λf oJ ql pR pm c' pA whM hPf YL Dr Yp=>?_;have sf:∀{y:Str}{c:aw},oe.cells.lookup y=some c->sY G c:=λhc=>S.er.bsafe _ (.inr (.inr ⟨_,hc⟩));refine hQ _ f oJ cD cN cI ⟨_,pR,pm,c',ql,rfl⟩ {
  stmts:=rfl
  tb:=O.tb
  co:=O.co
  gen:=O.gen
  glob:=rfl
  bi:=rfl
  lN:=rfl
  lI:=rfl
  lD:=O.look cN cI cD
  all:=λ{C} h1 h2 h3 x c h=>oZ (C:=λe=>C e.1 e.2) h1 (oZ h2 (oZ h3 wg)) (x,c) (mem_of_lookup h)
  ne1:=λz=>absurd (FC.hE.inj "n" "inner" cN hN (z▸hI)) (by decide)
  ne2:=λz=>O.ne.1 (FC.hE.inj "n" dn cN hN (z▸hD))
  ne3:=λz=>O.ne.2 (FC.hE.inj "inner" dn cI hI (z▸hD))
  safe:=qJ (sf hD) (sf hN) (sf hI)
  cell:=O.cell
  free:=O.free
  only:=O.only} (λs Q E hc hQ=>jo FC.hE.kind (FC.hE.cel _ O.kI) hI hc hQ) pA {
  fo:=oV _ YL rfl
  fc:=Dr
  iD:=LV pA FC.hE O.kD hD O.vD rD
  iN:=(LV pA FC.hE O.kN hN O.vN rN).elim λv' e=>e.2.inv.elim λt q=>⟨t,q▸e.1⟩
  iI:=Yp}
theorem Uk:Cx CU wQ "digits" HC [("L",.local),("R",.local),("mid",.local),("shift",.local)] 1 0 where
 hs:=rfl
 hl:=by decide +kernel
 tb:=⟨rfl,λx hx q=>absurd (aj.mp (by decide +kernel:HC.names.all (λe=>e.2 != .cell)=true) x hx) (by refine oa q ?_;decide),rfl,Ud⟩
 co:=rfl
 gen:=rfl
 cell:=qJ rfl rfl rfl
 free:=qJ rfl rfl rfl
 kI:=rfl
 kN:=rfl
 kD:=rfl
 vN:=rfl
 vD:=rfl
 ne:=by decide
 look:=λY Y Y=>rfl
theorem whg{ds:List Int}{xs:List Value}(r:oA tk φ h β P (ds.map .int) xs):(!xs.toArray.isEmpty)=!ds.isEmpty:=by
 induction ds using af with
 |nil=>refine oa r.unnil ?_;rfl
 |cons d ds=>refine pK r.uncons λy ys e Y=>?_;refine oa e ?_;rfl
theorem wbo{ds:List Int}(h0:ρ[i]?=some (some (.lst (ds.map .int))))(hl:ds.length<=1000):ev pP σ ρ (.call .len (.cons (.var i) .nil))=some (.int ds.length):=by
 rewrite [xH];refine oa (q6 (ol h0)) ?_;show(if(ds.map AV.int).length<=100000 then some (AV.int ((ds.map AV.int).length:Nat))else none)=_;refine oa (ac _) ?_;refine oa (if_pos (ae hl (by decide))) ?_;rfl
theorem Ul{A:br}{oe:Env}{G:GD}{s:ah}{φ:Gh}{P om:aw->Prop}{m:Str->Option Value}{sB:ah}{ot:Gh}{p:Nat->cq}{ds:List Int}{n:Int}{f cD cN cI:aw}{vJ:cg}(FC:o_ G A pP sB om oe CU)(L:wb A oe f cI)(S:SR G sB ot om oe CU φ [some (.lst (ds.map .int)),some (.int n),none] [] [] P m s)(F:qy G s φ [] P f cD cN cI vJ (.lst (ds.map .int)) n)(oU:ds.length<=1000)(H:0<ds.length->EC G A sB ot om f cD cN cI vJ n ds 0 ds.length):
 ao (ar oj wd) A (bK (.IfExp (.Name "digits" (p 0)) (.Call (.Name "inner" (p 1)) [.Constant (.int 0) 0 (p 2),.Call (.Name "len" (p 3)) [.Name "digits" (p 4)] [] (p 5)] [] (p 6)) (.Constant (.int 0) 0 (p 7)) (p 8)) oe) (λx s'=>∃ow,GX G sB ot s' ow/\VR G.tok ow s'.heap [] om (.int (qL n ds)) x) oE s:=by
 refine PyProof.Rows.IfExp_ (i9 (Eo FC (v:=.lst (ds.map .int)) rfl S F λx oF ou oD oT tM oM=>oM.e_lst λl xs hl pl rl=>?_) rfl);refine wpAny_truthy_list hl.isList (by refine oa aC ?_;refine rwj rl.length ?_;refine oa (ac _) ?_;exact Cm oU rfl) ?_;refine oa (whg rl) ?_;have oW:GX G ou oF {ou with toks:=ou.toks+1+1} oF:=.same oD.tk pQ.tok (aV _ 2);have pA:=oT.go oW;have uh:=tM.go oT.er oW oT.tabs.1
 induction hb:ds.isEmpty using aZ with
 |true =>
  refine(if_neg (by decide)).mpr (Eo FC (v:=.int 0) rfl pA uh λx sU ro qA sC Cr vY=>?_);refine oa (fN.mp hb) ?_;exact oV sU sC.done (vY.scalar rfl λY Y e=>e)
 |false =>
  refine(if_pos rfl).mpr (Hr (K:=λv=>∃t,v=.int (qL n ((ds.drop 0).take (ds.length-0))) t) rfl FC L (as:=[.int 0,.int ds.length]) (rW pX (wbo rfl oU)) (H (iX.mpr λe=>by rw[e]at hb;cases hb) []) pA uh λv qq sU AX A4 xg ro sC Cr rA=>o6 qq λt e=>?_);rw[List.drop_zero,lc,jy]at e;refine oa e ?_;exact oV sU sC.done (.int _ _)
theorem Ui{A:br}{G:GD}{p q:Nat->cq}{ds:List Int}{n:Int}{fd:cg}{t:aw×aw×cq×Str}{x:Str}{k:Nat}(O:EK G fd ["digits","n"] (HA p q) t (q 42)) (tA:fd.scope=CT) (hk:G.fns k=some (x,fd)) (hG:rO G) (hN:ui G) (D:r0 A 13) (uN:∀d∈ds,d.natAbs<2^64) (oU:ds.length<=1000) (rF:0<=n) (hn:n.toNat<=64) {a:aw} (ha:G.mg x=some (.ref a)):xq G A (.ref a) [.lst (ds.map .int),.int n] (.int (qL n ds)):=by
 have hT:rI ["digits","n"] fd.scope=CU:=by refine oa tA ?_;rfl
 refine Dc (Φ:=pP) O.ok hk (by have:=D.depth;exact Ci this) (λoe=>CF (D.deeper oe) hG hN) rfl (λL fa s φ P P' m ou FC S=>?_) ha;rw[hT]at FC S;refine aR (Qb Uk FC S O.tm O.tu O.code ?_ O.pos rfl rfl rfl (λi v hi hv=>?_) rfl rfl λvJ f s' cD cN cI Ar Fd Ld pA uh=>?_)
 ·unfold gW;refine oa (show(cV fd L fa).kindOf ("inner":Str)=CT.names.lookup ("inner":Str)from congrArg (λsc:cj=>sc.names.lookup ("inner":Str)) tA) ?_;refine oa (if_neg (by decide)) ?_;exact O.qual
 ·cases Uc.symm.trans hi;exact zx hv
 ·refine aR (dy (up (Ul FC Ld pA uh oU λw_=>Ug Fd (λx y=>?_) FC.IB hG hN FC.hP₀ uN oU rF hn 10 _ ((D.deeper _).le (by decide)) 0 ds.length w_ (ai _) (ae oU (by decide))) λx ro r=>⟨x,rfl,r⟩));refine Fo Ar ?_;rintro qv pR pm c' ql rfl;exact Sw
noncomputable def dg(n:Nat):Nat->Nat->List Int
 |0,_=>[]
 |k+1,a=>((a%2^n:Nat):Int)::dg n k (a/2^n)
theorem Mi:dg n 0 x=[]:=rfl
theorem zZ:dg n (k+1) x=↑(x%2^n)::dg n k (x/2^n):=rfl
theorem E_(n:Nat):∀k a,(dg n k a).length=k:=by
 intro vv
 induction vv with
 |zero =>
  intro _;exact rfl
 |succ k ih =>
  intro a;rw[zZ,aF,ih]
theorem UG(n:Nat):∀j a m,j<=m->dg n j (a%2^(n*m))=dg n j a:=by
 intro vv
 induction vv with
 |zero =>
  intro _ _ _;exact rfl
 |succ j ih =>
  intro a m h;obtain⟨m',rfl⟩:∃m',m=m'+1:=⟨m-1,by lia⟩
  rw[zZ,zZ,gy,dc (n*m') n,gS];rw[Nat.mod_mul_right_mod,Nat.mod_mul_right_div_self,ih (a/2^n) m' (cP h)]
theorem UF(n:Nat):∀j k a,dg n (j+k) a=dg n j a++dg n k (a/2^(n*j)):=by
 intro vv
 induction vv with
 |zero =>
  intro k a;simp[Mi]
 |succ j ih =>
  intro k a;rw[show j+1+k=(j+k)+1 from i6 (fj j k 1),zZ,zZ,ih k,fO,Nat.div_div_eq_div_mul,<-gS,gy,dc n]
theorem UH(n:Nat)(j k a:Nat):dg n (j+k) a=dg n j (a%2^(n*j))++dg n k (a/2^(n*j)):=by
 rw[UF,UG n j a j (ai _)]
theorem R0(x k:Nat):x &&& (x/2^k*2^k)=x/2^k*2^k:=by
 apply iS;intro i;rw[ip,Nat.testBit_mul_two_pow];by_cases h:k<=i
 ·refine oa (Nat.testBit_div_two_pow _ _) ?_;refine oa (show i-k+k=i by simp[*]) ?_;cases x.testBit i<;>simp[h]
 ·simp[h]
theorem whs(x k:Nat):jG (x:Int) ((x/2^k:Nat)*2^k)=((x%2^k:Nat):Int):=by
 have e:(((x/2^k:Nat):Int)*2^k)=((x/2^k*2^k:Nat):Int):=by
  refine oa (cU _ _) ?_;refine oa (dO _ _) ?_;rfl
 refine oa e ?_;refine oa (bitXor_and _ _) ?_;have h:mC (x:Int) ((x/2^k*2^k:Nat):Int)=((x/2^k*2^k:Nat):Int):=by
  unfold mC;have h1:decide (0<=(x:Int))=true:=decide_eq_true (az _);have h2:decide (0<=((x/2^k*2^k:Nat):Int))=true:=decide_eq_true (az _);refine oa h1 ?_;refine oa h2 ?_;show((Int.toNat _ &&& Int.toNat _:Nat):Int)=_;refine oa (aT _) ?_;refine oa (aT _) ?_;refine oa (R0 _ _) ?_;rfl
 refine oa h ?_;have:=et x (2^k);rw[cE]at this
 lia
noncomputable def OY:List (Str×cX):=[("x",.local),("L",.local),("R",.local),("mid",.local),("shift",.local),("upper",.local),("lower",.local),("a_digits",.free),("inner",.free),("n",.free)]
noncomputable def vm:Tb:={names:=OY,vars:=[("x",0),("L",1),("R",2),("mid",3),("shift",4),("upper",5),("lower",6),("a_digits",7),("n",8)],next:=9}
noncomputable def DG(p:Nat->cq):List Stmt :=
 [.If (.Compare (.BinOp (.Name "L" (p 0)) .Add (.Constant (.int 1) 0 (p 1)) (p 2)) [.Eq] [.Name "R" (p 3)] (p 4)) [.Assign [.Subscript (.Name "a_digits" (p 5)) (.Name "L" (p 6)) (p 7)] (.Name "x" (p 8)) (p 9),.Return none (p 10)] [] (p 11),
  .Assign [.Name "mid" (p 12)] (.BinOp (.BinOp (.Name "L" (p 13)) .Add (.Name "R" (p 14)) (p 15)) .RShift (.Constant (.int 1) 0 (p 16)) (p 17)) (p 18),
  .Assign [.Name "shift" (p 19)] (.BinOp (.BinOp (.Name "mid" (p 20)) .Sub (.Name "L" (p 21)) (p 22)) .Mult (.Name "n" (p 23)) (p 24)) (p 25),
  .Assign [.Name "upper" (p 26)] (.BinOp (.Name "x" (p 27)) .RShift (.Name "shift" (p 28)) (p 29)) (p 30),
  .Assign [.Name "lower" (p 31)] (.BinOp (.Name "x" (p 32)) .BitXor (.BinOp (.Name "upper" (p 33)) .LShift (.Name "shift" (p 34)) (p 35)) (p 36)) (p 37),
  .Expr (.Call (.Name "inner" (p 38)) [.Name "lower" (p 39),.Name "L" (p 40),.Name "mid" (p 41)] [] (p 42)) (p 43),
  .Expr (.Call (.Name "inner" (p 44)) [.Name "upper" (p 45),.Name "mid" (p 46),.Name "R" (p 47)] [] (p 48)) (p 49)]
theorem Z5:wc vm:=Ef (by decide +kernel)
theorem oA.set(ry:VR tk φ h β P u y)(r:oA tk φ h β P vs xs):∀k,oA tk φ h β P (vs.set k u) (xs.set k y):=by
 refine oA.ind (motive:=λvs xs=>∀k,oA tk φ h β P (vs.set k u) (xs.set k y)) (λY=>.nil) (λ{v x vs xs} a r ih k=>?_) r
 induction k using ce with
 |zero=>exact .cons ry r
 |succ k=>exact .cons a (ih k)
theorem weD{s:ah}{a:aw}{ys:List Value}{DW kk:Nat}{xv:Value}(e:s.heap.get? a=some {cls:=.type "list",data:=.seq ys.toArray DW}):
 (s.heap.update a (fg (·.setIfInBounds (kk:Int).toNat xv))).PlainList a (ys.set kk xv).toArray:=by
 have hd:(fg (·.setIfInBounds (kk:Int).toNat xv) ({cls:=.type "list",data:=.seq ys.toArray DW}:nk)).data=.seq (ys.set kk xv).toArray DW:=by simp[fg]
 refine⟨DW,?_⟩;refine oa (ey _ e (Obj.isFreed_of_seq hd)) ?_;simp[fg]
theorem weU{T:Tb}{σ:oH}(F:o_ G A Φ sB om oe T){x:Str}{px sp pos:cq}{k v:Expr}{n i:Nat}{kk:Nat}{u:AV}{vs:List AV}(hx:T.var x=some n)(td:ρ[n]?=some (some (.ref i)))(hv:ev Φ σ ρ (oy T v)=some u)(tA:u.scalar=true)(hk:ev Φ σ ρ (oy T k)=some (.int kk))(hi:σ[i]?=some (.list vs))(o9:kk<vs.length)(o3:vs.length<=100000):
 qo G A sB ot om oe T ρ σ (bz (.Assign [.Subscript (.Name x px) k sp] v pos) oe) (.next ρ (σ.set i (.list (vs.set kk u)))):=λs φ β P m S =>
 l9 ((qQ F.hO _ v (ai _) oe T ρ _ F.hE hv).1.post (S.inv F.IB) S.er λxv ou oF oD ph oP oM=>(HJ F.hE hx td).post ph oP λxo oJ o4 oW rU qi pT =>
  (qQ F.hO _ k (ai _) oe T ρ _ F.hE hk).1.post rU qi λxk ro sU qA Cu vB vY=>by
   refine oB (VR.refOf pT) ?_;rintro a rfl ha;have BQ:=(oD.trans oW).trans qA;refine vY.e_int λt=>(S.go BQ).listAt hi ha λys e rs=>?_;have hl:ys.length=vs.length:=rs.length.symm;rw[<-hl]at o9 o3;refine o6 (id e) λDW e'=>?_;exact ki_setAt e' (az _) (by lia) (by refine oa aC ?_;exact yG o9) ⟨rfl,((S.go BQ).relist (t:=ro.toks) hi ha (eB ..) (ai _) e (weD e') (rs.set (oM.scalar tA λt y e=>qA.sub t y (oW.sub t y e)) kk)).after (.go BQ)⟩) QQ
noncomputable def tH(n:Nat)(ds:List Int)(lo hi x:Nat):List Int:=ds.take lo++dg n (hi-lo) x++ds.drop hi
theorem wdN{n:Nat}{ds:List Int}{lo hi x:Nat}(h1:lo<=hi)(h2:hi<=ds.length):(tH n ds lo hi x).length=ds.length:=by
 simp only[tH,aq,dE,dF,E_];rw[ir (ae h1 h2),eS h1,eS h2]
theorem wdO{n:Nat}{ds:List Int}{lo x:Nat}(h:lo<ds.length)(hx:x<2^n):tH n ds lo (lo+1) x=ds.set lo x:=by
 rw[tH,cH,zZ,Mi,jD hx];rw[List.set_eq_take_append_cons_drop,if_pos h];simp
theorem wdP{n:Nat}{ds:List Int}{lo pE hi x:Nat}(h1:lo<=pE)(h2:pE<=hi)(h3:hi<=ds.length):
 tH n (tH n ds lo pE (x%2^(n*(pE-lo)))) pE hi (x/2^(n*(pE-lo)))=tH n ds lo hi x:=by
 have e1:(tH n ds lo pE (x%2^(n*(pE-lo)))).take pE=ds.take lo++dg n (pE-lo) (x%2^(n*(pE-lo))):=by
  unfold tH;apply jK;simp only[aq,dE,E_];rw[ir (ae h1 (ae h2 h3)),eS h1]
 have e2:(tH n ds lo pE (x%2^(n*(pE-lo)))).drop hi=ds.drop hi:=by
  unfold tH;have hl:(ds.take lo++dg n (pE-lo) (x%2^(n*(pE-lo)))).length=pE:=by simp only[aq,dE,E_];rw[ir (ae h1 (ae h2 h3)),eS h1]
  rw[List.drop_append,fB (by refine oa hl ?_;exact h2),hl,nq,cS,show pE+(hi-pE)=hi by simp[*]]
 unfold tH at e1 e2 ⊢;refine oa e1 ?_;refine oa e2 ?_
 conv=>rhs;rw[show hi-lo=(pE-lo)+(hi-pE)by rw[dc,ik h2 h1],UH]
 simp only[ch]
section
variable {A:br}{oe:Env}{T:Tb}{ρ oC:oI}{σ ox u3:oH}{G:GD}{s s' qV:ah}{φ ow xp:Gh}{β oO Ez:List aw}{P P' Cy om:aw->Prop}{m m':Str->Option Value}{tk:aw}{h h':bU}
variable {sB:ah}{ot:Gh}{Φ:rd}{mu:List Str}
variable {f cD cN cI:aw}{fd:cg}{V:AV}{n:Nat}{p:Nat->cq}{ds:List Int}{lo hi pE x:Nat}
noncomputable abbrev uf(ds:List Int):oH:=[.list (ds.map .int)]
noncomputable def F7(x lo hi n:Nat):oI:=[some (.int x),some (.int lo),some (.int hi),none,none,none,none,some (.ref 0),some (.int n)]
theorem DI(x:Str):vm.names.lookup x≠some .cell:=λq=>PY (by decide +kernel) q
theorem wes{x k:Nat}(h:k<=1000000):rP σ .RShift (.int x) (.int k)=some (.int (x/2^k:Nat)):=
 (if_pos ⟨az _,d_.mpr h⟩).trans (by rw[aT,bY _ (Int.pow_nonneg (by decide)),eQ,dO];rfl)
theorem PI{x k:Nat}(h:k<=1000000)(hx:x<2^4096):rP σ .LShift (.int x) (.int k)=some (.int ((x:Int)*2^k)):=
 (if_pos ⟨az _,d_.mpr h,decide_eq_true (by rw[bl];exact hx)⟩).trans (by rw[aT])
theorem Z_{k:Nat}(hk:k<=1000000)(hx:x<2^4096)(h0:ρ[0]?=some (some (.int x)))(h4:ρ[4]?=some (some (.int k)))(h5:ρ[5]?=some (some (.int (x/2^k:Nat)))):ev pP σ ρ (.bin .BitXor (.var 0) (.bin .LShift (.var 5) (.var 4)))=some (.int (x%2^k:Nat)):=
 qp (ol h0) (qp (ol h5) (ol h4) (PI hk (aM (j0 _ _) hx))) (congrArg (λi=>some (AV.int i)) (whs x k))
theorem wad(hm:lo<=pE)(hn:n<=64)(h1:ρ[1]?=some (some (.int lo)))(h3:ρ[3]?=some (some (.int pE)))(h8:ρ[8]?=some (some (.int n))):ev pP σ ρ (.bin .Mult (.bin .Sub (.var 3) (.var 1)) (.var 8))=some (.int (n*(pE-lo):Nat)):=by
 rw[cE,cU,f8 hm];exact qp (qp (ol h3) (ol h1) rfl) (ol h8) (PR (Lm (az _) hn))
theorem Z8(h1:lo<=pE)(h2:pE<=hi)(hx:x<2^(n*(hi-lo))):x/2^(n*(pE-lo))<2^(n*(hi-pE)):=by
 refine iT ?_;rw[<-gS,<-jJ,dc,ik h2 h1];exact hx
noncomputable def G3(G:GD)(A:br)(sB:ah)(ot:Gh)(om:aw->Prop)(f cD cN cI:aw)(fd:cg)(n:Nat)(ds:List Int)(i j x:Nat):Prop :=
 EG G A sB ot om f cD cN cI fd (.ref 0) n (uf ds) (uf (tH n ds i j x)) [.int x,.int i,.int j] λY=>True
theorem Hs{yg:Expr}{args:List Expr}{as:List AV}{pa pe pf:cq}{oG:List Stmt}{Q:im->ah->Prop}{K:Value->Prop}{n:Int}(qU:b_ (yg::args) oe=(false,bK yg oe)::b_ args oe)(FC:o_ G A pP sB om oe T)(L:wb A oe f cI)
 (wq:qj pP σ ρ (pk T (yg::args))=some as) (H:EG G A sB ot om f cD cN cI fd V n σ ox as K) (S:SR G sB ot om oe T φ ρ σ β P m s) (F:qy G s φ β P f cD cN cI fd V n)
 (hQ:uA G sB ot om oe T f cD cN cI fd V n φ σ β P s ρ ox λs'=>ao (ar oj wd) A (be oG oe) Q oE s'):ao (ar oj wd) A (be (.Expr (.Call (.Name ("inner":Str) pa) (yg::args) [] pe) pf::oG) oe) Q oE s :=
 aR (wpAny_Expr_any (Hr qU FC L wq H S F λY Y=>hQ) FC.hI)
theorem wab{Q:im->ah->Prop}{p0 p1 p2 p3 p4 p5:cq}{oG:List Stmt}(FC:o_ G A pP sB om oe vm)(S:SR G sB ot om oe vm φ (F7 x lo (lo+1) n) (uf ds) β P m s)(F:qy G s φ β P f cD cN cI fd (.ref 0) n)
 (Dw:lo<ds.length) (oU:ds.length<=1000) (hx:x<2^n) (hQ:∀fl sH,uA G sB ot om oe vm f cD cN cI fd (.ref 0) n φ (uf ds) β P s sH (uf (tH n ds lo (lo+1) x)) (Q fl)):
 ao (ar oj wd) A (be [.Assign [.Subscript (.Name "a_digits" p0) (.Name "L" p1) p2] (.Name "x" p3) p4,.Return none p5] oe) (GK A oe oG Q) oE s:=by
 refine aR (up (weU FC (n:=7) (i:=0) (kk:=lo) (vs:=ds.map .int) (u:=.int x) rfl rfl rfl rfl rfl rfl (by rw[ac];exact Dw) (by rw[ac];exact ae oU (by decide)) s φ β _ m S) λfw ou o7=>?_);obtain⟨rfl,oF,rj,qM,rh,oT,qg⟩:=o7;have hs:([AO.list (ds.map .int)]:oH).set 0 (.list ((ds.map .int).set lo (.int x)))=uf (tH n ds lo (lo+1) x):=by
  rw[wdO Dw hx,uf,nS];rfl
 rw[hs]at oT qg;exact aR (wpAny_Return_none (hQ (.ret .none) _ _ _ _ _ _ oT (F.carry S DI qg) qg))
theorem O0{Q:im->ah->Prop}(FC:o_ G A pP sB om oe vm)(L:wb A oe f cI)(S:SR G sB ot om oe vm φ (F7 x lo hi n) (uf ds) β P m s)(F:qy G s φ β P f cD cN cI fd (.ref 0) n)
 (hn:n<=64) (oU:ds.length<=1000) (Oo:lo<hi) (vQ:hi<=ds.length) (hx:x<2^(n*(hi-lo))) (DE:x<2^4096)
 (ih:lo+1<hi->∀ds i j x,ds.length<=1000->i<j->j<=ds.length->2*(j-i)<=hi-lo+1->x<2^(n*(j-i))->x<2^4096->G3 G A sB ot om f cD cN cI fd n ds i j x)
 (hQ:∀fl sH,uA G sB ot om oe vm f cD cN cI fd (.ref 0) n φ (uf ds) β P s sH (uf (tH n ds lo hi x)) (Q fl)):ao (ar oj wd) A (be (DG p) oe) Q oE s:=by
 refine O6 FC (b:=decide ((lo:Int)+1=hi)) (qS (qp (ol (i:=1) rfl) pX rfl) (ol (i:=2) rfl) rfl) S F (λhb oF ou oD oT tM=>?_) (λhb oF ou oD oT tM=>cW ?_)
 ·have e:hi=lo+1:=(iw (of_decide_eq_true hb)).symm;subst e;rw[cH,Nat.mul_one]at hx;exact wab FC oT tM vQ oU hx λfl sH=>(hQ fl sH).go oD
 ·have e:lo+1<hi:=Nat.lt_of_le_of_ne Oo λq=>of_decide_eq_false hb (q▸rfl);have ih:=ih e;clear hb;refine Bu (N2 e) λh1 h2 h3 h4=>?_;have hm:ev pP (uf ds) (F7 x lo hi n) (.bin .RShift (.bin .Add (.var 1) (.var 2)) (.c (.int 1)))=some (.int ((lo+hi)/2:Nat)):=qp (qp (ol (i:=1) rfl) (ol (i:=2) rfl) rfl) pX N1;generalize(lo+hi)/2=pE at *;have g1:=bb h1;have g2:=bb h2;have hs:n*(pE-lo)<=1000000:=ae (di hn (ae (jb _ _) (ae g2 (ae vQ oU)))) (by decide);refine Ba FC DI (i:=3) rfl hm oT tM λo4 rt qz rm oJ pA uh re=>?_;refine Ba FC DI (i:=4) rfl (wad (lo:=lo) (pE:=pE) g1 hn rfl rfl rfl) pA uh λsU AX A4 xg ro sC Cr rA=>?_;refine Ba FC DI (i:=5) rfl (qp (ol (i:=0) rfl) (ol (i:=4) rfl) (wes hs)) sC Cr λyH K7 G8 wA sF t6 Cs wH=>?_;refine Ba FC DI (i:=6) rfl (Z_ hs DE rfl rfl rfl) t6 Cs λGY Rt Lb J1 rY CA Rw K9=>?_;refine Hs rfl FC L (uo (ol rfl) (ol rfl) (ol rfl)) (ih ds lo pE _ oU h1 (ae g2 vQ) h4 (bj _ (ck _)) (aM (Nat.mod_le _ _) DE)) CA Rw λwhF wii whG whV Cc EL Rx zM=>?_;have hl:(tH n ds lo pE (x%2^(n*(pE-lo)))).length=ds.length:=wdN g1 (ae g2 vQ);refine Hs rfl FC L (uo (ol rfl) (ol rfl) (ol rfl)) (ih _ pE hi _ (hl▸oU) h2 (hl▸vQ) h3 (Z8 g1 g2 hx) (aM (j0 _ _) DE)) EL Rx λCn wij whH whW x7 Lc Ry K'=>cW ?_;rw[wdP g1 g2 vQ]at Lc K';exact hQ .next _ _ _ _ _ _ Lc Ry ((pB.go oD).trans (re.trans (rA.trans (wH.trans (K9.trans (zM.trans K'))))))
theorem O1{Es Eu Ey:Value}{K:Value->Prop}{k:Nat}(Fd:xw G fd vm (DG p) "a_digits" cD cN cI) (vM:∀x y z:Value,dS fd ⟨[x,y,z],[]⟩=pure [(("x":Str),x),(("L":Str),y),(("R":Str),z)]) (IB:pp G sB.heap) (hG:rO G) (hN:ui G) (hP₀:∀a,sB.heap.objs.size<=a->om a) (D:r0 A (k+1))
 (S:SR G sB ot om oe T φ ρ σ β P m s) (F:qy G s φ β P f cD cN cI fd (.ref 0) n) (rx:VR G.tok φ s.heap β P (.int x) Es) (ry:VR G.tok φ s.heap β P (.int lo) Eu) (rz:VR G.tok φ s.heap β P (.int hi) Ey)
 (yw:∀(A':br) (sZ:Env) (s':ah) (P':aw->Prop) (m':Str->Option Value) (Q:im->ah->Prop),r0 A' k->o_ G A' pP sB om sZ vm->wb A' sZ f cI->SR G sB ot om sZ vm φ (F7 x lo hi n) σ β P' m' s'->qy G s' φ β P' f cD cN cI fd (.ref 0) n ->
  (∀fl sH,K (Aj fl)->uA G sB ot om sZ vm f cD cN cI fd (.ref 0) n φ σ β P' s' sH ox (Q fl))->ao (ar oj wd) A' (be (DG p) sZ) Q oE s'):
 ao (ar oj wd) A (call (.ref f) [Es,Eu,Ey]) (EH G sB ot om oe T φ ρ σ β P m s ox K) oE s :=
 O_ Fd IB hG hN hP₀ D S F (vM Es Eu Ey) (oZ rfl (oZ rfl (oZ rfl wg))) rfl
  (oZ (λv e=>.loc e rfl rfl rx) (oZ (λv e=>.loc e rfl rfl ry) (oZ (λv e=>.loc e rfl rfl rz) (oZ (λv e=>zx e) (oZ (λv e=>zx e) (oZ (λv e=>zx e) (oZ (λv e=>zx e) (oZ (λv e=>.dig e) (oZ (λv e=>.num e) wg))))))))) yw
theorem Z'(Fd:xw G fd vm (DG p) "a_digits" cD cN cI) (vM:∀x y z:Value,dS fd ⟨[x,y,z],[]⟩=pure [(("x":Str),x),(("L":Str),y),(("R":Str),z)]) (IB:pp G sB.heap) (hG:rO G) (hN:ui G) (hP₀:∀a,sB.heap.objs.size<=a->om a) (hn:n<=64):
 ∀(k:Nat) (A:br),r0 A (k+1)->∀(ds:List Int) (lo hi x:Nat),ds.length<=1000->lo<hi->hi<=ds.length->hi-lo<=2^k->x<2^(n*(hi-lo))->x<2^4096->G3 G A sB ot om f cD cN cI fd n ds lo hi x:=by
 intro k
 induction k with
 |zero =>
  intro A D ds lo hi x h0 h1 h2 h3 h4 h5 oe T φ ρ β P m s xs S F r;refine r.e3 λEs Eu Ey rx ry rz=>?_;exact O1 Fd vM IB hG hN hP₀ D S F rx ry rz λA' sZ s' P' m' Q D' FC L S' F' hQ=>O0 FC L S' F' hn h0 h1 h2 h4 h5 (λq=>absurd h3 (by lia)) λfl sH=>hQ fl sH trivial
 |succ k ih =>
  intro A D ds lo hi x h0 h1 h2 h3 h4 h5 oe T φ ρ β P m s xs S F r;refine r.e3 λEs Eu Ey rx ry rz=>?_;exact O1 Fd vM IB hG hN hP₀ D S F rx ry rz λA' sZ s' P' m' Q D' FC L S' F' hQ=>O0 FC L S' F' hn h0 h1 h2 h4 h5 (λY ds i j x q0 q1 q2 q3 q4 q5=>ih A' D' ds i j x q0 q1 q2 (by rw[fE]at h3;lia) q4 q5) λfl sH=>hQ fl sH trivial
end
noncomputable def Qg(x y z:Str)(p q r:cq):dj:=⟨[],[⟨x,none,p⟩,⟨y,none,q⟩,⟨z,none,r⟩],none,[],[],none,[]⟩
noncomputable def Jw:cj:={kind:=.function,names:=OY,isGenerator:=false,isCoroutine:=false}
noncomputable def DH:cj:={kind:=.function,names:=[("a",.local),("n",.cell),("a_digits",.cell),("inner",.cell),("len",.globalImplicit)],isGenerator:=false,isCoroutine:=false}
noncomputable def Jv(p q:Nat->cq):List Stmt :=
 [.Assign [.Name "a_digits" (p 0)] (.BinOp (.List [.Constant (.int 0) 0 (p 1)] (p 2)) .Mult (.BinOp (.BinOp (.BinOp (.Call (.Attribute (.Name "a" (p 3)) "bit_length" (p 4)) [] [] (p 5)) .Add (.Name "n" (p 6)) (p 7)) .Sub (.Constant (.int 1) 0 (p 8)) (p 9)) .FloorDiv (.Name "n" (p 10)) (p 11)) (p 12)) (p 13),
  .FunctionDef "inner" (Qg "x" "L" "R" (q 50) (q 51) (q 52)) (DG q) [] none [] Jw none "inner" (q 53),
  .If (.Name "a" (p 14)) [.Expr (.Call (.Name "inner" (p 15)) [.Name "a" (p 16),.Constant (.int 0) 0 (p 17),.Call (.Name "len" (p 18)) [.Name "a_digits" (p 19)] [] (p 20)] [] (p 21)) (p 22)] [] (p 23),
  .Return (some (.Name "a_digits" (p 24))) (p 25)]
theorem Sx :
 dS (fnX "inner" qual (Qg "x" "L" "R" p q r) body sc qv .none .none pR pm none cv ql) ⟨[u,v,x],[]⟩=pure [(("x":Str),u),(("L":Str),v),(("R":Str),x)]:=by rfl
noncomputable def xd:Tb:=rI ["a","n"] DH
theorem Z4:xd.var "inner" = some 3:=by rfl
noncomputable def pU(n a:Nat):Nat:=(aH a+n-1)/n
set_option tactic.hygienic true in
theorem JD{a:Nat}:a<2^aH a:=by
 unfold aH;split
 ·rename_i h;have:a=0:=by simpa using h
  subst this;decide
 ·refine oa (bl _) ?_;exact Nat.lt_log2_self
theorem HD{n a:Nat}(hn:0<n):a<2^(n*pU n a):=by
 refine ab JD (aD (by decide) ?_);exact Ri hn
theorem HE(hn:0<n)(ha:a<2^1000):pU n a<=1000:=by
 have:=Gb (a:=a) (k:=1000) (by rwa [bl]);unfold pU;generalize aH a=b at this;have h1:(b+n-1)/n<1001:=by
  rw[fK hn];have:1000*n >= 1000:=Nat.le_mul_of_pos_right _ hn
  lia
 exact cP h1
theorem UE(hn:0<n):pU n 0=0:=by
 unfold pU;have:aH (0:Nat)=0:=rfl;refine oa this ?_;exact h_ (by omega)
theorem UD(hn:0<n)(ha:a≠0):0<pU n a:=by
 refine gH λe=>?_;have:=HD (a:=a) hn;rw[e]at this;simp at this;exact ha this
theorem NA(σ:oH)(k:Nat):∀ds:List Int,pq (o8 σ (k+1)) (ds.map AV.int)=some (ds.map AV.int):=by
 intro vv
 induction vv with
 |nil =>
  exact rfl
 |cons d ds ih =>
  rw[aU,uv,ih];rfl
theorem wbv(hl:s.heap.IsList l vs.toArray)(h0:0<=x)(vQ:x<=100000)(pi:vs.length<=1)(h:Q (.ref s.heap.objs.size) {s with heap:=s.heap.push {cls:=.type "list",dict:=none,data:=.seq (aA x.toNat vs).flatten.toArray}}):ao (ar oj wd) A (gZ .Mult (.ref l) (.int x u)) Q E s:=by
 obtain⟨⟨cls,d,data,sl⟩,ho,hcl,k,hd⟩:=id hl;simp only at hcl hd;subst hcl hd;have ZF:vs.toArray.size*x.toNat<=100000:=by
  have:vs.toArray.size<=1:=by simpa using pi
  exact ae (di this (ai _)) (by simp[*])
 have whR:vs.length*x.toNat<=100000:=by simpa using ZF
 refine wpAny_binaryOp_repeat_ref (T := "list") (U := "int") (by decide) ⟨_,ho,rfl⟩ (λs'=>nw s' x u) noFill_list_mul F.fills_int_mul nX repeat_list F.slot_int_index.lookup
  (gg nX (nw s x u) F.entry_int_rmul (F.args_int_rmul_2 _ _) (lm_int_rmul_list_any x u l vs.toArray k d sl)
   ⟨ho,rfl,⟨_,ho,rfl⟩,gg F.slot_list_mul ⟨_,ho,rfl⟩ F.entry_list_mul (F.args_list_mul_2 _ _)
    (lm_list_mul_any l vs.toArray k d sl x u (by simp[Builtin.List.listFitsIndex];lia) (by lia) (by simp[jl,fv];lia))
    ⟨ho,?_⟩⟩)
 refine oa (listMul_foldl_if _ _) ?_;exact h
theorem W4{α:Type}(x:α):∀k:Nat,(aA k [x]).flatten=aA k x:=by
 intro vv
 induction vv with
 |zero =>
  exact rfl
 |succ k ih =>
  refine oa List.replicate_succ ?_;refine oa my ?_;refine oa (ih) ?_;rfl
theorem whh:∀k:Nat,oA tk φ h β P ((aA k (0:Int)).map .int) (aA k (.int 0 t)):=by
 intro vv
 induction vv with
 |zero =>
  exact .nil
 |succ k ih =>
  exact .cons (.int _ _) (ih)
theorem wdM(ds:List Int)(h:ds.length=k):tH n ds 0 k x=dg n k x:=by
 rw[tH,List.take_zero,cS,lc,fB (bd h),bB]
theorem wac:Cx xd vm "a_digits" Jw [("x",.local),("L",.local),("R",.local),("mid",.local),("shift",.local),("upper",.local),("lower",.local)] 1 2 where
 hs:=rfl
 hl:=by decide +kernel
 tb:=⟨rfl,λx hx q=>absurd (aj.mp (by decide +kernel:Jw.names.all (λe=>e.2 != .cell)=true) x hx) (by refine oa q ?_;decide),rfl,Z5⟩
 co:=rfl
 gen:=rfl
 cell:=qJ rfl rfl rfl
 free:=qJ rfl rfl rfl
 kI:=rfl
 kN:=rfl
 kD:=rfl
 vN:=rfl
 vD:=rfl
 ne:=by decide
 look:=λY Y Y=>rfl
noncomputable def zi(a n:Nat)(v:Option AV):oI:=[some (.int a),some (.int n),v,none]
theorem TZ{σ:oH}{a n:Nat}(rF:0<n)(hn:n<=64):rP σ .FloorDiv (.int ((aH a:Int)+n-1)) (.int n)=some (.int (pU n a)):=by
 refine(if_neg λq=>?_).trans ?_
 ·rw[show small (n:Int)=true from decide_eq_true (by rw[bl];exact aM hn (by decide))]at q;exact q.elim (λq=>absurd (iw q) (cO rF)) λq=>nomatch q
 ·rw[bY _ (az _),pU,eQ,f8 (ae rF (em _ _)),dw];rfl
theorem Z6(rF:0<n)(hn:n<=64)(Dv:p4.endLine=p5.line):
 ev pP σ (zi a n v) (oy xd (.BinOp (.BinOp (.BinOp (.Call (.Attribute (.Name "a" p3) "bit_length" p4) [] [] p5) .Add (.Name "n" p6) p7) .Sub (.Constant (.int 1) 0 p8) p9) .FloorDiv (.Name "n" p10) p11))=some (.int (pU n a)):=by
 have hm:s5 (.Name "a" p3) 0 p4 p5=true:=by
  show(true&&(p4.endLine==p5.line)&&true)=true;rw[Dv,eV,i7];exact beq_self_eq_true _
 refine(congrArg (λb=>ev pP σ (zi a n v) (.bin .FloorDiv (.bin .Sub (.bin .Add (JX ("bit_length":Str) b (.var 0) true .nil) (.var 1)) (.c (.int 1))) (.var 1))) hm).trans ?_;have hb:ev pP σ (zi a n v) (.call .bitLength (.cons (.var 0) .nil))=some (.int (aH a)):=by rw[xH,q6 (ol rfl)];rfl
 exact qp (qp (qp hb (ol (i:=1) rfl) rfl) pX rfl) (ol (i:=1) rfl) (TZ rF hn)
theorem Z7{A:br}{oe:Env}{G:GD}{s:ah}{φ:Gh}{P om:aw->Prop}{m:Str->Option Value}{sB:ah}{ot:Gh}{p:Nat->cq}{a n:Nat}{Q:im->ah->Prop}(FC:o_ G A pP sB om oe xd)(S:SR G sB ot om oe xd φ (zi a n none) [] [] P m s)(rF:0<n)(hn:n<=64)(Dn:a<2^1000)(Dv:(p 4).endLine=(p 5).line)(hQ:∀ow oO P' m' s',SR G sB ot om oe xd ow (zi a n (some (.ref 0))) (uf (aA (pU n a) 0)) oO P' m' s'->Q .next s'):
 ao (ar oj wd) A (bz (.Assign [.Name "a_digits" (p 0)] (.BinOp (.List [.Constant (.int 0) 0 (p 1)] (p 2)) .Mult (.BinOp (.BinOp (.BinOp (.Call (.Attribute (.Name "a" (p 3)) "bit_length" (p 4)) [] [] (p 5)) .Add (.Name "n" (p 6)) (p 7)) .Sub (.Constant (.int 1) 0 (p 8)) (p 9)) .FloorDiv (.Name "n" (p 10)) (p 11)) (p 12)) (p 13)) oe) Q oE s:=by
 have An:=HE rF Dn;refine dA (fx ((qQ FC.hO _ _ (ai _) _ _ _ (.lst [.int 0]) FC.hE rfl).1.post (S.inv FC.IB) S.er λxl oJ o4 oW rU qi pT=>(qQ FC.hO _ _ (ai _) _ _ _ _ FC.hE (Z6 rF hn Dv)).1.post rU qi λxc ro sU qA Cu vB vY=>?_)) rfl;have sC:=(S.go oW).go qA;refine vY.e_int λt3=>(qi.vr qA pT).e_lst λl Rg hl pl rl=>rl.e1 (motive:=λRg=>ro.heap.PlainList l Rg.toArray->_) (λy ry=>ry.e_int λty hl=>?_) hl;refine wbv hl.isList (az _) (d_.mpr (ae An (by decide))) (ai _) ?_;refine oa (aT _) ?_;refine oa (W4 _ _) ?_;refine wX (QX sC (whh (t:=ty) (pU n a))) λyH K7 G8 wA t6 wH weu=>?_;exact zE FC (x := "a_digits") (i:=2) rfl t6 weu λrY J1 CA K9 Y=>hQ _ _ _ _ _ CA
theorem OZ(FC:o_ G A pP sB om oe xd)(S:SR G sB ot om oe xd φ (zi a n (some (.ref 0))) (uf ds) β P m s):ao (ar oj wd) A (be [.Return (some (.Name "a_digits" p1)) p2] oe) (zK G sB ot om (.lst (ds.map .int))) oE s :=
 aR (dy ((qQ FC.hO _ _ (ai _) _ _ _ (.ref 0) FC.hE rfl).1.post (S.inv FC.IB) S.er λxv ou oF oD ph oP oM=>⟨xv,rfl,oF,(S.go oD).done,(S.go oD).frozen (v:=.ref 0) FC.hP₀ (congrArg (bJ AV.lst) (NA (uf ds) 4 ds)) oM⟩))
theorem wbp(h0:ρ[i]?=some (some (.ref 0)))(hl:ds.length<=1000):ev pP (uf ds) ρ (.call .len (.cons (.var i) .nil))=some (.int ds.length):=by
 rewrite [xH];refine oa (q6 (ol h0)) ?_;show(if(ds.map AV.int).length<=100000 then some (AV.int ((ds.map AV.int).length:Nat))else none)=_;refine oa (ac _) ?_;refine oa (if_pos (ae hl (by decide))) ?_;rfl
theorem Z9{A:br}{oe:Env}{G:GD}{s:ah}{φ:Gh}{β:List aw}{P om:aw->Prop}{m:Str->Option Value}{sB:ah}{ot:Gh}{p:Nat->cq}{a n:Nat}{f cD cN cI:aw}{vJ:cg}(FC:o_ G A pP sB om oe xd)(L:wb A oe f cI)(S:SR G sB ot om oe xd φ (zi a n (some (.ref 0))) (uf (aA (pU n a) 0)) β P m s)(F:qy G s φ β P f cD cN cI vJ (.ref 0) n)(rF:0<n)(An:pU n a<=1000)(H:a≠0->G3 G A sB ot om f cD cN cI vJ n (aA (pU n a) 0) 0 (pU n a) a):
 ao (ar oj wd) A (be [.If (.Name "a" (p 14)) [.Expr (.Call (.Name "inner" (p 15)) [.Name "a" (p 16),.Constant (.int 0) 0 (p 17),.Call (.Name "len" (p 18)) [.Name "a_digits" (p 19)] [] (p 20)] [] (p 21)) (p 22)] [] (p 23),.Return (some (.Name "a_digits" (p 24))) (p 25)] oe) (zK G sB ot om (.lst ((dg n (pU n a) a).map .int))) oE s:=by
 refine aR (ix (i9 (Eo FC (v:=.int a) rfl S F λx oF ou oD oT tM oM=>oM.e_int λt=>truthy_int ?_) rfl));by_cases hz:a=0
 ·subst hz;refine oa (if_neg (by decide)) ?_;rw[UE rF]at oT ⊢;exact cW (OZ FC oT)
 ·refine oa (if_pos (by simpa using hz)) ?_;have el:ev pP (uf (aA (pU n a) 0)) (zi a n (some (.ref 0))) (.call .len (.cons (.var 2) .nil))=some (.int (pU n a)):=(wbp rfl (by refine oa cf ?_;exact An)).trans (by refine oa cf ?_;rfl);refine Hs (oG:=[]) rfl FC L (uo (ol (i:=0) rfl) pX el) (H hz) oT tM λo4 rt qz rm oJ pA uh re=>cW ?_;rw[wdM _ cf]at pA;exact OZ FC pA
theorem waa{A:br}{G:GD}{p q:Nat->cq}{a n:Nat}{fd:cg}{t:aw×aw×cq×Str}{x:Str}{k:Nat}(O:EK G fd ["a","n"] (Jv p q) t (q 53)) (tA:fd.scope=DH) (hk:G.fns k=some (x,fd)) (hG:rO G) (hN:ui G) (D:r0 A 13) (Dn:a<2^1000) (rF:0<n) (hn:n<=64) (Dv:(p 4).endLine=(p 5).line) {fa:aw} (ha:G.mg x=some (.ref fa)):xq G A (.ref fa) [.int a,.int n] (.lst ((dg n (pU n a) a).map .int)):=by
 have hT:rI ["a","n"] fd.scope=xd:=by refine oa tA ?_;rfl
 refine Dc (Φ:=pP) O.ok hk (aM (aV _ _) D.depth) (λoe=>CF (D.deeper oe) hG hN) rfl (λL fa s φ P P' m ou FC S=>?_) ha;rw[hT]at FC S;refine aR (Z7 FC S rF hn Dn Dv λoF rj qM rh ou oT=>?_);refine aR (Qb wac FC oT O.tm O.tu O.code ?_ O.pos rfl rfl rfl (λi v hi hv=>?_) rfl rfl λvJ f s' cD cN cI Ar Fd Ld pA uh=>?_)
 ·unfold gW;refine oa (show(cV fd L fa).kindOf ("inner":Str)=DH.names.lookup ("inner":Str)from congrArg (λsc:cj=>sc.names.lookup ("inner":Str)) tA) ?_;refine oa (if_neg (by decide)) ?_;exact O.qual
 ·cases Z4.symm.trans hi;exact zx hv
 ·have An:=HE rF Dn;have hl:(aA (pU n a) (0:Int)).length=pU n a:=cf;refine Z9 FC Ld pA uh rF An λhz=>Z' Fd (λx y z=>?_) FC.IB hG hN FC.hP₀ hn 10 _ ((D.deeper _).le (by decide)) _ 0 (pU n a) a (hl.symm▸An) (UD rF hz) (bd hl.symm) (ae An (by decide)) (HD rF) (ab Dn (aD (by decide) (by decide)));refine Fo Ar ?_;rintro qv pR pm c' ql rfl;exact Sx
noncomputable def EU:cj:={kind:=.function,names:=[("code",.local),("ord",.globalImplicit),("b1_set",.globalImplicit)],isGenerator:=false,isCoroutine:=false}
noncomputable def EP(p:Nat->cq):List Stmt:=[.Return (some (.Compare (.Call (.Name "ord" (p 0)) [.Name "code" (p 1)] [] (p 2)) [.In] [.Name "b1_set" (p 3)] (p 4))) (p 5)]
noncomputable def EW:cj:={kind:=.function,names:=[("code",.local),("r",.local),("b3_exceptions",.globalImplicit),("ord",.globalImplicit)],isGenerator:=false,isCoroutine:=false}
noncomputable def Hf(p:Nat->cq):List Stmt :=
 [.Assign [.Name "r" (p 0)] (.Call (.Attribute (.Name "b3_exceptions" (p 1)) "get" (p 2)) [.Call (.Name "ord" (p 3)) [.Name "code" (p 4)] [] (p 5)] [] (p 6)) (p 7),
  .If (.Compare (.Name "r" (p 8)) [.IsNot] [.Constant .none 0 (p 9)] (p 10)) [.Return (some (.Name "r" (p 11))) (p 12)] [] (p 13),
  .Return (some (.Call (.Attribute (.Name "code" (p 14)) "lower" (p 15)) [] [] (p 16))) (p 17)]
noncomputable def u6(c:Nat):List Nat:=match wM c with
 |some x=>x.cps.toList
 |none=>(m4 ⟨[c].toArray⟩).cps.toList
noncomputable def Hc:Tb:=rI ["code"] EU
theorem Sf(FC:o_ G A pP sB om oe Hc)(S:SR G sB ot om oe Hc φ [some (.str [c])] [] [] P m s):ao (ar oj wd) A (be (EP p) oe) (zK G sB ot om (.bool (rJ c))) oE s:=by
 refine aR (dy (la ((qQ FC.hO _ _ (ai _) _ _ _ (.int c) FC.hE rfl).1.post (S.inv FC.IB) S.er λxo oJ o4 oW rU qi pT=>pT.e_int λt=>?_) rfl));refine pK rU.b1 λsa n g1 g2=>?_;have qA:GX G oJ o4 {oJ with toks:=oJ.toks+1} o4:=.same oW.tk pQ.tok (bw _);exact wB FC.hE rfl (.inl g1) rU (wpAny_inSet_of (gX _ _ _ _) rfl g2 ⟨_,rfl,o4,((S.go oW).go qA).done,.bool _⟩)
theorem wav(O:sy fd d ["code"] (EP p) mu) (tA:fd.scope=EU) (hk:G.fns k=some (x,fd)) (hG:rO G) (hN:ui G) (D:r0 A 2) (ha:G.mg x=some (.ref fa)):xq G A (.ref fa) [.str [c]] (.bool (rJ c)):=by
 have hT:rI ["code"] fd.scope=Hc:=by refine oa tA ?_;rfl
 refine Dc (Φ:=pP) O hk (aM (aV _ _) D.depth) (λoe=>CF (D.deeper oe) hG hN) rfl (λL fa s φ P P' m ou FC S=>?_) ha;rw[hT]at FC S;exact Sf FC S
noncomputable def yQ:Tb:=rI ["code"] EW
noncomputable def GZ(c:Nat)(r:AV):Prop:=(∃x,wM c=some x/\r=.str x.cps.toList)\/(wM c=none/\r=.none)
theorem Sj{G:GD}{c:Nat}{g:Int->Option Value}(g4:∀k x,wM k=some x->∃t,g k=some (.str x t))(g5:∀k,wM k=none->g k=none):∃r:AV,VR G.tok φ h β P r ((g c).getD .none)/\GZ c r:=by
 induction hb:wM c using aa with
 |some x =>
  refine o6 (g4 _ _ hb) λt' ht=>?_;exact oV (.str x.cps.toList) (ht▸.str _ _) (.inl ⟨x,hb,rfl⟩)
 |none=>exact oV (.none) (g5 _ hb▸.none) (.inr ⟨hb,rfl⟩)
theorem wbZ(g3:s.heap.MapOf (bZ oj wd) ba g)(TB:pJ G s.heap)(k:GX G s φ s' ow):s'.heap.MapOf (bZ oj wd) ba g:=by
 refine xI g3 λo es ep ho hx hd r=>?_;exact⟨o,es,ep,k.ext _ _ (TB.notX_data ho λvs q=>nomatch hd.symm.trans q) ho,hx,hd,r⟩
theorem wca{s:ah}(g3:s.heap.MapOf (bZ oj wd) ba g)(a:aw)(e:dB ba=.ref a):∃ob,s.heap.get? a=some ob/\ob.dict=none:=by
 refine wW g3 λo es ep ho hx Y=>?_;exact oV o (gv e▸ho) hx.2.1
theorem Sh{c:Nat}{Q:im->ah->Prop}{p0 p1 p2 p3 p4 p5 p6 p7:cq}(FC:o_ G A pP sB om oe yQ)(S:SR G sB ot om oe yQ φ [some (.str [c]),none] [] [] P m s)(hl:p2.endLine=p6.line)(hQ:∀r ow m' s',GZ c r->SR G sB ot om oe yQ ow [some (.str [c]),some r] [] [] P m' s'->Q .next s'):
 ao (ar oj wd) A (bz (.Assign [.Name "r" p0] (.Call (.Attribute (.Name "b3_exceptions" p1) "get" p2) [.Call (.Name "ord" p3) [.Name "code" p4] [] p5] [] p6) p7) oe) Q oE s:=by
 refine MY ((S.inv FC.IB).b3) λba g g1 g2 g3 g4 g5=>?_;refine dA (dz (Bb rfl) rfl (by refine oa hl ?_;exact beq_self_eq_true _) (wB FC.hE rfl (.inl g1) (S.inv FC.IB) ?_)) rfl;refine⟨"dict","dict.get",gN,d0,kE,g3.typeIs,wca g3,cu rfl ?_⟩;have AA:=(wT FC.hE (λe Y=>qQ FC.hO _ e (ai _)) (σ:=[]) (ρ:=[some (.str [c]),none]) (es:=[.Call (.Name "ord" p3) [.Name "code" p4] [] p5]) (vs:=[.int c]) rfl).2 p6;refine fV (AA.post (S.inv FC.IB) S.er λxs oJ o4 oW rU qi pT=>pT.e1 λGU q1=>q1.e_int λt=>?_);have NI:=wbZ g3 S.tabs.1 oW;refine jU d0 NI.typeIs g8 (PySem.F.args_dict_get_2 _ _) (meets_dict_get (bZ oj wd) ba (gX oj wd c t) g2) ⟨_,NI,?_⟩;have qA:GX G oJ o4 {oJ with toks:=oJ.toks+1} o4:=.same oW.tk pQ.tok (bw _);refine oB (Sj (G:=G) (φ:=o4) (h:=oJ.heap) (β:=[]) (P:=P) (c:=c) g4 g5) λr rr hr=>?_;exact zE FC (x := "r") (i:=1) rfl ((S.go oW).go qA) rr λsF wA t6 wH Y=>hQ _ _ _ _ hr t6
theorem Sk(FC:o_ G A pP sB om oe yQ)(S:SR G sB ot om oe yQ φ [some (.str [c]),r] [] [] P m s)(hl:p1.endLine=p2.line)(hx:wM c=none):
 ao (ar oj wd) A (be [.Return (some (.Call (.Attribute (.Name "code" p0) "lower" p1) [] [] p2)) p3] oe) (zK G sB ot om (.str (u6 c))) oE s:=by
 refine aR (dy (dz (Bb rfl) rfl (by refine oa hl ?_;exact beq_self_eq_true _) ((qQ FC.hO _ _ (ai _) _ _ _ (.str [c]) FC.hE rfl).1.post (S.inv FC.IB) S.er λxc x7 Cn Gg RG RP Kq=>Kq.e_str λt'=>?_)));refine⟨"str","str.lower",dV,kl,PySem.F.type_str_lower,fC _ _ _,(λa e=>nomatch e),cu rfl (dZ ?_)⟩;have FM:j9 (m4 ⟨[c].toArray⟩).length=false:=by
  have:=len_lower ⟨[c].toArray⟩;have e1:(⟨[c].toArray⟩:Str).length=1:=rfl;rw[e1]at this;exact decide_eq_false (bu.mpr (ae this (by decide)))
 refine nA kl (fC _ _ _) PySem.F.entry_str_lower (PySem.F.args_str_lower_1 _) (gives_str_lower _ t' FM) ⟨fit_le FM,?_⟩;have wba:GX G x7 Cn {x7 with toks:=x7.toks+1} Cn:=.same Gg.tk pQ.tok (bw _);have:u6 c=(m4 ⟨[c].toArray⟩).cps.toList:=by unfold u6;refine oa hx ?_;rfl
 refine oa this ?_;exact⟨_,rfl,Cn,((S.go Gg).go wba).done,.str _ _⟩
theorem Sl{A:br}{oe:Env}{G:GD}{s:ah}{φ:Gh}{P om:aw->Prop}{m:Str->Option Value}{sB:ah}{ot:Gh}{p:Nat->cq}{c:Nat}{r:AV}(FC:o_ G A pP sB om oe yQ)(S:SR G sB ot om oe yQ φ [some (.str [c]),some r] [] [] P m s)(hr:GZ c r)(hl:(p 15).endLine=(p 16).line):
 ao (ar oj wd) A (be [.If (.Compare (.Name "r" (p 8)) [.IsNot] [.Constant .none 0 (p 9)] (p 10)) [.Return (some (.Name "r" (p 11))) (p 12)] [] (p 13),.Return (some (.Call (.Attribute (.Name "code" (p 14)) "lower" (p 15)) [] [] (p 16))) (p 17)] oe) (zK G sB ot om (.str (u6 c))) oE s:=by
 refine aR (ix (jH ((qQ FC.hO _ _ (ai _) _ _ _ r FC.hE rfl).1.post (S.inv FC.IB) S.er λxr rY GY BS RE RN GA=>(qQ FC.hO _ _ (ai _) _ _ _ .none FC.hE rfl).1.post RE RN λxn Cc whF waZ RF RO wev=>?_) rfl));have EL:=(S.go BS).go waZ;refine oa (show xn=.none from wev.inv) ?_;rcases hr with⟨x,hx,rfl⟩|⟨hx,rfl⟩
 ·refine GA.e_str λt'=>nI rfl (cz ?_);refine oa (if_pos (by rfl)) ?_;refine aR (dy ((qQ FC.hO _ _ (ai _) _ _ _ (.str x.cps.toList) FC.hE rfl).1.post RF RO λxr x7 Cn Gg RG RP Kq=>?_));have:u6 c=x.cps.toList:=by unfold u6;refine oa hx ?_;rfl
  refine oa this ?_;exact⟨_,rfl,Cn,(EL.go Gg).done,Kq.scalar rfl λY Y e=>e⟩
 ·refine oa (show xr=.none from GA.inv) ?_;refine nI rfl (cz ?_);refine oa (if_neg (by decide)) ?_;exact cW (Sk FC EL hl hx)
theorem wbY{A:br}{G:GD}{mu:List Str}{p:Nat->cq}{fd:cg}{d:rM}{x:Str}{k:Nat}{c:Nat}(O:sy fd d ["code"] (Hf p) mu) (tA:fd.scope=EW) (hk:G.fns k=some (x,fd)) (hG:rO G) (hN:ui G) (D:r0 A 2) (Y1:(p 2).endLine=(p 6).line) (FR:(p 15).endLine=(p 16).line) {fa:aw} (ha:G.mg x=some (.ref fa)):xq G A (.ref fa) [.str [c]] (.str (u6 c)):=by
 have hT:rI ["code"] fd.scope=yQ:=by refine oa tA ?_;rfl
 refine Dc (Φ:=pP) O hk (aM (aV _ _) D.depth) (λoe=>CF (D.deeper oe) hG hN) rfl (λL fa s φ P P' m ou FC S=>?_) ha;rw[hT]at FC S;exact aR (Sh FC S Y1 λr ow m' s' hr S'=>Sl FC S' hr FR)
noncomputable def D3:List AV->Option AV
 | [.int a,.int n]=>if 0<=a/\a<2^1000/\0<n/\n<=64 then some (.lst ((dg n.toNat (pU n.toNat a.toNat) a.toNat).map .int))else none
 |_=>none
noncomputable def D4:List AV->Option AV
 | [.lst ds,.int n]=>match qX ds with
  |some is=>if is.length<=1000/\0<=n/\n<=64/\is.all (λd=>decide (d.natAbs<2^64))=true then some (.int (qL n is))else none
  |none=>none
 |_=>none
noncomputable def Ea(f:Nat->AV):List AV->Option AV
 | [.str [c]]=>some (f c)
 |_=>none
noncomputable def tW:rd:=λk as=>if k=1 then D3 as else if k=2 then D4 as else if k=8 then Ea (λc=>.bool (rJ c)) as else if k=9 then Ea (λc=>.str (u6 c)) as else none
theorem wdD:D3 [.int a,.int n]=if 0<=a/\a<2^1000/\0<n/\n<=64 then some (.lst ((dg n.toNat (pU n.toNat a.toNat) a.toNat).map .int))else none:=rfl
theorem wdF:D4 [.lst ds,.int n]=match qX ds with
 |some is=>if is.length<=1000/\0<=n/\n<=64/\is.all (λd=>decide (d.natAbs<2^64))=true then some (.int (qL n is))else none
 |none=>none:=rfl
structure G6(G:GD):Prop where
 p1:∃x fd t p q,G.fns 1=some (x,fd)/\EK G fd ["a","n"] (Jv p q) t (q 53)/\fd.scope=DH/\(p 4).endLine=(p 5).line
 p2:∃x fd t p q,G.fns 2=some (x,fd)/\EK G fd ["digits","n"] (HA p q) t (q 42)/\fd.scope=CT
 p8:∃x fd d p mu,G.fns 8=some (x,fd)/\sy fd d ["code"] (EP p) mu/\fd.scope=EU
 p9:∃x fd d p mu,G.fns 9=some (x,fd)/\sy fd d ["code"] (Hf p) mu/\fd.scope=EW/\(p 2).endLine=(p 6).line/\(p 15).endLine=(p 16).line
theorem wbX:∀{is:List Int},pq JF ds=some is->ds=is.map .int:=by
 induction ds with
 |nil=>exact λh=>oN (Q:=λis=>[]=is.map AV.int) h rfl
 |cons d ds ih =>
  intro is h;refine qe (Gk h) ?_;rintro b cs rfl h1 h2;refine oa aU ?_;refine rwj (ih h2) ?_
  induction d using AV.casesOn with
  |int i=>refine oa (ag h1) ?_;rfl
  |_=>exact oq h1
theorem R9(h:qX ds=some is):ds=is.map .int:=wbX h
theorem wdE{C:List AV->AV->Prop}(e:D3 vs=some r)(h:∀a n:Nat,a<2^1000->0<n->n<=64->C [.int a,.int n] (.lst ((dg n (pU n a) a).map .int))):C vs r:=by
 induction vs using af with
 |nil=>exact oq e
 |cons x vs=>induction x using AV.casesOn with
  |int a=>induction vs using af with
   |nil=>exact oq e
   |cons y vs=>induction y using AV.casesOn with
    |int n=>induction vs using af with
     |cons=>exact oq e
     |nil =>
      refine qd e λhc e=>oN e ?_;refine o6 (dr hc.1) ?_;rintro a' rfl;refine o6 (dr (Int.le_of_lt hc.2.2.1)) ?_;rintro n' rfl;have h1:(a':Int)<((2^1000:Nat):Int):=by rw[dO];exact hc.2.1
      exact h a' n' (dC.mp h1) (dC.mp hc.2.2.1) (d_.mp hc.2.2.2)
    |_=>exact oq e
  |_=>exact oq e
theorem wdG{C:List AV->AV->Prop}(e:D4 vs=some r)(h:∀(is:List Int) (n:Int),is.length<=1000->0<=n->n<=64->(∀d∈is,d.natAbs<2^64)->C [.lst (is.map .int),.int n] (.int (qL n is))):C vs r:=by
 induction vs using af with
 |nil=>exact oq e
 |cons x vs=>induction x using AV.casesOn with
  |lst ds=>induction vs using af with
   |nil=>exact oq e
   |cons y vs=>induction y using AV.casesOn with
    |int n=>induction vs using af with
     |cons=>exact oq e
     |nil =>
      exact JE (F:=λis=>if is.length<=1000/\0<=n/\n<=64/\is.all (λd=>decide (d.natAbs<2^64))=true then some (.int (qL n is))else none) e λis sS e=>qd e λhc e=>oN e (R9 sS▸h is n hc.1 hc.2.1 hc.2.2.1 λd hd=>of_decide_eq_true (aj.mp hc.2.2.2 d hd))
    |_=>exact oq e
  |_=>exact oq e
theorem QM{C:List AV->AV->Prop}{f:Nat->AV}(e:Ea f vs=some r)(h:∀c,C [.str [c]] (f c)):C vs r:=by
 induction vs using af with
 |nil=>exact oq e
 |cons x vs=>induction x using AV.casesOn with
  |str l=>induction l using af with
   |nil=>cases vs<;>exact oq e
   |cons c l=>induction l using af with
    |cons=>cases vs<;>exact oq e
    |nil=>induction vs using af with
     |nil=>exact oN e (h c)
     |cons=>exact oq e
  |_=>exact oq e
theorem wdH{C:Nat->List AV->AV->Prop}{k:Nat}(e:tW k vs=some r)(h1:D3 vs=some r->C 1 vs r)(h2:D4 vs=some r->C 2 vs r)(h8:Ea (λc=>.bool (rJ c)) vs=some r->C 8 vs r)(h9:Ea (λc=>.str (u6 c)) vs=some r->C 9 vs r):C k vs r:=by
 by_cases q:k=1
 ·subst q;exact h1 e
 replace e:=(if_neg q).symm.trans e;by_cases q:k=2
 ·subst q;exact h2 e
 replace e:=(if_neg q).symm.trans e;by_cases q:k=8
 ·subst q;exact h8 e
 replace e:=(if_neg q).symm.trans e;by_cases q:k=9
 ·subst q;exact h9 e
 exact oq ((if_neg q).symm.trans e)
noncomputable def Cz(G:GD)(A:br)(k:Nat)(vs:List AV)(r:AV):Prop:=∃x fd,G.fns k=some (x,fd)/\∀a,G.mg x=some (.ref a)->xq G A (.ref a) vs r
theorem Zm{G:GD}{fns:Nat->Option rM}(H:G6 G)(hG:rO G)(hN:ui G)(A:br)(D:r0 A 13)(k:Nat)(vs:List AV)(r:AV)(_:fns k=none)(e:tW k vs=some r):∃x fd,G.fns k=some (x,fd)/\∀a,G.mg x=some (.ref a)->xq G A (.ref a) vs r:=by
 refine wdH (C:=Cz G A) e (λe=>?_) (λe=>?_) (λe=>?_) λe=>?_
 ·refine M1 H.p1 λx fd t p q k1 k2 k3 k4=>?_;exact wdE (C:=Cz G A 1) e λa n ha hn vT=>⟨x,fd,k1,λfa h=>waa k2 k3 k1 hG hN D ha hn vT k4 h⟩
 ·refine C6 H.p2 λx fd t p q k1 k2 k3=>?_;exact wdG (C:=Cz G A 2) e λis n hl hn vT hd=>⟨x,fd,k1,λfa h=>Ui k2 k3 k1 hG hN D hd hl hn (Int.toNat_le.mpr vT) h⟩
 ·refine C6 H.p8 λx fd d p mu k1 k2 k3=>?_;exact QM (C:=Cz G A 8) e λc=>⟨x,fd,k1,λfa h=>wav k2 k3 k1 hG hN (D.le (by decide)) h⟩
 ·refine Wj H.p9 λx fd d p mu k1 k2 k3 k4 k5=>?_;exact QM (C:=Cz G A 9) e λc=>⟨x,fd,k1,λfa h=>wbY k2 k3 k1 hG hN (D.le (by decide)) k4 k5 h⟩
set_option backward.match.sparseCases false
set_option genInjectivity true in
inductive TV where
 |int (i:Int)
 |str (x:Str)
 |fn (name:Str) (params:dj) (body:List Stmt) (sc:cj)
 |dictI (l:List (Int×Str))
 |dictS (l:List (Str×Int))
 |set (l:List Int) (a b:Int)
noncomputable def Cp(fd:cg)(name:Str)(params:dj)(body:List Stmt)(sc:cj)(c':aw):Prop:=∃pR pm ql,fd=fnX name name params body sc [] .none .none pR pm none (.ref c') ql
noncomputable def Cq(ts:List (aw×aw))(h:bU)(name:Str)(params:dj)(body:List Stmt)(sc:cj)(v:Value):Prop :=
 ∃a fd c' P',v=.ref a/\h.get? a=some {cls:=.type "function",data:=.func fd}/\Cp fd name params body sc c'/\h.CodeRec (.ref c') name/\jF h c' P'/\h.get? P'=some (gC #[])/\(c',P')∈ts
noncomputable def vC(ts:List (aw×aw))(h:bU):TV->Value->Prop
 | .int i,v=>∃t,v=.int i t
 | .str x,v=>∃t,v=.str x t
 | .fn name params body sc,v=>Cq ts h name params body sc v
 | .dictI l,v=>∃a oQ,v=.ref a/\a≠aG/\(a==bN)=false/\h.DictOf (bZ oj wd) a oQ/\sV (l.map λe=>(e.1,λu=>∃t,u=.str e.2 t)) oQ
 | .dictS l,v=>∃a oQ,v=.ref a/\a≠aG/\(a==bN)=false/\h.DictOf (strKind oj wd) a oQ/\sV (l.map λe=>(e.1,λu=>∃t,u=.int e.2 t)) oQ
 | .set l a b,v=>∃d S n,v=.ref d/\h.SetOf (bZ oj wd) d S n/\∀k,S k=(l++uw a 1 (b-a).toNat).any (·==k)
structure uE(mg:Str->Option Value) (c Pl:aw) (ps:Array Value) (h:bU):Prop where
 g:h.Ns aG mg
 code:jF h c Pl
 tab:h.get? Pl=some (gC ps)
 tri:TriplesOk ps.toList
 low:aG<c/\aG<Pl
 bmod:h.BuiltinsAt mg Pl
structure uD(oS:bU) (pN:Str->Option Value) (c Pl:aw) (E:List (Str×TV)) (lp:List cq) (h:bU):Prop where
 ex:∃mg ps ts l,uE mg c Pl ps h/\ps.toList=triples l/\l.map (·.1)=lp/\(ts.map (·.2)).Nodup/\(∀t∈ts,t.2≠Pl/\t.2<h.objs.size) /\
  (∀x tv,E.lookup x=some tv->∃v,mg x=some v/\vC ts h tv v)/\(∀x,E.lookup x=none->mg x=pN x)
 old:∀b o,b≠aG->oS.get? b=some o->h.get? b=some o
 sz:oS.objs.size<=h.objs.size
 pl:oS.objs.size<=Pl
 sys:bN<oS.objs.size
noncomputable def Co(Pl:aw)(h h':bU):Prop:=∀b o,b≠Pl->b≠aG->h.get? b=some o->h'.get? b=some o
theorem Fp(T:uE mg c Pl ps h)(hk:Co Pl h h')(e:h.get? b=some o)(hb:b≠aG)(hd:(∀vs,o.data≠.fields vs)\/o.cls≠.none):h'.get? b=some o :=
 hk b o (λq=>by
  have eo:o=gC ps:=ag (e.symm.trans (q▸T.tab));rw[eo]at hd;exact hd.elim (λhd=>hd _ rfl) λhd=>hd rfl) hb e
theorem Gq(T:uE mg c Pl ps h)(e:h.get? b=some o)(hd:∀es ep,o.data≠.dict es ep):b≠aG:=λq=>by
 refine wW T.g λog es ep eg Yx Y=>?_;exact hd _ _ (ag (e.symm.trans (q▸eg))▸Yx)
theorem Cq.keeps(T:uE mg c Pl ps h)(xR:∀t∈ts,t.2≠Pl)(hk:Co Pl h h')(wy:∀t∈ts,t∈El)(r:Cq ts h name params body sc v):Cq El h' name params body sc v:=by
 refine Ag r λa fd c' P' e1 e2 e3 e4 e5 e6 e7=>?_;obtain⟨o,vs,Db,tf,flags,tg,DK,rZ,tt,f1,f2,f3,f4⟩:=e5;have kc:h'.get? c'=some o:=Fp T hk f1 (Gq T f1 λY Y q=>nomatch f3.symm.trans q) (.inr (by refine oa f2 ?_;exact λq=>nomatch q));refine⟨a,fd,c',P',e1,Fp T hk e2 (Gq T e2 λY Y q=>nomatch q) (.inl λY q=>nomatch q),e3,?_,⟨o,vs,Db,tf,flags,tg,DK,rZ,tt,kc,f2,f3,f4⟩,hk P' _ (xR _ e7) (Gq T e6 λY Y q=>nomatch q) e6,wy _ e7⟩;refine Bw e4 λL7 Qd whi AT g1 g2 g3 g4=>?_;have gc:=gv g1;have go:=ag ((gc▸f1).symm.trans g2);exact⟨c',o,whi,AT,rfl,kc,go▸g3,g4⟩
theorem DictOf.top{h h':bU}{K:Type}[DecidableEq K]{pt:KeyKind oj wd K}(T:uE mg c Pl ps h)(hk:Co Pl h h'){a:aw}{oQ:List (K×Value)}(ha:a≠aG)(r:h.DictOf pt a oQ):h'.DictOf pt a oQ:=by
 refine xI r λo es ep e hx hd r=>?_;exact⟨o,es,ep,Fp T hk e ha (.inl λY q=>nomatch hd.symm.trans q),hx,hd,r⟩
theorem SetOf.top{h h':bU}{K:Type}[DecidableEq K]{pt:KeyKind oj wd K}(T:uE mg c Pl ps h)(hk:Co Pl h h'){a:aw}{S:K->Bool}{n:Nat}(r:h.SetOf pt a S n):h'.SetOf pt a S n:=by
 refine Bw r λo es ep t e hx hd r=>?_;exact⟨o,es,ep,t,Fp T hk e (Gq T e λY Y q=>nomatch hd.symm.trans q) (.inl λY q=>nomatch hd.symm.trans q),hx,hd,r⟩
theorem vC.keeps(T:uE mg c Pl ps h)(xR:∀t∈ts,t.2≠Pl)(hk:Co Pl h h')(wy:∀t∈ts,t∈El){tv:TV}{v:Value}(r:vC ts h tv v):vC El h' tv v:=by
 cases tv with
 |int i=>exact r
 |str x=>exact r
 |fn name params body sc=>exact Cq.keeps T xR hk wy r
 |dictI l=>exact r.elim λa r=>r.elim λoQ r=>⟨a,oQ,r.1,r.2.1,r.2.2.1,DictOf.top T hk r.2.1 r.2.2.2.1,r.2.2.2.2⟩
 |dictS l=>exact r.elim λa r=>r.elim λoQ r=>⟨a,oQ,r.1,r.2.1,r.2.2.1,DictOf.top T hk r.2.1 r.2.2.2.1,r.2.2.2.2⟩
 |set l a b=>exact r.elim λd r=>r.elim λS r=>r.elim λn r=>⟨d,S,n,r.1,SetOf.top T hk r.2.1,r.2.2⟩
structure yc(x:Str):Prop where
 loc:oj.main.scope.names.lookup x=some .local
 nb:x ≠ "__builtins__"
 qual:gW {scope:=oj.main.scope,locals:=aG,globals:=aG,cells:=[]} x x=x
theorem uE.store{h':bU}{x:Str}{v:Value}(T:uE mg c Pl ps h)(hx:x ≠ "__builtins__") (hn:h'.Ns aG (λy=>if y=x then some v else mg y)) (hs:bF aG h h'):uE (λy=>if y=x then some v else mg y) c Pl ps h':=by
 have ex:=hs.extBut;have kp:∀b o,b≠aG->h.get? b=some o->h'.get? b=some o:=ex;refine Bv T.bmod λbm o b1 b2 b3 b4 b5 b6=>?_;refine⟨hn,?_,kp _ _ (cO T.low.2) T.tab,T.tri,T.low,bm,o,?_,b2,b3,b4,kp _ _ b3 b5,b6⟩
 ·obtain⟨o,vs,Db,tf,flags,tg,DK,rZ,tt,f1,r⟩:=T.code;exact⟨o,vs,Db,tf,flags,tg,DK,rZ,tt,kp _ _ (cO T.low.1) f1,r⟩
 ·show(if("__builtins__":Str)=x then _ else _)=_;refine oa (if_neg (io hx)) ?_;exact b1
theorem uE.keeps(T:uE mg c Pl ps h)(hk:t4 h h'):uE mg c Pl ps h':=by
 refine Bv T.bmod λbm o b1 b2 b3 b4 b5 b6=>?_;exact⟨T.g.keeps hk,T.code.keeps hk,hk _ _ T.tab,T.tri,T.low,bm,o,b1,b2,b3,b4,hk _ _ b5,b6⟩
structure vE(oS:bU) (pN:Str->Option Value) (c Pl:aw) (E:List (Str×TV)) (lp:List cq) (h:bU) (mg:Str->Option Value) (ps:Array Value) (ts:List (aw×aw)) (l:List (cq×aw)):Prop where
 S:uE mg c Pl ps h
 e1:ps.toList=triples l
 e2:l.map (·.1)=lp
 e3:(ts.map (·.2)).Nodup
 e4:∀t∈ts,t.2≠Pl/\t.2<h.objs.size
 e5:∀x tv,E.lookup x=some tv->∃v,mg x=some v/\vC ts h tv v
 e6:∀x,E.lookup x=none->mg x=pN x
 old:∀b o,b≠aG->oS.get? b=some o->h.get? b=some o
 sz:oS.objs.size<=h.objs.size
 pl:oS.objs.size<=Pl
 sys:bN<oS.objs.size
theorem uD.x(R:uD oS pN c Pl E lp h):∃mg ps ts l,vE oS pN c Pl E lp h mg ps ts l :=
 R.ex.elim λmg r=>r.elim λps r=>r.elim λts r=>r.elim λl r=>⟨mg,ps,ts,l,r.1,r.2.1,r.2.2.1,r.2.2.2.1,r.2.2.2.2.1,r.2.2.2.2.2.1,r.2.2.2.2.2.2,R.old,R.sz,R.pl,R.sys⟩
theorem vE.r(X:vE oS pN c Pl E lp h mg ps ts l):uD oS pN c Pl E lp h:=⟨⟨mg,ps,ts,l,X.S,X.e1,X.e2,X.e3,X.e4,X.e5,X.e6⟩,X.old,X.sz,X.pl,X.sys⟩
theorem vE.keeps(X:vE oS pN c Pl E lp h mg ps ts l)(hk:t4 h h')(hz:h.objs.size<=h'.objs.size):vE oS pN c Pl E lp h' mg ps ts l :=
 { X with
   S:=X.S.keeps hk
   e4:=λt ht=>⟨(X.e4 t ht).1,ab (X.e4 t ht).2 hz⟩
   e5:=λx tv e=>(X.e5 x tv e).elim λv r=>oV v r.1 (r.2.keeps X.S (λt ht=>(X.e4 t ht).1) (λb o Y Y e=>hk b o e) λY h=>h)
   old:=λb o hb e=>hk b o (X.old b o hb e)
   sz:=ae X.sz hz}
theorem wbG{E:List (Str×TV)}{x:Str}{tv:TV}{C:Str->TV->Prop}(h0:C x tv)(h:∀y zI,y≠x->E.lookup y=some zI->C y zI)(y:Str)(zI:TV)(e:gQ y ((x,tv)::E)=some zI):C y zI:=by
 rw[bv]at e;by_cases q:y=x
 ·subst q;rw[beq_self_eq_true]at e;exact oN e h0
 ·rw[beq_eq_false_iff_ne.mpr q]at e;exact h y zI q e
theorem PG{E:List (Str×TV)}(e:gQ y ((x,tv)::E)=none):y≠x/\E.lookup y=none:=by
 rw[bv]at e;by_cases q:y=x
 ·subst q;rw[beq_self_eq_true]at e;exact nomatch e
 ·rw[beq_eq_false_iff_ne.mpr q]at e;exact⟨q,e⟩
theorem vE.store{h':bU}{l:List (cq×aw)}{x:Str}{v:Value}{tv:TV}(X:vE oS pN c Pl E lp h mg ps ts l)(hx:x ≠ "__builtins__") (hv:vC ts h tv v) (hn:h'.Ns aG (λy=>if y=x then some v else mg y)) (hs:bF aG h h'):
 vE oS pN c Pl ((x,tv)::E) lp h' (λy=>if y=x then some v else mg y) ps ts l :=
 have kp:∀{tv v},vC ts h tv v->vC ts h' tv v:=λr=>r.keeps X.S (λt ht=>(X.e4 t ht).1) (λb o Y hb e=>hs.extBut b o hb e) λY h=>h
 { X with
   S:=X.S.store hx hn hs
   e4:=λt ht=>⟨(X.e4 t ht).1,by rw[hs.1];exact(X.e4 t ht).2⟩
   e5:=wbG (C:=λy tv=>∃u,(if y=x then some v else mg y)=some u/\vC ts h' tv u) ⟨v,if_pos rfl,kp hv⟩ λy zI q e=>(X.e5 y zI e).elim λu r=>oV u ((if_neg q).trans r.1) (kp r.2)
   e6:=λy e=>(if_neg (PG e).1).trans (X.e6 y (PG e).2)
   old:=λb o hb e=>hs.extBut b o hb (X.old b o hb e)
   sz:=ae X.sz (bd hs.1.symm)}
theorem Q1{s:ah}{l:List (cq×aw)}{x:Str}{v:Value}{tv:TV}{Q:Unit->ah->Prop}{Er:Value->ah->Prop}(qO:oj.main.scope.kind=.module)(N:yc x)(X:vE oS pN c Pl E lp s.heap mg ps ts l)(hv:vC ts s.heap tv v)(hQ:∀h' tk,uD oS pN c Pl ((x,tv)::E) lp h'->Q () {s with heap:=h',toks:=tk}):ao (ar oj wd) A (ge (eE oj c F) x v) Q Er s :=
 mD (m:=mg) N.loc X.S.g (λh' hn hs=>hQ _ _ (X.store N.nb hv hn hs).r) (by
  show(oj.main.scope.kind==.class||(oj.main.scope.kind==.module&&aG != aG))=false;refine oa qO ?_;rfl)
theorem Ei(qO:oj.main.scope.kind=.module)(N:yc x)(R:uD oS pN c Pl E lp o7)(hk:t4 o7 s.heap)(hz:o7.objs.size<=s.heap.objs.size)(hv:∀ts,vC ts s.heap tv v)(hQ:∀h' tk,uD oS pN c Pl ((x,tv)::E) lp h'->Q () {s with heap:=h',toks:=tk}):
 ao (ar oj wd) A (ge (eE oj c F) x v) Q Er s :=
 R.x.elim λmg r=>r.elim λps r=>r.elim λts r=>r.elim λl X=>Q1 qO N (X.keeps hk hz) (hv ts) hQ
noncomputable def yO(oS:bU)(pN:Str->Option Value)(c Pl F:aw)(st:Stmt)(E:List (Str×TV))(lp:List cq)(E':List (Str×TV))(lp':List cq):Prop :=
 ∀(A:br) (s:ah) (Q:im->ah->Prop) (Er:Value->ah->Prop),A.handled=none->0<s.toks->uD oS pN c Pl E lp s.heap->(∀h' tk,uD oS pN c Pl E' lp' h'->Q .next {s with heap:=h',toks:=tk}) ->
  ao (ar oj wd) A (bz st (eE oj c F)) Q Er s
theorem wgp(qO:oj.main.scope.kind=.module)(N:yc x):yO oS pN c Pl F (.Assign [.Name x p] (.Constant (.int i) k q) r) E lp ((x,.int i)::E) lp:=by
 intro A s Q Er _ _ R h;refine dA (eW rfl λv tk hv=>?_) rfl;exact Ei (tv:=.int i) qO N R (λY Y e=>e) (ai _) (λts=>hv) λh' tk R'=>h h' tk R'
theorem wgr(qO:oj.main.scope.kind=.module)(N:yc x):yO oS pN c Pl F (.Assign [.Name x p] (.Constant (.str i) k q) r) E lp ((x,.str i)::E) lp:=by
 intro A s Q Er _ _ R h;refine dA (eW rfl λv tk hv=>?_) rfl;exact Ei (tv:=.str i) qO N R (λY Y e=>e) (ai _) (λts=>hv) λh' tk R'=>h h' tk R'
theorem vE.made(X:vE oS pN c Pl E lp h mg ps ts l)(Zd:ob={cls:=.type "function",dict:=none,data:=.func (fnX name name params body sc [] .none .none pR nm none (.ref c') .none)}) (hx:∀b o,b≠Pl->h.get? b=some o->o7.get? b=some o) (hz:h.objs.size<=o7.objs.size) (IH:jF o7 c Pl) (IM:o7.get? Pl=some (gC (ps++#[gV pos.line,gV pos.col,.ref c']))) (xQ:o7.CodeRec (.ref c') name) (hP:h.objs.size<=P') (II:jF o7 c' P') (ht:o7.get? P'=some (gC #[])):
 vE oS pN c Pl E (lp++[pos]) (o7.push ob) mg (ps++#[gV pos.line,gV pos.col,.ref c']) ((c',P')::ts) (l++[(pos,c')])/\vC ((c',P')::ts) (o7.push ob) (.fn name params body sc) (.ref o7.objs.size):=by
 have up:∀{b o},o7.get? b=some o->(o7.push ob).get? b=some o:=λe=>av _ e;have Yc:Pl<h.objs.size:=aN X.S.tab;have pi:(o7.push ob).objs.size=o7.objs.size+1:=bg ..;have I1:aG≠Pl:=cp X.S.low.2;refine⟨{
  S:=?_
  e1:=by rewrite [triples_append];refine rwj X.e1 ?_;simp
  e2:=by refine oa bo ?_;refine oa X.e2 ?_;rfl
  e3:=cB.mpr ⟨λq=>(aE.mp q).elim λt e=>aJ _ (ab (X.e4 t e.1).2 (ae hP (bd e.2.symm))),X.e3⟩
  e4:=lx.mpr ⟨⟨cO (ab Yc hP),by refine oa pi ?_;exact fF (aN ht)⟩,λt ht=>⟨(X.e4 t ht).1,by refine oa pi ?_;exact fF (ab (X.e4 t ht).2 hz)⟩⟩
  e5:=λx tv e=>(X.e5 x tv e).elim λv r=>oV v r.1 (r.2.keeps X.S (λt ht=>(X.e4 t ht).1) (λb o hb Y e=>up (hx b o hb e)) λt ht=>aP _ ht)
  e6:=X.e6
  old:=λb o hb e=>up (hx b o (λq=>bu.mpr X.pl (q▸aN e)) (X.old b o hb e))
  sz:=by refine oa pi ?_;exact gU (ae X.sz hz)
  pl:=X.pl
  sys:=X.sys},o7.objs.size,_,c',P',rfl,?_,⟨pR,nm,.none,rfl⟩,xQ.push _,II.keeps λb o e=>up e,up ht,ax⟩
 ·refine Bv X.S.bmod λbm o b1 b2 b3 b4 b5 b6=>?_;exact⟨(X.S.g.extBut hx I1).push _,IH.keeps λb o e=>up e,up IM,by simpa using TriplesOk_snoc _ _ _ _ X.S.tri,X.S.low,bm,o,b1,b2,b3,b4,up (hx _ _ b4 b5),b6⟩
 ·refine oa Zd ?_;exact bx _ rfl
theorem wbT(T:uE mg c Pl ps s.heap)(I0:fD sc (eE oj c F)=pure [])(Ja:n7 pos ps.toList=none)(h:∀c' P' o7 tk pR nm,(∀b o,b≠Pl->s.heap.get? b=some o->o7.get? b=some o)->s.heap.objs.size<=o7.objs.size->jF o7 c Pl->o7.get? Pl=some (gC (ps++#[gV pos.line,gV pos.col,.ref c']))->o7.CodeRec (.ref c') name->s.heap.objs.size<=P'->jF o7 c' P'->o7.get? P'=some (gC #[]) ->
 Q (.ref o7.objs.size) {s with heap:=o7.push {cls:=.type "function",dict:=none,data:=.func (fnX name name params body sc [] .none .none pR nm none (.ref c') .none)},toks:=tk}):
 ao (ar oj wd) A (makeFunction name name params (.stmts body) sc (eE oj c F) [] [] [] pos fl) Q Er s:=by
 rw[makeFunction_eq];simp only[i8,List.filterMap_nil,mL,if_true,pure_bind];unfold makeTail;refine oa I0 ?_;refine an (aQ ?_);simp only[mL,if_true];refine an (aQ (an (wpAny_functionCodeX (env:=eE oj c F) rfl (T.code.code T.tab T.tri) (T.code.tab T.tab) Ja λc' o7 tk hx yr o9 qk xQ OT si=>?_)));refine s9 si λP' n1 n2 n3=>?_;have Od:=T.g.extBut hx (cp T.low.2);have hh:=λtk pR nm=>h c' P' o7 tk pR nm hx (ae yr (bb o9)) (l8 qk OT) OT.2 xQ n1 (l8 n2 n3) n3.2;refine MZ T.bmod λbm o b1 b2 b3 b4 b5 b6 b7 b8=>?_;refine an (wpAny_builtinsFor (globals:=aG) Od b1 b2 (hx _ _ b4 b5) b6 b7 b8 (an (mS (a:=aG) Od ?_)))
 induction docOf body using aa with
 |none=>exact an (aQ (jO (hh _ _ _) (by size_fits)))
 |some t=>exact an (wpAny_mkText (jO (hh _ _ _) (by size_fits)))
theorem wgm(qO:oj.main.scope.kind=.module)(N:yc name)(xN:params.defaults=[])(I4:params.kw_defaults=[])(ha:k_ params none (eE oj c F)=[])(I0:fD sc (eE oj c F)=pure [])(w_:∀q∈lp,¬(q.line=pos.line/\q.col=pos.col)):yO oS pN c Pl F (.FunctionDef name params body [] none [] sc none name pos) E lp ((name,.fn name params body sc)::E) (lp++[pos]):=by
 intro A s Q Er _ _ R h;refine M0 R.x λmg ps ts l X=>?_;have T:=X.S;refine nestDef_K xN I4 ha ?_;refine oa (show gW (eE oj c F) name name=name from N.qual) ?_;have Ja:n7 pos ps.toList=none:=by
  refine oa X.e1 ?_;exact codeAmong_triples pos l λq hq=>w_ q.1 (X.e2▸aE.mpr ⟨q,hq,rfl⟩)
 refine wbT T I0 Ja λc' P' o7 tk pR nm hx hz IH IM xQ n1 II ht=>?_;have XM:=X.made (ob:=_) (pR:=pR) (nm:=nm) rfl hx hz IH IM xQ n1 II ht (params:=params) (body:=body) (sc:=sc);exact Q1 qO N XM.1 XM.2 h
theorem Lr:∀{l:List Arg},l.all (λa=>a.annotation.isNone)=true->annotationsOf l oe=[]
 | [],_=>rfl
 |⟨_,none,_⟩::l,h=>Lr (l:=l) h
 |⟨_,some _,_⟩::_,h=>nomatch (show false=true from h)
theorem R2(h1:params.args.all (λa=>a.annotation.isNone)=true)(h2:params.posonlyargs=[])(h3:params.vararg=none)(h4:params.kwonlyargs=[])(h5:params.kwarg=none):k_ params none oe=[]:=by
 obtain⟨po,a,va,ko,kd,kwa,d⟩:=params;cases(h2:po=[]);cases(h3:va=none);cases(h4:ko=[]);cases(h5:kwa=none);unfold k_;show annotationsOf (a++[]++[]++[]++[]) oe++_=[];rw[bB,bB,bB,bB,Lr h1];rfl
inductive zL:List (Option Expr)->List Expr->List (Int×Str)->Prop
 |nil:zL [] [] []
 |cons {k:Int}{x:Str}{u u':Nat}{p p':cq}{ks:List (Option Expr)}{vs:List Expr}{l:List (Int×Str)} (r:zL ks vs l):zL (some (.Constant (.int k) u p)::ks) (.Constant (.str x) u' p'::vs) ((k,x)::l)
noncomputable def L6:(ks:List (Option Expr))->(vs:List Expr)->Option {l:List (Int×Str)//zL ks vs l}
 | [],[]=>some ⟨[],.nil⟩
 |some (.Constant (.int k) _ _)::ks,.Constant (.str x) _ _::vs=>match L6 ks vs with
  |some ⟨l,h⟩=>some ⟨(k,x)::l,.cons h⟩
  |none=>none
 |_,_=>none
noncomputable def zD:List (Int×Str)->Bool
 |a::b::l=>decide (a.1<b.1)&&zD (b::l)
 |_=>true
theorem QG:zD (a::b::l)=(decide (a.fst<b.fst)&&zD (b::l)):=rfl
theorem QE:∀{a:Int×Str}{l:List (Int×Str)},zD (a::l)=true->∀b∈l,a.1<b.1
 |a,[],_=>λb hb=>nomatch hb
 |a,c::l,h=>λb hb=>by
  rw[QG]at h;rw[aO]at h;have h1:=of_decide_eq_true h.1;rcases bh.mp hb with rfl|hb
  ·exact h1
  ·exact Int.lt_trans h1 (QE h.2 b hb)
theorem QF:∀{l:List (Int×Str)},zD l=true->(l.map (·.1)).Nodup
 | [],_=>cK
 | [a],_=>by simp
 |a::b::l,h=>by
  have h0:=h;rw[QG]at h;rw[aO]at h;rw[aU,cB];refine⟨λq=>?_,QF h.2⟩;refine oB (aE.mp q) λe he e1=>?_;have:=QE h0 e he
  lia
noncomputable def Gd(oe:Env)(pos:cq)(ks:List (Option Expr))(vs:List Expr):List (Option (fe Value)×fe Value):=(evalEachOpt ks oe).zip ((evalEach vs oe).map λv=>do let x <-v;jd pos;pure x)
theorem UL(h:zL ks vs l):
 ∃ps,Gd oe pos ks vs=ps.map (λp=>(some p.1,p.2))/\sX (bZ oj wd) A hh ps (l.map λe=>(e.1,λu=>∃t,u=.str e.2 t)):=by
 induction h with
 |nil=>exact oV [] rfl (.nil)
 | @cons k x u1 u2 p1 p2 ks vs m _ ih =>
  refine oB ih λps e1 e2=>?_;refine oV ((bK (.Constant (.int k) u1 p1) oe,do let x <-bK (.Constant (.str x) u2 p2) oe;jd pos;pure x)::ps) (congrArg (_::·) e1) (.cons (λE s Q hx hQ=>?_) e2);refine eW rfl λv tk hv=>an (eW rfl λu u0 hu=>an (cT (aQ ?_)));refine o6 (show∃t,v=.int k t from hv) ?_;rintro t rfl;exact hQ _ _ _ (gX _ _ _ _) hu
theorem wgn(qO:oj.main.scope.kind=.module)(N:yc x)(hl:zL ks vs l)(hs:zD l=true)(oU:l.length<=1000)(q9:l≠[]):
 yO oS pN c Pl F (.Assign [.Name x p] (.Dict ks vs q) r) E lp ((x,.dictI l)::E) lp:=by
 intro A s Q Er _ _ R h;refine oB (UL (A:=A) (oe:=eE oj c F) (pos:=q) (hh:=s.heap) hl) λps e1 e2=>?_;refine dA ?_ (by rfl);rw[arm_eval_Dict];refine an (cT ?_);have vg:bN<s.heap.objs.size:=ab R.sys R.sz;have Av:=e2.length;rw[ac]at Av;show ao (ar oj wd) A (kA (Gd (eE oj c F) q ks vs)) _ Er _;rw[e1];refine Ml e2 vg (GW Av oU) (λq=>?_) ?_ λD oQ h' tk g1 g2 g3 g4 g5=>?_
 ·subst q;exact q9 (bC.mp Av.symm)
 ·rw[a_];exact QF hs
 ·have hg:aG<s.heap.objs.size:=by
   refine Af R.ex λmg ps ts l T Y=>?_;exact T.g.lt
  exact Ei (tv:=.dictI l) qO N R g4 g5 (λts=>⟨D,oQ,rfl,cO (ab hg g1),beq_eq_false_iff_ne.mpr (cO (ab vg g1)),g3,g2⟩) λh' tk R'=>h h' tk R'
inductive zQ(E:List (Str×TV)):List (Option Expr)->List Expr->List (Str×Int)->Prop
 |nil:zQ E [] [] []
 |cons {k x:Str}{i:Int}{u:Nat}{p p':cq}{ks:List (Option Expr)}{vs:List Expr}{l:List (Str×Int)} (hx:E.lookup x=some (.int i)) (hd:(x==("__debug__":Str))=false) (r:zQ E ks vs l):
  zQ E (some (.Constant (.str k) u p)::ks) (.Name x p'::vs) ((k,i)::l)
noncomputable def waA(E:List (Str×TV))(x:Str):Option {i:Int//E.lookup x=some (.int i)}:=match E.lookup x with
 |some (.int i)=>some ⟨i,rfl⟩
 |_=>none
noncomputable def PV(E:List (Str×TV)):(ks:List (Option Expr))->(vs:List Expr)->Option {l:List (Str×Int)//zQ E ks vs l}
 | [],[]=>some ⟨[],.nil⟩
 |some (.Constant (.str k) _ _)::ks,.Name x _::vs=>match waA E x with
  |some ⟨i,hx⟩=>if hd:(x==("__debug__":Str))=false then(match PV E ks vs with
   |some ⟨l,h⟩=>some ⟨(k,i)::l,.cons hx hd h⟩
   |none=>none)else none
  |none=>none
 |_,_=>none
theorem UO(qO:oj.main.scope.kind=.module)(R:uD oS pN c Pl E lp hh)(h:zQ E ks vs l):
 ∃ps,Gd (eE oj c F) pos ks vs=ps.map (λp=>(some p.1,p.2))/\sX (strKind oj wd) A hh ps (l.map λe=>(e.1,λu=>∃t,u=.int e.2 t)):=by
 refine Ag R.ex λmg qs ts l T Y Y Y Y e5 Y=>?_;clear R
 induction h with
 |nil=>exact oV [] rfl (.nil)
 | @cons k x i u1 p1 p2 ks vs m hx hd _ ih =>
  refine oB ih λps e1 e2=>?_;refine oV ((bK (.Constant (.str k) u1 p1) (eE oj c F),do let x <-bK (.Name x p2) (eE oj c F);jd pos;pure x)::ps) (congrArg (_::·) e1) (.cons (λEr s Q hk hQ=>?_) e2);obtain⟨v,hv,tv,rfl⟩:=e5 x _ hx;refine eW rfl λu tk hu=>an (jx qO rfl (iW (mg:=mg) ((T.keeps hk).g) hv (an (cT (aQ ?_)))) hd);refine o6 (show∃t,u=.str k t from hu) ?_;rintro t rfl;exact hQ _ _ _ (nx _ _ _ _) ⟨tv,rfl⟩
theorem wgo(qO:oj.main.scope.kind=.module)(N:yc x)(hl:zQ E ks vs l)(hs:(l.map (·.1)).Nodup)(oU:l.length<=1000)(q9:l≠[]):
 yO oS pN c Pl F (.Assign [.Name x p] (.Dict ks vs q) r) E lp ((x,.dictS l)::E) lp:=by
 intro A s Q Er _ _ R h;refine oB (UO (A:=A) (F:=F) (pos:=q) qO R hl) λps e1 e2=>?_;refine dA ?_ (by rfl);rw[arm_eval_Dict];refine an (cT ?_);have vg:bN<s.heap.objs.size:=ab R.sys R.sz;have Av:=e2.length;rw[ac]at Av;show ao (ar oj wd) A (kA (Gd (eE oj c F) q ks vs)) _ Er _;rw[e1];refine Ml e2 vg (GW Av oU) (λq=>?_) ?_ λD oQ h' tk g1 g2 g3 g4 g5=>?_
 ·subst q;exact q9 (bC.mp Av.symm)
 ·rw[a_];exact hs
 ·have hg:aG<s.heap.objs.size:=by
   refine Af R.ex λmg ps ts l T Y=>?_;exact T.g.lt
  exact Ei (tv:=.dictS l) qO N R g4 g5 (λts=>⟨D,oQ,rfl,cO (ab hg g1),beq_eq_false_iff_ne.mpr (cO (ab vg g1)),g3,g2⟩) λh' tk R'=>h h' tk R'
inductive zO:List Expr->List Int->Prop
 |nil:zO [] []
 |cons {k:Int}{u:Nat}{p:cq}{es:List Expr}{l:List Int} (r:zO es l):zO (.Constant (.int k) u p::es) (k::l)
noncomputable def Pb:(es:List Expr)->Option {l:List Int//zO es l}
 | []=>some ⟨[],.nil⟩
 | .Constant (.int k) _ _::es=>match Pb es with
  |some ⟨l,h⟩=>some ⟨k::l,.cons h⟩
  |none=>none
 |_=>none
noncomputable abbrev φ0:Gh:=λY Y=>False
noncomputable abbrev P0:aw->Prop:=λY=>True
theorem QY(h:0<s.toks):o5 φ0 s:=⟨λY Y Y h=>h.elim,λY Y h=>h.elim,λY Y h=>h.elim,h⟩
theorem XH:to s P0:=λY Y=>trivial
theorem Pd(h:zO es is):∀{s:ah},
 ao (ar oj wd) A (eC (eF pos (b_ es oe))) (λxs s'=>(∃tk,s'={s with toks:=tk})/\oA 0 φ0 s'.heap [] P0 (is.map .int) xs) oE s:=by
 induction h with
 |nil=>exact fT ⟨⟨_,rfl⟩,.nil⟩
 | @cons k u p es is _ ih =>
  intro s;refine eX (eW rfl λv tk hv=>?_) rfl;refine o6 (show∃t,v=.int k t from hv) ?_;rintro t rfl;refine up ih λxs s' ⟨⟨u0,e⟩,r⟩=>?_;subst e;exact⟨⟨_,rfl⟩,.cons (.int _ _) r⟩
theorem Pc:∀{is:List Int}{xs:List Value},oA 0 φ h [] P0 (is.map .int) xs->mz xs is:=by
 intro vv
 induction vv with
 |nil =>
  intro _ r;refine oa r.unnil ?_;exact .nil
 |cons i is ih =>
  intro _ r;refine qe r.uncons ?_;rintro x ys rfl a q;refine o6 a.intv ?_;rintro t rfl;exact .cons i t (ih q)
theorem waC(q:mz xs is)(r:mz ys js):mz (xs++ys) (is++js):=by
 induction q with
 |nil=>exact r
 |cons i t _ ih=>exact .cons i t ih
theorem J2(qO:oj.main.scope.kind=.module)(hg:s.heap.Ns aG mg)(hn:mg x=none)(hb:s.heap.Ns bO mb)(hv:mb x=some v)(hd:(x==("__debug__":Str))=false) (h:Q v s):
 ao (ar oj wd) A (bK (.Name x p) (eE oj c F)) Q Er s :=
 jx qO rfl (iL hg hn hb hv h) hd
theorem WY(ns:List Int)(k:Int):(firstMet (λi=>ns.getD i 0) ns.length).any (·==k)=ns.any (·==k):=by
 rw[firstMet_any]
 congr 1
 apply hU
 ·simp
 ·intro i h1 h2;simp at h1;simp[h2]
theorem wgq(qO:oj.main.scope.kind=.module)(N:yc x)(hl:zO es is)(Zt:tI a b 1=some rs)(Zu:rs=uw a 1 (b-a).toNat)(oU:is.length+rs.length<=1000)(hb:oS.Ns bO mb)(m1:mb "set" = some (.type "set")) (m2:mb "list" = some (.type "list")) (m3:mb "range" = some (.type "range")) (n1:E.lookup ("set":Str)=none/\pN "set" = none) (n2:E.lookup ("list":Str)=none/\pN "list" = none) (n3:E.lookup ("range":Str)=none/\pN "range" = none):
 yO oS pN c Pl F (.Assign [.Name x p] (.Call (.Name "set" p1) [.BinOp (.List es p2) .Add (.Call (.Name "list" p3) [.Call (.Name "range" p4) [.Constant (.int a) k1 p5,.Constant (.int b) k2 p6] [] p7] [] p8) p9] [] pa) r) E lp ((x,.set is a b)::E) lp:=by
 intro A s Q Er hA vU R h;refine Ag R.ex λmg ps ts l T Y Y Y Y Y e6=>?_;have vP:s.heap.Ns bO mb:=hb.at' λo e=>R.old _ _ (by decide) e;refine dA ?_ (by rfl);refine Call_ (J2 qO T.g ((e6 _ n1.1).trans n1.2) vP m1 (by decide) (callWith_type1 (eX ?_ rfl) rfl rfl));refine fx (fI (sG (b9 (Pd hl) (λxs ou o7 whc=>?_) λY Y e=>e.elim)));refine p_ o7 λz2 oM=>?_;obtain⟨whY,rfl⟩:=z2;have hxl:xs.length=is.length:=by have:=oM.length;simpa using this.symm
 refine⟨sk (by lia),?_⟩;have kp:∀{h':bU},t4 s.heap h'->h'.Ns aG mg/\h'.Ns bO mb:=λk=>⟨T.g.keeps k,vP.keeps k⟩
 generalize hH:s.heap.push {cls:=.type "list",data:=.seq xs.toArray}=H₂;have kH:t4 s.heap H₂:=λb o e=>hH▸av _ e;have hL:H₂.PlainList s.heap.objs.size xs.toArray:=hH▸AH s.heap;have pT:oA 0 φ0 H₂ [] P0 (is.map .int) xs:=oM.ext kH;refine Call_ (J2 qO (kp kH).1 ((e6 _ n2.1).trans n2.2) (kp kH).2 m2 (by decide) (callWith_type1 (eX ?_ rfl) rfl rfl));refine Call_ (J2 qO (kp kH).1 ((e6 _ n3.1).trans n3.2) (kp kH).2 m3 (by decide) (callWith_type1 (sG (b9 (Pd (.cons (.cons .nil))) (λys ro xS whd=>?_) λY Y e=>e.elim)) rfl rfl));refine p_ xS λz1 vY=>?_;obtain⟨wge,rfl⟩:=z1;have RI:o5 φ0 ({s with heap:=H₂,toks:=wge}:ah):=QY (ab (ab vU whc.toks) whd.toks);refine up (Qr (tk:=0) (β:=[]) (P:=P0) (A:=A) RI (as:=[.int a,.int b]) (is:=rs) Zt vY) λv sF qq=>p_ qq λLa rv=>fT ?_;refine up (PD (tk:=0) (β:=[]) (P:=P0) hA La.tk XH rv) λwib rY ⟨GY,RA,GA⟩=>?_;have G':=La.trans RA;refine pK G'.grows.keeps λxT wia Wt BS=>?_;cases GA with
 | @lst _ l₅ ys hl₅ _ rl₅ =>
 have Yb:rY.heap.PlainList s.heap.objs.size xs.toArray:=hL.at λo e=>G'.ext _ _ e;have F5:ys.length=rs.length:=by have:=rl₅.length;simpa using this.symm
 refine Lp Yb.isList hl₅.isList (sk (by lia)) ?_;generalize IG:rY.heap.push {cls:=.type "list",data:=.seq (xs++ys).toArray}=H₆;have k6:t4 rY.heap H₆:=λb o e=>IG▸av _ e;have X_:H₆.PlainList rY.heap.objs.size (xs++ys).toArray:=IG▸AH rY.heap;refine fT ?_;have hi:mz (xs++ys).toArray.toList (is++rs):=by
  refine oa lJ ?_;exact waC (Pc pT) (Pc rl₅)
 have ZZ:s.heap.objs.size<=H₆.objs.size:=by
  have q1:H₂.objs.size=s.heap.objs.size+1:=by refine rwj hH ?_;refine oa (bg _ _) ?_;rfl
  have q2:H₂.objs.size<=rY.heap.objs.size:=G'.grows.size;have q3:H₆.objs.size=rY.heap.objs.size+1:=by refine rwj IG ?_;refine oa (bg _ _) ?_;rfl
  lia
 refine call_set_list (l:=rY.heap.objs.size) (items:=(xs++ys).toArray) (ns:=is++rs) hA X_.isList hi ?_ λh' u0 hS tT=>?_
 ·unfold scanBound;simp;lia
 ·have waW:t4 s.heap h':=λb o e=>tT b o (aN (k6 _ _ (G'.ext _ _ (kH _ _ e)))) (k6 _ _ (G'.ext _ _ (kH _ _ e)));have Wu:rY={s with heap:=rY.heap,toks:=rY.toks}:=by refine oa Wt ?_;rfl
  refine oa Wu ?_;refine Ei (s:={s with heap:=h',toks:=u0}) (tv:=.set is a b) qO N R waW ?_ (λts=>⟨_,_,_,rfl,hS,λk=>?_⟩) λh' tk R'=>h h' tk R'
  ·refine Af hS λo Y Y Y e Y=>?_;exact ae ZZ (bb (aN e))
  ·have:(xs++ys).toArray.size=(is++rs).length:=by simp;lia
   rw[this,WY,<-Zu]
noncomputable def uQ(p:fW)(x:Str):Bool:=p.main.scope.names.lookup x==some .local&&x != ("__builtins__":Str)
noncomputable def Gv(a:dj)(sc:cj):Bool:=a.defaults.isEmpty&&a.kw_defaults.isEmpty&&a.args.all (λa=>a.annotation.isNone)&&a.posonlyargs.isEmpty&&a.vararg.isNone&&a.kwonlyargs.isEmpty&&a.kwarg.isNone&&sc.names.all (λx=>x.2 != .free)
noncomputable def Kf(lp:List cq)(pos:cq):Bool:=lp.all λq=>!(q.line==pos.line&&q.col==pos.col)
noncomputable abbrev uj:=List (Str×TV)×List cq
inductive wK(p:fW) (e:uj):Stmt->uj->Prop
 |int {x:Str}{i:Int}{k:Nat}{p1 p2 p3:cq} (h:uQ p x=true):wK p e (.Assign [.Name x p1] (.Constant (.int i) k p2) p3) ((x,.int i)::e.1,e.2)
 |str {x i:Str}{k:Nat}{p1 p2 p3:cq} (h:uQ p x=true):wK p e (.Assign [.Name x p1] (.Constant (.str i) k p2) p3) ((x,.str i)::e.1,e.2)
 |fn {name Gm:Str}{params:dj}{body:List Stmt}{sc:cj}{pos:cq} (hn:Gm=name) (h1:uQ p name=true) (h2:Gv params sc=true) (h3:Kf e.2 pos=true):
  wK p e (.FunctionDef name params body [] none [] sc none Gm pos) ((name,.fn name params body sc)::e.1,e.2++[pos])
 |dictI {x:Str}{ks:List (Option Expr)}{vs:List Expr}{l:List (Int×Str)}{p1 p2 p3:cq} (hl:zL ks vs l) (h1:uQ p x=true) (h2:zD l=true) (h3:l.length<=1000) (h4:l≠[]):wK p e (.Assign [.Name x p1] (.Dict ks vs p2) p3) ((x,.dictI l)::e.1,e.2)
 |dictS {x:Str}{ks:List (Option Expr)}{vs:List Expr}{l:List (Str×Int)}{p1 p2 p3:cq} (hl:zQ e.1 ks vs l) (h1:uQ p x=true) (h2:(l.map (·.1)).Nodup) (h3:l.length<=1000) (h4:l≠[]):wK p e (.Assign [.Name x p1] (.Dict ks vs p2) p3) ((x,.dictS l)::e.1,e.2)
 |set {x f g h:Str}{es:List Expr}{is:List Int}{a b:Int}{k1 k2:Nat}{p1 p2 p3 p4 p5 p6 p7 p8 p9 pa pb pc:cq} (hl:zO es is) (h1:uQ p x=true) (h2:f = "set" /\ g = "list" /\ h = "range") (h5:tI a b 1=some (uw a 1 (b-a).toNat)) (h6:is.length+(uw a 1 (b-a).toNat).length<=1000)
  (h7:e.1.lookup ("set":Str)=none/\e.1.lookup ("list":Str)=none/\e.1.lookup ("range":Str)=none):
  wK p e (.Assign [.Name x p1] (.Call (.Name f p2) [.BinOp (.List es p3) .Add (.Call (.Name g p4) [.Call (.Name h p5) [.Constant (.int a) k1 p6,.Constant (.int b) k2 p7] [] p8] [] p9) pa] [] pb) pc) ((x,.set is a b)::e.1,e.2)
theorem P4{α:Type}{l:List α}(h:l.isEmpty=false):l≠[]:=λq=>nomatch (q▸h:([]:List α).isEmpty=false)
theorem J7{α:Type}{o:Option α}(h:o.isNone=true):o=none:=eJ.mp h
noncomputable def weF(p:fW)(e:uj)(x:Str)(px:cq)(l:List Expr)(pl:cq)(gn:Str)(pg:cq)(Kd:cq)(pos:cq)(f:Str)(pf pb pc:cq):(c:Expr)->Option {e':uj//wK p e (.Assign [.Name x px] (.Call (.Name f pf) [.BinOp (.List l pl) .Add (.Call (.Name gn pg) [c] [] Kd) pb] [] pc) pos) e'}
 | .Call (.Name h _) [.Constant (.int a) _ _,.Constant (.int b) _ _] [] _=>match Pb l with
  |some ⟨is,hl⟩=>if q:((uQ p x=true/\f=("set":Str)/\gn=("list":Str)/\h=("range":Str))/\tI a b 1=some (uw a 1 (b-a).toNat)/\is.length+(uw a 1 (b-a).toNat).length<=1000) /\
   (e.1.lookup ("set":Str)).isNone=true/\(e.1.lookup ("list":Str)).isNone=true/\(e.1.lookup ("range":Str)).isNone=true then some ⟨_,.set hl q.1.1.1 q.1.1.2 q.1.2.1 q.1.2.2 ⟨J7 q.2.1,J7 q.2.2.1,J7 q.2.2.2⟩⟩else none
  |none=>none
 |_=>none
noncomputable def weE(p:fW)(e:uj)(x:Str)(px pos:cq)(f:Str)(pf pb pc:cq):(l r:Expr)->Option {e':uj//wK p e (.Assign [.Name x px] (.Call (.Name f pf) [.BinOp l .Add r pb] [] pc) pos) e'}
 | .List l pl,.Call (.Name gn pg) [c] [] Kd=>weF p e x px l pl gn pg Kd pos f pf pb pc c
 |_,_=>none
noncomputable def R_(p:fW)(e:uj)(x:Str)(px pos:cq):(v:Expr)->Option {e':uj//wK p e (.Assign [.Name x px] v pos) e'}
 | .Constant (.int i) _ _=>if h:uQ p x=true then some ⟨_,.int h⟩else none
 | .Constant (.str i) _ _=>if h:uQ p x=true then some ⟨_,.str h⟩else none
 | .Dict ks vs _=>match L6 ks vs with
  |some ⟨l,hl⟩=>if h:((uQ p x=true/\zD l=true)/\l.length<=1000)/\l.isEmpty=false then some ⟨_,.dictI hl h.1.1.1 h.1.1.2 h.1.2 (P4 h.2)⟩else none
  |none=>match PV e.1 ks vs with
   |some ⟨l,hl⟩=>if h:((uQ p x=true/\(l.map (·.1)).Nodup)/\l.length<=1000)/\l.isEmpty=false then some ⟨_,.dictS hl h.1.1.1 h.1.1.2 h.1.2 (P4 h.2)⟩else none
   |none=>none
 | .Call (.Name f pf) [.BinOp l .Add r pb] [] pc=>weE p e x px pos f pf pb pc l r
 |_=>none
noncomputable def wgk(p:fW)(e:uj):(st:Stmt)->Option {e':uj//wK p e st e'}
 | .Assign [.Name x px] v pos=>R_ p e x px pos v
 | .FunctionDef name params body [] none [] sc none Gm pos=>if hn:Gm=name then(if h:(uQ p name=true/\Gv params sc=true)/\Kf e.2 pos=true then some ⟨_,.fn hn h.1.1 h.1.2 h.2⟩else none)else none
 |_=>none
noncomputable def GN(p:fW):List Stmt->uj->Option uj
 | [],e=>some e
 |s::ss,e=>(wgk p e s).bind λr=>GN p ss r.1
section
variable {A:br}{s:ah}{h h' oS hh:bU}{mg pN mb:Str->Option Value}{c Pl F:aw}{ps:Array Value}{ts El:List (aw×aw)}{E:List (Str×TV)}{lp:List cq}{oe:Env}
theorem B0{x:Str}(h:uQ oj x=true):yc x:=by
 unfold uQ at h;rw[aO]at h;have hl:=eq_of_beq h.1;refine⟨hl,by simpa using h.2,?_⟩;unfold gW;have:(({scope:=oj.main.scope,locals:=aG,globals:=aG,cells:=[]}:Env).kindOf x)=some .local:=hl;refine oa this ?_;refine oa (if_neg (by decide)) ?_;show("":Str)++x=x;apply lE;refine oa (nB _ _) ?_;simp;rfl
theorem wcA{sc:cj}{oe:Env}(h:sc.names.all (λx=>x.2 != .free)=true):fD sc oe=pure []:=by
 simp only[fD];refine oa (forIn_yield_id [] (λx hx c=>by
  obtain⟨n,kind⟩:=x;rw[aj]at h;have:=h _ hx;have:(kind==bQ)=false:=by simpa using this
  simp only[this,fb,if_false])) ?_
 rfl
structure Names0(oS:bU) (pN mb:Str->Option Value):Prop where
 b:oS.Ns bO mb
 m1:mb "set" = some (.type "set")
 m2:mb "list" = some (.type "list")
 m3:mb "range" = some (.type "range")
 n1:pN "set" = none
 n2:pN "list" = none
 n3:pN "range" = none
theorem Uz{name:Str}{params:dj}{body:List Stmt}{sc:cj}{pos:cq}(qO:oj.main.scope.kind=.module)(h1:uQ oj name=true)(h3:Gv params sc=true)(h4:Kf lp pos=true):
 yO oS pN c Pl F (.FunctionDef name params body [] none [] sc none name pos) E lp ((name,.fn name params body sc)::E) (lp++[pos]):=by
 unfold Gv at h3;simp only[aO,fN,eJ]at h3;refine p_ h3 λz1 d8=>?_;obtain⟨⟨⟨⟨⟨⟨d1,d2⟩,d3⟩,d4⟩,d5⟩,d6⟩,d7⟩:=z1;refine wgm qO (B0 h1) d1 d2 (R2 d3 d4 d5 d6 d7) (wcA d8) λq hq ⟨a,b⟩=>?_;have:=aj.mp h4 q hq;rw[a,b,beq_self_eq_true,beq_self_eq_true]at this;exact qb this
theorem wfh(qO:oj.main.scope.kind=.module)(N:Names0 oS pN mb){e e':uj}{st:Stmt}(h:wK oj e st e'):yO oS pN c Pl F st e.1 e.2 e'.1 e'.2:=by
 cases h with
 |int h=>exact wgp qO (B0 h)
 |str h=>exact wgr qO (B0 h)
 |fn hn h1 h2 h3=>refine oa hn ?_;exact Uz qO h1 h2 h3
 |dictI hl h1 h2 h3 h4=>exact wgn qO (B0 h1) hl h2 h3 h4
 |dictS hl h1 h2 h3 h4=>exact wgo qO (B0 h1) hl h2 h3 h4
 |set hl h1 h2 h5 h6 h7 =>
  refine oa h2.1 ?_;refine oa h2.2.1 ?_;refine oa h2.2.2 ?_;exact wgq qO (B0 h1) hl h5 rfl h6 N.b N.m1 N.m2 N.m3 ⟨h7.1,N.n1⟩ ⟨h7.2.1,N.n2⟩ ⟨h7.2.2,N.n3⟩
theorem wfi(qO:oj.main.scope.kind=.module)(N:Names0 oS pN mb)(hA:A.handled=none){e':uj}{Q:im->ah->Prop}{Er:Value->ah->Prop}:∀{ux:List Stmt}{e:uj}{s:ah},GN oj ux e=some e'->0<s.toks->uD oS pN c Pl e.1 e.2 s.heap ->
 (∀h' tk,uD oS pN c Pl e'.1 e'.2 h'->s.toks<=tk->Q .next {s with heap:=h',toks:=tk})->ao (ar oj wd) A (be ux (eE oj c F)) Q Er s:=by
 intro ux
 induction ux with
 |nil =>
  intro e s h ht R hQ;exact cW (hQ s.heap s.toks (ag h▸R) (ai _))
 |cons st ux ih =>
  intro e s h ht R hQ;refine oB (kq.mp h) λr Y h=>?_;exact aR (sG (wfh qO N r.2 A s _ _ hA ht R λh' tk R' u=>ih h (ab ht u.toks) R' λuM u0 RK sT=>hQ uM u0 RK (ae u.toks sT)))
end
noncomputable abbrev pw:fW:=ff
noncomputable def GL:Option uj:=GN pw pw.main.body ([],[])
theorem wgj:GL.isSome=true:=by decide +kernel
noncomputable def sM:List (Str×TV):=(GL.getD ([],[])).1
noncomputable def CX:List cq:=(GL.getD ([],[])).2
theorem wgi:GN pw pw.main.body ([],[])=some (sM,CX):=by
 have:=wgj;unfold sM CX
 induction h:GL using aa with
 |none=>rw[h]at this;cases this
 |some e=>exact h
noncomputable def UR:PySem.Step->Bool
 | .halt (.done _) _=>true
 |_=>false
theorem wfg{tq:Code->fe Fin}{p:fW}{heap:bU}{gens:Array GenState}{drawn:Drawn}{toks:kP}{os:OsState}{cur:fe Fin}{code:Code}{pos:cq}{stack:List Frame}:
 UR (step tq p wd ⟨heap,gens,drawn,toks,os⟩ ⟨cur,code,pos,stack⟩)=true->nK ⟨cur,code,pos,stack⟩=true:=by
 cases cur with
 |pure a =>
  cases a with
  |done f' =>
   induction stack using af with
   |nil=>exact λY=>rfl
   |cons fr oG=>cases fr<;>exact λh=>qb h
  |again c=>exact λh=>qb h
 |raise e =>
  induction stack using af with
  |nil=>delta step finish;dsimp only;cases gE gens<;>exact λh=>qb h
  |cons fr oG=>cases fr<;>exact λh=>qb h
 |load a _ k=>delta step;dsimp only;cases heap.get? a<;>exact λh=>qb h
 |genState g k=>delta step;dsimp only;cases gens[g]?<;>exact λh=>qb h
 |finish e=>delta step;dsimp only;cases gE gens<;>exact λh=>qb h
 |update a _ f k=>delta step;dsimp only;cases(heap.get? a).isSome<;>exact λh=>qb h
 |choose src n k=>delta step;dsimp only;cases n<;>exact λh=>qb h
 | «yield» v l p k=>delta step;dsimp only;cases splitAtGen stack<;>exact λh=>qb h
 |resume g r l k =>
  delta step;dsimp only
  induction gens[g]? using aa with
  |none=>exact λh=>qb h
  |some st =>
   cases st<;>first|exact λh=>qb h|skip
   ·cases r with
    |throw e=>exact λh=>qb h
    |send v=>cases v<;>exact λh=>qb h
 |_=>exact λh=>qb h
theorem wgc{tq:Code->fe Fin}{p:fW}{s s':ah}{t:Thread}{f:im}(h:step tq p wd s t=.halt (.done f) s'):nK t=true :=
 wfg (tq:=tq) (p:=p) (heap:=s.heap) (gens:=s.gens) (drawn:=s.drawn) (toks:=s.toks) (os:=s.os) (by refine oa (show step tq p wd ⟨s.heap,s.gens,s.drawn,s.toks,s.os⟩ ⟨t.cur,t.code,t.pos,t.stack⟩=.halt (.done f) s' from h) ?_;rfl)
theorem wet:∀{n:Nat}{s:ah}{t:Thread},n4 tq p wd n s t=.halted (.done f) s'->∃m t0,n4 tq p wd m s t=.running s' t0/\nK t0=true:=by
 intro vv
 induction vv with
 |zero =>
  intro s t h;cases h
 |succ n ih =>
  intro s t h;unfold n4 at h;cases hs:step tq p wd s t with
  |go ou t0 =>
   rw[hs]at h;refine pK (ih h) λm AT h1 h2=>?_;exact rf (m+1) AT (by unfold n4;refine oa hs ?_;exact h1) h2
  |halt o ou =>
   rw[hs]at h;have e1:o=.done f:=by injection h
   have e2:ou=s':=by injection h
   subst e1 e2;have:=step_halt_same (den:=tq) (prog:=p) (w:=wd) _ _ _ _ hs;subst this;exact rf 0 t rfl (wgc hs)
theorem wex:∀{m:Nat}{s:ah}{t:Thread},s.asleep->(∀k ou t0,n4 tq p wd k s t=.running ou t0->t0.calm=true)->n4 tq p wd m s t=.running s' t'->schedN tq p wd m (.single s t)=.running (.single s' t'):=by
 intro vv
 induction vv with
 |zero =>
  intro s t _ _ h;injection h with h1 h2
  subst h1 h2;rfl
 |succ m ih =>
  intro s t hz hc h;unfold n4 at h;cases hs:step tq p wd s t with
  |go ou t0 =>
   rw[hs]at h;have Yq:=hc 0 s t rfl;have e:sstep tq p wd (.single s t)=.go (.single ou t0):=by
    rcases sstep_single (den:=tq) (prog:=p) (w:=wd) s t Yq hz with e|e
    ·refine oa e ?_;refine oa hs ?_;rfl
    ·rw[hs]at e;cases e
   unfold schedN;refine oa e ?_;refine ih (kR (step_life tq p wd s ou t t0 hs) hz) (λk oJ AT hk=>hc (k+1) oJ AT ?_) h;unfold n4;refine oa hs ?_;exact hk
  |halt o ou=>rw[hs]at h;cases h
theorem wgb{t:fe Fin}{s:ah}{f:im}{R:ah->Prop}(Zo:s.asleep)(h:ao (ar oj wd) me t (λfin s'=>fin=.done f/\R s'/\gE s'.gens=false) (λY Y=>False) s):
 ∃n t0 s' qV,schedN (denote table) oj wd n (.single s ⟨t,.builtin "claim.caller" {},default,[]⟩)=.running (.single s' t0)/\nK t0=true/\s'.forget=qV.forget/\R qV/\s'.heap.life=s.heap.life:=by
 have h':=wp_of_wpAny_done (R:=λr s'=>(r=.ok f/\R s')/\gE s'.gens=false) caller_in
  (b9 h (λY Y qq=>tR qq λe a b=>xV f e ⟨rfl,a⟩ b) λY Y x=>x.elim) default
 refine Fm ((wp_iff_halts (M:=ar oj wd) (R:=λr s'=>r=.ok f/\R s') ..).mp h') λn r ou hn hR=>?_;refine s9 (runNI_real _ _ _ hn (outcomeOf_ends r)) λoJ hr hf hc=>?_;refine p_ hR ?_;rintro rfl hR;refine pK (wet hr) λm t0 h1 h2=>?_;exact JB m t0 oJ ou (wex Zo hc h1) h2 hf hR (runN_life _ _ _ hr)
structure K8(oS:bU) (pN mb:Str->Option Value):Prop extends Names0 oS pN mb where
 g:oS.Ns aG pN
 bmod:∃bm o,pN "__builtins__" = some (.ref bm)/\bm≠bO/\bm≠aG/\oS.get? bm=some o/\o.cls=.type "module" /\ o.dict=some bO/\o.data=.plain
 sys:bN<oS.objs.size
noncomputable def GO(p:fW):fe Fin:=do
 let code <-moduleCode p.main;let frame <-newBodyFrame code ny ny;let _ <-run (.body (n8 p) {scope:=p.main.scope,locals:=ny,globals:=ny,cells:=[],code,frame:=some frame})
 ret .none
theorem wgl(p:fW):topStub p=⟨GO p,.builtin "claim.caller" {},default,[]⟩:=rfl
theorem Ss:n8 pw=pw.main.body:=by rfl
theorem wgs(B:K8 s.heap pN mb)(ht:0<s.toks):
 ao (ar pw wd) me (GO pw) (λfin s'=>fin=.done (.ret .none)/\∃h tk c Pl,s'={s with heap:=h,toks:=tk}/\0<tk/\uD s.heap pN c Pl sM CX h) (λY Y=>False) s:=by
 unfold GO moduleCode;refine an (an (wpAny_fresh (sG (wpAny_newCodeX λc P h' tk hk hc hP zc OS Y u=>?_))));unfold newBodyFrame;have hg:h'.Ns aG pN:=B.g.keeps hk;refine an (an (mS (a:=aG) hg (mU ?_)));dsimp only;generalize hH:h'.push _=H;have I5:t4 s.heap H:=λb o e=>hH▸av _ (hk b o e);have xP:∀b o,h'.get? b=some o->H.get? b=some o:=λb o e=>hH▸av _ e;have vU:0<tk:=ab (lb _) u.toks;have Ob:aG<s.heap.objs.size:=B.g.lt;have Yu:s.heap.objs.size<=c:=hc;have IL:s.heap.objs.size<=P:=hP;have R:uD s.heap pN c P [] [] H:=by
  refine MY B.bmod λbm o b1 b2 b3 b4 b5=>?_;refine⟨⟨pN,#[],[],[],⟨B.g.keeps I5,(l8 zc OS).keeps xP,xP _ _ OS.2,trivial,⟨ab Ob Yu,ab Ob IL⟩,bm,o,b1,b2,b3,λq=>bu.mpr IL (q▸aN b4),I5 _ _ b4,b5⟩,rfl,rfl,cK,(λt ht=>nomatch ht),(λx tv hx=>nomatch hx),λY Y=>rfl⟩,λb o Y e=>I5 b o e,?_,IL,B.sys⟩;have q1:H.objs.size=h'.objs.size+1:=by refine rwj hH ?_;refine oa (bg _ _) ?_;rfl
  have q2:s.heap.objs.size<=h'.objs.size:=u.size
  lia
 refine oa Ss ?_;refine an (wpAny_run (codeAny_body (by rfl) (by rfl) ?_));refine wfi (F:=h'.objs.size) (by rfl) B.toNames0 (by rfl) wgi vU R λqI wgd qi ZL=>?_;exact aQ ⟨rfl,qI,wgd,c,P,rfl,ab vU ZL,qi⟩
theorem SK(P:gG):(bR P).isNs aG=true:=by kernel_rfl
theorem LH(P:gG):(bR P).isNs bO=true:=by kernel_rfl
theorem SJ(P:gG):(bR P).isNs gY=true:=by kernel_rfl
theorem SG(P:gG):(bR P).nsKeys gY=[]:=by kernel_rfl
theorem SF(P:gG):(bR P).nsMap aG "__builtins__" = some (.ref 4):=by kernel_rfl
theorem SE(P:gG):(bR P).get? 4=some {cls:=.type "module",dict:=some bO}:=by kernel_rfl
theorem SM(P:gG):decide (bN<(bR P).objs.size)=true:=by kernel_rfl
theorem SI(P:gG):((bR P).nsKeys aG).all (λk=>jR.contains k)=true:=by kernel_rfl
theorem SP(P:gG):(bR P).bltView=bltViewBooted:=by kernel_rfl
theorem Bf(P:gG)(x:Str)(h:x ≠ "__name__"):(bR P).nsMap bO x=mf x:=Heap.of_bltView (LH P) (SP P) x h
theorem CK(P:gG)(h:jR.contains x=false):(bR P).nsMap aG x=none:=nf λhk=>by
 have:=aj.mp (SI P) x hk;rw[h]at this;cases this
theorem SN:0<boot_toks:=by decide
theorem EX(P:gG):(bR P).Ns gY (λY=>none):=by
 have h:=jt (SJ P);have:(bR P).nsMap gY=λY=>none:=by
  funext x;exact nf (by refine oa (SG _) ?_;exact λq=>nomatch q)
 rw[this]at h;exact h
theorem Hg(P:gG):K8 (bR P) ((bR P).nsMap aG) ((bR P).nsMap bO) where
 b:=jt (LH P)
 m1:=(Bf P _ (by decide)).trans (by decide +kernel)
 m2:=(Bf P _ (by decide)).trans (by decide +kernel)
 m3:=(Bf P _ (by decide)).trans (by decide +kernel)
 n1:=CK P (by decide +kernel)
 n2:=CK P (by decide +kernel)
 n3:=CK P (by decide +kernel)
 g:=jt (SK P)
 bmod:=waq 4 _ (SF P) (by decide) (by decide) (SE P) rfl rfl rfl
 sys:=of_decide_eq_true (SM P)
theorem wdW:nN pw=plainProg pw.main.scope.names:=by rfl
theorem Kg(s:ah):fenceModules? pw s=some s:=by rfl
theorem FA(hn:h.Ns aG mg)(x:Str):globalOf h x=mg x:=ii hn x
structure EM(ou:ah):Prop where
 top:∃c Pl,uD (bR wd.params) ((bR wd.params).nsMap aG) c Pl sM CX ou.heap
 gens:ou.gens=#[]
 toks:0<ou.toks
theorem U5:sM.all (λe=>pw.boundNames.contains e.1)=true:=by decide +kernel
theorem U9:laidNames.all (λx=>(sM.lookup x).isNone)=true:=by decide +kernel
theorem wbI{γ:Type}{x:Str}{v:γ}:∀{l:List (Str×γ)},l.lookup x=some v->(x,v)∈l:=λh=>mem_of_lookup h
theorem head:(∃s,AfterRun (nN pw) wd s)/\∀s,AfterRun (nN pw) wd s->∃s6,fenceModules? pw s=some s6/\s6.gens=#[]/\∃ou,TopRan pw wd s6 ou/\ou.asleep/\EM ou:=by
 refine oB (aK.mp (boot_open (p:=pw) (N:=600) wdW (by decide) Kg wd)) λs6 h0 hv=>?_;unfold fencedOpening at h0;refine oB (kq.mp h0) λs h1 h2=>?_;rw[Kg]at h2;have Ji:s=s6:=ag h2;subst Ji;rw[<-table_eq_tree]at h1;have A:AfterImport (nN pw) wd s:=AfterImport.of_importEnds h1;refine⟨⟨s,A⟩,λs' sq=>?_⟩;obtain rfl:s'=s:=AfterImport.unique sq A;have e1:s'.heap=bR wd.params:=congrArg (·.1) hv;have e2:s'.gens=#[]:=congrArg (·.2.1) hv;have e3:s'.toks=boot_toks:=congrArg (·.2.2.2) hv;have B:=Hg wd.params;rw[<-e1]at B;have hz:s'.asleep:=A.life;obtain⟨n,t0,ou,oJ,r1,r2,r3,r4,r5⟩:=wgb (t:=GO pw) (s:=s') (f:=.ret .none) (R:=λqV=>∃h tk c Pl,qV={s' with heap:=h,toks:=tk}/\0<tk/\uD s'.heap ((bR wd.params).nsMap aG) c Pl sM CX h) hz
  (b9 (wgs (pN:=(bR wd.params).nsMap aG) (mb:=(bR wd.params).nsMap bO) (e1▸B) (by refine oa e3 ?_;exact SN)) (λfin qV ⟨a,h,tk,c,Pl,b,d,e⟩=>qJ a ⟨h,tk,c,Pl,b,d,e⟩ (by refine oa b ?_;show gE s'.gens=false;refine oa e2 ?_;decide +kernel)) λY Y x=>x)
 refine wX r4 ?_;rintro h tk c Pl rfl vU T;have es:ou={s' with heap:=h,toks:=tk}:=Shared.eq_of_forget_eq r3 e2;subst es;have he:(bR wd.params)=s'.heap:=e1.symm;have T':=T;rw[e1]at T';refine⟨s',Kg s',e2,_,⟨⟨n,t0,by refine oa (wgl _) ?_;exact r1,r2⟩,r5,Shared.rest_eq rfl,λb o hb hn=>T.old b o (λq=>hn (.inl q)) hb,?_,?_,?_,?_,?_,?_,?_,?_⟩,kR r5 hz,⟨⟨c,Pl,T'⟩,e2,vU⟩⟩
 ·
  have qU:h.Ns gY (λY=>none):=(EX wd.params).at' λo e=>T'.old _ _ (by decide) e;intro key v hv;have:jQ h key=none:=by
   refine xI qU λo es ep ho hd Y hf=>?_;unfold jQ;refine oa ho ?_;simp only[hd];exact hf key
  rw[show({s' with heap:=h,toks:=tk}:ah).heap=h from rfl,this]at hv;cases hv
 ·intro key;left;have qU:h.Ns gY (λY=>none):=(EX wd.params).at' λo e=>T'.old _ _ (by decide) e;have ZB:s'.heap.Ns gY (λY=>none):=by refine oa e1 ?_;exact EX wd.params
  have st:∀{h:bU},h.Ns gY (λY=>none)->jQ h key=none:=λhn=>by
   refine xI hn λo es ep ho hd Y hf=>?_;unfold jQ;refine oa ho ?_;simp only[hd];exact hf key
  show jQ h key=jQ s'.heap key;refine oa (st qU) ?_;refine oa (st ZB) ?_;rfl
 ·refine Af T'.ex λmg ps ts l S Y=>?_;exact PySem.Pin.keysAreStrs_of_ns S.g
 ·have hb:h.Ns bO ((bR wd.params).nsMap bO):=(Hg wd.params).b.at' λo e=>T'.old _ _ (by decide) e;intro name hn;have:builtinOf h name=(bR wd.params).nsMap bO name:=by
   refine xI hb λo es ep ho hd Y hf=>?_;unfold builtinOf;refine oa ho ?_;simp only[hd];exact hf name
  refine oa (show({s' with heap:=h,toks:=tk}:ah).heap=h from rfl) ?_;refine oa this ?_;exact Bf _ name hn
 ·refine Ag T'.ex λmg ps ts l S Y Y Y Y e5 e6=>?_;refine MZ S.bmod λbm o b1 b2 b3 b4 b5 b6 b7 b8=>?_;exact⟨bm,o,(FA S.g _).trans b1,b5,b6,b7⟩
 ·intro g hg;rw[show({s' with heap:=h,toks:=tk}:ah).gens=#[]from e2]at hg;simp at hg
 ·intro x v hx;refine Ag T'.ex λmg ps ts l S Y Y Y Y e5 e6=>?_;have s4:mg x=some v:=(FA S.g x).symm.trans hx
  induction hl:sM.lookup x using aa with
  |some tv =>
   right;have:=aj.mp U5 _ (wbI hl);exact iv.mp this
  |none =>
   left;rw[e6 x hl]at s4
   induction hc:jR.contains x using aZ with
   |true=>exact iv.mp hc
   |false=>rw[CK _ hc]at s4;cases s4
 ·intro x hx;refine Ag T'.ex λmg ps ts l S Y Y Y Y e5 e6=>?_;have hl:sM.lookup x=none:=eJ.mp (aj.mp U9 x hx);refine oa (show({s' with heap:=h,toks:=tk}:ah).heap=h from rfl) ?_;refine oa (FA S.g _) ?_;refine oa (e6 x hl) ?_;refine oa (FA B.g _) ?_;refine oa e1 ?_;rfl
noncomputable def tK:Stmt->TV
 | .FunctionDef n p b _ _ _ sc _ _ _=>.fn n p b sc
 |_=>.int 0
noncomputable def R6:List Arg->Bool
 | [⟨_,none,_⟩]=>true
 | [⟨_,none,_⟩,⟨_,none,_⟩]=>true
 | [⟨_,none,_⟩,⟨_,none,_⟩,⟨_,none,_⟩]=>true
 |_=>false
noncomputable def Qh(p:dj):Bool:=p.posonlyargs.isEmpty&&R6 p.args&&p.vararg.isNone&&p.kwonlyargs.isEmpty&&p.kw_defaults.isEmpty&&p.kwarg.isNone&&p.defaults.isEmpty
noncomputable def Qw(ps:List Str)(sc:cj):Bool:=!sc.isCoroutine&&!sc.isGenerator&&sc.kind==.function&&AN (rI ps sc)&&decide (sc.names.map (·.1)).Nodup&&decide ps.Nodup&&sc.names.all (λx=>x.2 != .free)&&ps.all (λx=>sc.names.lookup x==some .local||sc.names.lookup x==some .cell)
noncomputable def E8:Stmt->Bool
 | .FunctionDef n p b _ _ _ sc _ _ _=>Qh p&&Qw (p.args.map (·.arg)) sc
 |_=>false
noncomputable def wD:Stmt->dj
 | .FunctionDef _ p _ _ _ _ _ _ _ _=>p
 |_=>⟨[],[],none,[],[],none,[]⟩
noncomputable def AZ(st:Stmt):Prop:=∀(n:Str) (b:List Stmt) (sc:cj) (pR pm ql:Value) (c':aw) (vals:List Value),vals.length=((wD st).args.map (·.arg)).length->dS (fnX n n (wD st) b sc [] .none .none pR pm none (.ref c') ql) ⟨vals,[]⟩=pure (((wD st).args.map (·.arg)).zip vals)
theorem Mf{C:Stmt->Prop}{st:Stmt}(h:E8 st=true)(k:∀n p b d r tc sc x y z,Qh p=true->Qw (p.args.map (·.arg)) sc=true->C (.FunctionDef n p b d r tc sc x y z)):C st:=by
 induction st using kB with
 |FunctionDef=>exact qG h λh1 h2=>k _ _ _ _ _ _ _ _ _ _ h1 h2
 |_=>exact qb h
theorem Ux{st:Stmt}(hB:AZ st){fd:cg}{name:Str}{p:dj}{b:List Stmt}{sc:cj}{c':aw}{mu:List Str}(h:E8 st=true)(e:tK st=.fn name p b sc)(F:Cp fd name p b sc c'):sy fd (Bz mu st) (p.args.map (·.arg)) b mu:=by
 revert hB e;refine Mf (C:=λst=>AZ st->tK st=.fn name p b sc->sy fd (Bz mu st) (p.args.map (·.arg)) b mu) h λn' p' b' Y Y Y D6 Y Y Y h1 h2 hB e=>?_;refine TV.fn.inj e|>.elim λe1 r=>r.elim λe2 r=>r.elim λe3 e4=>?_;subst e1 e2 e3 e4;refine H5 F ?_;rintro pR pm ql rfl;exact qG h2 λh2 k8=>qG h2 λh2 k7=>qG h2 λh2 k6=>qG h2 λh2 k5=>qG h2 λh2 k4=>qG h2 λh2 k3=>qG h2 λk1 k2 =>
  ⟨rfl,rfl,rfl,rfl,(dQ _).mp k1,(dQ _).mp k2,eq_of_beq k3,hB n' b' D6 pR pm ql c',rfl,rfl,rfl,k4,of_decide_eq_true k5,of_decide_eq_true k6,k7,k8⟩
noncomputable def Mg:List (Nat×Nat×List Str):=[(0,2,[]),(3,6,["q_digits"]),(4,7,[]),(5,9,[]),(6,10,[]),(7,11,[]),(10,69,[]),(11,70,[]),(12,71,[]),(13,73,[]),(14,74,["row"]),(15,75,["row"]),(16,76,["names","near"]),(17,77,["told"]),(18,78,[]),(19,79,["tables","table"]),(20,80,[]),(21,81,[])]
noncomputable def ua:List (Nat×Str×Nat):=[(0,"_div2n1n",2),(1,"_int2digits",4),(2,"_digits2int",5),(3,"_divmod_pos",6),(4,"int_divmod",7),(5,"rgb_to_hls",9),(6,"rgb_to_hsv",10),(7,"hsv_to_rgb",11),
 (8,"in_table_b1",14),(9,"map_table_b3",16),(10,"ISTERMINAL",69),(11,"ISNONTERMINAL",70),(12,"ISEOF",71),(13,"_law_word",73),(14,"_law_page",74),(15,"_law_read",75),
 (16,"_law_net",76),(17,"_law_lamps",77),(18,"_law_paintings",78),(19,"_law_classes",79),(20,"_law_plain",80),(21,"law",81)]
noncomputable def fns(k:Nat):Option rM:=(Mg.lookup k).map λ(i,m)=>Bz m (tn i)
theorem wN{st:Stmt}(h:((wD st).args.map (·.arg)).length=1)(hb:∀n b sc pR pm ql c' u,dS (fnX n n (wD st) b sc [] .none .none pR pm none (.ref c') ql) ⟨[u],[]⟩=pure (((wD st).args.map (·.arg)).zip [u])):AZ st:=λn b sc pR pm ql c' vals hl =>
 Py (Q:=λvals=>dS _ ⟨vals,[]⟩=pure (nn _ vals)) (hl.trans h) (hb n b sc pR pm ql c')
theorem Be{st:Stmt}(h:((wD st).args.map (·.arg)).length=2)(hb:∀n b sc pR pm ql c' u v,dS (fnX n n (wD st) b sc [] .none .none pR pm none (.ref c') ql) ⟨[u,v],[]⟩=pure (((wD st).args.map (·.arg)).zip [u,v])):AZ st:=λn b sc pR pm ql c' vals hl =>
 Pz (Q:=λvals=>dS _ ⟨vals,[]⟩=pure (nn _ vals)) (hl.trans h) (hb n b sc pR pm ql c')
theorem CI{st:Stmt}(h:((wD st).args.map (·.arg)).length=3)(hb:∀n b sc pR pm ql c' u v wd,dS (fnX n n (wD st) b sc [] .none .none pR pm none (.ref c') ql) ⟨[u,v,wd],[]⟩=pure (((wD st).args.map (·.arg)).zip [u,v,wd])):AZ st:=λn b sc pR pm ql c' vals hl =>
 wbn (Q:=λvals=>dS _ ⟨vals,[]⟩=pure (nn _ vals)) (hl.trans h) (hb n b sc pR pm ql c')
noncomputable def Ru(x:Nat×Str×Nat):Prop:=AZ (tn x.2.2)
theorem W6:∀x∈ua,Ru x :=
 oZ (CI (by kernel_rfl) (λY Y Y Y Y Y Y Y Y Y=>by kernel_rfl))<|oZ (Be (by kernel_rfl) (λY Y Y Y Y Y Y Y Y=>by kernel_rfl))<|oZ (Be (by kernel_rfl) (λY Y Y Y Y Y Y Y Y=>by kernel_rfl))<|oZ (Be (by kernel_rfl) (λY Y Y Y Y Y Y Y Y=>by kernel_rfl))<|oZ (Be (by kernel_rfl) (λY Y Y Y Y Y Y Y Y=>by kernel_rfl))<|oZ (CI (by kernel_rfl) (λY Y Y Y Y Y Y Y Y Y=>by kernel_rfl))<|oZ (CI (by kernel_rfl) (λY Y Y Y Y Y Y Y Y Y=>by kernel_rfl))<|oZ (CI (by kernel_rfl) (λY Y Y Y Y Y Y Y Y Y=>by kernel_rfl))<|oZ (wN (by kernel_rfl) (λY Y Y Y Y Y Y Y=>by kernel_rfl))<|oZ (wN (by kernel_rfl) (λY Y Y Y Y Y Y Y=>by kernel_rfl))<|oZ (wN (by kernel_rfl) (λY Y Y Y Y Y Y Y=>by kernel_rfl))<|oZ (wN (by kernel_rfl) (λY Y Y Y Y Y Y Y=>by kernel_rfl))<|oZ (wN (by kernel_rfl) (λY Y Y Y Y Y Y Y=>by kernel_rfl))<|oZ (wN (by kernel_rfl) (λY Y Y Y Y Y Y Y=>by kernel_rfl))<|oZ (wN (by kernel_rfl) (λY Y Y Y Y Y Y Y=>by kernel_rfl))<|oZ (wN (by kernel_rfl) (λY Y Y Y Y Y Y Y=>by kernel_rfl))<|oZ (wN (by kernel_rfl) (λY Y Y Y Y Y Y Y=>by kernel_rfl))<|oZ (Be (by kernel_rfl) (λY Y Y Y Y Y Y Y Y=>by kernel_rfl))<|oZ (CI (by kernel_rfl) (λY Y Y Y Y Y Y Y Y Y=>by kernel_rfl))<|oZ (wN (by kernel_rfl) (λY Y Y Y Y Y Y Y=>by kernel_rfl))<|oZ (Be (by kernel_rfl) (λY Y Y Y Y Y Y Y Y=>by kernel_rfl))<|oZ (wN (by kernel_rfl) (λY Y Y Y Y Y Y Y=>by kernel_rfl))<|wg
theorem Nl:ua.all (λx=>E8 (tn x.2.2))=true:=by decide +kernel
noncomputable def Pf(x:Str):TV->Bool
 | .fn n _ _ _=>n==x
 |_=>false
theorem waD(h:Pf x v=true):∃p b sc,v=.fn x p b sc:=by
 cases v with
 |fn n p b sc=>exact war p b sc (eq_of_beq h▸rfl)
 |_=>exact qb h
theorem W9:ua.all (λx=>Pf x.2.1 (tK (tn x.2.2)))=true:=by decide +kernel
theorem W8:ua.map (λx=>sM.lookup x.2.1)=ua.map (λx=>some (tK (tn x.2.2))):=by kernel_rfl
theorem W7(x:Nat×Str×Nat)(hx:x∈ua):sM.lookup x.2.1=some (tK (tn x.2.2))/\(∃p b sc,tK (tn x.2.2)=.fn x.2.1 p b sc):=
 ⟨List.map_inj_left.mp W8 x hx,waD (aj.mp W9 x hx)⟩
noncomputable def O2:Nat->cq:=B5 [(30,4,30,12),(30,16,30,17),(30,15,30,18),(30,23,30,24),(30,23,30,35),(30,23,30,37),(30,40,30,41),(30,23,30,41),(30,44,30,45),(30,23,30,45),(30,50,30,51),(30,22,30,51),(30,15,30,52),(30,4,30,52),(42,7,42,8),(43,8,43,13),(43,14,43,15),(43,17,43,18),(43,20,43,23),(43,24,43,32),(43,20,43,33),(43,8,43,34),(43,8,43,34),(42,4,43,34),(44,11,44,19),(44,4,44,19)]
noncomputable def DJ:Nat->cq:=B5 [(33,11,33,12),(33,15,33,16),(33,11,33,16),(33,20,33,21),(33,11,33,21),(34,12,34,20),(34,21,34,22),(34,12,34,23),(34,26,34,27),(34,12,34,27),(35,12,35,18),(33,8,35,18),(36,8,36,11),(36,14,36,15),(36,18,36,19),(36,14,36,19),(36,23,36,24),(36,14,36,24),(36,8,36,24),(37,8,37,13),(37,17,37,20),(37,23,37,24),(37,17,37,24),(37,28,37,29),(37,16,37,29),(37,8,37,29),(38,8,38,13),(38,16,38,17),(38,21,38,26),(38,16,38,26),(38,8,38,26),(39,8,39,13),(39,16,39,17),(39,20,39,25),(39,29,39,34),(39,20,39,34),(39,16,39,34),(39,8,39,34),(40,8,40,13),(40,14,40,19),(40,21,40,22),(40,24,40,27),(40,8,40,28),(40,8,40,28),(41,8,41,13),(41,14,41,19),(41,21,41,24),(41,26,41,27),(41,8,41,28),(41,8,41,28),(32,14,32,15),(32,17,32,18),(32,20,32,21),(32,4,41,28)]
noncomputable def Md:Nat->cq:=B5 [(53,36,53,42),(53,11,53,16),(53,17,53,18),(53,20,53,23),(53,24,53,30),(53,20,53,31),(53,11,53,32),(53,48,53,49),(53,11,53,49),(53,4,53,49)]
noncomputable def CV:Nat->cq:=B5 [(48,11,48,12),(48,15,48,16),(48,11,48,16),(48,20,48,21),(48,11,48,21),(49,19,49,25),(49,26,49,27),(49,19,49,28),(49,12,49,28),(48,8,49,28),(50,8,50,11),(50,14,50,15),(50,18,50,19),(50,14,50,19),(50,23,50,24),(50,14,50,24),(50,8,50,24),(51,8,51,13),(51,17,51,20),(51,23,51,24),(51,17,51,24),(51,28,51,29),(51,16,51,29),(51,8,51,29),(52,16,52,21),(52,22,52,25),(52,27,52,28),(52,16,52,29),(52,33,52,38),(52,16,52,38),(52,42,52,47),(52,48,52,49),(52,51,52,54),(52,42,52,55),(52,15,52,55),(52,8,52,55),(0,0,0,0),(0,0,0,0),(0,0,0,0),(0,0,0,0),(47,14,47,15),(47,17,47,18),(47,4,52,55)]
noncomputable def Lx:Nat->cq:=B5 [(143,11,143,14),(143,15,143,19),(143,11,143,20),(143,24,143,30),(143,11,143,30),(143,4,143,30)]
noncomputable def Lz:Nat->cq:=B5 [(146,4,146,5),(146,8,146,21),(146,8,146,25),(146,26,146,29),(146,30,146,34),(146,26,146,35),(146,8,146,36),(146,4,146,36),(147,7,147,8),(147,16,147,20),(147,7,147,20),(148,15,148,16),(148,8,148,16),(147,4,148,16),(149,11,149,15),(149,11,149,21),(149,11,149,23),(149,4,149,23)]
theorem tv4:tK (tn 4)=.fn "_int2digits" (Gs "a" "n" ⟨29,16,29,17⟩ ⟨29,19,29,20⟩) (Jv O2 DJ) DH:=by kernel_rfl
theorem tv5:tK (tn 5)=.fn "_digits2int" (Gs "digits" "n" ⟨45,16,45,22⟩ ⟨45,24,45,25⟩) (HA Md CV) CT:=by kernel_rfl
theorem wgV:tK (tn 14)=.fn "in_table_b1" ⟨[],[⟨"code",none,⟨142,16,142,20⟩⟩],none,[],[],none,[]⟩ (EP Lx) EU:=by kernel_rfl
theorem wgW:tK (tn 16)=.fn "map_table_b3" ⟨[],[⟨"code",none,⟨145,17,145,21⟩⟩],none,[],[],none,[]⟩ (Hf Lz) EW:=by kernel_rfl
theorem U6:sM.lookup ("_DIV_LIMIT":Str)=some (.int 4000):=by kernel_rfl
theorem U':sM.lookup ("NT_OFFSET":Str)=some (.int 256):=by kernel_rfl
theorem U7:sM.lookup ("ENDMARKER":Str)=some (.int 0):=by kernel_rfl
theorem U3:sM.lookup ("b1_set":Str)=some (.set EQ 65024 65040):=by kernel_rfl
theorem U4:sM.lookup ("b3_exceptions":Str)=some (.dictI Ly):=by kernel_rfl
noncomputable def Eh:List (Str×Int):=match sM.lookup ("EXACT_TOKEN_TYPES":Str)with
 |some (.dictS l)=>l
 |_=>[]
theorem U_:sM.lookup ("EXACT_TOKEN_TYPES":Str)=some (.dictS Eh):=by kernel_rfl
theorem QZ:Eh.all (λe=>qK.lookup e.1.cps.toList==some e.2)=true/\qK.all (λe=>Eh.lookup ⟨e.1.toArray⟩==some e.2)=true:=by decide +kernel
theorem U8:(["range","list","int","bool","reversed","len","sum","max","min","ord","chr","divmod","isinstance"]:List Str).all (λx=>(sM.lookup x).isNone&&!jR.contains x)=true:=by decide +kernel
theorem wcr:t_.all (λe=>match e.2 with | .user k=>(ua.lookup k).map (·.1)==some e.1|_=>true)=true:=by decide +kernel
theorem Pu{K:Type}[DecidableEq K][BEq K][LawfulBEq K]{γ:Type}{Pv:γ->Value->Prop}:∀{l:List (K×γ)}{oQ:List (K×Value)},sV (l.map λe=>(e.1,Pv e.2)) oQ->∀x,(∀v,l.lookup x=some v->∃u,fQ oQ x=some u/\Pv v u)/\(l.lookup x=none->fQ oQ x=none):=by
 intro l
 induction l with
 |nil =>
  intro oQ h x;cases h;exact⟨λv h=>by simp at h,λY=>rfl⟩
 |cons e l ih =>
  intro oQ h x;obtain⟨k,g⟩:=e;cases h with | @cons _ _ u _ _ h r =>
  have ih:=ih r x;unfold fQ at ih ⊢;refine oa bv ?_;refine oa List.find?_cons ?_;by_cases q:x=k
  ·subst q;simp only[beq_self_eq_true,decide_true,mj];exact⟨λv e=>by cases e;exact oV u rfl h,λe=>nomatch e⟩
  ·have q':¬k=x:=λe=>q e.symm;simp only[beq_eq_false_iff_ne.mpr q,decide_eq_false q'];exact ih
theorem wdX:∀(n:Nat) (a k:Int),(uw a 1 n).any (·==k)=(decide (a<=k)&&decide (k<a+n)):=by
 intro vv
 induction vv with
 |zero =>
  intro a k;show false=_;by_cases h:a<=k
  ·simp[h]
  ·simp[h]
 |succ n ih =>
  intro a k;rewrite [D5];refine oa i4 ?_;refine oa (ih (a+1) k) ?_;by_cases h:a=k
  ·subst h;simp;lia
  ·have:(a==k)=false:=beq_eq_false_iff_ne.mpr h;refine oa this ?_;refine oa (nH _) ?_
   congr 1
   ·exact decide_eq_decide.mpr (by lia)
   ·exact decide_eq_decide.mpr (by lia)
theorem Ls(k:Int):∀l:List Int,l.any (·==k)=l.contains k
 | []=>rfl
 |a::l=>by
  refine oa i4 ?_;refine oa (Ls k l) ?_;refine oa List.contains_cons ?_
  congr 1
  exact Bool.beq_comm
set_option tactic.hygienic true in
theorem zp{α β:Type}[BEq α][LawfulBEq α]{x:α}{v:β}:∀{l:List (α×β)},l.lookup x=some v->(x,v)∈l:=by
 intro vv
 induction vv with
 |nil =>
  intro h;cases h
 |cons ee l ih =>
  obtain⟨k,u⟩:=ee;intro h;rw[bv]at h;split at h
  ·rename_i q;cases h;refine oa (eq_of_beq q) ?_;exact ax
  ·exact aP _ (ih h)
theorem Sg:(λk=>(EQ++uw 65024 1 ((65040:Int)-65024).toNat).any (·==k))=rJ:=by
 funext k;refine oa List.any_append ?_;rw[wdX];unfold rJ
 congr 1
 exact Ls k EQ
theorem Q0{x:Str}:zH x=Eh.lookup x:=by
 unfold zH
 induction h:Eh.lookup x using aa with
 |some i =>
  have:=aj.mp QZ.1 _ (zp h);exact eq_of_beq this
 |none =>
  induction h2:qK.lookup x.cps.toList using aa with
  |none=>rfl
  |some i =>
   exfalso;have:=aj.mp QZ.2 _ (zp h2);have e:=eq_of_beq this;have ex:(⟨x.cps.toList.toArray⟩:Str)=x:=by simp
   rw[ex,h]at e;cases e
theorem SO:(["range","list","int","bool","reversed"]:List String).all (λx=>decide (cM x≠("__name__":Str))&&decide (mf (cM x)=some (.type x)))=true:=by decide +kernel
theorem SH:(["len","sum","max","min","ord","chr","divmod","isinstance"]:List String).all (λx=>decide (cM x≠("__name__":Str))&&decide (mf (cM x)=some (.builtin x)))=true:=by decide +kernel
theorem XD:(["range","list","int","bool","reversed"]:List String).all (λx=>decide (cM x∈(["range","list","int","bool","reversed","len","sum","max","min","ord","chr","divmod","isinstance"]:List Str)))=true:=by decide +kernel
theorem XC:(["len","sum","max","min","ord","chr","divmod","isinstance"]:List String).all (λx=>decide (cM x∈(["range","list","int","bool","reversed","len","sum","max","min","ord","chr","divmod","isinstance"]:List Str)))=true:=by decide +kernel
noncomputable def y7(mg:Str->Option Value)(h:bU)(k:Nat):Option (Str×cg):=(ua.lookup k).bind λx=>match mg x.1 with
 |some (.ref a)=>(match h.get? a with
  |some o=>(match o.data with
   | .func fd=>some (x.1,fd)
   |_=>none)
  |none=>none)
 |_=>none
theorem Xs(h1:ua.lookup k=some (x,i))(h2:mg x=some (.ref a))(h3:h.get? a=some o)(h4:o.data=.func fd):y7 mg h k=some (x,fd):=by
 delta y7
 refine oa h1 ?_;dsimp only[Option.bind_some];refine oa h2 ?_;dsimp only;refine oa h3 ?_;dsimp only;refine oa h4 ?_;rfl
theorem wcI{h:bU}(e:(match h.get? a with
 |some o=>(match o.data with
  | .func fd=>some (x,fd)
  |_=>none)
 |none=>none)=some (y,fd)):y=x/\∃o,h.get? a=some o/\o.data=.func fd:=by
 induction h3:h.get? a using aa with
 |none=>rw[h3]at e;exact oq e
 |some o =>
  rw[h3]at e;replace e:(match o.data with | .func fd=>some (x,fd)|_=>none)=some (y,fd):=e
  induction h4:o.data using PySem.Data.casesOn with
  |func vJ=>rw[h4]at e;exact oN (Q:=λr=>r.1=x/\∃u:nk,some o=some u/\u.data=.func r.2) e ⟨rfl,o,rfl,h4⟩
  |_=>rw[h4]at e;exact oq e
theorem P_{h:bU}(e:y7 mg h k=some (x,fd)):∃i a o,ua.lookup k=some (x,i)/\mg x=some (.ref a)/\h.get? a=some o/\o.data=.func fd:=by
 refine Bl e λy h1 e=>?_;replace e:(match mg y.1 with
  |some (.ref a)=>(match h.get? a with
   |some o=>(match o.data with
    | .func fd=>some (y.1,fd)
    |_=>none)
   |none=>none)
  |_=>none)=some (x,fd):=e
 induction h2:mg y.1 using aa with
 |none=>rw[h2]at e;exact oq e
 |some v =>
  rw[h2]at e;cases v with
  |ref a =>
   obtain⟨rfl,o,h3,h4⟩:=wcI e;exact F_ y.2 a o h1 h2 h3 h4
  |_=>exact oq e
theorem T0{h:bU}(h1:h.CodeRec (.ref c) x)(h2:h.CodeRec (.ref c) y):x=y:=by
 refine Bw h1 λc1 o1 v1 t1 e1 g1 d1 k1=>?_;refine Bw h2 λc2 o2 v2 t2 e2 g2 d2 k2=>?_;cases e1;cases e2;rw[g1]at g2;cases g2;rw[d1]at d2;cases d2;rw[k1]at k2;cases k2;rfl
theorem wcE{ts:List (aw×aw)}(hn:(ts.map (·.2)).Nodup)(ha:a∈ts)(hb:b∈ts)(e:a.2=b.2):a=b:=by
 induction ts with
 |nil=>cases ha
 |cons t ts ih =>
  rw[aU,cB]at hn;rcases bh.mp ha with e1|NZ<;>rcases bh.mp hb with e2|ut
  ·refine oa e1 ?_;refine oa e2 ?_;rfl
  ·subst e1;exact absurd (aE.mpr ⟨b,ut,e.symm⟩) hn.1
  ·subst e2;exact absurd (aE.mpr ⟨a,NZ,e⟩) hn.1
  ·exact ih hn.2 NZ ut
noncomputable def zl(x:Str):Str:=(x++(".<locals>.":Str))++("inner":Str)
theorem Uw:Mg.all (λe=>(ua.lookup e.1).map (·.2)==some e.2.1)=true:=by decide +kernel
structure zN where
 a:aw
 fd:cg
 c:aw
 P:aw
 p:dj
 b:List Stmt
 sc:cj
structure uB(mg:Str->Option Value) (h:bU) (ts:List (aw×aw)) (x:Str) (i:Nat) (d:zN):Prop where
 m:mg x=some (.ref d.a)
 g:h.get? d.a=some {cls:=.type "function",data:=.func d.fd}
 f:Cp d.fd x d.p d.b d.sc d.c
 r:h.CodeRec (.ref d.c) x
 hd:jF h d.c d.P
 t:h.get? d.P=some (gC #[])
 ts:(d.c,d.P)∈ts
 tv:tK (tn i)=.fn x d.p d.b d.sc
structure rT(h:bU) (mg:Str->Option Value) (ts:List (aw×aw)):Prop where
 g:h.Ns aG mg
 bi:∃Pl,h.BuiltinsAt mg Pl
 nd:(ts.map (·.2)).Nodup
 e:∀x tv,sM.lookup x=some tv->∃v,mg x=some v/\vC ts h tv v
 no:∀x,sM.lookup x=none->mg x=(bR wd.params).nsMap aG x
 old:∀b o,b≠aG->(bR wd.params).get? b=some o->h.get? b=some o
noncomputable def gd(h:bU)(mg:Str->Option Value)(tok:aw)(d1 d2:zN):GD:=⟨mg,(bR wd.params).nsMap bO,tok,y7 mg h,[(d1.c,d1.P,DJ 53,zl "_int2digits"),(d2.c,d2.P,CV 42,zl "_digits2int")]⟩
theorem rT.fn(T:rT h mg ts)(hk:ua.lookup k=some (x,i)):∃d,uB mg h ts x i d:=by
 obtain⟨h1,p,b,sc,h2⟩:=W7 (k,x,i) (zp hk);rw[h2]at h1;obtain⟨v,hv,a,fd,c,P,rfl,k2,k3,k4,k5,k6,k7⟩:=T.e _ _ h1;exact⟨⟨a,fd,c,P,p,b,sc⟩,hv,k2,k3,k4,k5,k6,k7,h2⟩
theorem uB.at{ts:List (aw×aw)}(D:uB mg h ts x i d)(hk:ua.lookup k=some (x,i)):y7 mg h k=some (x,d.fd):=Xs hk D.m D.g rfl
theorem uB.ok{ts:List (aw×aw)}{d:zN}(D:uB mg h ts x i d)(hk:ua.lookup k=some (x,i))(mu:List Str):sy d.fd (Bz mu (tn i)) (d.p.args.map (·.arg)) d.b mu :=
 Ux (W6 (k,x,i) (zp hk)) (aj.mp Nl (k,x,i) (zp hk)) D.tv D.f
theorem Ee{d1 d2:zN}{C:(aw×aw×cq×Str)->Prop}(h1:C (d1.c,d1.P,DJ 53,zl "_int2digits")) (h2:C (d2.c,d2.P,CV 42,zl "_digits2int")):∀t∈(gd h mg tok d1 d2).tabs,C t :=
 oZ h1 (oZ h2 wg)
theorem rT.ne{d1 d2:zN}(T:rT h mg ts)(D1:uB mg h ts "_int2digits" 4 d1) (D2:uB mg h ts "_digits2int" 5 d2):d1.P≠d2.P:=λq =>
 have e:=nj (wcE T.nd D1.ts D2.ts q)
 absurd (T0 D1.r (e.1▸D2.r)) (by decide)
theorem rT.free(T:rT h mg ts)(x:Str)(hx:x∈(["range","list","int","bool","reversed","len","sum","max","min","ord","chr","divmod","isinstance"]:List Str)):mg x=none :=
 qG (aj.mp U8 x hx) λh1 h2=>(T.no x (eJ.mp h1)).trans (CK _ ((dQ _).mp h2))
theorem rT.bm(T:rT h mg ts):∃bm ob,mg "__builtins__" = some (.ref bm)/\bm≠bO/\h.get? bm=some ob/\ob.cls=.type "module" /\ ob.dict=some bO/\ob.data=.plain:=by
 refine Wh T.bi λPl bm o b1 b2 b3 b4 b5 b6 b7 b8=>?_;exact O8 bm o b1 b2 b5 b6 b7 b8
theorem rT.tokAt{h:bU}(T:rT h mg ts):∃a,mg ("EXACT_TOKEN_TYPES":Str)=some (.ref a)/\(a==bN)=false/\∃f,h.MapOf (strKind pw wd) a f/\(∀x k,zH x=some k->∃t,f x=some (.int k t))/\(∀x,zH x=none->f x=none):=by
 obtain⟨v,hv,a,oQ,rfl,n1,n2,dt,kt⟩:=T.e _ _ U_;have H:=λx=>Pu (Pv:=λ(i:Int) u=>∃t,u=.int i t) kt x;exact⟨a,hv,n2,_,dt.mapOf,λx k hx=>((H x).1 k (Q0▸hx)).elim λu ⟨h1,t,h2⟩=>⟨t,h1.trans (congrArg some h2)⟩,λx hx=>(H x).2 (Q0▸hx)⟩
theorem rT.b1At(T:rT h mg ts):∃a n,mg ("b1_set":Str)=some (.ref a)/\h.SetOf (bZ pw wd) a rJ n:=by
 obtain⟨v,hv,a,S,n,rfl,db,kb⟩:=T.e _ _ U3;exact rf a n hv ((funext kb).trans Sg▸db)
theorem rT.b3At{h:bU}(T:rT h mg ts):∃a f,mg ("b3_exceptions":Str)=some (.ref a)/\(a==bN)=false/\h.MapOf (bZ pw wd) a f/\(∀k x,wM k=some x->∃t,f k=some (.str x t))/\∀k,wM k=none->f k=none:=by
 obtain⟨v,hv,a,oQ,rfl,n1,n2,dt,kt⟩:=T.e _ _ U4;have H:=λx=>Pu (Pv:=λ(i:Str) u=>∃t,u=.str i t) kt x;exact wap a _ hv n2 dt.mapOf (λk x hx=>((H k).1 x hx).elim λu ⟨h1,t,h2⟩=>⟨t,h1.trans (congrArg some h2)⟩) (λk hx=>(H k).2 hx)
theorem rT.fns(T:rT h mg ts)(k:Nat)(x:Str)(fd:cg)(e:y7 mg h k=some (x,fd)):∃a o,mg x=some (.ref a)/\h.get? a=some o/\o.data=.func fd/\h.CodeRec fd.code fd.qualname:=by
 refine xI (P_ e) λi a o k1 k2 k3 k4=>?_;refine o6 (T.fn k1) λd D=>?_;have ea:=gv (ag (k2.symm.trans D.m));have eo:=ag ((ea▸k3).symm.trans D.g);have ed:fd=d.fd:=Data.func.inj ((eo▸k4).symm);refine H5 D.f λpR pm ql f=>?_;exact F9 a o k2 k3 k4 (ed▸f▸D.r)
theorem rT.inv{h:bU}(T:rT h mg ts)(D1:uB mg h ts "_int2digits" 4 d1) (D2:uB mg h ts "_digits2int" 5 d2) (tokMod:(tok==bN)=false) (ZK:∃f,h.MapOf (strKind pw wd) tok f/\(∀x k,zH x=some k->∃t,f x=some (.int k t))/\(∀x,zH x=none->f x=none)):pp (gd h mg tok d1 d2) h where
 g:=T.g
 b:=(Hg wd.params).b.at' λo e=>T.old _ _ (by decide) e
 stat:=(EX wd.params).at' λo e=>T.old _ _ (by decide) e
 tok:=ZK
 tokMod:=tokMod
 fns:=T.fns
 heads:=Ee (C:=λt=>jF h t.1 t.2.1) D1.hd D2.hd
 tabs:=Ee (C:=λt=>_\/_) (.inl D1.t) (.inl D2.t)
 bmain:=T.bm
 b1:=T.b1At
 b3:=T.b3At
theorem rT.num(T:rT h mg ts)(e:sM.lookup x=some (.int n)):∃t,mg x=some (.int n t):=(T.e _ _ e).elim λv ⟨h1,t,h2⟩=>⟨t,h1.trans (congrArg some h2)⟩
theorem rT.gok(T:rT h mg ts)(ht:mg ("EXACT_TOKEN_TYPES":Str)=some (.ref tok)):rO (gd h mg tok d1 d2) where
 divLimit:=T.num U6
 ntOffset:=T.num U'
 endMarker:=T.num U7
 tok:=ht
 types:=λx hx=>⟨T.free _ (of_decide_eq_true (aj.mp XD x hx)),qG (aj.mp SO x hx) λh1 h2=>(Bf _ _ (of_decide_eq_true h1)).trans (of_decide_eq_true h2)⟩
 builtins:=λx hx=>⟨T.free _ (of_decide_eq_true (aj.mp XC x hx)),qG (aj.mp SH x hx) λh1 h2=>(Bf _ _ (of_decide_eq_true h1)).trans (of_decide_eq_true h2)⟩
theorem XQ:ui (gd h mg tok d1 d2):=λx k y fd hx e=>by
 refine Fm (P_ e) λi a o k1 Y=>?_;have this:(ua.lookup k).map lm=some x:=eq_of_beq (aj.mp wcr _ (zp hx));exact ag ((congrArg (bJ lm) k1).symm.trans this)
theorem wgX{p p':dj}{b b':List Stmt}{sc D6:cj}{C:dj->List Stmt->cj->Prop}{st:Stmt}(h1:tK st=.fn x p b sc)(h2:tK st=.fn x p' b' D6)(k:C p' b' D6):C p b sc:=by
 have e:=TV.fn.inj (h1.symm.trans h2);refine oa e.2.1 ?_;refine oa e.2.2.1 ?_;refine oa e.2.2.2 ?_;exact k
theorem Ij(f:Cp fd x p b sc c):fd.scope=sc/\fd.code=.ref c/\fd.qualname=x/\fd.name=x:=by
 refine H5 f ?_;rintro _ _ _ rfl;exact xU rfl rfl rfl rfl
theorem uB.as{ts:List (aw×aw)}{d:zN}{p:dj}{b:List Stmt}{sc:cj}(D:uB mg h ts x i d)(hk:ua.lookup k=some (x,i))(tv:tK (tn i)=.fn x p b sc)(mu:List Str):sy d.fd (Bz mu (tn i)) (p.args.map (·.arg)) b mu/\d.fd.scope=sc :=
 wgX (C:=λp b sc=>sy d.fd (Bz mu (tn i)) (p.args.map (·.arg)) b mu/\d.fd.scope=sc) tv D.tv ⟨D.ok hk mu,(Ij D.f).1⟩
theorem sy.self(D:sy fd f ps body mu):sy fd ⟨ps.length,(rI ps fd.scope).next,sx (rI ps fd.scope) mu body⟩ ps body mu:={D with nargs:=rfl,nvars:=rfl,tree:=rfl}
theorem QS{d1 d2:zN}{h:bU}{mg:Str->Option Value}{tok:aw}(hP:d1.P≠d2.P):(∀t'∈(gd h mg tok d1 d2).tabs,t'.2.1=d1.P->t'=(d1.c,d1.P,DJ 53,zl "_int2digits"))/\∀t'∈(gd h mg tok d1 d2).tabs,t'.2.1=d2.P->t'=(d2.c,d2.P,CV 42,zl "_digits2int"):=
 ⟨Ee (C:=λt'=>t'.2.1=d1.P->t'=_) (λY=>rfl) λe=>absurd e.symm hP,Ee (C:=λt'=>t'.2.1=d2.P->t'=_) (λe=>absurd e hP) λY=>rfl⟩
theorem rT.prims(T:rT h mg ts)(D1:uB mg h ts "_int2digits" 4 d1) (D2:uB mg h ts "_digits2int" 5 d2):G6 (gd h mg tok d1 d2) where
 p1:=have o:=D1.as (k:=1) rfl tv4 [];have q:=Ij D1.f;⟨_,_,_,O2,DJ,D1.at (k:=1) rfl,⟨o.1.self,ax,(QS (T.ne D1 D2)).1,q.2.1,rfl,congrArg zl q.2.2.1⟩,o.2,rfl⟩
 p2:=have o:=D2.as (k:=2) rfl tv5 [];have q:=Ij D2.f;⟨_,_,_,Md,CV,D2.at (k:=2) rfl,⟨o.1.self,aP _ ax,(QS (T.ne D1 D2)).2,q.2.1,rfl,congrArg zl q.2.2.1⟩,o.2⟩
 p8:=(T.fn (k:=8) rfl).elim λY D=>have o:=D.as (k:=8) rfl wgV [];⟨_,_,_,Lx,[],D.at (k:=8) rfl,o.1,o.2⟩
 p9:=(T.fn (k:=9) rfl).elim λY D=>have o:=D.as (k:=9) rfl wgW [];⟨_,_,_,Lz,[],D.at (k:=9) rfl,o.1,o.2,rfl,rfl⟩
theorem XP(T:rT h mg ts)(k:Nat)(d:rM)(hk:fns k=some d):∃x fd ps body mu,y7 mg h k=some (x,fd)/\sy fd d ps body mu:=by
 refine yj (Q:=λd=>∃x fd ps body mu,y7 mg h k=some (x,fd)/\sy fd d ps body mu) hk λ⟨i',mu⟩ h1=>?_;refine oB (aK.mp (eq_of_beq (aj.mp Uw _ (zp h1)))) λz1 h2 h3=>?_;obtain⟨x,i⟩:=z1;refine o6 (T.fn h2) λd D=>?_;have h3:i=i':=h3;exact was x d.fd _ d.b mu (D.at h2) (h3▸D.ok h2 mu)
theorem XR(D1:uB mg h ts "_int2digits" 4 d1) (D2:uB mg h ts "_digits2int" 5 d2) (c:aw):¬pZ (gd h mg tok d1 d2) h c:=λ⟨t,ht,e⟩ =>
 have e':h.get? t.2.1=some (gC #[]):=Ee (C:=λt=>h.get? t.2.1=some (gC #[])) D1.t D2.t t ht
 absurd (congrArg (λo:Option nk=>o.map (·.data)) (e'.symm.trans e)) (by simp)
theorem NJ(T:EM ou):∃G:GD,pp G ou.heap/\rO G/\ui G/\G6 G/\(∀k d,fns k=some d->∃x fd ps body mu,G.fns k=some (x,fd)/\sy fd d ps body mu) /\
 (∃a fd p b sc c',G.mg ("law":Str)=some (.ref a)/\ou.heap.get? a=some {cls:=.type "function",data:=.func fd}/\Cp fd ("law":Str) p b sc c'/\tK (tn 81)=.fn ("law":Str) p b sc/\G.fns 21=some (("law":Str),fd))/\(∀c,¬pZ G ou.heap c)/\bN<ou.heap.objs.size:=by
 refine sb T.top λc Pl R=>?_;refine Ag R.ex λmg ps ts l S e1 e2 e3 e4 e5 e6=>?_;have E:rT ou.heap mg ts:=⟨S.g,⟨Pl,S.bmod⟩,e3,e5,e6,R.old⟩
 refine o6 (E.fn (k:=1) rfl) λd1 D1=>?_;refine o6 (E.fn (k:=2) rfl) λd2 D2=>?_;refine o6 (E.fn (k:=21) rfl) λd D=>?_;refine s9 E.tokAt λtok t1 t2 t3=>?_;exact wao (gd ou.heap mg tok d1 d2) (E.inv D1 D2 t2 t3) (E.gok t1) XQ (E.prims D1 D2) (XP E) ⟨d.a,d.fd,d.p,d.b,d.sc,d.c,D.m,D.g,D.f,D.tv,D.at (k:=21) rfl⟩ (XR D1 D2) (ab R.sys R.sz)
noncomputable abbrev x5:RowW:=(ij bX).toRowW
noncomputable abbrev Gi:ClaimW:=x5.claim
theorem waK:∀{xs:List WData},mh R xs .int=true->∃is:List Int,xs=is.map .int:=by
 intro vv
 induction vv with
 |nil =>
  intro _;exact⟨[],rfl⟩
 |cons x xs ih =>
  intro h;simp only[mh,aO]at h;refine o6 (hasW_int h.1) ?_;rintro i rfl;refine o6 (ih h.2) ?_;rintro is rfl;exact⟨i::is,rfl⟩
theorem R7(h:Gi.pre args=true):∃is:List Int,args=[.list (is.map .int)]/\is.length<=63:=by
 refine p_ (pre_splitW h) λh1 h2=>?_;refine qe (hasAllW_cons (e:=.list .int) (es:=[]) h1) ?_;rintro d r rfl h3 h4;cases hasAllW_nil h4;refine oB (hasW_list h3) ?_;rintro xs rfl h5;refine o6 (waK h5) ?_;rintro is rfl;refine oV is rfl ?_;have h6:(WTm.and (.not (.lt (.lit (.int (63:Nat))) (.len (.arg 0)))) (.lit (.bool true))).holds x5.records {args:=[.list (is.map .int)]}=true:=h2;have h7:=(holds_andW h6).1;have h8:=condW_of h7 (by wtm_val);simp only[ac,dQ,decide_eq_false_iff_not]at h8
 lia
theorem Re{P:gG}:∀{is:List Int}{vs:List Value},WellAll P h vs (is.map .int)->oA tk φ h [] Pv (is.map .int) vs
 | [],_,.nil=>.nil
 |i::is,_,.cons a r=>by
  cases a;exact .cons (.int _ _) (Re r)
noncomputable def G7:Prop:=∀rX:List Int,rX.length<=63->zX tW fns 8 21 [.lst (rX.map .int)]=some (.bool true)
theorem Uv:r0 me (8+13):=⟨rfl,by decide +kernel,by decide +kernel⟩
theorem L2(I:pp G s.heap)(zg:∀c,¬pZ G s.heap c)(k:GX G s φ s' ow)(b:aw)(o:nk)(e:s.heap.get? b=some o):
 s'.heap.get? b=some o\/(isCodeTable s.heap b/\o.cls=.none/\∃vs tD,o.data=.fields vs/\s'.heap.get? b=some {o with data:=.fields (vs++tD)}):=by
 by_cases hX:G.X b
 ·refine oB hX ?_;rintro t xa rfl;have e0:s.heap.get? t.2.1=some (gC #[]):=(I.tabs t xa).elim id λq=>q.elim λc q=>absurd ⟨t,xa,q.1⟩ (zg c);have eo:=ag (e.symm.trans e0);refine oa eo ?_;rcases(k.tabs I.tabs).1 t xa with q|⟨c,q,_⟩
  ·exact .inl q
  ·refine .inr ⟨((I.heads t xa).tab e0).isCodeTable,rfl,#[],#[gV t.2.2.1.line,gV t.2.2.1.col,.ref c],rfl,?_⟩;refine oa q ?_;refine oa Array.empty_append ?_;rfl
 ·exact .inl (k.ext b o hX e)
theorem wdc(I:pp G s.heap)(zg:∀c,¬pZ G s.heap c)(k:GX G s φ s' ow):OldK s.heap s'.heap :=
 ⟨λb o e=>(L2 I zg k b o e).imp id .inl,λb o e=>(L2 I zg k b o e).elim (λq=>⟨_,q⟩) λ⟨_,_,vs,tD,_,q⟩=>⟨_,q⟩⟩
theorem wez{s:ah}{is:List Int}(hw:WellAll wd.params s.heap vs [.list (is.map .int)])(hP:∀a,vs=[.ref a]->Pv a):oA tk φ0 s.heap [] Pv [.lst (is.map .int)] vs:=by
 cases hw with
 |cons DD AD =>
  cases AD;cases DD with
  | @list al q_ xs e r=>exact .cons (.lst (xs:=q_) ⟨0,e⟩ (hP _ rfl) (Re r)) .nil
theorem wbh(PL:G7){s6 s:ah}(T:EM s6)(hk:∀b o,s6.heap.get? b=some o->s.heap.get? b=some o)(hz:s6.heap.objs.size<=s.heap.objs.size)(ht:s6.toks<=s.toks){is:List Int}(oU:is.length<=63)(hw:WellAll wd.params s.heap vs [.list (is.map .int)])(si:∀a,vs=[.ref a]->s6.heap.objs.size<=a):
 ∃mg f,s.heap.Ns aG mg/\mg ("law":Str)=some f/\ao (ar pw wd) me (call f vs) (λv s'=>v=.bool true/\OldK s.heap s'.heap/\s'.os=s.os/\s'.gens=s.gens) oE s:=by
 refine Wg (NJ T) λG Ct hG hN hP IX z6 zg DB=>?_;obtain⟨a,fd,p,b,sc,c',m1,g1,f1,KQ,W5⟩:=z6;have I:pp G s.heap:=Ct.keeps hk;have Ox:∀c,¬pZ G s.heap c:=λc hc=>zg c (vw hk Ct.tabs c hc);refine zk G.mg (.ref a) I.g m1 ?_;refine pK (Tv hG hN 13 IX (Zm hP hG hN) 8 me Uv 21 _ _ (PL is oU)) λx vJ h1 h2=>?_;have hx:x=("law":Str):=congrArg lm (ag (h1.symm.trans W5));have safe:∀a,s6.heap.objs.size<=a->sY G a:=λa ha=>⟨beq_eq_false_iff_ne.mpr (cO (ab DB ha)),λq=>bu.mpr ha (pJ.lt Ct.tabs q)⟩
 refine up (h2 a (hx▸m1) s φ0 (sY G) vs I (QY (ab T.toks ht)) (λa ha=>ha.elim (λh=>safe a (ae hz h)) λh=>absurd h (Ox a)) (λY h=>h) (wez hw λa e=>safe a (si a e))) λv s' h=>?_;refine oB h λow k r=>?_;have ok:=wdc I Ox k;refine pK k.grows.keeps ?_;rintro h' t' rfl _;exact xU r.inv ok rfl rfl
theorem wds{st:Stmt}{name:Str}{p:dj}{b:List Stmt}{sc:cj}(h:E8 st=true)(e:tK st=.fn name p b sc):p.defaults=[]/\p.kwonlyargs=[]/\p.kw_defaults=[]:=by
 refine Mf (C:=λst=>tK st=.fn name p b sc->p.defaults=[]/\p.kwonlyargs=[]/\p.kw_defaults=[]) h (λn' p' b' Y Y Y D6 Y Y Y h1 Y e=>?_) e;refine rwj ((TV.fn.inj e).2.1) ?_;exact qG h1 λh1 k7=>qG h1 λh1 k6=>qG h1 λh1 k5=>qG h1 λh1 k4=>qJ (fN.mp k7) (fN.mp k4) (fN.mp k5)
theorem wbi(e:tK (tn 81)=.fn ("law":Str) p b sc):pw.theDef ("law":Str)=some (p,b,sc):=by
 have e2:(pw.theDef ("law":Str)).map (λx=>TV.fn ("law":Str) x.1 x.2.1 x.2.2)=some (tK (tn 81)):=by kernel_rfl
 rw[e]at e2;refine oB (aK.mp e2) λz4 hx h=>?_;obtain⟨x1,x2,x3⟩:=z4;have h:=(TV.fn.inj h).2;refine oa hx ?_;exact congrArg some (Prod.ext h.1 (Prod.ext h.2.1 h.2.2))
theorem wbj{s:ah}(T:EM s):isTheDefsW pw s.heap ("law":Str):=by
 refine Wf (NJ T) λG Ct Y Y Y Y z3 Y=>?_;obtain⟨a,fd,p,b,sc,c',m1,g1,⟨pR,pm,ql,rfl⟩,KQ,_⟩:=z3;refine tR (wds (aj.mp Nl (21,"law",81) (zp (rfl:ua.lookup 21=some (("law":Str),81)))) KQ) λd1 d2 d3=>?_;exact⟨a,_,_,p,b,sc,(ii Ct.g _).trans m1,g1,rfl,wbi KQ,rfl,rfl,rfl,rfl,rfl,rfl,rfl,rfl,.inl ⟨d1,rfl⟩,[],by refine oa d2 ?_;refine oa d3 ?_;rfl,.inl ⟨rfl,rfl⟩⟩
theorem wdA(args:List WData):Gi.post args (.bool true) args=true:=by
 show(WShape.has x5.records (.bool true) .bool&&(WTm.eq .res (.lit (.bool true))).holds x5.records {args:=args,res:=some (.bool true),after:=args})=true;refine oa (holdsW_of_value (show(WTm.eq .res (.lit (.bool true))).value x5.records {args:=args,res:=some (.bool true),after:=args}=some (.bool true)by simp[WTm.value,same])) ?_;rfl
theorem wem(PL:G7)(wew:(ij bX).wellSaid=true)(hw:x5.promised)(hb:pw.bare)(ho:opensWell pw=true):(ij bX).Holds:=by
 refine⟨wew,hw,⟨hb,ho,rfl⟩,hw.witness,RY (And.intro head.1 λs hs=>?_)⟩;obtain⟨s6,f1,f2,ou,hT,hz,T⟩:=(head).2 s hs;refine⟨s6,f1,f2,ou,hT,λn hn=>?_,(λx hx=>nomatch hx),(λx hx=>nomatch hx),?_⟩
 ·have:n=bX.name:=by simpa [ij]using hn
  refine oa this ?_;exact wbj T
 ·refine ClaimW.callFrom_of_specG (c:=Gi) (tree:=λvs=>do match <-nsGet ny ("law":Str)with
   |some f=>do ret (<-PySem.call f vs)
   |none=>unsupported "claim.caller:no-such-global") hz T.gens λargs yu Y2 ord Je=>?_
  refine oB (R7 yu) ?_;rintro is rfl oU;refine o6 (eR.mp (layAllW_isSome (R:=x5.records) (cl:=classAt ou.heap) (P:=wd.params) (ord:=ord) (λc hc=>by cases hc) _ x5.args ou (pre_splitW yu).1)) λz1 Au=>?_;obtain⟨vs,oJ⟩:=z1;have keeps:=layAllW_keeps _ _ _ Au;have y_:=layAllW_rest _ _ _ Au;refine s9 (reads_layAllW Je _ _ _ Au Y2 oJ.heap (λY Y e=>e)) λas OK sR Ay=>?_;have L:Laid x5.records wd ou oJ [.list (is.map .int)] vs as:=⟨⟨ord,Je,Au⟩,OK,sR,Ay,keeps,y_.1.trans T.gens,y_.2.2.1⟩
  have gr:=layAllW_grows _ _ _ Au;have OW:=well_layAllW Je _ _ _ Au oJ.heap (λY Y e=>e);have si:∀a,vs=[.ref a]->ou.heap.objs.size<=a:=λa e=>by
   subst e;cases OK with
   |cons r1 r2 =>
    cases r1 with
    |list e1 e2 e3 e4=>exact(sR.2.2 a (by simp)).1
  refine qe (wbh PL T keeps gr.size gr.toks oU OW si) λmg f n1 n2 Dp=>?_;refine rf vs oJ Au (an (mS (a:=aG) n1 ?_));refine oa n2 ?_;refine an (b9 Dp (λv s' ⟨e1,e2,e3,e4⟩=>aQ ?_) λY Y x=>x.elim);subst e1;refine wan (.ret (.bool true)) rfl ?_ (e3.trans y_.2.2.1) (mP (e4.trans (y_.1.trans T.gens))) (λq=>nomatch q);have g:GoodWG Gi (classAt ou.heap) (ExcName.means ou.heap) [.list (is.map .int)] oJ (.ok (.ret (.bool true))) s' :=
   ⟨.inl ⟨.bool true,.bool true,[],rfl,λY=>rfl,.bool true,wdA _,λY=>⟨cK,λa ha=>nomatch ha⟩⟩,e2,e3,mP (e4.trans (y_.1.trans T.gens))⟩
  exact(g.laid rfl rfl (λa b=>ident_freeW (r:=x5) rfl rfl rfl a b) L).1
end
section
open PySem
set_option backward.match.sparseCases true
noncomputable def f0:rM:=⟨3,11,(.cons (.ife (.cmp .LtE (.bin .Sub (.call .bitLength (.cons (.var 0) .nil)) (.var 2)) (.glob .divLimit))
 (.cons (.ret (.call .divmod (.cons (.var 0) (.cons (.var 1) .nil))))
 .nil)
 .nil)
 (.cons (.asg 3 false (.bin .BitAnd (.var 2) (.c (.int 1))))
 (.cons (.ife (.var 3)
  (.cons (.aug 0 .LShift (.c (.int 1)))
  (.cons (.aug 1 .LShift (.c (.int 1)))
  (.cons (.aug 2 .Add (.c (.int 1)))
  .nil)))
  .nil)
 (.cons (.asg 4 false (.bin .RShift (.var 2) (.c (.int 1))))
 (.cons (.asg 5 false (.bin .Sub (.bin .LShift (.c (.int 1)) (.var 4)) (.c (.int 1))))
 (.cons (.asgT [(6,false),(7,false)] (.cons (.bin .RShift (.var 1) (.var 4)) (.cons (.bin .BitAnd (.var 1) (.var 5)) .nil)))
 (.cons (.unp [8,9] .bad)
 (.cons (.unp [10,9] .bad)
 (.cons (.ife (.var 3)
  (.cons (.aug 9 .RShift (.c (.int 1)))
  .nil)
  .nil)
 (.cons (.ret (.tup (.cons (.bin .BitOr (.bin .LShift (.var 8) (.var 4)) (.var 10)) (.cons (.var 9) .nil))))
 .nil))))))))))⟩
noncomputable def f3:rM:=⟨2,9,(.cons (.asg 2 false (.call .bitLength (.cons (.var 1) .nil)))
 (.cons (.asg 3 false (.call (.user 1) (.cons (.var 0) (.cons (.var 2) .nil))))
 (.cons (.asg 4 false (.c (.int 0)))
 (.cons (.asg 5 true (.list .nil))
 (.cons (.for_ 6 (.rev (.var 3))
  (.cons (.unp [7,4] (.call (.user 0) (.cons (.bin .Add (.bin .LShift (.var 4) (.var 2)) (.var 6)) (.cons (.var 1) (.cons (.var 2) .nil)))))
  (.cons (.app (.var 5) (.var 7))
  .nil)))
 (.cons (.rev (.var 5))
 (.cons (.asg 8 false (.call (.user 2) (.cons (.var 5) (.cons (.var 2) .nil))))
 (.cons (.ret (.tup (.cons (.var 8) (.cons (.var 4) .nil))))
 .nil))))))))⟩
noncomputable def f4:rM:=⟨2,4,(.cons (.ife (.cmp .Eq (.var 1) (.c (.int 0)))
 (.cons .bad
 .nil)
 (.cons (.ife (.cmp .Lt (.var 1) (.c (.int 0)))
  (.cons (.unp [2,3] (.call (.user 4) (.cons (.un .USub (.var 0)) (.cons (.un .USub (.var 1)) .nil))))
  (.cons (.ret (.tup (.cons (.var 2) (.cons (.un .USub (.var 3)) .nil))))
  .nil))
  (.cons (.ife (.cmp .Lt (.var 0) (.c (.int 0)))
   (.cons (.unp [2,3] (.call (.user 4) (.cons (.un .Invert (.var 0)) (.cons (.var 1) .nil))))
   (.cons (.ret (.tup (.cons (.un .Invert (.var 2)) (.cons (.bin .Add (.var 1) (.un .Invert (.var 3))) .nil))))
   .nil))
   (.cons (.ret (.call (.user 3) (.cons (.var 0) (.cons (.var 1) .nil))))
   .nil))
  .nil))
 .nil))
 .nil)⟩
noncomputable def f5:rM:=⟨3,13,(.cons (.asg 3 false (.call .max (.cons (.var 0) (.cons (.var 1) (.cons (.var 2) .nil)))))
 (.cons (.asg 4 false (.call .min (.cons (.var 0) (.cons (.var 1) (.cons (.var 2) .nil)))))
 (.cons (.asg 5 false (.bin .Add (.var 3) (.var 4)))
 (.cons (.asg 6 false (.bin .Sub (.var 3) (.var 4)))
 (.cons (.asg 7 false (.bin .Div (.var 5) (.c (.float 4611686018427387904))))
 (.cons (.ife (.cmp .Eq (.var 4) (.var 3))
  (.cons (.ret (.tup (.cons (.c (.float 0)) (.cons (.var 7) (.cons (.c (.float 0)) .nil)))))
  .nil)
  .nil)
 (.cons (.ife (.cmp .LtE (.var 7) (.c (.float 4602678819172646912)))
  (.cons (.asg 8 false (.bin .Div (.var 6) (.var 5)))
  .nil)
  (.cons (.asg 8 false (.bin .Div (.var 6) (.bin .Sub (.bin .Sub (.c (.float 4611686018427387904)) (.var 3)) (.var 4))))
  .nil))
 (.cons (.asg 9 false (.bin .Div (.bin .Sub (.var 3) (.var 0)) (.var 6)))
 (.cons (.asg 10 false (.bin .Div (.bin .Sub (.var 3) (.var 1)) (.var 6)))
 (.cons (.asg 11 false (.bin .Div (.bin .Sub (.var 3) (.var 2)) (.var 6)))
 (.cons (.ife (.cmp .Eq (.var 0) (.var 3))
  (.cons (.asg 12 false (.bin .Sub (.var 11) (.var 10)))
  .nil)
  (.cons (.ife (.cmp .Eq (.var 1) (.var 3))
   (.cons (.asg 12 false (.bin .Sub (.bin .Add (.c (.float 4611686018427387904)) (.var 9)) (.var 11)))
   .nil)
   (.cons (.asg 12 false (.bin .Sub (.bin .Add (.c (.float 4616189618054758400)) (.var 10)) (.var 9)))
   .nil))
  .nil))
 (.cons (.asg 12 false (.bin .Mod (.bin .Div (.var 12) (.c (.float 4618441417868443648))) (.c (.float 4607182418800017408))))
 (.cons (.ret (.tup (.cons (.var 12) (.cons (.var 7) (.cons (.var 8) .nil)))))
 .nil)))))))))))))⟩
noncomputable def f6:rM:=⟨3,12,(.cons (.asg 3 false (.call .max (.cons (.var 0) (.cons (.var 1) (.cons (.var 2) .nil)))))
 (.cons (.asg 4 false (.call .min (.cons (.var 0) (.cons (.var 1) (.cons (.var 2) .nil)))))
 (.cons (.asg 5 false (.bin .Sub (.var 3) (.var 4)))
 (.cons (.asg 6 false (.var 3))
 (.cons (.ife (.cmp .Eq (.var 4) (.var 3))
  (.cons (.ret (.tup (.cons (.c (.float 0)) (.cons (.c (.float 0)) (.cons (.var 6) .nil)))))
  .nil)
  .nil)
 (.cons (.asg 7 false (.bin .Div (.var 5) (.var 3)))
 (.cons (.asg 8 false (.bin .Div (.bin .Sub (.var 3) (.var 0)) (.var 5)))
 (.cons (.asg 9 false (.bin .Div (.bin .Sub (.var 3) (.var 1)) (.var 5)))
 (.cons (.asg 10 false (.bin .Div (.bin .Sub (.var 3) (.var 2)) (.var 5)))
 (.cons (.ife (.cmp .Eq (.var 0) (.var 3))
  (.cons (.asg 11 false (.bin .Sub (.var 10) (.var 9)))
  .nil)
  (.cons (.ife (.cmp .Eq (.var 1) (.var 3))
   (.cons (.asg 11 false (.bin .Sub (.bin .Add (.c (.float 4611686018427387904)) (.var 8)) (.var 10)))
   .nil)
   (.cons (.asg 11 false (.bin .Sub (.bin .Add (.c (.float 4616189618054758400)) (.var 9)) (.var 8)))
   .nil))
  .nil))
 (.cons (.asg 11 false (.bin .Mod (.bin .Div (.var 11) (.c (.float 4618441417868443648))) (.c (.float 4607182418800017408))))
 (.cons (.ret (.tup (.cons (.var 11) (.cons (.var 7) (.cons (.var 6) .nil)))))
 .nil))))))))))))⟩
noncomputable def f7:rM:=⟨3,8,(.cons (.ife (.cmp .Eq (.var 1) (.c (.float 0)))
 (.cons (.ret (.tup (.cons (.var 2) (.cons (.var 2) (.cons (.var 2) .nil)))))
 .nil)
 .nil)
 (.cons (.asg 3 false (.call .int (.cons (.bin .Mult (.var 0) (.c (.float 4618441417868443648))) .nil)))
 (.cons (.asg 4 false (.bin .Sub (.bin .Mult (.var 0) (.c (.float 4618441417868443648))) (.var 3)))
 (.cons (.asg 5 false (.bin .Mult (.var 2) (.bin .Sub (.c (.float 4607182418800017408)) (.var 1))))
 (.cons (.asg 6 false (.bin .Mult (.var 2) (.bin .Sub (.c (.float 4607182418800017408)) (.bin .Mult (.var 1) (.var 4)))))
 (.cons (.asg 7 false (.bin .Mult (.var 2) (.bin .Sub (.c (.float 4607182418800017408)) (.bin .Mult (.var 1) (.bin .Sub (.c (.float 4607182418800017408)) (.var 4))))))
 (.cons (.asg 3 false (.bin .Mod (.var 3) (.c (.int 6))))
 (.cons (.ife (.cmp .Eq (.var 3) (.c (.int 0)))
  (.cons (.ret (.tup (.cons (.var 2) (.cons (.var 7) (.cons (.var 5) .nil)))))
  .nil)
  .nil)
 (.cons (.ife (.cmp .Eq (.var 3) (.c (.int 1)))
  (.cons (.ret (.tup (.cons (.var 6) (.cons (.var 2) (.cons (.var 5) .nil)))))
  .nil)
  .nil)
 (.cons (.ife (.cmp .Eq (.var 3) (.c (.int 2)))
  (.cons (.ret (.tup (.cons (.var 5) (.cons (.var 2) (.cons (.var 7) .nil)))))
  .nil)
  .nil)
 (.cons (.ife (.cmp .Eq (.var 3) (.c (.int 3)))
  (.cons (.ret (.tup (.cons (.var 5) (.cons (.var 6) (.cons (.var 2) .nil)))))
  .nil)
  .nil)
 (.cons (.ife (.cmp .Eq (.var 3) (.c (.int 4)))
  (.cons (.ret (.tup (.cons (.var 7) (.cons (.var 5) (.cons (.var 2) .nil)))))
  .nil)
  .nil)
 (.cons (.ife (.cmp .Eq (.var 3) (.c (.int 5)))
  (.cons (.ret (.tup (.cons (.var 2) (.cons (.var 5) (.cons (.var 6) .nil)))))
  .nil)
  .nil)
 .nil)))))))))))))⟩
noncomputable def Wv:rM:=⟨1,1,(.cons (.ret (.cmp .Lt (.var 0) (.glob .ntOffset)))
 .nil)⟩
noncomputable def Ww:rM:=⟨1,1,(.cons (.ret (.cmp .GtE (.var 0) (.glob .ntOffset)))
 .nil)⟩
noncomputable def Wx:rM:=⟨1,1,(.cons (.ret (.cmp .Eq (.var 0) (.glob .endMarker)))
 .nil)⟩
noncomputable def M_:rM:=⟨1,13,(.cons (.asg 1 false (.list (.cons (.tup (.cons (.c (.int 64256)) (.cons (.c (.str "ff")) .nil))) (.cons (.tup (.cons (.c (.int 64257)) (.cons (.c (.str "fi")) .nil))) (.cons (.tup (.cons (.c (.int 64258)) (.cons (.c (.str "fl")) .nil))) (.cons (.tup (.cons (.c (.int 64259)) (.cons (.c (.str "ffi")) .nil))) (.cons (.tup (.cons (.c (.int 64260)) (.cons (.c (.str "ffl")) .nil))) (.cons (.tup (.cons (.c (.int 64261)) (.cons (.c (.str "st")) .nil))) (.cons (.tup (.cons (.c (.int 64262)) (.cons (.c (.str "st")) .nil))) (.cons (.tup (.cons (.c (.int 223)) (.cons (.c (.str "ss")) .nil))) .nil))))))))))
 (.cons (.asg 2 false (.list (.cons (.c (.int 97)) (.cons (.c (.int 65)) (.cons (.c (.int 119808)) (.cons (.c (.int 119860)) (.cons (.c (.int 119912)) (.cons (.c (.int 120016)) (.cons (.c (.int 120172)) (.cons (.c (.int 120224)) (.cons (.c (.int 120276)) (.cons (.c (.int 120328)) (.cons (.c (.int 120380)) (.cons (.c (.int 120432)) .nil))))))))))))))
 (.cons (.asg 3 false (.bin .Add (.list (.cons (.c (.int 173)) (.cons (.c (.int 847)) (.cons (.c (.int 6150)) (.cons (.c (.int 6155)) (.cons (.c (.int 6156)) (.cons (.c (.int 6157)) (.cons (.c (.int 8203)) (.cons (.c (.int 8204)) (.cons (.c (.int 8205)) (.cons (.c (.int 8288)) (.cons (.c (.int 65279)) .nil)))))))))))) (.call .listRange (.cons (.c (.int 65024)) (.cons (.c (.int 65040)) .nil)))))
 (.cons (.asgT [(4,false),(5,false),(6,false)] (.cons (.c (.str "")) (.cons (.c (.str "")) (.cons (.bin .FloorDiv (.var 0) (.c (.int 3))) .nil))))
 (.cons (.for_ 7 (.range (.cons (.bin .Add (.c (.int 1)) (.bin .Mod (.var 0) (.c (.int 3)))) .nil))
  (.cons (.asgT [(8,false),(9,false),(10,false)] (.cons (.bin .Mod (.var 6) (.c (.int 15))) (.cons (.bin .Mod (.bin .FloorDiv (.var 6) (.c (.int 15))) (.c (.int 40))) (.cons (.bin .Mod (.bin .FloorDiv (.var 6) (.c (.int 600))) (.c (.int 28))) .nil))))
  (.cons (.aug 6 .FloorDiv (.c (.int 16800)))
  (.cons (.asg 11 false (.idx (.c (.str "filst")) (.bin .Mod (.var 9) (.c (.int 5)))))
  (.cons (.asg 12 false (.idx (.list (.cons (.c (.int 8497)) (.cons (.c (.int 8464)) (.cons (.c (.int 8466)) (.cons (.c (.int 383)) (.cons (.c (.int 120139)) .nil)))))) (.bin .Mod (.var 9) (.c (.int 5)))))
  (.cons (.ife (.cmp .Lt (.var 8) (.c (.int 2)))
   (.cons (.unp [12,11] (.idx (.var 1) (.bin .Mod (.var 9) (.c (.int 8)))))
   .nil)
   (.cons (.ife (.cmp .Lt (.var 8) (.c (.int 14)))
    (.cons (.asg 12 false (.bin .Sub (.bin .Add (.idx (.var 2) (.bin .Sub (.var 8) (.c (.int 2)))) (.call .ord (.cons (.var 11) .nil))) (.c (.int 97))))
    .nil)
    .nil)
   .nil))
  (.cons (.aug 4 .Add (.bin .Add (.ite (.cmp .Eq (.var 10) (.c (.int 0))) (.c (.str "")) (.call .chr (.cons (.idx (.var 3) (.bin .Sub (.var 10) (.c (.int 1)))) .nil))) (.call .chr (.cons (.var 12) .nil))))
  (.cons (.aug 5 .Add (.var 11))
  .nil))))))))
 (.cons (.ret (.tup (.cons (.var 4) (.cons (.var 5) .nil))))
 .nil))))))⟩
noncomputable def Ic:rM:=⟨1,8,(.cons (.asg 1 false (.call .split (.cons (.c (.str "( ) [ ] : , ; + - * / | & < > = . % { } == != <= >= ~ ^ << >> ** += -= *= /= %= &= |= ^= <<= >>= **= // //= @ @= -> ... := !")) .nil)))
 (.cons (.asgT [(2,false),(3,true)] (.cons (.c (.str "")) (.cons (.list .nil) .nil)))
 (.cons (.for_ 4 (.range (.cons (.c (.int 5)) .nil))
  (.cons (.unp [5,6] (.call (.user 13) (.cons (.idx (.var 0) (.var 4)) .nil)))
  (.cons (.asg 7 false (.bin .Mod (.bin .FloorDiv (.idx (.var 0) (.c (.int 5))) (.bin .Pow (.c (.int 48)) (.var 4))) (.c (.int 48))))
  (.cons (.aug 2 .Add (.bin .Add (.var 5) (.ite (.cmp .Lt (.var 4) (.c (.int 4))) (.idx (.var 1) (.var 7)) (.c (.str "")))))
  (.cons (.aug 3 .Add (.bin .Add (.comp 1 (.cons 8 (.val (.var 6)) .nil (.done (.bin .Add (.c (.int 256)) (.call .index (.cons (.c (.str "filst")) (.cons (.var 8) .nil))))))) (.list (.cons (.ite (.cmp .Lt (.var 4) (.c (.int 4))) (.bin .Add (.c (.int 7)) (.var 7)) (.c (.int 0))) .nil))))
  .nil)))))
 (.cons (.ret (.tup (.cons (.var 2) (.cons (.var 3) .nil))))
 .nil))))⟩
noncomputable def Na:rM:=⟨1,5,(.cons (.asg 1 false (.comp 1 (.cons 5 (.val (.var 0)) .nil (.done (.call (.user 8) (.cons (.var 5) .nil))))))
 (.cons (.asg 2 false (.call .join (.cons (.c (.str "")) (.cons (.comp 1 (.cons 5 (.range (.cons (.call .len (.cons (.var 0) .nil)) .nil)) (.cons (.cmp .Is (.idx (.var 1) (.var 5)) (.c (.bool false))) .nil) (.done (.call (.user 9) (.cons (.idx (.var 0) (.var 5)) .nil))))) .nil))))
 (.cons (.asg 3 true (.comp 1 (.cons 5 (.val (.var 1)) (.cons (.and (.cons (.cmp .IsNot (.var 5) (.c (.bool true))) (.cons (.cmp .IsNot (.var 5) (.c (.bool false))) .nil))) .nil) (.done (.var 5)))))
 (.cons (.while_ (.cmp .NotEq (.var 2) (.c (.str "")))
  (.cons (.asg 4 false (.call .max (.cons (.bin .Add (.list (.cons (.c (.int 1)) .nil)) (.comp 1 (.cons 5 (.val (.tup (.cons (.c (.int 2)) (.cons (.c (.int 3)) .nil)))) (.cons (.cmp .In (.slice (.var 2) .none (.some (.var 5))) (.glob .tok)) .nil) (.done (.var 5))))) .nil)))
  (.cons (.app (.var 3) (.call .get (.cons (.glob .tok) (.cons (.slice (.var 2) .none (.some (.var 4))) (.cons (.bin .Add (.c (.int 256)) (.call .find (.cons (.c (.str "filst")) (.cons (.slice (.var 2) .none (.some (.var 4))) .nil)))) .nil)))))
  (.cons (.asg 2 false (.slice (.var 2) (.some (.var 4)) .none))
  .nil))))
 (.cons (.ret (.bin .Add (.var 3) (.list (.cons (.c (.int 0)) .nil))))
 .nil)))))⟩
noncomputable def Ie:rM:=⟨1,6,(.cons (.asgT [(1,true),(2,true),(3,false)] (.cons (.list .nil) (.cons (.list (.cons (.list .nil) (.cons (.list .nil) (.cons (.list .nil) (.cons (.list .nil) (.cons (.list .nil) .nil)))))) (.cons (.un .USub (.c (.int 1))) .nil))))
 (.cons (.for_ 4 (.val (.var 0))
  (.cons (.ife (.or (.cons (.cmp .IsNot (.call (.user 10) (.cons (.var 4) .nil)) (.cmp .Lt (.var 4) (.c (.int 256)))) (.cons (.cmp .IsNot (.call (.user 11) (.cons (.var 4) .nil)) (.cmp .Gt (.var 4) (.c (.int 255)))) (.cons (.cmp .IsNot (.call (.user 12) (.cons (.var 4) .nil)) (.cmp .Eq (.var 4) (.c (.int 0)))) .nil))))
   (.cons (.ret (.list .nil))
   .nil)
   .nil)
  (.cons (.ife (.and (.cons (.cmp .Gt (.var 4) (.c (.int 255))) (.cons (.cmp .NotIn (.var 4) (.var 1)) .nil)))
   (.cons (.app (.var 1) (.var 4))
   .nil)
   .nil)
  (.cons (.asg 5 false (.ite (.cmp .Gt (.var 4) (.c (.int 255))) (.call .index (.cons (.var 1) (.cons (.var 4) .nil))) (.un .USub (.c (.int 1)))))
  (.cons (.ife (.and (.cons (.cmp .GtE (.var 5) (.c (.int 0))) (.cons (.cmp .GtE (.var 3) (.c (.int 0))) (.cons (.cmp .NotEq (.var 5) (.var 3)) (.cons (.cmp .NotIn (.var 5) (.idx (.var 2) (.var 3))) .nil)))))
   (.cons (.app (.idx (.var 2) (.var 3)) (.var 5))
   (.cons (.app (.idx (.var 2) (.var 5)) (.var 3))
   .nil))
   .nil)
  (.cons (.asg 3 false (.var 5))
  .nil))))))
 (.cons (.ret (.slice (.var 2) .none (.some (.call .len (.cons (.var 1) .nil)))))
 .nil)))⟩
noncomputable def Ig:rM:=⟨2,14,(.cons (.asg 2 true (.list .nil))
 (.cons (.for_ 3 (.range (.cons (.bin .Mult (.c (.int 3)) (.var 1)) .nil))
  (.cons (.asg 4 false (.bin .FloorDiv (.bin .FloorDiv (.var 0) (.c (.int 1984))) (.bin .Pow (.c (.int 16)) (.bin .FloorDiv (.var 3) (.c (.int 3))))))
  (.cons (.asgT [(5,false),(6,false)] (.cons (.bin .Add (.c (.int 1)) (.bin .Mod (.var 4) (.c (.int 4)))) (.cons (.bin .Add (.c (.int 1)) (.bin .Mod (.bin .FloorDiv (.var 4) (.c (.int 4))) (.c (.int 4)))) .nil)))
  (.cons (.asg 7 false (.bin .Mult (.var 6) (.bin .Sub (.c (.int 8)) (.var 5))))
  (.cons (.asg 8 false (.bin .Div (.bin .Mod (.bin .Add (.bin .Mod (.var 0) (.c (.int 64))) (.bin .Mult (.bin .Mod (.var 3) (.c (.int 3))) (.bin .Add (.c (.int 1)) (.bin .Mod (.bin .FloorDiv (.var 0) (.c (.int 64))) (.c (.int 31)))))) (.c (.int 64))) (.c (.int 64))))
  (.cons (.unp [9,10,11] (.call (.user 7) (.cons (.bin .Add (.bin .Mod (.var 3) (.c (.int 4))) (.var 8)) (.cons (.bin .Div (.var 5) (.c (.int 4))) (.cons (.bin .Div (.var 6) (.c (.int 4))) .nil)))))
  (.cons (.asgT [(12,false),(13,false)] (.cons (.call (.user 6) (.cons (.var 9) (.cons (.var 10) (.cons (.var 11) .nil)))) (.cons (.call (.user 5) (.cons (.var 9) (.cons (.var 10) (.cons (.var 11) .nil)))) .nil)))
  (.cons (.ife (.or (.cons (.cmp .NotEq (.var 12) (.tup (.cons (.var 8) (.cons (.bin .Div (.var 5) (.c (.int 4))) (.cons (.bin .Div (.var 6) (.c (.int 4))) .nil))))) (.cons (.cmp .NotEq (.var 13) (.tup (.cons (.var 8) (.cons (.bin .Div (.var 7) (.c (.int 32))) (.cons (.bin .Div (.bin .Mult (.var 5) (.var 6)) (.call .min (.cons (.var 7) (.cons (.bin .Sub (.c (.int 32)) (.var 7)) .nil)))) .nil))))) .nil)))
   (.cons (.ret (.list .nil))
   .nil)
   .nil)
  (.cons (.app (.var 2) (.idx (.idx (.tup (.cons (.var 12) (.cons (.var 13) .nil))) (.bin .Mod (.var 3) (.c (.int 2)))) (.c (.int 0))))
  .nil)))))))))
 (.cons (.ret (.var 2))
 .nil)))⟩
noncomputable def Ih:rM:=⟨3,5,(.cons (.asg 3 false (.list (.cons (.list .nil) .nil)))
 (.cons (.for_ 4 (.range (.cons (.call .len (.cons (.var 0) .nil)) .nil))
  (.cons (.asg 3 false (.comp 2 (.cons 5 (.val (.var 3)) .nil (.cons 6 (.range (.cons (.var 2) .nil)) (.cons (.cmp .Eq (.comp 1 (.cons 7 (.val (.idx (.var 0) (.var 4))) (.cons (.and (.cons (.cmp .Lt (.var 7) (.var 4)) (.cons (.cmp .Eq (.idx (.var 5) (.var 7)) (.idx (.var 1) (.bin .Add (.bin .Mult (.c (.int 3)) (.var 4)) (.var 6)))) .nil))) .nil) (.done (.var 7)))) (.list .nil)) .nil) (.done (.bin .Add (.var 5) (.list (.cons (.idx (.var 1) (.bin .Add (.bin .Mult (.c (.int 3)) (.var 4)) (.var 6))) .nil))))))))
  .nil))
 (.cons (.ret (.call .len (.cons (.var 3) .nil)))
 .nil)))⟩
noncomputable def Ii:rM:=⟨1,9,(.cons (.asg 1 true (.list (.cons (.dict (.cons (.c (.int 0)) .nil) (.cons (.c (.int 0)) .nil)) .nil)))
 (.cons (.for_ 2 (.range (.cons (.c (.int 1)) (.cons (.bin .Pow (.c (.int 2)) (.call .len (.cons (.var 0) .nil))) .nil)))
  (.cons (.asg 3 true (.dict .nil .nil))
  (.cons (.for_ 4 (.range (.cons (.call .len (.cons (.var 0) .nil)) .nil))
   (.cons (.ife (.cmp .Eq (.bin .Mod (.bin .FloorDiv (.var 2) (.bin .Pow (.c (.int 2)) (.var 4))) (.c (.int 2))) (.c (.int 1)))
    (.cons (.asg 5 false (.bin .Sub (.var 2) (.bin .Pow (.c (.int 2)) (.var 4))))
    (.cons (.asg 6 false (.bin .Mult (.bin .Pow (.c (.int 32)) (.var 4)) (.call .sum (.cons (.comp 1 (.cons 9 (.val (.idx (.var 0) (.var 4))) (.cons (.cmp .Eq (.bin .Mod (.bin .FloorDiv (.var 5) (.bin .Pow (.c (.int 2)) (.var 9))) (.c (.int 2))) (.c (.int 1))) .nil) (.done (.bin .Pow (.c (.int 2)) (.var 9))))) .nil))))
    (.cons (.asg 7 false (.ite (.cmp .Eq (.bin .Mod (.var 5) (.bin .Pow (.c (.int 2)) (.var 4))) (.c (.int 0))) (.c (.int 1)) (.c (.int 0))))
    (.cons (.for_ 8 (.val (.idx (.var 1) (.var 5)))
     (.cons (.put 3 (.bin .Add (.var 8) (.var 6)) (.call .max (.cons (.call .get (.cons (.var 3) (.cons (.bin .Add (.var 8) (.var 6)) (.cons (.c (.int 0)) .nil)))) (.cons (.bin .Add (.idx (.idx (.var 1) (.var 5)) (.var 8)) (.var 7)) .nil))))
     .nil))
    .nil))))
    .nil)
   .nil))
  (.cons (.app (.var 1) (.var 3))
  .nil))))
 (.cons (.ret (.var 1))
 .nil)))⟩
noncomputable def Wy:rM:=⟨2,2,(.cons (.ret (.and (.cons (.cmp .Eq (.var 0) (.var 1)) (.cons (.cmp .Eq (.comp 1 (.cons 2 (.val (.var 0)) (.cons (.or (.cons (.call .isBool (.cons (.var 2) .nil)) (.cons (.un .Not (.call .isInt (.cons (.var 2) .nil))) .nil))) .nil) (.done (.var 2)))) (.list .nil)) .nil))))
 .nil)⟩
noncomputable def y6:rM:=⟨1,24,(.cons (.asg 1 false (.list (.cons (.c (.int 1715446)) (.cons (.c (.int 365853733)) (.cons (.c (.int 816530545)) (.cons (.c (.int 225)) (.cons (.c (.int 318)) (.cons (.c (.int 5174684)) (.cons (.c (.int 75120764)) (.cons (.c (.int 123)) .nil))))))))))
 (.cons (.asg 2 false (.slice (.var 0) .none (.some (.c (.int 60)))))
 (.cons (.asg 3 false (.comp 1 (.cons 24 (.range (.cons (.c (.int 8)) .nil)) .nil (.done (.bin .Add (.idx (.var 1) (.var 24)) (.call .sum (.cons (.comp 1 (.cons 25 (.range (.cons (.var 24) (.cons (.call .len (.cons (.var 2) .nil)) (.cons (.c (.int 8)) .nil)))) .nil (.done (.bin .Mod (.idx (.var 2) (.var 25)) (.bin .Pow (.c (.int 10)) (.c (.int 15))))))) .nil)))))))
 (.cons (.unp [4,5] (.call (.user 14) (.cons (.var 3) .nil)))
 (.cons (.asg 6 false (.call (.user 15) (.cons (.var 4) .nil)))
 (.cons (.ife (.cmp .NotEq (.var 6) (.var 5))
  (.cons (.ret (.c (.bool false)))
  .nil)
  .nil)
 (.cons (.asg 7 false (.call (.user 16) (.cons (.bin .Add (.var 6) (.list (.cons (.c (.int 255)) (.cons (.un .USub (.c (.int 1))) .nil)))) .nil)))
 (.cons (.asg 8 false (.call (.user 17) (.cons (.idx (.var 3) (.c (.int 6))) (.cons (.call .len (.cons (.var 7) .nil)) .nil))))
 (.cons (.asg 9 false (.bin .Div (.bin .Mod (.idx (.var 3) (.c (.int 6))) (.c (.int 5))) (.c (.int 4))))
 (.cons (.ife (.or (.cons (.cmp .Eq (.var 8) (.list .nil)) (.cons (.cmp .NotEq (.bin .Add (.bin .Add (.call (.user 6) (.cons (.var 9) (.cons (.var 9) (.cons (.var 9) .nil)))) (.call (.user 5) (.cons (.var 9) (.cons (.var 9) (.cons (.var 9) .nil))))) (.call (.user 7) (.cons (.bin .Add (.var 9) (.bin .Div (.c (.int 1)) (.c (.int 8)))) (.cons (.c (.int 0)) (.cons (.var 9) .nil))))) (.tup (.cons (.c (.int 0)) (.cons (.c (.int 0)) (.cons (.var 9) (.cons (.c (.int 0)) (.cons (.var 9) (.cons (.c (.int 0)) (.cons (.var 9) (.cons (.var 9) (.cons (.var 9) .nil))))))))))) .nil)))
  (.cons (.ret (.c (.bool false)))
  .nil)
  .nil)
 (.cons (.asgT [(10,false),(11,false)] (.cons (.call .len (.cons (.var 7) .nil)) (.cons (.call (.user 19) (.cons (.var 7) .nil)) .nil)))
 (.cons (.asg 12 false (.comp 1 (.cons 24 (.val (.idx (.var 11) (.un .USub (.c (.int 1))))) (.cons (.cmp .Eq (.comp 1 (.cons 25 (.range (.cons (.var 10) .nil)) (.cons (.cmp .Eq (.bin .Mod (.bin .FloorDiv (.var 24) (.bin .Pow (.c (.int 32)) (.var 25))) (.c (.int 32))) (.c (.int 0))) .nil) (.done (.var 25)))) (.list (.cons (.bin .Mod (.idx (.var 3) (.c (.int 7))) (.var 10)) .nil))) .nil) (.done (.var 24)))))
 (.cons (.asg 13 false (.call .listVals (.cons (.idx (.var 11) (.un .USub (.c (.int 1)))) .nil)))
 (.cons (.asg 14 false (.bin .Add (.list (.cons (.c (.int 0)) (.cons (.call .len (.cons (.var 12) .nil)) .nil))) (.comp 1 (.cons 24 (.range (.cons (.c (.int 2)) (.cons (.bin .Add (.var 10) (.c (.int 1))) .nil))) .nil (.done (.call .count (.cons (.var 13) (.cons (.var 24) .nil))))))))
 (.cons (.asg 15 false (.bin .Add (.c (.int 10)) (.bin .Mod (.bin .FloorDiv (.idx (.var 3) (.c (.int 7))) (.c (.int 60))) (.c (.int 23)))))
 (.cons (.asgT [(16,false),(17,false)] (.cons (.bin .Pow (.c (.int 2)) (.var 15)) (.cons (.call (.user 2) (.cons (.var 14) (.cons (.var 15) .nil))) .nil)))
 (.cons (.asg 18 false (.ite (.cmp .Eq (.bin .Mod (.var 10) (.c (.int 2))) (.c (.int 1))) (.un .USub (.var 17)) (.var 17)))
 (.cons (.for_ 19 (.range (.cons (.c (.int 1)) (.cons (.c (.int 4)) .nil)))
  (.cons (.asg 20 false (.call (.user 18) (.cons (.var 7) (.cons (.var 8) (.cons (.var 19) .nil)))))
  (.cons (.asg 21 false (.bin .Sub (.c (.int 1)) (.bin .Mult (.c (.int 2)) (.bin .Mod (.bin .Add (.var 19) (.idx (.var 3) (.c (.int 7)))) (.c (.int 2))))))
  (.cons (.ife (.or (.cons (.un .Not (.call (.user 20) (.cons (.call (.user 4) (.cons (.bin .Mult (.var 21) (.var 18)) (.cons (.bin .Mult (.var 21) (.bin .Add (.var 16) (.var 19))) .nil))) (.cons (.tup (.cons (.bin .FloorDiv (.bin .Sub (.var 18) (.var 20)) (.bin .Add (.var 16) (.var 19))) (.cons (.bin .Mult (.var 21) (.var 20)) .nil))) .nil)))) (.cons (.cmp .NotEq (.call (.user 2) (.cons (.call (.user 1) (.cons (.var 20) (.cons (.var 19) .nil))) (.cons (.var 19) .nil))) (.var 20)) .nil)))
   (.cons (.ret (.c (.bool false)))
   .nil)
   .nil)
  .nil))))
 (.cons (.asg 22 false (.bin .FloorDiv (.bin .Sub (.var 17) (.call .len (.cons (.var 13) .nil))) (.bin .Sub (.var 16) (.c (.int 1)))))
 (.cons (.ife (.or (.cons (.un .Not (.call (.user 20) (.cons (.call (.user 3) (.cons (.var 17) (.cons (.bin .Sub (.var 16) (.c (.int 1))) .nil))) (.cons (.tup (.cons (.var 22) (.cons (.call .len (.cons (.var 13) .nil)) .nil))) .nil)))) (.cons (.un .Not (.call (.user 20) (.cons (.call (.user 1) (.cons (.var 22) (.cons (.var 15) .nil))) (.cons (.comp 1 (.cons 24 (.range (.cons (.var 10) .nil)) .nil (.done (.call .sum (.cons (.slice (.var 14) (.some (.bin .Add (.var 24) (.c (.int 1)))) .none) .nil))))) .nil)))) .nil)))
  (.cons (.ret (.c (.bool false)))
  .nil)
  .nil)
 (.cons (.asg 23 false (.call .sum (.cons (.comp 1 (.cons 24 (.range (.cons (.bin .Pow (.c (.int 2)) (.var 10)) .nil)) .nil (.done (.bin .Mult (.call .len (.cons (.idx (.var 11) (.var 24)) .nil)) (.call .len (.cons (.idx (.var 11) (.bin .Sub (.un .USub (.c (.int 1))) (.var 24))) .nil)))))) .nil)))
 (.cons (.ret (.and (.cons (.call (.user 20) (.cons (.call (.user 1) (.cons (.var 17) (.cons (.var 15) .nil))) (.cons (.var 14) .nil))) (.cons (.call (.user 20) (.cons (.bin .Add (.call (.user 4) (.cons (.c (.int 0)) (.cons (.bin .Sub (.c (.int 2)) (.var 16)) .nil))) (.call (.user 4) (.cons (.var 17) (.cons (.bin .Sub (.c (.int 2)) (.var 16)) .nil)))) (.cons (.tup (.cons (.c (.int 0)) (.cons (.c (.int 0)) (.cons (.bin .Sub (.bin .FloorDiv (.bin .Sub (.var 23) (.var 17)) (.bin .Sub (.var 16) (.c (.int 2)))) (.c (.int 1))) (.cons (.bin .Sub (.bin .Add (.var 23) (.c (.int 2))) (.var 16)) .nil))))) .nil))) .nil))))
 .nil))))))))))))))))))))))⟩
theorem Xe:fns 0=some f0:=by kernel_rfl
theorem Xr:fns 3=some f3:=by kernel_rfl
theorem Ip:fns 4=some f4:=by kernel_rfl
theorem Nm:fns 5=some f5:=by kernel_rfl
theorem Nn:fns 6=some f6:=by kernel_rfl
theorem No:fns 7=some f7:=by kernel_rfl
theorem Xf:fns 10=some Wv:=by kernel_rfl
theorem Xg:fns 11=some Ww:=by kernel_rfl
theorem Xh:fns 12=some Wx:=by kernel_rfl
theorem Xi:fns 13=some M_:=by kernel_rfl
theorem Xj:fns 14=some Ic:=by kernel_rfl
theorem Xk:fns 15=some Na:=by kernel_rfl
theorem Xl:fns 16=some Ie:=by kernel_rfl
theorem Xm:fns 17=some Ig:=by kernel_rfl
theorem Xn:fns 18=some Ih:=by kernel_rfl
theorem Xo:fns 19=some Ii:=by kernel_rfl
theorem Xp:fns 20=some Wy:=by kernel_rfl
theorem Xq:fns 21=some y6:=by kernel_rfl
theorem Fx:fns 1=none/\fns 2=none/\fns 8=none/\fns 9=none:=xU (by kernel_rfl) (by kernel_rfl) (by kernel_rfl) (by kernel_rfl)
noncomputable abbrev Fi(n:Nat):rd:=zX tW fns n
theorem Fs(h:fns k=some d):Fi (n+1) k as=AK (Fi n) d as:=by
 show(match fns k with|some d=>AK (zX tW fns n) d as|none=>tW k as)=_;refine oa h ?_;rfl
theorem Ft(h:fns k=none):Fi (n+1) k as=tW k as:=by
 show(match fns k with|some d=>AK (zX tW fns n) d as|none=>tW k as)=_;refine oa h ?_;rfl
theorem WB:Fi (n+1) 10 [.int x]=some (.bool (decide (x<256))):=by
 refine oa (Fs Xf) ?_;rfl
theorem WC:Fi (n+1) 11 [.int x]=some (.bool (decide (256<=x))):=by
 refine oa (Fs Xg) ?_;rfl
theorem WD:Fi (n+1) 12 [.int x]=some (.bool (decide (x=0))):=by
 refine oa (Fs Xh) ?_;rfl
theorem Fq{n a m:Nat}(ha:a<2^1000)(hm:0<m)(Aw:m<=64):Fi (n+1) 1 [.int a,.int m]=some (.lst ((dg m (pU m a) a).map .int)):=by
 refine oa (Ft Fx.1) ?_;refine oa (show tW 1=D3 from rfl) ?_;refine oa wdD ?_;have h1:(a:Int)<2^1000:=by
  have:(a:Int)<((2^1000:Nat):Int):=dC.mpr ha
  rwa [dO]at this
 refine oa (if_pos ⟨az _,h1,dC.mpr hm,d_.mpr Aw⟩) ?_;rfl
theorem CG(is:List Int):qX (is.map AV.int)=some is:=by
 unfold qX
 induction is with
 |nil=>rfl
 |cons i is ih=>rw[aU,uv,ih];rfl
theorem Ik{n m:Nat}{is:List Int}(hl:is.length<=1000)(Aw:m<=64)(hd:∀d∈is,d.natAbs<2^64):Fi (n+1) 2 [.lst (is.map .int),.int m]=some (.int (qL m is)):=by
 refine oa (Ft Fx.2.1) ?_;refine oa (show tW 2=D4 from rfl) ?_;refine oa wdF ?_;refine oa (CG _) ?_;exact if_pos ⟨hl,az _,d_.mpr Aw,aj.mpr λd h=>decide_eq_true (hd d h)⟩
theorem WU:Fi (n+1) 8 [.str [c]]=some (.bool (rJ c)):=by
 refine oa (Ft Fx.2.2.1) ?_;rfl
theorem WV:Fi (n+1) 9 [.str [c]]=some (.str (u6 c)):=by
 refine oa (Ft Fx.2.2.2) ?_;rfl
theorem tl(hf:fns k=some d)(hl:as.length=d.nargs)(h:oL (Fi N) (as.map some++aA (d.nvars-d.nargs) none) [] d.body=some (.ret v)):Fi (N+1) k as=some v:=by
 rw[Fs hf];unfold AK;rw[if_pos hl,h]
theorem vd(h:q8 Φ ρ σ s=some (.next oC ox))(h2:oL Φ oC ox ss=r):oL Φ ρ σ (.cons s ss)=r:=by
 rewrite [Ib];refine oa h ?_;exact h2
theorem H9(h:q8 Φ ρ σ s=some (.ret v)):oL Φ ρ σ (.cons s ss)=some (.ret v):=by
 rw[Ib,h]
theorem pS:oL Φ ρ σ .nil=some (.next ρ σ):=by rw[Wq]
theorem o0(h:ev Φ σ ρ e=some v)(h2:oL Φ (ρ.set x (some v)) σ ss=r):oL Φ ρ σ (.cons (.asg x false e) ss)=r:=by
 refine vd ?_ h2;rw[H',MB,if_neg bA,h];rfl
theorem C7(h:AP Φ ρ σ e=some (v,ox))(h2:oL Φ (ρ.set x (some v)) ox ss=r):oL Φ ρ σ (.cons (.asg x true e) ss)=r:=by
 refine vd ?_ h2;rw[H',MB,if_pos rfl,h]
theorem Ah(h:ev Φ σ ρ e=some (.tup vs))(hs:sE ρ xs vs=some oC)(h2:oL Φ oC σ ss=r):oL Φ ρ σ (.cons (.unp xs e) ss)=r:=by
 refine vd ?_ h2;rw[M6,h];simp only[hs];rfl
theorem y2(h:sO Φ ρ σ xs es=some (vs,ox))(hs:sE ρ (xs.map (·.1)) vs=some oC)(h2:oL Φ oC ox ss=r):oL Φ ρ σ (.cons (.asgT xs es) ss)=r:=by
 refine vd ?_ h2;rw[M7,h];simp only[hs];rfl
theorem sd(h:ev Φ σ ρ e=some v)(hf:o8 σ 6 v=some u):oL Φ ρ σ (.cons (.ret e) ss)=some (.ret u):=by
 refine H9 ?_;rw[M5,h];simp only[hf];rfl
theorem y3(h:ev Φ σ ρ c=some (.bool true))(ha:oL Φ ρ σ a=some (.next oC ox))(h2:oL Φ oC ox ss=r):oL Φ ρ σ (.cons (.ife c a b) ss)=r:=by
 refine vd ?_ h2;rw[C8,h];exact ha
theorem rE(h:ev Φ σ ρ c=some (.bool false))(ha:oL Φ ρ σ b=some (.next oC ox))(h2:oL Φ oC ox ss=r):oL Φ ρ σ (.cons (.ife c a b) ss)=r:=by
 refine vd ?_ h2;rw[C8,h];exact ha
theorem wm(h:ev Φ σ ρ c=some (.bool true))(ha:oL Φ ρ σ a=some (.ret v)):oL Φ ρ σ (.cons (.ife c a b) ss)=some (.ret v):=by
 refine H9 ?_;rw[C8,h];exact ha
theorem By(h:ev Φ σ ρ c=some (.bool false))(ha:oL Φ ρ σ b=some (.ret v)):oL Φ ρ σ (.cons (.ife c a b) ss)=some (.ret v):=by
 refine H9 ?_;rw[C8,h];exact ha
theorem xJ(h:yk Φ ρ σ it=some vs)(hf:sQ (λρ σ v=>oL Φ (ρ.set x (some v)) σ body) vs ρ σ=some (.next oC ox))(h2:oL Φ oC ox ss=r):oL Φ ρ σ (.cons (.for_ x it body) ss)=r:=by
 refine vd ?_ h2;rewrite [M'];refine oa h ?_;exact hf
theorem Wo(hf:v5 (λρ σ=>ev Φ σ ρ c) (λρ σ=>oL Φ ρ σ body) 100 ρ σ=some (.next oC ox))(h2:oL Φ oC ox ss=r):oL Φ ρ σ (.cons (.while_ c body) ss)=r:=by
 refine vd ?_ h2;rw[M4];exact hf
theorem Hp(h:¬x=y):wO σ .Eq (.int x) (.int y)=some false:=congrArg some (decide_eq_false h)
theorem LQ(h:x<y):wO σ .Lt (.int x) (.int y)=some true:=congrArg some (decide_eq_true h)
theorem Hq(h:¬x<y):wO σ .Lt (.int x) (.int y)=some false:=congrArg some (decide_eq_false h)
theorem Xy(h:f ρ σ u=some (.next oC ox))(h2:sQ f vs oC ox=r):sQ f (u::vs) ρ σ=r:=by rewrite [Iq];refine oa h ?_;exact h2
theorem Bx(h1:ev Φ σ ρ o=some (.ref i))(h2:ev Φ σ ρ e=some v)(h3:σ[i]?=some (.list xs))(hl:xs.length<=100000)(hs:∀j,v≠.ref j)(h4:oL Φ ρ (σ.set i (.list (xs++[v]))) ss=r):oL Φ ρ σ (.cons (.app o e) ss)=r:=by
 refine vd ?_ h4;rw[Ia,h1];dsimp only;rw[h2];simp only[h3];rw[if_pos hl]
theorem qT(h:qj Φ σ ρ as=some vs)(hf:pq (o8 [] 6) vs=some vs)(hc:Φ k vs=some v):ev Φ σ ρ (.call (.user k) as)=some v:=by
 rewrite [xH];refine oa h ?_;show zW Φ σ k vs=_;unfold zW;refine oa hf ?_;exact hc
theorem Wa(h:qj Φ σ ρ as=some vs)(hn:pq (o8 [] 6) vs=none)(hf:pq (o8 σ 6) vs=some us)(hc:Φ k us=some v)(hs:v.scalar=true):ev Φ σ ρ (.call (.user k) as)=some v:=by
 rewrite [xH];refine oa h ?_;show zW Φ σ k vs=_;unfold zW;refine oa hn ?_;refine oa hf ?_;simp only[hc,hs,if_true]
theorem WA(h:(aH a:Int)-k<=4000)(hb:b≠0)(hs:small b=true):Fi (n+1) 0 [.int a,.int b,.int k]=some (.tup [.int (a.fdiv b),.int (a.fmod b)]):=by
 refine tl Xe rfl (wm ?_ (sd (v:=.tup [.int (a.fdiv b),.int (a.fmod b)]) ?_ rfl))
 ·have e:ev (Fi n) [] [some (.int a),some (.int b),some (.int k),none,none,none,none,none,none,none,none] (.call .bitLength (.cons (.var 0) .nil))=some (.int (aH a)):=by rw[xH,q6 (ol rfl)];rfl
  exact qS (qp e (ol (i:=2) rfl) rfl) (y:=.int 4000) rfl (congrArg some (decide_eq_true h))
 ·rw[xH,rW (ol rfl) (ol rfl)];exact if_neg λq=>q.elim hb λq=>by rw[hs]at q;exact nomatch q
noncomputable def vG(n:Nat):Nat->Nat->List Nat
 |0,_=>[]
 |k+1,a=>a%2^n::vG n k (a/2^n)
theorem UK:vG n 0 x=[]:=rfl
theorem Bi:vG n (k+1) x=x%2^n::vG n k (x/2^n):=rfl
theorem E9(n:Nat):∀k a,dg n k a=(vG n k a).map bE:=by
 intro vv
 induction vv with
 |zero =>
  intro _;exact rfl
 |succ k ih =>
  intro a;rw[zZ,Bi,aU,ih];rfl
theorem Mh(n:Nat):∀k a,∀d∈vG n k a,d<2^n:=by
 intro vv
 induction vv with
 |zero =>
  intro _ d h;exact nomatch h
 |succ k ih =>
  intro a d h;rw[Bi]at h;rcases bh.mp h with rfl|h
  ·exact bj _ (ck _)
  ·exact ih _ d h
theorem UJ(n:Nat):∀k a,(vG n k a).length=k:=by
 intro vv
 induction vv with
 |zero =>
  intro _;exact rfl
 |succ k ih =>
  intro a;rw[Bi,aF,ih]
noncomputable def vH(n b:Nat)(st:Nat×List Nat)(d:Nat):Nat×List Nat:=((st.1*2^n+d)%b,st.2++[(st.1*2^n+d)/b])
noncomputable def wS(n b k a:Nat):Nat×List Nat:=(vG n k a).reverse.foldl (vH n b) (0,[])
theorem UB(n b k a:Nat):wS n b (k+1) a=vH n b (wS n b k (a/2^n)) (a%2^n):=by
 unfold wS;rw[Bi,dN,mw];rfl
theorem P9(n q:Nat)(l:List Nat):qL n (((q::l)).map bE)=q+qL n (l.map bE)*2^n:=by
 show(q:Int)+_*2^((n:Int)).toNat=_;refine oa (aT _) ?_;rfl
theorem UA(n b:Nat)(hb:0<b):∀k a,a<2^(n*k)->(wS n b k a).1=a%b/\qL n ((wS n b k a).2.reverse.map bE)=((a/b:Nat):Int)/\(wS n b k a).2.length=k:=by
 intro vv
 induction vv with
 |zero =>
  intro a h;have:a=0:=by simpa using h
  subst this;simp[wS,UK,qL]
 |succ k ih =>
  intro a h;have h':a/2^n<2^(n*k):=by
   rw[fK (ck _),<-gS]
   rwa [gy]at h
  refine tR (ih (a/2^n) h') λe1 e2 e3=>?_;rw[UB];unfold vH;refine oa e1 ?_;have hx:a/2^n%b*2^n+a%2^n+a/2^n/b*b*2^n=a:=by
   have h1:=et (a/2^n) b;have h2:=et a (2^n);have h3:(b*(a/2^n/b)+a/2^n%b)*2^n=a/2^n*2^n:=by refine oa h1 ?_;rfl
   rw[ft]at h3;have h4:a/2^n/b*b*2^n=b*(a/2^n/b)*2^n:=by refine oa (cE b _) ?_;rfl
   have h5:a/2^n*2^n=2^n*(a/2^n):=cE _ _;rw[fj,h4,<-ft,dc (a/2^n%b),h1,h5,h2]
  generalize hX:a/2^n%b*2^n+a%2^n=X at hx;have s4:X+b*(a/2^n/b*2^n)=a:=by
   rw[cE (a/2^n/b) b,Nat.mul_assoc]at hx;exact hx
  refine qJ ?_ ?_ ?_
  ·show X%b=a%b;have e:(X+b*(a/2^n/b*2^n))%b=a%b:=congrArg (·%b) s4;rw[gP]at e;exact e
  ·show qL n ((((wS n b k (a/2^n)).2++[X/b]).reverse).map bE)=_;refine oa lK ?_;refine oa List.reverse_singleton ?_;refine oa List.singleton_append ?_;rewrite [P9];refine oa e2 ?_;have:a/b=X/b+a/2^n/b*2^n:=by
    have e:(X+b*(a/2^n/b*2^n))/b=a/b:=congrArg (·/b) s4;rw[iU _ _ hb]at e;exact e.symm
   refine oa this ?_;refine oa (dw _ _) ?_;refine oa (cU _ _) ?_;refine oa (dO _ _) ?_;rfl
  ·simp[e3]
theorem UT(hb:0<b)(hr:st.1<b)(hd:d<2^n):(vH n b st d).1<b/\(st.1*2^n+d)/b<2^n:=by
 refine⟨bj _ hb,?_⟩;rw[fK hb];have:(st.1+1)*2^n<=b*2^n:=iP _ hr;rw[ft,gT]at this;refine oa (cE (2^n) b) ?_
 lia
noncomputable def Me:rG:=.cons (.unp [7,4] (.call (.user 0) (.cons (.bin .Add (.bin .LShift (.var 4) (.var 2)) (.var 6)) (.cons (.var 1) (.cons (.var 2) .nil))))) (.cons (.app (.var 5) (.var 7)) .nil)
theorem Us{N n b x d:Nat}(hb:0<b)(BI:b<2^n)(hn:n<=64)(hr:x<b)(hd:d<2^n):Fi (N+1) 0 [.int ((x:Int)*2^n+d),.int b,.int n]=some (.tup [.int (((x*2^n+d)/b:Nat):Int),.int (((x*2^n+d)%b:Nat):Int)]):=by
 have N4:b<2^64:=ab BI (aD (by decide) hn);have hX:x*2^n+d<2^128:=by
  have e1:(x+1)*2^n<=2^64*2^64:=di (ae hr (bb N4)) (aD (by decide) hn);rw[ft,gT]at e1;exact ab (l0 hd _) e1
 have e:((x:Int)*2^n+d)=((x*2^n+d:Nat):Int):=by rw[dw,cU,dO];rfl
 generalize x*2^n+d=X at *;have:=Gb (a:=(X:Int)) (k:=128) (by rwa [bl]);rw[e,WA (by lia) (Cj hb) (decide_eq_true (by rw[bl];exact N4)),bY _ (az _),eK _ (az _),<-eQ,<-jE]
theorem UU{N n b x d:Nat}{l:List Nat}{A D v:Option AV}(hb:0<b)(BI:b<2^n)(hn:n<=64)(hr:x<b)(hd:d<2^n)(hl:l.length<=1000):
 oL (Fi (N+1)) [A,some (.int b),some (.int n),D,some (.int x),some (.ref 0),some (.int d),v,none] [.list ((l.map bE).map .int)] Me =
  some (.next [A,some (.int b),some (.int n),D,some (.int (vH n b (x,l) d).1),some (.ref 0),some (.int d),some (.int (((x*2^n+d)/b:Nat):Int)),none] [.list (((vH n b (x,l) d).2.map bE).map .int)]):=by
 have DE:x<2^4096:=ab (bW hr BI) (aD (by decide) (ae hn (by decide)));have ec:qj (Fi (N+1)) [.list ((l.map bE).map .int)] [A,some (.int b),some (.int n),D,some (.int x),some (.ref 0),some (.int d),v,none] (.cons (.bin .Add (.bin .LShift (.var 4) (.var 2)) (.var 6)) (.cons (.var 1) (.cons (.var 2) .nil)))=some [.int ((x:Int)*2^n+d),.int b,.int n]:=
  uo (qp (qp (ol (i:=4) rfl) (ol (i:=2) rfl) (PI (ae hn (by decide)) DE)) (ol (i:=6) rfl) rfl) (ol rfl) (ol rfl)
 refine Ah (qT ec rfl (Us hb BI hn hr hd)) rfl (Bx (i:=0) (xs:=(l.map bE).map .int) (v:=.int (((x*2^n+d)/b:Nat):Int)) (ol rfl) (ol rfl) rfl (by refine oa (ac _) ?_;refine oa (ac _) ?_;exact ae hl (by decide)) (λj=>nofun) (pS.trans ?_));rewrite [vH];refine oa bo ?_;refine oa bo ?_;rfl
theorem UQ{N n b:Nat}{A D:Option AV}(hb:0<b)(BI:b<2^n)(hn:n<=64)(L:List Nat):∀(st:Nat×List Nat) (u v:Option AV),st.1<b->(∀d∈L,d<2^n)->st.2.length+L.length<=1000->(∀q∈st.2,q<2^n) ->
 ∃u' v',sQ (λρ σ v=>oL (Fi (N+1)) (ρ.set 6 (some v)) σ Me) (L.map λ(d:Nat)=>AV.int d) [A,some (.int b),some (.int n),D,some (.int st.1),some (.ref 0),u,v,none] [.list ((st.2.map bE).map .int)] =
  some (.next [A,some (.int b),some (.int n),D,some (.int (L.foldl (vH n b) st).1),some (.ref 0),u',v',none] [.list ((((L.foldl (vH n b) st).2).map bE).map .int)])/\(∀q∈(L.foldl (vH n b) st).2,q<2^n):=by
 induction L with
 |nil=>exact λst u v Y Y Y hq=>rf u v rfl hq
 |cons d L ih =>
  intro st u v hr hd hl hq;have xN:=hd d ax;refine p_ (UT hb hr xN) λh1 h2=>?_;rw[aF]at hl;refine pK (ih (vH n b st d) (some (.int d)) (some (.int (((st.1*2^n+d)/b:Nat):Int))) h1 (λx hx=>hd x (aP _ hx)) (by rw[vH,aq,cZ];exact Ev hl) (λq Zn=>(aW.mp Zn).elim (hq q) λh=>aI.mp h▸h2)) λu' v' e q=>?_;exact rf u' v' (Xy (UU (l:=st.2) hb BI hn hr xN (ae (aV _ _) hl)) e) q
theorem Nf{N a b:Nat}(ha:a<2^1000)(hb:0<b)(wo:b<2^64):Fi (N+2) 3 [.int a,.int b]=some (.tup [.int ((a/b:Nat):Int),.int ((a%b:Nat):Int)]):=by
 generalize hm:aH (b:Int)=m;have N5:b<2^m:=hm▸JD;have FX:m<=64:=by refine rwj hm ?_;exact Gb (by rwa [bl])
 have BP:0<m:=by
  rcases mm m with h|h
  ·subst h;simp at N5;lia
  ·exact h
 have hk:=HE BP ha;have FM:=HD (a:=a) BP;refine tR (UA m b hb (pU m a) a FM) λs1 s2 s3=>?_;refine pK (UQ (N:=N) (A:=some (.int a)) (D:=some (.lst ((dg m (pU m a) a).map .int))) hb N5 FX (vG m (pU m a) a).reverse (0,[]) none none hb (λd hd=>Mh m _ _ d (jz.mp hd)) (by simp[UJ];exact hk) (λq h=>nomatch h)) λu' v' hl hq=>?_;have hL:((dg m (pU m a) a).map AV.int).reverse=(vG m (pU m a) a).reverse.map λ(d:Nat)=>AV.int d:=by
  rewrite [E9];refine oa a_ ?_;refine rwj jA ?_;rfl
 have YM:(vG m (pU m a) a).reverse.foldl (vH m b) (0,[])=wS m b (pU m a) a:=rfl;rw[YM]at hl hq;have Dt:∀l:List Int,pq (o8 [AO.list (l.map .int)] 6) [AV.ref 0,.int m]=some [.lst (l.map .int),.int m]:=λl=>by
  have h5:o8 [AO.list (l.map .int)] 6 (.ref 0)=some (.lst (l.map .int)):=by
   show(pq (o8 [AO.list (l.map .int)] 5) (l.map .int)).map AV.lst=_;rw[NA];rfl
  simp only[uv,h5];rfl
 have whN:∀l:List Int,pq (o8 [] 6) [AV.ref 0,.int m]=none:=λl=>rfl;have h2:=Ik (n:=N) (m:=m) (is:=(wS m b (pU m a) a).2.reverse.map bE) (by simp[s3];exact hk) FX (λd hd=>by
  refine oB (aE.mp hd) ?_;rintro q h1 rfl;exact ab (hq q (jz.mp h1)) (aD (by decide) FX))
 rw[s2]at h2;rw[s1]at hl;have YG:pq (o8 [] 6) [AV.int (a:Int),.int m]=some [AV.int (a:Int),.int m]:=rfl;refine tl Xr rfl ?_;show oL (Fi (N+1)) [some (.int a),some (.int b),none,none,none,none,none,none,none] [] f3.body=_;refine o0 (v:=.int m) ?_ (o0 (v:=.lst ((dg m (pU m a) a).map .int)) (qT (vs:=[.int a,.int m]) rfl YG (Fq ha BP FX)) (o0 (v:=.int 0) rfl (C7 (v:=.ref 0) (ox:=[.list []]) rfl (xJ (vs:=((dg m (pU m a) a).map AV.int).reverse) rfl (by refine oa hL ?_;exact hl) ?_))))
 ·rewrite [xH];refine oa (q6 (ol rfl)) ?_;exact congrArg (λi:Nat=>some (AV.int i)) hm
 generalize hqs:(wS m b (pU m a) a).2=qs at *;have o3:((qs.map bE).map AV.int).length<=100000:=by simp[s3];lia
 refine vd (oC:=[some (.int a),some (.int b),some (.int m),some (.lst ((dg m (pU m a) a).map .int)),some (.int ((a%b:Nat):Int)),some (.ref 0),u',v',none]) (ox:=[.list ((qs.reverse.map bE).map .int)]) ?_ ?_
 ·rewrite [M8];refine oa (ol (i:=5) (v:=.ref 0) rfl) ?_;simp only[List.getElem?_cons_zero];refine oa (if_pos o3) ?_;simp[jA]
 ·refine o0 (v:=.int ((a/b:Nat):Int)) (Wa (vs:=[.ref 0,.int m]) rfl rfl (Dt _) h2 rfl) ?_;exact sd (v:=.tup [.int ((a/b:Nat):Int),.int ((a%b:Nat):Int)]) rfl rfl
theorem Iw(a b:Int):pq (o8 [] 6) [AV.int a,.int b]=some [AV.int a,.int b]:=rfl
theorem Ix(σ:oH)(a b:Int):o8 σ 6 (.tup [.int a,.int b])=some (.tup [.int a,.int b]):=rfl
theorem V5(h:ev Φ σ ρ e=some (.int i)):ev Φ σ ρ (.un .USub e)=some (.int (-i)):=by rw[H1,h];rfl
theorem Ng{N a b:Nat}(ha:a<2^1000)(hb:0<b)(wo:b<2^64):Fi (N+3) 4 [.int a,.int b]=some (.tup [.int ((a/b:Nat):Int),.int ((a%b:Nat):Int)]):=by
 refine tl Ip rfl ?_;show oL (Fi (N+2)) [some (.int a),some (.int b),none,none] [] f4.body=_;refine By (v:=.tup [.int ((a/b:Nat):Int),.int ((a%b:Nat):Int)]) ?_ (By ?_ (By ?_ (sd (qT (vs:=[.int a,.int b]) rfl (Iw _ _) (Nf ha hb wo)) (Ix _ _ _))))
 ·exact qS (ol rfl) pX (Hp (Cj hb))
 ·exact qS (ol rfl) pX (Hq (by simp))
 ·exact qS (ol rfl) pX (Hq (by simp))
theorem WN{N:Nat}{a:Int}{b:Nat}(ha:a.natAbs<2^1000)(Yi:a<0)(hb:0<b)(wo:b<2^64):Fi (N+4) 4 [.int a,.int b]=some (.tup [.int (a.fdiv b),.int (a.fmod b)]):=by
 obtain⟨c,hc⟩:∃c:Nat,-a-1=(c:Int):=⟨(-a-1).toNat,by lia⟩
 have Al:c<2^1000:=by omega
 refine tl Ip rfl ?_;show oL (Fi (N+3)) [some (.int a),some (.int b),none,none] [] f4.body=_;have e1:a.fdiv b=-((c/b:Nat):Int)-1:=by
  refine oa (bY _ (az b)) ?_;have:a=-((c:Int)+1):=by lia
  refine oa this ?_;refine oa (eQ _ _) ?_;have h1:=Int.mul_ediv_add_emod c b;have h2:=Int.emod_nonneg c (b:=(b:Int)) (Cj hb);have h3:=Int.emod_lt_of_pos c (b:=(b:Int)) (yG hb);generalize hq:(c:Int)/b=q at *;generalize hr:(c:Int)%b=r at *;have:-((c:Int)+1)=(b-r-1)+b*(-q-1):=by
   rewrite [jM];refine oa (iV _ _) ?_;refine oa (lS _) ?_;lia
  refine oa this ?_;refine oa (ly _ _ (Cj hb)) ?_;refine oa (li (by lia) (by lia)) ?_;simp
 have e2:a.fmod b=(b:Int)+(-((c%b:Nat):Int)-1):=by
  have h1:=iz a b;rw[e1]at h1;have h2:((c%b:Nat):Int)=c-b*((c/b:Nat):Int):=by
   have:=et c b;have h3:(b:Int)*((c/b:Nat):Int)=((b*(c/b):Nat):Int):=by refine oa (cU _ _) ?_;rfl
   refine oa h3 ?_;lia
  refine oa h2 ?_;rw[jM,iV,lS]at h1;omega
 have Dp:Fi (N+3) 4 [.int (-a-1),.int b]=some (.tup [.int ((c/b:Nat):Int),.int ((c%b:Nat):Int)]):=by refine oa hc ?_;exact Ng Al hb wo
 refine By (v:=.tup [.int (a.fdiv b),.int (a.fmod b)]) ?_ (By ?_ (wm ?_ (Ah (vs:=[.int ((c/b:Nat):Int),.int ((c%b:Nat):Int)]) (qT (vs:=[.int (-a-1),.int b]) rfl (Iw _ _) Dp) rfl (sd (v:=.tup [.int (a.fdiv b),.int (a.fmod b)]) ?_ (Ix _ _ _)))))
 ·exact qS (ol rfl) pX (Hp (Cj hb))
 ·exact qS (ol rfl) pX (Hq (by simp))
 ·exact qS (ol rfl) pX (LQ Yi)
 ·refine oa e1 ?_;refine oa e2 ?_;rfl
theorem Nh{N:Nat}{a:Int}{b:Nat}(ha:a.natAbs<2^1000)(hb:0<b)(wo:b<2^64):Fi (N+4) 4 [.int a,.int b]=some (.tup [.int (a.fdiv b),.int (a.fmod b)]):=by
 rcases(by omega:a<0\/0<=a)with h|h
 ·exact WN ha h hb wo
 ·refine o6 (dr h) ?_;rintro c rfl;refine oa (Ng (N:=N+1) (by simpa using ha) hb wo) ?_;refine oa (bY _ (az b)) ?_;refine oa (eK _ (az b)) ?_;refine oa (eQ _ _) ?_;refine oa (jE _ _) ?_;rfl
theorem Il{N:Nat}{a b:Int}(ha:a.natAbs<2^1000)(hb:b≠0)(wo:b.natAbs<2^64):Fi (N+5) 4 [.int a,.int b]=some (.tup [.int (a.fdiv b),.int (a.fmod b)]):=by
 rcases(by omega:b<0\/0<=b)with h|h
 ·obtain⟨c,hc⟩:∃c:Nat,-b=(c:Int):=⟨(-b).toNat,by lia⟩
  have Dp:Fi (N+4) 4 [.int (-a),.int (-b)]=some (.tup [.int ((-a).fdiv c),.int ((-a).fmod c)]):=by
   refine oa hc ?_;exact Nh (by rwa [gK]) (by lia) (by omega)
  have e:b=-c:=by lia
  have e1:a.fdiv b=(-a).fdiv c:=by
   refine oa e ?_
   conv=>lhs;rw[<-lP a]
   refine oa (nc _ _) ?_;rfl
  have e2:a.fmod b=-((-a).fmod c):=by
   have h1:=iz a b;have h2:=iz (-a) c;rw[e1,e]at h1;rw[lQ]at h1;refine oa e ?_;omega
  refine tl Ip rfl ?_;show oL (Fi (N+4)) [some (.int a),some (.int b),none,none] [] f4.body=_;refine By (v:=.tup [.int (a.fdiv b),.int (a.fmod b)]) ?_ (wm ?_ (Ah (vs:=[.int ((-a).fdiv c),.int ((-a).fmod c)]) (qT (vs:=[.int (-a),.int (-b)]) rfl (Iw _ _) Dp) rfl (sd (v:=.tup [.int (a.fdiv b),.int (a.fmod b)]) ?_ (Ix _ _ _))))
  ·exact qS (ol rfl) pX (Hp hb)
  ·exact qS (ol rfl) pX (LQ h)
  ·refine oa e1 ?_;refine oa e2 ?_;rfl
 ·refine o6 (dr h) ?_;rintro c rfl;exact Nh (N:=N+1) ha (by lia) (by simpa using wo)
theorem Io{α β:Type}{f:α->Option (List β)}{g:α->List β}:∀{vs:List α},(∀v∈vs,f v=some (g v))->tS f vs=some (vs.flatMap g):=by
 intro vv
 induction vv with
 |nil =>
  intro _;exact rfl
 |cons v vs ih =>
  intro h;rw[Fu,h v ax,ih λu hu=>h u (aP _ hu)];rfl
theorem Nj{α β:Type}{p:α->Bool}{g:α->β}:∀vs:List α,(vs.flatMap λv=>if p v then[g v]else[])=(vs.filter p).map g:=by
 intro vv
 induction vv with
 |nil =>
  exact rfl
 |cons a l ih =>
  refine oa b0 ?_;refine oa eO ?_;refine oa (ih) ?_;cases p a<;>simp
theorem HR{ρ:oI}{x:Nat}{it:It}{ifs:qh}{oK:Ex}{vs:List AV}{g:AV->List AV}(h:r9 Φ σ ρ it=some vs)(hx:ρ.length=x)(hl:vs.length<=1000)(hg:∀v∈vs,(match qZ Φ σ (ρ++[some v]) ifs with
 |some true=>(ev Φ σ (ρ++[some v]) oK).map λu=>[u]
 |some false=>some []
 |none=>none)=some (g v)) (YP:∀v,(g v).length<=100):ev Φ σ ρ (.comp 1 (.cons x it ifs (.done oK)))=some (.lst (vs.flatMap g)):=by
 have hs:∀v,(ρ++aA 1 none).set x (some v)=ρ++[some v]:=λv=>by
  refine rwj hx ?_;simp[eh]
 rewrite [H0,HK];refine oa h ?_;have h0:(ρ++aA 1 none)[x]?=some none:=by
  refine rwj hx ?_;refine oa (ay (ai _)) ?_;refine oa (ci _) ?_;rfl
 simp only[h0];rw[if_pos (by lia),Io (g:=g) (λv hv=>by
  refine oa (hs v) ?_;refine rwj (hg v hv) ?_
  induction qZ Φ σ (ρ++[some v]) ifs using aa with
  |none=>rfl
  |some b=>cases b<;>rfl)]
 unfold Dj;have:(vs.flatMap g).length<=100000:=by
  refine oa List.length_flatMap ?_;have:∀(l:List AV),(l.map λv=>(g v).length).sum<=100*l.length:=λl=>by
   induction l with
   |nil=>simp
   |cons a l ih =>
    have:=YP a;simp only[aU,bV,aF]
    lia
  have:=this vs
  lia
 show bJ AV.lst (if _ then _ else _)=_;refine oa (if_pos this) ?_;rfl
theorem Ab(h:r9 Φ σ ρ it=some vs)(hx:ρ.length=x)(hl:vs.length<=1000)(hg:∀v∈vs,ev Φ σ (ρ++[some v]) oK=some (g v)):ev Φ σ ρ (.comp 1 (.cons x it .nil (.done oK)))=some (.lst (vs.map g)):=by
 refine oa (HR (g:=λv=>[g v]) h hx hl (λv hv=>by rw[z8,hg v hv];rfl) (λv=>by simp)) ?_;refine oa List.map_eq_flatMap ?_;rfl
theorem Aa{ρ:oI}{x:Nat}{it:It}{ifs:qh}{oK:Ex}{vs:List AV}{p:AV->Bool}{g:AV->AV}(h:r9 Φ σ ρ it=some vs)(hx:ρ.length=x)(hl:vs.length<=1000)(hp:∀v∈vs,qZ Φ σ (ρ++[some v]) ifs=some (p v))(hg:∀v∈vs,p v=true->ev Φ σ (ρ++[some v]) oK=some (g v)):ev Φ σ ρ (.comp 1 (.cons x it ifs (.done oK)))=some (.lst ((vs.filter p).map g)):=by
 rw[HR (g:=λv=>if p v then[g v]else[]) h hx hl (λv hv=>by
  refine oa (hp v hv) ?_
  induction hpv:p v using aZ with
  |true=>simp[hg v hv hpv]
  |false=>simp) (λv=>by split<;>simp)]
 refine oa (Nj _) ?_;rfl
theorem Mn:∀is:List Int,sN qR (is.map AV.int) (is.map AV.int)=some true:=by
 intro vv
 induction vv with
 |nil =>
  exact rfl
 |cons i is ih =>
  have e:qR (.int i) (.int i)=some true:=congrArg some (decide_eq_true rfl);refine oa aU ?_;rewrite [CY];refine oa e ?_;refine oa (ih) ?_;rfl
theorem MD(h1:ev Φ σ ρ a=some (.bool true))(h2:ev Φ σ ρ b=some (.bool true)):ev Φ σ ρ (.and (.cons a (.cons b .nil)))=some (.bool true):=by
 rw[Fk,xE,h1];simp only[];rw[xE,h2];simp only[];rw[z8];rfl
theorem Fh(h1:ev Φ σ ρ a=some (.bool false))(h2:ev Φ σ ρ b=some (.bool false)):ev Φ σ ρ (.or (.cons a (.cons b .nil)))=some (.bool false):=by
 rw[H2,Bo,h1];simp only[];rw[Bo,h2];simp only[];rw[MA];rfl
theorem V6(h1:ev Φ σ ρ a=some (.bool false))(h2:ev Φ σ ρ b=some (.bool false))(h3:ev Φ σ ρ c=some (.bool false)):ev Φ σ ρ (.or (.cons a (.cons b (.cons c .nil))))=some (.bool false):=by
 rw[H2,Bo,h1];simp only[];rw[Bo,h2];simp only[];rw[Bo,h3];simp only[];rw[MA];rfl
theorem HY(h1:ev Φ σ ρ a=some (.bool b)):ev Φ σ ρ (.un .Not a)=some (.bool (!b)):=by
 rw[H1,h1];rfl
theorem rV(h1:qj Φ σ ρ as=some vs)(h:zY Φ σ f vs=some z):ev Φ σ ρ (.call f as)=some z:=by
 rewrite [xH];refine oa h1 ?_;exact h
theorem C4(h1:qj Φ σ ρ as=some vs)(hl:vs.length<=100000):ev Φ σ ρ (.tup as)=some (.tup vs):=by
 rw[MQ,h1];simp only[];rw[if_pos hl]
theorem C2(h1:qj Φ σ ρ as=some vs)(hl:vs.length<=100000):ev Φ σ ρ (.list as)=some (.lst vs):=by
 rw[MP,h1];simp only[];rw[if_pos hl]
theorem Br(h1:ev Φ σ ρ c=some (.bool true))(h2:ev Φ σ ρ a=some z):ev Φ σ ρ (.ite c a b)=some z:=by
 rw[H3,h1];exact h2
theorem Bq(h1:ev Φ σ ρ c=some (.bool false))(h2:ev Φ σ ρ b=some z):ev Φ σ ρ (.ite c a b)=some z:=by
 rw[H3,h1];exact h2
theorem WM{N:Nat}(is:List Int)(hl:is.length<=1000){c:List AV->AV}(hc:c=.tup\/c=.lst):Fi (N+1) 20 [c (is.map .int),c (is.map .int)]=some (.bool true):=by
 refine tl Xp rfl (sd (v:=.bool true) ?_ rfl);have e1:r9 (Fi N) [] [some (c (is.map AV.int)),some (c (is.map .int))] (.val (.var 0))=some (is.map .int):=by
  rcases hc with rfl|rfl<;>rfl
 have e2:ev (Fi N) [] [some (c (is.map AV.int)),some (c (is.map .int))] (.comp 1 (.cons 2 (.val (.var 0)) (.cons (.or (.cons (.call .isBool (.cons (.var 2) .nil)) (.cons (.un .Not (.call .isInt (.cons (.var 2) .nil))) .nil))) .nil) (.done (.var 2))))=some (.lst []):=by
  refine(HR (x:=2) (g:=λY=>[]) e1 rfl (by refine oa (ac _) ?_;exact hl) (λv hv=>?_) (λv=>by simp)).trans (by simp);refine oB (aE.mp hv) ?_;rintro i _ rfl;rfl
 have e3:wh [] (c (is.map AV.int)) (c (is.map .int))=some true:=by
  rcases hc with rfl|rfl
  ·exact(if_pos rfl).trans (Mn is)
  ·exact(if_pos rfl).trans (Mn is)
 have e4:wh [] (.lst []) (.lst [])=some true:=rfl;show ev (Fi N) [] [some (c (is.map AV.int)),some (c (is.map .int))] (.and (.cons (.cmp .Eq (.var 0) (.var 1)) (.cons (.cmp .Eq (.comp 1 (.cons 2 (.val (.var 0)) (.cons (.or (.cons (.call .isBool (.cons (.var 2) .nil)) (.cons (.un .Not (.call .isInt (.cons (.var 2) .nil))) .nil))) .nil) (.done (.var 2)))) (.list .nil)) .nil)))=_;have e5:ev (Fi N) [] [some (c (is.map AV.int)),some (c (is.map .int))] (.cmp .Eq (.var 0) (.var 1))=some (.bool true):=by
  exact qS (ol rfl) (ol rfl) e3
 have e6:ev (Fi N) [] [some (c (is.map AV.int)),some (c (is.map .int))] (.cmp .Eq (.comp 1 (.cons 2 (.val (.var 0)) (.cons (.or (.cons (.call .isBool (.cons (.var 2) .nil)) (.cons (.un .Not (.call .isInt (.cons (.var 2) .nil))) .nil))) .nil) (.done (.var 2)))) (.list .nil))=some (.bool true):=by
  exact qS e2 (y:=.lst []) rfl e4
 exact MD e5 e6
theorem yX:sO Φ ρ σ [] .nil=some ([],σ):=rfl
theorem MC(h:t8 Φ ρ σ x.2 e=some (v,uy))(h2:sO Φ ρ uy xs es=some (vs,zJ)):sO Φ ρ σ (x::xs) (.cons e es)=some (v::vs,zJ):=by
 show(match t8 Φ ρ σ x.2 e with|some (v,ox)=>(match sO Φ ρ ox xs es with|some (vs,u3)=>some (v::vs,u3)|none=>none)|none=>none)=_;refine oa h ?_;show(match sO Φ ρ uy xs es with|some (vs,u3)=>some (v::vs,u3)|none=>none)=_;refine oa h2 ?_;rfl
theorem um(h:ev Φ σ ρ e=some v)(h2:sO Φ ρ σ xs es=some (vs,ox)):sO Φ ρ σ ((x,false)::xs) (.cons e es)=some (v::vs,ox):=
 MC (x:=(x,false)) (congrArg (bJ (·,σ)) h) h2
theorem HN(h:AP Φ ρ σ e=some (v,ox))(h2:sO Φ ρ ox xs es=some (vs,u3)):sO Φ ρ σ ((x,true)::xs) (.cons e es)=some (v::vs,u3):=
 MC (x:=(x,true)) h h2
theorem r_{a b:Ex}{x y:Nat}(h1:ev Φ σ ρ a=some (.int x))(h2:ev Φ σ ρ b=some (.int y))(hy:y≠0):ev Φ σ ρ (.bin .Mod a b)=some (.int ((x%y:Nat):Int)):=by
 refine qp h1 h2 ?_;show(if(y:Int)=0 then none else some (AV.int ((x:Int).fmod y)))=_;rw[if_neg (by simp[*]),eK _ (az y),jE]
theorem Nd{x y:Nat}(hy:y≠0)(hs:y<2^64):rP σ .FloorDiv (.int x) (.int y)=some (.int ((x/y:Nat):Int)):=by
 show(if(y:Int)=0\/!small (y:Int)then none else some (AV.int ((x:Int).fdiv y)))=_;rw[if_neg (by rw[show small (y:Int)=true from decide_eq_true (by rw[bl];exact hs)];simp;exact hy),bY _ (az _),eQ]
theorem wi{a b:Ex}{x y:Nat}(h1:ev Φ σ ρ a=some (.int x))(h2:ev Φ σ ρ b=some (.int y))(hy:y≠0)(hs:y<2^64):ev Φ σ ρ (.bin .FloorDiv a b)=some (.int ((x/y:Nat):Int)):=qp h1 h2 (Nd hy hs)
theorem z_(h1:ev Φ σ ρ a=some (.int x))(h2:ev Φ σ ρ b=some (.int y)):ev Φ σ ρ (.bin .Add a b)=some (.int (x+y)):=qp h1 h2 rfl
theorem wl(h1:ev Φ σ ρ a=some (.int x))(h2:ev Φ σ ρ b=some (.int y)):ev Φ σ ρ (.bin .Sub a b)=some (.int (x-y)):=qp h1 h2 rfl
theorem C3{a b:Ex}{x y:Nat}(h1:ev Φ σ ρ a=some (.int x))(h2:ev Φ σ ρ b=some (.int y))(h:y<=x):ev Φ σ ρ (.bin .Sub a b)=some (.int ((x-y:Nat):Int)):=by
 refine oa (Int.natCast_sub h) ?_;exact wl h1 h2
theorem Fg(h1:ev Φ σ ρ a=some (.int x))(h2:ev Φ σ ρ b=some (.int y))(hs:small x=true\/small y=true):ev Φ σ ρ (.bin .Mult a b)=some (.int (x*y)):=by
 refine qp h1 h2 ?_;show(if(small x||small y)=true then _ else _)=_;refine oa (if_pos (by simpa using hs)) ?_;rfl
theorem V8{a b:Ex}{x:Int}{y:Nat}(h1:ev Φ σ ρ a=some (.int x))(h2:ev Φ σ ρ b=some (.int y))(hs:small x=true)(hy:y<=1000):ev Φ σ ρ (.bin .Pow a b)=some (.int (x^y)):=by
 refine qp h1 h2 ?_;show(if 0<=(y:Int)/\(y:Int)<=1000/\small x then some (AV.int (x^((y:Int)).toNat))else none)=_;rw[if_pos ⟨az y,yG hy,hs⟩,aT]
theorem MG(h1:ev Φ σ ρ a=some (.str x))(h2:ev Φ σ ρ b=some (.str y))(hl:x.length+y.length<=100000):ev Φ σ ρ (.bin .Add a b)=some (.str (x++y)):=by
 refine qp h1 h2 ?_;show(if _ then _ else _)=_;refine oa (if_pos hl) ?_;rfl
theorem oY:ev Φ σ ρ (.c (.int (n:Int)))=some (.int (n:Int)):=pX
theorem y0:ev Φ σ ρ (.c (.str x))=some (.str x.cps.toList):=by rw[MO];rfl
theorem Ac(h1:ev Φ σ ρ a=some (.int x))(h2:ev Φ σ ρ b=some (.int y)):ev Φ σ ρ (.cmp .Lt a b)=some (.bool (decide (x<y))):=qS h1 h2 rfl
theorem Fe(h1:ev Φ σ ρ a=some (.int x))(h2:ev Φ σ ρ b=some (.int y)):ev Φ σ ρ (.cmp .Eq a b)=some (.bool (decide (x=y))):=qS h1 h2 rfl
theorem tQ{a i:Ex}{l:List AV}{k:Nat}{v:AV}(h1:ev Φ σ ρ a=some (.lst l))(h2:ev Φ σ ρ i=some (.int k))(hv:l[k]?=some v)(hn:l.length<=100000):ev Φ σ ρ (.idx a i)=some v:=by
 refine yY h1 h2 ?_;show(tG (k:Int) l.length).bind _=_;refine oa (Gu (aS.mp hv).1 hn) ?_;exact hv
theorem ME{a i:Ex}{l:List Nat}{k:Nat}{c:Nat}(h1:ev Φ σ ρ a=some (.str l))(h2:ev Φ σ ρ i=some (.int k))(hv:l[k]?=some c)(hn:l.length<=100000):ev Φ σ ρ (.idx a i)=some (.str [c]):=by
 refine yY h1 h2 ?_;show(tG (k:Int) l.length).bind _=_;refine oa (Gu (aS.mp hv).1 hn) ?_;show l[k]?.map _=_;refine oa hv ?_;rfl
theorem V7(h1:ev Φ σ ρ a=some (.str [c])):ev Φ σ ρ (.call .ord (.cons a .nil))=some (.int c):=rV (q6 h1) rfl
theorem MH{a:Ex}{c:Nat}(h1:ev Φ σ ρ a=some (.int c))(h:c<=0x10FFFF):ev Φ σ ρ (.call .chr (.cons a .nil))=some (.str [c]):=by
 refine rV (q6 h1) ?_;show(if 0<=(c:Int)/\(c:Int)<=0x10FFFF then _ else _)=_;rw[if_pos ⟨az c,yG h⟩,aT]
theorem M3(h0:ρ[x]?=some (some a))(ha:a.isRef=false)(h:ev Φ σ ρ e=some b)(qk:yf op a b=true)(hr:rP σ op a b=some c)(h2:oL Φ (ρ.set x (some c)) σ ss=r):oL Φ ρ σ (.cons (.aug x op e) ss)=r:=by
 refine vd ?_ h2;rewrite [H_];refine oa h0 ?_;dsimp only;refine oa h ?_
 induction a using AV.casesOn with
 |ref=>exact nomatch ha
 |_ =>
  show(if yf op _ b=true then _ else _)=_;refine oa (if_pos qk) ?_;refine oa hr ?_;rfl
theorem Wl{Φ:rd}{ρ:oI}{σ:oH}{ss:rG}{r:Option Fl}{x:Nat}{e:Ex}{a b:Nat}(h0:ρ[x]?=some (some (.int a)))(h:ev Φ σ ρ e=some (.int b))(hb:b≠0)(hs:b<2^64)(h2:oL Φ (ρ.set x (some (.int ((a/b:Nat):Int)))) σ ss=r):oL Φ ρ σ (.cons (.aug x .FloorDiv e) ss)=r :=
 M3 h0 rfl h rfl (Nd hb hs) h2
theorem H8(h0:ρ[x]?=some (some (.str a)))(h:ev Φ σ ρ e=some (.str b))(hl:a.length+b.length<=100000)(h2:oL Φ (ρ.set x (some (.str (a++b)))) σ ss=r):oL Φ ρ σ (.cons (.aug x .Add e) ss)=r :=
 M3 h0 rfl h rfl (if_pos hl) h2
noncomputable def qw:List Nat:=[102,105,108,115,116]
noncomputable def E6:List Nat:=[8497,8464,8466,383,120139]
noncomputable def D7:List (Nat×List Nat):=[(64256,[102,102]),(64257,[102,105]),(64258,[102,108]),(64259,[102,102,105]),(64260,[102,102,108]),(64261,[115,116]),(64262,[115,116]),(223,[115,115])]
noncomputable def wn:List Nat:=[97,65,119808,119860,119912,120016,120172,120224,120276,120328,120380,120432]
noncomputable def vf:List Nat:=[173,847,6150,6155,6156,6157,8203,8204,8205,8288,65279]++bp 65024 16
noncomputable def rL(d w:Nat):Nat×List Nat :=
 if d<2 then D7.getD (w%8) (0,[])else if d<14 then(wn.getD (d-2) 0+qw.getD (w%5) 0-97,[qw.getD (w%5) 0])else(E6.getD (w%5) 0,[qw.getD (w%5) 0])
noncomputable def x8(v:Nat):List Nat:=if v=0 then[]else[vf.getD (v-1) 0]
noncomputable def xi(r:Nat):List Nat:=x8 (r/600%28)++[(rL (r%15) (r/15%40)).1]
noncomputable def uW(r:Nat):List Nat:=(rL (r%15) (r/15%40)).2
noncomputable def x9:Nat->Nat->List Nat
 |0,_=>[]
 |k+1,r=>xi r++x9 k (r/16800)
theorem whn:x9 0 x=[]:=rfl
theorem KZ:x9 (k+1) x=xi x++x9 k (x/16800):=rfl
noncomputable def v6:Nat->Nat->List Nat
 |0,_=>[]
 |k+1,r=>uW r++v6 k (r/16800)
theorem whm:v6 0 x=[]:=rfl
theorem Ep:v6 (k+1) x=uW x++v6 k (x/16800):=rfl
theorem weK:(ak 15).all (λd=>(ak 40).all λw=>decide ((rL d w).1<=0x10FFFF)&&decide ((rL d w).2.length<=3))=true:=by decide +kernel
theorem YV:vf.all (λc=>decide (c<=0x10FFFF))=true:=by decide +kernel
theorem Ks(r:Nat):(rL (r%15) (r/15%40)).1<=0x10FFFF/\(rL (r%15) (r/15%40)).2.length<=3:=by
 have h1:=aj.mp weK (r%15) (a0.mpr (bj _ (by decide)));have h2:=aj.mp h1 (r/15%40) (a0.mpr (bj _ (by decide)));rw[aO]at h2;exact⟨of_decide_eq_true h2.1,of_decide_eq_true h2.2⟩
noncomputable def KS:rG :=
 (.cons (.asgT [(8,false),(9,false),(10,false)] (.cons (.bin .Mod (.var 6) (.c (.int 15))) (.cons (.bin .Mod (.bin .FloorDiv (.var 6) (.c (.int 15))) (.c (.int 40))) (.cons (.bin .Mod (.bin .FloorDiv (.var 6) (.c (.int 600))) (.c (.int 28))) .nil))))
  (.cons (.aug 6 .FloorDiv (.c (.int 16800)))
  (.cons (.asg 11 false (.idx (.c (.str "filst")) (.bin .Mod (.var 9) (.c (.int 5)))))
  (.cons (.asg 12 false (.idx (.list (.cons (.c (.int 8497)) (.cons (.c (.int 8464)) (.cons (.c (.int 8466)) (.cons (.c (.int 383)) (.cons (.c (.int 120139)) .nil)))))) (.bin .Mod (.var 9) (.c (.int 5)))))
  (.cons (.ife (.cmp .Lt (.var 8) (.c (.int 2)))
   (.cons (.unp [12,11] (.idx (.var 1) (.bin .Mod (.var 9) (.c (.int 8)))))
   .nil)
   (.cons (.ife (.cmp .Lt (.var 8) (.c (.int 14)))
    (.cons (.asg 12 false (.bin .Sub (.bin .Add (.idx (.var 2) (.bin .Sub (.var 8) (.c (.int 2)))) (.call .ord (.cons (.var 11) .nil))) (.c (.int 97))))
    .nil)
    .nil)
   .nil))
  (.cons (.aug 4 .Add (.bin .Add (.ite (.cmp .Eq (.var 10) (.c (.int 0))) (.c (.str "")) (.call .chr (.cons (.idx (.var 3) (.bin .Sub (.var 10) (.c (.int 1)))) .nil))) (.call .chr (.cons (.var 12) .nil))))
  (.cons (.aug 5 .Add (.var 11))
  .nil)))))))
noncomputable def D8:AV:=.lst (D7.map λp=>.tup [.int p.1,.str p.2])
noncomputable def vW(l:List Nat):AV:=.lst (l.map λ(n:Nat)=>AV.int n)
noncomputable abbrev GS(h:AV)(t m:List Nat)(r:Nat)(a b c d e f:Option AV):oI:=[some h,some D8,some (vW wn),some (vW vf),some (.str t),some (.str m),some (.int r),a,b,c,d,e,f]
theorem Iy{l:List Nat}(h:k<l.length):l[k]?=some (l.getD k 0):=by
 refine oa am ?_;refine oa (au h) ?_;rfl
theorem zw{l:List Nat}(h:k<l.length):(l.map λ(n:Nat)=>AV.int n)[k]?=some (.int (l.getD k 0:Nat)):=by
 refine oa bf ?_;refine oa (Iy h) ?_;rfl
theorem wbq(k:Nat)(h:k<5):97<=qw.getD k 0:=by
 have:=aj.mp (by decide:(ak 5).all (λk=>decide (97<=qw.getD k 0))=true) k (a0.mpr h);exact of_decide_eq_true this
theorem whp(ht:t.length<=100)(hm:m.length<=100):
 ∃b' c' d' e' f',oL Φ ((GS h t m r a b c q e f).set 7 (some (.int j))) [] KS=some (.next (GS h (t++xi r) (m++uW r) (r/16800) (some (.int j)) b' c' d' e' f') []):=by
 have xL:=Ks r;have ev6:∀{ρ:oI},ρ[6]?=some (some (.int (r:Int)))->ev Φ [] ρ (.var 6)=some (.int (r:Int)):=λh=>ol h;refine JC (some (.int ((r%15:Nat):Int))) (some (.int ((r/15%40:Nat):Int))) (some (.int ((r/600%28:Nat):Int))) (some (.str (uW r))) (some (.int ((rL (r%15) (r/15%40)).1:Int))) ?_;generalize hd:r%15=d at *;generalize hw:r/15%40=w at *;generalize hv:r/600%28=v at *;have whS:v<28:=by refine rwj hv ?_;exact bj _ (by decide)
 have whJ:d<15:=by refine rwj hd ?_;exact bj _ (by decide)
 have Jt:w%5<5:=bj _ (by decide);have ZV:w%8<8:=bj _ (by decide);show oL Φ [some h,some D8,some (vW wn),some (vW vf),some (.str t),some (.str m),some (.int r),some (.int j),b,c,q,e,f] [] KS=_;have k1:∀{ρ:oI}{n:Nat},ev Φ [] ρ (.c (.int (n:Int)))=some (.int (n:Int)):=pX;refine y2 (vs:=[.int d,.int w,.int v]) (um (hd▸r_ (x:=r) (y:=15) (ol rfl) k1 (by decide)) (um (hw▸r_ (x:=r/15) (y:=40) (wi (x:=r) (y:=15) (ol rfl) k1 (by decide) (by decide)) k1 (by decide)) (um (hv▸r_ (x:=r/600) (y:=28) (wi (x:=r) (y:=600) (ol rfl) k1 (by decide) (by decide)) k1 (by decide)) yX))) rfl ?_;refine Wl (a:=r) (b:=16800) rfl k1 (by decide) (by decide) ?_;refine o0 (v:=.str [qw.getD (w%5) 0]) (ME (l:=qw) (k:=w%5) y0 (r_ (x:=w) (y:=5) (ol rfl) k1 (by decide)) (Iy Jt) (by decide)) ?_;refine o0 (v:=.int (E6.getD (w%5) 0:Nat)) (tQ (l:=E6.map λ(n:Nat)=>AV.int n) (k:=w%5) rfl (r_ (x:=w) (y:=5) (ol rfl) k1 (by decide)) (zw Jt) (by decide)) ?_;have fin:∀(c1:Nat) (o1:List Nat),c1<=0x10FFFF->o1.length<=3->oL Φ [some h,some D8,some (vW wn),some (vW vf),some (.str t),some (.str m),some (.int ((r/16800:Nat):Int)),some (.int j),some (.int d),some (.int w),some (.int v),some (.str o1),some (.int c1)] []
  (.cons (.aug 4 .Add (.bin .Add (.ite (.cmp .Eq (.var 10) (.c (.int 0))) (.c (.str "")) (.call .chr (.cons (.idx (.var 3) (.bin .Sub (.var 10) (.c (.int 1)))) .nil))) (.call .chr (.cons (.var 12) .nil)))) (.cons (.aug 5 .Add (.var 11)) .nil)) =
  some (.next [some h,some D8,some (vW wn),some (vW vf),some (.str (t++(x8 v++[c1]))),some (.str (m++o1)),some (.int ((r/16800:Nat):Int)),some (.int j),some (.int d),some (.int w),some (.int v),some (.str o1),some (.int c1)] []):=λc1 o1 Yo ho1=>by
  have ZU:(x8 v).length<=1:=by unfold x8;split<;>simp
  refine H8 (a:=t) (b:=x8 v++[c1]) rfl (MG ?_ (MH (ol rfl) Yo) (by simp;exact pG ZU rfl)) (by simp;lia) (H8 (a:=m) (b:=o1) rfl (ol rfl) (by lia) pS);by_cases hv0:v=0
  ·subst hv0;exact Br (Fe (x:=(0:Int)) (y:=0) (ol rfl) pX) y0
  ·have ZT:x8 v=[vf.getD (v-1) 0]:=by unfold x8;refine oa (if_neg hv0) ?_;rfl
   refine oa ZT ?_;have o9:v-1<vf.length:=by
    have:vf.length=27:=by decide
    rw[this];exact lG (gH hv0) (show v<28 from hv▸bj _ (by decide))
   have e1:((v:Int)-1)=((v-1:Nat):Int):=(f8 (gH hv0)).symm;have hc:vf.getD (v-1) 0<=0x10FFFF:=by
    have:=aj.mp YV (vf.getD (v-1) 0) (by refine oa am ?_;refine oa (au o9) ?_;exact dG o9);exact of_decide_eq_true this
   refine Bq (by refine oa (Fe (x:=(v:Int)) (y:=0) (ol rfl) pX) ?_;refine oa (decide_eq_false (by simp[*])) ?_;rfl) (MH (tQ (l:=vf.map λ(n:Nat)=>AV.int n) (k:=v-1) (ol rfl) (e1▸wl (ol rfl) pX) (zw o9) (by decide)) hc)
 have UX:xi r=x8 v++[(rL d w).1]:=by unfold xi;refine oa hd ?_;refine oa hw ?_;refine oa hv ?_;rfl
 have UY:uW r=(rL d w).2:=by unfold uW;refine oa hd ?_;refine oa hw ?_;rfl
 refine oa UX ?_;refine oa UY ?_;by_cases h2:d<2
 ·have hs:rL d w=D7.getD (w%8) (0,[]):=by unfold rL;refine oa (if_pos h2) ?_;rfl
  have ta:(D7.map λp=>AV.tup [.int (p.1:Nat),.str p.2])[w%8]?=some (.tup [.int ((rL d w).1:Nat),.str (rL d w).2]):=by
   refine oa bf ?_;refine oa hs ?_;refine oa am ?_;refine oa (au ZV) ?_;rfl
  refine y3 (by refine oa (Ac (x:=(d:Int)) (y:=2) (ol rfl) pX) ?_;refine oa (decide_eq_true (yG h2)) ?_;rfl) (Ah (vs:=[.int ((rL d w).1:Nat),.str (rL d w).2]) (tQ (l:=D7.map λp=>AV.tup [.int (p.1:Nat),.str p.2]) (k:=w%8) (ol rfl) (r_ (x:=w) (y:=8) (ol rfl) k1 (by decide)) ta (by decide)) rfl pS) ?_;exact fin _ _ xL.1 xL.2
 ·by_cases h14':d<14
  ·have hs:rL d w=(wn.getD (d-2) 0+qw.getD (w%5) 0-97,[qw.getD (w%5) 0]):=by unfold rL;refine oa (if_neg h2) ?_;refine oa (if_pos h14') ?_;rfl
   have o9:d-2<wn.length:=by
    have:wn.length=12:=by decide
    rw[this];exact lG (Ck h2) h14'
   have e1:((d:Int)-2)=((d-2:Nat):Int):=(f8 (Ck h2)).symm;have yr:=wbq (w%5) Jt;refine rE (by refine oa (Ac (x:=(d:Int)) (y:=2) (ol rfl) pX) ?_;refine oa (decide_eq_false λq=>h2 (dC.mp q)) ?_;rfl) (y3 (by refine oa (Ac (x:=(d:Int)) (y:=14) (ol rfl) pX) ?_;refine oa (decide_eq_true (yG h14')) ?_;rfl) (o0 (v:=.int ((rL d w).1:Nat)) ?_ pS) pS) ?_
   ·refine kL (wl (z_ (tQ (l:=wn.map λ(n:Nat)=>AV.int n) (k:=d-2) (ol rfl) (C3 (x:=d) (y:=2) (ol rfl) pX (Ck h2)) (zw o9) (by decide)) (V7 (c:=qw.getD (w%5) 0) (ol rfl))) (pX (i:=97))) ?_;refine oa hs ?_;exact congrArg (λz=>some (AV.int z)) (by show((wn.getD (d-2) 0:Nat):Int)+((qw.getD (w%5) 0:Nat):Int)-97=((wn.getD (d-2) 0+qw.getD (w%5) 0-97:Nat):Int);rw[f8 (ae yr (em _ _))];rfl)
   ·have e2:(rL d w).2=[qw.getD (w%5) 0]:=by refine oa hs ?_;rfl
    have:=fin _ _ xL.1 xL.2;rw[e2]at this ⊢;exact this
  ·have hs:rL d w=(E6.getD (w%5) 0,[qw.getD (w%5) 0]):=by unfold rL;refine oa (if_neg h2) ?_;refine oa (if_neg h14') ?_;rfl
   refine rE (by refine oa (Ac (x:=(d:Int)) (y:=2) (ol rfl) pX) ?_;refine oa (decide_eq_false λq=>h2 (dC.mp q)) ?_;rfl) (rE (by refine oa (Ac (x:=(d:Int)) (y:=14) (ol rfl) pX) ?_;refine oa (decide_eq_false λq=>h14' (dC.mp q)) ?_;rfl) pS pS) ?_;have:=fin _ _ xL.1 xL.2;rw[hs]at this ⊢;exact this
theorem wdY:∀(n a:Nat),uw (a:Int) 1 n=(bp a n).map λ(i:Nat)=>(i:Int):=by
 intro vv
 induction vv with
 |zero =>
  intro _;exact rfl
 |succ n ih =>
  intro a;rw[D5,fL,aU,<-ih (a+1)];rfl
theorem Km{a b:Nat}(h:b<=100000)(ha:a<=100000):tI (a:Int) (b:Int) 1=some ((bp a (b-a)).map λ(i:Nat)=>(i:Int)):=by
 have hs:cy (a:Int) (b:Int) 1=((b-a:Nat):Int):=by
  unfold cy;rw[if_pos (by decide)];split<;>lia
 have Az:g9 (a:Int) (b:Int) 1=true:=small_one (Int.NonNeg.mk (a+ek 4611686018427387903)) (Cm ha rfl) (Int.NonNeg.mk (b+ek 4611686018427387903)) (Cm h rfl);unfold tI;rw[if_pos ⟨by decide,by decide,Az,by rw[hs];lia⟩,hs,aT,wdY]
noncomputable abbrev oz(l:List Nat):List AV:=l.map λ(i:Nat)=>AV.int i
theorem wU{e:Ex}{n:Nat}(h:ev Φ σ ρ e=some (.int n))(hn:n<=100000):r9 Φ σ ρ (.range (.cons e .nil))=some (oz (ak n)):=by
 rewrite [CZ];refine oa (q6 h) ?_;show(tI 0 (n:Int) 1).map _=_;refine oa (show(0:Int)=((0:Nat):Int)from rfl) ?_;refine oa (Km hn (dh 100000)) ?_;refine oa fY ?_;simp[oz]
theorem HL{e f:Ex}{a n:Nat}(h0:ev Φ σ ρ f=some (.int a))(h:ev Φ σ ρ e=some (.int n))(hn:n<=100000)(ha:a<=100000):r9 Φ σ ρ (.range (.cons f (.cons e .nil)))=some (oz (bp a (n-a))):=by
 rw[CZ,rW h0 h];show(tI (a:Int) (n:Int) 1).map _=_;rw[Km hn ha];simp[oz]
theorem z9(h:r9 Φ σ ρ (.range as)=r):yk Φ ρ σ (.range as)=r:=h
theorem Fy{β:Type}{f:oI->oH->AV->Option Fl}{g:β->AV}{I:List β->oI->oH->Prop}:∀(vs pre:List β) (ρ:oI) (σ:oH),
 I pre ρ σ->(∀p x q ρ σ,pre++vs=p++x::q->I p ρ σ->∃oC ox,f ρ σ (g x)=some (.next oC ox)/\I (p++[x]) oC ox) ->
 ∃oC ox,sQ f (vs.map g) ρ σ=some (.next oC ox)/\I (pre++vs) oC ox:=by
 intro vv
 induction vv with
 |nil =>
  intro pre ρ σ h _;exact rf ρ σ rfl (by rwa [bB])
 |cons x vs ih =>
  intro pre ρ σ h hs;refine pK (hs pre x vs ρ σ rfl h) λoC ox h1 h2=>?_;refine pK (ih (pre++[x]) oC ox h2 (λp y q ρ σ e hI=>hs p y q ρ σ (by refine rwj e ?_;simp) hI)) λρ2 σ2 h3 h4=>?_;refine rf ρ2 σ2 ?_ (by simpa using h4);refine oa aU ?_;rewrite [Iq];refine oa h1 ?_;exact h3
theorem Dd{f:oI->oH->AV->Option Fl}{I:Nat->oI->oH->Prop}{n:Nat}{ρ:oI}{σ:oH}(h0:I 0 ρ σ)(hs:∀k ρ σ,k<n->I k ρ σ->∃oC ox,f ρ σ (.int k)=some (.next oC ox)/\I (k+1) oC ox):
 ∃oC ox,sQ f (oz (ak n)) ρ σ=some (.next oC ox)/\I n oC ox:=by
 have:=Fy (f:=f) (g:=λ(i:Nat)=>AV.int i) (I:=λl=>I l.length) (ak n) [] ρ σ h0 (λp x q ρ σ e hI=>by
  have e':p++x::q=ak n:=by refine rwj e ?_;rfl
  have hx:x=p.length:=by
   have h1:(ak n)[p.length]?=some x:=by refine rwj e' ?_;simp
   rw[aS]at h1;refine o6 h1 λY h1=>?_;simpa using h1.symm
  have o9:p.length<n:=by
   have:=congrArg cG e';simp at this;exact zpe this
  refine pK (hs p.length ρ σ o9 hI) λoC ox h1 h2=>?_;refine rf oC ox (by refine oa hx ?_;exact h1) (by simpa using h2))
 refine pK this λoC ox h1 h2=>?_;refine rf oC ox h1 (by simpa using h2)
theorem QA(r:Nat):(xi r).length<=2:=by
 unfold xi x8;split<;>simp
theorem YU:∀{Φ:rd}{ρ:oI},ev Φ [] ρ (.bin .Add (.list (.cons (.c (.int 173)) (.cons (.c (.int 847)) (.cons (.c (.int 6150)) (.cons (.c (.int 6155)) (.cons (.c (.int 6156)) (.cons (.c (.int 6157)) (.cons (.c (.int 8203)) (.cons (.c (.int 8204)) (.cons (.c (.int 8205)) (.cons (.c (.int 8288)) (.cons (.c (.int 65279)) .nil)))))))))))) (.call .listRange (.cons (.c (.int 65024)) (.cons (.c (.int 65040)) .nil))))=some (vW vf):=by
 intro Φ ρ;refine qp (x:=vW [173,847,6150,6155,6156,6157,8203,8204,8205,8288,65279]) (y:=vW (bp 65024 16)) rfl (rV (vs:=[.int 65024,.int 65040]) rfl ?_) rfl;show((tI ((65024:Nat):Int) ((65040:Nat):Int) 1).map λis=>AV.lst (is.map AV.int))=_;refine oa (Km (by decide) (by decide)) ?_;rfl
structure Lk where
 t:List Nat
 m:List Nat
 r:Nat
 a:Option AV
 b:Option AV
 c:Option AV
 d:Option AV
 e:Option AV
 f:Option AV
noncomputable def wR(h:AV)(x:Lk):oI:=GS h x.t x.m x.r x.a x.b x.c x.d x.e x.f
structure WI(n heap k:Nat) (x:Lk):Prop where
 h1:x.t.length<=2*k
 h2:x.m.length<=3*k
 h3:x.t++x9 (n-k) x.r=x9 n (heap/3)
 h4:x.m++v6 (n-k) x.r=v6 n (heap/3)
theorem WI.next(H:WI n heap k x)(hk:k<n):WI n heap (k+1) ⟨x.t++xi x.r,x.m++uW x.r,x.r/16800,a,b,c,d,e,f⟩ where
 h1:=by
  have:=QA x.r;have:=H.h1;show(x.t++xi x.r).length<=_;refine oa aq ?_;lia
 h2:=by
  have:(uW x.r).length<=3:=(Ks x.r).2;have:=H.h2;show(x.m++uW x.r).length<=_;refine oa aq ?_;lia
 h3:=by
  have e:=H.h3;rw[show n-k=(n-(k+1))+1 from Ew hk,KZ,<-ch]at e;exact e
 h4:=by
  have e:=H.h4;rw[show n-k=(n-(k+1))+1 from Ew hk,Ep,<-ch]at e;exact e
theorem who{Φ:rd}{heap n:Nat}(hn:n<=3):∃oC ox,sQ (λρ σ v=>oL Φ (ρ.set 7 (some v)) σ KS) (oz (ak n)) (GS (.int heap) [] [] (heap/3) none none none none none none) []=some (.next oC ox)/\∃x,(oC=wR (.int heap) x/\ox=[])/\WI n heap n x:=by
 refine Dd (I:=λk ρ σ=>∃x,(ρ=wR (.int heap) x/\σ=[])/\WI n heap k x) ⟨⟨[],[],heap/3,none,none,none,none,none,none⟩,⟨rfl,rfl⟩,by simp,by simp,rfl,rfl⟩ λk ρ σ hk h=>?_;refine oB h λx z1 H=>?_;obtain⟨rfl,rfl⟩:=z1;have h1:=H.h1;have h2:=H.h2;refine Fo (whp (Φ:=Φ) (h:=.int heap) (t:=x.t) (m:=x.m) (r:=x.r) (j:=k) (a:=x.a) (b:=x.b) (c:=x.c) (q:=x.d) (e:=x.e) (f:=x.f) (by lia) (by lia)) λb' c' d' e' f' hw=>?_;exact⟨_,_,hw,_,⟨rfl,rfl⟩,H.next hk⟩
theorem WE{N:Nat}(heap:Nat):Fi (N+1) 13 [.int heap]=some (.tup [.str (x9 (1+heap%3) (heap/3)),.str (v6 (1+heap%3) (heap/3))]):=by
 refine tl Xi rfl ?_;show oL (Fi N) ([some (.int heap)]++aA 12 none) [] M_.body=_;have hn:heap%3<3:=bj _ (by decide);have en:∀{ρ:oI},ρ[0]?=some (some (.int heap))->ev (Fi N) [] ρ (.bin .Add (.c (.int 1)) (.bin .Mod (.var 0) (.c (.int 3))))=some (.int ((1+heap%3:Nat):Int)):=λh=>by
  refine oa (dw _ _) ?_;exact z_ pX (r_ (x:=heap) (y:=3) (ol h) oY (by decide))
 have ln:1+heap%3<=3:=by lia
 clear hn;generalize 1+heap%3=n at *;refine o0 (v:=D8) rfl (o0 (v:=vW wn) rfl (o0 (v:=vW vf) YU ?_));refine y2 (vs:=[.str [],.str [],.int ((heap/3:Nat):Int)]) (um rfl (um rfl (um (wi (x:=heap) (y:=3) (ol rfl) oY (by decide) (by decide)) yX))) rfl ?_;obtain⟨oC,ox,h1,x,⟨rfl,rfl⟩,H⟩:=who (Φ:=Fi N) (heap:=heap) ln;refine xJ (vs:=oz (ak n)) (z9 (wU (en rfl) (pG ln rfl))) h1 ((sd (v:=.tup [.str x.t,.str x.m]) rfl rfl).trans ?_);have ht:=H.h3;have hm:=H.h4;rw[ci,whn,bB]at ht;rw[ci,whm,bB]at hm;refine oa ht ?_;refine oa hm ?_;rfl
noncomputable def B':AV:=.lst (qK.map λp=>.str p.1)
theorem wfb:CQ [.str (cM "( ) [ ] : , ; + - * / | & < > = . % { } == != <= >= ~ ^ << >> ** += -= *= /= %= &= |= ^= <<= >>= **= // //= @ @= -> ... := !").cps.toList]=some B':=by kernel_rfl
theorem weM{Φ:rd}{ρ:oI}:ev Φ [] ρ (.call .split (.cons (.c (.str "( ) [ ] : , ; + - * / | & < > = . % { } == != <= >= ~ ^ << >> ** += -= *= /= %= &= |= ^= <<= >>= **= // //= @ @= -> ... := !")) .nil))=some B':=rV (q6 y0) wfb
noncomputable def vn(c:Nat):Nat:=if c=102 then 0 else if c=105 then 1 else if c=108 then 2 else if c=115 then 3 else 4
theorem waf:∀c∈qw,zV [] [.str qw,.str [c]]=some (.int (vn c)):=by
 intro c hc;have:c=102\/c=105\/c=108\/c=115\/c=116:=by simpa [qw]using hc
 rcases this with rfl|rfl|rfl|rfl|rfl<;>kernel_rfl
theorem WX:∀c∈qw,yR [.str qw,.str [c]]=some (.int (vn c)):=by
 intro c hc;have:c=102\/c=105\/c=108\/c=115\/c=116:=by simpa [qw]using hc
 rcases this with rfl|rfl|rfl|rfl|rfl<;>kernel_rfl
theorem weJ:(ak 15).all (λd=>(ak 40).all λw=>(rL d w).2.all (λc=>qw.contains c))=true:=by decide +kernel
theorem Qz(r:Nat):∀c∈uW r,c∈qw:=by
 have h1:=aj.mp weJ (r%15) (a0.mpr (bj _ (by decide)));have h2:=aj.mp h1 (r/15%40) (a0.mpr (bj _ (by decide)));intro c hc;have:=aj.mp h2 c hc;simpa using this
theorem KX:∀k r,∀c∈v6 k r,c∈qw
 |0,_=>λY h=>nomatch h
 |k+1,r=>by
  intro c hc;rw[Ep,aW]at hc;rcases hc with hc|hc
  ·exact Qz r c hc
  ·exact KX k _ c hc
theorem KW:∀k r,(v6 k r).length<=3*k
 |0,_=>dh _
 |k+1,r=>by
  have h1:=KW k (r/16800);have h2:(uW r).length<=3:=(Ks r).2;rw[Ep,aq];lia
theorem KY:∀k r,(x9 k r).length<=2*k
 |0,_=>dh _
 |k+1,r=>by
  have h1:=KY k (r/16800);have h2:=QA r;rw[KZ,aq];lia
section
variable (hs:List Nat)
noncomputable def pW(i:Nat):List Nat:=x9 (1+hs.getD i 0%3) (hs.getD i 0/3)
noncomputable def pM(i:Nat):List Nat:=v6 (1+hs.getD i 0%3) (hs.getD i 0/3)
noncomputable def pO(i:Nat):Nat:=hs.getD 5 0/48^i%48
noncomputable def uR(w:Nat):List Nat:=(qK.getD w ([],0)).1
noncomputable def uV(i:Nat):List Nat:=pW hs i++if i<4 then uR (pO hs i)else[]
noncomputable def vZ(i:Nat):List Nat:=(pM hs i).map (λc=>256+vn c)++[if i<4 then 7+pO hs i else 0]
noncomputable def uS:List Nat:=(ak 5).flatMap (uV hs)
noncomputable def rK:List Nat:=(ak 5).flatMap (vZ hs)
end
theorem Wm{Φ:rd}{ρ:oI}{σ:oH}{ss:rG}{r:Option Fl}{x i:Nat}{e:Ex}{a b:List AV}(h0:ρ[x]?=some (some (.ref i)))(hi:σ[i]?=some (.list a))(h:ev Φ σ ρ e=some (.lst b))(hl:a.length+b.length<=100000)(h2:oL Φ ρ (σ.set i (.list (a++b))) ss=r):oL Φ ρ σ (.cons (.aug x .Add e) ss)=r:=by
 refine vd ?_ h2;rw[H_,h0];dsimp only;rw[h];dsimp only;rw[hi];exact if_pos hl
section
variable {Φ:rd}{ρ oC:oI}{σ ox:oH}
theorem wk{a b:Ex}{x y:Nat}(h1:ev Φ σ ρ a=some (.int x))(h2:ev Φ σ ρ b=some (.int y))(hs:x<2^64)(hy:y<=1000):ev Φ σ ρ (.bin .Pow a b)=some (.int ((x^y:Nat):Int)):=by
 refine oa (dO _ _) ?_;exact V8 h1 h2 (by unfold small;refine oa (bl _) ?_;exact decide_eq_true hs) hy
theorem vc{a b:Ex}{x y:Nat}(h1:ev Φ σ ρ a=some (.int x))(h2:ev Φ σ ρ b=some (.int y)):ev Φ σ ρ (.bin .Add a b)=some (.int ((x+y:Nat):Int)):=by
 refine oa (dw _ _) ?_;exact z_ h1 h2
theorem yZ{a b:Ex}{x y:Nat}(h1:ev Φ σ ρ a=some (.int x))(h2:ev Φ σ ρ b=some (.int y))(hs:x<2^64\/y<2^64):ev Φ σ ρ (.bin .Mult a b)=some (.int ((x*y:Nat):Int)):=by
 refine oa (cU _ _) ?_;refine Fg h1 h2 ?_;unfold small;refine oa (bl _) ?_;refine oa (bl _) ?_;simpa using hs
theorem C1{a b:Ex}{x y:List AV}(h1:ev Φ σ ρ a=some (.lst x))(h2:ev Φ σ ρ b=some (.lst y))(hl:x.length+y.length<=100000):ev Φ σ ρ (.bin .Add a b)=some (.lst (x++y)):=by
 refine qp h1 h2 ?_;show(if _ then _ else _)=_;refine oa (if_pos hl) ?_;rfl
theorem Bs{a b:Ex}{x y:Nat}(h1:ev Φ σ ρ a=some (.int x))(h2:ev Φ σ ρ b=some (.int y)):ev Φ σ ρ (.cmp .Lt a b)=some (.bool (decide (x<y))):=by
 refine oa (Ac h1 h2) ?_;exact congrArg (λb=>some (AV.bool b)) (decide_eq_decide.mpr (by simp))
theorem Bp{a b:Ex}{x y:Nat}(h1:ev Φ σ ρ a=some (.int x))(h2:ev Φ σ ρ b=some (.int y)):ev Φ σ ρ (.cmp .Eq a b)=some (.bool (decide (x=y))):=by
 refine oa (Fe h1 h2) ?_;exact congrArg (λb=>some (AV.bool b)) (decide_eq_decide.mpr (Rm))
end
theorem wdd(w:Nat)(h:w<48):(qK.map λp=>AV.str p.1)[w]?=some (.str (uR w)):=by
 have hl:w<qK.length:=h;refine oa bf ?_;refine oa (au hl) ?_;unfold uR;refine oa am ?_;refine oa (au hl) ?_;rfl
theorem Df(k:Nat)(σ:oH):∀l:List Nat,pq (o8 σ (k+1)) (oz l)=some (oz l):=by
 intro vv
 induction vv with
 |nil =>
  exact rfl
 |cons a l ih =>
  show pq (o8 σ (k+1)) (AV.int (a:Nat)::oz l)=_;rw[uv];have:o8 σ (k+1) (.int (a:Nat))=some (.int (a:Nat)):=rfl;refine oa this ?_;simp only[ih];rfl
theorem Qa:∀w,w<48->(uR w).length<=3:=by decide +kernel
theorem WF{N:Nat}(hs:List Nat)(hl:hs.length=8):Fi (N+2) 14 [.lst (oz hs)]=some (.tup [.str (uS hs),.lst (oz (rK hs))]):=by
 refine tl Xj rfl ?_;show oL (Fi (N+1)) ([some (.lst (oz hs))]++aA 7 none) [] Ic.body=_;refine o0 (v:=B') weM (y2 (vs:=[.str [],.ref 0]) (ox:=[.list []]) (um rfl (HN rfl yX)) rfl ?_);have lp:=Dd (f:=λρ σ v=>oL (Fi (N+1)) (ρ.set 4 (some v)) σ (match Ic.body with | .cons _ (.cons _ (.cons (.for_ _ _ b) _))=>b|_=>.nil)) (n:=5) (ρ:=[some (.lst (oz hs)),some B',some (.str []),some (.ref 0),none,none,none,none]) (σ:=[.list []])
  (I:=λk ρ σ=>∃a b c d,ρ=[some (.lst (oz hs)),some B',some (.str ((ak k).flatMap (uV hs))),some (.ref 0),a,b,c,d]/\σ=[.list (oz ((ak k).flatMap (vZ hs)))]/\((ak k).flatMap (uV hs)).length<=9*k/\((ak k).flatMap (vZ hs)).length<=10*k)
  ⟨none,none,none,none,rfl,rfl,by simp,by simp⟩ ?_
 ·obtain⟨oC,ox,h1,a,b,c,d,rfl,rfl,_,_⟩:=lp;refine xJ (vs:=oz (ak 5)) (z9 (wU oY (em 5 99995))) h1 ?_;refine sd (v:=.tup [.str (uS hs),.ref 0]) rfl ?_;have:=Df 3 [.list (oz (rK hs))] (rK hs);show(pq (o8 _ 5) [.str (uS hs),.ref 0]).map AV.tup=_;have e1:o8 [.list (oz (rK hs))] 5 (.str (uS hs))=some (.str (uS hs)):=rfl;have e2:o8 [.list (oz (rK hs))] 5 (.ref 0)=some (.lst (oz (rK hs))):=by
   rw[Iv];show(pq _ _).map AV.lst=_;rw[this];rfl
  show bJ AV.tup (pq (o8 [.list (oz (rK hs))] 5) [.str (uS hs),.ref 0])=_;rw[uv,e1];dsimp only;rw[uv,e2];rfl
 ·rintro k ρ σ hk ⟨a,b,c,d,rfl,rfl,h1,h2⟩;have ta:∀i,i<8->(oz hs)[i]?=some (.int (hs.getD i 0:Nat)):=λi hi=>zw (by simp[*]);have Ot:(oz hs).length<=100000:=by simp[oz];simp[*]
  have OW:=KY (1+hs.getD k 0%3) (hs.getD k 0/3);have hml:=KW (1+hs.getD k 0%3) (hs.getD k 0/3);have hm3:hs.getD k 0%3<3:=bj _ (by decide);have ho:pO hs k<48:=bj _ (by decide);have hol:=Qa _ ho;have qU:(uV hs k).length<=9:=by
   have:(pW hs k).length<=6:=by unfold pW;lia
   unfold uV;rw[aq];split
   ·lia
   ·show(pW hs k).length+0<=9;exact pG this rfl
  have Az:(vZ hs k).length<=10:=by
   have:(pM hs k).length<=9:=by unfold pM;lia
   unfold vZ;rw[aq,ac,cZ];exact K2 this rfl
  refine⟨_,_,?_,some (.int k),some (.str (pW hs k)),some (.str (pM hs k)),some (.int (pO hs k:Nat)),rfl,rfl,?_,?_⟩
  ·refine Ah (vs:=[.str (pW hs k),.str (pM hs k)]) (qT (vs:=[.int (hs.getD k 0:Nat)]) (q6 (tQ (l:=oz hs) (k:=k) (ol rfl) (ol rfl) (ta k (pG hk rfl)) Ot)) rfl (WE _)) rfl ?_;refine o0 (v:=.int (pO hs k:Nat)) (r_ (y:=48) (wi (y:=48^k) (tQ (l:=oz hs) (k:=5) (ol rfl) oY (ta 5 (pG dL rfl)) Ot) (wk oY (ol rfl) (by decide) (Rr hk rfl)) (by simp) ?_) oY (by decide)) ?_
   ·exact aM (aD (by decide) (show k<=4 from cP hk)) (by decide)
   refine H8 (a:=(ak k).flatMap (uV hs)) (b:=uV hs k) rfl (MG (ol rfl) ?_ ?_) (by lia) ?_
   ·by_cases h4:k<4
    ·refine Br ((Bs (x:=k) (y:=4) (ol rfl) oY).trans (by rw[decide_eq_true h4])) ?_;rw[if_pos h4];exact tQ (l:=qK.map λp=>AV.str p.1) (k:=pO hs k) (ol rfl) (ol rfl) (wdd _ ho) (by decide)
    ·refine Bq ((Bs (x:=k) (y:=4) (ol rfl) oY).trans (by rw[decide_eq_false h4])) ?_;rw[if_neg h4];exact y0
   ·have:=qU;unfold uV at this;rw[aq]at this;exact pG this rfl
   refine Wm (i:=0) (a:=oz ((ak k).flatMap (vZ hs))) (b:=oz (vZ hs k)) rfl rfl ?_ (by rw[ac,ac];lia) ?_
   ·have hc:∀v∈((pM hs k).map λc=>AV.str [c]),ev (Fi (N+1)) [.list (oz ((ak k).flatMap (vZ hs)))] ([some (.lst (oz hs)),some B',some (.str ((ak k).flatMap (uV hs)++uV hs k)),some (.ref 0),some (.int k),some (.str (pW hs k)),some (.str (pM hs k)),some (.int (pO hs k:Nat))]++[some v]) (.bin .Add (.c (.int 256)) (.call .index (.cons (.c (.str "filst")) (.cons (.var 8) .nil))))=some ((λv=>match v with | .str (c::_)=>AV.int ((256+vn c:Nat))|v=>v) v):=by
     intro v hv;refine oB (aE.mp hv) ?_;rintro c hc rfl;have hcl:=KX _ _ c hc;exact vc (x:=256) (y:=vn c) oY (rV (vs:=[.str qw,.str [c]]) (rW y0 (ol rfl)) (waf c hcl))
    refine(C1 (x:=oz ((pM hs k).map λc=>256+vn c)) (y:=oz [if k<4 then 7+pO hs k else 0]) ?_ ?_ ?_).trans ?_
    ·refine(Ab (x:=8) (vs:=(pM hs k).map λc=>AV.str [c]) rfl rfl ?_ hc).trans ?_
     ·have:(pM hs k).length<=9:=by unfold pM;lia
      rw[ac];exact pG this rfl
     ·rw[a_];unfold oz;rw[a_];rfl
    ·refine C2 (q6 ?_) (show 1<=100000 by decide);by_cases h4:k<4
     ·refine Br ((Bs (x:=k) (y:=4) (ol rfl) oY).trans (by rw[decide_eq_true h4])) ?_;rw[if_pos h4];exact vc (x:=7) oY (ol rfl)
     ·refine Bq ((Bs (x:=k) (y:=4) (ol rfl) oY).trans (by rw[decide_eq_false h4])) ?_;rw[if_neg h4];exact oY
    ·have:=Az;unfold vZ at this;rw[aq,ac,cZ]at this;show(oz _).length+(oz _).length<=_;rw[ac,ac,ac];show _+1<=_;exact pG this rfl
    ·unfold vZ oz;rw[bo]
   refine pS.trans ?_;rw[cA,cR,cR,fA,fA];unfold oz;rw[bo];rfl
  ·rw[cA,cR,aq,fA];lia
  ·rw[cA,cR,aq,fA];lia
noncomputable def tP(T:List Nat):List Nat:=(T.filter λ(c:Nat)=>!rJ (c:Int)).flatMap u6
theorem E5(a b:List Nat):tP (a++b)=tP a++tP b:=by
 unfold tP;rw[gB,cR]
theorem TN:((ak 15).all (λd=>(ak (if d<2 then 8 else 5)).all λw=>tP [(rL d w).1]==(rL d w).2)&&(ak 28).all (λv=>tP (x8 v)==[]))=true:=by decide +kernel
theorem TL:∀w,w<48->tP (uR w)=uR w:=by decide +kernel
theorem TM(r:Nat):tP (xi r)=uW r:=by
 have h:=TN;rw[aO]at h;have h1:=aj.mp h.1 (r%15) (a0.mpr (bj _ (by decide)));have e:∀d w,rL d w=rL d (w%(if d<2 then 8 else 5)):=λd w=>by
  unfold rL;by_cases hd:d<2
  ·rw[if_pos hd,if_pos hd,if_pos hd,Nat.mod_mod]
  ·rw[if_neg hd,if_neg hd,if_neg hd,Nat.mod_mod]
 have h2:=aj.mp h1 (r/15%40%(if r%15<2 then 8 else 5)) (a0.mpr (bj _ (by split<;>decide)));rw[<-e]at h2;have h3:=aj.mp h.2 (r/600%28) (a0.mpr (bj _ (by decide)));unfold xi uW;rw[E5,eq_of_beq h2,eq_of_beq h3,cS]
theorem TO:∀k r,tP (x9 k r)=v6 k r:=by
 intro vv
 induction vv with
 |zero =>
  intro _;exact rfl
 |succ k ih =>
  intro r;rw[KZ,Ep,E5,TM,ih]
noncomputable def BU(l:List Nat):List (List Nat×Nat):=l.map λc=>([c],256+vn c)
noncomputable def Ec(L:List Nat):Nat:=if(qK.lookup (L.take 3)).isSome then 3 else if(qK.lookup (L.take 2)).isSome then 2 else 1
noncomputable def wa:List (List Nat×Nat)->Prop
 | []=>True
 |x::xs=>x.1≠[]/\Ec (x.1++xs.flatMap (·.1))=x.1.length/\x.1.length<=3/\(match qK.lookup x.1 with|some k=>k=x.2|none=>yR [.str qw,.str x.1]=some (.int ((x.2:Int)-256)))/\wa xs
theorem wgg:qK.all (λp=>p.1.all λc=>!qw.contains c)=true:=by decide +kernel
theorem BW(hc:c∈l)(hl:c∈qw):qK.lookup l=none:=by
 rw[kT];intro p hp;rw[bne_iff_ne];rintro rfl;have:=aj.mp (aj.mp wgg p hp) c hc;simp[hl]at this
theorem NL(h:wa oG):∀l:List Nat,(∀c∈l,c∈qw)->wa (BU l++oG):=by
 intro vv
 induction vv with
 |nil =>
  intro _;exact h
 |cons c l ih =>
  intro hl;have hc:=hl c (by simp);have sr:=ih (λc hc=>hl c (by simp[hc]));refine⟨by simp,?_,by simp,?_,sr⟩
  ·unfold Ec;refine oa (BW (c:=c) (by simp) hc) ?_;refine oa (BW (c:=c) (by simp) hc) ?_;rfl
  ·refine oa (BW (c:=c) (by simp) hc) ?_;show yR [.str qw,.str [c]]=_;refine oa (WX c hc) ?_;exact congrArg (λz=>some (AV.int z)) (by show(vn c:Int)=((256+vn c:Nat):Int)-256;lia)
theorem wde:∀w,w<48->uR w≠[]/\(uR w).length<=3/\qK.lookup (uR w)=some ((7+w:Nat):Int):=by decide +kernel
theorem XU(hw:w<48)(h:wa oG)(hr:oG.flatMap (·.1)=c::l)(hc:c∈qw):wa ((uR w,7+w)::oG):=by
 refine tR (wde w hw) λh1 h2 h3=>?_;refine⟨h1,?_,h2,by show(match qK.lookup (uR w)with|some k=>k=((7+w:Nat):Int)|none=>_);refine oa h3 ?_;rfl,h⟩;show Ec (uR w++oG.flatMap (·.1))=(uR w).length;refine oa hr ?_;generalize uR w=o at *;have sR:∀k,o.length<k->c∈(o++c::l).take k:=λk hk=>by
  refine oa List.take_append ?_;rw[aW];right;have:k-o.length=(k-o.length-1)+1:=Ew hk;refine oa this ?_;refine oa List.take_succ_cons ?_;simp
 have F3:(o++c::l).take o.length=o:=by rw[jK];rfl
 unfold Ec;have h0:o.length≠0:=λe=>h1 (bC.mp e);have:o.length=1\/o.length=2\/o.length=3:=why (gH h0) h2;rcases this with e|e|e
 ·refine oa (BW (sR 3 (by simp[*])) hc) ?_;refine oa (BW (sR 2 (Rk e dL)) hc) ?_;simp[e]
 ·refine oa (BW (sR 3 (Rk e dL)) hc) ?_;rw[e]at F3;refine oa F3 ?_;refine oa h3 ?_;refine oa e ?_;rfl
 ·rw[e]at F3;refine oa F3 ?_;refine oa h3 ?_;refine oa e ?_;rfl
section
variable (hs:List Nat)
noncomputable def tB(i:Nat):List (List Nat×Nat):=BU (pM hs i)++if i<4 then[(uR (pO hs i),7+pO hs i)]else[]
noncomputable def items:List (List Nat×Nat):=(ak 5).flatMap (tB hs)
end
theorem weL:(ak 15).all (λd=>(ak 40).all λw=>(rL d w).2 != [])=true:=by decide +kernel
theorem Rf(k r:Nat):∃c l,v6 (k+1) r=c::l/\c∈qw:=by
 have h1:=aj.mp weL (r%15) (a0.mpr (bj _ (by decide)));have h2:=aj.mp h1 (r/15%40) (a0.mpr (bj _ (by decide)));have h3:uW r≠[]:=by unfold uW;simpa using h2
 refine sb (List.exists_cons_of_ne_nil h3) λc l e=>?_;refine rf c (l++v6 k (r/16800)) (by rewrite [Ep];refine oa e ?_;rfl) (Qz r c (by refine oa e ?_;simp))
theorem JN(l:List Nat):(BU l).flatMap (·.1)=l:=by
 induction l with
 |nil=>rfl
 |cons a l ih =>
  show[a]++(BU l).flatMap (·.1)=_;refine oa ih ?_;rfl
theorem NK(hs:List Nat):wa (items hs):=by
 have hM:∀i,∃c l,pM hs i=c::l/\c∈qw:=λi=>by
  unfold pM;refine oa (dc _ _) ?_;exact Rf _ _
 have ho:∀i,pO hs i<48:=λi=>bj _ (by decide);have Ax:∀i,∀c∈pM hs i,c∈qw:=λi=>KX _ _;have step:∀i oG,i<4->wa oG->(∃c l,oG.flatMap (·.1)=c::l/\c∈qw)->wa (tB hs i++oG)/\∃c l,(tB hs i++oG).flatMap (·.1)=c::l/\c∈qw:=by
  rintro i oG hi hg ⟨c,l,e,hc⟩;unfold tB;refine oa (if_pos hi) ?_;rw[ch];refine⟨NL (XU (ho i) hg e hc) _ (Ax i),?_⟩;refine pK (hM i) λc' l' e' uu=>?_;refine oa cR ?_;refine oa (JN _) ?_;refine oa e' ?_;exact rf c' _ rfl uu
 have xX:wa (tB hs 4)/\∃c l,(tB hs 4).flatMap (·.1)=c::l/\c∈qw:=by
  unfold tB;refine oa (if_neg (by decide)) ?_;refine⟨NL (oG:=[]) trivial _ (Ax 4),?_⟩;refine oa (bB _) ?_;refine oa (JN _) ?_;exact hM 4
 have h3:=step 3 _ (by decide) xX.1 xX.2;have h2:=step 2 _ (by decide) h3.1 h3.2;have h1:=step 1 _ (by decide) h2.1 h2.2;have h0:=step 0 _ (by decide) h1.1 h1.2;have:items hs=tB hs 0++(tB hs 1++(tB hs 2++(tB hs 3++tB hs 4))):=by
  unfold items;refine oa (show ak 5=[0,1,2,3,4]from rfl) ?_;simp[b0]
 refine oa this ?_;exact h0.1
theorem JJ(hs:List Nat):(items hs).flatMap (·.1)=tP (uS hs):=by
 have ho:∀i,pO hs i<48:=λi=>bj _ (by decide);have:∀i,(tB hs i).flatMap (·.1)=tP (uV hs i):=λi=>by
  unfold tB uV pW;rw[cR,JN,E5,TO];split
  ·rw[TL _ (ho i)];simp[pM]
  ·simp[pM,tP]
 have h2:∀l:List Nat,(l.flatMap (tB hs)).flatMap (·.1)=tP (l.flatMap (uV hs)):=λl=>by
  induction l with
  |nil=>rfl
  |cons a l ih=>rw[b0,b0,cR,E5,ih,this]
 exact h2 _
theorem Po(hs:List Nat):(items hs).map (·.2)++[0]=rK hs:=by
 have e:∀i,(tB hs i).map (·.2)=(pM hs i).map (λc=>256+vn c)++if i<4 then[7+pO hs i]else[]:=λi=>by
  unfold tB BU;refine oa bo ?_;refine oa a_ ?_
  congr 1
  split<;>rfl
 unfold items rK;refine oa (show ak 5=[0,1,2,3,4]from rfl) ?_;simp[b0,e,vZ]
theorem DP(hs:List Nat):(items hs).length<=99:=by
 have hm:∀i,(pM hs i).length<=9:=λi=>by
  have h1:=KW (1+hs.getD i 0%3) (hs.getD i 0/3);have h2:hs.getD i 0%3<3:=bj _ (by decide);unfold pM;lia
 have h:∀i,(tB hs i).length<=10:=λi=>by
  have:=hm i;unfold tB BU;refine oa aq ?_;refine oa (ac _) ?_;split
  ·show _+1<=10;exact K2 (hm i) rfl
  ·show _+0<=10;exact eY (hm i)
 unfold items;refine oa (show ak 5=[0,1,2,3,4]from rfl) ?_;have:=h 0;have:=h 1;have:=h 2;have:=h 3;have:=h 4;simp[b0]
 lia
theorem wfX(h:ev Φ σ ρ (.comp n gs)=some (.lst vs)):AP Φ ρ σ (.comp n gs)=some (.ref σ.length,σ++[.list vs]):=by
 replace h:(tr Φ σ ρ n gs).map AV.lst=some (.lst vs):=h;show(match tr Φ σ ρ n gs with|some vs=>some (AV.ref σ.length,σ++[AO.list vs])|none=>none)=_
 induction e:tr Φ σ ρ n gs using aa with
 |none=>rw[e]at h;exact oq h
 |some us=>rw[e]at h;refine oa (AV.lst.inj (ag h)) ?_;rfl
theorem MM{a e:Ex}{k:Nat}{x:List Nat}(h1:ev Φ σ ρ a=some (.str x))(h2:ev Φ σ ρ e=some (.int k))(hl:x.length<=100000):ev Φ σ ρ (.slice a .none (.some e))=some (.str (x.take k)):=by
 rw[Bt,h1];dsimp only;rw[Mz];dsimp only;rw[Bn,h2];dsimp only;show(if 0<=(k:Int)then yA σ (λl=>l.take (k:Int).toNat) (.str x)else none)=_;rw[if_pos (az k),aT];show(if _ then _ else _)=_;rw[if_pos hl]
theorem V9{a e:Ex}{k:Nat}{x:List Nat}(h1:ev Φ σ ρ a=some (.str x))(h2:ev Φ σ ρ e=some (.int k))(hl:x.length<=100000):ev Φ σ ρ (.slice a (.some e) .none)=some (.str (x.drop k)):=by
 have hn:tw Φ σ ρ .none=some none:=rfl;have hs:tw Φ σ ρ (.some e)=some (some (k:Int)):=by rw[Bn,h2]
 rw[Bt,h1];simp only[hn,hs];show(if 0<=(k:Int)then yA σ (λl=>l.drop (k:Int).toNat) (.str x)else none)=_;rw[if_pos (az k),aT];show(if _ then _ else _)=_;rw[if_pos hl]
theorem VX(h1:ev Φ σ ρ a=some (.bool x))(h2:ev Φ σ ρ b=some (.bool y)):ev Φ σ ρ (.and (.cons a (.cons b .nil)))=some (.bool (x&&y)):=by
 rewrite [Fk,xE];refine oa h1 ?_;cases x
 ·rfl
 ·dsimp only;rewrite [xE];refine oa h2 ?_;cases y
  ·rfl
  ·dsimp only;rw[z8];rfl
theorem xD(h1:ev Φ σ ρ a=some (.bool x)):qZ Φ σ ρ (.cons a .nil)=some x:=by
 rw[xE,h1];cases x
 ·rfl
 ·dsimp only;rw[z8]
theorem wfq:∀l:List (List Nat),uX (l.map AV.str)=some l:=by
 intro vv
 induction vv with
 |nil =>
  exact rfl
 |cons a l ih =>
  rw[aU,wfs,ih];rfl
theorem wec(T:List Nat):(ak T.length).map (λi=>T.getD i 0)=T:=by
 refine hU (by simp) λi h1 h2=>?_;rw[dT,gA,am,au h2];rfl
theorem Hw(T:List Nat):((((ak T.length).filter λi=>!rJ (T.getD i 0:Nat)).map λi=>u6 (T.getD i 0)).flatten)=tP T:=by
 unfold tP;have:T.filter (λ(c:Nat)=>!rJ (c:Int))=((ak T.length).filter λi=>!rJ (T.getD i 0:Nat)).map λi=>T.getD i 0:=by
  have h:=ej (f:=λi=>T.getD i 0) (p:=λ(c:Nat)=>!rJ (c:Int)) (l:=ak T.length);rw[wec]at h;exact h
 refine oa this ?_;refine oa List.flatMap_def ?_;refine oa a_ ?_;rfl
noncomputable def Qq:rG :=
 (.cons (.asg 4 false (.call .max (.cons (.bin .Add (.list (.cons (.c (.int 1)) .nil)) (.comp 1 (.cons 5 (.val (.tup (.cons (.c (.int 2)) (.cons (.c (.int 3)) .nil)))) (.cons (.cmp .In (.slice (.var 2) .none (.some (.var 5))) (.glob .tok)) .nil) (.done (.var 5))))) .nil)))
  (.cons (.app (.var 3) (.call .get (.cons (.glob .tok) (.cons (.slice (.var 2) .none (.some (.var 4))) (.cons (.bin .Add (.c (.int 256)) (.call .find (.cons (.c (.str "filst")) (.cons (.slice (.var 2) .none (.some (.var 4))) .nil)))) .nil)))))
  (.cons (.asg 2 false (.slice (.var 2) (.some (.var 4)) .none))
  .nil)))
theorem wee{Φ:rd}{a b u:Option AV}{L:List Nat}{row:List AV}{x:List Nat×Nat}{xs:List (List Nat×Nat)}(hL:L=x.1++xs.flatMap (·.1))(hg:wa (x::xs))(hr:row.length<=1000)(hl:L.length<=1000):
 ∃u',oL Φ [a,b,some (.str L),some (.ref 0),u] [.list row] Qq=some (.next [a,b,some (.str (xs.flatMap (·.1))),some (.ref 0),u'] [.list (row++[.int (x.2:Nat)])]):=by
 refine MW hg λg1 g2 g3 g4 g5=>?_;rw[<-hL]at g2;have vU:L.take x.1.length=x.1:=by refine oa hL ?_;exact jK rfl
 have YA:L.drop x.1.length=xs.flatMap (·.1):=by refine oa hL ?_;exact List.drop_left' rfl
 refine⟨some (.int (x.1.length:Nat)),?_⟩;refine o0 (v:=.int (x.1.length:Nat)) ?_ ?_
 ·have hc:ev Φ [.list row] [a,b,some (.str L),some (.ref 0),u] (.comp 1 (.cons 5 (.val (.tup (.cons (.c (.int 2)) (.cons (.c (.int 3)) .nil)))) (.cons (.cmp .In (.slice (.var 2) .none (.some (.var 5))) (.glob .tok)) .nil) (.done (.var 5))))=some (.lst (oz ([2,3].filter λk=>(qK.lookup (L.take k)).isSome))):=by
   refine(Aa (x:=5) (vs:=oz [2,3]) (p:=λv=>match v with | .int k=>(qK.lookup (L.take k.toNat)).isSome|_=>false) (g:=id) rfl rfl (by decide) (λv hv=>?_) (λv hv Y=>?_)).trans ?_
   ·refine oB (aE.mp hv) ?_;rintro k hk rfl;refine xD (qS (x:=.str (L.take k)) (y:=.tok) (MM (ol rfl) (ol rfl) (pG hl rfl)) rfl ?_);rfl
   ·rfl
   ·show some (AV.lst (jk id (oh _ (oz [2,3]))))=_;refine oa (dY _) ?_;unfold oz;refine oa ej ?_;rfl
  refine rV (q6 (C1 (x:=oz [1]) rfl hc ?_)) ?_
  ·show 1+_<=100000;unfold oz;refine oa (ac _) ?_;have:([2,3].filter λk=>(qK.lookup (L.take k)).isSome).length<=2:=fJ _ _
   lia
  ·refine rwj g2 ?_;unfold Ec;refine oa eO ?_;refine oa eO ?_;cases(qK.lookup (L.take 3)).isSome<;>cases(qK.lookup (L.take 2)).isSome<;>rfl
 refine Bx (i:=0) (xs:=row) (v:=.int (x.2:Nat)) (ol rfl) ?_ rfl (pG hr rfl) (λj=>by simp) ?_
 ·have ht:∀{ρ:oI},ρ[2]?=some (some (.str L))->ρ[4]?=some (some (.int (x.1.length:Nat)))->ev Φ [.list row] ρ (.slice (.var 2) .none (.some (.var 4)))=some (.str x.1):=λh2 h4=>by
   have:=MM (Φ:=Φ) (σ:=[.list row]) (ol h2) (ol h4) (pG hl rfl)
   rwa [vU]at this
  have YJ:∃d:Int,yR [.str qw,.str x.1]=some (.int d):=⟨_,rfl⟩
  refine o6 YJ λd hd=>?_;refine rV (vs:=[.tok,.str x.1,.int (256+d)]) (uo rfl (ht rfl rfl) (z_ (x:=256) pX (rV (vs:=[.str qw,.str x.1]) (rW y0 (ht rfl rfl)) hd))) ?_;show some (match qK.lookup x.1 with|some k=>AV.int k|none=>.int (256+d))=_
  induction e:qK.lookup x.1 using aa with
  |some k=>rw[e]at g4;dsimp only at g4;refine oa g4 ?_;rfl
  |none =>
   rw[e]at g4;dsimp only at g4;rw[hd]at g4;simp only[f_,AV.int.injEq]at g4;simp only[f_,AV.int.injEq]
   lia
 ·refine o0 (v:=.str (xs.flatMap (·.1))) ?_ pS;refine rwj YA ?_;exact V9 (ol rfl) (ol rfl) (pG hl rfl)
theorem Qt:∀(xs:List (List Nat×Nat)) (row:List AV) (u:Option AV) (n:Nat),wa xs->xs.length<n->row.length+xs.length<=1000->(xs.flatMap (·.1)).length<=1000 ->
 ∃u',v5 (λρ σ=>ev Φ σ ρ (.cmp .NotEq (.var 2) (.c (.str "")))) (λρ σ=>oL Φ ρ σ Qq) n [a,b,some (.str (xs.flatMap (·.1))),some (.ref 0),u] [.list row]=some (.next [a,b,some (.str []),some (.ref 0),u'] [.list (row++oz (xs.map (·.2)))])
 |_,_,_,0,_,h,_,_=>by lia
 | [],row,u,n+1,hg,_,hr,hl=>by
  refine⟨u,?_⟩;rw[KU];have:ev Φ [.list row] [a,b,some (.str (([]:List (List Nat×Nat)).flatMap (·.1))),some (.ref 0),u] (.cmp .NotEq (.var 2) (.c (.str "")))=some (.bool false):=rfl;simp only[this];simp
 |x::xs,row,u,n+1,hg,hn,hr,hl=>by
  rw[aF]at hn hr;have FR:(xs.flatMap (·.1)).length<=1000:=by
   rw[b0,aq]at hl;exact GV hl
  refine o6 (wee (Φ:=Φ) (a:=a) (b:=b) (u:=u) (L:=(x::xs).flatMap (·.1)) (row:=row) rfl hg (K0 hr) hl) λu1 h1=>?_;refine o6 (Qt (Φ:=Φ) (a:=a) (b:=b) xs (row++[.int (x.2:Nat)]) u1 n hg.2.2.2.2 (by lia) (by refine oa aq ?_;refine oa cZ ?_;exact Ev hr) FR) λu2 h2=>?_;refine⟨u2,?_⟩;rw[KU];have:ev Φ [.list row] [a,b,some (.str ((x::xs).flatMap (·.1))),some (.ref 0),u] (.cmp .NotEq (.var 2) (.c (.str "")))=some (.bool true):=by
   refine(qS (x:=.str ((x::xs).flatMap (·.1))) (y:=.str []) (c:=true) rfl y0 ?_);show some (!decide _)=_;rw[decide_eq_false];rfl;intro e;refine p_ hg λg1 Y=>?_;rw[b0]at e;exact g1 (List.append_eq_nil_iff.mp e).1
  simp only[this,h1,h2];rw[ch];rfl
theorem Si:((tP (uS hs)).length<=1000):=by
 refine rwj (JJ _) ?_;have hg:∀xs:List (List Nat×Nat),wa xs->(xs.flatMap (·.1)).length<=3*xs.length:=λxs=>by
  induction xs with
  |nil=>intro _;simp
  |cons x xs ih =>
   intro h;have:=ih h.2.2.2.2;have:=h.2.2.1;refine oa b0 ?_;refine oa aq ?_;refine oa aF ?_;lia
 have:=hg _ (NK hs);have:=DP hs
 lia
theorem wdn(hs:List Nat):(uS hs).length<=45:=by
 have h:∀i,(uV hs i).length<=9:=λi=>by
  have h1:=KY (1+hs.getD i 0%3) (hs.getD i 0/3);have h2:hs.getD i 0%3<3:=bj _ (by decide);have h3:=Qa (pO hs i) (bj _ (by decide));have:(pW hs i).length<=6:=by unfold pW;lia
  unfold uV;refine oa aq ?_;split
  ·lia
  ·show _+0<=9;exact pG this rfl
 unfold uS;refine oa (show ak 5=[0,1,2,3,4]from rfl) ?_;have:=h 0;have:=h 1;have:=h 2;have:=h 3;have:=h 4;simp only[b0,List.flatMap_nil,aq,dq]
 lia
theorem WG(hs:List Nat):Fi (N+2) 15 [.str (uS hs)]=some (.lst (oz (rK hs))):=by
 refine tl Xk rfl ?_;have hT:=wdn hs;have hC:=Si (hs:=hs);rw[<-Hw]at hC;generalize NU:uS hs=T at *;show oL (Fi (N+1)) ([some (.str T)]++aA 4 none) [] Na.body=_;have KO:ev (Fi (N+1)) [] [some (.str T),none,none,none,none] (.comp 1 (.cons 5 (.val (.var 0)) .nil (.done (.call (.user 8) (.cons (.var 5) .nil)))))=some (.lst (T.map λ(c:Nat)=>.bool (rJ c))):=by
  refine(Ab (x:=5) (vs:=T.map λc=>AV.str [c]) (g:=λv=>match v with | .str (c::_)=>.bool (rJ c)|v=>v) rfl rfl (by rw[ac];exact pG hT rfl) (λv hv=>?_)).trans ?_
  ·refine oB (aE.mp hv) ?_;rintro c hc rfl;exact qT (vs:=[.str [c]]) (q6 (ol rfl)) rfl WU
  ·rw[a_];rfl
 refine o0 KO ?_;have BL:∀i,i<T.length->T[i]?=some (T.getD i 0):=λi hi=>Iy hi;have plain:ev (Fi (N+1)) [] [some (.str T),some (.lst (T.map λ(c:Nat)=>.bool (rJ c))),none,none,none] (.call .join (.cons (.c (.str "")) (.cons (.comp 1 (.cons 5 (.range (.cons (.call .len (.cons (.var 0) .nil)) .nil)) (.cons (.cmp .Is (.idx (.var 1) (.var 5)) (.c (.bool false))) .nil) (.done (.call (.user 9) (.cons (.idx (.var 0) (.var 5)) .nil))))) .nil)))=some (.str (tP T)):=by
  have hc:ev (Fi (N+1)) [] [some (.str T),some (.lst (T.map λ(c:Nat)=>.bool (rJ c))),none,none,none] (.comp 1 (.cons 5 (.range (.cons (.call .len (.cons (.var 0) .nil)) .nil)) (.cons (.cmp .Is (.idx (.var 1) (.var 5)) (.c (.bool false))) .nil) (.done (.call (.user 9) (.cons (.idx (.var 0) (.var 5)) .nil)))))=some (.lst (((((ak T.length).filter λi=>!rJ (T.getD i 0:Nat)).map λi=>u6 (T.getD i 0))).map AV.str)):=by
   refine(Aa (x:=5) (vs:=oz (ak T.length)) (p:=λv=>match v with | .int k=>!rJ (T.getD k.toNat 0:Nat)|_=>false) (g:=λv=>match v with | .int k=>.str (u6 (T.getD k.toNat 0))|v=>v) (wU ?_ (pG hT rfl)) rfl (by rw[ac,bP];exact pG hT rfl) (λv hv=>?_) (λv hv Y=>?_)).trans ?_
   ·exact rV (vs:=[.str T]) rfl (by show(if T.length<=100000 then _ else _)=_;rw[if_pos (pG hT rfl)])
   ·refine oB (aE.mp hv) ?_;rintro k hk rfl;have hk:=a0.mp hk;refine xD (qS (x:=.bool (rJ (T.getD k 0:Nat))) (y:=.bool false) (tQ (l:=T.map λ(c:Nat)=>AV.bool (rJ c)) (k:=k) (ol rfl) (ol rfl) (by rw[bf,BL k hk];rfl) (by rw[ac];exact pG hT rfl)) rfl ?_);have hb:∀b:Bool,some (b==false)=some (!b):=λb=>by cases b<;>rfl
    exact hb _
   ·refine oB (aE.mp hv) ?_;rintro k hk rfl;have hk:=a0.mp hk;exact qT (vs:=[.str [T.getD k 0]]) (q6 (ME (l:=T) (k:=k) (ol rfl) (ol rfl) (BL k hk) (pG hT rfl))) rfl WV
   ·unfold oz;rw[ej,a_,a_];rfl
  refine rV (rW y0 hc) ?_;show(match uX _ with|some xs=>_|none=>_)=_;rw[wfq];simp only[];rw[if_pos (pG hC rfl),Hw]
 refine o0 plain ?_;have wei:ev (Fi (N+1)) [] [some (.str T),some (.lst (T.map λ(c:Nat)=>.bool (rJ c))),some (.str (tP T)),none,none] (.comp 1 (.cons 5 (.val (.var 1)) (.cons (.and (.cons (.cmp .IsNot (.var 5) (.c (.bool true))) (.cons (.cmp .IsNot (.var 5) (.c (.bool false))) .nil))) .nil) (.done (.var 5))))=some (.lst []):=by
  refine(Aa (x:=5) (vs:=T.map λ(c:Nat)=>.bool (rJ c)) (p:=λv=>false) (g:=id) rfl rfl (by rw[ac];exact pG hT rfl) (λv hv=>?_) (λv hv h=>by cases h)).trans ?_
  ·refine oB (aE.mp hv) ?_;rintro c hc rfl;refine xD ((VX (x:=!(rJ c==true)) (y:=!(rJ c==false)) rfl rfl).trans ?_);cases rJ c<;>rfl
  ·simp
 refine C7 (wfX wei) ?_;refine o6 (Qt (Φ:=Fi (N+1)) (a:=some (.str T)) (b:=some (.lst (T.map λ(c:Nat)=>.bool (rJ c)))) (items hs) [] none 100 (NK hs) (by have:=DP hs;lia) (by have:=DP hs;simp;exact pG this rfl) (by rw[JJ,NU,<-Hw];exact hC)) λu' hw=>?_;rw[JJ,NU]at hw;refine Wo hw ?_;refine sd (v:=.lst (oz (rK hs))) ?_ ?_
 ·have:rP [.list (oz ((items hs).map (·.2)))] .Add (.ref 0) (.lst [.int 0])=some (.lst (oz (rK hs))):=by
   show(if(oz ((items hs).map (·.2))).length+1<=100000 then some (AV.lst (oz ((items hs).map (·.2))++[.int 0]))else none)=_;have:=DP hs;rw[if_pos (by rw[ac,ac];lia),<-Po];unfold oz;rw[bo];rfl
  exact qp (x:=.ref 0) (y:=.lst [.int 0]) rfl rfl this
 ·show(pq _ _).map AV.lst=_;have h:=Df 4 [.list ([]++oz ((items hs).map (·.2)))] (rK hs);exact(congrArg (bJ AV.lst) h).trans rfl
theorem DU:∀(n:Nat) (l:List Nat),l.Nodup->(∀x∈l,x<n)->l.length<=n
 |0,[],_,_=>by simp
 |0,a::l,_,h=>by have:=h a (by simp);lia
 |n+1,l,hd,h=>by
  have h1:=DU n (l.erase n) (hd.erase n) (λx hx=>by
   rw[hd.mem_erase_iff]at hx;have:=h x hx.2;have:=hx.1
   lia)
  have:=List.length_erase (a:=n) (l:=l);split at this<;>lia
noncomputable abbrev pL(l:List Int):List AV:=l.map AV.int
noncomputable def zB:List AV:=[.ref 1,.ref 2,.ref 3,.ref 4,.ref 5]
noncomputable def qC(nm:List Int)(ne:List (List Nat)):oH:=.list (pL nm)::(ne.map (λl=>AO.list (oz l))++[.list zB])
theorem GF(h:ne.length=5)(hp:p<5):(qC nm ne)[p+1]?=some (.list (oz (ne.getD p []))):=by
 unfold qC;rw[hJ,aL (by rw[ac];simp[*]),bf,am,au (by simp[*])];rfl
theorem QK(h:ne.length=5)(hp:p<5):(qC nm ne).set (p+1) (.list (oz l))=qC nm (ne.set p l):=by
 unfold qC;rw[List.set_cons_succ,eh,if_pos (by rw[ac];simp[*]),nS]
theorem Ky(h:ne.length=5):(qC nm ne)[6]?=some (.list zB):=by
 unfold qC;rw[hJ,ay (by rw[ac];exact bd h),ac,h];rfl
noncomputable def tX:Option Nat->Int
 |none=>-1
 |some k=>k
structure sW(nm:List Int) (ne:List (List Nat)) (pv:Option Nat):Prop where
 nm1:∀x∈nm,256<=x/\x<261
 nd:nm.Nodup
 len:ne.length=5
 pv:∀p,pv=some p->p<nm.length
 sym:∀i,∀j∈ne.getD i [],j<nm.length/\i<nm.length/\j≠i/\i∈ne.getD j []
 ndp:∀i,(ne.getD i []).Nodup
theorem sW.le{pv:Option Nat}(h:sW nm ne pv):nm.length<=5:=by
 have:=DU 5 (nm.map λx=>(x-256).toNat) (by
  have:=h.nd;unfold List.Nodup at this ⊢;rw[List.pairwise_map];refine this.imp_of_mem λ{a b} ha hb hab e=>hab ?_;exact(Int.sub_left_inj 256).mp ((dU (f9 (h.nm1 a ha).1)).symm.trans ((congrArg bE e).trans (dU (f9 (h.nm1 b hb).1))))) (λx hx=>by
   refine oB (aE.mp hx) ?_;rintro y hy rfl;have:=h.nm1 y hy;omega)
 rwa [ac]at this
theorem sW.le2{pv:Option Nat}(h:sW nm ne pv)(i:Nat):(ne.getD i []).length<=5 :=
 DU 5 _ (h.ndp i) (λj hj=>by have:=(h.sym i j hj).1;have:=h.le;lia)
theorem Iz{α:Type}(l:List α)(i j:Nat)(a d:α):(l.set i a).getD j d=if i=j/\i<l.length then a else l.getD j d:=by
 refine oa am ?_;refine oa dm ?_;refine oa am ?_;by_cases h:i=j
 ·subst h;by_cases h2:i<l.length
  ·simp[h2]
  ·simp[h2,ew (m7 h2)]
 ·simp[h]
theorem sW.wire{pv:Option Nat}(h:sW nm ne pv)(hp:p<nm.length)(hk:k<nm.length)(Jg:k≠p)(hn:k∉ne.getD p []):
 sW nm ((ne.set p (ne.getD p []++[k])).set k (ne.getD k []++[p])) pv:=by
 have o3:=h.le;have oU:=h.len;have Zj:p<ne.length:=by lia
 have YY:k<ne.length:=by lia
 have FY:p∉ne.getD k []:=λhc=>hn (h.sym k p hc).2.2.2;have e:∀i,((ne.set p (ne.getD p []++[k])).set k (ne.getD k []++[p])).getD i []=if i=k then ne.getD k []++[p]else if i=p then ne.getD p []++[k]else ne.getD i []:=λi=>by
  rw[Iz,Iz,dM];by_cases h1:i=k
  ·rw[if_pos ⟨h1.symm,YY⟩,if_pos h1]
  ·rw[if_neg (λc=>h1 c.1.symm),if_neg h1];by_cases h2:i=p
   ·rw[if_pos ⟨h2.symm,Zj⟩,if_pos h2]
   ·rw[if_neg (λc=>h2 c.1.symm),if_neg h2]
 have hm:∀i j,j∈ne.getD i []->j∈((ne.set p (ne.getD p []++[k])).set k (ne.getD k []++[p])).getD i []:=λi j hj=>by
  rw[e];by_cases h1:i=k
  ·rw[if_pos h1,aW];left;rw[<-h1];exact hj
  ·rw[if_neg h1];by_cases h2:i=p
   ·rw[if_pos h2,aW];left;rw[<-h2];exact hj
   ·rw[if_neg h2];exact hj
 refine⟨h.nm1,h.nd,by rw[dM,dM];exact oU,h.pv,?_,?_⟩
 ·intro i j hj;rw[e]at hj;by_cases h1:i=k
  ·rw[if_pos h1,aW,aI]at hj;rcases hj with hj|rfl
   ·have:=h.sym k j hj;subst h1;exact xU this.1 this.2.1 this.2.2.1 (hm _ _ this.2.2.2)
   ·subst h1;refine xU hp hk (λc=>Jg c.symm) ?_;rw[e,if_neg (λc=>Jg c.symm),if_pos rfl];simp
  ·rw[if_neg h1]at hj;by_cases h2:i=p
   ·rw[if_pos h2,aW,aI]at hj;rcases hj with hj|rfl
    ·have:=h.sym p j hj;subst h2;exact xU this.1 this.2.1 this.2.2.1 (hm _ _ this.2.2.2)
    ·subst h2;refine xU hk hp Jg ?_;rw[e,if_pos rfl];simp
   ·rw[if_neg h2]at hj;have:=h.sym i j hj;exact xU this.1 this.2.1 this.2.2.1 (hm _ _ this.2.2.2)
 ·intro i;have FF:∀(l:List Nat) (x:Nat),l.Nodup->x∉l->(l++[x]).Nodup:=λl x hl hx=>by
   rw[dk];refine qJ hl (by simp) (λa ha b hb=>?_);rw[aI]at hb;rintro rfl;exact hx (hb▸ha)
  rw[e];split
  ·exact FF _ _ (h.ndp k) FY
  ·split
   ·exact FF _ _ (h.ndp p) hn
   ·exact h.ndp i
theorem sW.pv'{pv pv':Option Nat}(h:sW nm ne pv)(h2:∀p,pv'=some p->p<nm.length):sW nm ne pv' :=
 ⟨h.nm1,h.nd,h.len,h2,h.sym,h.ndp⟩
theorem sW.name{pv:Option Nat}(h:sW nm ne pv)(hx:256<=x/\x<261)(hn:x∉nm):sW (nm++[x]) ne pv:=by
 refine⟨λy hy=>?_,?_,h.len,λp hp=>?_,λi j hj=>?_,h.ndp⟩
 ·rw[aW,aI]at hy;rcases hy with hy|rfl
  ·exact h.nm1 y hy
  ·exact hx
 ·rw[dk];refine qJ h.nd (by simp) (λa ha b hb=>?_);rw[aI]at hb;rintro rfl;exact hn (hb▸ha)
 ·have:=h.pv p hp;refine oa aq ?_;exact eY this
 ·have:=h.sym i j hj;refine oa aq ?_;exact qJ (by lia) (by lia) this.2.2
theorem vb(h:ev Φ σ ρ a=some (.bool true))(h2:qZ Φ σ ρ es=b):qZ Φ σ ρ (.cons a es)=b:=by
 rewrite [xE];refine oa h ?_;exact h2
theorem z7(h:ev Φ σ ρ a=some (.bool false)):qZ Φ σ ρ (.cons a es)=some false:=by
 rw[xE,h]
theorem Mw:qZ Φ σ ρ .nil=some true:=by rw[z8]
theorem xG(h:qZ Φ σ ρ es=some b):ev Φ σ ρ (.and es)=some (.bool b):=by
 rw[Fk,h];rfl
theorem HV(h1:ev Φ σ ρ a=some (.int x))(h2:ev Φ σ ρ b=some (.int y)):ev Φ σ ρ (.cmp .Gt a b)=some (.bool (decide (y<x))):=qS h1 h2 rfl
theorem HU(h1:ev Φ σ ρ a=some (.int x))(h2:ev Φ σ ρ b=some (.int y)):ev Φ σ ρ (.cmp .GtE a b)=some (.bool (decide (y<=x))):=qS h1 h2 rfl
theorem HX(h1:ev Φ σ ρ a=some (.int x))(h2:ev Φ σ ρ b=some (.int y)):ev Φ σ ρ (.cmp .NotEq a b)=some (.bool (!decide (x=y))):=qS h1 h2 rfl
theorem HZ(h1:ev Φ σ ρ a=some (.int x))(h2:ev Φ σ ρ b=some (.ref j))(h3:σ[j]?=some (.list (pL is))):ev Φ σ ρ (.cmp .NotIn a b)=some (.bool (!decide (x∈is))):=by
 refine qS h1 h2 ?_;have hl:oX σ (.ref j)=some (pL is):=JQ h3;show(match oX σ (.ref j)with|some vs=>(zt x vs).map (!·)|none=>none)=_;refine oa hl ?_;show(zt x (is.map AV.int)).map (!·)=_;unfold zt;refine oa (CG _) ?_;simp only[mj,f_]
 congr 1
 rw[cC,hY,decide_eq_true_iff];constructor
 ·rintro⟨y,hy,e⟩;refine rwj (eq_of_beq e) ?_;exact hy
 ·intro h;exact oV x h (by simp)
theorem Ff{a i:Ex}{j k:Nat}{l:List AV}{v:AV}(h1:ev Φ σ ρ a=some (.ref j))(h2:ev Φ σ ρ i=some (.int k))(h3:σ[j]?=some (.list l))(hv:l[k]?=some v)(hn:l.length<=100000):ev Φ σ ρ (.idx a i)=some v:=by
 refine yY h1 h2 ?_;have hl:oX σ (.ref j)=some l:=JQ h3;show(match oX σ (.ref j)with|some vs=>(tG (k:Int) vs.length).bind λj=>vs[j]?|none=>_)=_;refine oa hl ?_;simp only[];refine oa (Gu (aS.mp hv).1 hn) ?_;exact hv
theorem V1(h1:ev Φ σ ρ a=some (.ref j))(h2:ev Φ σ ρ i=some (.int x))(h3:σ[j]?=some (.list (pL is)))(hk:is.findIdx? (·==x)=some k)(hn:k<=100000):ev Φ σ ρ (.call .index (.cons a (.cons i .nil)))=some (.int k):=by
 refine rV (rW h1 h2) ?_;have hl:oX σ (.ref j)=some (pL is):=JQ h3;show zV σ [.ref j,.int x]=_;unfold zV;simp only[hl,CG,hk];rw[if_pos hn]
noncomputable def PU:rG:=match Ie.body with | .cons _ (.cons (.for_ _ _ b) _)=>b|_=>.nil
theorem B1(l:List Nat):oz l=pL (l.map bE):=by
 unfold oz pL;refine oa a_ ?_;rfl
theorem wcx(h:sW nm ne pv)(hx:256<=x->x<261):
 ∃rR yz pv' k',oL (Fi (N+1)) [some row,some (.ref 0),some (.ref 6),some (.int (tX pv)),some (.int x),k] (qC nm ne) PU=some (.next [some row,some (.ref 0),some (.ref 6),some (.int (tX pv')),some (.int x),k'] (qC rR yz))/\sW rR yz pv'/\((nm≠[]\/256<=x)->rR≠[]):=by
 have c0:∀{ρ:oI},ρ[4]?=some (some (.int x))->ev (Fi (N+1)) (qC nm ne) ρ (.or (.cons (.cmp .IsNot (.call (.user 10) (.cons (.var 4) .nil)) (.cmp .Lt (.var 4) (.c (.int 256)))) (.cons (.cmp .IsNot (.call (.user 11) (.cons (.var 4) .nil)) (.cmp .Gt (.var 4) (.c (.int 255)))) (.cons (.cmp .IsNot (.call (.user 12) (.cons (.var 4) .nil)) (.cmp .Eq (.var 4) (.c (.int 0)))) .nil))))=some (.bool false):=λ{ρ} h4=>by
  have hb:∀b:Bool,some (!(b==b))=some false:=λb=>by cases b<;>rfl
  refine V6 (qS (x:=.bool (decide (x<256))) (y:=.bool (decide (x<256))) (qT (vs:=[.int x]) (q6 (ol h4)) rfl WB) (Ac (ol h4) pX) (hb _)) (qS (x:=.bool (decide (256<=x))) (y:=.bool (decide (256<=x))) (qT (vs:=[.int x]) (q6 (ol h4)) rfl WC) ?_ (hb _)) (qS (x:=.bool (decide (x=0))) (y:=.bool (decide (x=0))) (qT (vs:=[.int x]) (q6 (ol h4)) rfl WD) (Fe (ol h4) pX) (hb _));refine oa (HV (ol h4) (pX (i:=255))) ?_;exact congrArg (λb=>some (AV.bool b)) (decide_eq_decide.mpr (by rfl))
 have o3:=h.le;have g0:(qC nm ne)[0]?=some (.list (pL nm)):=rfl;by_cases BE:256<=x
 ·have gt:∀{ρ:oI}{σ:oH},ρ[4]?=some (some (.int x))->ev (Fi (N+1)) σ ρ (.cmp .Gt (.var 4) (.c (.int 255)))=some (.bool true):=λh4=>by
   refine oa (HV (ol h4) (pX (i:=255))) ?_;refine oa (decide_eq_true (BE)) ?_;rfl
  obtain⟨rR,vS,tT,vT,qU⟩:∃rR,(sW rR ne pv)/\x∈rR/\rR≠[]/\∀{u:Option Fl}{ss:rG},oL (Fi (N+1)) [some row,some (.ref 0),some (.ref 6),some (.int (tX pv)),some (.int x),k] (qC rR ne) ss=u ->
   oL (Fi (N+1)) [some row,some (.ref 0),some (.ref 6),some (.int (tX pv)),some (.int x),k] (qC nm ne) (.cons (.ife (.and (.cons (.cmp .Gt (.var 4) (.c (.int 255))) (.cons (.cmp .NotIn (.var 4) (.var 1)) .nil))) (.cons (.app (.var 1) (.var 4)) .nil) .nil) ss)=u:=by
   by_cases sR:x∈nm
   ·refine F8 nm h sR (List.ne_nil_of_mem sR) (λhu=>?_);refine rE (xG (vb (gt rfl) (z7 ?_))) pS hu;refine oa (HZ (ol rfl) (ol rfl) g0) ?_;refine oa (decide_eq_true sR) ?_;rfl
   ·refine F8 (nm++[x]) (h.name ⟨BE,hx BE⟩ sR) (by simp) (by simp) (λhu=>?_);refine y3 (ox:=qC (nm++[x]) ne) (xG (vb (gt rfl) (vb ?_ Mw))) (Bx (i:=0) (v:=.int x) (ol rfl) (ol rfl) g0 (by refine oa (ac _) ?_;exact pG o3 rfl) (λj=>by simp) ?_) hu
    ·refine oa (HZ (ol rfl) (ol rfl) g0) ?_;refine oa (decide_eq_false sR) ?_;rfl
    ·refine oa pS ?_;unfold qC pL;refine oa bo ?_;rfl
  have XK:(qC rR ne)[0]?=some (.list (pL rR)):=rfl;have FT:=vS.le;obtain⟨q,hq⟩:∃q,rR.findIdx? (·==x)=some q:=by
   induction e:rR.findIdx? (·==x)using aa with
   |some q=>exact⟨q,rfl⟩
   |none =>
    rw[kw]at e;have:=e x tT;simp at this
  have OI:q<rR.length:=by
   have:=List.findIdx?_eq_some_iff_findIdx_eq.mp hq;simp[*]
  have oU:=vS.len;have wcH:ev (Fi (N+1)) (qC rR ne) [some row,some (.ref 0),some (.ref 6),some (.int (tX pv)),some (.int x),k] (.ite (.cmp .Gt (.var 4) (.c (.int 255))) (.call .index (.cons (.var 1) (.cons (.var 4) .nil))) (.un .USub (.c (.int 1))))=some (.int q):=
   Br (gt rfl) (V1 (ol rfl) (ol rfl) XK hq (by lia))
  have Fz:∀{ρ:oI}{σ:oH},ρ[5]?=some (some (.int q))->ev (Fi (N+1)) σ ρ (.cmp .GtE (.var 5) (.c (.int 0)))=some (.bool true):=λh5=>by
   refine oa (HU (ol h5) (pX (i:=0))) ?_;refine oa (decide_eq_true (az q)) ?_;rfl
  obtain⟨yz,Aw,ZC⟩:∃yz,sW rR yz pv/\∀{u:Option Fl}{ss:rG},oL (Fi (N+1)) [some row,some (.ref 0),some (.ref 6),some (.int (tX pv)),some (.int x),some (.int q)] (qC rR yz) ss=u ->
   oL (Fi (N+1)) [some row,some (.ref 0),some (.ref 6),some (.int (tX pv)),some (.int x),some (.int q)] (qC rR ne) (.cons (.ife (.and (.cons (.cmp .GtE (.var 5) (.c (.int 0))) (.cons (.cmp .GtE (.var 3) (.c (.int 0))) (.cons (.cmp .NotEq (.var 5) (.var 3)) (.cons (.cmp .NotIn (.var 5) (.idx (.var 2) (.var 3))) .nil))))) (.cons (.app (.idx (.var 2) (.var 3)) (.var 5)) (.cons (.app (.idx (.var 2) (.var 5)) (.var 3)) .nil)) .nil) ss)=u:=by
   induction hpv:pv using aa with
   |none =>
    refine oV ne (hpv▸vS) (λhu=>rE (xG (vb (Fz rfl) (z7 ?_))) pS hu);exact(HU (x:=-1) (ol rfl) (pX (i:=0))).trans rfl
   |some p =>
    have hp:=vS.pv p hpv;subst hpv;have gp:∀{σ:oH},ev (Fi (N+1)) σ [some row,some (.ref 0),some (.ref 6),some (.int (tX (some p))),some (.int x),some (.int q)] (.cmp .GtE (.var 3) (.c (.int 0)))=some (.bool true):=by
     intro σ;refine(HU (x:=(p:Int)) (ol rfl) (pX (i:=0))).trans ?_;refine oa (decide_eq_true (az p)) ?_;rfl
    have Zr:zB[p]?=some (.ref (p+1)):=by
     have:p=0\/p=1\/p=2\/p=3\/p=4:=by lia
     rcases this with rfl|rfl|rfl|rfl|rfl<;>rfl
    have Zs:zB[q]?=some (.ref (q+1)):=by
     have:q=0\/q=1\/q=2\/q=3\/q=4:=by lia
     rcases this with rfl|rfl|rfl|rfl|rfl<;>rfl
    have O4:∀{ne2:List (List Nat)},ne2.length=5->ev (Fi (N+1)) (qC rR ne2) [some row,some (.ref 0),some (.ref 6),some (.int (tX (some p))),some (.int x),some (.int q)] (.idx (.var 2) (.var 3))=some (.ref (p+1)):=λh2 =>
     Ff (j:=6) (k:=p) (ol rfl) (ol rfl) (Ky h2) Zr (by decide)
    have wak:∀{ne2:List (List Nat)},ne2.length=5->ev (Fi (N+1)) (qC rR ne2) [some row,some (.ref 0),some (.ref 6),some (.int (tX (some p))),some (.int x),some (.int q)] (.idx (.var 2) (.var 5))=some (.ref (q+1)):=λh2 =>
     Ff (j:=6) (k:=q) (ol rfl) (ol rfl) (Ky h2) Zs (by decide)
    by_cases hqp:q=p
    ·refine oV ne vS (λhu=>rE (xG (vb (Fz rfl) (vb gp (z7 ?_)))) pS hu);refine(HX (x:=q) (y:=p) (ol rfl) (ol rfl)).trans ?_;refine oa (decide_eq_true (by simp[*])) ?_;rfl
    have PW:∀{σ:oH},ev (Fi (N+1)) σ [some row,some (.ref 0),some (.ref 6),some (.int (tX (some p))),some (.int x),some (.int q)] (.cmp .NotEq (.var 5) (.var 3))=some (.bool true):=by
     intro σ;refine(HX (x:=q) (y:=p) (ol rfl) (ol rfl)).trans ?_;refine oa (decide_eq_false (Rj hqp)) ?_;rfl
    have XV:(qC rR ne)[p+1]?=some (.list (pL ((ne.getD p []).map bE))):=by
     refine oa (GF oU (ab hp FT)) ?_;refine oa (B1 _) ?_;rfl
    have PX:ev (Fi (N+1)) (qC rR ne) [some row,some (.ref 0),some (.ref 6),some (.int (tX (some p))),some (.int x),some (.int q)] (.cmp .NotIn (.var 5) (.idx (.var 2) (.var 3)))=some (.bool (!decide (q∈ne.getD p []))):=by
     refine(HZ (x:=q) (ol rfl) (O4 oU) XV).trans ?_;refine congrArg (λb=>some (AV.bool (!b))) (decide_eq_decide.mpr ?_);rw[aE];constructor
     ·rintro⟨y,hy,e⟩;have:y=q:=by simp only[Int.ofNat_eq_natCast]at e;lia
      refine rwj this ?_;exact hy
     ·intro hy;exact oV q hy rfl
    by_cases sR:q∈ne.getD p []
    ·refine oV ne vS (λhu=>rE (xG (vb (Fz rfl) (vb gp (vb PW (z7 ?_))))) pS hu);refine oa PX ?_;refine oa (decide_eq_true sR) ?_;rfl
    ·refine oV ((ne.set p (ne.getD p []++[q])).set q (ne.getD q []++[p])) (vS.wire hp OI hqp sR) (λhu=>?_);refine y3 (ox:=qC rR ((ne.set p (ne.getD p []++[q])).set q (ne.getD q []++[p]))) (xG (vb (Fz rfl) (vb gp (vb PW (vb ?_ Mw))))) ?_ hu
     ·refine oa PX ?_;refine oa (decide_eq_false sR) ?_;rfl
     have l1:=vS.le2 p;have l2:=vS.le2 q;refine Bx (i:=p+1) (v:=.int q) (O4 oU) (ol rfl) (GF oU (ab hp FT)) (by refine oa (ac _) ?_;exact pG l1 rfl) (λj=>by simp) ?_;have e1:oz (ne.getD p [])++[AV.int q]=oz (ne.getD p []++[q]):=by unfold oz;refine oa bo ?_;rfl
     refine oa e1 ?_;refine oa (QK oU (by lia)) ?_;have I6:(ne.set p (ne.getD p []++[q])).length=5:=by refine oa dM ?_;exact oU
     have e2:(ne.set p (ne.getD p []++[q])).getD q []=ne.getD q []:=by rewrite [Iz];refine oa (if_neg (λc=>hqp c.1.symm)) ?_;rfl
     have sg:=GF (nm:=rR) I6 (p:=q) (by lia);rw[e2]at sg;refine Bx (i:=q+1) (v:=.int p) (wak I6) (ol rfl) sg (by refine oa (ac _) ?_;exact pG l2 rfl) (λj=>by simp) ?_;have e3:oz (ne.getD q [])++[AV.int p]=oz (ne.getD q []++[p]):=by unfold oz;refine oa bo ?_;rfl
     refine oa e3 ?_;refine oa (QK I6 (by lia)) ?_;exact pS
  refine JA rR yz (some q) (some (.int q)) ?_ (Aw.pv' (λp hp=>by cases hp;exact OI)) (λY=>vT);refine rE (c0 rfl) pS (qU (o0 wcH (ZC (o0 (v:=.int q) (ol rfl) pS))))
 ·refine JA nm ne none (some (.int (-1))) ?_ (h.pv' (λp hp=>by cases hp)) (λhh=>hh.resolve_right BE);have gf:∀{ρ:oI}{σ:oH},ρ[4]?=some (some (.int x))->ev (Fi (N+1)) σ ρ (.cmp .Gt (.var 4) (.c (.int 255)))=some (.bool false):=λh4=>by
   refine oa (HV (ol h4) (pX (i:=255))) ?_;refine oa (decide_eq_false (BE)) ?_;rfl
  refine rE (c0 rfl) pS (rE (xG (z7 (gf rfl))) pS (o0 (v:=.int (-1)) (Bq (gf rfl) rfl) (rE (xG (z7 rfl)) pS (o0 (v:=.int (-1)) (ol rfl) pS))))
structure u4(oi:List (List Nat)):Prop where
 pos:1<=oi.length
 le:oi.length<=5
 sym:∀i,∀j∈oi.getD i [],j<oi.length/\j≠i/\i∈oi.getD j []
 nd:∀i,(oi.getD i []).Nodup
noncomputable abbrev qn(oi:List (List Nat)):AV:=.lst (oi.map λl=>.lst (oz l))
theorem IA{α:Type}(l:List α)(n i:Nat)(d:α):(l.take n).getD i d=if i<n then l.getD i d else d:=by
 refine oa am ?_;refine oa List.getElem?_take ?_;refine oa am ?_;split<;>rfl
theorem sW.graph{pv:Option Nat}(h:sW nm ne pv)(hn:nm≠[]):u4 (ne.take nm.length):=by
 have o3:=h.le;have hl:(ne.take nm.length).length=nm.length:=by rw[dE,h.len];simp[*]
 refine⟨by rw[hl];exact iX.mpr hn,GW hl o3,λi j hj=>?_,λi=>?_⟩
 ·rw[IA]at hj;split at hj
  ·have:=h.sym i j hj;rw[hl,IA,if_pos this.1];exact⟨this.1,this.2.2⟩
  ·cases hj
 ·rw[IA];split
  ·exact h.ndp i
  ·exact cK
theorem BY{α β:Type}{f:α->Option β}{g:α->β}:∀l:List α,(∀a∈l,f a=some (g a))->pq f l=some (l.map g):=by
 intro vv
 induction vv with
 |nil =>
  intro _;exact rfl
 |cons a l ih =>
  intro h;rw[uv,h a (by simp)];simp only[ih (λb hb=>h b (by simp[hb]))];rfl
theorem wcw{nm:List Int}{ne:List (List Nat)}(h:ne.length=5)(n:Nat)(k:Nat):o8 (qC nm ne) (k+3) (.lst (zB.take n))=some (qn (ne.take n)):=by
 have hf:∀p,p<5->o8 (qC nm ne) (k+2) (.ref (p+1))=some (.lst (oz (ne.getD p []))):=λp hp=>by
  rw[Iv,GF h hp];show(pq _ _).map AV.lst=_;rw[Df k];rfl
 obtain⟨a,b,c,d,e,rfl⟩:∃a b c d e,ne=[a,b,c,d,e]:=by
  refine sb (cn h) ?_;rintro a l rfl;refine sb (cn (bD h)) ?_;rintro b l rfl;refine sb (cn (bD (bD h))) ?_;rintro c l rfl;refine sb (cn (bD (bD (bD h)))) ?_;rintro d l rfl;refine sb (cn (bD (bD (bD (bD h))))) ?_;rintro e l rfl;have:=bC.mp (bD (bD (bD (bD (bD h)))));subst this;exact JC a b c d e rfl
 have h0:=hf 0 (by decide);have h1:=hf 1 (by decide);have h2:=hf 2 (by decide);have h3:=hf 3 (by decide);have h4:=hf 4 (by decide);have ub:pq (o8 (qC nm [a,b,c,d,e]) (k+2)) (zB.take n)=some (([a,b,c,d,e].take n).map λl=>.lst (oz l)):=by
  have e5:zB=(ak 5).map λp=>AV.ref (p+1):=rfl;have e6:[a,b,c,d,e]=(ak 5).map λp=>[a,b,c,d,e].getD p []:=rfl;have:=BY (f:=λp=>o8 (qC nm [a,b,c,d,e]) (k+2) (.ref (p+1))) (g:=λp=>AV.lst (oz ([a,b,c,d,e].getD p []))) ((ak 5).take n) (λp hp=>hf p (a0.mp (iB hp)));have hm:∀{α β γ:Type} (f:β->Option γ) (g:α->β) (l:List α),pq f (l.map g)=pq (λa=>f (g a)) l:=λf g l=>by
   induction l with
   |nil=>rfl
   |cons a l ih=>rw[aU,uv,uv,ih]
  rw[e5,<-kK,hm,this]
  conv=>rhs;rw[e6,<-kK,a_]
  rfl
 rw[XF,ub];rfl
theorem V2(h1:ev Φ σ ρ a=some (.ref j))(h3:σ[j]?=some (.list l))(hl:l.length<=100000):ev Φ σ ρ (.call .len (.cons a .nil))=some (.int (l.length:Nat)):=by
 refine rV (q6 h1) ?_;show CP σ [.ref j]=_;unfold CP;simp only[oX,h3,tC];rw[if_pos hl]
theorem WH(xs:List Int)(hx:∀x∈xs,256<=x->x<261)(he:∃x∈xs,256<=x):∃oi,u4 oi/\Fi (N+2) 16 [.lst (pL xs)]=some (qn oi):=by
 have h0:sW [] [[],[],[],[],[]] none:=by
  have e:∀i,([[],[],[],[],[]]:List (List Nat)).getD i []=[]:=λi=>by
   refine oa am ?_;by_cases h:i<5
   ·have:i=0\/i=1\/i=2\/i=3\/i=4:=zl5 h;rcases this with rfl|rfl|rfl|rfl|rfl<;>rfl
   ·refine oa (ew (by simp;exact Ck h)) ?_;rfl
  refine⟨by simp,cK,rfl,λp hp=>by(cases hp),λi j hj=>?_,λi=>?_⟩
  ·rw[e]at hj;cases hj
  ·refine oa (e _) ?_;exact cK
 obtain⟨oC,ox,hf,nm,ne,pv,x4,k,rfl,rfl,qk,q9⟩:=Fy (f:=λρ σ v=>oL (Fi (N+1)) (ρ.set 4 (some v)) σ PU) (g:=AV.int)
  (I:=λpre ρ σ=>∃nm ne pv x4 k,ρ=[some (.lst (pL xs)),some (.ref 0),some (.ref 6),some (.int (tX pv)),x4,k]/\σ=qC nm ne/\sW nm ne pv/\((∃x∈pre,256<=x)->nm≠[])) xs [] [some (.lst (pL xs)),some (.ref 0),some (.ref 6),some (.int (-1)),none,none] (qC [] [[],[],[],[],[]])
  ⟨[],_,none,none,none,rfl,rfl,h0,by simp⟩ (by
   rintro p x q ρ σ e ⟨nm,ne,pv,x4,k,rfl,rfl,qk,q9⟩;have ZX:x∈xs:=by
    have e:xs=p++x::q:=e;refine oa e ?_;simp
   refine wX (wcx (N:=N) (row:=.lst (pL xs)) (k:=k) qk (hx x ZX)) λrR yz pv' k' h1 h2 h3=>?_;refine⟨_,_,h1,rR,yz,pv',_,k',rfl,rfl,h2,?_⟩;rintro⟨y,hy,OX⟩;rw[aW,aI]at hy;rcases hy with hy|rfl
   ·exact h3 (eN (q9 ⟨y,hy,OX⟩))
   ·exact h3 (ji OX))
 refine oV (ne.take nm.length) (qk.graph (q9 he)) (tl Xl rfl ?_);show oL (Fi (N+1)) ([some (.lst (pL xs))]++aA 5 none) [] Ie.body=_;refine y2 (vs:=[.ref 0,.ref 6,.int (-1)]) (ox:=qC [] [[],[],[],[],[]]) (HN (ox:=[.list []]) rfl (HN (ox:=qC [] [[],[],[],[],[]]) rfl (um rfl yX))) rfl ?_;refine xJ (vs:=pL xs) rfl hf ?_;have hl:ev (Fi (N+1)) (qC nm ne) [some (.lst (pL xs)),some (.ref 0),some (.ref 6),some (.int (tX pv)),x4,k] (.call .len (.cons (.var 1) .nil))=some (.int (nm.length:Nat)):=by
  have:=V2 (Φ:=Fi (N+1)) (σ:=qC nm ne) (ρ:=[some (.lst (pL xs)),some (.ref 0),some (.ref 6),some (.int (tX pv)),x4,k]) (a:=.var 1) (j:=0) (l:=pL nm) (ol rfl) rfl (by refine oa (ac _) ?_;have:=qk.le;exact pG this rfl)
  rwa [ac]at this
 refine sd (v:=.lst (zB.take nm.length)) ?_ (wcw qk.len nm.length 3);have hn:tw (Fi (N+1)) (qC nm ne) [some (.lst (pL xs)),some (.ref 0),some (.ref 6),some (.int (tX pv)),x4,k] .none=some none:=rfl;have hs:tw (Fi (N+1)) (qC nm ne) [some (.lst (pL xs)),some (.ref 0),some (.ref 6),some (.int (tX pv)),x4,k] (.some (.call .len (.cons (.var 1) .nil)))=some (some (nm.length:Int)):=by rw[Bn,hl]
 rw[Bt];have hv:ev (Fi (N+1)) (qC nm ne) [some (.lst (pL xs)),some (.ref 0),some (.ref 6),some (.int (tX pv)),x4,k] (.var 2)=some (.ref 6):=ol rfl;simp only[hv,hn,hs];unfold B_;dsimp only;refine oa (if_pos (az nm.length)) ?_;unfold yA;simp only[oX,Ky qk.len,aT];refine oa (if_pos (by decide)) ?_;rfl
noncomputable abbrev F:=UInt64
noncomputable def zv(x y z:F):F:=(if uq z (if uq y x then y else x)then z else(if uq y x then y else x))
noncomputable def zu(x y z:F):F:=(if ur z (if ur y x then y else x)then z else(if ur y x then y else x))
noncomputable def qa(x y:F):Bool:=bM x y==some .eq
noncomputable def Fv(x y:F):Bool:=bM x y==some .lt||bM x y==some .eq
noncomputable def two:F:=4611686018427387904
noncomputable def Nu:F:=4616189618054758400
noncomputable def x6:F:=4618441417868443648
noncomputable def one:F:=4607182418800017408
noncomputable def Do:F:=4602678819172646912
noncomputable def B6(r g mx rc gc bc:F):F:=if qa r mx then aX bc gc else if qa g mx then aX (bH two rc) bc else aX (bH Nu gc) rc
noncomputable def DC(h:F):F:=(gk (bL h x6) one).2
noncomputable def F1(r g b mx d:F):F:=DC (B6 r g mx (bL (aX mx r) d) (bL (aX mx g) d) (bL (aX mx b) d))
theorem wj(h1:ev Φ σ ρ a=some (.flt x))(h2:ev Φ σ ρ b=some (.flt y))(hz:bG y=false):ev Φ σ ρ (.bin .Div a b)=some (.flt (bL x y)):=by
 refine qp h1 h2 ?_;show(if bG y=true then none else some (AV.flt (bL x y)))=_;rw[if_neg (by rw[hz];decide)]
theorem V3(h1:ev Φ σ ρ a=some (.flt x))(h2:ev Φ σ ρ b=some (.flt y))(hz:bG y=false):ev Φ σ ρ (.bin .Mod a b)=some (.flt (gk x y).2):=by
 refine qp h1 h2 ?_;show(if bG y=true then none else some (AV.flt (gk x y).2))=_;rw[if_neg (by rw[hz];decide)]
theorem uJ(h1:ev Φ σ ρ a=some (.flt x))(h2:ev Φ σ ρ b=some (.flt y)):ev Φ σ ρ (.bin .Sub a b)=some (.flt (aX x y)):=qp h1 h2 rfl
theorem HO(h1:ev Φ σ ρ a=some (.flt x))(h2:ev Φ σ ρ b=some (.flt y)):ev Φ σ ρ (.bin .Add a b)=some (.flt (bH x y)):=qp h1 h2 rfl
theorem Ad(h1:ev Φ σ ρ a=some (.flt x))(h2:ev Φ σ ρ b=some (.flt y)):ev Φ σ ρ (.bin .Mult a b)=some (.flt (cr x y)):=qp h1 h2 rfl
theorem t9:ev Φ σ ρ (.c (.float x))=some (.flt x):=by rw[MO];rfl
theorem wV(h1:ev Φ σ ρ a=some (.flt x))(h2:ev Φ σ ρ b=some (.flt y))(hx:qa x x=true):ev Φ σ ρ (.cmp .Eq a b)=some (.bool (qa x y)):=by
 refine qS h1 h2 ?_;show(if(bM x x==some .eq)=true then some (bM x y==some .eq)else none)=_;exact if_pos hx
theorem MJ(h1:ev Φ σ ρ a=some (.flt x))(h2:ev Φ σ ρ b=some (.flt y)):ev Φ σ ρ (.cmp .LtE a b)=some (.bool (Fv x y)):=qS h1 h2 rfl
theorem Rh:bG two=false:=by decide +kernel
theorem whu:bG x6=false:=by decide +kernel
theorem wht:bG one=false:=by decide +kernel
theorem OV(hr:qa r r=true)(hg:qa g g=true)(hx:pre.length=x)(h1:pre[iR]?=some (some (.flt r)))(h2:pre[iG]?=some (some (.flt g)))(h3:pre[iM]?=some (some (.flt mx)))(h4:pre[ia]?=some (some (.flt rc)))(h5:pre[ib]?=some (some (.flt gc)))(h6:pre[ic]?=some (some (.flt bc)))(hu:oL Φ (pre++[some (.flt (DC (B6 r g mx rc gc bc)))]) [] ss=u):
 oL Φ (pre++[v0]) [] (.cons (.ife (.cmp .Eq (.var iR) (.var iM))
 (.cons (.asg x false (.bin .Sub (.var ic) (.var ib)))
 .nil)
 (.cons (.ife (.cmp .Eq (.var iG) (.var iM))
  (.cons (.asg x false (.bin .Sub (.bin .Add (.c (.float 4611686018427387904)) (.var ia)) (.var ic)))
  .nil)
  (.cons (.asg x false (.bin .Sub (.bin .Add (.c (.float 4616189618054758400)) (.var ib)) (.var ia)))
  .nil))
 .nil))
 (.cons (.asg x false (.bin .Mod (.bin .Div (.var x) (.c (.float 4618441417868443648))) (.c (.float 4607182418800017408)))) ss))=u:=by
 have gt:∀{i:Nat}{w:Option AV}{a:AV},pre[i]?=some (some a)->(pre++[w])[i]?=some (some a):=λ{i w a} h=>by
  refine oa (aL (aS.mp h).1) ?_;exact h
 have st:∀{w w':Option AV},(pre++[w]).set x w'=pre++[w']:=λ{w w'}=>by
  refine rwj hx ?_;refine oa eh ?_;refine oa (if_neg (aJ pre.length)) ?_;refine oa (ci _) ?_;rfl
 have xX:∀{h:F},oL Φ (pre++[some (.flt (DC h))]) [] ss=u->oL Φ (pre++[some (.flt h)]) [] (.cons (.asg x false (.bin .Mod (.bin .Div (.var x) (.c (.float 4618441417868443648))) (.c (.float 4607182418800017408)))) ss)=u:=λ{h} hh=>by
  refine o0 (v:=.flt (DC h)) (V3 (wj (ol ?_) t9 whu) t9 wht) (by refine oa st ?_;exact hh);refine oa (ay (bd hx)) ?_;refine rwj hx ?_;refine oa (ci _) ?_;rfl
 by_cases c1:qa r mx=true
 ·refine y3 (oC:=pre++[some (.flt (aX bc gc))]) (ox:=[]) ((wV (ol (gt h1)) (ol (gt h3)) hr).trans (by refine oa c1 ?_;rfl)) (o0 (uJ (ol (gt h6)) (ol (gt h5))) (by refine oa st ?_;exact pS)) (xX ?_);refine rwj hu ?_;unfold B6;refine oa (if_pos c1) ?_;rfl
 ·have LI:qa r mx=false:=by simpa using c1
  by_cases c2:qa g mx=true
  ·refine rE (oC:=pre++[some (.flt (aX (bH two rc) bc))]) (ox:=[]) ((wV (ol (gt h1)) (ol (gt h3)) hr).trans (by refine oa LI ?_;rfl)) (y3 ((wV (ol (gt h2)) (ol (gt h3)) hg).trans (by refine oa c2 ?_;rfl)) (o0 (uJ (HO t9 (ol (gt h4))) (ol (gt h6))) (by refine oa st ?_;exact pS)) pS) (xX ?_);refine rwj hu ?_;unfold B6;refine oa (if_neg c1) ?_;refine oa (if_pos c2) ?_;rfl
  ·have SX:qa g mx=false:=by simpa using c2
   refine rE (oC:=pre++[some (.flt (aX (bH Nu gc) rc))]) (ox:=[]) ((wV (ol (gt h1)) (ol (gt h3)) hr).trans (by refine oa LI ?_;rfl)) (rE ((wV (ol (gt h2)) (ol (gt h3)) hg).trans (by refine oa SX ?_;rfl)) (o0 (uJ (HO t9 (ol (gt h5))) (ol (gt h4))) (by refine oa st ?_;exact pS)) pS) (xX ?_);refine rwj hu ?_;unfold B6;refine oa (if_neg c1) ?_;refine oa (if_neg c2) ?_;rfl
structure G0(r g b mx mn d:F):Prop where
 emx:zv r g b=mx
 emn:zu r g b=mn
 ed:aX mx mn=d
 hr:qa r r=true
 hg:qa g g=true
 m:qa mn mn=true
 ne:qa mn mx=false
 zd:bG d=false
 zm:bG mx=false
theorem WQ(c:G0 r g b mx mn d):Fi (N+1) 6 [.flt r,.flt g,.flt b]=some (.tup [.flt (F1 r g b mx d),.flt (bL d mx),.flt mx]):=by
 refine tl Nn rfl ?_;show oL (Fi N) ([some (.flt r),some (.flt g),some (.flt b)]++aA 9 none) [] f6.body=_;refine o0 (v:=.flt mx) (c.emx▸rfl) (o0 (v:=.flt mn) (c.emn▸rfl) (o0 (v:=.flt d) (c.ed▸rfl) (o0 (v:=.flt mx) (ol rfl) ?_)));refine rE ((wV (ol rfl) (ol rfl) c.m).trans (by rw[c.ne])) pS ?_;refine o0 (wj (ol rfl) (ol rfl) c.zm) (o0 (wj (uJ (ol rfl) (ol rfl)) (ol rfl) c.zd) (o0 (wj (uJ (ol rfl) (ol rfl)) (ol rfl) c.zd) (o0 (wj (uJ (ol rfl) (ol rfl)) (ol rfl) c.zd) ?_)));refine OV (pre:=[some (.flt r),some (.flt g),some (.flt b),some (.flt mx),some (.flt mn),some (.flt d),some (.flt mx),some (.flt (bL d mx)),some (.flt (bL (aX mx r) d)),some (.flt (bL (aX mx g) d)),some (.flt (bL (aX mx b) d))]) c.hr c.hg rfl rfl rfl rfl rfl rfl rfl ?_;exact sd rfl rfl
noncomputable def vp(mx mn:F):F:=bL (bH mx mn) two
noncomputable def B9(mx mn d:F):F:=if Fv (vp mx mn) Do then bL d (bH mx mn)else bL d (aX (aX two mx) mn)
theorem WO(c:G0 r g b mx mn d)(z1:bG (bH mx mn)=false)(z2:bG (aX (aX two mx) mn)=false):
 Fi (N+1) 5 [.flt r,.flt g,.flt b]=some (.tup [.flt (F1 r g b mx d),.flt (vp mx mn),.flt (B9 mx mn d)]):=by
 refine tl Nm rfl ?_;show oL (Fi N) ([some (.flt r),some (.flt g),some (.flt b)]++aA 10 none) [] f5.body=_;refine o0 (v:=.flt mx) (c.emx▸rfl) (o0 (v:=.flt mn) (c.emn▸rfl) (o0 (v:=.flt (bH mx mn)) rfl (o0 (v:=.flt d) (c.ed▸rfl) (o0 (v:=.flt (vp mx mn)) (wj (ol rfl) t9 Rh) ?_))));refine rE ((wV (ol rfl) (ol rfl) c.m).trans (by refine oa c.ne ?_;rfl)) pS ?_;have hs:∀{ss:rG}{u:Option Fl}{w1 w2 w3 w4 w5:Option AV},oL (Fi N) [some (.flt r),some (.flt g),some (.flt b),some (.flt mx),some (.flt mn),some (.flt (bH mx mn)),some (.flt d),some (.flt (vp mx mn)),some (.flt (B9 mx mn d)),w2,w3,w4,w5] [] ss=u ->
  oL (Fi N) [some (.flt r),some (.flt g),some (.flt b),some (.flt mx),some (.flt mn),some (.flt (bH mx mn)),some (.flt d),some (.flt (vp mx mn)),w1,w2,w3,w4,w5] [] (.cons (.ife (.cmp .LtE (.var 7) (.c (.float 4602678819172646912)))
  (.cons (.asg 8 false (.bin .Div (.var 6) (.var 5)))
  .nil)
  (.cons (.asg 8 false (.bin .Div (.var 6) (.bin .Sub (.bin .Sub (.c (.float 4611686018427387904)) (.var 3)) (.var 4))))
  .nil)) ss)=u:=by
  intro ss u w1 w2 w3 w4 w5 hu;by_cases h:Fv (vp mx mn) Do=true
  ·refine y3 ((MJ (x:=vp mx mn) (y:=Do) (ol rfl) t9).trans (by refine oa h ?_;rfl)) (o0 (wj (ol rfl) (ol rfl) z1) pS) ?_;refine rwj hu ?_;unfold B9;refine oa (if_pos h) ?_;rfl
  ·have h':Fv (vp mx mn) Do=false:=by simpa using h
   refine rE ((MJ (x:=vp mx mn) (y:=Do) (ol rfl) t9).trans (by refine oa h' ?_;rfl)) (o0 (wj (ol rfl) (uJ (uJ t9 (ol rfl)) (ol rfl)) z2) pS) ?_;refine rwj hu ?_;unfold B9;refine oa (if_neg h) ?_;rfl
 refine hs ?_;refine o0 (wj (uJ (ol rfl) (ol rfl)) (ol rfl) c.zd) (o0 (wj (uJ (ol rfl) (ol rfl)) (ol rfl) c.zd) (o0 (wj (uJ (ol rfl) (ol rfl)) (ol rfl) c.zd) ?_));refine OV (pre:=[some (.flt r),some (.flt g),some (.flt b),some (.flt mx),some (.flt mn),some (.flt (bH mx mn)),some (.flt d),some (.flt (vp mx mn)),some (.flt (B9 mx mn d)),some (.flt (bL (aX mx r) d)),some (.flt (bL (aX mx g) d)),some (.flt (bL (aX mx b) d))]) c.hr c.hg rfl rfl rfl rfl rfl rfl rfl ?_;exact sd rfl rfl
noncomputable def DM(x:F):Option Int:=match eH x with
 | .fin wC m e=>some (hZ wC m e)
 |_=>none
noncomputable def Kr(i:Nat)(v p q t:F):F×F×F:=if i=0 then(v,t,p)else if i=1 then(q,v,p)else if i=2 then(p,v,t)else if i=3 then(p,q,v)else if i=4 then(t,p,v)else(v,p,q)
noncomputable def pF(s v:F):F:=cr v (aX one s)
noncomputable def qF(s v f:F):F:=cr v (aX one (cr s f))
noncomputable def tF(s v f:F):F:=cr v (aX one (cr s (aX one f)))
noncomputable def weI(x:F×F×F):AV:=.tup [.flt x.1,.flt x.2.1,.flt x.2.2]
noncomputable def K1:F:=0
theorem WS{N:Nat}{h s v f:F}{i:Nat}(hs:qa s s=true)(hz:qa s K1=false)(hi:DM (cr h x6)=some (i:Int))(YT:i<1000)(hf:aX (cr h x6) (cJ (i:Int))=f):
 Fi (N+1) 7 [.flt h,.flt s,.flt v]=some (weI (Kr (i%6) v (pF s v) (qF s v f) (tF s v f))):=by
 refine tl No rfl ?_;show oL (Fi N) ([some (.flt h),some (.flt s),some (.flt v)]++aA 5 none) [] f7.body=_;refine rE ((wV (y:=K1) (ol rfl) t9 hs).trans (by rw[hz])) pS ?_;refine o0 (v:=.int i) (rV (q6 (Ad (ol rfl) t9)) ?_) ?_
 ·show CO [.flt (cr h x6)]=_;unfold CO;unfold DM at hi;cases hD:eH (cr h x6)with
  |fin wC m e =>
   rw[hD]at hi;simp only[f_]at hi;simp only[hD,hi]
  |nan=>rw[hD]at hi;cases hi
  |inf s=>rw[hD]at hi;cases hi
 refine o0 (v:=.flt f) (qp (Ad (ol rfl) t9) (ol rfl) ?_) ?_
 ·have IE:uK (i:Int)=true:=by
   unfold uK;rw[bl];exact decide_eq_true (pG YT rfl)
  show(if uK (i:Int)=true then some (AV.flt (aX (cr h x6) (cJ (i:Int))))else none)=_;rw[if_pos IE,hf]
 refine o0 (v:=.flt (pF s v)) (Ad (ol rfl) (uJ t9 (ol rfl))) ?_;refine o0 (v:=.flt (qF s v f)) (Ad (ol rfl) (uJ t9 (Ad (ol rfl) (ol rfl)))) ?_;refine o0 (v:=.flt (tF s v f)) (Ad (ol rfl) (uJ t9 (Ad (ol rfl) (uJ t9 (ol rfl))))) ?_;refine o0 (v:=.int ((i%6:Nat):Int)) (r_ (y:=6) (ol rfl) oY (by decide)) ?_;have hj:i%6<6:=bj _ (by decide);generalize i%6=j at *;have no:∀{c:Nat}{σ:oH}{ρ:oI},ρ[3]?=some (some (.int (j:Int)))->j≠c->ev (Fi N) σ ρ (.cmp .Eq (.var 3) (.c (.int (c:Int))))=some (.bool false):=λh3 hc=>(Bp (ol h3) oY).trans (by rw[decide_eq_false hc]);have Ch:∀{c:Nat}{σ:oH}{ρ:oI},ρ[3]?=some (some (.int (j:Int)))->j=c->ev (Fi N) σ ρ (.cmp .Eq (.var 3) (.c (.int (c:Int))))=some (.bool true):=λh3 hc=>(Bp (ol h3) oY).trans (by rw[decide_eq_true hc]);by_cases c0:j=0
 ·refine(wm (Ch (c:=0) rfl c0) (sd rfl rfl)).trans ?_;subst c0;rfl
 refine rE (no (c:=0) rfl c0) pS ?_;by_cases c1:j=1
 ·refine(wm (Ch (c:=1) rfl c1) (sd rfl rfl)).trans ?_;subst c1;rfl
 refine rE (no (c:=1) rfl c1) pS ?_;by_cases c2:j=2
 ·refine(wm (Ch (c:=2) rfl c2) (sd rfl rfl)).trans ?_;subst c2;rfl
 refine rE (no (c:=2) rfl c2) pS ?_;by_cases c3:j=3
 ·refine(wm (Ch (c:=3) rfl c3) (sd rfl rfl)).trans ?_;subst c3;rfl
 refine rE (no (c:=3) rfl c3) pS ?_;by_cases c4:j=4
 ·refine(wm (Ch (c:=4) rfl c4) (sd rfl rfl)).trans ?_;subst c4;rfl
 refine rE (no (c:=4) rfl c4) pS ?_;have c5:j=5:=by lia
 refine(wm (Ch (c:=5) rfl c5) (sd rfl rfl)).trans ?_;subst c5;rfl
noncomputable def se{β:Type}(n:Nat)(k:Nat->β):β:=match n with
 |0=>k 0
 |n+1=>k (n+1)
theorem wY{β:Type}(n:Nat)(k:Nat->β):se n k=k n:=by cases n<;>rfl
noncomputable def tx{β:Type}(x:UInt64)(k:UInt64->β):β:=se x.toNat λn=>k (UInt64.ofNat n)
theorem BA{β:Type}(x:UInt64)(k:UInt64->β):tx x k=k x:=by
 unfold tx;rw[wY]
 congr 1
 exact UInt64.ofNat_toNat
noncomputable def yW(x y:F):Bool:=x.toNat==y.toNat
theorem z0(h:yW x y=true):x=y:=UInt64.toNat_inj.mp (eq_of_beq h)
noncomputable def qf(a:Nat):F:=bI false a 64
noncomputable def qB(a:Nat):F:=bI false a 4
noncomputable def BZ(sh va:Nat):F:=bI false (va*(8-sh)) 32
noncomputable def B8(sh va:Nat):F:=bI false (sh*va) (min (va*(8-sh)) (32-va*(8-sh)))
noncomputable def Bc(k a:Nat):Bool:=tx (cr (bH (cJ (k:Int)) (qf a)) x6) λm=>(match DM m with|some i=>i==((6*k+6*a/64:Nat):Int)|none=>false)&&yW (aX m (cJ ((6*k+6*a/64:Nat):Int))) (qf (6*a%64))
noncomputable def Jr(r g b mx d:F):F:=tx (bL (aX mx r) d) λrc=>tx (bL (aX mx g) d) λgc=>tx (bL (aX mx b) d) λbc=>tx (B6 r g mx rc gc bc) λh=>DC h
theorem ZM(r g b mx d:F):Jr r g b mx d=F1 r g b mx d:=by
 unfold Jr F1;simp only[BA]
noncomputable def E7(a sh va:Nat):Bool:=tx (qB sh) λs=>tx (qB va) λv=>tx (qf (6*a%64)) λf=>tx (pF s v) λp=>tx (qF s v f) λq=>tx (tF s v f) λt =>
 match Kr (6*a/64%6) v p q t with
 |(r,g,b)=>tx (zv r g b) λmx=>tx (zu r g b) λmn=>tx (aX mx mn) λd =>
  qa s s&&!qa s K1&&qa r r&&qa g g&&qa mn mn&&!qa mn mx&&!bG d&&!bG mx&&!bG (bH mx mn)&&!bG (aX (aX two mx) mn) &&
  yW (Jr r g b mx d) (qf a)&&yW (bL d mx) (qB sh)&&yW mx (qB va)&&yW (vp mx mn) (BZ sh va)&&yW (B9 mx mn d) (B8 sh va)
noncomputable def xA(a n:Nat):Bool:=(bp a n).all λa=>(bp 1 4).all λsh=>(bp 1 4).all λva=>E7 a sh va
theorem T1:xA 0 8=true:=by decide +kernel
theorem T2:xA 8 8=true:=by decide +kernel
theorem T3:xA 16 8=true:=by decide +kernel
theorem T4:xA 24 8=true:=by decide +kernel
theorem T5:xA 32 8=true:=by decide +kernel
theorem T6:xA 40 8=true:=by decide +kernel
theorem T7:xA 48 8=true:=by decide +kernel
theorem T8:xA 56 8=true:=by decide +kernel
theorem Sn:(bp 0 64).all (λa=>Bc 0 a)=true:=by decide +kernel
theorem So:(bp 0 64).all (λa=>Bc 1 a)=true:=by decide +kernel
theorem Sp:(bp 0 64).all (λa=>Bc 2 a)=true:=by decide +kernel
theorem Sq:(bp 0 64).all (λa=>Bc 3 a)=true:=by decide +kernel
theorem T9(ha:a<64)(h1:1<=sh)(h2:sh<=4)(h3:1<=va)(h4:va<=4):E7 a sh va=true:=by
 have go:∀i,xA (8*i) 8=true->8*i<=a->a<8*i+8->E7 a sh va=true:=λi h l u=>by
  have e1:=aj.mp h a (by rw[cL];exact⟨l,u⟩);have e2:=aj.mp e1 sh (by rw[cL];exact⟨h1,aM h2 (by decide)⟩);exact aj.mp e2 va (by rw[cL];exact⟨h3,aM h4 (by decide)⟩)
 have H:∀i∈ak 8,xA (8*i) 8=true:=oZ T1 (oZ T2 (oZ T3 (oZ T4 (oZ T5 (oZ T6 (oZ T7 (oZ T8 wg)))))));exact go _ (H _ (a0.mpr (iT ha))) (nC a 8) (lZ a (by decide))
theorem Sr(hk:k<4)(ha:a<64):Bc k a=true:=by
 have:k=0\/k=1\/k=2\/k=3:=zl4 hk;rcases this with rfl|rfl|rfl|rfl
 ·exact aj.mp Sn a (by rw[cL];simp[*])
 ·exact aj.mp So a (by rw[cL];simp[*])
 ·exact aj.mp Sp a (by rw[cL];simp[*])
 ·exact aj.mp Sq a (by rw[cL];simp[*])
theorem wbc{N:Nat}{k a sh va:Nat}(hk:k<4)(ha:a<64)(h1:1<=sh)(h2:sh<=4)(h3:1<=va)(h4:va<=4):
 ∃r g b:F,Fi (N+1) 7 [.flt (bH (cJ (k:Int)) (qf a)),.flt (qB sh),.flt (qB va)]=some (.tup [.flt r,.flt g,.flt b]) /\
  Fi (N+1) 6 [.flt r,.flt g,.flt b]=some (.tup [.flt (qf a),.flt (qB sh),.flt (qB va)]) /\
  Fi (N+1) 5 [.flt r,.flt g,.flt b]=some (.tup [.flt (qf a),.flt (BZ sh va),.flt (B8 sh va)]):=by
 have hb:=Sr hk ha;have hc:=T9 ha h1 h2 h3 h4;unfold Bc at hb;rw[BA,aO]at hb;unfold E7 at hc;simp only[BA]at hc;generalize Zq:Kr (6*a/64%6) (qB va) (pF (qB sh) (qB va)) (qF (qB sh) (qB va) (qf (6*a%64))) (tF (qB sh) (qB va) (qf (6*a%64)))=rgb at hc;obtain⟨r,g,b⟩:=rgb;simp only[aO,dQ]at hc;refine p_ hc λz1 SW=>?_;obtain⟨⟨⟨⟨⟨⟨⟨⟨⟨⟨⟨⟨⟨c1,c2⟩,c3⟩,c4⟩,c5⟩,c6⟩,c7⟩,c8⟩,c9⟩,CL⟩,Bg⟩,CM⟩,CN⟩,SV⟩:=z1;have col:G0 r g b (zv r g b) (zu r g b) (aX (zv r g b) (zu r g b)):=⟨rfl,rfl,rfl,c3,c4,c5,c6,c7,c8⟩
 rw[ZM]at Bg;have yi:=z0 Bg;have yT:=z0 CM;have yU:=z0 CN;have UV:=z0 SV;have UW:=z0 SW;refine Jz r g b ?_ ?_ ?_
 ·have hi:DM (cr (bH (cJ (k:Int)) (qf a)) x6)=some ((6*k+6*a/64:Nat):Int):=by
   have:=hb.1
   induction e:DM (cr (bH (cJ (k:Int)) (qf a)) x6)using aa with
   |none=>rw[e]at this;cases this
   |some i=>rw[e]at this;rw[eq_of_beq this]
  have:=WS (N:=N) (v:=qB va) c1 c2 hi (by lia) (z0 hb.2);rw[this,show(6*k+6*a/64)%6=6*a/64%6 from Nat.mul_add_mod ..,Zq];rfl
 ·rw[WQ col,yi,yT];rw[yU]
 ·rw[WO col c9 CL,yi,UV,UW]
theorem yl{a b:Ex}{x y:Nat}(h1:ev Φ σ ρ a=some (.int x))(h2:ev Φ σ ρ b=some (.int y))(hy:0<y)(hx:x<2^64):ev Φ σ ρ (.bin .Div a b)=some (.flt (bI false x y)):=by
 refine qp h1 h2 ?_;have e1:(decide ((x:Int)<0) != decide ((y:Int)<0))=false:=by
  rw[decide_eq_false (by simp),decide_eq_false (by simp)];rfl
 show(if(y:Int)=0\/gL (bI (decide ((x:Int)<0) != decide ((y:Int)<0)) (x:Int).natAbs (y:Int).natAbs)=true then none else some (AV.flt (bI (decide ((x:Int)<0) != decide ((y:Int)<0)) (x:Int).natAbs (y:Int).natAbs)))=_;refine oa e1 ?_;refine oa (bl _) ?_;refine oa (bl _) ?_;rw[if_neg];rintro(h|h)
 ·lia
 ·exact kC hy (ab hx (aD (by decide) (by decide))) h
theorem MN(h1:ev Φ σ ρ a=some x)(h2:ev Φ σ ρ b=some y)(h3:ev Φ σ ρ c=some z):ev Φ σ ρ (.tup (.cons a (.cons b (.cons c .nil))))=some (.tup [x,y,z]):=C4 (uo h1 h2 h3) (show 3<=100000 by decide)
theorem ML(h1:ev Φ σ ρ a=some (.tup [.flt x,.flt y,.flt z]))(h2:ev Φ σ ρ b=some (.tup [.flt x,.flt y,.flt z]))(hx:qa x x=true)(hy:qa y y=true)(hz:qa z z=true):ev Φ σ ρ (.cmp .NotEq a b)=some (.bool false):=by
 refine qS h1 h2 ?_;have e0:∀u:F,qa u u=true->qR (.flt u) (.flt u)=some true:=λu hu=>by
  show(if(bM u u==some .eq)=true then some (bM u u==some .eq)else none)=_;unfold qa at hu;refine oa hu ?_;rfl
 show(sN qR [.flt x,.flt y,.flt z] [.flt x,.flt y,.flt z]).map (!·)=_;simp only[CY,e0 x hx,e0 y hy,e0 z hz];rfl
theorem C_(x y:Nat)(hy:0<y)(hx:x<2^64):qa (bI false x y) (bI false x y)=true:=by
 have h1:gL (bI false x y)=false:=by
  have:=kC (sg:=false) (n:=x) hy (ab hx (aD (by decide) (by decide)));simpa using this
 have h2:iE (bI false x y)=false:=by unfold bI;exact PySem.W.isNaN_pack false (PySem.W.roundMag_le x y)
 unfold qa bM;unfold gL at h1;unfold iE at h2;cases e:eH (bI false x y)with
 |nan=>rw[e]at h2;cases h2
 |inf s=>rw[e]at h1;cases h1
 |fin s m ex =>
  show(some (compare (iF s m ex s m ex).1 (iF s m ex s m ex).2.1)==some kJ)=true;have:(iF s m ex s m ex).1=(iF s m ex s m ex).2.1:=rfl;refine oa this ?_;have:∀z:Int,compare z z=kJ:=λz=>by
   refine oa (Int.compare_eq_ite_lt _ _) ?_;simp
  refine oa (this _) ?_;rfl
section
variable (A:Nat)
noncomputable def rQ(t:Nat):Nat:=(A%64+t%3*(1+A/64%31))%64
noncomputable def xe(t:Nat):Nat:=A/1984/16^(t/3)
noncomputable def yD(t:Nat):Nat:=1+xe A t%4
noncomputable def AU(t:Nat):Nat:=1+xe A t/4%4
noncomputable def qD(n:Nat):List AV:=(ak n).map λt=>.flt (qf (rQ A t))
end
noncomputable def Pw:rG:=match Ig.body with | .cons _ (.cons (.for_ _ _ b) _)=>b|_=>.nil
theorem wbd{N:Nat}{A t:Nat}{n:AV}{c4 c5 c6 c7 c8 c9 CL Bg CM CN:Option AV}(ht:t<15){row:List AV}(hr:row.length<=1000):
 ∃e4 e5 e6 e7 e8 e9 Bk yi yT yU,oL (Fi (N+1)) [some (.int A),some n,some (.ref 0),some (.int t),c4,c5,c6,c7,c8,c9,CL,Bg,CM,CN] [.list row] Pw =
  some (.next [some (.int A),some n,some (.ref 0),some (.int t),e4,e5,e6,e7,e8,e9,Bk,yi,yT,yU] [.list (row++[.flt (qf (rQ A t))])]):=by
 have Zw:xe A t%4<4:=bj _ (by decide);have ZR:xe A t/4%4<4:=bj _ (by decide);have hh:rQ A t<64:=bj _ (by decide);have Jm:yD A t=1+xe A t%4:=rfl;have ZS:AU A t=1+xe A t/4%4:=rfl;have Jk:yD A t<=4:=gu (cP Zw) 1;have Js:AU A t<=4:=gu (cP ZR) 1;refine wW (wbc (N:=N) (k:=t%4) (a:=rQ A t) (sh:=yD A t) (va:=AU A t) (bj _ (by decide)) hh (aV 1 (xe A t%4)) Jk (aV 1 (xe A t/4%4)) Js) λr g b l7 l6 l5=>?_;have e1:8-yD A t=8-yD A t:=rfl;have p16:16^(t/3)<2^64:=aM (aD (by decide) (show t/3<=4 by lia)) (by decide);have v7:AU A t*(8-yD A t)<=28:=ae (di Js (lY (aV 1 (xe A t%4)) 8)) (by decide);have v7':4<=AU A t*(8-yD A t):=di (aV 1 (xe A t/4%4)) (lY Jk 8);have sv:yD A t*AU A t<=16:=di Jk Js;generalize YS:xe A t=mo at *;generalize Oc:yD A t=s at *;generalize hgv:AU A t=v at *;generalize YQ:rQ A t=h at *;refine⟨some (.int mo),some (.int s),some (.int v),some (.int ((v*(8-s):Nat):Int)),some (.flt (qf h)),some (.flt r),some (.flt g),some (.flt b),some (.tup [.flt (qf h),.flt (qB s),.flt (qB v)]),some (.tup [.flt (qf h),.flt (BZ s v),.flt (B8 s v)]),?_⟩;have o9:∀{x:Nat},x<64->x<2^64:=λh=>bW h (by decide);have w4:ev (Fi (N+1)) [.list row] [some (.int A),some n,some (.ref 0),some (.int t),c4,c5,c6,c7,c8,c9,CL,Bg,CM,CN] (.bin .FloorDiv (.bin .FloorDiv (.var 0) (.c (.int 1984))) (.bin .Pow (.c (.int 16)) (.bin .FloorDiv (.var 3) (.c (.int 3)))))=some (.int (mo:Nat)):=by
  refine rwj YS ?_;exact wi (wi (y:=1984) (ol rfl) oY (by decide) (by decide)) (wk (x:=16) oY (wi (y:=3) (ol rfl) oY (by decide) (by decide)) (by decide) (by lia)) (by have:=fq (n:=t/3) (show 0<16 by decide);lia) p16
 refine o0 w4 ?_;refine y2 (vs:=[.int s,.int v]) (um ?_ (um ?_ yX)) rfl ?_
 ·refine oa Jm ?_;exact vc (x:=1) oY (r_ (y:=4) (ol rfl) oY (by decide))
 ·refine oa ZS ?_;exact vc (x:=1) oY (r_ (y:=4) (wi (y:=4) (ol rfl) oY (by decide) (by decide)) oY (by decide))
 refine o0 (v:=.int ((v*(8-s):Nat):Int)) (yZ (ol rfl) (C3 (x:=8) oY (ol rfl) (by lia)) (eN (o9 (by lia)))) ?_;refine o0 (v:=.flt (qf h)) ?_ ?_
 ·refine yl (x:=h) (y:=64) ?_ oY (by decide) (o9 hh);refine rwj YQ ?_;exact r_ (y:=64) (vc (r_ (y:=64) (ol rfl) oY (by decide)) (yZ (r_ (y:=3) (ol rfl) oY (by decide)) (vc (x:=1) oY (r_ (y:=31) (wi (y:=64) (ol rfl) oY (by decide) (by decide)) oY (by decide))) (eN (o9 (by lia))))) oY (by decide)
 refine Ah (vs:=[.flt r,.flt g,.flt b]) (qT (vs:=[.flt (bH (cJ ((t%4:Nat):Int)) (qf h)),.flt (qB s),.flt (qB v)]) (uo ?_ ?_ ?_) rfl l7) rfl ?_
 ·refine qp (r_ (y:=4) (ol rfl) oY (by decide)) (ol rfl) ?_;have IE:uK ((t%4:Nat):Int)=true:=by
   unfold uK;refine oa (bl _) ?_;exact decide_eq_true (by lia)
  show(if uK ((t%4:Nat):Int)=true then _ else _)=_;refine oa (if_pos IE) ?_;rfl
 ·exact yl (y:=4) (ol rfl) oY (by decide) (o9 (by lia))
 ·exact yl (y:=4) (ol rfl) oY (by decide) (o9 (by lia))
 refine y2 (vs:=[.tup [.flt (qf h),.flt (qB s),.flt (qB v)],.tup [.flt (qf h),.flt (BZ s v),.flt (B8 s v)]]) (um (qT (vs:=[.flt r,.flt g,.flt b]) (uo (ol rfl) (ol rfl) (ol rfl)) rfl l6) (um (qT (vs:=[.flt r,.flt g,.flt b]) (uo (ol rfl) (ol rfl) (ol rfl)) rfl l5) yX)) rfl ?_;have fh:qa (qf h) (qf h)=true:=C_ _ _ (by decide) (o9 hh);refine rE (Fh (ML (ol rfl) (MN (ol rfl) (yl (y:=4) (ol rfl) oY (by decide) (o9 (by lia))) (yl (y:=4) (ol rfl) oY (by decide) (o9 (by lia)))) fh (C_ _ _ (by decide) (o9 (by lia))) (C_ _ _ (by decide) (o9 (by lia)))) (ML (ol rfl) (MN (ol rfl) (yl (y:=32) (ol rfl) oY (by decide) (o9 (by lia))) (yl (x:=s*v) (y:=min (v*(8-s)) (32-v*(8-s))) (yZ (ol rfl) (ol rfl) (eN (o9 (by lia)))) ?_ (by lia) (o9 (by lia)))) fh (C_ _ _ (by decide) (o9 (by lia))) (C_ _ _ (by lia) (o9 (by lia))))) pS ?_
 ·refine rV (rW (ol rfl) (C3 (x:=32) oY (ol rfl) (by lia))) ?_;show some (AV.int (if((32-v*(8-s):Nat):Int)<((v*(8-s):Nat):Int)then((32-v*(8-s):Nat):Int)else((v*(8-s):Nat):Int)))=_;refine congrArg (λz=>some (AV.int z)) ?_;split<;>lia
 refine Bx (i:=0) (xs:=row) (v:=.flt (qf h)) (ol rfl) ?_ rfl (by lia) (λj=>by simp) pS;have h2:t%2=0\/t%2=1:=by lia
 refine yY (x:=if t%2=0 then .tup [.flt (qf h),.flt (qB s),.flt (qB v)]else .tup [.flt (qf h),.flt (BZ s v),.flt (B8 s v)]) (y:=.int 0) (yY (x:=.tup [.tup [.flt (qf h),.flt (qB s),.flt (qB v)],.tup [.flt (qf h),.flt (BZ s v),.flt (B8 s v)]]) (y:=.int ((t%2:Nat):Int)) rfl (r_ (y:=2) (ol rfl) oY (by decide)) ?_) rfl ?_
 ·rcases h2 with e|e<;>rw[e]<;>rfl
 ·rcases h2 with e|e<;>rw[e]<;>rfl
theorem Nz(k:Nat)(σ:oH){α:Type}(f:α->F):∀l:List α,pq (o8 σ (k+1)) (l.map λx=>AV.flt (f x))=some (l.map λx=>AV.flt (f x)):=by
 intro vv
 induction vv with
 |nil =>
  exact rfl
 |cons a l ih =>
  refine oa aU ?_;rw[uv];have:o8 σ (k+1) (.flt (f a))=some (.flt (f a)):=rfl;refine oa this ?_;simp only[ih]
theorem WJ(A n:Nat)(hn:n<=5):Fi (N+2) 17 [.int A,.int n]=some (.lst (qD A (3*n))):=by
 refine tl (N:=N+1) Xm rfl ?_;show oL (Fi (N+1)) [some (.int A),some (.int n),none,none,none,none,none,none,none,none,none,none,none,none] [] Ig.body=_;refine C7 (v:=.ref 0) (ox:=[.list []]) rfl ?_;have lp:=Dd (f:=λρ σ v=>oL (Fi (N+1)) (ρ.set 3 (some v)) σ Pw) (n:=3*n) (ρ:=[some (.int A),some (.int n),some (.ref 0),none,none,none,none,none,none,none,none,none,none,none]) (σ:=[.list []])
  (I:=λk ρ σ=>∃e3 e4 e5 e6 e7 e8 e9 Bk yi yT yU,ρ=[some (.int A),some (.int n),some (.ref 0),e3,e4,e5,e6,e7,e8,e9,Bk,yi,yT,yU]/\σ=[.list (qD A k)])
  ⟨none,none,none,none,none,none,none,none,none,none,none,rfl,rfl⟩ ?_
 ·obtain⟨oC,ox,h1,e3,e4,e5,e6,e7,e8,e9,Bk,yi,yT,yU,rfl,rfl⟩:=lp;refine xJ (vs:=oz (ak (3*n))) (z9 (wU (yZ (x:=3) oY (ol rfl) (eN (by decide))) (by lia))) h1 ?_;refine sd (v:=.ref 0) rfl ?_;show(pq (o8 [.list (qD A (3*n))] 5) (qD A (3*n))).map AV.lst=_;have:=Nz 4 [.list (qD A (3*n))] (λt=>qf (rQ A t)) (ak (3*n));exact(congrArg (bJ AV.lst) this).trans rfl
 ·rintro k ρ σ hk ⟨e3,e4,e5,e6,e7,e8,e9,Bk,yi,yT,yU,rfl,rfl⟩;obtain⟨w4,w5,w6,w7,w8,w9,w10,w11,w12,w13,hw⟩:=wbd (N:=N) (A:=A) (t:=k) (n:=.int n) (c4:=e4) (c5:=e5) (c6:=e6) (c7:=e7) (c8:=e8) (c9:=e9) (CL:=Bk) (Bg:=yi) (CM:=yT) (CN:=yU) (by lia) (row:=qD A k) (by unfold qD;refine oa (ac _) ?_;refine oa bP ?_;lia);refine⟨_,_,hw,some (.int k),w4,w5,w6,w7,w8,w9,w10,w11,w12,w13,rfl,?_⟩;unfold qD;refine oa cA ?_;refine oa bo ?_;rfl
noncomputable def tV(nl:List Nat)(i:Nat)(c:List Nat)(l:Nat):Bool:=nl.all λj=>!(decide (j<i)&&decide (c.getD j 0=l))
noncomputable def qx(h:Nat)(oi:List (List Nat)):Nat->List (List Nat)
 |0=>[[]]
 |i+1=>(qx h oi i).flatMap λc=>((ak h).filter λl=>tV (oi.getD i []) i c l).map λl=>c++[l]
theorem wdo:qx h oi 0=[[]]:=rfl
theorem B4:qx h oi (i+1) =
 kY
  (λc=>jk (λl=>c++[l]) (oh (λl=>tV (List.getD oi i []) i c l) (ak h)))
  (qx h oi i):=rfl
theorem wdq(h:Nat)(oi:List (List Nat)):∀i,∀c∈qx h oi i,c.length=i/\∀l∈c,l<h:=by
 intro vv
 induction vv with
 |zero =>
  intro c hc;rw[wdo,aI]at hc;subst hc;exact⟨rfl,λl hl=>by cases hl⟩
 |succ i ih =>
  intro c hc;rw[B4]at hc;refine oB (fM.mp hc) λc0 h0 h1=>?_;refine oB (aE.mp h1) ?_;rintro l hl rfl;have sr:=ih c0 h0;have o9:=a0.mp (ga.mp hl).1;refine⟨by refine oa aq ?_;refine oa sr.1 ?_;rfl,λl' uO=>?_⟩;rw[aW,aI]at uO;rcases uO with h|rfl
  ·exact sr.2 l' h
  ·exact o9
theorem W2{α β:Type}(k:Nat)(f:α->List β):∀l:List α,(∀a∈l,(f a).length<=k)->(l.flatMap f).length<=l.length*k:=by
 intro vv
 induction vv with
 |nil =>
  intro _;simp
 |cons a l ih =>
  intro h;have h1:=h a (by simp);have h2:=ih (λb hb=>h b (by simp[hb]));rw[b0,aq,aF,ft,gT]
  lia
theorem DZ(h:Nat)(oi:List (List Nat)):∀i,(qx h oi i).length<=h^i
 |0=>ai 1
 |i+1=>by
  have ih:=DZ h oi i;rw[B4];refine ae (W2 h _ _ λc Y=>?_) ?_
  ·refine oa (ac _) ?_;exact ae (fJ _ _) (by refine oa bP ?_;exact ai _)
  ·refine oa (fE _ _) ?_;exact di ih (ai _)
theorem VY{ρ:oI}{α β:Type}{x:Nat}{Pk Pm:It}{ifs:qh}{oK:Ex}{cs:List α}{f1:α->AV}{ds:List β}{f2:β->AV}{G:α->β->List AV}(h1:r9 Φ σ ρ Pk=some (cs.map f1))(hx:ρ.length=x)(hl:cs.length<=100000)(h2:∀v,r9 Φ σ (ρ++[some v,none]) Pm=some (ds.map f2))(hW:ds.length<=100000)(h3:∀c∈cs,∀d∈ds,(match qZ Φ σ (ρ++[some (f1 c),some (f2 d)]) ifs with
 |some true=>(ev Φ σ (ρ++[some (f1 c),some (f2 d)]) oK).map λu=>[u]
 |some false=>some []
 |none=>none)=some (G c d)) (hr:(cs.flatMap λc=>ds.flatMap (G c)).length<=100000):
 ev Φ σ ρ (.comp 2 (.cons x Pk .nil (.cons (x+1) Pm ifs (.done oK))))=some (.lst (cs.flatMap λc=>ds.flatMap (G c))):=by
 subst hx;have hs:∀v,(ρ++aA 2 none).set ρ.length (some v)=ρ++[some v,none]:=λv=>by
  rw[eh,if_neg (aJ (cG ρ)),ci];rfl
 have Zv:∀v w,(ρ++[some v,none]).set (ρ.length+1) (some w)=ρ++[some v,some w]:=λv w=>by
  rw[eh,if_neg (by simp)];rw[show ρ.length+1-ρ.length=1 by simp];rfl
 have h0:(ρ++aA 2 none)[ρ.length]?=some none:=by
  rw[ay (ai _),ci];rfl
 have X0:∀v,(ρ++[some v,none])[ρ.length+1]?=some none:=λv=>by
  rw[ay (eY dL),show ρ.length+1-ρ.length=1 by simp];rfl
 have fm:∀{γ:Type}{δ:Type} (f:AV->Option (List δ)) (g:γ->AV) (l:List γ),tS f (l.map g)=tS (λa=>f (g a)) l:=λf g l=>by
  induction l with
  |nil=>rfl
  |cons a l ih=>rw[aU,Fu,Fu,ih]
 rw[H0,HK,h1];simp only[h0];rw[if_pos (by rw[ac];exact hl),fm,Io (g:=λc=>ds.flatMap (G c)) (λc hc=>?_)]
 ·show bJ AV.lst (Dj (some _))=_;unfold Dj;simp only[];rw[if_pos hr];rfl
 ·rw[hs (f1 c)];have e1:qZ Φ σ (ρ++[some (f1 c),none]) .nil=some true:=by rw[z8]
  simp only[e1];rw[Mx,h2 (f1 c)];simp only[X0 (f1 c)];rw[if_pos (by rw[ac];exact hW),fm];refine Io (λd hd=>?_);rw[Zv (f1 c) (f2 d),<-h3 c hc d hd]
  induction qZ Φ σ (ρ++[some (f1 c),some (f2 d)]) ifs using aa with
  |none=>rfl
  |some b=>cases b<;>rfl
theorem MI(h1:ev Φ σ ρ a=some (.lst l)):ev Φ σ ρ (.cmp .Eq a (.list .nil))=some (.bool (decide (l.length=0))):=by
 refine qS (y:=.lst []) h1 (C2 (vs:=[]) (by rw[MV]) (by decide)) ?_;show(if l.length=([]:List AV).length then sN qR l []else some false)=_
 induction l using af with
 |nil=>rfl
 |cons a l=>simp
noncomputable def G2(A:Nat):Prop:=∀l l',l<3->l'<3->qa (qf (rQ A l)) (qf (rQ A l'))=decide (l=l')
noncomputable def so(A:Nat)(c:List Nat):AV:=.lst (c.map λl=>.flt (qf (rQ A l)))
theorem wgh(hi:i<n)(hl:l<3):(qD A (3*n))[3*i+l]?=some (.flt (qf (rQ A l))):=by
 unfold qD;refine oa bf ?_;refine oa (gj (by lia)) ?_;have:rQ A (3*i+l)=rQ A l:=by
  unfold rQ;refine oa (show(3*i+l)%3=l%3 by simp) ?_;rfl
 show some (AV.flt (qf (rQ A (3*i+l))))=_;refine oa this ?_;rfl
theorem wdr{N:Nat}{oi:List (List Nat)}{A h i:Nat}(hi:i<oi.length)(hn:oi.length<=5)(hh:h<=3)(H:G2 A)(Dy:∀j∈oi.getD i [],j<oi.length)(wv:(oi.getD i []).length<=5):
 ev (Fi N) [] [some (qn oi),some (.lst (qD A (3*oi.length))),some (.int h),some (.lst ((qx h oi i).map (so A))),some (.int i)]
  (.comp 2 (.cons 5 (.val (.var 3)) .nil (.cons 6 (.range (.cons (.var 2) .nil)) (.cons (.cmp .Eq (.comp 1 (.cons 7 (.val (.idx (.var 0) (.var 4))) (.cons (.and (.cons (.cmp .Lt (.var 7) (.var 4)) (.cons (.cmp .Eq (.idx (.var 5) (.var 7)) (.idx (.var 1) (.bin .Add (.bin .Mult (.c (.int 3)) (.var 4)) (.var 6)))) .nil))) .nil) (.done (.var 7)))) (.list .nil)) .nil) (.done (.bin .Add (.var 5) (.list (.cons (.idx (.var 1) (.bin .Add (.bin .Mult (.c (.int 3)) (.var 4)) (.var 6))) .nil)))))))
  = some (.lst ((qx h oi (i+1)).map (so A))):=by
 have OD:=DZ h oi i;have whP:=DZ h oi (i+1);have Jf:h^i<=1000:=ae (gq hh i) (ae (aD (by decide) (show i<=5 by lia)) (by decide));have OB:h^(i+1)<=1000:=ae (gq hh (i+1)) (ae (aD (by decide) (show i+1<=5 from ab hi hn)) (by decide));have AC:(qD A (3*oi.length)).length<=15:=by unfold qD;refine oa (ac _) ?_;refine oa bP ?_;lia
 have QU:∀{ρ:oI}{l:Nat},l<3->ρ[1]?=some (some (.lst (qD A (3*oi.length))))->ρ[4]?=some (some (.int (i:Int)))->ρ[6]?=some (some (.int (l:Int)))->ev (Fi N) [] ρ (.idx (.var 1) (.bin .Add (.bin .Mult (.c (.int 3)) (.var 4)) (.var 6)))=some (.flt (qf (rQ A l))):=λ{ρ l} hl g1 g4 g6 =>
  tQ (k:=3*i+l) (ol g1) (vc (yZ (x:=3) oY (ol g4) (eN (by decide))) (ol g6)) (wgh hi hl) (pG AC rfl)
 have body:∀c∈qx h oi i,∀l,l<h->(match qZ (Fi N) [] ([some (qn oi),some (.lst (qD A (3*oi.length))),some (.int h),some (.lst ((qx h oi i).map (so A))),some (.int i)]++[some (so A c),some (.int l)]) (.cons (.cmp .Eq (.comp 1 (.cons 7 (.val (.idx (.var 0) (.var 4))) (.cons (.and (.cons (.cmp .Lt (.var 7) (.var 4)) (.cons (.cmp .Eq (.idx (.var 5) (.var 7)) (.idx (.var 1) (.bin .Add (.bin .Mult (.c (.int 3)) (.var 4)) (.var 6)))) .nil))) .nil) (.done (.var 7)))) (.list .nil)) .nil)with
  |some true=>(ev (Fi N) [] ([some (qn oi),some (.lst (qD A (3*oi.length))),some (.int h),some (.lst ((qx h oi i).map (so A))),some (.int i)]++[some (so A c),some (.int l)]) (.bin .Add (.var 5) (.list (.cons (.idx (.var 1) (.bin .Add (.bin .Mult (.c (.int 3)) (.var 4)) (.var 6))) .nil)))).map λu=>[u]
  |some false=>some []
  |none=>none)=some (if tV (oi.getD i []) i c l then[so A (c++[l])]else[]):=by
  intro c hc l hl;refine p_ (wdq h oi i c hc) λhcl FI=>?_;have inner:ev (Fi N) [] ([some (qn oi),some (.lst (qD A (3*oi.length))),some (.int h),some (.lst ((qx h oi i).map (so A))),some (.int i)]++[some (so A c),some (.int l)]) (.comp 1 (.cons 7 (.val (.idx (.var 0) (.var 4))) (.cons (.and (.cons (.cmp .Lt (.var 7) (.var 4)) (.cons (.cmp .Eq (.idx (.var 5) (.var 7)) (.idx (.var 1) (.bin .Add (.bin .Mult (.c (.int 3)) (.var 4)) (.var 6)))) .nil))) .nil) (.done (.var 7))))=some (.lst (oz ((oi.getD i []).filter λj=>decide (j<i)&&decide (c.getD j 0=l)))):=by
   have vR:r9 (Fi N) [] ([some (qn oi),some (.lst (qD A (3*oi.length))),some (.int h),some (.lst ((qx h oi i).map (so A))),some (.int i)]++[some (so A c),some (.int l)]) (.val (.idx (.var 0) (.var 4)))=some (oz (oi.getD i [])):=by
    have:ev (Fi N) [] ([some (qn oi),some (.lst (qD A (3*oi.length))),some (.int h),some (.lst ((qx h oi i).map (so A))),some (.int i)]++[some (so A c),some (.int l)]) (.idx (.var 0) (.var 4))=some (.lst (oz (oi.getD i []))):=by
     refine tQ (l:=oi.map λl=>.lst (oz l)) (k:=i) (ol rfl) (ol rfl) ?_ (by refine oa (ac _) ?_;exact pG hn rfl);refine oa bf ?_;refine oa am ?_;refine oa (au hi) ?_;rfl
    rewrite [C0];refine oa this ?_;rfl
   refine(Aa (x:=7) (vs:=oz (oi.getD i [])) (p:=λv=>match v with | .int j=>decide (j.toNat<i)&&decide (c.getD j.toNat 0=l)|_=>false) (g:=id) vR rfl (by refine oa (ac _) ?_;exact pG wv rfl) (λv hv=>?_) (λv hv Y=>rfl)).trans ?_
   ·refine oB (aE.mp hv) ?_;rintro j hj rfl;have wu:=Dy j hj;show _=some (decide ((j:Int).toNat<i)&&decide (c.getD (j:Int).toNat 0=l));refine oa (aT _) ?_;by_cases hji:j<i
    ·refine xD (xG (vb ((Bs (x:=j) (y:=i) (ol rfl) (ol rfl)).trans (by refine oa (decide_eq_true hji) ?_;rfl)) ?_));refine(xD (wV (x:=qf (rQ A (c.getD j 0))) (y:=qf (rQ A l)) (tQ (l:=c.map λl=>.flt (qf (rQ A l))) (k:=j) (ol rfl) (ol rfl) ?_ (by refine oa (ac _) ?_;lia)) (QU (ab hl hh) rfl rfl rfl) ?_)).trans ?_
     ·refine oa bf ?_;refine oa am ?_;refine oa (au (by simp[*])) ?_;rfl
     ·have FH:c.getD j 0<3:=by
       have:c.getD j 0∈c:=by
        refine oa am ?_;refine oa (au (by lia)) ?_;exact dG _
       have:=FI _ this
       lia
      refine oa (H _ _ FH FH) ?_;simp
     ·have FH:c.getD j 0<3:=by
       have:c.getD j 0∈c:=by
        refine oa am ?_;refine oa (au (by lia)) ?_;exact dG _
       have:=FI _ this
       lia
      refine oa (H _ _ FH (by lia)) ?_;refine oa (decide_eq_true hji) ?_;refine oa (eV _) ?_;rfl
    ·refine oa (decide_eq_false hji) ?_;refine oa (j' _) ?_;exact xD (xG (z7 ((Bs (x:=j) (y:=i) (ol rfl) (ol rfl)).trans (by refine oa (decide_eq_false hji) ?_;rfl))))
   ·refine oa (dY _) ?_;unfold oz;refine oa ej ?_
    congr 3
  have qk:decide ((oz ((oi.getD i []).filter λj=>decide (j<i)&&decide (c.getD j 0=l))).length=0)=tV (oi.getD i []) i c l:=by
   rewrite [cC,decide_eq_true_iff];refine oa (ac _) ?_;rw[bC,List.filter_eq_nil_iff];unfold tV;rw[aj];constructor
   ·intro hx j hj;have:=hx j hj
    induction e:(decide (j<i)&&decide (c.getD j 0=l))using aZ with
    |true=>exact absurd e this
    |false=>rfl
   ·intro hx j hj e;have:=hx j hj;rw[e]at this;cases this
  rw[xD ((MI inner).trans (by refine oa qk ?_;rfl))]
  induction tV (oi.getD i []) i c l using aZ with
  |false=>rfl
  |true =>
   have:ev (Fi N) [] ([some (qn oi),some (.lst (qD A (3*oi.length))),some (.int h),some (.lst ((qx h oi i).map (so A))),some (.int i)]++[some (so A c),some (.int l)]) (.bin .Add (.var 5) (.list (.cons (.idx (.var 1) (.bin .Add (.bin .Mult (.c (.int 3)) (.var 4)) (.var 6))) .nil)))=some (so A (c++[l])):=by
    refine(C1 (x:=c.map λl=>.flt (qf (rQ A l))) (y:=[.flt (qf (rQ A l))]) (ol rfl) (C2 (q6 (QU (by lia) rfl rfl rfl)) (show 1<=100000 by decide)) (by refine oa (ac _) ?_;show _+1<=_;lia)).trans ?_;unfold so;refine oa bo ?_;rfl
   simp only[this];rfl
 let G:List Nat->Nat->List AV:=λc l=>if tV (oi.getD i []) i c l then[so A (c++[l])]else[]
 have e2:(qx h oi (i+1)).map (so A)=(qx h oi i).flatMap λc=>(ak h).flatMap (G c):=by
  conv=>lhs;rw[B4]
  refine oa List.map_flatMap ?_
  congr 1
  funext c;refine oa a_ ?_;have:=Nj (p:=λl=>tV (oi.getD i []) i c l) (g:=λl=>so A (c++[l])) (ak h);exact this.symm
 have oU:((qx h oi i).flatMap λc=>(ak h).flatMap (G c)).length<=100000:=by
  refine rwj e2 ?_;refine oa (ac _) ?_;lia
 refine oa e2 ?_;refine VY (x:=5) (cs:=qx h oi i) (f1:=so A) (ds:=ak h) (f2:=λ(l:Nat)=>AV.int l) (G:=G) ?_ rfl (by lia) (λv=>?_) (by refine oa bP ?_;exact pG hh rfl) (λc hc l hl=>body c hc l (a0.mp hl)) oU
 ·rewrite [C0];refine oa (ol (v:=.lst ((qx h oi i).map (so A))) rfl) ?_;rfl
 ·exact wU (ol rfl) (pG hh rfl)
theorem WK{N:Nat}{oi:List (List Nat)}{A h:Nat}(g:u4 oi)(hh:h<=3)(H:G2 A):Fi (N+1) 18 [qn oi,.lst (qD A (3*oi.length)),.int h]=some (.int ((qx h oi oi.length).length:Nat)):=by
 refine tl (N:=N) Xn rfl ?_;show oL (Fi N) [some (qn oi),some (.lst (qD A (3*oi.length))),some (.int h),none,none] [] Ih.body=_;refine o0 (v:=.lst [.lst []]) rfl ?_;have o3:=g.le;have lp:=Dd (f:=λρ σ v=>oL (Fi N) (ρ.set 4 (some v)) σ (match Ih.body with | .cons _ (.cons (.for_ _ _ b) _)=>b|_=>.nil)) (n:=oi.length) (ρ:=[some (qn oi),some (.lst (qD A (3*oi.length))),some (.int h),some (.lst [.lst []]),none]) (σ:=[])
  (I:=λk ρ σ=>∃e4,ρ=[some (qn oi),some (.lst (qD A (3*oi.length))),some (.int h),some (.lst ((qx h oi k).map (so A))),e4]/\σ=[])
  ⟨none,rfl,rfl⟩ ?_
 ·obtain⟨oC,ox,h1,e4,rfl,rfl⟩:=lp;refine xJ (vs:=oz (ak oi.length)) (z9 (wU (rV (vs:=[qn oi]) rfl ?_) (pG o3 rfl))) h1 ?_
  ·show tC (oi.map λl=>AV.lst (oz l)).length=_;refine oa (ac _) ?_;unfold tC;refine oa (if_pos (pG o3 rfl)) ?_;rfl
  have hp:=DZ h oi oi.length;have Jf:h^oi.length<=1000:=ae (gq hh _) (ae (aD (by decide) o3) (by decide));refine sd (v:=.int ((qx h oi oi.length).length:Nat)) (rV (q6 (ol rfl)) ?_) rfl;show tC ((qx h oi oi.length).map (so A)).length=_;refine oa (ac _) ?_;unfold tC;refine oa (if_pos (by omega)) ?_;rfl
 ·rintro k ρ σ hk ⟨e4,rfl,rfl⟩;refine⟨_,_,o0 (wdr hk o3 hh H (λj hj=>(g.sym k j hj).1) ?_) pS,some (.int k),rfl,rfl⟩;exact DU 5 _ (g.nd k) (λj hj=>by have:=(g.sym k j hj).1;lia)
noncomputable abbrev Dk:=List (Nat×Nat)
noncomputable def ug:Dk->Nat->Nat->Dk
 | [],k,v=>[(k,v)]
 |(k',v')::t,k,v=>if k'=k then(k',max v' v)::t else(k',v')::ug t k v
theorem GQ:ug ((k',v')::t) y x=if k'=y then(k',max v' x)::t else(k',v')::ug t y x:=rfl
noncomputable def qP(D:Dk):List (Int×AV):=D.map λe=>((e.1:Int),AV.int (e.2:Int))
noncomputable def vo(D:Dk)(k:Nat):Nat:=(D.lookup k).getD 0
noncomputable def sj(D:Dk):Prop:=(D.map (·.1)).Nodup
theorem JR(k:Nat):∀D:Dk,(qP D).lookup (k:Int)=(D.lookup k).map λ(v:Nat)=>AV.int (v:Int)
 | []=>rfl
 |(k',v')::t=>by
  show gQ (k:Int) (((k':Int),AV.int (v':Int))::qP t)=_;refine oa bv ?_;refine oa bv ?_;refine oa (JR k t) ?_;have:((k:Int)==(k':Int))=(k==k'):=by
   rw[cC,beq_iff_eq,beq_iff_eq];exact Rm
  refine oa this ?_;cases(k==k')<;>rfl
theorem PE{k v:Nat}:∀D:Dk,sj D->(k,v)∈D->D.lookup k=some v
 |(k',v')::t,hn,hm=>by
  unfold sj at hn;rw[aU,cB]at hn;refine oa bv ?_;rcases bh.mp hm with e|hm
  ·cases e;simp
  ·have q9:k≠k':=λe=>hn.1 (aE.mpr ⟨(k,v),hm,e⟩);refine oa (beq_eq_false_iff_ne.mpr q9) ?_;exact PE t hn.2 hm
theorem KR(k v:Nat):∀D:Dk,(ug D k v).map (·.1)=if k∈D.map (·.1)then D.map (·.1)else D.map (·.1)++[k]
 | []=>rfl
 |(k',v')::t=>by
  have ih:=KR k v t;rw[GQ];by_cases e:k'=k
  ·refine oa (if_pos e) ?_;refine oa (if_pos (by simp[e])) ?_;rfl
  ·refine oa (if_neg e) ?_;refine oa aU ?_;refine oa ih ?_;refine oa aU ?_;by_cases h:k∈t.map (·.1)
   ·refine oa (if_pos h) ?_;refine oa (if_pos (aP _ h)) ?_;rfl
   ·refine oa (if_neg h) ?_;refine oa (if_neg (λhm=>(bh.mp hm).elim (λh'=>e h'.symm) h)) ?_;rfl
set_option tactic.hygienic true in
theorem Rc{k v:Nat}{D:Dk}(h:sj D):sj (ug D k v):=by
 unfold sj at *;rw[KR];split
 ·exact h
 ·rename_i hn;rw[dk];refine qJ h (by simp) (λa ha b hb=>?_);rw[aI]at hb;rintro rfl;exact hn (hb▸ha)
theorem Rb{k v:Nat}:∀D:Dk,k∉D.map (·.1)->ug D k v=D++[(k,v)]
 | [],_=>rfl
 |(k',v')::t,h=>by
  rw[aU,bh,not_or]at h;rw[GQ];refine oa (if_neg (λe=>h.1 e.symm)) ?_;refine oa (Rb t h.2) ?_;rfl
theorem PO{k:Nat}{w:AV}:∀D:Dk,k∉D.map (·.1)->(qP D).map (λe=>if e.1=(k:Int)then(e.1,w)else e)=qP D
 | [],_=>rfl
 |(k',v')::t,h=>by
  rw[aU,bh,not_or]at h;show(if(k':Int)=(k:Int)then((k':Int),w)else((k':Int),AV.int (v':Int)))::(qP t).map _=_;refine oa (if_neg (by have:=h.1;lia)) ?_;refine oa (PO t h.2) ?_;rfl
theorem wdR{k v:Nat}:∀D:Dk,sj D->k∈D.map (·.1)->(qP D).map (λe=>if e.1=(k:Int)then(e.1,AV.int ((max (vo D k) v:Nat):Int))else e)=qP (ug D k v):=by
 intro vv
 induction vv with
 |nil =>
  intro _ h;cases h
 |cons ee t ih =>
  obtain⟨k',v'⟩:=ee;intro hn h;unfold sj at hn;rw[aU,cB]at hn;rw[GQ];by_cases e:k'=k
  ·subst e;refine oa (if_pos rfl) ?_;have hl:vo ((k',v')::t) k'=v':=by unfold vo;refine oa bv ?_;simp
   refine oa hl ?_;show(if(k':Int)=(k':Int)then((k':Int),AV.int ((max v' v:Nat):Int))else _)::(qP t).map _=_;refine oa (if_pos rfl) ?_;refine oa (PO t hn.1) ?_;rfl
  ·refine oa (if_neg e) ?_;have hk:k∈t.map (·.1):=by
    rw[aU]at h;rcases bh.mp h with h'|h'
    ·exact absurd h'.symm e
    ·exact h'
   have hl:vo ((k',v')::t) k=vo t k:=by
    unfold vo;refine oa bv ?_;refine oa (beq_eq_false_iff_ne.mpr (λc=>e c.symm)) ?_;rfl
   refine oa hl ?_;show(if(k':Int)=(k:Int)then _ else((k':Int),AV.int (v':Int)))::(qP t).map _=_;refine oa (if_neg (Rj e)) ?_;refine oa (ih hn.2 hk) ?_;rfl
theorem wdU{D:Dk}(k v:Nat)(h:sj D):dictPut (qP D) (k:Int) (.int ((max (vo D k) v:Nat):Int))=qP (ug D k v):=by
 unfold dictPut;by_cases hk:k∈D.map (·.1)
 ·have:(qP D).any (λe=>decide (e.1=(k:Int)))=true:=by
   rw[hY];refine oB (aE.mp hk) ?_;rintro e he rfl;exact oV _ (aE.mpr ⟨e,he,rfl⟩) (by simp)
  refine oa (if_pos this) ?_;refine oa (wdR D h hk) ?_;rfl
 ·have:¬(qP D).any (λe=>decide (e.1=(k:Int)))=true:=by
   rw[hY];rintro⟨x,hx,hd⟩;refine oB (aE.mp hx) ?_;rintro e he rfl;have h5:(e.1:Int)=(k:Int):=of_decide_eq_true hd;have:e.1=k:=by lia
   exact hk (aE.mpr ⟨e,he,this⟩)
  have hl:vo D k=0:=by
   unfold vo;have:D.lookup k=none:=by
    rw[kT];intro p hp;rw[bne_iff_ne];rintro rfl;exact hk (aE.mpr ⟨p,hp,rfl⟩)
   refine oa this ?_;rfl
  refine oa (if_neg this) ?_;refine oa (Rb D hk) ?_;refine oa hl ?_;refine oa (Nat.zero_max _) ?_;unfold qP;refine oa bo ?_;rfl
noncomputable def s8(S j:Nat):Bool:=decide (S/2^j%2=1)
noncomputable def uP(nl:List Nat)(S:Nat):Nat:=((nl.filter (s8 S)).map (2^·)).sum
noncomputable def zT(sh lo:Nat)(acc D:Dk):Dk:=D.foldl (λacc e=>ug acc (e.1+sh) (e.2+lo)) acc
noncomputable def xY(S i:Nat):Nat:=if S%2^i=0 then 1 else 0
noncomputable def rn(oi:List (List Nat))(T:List Dk)(S:Nat)(acc:Dk)(i:Nat):Dk :=
 if s8 S i then zT (32^i*uP (oi.getD i []) (S-2^i)) (xY (S-2^i) i) acc (T.getD (S-2^i) [])else acc
noncomputable def yC(oi:List (List Nat))(T:List Dk)(S:Nat):Dk:=(ak oi.length).foldl (rn oi T S) []
noncomputable def pY(oi:List (List Nat)):Nat->List Dk
 |0=>[[(0,0)]]
 |s+1=>pY oi s++[yC oi (pY oi s) (s+1)]
theorem wfP:pY oi 0=[[(0,0)]]:=rfl
theorem AM:pY oi (s+1)=pY oi s++[yC oi (pY oi s) (s+1)]:=rfl
theorem Lq{sh lo:Nat}:∀(D acc:Dk),sj acc->sj (zT sh lo acc D):=by
 intro vv
 induction vv with
 |nil =>
  intro _ h;exact h
 |cons e D ih =>
  intro acc h;exact ih _ (Rc h)
theorem Ra(k v:Nat)(D:Dk):(ug D k v).length<=D.length+1:=by
 have:=congrArg cG (KR k v D);rw[ac]at this;refine oa this ?_;split
 ·refine oa (ac _) ?_;exact eY dL
 ·refine oa aq ?_;refine oa (ac _) ?_;exact ai _
theorem Lo{sh lo:Nat}:∀(D acc:Dk),(zT sh lo acc D).length<=acc.length+D.length:=by
 intro vv
 induction vv with
 |nil =>
  intro _;exact ai _
 |cons e D ih =>
  intro acc;have h1:=ih (ug acc (e.1+sh) (e.2+lo));have h2:=Ra (e.1+sh) (e.2+lo) acc;show(zT sh lo (ug acc (e.1+sh) (e.2+lo)) D).length<=_;refine oa aF ?_;lia
theorem weo(oi:List (List Nat))(T:List Dk)(S:Nat):sj (yC oi T S):=by
 have:∀(l:List Nat) (acc:Dk),sj acc->sj (l.foldl (rn oi T S) acc):=λl=>by
  induction l with
  |nil=>exact λY h=>h
  |cons i l ih =>
   intro acc h;refine ih _ ?_;unfold rn;split
   ·exact Lq _ _ h
   ·exact h
 exact this _ _ cK
theorem zF(oi:List (List Nat)):∀s,(pY oi s).length=s+1
 |0=>rfl
 |s+1=>by
  rw[AM];refine oa aq ?_;refine oa (zF oi s) ?_;rfl
theorem wfR(oi:List (List Nat)):∀s,∀D∈pY oi s,sj D:=by
 intro vv
 induction vv with
 |zero =>
  intro D h;rw[wfP,aI]at h;subst h;unfold sj;simp
 |succ s ih =>
  intro D h;rw[AM,aW,aI]at h;rcases h with h|rfl
  ·exact ih D h
  ·exact weo _ _ _
theorem GI(oi:List (List Nat)){k:Nat}:∀s,k<=s->(pY oi s).getD k []=(pY oi k).getD k []:=by
 intro vv
 induction vv with
 |zero =>
  intro h;refine oa (Nat.le_zero.mp h) ?_;rfl
 |succ s ih =>
  intro h;by_cases e:k=s+1
  ·refine oa e ?_;rfl
  ·have sr:=ih (by lia:k<=s);refine rwj sr ?_
   conv=>lhs;rw[AM]
   rw[am,aL (by refine oa (zF _ _) ?_;lia),am]
noncomputable def tab(oi:List (List Nat))(S:Nat):Dk:=(pY oi S).getD S []
theorem wfN(oi:List (List Nat))(s:Nat):tab oi (s+1)=yC oi (pY oi s) (s+1):=by
 unfold tab
 conv=>lhs;rw[AM]
 have:=zF oi s;refine oa am ?_;refine oa (ay (bd this)) ?_;refine oa this ?_;refine oa (ci _) ?_;rfl
noncomputable def pc(S:Nat):Nat:=(ak 5).countP (s8 S)
theorem Qk:∀S,S<32->∀i,i<5->s8 S i=true->pc (S-2^i)+1=pc S/\2^i<=S/\S-2^i<S:=by decide +kernel
theorem Qj(S:Nat):pc S<=5:=by
 unfold pc;exact ae List.countP_le_length (by simp)
theorem wfM{oi:List (List Nat)}(hn:oi.length<=5):∀S,S<32->(tab oi S).length<=5^pc S:=by
 intro S
 induction S using Nat.strongRecOn with
 |_ S ih =>
  intro hS
  induction S using ce with
  |zero=>exact fq (by decide)
  |succ s =>
   refine oa (wfN _ _) ?_;have ZD:∀(l:List Nat) (acc:Dk),(∀i∈l,i<5)->(l.foldl (rn oi (pY oi s) (s+1)) acc).length<=acc.length+l.countP (s8 (s+1))*5^(pc (s+1)-1):=λl=>by
    induction l with
    |nil=>intro acc _;simp
    |cons i l ihl =>
     intro acc hl;have h1:=ihl (rn oi (pY oi s) (s+1) acc i) (λj hj=>hl j (by simp[hj]));refine oa eZ ?_;refine ae h1 ?_;refine oa hV ?_;unfold rn;by_cases hb:s8 (s+1) i=true
     ·refine oa (if_pos hb) ?_;refine oa (if_pos hb) ?_;have hp:=Qk (s+1) hS i (hl i (by simp)) hb;have h2:=Lo (sh:=32^i*uP (oi.getD i []) (s+1-2^i)) (lo:=xY (s+1-2^i) i) ((pY oi s).getD (s+1-2^i) []) acc;have h3:=ih (s+1-2^i) hp.2.2 (by lia);have h4:(pY oi s).getD (s+1-2^i) []=tab oi (s+1-2^i):=GI oi s (by lia);rw[<-h4,show pc (s+1-2^i)=pc (s+1)-1 by lia]at h3;rewrite [ft];refine oa (gT _) ?_
      lia
     ·refine oa (if_neg hb) ?_;refine oa (if_neg hb) ?_;refine oa (Nat.add_zero _) ?_;exact ai _
   have h1:=ZD (ak oi.length) [] (λi hi=>by have:=a0.mp hi;exact ab this hn);have h2:(ak oi.length).countP (s8 (s+1))<=pc (s+1):=by
    exact List.Sublist.countP_le (List.range_sublist.mpr hn)
   have h3:pc (s+1)≠0->5^pc (s+1)=5*5^(pc (s+1)-1):=λh=>by
    conv=>lhs;rw[show pc (s+1)=pc (s+1)-1+1 by lia]
    refine oa (fE _ _) ?_;refine oa (cE _ _) ?_;rfl
   have h5:=Qj (s+1);unfold yC;refine ae h1 ?_;show 0+_<=_;by_cases h0:pc (s+1)=0
   ·rw[h0]at h2;refine oa (Nat.le_zero.mp h2) ?_;refine oa (Nat.zero_mul _) ?_;exact dh _
   ·refine oa (h3 h0) ?_;refine oa (gx _) ?_;exact di (by lia) (ai _)
theorem KI{oi:List (List Nat)}(hn:oi.length<=5){S:Nat}(hS:S<32):(tab oi S).length<=3125 :=
 ae (wfM hn S hS) (ae (aD (by decide) (Qj S)) (by decide))
noncomputable def qY(D:Dk):AV:=.dct (qP D)
noncomputable def v4(T:List Dk)(g:Nat):oH:=.list (T.map qY)::aA g .gone
noncomputable def qW(T:List Dk)(g:Nat)(acc:Dk):oH:=v4 T g++[.dict (qP acc)]
theorem AL(T:List Dk)(g:Nat):(v4 T g).length=g+1:=by
 unfold v4;refine oa aF ?_;refine oa cf ?_;rfl
theorem Kx(T:List Dk)(g:Nat)(acc:Dk):(qW T g acc)[g+1]?=some (.dict (qP acc)):=by
 unfold qW;rw[ay (by rw[AL];exact ai _),AL,ci];rfl
theorem wfj(T:List Dk)(g:Nat)(acc Ln:Dk):(qW T g acc).set (g+1) (.dict (qP Ln))=qW T g Ln:=by
 unfold qW;rw[eh,if_neg (by rw[AL];exact aJ (g+1)),AL,ci];rfl
theorem Wn(h1:ev Φ σ ρ ve=some w)(hs:w.scalar=true)(h2:ρ[x]?=some (some (.ref i)))(h3:ev Φ σ ρ ke=some (.int k))(h4:σ[i]?=some (.dict es))(hl:es.length<=100000)(h5:oL Φ ρ (σ.set i (.dict (dictPut es k w))) ss=r):oL Φ ρ σ (.cons (.put x ke ve) ss)=r:=by
 refine vd ?_ h5;rewrite [M9];refine oa h1 ?_;refine(if_pos hs).trans ?_;refine oa h2 ?_;refine oa h3 ?_;dsimp only;refine oa h4 ?_;exact if_pos hl
theorem QP:∀l:List Nat,sw (l.map bE)=((l.sum:Nat):Int):=by
 intro vv
 induction vv with
 |nil =>
  exact rfl
 |cons a l ih =>
  rw[aU,GH,ih,bV,dw];rfl
theorem Fj(h1:ev Φ σ ρ a=some (.lst (oz l)))(hs:l.sum<2^53):ev Φ σ ρ (.call .sum (.cons a .nil))=some (.int (l.sum:Nat)):=by
 refine rV (q6 h1) ?_;show(Eb (oz l)).map AV.int=_;unfold Eb;refine oa (B1 _) ?_;unfold pL;refine oa (CG _) ?_;simp only[];have k1:(l.map bE).all (λi=>decide (0<=i))=true:=by
  rw[aj];intro i hi;refine oB (aE.mp hi) ?_;rintro j _ rfl;exact decide_eq_true (az j)
 have k2:sw (l.map bE)<2^53:=by
  refine oa (QP _) ?_;have:((l.sum:Nat):Int)<((2^53:Nat):Int):=dC.mpr hs;exact this
 show(if _ then _ else _:Option Int).map AV.int=_;refine oa (if_pos (And.intro k1 k2)) ?_;refine oa (QP _) ?_;rfl
theorem KH(M:Nat):∀l:List Nat,(∀x∈l,x<=M)->l.sum<=l.length*M:=by
 intro vv
 induction vv with
 |nil =>
  intro _;simp
 |cons a l ih =>
  intro h;have h1:=h a (by simp);have h2:=ih (λx hx=>h x (by simp[hx]));rw[bV,aF,ft,gT];lia
theorem wct(h:∀j∈nl,j<5)(hl:nl.length<=5):uP nl S<=80:=by
 unfold uP;have h1:=KH 16 ((nl.filter (s8 S)).map (2^·)) (λx hx=>by
  refine oB (aE.mp hx) ?_;rintro j hj rfl;have:=h j (ga.mp hj).1;exact ae (aD (by decide) (show j<=4 from cP this)) (by decide))
 rw[ac]at h1;have:=fJ (s8 S) nl
 lia
noncomputable def Gx:rG:=(.cons (.put 3 (.bin .Add (.var 8) (.var 6)) (.call .max (.cons (.call .get (.cons (.var 3) (.cons (.bin .Add (.var 8) (.var 6)) (.cons (.c (.int 0)) .nil)))) (.cons (.bin .Add (.idx (.idx (.var 1) (.var 5)) (.var 8)) (.var 7)) .nil)))) .nil)
noncomputable abbrev yS(oi:List (List Nat))(S g i S' sh lo:Nat)(v8:Option AV):oI:=[some (qn oi),some (.ref 0),some (.int S),some (.ref (g+1)),some (.int i),some (.int S'),some (.int sh),some (.int lo),v8]
theorem wdT(hT:S'<T.length)(xM:T.length<=1000)(he:e∈T.getD S' [])(hn:sj (T.getD S' []))(ha:sj acc)(y_:acc.length<=100000):
 oL Φ (yS oi S g i S' sh lo (some (.int (e.1:Nat)))) (qW T g acc) Gx=some (.next (yS oi S g i S' sh lo (some (.int (e.1:Nat)))) (qW T g (ug acc (e.1+sh) (e.2+lo)))):=by
 have hk:ev Φ (qW T g acc) (yS oi S g i S' sh lo (some (.int (e.1:Nat)))) (.bin .Add (.var 8) (.var 6))=some (.int ((e.1+sh:Nat):Int)):=vc (ol rfl) (ol rfl);have hg:ev Φ (qW T g acc) (yS oi S g i S' sh lo (some (.int (e.1:Nat)))) (.call .get (.cons (.var 3) (.cons (.bin .Add (.var 8) (.var 6)) (.cons (.c (.int 0)) .nil))))=some (.int (vo acc (e.1+sh):Nat)):=by
  refine rV (uo (ol rfl) hk oY) ?_;have hd:ul (qW T g acc) (.ref (g+1))=some (qP acc):=UM (Kx ..);show(match ul (qW T g acc) (.ref (g+1))with|some es=>some (match es.lookup ((e.1+sh:Nat):Int)with|some v=>v|none=>.int ((0:Nat):Int))|none=>none)=_;refine oa hd ?_;simp only[JR];unfold vo;cases acc.lookup (e.1+sh)<;>rfl
 have ta:(T.map qY)[S']?=some (qY (T.getD S' [])):=by
  refine oa bf ?_;refine oa am ?_;refine oa (au hT) ?_;rfl
 have hv:ev Φ (qW T g acc) (yS oi S g i S' sh lo (some (.int (e.1:Nat)))) (.idx (.idx (.var 1) (.var 5)) (.var 8))=some (.int (e.2:Nat)):=by
  refine yY (Ff (j:=0) (k:=S') (l:=T.map qY) (ol rfl) (ol rfl) rfl ta (by refine oa (ac _) ?_;exact pG xM rfl)) (ol rfl) ?_;show(qP (T.getD S' [])).lookup ((e.1:Nat):Int)=_;refine oa (JR _ _) ?_;refine oa (PE (k:=e.1) (v:=e.2) _ hn he) ?_;rfl
 refine Wn (w:=.int ((max (vo acc (e.1+sh)) (e.2+lo):Nat):Int)) (i:=g+1) (k:=((e.1+sh:Nat):Int)) (es:=qP acc) ?_ rfl rfl hk (Kx T g acc) (by unfold qP;refine oa (ac _) ?_;exact y_) ?_
 ·refine rV (rW hg (vc hv (ol rfl))) ?_;show some (AV.int (if((vo acc (e.1+sh):Nat):Int)<((e.2+lo:Nat):Int)then((e.2+lo:Nat):Int)else((vo acc (e.1+sh):Nat):Int)))=_;refine congrArg (λz=>some (AV.int z)) ?_;split<;>lia
 ·refine oa (wdU _ _ ha) ?_;rw[wfj];exact pS
theorem wdQ(hT:S'<T.length)(xM:T.length<=1000)(hn:sj (T.getD S' [])):∀(es:Dk) (acc:Dk) (v8:Option AV),(∀e∈es,e∈T.getD S' [])->sj acc->acc.length+es.length<=100000 ->
 ∃En,sQ (λρ σ v=>oL Φ (ρ.set 8 (some v)) σ Gx) (es.map λe=>AV.int (e.1:Nat)) (yS oi S g i S' sh lo v8) (qW T g acc)=some (.next (yS oi S g i S' sh lo En) (qW T g (zT sh lo acc es))):=by
 intro vv
 induction vv with
 |nil =>
  intro acc v8 _ _ _;exact⟨v8,rfl⟩
 |cons e es ih =>
  intro acc v8 he ha hl;rw[aF]at hl;have hu:=Ra (e.1+sh) (e.2+lo) acc;refine o6 (ih (ug acc (e.1+sh) (e.2+lo)) (some (.int (e.1:Nat))) (λx hx=>he x (by simp[hx])) (Rc ha) (by lia)) λEn h2=>?_;refine⟨En,?_⟩;refine oa aU ?_;rw[Iq];have h1:=wdT (Φ:=Φ) (oi:=oi) (T:=T) (S:=S) (g:=g) (i:=i) (S':=S') (sh:=sh) (lo:=lo) (acc:=acc) (e:=e) hT xM (he e (by simp)) hn ha (K0 hl);show(match oL Φ (yS oi S g i S' sh lo (some (.int (e.1:Nat)))) (qW T g acc) Gx with|some (.next oC ox)=>sQ _ _ oC ox|some (.ret r)=>some (.ret r)|none=>none)=_;refine oa h1 ?_;exact h2
theorem Ny(σ:oH)(k:Nat)(D:Dk):o8 σ (k+2) (qY D)=some (qY D):=by
 unfold qY;rw[XG];have:pq (λe=>(o8 σ (k+1) e.2).map (e.1,·)) (qP D)=some ((qP D).map id):=by
  refine BY _ (λe he=>?_);refine oB (aE.mp he) ?_;rintro d _ rfl;rfl
 refine oa this ?_;refine oa (dY _) ?_;rfl
noncomputable def S7:rG:=(.cons (.asg 5 false (.bin .Sub (.var 2) (.bin .Pow (.c (.int 2)) (.var 4))))
 (.cons (.asg 6 false (.bin .Mult (.bin .Pow (.c (.int 32)) (.var 4)) (.call .sum (.cons (.comp 1 (.cons 9 (.val (.idx (.var 0) (.var 4))) (.cons (.cmp .Eq (.bin .Mod (.bin .FloorDiv (.var 5) (.bin .Pow (.c (.int 2)) (.var 9))) (.c (.int 2))) (.c (.int 1))) .nil) (.done (.bin .Pow (.c (.int 2)) (.var 9))))) .nil))))
 (.cons (.asg 7 false (.ite (.cmp .Eq (.bin .Mod (.var 5) (.bin .Pow (.c (.int 2)) (.var 4))) (.c (.int 0))) (.c (.int 1)) (.c (.int 0))))
 (.cons (.for_ 8 (.val (.idx (.var 1) (.var 5))) Gx)
 .nil))))
noncomputable def Hi:rG:=(.cons (.ife (.cmp .Eq (.bin .Mod (.bin .FloorDiv (.var 2) (.bin .Pow (.c (.int 2)) (.var 4))) (.c (.int 2))) (.c (.int 1))) S7 .nil) .nil)
theorem wdj(h:i<60):(2:Nat)^i<2^64:=Nat.pow_lt_pow_right (by decide) (pG h rfl)
theorem HP{a b:Ex}{S i:Nat}(h1:ev Φ σ ρ a=some (.int S))(h2:ev Φ σ ρ b=some (.int i))(hi:i<60):ev Φ σ ρ (.cmp .Eq (.bin .Mod (.bin .FloorDiv a (.bin .Pow (.c (.int 2)) b)) (.c (.int 2))) (.c (.int 1)))=some (.bool (s8 S i)):=
 Bp (x:=S/2^i%2) (y:=1) (r_ (y:=2) (wi h1 (wk (x:=2) oY h2 (by decide) (Rr hi rfl)) (by have:=fq (n:=i) (show 0<2 by decide);simp) (wdj hi)) oY (by decide)) oY
theorem TJ{Φ:rd}{oi:List (List Nat)}{T:List Dk}{S g i:Nat}{acc:Dk}{e5 e6 e7 e8:Option AV}(hn:oi.length<=5)(hi:i<oi.length)(hS:S<32)(hT:T.length=S)(rk:∀D∈T,sj D)(xM:∀D∈T,D.length<=3125)(ha:sj acc)(y_:acc.length<=20000)(Dy:∀j∈oi.getD i [],j<oi.length)(wv:(oi.getD i []).length<=5):
 ∃u7 u8 u9 u_,oL Φ [some (qn oi),some (.ref 0),some (.int S),some (.ref (g+1)),some (.int i),e5,e6,e7,e8] (qW T g acc) Hi=some (.next [some (qn oi),some (.ref 0),some (.int S),some (.ref (g+1)),some (.int i),u7,u8,u9,u_] (qW T g (rn oi T S acc i))):=by
 by_cases hb:s8 S i=true
 ·have hp:=Qk S hS i (ab hi hn) hb;have e1:rn oi T S acc i=zT (32^i*uP (oi.getD i []) (S-2^i)) (xY (S-2^i) i) acc (T.getD (S-2^i) []):=by unfold rn;refine oa (if_pos hb) ?_;rfl
  refine oa e1 ?_;have Ov:=wct (S:=S-2^i) (λj hj=>ab (Dy j hj) hn) wv;have IN:S-2^i<T.length:=by simp[*]
  have Ax:T.getD (S-2^i) []∈T:=by
   refine oa am ?_;refine oa (au IN) ?_;exact dG _
  have hTD:=xM _ Ax;refine o6 (wdQ (Φ:=Φ) (oi:=oi) (T:=T) (S:=S) (g:=g) (i:=i) (S':=S-2^i) (sh:=32^i*uP (oi.getD i []) (S-2^i)) (lo:=xY (S-2^i) i) IN (by lia) (rk _ Ax) (T.getD (S-2^i) []) acc e8 (λY h=>h) ha (by lia)) λEn hf=>?_;refine O9 (some (.int (S-2^i:Nat))) (some (.int (32^i*uP (oi.getD i []) (S-2^i):Nat))) (some (.int (xY (S-2^i) i:Nat))) En ?_;refine y3 ((HP (ol rfl) (ol rfl) (by lia)).trans (by refine oa hb ?_;rfl)) ?_ pS;refine o0 (v:=.int (S-2^i:Nat)) (C3 (ol rfl) (wk (x:=2) oY (ol rfl) (by decide) (by lia)) hp.2.1) ?_;refine o0 (v:=.int (32^i*uP (oi.getD i []) (S-2^i):Nat)) ?_ ?_
  ·refine yZ (wk (x:=32) oY (ol rfl) (by decide) (by lia)) (Fj (l:=((oi.getD i []).filter (s8 (S-2^i))).map (2^·)) ?_ ?_) (ji (aM Ov (by decide)))
   ·refine(Aa (x:=9) (vs:=oz (oi.getD i [])) (p:=λv=>match v with | .int j=>s8 (S-2^i) j.toNat|_=>false) (g:=λv=>match v with | .int j=>.int ((2^j.toNat:Nat):Int)|v=>v) ?_ rfl (by refine oa (ac _) ?_;exact pG wv rfl) (λv hv=>?_) (λv hv Y=>?_)).trans ?_
    ·have:∀{ρ:oI},ρ[0]?=some (some (qn oi))->ρ[4]?=some (some (.int (i:Int)))->ev Φ (qW T g acc) ρ (.idx (.var 0) (.var 4))=some (.lst (oz (oi.getD i []))):=λg0 g4=>by
      refine tQ (l:=oi.map λl=>.lst (oz l)) (k:=i) (ol g0) (ol g4) ?_ (by refine oa (ac _) ?_;exact pG hn rfl);refine oa bf ?_;refine oa am ?_;refine oa (au hi) ?_;rfl
     rewrite [C0];refine oa (this rfl rfl) ?_;rfl
    ·refine oB (aE.mp hv) ?_;rintro j hj rfl;have:=Dy j hj;show _=some (s8 (S-2^i) (j:Int).toNat);refine oa (aT _) ?_;exact xD (HP (ol rfl) (ol rfl) (by lia))
    ·refine oB (aE.mp hv) ?_;rintro j hj rfl;have:=Dy j hj;show _=some (AV.int ((2^(j:Int).toNat:Nat):Int));refine oa (aT _) ?_;exact wk (x:=2) oY (ol rfl) (by decide) (by lia)
    ·unfold oz;refine oa ej ?_;refine oa a_ ?_;refine oa a_ ?_
     congr 2
   ·have:uP (oi.getD i []) (S-2^i)<2^53:=aM Ov (by decide);exact this
  refine o0 (v:=.int (xY (S-2^i) i:Nat)) ?_ ?_
  ·have hc:∀{ρ:oI},ρ[5]?=some (some (.int ((S-2^i:Nat):Int)))->ρ[4]?=some (some (.int (i:Int)))->ev Φ (qW T g acc) ρ (.cmp .Eq (.bin .Mod (.var 5) (.bin .Pow (.c (.int 2)) (.var 4))) (.c (.int 0)))=some (.bool (decide ((S-2^i)%2^i=0))):=λg5 g4 =>
    Bp (y:=0) (r_ (ol g5) (wk (x:=2) oY (ol g4) (by decide) (by lia)) (by have:=fq (n:=i) (show 0<2 by decide);exact zne this)) oY
   unfold xY;by_cases h0:(S-2^i)%2^i=0
   ·refine oa (if_pos h0) ?_;exact Br ((hc rfl rfl).trans (by refine oa (decide_eq_true h0) ?_;rfl)) oY
   ·refine oa (if_neg h0) ?_;exact Bq ((hc rfl rfl).trans (by refine oa (decide_eq_false h0) ?_;rfl)) oY
  refine xJ (vs:=(T.getD (S-2^i) []).map λe=>AV.int (e.1:Nat)) ?_ hf pS;have hv:∀{ρ:oI},ρ[1]?=some (some (.ref 0))->ρ[5]?=some (some (.int ((S-2^i:Nat):Int)))->ev Φ (qW T g acc) ρ (.idx (.var 1) (.var 5))=some (qY (T.getD (S-2^i) [])):=λg1 g5=>by
   refine Ff (j:=0) (k:=S-2^i) (l:=T.map qY) (ol g1) (ol g5) rfl ?_ (by refine oa (ac _) ?_;lia);refine oa bf ?_;refine oa am ?_;refine oa (au IN) ?_;rfl
  rw[My,hv rfl rfl];show some ((qP _).map λe=>AV.int e.1)=_;unfold qP;refine oa a_ ?_;rfl
 ·have e1:rn oi T S acc i=acc:=by unfold rn;refine oa (if_neg hb) ?_;rfl
  refine oa e1 ?_;exact O9 e5 e6 e7 e8 (rE ((HP (ol rfl) (ol rfl) (by lia)).trans (by refine oa (jm.mpr hb) ?_;rfl)) pS pS)
theorem wek(h:(T.getD (S-2^i) []).length<=3125):(rn oi T S acc i).length<=acc.length+3125:=by
 unfold rn;split
 ·have:=Lo (sh:=32^i*uP (oi.getD i []) (S-2^i)) (lo:=xY (S-2^i) i) (T.getD (S-2^i) []) acc
  lia
 ·exact aV (cG acc) 3125
theorem wel(h:sj acc):sj (rn oi T S acc i):=by
 unfold rn;split
 ·exact Lq _ _ h
 ·exact h
theorem wen{oi:List (List Nat)}{T:List Dk}(gr:u4 oi)(hS:S<32)(hT:T.length=S)(rk:∀D∈T,sj D)(xM:∀D∈T,D.length<=3125):
 ∃xC u7 u8 u9 u_,sQ (λρ σ v=>oL Φ (ρ.set 4 (some v)) σ Hi) (oz (ak oi.length)) [some (qn oi),some (.ref 0),some (.int S),some (.ref (g+1)),e4,e5,e6,e7,e8] (qW T g []) =
  some (.next [some (qn oi),some (.ref 0),some (.int S),some (.ref (g+1)),xC,u7,u8,u9,u_] (qW T g (yC oi T S))):=by
 have hn:=gr.le;obtain⟨oC,ox,h1,xC,u7,u8,u9,u_,rfl,rfl,_,_⟩:=Dd (f:=λρ σ v=>oL Φ (ρ.set 4 (some v)) σ Hi) (n:=oi.length) (ρ:=[some (qn oi),some (.ref 0),some (.int S),some (.ref (g+1)),e4,e5,e6,e7,e8]) (σ:=qW T g [])
  (I:=λk ρ σ=>∃e4 e5 e6 e7 e8,ρ=[some (qn oi),some (.ref 0),some (.int S),some (.ref (g+1)),e4,e5,e6,e7,e8]/\σ=qW T g ((ak k).foldl (rn oi T S) [])/\sj ((ak k).foldl (rn oi T S) [])/\((ak k).foldl (rn oi T S) []).length<=3125*k)
  ⟨e4,e5,e6,e7,e8,rfl,rfl,cK,by simp⟩ (by
   rintro k ρ σ hk ⟨e4,e5,e6,e7,e8,rfl,rfl,Om,hkl⟩;refine M0 (TJ (Φ:=Φ) (oi:=oi) (T:=T) (S:=S) (g:=g) (i:=k) (acc:=(ak k).foldl (rn oi T S) []) (e5:=e5) (e6:=e6) (e7:=e7) (e8:=e8) hn hk hS hT rk xM Om (by lia) (λj hj=>(gr.sym k j hj).1) (DU 5 _ (gr.nd k) (λj hj=>by have:=(gr.sym k j hj).1;exact ab this hn))) λu7 u8 u9 u_ hs=>?_;have e:(ak (k+1)).foldl (rn oi T S) []=rn oi T S ((ak k).foldl (rn oi T S) []) k:=by
    refine oa cA ?_;refine oa mw ?_;rfl
   have hl:(T.getD (S-2^k) []).length<=3125:=by
    refine oa am ?_
    induction hh:T[S-2^k]? using aa with
    |none=>simp
    |some D=>exact xM D (aY hh)
   refine⟨_,_,hs,some (.int k),u7,u8,u9,u_,rfl,by refine oa e ?_;rfl,by refine oa e ?_;exact wel Om,?_⟩;refine oa e ?_;have:=wek (oi:=oi) (acc:=(ak k).foldl (rn oi T S) []) hl
   lia)
 exact JC xC u7 u8 u9 u_ h1
theorem R5(h1:ρ[1]?=some (some (.ref 0)))(h3:ρ[3]?=some (some (.ref (g+1))))(hl:T.length<=1000)(h:oL Φ ρ (v4 (T++[row]) (g+1)) ss=r):
 oL Φ ρ (qW T g row) (.cons (.app (.var 1) (.var 3)) ss)=r:=by
 refine vd ?_ h;have f1:ev Φ (qW T g row) ρ (.var 1)=some (.ref 0):=ol h1;have f3:ev Φ (qW T g row) ρ (.var 3)=some (.ref (g+1)):=ol h3;have fz:ym (qW T g row) (g+1)=some (qY row):=by
  unfold ym;rw[Kx];exact Ny [] 4 row
 have e0:(qW T g row)[0]?=some (.list (T.map qY)):=rfl;rewrite [Ia];refine oa f1 ?_;simp only[f3,e0];rw[if_pos (by refine oa (ac _) ?_;exact pG hl rfl),if_neg (by lia),fz];show some (Fl.next ρ (((qW T g row).set (g+1) .gone).set 0 (.list (T.map qY++[qY row]))))=_;have:((qW T g row).set (g+1) .gone).set 0 (.list (T.map qY++[qY row]))=v4 (T++[row]) (g+1):=by
  unfold qW;rw[eh,if_neg (by refine oa (AL _ _) ?_;exact aJ (g+1)),AL,ci];unfold v4;refine oa List.replicate_succ' ?_;refine oa bo ?_;rfl
 refine oa this ?_;rfl
noncomputable def LW:rG:=match Ii.body with | .cons _ (.cons (.for_ _ _ b) _)=>b|_=>.nil
theorem TK(gr:u4 oi)(hS:s+1<32):
 ∃Fa xC u7 u8 u9 u_,oL Φ [some (qn oi),some (.ref 0),some (.int (s+1:Nat)),e3,e4,e5,e6,e7,e8] (v4 (pY oi s) s) LW =
  some (.next [some (qn oi),some (.ref 0),some (.int (s+1:Nat)),Fa,xC,u7,u8,u9,u_] (v4 (pY oi (s+1)) (s+1))):=by
 have hn:=gr.le;have hT:=zF oi s;have rk:=wfR oi s;have xM:∀D∈pY oi s,D.length<=3125:=λD hD=>by
  obtain⟨k,hk,rfl⟩:=lL hD;have h1:=KI hn (S:=k) (by lia);have h2:=GI oi (k:=k) s (by lia);unfold tab at h1;rw[<-h2,am,au hk]at h1;exact h1
 refine Fo (wen (Φ:=Φ) (oi:=oi) (T:=pY oi s) (S:=s+1) (g:=s) (e4:=e4) (e5:=e5) (e6:=e6) (e7:=e7) (e8:=e8) gr hS hT rk xM) λxC u7 u8 u9 u_ hr=>?_;refine wat (some (.ref (s+1))) xC u7 u8 u9 u_ ?_;refine C7 (v:=.ref (s+1)) (ox:=qW (pY oi s) s []) ?_ ?_
 ·show some (AV.ref (v4 (pY oi s) s).length,v4 (pY oi s) s++[.dict []])=_;refine oa (AL _ _) ?_;rfl
 refine xJ (vs:=oz (ak oi.length)) (z9 (wU (rV (vs:=[qn oi]) rfl ?_) (pG hn rfl))) hr ?_
 ·show tC (oi.map λl=>AV.lst (oz l)).length=_;refine oa (ac _) ?_;unfold tC;refine oa (if_pos (pG hn rfl)) ?_;rfl
 exact R5 rfl rfl (by lia) pS
theorem WL(gr:u4 oi):Fi (N+1) 19 [qn oi]=some (.lst ((pY oi (2^oi.length-1)).map qY)):=by
 have hn:=gr.le;have y9:2^oi.length<=32:=ae (aD (by decide) hn) (by decide);refine tl (N:=N) Xo rfl ?_;show oL (Fi N) [some (qn oi),none,none,none,none,none,none,none,none] [] Ii.body=_;refine C7 (v:=.ref 0) (ox:=v4 (pY oi 0) 0) rfl ?_;obtain⟨oC,ox,h1,e2',Fa,xC,u7,u8,u9,u_,rfl,rfl⟩:=Fy (f:=λρ σ v=>oL (Fi N) (ρ.set 2 (some v)) σ LW) (g:=λ(i:Nat)=>AV.int i)
  (I:=λpre ρ σ=>∃e2 e3 e4 e5 e6 e7 e8,ρ=[some (qn oi),some (.ref 0),e2,e3,e4,e5,e6,e7,e8]/\σ=v4 (pY oi pre.length) pre.length) (bp 1 (2^oi.length-1)) [] [some (qn oi),some (.ref 0),none,none,none,none,none,none,none] (v4 (pY oi 0) 0)
  ⟨none,none,none,none,none,none,none,rfl,rfl⟩ (by
   rintro p x q ρ σ e ⟨e2,e3,e4,e5,e6,e7,e8,rfl,rfl⟩;have e:bp 1 (2^oi.length-1)=p++x::q:=e;have hx:x=p.length+1:=by
    have h1:(bp 1 (2^oi.length-1))[p.length]?=some x:=by refine oa e ?_;simp
    rw[aS]at h1;refine o6 h1 λY h1=>?_;rw[List.getElem_range']at h1
    lia
   have o9:p.length<2^oi.length-1:=by
    have:=congrArg cG e;rw[dH,aq,aF]at this;simp[*]
   refine Wk (TK (Φ:=Fi N) (oi:=oi) (s:=p.length) (e3:=e3) (e4:=e4) (e5:=e5) (e6:=e6) (e7:=e7) (e8:=e8) gr (by omega)) λFa xC u7 u8 u9 u_ ht=>?_;subst hx;refine⟨_,_,ht,some (.int (p.length+1:Nat)),Fa,xC,u7,u8,u9,u_,rfl,?_⟩;refine oa aq ?_;rfl)
 rw[cS,dH]at *;refine xJ (vs:=oz (bp 1 (2^oi.length-1))) (z9 (HL (a:=1) oY (wk (x:=2) oY (rV (vs:=[qn oi]) rfl ?_) (by decide) (pG hn rfl)) (pG y9 rfl) (em 1 99999))) h1 ?_
 ·show tC (oi.map λl=>AV.lst (oz l)).length=_;refine oa (ac _) ?_;unfold tC;refine oa (if_pos (pG hn rfl)) ?_;rfl
 refine sd (v:=.ref 0) rfl ?_;show(pq (o8 _ 5) ((pY oi (2^oi.length-1)).map qY)).map AV.lst=_;rw[BY (g:=id) _ (λa ha=>?_),dY];rfl;refine oB (aE.mp ha) ?_;rintro D _ rfl;exact Ny _ 3 D
noncomputable def yP(D:Dk)(n c:Nat):Nat:=D.countP λe=>decide ((ak n).filter (λi=>decide (e.1/32^i%32=0))=[c])
noncomputable def r8(D:Dk)(n:Nat):List Nat:=yP D n 0::(bp 2 (n-1)).map λk=>D.countP λe=>decide (e.2=k)
noncomputable def hN(b:Nat)(ds:List Nat):Nat:=ds.foldr (λd s=>b*(d+s)) 0
noncomputable def hI(h:Int)(ds:List Nat):Int:=ds.foldr (λ(d:Nat) (s:Int)=>h*((d:Int)-s)) 0
noncomputable def vF(oi:List (List Nat)):Nat:=((ak (2^oi.length)).map λS=>(tab oi S).length*(tab oi (2^oi.length-1-S)).length).sum
noncomputable def D9(n:Nat)(a:Int):Int:=if n%2=1 then a else -a
structure A0(oi:List (List Nat)):Prop where
 alone:∀c,c<oi.length->yP (tab oi (2^oi.length-1)) oi.length c=yP (tab oi (2^oi.length-1)) oi.length 0
 sum:(r8 (tab oi (2^oi.length-1)) oi.length).sum=(tab oi (2^oi.length-1)).length
 xX:(r8 (tab oi (2^oi.length-1)) oi.length).getD (oi.length-1) 0=1
 deals:hN 2 (r8 (tab oi (2^oi.length-1)) oi.length)=vF oi
 dpos:0<vF oi
 dlt:vF oi<1000
 paint:∀h:Nat,h=1\/h=2\/h=3->hI (h:Int) (r8 (tab oi (2^oi.length-1)) oi.length)=D9 oi.length ((qx h oi oi.length).length:Nat)
noncomputable abbrev t7{α:Type}(f t:α)(b:Bool):α:=Bool.rec (motive:=λY=>α) f t b
noncomputable abbrev AI{α:Type}(z s:α)(n:Nat):α:=n_ (motive:=λY=>α) z (λY Y=>s) n
noncomputable def De{β:Type}(l:Dk):(Dk->β)->β:=ei (motive:=λY=>(Dk->β)->β) (λk=>k []) (λe Y ih k=>se e.1 λa=>se e.2 λb=>ih λt=>k ((a,b)::t)) l
theorem Nt{β:Type}:∀(l:Dk) (k:Dk->β),De l k=k l:=by
 intro vv
 induction vv with
 |nil =>
  intro k;exact rfl
 |cons e l ih =>
  intro k;show se e.1 (λa=>se e.2 λb=>De l λt=>k ((a,b)::t))=_;rw[wY,wY,ih]
noncomputable def y8{β:Type}(l:List Nat):(List Nat->β)->β:=ei (motive:=λY=>(List Nat->β)->β) (λk=>k []) (λe Y ih k=>se e λa=>ih λt=>k (a::t)) l
theorem Nr{β:Type}:∀(l:List Nat) (k:List Nat->β),y8 l k=k l:=by
 intro vv
 induction vv with
 |nil =>
  intro k;exact rfl
 |cons e l ih =>
  intro k;show se e (λa=>y8 l λt=>k (a::t))=_;rw[wY,ih]
noncomputable def Ir{β:Type}(l:List (List Nat)):(List (List Nat)->β)->β:=ei (motive:=λY=>(List (List Nat)->β)->β) (λk=>k []) (λe Y ih k=>y8 e λa=>ih λt=>k (a::t)) l
theorem XA{β:Type}:∀(l:List (List Nat)) (k:List (List Nat)->β),Ir l k=k l:=by
 intro vv
 induction vv with
 |nil =>
  intro k;exact rfl
 |cons e l ih =>
  intro k;show y8 e (λa=>Ir l λt=>k (a::t))=_;rw[Nr,ih]
theorem Bd(a b:Nat):cQ a b=decide (a=b):=by
 rw[cC,decide_eq_true_iff];exact⟨eG,λh=>h▸Nat.beq_refl a⟩
noncomputable def GR(l:Dk):Nat->Nat->Dk:=ei (motive:=λY=>Nat->Nat->Dk) (λk v=>[(k,v)]) (λe t ih k v=>t7 (e::ih k v) ((e.1,AI e.2 v (v-e.2))::t) (cQ e.1 k)) l
theorem wha:∀(l:Dk) (k v:Nat),GR l k v=ug l k v:=by
 intro vv
 induction vv with
 |nil =>
  intro k v;exact rfl
 |cons ee t ih =>
  obtain⟨a,b⟩:=ee;intro k v;show t7 ((a,b)::GR t k v) ((a,AI b v (v-b))::t) (cQ a k)=_;refine oa (ih _ _) ?_;have e:ug ((a,b)::t) k v=if a=k then(a,max b v)::t else(a,b)::ug t k v:=by rw[GQ]
  refine oa e ?_;refine oa (Bd _ _) ?_;by_cases h:a=k
  ·refine oa (if_pos h) ?_;refine oa (decide_eq_true h) ?_;show((a,AI b v (v-b))::t:Dk)=_
   congr 2
   induction hv:v-b using ce with
   |zero=>exact(Nat.max_eq_left (Nat.le_of_sub_eq_zero hv)).symm
   |succ m=>exact(Nat.max_eq_right (bb (K4 hv))).symm
  ·refine oa (if_neg h) ?_;refine oa (decide_eq_false h) ?_;rfl
noncomputable def CE{β:Type}(sh lo:Nat)(l:Dk):Dk->(Dk->β)->β:=ei (motive:=λY=>Dk->(Dk->β)->β) (λacc k=>k acc) (λe Y ih acc k=>se (e.1+sh) λx=>se (e.2+lo) λv=>ih (GR acc x v) k) l
theorem RU{β:Type}(sh lo:Nat):∀(l acc:Dk) (k:Dk->β),CE sh lo l acc k=k (zT sh lo acc l):=by
 intro vv
 induction vv with
 |nil =>
  intro acc k;exact rfl
 |cons e l ih =>
  intro acc k;show se (e.1+sh) (λx=>se (e.2+lo) λv=>CE sh lo l (GR acc x v) k)=_;rw[wY,wY,ih,wha];rfl
noncomputable def B3{α:Type}(d:α)(l:List α):Nat->α:=ei (motive:=λY=>Nat->α) (λY=>d) (λa Y ih n=>n_ a (λm Y=>ih m) n) l
theorem J_{α:Type}(d:α):∀(l:List α) (n:Nat),B3 d l n=l.getD n d
 | [],n=>rfl
 |a::l,0=>rfl
 |a::l,n+1=>by
  show B3 d l n=_;refine oa (J_ d l _) ?_;rfl
noncomputable def CJ(S j:Nat):Bool:=cQ (S/2^j%2) 1
theorem LG(S j:Nat):CJ S j=s8 S j:=Bd _ _
noncomputable def B2(nl:List Nat)(S:Nat):Nat:=ei 0 (λj Y ih=>t7 ih (2^j+ih) (CJ S j)) nl
theorem wcs(S:Nat):∀nl:List Nat,B2 nl S=uP nl S:=by
 intro vv
 induction vv with
 |nil =>
  exact rfl
 |cons j nl ih =>
  show t7 (B2 nl S) (2^j+B2 nl S) (CJ S j)=_;refine oa (ih) ?_;refine oa (LG _ _) ?_;unfold uP;refine oa eO ?_
  induction s8 S j using aZ with
  |true=>rfl
  |false=>rfl
noncomputable def AJ{β:Type}(oi:List (List Nat))(TR:List Dk)(S:Nat)(i:Nat)(acc:Dk)(k:Dk->β):β :=
 ei (motive:=λY=>Nat->Dk->β) (λY acc=>De acc k)
  (λnl Y ih i acc=>t7 (ih (i+1) acc) (se (S-2^i) λS'=>se (32^i*B2 nl S') λsh=>CE sh (AI 1 0 (S'%2^i)) (B3 [] TR (S-1-S')) acc λacc=>ih (i+1) acc) (CJ S i)) oi i acc
theorem wej{β:Type}(hT:T.length=S)(k:Dk->β):∀(oG pre:List (List Nat)) (acc:Dk),(∀i,s8 S i=true->2^i<=S/\0<S) ->
 AJ oG T.reverse S pre.length acc k=k ((bp pre.length oG.length).foldl (rn (pre++oG) T S) acc):=by
 intro vv
 induction vv with
 |nil =>
  intro pre acc _;show De acc k=_;refine oa (Nt _ _) ?_;rfl
 |cons nl oG ih =>
  intro pre acc hb;have sr:=λacc=>ih (pre++[nl]) acc hb;have hl:(pre++[nl]).length=pre.length+1:=by refine oa aq ?_;rfl
  rw[hl]at sr;have yu:pre++[nl]++oG=pre++nl::oG:=by rw[ch];rfl
  rw[yu]at sr;refine oa aF ?_;refine oa fL ?_;refine oa eZ ?_;have BL:(pre++nl::oG).getD pre.length []=nl:=by
   refine oa am ?_;refine oa (ay (ai _)) ?_;refine oa (ci _) ?_;rfl
  show t7 (AJ oG T.reverse S (pre.length+1) acc k) (se (S-2^pre.length) λS'=>se (32^pre.length*B2 nl S') λsh=>CE sh (AI 1 0 (S'%2^pre.length)) (B3 [] T.reverse (S-1-S')) acc λacc=>AJ oG T.reverse S (pre.length+1) acc k) (CJ S pre.length)=_;refine oa (LG _ _) ?_;unfold rn;refine oa BL ?_
  induction IR:s8 S pre.length using aZ with
  |false =>
   show AJ oG T.reverse S (pre.length+1) acc k=_;refine oa (sr _) ?_;rfl
  |true =>
   show(se (S-2^pre.length) λS'=>se (32^pre.length*B2 nl S') λsh=>CE sh (AI 1 0 (S'%2^pre.length)) (B3 [] T.reverse (S-1-S')) acc λacc=>AJ oG T.reverse S (pre.length+1) acc k)=_;refine p_ (hb pre.length IR) λh1 h2=>?_;have hp:=fq (n:=pre.length) (show 0<2 by decide);refine oa (wY _ _) ?_;refine oa (wY _ _) ?_;rewrite [RU];refine oa (sr _) ?_;refine oa (wcs _ _) ?_;rw[J_];have e1:T.reverse.getD (S-1-(S-2^pre.length)) []=T.getD (S-2^pre.length) []:=by
    refine oa am ?_;refine oa (iu (by rw[hT];exact aM (jb _ _) (ml h2 Nat.one_pos))) ?_;refine oa am ?_
    congr 2
    rw[hT];exact Nat.sub_sub_self (Nat.le_sub_one_of_lt (ml h2 hp))
   have e2:(AI 1 0 ((S-2^pre.length)%2^pre.length):Nat)=xY (S-2^pre.length) pre.length:=by
    unfold xY
    induction(S-2^pre.length)%2^pre.length using ce with
    |zero=>rfl
    |succ m=>rfl
   refine oa e1 ?_;refine oa e2 ?_;rfl
noncomputable def KJ{β:Type}(oi:List (List Nat))(n:Nat):(List Dk->β)->β:=n_ (motive:=λY=>(List Dk->β)->β) (λk=>k [[(0,0)]]) (λs ih k=>ih λTR=>se (s+1) λS=>AJ oi TR S 0 [] λr=>k (r::TR)) n
theorem SD(h:s8 S i=true):2^i<=S/\0<S:=by
 unfold s8 at h;have h:=of_decide_eq_true h;have hp:=fq (n:=i) (show 0<2 by decide);have:2^i<=S:=by
  rcases d9 S (2^i)with o9|yr
  ·rw[h_ o9]at h;cases h
  ·exact yr
 lia
theorem wfO{β:Type}(oi:List (List Nat)):∀(n:Nat) (k:List Dk->β),KJ oi n k=k (pY oi n).reverse:=by
 intro vv
 induction vv with
 |zero =>
  intro k;exact rfl
 |succ s ih =>
  intro k;show KJ oi s (λTR=>se (s+1) λS=>AJ oi TR S 0 [] λr=>k (r::TR))=_;refine oa (ih _) ?_;refine oa (wY _ _) ?_;have:=wej (T:=pY oi s) (S:=s+1) (zF oi s) (λr=>k (r::(pY oi s).reverse)) oi [] [] (λi hi=>SD hi);rw[dq,cS]at this;refine oa this ?_
  conv=>rhs;rw[AM]
  refine oa lK ?_;refine rwj fY ?_;rfl
noncomputable def yh(h:Nat):List (List Nat)->Nat->List Nat->Nat
 | [],_,_=>1
 |nl::oG,i,c=>((ak h).map λl=>if tV nl i c l then yh h oG (i+1) (c++[l])else 0).sum
theorem TX:yh h [] y x=1:=rfl
theorem LZ:yh h (nl::oG) y x =
 List.sum (jk (λl=>if tV nl y x l=true then yh h oG (y+1) (x++[l])else 0) (ak h)):=rfl
theorem wfy{α β:Type}(f:β->Nat)(g:α->List β):∀l:List α,((l.flatMap g).map f).sum=(l.map λa=>((g a).map f).sum).sum:=by
 intro vv
 induction vv with
 |nil =>
  exact rfl
 |cons a l ih =>
  refine oa b0 ?_;refine oa bo ?_;refine oa m_ ?_;refine oa (ih) ?_;refine oa aU ?_;refine oa bV ?_;rfl
theorem wfx{α:Type}(p:α->Bool)(f:α->Nat):∀l:List α,((l.filter p).map f).sum=(l.map λa=>if p a then f a else 0).sum:=by
 intro vv
 induction vv with
 |nil =>
  exact rfl
 |cons a l ih =>
  refine oa eO ?_;refine oa aU ?_;refine oa bV ?_;refine rwj (ih) ?_
  induction p a using aZ with
  |true=>rfl
  |false=>simp
theorem wdp(h:Nat):∀(oG pre:List (List Nat)),((qx h (pre++oG) pre.length).map (yh h oG pre.length)).sum=(qx h (pre++oG) (pre.length+oG.length)).length:=by
 intro vv
 induction vv with
 |nil =>
  intro pre;have:∀l:List (List Nat),(l.map (yh h [] pre.length)).sum=l.length:=λl=>by
   induction l with
   |nil=>rfl
   |cons a l ih=>refine oa aU ?_;refine oa bV ?_;refine oa ih ?_;refine oa aF ?_;rw[TX];exact i6 (dc l.length 1)
  exact this _
 |cons nl oG ih =>
  intro pre;have sr:=ih (pre++[nl]);have hl:(pre++[nl]).length=pre.length+1:=by refine oa aq ?_;rfl
  have yu:pre++[nl]++oG=pre++nl::oG:=by rw[ch];rfl
  rw[hl,yu]at sr;refine oa aF ?_;refine oa (show pre.length+(oG.length+1)=pre.length+1+oG.length from i6 (fj pre.length 1 oG.length)) ?_;refine rwj sr ?_
  conv=>rhs;rw[B4]
  rw[wfy]
  congr 1
  refine gi λc Y=>?_;have BL:(pre++nl::oG).getD pre.length []=nl:=by
   refine oa am ?_;refine oa (ay (ai _)) ?_;refine oa (ci _) ?_;rfl
  refine oa BL ?_;refine oa a_ ?_;rw[wfx]
  conv=>lhs;rw[LZ]
  rfl
noncomputable def wP(ms:List Nat):Nat->Nat->Nat->Nat->Nat:=ei (motive:=λY=>Nat->Nat->Nat->Nat->Nat) (λY Y Y Y=>1)
 (λm Y ih b x y z=>Nat.add (t7 0 (ih (2*b) (fH x b) y z) (cQ (gI m x) 0)) (Nat.add (t7 0 (ih (2*b) x (fH y b) z) (cQ (gI m y) 0)) (t7 0 (ih (2*b) x y (fH z b)) (cQ (gI m z) 0)))) ms
noncomputable def ti(nl:List Nat):Nat:=ei 32 (λj Y ih=>fH (2^j) ih) nl
theorem J0(i:Nat):∀nl:List Nat,(ti nl).testBit i=(decide (i∈nl)||decide (i=5)):=by
 intro vv
 induction vv with
 |nil =>
  show(2^5:Nat).testBit i=_;rw[dx];have:decide (i∈([]:List Nat))=false:=by simp
  rw[this,nH];exact decide_eq_decide.mpr ⟨λh=>h.symm,λh=>h.symm⟩
 |cons j nl ih =>
  show(2^j ||| ti nl).testBit i=_;rw[kr,ih,dx,<-Bool.or_assoc]
  congr 1
  rw[cC,du,decide_eq_true_iff,decide_eq_true_iff,decide_eq_true_iff,bh];exact⟨λh=>h.elim (λh=>eN h.symm) ji,λh=>h.elim (λh=>eN h.symm) ji⟩
noncomputable def tO(h:Nat)(c:List Nat)(l x:Nat):Prop:=if l<h then∀j,x.testBit j=(decide (j<c.length)&&decide (c.getD j 0=l))else∀j,5<=j->x.testBit j=decide (j=5)
theorem JM(hx:tO h c l x)(hc:c.length<=5)(wv:∀j∈nl,j<5):cQ (gI (ti nl) x) 0=(decide (l<h)&&tV nl c.length c l):=by
 unfold tO at hx;rw[Bd,cC,decide_eq_true_iff,aO,decide_eq_true_iff];by_cases hl:l<h
 ·rw[if_pos hl]at hx;unfold tV;rw[aj];constructor
  ·intro h0;refine⟨hl,λj hj=>?_⟩;have:(ti nl &&& x).testBit j=false:=by
    show(gI (ti nl) x).testBit j=false;rw[h0];exact fX j
   rw[ip,J0,hx j,decide_eq_true hj,Bool.true_or,eV]at this;rw[this];rfl
  ·rintro⟨_,h0⟩;refine iS λj=>?_;rw[fX];show(ti nl &&& x).testBit j=false;rw[ip,J0,hx j];by_cases hj:j∈nl
   ·have:=h0 j hj;rw[dQ]at this;rw[this,j_]
   ·by_cases h5:j<c.length
    ·rw[decide_eq_false hj,decide_eq_false (by lia)];rfl
    ·rw[decide_eq_false h5,j',j_]
 ·rw[if_neg hl]at hx;constructor
  ·intro h0;exfalso;have:(ti nl &&& x).testBit 5=false:=by
    show(gI (ti nl) x).testBit 5=false;rw[h0];exact fX 5
   rw[ip,J0,hx 5 (dL)]at this;simp at this
  ·rintro⟨h0,_⟩;exact absurd h0 hl
theorem yy(hx:tO h c l x)(hc:c.length<5)(uO:l'<h):tO h (c++[l']) l (if l=l' then fH x (2^c.length)else x):=by
 unfold tO at *;by_cases hl:l<h
 ·rw[if_pos hl]at hx ⊢;intro j;have hg:(c++[l']).getD j 0=if j=c.length then l' else c.getD j 0:=by
   refine oa am ?_;refine oa am ?_;by_cases hj:j<c.length
   ·refine oa (aL hj) ?_;refine oa (if_neg (by lia)) ?_;rfl
   ·refine oa (ay (Ck hj)) ?_;by_cases e:j=c.length
    ·refine oa (if_pos e) ?_;refine oa e ?_;refine oa (ci _) ?_;rfl
    ·refine oa (if_neg e) ?_;refine oa (ew (by simp;lia)) ?_;refine oa (ew (Ck hj)) ?_;rfl
  refine oa hg ?_;refine oa aq ?_;refine oa cZ ?_;by_cases e:l=l'
  ·refine oa (if_pos e) ?_;show(x ||| 2^c.length).testBit j=_;rewrite [kr];refine oa dx ?_;refine oa (hx j) ?_;by_cases hj:j=c.length
   ·subst hj;refine oa (if_pos rfl) ?_;refine oa (decide_eq_true e.symm) ?_;simp
   ·have h9:decide (c.length=j)=false:=decide_eq_false (λh=>hj h.symm);refine oa (if_neg hj) ?_;refine oa h9 ?_;refine oa (Bool.or_false _) ?_
    congr 1
    exact decide_eq_decide.mpr (by lia)
  ·refine oa (if_neg e) ?_;refine oa (hx j) ?_;by_cases hj:j=c.length
   ·subst hj;have h9:decide (l'=l)=false:=decide_eq_false (λh=>e h.symm);refine oa (if_pos rfl) ?_;refine oa (decide_eq_false (aJ _)) ?_;refine oa h9 ?_;refine oa (j' _) ?_;refine oa (j_ _) ?_;rfl
   ·refine oa (if_neg hj) ?_
    congr 1
    exact decide_eq_decide.mpr (by lia)
 ·rw[if_neg hl]at hx ⊢;have e:l≠l':=by lia
  refine oa (if_neg e) ?_;exact hx
theorem TY(h1:1<=h)(h3:h<=3):∀(oG:List (List Nat)) (c:List Nat) (x y z:Nat),c.length+oG.length<=5->(∀nl∈oG,∀j∈nl,j<5)->tO h c 0 x->tO h c 1 y->tO h c 2 z ->
 wP (oG.map ti) (2^c.length) x y z=yh h oG c.length c:=by
 intro vv
 induction vv with
 |nil =>
  intro c x y z _ _ _ _ _;exact rfl
 |cons nl oG ih =>
  intro c x y z oU hn hx hy hz;rw[aF]at oU;have hc:c.length<5:=Ci oU;have wv:=hn nl (by simp);have sr:∀l' x' y' z',tO h (c++[l']) 0 x'->tO h (c++[l']) 1 y'->tO h (c++[l']) 2 z'->wP (oG.map ti) (2*2^c.length) x' y' z'=yh h oG (c.length+1) (c++[l']):=λl' x' y' z' a1 a2 a3=>by
   have:=ih (c++[l']) x' y' z' (by refine oa aq ?_;refine oa cZ ?_;exact Ev oU) (λnl' hm=>hn nl' (by simp[hm])) a1 a2 a3;rw[aq,cZ,fE,cE]at this;exact this
  show t7 0 (wP (oG.map ti) (2*2^c.length) (fH x (2^c.length)) y z) (cQ (gI (ti nl) x) 0)+(t7 0 (wP (oG.map ti) (2*2^c.length) x (fH y (2^c.length)) z) (cQ (gI (ti nl) y) 0)+t7 0 (wP (oG.map ti) (2*2^c.length) x y (fH z (2^c.length))) (cQ (gI (ti nl) z) 0))=_;refine oa (JM hx (bb hc) wv) ?_;refine oa (JM hy (bb hc) wv) ?_;refine oa (JM hz (bb hc) wv) ?_;have KL:∀l x' y' z',(l<h->tO h (c++[l]) 0 x'/\tO h (c++[l]) 1 y'/\tO h (c++[l]) 2 z')->t7 0 (wP (oG.map ti) (2*2^c.length) x' y' z') (decide (l<h)&&tV nl c.length c l)=if l<h then(if tV nl c.length c l then yh h oG (c.length+1) (c++[l])else 0)else 0:=λl x' y' z' hm=>by
   by_cases hl:l<h
   ·refine tR (hm hl) λa1 a2 a3=>?_;refine oa (decide_eq_true hl) ?_;refine oa (if_pos hl) ?_;refine oa (eV _) ?_;refine oa (sr l x' y' z' a1 a2 a3) ?_;cases tV nl c.length c l<;>rfl
   ·refine oa (decide_eq_false hl) ?_;refine oa (if_neg hl) ?_;rfl
  refine oa (KL 0 (fH x (2^c.length)) y z (λhl=>qJ (yy hx hc hl) (yy hy hc hl) (yy hz hc hl))) ?_;refine oa (KL 1 x (fH y (2^c.length)) z (λhl=>qJ (yy hx hc hl) (yy hy hc hl) (yy hz hc hl))) ?_;refine oa (KL 2 x y (fH z (2^c.length)) (λhl=>qJ (yy hx hc hl) (yy hy hc hl) (yy hz hc hl))) ?_
  conv=>rhs;rw[LZ]
  have:h=1\/h=2\/h=3:=by lia
  rcases this with rfl|rfl|rfl
  ·simp[cA]
  ·simp[cA]
  ·simp[cA]
theorem Kc(h1:1<=h)(h3:h<=3)(hn:oi.length<=5)(hj:∀nl∈oi,∀j∈nl,j<5):
 wP (oi.map ti) 1 0 (if 1<h then 0 else 32) (if 2<h then 0 else 32)=(qx h oi oi.length).length:=by
 have m0:∀l,l<h->tO h [] l 0:=λl hl=>by
  unfold tO;refine oa (if_pos hl) ?_;intro j;refine oa (fX _) ?_;rfl
 have m1:∀l,¬l<h->tO h [] l 32:=λl hl=>by
  unfold tO;refine oa (if_neg hl) ?_;intro j _;show(2^5:Nat).testBit j=_;refine oa dx ?_;exact decide_eq_decide.mpr ⟨λh=>h.symm,λh=>h.symm⟩
 have:=TY h1 h3 oi [] 0 (if 1<h then 0 else 32) (if 2<h then 0 else 32) (by simpa using hn) hj (m0 0 (h1)) (by split;exact m0 1 (by omega);exact m1 1 (by omega)) (by split;exact m0 2 (by omega);exact m1 2 (by omega));have p:=wdp h oi [];rw[cS,dq,gx]at p;refine rwj p ?_;show wP (oi.map ti) (2^0) 0 _ _=_;rw[dq]at this;refine oa this ?_;rfl
noncomputable def DS{α:Type}(l:List α):Nat:=ei 0 (λY Y ih=>ek ih) l
theorem PA{α:Type}:∀l:List α,DS l=l.length:=by
 intro vv
 induction vv with
 |nil =>
  exact rfl
 |cons a l ih =>
  show ek (DS l)=_;refine oa (ih) ?_;rfl
noncomputable def xz{α:Type}(p:α->Bool)(l:List α):Nat:=ei 0 (λa Y ih=>t7 ih (ek ih) (p a)) l
theorem L0{α:Type}(p:α->Bool):∀l:List α,xz p l=l.countP p:=by
 intro vv
 induction vv with
 |nil =>
  exact rfl
 |cons a l ih =>
  show t7 (xz p l) (ek (xz p l)) (p a)=_;refine oa (ih) ?_;refine oa hV ?_;cases p a<;>rfl
noncomputable def ya(l:List Nat)(k:Nat):Nat:=ei 0 (λi Y ih=>t7 ih (fH (2^i) ih) (cQ (k/32^i%32) 0)) l
theorem Rs(k j:Nat):∀l:List Nat,(ya l k).testBit j=decide (j∈l.filter λi=>decide (k/32^i%32=0)):=by
 intro vv
 induction vv with
 |nil =>
  show(0:Nat).testBit j=_;rw[fX];simp
 |cons i l ih =>
  show(t7 (ya l k) (fH (2^i) (ya l k)) (cQ (k/32^i%32) 0)).testBit j=_;rw[Bd,eO]
  induction decide (k/32^i%32=0)using aZ with
  |false=>exact ih
  |true =>
   show(2^i ||| ya l k).testBit j=decide (j∈i::_);rw[kr,ih,dx,cC,du,decide_eq_true_iff,decide_eq_true_iff,decide_eq_true_iff,bh];exact⟨λh=>h.elim (λh=>eN h.symm) ji,λh=>h.elim (λh=>eN h.symm) ji⟩
theorem wcD(hd:l.Nodup)(h:∀x,x∈l↔x=c):l=[c]:=by
 match l,hd,h with
 | [],_,h=>exact absurd ((h c).mpr rfl) (by simp)
 | [a],_,h=>refine oa ((h a).mp (by simp)) ?_;rfl
 |a::b::l,hd,h =>
  have h1:=(h a).mp (by simp);have h2:=(h b).mp (by simp);rw[cB]at hd;exact absurd (by refine oa h1 ?_;refine oa h2 ?_;simp:a∈b::l) hd.1
theorem whz(n k c:Nat):cQ (ya (ak n) k) (2^c)=decide ((ak n).filter (λi=>decide (k/32^i%32=0))=[c]):=by
 rw[Bd];refine decide_eq_decide.mpr ⟨λh=>wcD (mJ.filter _) λx=>?_,λh=>iS λj=>?_⟩
 ·have:=Rs k x (ak n);rw[h,dx]at this;rw[decide_eq_decide]at this;exact⟨λhx=>(this.mpr hx).symm,λhx=>this.mp hx.symm⟩
 ·rw[Rs,h,dx];exact decide_eq_decide.mpr (by rw[aI];exact⟨λh=>h.symm,λh=>h.symm⟩)
noncomputable def K5{β:Type}(rg:List Nat)(d:Dk):(List Nat->β)->β:=ei (motive:=λY=>(List Nat->β)->β) (λk=>k []) (λe Y ih k=>se (ya rg e.1) λz=>ih λt=>k (z::t)) d
theorem whA{β:Type}(rg:List Nat):∀(d:Dk) (k:List Nat->β),K5 rg d k=k (d.map λe=>ya rg e.1):=by
 intro vv
 induction vv with
 |nil =>
  intro k;exact rfl
 |cons e d ih =>
  intro k;show se (ya rg e.1) (λz=>K5 rg d λt=>k (z::t))=_;rw[wY,ih];rfl
noncomputable def r7(oi:List (List Nat)):Bool :=
 Ir oi λoi=>se oi.length λn=>se (2^n-1) λF=>y8 (ak n) λrg =>
 KJ oi F λTR=>De (B3 [] TR 0) λD=>K5 rg D λzs =>
 y8 (xz (λz=>cQ z (2^0)) zs::(bp 2 (n-1)).map λk=>xz (λe=>cQ e.2 k) D) λds =>
 y8 (TR.map DS) λls=>se ((nQ (·*·) ls ls.reverse).sum) λde=>y8 (oi.map ti) λms =>
 rg.all (λc=>cQ (xz (λz=>cQ z (2^c)) zs) (xz (λz=>cQ z (2^0)) zs))&&cQ ds.sum (DS D)&&cQ (ds.getD (n-1) 0) 1 &&
 cQ (hN 2 ds) de&&j7 1 de&&j7 de 999&&decide (hI (1:Nat) ds=D9 n (wP ms 1 0 32 32:Nat))&&decide (hI (2:Nat) ds=D9 n (wP ms 1 0 0 32:Nat))&&decide (hI (3:Nat) ds=D9 n (wP ms 1 0 0 0:Nat))
theorem Ut(f:Nat->Nat)(N:Nat):(nQ (·*·) ((ak N).map f).reverse ((ak N).map f).reverse.reverse)=(ak N).map λS=>f S*f (N-1-S):=by
 rw[List.reverse_reverse];refine hU (by simp) λi h1 h2=>?_;simp only[ac,bP]at h2;rw[List.getElem_zipWith,List.getElem_reverse,dT,dT,dT,gA,gA,cE];simp
theorem TE(h0:1<=oi.length)(hn:oi.length<=5)(hj:∀nl∈oi,∀j∈nl,j<5)(h:r7 oi=true):A0 oi:=by
 unfold r7 at h;simp only[XA,wY,Nr,Nt,wfO,whA,J_]at h;have hp:=fq (n:=oi.length) (show 0<2 by decide);have oU:=zF oi (2^oi.length-1);have eD:(pY oi (2^oi.length-1)).reverse.getD 0 []=tab oi (2^oi.length-1):=by
  unfold tab;refine oa am ?_;refine oa (iu (by simp[*])) ?_;refine oa am ?_
  congr 2
  simp[*]
 rw[eD]at h;have eA:∀c,xz (λz=>cQ z (2^c)) ((tab oi (2^oi.length-1)).map λe=>ya (ak oi.length) e.1)=yP (tab oi (2^oi.length-1)) oi.length c:=λc=>by
  refine oa (L0 _ _) ?_;refine oa jL ?_;unfold yP
  congr 1
  funext e;exact whz _ _ _
 have U0:(xz (λz=>cQ z (2^0)) ((tab oi (2^oi.length-1)).map λe=>ya (ak oi.length) e.1)::(bp 2 (oi.length-1)).map λk=>xz (λe=>cQ e.2 k) (tab oi (2^oi.length-1)))=r8 (tab oi (2^oi.length-1)) oi.length:=by
  refine oa (eA 0) ?_;unfold r8
  congr 1
  refine gi λk Y=>?_;refine oa (L0 _ _) ?_
  congr 1
  funext e;exact Bd _ _
 rw[U0]at h;simp only[eA]at h;have eL:(pY oi (2^oi.length-1)).reverse.map DS=((ak (2^oi.length)).map λS=>(tab oi S).length).reverse:=by
  refine oa jA ?_
  congr 1
  refine hU (by refine oa (ac _) ?_;refine oa (ac _) ?_;refine oa bP ?_;lia) λi h1 h2=>?_;rw[ac]at h1;refine oa (dT _) ?_;refine oa (dT _) ?_;refine oa (gA _) ?_;refine oa (PA _) ?_;have e1:=GI oi (k:=i) (2^oi.length-1) (by lia);rw[am,au h1]at e1;unfold tab;refine rwj e1 ?_;rfl
 rw[eL,Ut (λS=>(tab oi S).length) (2^oi.length)]at h;have UZ:((ak (2^oi.length)).map λS=>(tab oi S).length*(tab oi (2^oi.length-1-S)).length).sum=vF oi:=rfl;rw[UZ,PA]at h;simp only[aO]at h;refine p_ h λz1 c9=>?_;obtain⟨⟨⟨⟨⟨⟨⟨c1,c2⟩,c3⟩,c4⟩,c5⟩,c6⟩,c7⟩,c8⟩:=z1;have p1:=Kc (h:=1) (by decide) (by decide) hn hj;have p2:=Kc (h:=2) (by decide) (by decide) hn hj;have p3:=Kc (h:=3) (by decide) (by decide) hn hj;refine⟨λc hc=>?_,eG c2,eG c3,eG c4,c_ c5,jq (c_ c6),?_⟩
 ·exact eG (aj.mp c1 c (a0.mpr hc))
 ·rintro h (rfl|rfl|rfl)
  ·refine rwj p1 ?_;exact of_decide_eq_true c7
  ·refine rwj p2 ?_;exact of_decide_eq_true c8
  ·refine rwj p3 ?_;exact of_decide_eq_true c9
noncomputable def su:Nat->List (List Nat)
 |0=>[[]]
 |n+1=>(su n).flatMap λs=>[s,s++[n]]
theorem wfu:su (n+1)=kY (λs=>[s,s++[n]]) (su n):=rfl
noncomputable def sP(n:Nat)(g:List (List Nat))(S:List Nat):List (List Nat):=((ak n).map λi=>if S.contains i then g.getD i []++[n]else g.getD i [])++[S]
noncomputable def rB:Nat->List (List (List Nat))
 |0=>[[]]
 |n+1=>(rB n).flatMap λg=>(su n).map λS=>sP n g S
theorem RX:rB (n+1)=kY (λg=>jk (λS=>sP n g S) (su n)) (rB n):=rfl
noncomputable def uF(sn:Nat->Nat->Bool)(n:Nat):List (List Nat):=(ak n).map λi=>(ak n).filter (sn i)
theorem KD(p:Nat->Bool):∀n,(ak n).filter p∈su n
 |0=>aI.mpr rfl
 |n+1=>by
  rw[wfu,fM];refine⟨_,KD p n,?_⟩;rw[cA,gB];cases h:p n<;>simp[h]
theorem LR{sn:Nat->Nat->Bool}(hs:∀i j,sn i j=sn j i)(hi:∀i,sn i i=false)(n:Nat):uF sn (n+1)=sP n (uF sn n) ((ak n).filter (sn n)):=by
 unfold uF sP;rw[cA,bo]
 congr 1
 ·refine gi λi Oi=>?_;have sR:=a0.mp Oi;have hg:((ak n).map λi=>(ak n).filter (sn i)).getD i []=(ak n).filter (sn i):=by
   rw[am,bf,gj sR];rfl
  rw[hg,gB];have hc:((ak n).filter (sn n)).contains i=sn i n:=by
   rw[cC,iv,ga,hs n i];exact⟨λh=>h.2,λh=>⟨Oi,h⟩⟩
  rw[hc];cases h:sn i n<;>simp[h]
 ·show[((ak n)++[n]).filter (sn n)]=_;rw[gB];simp[hi n]
theorem A8{sn:Nat->Nat->Bool}(hs:∀i j,sn i j=sn j i)(hi:∀i,sn i i=false):∀n,uF sn n∈rB n
 |0=>aI.mpr rfl
 |n+1=>by
  rw[LR hs hi];rw[RX,fM];exact⟨_,A8 hs hi n,aE.mpr ⟨_,KD _ n,rfl⟩⟩
theorem g1:(rB 1).all (λg=>r7 g)=true:=by decide +kernel
theorem g2:(rB 2).all (λg=>r7 g)=true:=by decide +kernel
theorem g3:(rB 3).all (λg=>r7 g)=true:=by decide +kernel
theorem g4:(rB 4).all (λg=>r7 g)=true:=by decide +kernel
theorem h0:(((rB 4).drop (4*0)).take 4).all (λg=>(su 4).all λS=>r7 (sP 4 g S))=true:=by decide +kernel
theorem h1:(((rB 4).drop (4*1)).take 4).all (λg=>(su 4).all λS=>r7 (sP 4 g S))=true:=by decide +kernel
theorem h2:(((rB 4).drop (4*2)).take 4).all (λg=>(su 4).all λS=>r7 (sP 4 g S))=true:=by decide +kernel
theorem h3:(((rB 4).drop (4*3)).take 4).all (λg=>(su 4).all λS=>r7 (sP 4 g S))=true:=by decide +kernel
theorem h4:(((rB 4).drop (4*4)).take 4).all (λg=>(su 4).all λS=>r7 (sP 4 g S))=true:=by decide +kernel
theorem h5:(((rB 4).drop (4*5)).take 4).all (λg=>(su 4).all λS=>r7 (sP 4 g S))=true:=by decide +kernel
theorem h6:(((rB 4).drop (4*6)).take 4).all (λg=>(su 4).all λS=>r7 (sP 4 g S))=true:=by decide +kernel
theorem h7:(((rB 4).drop (4*7)).take 4).all (λg=>(su 4).all λS=>r7 (sP 4 g S))=true:=by decide +kernel
theorem h8:(((rB 4).drop (4*8)).take 4).all (λg=>(su 4).all λS=>r7 (sP 4 g S))=true:=by decide +kernel
theorem h9:(((rB 4).drop (4*9)).take 4).all (λg=>(su 4).all λS=>r7 (sP 4 g S))=true:=by decide +kernel
theorem yn:(((rB 4).drop (4*10)).take 4).all (λg=>(su 4).all λS=>r7 (sP 4 g S))=true:=by decide +kernel
theorem xK:(((rB 4).drop (4*11)).take 4).all (λg=>(su 4).all λS=>r7 (sP 4 g S))=true:=by decide +kernel
theorem Dl:(((rB 4).drop (4*12)).take 4).all (λg=>(su 4).all λS=>r7 (sP 4 g S))=true:=by decide +kernel
theorem Dm:(((rB 4).drop (4*13)).take 4).all (λg=>(su 4).all λS=>r7 (sP 4 g S))=true:=by decide +kernel
theorem xL:(((rB 4).drop (4*14)).take 4).all (λg=>(su 4).all λS=>r7 (sP 4 g S))=true:=by decide +kernel
theorem X2:(((rB 4).drop (4*15)).take 4).all (λg=>(su 4).all λS=>r7 (sP 4 g S))=true:=by decide +kernel
theorem G_:(rB 4).length=64:=by decide +kernel
theorem g5{g:List (List Nat)}(hg:g∈rB 4){S:List Nat}(hS:S∈su 4):r7 (sP 4 g S)=true:=by
 obtain⟨i,hi,rfl⟩:=lL hg;rw[G_]at hi;have H:∀k∈ak 16,(((rB 4).drop (4*k)).take 4).all (λg=>(su 4).all λS=>r7 (sP 4 g S))=true:=oZ h0 (oZ h1 (oZ h2 (oZ h3 (oZ h4 (oZ h5 (oZ h6 (oZ h7 (oZ h8 (oZ h9 (oZ yn (oZ xK (oZ Dl (oZ Dm (oZ xL (oZ X2 wg)))))))))))))));have hm:(rB 4)[i]'(by rw[G_];exact hi)∈((rB 4).drop (4*(i/4))).take 4:=by
  rw[fZ];refine⟨i%4,by rw[dE,dF,G_];exact Nat.lt_min.mpr ⟨bj _ (by decide),Nat.lt_sub_of_add_lt (by rw[dc,et];exact hi)⟩,?_⟩;rw[List.getElem_take,mq]
  congr 1
  exact et i 4
 exact aj.mp (aj.mp (H _ (a0.mpr (iT hi))) _ hm) S hS
theorem TA{sn:Nat->Nat->Bool}(hs:∀i j,sn i j=sn j i)(hi:∀i,sn i i=false){n:Nat}(h1:1<=n)(h5:n<=5):r7 (uF sn n)=true:=by
 have:n=1\/n=2\/n=3\/n=4\/n=5:=by lia
 rcases this with rfl|rfl|rfl|rfl|rfl
 ·exact aj.mp g1 _ (A8 hs hi 1)
 ·exact aj.mp g2 _ (A8 hs hi 2)
 ·exact aj.mp g3 _ (A8 hs hi 3)
 ·exact aj.mp g4 _ (A8 hs hi 4)
 ·rw[LR hs hi];exact g5 (A8 hs hi 4) (KD _ 4)
noncomputable def wf(oi:List (List Nat))(i j:Nat):Bool:=decide (j∈oi.getD i [])
theorem TC{oi:List (List Nat)}(g:u4 oi)(i:Nat)(hi:i<oi.length):(oi.getD i []).Perm ((uF (wf oi) oi.length).getD i []):=by
 have e:(uF (wf oi) oi.length).getD i []=(ak oi.length).filter (wf oi i):=by
  unfold uF;rw[am,bf,gj hi];rfl
 rw[e,List.perm_ext_iff_of_nodup (g.nd i) (mJ.filter _)];intro j;rw[ga,a0];unfold wf;rw[decide_eq_true_iff];exact⟨λh=>⟨(g.sym i j h).1,h⟩,λh=>h.2⟩
theorem wdw{l l':List Nat}(h:l.Perm l'):l.sum=l'.sum:=by
 induction h with
 |nil=>rfl
 |cons x _ ih=>rw[bV,bV,ih]
 |swap x y l=>rw[bV,bV,bV,bV];lia
 |trans _ _ ih1 ih2=>rw[ih1,ih2]
theorem wcu{l l':List Nat}(h:l.Perm l')(S:Nat):uP l S=uP l' S:=by
 unfold uP;exact wdw ((h.filter _).map _)
theorem wcJ{l l':List Nat}(h:l.Perm l')(i:Nat)(c:List Nat)(m:Nat):tV l i c m=tV l' i c m:=by
 unfold tV;rw[cC,aj,aj];exact⟨λhh j hj=>hh j (h.mem_iff.mpr hj),λhh j hj=>hh j (h.mem_iff.mp hj)⟩
theorem weq{oi near':List (List Nat)}(hl:oi.length=near'.length)(h:∀i,i<oi.length->(oi.getD i []).Perm (near'.getD i []))(T:List Dk)(S:Nat):yC oi T S=yC near' T S:=by
 unfold yC;rw[<-hl];have:∀(l:List Nat) (acc:Dk),(∀i∈l,i<oi.length)->l.foldl (rn oi T S) acc=l.foldl (rn near' T S) acc:=λl=>by
  induction l with
  |nil=>intro acc _;rfl
  |cons i l ih =>
   intro acc hi;rw[eZ,eZ];have e:rn oi T S acc i=rn near' T S acc i:=by
    unfold rn;rw[wcu (h i (hi i (by simp)))]
   rw[e];exact ih _ (λj hj=>hi j (by simp[hj]))
 exact this _ _ (λi hi=>a0.mp hi)
theorem QT{oi near':List (List Nat)}(hl:oi.length=near'.length)(h:∀i,i<oi.length->(oi.getD i []).Perm (near'.getD i [])):∀s,pY oi s=pY near' s
 |0=>rfl
 |s+1=>by
  rw[AM,AM,QT hl h s,weq hl h]
theorem Qe{oi near':List (List Nat)}(k:Nat)(h:∀i,i<oi.length->(oi.getD i []).Perm (near'.getD i [])):∀i,i<=oi.length->qx k oi i=qx k near' i
 |0,_=>rfl
 |i+1,hi=>by
  rw[B4,B4,Qe k h i (bb hi)]
  congr 1
  funext c
  congr 1
  congr 1
  funext l;exact wcJ (h i (hi)) _ _ _
theorem XW{oi:List (List Nat)}(g:u4 oi):A0 oi:=by
 have hs:∀i j,wf oi i j=wf oi j i:=λi j=>decide_eq_decide.mpr ⟨λh=>(g.sym i j h).2.2,λh=>(g.sym j i h).2.2⟩;have hi:∀i,wf oi i i=false:=λi=>decide_eq_false λh=>(g.sym i i h).2.1 rfl;have hc:=TA hs hi g.pos g.le;have hl:(uF (wf oi) oi.length).length=oi.length:=by unfold uF;rw[ac,bP]
 have f:=TE (oi:=uF (wf oi) oi.length) (by rw[hl];exact g.pos) (by rw[hl];exact g.le) (λnl wv j hj=>by
  unfold uF at wv;refine oB (aE.mp wv) ?_;rintro i _ rfl;have:=a0.mp (ga.mp hj).1;have:=g.le
  lia) hc
 have hp:=TC g;have ht:∀S,tab oi S=tab (uF (wf oi) oi.length) S:=λS=>by
  unfold tab;rw[QT hl.symm hp]
 have Zk:∀h,qx h oi oi.length=qx h (uF (wf oi) oi.length) oi.length:=λh=>Qe h hp _ (ai _);have hd:vF oi=vF (uF (wf oi) oi.length):=by
  unfold vF;rw[hl]
  congr 1
  refine gi λS Y=>?_;rw[ht,ht]
 obtain⟨f1,f2,f3,f4,f5,f6,f7⟩:=f;rw[hl]at f1 f2 f3 f4 f7;refine⟨?_,?_,?_,?_,by rw[hd];exact f5,by rw[hd];exact f6,?_⟩
 ·rw[ht];exact f1
 ·rw[ht];exact f2
 ·rw[ht];exact f3
 ·rw[ht,hd];exact f4
 ·rw[ht];intro h hh;rw[Zk];exact f7 h hh
noncomputable def VN(b:Nat)(l:List Nat):Nat:=l.foldr (λd s=>d+b*s) 0
noncomputable def VI(x:Int)(l:List Nat):Int:=l.foldr (λ(d:Nat) (s:Int)=>(d:Int)+x*s) 0
theorem we(b d:Nat)(l:List Nat):VN b (d::l)=d+b*VN b l:=rfl
theorem A7(x:Int)(d:Nat)(l:List Nat):VI x (d::l)=(d:Int)+x*VI x l:=rfl
theorem EN(b:Nat):∀l:List Nat,((VN b l:Nat):Int)=VI b l
 | []=>rfl
 |d::l=>by rw[we,A7,<-EN b l,dw,cU]
theorem L9(w:Nat):∀l:List Nat,qL w (l.map bE)=((VN (2^w) l:Nat):Int):=by
 intro vv
 induction vv with
 |nil =>
  exact rfl
 |cons d l ih =>
  rw[P9,ih,we,dw,cU,dO,Int.mul_comm];rfl
theorem IK(b:Nat):∀l:List Nat,hN b l=b*VN b l
 | []=>rfl
 |d::l=>by
  show b*(d+hN b l)=_;refine oa (IK b l) ?_;rw[we]
theorem X'(h:Int):∀l:List Nat,hI h l=h*VI (-h) l:=by
 intro vv
 induction vv with
 |nil =>
  show(0:Int)=h*0;simp
 |cons d l ih =>
  show h*((d:Int)-hI h l)=_;rw[ih,A7,lQ];rfl
theorem Lj(b x:Int):∀l:List Nat,∃q,VI b l=VI x l+(b-x)*q:=by
 intro vv
 induction vv with
 |nil =>
  exact⟨0,by show(0:Int)=0+(b-x)*0;simp⟩
 |cons d l ih =>
  refine o6 (ih) λq hq=>?_;refine⟨VI x l+b*q,?_⟩;rw[A7,A7,hq,Int.mul_add,Int.mul_add,lM,lM,lM];have e1:b*(b*q-x*q)=b*(b*q)-x*(b*q):=by
   rw[jM,Int.mul_left_comm b x q]
  rw[e1]
  lia
theorem Lf(hb:0<b):∀l:List Nat,(∀d∈l,d<b)->VN b l<b^l.length:=by
 intro vv
 induction vv with
 |nil =>
  intro _;show 0<1;decide
 |cons d l ih =>
  intro h;have h1:=h d (by simp);have h2:=ih (λx hx=>h x (by simp[hx]));rw[we,aF,fE];have h3:b*VN b l+b<=b^l.length*b:=by
   rw[cE (b^l.length) b,<-gy];exact i3 b h2
  lia
theorem Le(b:Nat):∀l:List Nat,l≠[]->1<=l.getD (l.length-1) 0->b^(l.length-1)<=VN b l
 | [],h,_=>absurd rfl h
 | [d],_,h=>by
  rw[we];have h:1<=d:=h;show 1<=d+b*0;exact h
 |d::e::l,_,h=>by
  have ih:=Le b (e::l) (by simp) h;rw[we];have:b^((d::e::l).length-1)=b*b^((e::l).length-1):=by
   show b^(l.length+1)=b*b^l.length;rw[fE,cE]
  rw[this];have:=i3 b ih;omega
theorem UI:∀l:List Nat,(∀d∈l,d<2^w)->vG w l.length (VN (2^w) l)=l:=by
 intro vv
 induction vv with
 |nil =>
  intro _;exact rfl
 |cons d l ih =>
  intro h;have h1:=h d (by simp);rw[aF,Bi,we,gP,jD h1,iU _ _ (ck w),h_ h1,gx,ih (λx hx=>h x (by simp[hx]))]
theorem UC(hw:0<w)(h1:2^(w*k)<=a)(h2:a<2^(w*(k+1))):pU w a=k+1:=by
 have ha:a≠0:=by have:=ck (w*k);lia
 have Yn:aH (a:Int)=a.log2+1:=by
  unfold aH;refine oa (if_neg (by simp;exact ha)) ?_;refine oa (bl _) ?_;rfl
 have l1:w*k<=a.log2:=(Nat.le_log2 ha).mpr h1;have l2:a.log2<w*(k+1):=(iQ ha).mpr h2;unfold pU;refine oa Yn ?_;refine oa (show a.log2+1+w-1=a.log2+w by simp) ?_;refine oa (Nat.add_div_right _ hw) ?_
 congr 1
 exact Nat.div_eq_of_lt_le (by refine oa (cE _ _) ?_;exact l1) (by refine oa (cE _ _) ?_;exact l2)
theorem Mk(hw:0<w)(hl:l≠[])(o9:∀d∈l,d<2^w)(FS:1<=l.getD (l.length-1) 0):dg w (pU w (VN (2^w) l)) (VN (2^w) l)=l.map bE:=by
 have w_:0<l.length:=iX.mpr hl;have h1:=Le (2^w) l hl FS;have h2:=Lf (ck w) l o9;rw[<-Nat.pow_mul]at h1 h2;have:=UC (k:=l.length-1) hw h1 (by refine oa (show l.length-1+1=l.length from K3 w_) ?_;exact h2);refine oa this ?_;refine oa (show l.length-1+1=l.length from K3 w_) ?_;rewrite [E9];refine oa (UI l o9) ?_;rfl
noncomputable def AS(l:List Nat):List Nat:=(ak l.length).map λm=>(l.drop (m+1)).sum
theorem wgR(d:Nat)(t:List Nat):AS (d::t)=t.sum::AS t:=by
 unfold AS;refine oa aF ?_;refine oa kX ?_;refine oa aU ?_;refine oa a_ ?_;rfl
theorem G9(b:Nat)(hb:1<=b):∀l:List Nat,VN b l=l.sum+(b-1)*VN b (AS l)
 | []=>by show 0=0+(b-1)*0;exact rfl
 |d::t=>by
  have ih:=G9 b hb t;rw[wgR,we,we,bV];obtain⟨c,rfl⟩:∃c,b=c+1:=⟨b-1,by simp[*]⟩
  rw[gJ]at ih ⊢;rw[ih];generalize VN (c+1) (AS t)=X;generalize t.sum=s;rw[jJ,ft,gT,jJ c s,Nat.mul_left_comm (c+1) c X]
  lia
theorem Lg(b:Nat):∀l:List Nat,VN b (l++[0])=VN b l
 | []=>by show 0+b*0=0;simp
 |d::l=>by rw[fO,we,we,Lg b l]
theorem wgS(h:l.length=n+1):AS l=((ak n).map λm=>(l.drop (m+1)).sum)++[0]:=by
 unfold AS;refine oa h ?_;refine oa cA ?_;refine oa bo ?_
 congr 1
 show[(l.drop (n+1)).sum]=[0];refine oa (fB (bd h)) ?_;rfl
theorem wfw(l:List Nat)(m:Nat):(l.drop m).sum<=l.sum:=by
 conv=>rhs;rw[<-lg m l]
 refine oa m_ ?_;exact em (List.drop m l).sum (List.take m l).sum
theorem C9{m q r:Int}(h0:0<=r)(h1:r<m):(r+m*q).fdiv m=q/\(r+m*q).fmod m=r:=by
 have hm:0<m:=by lia
 rw[bY _ (by lia),eK _ (by lia),ly _ _ (by lia),li h0 h1,Int.add_mul_emod_self_left,Int.emod_eq_of_lt h0 h1];exact⟨by simp,rfl⟩
theorem Nc{m q r:Int}(h0:0<=r)(h1:r<m):(-(r+m*q)).fdiv (-m)=q/\(-(r+m*q)).fmod (-m)=-r:=by
 have:=C9 (q:=q) h0 h1;refine oa (nc _ _) ?_;refine oa (Int.neg_fmod_neg _ _) ?_;refine oa this.1 ?_;refine oa this.2 ?_;exact⟨rfl,rfl⟩
theorem RT(w:Nat):∀k a,a<2^(w*k)->VN (2^w) (vG w k a)=a:=by
 intro vv
 induction vv with
 |zero =>
  intro a h;have:a=0:=by simpa using h
  refine oa this ?_;rfl
 |succ k ih =>
  intro a h;have h2:a/2^w<2^(w*k):=by
   rw[fK (ck w),<-gS];exact ab h (aD (by decide) (by refine oa (gy _ _) ?_;exact ai _))
  rewrite [Bi,we];refine oa (ih _ h2) ?_;exact Nat.mod_add_div a (2^w)
theorem back(w a:Nat)(hw:0<w):qL w (dg w (pU w a) a)=a:=by
 rw[E9,L9];have h1:=JD (a:=a);have h2:aH (a:Int)<=w*pU w a:=Ri hw;rw[RT w _ a (ab h1 (aD (by decide) h2))]
noncomputable def wF(p L:Nat):List Nat:=(ak ((L+7-p)/8)).map λk=>p+8*k
theorem weh:(ak 8).all (λp=>(ak 61).all λL=>tI (p:Int) (L:Int) 8==some ((wF p L).map bE)&&(wF p L).all (λj=>decide (j<L))&&decide ((wF p L).length<=8))=true:=by decide +kernel
theorem weg{p L:Nat}(hp:p<8)(hL:L<=60):tI (p:Int) (L:Int) 8=some ((wF p L).map bE)/\(∀j∈wF p L,j<L)/\(wF p L).length<=8:=by
 have h1:=aj.mp weh p (a0.mpr hp);have h2:=aj.mp h1 L (a0.mpr (by lia));simp only[aO]at h2;exact qJ (eq_of_beq h2.1.1) (λj hj=>of_decide_eq_true (aj.mp h2.1.2 j hj)) (of_decide_eq_true h2.2)
noncomputable def xh:List Nat:=[1715446,365853733,816530545,225,318,5174684,75120764,123]
noncomputable def IY(pV:List Int)(p:Nat):Nat:=xh.getD p 0+((wF p pV.length).map λj=>((pV.getD j 0).fmod (10^15)).toNat).sum
noncomputable def BK(pV:List Int):List Nat:=(ak 8).map (IY pV)
theorem YD{Φ:rd}{s:AV}{pV:List Int}(hn:pV.length<=60){oG:oI}(hr:oG.length=21):
 ev Φ [] (some s::some (.lst (oz xh))::some (.lst (pL pV))::oG) (.comp 1 (.cons 24 (.range (.cons (.c (.int 8)) .nil)) .nil (.done (.bin .Add (.idx (.var 1) (.var 24)) (.call .sum (.cons (.comp 1 (.cons 25 (.range (.cons (.var 24) (.cons (.call .len (.cons (.var 2) .nil)) (.cons (.c (.int 8)) .nil)))) .nil (.done (.bin .Mod (.idx (.var 2) (.var 25)) (.bin .Pow (.c (.int 10)) (.c (.int 15))))))) .nil))))))
  = some (.lst (oz (BK pV))):=by
 refine(Ab (x:=24) (vs:=oz (ak 8)) (g:=λv=>match v with | .int k=>.int (IY pV k.toNat:Nat)|v=>v) (wU oY (by decide)) (by simp[hr]) (by simp) (λv hv=>?_)).trans ?_
 ·refine oB (aE.mp hv) ?_;rintro p hp rfl;have hp:=a0.mp hp;refine tR (weg hp hn) λh1 h2 h3=>?_;show _=some (AV.int (IY pV (p:Int).toNat:Nat));rw[aT];have Em:∀{w:List (Option AV)},((some s::some (AV.lst (oz xh))::some (AV.lst (pL pV))::oG)++some (.int (p:Int))::w)[24]?=some (some (.int (p:Int))):=λ{w}=>by
   rw[ay (by simp[hr])];simp[hr]
  refine vc (x:=xh.getD p 0) (tQ (l:=oz xh) (k:=p) (ol rfl) (ol Em) (zw hp) (by simp[xh])) ?_;refine Fj (l:=(wF p pV.length).map λj=>((pV.getD j 0).fmod (10^15)).toNat) ?_ ?_
  ·refine(Ab (x:=25) (vs:=oz (wF p pV.length)) (g:=λv=>match v with | .int k=>.int (((pV.getD k.toNat 0).fmod (10^15)).toNat:Nat)|v=>v) ?_ (by simp[hr]) (by rw[ac];lia) (λv hv=>?_)).trans ?_
   ·rw[CZ,uo (x:=.int p) (y:=.int (pV.length:Nat)) (z:=.int 8) (ol Em) ?_ pX]
    ·show(tI (p:Int) (pV.length:Int) 8).map _=_;rw[h1];show some (((wF p pV.length).map bE).map AV.int)=_;rw[a_];rfl
    ·refine rV (vs:=[.lst (pL pV)]) (q6 (ol rfl)) ?_;show tC (pL pV).length=_;rw[ac];unfold tC;rw[if_pos (by lia)]
   ·refine oB (aE.mp hv) ?_;rintro j hj rfl;have hj:=h2 j hj;show _=some (AV.int (((pV.getD (j:Int).toNat 0).fmod (10^15)).toNat:Nat));rw[aT];have v25:((((some s::some (AV.lst (oz xh))::some (AV.lst (pL pV))::oG)++[some (.int (p:Int))])++[some (.int (j:Int))]))[25]?=some (some (.int (j:Int))):=by
     rw[ay (by simp[hr])];simp[hr]
    have ta:(pL pV)[j]?=some (.int (pV.getD j 0)):=by
     rw[bf,au hj,am,au hj];rfl
    refine qp (tQ (l:=pL pV) (k:=j) (ol rfl) (ol v25) ta (by rw[ac];lia)) (wk (x:=10) (y:=15) oY oY (by decide) (by decide)) ?_;show(if(((10^15:Nat):Int))=0 then none else some (AV.int ((pV.getD j 0).fmod ((10^15:Nat):Int))))=_;rw[if_neg (by decide)];have Y_:0<=(pV.getD j 0).fmod (10^15):=Int.fmod_nonneg_of_pos _ (by decide);have:(((pV.getD j 0).fmod (10^15)).toNat:Int)=(pV.getD j 0).fmod (10^15):=dU Y_;rw[this];rfl
   ·unfold oz;rw[a_,a_];rfl
  ·have hs:=KH (10^15) ((wF p pV.length).map λj=>((pV.getD j 0).fmod (10^15)).toNat) (λx hx=>by
    refine oB (aE.mp hx) ?_;rintro j _ rfl;have:=Int.fmod_lt_of_pos (pV.getD j 0) (b:=10^15) (by decide)
    lia)
   rw[ac]at hs;have:(wF p pV.length).length*10^15<=8*10^15:=iP _ h3;have:8*10^15<2^53:=by decide
   lia
 ·unfold oz BK;rw[a_,a_];rfl
theorem N'(pV:List Int):(BK pV).length=8:=by
 unfold BK;refine oa (ac _) ?_;rfl
theorem PT(g:F):zv g g g=g:=by unfold zv;split<;>(try split)<;>rfl
theorem PQ(g:F):zu g g g=g:=by unfold zu;split<;>(try split)<;>rfl
theorem WR(h:qa g g=true):Fi (N+1) 6 [.flt g,.flt g,.flt g]=some (.tup [.flt 0,.flt 0,.flt g]):=by
 refine tl (N:=N) Nn rfl ?_;show oL (Fi N) [some (.flt g),some (.flt g),some (.flt g),none,none,none,none,none,none,none,none,none] [] f6.body=_;refine o0 (v:=.flt g) (kL (b:=some (AV.flt (zv g g g))) rfl (by rw[PT])) (o0 (v:=.flt g) (kL (b:=some (AV.flt (zu g g g))) rfl (by rw[PQ])) (o0 (v:=.flt (aX g g)) rfl (o0 (v:=.flt g) (ol rfl) ?_)));exact wm ((wV (ol rfl) (ol rfl) h).trans (by rw[h])) (sd rfl rfl)
theorem WP(h:qa g g=true):Fi (N+1) 5 [.flt g,.flt g,.flt g]=some (.tup [.flt 0,.flt (vp g g),.flt 0]):=by
 refine tl (N:=N) Nm rfl ?_;show oL (Fi N) [some (.flt g),some (.flt g),some (.flt g),none,none,none,none,none,none,none,none,none,none] [] f5.body=_;refine o0 (v:=.flt g) (kL (b:=some (AV.flt (zv g g g))) rfl (by rw[PT])) (o0 (v:=.flt g) (kL (b:=some (AV.flt (zu g g g))) rfl (by rw[PQ])) (o0 (v:=.flt (bH g g)) rfl (o0 (v:=.flt (aX g g)) rfl (o0 (v:=.flt (vp g g)) (wj (ol rfl) t9 Rh) ?_))));exact wm ((wV (ol rfl) (ol rfl) h).trans (by rw[h])) (sd rfl rfl)
theorem Rl:(dD 0 0==some .eq)=true:=by decide +kernel
theorem WT:Fi (N+1) 7 [.flt h,.int 0,.flt g]=some (.tup [.flt g,.flt g,.flt g]):=by
 refine tl (N:=N) No rfl ?_;show oL (Fi N) [some (.flt h),some (.int 0),some (.flt g),none,none,none,none,none] [] f7.body=_;refine wm (qS (x:=.int 0) (y:=.flt 0) (ol rfl) t9 ?_) (sd rfl rfl);show some (dD 0 0==some .eq)=_;rw[Rl]
theorem XY:∀k,k<5->qa (qB k) (qB k)=true/\yW (vp (qB k) (qB k)) (qB k)=true:=by decide +kernel
theorem HQ(h1:ev Φ σ ρ a=some (.tup x))(h2:ev Φ σ ρ b=some (.tup y))(hl:x.length+y.length<=100000):ev Φ σ ρ (.bin .Add a b)=some (.tup (x++y)):=by
 refine qp h1 h2 ?_;show(if _ then _ else _)=_;refine oa (if_pos hl) ?_;rfl
theorem XX(hk:k<5)(h9:ρ[9]?=some (some (.flt (qB k)))):ev (Fi (N+1)) [] ρ (.cmp .NotEq (.bin .Add (.bin .Add (.call (.user 6) (.cons (.var 9) (.cons (.var 9) (.cons (.var 9) .nil)))) (.call (.user 5) (.cons (.var 9) (.cons (.var 9) (.cons (.var 9) .nil))))) (.call (.user 7) (.cons (.bin .Add (.var 9) (.bin .Div (.c (.int 1)) (.c (.int 8)))) (.cons (.c (.int 0)) (.cons (.var 9) .nil))))) (.tup (.cons (.c (.int 0)) (.cons (.c (.int 0)) (.cons (.var 9) (.cons (.c (.int 0)) (.cons (.var 9) (.cons (.c (.int 0)) (.cons (.var 9) (.cons (.var 9) (.cons (.var 9) .nil)))))))))))=some (.bool false):=by
 refine p_ (XY k hk) λg1 g2=>?_;have g2:=z0 g2;generalize qB k=g at *;have v9:ev (Fi (N+1)) [] ρ (.var 9)=some (.flt g):=ol h9;have c6:ev (Fi (N+1)) [] ρ (.call (.user 6) (.cons (.var 9) (.cons (.var 9) (.cons (.var 9) .nil))))=some (.tup [.flt 0,.flt 0,.flt g]):=qT (vs:=[.flt g,.flt g,.flt g]) (uo v9 v9 v9) rfl (WR g1);have c5:ev (Fi (N+1)) [] ρ (.call (.user 5) (.cons (.var 9) (.cons (.var 9) (.cons (.var 9) .nil))))=some (.tup [.flt 0,.flt g,.flt 0]):=by
  have:=qT (k:=5) (Φ:=Fi (N+1)) (ρ:=ρ) (vs:=[.flt g,.flt g,.flt g]) (uo v9 v9 v9) rfl (WP (N:=N) g1);rw[g2]at this;exact this
 have c7:ev (Fi (N+1)) [] ρ (.call (.user 7) (.cons (.bin .Add (.var 9) (.bin .Div (.c (.int 1)) (.c (.int 8)))) (.cons (.c (.int 0)) (.cons (.var 9) .nil))))=some (.tup [.flt g,.flt g,.flt g]):=
  qT (vs:=[.flt (bH g (bI false 1 8)),.int 0,.flt g]) (uo (HO v9 (yl (x:=1) (y:=8) oY oY (by decide) (by decide))) pX v9) rfl WT
 have i0:ev (Fi (N+1)) [] ρ (.c (.int 0))=some (.int 0):=pX;have ct:ev (Fi (N+1)) [] ρ (.tup (.cons (.c (.int 0)) (.cons (.c (.int 0)) (.cons (.var 9) (.cons (.c (.int 0)) (.cons (.var 9) (.cons (.c (.int 0)) (.cons (.var 9) (.cons (.var 9) (.cons (.var 9) .nil))))))))))=some (.tup [.int 0,.int 0,.flt g,.int 0,.flt g,.int 0,.flt g,.flt g,.flt g]):=by
  refine C4 (vs:=[.int 0,.int 0,.flt g,.int 0,.flt g,.int 0,.flt g,.flt g,.flt g]) ?_ (show 9<=100000 by decide);simp only[y1,MV,i0,v9]
 refine qS (HQ (HQ c6 c5 (show 6<=100000 by decide)) c7 (show 9<=100000 by decide)) ct ?_;have ez:qR (.flt 0) (.int 0)=some true:=by
  show some (dD 0 0==some .eq)=_;rw[Rl]
 have eg:qR (.flt g) (.flt g)=some true:=by
  show(if(bM g g==some .eq)=true then some (bM g g==some .eq)else none)=_;unfold qa at g1;rw[g1];rfl
 show(sN qR [.flt 0,.flt 0,.flt g,.flt 0,.flt g,.flt 0,.flt g,.flt g,.flt g] [.int 0,.int 0,.flt g,.int 0,.flt g,.int 0,.flt g,.flt g,.flt g]).map (!·)=_;simp only[CY,ez,eg];rfl
theorem ZP:(ak 64).all (λa=>tx (qf a) λx=>(bp 1 31).all λst=>tx (qf ((a+st)%64)) λy=>tx (qf ((a+2*st)%64)) λz=>qa x x&&qa y y&&qa z z&&!qa x y&&!qa y x&&!qa x z&&!qa z x&&!qa y z&&!qa z y)=true:=by decide +kernel
theorem ZN(A:Nat):G2 A:=by
 have h1:=aj.mp ZP (A%64) (a0.mpr (bj _ (by decide)));rw[BA]at h1;have h2:=aj.mp h1 (1+A/64%31) (by rw[cL];lia);rw[BA,BA]at h2;simp only[aO,dQ]at h2;refine p_ h2 λz1 a9=>?_;obtain⟨⟨⟨⟨⟨⟨⟨a1,a2⟩,a3⟩,a4⟩,a5⟩,a6⟩,a7⟩,a8⟩:=z1;have e0:rQ A 0=A%64:=by unfold rQ;simp
 have e1:rQ A 1=(A%64+(1+A/64%31))%64:=by unfold rQ;simp
 have e2:rQ A 2=(A%64+2*(1+A/64%31))%64:=by unfold rQ;exact rfl
 intro l l' hl uO;have:l=0\/l=1\/l=2:=Rq hl;have:l'=0\/l'=1\/l'=2:=Rq uO;rcases‹l=0\/l=1\/l=2› with rfl|rfl|rfl<;>rcases‹l'=0\/l'=1\/l'=2› with rfl|rfl|rfl<;>simp only[e0,e1,e2]<;>first|exact a1|exact a2|exact a3|exact a4|exact a5|exact a6|exact a7|exact a8|exact a9
noncomputable def Bj:Nat->rG->rG
 |0,s=>s
 |k+1,.cons _ s=>Bj k s
 |_+1,.nil=>.nil
theorem V_{a e:Ex}{k:Nat}{x:List AV}(h1:ev Φ σ ρ a=some (.lst x))(h2:ev Φ σ ρ e=some (.int k))(hl:x.length<=100000):ev Φ σ ρ (.slice a .none (.some e))=some (.lst (x.take k)):=by
 have hn:tw Φ σ ρ .none=some none:=rfl;have hs:tw Φ σ ρ (.some e)=some (some (k:Int)):=by rw[Bn,h2]
 rw[Bt,h1];simp only[hn,hs];show(if 0<=(k:Int)then yA σ (λl=>l.take (k:Int).toNat) (.lst x)else none)=_;rw[if_pos (az k),aT];show(if _ then _ else _)=_;rw[if_pos hl]
theorem V'{a e:Ex}{k:Nat}{x:List AV}(h1:ev Φ σ ρ a=some (.lst x))(h2:ev Φ σ ρ e=some (.int k))(hl:x.length<=100000):ev Φ σ ρ (.slice a (.some e) .none)=some (.lst (x.drop k)):=by
 have hn:tw Φ σ ρ .none=some none:=rfl;have hs:tw Φ σ ρ (.some e)=some (some (k:Int)):=by rw[Bn,h2]
 rw[Bt,h1];simp only[hn,hs];show(if 0<=(k:Int)then yA σ (λl=>l.drop (k:Int).toNat) (.lst x)else none)=_;rw[if_pos (az k),aT];show(if _ then _ else _)=_;rw[if_pos hl]
theorem HW(h1:ev Φ σ ρ a=some (.lst l))(hl:l.length<=100000):ev Φ σ ρ (.call .len (.cons a .nil))=some (.int (l.length:Nat)):=by
 refine rV (q6 h1) ?_;show tC l.length=_;unfold tC;refine oa (if_pos hl) ?_;rfl
theorem MK(h1:ev Φ σ ρ a=some (qY D))(hl:D.length<=100000):ev Φ σ ρ (.call .len (.cons a .nil))=some (.int (D.length:Nat)):=by
 refine rV (q6 h1) ?_;show tC (qP D).length=_;unfold tC qP;refine oa (ac _) ?_;refine oa (if_pos hl) ?_;rfl
theorem MF{a i:Ex}{l:List AV}{k:Nat}{v:AV}(h1:ev Φ σ ρ a=some (.lst l))(h2:ev Φ σ ρ i=some (.int (-1-(k:Int))))(hk:k<l.length)(hv:l[l.length-1-k]?=some v)(hn:l.length<=100000):ev Φ σ ρ (.idx a i)=some v:=by
 refine yY h1 h2 ?_;have hp:tG (-1-(k:Int)) l.length=some (l.length-1-k):=by
  unfold tG;have hs:-1-(k:Int)=lR k:=by rw[nG];lia
  have hm:lR k+(l.length:Int)=((l.length-1-k:Nat):Int):=by rw[nG];lia
  have hl:=aM (jb (l.length-1) k) (ml (aM (dh k) hk) Nat.one_pos);rw[hs];refine oa (if_pos (show uK (lR k)=true from decide_eq_true (show k+1<2^53 from aM (ae hk hn) (by decide)))) ?_;unfold je;simp only[if_pos (Int.negSucc_lt_zero k),hm];refine oa (if_pos (show(decide (0<=((l.length-1-k:Nat):Int))&&decide (((l.length-1-k:Nat):Int)<(l.length:Int)))=true by rw[decide_eq_true (az _),decide_eq_true (dC.mpr hl)];rfl)) ?_;rfl
 show(tG (-1-(k:Int)) l.length).bind (λj=>l[j]?)=_;refine oa hp ?_;exact hv
theorem Mm:∀a b:List Nat,a.length=b.length->sN qR (oz a) (oz b)=some (decide (a=b))
 | [],[],_=>rfl
 |a::as,b::bs,h=>by
  have ih:=Mm as bs (by simpa using h);have e:sN qR (oz (a::as)) (oz (b::bs))=some (decide ((a:Int)=(b:Int))&&decide (as=bs)):=by
   show sN qR (AV.int (a:Int)::oz as) (AV.int (b:Int)::oz bs)=_;rw[CY];rw[ih];rfl
  rw[e]
  congr 1
  rw[cC,aO,decide_eq_true_iff,decide_eq_true_iff,decide_eq_true_iff,List.cons.injEq];constructor
  ·rintro⟨h1,h2⟩;exact⟨by lia,h2⟩
  ·rintro⟨h1,h2⟩;exact⟨by simp[*],h2⟩
theorem Mp(a b:List Nat):wh σ (.lst (oz a)) (.lst (oz b))=some (decide (a=b)):=by
 show(if(oz a).length=(oz b).length then sN qR (oz a) (oz b)else some false)=_;refine oa (ac _) ?_;refine oa (ac _) ?_;by_cases h:a.length=b.length
 ·refine oa (if_pos h) ?_;refine oa (Mm a b h) ?_;rfl
 ·rw[if_neg h,decide_eq_false (λe=>h (by refine oa e ?_;rfl))]
theorem V0(h1:ev Φ σ ρ a=some (.lst (oz x)))(h2:ev Φ σ ρ b=some (.lst (oz y))):ev Φ σ ρ (.cmp .Eq a b)=some (.bool (decide (x=y))):=by
 refine qS h1 h2 ?_;show wh σ (.lst (oz x)) (.lst (oz y))=_;exact Mp x y
theorem V4(h1:ev Φ σ ρ a=some (.lst (oz x)))(h2:ev Φ σ ρ b=some (.lst (oz x))):ev Φ σ ρ (.cmp .NotEq a b)=some (.bool false):=by
 refine qS h1 h2 ?_;show(wh σ (.lst (oz x)) (.lst (oz x))).map (!·)=_;refine oa (Mp _ _) ?_;refine oa (decide_eq_true rfl) ?_;rfl
theorem NF(l:List Nat):o8 [] 6 (.lst (oz l))=some (.lst (oz l)):=by
 show(pq (o8 [] 5) (oz l)).map AV.lst=_;refine oa (Df 4 _ _) ?_;rfl
theorem NE(l:List Int):o8 [] 6 (.lst (pL l))=some (.lst (pL l)):=by
 show(pq (o8 [] 5) (l.map AV.int)).map AV.lst=_;refine oa (BY (g:=id) _ (λa ha=>by refine oB (aE.mp ha) ?_;rintro i _ rfl;rfl)) ?_;refine oa (dY _) ?_;rfl
theorem NG(oi:List (List Nat)):o8 [] 6 (qn oi)=some (qn oi):=by
 show(pq (o8 [] 5) (oi.map λl=>AV.lst (oz l))).map AV.lst=_;rw[BY (g:=id) _ (λa ha=>by
  refine oB (aE.mp ha) ?_;rintro i _ rfl;show(pq (o8 [] 4) (oz i)).map AV.lst=_;refine oa (Df 3 _ _) ?_;rfl),dY];rfl
theorem XJ(A n:Nat):o8 [] 6 (.lst (qD A n))=some (.lst (qD A n)):=by
 show(pq (o8 [] 5) (qD A n)).map AV.lst=_;have:=Nz 4 [] (λt=>qf (rQ A t)) (ak n);unfold qD;refine oa this ?_;rfl
theorem JU(h:f a=some b):pq f [a]=some [b]:=by simp only[uv,h];rfl
theorem JV(h:f a=some a')(h2:f b=some b'):pq f [a,b]=some [a',b']:=by simp only[uv,h,h2];rfl
theorem wbW(h:f a=some a')(h2:f b=some b')(h3:f c=some c'):pq f [a,b,c]=some [a',b',c']:=by simp only[uv,h,h2,h3];rfl
theorem wbb(c:Nat):vn c<=4:=by unfold vn;(repeat' split)<;>exact pG dL rfl
theorem wdm(hs:List Nat):∀x∈rK hs,x<=260:=by
 intro x hx;unfold rK at hx;refine oB (fM.mp hx) λi Y hx=>?_;unfold vZ at hx;rw[aW]at hx;rcases hx with hx|hx
 ·refine oB (aE.mp hx) ?_;rintro c _ rfl;have:=wbb c
  lia
 ·rw[aI]at hx;have:pO hs i<48:=bj _ (by decide);rw[hx];split<;>lia
theorem wdk(hs:List Nat):∃x∈rK hs,256<=x:=by
 refine pK (Rf (hs.getD 0 0%3) (hs.getD 0 0/3)) λc l e Y=>?_;refine oV (256+vn c) ?_ (aV 256 (vn c));unfold rK;rw[fM];refine oV 0 (by simp) ?_;unfold vZ pM;refine oa (dc 1 _) ?_;refine oa e ?_;simp
theorem wdl(hs:List Nat):(rK hs).length<=1000:=by
 refine rwj (Po _) ?_;refine oa aq ?_;refine oa (ac _) ?_;have:=DP hs;show _+1<=_;exact K2 this rfl
noncomputable abbrev Kl(s pV YC rZ row oi KO vK count tables:AV):oI:=[some s,some (.lst (oz xh)),some pV,some YC,some rZ,some row,some row,some oi,some KO,some vK,some count,some tables,none,none,none,none,none,none,none,none,none,none,none,none]
theorem wbe{N:Nat}(rX:List Int)(oU:rX.length<=100000)(hs:List Nat)(FP:hs=BK (rX.take 60)):∃oi rZ,u4 oi/\∀r,oL (Fi (N+2)) (Kl (.lst (pL rX)) (.lst (pL (rX.take 60))) (.lst (oz hs)) rZ (.lst (oz (rK hs))) (qn oi) (.lst (qD (hs.getD 6 0) (3*oi.length))) (.flt (qB (hs.getD 6 0%5))) (.int (oi.length:Nat)) (.lst ((pY oi (2^oi.length-1)).map qY))) [] (Bj 11 y6.body)=r ->
 oL (Fi (N+2)) (some (.lst (pL rX))::aA 23 none) [] y6.body=r:=by
 have h8:hs.length=8:=by rw[FP];exact N' _
 have Zb:(rX.take 60).length<=60:=by rw[dE];lia
 obtain⟨oi,hg,yo⟩:=WH (N:=N) ((rK hs).map bE++[255,-1]) (λx hx BE=>by
  rw[aW]at hx;rcases hx with hx|hx
  ·refine oB (aE.mp hx) ?_;rintro y hy rfl;have:=wdm hs y hy;show(y:Int)<261
   lia
  ·simp at hx;lia) (by
  refine oB (wdk hs) λx hx h=>?_;exact oV (x:Int) (by rw[aW];left;exact aE.mpr ⟨x,hx,rfl⟩) (yG h))
 have hn:=hg.le;have Dx:=hg.pos;refine rf oi (.str (uS hs)) hg (λr hr=>?_);refine o0 (v:=.lst (oz xh)) rfl (o0 (v:=.lst (pL (rX.take 60))) ?_ ?_)
 ·refine(V_ (k:=60) (ol rfl) oY (by rw[ac];exact oU)).trans ?_;unfold pL;rw[kK]
 refine o0 (v:=.lst (oz hs)) (by rw[FP];exact YD Zb (oG:=aA 21 none) rfl) ?_;refine Ah (vs:=[.str (uS hs),.lst (oz (rK hs))]) (qT (vs:=[.lst (oz hs)]) (q6 (ol rfl)) (JU (NF hs)) (WF hs h8)) rfl ?_;refine o0 (v:=.lst (oz (rK hs))) (qT (vs:=[.str (uS hs)]) (q6 (ol rfl)) rfl (WG hs)) ?_;refine rE (V4 (ol rfl) (ol rfl)) pS ?_;refine o0 (v:=qn oi) (qT (vs:=[.lst (pL ((rK hs).map bE++[255,-1]))]) (q6 ?_) (JU (NE _)) yo) ?_
 ·refine(C1 (x:=oz (rK hs)) (y:=[.int 255,.int (-1)]) (ol rfl) rfl ?_).trans ?_
  ·rw[ac];have:=wdl hs;show _+2<=_
   lia
  ·rw[B1];unfold pL;rw[bo];rfl
 have On:∀{ρ:oI},ρ[7]?=some (some (qn oi))->ev (Fi (N+2)) [] ρ (.call .len (.cons (.var 7) .nil))=some (.int (oi.length:Nat)):=λh7=>by
  have:=HW (Φ:=Fi (N+2)) (σ:=[]) (l:=oi.map λl=>AV.lst (oz l)) (ol h7) (by rw[ac];lia)
  rwa [ac]at this
 have ta:∀i,i<8->(oz hs)[i]?=some (.int (hs.getD i 0:Nat)):=λi hi=>zw (by lia);have Oe:∀{ρ:oI},ρ[3]?=some (some (.lst (oz hs)))->ev (Fi (N+2)) [] ρ (.idx (.var 3) (.c (.int 6)))=some (.int (hs.getD 6 0:Nat)):=λh3=>tQ (l:=oz hs) (k:=6) (ol h3) oY (ta 6 (by lia)) (by rw[ac];lia);refine o0 (v:=.lst (qD (hs.getD 6 0) (3*oi.length))) (qT (vs:=[.int (hs.getD 6 0:Nat),.int (oi.length:Nat)]) (rW (Oe rfl) (On rfl)) rfl (WJ _ _ hn)) ?_;refine o0 (v:=.flt (qB (hs.getD 6 0%5))) (yl (y:=4) (r_ (y:=5) (Oe rfl) oY (by decide)) oY (by decide) (bW (bj _ (by decide)) (by decide:5<2^64))) ?_;refine rE (Fh ((MI (ol rfl)).trans ?_) (XX (N:=N+1) (bj _ (by decide)) rfl)) pS ?_
 ·have:(qD (hs.getD 6 0) (3*oi.length)).length=3*oi.length:=by unfold qD;rw[ac,bP]
  rw[this,decide_eq_false (by lia)]
 refine y2 (vs:=[.int (oi.length:Nat),.lst ((pY oi (2^oi.length-1)).map qY)]) (um (On rfl) (um (qT (vs:=[qn oi]) (q6 (ol rfl)) (JU (NG oi)) (WL (N:=N+1) hg)) yX)) rfl ?_;exact hr
theorem JW:∀(l:List Nat),∀x∈l,x<=l.sum
 |a::l,x,h=>by
  refine oa bV ?_;rcases bh.mp h with rfl|h
  ·exact aV x l.sum
  ·have:=JW l x h
   lia
noncomputable def v3(n:Nat)(W:Int):Int:=if n%2=1 then -W else W
noncomputable def uY(ds:List Nat)(n:Nat):List Nat:=(ak n).map λm=>(ds.drop (m+1)).sum
structure EJ(n w L de:Nat) (ds:List Nat) (P:Nat->Nat):Prop where
 W1:VN (2^w) ds<2^1000
 dl:∀d∈ds,d<1000
 back:dg w (pU w (VN (2^w) ds)) (VN (2^w) ds)=ds.map bE
 side:∀h:Nat,h=1\/h=2\/h=3->∃q:Int,v3 n (VN (2^w) ds:Nat)=(P h:Nat)+(((2^w:Nat):Int)+h)*q
 quo:VN (2^w) ds=L+(2^w-1)*VN (2^w) (uY ds n)
 tback:dg w (pU w (VN (2^w) (uY ds n))) (VN (2^w) (uY ds n))=(uY ds n).map bE
 two:∃q:Int,((VN (2^w) ds:Nat):Int)=(de:Int)+(((2^w:Nat):Int)-2)*q
 Ll:L<1000
 q1:VN (2^w) (uY ds n)<2^1000
theorem wbk(f:A0 oi)(g:u4 oi)(hw:10<=w)(AD:w<=32):
 EJ oi.length w (tab oi (2^oi.length-1)).length (vF oi) (0::r8 (tab oi (2^oi.length-1)) oi.length) (λh=>(qx h oi oi.length).length):=by
 obtain⟨f1,f2,f3,f4,f5,f6,f7⟩:=f;have hn:=g.le;have Dx:=g.pos;have hb:1024<=2^w:=ae (by decide:1024<=2^10) (aD (by decide) hw);have BJ:(r8 (tab oi (2^oi.length-1)) oi.length).length=oi.length:=by
  unfold r8;rw[aF,ac,dH];simp[*]
 generalize hL:(tab oi (2^oi.length-1)).length=L at *;generalize r8 (tab oi (2^oi.length-1)) oi.length=ds at *;generalize oi.length=n at *;have FU:(0::ds).length=n+1:=by rw[aF,BJ]
 have IJ:L<1000:=by
  rw[IK]at f4;have:=G9 2 (by decide) ds;rw[f2]at this;have:L<=VN 2 ds:=by rw[this];exact aV _ _
  lia
 have FJ:∀d∈(0::ds),d<1000:=λd hd=>by
  rcases bh.mp hd with rfl|hd
  ·decide
  ·have:=JW ds d hd
   lia
 have FS:1<=(0::ds).getD ((0::ds).length-1) 0:=by
  rw[FU,gJ];obtain⟨m,rfl⟩:∃m,n=m+1:=⟨n-1,by simp[*]⟩
  rw[gJ]at f3;show 1<=ds.getD m 0;rw[f3];exact ai 1
 have NV:∀l:List Nat,l.length<=6->(∀d∈l,d<1000)->VN (2^w) l<2^1000:=λl hl hd=>by
  have h1:=Lf (ck w) l (λd h=>by have:=hd d h;lia);rw[<-Nat.pow_mul]at h1;exact ab h1 (aD (by decide) (ae (di AD hl) (by decide)))
 have ZE:(0::ds).sum=L:=by rw[bV,f2,gx]
 have OU:∀d∈uY (0::ds) n,d<1000:=λd hd=>by
  unfold uY at hd;refine oB (aE.mp hd) ?_;rintro m _ rfl;have:=wfw (0::ds) (m+1)
  lia
 have AC:(uY (0::ds) n).length=n:=by unfold uY;rw[ac,bP]
 refine⟨NV _ (by lia) FJ,FJ,?_,?_,?_,?_,?_,IJ,NV _ (by lia) OU⟩
 ·exact Mk (GV hw) (by simp) (λd hd=>by have:=FJ d hd;lia) FS
 ·intro h hh;have e:=f7 h hh;have hv:=EN (2^w) (0::ds);refine o6 (Lj ((2^w:Nat):Int) (-(h:Int)) (0::ds)) λq hq=>?_;have e2:VI (-(h:Int)) (0::ds)=-hI h ds:=by
   rw[A7,X',lQ];show(0:Int)+_=_
   lia
  rw[<-hv,e2,e]at hq;unfold v3 D9 at *;by_cases ho:n%2=1
  ·rw[if_pos ho]at hq ⊢;refine⟨-q,?_⟩;rw[hq,iV,Int.neg_add,lP,Int.sub_neg]
  ·rw[if_neg ho]at hq ⊢;refine⟨q,?_⟩;rw[hq,lP,Int.sub_neg]
 ·have:=G9 (2^w) (GV hb) (0::ds);rw[wgS FU,Lg,ZE]at this;exact this
 ·refine Mk (GV hw) (λe=>?_) (λd hd=>by have:=OU d hd;lia) ?_
  ·rw[e]at AC;have:n=0:=AC.symm
   lia
  ·rw[AC];unfold uY;rw[am,bf,gj (by lia)];show 1<=((0::ds).drop (n-1+1)).sum;rw[show n-1+1=n from K3 Dx];have:(0::ds).getD n 0∈(0::ds).drop n:=by
    rw[am,au (bd (id (i6 FU)))];rw[fZ];exact⟨0,by rw[dF];lia,by rw[mq];rfl⟩
   have h2:=JW _ _ this;rw[FU,gJ]at FS
   lia
 ·refine o6 (Lj ((2^w:Nat):Int) 2 (0::ds)) λq hq=>?_;refine⟨q,?_⟩;rw[EN,hq]
  congr 1
  rw[A7,<-f4,IK,cU,EN];show(0:Int)+2*_=_;rw[lh];rfl
theorem D0{N:Nat}{a b:Ex}{is:List Int}{c:List AV->AV}(hc:c=.tup\/c=.lst)(ha:ev (Fi (N+1)) [] ρ a=some (c (is.map .int)))(hb:ev (Fi (N+1)) [] ρ b=some (c (is.map .int)))(hl:is.length<=1000):ev (Fi (N+1)) [] ρ (.call (.user 20) (.cons a (.cons b .nil)))=some (.bool true):=by
 have hz:o8 [] 6 (c (is.map .int))=some (c (is.map .int)):=by
  have hm:pq (o8 [] 5) (is.map AV.int)=some (is.map AV.int):=by
   refine oa (BY (g:=id) _ (λa ha=>by refine oB (aE.mp ha) ?_;rintro i _ rfl;rfl)) ?_;refine oa (dY _) ?_;rfl
  rcases hc with rfl|rfl
  ·show(pq (o8 [] 5) (is.map AV.int)).map AV.tup=_;refine oa hm ?_;rfl
  ·show(pq (o8 [] 5) (is.map AV.int)).map AV.lst=_;refine oa hm ?_;rfl
 exact qT (vs:=[c (is.map .int),c (is.map .int)]) (rW ha hb) (JV hz hz) (WM is hl hc)
theorem HS(h1:ev Φ σ ρ a=some (.int x))(h2:ev Φ σ ρ b=some (.int y))(hy:y≠0)(hs:y.natAbs<2^64):ev Φ σ ρ (.bin .FloorDiv a b)=some (.int (x.fdiv y)):=by
 refine qp h1 h2 ?_;show(if y=0\/!small y then none else some (AV.int (x.fdiv y)))=_;have:small y=true:=by unfold small;exact decide_eq_true hs
 rw[if_neg (by refine oa this ?_;simp;exact hy)]
theorem VZ{a b:Ex}{l:List Nat}{k:Nat}(h1:ev Φ σ ρ a=some (.lst (oz l)))(h2:ev Φ σ ρ b=some (.int k)):ev Φ σ ρ (.call .count (.cons a (.cons b .nil)))=some (.int (l.countP λx=>decide (x=k):Nat)):=by
 refine rV (rW h1 h2) ?_;show Bh σ [.lst (oz l),.int k]=_
 delta Bh;dsimp only;rw[show oX σ (.lst (oz l))=some (oz l)from rfl];dsimp only
 refine oa (B1 _) ?_;unfold pL;simp only[CG];refine oa jL ?_
 congr 3
 congr 1
 funext x;rw[cC];show((bE x==(k:Int))=true)↔_;rw[beq_iff_eq,decide_eq_true_iff];show((x:Int)=(k:Int))↔_
 lia
noncomputable abbrev B7(s pV:AV)(hs:List Nat)(rZ row:AV)(oi:List (List Nat))(vK wL:AV)(zq ds:List Nat)(w:Nat)(W side:Int)(v19 v20 v21 v22 v23:Option AV):oI :=
 [some s,some (.lst (oz xh)),some pV,some (.lst (oz hs)),some rZ,some row,some row,some (qn oi),some (.lst (qD (hs.getD 6 0) (3*oi.length))),some vK,some (.int (oi.length:Nat)),some (.lst ((pY oi (2^oi.length-1)).map qY)),some wL,some (.lst (oz zq)),some (.lst (oz ds)),some (.int w),some (.int (2^w:Nat)),some (.int W),some (.int side),v19,v20,v21,v22,v23]
theorem AQ(oi:List (List Nat)):((pY oi (2^oi.length-1)).map qY).length=2^oi.length:=by
 have:=ck oi.length;rw[ac,zF];lia
theorem KN(oi:List (List Nat))(h:S<2^oi.length):((pY oi (2^oi.length-1)).map qY)[S]?=some (qY (tab oi S)):=by
 have hl:=zF oi (2^oi.length-1);have e:=GI oi (k:=S) (2^oi.length-1) (by lia);refine oa bf ?_;rw[am,au (by lia)]at e;refine oa (au (by lia)) ?_;unfold tab;refine rwj e ?_;rfl
theorem wbf{oi:List (List Nat)}{hs:List Nat}{s pV rZ row vK:AV}{w:Nat}(g:u4 oi)(f:A0 oi)(h8:hs.length=8)(hw:w=10+hs.getD 7 0/60%23)(M:EJ oi.length w (tab oi (2^oi.length-1)).length (vF oi) (0::r8 (tab oi (2^oi.length-1)) oi.length) (λh=>(qx h oi oi.length).length)):
 ∃wL,∀r,oL (Fi (N+2)) (B7 s pV hs rZ row oi vK wL ((tab oi (2^oi.length-1)).map (·.2)) (0::r8 (tab oi (2^oi.length-1)) oi.length) w (VN (2^w) (0::r8 (tab oi (2^oi.length-1)) oi.length):Nat) (v3 oi.length (VN (2^w) (0::r8 (tab oi (2^oi.length-1)) oi.length):Nat)) none none none none none) [] (Bj 17 y6.body)=r ->
  oL (Fi (N+2)) (Kl s pV (.lst (oz hs)) rZ row (qn oi) (.lst (qD (hs.getD 6 0) (3*oi.length))) vK (.int (oi.length:Nat)) (.lst ((pY oi (2^oi.length-1)).map qY))) [] (Bj 11 y6.body)=r:=by
 have hn:=g.le;have Dx:=g.pos;have hp:=ck oi.length;have y9:2^oi.length<=32:=ae (aD (by decide) hn) (by decide);have IJ:=M.Ll;have Yk:=f.alone (hs.getD 7 0%oi.length) (bj _ Dx);have BJ:(r8 (tab oi (2^oi.length-1)) oi.length).length=oi.length:=by
  unfold r8;refine oa aF ?_;refine oa (ac _) ?_;refine oa dH ?_;simp[*]
 have Yy:=M.dl;have whT:w<=32:=by
  have:=bj (hs.getD 7 0/60) (show 0<23 by decide)
  lia
 have ta:∀i,i<8->(oz hs)[i]?=some (.int (hs.getD i 0:Nat)):=λi hi=>zw (by simp[*]);have Of:∀{ρ:oI},ρ[3]?=some (some (.lst (oz hs)))->ev (Fi (N+2)) [] ρ (.idx (.var 3) (.c (.int 7)))=some (.int (hs.getD 7 0:Nat)):=λh3=>tQ (l:=oz hs) (k:=7) (ol h3) oY (ta 7 (dL)) (by refine oa (ac _) ?_;simp[*]);have xX:∀{ρ:oI},ρ[11]?=some (some (.lst ((pY oi (2^oi.length-1)).map qY)))->ev (Fi (N+2)) [] ρ (.idx (.var 11) (.un .USub (.c (.int 1))))=some (qY (tab oi (2^oi.length-1))):=λxK=>by
  refine MF (l:=(pY oi (2^oi.length-1)).map qY) (k:=0) (ol xK) rfl ?_ ?_ ?_
  ·refine oa (AQ _) ?_;exact hp
  ·refine oa (AQ _) ?_;exact KN oi (by lia)
  ·refine oa (AQ _) ?_;lia
 generalize hD:tab oi (2^oi.length-1)=D at *;generalize hT:(pY oi (2^oi.length-1)).map qY=T at *;generalize uN:r8 D oi.length=ds at *;have alone:ev (Fi (N+2)) [] (Kl s pV (.lst (oz hs)) rZ row (qn oi) (.lst (qD (hs.getD 6 0) (3*oi.length))) vK (.int (oi.length:Nat)) (.lst T)) (.comp 1 (.cons 24 (.val (.idx (.var 11) (.un .USub (.c (.int 1))))) (.cons (.cmp .Eq (.comp 1 (.cons 25 (.range (.cons (.var 10) .nil)) (.cons (.cmp .Eq (.bin .Mod (.bin .FloorDiv (.var 24) (.bin .Pow (.c (.int 32)) (.var 25))) (.c (.int 32))) (.c (.int 0))) .nil) (.done (.var 25)))) (.list (.cons (.bin .Mod (.idx (.var 3) (.c (.int 7))) (.var 10)) .nil))) .nil) (.done (.var 24)))) =
  some (.lst ((D.filter λe=>decide ((ak oi.length).filter (λi=>decide (e.1/32^i%32=0))=[hs.getD 7 0%oi.length])).map λe=>AV.int (e.1:Nat))):=by
  refine(Aa (x:=24) (vs:=D.map λe=>AV.int (e.1:Nat)) (p:=λv=>match v with | .int k=>decide ((ak oi.length).filter (λi=>decide (k.toNat/32^i%32=0))=[hs.getD 7 0%oi.length])|_=>false) (g:=id) ?_ rfl (by refine oa (ac _) ?_;lia) (λv hv=>?_) (λv hv Y=>?_)).trans ?_
  ·rewrite [C0];refine oa (xX rfl) ?_;show some ((qP D).map λe=>AV.int e.1)=_;unfold qP;refine oa a_ ?_;rfl
  ·refine oB (aE.mp hv) ?_;rintro e he rfl;show _=some (decide ((ak oi.length).filter (λi=>decide ((e.1:Int).toNat/32^i%32=0))=[hs.getD 7 0%oi.length]));refine oa (aT _) ?_;refine xD (V0 ?_ ?_)
   ·refine(Aa (x:=25) (vs:=oz (ak oi.length)) (p:=λv=>match v with | .int i=>decide (e.1/32^i.toNat%32=0)|_=>false) (g:=id) (wU (ol rfl) (by lia)) rfl (by refine oa (ac _) ?_;refine oa bP ?_;lia) (λv hv=>?_) (λv hv Y=>?_)).trans ?_
    ·refine oB (aE.mp hv) ?_;rintro i hi rfl;have hi:=a0.mp hi;show _=some (decide (e.1/32^(i:Int).toNat%32=0));refine oa (aT _) ?_;have p32:32^i<2^64:=aM (aD (by decide) (show i<=5 by lia)) (by decide);have p0:=fq (n:=i) (show 0<32 by decide);exact xD (Bp (y:=0) (r_ (y:=32) (wi (ol rfl) (wk (x:=32) oY (ol rfl) (by decide) (by lia)) (by lia) p32) oY (by decide)) oY)
    ·refine oB (aE.mp hv) ?_;rintro i hi rfl;exact ol rfl
    ·refine oa (dY _) ?_;unfold oz;refine oa ej ?_
     congr 3
   ·exact C2 (q6 (r_ (Of rfl) (ol rfl) (by lia))) (show 1<=100000 by decide)
  ·refine oB (aE.mp hv) ?_;rintro e he rfl;exact ol rfl
  ·refine oa (dY _) ?_;refine oa ej ?_
   congr 3
 refine⟨.lst ((D.filter λe=>decide ((ak oi.length).filter (λi=>decide (e.1/32^i%32=0))=[hs.getD 7 0%oi.length])).map λe=>AV.int (e.1:Nat)),λr hr=>?_⟩;refine o0 alone ?_;refine o0 (v:=.lst (oz (D.map (·.2)))) (rV (q6 (xX rfl)) ?_) ?_
 ·show(if(qP D).length<=100000 then some (AV.lst ((qP D).map (·.2)))else none)=_;unfold qP oz;refine oa (ac _) ?_;refine oa (if_pos (by lia)) ?_;refine oa a_ ?_;refine oa a_ ?_;rfl
 refine o0 (v:=.lst (oz (0::ds))) ?_ ?_
 ·have e:(0::ds)=[0,yP D oi.length (hs.getD 7 0%oi.length)]++(bp 2 (oi.length-1)).map λk=>D.countP λe=>decide (e.2=k):=by
   refine rwj uN ?_;refine oa Yk ?_;rfl
  refine oa e ?_;refine(C1 (x:=oz [0,yP D oi.length (hs.getD 7 0%oi.length)]) (y:=oz ((bp 2 (oi.length-1)).map λk=>D.countP λe=>decide (e.2=k))) ?_ ?_ ?_).trans ?_
  ·refine C2 (vs:=[.int 0,.int (yP D oi.length (hs.getD 7 0%oi.length):Nat)]) (rW pX ?_) (show 2<=100000 by decide);have:=HW (Φ:=Fi (N+2)) (σ:=[]) (a:=.var 12) (l:=(D.filter λe=>decide ((ak oi.length).filter (λi=>decide (e.1/32^i%32=0))=[hs.getD 7 0%oi.length])).map λe=>AV.int (e.1:Nat)) (ρ:=[some s,some (.lst (oz xh)),some pV,some (.lst (oz hs)),some rZ,some row,some row,some (qn oi),some (.lst (qD (hs.getD 6 0) (3*oi.length))),some vK,some (.int (oi.length:Nat)),some (.lst T),some (.lst ((D.filter λe=>decide ((ak oi.length).filter (λi=>decide (e.1/32^i%32=0))=[hs.getD 7 0%oi.length])).map λe=>AV.int (e.1:Nat))),some (.lst (oz (D.map (·.2)))),none,none,none,none,none,none,none,none,none,none]) (ol rfl) (by refine oa (ac _) ?_;have:=fJ (λ(e:Nat×Nat)=>decide ((ak oi.length).filter (λi=>decide (e.1/32^i%32=0))=[hs.getD 7 0%oi.length])) D;lia);rw[ac,<-List.countP_eq_length_filter]at this;exact this
  ·refine(Ab (x:=24) (vs:=oz (bp 2 (oi.length+1-2))) (g:=λv=>match v with | .int k=>.int (D.countP (λe=>decide (e.2=k.toNat)):Nat)|v=>v) (HL (a:=2) oY (vc (y:=1) (ol rfl) oY) (by lia) (by lia)) rfl (by refine oa (ac _) ?_;refine oa dH ?_;lia) (λv hv=>?_)).trans ?_
   ·refine oB (aE.mp hv) ?_;rintro k hk rfl;show _=some (AV.int (D.countP (λe=>decide (e.2=(k:Int).toNat)):Nat));refine oa (aT _) ?_;refine(VZ (l:=D.map (·.2)) (k:=k) (ol rfl) (ol rfl)).trans ?_;refine oa jL ?_;rfl
   ·unfold oz;refine oa a_ ?_;refine oa a_ ?_;refine oa (show oi.length+1-2=oi.length-1 by lia) ?_;rfl
  ·refine oa (ac _) ?_;refine oa (ac _) ?_;refine oa (ac _) ?_;refine oa dH ?_;show 2+_<=_
   lia
  ·unfold oz;refine oa bo ?_;rfl
 have ZW:∀{ρ:oI},ρ[3]?=some (some (.lst (oz hs)))->ev (Fi (N+2)) [] ρ (.bin .Add (.c (.int 10)) (.bin .Mod (.bin .FloorDiv (.idx (.var 3) (.c (.int 7))) (.c (.int 60))) (.c (.int 23))))=some (.int (w:Nat)):=λh3=>by
  refine oa hw ?_;exact vc (x:=10) oY (r_ (y:=23) (wi (y:=60) (Of h3) oY (by decide) (by decide)) oY (by decide))
 refine o0 (ZW rfl) ?_;refine y2 (vs:=[.int (2^w:Nat),.int (VN (2^w) (0::ds):Nat)]) (um (wk (x:=2) oY (ol rfl) (by decide) (by lia)) (um ?_ yX)) rfl ?_
 ·have h2:=Ik (n:=N+1) (m:=w) (is:=(0::ds).map bE) (by refine oa (ac _) ?_;refine oa aF ?_;lia) (by lia) (λd hd=>by
   refine oB (aE.mp hd) ?_;rintro x hx rfl;have:=Yy x hx;show x<2^64;exact bW this (by decide))
  rw[L9]at h2;refine qT (vs:=[.lst (oz (0::ds)),.int w]) (rW (ol rfl) (ol rfl)) (JV (NF _) rfl) ?_;refine oa (B1 _) ?_;exact h2
 subst hT;refine o0 (v:=.int (v3 oi.length (VN (2^w) (0::ds):Nat))) ?_ hr;unfold v3;have hc:∀{ρ:oI},ρ[10]?=some (some (.int (oi.length:Nat)))->ev (Fi (N+2)) [] ρ (.cmp .Eq (.bin .Mod (.var 10) (.c (.int 2))) (.c (.int 1)))=some (.bool (decide (oi.length%2=1))):=λyn=>Bp (y:=1) (r_ (y:=2) (ol yn) oY (by decide)) oY;by_cases ho:oi.length%2=1
 ·refine oa (if_pos ho) ?_;exact Br ((hc rfl).trans (by refine oa (decide_eq_true ho) ?_;rfl)) (V5 (ol rfl))
 ·refine oa (if_neg ho) ?_;exact Bq ((hc rfl).trans (by refine oa (decide_eq_false ho) ?_;rfl)) (ol rfl)
noncomputable def Xv:rG->rG
 | .cons (.for_ _ _ b) _=>b
 |_=>.nil
noncomputable def NN:rG:=Xv (Bj 17 y6.body)
theorem ZO(g:u4 oi)(h8:hs.length=8)(DD:10<=w)(AD:w<=32)(M:EJ oi.length w L de ds (λh=>(qx h oi oi.length).length))(hh:h=1\/h=2\/h=3):
 ∃Hd He,oL (Fi (N+5)) (B7 s pV hs rZ row oi vK wL zq ds w (VN (2^w) ds:Nat) (v3 oi.length (VN (2^w) ds:Nat)) (some (.int (h:Nat))) zR zS none none) [] NN =
  some (.next (B7 s pV hs rZ row oi vK wL zq ds w (VN (2^w) ds:Nat) (v3 oi.length (VN (2^w) ds:Nat)) (some (.int (h:Nat))) Hd He none none) []):=by
 have hn:=g.le;have I2:h<=3:=by lia
 refine o6 (M.side h hh) λq hq=>?_;have BH:=M.W1;have IQ:1024<=2^w:=ae (by decide:1024<=2^10) (aD (by decide) DD);have wo:2^w<=4294967296:=ae (aD (by decide) AD) (by decide);have hP:(qx h oi oi.length).length<=243:=by
  refine ae (DZ h oi oi.length) (ae (gq I2 _) (ae (aD (by decide) hn) (by decide)))
 have ta:(oz hs)[7]?=some (.int (hs.getD 7 0:Nat)):=zw (bd (id (i6 h8)));have N0:(v3 oi.length (VN (2^w) ds:Nat)).natAbs=VN (2^w) ds:=by unfold v3;split<;>simp
 have X4:=WK (N:=N+4) (oi:=oi) (A:=hs.getD 6 0) (h:=h) g I2 (ZN _);generalize whQ:v3 oi.length (VN (2^w) ds:Nat)=side at *;generalize whL:(qx h oi oi.length).length=rH at *;have hq:side=(rH:Int)+(((2^w:Nat):Int)+h)*q:=hq;generalize zb:2^w=base at *;have Ar:=C9 (m:=(base:Int)+h) (q:=q) (r:=rH) (az rH) (by lia);have IZ:=Nc (m:=(base:Int)+h) (q:=q) (r:=rH) (az rH) (by lia);have hz:=C9 (m:=(base:Int)+h) (q:=q) (r:=0) (az 0) (by lia);rw[<-hq]at Ar IZ;have Zx:(side-rH).fdiv ((base:Int)+h)=q:=by
  have e:side-rH=0+((base:Int)+h)*q:=by lia
  refine oa e ?_;exact hz.1
 have Zy:∃sg:Int,(sg=1\/sg=-1)/\sg=1-((2*((h+hs.getD 7 0)%2):Nat):Int):=oV _ (by lia) rfl;refine oB Zy λsg OO Zz=>?_;have key:(sg*side).fdiv (sg*((base:Int)+h))=q/\(sg*side).fmod (sg*((base:Int)+h))=sg*rH/\sg*((base:Int)+h)≠0/\(sg*((base:Int)+h)).natAbs<2^64/\(sg*side).natAbs<2^1000:=by
  have o9:((base:Int)+h).natAbs<2^64:=by
   have:((base:Int)+h).natAbs=base+h:=rfl;refine oa this ?_;lia
  rcases OO with rfl|rfl
  ·refine oa (lO _) ?_;refine oa (lO _) ?_;refine oa (lO _) ?_;exact O7 Ar.1 Ar.2 (by lia) o9 (by refine oa N0 ?_;exact BH)
  ·refine oa (j2 _) ?_;refine oa (j2 _) ?_;refine oa (j2 _) ?_;exact O7 IZ.1 IZ.2 (by lia) (by refine oa (gK _) ?_;exact o9) (by refine oa (gK _) ?_;refine oa N0 ?_;exact BH)
 refine MW key λk1 k2 k3 k4 k5=>?_;have Az:small sg=true:=by
  unfold small;refine decide_eq_true ?_;rcases OO with rfl|rfl<;>decide
 refine wz (some (.int (rH:Nat))) (some (.int sg)) ?_;refine o0 (v:=.int (rH:Nat)) (qT (vs:=[qn oi,.lst (qD (hs.getD 6 0) (3*oi.length)),.int (h:Nat)]) (uo (ol rfl) (ol rfl) (ol rfl)) (wbW (NG oi) (XJ _ _) rfl) X4) ?_;refine o0 (v:=.int sg) ?_ ?_
 ·refine oa Zz ?_;exact wl pX (yZ (x:=2) oY (r_ (y:=2) (vc (ol rfl) (tQ (l:=oz hs) (k:=7) (ol rfl) oY ta (by refine oa (ac _) ?_;lia))) oY (by decide)) (eN (by decide)))
 refine rE (Fh ?_ ?_) pS ?_
 ·refine(HY (b:=true) (D0 (N:=N+4) (is:=[q,sg*rH]) (eN rfl) ?_ ?_ (by simp))).trans rfl
  ·have h4:=Il (N:=N) (a:=sg*side) (b:=sg*((base:Int)+h)) k5 k3 k4;rw[k1,k2]at h4;refine qT (vs:=[.int (sg*side),.int (sg*((base:Int)+h))]) (rW (Fg (ol rfl) (ol rfl) (eN Az)) (Fg (ol rfl) (z_ (x:=(base:Int)) (y:=(h:Int)) ?_ (ol rfl)) (eN Az))) rfl h4;refine rwj zb ?_;exact ol rfl
  ·refine C4 (vs:=[.int q,.int (sg*rH)]) (rW ?_ (Fg (ol rfl) (ol rfl) (eN Az))) (show 2<=100000 by decide);refine rwj Zx ?_;refine HS (wl (ol rfl) (ol rfl)) (z_ (x:=(base:Int)) (y:=(h:Int)) ?_ (ol rfl)) (by lia) ?_
   ·refine rwj zb ?_;exact ol rfl
   ·have:((base:Int)+h).natAbs=base+h:=rfl;refine oa this ?_;lia
 ·have BJ:(dg h (pU h rH) rH).length<=1000:=by
   rw[E_];unfold pU aH;have:rH.log2<8\/rH=0:=by
    by_cases h0:rH=0
    ·exact ji h0
    ·exact eN ((iQ h0).mpr (by lia))
   refine ae (j0 _ _) ?_;split
   ·lia
   ·refine oa (bl _) ?_;rcases this with h1|h1
    ·lia
    ·have h0:Nat.log2 0=0:=by decide
     refine oa h1 ?_;refine oa h0 ?_;lia
  have h1:=Fq (n:=N+4) (a:=rH) (m:=h) (aM hP (ab (by decide:243<2^8) (aD (by decide) (by decide)))) (by lia) (pG I2 rfl);have h2:=Ik (n:=N+4) (m:=h) (is:=dg h (pU h rH) rH) BJ (by lia) (λd hd=>by
   rw[E9]at hd;refine oB (aE.mp hd) ?_;rintro x hx rfl;have:=Mh h _ _ x hx;show x<2^64;exact ab this (aD (by decide) (by lia)))
  rw[back h rH (by lia)]at h2;have c1:∀{ρ:oI},ρ[20]?=some (some (.int (rH:Nat)))->ρ[19]?=some (some (.int (h:Nat)))->ev (Fi (N+5)) [] ρ (.call (.user 2) (.cons (.call (.user 1) (.cons (.var 20) (.cons (.var 19) .nil))) (.cons (.var 19) .nil)))=some (.int (rH:Nat)):=λXN NH =>
   qT (vs:=[.lst (pL (dg h (pU h rH) rH)),.int (h:Nat)]) (rW (qT (vs:=[.int (rH:Nat),.int (h:Nat)]) (rW (ol XN) (ol NH)) rfl h1) (ol NH)) (JV (NE _) rfl) h2
  refine(HX (x:=(rH:Int)) (y:=rH) (c1 rfl rfl) (ol rfl)).trans ?_;refine oa (decide_eq_true rfl) ?_;rfl
 ·exact pS
theorem Wd(h1:ev Φ σ ρ a=some x)(h2:ev Φ σ ρ b=some y)(h3:ev Φ σ ρ c=some z)(h4:ev Φ σ ρ d=some u):qj Φ σ ρ (.cons a (.cons b (.cons c (.cons d .nil))))=some [x,y,z,u]:=by
 rw[y1,h1];dsimp only;rw[uo h2 h3 h4]
theorem Uu(gr:u4 oi)(f:A0 oi)(hr:ρ.length=24)(yn:∀w:List (Option AV),(ρ++w)[10]?=some (some (.int (oi.length:Nat))))(xK:∀w:List (Option AV),(ρ++w)[11]?=some (some (.lst ((pY oi (2^oi.length-1)).map qY)))):
 ev (Fi N) [] ρ (.call .sum (.cons (.comp 1 (.cons 24 (.range (.cons (.bin .Pow (.c (.int 2)) (.var 10)) .nil)) .nil (.done (.bin .Mult (.call .len (.cons (.idx (.var 11) (.var 24)) .nil)) (.call .len (.cons (.idx (.var 11) (.bin .Sub (.un .USub (.c (.int 1))) (.var 24))) .nil)))))) .nil))=some (.int (vF oi:Nat)):=by
 have hn:=gr.le;have y9:2^oi.length<=32:=ae (aD (by decide) hn) (by decide);have NM:=yn [];rw[bB]at NM;refine Fj (l:=(ak (2^oi.length)).map λS=>(tab oi S).length*(tab oi (2^oi.length-1-S)).length) ?_ (bW f.dlt (by decide));refine(Ab (x:=24) (vs:=oz (ak (2^oi.length))) (g:=λv=>match v with | .int k=>.int ((tab oi k.toNat).length*(tab oi (2^oi.length-1-k.toNat)).length:Nat)|v=>v) (wU (wk (x:=2) oY (ol NM) (by decide) (pG hn rfl)) (pG y9 rfl)) hr (by refine oa (ac _) ?_;refine oa bP ?_;exact pG y9 rfl) (λv hv=>?_)).trans ?_
 ·refine oB (aE.mp hv) ?_;rintro S hS rfl;have hS:=a0.mp hS;show _=some (AV.int ((tab oi (S:Int).toNat).length*(tab oi (2^oi.length-1-(S:Int).toNat)).length:Nat));refine oa (aT _) ?_;have Em:(ρ++[some (AV.int (S:Int))])[24]?=some (some (.int (S:Int))):=by
   refine oa (ay (bd hr)) ?_;refine oa hr ?_;rfl
  have l1:=KI hn (S:=S) (ab hS y9);have l2:=KI hn (S:=2^oi.length-1-S) (by omega);refine yZ (MK (D:=tab oi S) (tQ (l:=(pY oi (2^oi.length-1)).map qY) (k:=S) (ol (xK _)) (ol Em) (KN oi hS) (by refine oa (AQ _) ?_;exact pG y9 rfl)) (pG l1 rfl)) (MK (D:=tab oi (2^oi.length-1-S)) (MF (l:=(pY oi (2^oi.length-1)).map qY) (k:=S) (ol (xK _)) (wl rfl (ol Em)) (by refine oa (AQ _) ?_;exact hS) (by refine oa (AQ _) ?_;exact KN oi (by omega)) (by refine oa (AQ _) ?_;exact pG y9 rfl)) (by lia)) (eN (aM l1 (by decide)))
 ·unfold oz;refine oa a_ ?_;refine oa a_ ?_;rfl
theorem wbg(g:u4 oi)(f:A0 oi)(DD:10<=w)(AD:w<=32)(vg:zq.length=L)(uN:ds.length=oi.length+1)(M:EJ oi.length w L (vF oi) ds (λh=>(qx h oi oi.length).length)):
 oL (Fi (N+5)) (B7 s pV hs rZ row oi vK wL zq ds w (VN (2^w) ds:Nat) (v3 oi.length (VN (2^w) ds:Nat)) EO zR zS none none) [] (Bj 18 y6.body)=some (.ret (.bool true)):=by
 have hn:=g.le;have IQ:1024<=2^w:=ae (by decide:1024<=2^10) (aD (by decide) DD);have wo:2^w<=4294967296:=ae (aD (by decide) AD) (by decide);have xP:0<2^w-1:=mH (ab (by decide) IQ);have Ol:2^w-1<2^64:=aM (jb _ _) (aM wo (by decide));have IJ:=M.Ll;have OJ:=M.quo;have BH:=M.W1;have Ye:=M.q1;have whK:=f.dpos;have FJ:=f.dlt;refine o6 M.two λq2 OH=>?_;have tb:=M.tback;have bk:=M.back;generalize hQ:VN (2^w) (uY ds oi.length)=Q at *;have zb:∀{ρ:oI},ρ[16]?=some (some (.int ((2^w:Nat):Int)))->ev (Fi (N+5)) [] ρ (.var 16)=some (.int ((2^w:Nat):Int)):=λh=>ol h;generalize hW:VN (2^w) ds=W at *;have Oq:∀{ρ:oI},ρ[13]?=some (some (.lst (oz zq)))->ev (Fi (N+5)) [] ρ (.call .len (.cons (.var 13) .nil))=some (.int (L:Nat)):=λDm=>by
  have:=HW (Φ:=Fi (N+5)) (σ:=[]) (l:=oz zq) (ol Dm) (by refine oa (ac _) ?_;lia)
  rwa [ac,vg]at this
 have N6:∀{ρ:oI},ρ[16]?=some (some (.int ((2^w:Nat):Int)))->ev (Fi (N+5)) [] ρ (.bin .Sub (.var 16) (.c (.int 1)))=some (.int ((2^w-1:Nat):Int)):=λh=>C3 (y:=1) (zb h) oY (ae (by decide) IQ);have Yf:((W:Int)-(L:Int)).fdiv ((2^w-1:Nat):Int)=(Q:Int):=by
  have e:(W:Int)-(L:Int)=0+((2^w-1:Nat):Int)*(Q:Int):=by
   refine oa OJ ?_;refine oa (dw _ _) ?_;refine oa (cU _ _) ?_;exact(congrArg (·-(L:Int)) (Int.add_comm ..)).trans ((Int.add_sub_cancel ..).trans (lh _).symm)
  refine oa e ?_;exact(C9 (az 0) (yG xP)).1
 refine o0 (v:=.int (Q:Nat)) ?_ ?_
 ·refine rwj Yf ?_;exact HS (wl (ol rfl) (Oq rfl)) (N6 rfl) (Cj xP) (by refine oa (bl _) ?_;exact Ol)
 have N9:W/(2^w-1)=Q/\W%(2^w-1)=L:=by
  have NS:L<2^w-1:=by lia
  refine oa OJ ?_;refine oa (iU _ _ xP) ?_;refine oa (h_ NS) ?_;rewrite [gP];refine oa (jD NS) ?_;exact⟨gx _,rfl⟩
 have h3:=Nf (N:=N+3) (a:=W) (b:=2^w-1) BH xP Ol;rw[N9.1,N9.2]at h3;have AC:(uY ds oi.length).length=oi.length:=by unfold uY;refine oa (ac _) ?_;refine oa bP ?_;rfl
 refine rE (Fh ?_ ?_) pS ?_
 ·refine(HY (b:=true) (D0 (N:=N+4) (is:=[(Q:Int),(L:Int)]) (eN rfl) ?_ ?_ (by simp))).trans rfl
  ·exact qT (vs:=[.int W,.int ((2^w-1:Nat):Int)]) (rW (ol rfl) (N6 rfl)) rfl h3
  ·exact C4 (vs:=[.int Q,.int L]) (rW (ol rfl) (Oq rfl)) (show 2<=100000 by decide)
 ·refine(HY (b:=true) (D0 (N:=N+4) (is:=(uY ds oi.length).map bE) (ji rfl) ?_ ?_ (by refine oa (ac _) ?_;refine oa AC ?_;lia))).trans rfl
  ·have h1:=Fq (n:=N+4) (a:=Q) (m:=w) Ye (by lia) (by lia);rw[tb]at h1;exact qT (vs:=[.int Q,.int w]) (rW (ol rfl) (ol rfl)) rfl h1
  ·refine(Ab (x:=24) (vs:=oz (ak oi.length)) (g:=λv=>match v with | .int k=>.int ((ds.drop (k.toNat+1)).sum:Nat)|v=>v) (wU (ol rfl) (by lia)) rfl (by refine oa (ac _) ?_;refine oa bP ?_;lia) (λv hv=>?_)).trans ?_
   ·refine oB (aE.mp hv) ?_;rintro k hk rfl;have hk:=a0.mp hk;show _=some (AV.int ((ds.drop ((k:Int).toNat+1)).sum:Nat));refine oa (aT _) ?_;refine Fj (l:=ds.drop (k+1)) ((V' (x:=oz ds) (k:=k+1) (ol rfl) (vc (y:=1) (ol rfl) oY) (by refine oa (ac _) ?_;lia)).trans ?_) ?_
    ·unfold oz;refine oa List.map_drop ?_;rfl
    ·have h1:=KH 1000 (ds.drop (k+1)) (λx hx=>bb (M.dl x (iC hx)));have h2:(ds.drop (k+1)).length<=6:=by refine oa dF ?_;lia
     have h3:(ds.drop (k+1)).length*1000<=6*1000:=iP _ h2;exact aM h1 (aM h3 (by decide))
   ·unfold oz uY;refine oa a_ ?_;refine oa a_ ?_;refine oa a_ ?_;rfl
 refine o0 (v:=.int (vF oi:Nat)) (Uu g f rfl (λY=>rfl) (λY=>rfl)) ?_;refine sd (v:=.bool true) (MD ?_ ?_) rfl
 ·refine D0 (N:=N+4) (is:=ds.map bE) (ji rfl) ?_ ?_ (by refine oa (ac _) ?_;lia)
  ·have h1:=Fq (n:=N+4) (a:=W) (m:=w) BH (by lia) (by lia);rw[bk]at h1;exact qT (vs:=[.int W,.int w]) (rW (ol rfl) (ol rfl)) rfl h1
  ·refine(ol (v:=.lst (oz ds)) rfl).trans ?_;refine oa (B1 _) ?_;rfl
 ·generalize hde:vF oi=de at *;generalize hm:((2^w:Nat):Int)-2=m at *;have BP:(de:Int)<m:=by lia
  have Aw:(2:Int)-((2^w:Nat):Int)=-m:=by lia
  have e1:(W:Int)=-((m-de)+m*(-q2-1)):=by
   refine oa OH ?_;rewrite [jM];refine oa (iV _ _) ?_;refine oa (lS _) ?_
   lia
  have Y7:0<m:=mA (az de) BP;have hd:=Nc (m:=m) (q:=-q2-1) (r:=m-de) (f9 (Int.le_of_lt BP)) (by lia);rw[<-e1]at hd;have hz:((de:Int)-W).fdiv m=-q2:=by
   have e:(de:Int)-W=0+m*(-q2):=by refine oa OH ?_;refine oa (iV _ _) ?_;lia
   refine oa e ?_;exact(C9 (jN 0) Y7).1
  have I8:m.natAbs<2^64:=by lia
  have a1:=Il (N:=N) (a:=0) (b:=-m) (by decide) (by lia) (by refine oa (gK _) ?_;exact I8);have a2:=Il (N:=N) (a:=(W:Int)) (b:=-m) (by refine oa (bl _) ?_;exact BH) (by lia) (by refine oa (gK _) ?_;exact I8);rw[Int.zero_fdiv,Int.zero_fmod]at a1;rw[hd.1,hd.2]at a2;have Rd:∀{ρ:oI},ρ[16]?=some (some (.int ((2^w:Nat):Int)))->ev (Fi (N+5)) [] ρ (.bin .Sub (.c (.int 2)) (.var 16))=some (.int (-m)):=λyo=>by
   refine rwj Aw ?_;exact wl pX (zb yo)
  have vb2:∀{ρ:oI},ρ[16]?=some (some (.int ((2^w:Nat):Int)))->ev (Fi (N+5)) [] ρ (.bin .Sub (.var 16) (.c (.int 2)))=some (.int m):=λyo=>by
   refine rwj hm ?_;exact wl (zb yo) pX
  refine D0 (N:=N+4) (is:=[0,0,-q2-1,-(m-de)]) (eN rfl) ?_ ?_ (by simp)
  ·exact HQ (x:=[.int 0,.int 0]) (y:=[.int (-q2-1),.int (-(m-de))]) (qT (vs:=[.int 0,.int (-m)]) (rW pX (Rd rfl)) rfl a1) (qT (vs:=[.int W,.int (-m)]) (rW (ol rfl) (Rd rfl)) rfl a2) (show 4<=100000 by decide)
  ·have t1:∀{ρ:oI},ρ[23]?=some (some (.int (de:Nat)))->ρ[17]?=some (some (.int (W:Nat)))->ρ[16]?=some (some (.int ((2^w:Nat):Int)))->ev (Fi (N+5)) [] ρ (.bin .Sub (.bin .FloorDiv (.bin .Sub (.var 23) (.var 17)) (.bin .Sub (.var 16) (.c (.int 2)))) (.c (.int 1)))=some (.int (-q2-1)):=λID X3 yo=>by
    refine rwj hz ?_;exact wl (HS (wl (ol ID) (ol X3)) (vb2 yo) (by lia) I8) pX
   have t2:∀{ρ:oI},ρ[23]?=some (some (.int (de:Nat)))->ρ[16]?=some (some (.int ((2^w:Nat):Int)))->ev (Fi (N+5)) [] ρ (.bin .Sub (.bin .Add (.var 23) (.c (.int 2))) (.var 16))=some (.int (-(m-de))):=λID yo=>by
    refine(wl (z_ (ol ID) pX) (zb yo)).trans ?_;exact congrArg (λz=>some (AV.int z)) (by lia)
   have i0:∀{ρ:oI},ev (Fi (N+5)) [] ρ (.c (.int 0))=some (.int 0):=pX;exact C4 (vs:=[.int 0,.int 0,.int (-q2-1),.int (-(m-de))]) (Wd i0 i0 (t1 rfl rfl rfl) (t2 rfl rfl)) (show 4<=100000 by decide)
theorem wbl(rX:List Int)(oU:rX.length<=100000):oL (Fi (N+5)) (some (.lst (pL rX))::aA 23 none) [] y6.body=some (.ret (.bool true)):=by
 refine pK (wbe (N:=N+3) rX oU _ rfl) λoi rZ g hA=>?_;refine hA _ ?_;generalize FP:BK (rX.take 60)=hs;have h8:hs.length=8:=by refine rwj FP ?_;exact N' _
 have f:=XW g;have whO:=bj (hs.getD 7 0/60) (show 0<23 by decide);have M:=wbk f g (w:=10+hs.getD 7 0/60%23) (aV 10 (hs.getD 7 0/60%23)) (by lia);refine o6 (wbf (N:=N+3) (oi:=oi) (hs:=hs) (s:=.lst (pL rX)) (pV:=.lst (pL (rX.take 60))) (rZ:=rZ) (row:=.lst (oz (rK hs))) (vK:=.flt (qB (hs.getD 6 0%5))) (w:=10+hs.getD 7 0/60%23) g f h8 rfl M) λwL hB=>?_;refine hB _ ?_;have BJ:(r8 (tab oi (2^oi.length-1)) oi.length).length=oi.length:=by
  have:=g.pos;unfold r8;refine oa aF ?_;refine oa (ac _) ?_;refine oa dH ?_;simp[*]
 generalize hw:10+hs.getD 7 0/60%23=w at *;obtain⟨oC,ox,h1,EO,zR,zS,rfl,rfl⟩:=Fy (f:=λρ σ v=>oL (Fi (N+5)) (ρ.set 19 (some v)) σ NN) (g:=λ(i:Nat)=>AV.int i)
  (I:=λY ρ σ=>∃EO zR zS,ρ=B7 (.lst (pL rX)) (.lst (pL (rX.take 60))) hs rZ (.lst (oz (rK hs))) oi (.flt (qB (hs.getD 6 0%5))) wL ((tab oi (2^oi.length-1)).map (·.2)) (0::r8 (tab oi (2^oi.length-1)) oi.length) w (VN (2^w) (0::r8 (tab oi (2^oi.length-1)) oi.length):Nat) (v3 oi.length (VN (2^w) (0::r8 (tab oi (2^oi.length-1)) oi.length):Nat)) EO zR zS none none/\σ=[]) (bp 1 3) [] (B7 (.lst (pL rX)) (.lst (pL (rX.take 60))) hs rZ (.lst (oz (rK hs))) oi (.flt (qB (hs.getD 6 0%5))) wL ((tab oi (2^oi.length-1)).map (·.2)) (0::r8 (tab oi (2^oi.length-1)) oi.length) w (VN (2^w) (0::r8 (tab oi (2^oi.length-1)) oi.length):Nat) (v3 oi.length (VN (2^w) (0::r8 (tab oi (2^oi.length-1)) oi.length):Nat)) none none none none none) []
  ⟨none,none,none,rfl,rfl⟩ (by
   rintro p x q ρ σ e ⟨EO,zR,zS,rfl,rfl⟩;have hx:x∈bp 1 3:=by
    have e:bp 1 3=p++x::q:=e;refine oa e ?_;simp
   have hx:=cL.mp hx;refine sb (ZO (N:=N) (oi:=oi) (hs:=hs) (s:=.lst (pL rX)) (pV:=.lst (pL (rX.take 60))) (rZ:=rZ) (row:=.lst (oz (rK hs))) (vK:=.flt (qB (hs.getD 6 0%5))) (wL:=wL) (zq:=(tab oi (2^oi.length-1)).map (·.2)) (h:=x) (zR:=zR) (zS:=zS) g h8 (by lia) (by lia) M (by lia)) λHd He ht=>?_;exact⟨_,_,ht,_,Hd,He,rfl,rfl⟩)
 refine xJ (vs:=oz (bp 1 3)) (z9 (HL (a:=1) (n:=4) oY oY (pG dL rfl) (pG dL rfl))) h1 ?_;exact wbg g f (by lia) (by lia) (by refine oa (ac _) ?_;rfl) (by refine oa aF ?_;refine oa BJ ?_;rfl) M
theorem wdK:G7:=λrX oU=>by
 have:=tl (N:=7) (as:=[.lst (rX.map .int)]) (v:=.bool true) Xq rfl (wbl (N:=2) rX (pG oU rfl));exact this
end
section
open PySem PySem.W PyProof.Rows
set_option backward.match.sparseCases true
noncomputable abbrev lw:=bX
noncomputable abbrev lr:=lw.row
theorem Sm:(["vars","dir","locals"]:List Str).filter (readsOut lw.prog lw.prog.main.body)=[]:=by decide +kernel
theorem wbA:sreFenced lw.prog.main=true:=by decide +kernel
theorem wbB:((moduleNames lw.prog.main.body).isEmpty||lookedIntoSs (moduleNames lw.prog.main.body) lw.prog.main.body)=true:=by decide +kernel
theorem wbC:namesResolve lw.prog=true:=by decide +kernel
theorem wbD:lw.prog.boundNames.all (λn=>!worldNames.contains n)=true:=by decide +kernel
theorem wbE:noRoadLSs {strict:=!(importedModules lw.prog.main.body).all cThrough.contains,foot:=none,bare:=(["vars","dir","locals"]:List Str).filter (readsOut lw.prog lw.prog.main.body)} lw.prog.main.body=true:=by
 rw[Sm];decide +kernel
theorem wbF:namesMeet lw.prog lw.prog.main.body (λY n=>attrL n)=true:=by decide +kernel
theorem r6{a b:Bool}(x:a=true)(y:b=true):(a&&b)=true:=by rw[x,y];rfl
theorem wbH:looksOpen lr.prog=true:=r6 (r6 (r6 (r6 (r6 wbA wbB) wbC) wbD) wbE) wbF
theorem wdu:lr.partSaid=true:=by
 unfold OpenRow.partSaid;rw[show looksOpen lr.prog=true from wbH];decide +kernel
theorem wep:lr.wellSaid=true:=r6 (r6 wdu (by decide +kernel)) (by decide +kernel)
theorem Px:lw.wellSaid=true:=by
 unfold OpenLaw.wellSaid;refine r6 (r6 (r6 (r6 (r6 (r6 (r6 (r6 (r6 (r6 (r6 (r6 (r6 (r6 (r6 (r6 (r6 (r6 wep ?_) ?_) ?_) ?_) ?_) ?_) ?_) ?_) ?_) ?_) ?_) ?_) ?_) ?_) ?_) ?_) ?_) ?_<;>decide +kernel
set_option maxHeartbeats 8000000 in
theorem cw:bX.Holds :=
 ⟨Px,wem wdK (row_said Px) ⟨[.list []],by decide +kernel,by decide +kernel⟩ ⟨rfl,rfl,rfl,rfl,rfl,by decide +kernel⟩ (by decide +kernel)⟩
end
end Mine.Tactic
theorem PySem.Challenge.cw_ta0127_01_holds : PySem.Challenge.rw_ta0127_01.Holds := by
 exact Mine.Tactic.cw
